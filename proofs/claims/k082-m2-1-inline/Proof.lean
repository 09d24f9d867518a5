import JvmDerived
import JvmDerived.Pilot.@@N@@Statement
import JvmDerived.Pilot.@@N@@Code
set_option linter.unusedVariables false
set_option linter.unusedSimpArgs false
namespace Jvm.RoadKit
open Sem ClassFile Op Lib Jvm.Stand Jvm.Free Jvm.LawKit
section New
variable {p : Program} {l : Launch} {e : Env} {R : Room} {s : State} {m : MethodId} {args : Array Value} {below : List Frame} {meth : Method} {c : Code} {T : State} {locs : List Loc} {cells slots : Nat}
theorem retI (X : Stand p l e R s m args below meth c T locs cells slots) (hx : p.tables.exec = Jvm.exec) {pc : Nat} {Ls : Array Slot} {z : Int32} {rest : List Value} (hret : meth.sig.returnType = some .int) (hd : decode c.code pc = .ok (.ireturn, 1)) {fs : List Frame}
    (hl : ∀ (f : JFrame) (acts : List Action), f.method = m → f.locked = none → f.entered = [] → (doReturn e (T.setTop f) acts (some (.int z))).1 = T.setFrames fs) : Steps p.tables e below (T.setTop (mkF m pc Ls (.int z :: rest))) (T.setFrames fs) := by
  have hm' : T.vm.method? m = some meth := X.method'
  have hn : narrow .int (.int z) = .int z := rfl
  show Steps p.tables e below (T.setTop { method := m, pc := pc, locals := Ls, stack := _ :: rest, locked := none }) _
  jvm_step X.here [X.here.top, hx, hd, hm', hret, hn]
  first | (intro acts; rw [hl _ acts rfl rfl rfl]) | rw [hl _ _ rfl rfl rfl]
  exact Steps.refl _
end New
end Jvm.RoadKit
namespace Jvm.Pilot.@@N@@
open Jvm Jvm.ClassFile Sem Op Lib Jvm.Free Jvm.Stand Jvm.LawKit Jvm.RoadKit Bundle Jvm.Pilot.@@N@@.Jvm.D
abbrev vi (x : Int32) : Slot := .val (.int x)
abbrev vj (x : Int64) : Slot := .val (.long x)
abbrev vr (x : Addr) : Slot := .val (.ref x)
abbrev vN : Slot := .val .null
abbrev un : Slot := .unset
abbrev SS (p : Program) (e : Env) (below : List Frame) (m : MethodId) (T : State) (pc : Nat) (L : Array Slot) (S : List Value) (t : State) : Prop := Steps p.tables e below (T.setTop (mkF m pc L S)) t
theorem ww {a0 : Array Value} {Z : State} (hw : ∀ d ∈ tables_1, d.before a0 Z = true) (i : Nat) {d : Jvm.Cond} (h : tables_1[i]? = some d) : d.before a0 Z = true := hw _ (List.mem_of_getElem? h)
abbrev y_0 : MethodName := ⟨"java/lang/String", "coder", "()B"⟩
abbrev y_1 : MethodName := ⟨"java/lang/String", "length", "()I"⟩
abbrev y_2 : MethodName := ⟨"java/lang/String", "isLatin1", "()Z"⟩
abbrev y_3 : MethodName := ⟨"jdk/internal/util/Preconditions", "checkIndex", "(IILjava/util/function/BiFunction;)I"⟩
abbrev y_4 : MethodName := ⟨"java/lang/String", "checkIndex", "(II)V"⟩
abbrev y_5 : MethodName := ⟨"java/lang/StringLatin1", "charAt", "([BI)C"⟩
abbrev y_6 : MethodName := ⟨"java/lang/String", "charAt", "(I)C"⟩
abbrev y_7 : MethodName := ⟨"java/lang/AbstractStringBuilder", "getValue", "()[B"⟩
abbrev y_8 : MethodName := ⟨"java/lang/AbstractStringBuilder", "<init>", "(I)V"⟩
abbrev y_9 : MethodName := ⟨"java/lang/StringBuilder", "<init>", "()V"⟩
abbrev y_10 : MethodName := ⟨"java/lang/AbstractStringBuilder", "ensureCapacityInternal", "(I)V"⟩
abbrev y_11 : MethodName := ⟨"java/lang/AbstractStringBuilder", "inflateIfNeededFor", "(Ljava/lang/String;)V"⟩
abbrev y_12 : MethodName := ⟨"java/lang/String", "getBytes", "([BIB)V"⟩
abbrev y_13 : MethodName := ⟨"java/lang/AbstractStringBuilder", "putStringAt", "(ILjava/lang/String;)V"⟩
abbrev y_14 : MethodName := ⟨"java/lang/AbstractStringBuilder", "append", "(Ljava/lang/String;)Ljava/lang/AbstractStringBuilder;"⟩
abbrev y_15 : MethodName := ⟨"java/lang/StringBuilder", "append", "(Ljava/lang/String;)Ljava/lang/StringBuilder;"⟩
abbrev y_16 : MethodName := ⟨"java/lang/AbstractStringBuilder", "length", "()I"⟩
abbrev y_17 : MethodName := ⟨"java/lang/StringBuilder", "length", "()I"⟩
abbrev y_18 : MethodName := ⟨"java/lang/AbstractStringBuilder", "isLatin1", "()Z"⟩
abbrev y_19 : MethodName := ⟨"java/util/Arrays", "checkLength", "(II)V"⟩
abbrev y_20 : MethodName := ⟨"java/lang/Math", "min", "(II)I"⟩
abbrev y_21 : MethodName := ⟨"java/util/Arrays", "copyOfRangeByte", "([BII)[B"⟩
abbrev y_22 : MethodName := ⟨"java/util/Arrays", "copyOfRange", "([BII)[B"⟩
abbrev y_23 : MethodName := ⟨"java/lang/String", "<init>", "(Ljava/lang/AbstractStringBuilder;Ljava/lang/Void;)V"⟩
abbrev y_24 : MethodName := ⟨"java/lang/String", "<init>", "(Ljava/lang/StringBuilder;)V"⟩
abbrev y_25 : MethodName := ⟨"java/lang/StringBuilder", "toString", "()Ljava/lang/String;"⟩
abbrev y_26 : MethodName := ⟨"java/lang/Record", "<init>", "()V"⟩
abbrev y_27 : MethodName := ⟨"java/lang/String", "<init>", "([CIILjava/lang/Void;)V"⟩
abbrev y_28 : MethodName := ⟨"java/lang/String", "<init>", "([C)V"⟩
abbrev y_29 : MethodName := ⟨"java/lang/StringUTF16", "compress", "([CI[BII)I"⟩
abbrev y_30 : MethodName := ⟨"java/lang/StringUTF16", "compress", "([CII)[B"⟩
abbrev y_31 : MethodName := ⟨"java/lang/StringUTF16", "coderFromArrayLen", "([BI)B"⟩
abbrev y_32 : MethodName := ⟨"java/lang/String", "startsWith", "(Ljava/lang/String;I)Z"⟩
abbrev y_33 : MethodName := ⟨"jdk/internal/util/ArraysSupport", "mismatch", "([BI[BII)I"⟩
abbrev y_34 : MethodName := ⟨"java/lang/String", "endsWith", "(Ljava/lang/String;)Z"⟩
abbrev y_35 : MethodName := ⟨"com/example/federant/federant/saml/IdpEndpointsUnderPinLaw", "ch", "(Ljava/lang/String;ILjava/lang/String;I)Z"⟩
abbrev y_36 : MethodName := ⟨"com/example/federant/federant/saml/IdpEndpointsUnderPinLaw", "has", "(Ljava/lang/String;ILjava/lang/String;)Z"⟩
abbrev y_37 : MethodName := ⟨"com/example/federant/federant/saml/IdpEndpointsUnderPinLaw", "is", "(Ljava/lang/String;Ljava/lang/String;Ljava/lang/String;)Z"⟩
abbrev y_38 : MethodName := ⟨"com/example/federant/federant/saml/IdpEndpoints", "<init>", "(Ljava/lang/String;Ljava/lang/String;Ljava/lang/String;Ljava/lang/String;)V"⟩
abbrev y_39 : MethodName := ⟨"com/example/federant/federant/saml/IdpEndpoints", "entityId", "()Ljava/lang/String;"⟩
abbrev y_40 : MethodName := ⟨"com/example/federant/federant/saml/IdpEndpoints", "metadata", "()Ljava/lang/String;"⟩
abbrev y_41 : MethodName := ⟨"com/example/federant/federant/saml/IdpEndpoints", "singleSignOn", "()Ljava/lang/String;"⟩
abbrev y_42 : MethodName := ⟨"com/example/federant/federant/saml/IdpEndpoints", "singleLogout", "()Ljava/lang/String;"⟩
abbrev y_43 : MethodName := ⟨"com/example/federant/federant/saml/IdpEndpoints", "under", "(Ljava/lang/String;)Lcom/example/federant/federant/saml/IdpEndpoints;"⟩
theorem own_fld {args : Array Value} {s : State} {t : Term} {C f d : String} {k : Int32} {w : Addr} (ev : t.eval args s none [] s = some (.ref w)) (h : (Jvm.Cond.eq (Term.field t C f d) (Term.int k)).value args s none s [] = some true) : Fld s s.heap w C f d (.int k) := Fld.start ((fld_at ev).symm.trans (eqv_i (Term.int_eval k) h))
theorem own_shr0 (x : Int32) : x >>> ((0 : Int32) &&& 31) = x := by
  rw [← Int32.toInt_inj, c_ishr x 0 0 (by decide)]; simp
theorem own_shl0 (x : Int32) : x <<< ((0 : Int32) &&& 31) = x := by
  have h := c_ishl x 0 0 (by decide); have r1 := rng32 x; have r2 := rng32 (x <<< ((0 : Int32) &&& 31))
  have e : ((2 ^ 0 : Nat) : Int) = 1 := rfl
  rw [e] at h; rw [← Int32.toInt_inj]; omega
theorem own_lne {x y : Int32} (h : x < y) : ¬ x = y := fun e => by subst e; exact absurd h (by simp [Int32.lt_irrefl])
theorem own_sub0 (x : Int32) : x - (0 : Int32) = x := by simp
def own_b (x : Int32) : Int32 := x.toInt8.toInt32
theorem own_bb (x : Int32) : (x.toInt8.toInt32).toInt8.toInt32 = own_b x := by simp [own_b]
theorem own_nc (x : Int32) : nar .char ((x &&& (255 : Int32)).toUInt32.toUInt16.toUInt32.toInt32) = x &&& (255 : Int32) := by
  show ((x &&& (255 : Int32)).toUInt32.toUInt16.toUInt32.toInt32).toUInt32.toUInt16.toUInt32.toInt32 = _
  rw [i2c_mask, i2c_mask]
theorem own_n255 (x : Int32) : nar .char (x &&& (255 : Int32)) = x &&& (255 : Int32) := i2c_mask x
theorem own_safe {Z : State} {EL : List (String × Nat)} {vm : Vm} {h : Heap} {x : Addr} (hal : Z.vm.Alike vm) (E : Exa Z h x "java/lang/String") (F : Fld Z h x "java/lang/String" "value" "[B" .null) : Safe Z EL vm h x := fun B => by
  obtain ⟨p, hp, u, a, hb, q, hq, S, rfl | rfl⟩ := B
  · obtain ⟨cS, ⟨⟨s1, s2, s3, ⟨cv, kv, iv, s4, s4'⟩, -, s6, s7, s8, -⟩, -⟩, -⟩ := S
    obtain ⟨cell, cf, k, i, f, h1, h2, h3, h4, h5, h6, h7⟩ := F
    cases (show h[q.sa]? = some q.sC from s1).symm.trans h1
    obtain ⟨kv', z4⟩ := ff_back (U := Wst Z vm h) hal s4
    cases h2.symm.trans z4
    rw [h7] at s8; cases s8
  · obtain ⟨cell, kx, e1, e2, -⟩ := E
    cases (show h[q.sd]? = some q.SA from S.hd).symm.trans e1
    obtain ⟨cS, -, -, hB, -⟩ := S
    have hB' : Z.vm.findClass "[B" = some q.SA.cls := by rw [← hal.findClass]; exact hB
    exact ids_ne e2 hB' (by decide) rfl
theorem own_sm {Z : State} {a0 : Array Value} {y y2 : MethodName} {C : String} (w1 : (Jvm.Cond.declares y).before a0 Z = true) (w2 : (Jvm.Cond.selects C y2 y2).before a0 Z = true) (w3 : (Jvm.Cond.instanceMethod y2).before a0 Z = true) (hc : y2.cls = y.cls) (hn : y.cls ≠ "java/lang/invoke/MethodHandle" ∧ y.cls ≠ "java/lang/invoke/VarHandle") : (Jvm.Cond.sameMethod y.cls y.cls y.name y.desc).before a0 Z = true := by
  obtain ⟨r, meth, q1, q2, -⟩ := Cond.declares_spec w1
  obtain ⟨r2, meth2, p1, -⟩ := Cond.instanceMethod_spec w3
  obtain ⟨kr, hk, hi⟩ := notFace_of_selects w2 r2 p1
  have f1 := findClass_of_methodNamed q1
  have f2 := findClass_of_methodNamed p1
  rw [hc] at f2
  have ec : r2.cls = r.cls := Option.some.inj (f2.symm.trans f1)
  rw [ec] at hk
  obtain ⟨kn, hkn, hnm⟩ := Vm.findClass_spec f1
  cases hk.symm.trans hkn
  have q1' := q1
  simp only [State.methodNamed?, f1, hk, Option.bind_eq_bind, Option.bind_some, Option.pure_def] at q1'
  obtain ⟨j, hj, ej⟩ := Option.bind_eq_some_iff.mp q1'
  have ej' : (⟨r.cls, j⟩ : MethodId) = r := Option.some.inj ej
  have hm : (kr.methods[j]?).isSome := by
    rw [← ej'] at q2
    simp only [Vm.method?, hk, Option.bind_eq_bind, Option.bind_some] at q2
    rw [q2]; rfl
  have hf := State.methodFound?_declared (name := y.name) (desc := y.desc) f1 hk (fun z => by simp [signaturePolymorphic, hnm, hn.1, hn.2]) hj hm
  rw [ej'] at hf
  have q3 : Z.methodNamed? ⟨y.cls, y.name, y.desc⟩ = some r := q1
  simp [Cond.before, Cond.holds, Cond.value, f1, hf, q3, hk, hi]
theorem own_decl {args : Array Value} {s : State} {y : MethodName} {bytes : ByteArray} {maxL : Nat} {ret : Option FieldType} (wc : (Jvm.Cond.code y bytes maxL ret).before args s = true) (wi : (Jvm.Cond.instanceMethod y).before args s = true) : (Jvm.Cond.declares y).before args s = true := by
  obtain ⟨mk, meth, hn, hm, hst, -⟩ := Cond.instanceMethod_spec wi
  obtain ⟨m2, c2, q1, -, -, -, -, -, -, hsig⟩ := Cond.code_spec hn wc
  cases hm.symm.trans q1
  simp [Cond.before, Cond.holds, Cond.value, hn, hm, hst, hsig]
theorem own_nf {args : Array Value} {s : State} {y y2 : MethodName} {C : String} (w2 : (Jvm.Cond.selects C y2 y2).before args s = true) (w3 : (Jvm.Cond.instanceMethod y2).before args s = true) (hc : y2.cls = y.cls) : NotFace s y := fun r0 h0 => by
  obtain ⟨r2, meth2, p1, -⟩ := Cond.instanceMethod_spec w3
  obtain ⟨kr, hk, hi⟩ := notFace_of_selects w2 r2 p1
  have f1 := findClass_of_methodNamed h0
  have f2 := findClass_of_methodNamed p1
  rw [hc] at f2
  have ec : r2.cls = r0.cls := Option.some.inj (f2.symm.trans f1)
  rw [ec] at hk
  exact ⟨kr, hk, hi⟩
theorem own_bnd (x : Int32) : 0 ≤ (x &&& (255 : Int32)).toInt ∧ (x &&& (255 : Int32)).toInt ≤ 255 := c_and x 255 (by decide)
theorem own_le (x : Int32) : ¬ (255 : Int32) < x &&& (255 : Int32) := by
  rw [Int32.lt_iff_toInt_lt]; have := own_bnd x; have e : (255 : Int32).toInt = 255 := by decide
  omega
theorem own_b47 {x : Int32} (h : ¬ x &&& (255 : Int32) = 47) : ¬ own_b (x &&& (255 : Int32)) = 47 := fun g => h (by
  have h1 := c_i2b (x &&& 255); have b1 := own_bnd x
  have e : (own_b (x &&& 255)).toInt = (47 : Int32).toInt := by rw [g]
  have e2 : (47 : Int32).toInt = 47 := by decide
  rw [← Int32.toInt_inj]; simp only [own_b] at e; omega)
theorem own_n4 (p : Int32) : p &&& (3 : Int32) = 0 ∨ p &&& (3 : Int32) = 1 ∨ p &&& (3 : Int32) = 2 ∨ p &&& (3 : Int32) = 3 := by
  have h := c_mask p 3 2 (by decide) (by decide)
  have e0 : (0 : Int32).toInt = 0 := by decide
  have e1 : (1 : Int32).toInt = 1 := by decide
  have e2 : (2 : Int32).toInt = 2 := by decide
  have e3 : (3 : Int32).toInt = 3 := by decide
  simp only [← Int32.toInt_inj, e0, e1, e2, e3]
  omega
theorem own_x (p : Int32) : ∃ x, (p &&& (255 : Int32)).toUInt32.toUInt16.toUInt32.toInt32 = x ∧ ¬ (255 : Int32) < x ∧ nar .char x = x ∧ (¬ x = 47 → ¬ own_b x = 47) := ⟨p &&& 255, i2c_mask p, own_le p, own_n255 p, own_b47⟩
theorem own_f0 {k : Int32} {P : Prop} (h0 : ¬ k < (0 : Int32)) (h : k < (0 : Int32)) : P := absurd h h0
theorem own_f1 {k : Int32} (h0 : ¬ k < (0 : Int32)) (h : k < (1 : Int32)) : k = (0 : Int32) := by
  rw [Int32.lt_iff_toInt_lt] at h0 h
  have e0 : (0 : Int32).toInt = 0 := by decide
  have e1 : (1 : Int32).toInt = 1 := by decide
  simp only [← Int32.toInt_inj, e0, e1] at h0 h ⊢
  omega
theorem own_f2 {k : Int32} (h0 : ¬ k < (0 : Int32)) (h : k < (2 : Int32)) : k = (0 : Int32) ∨ k = (1 : Int32) := by
  rw [Int32.lt_iff_toInt_lt] at h0 h
  have e0 : (0 : Int32).toInt = 0 := by decide
  have e1 : (1 : Int32).toInt = 1 := by decide
  have e2 : (2 : Int32).toInt = 2 := by decide
  simp only [← Int32.toInt_inj, e0, e1, e2] at h0 h ⊢
  omega
theorem own_f3 {k : Int32} (h0 : ¬ k < (0 : Int32)) (h : k < (3 : Int32)) : k = (0 : Int32) ∨ k = (1 : Int32) ∨ k = (2 : Int32) := by
  rw [Int32.lt_iff_toInt_lt] at h0 h
  have e0 : (0 : Int32).toInt = 0 := by decide
  have e1 : (1 : Int32).toInt = 1 := by decide
  have e2 : (2 : Int32).toInt = 2 := by decide
  have e3 : (3 : Int32).toInt = 3 := by decide
  simp only [← Int32.toInt_inj, e0, e1, e2, e3] at h0 h ⊢
  omega
theorem own_f4 {k : Int32} (h0 : ¬ k < (0 : Int32)) (h : k < (4 : Int32)) : k = (0 : Int32) ∨ k = (1 : Int32) ∨ k = (2 : Int32) ∨ k = (3 : Int32) := by
  rw [Int32.lt_iff_toInt_lt] at h0 h
  have e0 : (0 : Int32).toInt = 0 := by decide
  have e1 : (1 : Int32).toInt = 1 := by decide
  have e2 : (2 : Int32).toInt = 2 := by decide
  have e3 : (3 : Int32).toInt = 3 := by decide
  have e4 : (4 : Int32).toInt = 4 := by decide
  simp only [← Int32.toInt_inj, e0, e1, e2, e3, e4] at h0 h ⊢
  omega
theorem own_f9 {k : Int32} (h0 : ¬ k < (0 : Int32)) (h : k < (9 : Int32)) : k = (0 : Int32) ∨ k = (1 : Int32) ∨ k = (2 : Int32) ∨ k = (3 : Int32) ∨ k = (4 : Int32) ∨ k = (5 : Int32) ∨ k = (6 : Int32) ∨ k = (7 : Int32) ∨ k = (8 : Int32) := by
  rw [Int32.lt_iff_toInt_lt] at h0 h
  have e0 : (0 : Int32).toInt = 0 := by decide
  have e1 : (1 : Int32).toInt = 1 := by decide
  have e2 : (2 : Int32).toInt = 2 := by decide
  have e3 : (3 : Int32).toInt = 3 := by decide
  have e4 : (4 : Int32).toInt = 4 := by decide
  have e5 : (5 : Int32).toInt = 5 := by decide
  have e6 : (6 : Int32).toInt = 6 := by decide
  have e7 : (7 : Int32).toInt = 7 := by decide
  have e8 : (8 : Int32).toInt = 8 := by decide
  have e9 : (9 : Int32).toInt = 9 := by decide
  simp only [← Int32.toInt_inj, e0, e1, e2, e3, e4, e5, e6, e7, e8, e9] at h0 h ⊢
  omega
abbrev EL : List (String × Nat) := consts_1
theorem own_hEL {a0 : Array Value} {Z : State} (hw : ∀ d ∈ tables_1, d.before a0 Z = true) : EW Z a0 EL := (EW.cons (ww hw 26 rfl) (by decide) (EW.cons (ww hw 106 rfl) (by decide) (EW.cons (ww hw 152 rfl) (by decide) (EW.cons (ww hw 153 rfl) (by decide) (EW.cons (ww hw 154 rfl) (by decide) (EW.cons (ww hw 177 rfl) (by decide) (EW.cons (ww hw 216 rfl) (by decide) (EW.cons (ww hw 222 rfl) (by decide) (EW.cons (ww hw 228 rfl) (by decide) (EW.cons (ww hw 14 rfl) (by decide) EW.nil))))))))))
theorem own_wS {a0 : Array Value} {Z : State} (hw : ∀ d ∈ tables_1, d.before a0 Z = true) : ∀ a ∈ Bundle.stringAtoms, a.before a0 Z = true := fun d hd => by
  simp only [Bundle.stringAtoms, List.mem_cons, List.not_mem_nil, or_false] at hd
  rcases hd with rfl | rfl | rfl | rfl | rfl | rfl | rfl
  · exact ww hw 3 rfl
  · exact ww hw 2 rfl
  · exact ww hw 15 rfl
  · exact ww hw 16 rfl
  · exact ww hw 17 rfl
  · exact ww hw 18 rfl
  · exact ww hw 19 rfl
abbrev nO : Value := .int (0 : Int32)
theorem own_n46 : nar .char (46 : Int32) = 46 := by decide
theorem d7_0 : decode jdk_42_method_152_code 0 = .ok (.getstatic 38, 3) := by decide +kernel
theorem d7_3 : decode jdk_42_method_152_code 3 = .ok (.ifCond .eq 10, 3) := by decide +kernel
theorem d7_6 : decode jdk_42_method_152_code 6 = .ok (.aload_n 0, 1) := by decide +kernel
theorem d7_7 : decode jdk_42_method_152_code 7 = .ok (.getfield 15, 3) := by decide +kernel
theorem d7_10 : decode jdk_42_method_152_code 10 = .ok (.goto 4, 3) := by decide +kernel
theorem d7_14 : decode jdk_42_method_152_code 14 = .ok (.ireturn, 1) := by decide +kernel
theorem pn_0 : plainName "java/lang/String" = true := by first | (simp [plainName, overriddenIn]; done) | decide +kernel
theorem ef_rm_coder (m : MethodId) (x0 : Addr) : entryFrame m #[(.ref x0)] 1 = mkF m 0 #[vr x0] [] := by first | (simp [entryFrame, mkF, argsToLocals, Value.category]; done) | rfl
def Q_rm_coder (Z : State) (a1 : Addr) (zc : Int32) (h0 : Heap) (n0 : Nat) (v : Option Value) (h : Heap) (L : List Loc) : Prop := (v = some (.int (0 : Int32))) ∧ (Fr n0 L) ∧ (h = h0)
set_option maxRecDepth 65536 in
set_option maxHeartbeats 40000000 in
theorem rm_coder (l : Launch) (Z : State) (a0 : Array Value) (hw : ∀ d ∈ tables_1, d.before a0 Z = true) (ws : List Jvm.Cond) (a1 : Addr) (zc : Int32) (h0 : Heap) (n0 : Nat) (Z0 : n0 ≤ h0.size) (O0 : Old Z n0 h0) (F_coder_a1 : Fld Z h0 a1 "java/lang/String" "coder" "B" (.int (0 : Int32))) (S_CS : Sta Z Z.heap "java/lang/String" "COMPACT_STRINGS" "Z" (.int zc)) (hz : ¬ zc = (0 : Int32)) :
    MetFree l y_0 (head1 (Jvm.Cond.code y_0 jdk_42_method_152_code 1 (some .byte) :: ws) ({ frames := 0, cells := 0, slots := 0, locals := 0 } : Room)) (fun a U => a = #[(.ref a1)] ∧ Z.Warmed39 U.vm ∧ U.heap = h0) (fun _ _ _ _ _ => True) (fun _ U o U' => ∃ v L, o = .returned v ∧ Q_rm_coder Z a1 zc h0 n0 v U'.heap L ∧ FrameEnd U o U' L ({ frames := 0, cells := 0, slots := 0, locals := 0 } : Room).cells ({ frames := 0, cells := 0, slots := 0, locals := 0 } : Room).slots) := by
  refine MetFree.of_bodySF (plainFor_of_name pn_0) hisR ?_
  intro p e s m args below meth c s₁ Bd hml0 hP hK
  obtain ⟨rfl, hZ, hh⟩ := hP
  have hx := Bd.exec
  have hby := Bd.bytes
  have hml : c.maxLocals = 1 := hml0
  have hown : s.vm.findClass "java/lang/String" = some m.cls := findClass_of_methodNamed Bd.named
  have hnm := (name_of_methodNamed Bd.named Bd.method).1
  have X0 : Stand p l e ({ frames := 0, cells := 0, slots := 0, locals := 0 } : Room) s m #[(.ref a1)] below meth c s₁ [] 0 0 := Stand.of_body Bd
  have e0 : s₁.heap = h0 := by rw [← hh, Bd.state]; rfl
  have N0 := Fr.nil n0
  have KC : Keep h0 h0 [] := Keep.refl h0 _
  have pre0 : ∀ t, Steps p.tables e below (s₁.setTop (mkF m 0 #[vr a1] [])) t → Steps p.tables e below (s₁.setTop (entryFrame m #[(.ref a1)] 1)) t := fun t k => castTop (ef_rm_coder m a1) k
  obtain ⟨T1, X1, e1, st1⟩ := getS2 X0 hx hZ hown (host := "") (Or.inl (ww hw 42 rfl)) Via.refl e0 (S_CS.ext O0.2) (g := (mkF m 0 #[vr a1] [])) rfl (hb hby d7_0)
  obtain ⟨T2, X2, e2, st2⟩ := getF X1 hx hZ hown (host := "") (Or.inl (ww hw 21 rfl)) Via.refl e1 F_coder_a1 (g := (mkF m 7 #[vr a1] [(.ref a1)])) rfl rfl (hb hby d7_7)
  obtain ⟨fs, hr, hrun, hended, hW, hsame⟩ := X2.leave (v := some (.int (0 : Int32))) (fun h => by rw [Bd.returns] at h; cases h)
  refine ⟨_, _, pre0 _ ?_, hrun, hended, _, _, rfl, ?_, ⟨_, rfl⟩, hW, hsame.mono (by decide) (by decide)⟩
  · show SS p e below m s₁ 0 #[vr a1] [] _
    refine st1 _ ?_
    show SS p e below m T1 3 #[vr a1] [(.int zc)] _
    refine XS.ifNo X1.here hx rfl (hb hby d7_3) rfl ((if0 _ _).trans (feq hz).1) ?_
    show SS p e below m T1 6 #[vr a1] [] _
    refine XS.aloadN X1.here hx rfl (hb hby d7_6) rfl rfl ?_
    show SS p e below m T1 7 #[vr a1] [(.ref a1)] _
    refine st2 _ ?_
    show SS p e below m T2 10 #[vr a1] [(.int (0 : Int32))] _
    refine XS.goto X2.here hx rfl (pc0 := 10) (pc' := 14) rfl (hb hby d7_10) (by decide) (by decide) ?_
    show SS p e below m T2 14 #[vr a1] [(.int (0 : Int32))] _
    exact retN X2 hx (t := .byte) Bd.returns (by simp) (hb hby d7_14) hr
  · show Q_rm_coder Z a1 zc h0 n0 _ T2.heap _
    rw [e2]
    exact ⟨rfl, N0, rfl⟩
theorem pd_0 : parseMethodDescriptor "()B" = some ⟨[], some .byte⟩ := by decide +kernel
theorem d6_0 : decode jdk_42_method_54_code 0 = .ok (.aload_n 0, 1) := by decide +kernel
theorem d6_1 : decode jdk_42_method_54_code 1 = .ok (.getfield 9, 3) := by decide +kernel
theorem d6_4 : decode jdk_42_method_54_code 4 = .ok (.arraylength, 1) := by decide +kernel
theorem d6_5 : decode jdk_42_method_54_code 5 = .ok (.aload_n 0, 1) := by decide +kernel
theorem d6_6 : decode jdk_42_method_54_code 6 = .ok (.invokevirtual 335, 3) := by decide +kernel
theorem d6_9 : decode jdk_42_method_54_code 9 = .ok (.ishr, 1) := by decide +kernel
theorem d6_10 : decode jdk_42_method_54_code 10 = .ok (.ireturn, 1) := by decide +kernel
theorem ef_rm_length (m : MethodId) (x0 : Addr) : entryFrame m #[(.ref x0)] 1 = mkF m 0 #[vr x0] [] := by first | (simp [entryFrame, mkF, argsToLocals, Value.category]; done) | rfl
def Q_rm_length (Z : State) (a1 : Addr) (ta : Addr) (k : ClassId) (z : Int32) (vs : List Value) (zc : Int32) (h0 : Heap) (n0 : Nat) (v : Option Value) (h : Heap) (L : List Loc) : Prop := (v = some (.int z)) ∧ (Fr n0 L) ∧ (h = h0)
set_option maxRecDepth 65536 in
set_option maxHeartbeats 40000000 in
theorem rm_length (l : Launch) (Z : State) (a0 : Array Value) (hw : ∀ d ∈ tables_1, d.before a0 Z = true) (ws : List Jvm.Cond) (a1 : Addr) (ta : Addr) (k : ClassId) (z : Int32) (vs : List Value) (zc : Int32) (h0 : Heap) (n0 : Nat) (Z0 : n0 ≤ h0.size) (O0 : Old Z n0 h0) (E_a1 : Exa Z h0 a1 "java/lang/String") (F_value_a1 : Fld Z h0 a1 "java/lang/String" "value" "[B" (.ref ta)) (F_coder_a1 : Fld Z h0 a1 "java/lang/String" "coder" "B" (.int (0 : Int32))) (V_ta : Arv Z h0 ta k .byte z vs (.int (0 : Int32))) (S_CS : Sta Z Z.heap "java/lang/String" "COMPACT_STRINGS" "Z" (.int zc)) (hz : ¬ zc = (0 : Int32)) :
    MetFree l y_1 (head1 (Jvm.Cond.code y_1 jdk_42_method_54_code 1 (some .int) :: ws) ({ frames := 1, cells := 0, slots := 0, locals := 13 } : Room)) (fun a U => a = #[(.ref a1)] ∧ Z.Warmed39 U.vm ∧ U.heap = h0) (fun _ _ _ _ _ => True) (fun _ U o U' => ∃ v L, o = .returned v ∧ Q_rm_length Z a1 ta k z vs zc h0 n0 v U'.heap L ∧ FrameEnd U o U' L ({ frames := 1, cells := 0, slots := 0, locals := 13 } : Room).cells ({ frames := 1, cells := 0, slots := 0, locals := 13 } : Room).slots) := by
  refine MetFree.of_bodySF (plainFor_of_name pn_0) hisR ?_
  intro p e s m args below meth c s₁ Bd hml0 hP hK
  obtain ⟨rfl, hZ, hh⟩ := hP
  have hx := Bd.exec
  have hby := Bd.bytes
  have hml : c.maxLocals = 1 := hml0
  have hown : s.vm.findClass "java/lang/String" = some m.cls := findClass_of_methodNamed Bd.named
  have hnm := (name_of_methodNamed Bd.named Bd.method).1
  have X0 : Stand p l e ({ frames := 1, cells := 0, slots := 0, locals := 13 } : Room) s m #[(.ref a1)] below meth c s₁ [] 0 0 := Stand.of_body Bd
  have e0 : s₁.heap = h0 := by rw [← hh, Bd.state]; rfl
  have N0 := Fr.nil n0
  have KC : Keep h0 h0 [] := Keep.refl h0 _
  have pre0 : ∀ t, Steps p.tables e below (s₁.setTop (mkF m 0 #[vr a1] [])) t → Steps p.tables e below (s₁.setTop (entryFrame m #[(.ref a1)] 1)) t := fun t k => castTop (ef_rm_length m a1) k
  obtain ⟨T1, X1, e1, st1⟩ := getF X0 hx hZ hown (host := "") (Or.inl (ww hw 20 rfl)) Via.refl e0 F_value_a1 (g := (mkF m 1 #[vr a1] [(.ref a1)])) rfl rfl (hb hby d6_1)
  have Vo2 := V_ta
  obtain ⟨cl2, Ar2, -, Sz2, Nn2, -, -⟩ := Vo2
  have ia2 := State.isArrayOf_alike hZ.alike Ar2.2.1
  obtain ⟨cq3, kq3, q3a, q3b, q3c⟩ := isOf hZ e1 E_a1
  obtain ⟨_, _, ⟨T3, L3, kz3, nz3⟩, -, X3, ⟨Lc3, hQ3, l3, y3, z3⟩, st3⟩ := X1.virtualBack hx (y := y_0) (z := y_0) hown (mvT hZ (ww hw 37 rfl)) (mvT hZ (ww hw 38 rfl)) (notFace_of_selects (args := #[]) (mvT hZ (ww hw 40 rfl))) (mvT hZ (ww hw 40 rfl)) (mvT hZ (ww hw 39 rfl)) (by decide) (backOf (W := 1) (rm_coder l Z a0 hw [] a1 zc h0 n0 (Nat.le_trans Z0 KC.1) O0 F_coder_a1 S_CS hz) hZ (ww hw 41 rfl) (ww hw 3 rfl) (by decide) (by decide)) q3a q3c (g := (mkF m 6 #[vr a1] [(.ref a1), (.int z)])) rfl (by rw [hml]; rfl) (Steps.refl _) (argsL := []) (rest := [(.int z)]) (lenOf pd_0 rfl) rfl (by show 2 * 0 + _ ≤ _; exact Nat.le_of_eq rfl) (hb hby d6_6) (fun _ _ => ⟨rfl, e1, (by decide : 0 + 0 ≤ _), (by decide : 0 + 0 ≤ _)⟩)
  dsimp only [Pt.U, Pt.locs, Pt.cells, Pt.slots] at X3 l3 y3 z3 st3 hQ3
  subst l3 y3 z3
  obtain ⟨rfl, N3q, e3⟩ := hQ3
  have N3 := Fr.app N0 N3q
  obtain ⟨fs, hr, hrun, hended, hW, hsame⟩ := X3.leave (v := some (.int (z >>> ((0 : Int32) &&& 31)))) (fun h => by rw [Bd.returns] at h; cases h)
  refine ⟨_, _, pre0 _ ?_, hrun, hended, _, _, rfl, ?_, ⟨_, rfl⟩, hW, hsame.mono (by decide) (by decide)⟩
  · show SS p e below m s₁ 0 #[vr a1] [] _
    refine XS.aloadN X0.here hx rfl (hb hby d6_0) rfl rfl ?_
    show SS p e below m s₁ 1 #[vr a1] [(.ref a1)] _
    refine st1 _ ?_
    show SS p e below m T1 4 #[vr a1] [(.ref ta)] _
    refine X1.arraylength hx (by rw [e1]; exact Ar2.1) ia2 (g := (mkF m 4 #[vr a1] [(.ref ta)])) rfl rfl (hb hby d6_4) _ ?_
    rw [len_of Sz2 Nn2]
    show SS p e below m T1 5 #[vr a1] [(.int z)] _
    refine XS.aloadN X1.here hx rfl (hb hby d6_5) rfl rfl ?_
    show SS p e below m T1 6 #[vr a1] [(.ref a1), (.int z)] _
    refine st3.trans ?_
    show SS p e below m T3 9 #[vr a1] [(.int (0 : Int32)), (.int z)] _
    refine XS.ishr X3.here hx rfl (hb hby d6_9) rfl ?_
    show SS p e below m T3 10 #[vr a1] [(.int (z >>> ((0 : Int32) &&& 31)))] _
    exact retI X3 hx Bd.returns (hb hby d6_10) hr
  · show Q_rm_length Z a1 ta k z vs zc h0 n0 _ T3.heap _
    rw [e3]
    exact ⟨(congrArg (fun z => some (Value.int z)) (own_shr0 z)), N3, rfl⟩
theorem d35_0 : decode jdk_42_method_154_code 0 = .ok (.getstatic 38, 3) := by decide +kernel
theorem d35_3 : decode jdk_42_method_154_code 3 = .ok (.ifCond .eq 14, 3) := by decide +kernel
theorem d35_6 : decode jdk_42_method_154_code 6 = .ok (.aload_n 0, 1) := by decide +kernel
theorem d35_7 : decode jdk_42_method_154_code 7 = .ok (.getfield 15, 3) := by decide +kernel
theorem d35_10 : decode jdk_42_method_154_code 10 = .ok (.ifCond .ne 7, 3) := by decide +kernel
theorem d35_13 : decode jdk_42_method_154_code 13 = .ok (.iconst 1, 1) := by decide +kernel
theorem d35_14 : decode jdk_42_method_154_code 14 = .ok (.goto 4, 3) := by decide +kernel
theorem d35_18 : decode jdk_42_method_154_code 18 = .ok (.ireturn, 1) := by decide +kernel
theorem ef_rm_isL (m : MethodId) (x0 : Addr) : entryFrame m #[(.ref x0)] 1 = mkF m 0 #[vr x0] [] := by first | (simp [entryFrame, mkF, argsToLocals, Value.category]; done) | rfl
def Q_rm_isL (Z : State) (a1 : Addr) (zc : Int32) (h0 : Heap) (n0 : Nat) (v : Option Value) (h : Heap) (L : List Loc) : Prop := (v = some (.int (1 : Int32))) ∧ (Fr n0 L) ∧ (h = h0)
set_option maxRecDepth 65536 in
set_option maxHeartbeats 40000000 in
theorem rm_isL (l : Launch) (Z : State) (a0 : Array Value) (hw : ∀ d ∈ tables_1, d.before a0 Z = true) (ws : List Jvm.Cond) (a1 : Addr) (zc : Int32) (h0 : Heap) (n0 : Nat) (Z0 : n0 ≤ h0.size) (O0 : Old Z n0 h0) (F_coder_a1 : Fld Z h0 a1 "java/lang/String" "coder" "B" (.int (0 : Int32))) (S_CS : Sta Z Z.heap "java/lang/String" "COMPACT_STRINGS" "Z" (.int zc)) (hz : ¬ zc = (0 : Int32)) :
    MetFree l y_2 (head1 (Jvm.Cond.code y_2 jdk_42_method_154_code 1 (some .boolean) :: ws) ({ frames := 0, cells := 0, slots := 0, locals := 0 } : Room)) (fun a U => a = #[(.ref a1)] ∧ Z.Warmed39 U.vm ∧ U.heap = h0) (fun _ _ _ _ _ => True) (fun _ U o U' => ∃ v L, o = .returned v ∧ Q_rm_isL Z a1 zc h0 n0 v U'.heap L ∧ FrameEnd U o U' L ({ frames := 0, cells := 0, slots := 0, locals := 0 } : Room).cells ({ frames := 0, cells := 0, slots := 0, locals := 0 } : Room).slots) := by
  refine MetFree.of_bodySF (plainFor_of_name pn_0) hisR ?_
  intro p e s m args below meth c s₁ Bd hml0 hP hK
  obtain ⟨rfl, hZ, hh⟩ := hP
  have hx := Bd.exec
  have hby := Bd.bytes
  have hml : c.maxLocals = 1 := hml0
  have hown : s.vm.findClass "java/lang/String" = some m.cls := findClass_of_methodNamed Bd.named
  have hnm := (name_of_methodNamed Bd.named Bd.method).1
  have X0 : Stand p l e ({ frames := 0, cells := 0, slots := 0, locals := 0 } : Room) s m #[(.ref a1)] below meth c s₁ [] 0 0 := Stand.of_body Bd
  have e0 : s₁.heap = h0 := by rw [← hh, Bd.state]; rfl
  have N0 := Fr.nil n0
  have KC : Keep h0 h0 [] := Keep.refl h0 _
  have pre0 : ∀ t, Steps p.tables e below (s₁.setTop (mkF m 0 #[vr a1] [])) t → Steps p.tables e below (s₁.setTop (entryFrame m #[(.ref a1)] 1)) t := fun t k => castTop (ef_rm_isL m a1) k
  obtain ⟨T1, X1, e1, st1⟩ := getS2 X0 hx hZ hown (host := "") (Or.inl (ww hw 42 rfl)) Via.refl e0 (S_CS.ext O0.2) (g := (mkF m 0 #[vr a1] [])) rfl (hb hby d35_0)
  obtain ⟨T2, X2, e2, st2⟩ := getF X1 hx hZ hown (host := "") (Or.inl (ww hw 21 rfl)) Via.refl e1 F_coder_a1 (g := (mkF m 7 #[vr a1] [(.ref a1)])) rfl rfl (hb hby d35_7)
  obtain ⟨fs, hr, hrun, hended, hW, hsame⟩ := X2.leave (v := some (.int (1 : Int32))) (fun h => by rw [Bd.returns] at h; cases h)
  refine ⟨_, _, pre0 _ ?_, hrun, hended, _, _, rfl, ?_, ⟨_, rfl⟩, hW, hsame.mono (by decide) (by decide)⟩
  · show SS p e below m s₁ 0 #[vr a1] [] _
    refine st1 _ ?_
    show SS p e below m T1 3 #[vr a1] [(.int zc)] _
    refine XS.ifNo X1.here hx rfl (hb hby d35_3) rfl ((if0 _ _).trans (feq hz).1) ?_
    show SS p e below m T1 6 #[vr a1] [] _
    refine XS.aloadN X1.here hx rfl (hb hby d35_6) rfl rfl ?_
    show SS p e below m T1 7 #[vr a1] [(.ref a1)] _
    refine st2 _ ?_
    show SS p e below m T2 10 #[vr a1] [(.int (0 : Int32))] _
    refine XS.ifNo X2.here hx rfl (hb hby d35_10) rfl ((if0 _ _).trans (teq (by decide)).2) ?_
    show SS p e below m T2 13 #[vr a1] [] _
    refine XS.iconst X2.here hx rfl (hb hby d35_13) ?_
    show SS p e below m T2 14 #[vr a1] [(.int (1 : Int32))] _
    refine XS.goto X2.here hx rfl (pc0 := 14) (pc' := 18) rfl (hb hby d35_14) (by decide) (by decide) ?_
    show SS p e below m T2 18 #[vr a1] [(.int (1 : Int32))] _
    exact retN X2 hx (t := .boolean) Bd.returns (by simp) (hb hby d35_18) hr
  · show Q_rm_isL Z a1 zc h0 n0 _ T2.heap _
    rw [e2]
    exact ⟨rfl, N0, rfl⟩
theorem d38_0 : decode jdk_41_method_11_code 0 = .ok (.iload_n 0, 1) := by decide +kernel
theorem d38_1 : decode jdk_41_method_11_code 1 = .ok (.ifCond .lt 8, 3) := by decide +kernel
theorem d38_4 : decode jdk_41_method_11_code 4 = .ok (.iload_n 0, 1) := by decide +kernel
theorem d38_5 : decode jdk_41_method_11_code 5 = .ok (.iload_n 1, 1) := by decide +kernel
theorem d38_6 : decode jdk_41_method_11_code 6 = .ok (.if_icmp .lt 10, 3) := by decide +kernel
theorem d38_16 : decode jdk_41_method_11_code 16 = .ok (.iload_n 0, 1) := by decide +kernel
theorem d38_17 : decode jdk_41_method_11_code 17 = .ok (.ireturn, 1) := by decide +kernel
theorem pn_1 : plainName "jdk/internal/util/Preconditions" = true := by first | (simp [plainName, overriddenIn]; done) | decide +kernel
theorem ef_rm_pci (m : MethodId) (x0 : Int32) (x1 : Int32) (x2 : Value) (hx2 : x2.isRef = true) : entryFrame m #[(.int x0), (.int x1), x2] 3 = mkF m 0 #[vi x0, vi x1, .val x2] [] := by
  rcases ref_cases hx2 with rfl | ⟨w2, rfl⟩
  all_goals first | (simp [entryFrame, mkF, argsToLocals, Value.category]; done) | rfl
def Q_rm_pci (Z : State) (p1 : Int32) (p2 : Int32) (fm : Value) (h0 : Heap) (n0 : Nat) (v : Option Value) (h : Heap) (L : List Loc) : Prop := (v = some (.int p1)) ∧ (Fr n0 L) ∧ (h = h0)
set_option maxRecDepth 65536 in
set_option maxHeartbeats 40000000 in
theorem rm_pci (l : Launch) (Z : State) (a0 : Array Value) (hw : ∀ d ∈ tables_1, d.before a0 Z = true) (ws : List Jvm.Cond) (p1 : Int32) (p2 : Int32) (fm : Value) (h0 : Heap) (n0 : Nat) (Z0 : n0 ≤ h0.size) (O0 : Old Z n0 h0) (hW_fm : fm.isRef = true) (hq1 : ¬ p1 < (0 : Int32)) (hq2 : p1 < p2) :
    MetFree l y_3 (head1 (Jvm.Cond.code y_3 jdk_41_method_11_code 3 (some .int) :: ws) ({ frames := 0, cells := 0, slots := 0, locals := 0 } : Room)) (fun a U => a = #[(.int p1), (.int p2), fm] ∧ Z.Warmed39 U.vm ∧ U.heap = h0) (fun _ _ _ _ _ => True) (fun _ U o U' => ∃ v L, o = .returned v ∧ Q_rm_pci Z p1 p2 fm h0 n0 v U'.heap L ∧ FrameEnd U o U' L ({ frames := 0, cells := 0, slots := 0, locals := 0 } : Room).cells ({ frames := 0, cells := 0, slots := 0, locals := 0 } : Room).slots) := by
  refine MetFree.of_bodySF (plainFor_of_name pn_1) hisR ?_
  intro p e s m args below meth c s₁ Bd hml0 hP hK
  obtain ⟨rfl, hZ, hh⟩ := hP
  have hx := Bd.exec
  have hby := Bd.bytes
  have hml : c.maxLocals = 3 := hml0
  have hown : s.vm.findClass "jdk/internal/util/Preconditions" = some m.cls := findClass_of_methodNamed Bd.named
  have hnm := (name_of_methodNamed Bd.named Bd.method).1
  have X0 : Stand p l e ({ frames := 0, cells := 0, slots := 0, locals := 0 } : Room) s m #[(.int p1), (.int p2), fm] below meth c s₁ [] 0 0 := Stand.of_body Bd
  have e0 : s₁.heap = h0 := by rw [← hh, Bd.state]; rfl
  have N0 := Fr.nil n0
  have KC : Keep h0 h0 [] := Keep.refl h0 _
  have pre0 : ∀ t, Steps p.tables e below (s₁.setTop (mkF m 0 #[vi p1, vi p2, .val fm] [])) t → Steps p.tables e below (s₁.setTop (entryFrame m #[(.int p1), (.int p2), fm] 3)) t := fun t k => castTop (ef_rm_pci m p1 p2 fm hW_fm) k
  obtain ⟨fs, hr, hrun, hended, hW, hsame⟩ := X0.leave (v := some (.int p1)) (fun h => by rw [Bd.returns] at h; cases h)
  refine ⟨_, _, pre0 _ ?_, hrun, hended, _, _, rfl, ?_, ⟨_, rfl⟩, hW, hsame.mono (by decide) (by decide)⟩
  · show SS p e below m s₁ 0 #[vi p1, vi p2, .val fm] [] _
    refine XS.iloadN X0.here hx rfl (hb hby d38_0) rfl ?_
    show SS p e below m s₁ 1 #[vi p1, vi p2, .val fm] [(.int p1)] _
    refine XS.ifNo X0.here hx rfl (hb hby d38_1) rfl ((if0 _ _).trans (flt hq1).1) ?_
    show SS p e below m s₁ 4 #[vi p1, vi p2, .val fm] [] _
    refine XS.iloadN X0.here hx rfl (hb hby d38_4) rfl ?_
    show SS p e below m s₁ 5 #[vi p1, vi p2, .val fm] [(.int p1)] _
    refine XS.iloadN X0.here hx rfl (hb hby d38_5) rfl ?_
    show SS p e below m s₁ 6 #[vi p1, vi p2, .val fm] [(.int p2), (.int p1)] _
    refine XS.icmpYes X0.here hx rfl (pc0 := 6) (pc' := 16) rfl (hb hby d38_6) rfl (tlt hq2).1 (by decide) (by decide) ?_
    show SS p e below m s₁ 16 #[vi p1, vi p2, .val fm] [] _
    refine XS.iloadN X0.here hx rfl (hb hby d38_16) rfl ?_
    show SS p e below m s₁ 17 #[vi p1, vi p2, .val fm] [(.int p1)] _
    exact retI X0 hx Bd.returns (hb hby d38_17) hr
  · show Q_rm_pci Z p1 p2 fm h0 n0 _ s₁.heap _
    rw [e0]
    exact ⟨rfl, N0, rfl⟩
theorem pd_1 : parseMethodDescriptor "(IILjava/util/function/BiFunction;)I" = some ⟨[.int, .int, (.object "java/util/function/BiFunction")], some .int⟩ := by decide +kernel
theorem d37_0 : decode jdk_42_method_155_code 0 = .ok (.iload_n 0, 1) := by decide +kernel
theorem d37_1 : decode jdk_42_method_155_code 1 = .ok (.iload_n 1, 1) := by decide +kernel
theorem d37_2 : decode jdk_42_method_155_code 2 = .ok (.getstatic 1053, 3) := by decide +kernel
theorem d37_5 : decode jdk_42_method_155_code 5 = .ok (.invokestatic 1059, 3) := by decide +kernel
theorem d37_8 : decode jdk_42_method_155_code 8 = .ok (.pop, 1) := by decide +kernel
theorem d37_9 : decode jdk_42_method_155_code 9 = .ok (.return_, 1) := by decide +kernel
theorem ef_rm_sci (m : MethodId) (x0 : Int32) (x1 : Int32) : entryFrame m #[(.int x0), (.int x1)] 2 = mkF m 0 #[vi x0, vi x1] [] := by first | (simp [entryFrame, mkF, argsToLocals, Value.category]; done) | rfl
def Q_rm_sci (Z : State) (p1 : Int32) (p2 : Int32) (fm : Value) (h0 : Heap) (n0 : Nat) (v : Option Value) (h : Heap) (L : List Loc) : Prop := (v = none) ∧ (Fr n0 L) ∧ (h = h0)
set_option maxRecDepth 65536 in
set_option maxHeartbeats 40000000 in
theorem rm_sci (l : Launch) (Z : State) (a0 : Array Value) (hw : ∀ d ∈ tables_1, d.before a0 Z = true) (ws : List Jvm.Cond) (p1 : Int32) (p2 : Int32) (fm : Value) (h0 : Heap) (n0 : Nat) (Z0 : n0 ≤ h0.size) (O0 : Old Z n0 h0) (S_FM : Sta Z Z.heap "jdk/internal/util/Preconditions" "SIOOBE_FORMATTER" "Ljava/util/function/BiFunction;" fm) (hW_fm : fm.isRef = true) (hq1 : ¬ p1 < (0 : Int32)) (hq2 : p1 < p2) :
    MetFree l y_4 (head1 (Jvm.Cond.code y_4 jdk_42_method_155_code 2 none :: ws) ({ frames := 1, cells := 0, slots := 0, locals := 14 } : Room)) (fun a U => a = #[(.int p1), (.int p2)] ∧ Z.Warmed39 U.vm ∧ U.heap = h0) (fun _ _ _ _ _ => True) (fun _ U o U' => ∃ v L, o = .returned v ∧ Q_rm_sci Z p1 p2 fm h0 n0 v U'.heap L ∧ FrameEnd U o U' L ({ frames := 1, cells := 0, slots := 0, locals := 14 } : Room).cells ({ frames := 1, cells := 0, slots := 0, locals := 14 } : Room).slots) := by
  refine MetFree.of_bodySF (plainFor_of_name pn_0) hisR ?_
  intro p e s m args below meth c s₁ Bd hml0 hP hK
  obtain ⟨rfl, hZ, hh⟩ := hP
  have hx := Bd.exec
  have hby := Bd.bytes
  have hml : c.maxLocals = 2 := hml0
  have hown : s.vm.findClass "java/lang/String" = some m.cls := findClass_of_methodNamed Bd.named
  have hnm := (name_of_methodNamed Bd.named Bd.method).1
  have X0 : Stand p l e ({ frames := 1, cells := 0, slots := 0, locals := 14 } : Room) s m #[(.int p1), (.int p2)] below meth c s₁ [] 0 0 := Stand.of_body Bd
  have e0 : s₁.heap = h0 := by rw [← hh, Bd.state]; rfl
  have N0 := Fr.nil n0
  have KC : Keep h0 h0 [] := Keep.refl h0 _
  have pre0 : ∀ t, Steps p.tables e below (s₁.setTop (mkF m 0 #[vi p1, vi p2] [])) t → Steps p.tables e below (s₁.setTop (entryFrame m #[(.int p1), (.int p2)] 2)) t := fun t k => castTop (ef_rm_sci m p1 p2) k
  obtain ⟨T1, X1, e1, st1⟩ := getS2 X0 hx hZ hown (host := "") (Or.inl (ww hw 206 rfl)) Via.refl e0 (S_FM.ext O0.2) (g := (mkF m 2 #[vi p1, vi p2] [(.int p2), (.int p1)])) rfl (hb hby d37_2)
  obtain ⟨_, _, ⟨T2, L2, kz2, nz2⟩, -, X2, ⟨Lc2, hQ2, l2, y2, z2⟩, st2⟩ := Jvm.LawKit.callS X1 hx (y := y_3) hown (mvT hZ (ww hw 208 rfl)) (mvT hZ (ww hw 209 rfl)) (mvT hZ (ww hw 207 rfl)) (mvT hZ (ww hw 210 rfl)) (by decide) (backOf (W := 0) (rm_pci l Z a0 hw [] p1 p2 fm h0 n0 (Nat.le_trans Z0 KC.1) O0 hW_fm hq1 hq2) hZ (ww hw 210 rfl) (ww hw 207 rfl) (by decide) (by decide)) (g := (mkF m 5 #[vi p1, vi p2] [fm, (.int p2), (.int p1)])) rfl (by rw [hml]; rfl) (argsL := [(.int p1), (.int p2), fm]) (rest := []) (lenOf pd_1 rfl) rfl (by show 2 * 0 + _ ≤ _; exact Nat.le_of_eq rfl) (hb hby d37_5) (fun _ _ => ⟨rfl, e1, (by decide : 0 + 0 ≤ _), (by decide : 0 + 0 ≤ _)⟩)
  dsimp only [Pt.U, Pt.locs, Pt.cells, Pt.slots] at X2 l2 y2 z2 st2 hQ2
  subst l2 y2 z2
  obtain ⟨rfl, N2q, e2⟩ := hQ2
  have N2 := Fr.app N0 N2q
  obtain ⟨fs, hr, hrun, hended, hW, hsame⟩ := X2.leave (v := none) (fun _ => rfl)
  refine ⟨_, _, pre0 _ ?_, hrun, hended, _, _, rfl, ?_, ⟨_, rfl⟩, hW, hsame.mono (by decide) (by decide)⟩
  · show SS p e below m s₁ 0 #[vi p1, vi p2] [] _
    refine XS.iloadN X0.here hx rfl (hb hby d37_0) rfl ?_
    show SS p e below m s₁ 1 #[vi p1, vi p2] [(.int p1)] _
    refine XS.iloadN X0.here hx rfl (hb hby d37_1) rfl ?_
    show SS p e below m s₁ 2 #[vi p1, vi p2] [(.int p2), (.int p1)] _
    refine st1 _ ?_
    show SS p e below m T1 5 #[vi p1, vi p2] [fm, (.int p2), (.int p1)] _
    refine st2 _ ?_
    show SS p e below m T2 8 #[vi p1, vi p2] [(.int p1)] _
    refine XS.pop X2.here hx rfl (hb hby d37_8) rfl rfl ?_
    show SS p e below m T2 9 #[vi p1, vi p2] [] _
    exact X2.returnOut hx Bd.returns (hb hby d37_9) hr
  · show Q_rm_sci Z p1 p2 fm h0 n0 _ T2.heap _
    rw [e2]
    exact ⟨rfl, N2, rfl⟩
theorem pd_2 : parseMethodDescriptor "(II)V" = some ⟨[.int, .int], none⟩ := by decide +kernel
theorem d36_0 : decode jdk_43_method_2_code 0 = .ok (.iload_n 1, 1) := by decide +kernel
theorem d36_1 : decode jdk_43_method_2_code 1 = .ok (.aload_n 0, 1) := by decide +kernel
theorem d36_2 : decode jdk_43_method_2_code 2 = .ok (.arraylength, 1) := by decide +kernel
theorem d36_3 : decode jdk_43_method_2_code 3 = .ok (.invokestatic 9, 3) := by decide +kernel
theorem d36_6 : decode jdk_43_method_2_code 6 = .ok (.aload_n 0, 1) := by decide +kernel
theorem d36_7 : decode jdk_43_method_2_code 7 = .ok (.iload_n 1, 1) := by decide +kernel
theorem d36_8 : decode jdk_43_method_2_code 8 = .ok (.baload, 1) := by decide +kernel
theorem d36_9 : decode jdk_43_method_2_code 9 = .ok (.sipush 255, 3) := by decide +kernel
theorem d36_12 : decode jdk_43_method_2_code 12 = .ok (.iand, 1) := by decide +kernel
theorem d36_13 : decode jdk_43_method_2_code 13 = .ok (.i2c, 1) := by decide +kernel
theorem d36_14 : decode jdk_43_method_2_code 14 = .ok (.ireturn, 1) := by decide +kernel
theorem pn_2 : plainName "java/lang/StringLatin1" = true := by first | (simp [plainName, overriddenIn]; done) | decide +kernel
theorem ef_rm_lca (m : MethodId) (x0 : Addr) (x1 : Int32) : entryFrame m #[(.ref x0), (.int x1)] 2 = mkF m 0 #[vr x0, vi x1] [] := by first | (simp [entryFrame, mkF, argsToLocals, Value.category]; done) | rfl
def Q_rm_lca (Z : State) (a1 : Addr) (p2 : Int32) (k : ClassId) (z : Int32) (vs : List Value) (u : Int32) (fm : Value) (h0 : Heap) (n0 : Nat) (v : Option Value) (h : Heap) (L : List Loc) : Prop := (v = some (.int (u &&& (255 : Int32)))) ∧ (Fr n0 L) ∧ (h = h0)
set_option maxRecDepth 65536 in
set_option maxHeartbeats 40000000 in
theorem rm_lca (l : Launch) (Z : State) (a0 : Array Value) (hw : ∀ d ∈ tables_1, d.before a0 Z = true) (ws : List Jvm.Cond) (a1 : Addr) (p2 : Int32) (k : ClassId) (z : Int32) (vs : List Value) (u : Int32) (fm : Value) (h0 : Heap) (n0 : Nat) (Z0 : n0 ≤ h0.size) (O0 : Old Z n0 h0) (V_a1 : Arv Z h0 a1 k .byte z vs (.int (0 : Int32))) (S_FM : Sta Z Z.heap "jdk/internal/util/Preconditions" "SIOOBE_FORMATTER" "Ljava/util/function/BiFunction;" fm) (hW_fm : fm.isRef = true) (hq1 : ¬ p2 < (0 : Int32)) (hq2 : p2 < z) (hU : vs.getD p2.toNatClampNeg (.int (0 : Int32)) = .int u) :
    MetFree l y_5 (head1 (Jvm.Cond.code y_5 jdk_43_method_2_code 2 (some .char) :: ws) ({ frames := 2, cells := 0, slots := 0, locals := 27 } : Room)) (fun a U => a = #[(.ref a1), (.int p2)] ∧ Z.Warmed39 U.vm ∧ U.heap = h0) (fun _ _ _ _ _ => True) (fun _ U o U' => ∃ v L, o = .returned v ∧ Q_rm_lca Z a1 p2 k z vs u fm h0 n0 v U'.heap L ∧ FrameEnd U o U' L ({ frames := 2, cells := 0, slots := 0, locals := 27 } : Room).cells ({ frames := 2, cells := 0, slots := 0, locals := 27 } : Room).slots) := by
  refine MetFree.of_bodySF (plainFor_of_name pn_2) hisR ?_
  intro p e s m args below meth c s₁ Bd hml0 hP hK
  obtain ⟨rfl, hZ, hh⟩ := hP
  have hx := Bd.exec
  have hby := Bd.bytes
  have hml : c.maxLocals = 2 := hml0
  have hown : s.vm.findClass "java/lang/StringLatin1" = some m.cls := findClass_of_methodNamed Bd.named
  have hnm := (name_of_methodNamed Bd.named Bd.method).1
  have X0 : Stand p l e ({ frames := 2, cells := 0, slots := 0, locals := 27 } : Room) s m #[(.ref a1), (.int p2)] below meth c s₁ [] 0 0 := Stand.of_body Bd
  have e0 : s₁.heap = h0 := by rw [← hh, Bd.state]; rfl
  have N0 := Fr.nil n0
  have KC : Keep h0 h0 [] := Keep.refl h0 _
  have pre0 : ∀ t, Steps p.tables e below (s₁.setTop (mkF m 0 #[vr a1, vi p2] [])) t → Steps p.tables e below (s₁.setTop (entryFrame m #[(.ref a1), (.int p2)] 2)) t := fun t k => castTop (ef_rm_lca m a1 p2) k
  have Vo1 := V_a1
  obtain ⟨cl1, Ar1, -, Sz1, Nn1, -, -⟩ := Vo1
  have ia1 := State.isArrayOf_alike hZ.alike Ar1.2.1
  obtain ⟨_, _, ⟨T2, L2, kz2, nz2⟩, -, X2, ⟨Lc2, hQ2, l2, y2, z2⟩, st2⟩ := Jvm.LawKit.callS X0 hx (y := y_4) hown (mvT hZ (ww hw 203 rfl)) (mvT hZ (ww hw 204 rfl)) (mvT hZ (ww hw 3 rfl)) (mvT hZ (ww hw 205 rfl)) (by decide) (backOf (W := 0) (rm_sci l Z a0 hw [] p2 z fm h0 n0 (Nat.le_trans Z0 KC.1) O0 S_FM hW_fm hq1 hq2) hZ (ww hw 205 rfl) (ww hw 3 rfl) (by decide) (by decide)) (g := (mkF m 3 #[vr a1, vi p2] [(.int z), (.int p2)])) rfl (by rw [hml]; rfl) (argsL := [(.int p2), (.int z)]) (rest := []) (lenOf pd_2 rfl) rfl (by show 2 * 0 + _ ≤ _; exact Nat.le_of_eq rfl) (hb hby d36_3) (fun _ _ => ⟨rfl, e0, (by decide : 0 + 0 ≤ _), (by decide : 0 + 0 ≤ _)⟩)
  dsimp only [Pt.U, Pt.locs, Pt.cells, Pt.slots] at X2 l2 y2 z2 st2 hQ2
  subst l2 y2 z2
  obtain ⟨rfl, N2q, e2⟩ := hQ2
  have N2 := Fr.app N0 N2q
  have Vo3 := V_a1
  obtain ⟨cl3, Ar3, q3, Sz3, Nn3, Hh3, Gg3⟩ := Vo3
  have hin3 : ¬ (p2 < 0 ∨ cl3.slots.size ≤ (p2).toNatClampNeg) := inb_of Sz3 ⟨hq1, hq2⟩
  have hat3 : cl3.slots[(p2).toNatClampNeg]? = some (.int u) := Has.at Hh3 hin3 hU
  have ia3 := State.isArrayOf_alike hZ.alike Ar3.2.1
  obtain ⟨fs, hr, hrun, hended, hW, hsame⟩ := X2.leave (v := some (.int (nar .char ((u &&& (255 : Int32)).toUInt32.toUInt16.toUInt32.toInt32)))) (fun h => by rw [Bd.returns] at h; cases h)
  refine ⟨_, _, pre0 _ ?_, hrun, hended, _, _, rfl, ?_, ⟨_, rfl⟩, hW, hsame.mono (by decide) (by decide)⟩
  · show SS p e below m s₁ 0 #[vr a1, vi p2] [] _
    refine XS.iloadN X0.here hx rfl (hb hby d36_0) rfl ?_
    show SS p e below m s₁ 1 #[vr a1, vi p2] [(.int p2)] _
    refine XS.aloadN X0.here hx rfl (hb hby d36_1) rfl rfl ?_
    show SS p e below m s₁ 2 #[vr a1, vi p2] [(.ref a1), (.int p2)] _
    refine X0.arraylength hx (by rw [e0]; exact Ar1.1) ia1 (g := (mkF m 2 #[vr a1, vi p2] [(.ref a1), (.int p2)])) rfl rfl (hb hby d36_2) _ ?_
    rw [len_of Sz1 Nn1]
    show SS p e below m s₁ 3 #[vr a1, vi p2] [(.int z), (.int p2)] _
    refine st2 _ ?_
    show SS p e below m T2 6 #[vr a1, vi p2] [] _
    refine XS.aloadN X2.here hx rfl (hb hby d36_6) rfl rfl ?_
    show SS p e below m T2 7 #[vr a1, vi p2] [(.ref a1)] _
    refine XS.iloadN X2.here hx rfl (hb hby d36_7) rfl ?_
    show SS p e below m T2 8 #[vr a1, vi p2] [(.int p2), (.ref a1)] _
    refine X2.baloadBytes hx (j := p2) (v := (.int u)) (by rw [e2]; exact Ar3.1) ia3 Ar3.2.2 hin3 hat3 (g := (mkF m 8 #[vr a1, vi p2] [(.int p2), (.ref a1)])) rfl rfl (hb hby d36_8) _ ?_
    show SS p e below m T2 9 #[vr a1, vi p2] [(.int u)] _
    refine XS.sipush X2.here hx rfl (hb hby d36_9) ?_
    show SS p e below m T2 12 #[vr a1, vi p2] [(.int (255 : Int32)), (.int u)] _
    refine XS.iand X2.here hx rfl (hb hby d36_12) rfl ?_
    show SS p e below m T2 13 #[vr a1, vi p2] [(.int (u &&& (255 : Int32)))] _
    refine XS.i2c X2.here hx rfl (hb hby d36_13) rfl ?_
    show SS p e below m T2 14 #[vr a1, vi p2] [(.int ((u &&& (255 : Int32)).toUInt32.toUInt16.toUInt32.toInt32))] _
    exact retN X2 hx (t := .char) Bd.returns (by simp) (hb hby d36_14) hr
  · show Q_rm_lca Z a1 p2 k z vs u fm h0 n0 _ T2.heap _
    rw [e2]
    exact ⟨(congrArg (fun z => some (Value.int z)) (own_nc _)), N2, rfl⟩
theorem pd_3 : parseMethodDescriptor "()Z" = some ⟨[], some .boolean⟩ := by decide +kernel
theorem pd_4 : parseMethodDescriptor "([BI)C" = some ⟨[(.array .byte), .int], some .char⟩ := by decide +kernel
theorem d34_0 : decode jdk_42_method_56_code 0 = .ok (.aload_n 0, 1) := by decide +kernel
theorem d34_1 : decode jdk_42_method_56_code 1 = .ok (.invokevirtual 492, 3) := by decide +kernel
theorem d34_4 : decode jdk_42_method_56_code 4 = .ok (.ifCond .eq 12, 3) := by decide +kernel
theorem d34_7 : decode jdk_42_method_56_code 7 = .ok (.aload_n 0, 1) := by decide +kernel
theorem d34_8 : decode jdk_42_method_56_code 8 = .ok (.getfield 9, 3) := by decide +kernel
theorem d34_11 : decode jdk_42_method_56_code 11 = .ok (.iload_n 1, 1) := by decide +kernel
theorem d34_12 : decode jdk_42_method_56_code 12 = .ok (.invokestatic 495, 3) := by decide +kernel
theorem d34_15 : decode jdk_42_method_56_code 15 = .ok (.ireturn, 1) := by decide +kernel
theorem ef_rm_cha (m : MethodId) (x0 : Addr) (x1 : Int32) : entryFrame m #[(.ref x0), (.int x1)] 2 = mkF m 0 #[vr x0, vi x1] [] := by first | (simp [entryFrame, mkF, argsToLocals, Value.category]; done) | rfl
def Q_rm_cha (Z : State) (a1 : Addr) (p2 : Int32) (ta : Addr) (k : ClassId) (z : Int32) (vs : List Value) (u : Int32) (zc : Int32) (fm : Value) (h0 : Heap) (n0 : Nat) (v : Option Value) (h : Heap) (L : List Loc) : Prop := (v = some (.int (u &&& (255 : Int32)))) ∧ (Fr n0 L) ∧ (h = h0)
set_option maxRecDepth 65536 in
set_option maxHeartbeats 40000000 in
theorem rm_cha (l : Launch) (Z : State) (a0 : Array Value) (hw : ∀ d ∈ tables_1, d.before a0 Z = true) (ws : List Jvm.Cond) (a1 : Addr) (p2 : Int32) (ta : Addr) (k : ClassId) (z : Int32) (vs : List Value) (u : Int32) (zc : Int32) (fm : Value) (h0 : Heap) (n0 : Nat) (Z0 : n0 ≤ h0.size) (O0 : Old Z n0 h0) (E_a1 : Exa Z h0 a1 "java/lang/String") (F_value_a1 : Fld Z h0 a1 "java/lang/String" "value" "[B" (.ref ta)) (F_coder_a1 : Fld Z h0 a1 "java/lang/String" "coder" "B" (.int (0 : Int32))) (V_ta : Arv Z h0 ta k .byte z vs (.int (0 : Int32))) (S_CS : Sta Z Z.heap "java/lang/String" "COMPACT_STRINGS" "Z" (.int zc)) (hz : ¬ zc = (0 : Int32)) (S_FM : Sta Z Z.heap "jdk/internal/util/Preconditions" "SIOOBE_FORMATTER" "Ljava/util/function/BiFunction;" fm) (hW_fm : fm.isRef = true) (hq1 : ¬ p2 < (0 : Int32)) (hq2 : p2 < z) (hU : vs.getD p2.toNatClampNeg (.int (0 : Int32)) = .int u) :
    MetFree l y_6 (head1 (Jvm.Cond.code y_6 jdk_42_method_56_code 2 (some .char) :: ws) ({ frames := 3, cells := 0, slots := 0, locals := 40 } : Room)) (fun a U => a = #[(.ref a1), (.int p2)] ∧ Z.Warmed39 U.vm ∧ U.heap = h0) (fun _ _ _ _ _ => True) (fun _ U o U' => ∃ v L, o = .returned v ∧ Q_rm_cha Z a1 p2 ta k z vs u zc fm h0 n0 v U'.heap L ∧ FrameEnd U o U' L ({ frames := 3, cells := 0, slots := 0, locals := 40 } : Room).cells ({ frames := 3, cells := 0, slots := 0, locals := 40 } : Room).slots) := by
  refine MetFree.of_bodySF (plainFor_of_name pn_0) hisR ?_
  intro p e s m args below meth c s₁ Bd hml0 hP hK
  obtain ⟨rfl, hZ, hh⟩ := hP
  have hx := Bd.exec
  have hby := Bd.bytes
  have hml : c.maxLocals = 2 := hml0
  have hown : s.vm.findClass "java/lang/String" = some m.cls := findClass_of_methodNamed Bd.named
  have hnm := (name_of_methodNamed Bd.named Bd.method).1
  have X0 : Stand p l e ({ frames := 3, cells := 0, slots := 0, locals := 40 } : Room) s m #[(.ref a1), (.int p2)] below meth c s₁ [] 0 0 := Stand.of_body Bd
  have e0 : s₁.heap = h0 := by rw [← hh, Bd.state]; rfl
  have N0 := Fr.nil n0
  have KC : Keep h0 h0 [] := Keep.refl h0 _
  have pre0 : ∀ t, Steps p.tables e below (s₁.setTop (mkF m 0 #[vr a1, vi p2] [])) t → Steps p.tables e below (s₁.setTop (entryFrame m #[(.ref a1), (.int p2)] 2)) t := fun t k => castTop (ef_rm_cha m a1 p2) k
  obtain ⟨cq1, kq1, q1a, q1b, q1c⟩ := isOf hZ e0 E_a1
  obtain ⟨_, _, ⟨T1, L1, kz1, nz1⟩, -, X1, ⟨Lc1, hQ1, l1, y1, z1⟩, st1⟩ := X0.virtualBack hx (y := y_2) (z := y_2) hown (mvT hZ (ww hw 194 rfl)) (mvT hZ (ww hw 195 rfl)) (notFace_of_selects (args := #[]) (mvT hZ (ww hw 197 rfl))) (mvT hZ (ww hw 197 rfl)) (mvT hZ (ww hw 196 rfl)) (by decide) (backOf (W := 0) (rm_isL l Z a0 hw [] a1 zc h0 n0 (Nat.le_trans Z0 KC.1) O0 F_coder_a1 S_CS hz) hZ (ww hw 198 rfl) (ww hw 3 rfl) (by decide) (by decide)) q1a q1c (g := (mkF m 1 #[vr a1, vi p2] [(.ref a1)])) rfl (by rw [hml]; rfl) (Steps.refl _) (argsL := []) (rest := []) (lenOf pd_3 rfl) rfl (by show 2 * 0 + _ ≤ _; exact Nat.le_of_eq rfl) (hb hby d34_1) (fun _ _ => ⟨rfl, e0, (by decide : 0 + 0 ≤ _), (by decide : 0 + 0 ≤ _)⟩)
  dsimp only [Pt.U, Pt.locs, Pt.cells, Pt.slots] at X1 l1 y1 z1 st1 hQ1
  subst l1 y1 z1
  obtain ⟨rfl, N1q, e1⟩ := hQ1
  have N1 := Fr.app N0 N1q
  obtain ⟨T2, X2, e2, st2⟩ := getF X1 hx hZ hown (host := "") (Or.inl (ww hw 20 rfl)) Via.refl e1 F_value_a1 (g := (mkF m 8 #[vr a1, vi p2] [(.ref a1)])) rfl rfl (hb hby d34_8)
  obtain ⟨_, _, ⟨T3, L3, kz3, nz3⟩, -, X3, ⟨Lc3, hQ3, l3, y3, z3⟩, st3⟩ := Jvm.LawKit.callS X2 hx (y := y_5) hown (mvT hZ (ww hw 199 rfl)) (mvT hZ (ww hw 200 rfl)) (mvT hZ (ww hw 201 rfl)) (mvT hZ (ww hw 202 rfl)) (by decide) (backOf (W := 0) (rm_lca l Z a0 hw [] ta p2 k z vs u fm h0 n0 (Nat.le_trans Z0 KC.1) O0 V_ta S_FM hW_fm hq1 hq2 hU) hZ (ww hw 202 rfl) (ww hw 201 rfl) (by decide) (by decide)) (g := (mkF m 12 #[vr a1, vi p2] [(.int p2), (.ref ta)])) rfl (by rw [hml]; rfl) (argsL := [(.ref ta), (.int p2)]) (rest := []) (lenOf pd_4 rfl) rfl (by show 2 * 0 + _ ≤ _; exact Nat.le_of_eq rfl) (hb hby d34_12) (fun _ _ => ⟨rfl, e2, (by decide : 0 + 0 ≤ _), (by decide : 0 + 0 ≤ _)⟩)
  dsimp only [Pt.U, Pt.locs, Pt.cells, Pt.slots] at X3 l3 y3 z3 st3 hQ3
  subst l3 y3 z3
  obtain ⟨rfl, N3q, e3⟩ := hQ3
  have N3 := Fr.app N1 N3q
  obtain ⟨fs, hr, hrun, hended, hW, hsame⟩ := X3.leave (v := some (.int (nar .char (u &&& (255 : Int32))))) (fun h => by rw [Bd.returns] at h; cases h)
  refine ⟨_, _, pre0 _ ?_, hrun, hended, _, _, rfl, ?_, ⟨_, rfl⟩, hW, hsame.mono (by decide) (by decide)⟩
  · show SS p e below m s₁ 0 #[vr a1, vi p2] [] _
    refine XS.aloadN X0.here hx rfl (hb hby d34_0) rfl rfl ?_
    show SS p e below m s₁ 1 #[vr a1, vi p2] [(.ref a1)] _
    refine st1.trans ?_
    show SS p e below m T1 4 #[vr a1, vi p2] [(.int (1 : Int32))] _
    refine XS.ifNo X1.here hx rfl (hb hby d34_4) rfl ((if0 _ _).trans (feq (by decide)).1) ?_
    show SS p e below m T1 7 #[vr a1, vi p2] [] _
    refine XS.aloadN X1.here hx rfl (hb hby d34_7) rfl rfl ?_
    show SS p e below m T1 8 #[vr a1, vi p2] [(.ref a1)] _
    refine st2 _ ?_
    show SS p e below m T2 11 #[vr a1, vi p2] [(.ref ta)] _
    refine XS.iloadN X2.here hx rfl (hb hby d34_11) rfl ?_
    show SS p e below m T2 12 #[vr a1, vi p2] [(.int p2), (.ref ta)] _
    refine st3 _ ?_
    show SS p e below m T3 15 #[vr a1, vi p2] [(.int (u &&& (255 : Int32)))] _
    exact retN X3 hx (t := .char) Bd.returns (by simp) (hb hby d34_15) hr
  · show Q_rm_cha Z a1 p2 ta k z vs u zc fm h0 n0 _ T3.heap _
    rw [e3]
    exact ⟨(congrArg (fun z => some (Value.int z)) (own_n255 u)), N3, rfl⟩
theorem d10_0 : decode jdk_68_method_2_code 0 = .ok (.aload_n 0, 1) := by decide +kernel
theorem d10_1 : decode jdk_68_method_2_code 1 = .ok (.invokespecial 3, 3) := by decide +kernel
theorem d10_4 : decode jdk_68_method_2_code 4 = .ok (.getstatic 18, 3) := by decide +kernel
theorem d10_7 : decode jdk_68_method_2_code 7 = .ok (.ifCond .eq 18, 3) := by decide +kernel
theorem d10_10 : decode jdk_68_method_2_code 10 = .ok (.aload_n 0, 1) := by decide +kernel
theorem d10_11 : decode jdk_68_method_2_code 11 = .ok (.iload_n 1, 1) := by decide +kernel
theorem d10_12 : decode jdk_68_method_2_code 12 = .ok (.newarray .byte, 2) := by decide +kernel
theorem d10_14 : decode jdk_68_method_2_code 14 = .ok (.putfield 15, 3) := by decide +kernel
theorem d10_17 : decode jdk_68_method_2_code 17 = .ok (.aload_n 0, 1) := by decide +kernel
theorem d10_18 : decode jdk_68_method_2_code 18 = .ok (.iconst 0, 1) := by decide +kernel
theorem d10_19 : decode jdk_68_method_2_code 19 = .ok (.putfield 22, 3) := by decide +kernel
theorem d10_22 : decode jdk_68_method_2_code 22 = .ok (.goto 16, 3) := by decide +kernel
theorem d10_38 : decode jdk_68_method_2_code 38 = .ok (.return_, 1) := by decide +kernel
theorem pn_3 : plainName "java/lang/AbstractStringBuilder" = true := by first | (simp [plainName, overriddenIn]; done) | decide +kernel
theorem ef_rm_abi (m : MethodId) (x0 : Addr) (x1 : Int32) : entryFrame m #[(.ref x0), (.int x1)] 2 = mkF m 0 #[vr x0, vi x1] [] := by first | (simp [entryFrame, mkF, argsToLocals, Value.category]; done) | rfl
def Q_rm_abi (Z : State) (a1 : Addr) (zc : Int32) (h0 : Heap) (n0 : Nat) (v : Option Value) (h : Heap) (L : List Loc) : Prop := ∃ ta : Addr, ∃ k : ClassId, (v = none) ∧ (Fr n0 L) ∧ (Keep h0 h [a1]) ∧ (h0.size ≤ ta) ∧ (Fld Z h a1 "java/lang/AbstractStringBuilder" "value" "[B" (.ref ta)) ∧ (Fld Z h a1 "java/lang/AbstractStringBuilder" "coder" "B" (.int (0 : Int32))) ∧ (Fld Z h a1 "java/lang/AbstractStringBuilder" "count" "I" (.int (0 : Int32))) ∧ (Arv Z h ta k .byte (16 : Int32) [(.int (0 : Int32)), (.int (0 : Int32)), (.int (0 : Int32)), (.int (0 : Int32)), (.int (0 : Int32)), (.int (0 : Int32)), (.int (0 : Int32)), (.int (0 : Int32)), (.int (0 : Int32)), (.int (0 : Int32)), (.int (0 : Int32)), (.int (0 : Int32)), (.int (0 : Int32)), (.int (0 : Int32)), (.int (0 : Int32)), (.int (0 : Int32))] (.int (0 : Int32)))
set_option maxRecDepth 65536 in
set_option maxHeartbeats 40000000 in
theorem rm_abi (l : Launch) (Z : State) (a0 : Array Value) (hw : ∀ d ∈ tables_1, d.before a0 Z = true) (ws : List Jvm.Cond) (a1 : Addr) (zc : Int32) (h0 : Heap) (n0 : Nat) (Z0 : n0 ≤ h0.size) (O0 : Old Z n0 h0) (F_value_a1 : Fld Z h0 a1 "java/lang/AbstractStringBuilder" "value" "[B" .null) (F_coder_a1 : Fld Z h0 a1 "java/lang/AbstractStringBuilder" "coder" "B" (.int (0 : Int32))) (F_count_a1 : Fld Z h0 a1 "java/lang/AbstractStringBuilder" "count" "I" (.int (0 : Int32))) (E_a1 : Exa Z h0 a1 "java/lang/StringBuilder") (g_a1 : n0 ≤ a1) (S_CS : Sta Z Z.heap "java/lang/String" "COMPACT_STRINGS" "Z" (.int zc)) (hz : ¬ zc = (0 : Int32)) :
    MetFree l y_8 (head1 (Jvm.Cond.code y_8 jdk_68_method_2_code 2 none :: ws) ({ frames := 1, cells := 1, slots := 16, locals := 12 } : Room)) (fun a U => a = #[(.ref a1), (.int (16 : Int32))] ∧ Z.Warmed39 U.vm ∧ U.heap = h0) (fun _ _ _ _ _ => True) (fun _ U o U' => ∃ v L, o = .returned v ∧ Q_rm_abi Z a1 zc h0 n0 v U'.heap L ∧ FrameEnd U o U' L ({ frames := 1, cells := 1, slots := 16, locals := 12 } : Room).cells ({ frames := 1, cells := 1, slots := 16, locals := 12 } : Room).slots) := by
  refine MetFree.of_bodySF (plainFor_of_name pn_3) hisR ?_
  intro p e s m args below meth c s₁ Bd hml0 hP hK
  obtain ⟨rfl, hZ, hh⟩ := hP
  have hx := Bd.exec
  have hby := Bd.bytes
  have hml : c.maxLocals = 2 := hml0
  have hown : s.vm.findClass "java/lang/AbstractStringBuilder" = some m.cls := findClass_of_methodNamed Bd.named
  have hnm := (name_of_methodNamed Bd.named Bd.method).1
  have X0 : Stand p l e ({ frames := 1, cells := 1, slots := 16, locals := 12 } : Room) s m #[(.ref a1), (.int (16 : Int32))] below meth c s₁ [] 0 0 := Stand.of_body Bd
  have e0 : s₁.heap = h0 := by rw [← hh, Bd.state]; rfl
  have N0 := Fr.nil n0
  have KC : Keep h0 h0 [a1] := Keep.refl h0 _
  have pre0 : ∀ t, Steps p.tables e below (s₁.setTop (mkF m 0 #[vr a1, vi (16 : Int32)] [])) t → Steps p.tables e below (s₁.setTop (entryFrame m #[(.ref a1), (.int (16 : Int32))] 2)) t := fun t k => castTop (ef_rm_abi m a1 (16 : Int32)) k
  obtain ⟨T1, X1, e1, st1⟩ := initO X0 hx hZ hown (ww hw 62 rfl) (ww hw 12 rfl) (ww hw 13 rfl) e0 (g := (mkF m 1 #[vr a1, vi (16 : Int32)] [(.ref a1)])) rfl (by rw [hml]; rfl) rfl (hb hby d10_1) (by decide) (W := 0) (by show 2 * 0 + _ ≤ _; exact Nat.le_of_eq rfl) (by decide)
  obtain ⟨T2, X2, e2, st2⟩ := getS2 X1 hx hZ hown (host := "") (Or.inl (ww hw 63 rfl)) Via.refl e1 (S_CS.ext O0.2) (g := (mkF m 4 #[vr a1, vi (16 : Int32)] [])) rfl (hb hby d10_4)
  obtain ⟨T3, h3, k3, X3, e3, E3, A3, st3⟩ := newP X2 hx hZ (ww hw 15 rfl) e2 (g := (mkF m 12 #[vr a1, vi (16 : Int32)] [(.int (16 : Int32)), (.ref a1)])) rfl (hb hby d10_12) rfl (by decide) (cap := 16) (by decide) (by decide) (by decide) (by decide)
  obtain ⟨b3, g3⟩ : ∃ z, z = h0.size := ⟨_, rfl⟩
  rw [← g3] at A3 st3
  have ne_a1_b3 : a1 ≠ b3 := Nat.ne_of_lt (Nat.lt_of_lt_of_le F_value_a1.lt (Nat.le_of_eq g3.symm))
  have g_b3 : n0 ≤ b3 := Nat.le_trans (Nat.le_trans Z0 KC.1) (Nat.le_of_eq g3.symm)
  have sz_b3 : h0.size ≤ b3 := Nat.le_trans KC.1 (Nat.le_of_eq g3.symm)
  replace F_value_a1 := F_value_a1.ext E3
  replace F_coder_a1 := F_coder_a1.ext E3
  replace F_count_a1 := F_count_a1.ext E3
  replace E_a1 := E_a1.ext E3
  replace O0 := O0.ext E3
  replace KC := KC.ext E3
  have V_b3 : Arv Z h3 b3 k3 .byte (16 : Int32) [(.int (0 : Int32)), (.int (0 : Int32)), (.int (0 : Int32)), (.int (0 : Int32)), (.int (0 : Int32)), (.int (0 : Int32)), (.int (0 : Int32)), (.int (0 : Int32)), (.int (0 : Int32)), (.int (0 : Int32)), (.int (0 : Int32)), (.int (0 : Int32)), (.int (0 : Int32)), (.int (0 : Int32)), (.int (0 : Int32)), (.int (0 : Int32))] (.int (0 : Int32)) := (Arv.new A3 (by decide)).pad (pad_rep [] (.int (0 : Int32)) 16)
  obtain ⟨T4, h4, X4, e4, W4, st4⟩ := putF X3 hx hZ hown (host := "") (Or.inl (ww hw 64 rfl)) Via.refl e3 F_value_a1 E_a1 (Or.inl (ww hw 65 rfl)) (ww hw 51 rfl) (ty := (.array .byte)) (by decide) rfl rfl (g := (mkF m 14 #[vr a1, vi (16 : Int32)] [(.ref b3), (.ref a1)])) rfl rfl (hb hby d10_14)
  have N4 := Fr.snoc X4 N0 g_a1
  replace F_value_a1 := F_value_a1.same W4
  replace F_coder_a1 := F_coder_a1.other W4 (Or.inr (slot_ne (Or.inl (ww hw 67 rfl)) (Or.inl (ww hw 65 rfl)) (by decide) (t := .byte) (t' := (.array .byte)) (by decide) (by decide)))
  replace F_count_a1 := F_count_a1.other W4 (Or.inr (slot_ne (Or.inl (ww hw 80 rfl)) (Or.inl (ww hw 65 rfl)) (by decide) (t := .int) (t' := (.array .byte)) (by decide) (by decide)))
  replace E_a1 := E_a1.wr W4
  replace V_b3 := V_b3.other W4 (Ne.symm ne_a1_b3)
  replace O0 := O0.wr W4 g_a1
  replace KC := KC.wr W4 (Or.inl (List.mem_of_getElem? (i := 0) rfl))
  obtain ⟨T5, h5, X5, e5, W5, st5⟩ := putFN X4 hx hZ hown (ww hw 66 rfl) Via.refl e4 F_coder_a1 E_a1 (Or.inl (ww hw 67 rfl)) (ww hw 51 rfl) (ty := .byte) (v' := .int (0 : Int32)) (by decide) rfl rfl (g := (mkF m 19 #[vr a1, vi (16 : Int32)] [(.int (0 : Int32)), (.ref a1)])) rfl rfl (hb hby d10_19)
  have N5 := Fr.snoc X5 N4 g_a1
  replace F_coder_a1 := F_coder_a1.same W5
  replace F_value_a1 := F_value_a1.other W5 (Or.inr (slot_ne (Or.inl (ww hw 65 rfl)) (Or.inl (ww hw 67 rfl)) (by decide) (t := (.array .byte)) (t' := .byte) (by decide) (by decide)))
  replace F_count_a1 := F_count_a1.other W5 (Or.inr (slot_ne (Or.inl (ww hw 80 rfl)) (Or.inl (ww hw 67 rfl)) (by decide) (t := .int) (t' := .byte) (by decide) (by decide)))
  replace E_a1 := E_a1.wr W5
  replace V_b3 := V_b3.other W5 (Ne.symm ne_a1_b3)
  replace O0 := O0.wr W5 g_a1
  replace KC := KC.wr W5 (Or.inl (List.mem_of_getElem? (i := 0) rfl))
  obtain ⟨fs, hr, hrun, hended, hW, hsame⟩ := X5.leave (v := none) (fun _ => rfl)
  refine ⟨_, _, pre0 _ ?_, hrun, hended, _, _, rfl, ?_, ⟨_, rfl⟩, hW, hsame.mono (by decide) (by decide)⟩
  · show SS p e below m s₁ 0 #[vr a1, vi (16 : Int32)] [] _
    refine XS.aloadN X0.here hx rfl (hb hby d10_0) rfl rfl ?_
    show SS p e below m s₁ 1 #[vr a1, vi (16 : Int32)] [(.ref a1)] _
    refine st1 _ ?_
    show SS p e below m T1 4 #[vr a1, vi (16 : Int32)] [] _
    refine st2 _ ?_
    show SS p e below m T2 7 #[vr a1, vi (16 : Int32)] [(.int zc)] _
    refine XS.ifNo X2.here hx rfl (hb hby d10_7) rfl ((if0 _ _).trans (feq hz).1) ?_
    show SS p e below m T2 10 #[vr a1, vi (16 : Int32)] [] _
    refine XS.aloadN X2.here hx rfl (hb hby d10_10) rfl rfl ?_
    show SS p e below m T2 11 #[vr a1, vi (16 : Int32)] [(.ref a1)] _
    refine XS.iloadN X2.here hx rfl (hb hby d10_11) rfl ?_
    show SS p e below m T2 12 #[vr a1, vi (16 : Int32)] [(.int (16 : Int32)), (.ref a1)] _
    refine st3 _ ?_
    show SS p e below m T3 14 #[vr a1, vi (16 : Int32)] [(.ref b3), (.ref a1)] _
    refine st4 _ ?_
    show SS p e below m T4 17 #[vr a1, vi (16 : Int32)] [] _
    refine XS.aloadN X4.here hx rfl (hb hby d10_17) rfl rfl ?_
    show SS p e below m T4 18 #[vr a1, vi (16 : Int32)] [(.ref a1)] _
    refine XS.iconst X4.here hx rfl (hb hby d10_18) ?_
    show SS p e below m T4 19 #[vr a1, vi (16 : Int32)] [(.int (0 : Int32)), (.ref a1)] _
    refine st5 _ ?_
    show SS p e below m T5 22 #[vr a1, vi (16 : Int32)] [] _
    refine XS.goto X5.here hx rfl (pc0 := 22) (pc' := 38) rfl (hb hby d10_22) (by decide) (by decide) ?_
    show SS p e below m T5 38 #[vr a1, vi (16 : Int32)] [] _
    exact X5.returnOut hx Bd.returns (hb hby d10_38) hr
  · show Q_rm_abi Z a1 zc h0 n0 _ T5.heap _
    rw [e5]
    exact ⟨b3, k3, rfl, N5, KC, sz_b3, F_value_a1, F_coder_a1, F_count_a1, V_b3⟩
theorem pd_5 : parseMethodDescriptor "(I)V" = some ⟨[.int], none⟩ := by decide +kernel
theorem d9_0 : decode jdk_67_method_1_code 0 = .ok (.aload_n 0, 1) := by decide +kernel
theorem d9_1 : decode jdk_67_method_1_code 1 = .ok (.bipush 16, 2) := by decide +kernel
theorem d9_3 : decode jdk_67_method_1_code 3 = .ok (.invokespecial 1, 3) := by decide +kernel
theorem d9_6 : decode jdk_67_method_1_code 6 = .ok (.return_, 1) := by decide +kernel
theorem pn_4 : plainName "java/lang/StringBuilder" = true := by first | (simp [plainName, overriddenIn]; done) | decide +kernel
theorem ef_rm_sbi (m : MethodId) (x0 : Addr) : entryFrame m #[(.ref x0)] 1 = mkF m 0 #[vr x0] [] := by first | (simp [entryFrame, mkF, argsToLocals, Value.category]; done) | rfl
def Q_rm_sbi (Z : State) (a1 : Addr) (zc : Int32) (h0 : Heap) (n0 : Nat) (v : Option Value) (h : Heap) (L : List Loc) : Prop := ∃ ta : Addr, ∃ k : ClassId, (v = none) ∧ (Fr n0 L) ∧ (Keep h0 h [a1]) ∧ (h0.size ≤ ta) ∧ (Fld Z h a1 "java/lang/AbstractStringBuilder" "value" "[B" (.ref ta)) ∧ (Fld Z h a1 "java/lang/AbstractStringBuilder" "coder" "B" (.int (0 : Int32))) ∧ (Fld Z h a1 "java/lang/AbstractStringBuilder" "count" "I" (.int (0 : Int32))) ∧ (Arv Z h ta k .byte (16 : Int32) [(.int (0 : Int32)), (.int (0 : Int32)), (.int (0 : Int32)), (.int (0 : Int32)), (.int (0 : Int32)), (.int (0 : Int32)), (.int (0 : Int32)), (.int (0 : Int32)), (.int (0 : Int32)), (.int (0 : Int32)), (.int (0 : Int32)), (.int (0 : Int32)), (.int (0 : Int32)), (.int (0 : Int32)), (.int (0 : Int32)), (.int (0 : Int32))] (.int (0 : Int32)))
set_option maxRecDepth 65536 in
set_option maxHeartbeats 40000000 in
theorem rm_sbi (l : Launch) (Z : State) (a0 : Array Value) (hw : ∀ d ∈ tables_1, d.before a0 Z = true) (ws : List Jvm.Cond) (a1 : Addr) (zc : Int32) (h0 : Heap) (n0 : Nat) (Z0 : n0 ≤ h0.size) (O0 : Old Z n0 h0) (F_value_a1 : Fld Z h0 a1 "java/lang/AbstractStringBuilder" "value" "[B" .null) (F_coder_a1 : Fld Z h0 a1 "java/lang/AbstractStringBuilder" "coder" "B" (.int (0 : Int32))) (F_count_a1 : Fld Z h0 a1 "java/lang/AbstractStringBuilder" "count" "I" (.int (0 : Int32))) (E_a1 : Exa Z h0 a1 "java/lang/StringBuilder") (g_a1 : n0 ≤ a1) (S_CS : Sta Z Z.heap "java/lang/String" "COMPACT_STRINGS" "Z" (.int zc)) (hz : ¬ zc = (0 : Int32)) :
    MetFree l y_9 (head1 (Jvm.Cond.code y_9 jdk_67_method_1_code 1 none :: ws) ({ frames := 2, cells := 1, slots := 16, locals := 25 } : Room)) (fun a U => a = #[(.ref a1)] ∧ Z.Warmed39 U.vm ∧ U.heap = h0) (fun _ _ _ _ _ => True) (fun _ U o U' => ∃ v L, o = .returned v ∧ Q_rm_sbi Z a1 zc h0 n0 v U'.heap L ∧ FrameEnd U o U' L ({ frames := 2, cells := 1, slots := 16, locals := 25 } : Room).cells ({ frames := 2, cells := 1, slots := 16, locals := 25 } : Room).slots) := by
  refine MetFree.of_bodySF (plainFor_of_name pn_4) hisR ?_
  intro p e s m args below meth c s₁ Bd hml0 hP hK
  obtain ⟨rfl, hZ, hh⟩ := hP
  have hx := Bd.exec
  have hby := Bd.bytes
  have hml : c.maxLocals = 1 := hml0
  have hown : s.vm.findClass "java/lang/StringBuilder" = some m.cls := findClass_of_methodNamed Bd.named
  have hnm := (name_of_methodNamed Bd.named Bd.method).1
  have X0 : Stand p l e ({ frames := 2, cells := 1, slots := 16, locals := 25 } : Room) s m #[(.ref a1)] below meth c s₁ [] 0 0 := Stand.of_body Bd
  have e0 : s₁.heap = h0 := by rw [← hh, Bd.state]; rfl
  have N0 := Fr.nil n0
  have KC : Keep h0 h0 [a1] := Keep.refl h0 _
  have pre0 : ∀ t, Steps p.tables e below (s₁.setTop (mkF m 0 #[vr a1] [])) t → Steps p.tables e below (s₁.setTop (entryFrame m #[(.ref a1)] 1)) t := fun t k => castTop (ef_rm_sbi m a1) k
  obtain ⟨_, _, ⟨T1, L1, kz1, nz1⟩, -, X1, ⟨Lc1, hQ1, l1, y1, z1⟩, st1⟩ := X0.specialBack hx (y := y_8) rfl hown (mvT hZ (ww hw 56 rfl)) (mvT hZ (ww hw 57 rfl)) (mvT hZ (ww hw 61 rfl)) (by decide) (backOf (W := 0) (rm_abi l Z a0 hw [] a1 zc h0 n0 (Nat.le_trans Z0 KC.1) O0 F_value_a1 F_coder_a1 F_count_a1 E_a1 g_a1 S_CS hz) hZ (ww hw 61 rfl) (ww hw 60 rfl) (by decide) (by decide)) (g := (mkF m 3 #[vr a1] [(.int (16 : Int32)), (.ref a1)])) rfl (by rw [hml]; rfl) (Steps.refl _) (a := a1) (argsL := [(.int (16 : Int32))]) (rest := []) (lenOf pd_5 rfl) rfl (by show 2 * 0 + _ ≤ _; exact Nat.le_of_eq rfl) (hb hby d9_3) (fun _ _ => ⟨rfl, e0, (by decide : 0 + 1 ≤ _), (by decide : 0 + 16 ≤ _)⟩)
  dsimp only [Pt.U, Pt.locs, Pt.cells, Pt.slots] at X1 l1 y1 z1 st1 hQ1
  subst l1 y1 z1
  obtain ⟨b1_ta, k_1, rfl, N1q, K1, sz_b1_ta, F_value_a1_1, F_coder_a1_1, F_count_a1_1, V_ta_1⟩ := hQ1
  have N1 := Fr.app N0 N1q
  have ne_a1_b1_ta : a1 ≠ b1_ta := Nat.ne_of_lt (Nat.lt_of_lt_of_le F_value_a1.lt sz_b1_ta)
  have g_b1_ta : n0 ≤ b1_ta := Nat.le_trans (Nat.le_trans Z0 KC.1) sz_b1_ta
  replace sz_b1_ta : h0.size ≤ b1_ta := Nat.le_trans KC.1 sz_b1_ta
  replace E_a1 := E_a1.keep K1
  replace O0 := O0.keep K1 (allS g_a1 all0)
  replace KC := KC.trans K1 (allS (Or.inl (List.mem_of_getElem? (i := 0) rfl)) all0)
  obtain ⟨fs, hr, hrun, hended, hW, hsame⟩ := X1.leave (v := none) (fun _ => rfl)
  refine ⟨_, _, pre0 _ ?_, hrun, hended, _, _, rfl, ?_, ⟨_, rfl⟩, hW, hsame.mono (by decide) (by decide)⟩
  · show SS p e below m s₁ 0 #[vr a1] [] _
    refine XS.aloadN X0.here hx rfl (hb hby d9_0) rfl rfl ?_
    show SS p e below m s₁ 1 #[vr a1] [(.ref a1)] _
    refine XS.bipush X0.here hx rfl (hb hby d9_1) ?_
    show SS p e below m s₁ 3 #[vr a1] [(.int (16 : Int32)), (.ref a1)] _
    refine st1.trans ?_
    show SS p e below m T1 6 #[vr a1] [] _
    exact X1.returnOut hx Bd.returns (hb hby d9_6) hr
  · show Q_rm_sbi Z a1 zc h0 n0 _ T1.heap _
    exact ⟨b1_ta, k_1, rfl, N1, KC, sz_b1_ta, F_value_a1_1, F_coder_a1_1, F_count_a1_1, V_ta_1⟩
theorem d13_0 : decode jdk_68_method_9_code 0 = .ok (.aload_n 0, 1) := by decide +kernel
theorem d13_1 : decode jdk_68_method_9_code 1 = .ok (.getfield 15, 3) := by decide +kernel
theorem d13_4 : decode jdk_68_method_9_code 4 = .ok (.arraylength, 1) := by decide +kernel
theorem d13_5 : decode jdk_68_method_9_code 5 = .ok (.aload_n 0, 1) := by decide +kernel
theorem d13_6 : decode jdk_68_method_9_code 6 = .ok (.getfield 22, 3) := by decide +kernel
theorem d13_9 : decode jdk_68_method_9_code 9 = .ok (.ishr, 1) := by decide +kernel
theorem d13_10 : decode jdk_68_method_9_code 10 = .ok (.istore_n 2, 1) := by decide +kernel
theorem d13_11 : decode jdk_68_method_9_code 11 = .ok (.iload_n 1, 1) := by decide +kernel
theorem d13_12 : decode jdk_68_method_9_code 12 = .ok (.iload_n 2, 1) := by decide +kernel
theorem d13_13 : decode jdk_68_method_9_code 13 = .ok (.isub, 1) := by decide +kernel
theorem d13_14 : decode jdk_68_method_9_code 14 = .ok (.ifCond .le 24, 3) := by decide +kernel
theorem d13_38 : decode jdk_68_method_9_code 38 = .ok (.return_, 1) := by decide +kernel
theorem ef_rm_ens (m : MethodId) (x0 : Addr) (x1 : Int32) : entryFrame m #[(.ref x0), (.int x1)] 3 = mkF m 0 #[vr x0, vi x1, .unset] [] := by first | (simp [entryFrame, mkF, argsToLocals, Value.category]; done) | rfl
def Q_rm_ens (Z : State) (a1 : Addr) (p2 : Int32) (ta : Addr) (k : ClassId) (vs : List Value) (h0 : Heap) (n0 : Nat) (v : Option Value) (h : Heap) (L : List Loc) : Prop := (v = none) ∧ (Fr n0 L) ∧ (h = h0)
set_option maxRecDepth 65536 in
set_option maxHeartbeats 40000000 in
theorem rm_ens (l : Launch) (Z : State) (a0 : Array Value) (hw : ∀ d ∈ tables_1, d.before a0 Z = true) (ws : List Jvm.Cond) (a1 : Addr) (p2 : Int32) (ta : Addr) (k : ClassId) (vs : List Value) (h0 : Heap) (n0 : Nat) (Z0 : n0 ≤ h0.size) (O0 : Old Z n0 h0) (F_value_a1 : Fld Z h0 a1 "java/lang/AbstractStringBuilder" "value" "[B" (.ref ta)) (F_coder_a1 : Fld Z h0 a1 "java/lang/AbstractStringBuilder" "coder" "B" (.int (0 : Int32))) (V_ta : Arv Z h0 ta k .byte (16 : Int32) vs (.int (0 : Int32))) (hle : ¬ (0 : Int32) < (p2 - (16 : Int32))) :
    MetFree l y_10 (head1 (Jvm.Cond.code y_10 jdk_68_method_9_code 3 none :: ws) ({ frames := 0, cells := 0, slots := 0, locals := 0 } : Room)) (fun a U => a = #[(.ref a1), (.int p2)] ∧ Z.Warmed39 U.vm ∧ U.heap = h0) (fun _ _ _ _ _ => True) (fun _ U o U' => ∃ v L, o = .returned v ∧ Q_rm_ens Z a1 p2 ta k vs h0 n0 v U'.heap L ∧ FrameEnd U o U' L ({ frames := 0, cells := 0, slots := 0, locals := 0 } : Room).cells ({ frames := 0, cells := 0, slots := 0, locals := 0 } : Room).slots) := by
  refine MetFree.of_bodySF (plainFor_of_name pn_3) hisR ?_
  intro p e s m args below meth c s₁ Bd hml0 hP hK
  obtain ⟨rfl, hZ, hh⟩ := hP
  have hx := Bd.exec
  have hby := Bd.bytes
  have hml : c.maxLocals = 3 := hml0
  have hown : s.vm.findClass "java/lang/AbstractStringBuilder" = some m.cls := findClass_of_methodNamed Bd.named
  have hnm := (name_of_methodNamed Bd.named Bd.method).1
  have X0 : Stand p l e ({ frames := 0, cells := 0, slots := 0, locals := 0 } : Room) s m #[(.ref a1), (.int p2)] below meth c s₁ [] 0 0 := Stand.of_body Bd
  have e0 : s₁.heap = h0 := by rw [← hh, Bd.state]; rfl
  have N0 := Fr.nil n0
  have KC : Keep h0 h0 [] := Keep.refl h0 _
  have pre0 : ∀ t, Steps p.tables e below (s₁.setTop (mkF m 0 #[vr a1, vi p2, un] [])) t → Steps p.tables e below (s₁.setTop (entryFrame m #[(.ref a1), (.int p2)] 3)) t := fun t k => castTop (ef_rm_ens m a1 p2) k
  obtain ⟨T1, X1, e1, st1⟩ := getF X0 hx hZ hown (host := "") (Or.inl (ww hw 64 rfl)) Via.refl e0 F_value_a1 (g := (mkF m 1 #[vr a1, vi p2, un] [(.ref a1)])) rfl rfl (hb hby d13_1)
  have Vo2 := V_ta
  obtain ⟨cl2, Ar2, -, Sz2, Nn2, -, -⟩ := Vo2
  have ia2 := State.isArrayOf_alike hZ.alike Ar2.2.1
  obtain ⟨T3, X3, e3, st3⟩ := getF X1 hx hZ hown (host := "") (Or.inl (ww hw 66 rfl)) Via.refl e1 F_coder_a1 (g := (mkF m 6 #[vr a1, vi p2, un] [(.ref a1), (.int (16 : Int32))])) rfl rfl (hb hby d13_6)
  have pre4 : ∀ t, Steps p.tables e below (T3.setTop (mkF m 10 #[vr a1, vi p2, un] [(.int ((16 : Int32) >>> ((0 : Int32) &&& 31)))])) t → Steps p.tables e below (s₁.setTop (entryFrame m #[(.ref a1), (.int p2)] 3)) t := by
    intro t kt
    refine pre0 t ?_
    show SS p e below m s₁ 0 #[vr a1, vi p2, un] [] _
    refine XS.aloadN X0.here hx rfl (hb hby d13_0) rfl rfl ?_
    show SS p e below m s₁ 1 #[vr a1, vi p2, un] [(.ref a1)] _
    refine st1 _ ?_
    show SS p e below m T1 4 #[vr a1, vi p2, un] [(.ref ta)] _
    refine X1.arraylength hx (by rw [e1]; exact Ar2.1) ia2 (g := (mkF m 4 #[vr a1, vi p2, un] [(.ref ta)])) rfl rfl (hb hby d13_4) _ ?_
    rw [len_of Sz2 Nn2]
    show SS p e below m T1 5 #[vr a1, vi p2, un] [(.int (16 : Int32))] _
    refine XS.aloadN X1.here hx rfl (hb hby d13_5) rfl rfl ?_
    show SS p e below m T1 6 #[vr a1, vi p2, un] [(.ref a1), (.int (16 : Int32))] _
    refine st3 _ ?_
    show SS p e below m T3 9 #[vr a1, vi p2, un] [(.int (0 : Int32)), (.int (16 : Int32))] _
    refine XS.ishr X3.here hx rfl (hb hby d13_9) rfl ?_
    exact kt
  rw [(own_shr0 _)] at pre4
  obtain ⟨fs, hr, hrun, hended, hW, hsame⟩ := X3.leave (v := none) (fun _ => rfl)
  refine ⟨_, _, pre4 _ ?_, hrun, hended, _, _, rfl, ?_, ⟨_, rfl⟩, hW, hsame.mono (by decide) (by decide)⟩
  · show SS p e below m T3 10 #[vr a1, vi p2, un] [(.int (16 : Int32))] _
    refine XS.istoreN X3.here hx rfl (hb hby d13_10) rfl (l' := #[vr a1, vi p2, vi (16 : Int32)]) rfl ?_
    show SS p e below m T3 11 #[vr a1, vi p2, vi (16 : Int32)] [] _
    refine XS.iloadN X3.here hx rfl (hb hby d13_11) rfl ?_
    show SS p e below m T3 12 #[vr a1, vi p2, vi (16 : Int32)] [(.int p2)] _
    refine XS.iloadN X3.here hx rfl (hb hby d13_12) rfl ?_
    show SS p e below m T3 13 #[vr a1, vi p2, vi (16 : Int32)] [(.int (16 : Int32)), (.int p2)] _
    refine XS.isub X3.here hx rfl (hb hby d13_13) rfl ?_
    show SS p e below m T3 14 #[vr a1, vi p2, vi (16 : Int32)] [(.int (p2 - (16 : Int32)))] _
    refine XS.ifYes X3.here hx rfl (pc0 := 14) (pc' := 38) rfl (hb hby d13_14) rfl ((if0 _ _).trans (flt hle).2.2.2) (by decide) (by decide) ?_
    show SS p e below m T3 38 #[vr a1, vi p2, vi (16 : Int32)] [] _
    exact X3.returnOut hx Bd.returns (hb hby d13_38) hr
  · show Q_rm_ens Z a1 p2 ta k vs h0 n0 _ T3.heap _
    rw [e3]
    exact ⟨rfl, N0, rfl⟩
theorem d15_0 : decode jdk_68_method_71_code 0 = .ok (.getstatic 18, 3) := by decide +kernel
theorem d15_3 : decode jdk_68_method_71_code 3 = .ok (.ifCond .eq 18, 3) := by decide +kernel
theorem d15_6 : decode jdk_68_method_71_code 6 = .ok (.aload_n 0, 1) := by decide +kernel
theorem d15_7 : decode jdk_68_method_71_code 7 = .ok (.getfield 22, 3) := by decide +kernel
theorem d15_10 : decode jdk_68_method_71_code 10 = .ok (.aload_n 1, 1) := by decide +kernel
theorem d15_11 : decode jdk_68_method_71_code 11 = .ok (.invokevirtual 40, 3) := by decide +kernel
theorem d15_14 : decode jdk_68_method_71_code 14 = .ok (.if_icmp .eq 7, 3) := by decide +kernel
theorem d15_21 : decode jdk_68_method_71_code 21 = .ok (.return_, 1) := by decide +kernel
theorem ef_rm_inf (m : MethodId) (x0 : Addr) (x1 : Addr) : entryFrame m #[(.ref x0), (.ref x1)] 2 = mkF m 0 #[vr x0, vr x1] [] := by first | (simp [entryFrame, mkF, argsToLocals, Value.category]; done) | rfl
def Q_rm_inf (Z : State) (a1 : Addr) (a2 : Addr) (zc : Int32) (h0 : Heap) (n0 : Nat) (v : Option Value) (h : Heap) (L : List Loc) : Prop := (v = none) ∧ (Fr n0 L) ∧ (h = h0)
set_option maxRecDepth 65536 in
set_option maxHeartbeats 40000000 in
theorem rm_inf (l : Launch) (Z : State) (a0 : Array Value) (hw : ∀ d ∈ tables_1, d.before a0 Z = true) (ws : List Jvm.Cond) (a1 : Addr) (a2 : Addr) (zc : Int32) (h0 : Heap) (n0 : Nat) (Z0 : n0 ≤ h0.size) (O0 : Old Z n0 h0) (F_coder_a1 : Fld Z h0 a1 "java/lang/AbstractStringBuilder" "coder" "B" (.int (0 : Int32))) (E_a2 : Exa Z h0 a2 "java/lang/String") (F_coder_a2 : Fld Z h0 a2 "java/lang/String" "coder" "B" (.int (0 : Int32))) (S_CS : Sta Z Z.heap "java/lang/String" "COMPACT_STRINGS" "Z" (.int zc)) (hz : ¬ zc = (0 : Int32)) :
    MetFree l y_11 (head1 (Jvm.Cond.code y_11 jdk_68_method_71_code 2 none :: ws) ({ frames := 1, cells := 0, slots := 0, locals := 13 } : Room)) (fun a U => a = #[(.ref a1), (.ref a2)] ∧ Z.Warmed39 U.vm ∧ U.heap = h0) (fun _ _ _ _ _ => True) (fun _ U o U' => ∃ v L, o = .returned v ∧ Q_rm_inf Z a1 a2 zc h0 n0 v U'.heap L ∧ FrameEnd U o U' L ({ frames := 1, cells := 0, slots := 0, locals := 13 } : Room).cells ({ frames := 1, cells := 0, slots := 0, locals := 13 } : Room).slots) := by
  refine MetFree.of_bodySF (plainFor_of_name pn_3) hisR ?_
  intro p e s m args below meth c s₁ Bd hml0 hP hK
  obtain ⟨rfl, hZ, hh⟩ := hP
  have hx := Bd.exec
  have hby := Bd.bytes
  have hml : c.maxLocals = 2 := hml0
  have hown : s.vm.findClass "java/lang/AbstractStringBuilder" = some m.cls := findClass_of_methodNamed Bd.named
  have hnm := (name_of_methodNamed Bd.named Bd.method).1
  have X0 : Stand p l e ({ frames := 1, cells := 0, slots := 0, locals := 13 } : Room) s m #[(.ref a1), (.ref a2)] below meth c s₁ [] 0 0 := Stand.of_body Bd
  have e0 : s₁.heap = h0 := by rw [← hh, Bd.state]; rfl
  have N0 := Fr.nil n0
  have KC : Keep h0 h0 [] := Keep.refl h0 _
  have pre0 : ∀ t, Steps p.tables e below (s₁.setTop (mkF m 0 #[vr a1, vr a2] [])) t → Steps p.tables e below (s₁.setTop (entryFrame m #[(.ref a1), (.ref a2)] 2)) t := fun t k => castTop (ef_rm_inf m a1 a2) k
  obtain ⟨T1, X1, e1, st1⟩ := getS2 X0 hx hZ hown (host := "") (Or.inl (ww hw 63 rfl)) Via.refl e0 (S_CS.ext O0.2) (g := (mkF m 0 #[vr a1, vr a2] [])) rfl (hb hby d15_0)
  obtain ⟨T2, X2, e2, st2⟩ := getF X1 hx hZ hown (host := "") (Or.inl (ww hw 66 rfl)) Via.refl e1 F_coder_a1 (g := (mkF m 7 #[vr a1, vr a2] [(.ref a1)])) rfl rfl (hb hby d15_7)
  obtain ⟨cq3, kq3, q3a, q3b, q3c⟩ := isOf hZ e2 E_a2
  obtain ⟨_, _, ⟨T3, L3, kz3, nz3⟩, -, X3, ⟨Lc3, hQ3, l3, y3, z3⟩, st3⟩ := X2.virtualBack hx (y := y_0) (z := y_0) hown (mvT hZ (ww hw 96 rfl)) (mvT hZ (ww hw 38 rfl)) (notFace_of_selects (args := #[]) (mvT hZ (ww hw 40 rfl))) (mvT hZ (ww hw 40 rfl)) (mvT hZ (ww hw 39 rfl)) (by decide) (backOf (W := 1) (rm_coder l Z a0 hw [] a2 zc h0 n0 (Nat.le_trans Z0 KC.1) O0 F_coder_a2 S_CS hz) hZ (ww hw 41 rfl) (ww hw 3 rfl) (by decide) (by decide)) q3a q3c (g := (mkF m 11 #[vr a1, vr a2] [(.ref a2), (.int (0 : Int32))])) rfl (by rw [hml]; rfl) (Steps.refl _) (argsL := []) (rest := [(.int (0 : Int32))]) (lenOf pd_0 rfl) rfl (by show 2 * 0 + _ ≤ _; exact Nat.le_of_eq rfl) (hb hby d15_11) (fun _ _ => ⟨rfl, e2, (by decide : 0 + 0 ≤ _), (by decide : 0 + 0 ≤ _)⟩)
  dsimp only [Pt.U, Pt.locs, Pt.cells, Pt.slots] at X3 l3 y3 z3 st3 hQ3
  subst l3 y3 z3
  obtain ⟨rfl, N3q, e3⟩ := hQ3
  have N3 := Fr.app N0 N3q
  obtain ⟨fs, hr, hrun, hended, hW, hsame⟩ := X3.leave (v := none) (fun _ => rfl)
  refine ⟨_, _, pre0 _ ?_, hrun, hended, _, _, rfl, ?_, ⟨_, rfl⟩, hW, hsame.mono (by decide) (by decide)⟩
  · show SS p e below m s₁ 0 #[vr a1, vr a2] [] _
    refine st1 _ ?_
    show SS p e below m T1 3 #[vr a1, vr a2] [(.int zc)] _
    refine XS.ifNo X1.here hx rfl (hb hby d15_3) rfl ((if0 _ _).trans (feq hz).1) ?_
    show SS p e below m T1 6 #[vr a1, vr a2] [] _
    refine XS.aloadN X1.here hx rfl (hb hby d15_6) rfl rfl ?_
    show SS p e below m T1 7 #[vr a1, vr a2] [(.ref a1)] _
    refine st2 _ ?_
    show SS p e below m T2 10 #[vr a1, vr a2] [(.int (0 : Int32))] _
    refine XS.aloadN X2.here hx rfl (hb hby d15_10) rfl rfl ?_
    show SS p e below m T2 11 #[vr a1, vr a2] [(.ref a2), (.int (0 : Int32))] _
    refine st3.trans ?_
    show SS p e below m T3 14 #[vr a1, vr a2] [(.int (0 : Int32)), (.int (0 : Int32))] _
    refine XS.icmpYes X3.here hx rfl (pc0 := 14) (pc' := 21) rfl (hb hby d15_14) rfl (teq (by decide)).1 (by decide) (by decide) ?_
    show SS p e below m T3 21 #[vr a1, vr a2] [] _
    exact X3.returnOut hx Bd.returns (hb hby d15_21) hr
  · show Q_rm_inf Z a1 a2 zc h0 n0 _ T3.heap _
    rw [e3]
    exact ⟨rfl, N3, rfl⟩
theorem d16_0 : decode jdk_42_method_147_code 0 = .ok (.aload_n 0, 1) := by decide +kernel
theorem d16_1 : decode jdk_42_method_147_code 1 = .ok (.invokevirtual 335, 3) := by decide +kernel
theorem d16_4 : decode jdk_42_method_147_code 4 = .ok (.iload_n 3, 1) := by decide +kernel
theorem d16_5 : decode jdk_42_method_147_code 5 = .ok (.if_icmp .ne 23, 3) := by decide +kernel
theorem d16_8 : decode jdk_42_method_147_code 8 = .ok (.aload_n 0, 1) := by decide +kernel
theorem d16_9 : decode jdk_42_method_147_code 9 = .ok (.getfield 9, 3) := by decide +kernel
theorem d16_12 : decode jdk_42_method_147_code 12 = .ok (.iconst 0, 1) := by decide +kernel
theorem d16_13 : decode jdk_42_method_147_code 13 = .ok (.aload_n 1, 1) := by decide +kernel
theorem d16_14 : decode jdk_42_method_147_code 14 = .ok (.iload_n 2, 1) := by decide +kernel
theorem d16_15 : decode jdk_42_method_147_code 15 = .ok (.iload_n 3, 1) := by decide +kernel
theorem d16_16 : decode jdk_42_method_147_code 16 = .ok (.ishl, 1) := by decide +kernel
theorem d16_17 : decode jdk_42_method_147_code 17 = .ok (.aload_n 0, 1) := by decide +kernel
theorem d16_18 : decode jdk_42_method_147_code 18 = .ok (.getfield 9, 3) := by decide +kernel
theorem d16_21 : decode jdk_42_method_147_code 21 = .ok (.arraylength, 1) := by decide +kernel
theorem d16_22 : decode jdk_42_method_147_code 22 = .ok (.invokestatic 212, 3) := by decide +kernel
theorem d16_25 : decode jdk_42_method_147_code 25 = .ok (.goto 18, 3) := by decide +kernel
theorem d16_43 : decode jdk_42_method_147_code 43 = .ok (.return_, 1) := by decide +kernel
theorem ef_rm_gb (m : MethodId) (x0 : Addr) (x1 : Addr) (x2 : Int32) (x3 : Int32) : entryFrame m #[(.ref x0), (.ref x1), (.int x2), (.int x3)] 4 = mkF m 0 #[vr x0, vr x1, vi x2, vi x3] [] := by first | (simp [entryFrame, mkF, argsToLocals, Value.category]; done) | rfl
def Q_rm_gb (Z : State) (a1 : Addr) (a2 : Addr) (p3 : Int32) (ta : Addr) (k : ClassId) (z : Int32) (vs : List Value) (kd : ClassId) (vd : List Value) (vd' : List Value) (zc : Int32) (h0 : Heap) (n0 : Nat) (v : Option Value) (h : Heap) (L : List Loc) : Prop := (v = none) ∧ (Fr n0 L) ∧ (Keep h0 h [a2]) ∧ (Arv Z h a2 kd .byte (16 : Int32) vd' (.int (0 : Int32)))
set_option maxRecDepth 65536 in
set_option maxHeartbeats 40000000 in
theorem rm_gb (l : Launch) (Z : State) (a0 : Array Value) (hw : ∀ d ∈ tables_1, d.before a0 Z = true) (ws : List Jvm.Cond) (a1 : Addr) (a2 : Addr) (p3 : Int32) (ta : Addr) (k : ClassId) (z : Int32) (vs : List Value) (kd : ClassId) (vd : List Value) (vd' : List Value) (zc : Int32) (h0 : Heap) (n0 : Nat) (Z0 : n0 ≤ h0.size) (O0 : Old Z n0 h0) (E_a1 : Exa Z h0 a1 "java/lang/String") (F_value_a1 : Fld Z h0 a1 "java/lang/String" "value" "[B" (.ref ta)) (F_coder_a1 : Fld Z h0 a1 "java/lang/String" "coder" "B" (.int (0 : Int32))) (V_ta : Arv Z h0 ta k .byte z vs (.int (0 : Int32))) (V_a2 : Arv Z h0 a2 kd .byte (16 : Int32) vd (.int (0 : Int32))) (g_a2 : n0 ≤ a2) (ne_t : ta ≠ a2) (S_CS : Sta Z Z.heap "java/lang/String" "COMPACT_STRINGS" "Z" (.int zc)) (hz : ¬ zc = (0 : Int32)) (hp3 : ¬ p3 < (0 : Int32)) (hz0 : ¬ z < (0 : Int32)) (hfit : p3.toNatClampNeg + z.toNatClampNeg ≤ 16) (hlen : p3.toNatClampNeg + z.toNatClampNeg ≤ vd.length) (hv : (vd.take p3.toNatClampNeg ++ ((List.range z.toNatClampNeg).map fun i => vs.getD ((0 : Int32).toNatClampNeg + i) (.int (0 : Int32))) ++ vd.drop (p3.toNatClampNeg + z.toNatClampNeg)) = vd') :
    MetFree l y_12 (head1 (Jvm.Cond.code y_12 jdk_42_method_147_code 4 none :: ws) ({ frames := 1, cells := 0, slots := 0, locals := 18 } : Room)) (fun a U => a = #[(.ref a1), (.ref a2), (.int p3), (.int (0 : Int32))] ∧ Z.Warmed39 U.vm ∧ U.heap = h0) (fun _ _ _ _ _ => True) (fun _ U o U' => ∃ v L, o = .returned v ∧ Q_rm_gb Z a1 a2 p3 ta k z vs kd vd vd' zc h0 n0 v U'.heap L ∧ FrameEnd U o U' L ({ frames := 1, cells := 0, slots := 0, locals := 18 } : Room).cells ({ frames := 1, cells := 0, slots := 0, locals := 18 } : Room).slots) := by
  refine MetFree.of_bodySF (plainFor_of_name pn_0) hisR ?_
  intro p e s m args below meth c s₁ Bd hml0 hP hK
  obtain ⟨rfl, hZ, hh⟩ := hP
  have hx := Bd.exec
  have hby := Bd.bytes
  have hml : c.maxLocals = 4 := hml0
  have hown : s.vm.findClass "java/lang/String" = some m.cls := findClass_of_methodNamed Bd.named
  have hnm := (name_of_methodNamed Bd.named Bd.method).1
  have X0 : Stand p l e ({ frames := 1, cells := 0, slots := 0, locals := 18 } : Room) s m #[(.ref a1), (.ref a2), (.int p3), (.int (0 : Int32))] below meth c s₁ [] 0 0 := Stand.of_body Bd
  have e0 : s₁.heap = h0 := by rw [← hh, Bd.state]; rfl
  have N0 := Fr.nil n0
  have KC : Keep h0 h0 [a2] := Keep.refl h0 _
  have pre0 : ∀ t, Steps p.tables e below (s₁.setTop (mkF m 0 #[vr a1, vr a2, vi p3, vi (0 : Int32)] [])) t → Steps p.tables e below (s₁.setTop (entryFrame m #[(.ref a1), (.ref a2), (.int p3), (.int (0 : Int32))] 4)) t := fun t k => castTop (ef_rm_gb m a1 a2 p3 (0 : Int32)) k
  obtain ⟨cq1, kq1, q1a, q1b, q1c⟩ := isOf hZ e0 E_a1
  obtain ⟨_, _, ⟨T1, L1, kz1, nz1⟩, -, X1, ⟨Lc1, hQ1, l1, y1, z1⟩, st1⟩ := X0.virtualBack hx (y := y_0) (z := y_0) hown (mvT hZ (ww hw 37 rfl)) (mvT hZ (ww hw 38 rfl)) (notFace_of_selects (args := #[]) (mvT hZ (ww hw 40 rfl))) (mvT hZ (ww hw 40 rfl)) (mvT hZ (ww hw 39 rfl)) (by decide) (backOf (W := 0) (rm_coder l Z a0 hw [] a1 zc h0 n0 (Nat.le_trans Z0 KC.1) O0 F_coder_a1 S_CS hz) hZ (ww hw 41 rfl) (ww hw 3 rfl) (by decide) (by decide)) q1a q1c (g := (mkF m 1 #[vr a1, vr a2, vi p3, vi (0 : Int32)] [(.ref a1)])) rfl (by rw [hml]; rfl) (Steps.refl _) (argsL := []) (rest := []) (lenOf pd_0 rfl) rfl (by show 2 * 0 + _ ≤ _; exact Nat.le_of_eq rfl) (hb hby d16_1) (fun _ _ => ⟨rfl, e0, (by decide : 0 + 0 ≤ _), (by decide : 0 + 0 ≤ _)⟩)
  dsimp only [Pt.U, Pt.locs, Pt.cells, Pt.slots] at X1 l1 y1 z1 st1 hQ1
  subst l1 y1 z1
  obtain ⟨rfl, N1q, e1⟩ := hQ1
  have N1 := Fr.app N0 N1q
  obtain ⟨T2, X2, e2, st2⟩ := getF X1 hx hZ hown (host := "") (Or.inl (ww hw 20 rfl)) Via.refl e1 F_value_a1 (g := (mkF m 9 #[vr a1, vr a2, vi p3, vi (0 : Int32)] [(.ref a1)])) rfl rfl (hb hby d16_9)
  have pre3 : ∀ t, Steps p.tables e below (T2.setTop (mkF m 17 #[vr a1, vr a2, vi p3, vi (0 : Int32)] [(.int (p3 <<< ((0 : Int32) &&& 31))), (.ref a2), (.int (0 : Int32)), (.ref ta)])) t → Steps p.tables e below (s₁.setTop (entryFrame m #[(.ref a1), (.ref a2), (.int p3), (.int (0 : Int32))] 4)) t := by
    intro t kt
    refine pre0 t ?_
    show SS p e below m s₁ 0 #[vr a1, vr a2, vi p3, vi (0 : Int32)] [] _
    refine XS.aloadN X0.here hx rfl (hb hby d16_0) rfl rfl ?_
    show SS p e below m s₁ 1 #[vr a1, vr a2, vi p3, vi (0 : Int32)] [(.ref a1)] _
    refine st1.trans ?_
    show SS p e below m T1 4 #[vr a1, vr a2, vi p3, vi (0 : Int32)] [(.int (0 : Int32))] _
    refine XS.iloadN X1.here hx rfl (hb hby d16_4) rfl ?_
    show SS p e below m T1 5 #[vr a1, vr a2, vi p3, vi (0 : Int32)] [(.int (0 : Int32)), (.int (0 : Int32))] _
    refine XS.icmpNo X1.here hx rfl (hb hby d16_5) rfl (teq (by decide)).2 ?_
    show SS p e below m T1 8 #[vr a1, vr a2, vi p3, vi (0 : Int32)] [] _
    refine XS.aloadN X1.here hx rfl (hb hby d16_8) rfl rfl ?_
    show SS p e below m T1 9 #[vr a1, vr a2, vi p3, vi (0 : Int32)] [(.ref a1)] _
    refine st2 _ ?_
    show SS p e below m T2 12 #[vr a1, vr a2, vi p3, vi (0 : Int32)] [(.ref ta)] _
    refine XS.iconst X2.here hx rfl (hb hby d16_12) ?_
    show SS p e below m T2 13 #[vr a1, vr a2, vi p3, vi (0 : Int32)] [(.int (0 : Int32)), (.ref ta)] _
    refine XS.aloadN X2.here hx rfl (hb hby d16_13) rfl rfl ?_
    show SS p e below m T2 14 #[vr a1, vr a2, vi p3, vi (0 : Int32)] [(.ref a2), (.int (0 : Int32)), (.ref ta)] _
    refine XS.iloadN X2.here hx rfl (hb hby d16_14) rfl ?_
    show SS p e below m T2 15 #[vr a1, vr a2, vi p3, vi (0 : Int32)] [(.int p3), (.ref a2), (.int (0 : Int32)), (.ref ta)] _
    refine XS.iloadN X2.here hx rfl (hb hby d16_15) rfl ?_
    show SS p e below m T2 16 #[vr a1, vr a2, vi p3, vi (0 : Int32)] [(.int (0 : Int32)), (.int p3), (.ref a2), (.int (0 : Int32)), (.ref ta)] _
    refine XS.ishl X2.here hx rfl (hb hby d16_16) rfl ?_
    exact kt
  rw [(own_shl0 _)] at pre3
  obtain ⟨T4, X4, e4, st4⟩ := getF X2 hx hZ hown (host := "") (Or.inl (ww hw 20 rfl)) Via.refl e2 F_value_a1 (g := (mkF m 18 #[vr a1, vr a2, vi p3, vi (0 : Int32)] [(.ref a1), (.int p3), (.ref a2), (.int (0 : Int32)), (.ref ta)])) rfl rfl (hb hby d16_18)
  have Vo5 := V_ta
  obtain ⟨cl5, Ar5, -, Sz5, Nn5, -, -⟩ := Vo5
  have ia5 := State.isArrayOf_alike hZ.alike Ar5.2.1
  obtain ⟨T6, h6, L6, X6, e6, N6, K6, Vq6, st6⟩ := cpA X4 hx hZ hown (ww hw 102 rfl) (ww hw 105 rfl) (ww hw 103 rfl) (ww hw 104 rfl) e4 V_ta V_a2 (us := (List.range z.toNatClampNeg).map fun i => vs.getD ((0 : Int32).toNatClampNeg + i) (.int (0 : Int32))) (Or.inl ⟨rfl, rfl⟩) (by decide) hp3 hz0 (by show 0 + _ ≤ _; omega) (by show _ ≤ 16; exact hfit) rfl hlen N1 g_a2 (g := (mkF m 22 #[vr a1, vr a2, vi p3, vi (0 : Int32)] [(.int z), (.int p3), (.ref a2), (.int (0 : Int32)), (.ref ta)])) rfl (by rw [hml]; rfl) rfl (hb hby d16_22) (by decide) (W := 0) (by show 2 * 0 + _ ≤ _; exact Nat.le_of_eq rfl) (by decide)
  have nev_a1_a2 : a1 ≠ a2 := Exa.neArv E_a1 V_a2 (ww hw 2 rfl)
  replace E_a1 := E_a1.keep K6
  replace F_value_a1 := F_value_a1.keep K6 (ninS nev_a1_a2 nin0)
  replace F_coder_a1 := F_coder_a1.keep K6 (ninS nev_a1_a2 nin0)
  replace V_ta := V_ta.keep K6 (ninS ne_t nin0)
  replace O0 := O0.keep K6 (allS g_a2 all0)
  replace KC := KC.trans K6 (allS (Or.inl (List.mem_of_getElem? (i := 0) rfl)) all0)
  rw [hv] at Vq6
  obtain ⟨fs, hr, hrun, hended, hW, hsame⟩ := X6.leave (v := none) (fun _ => rfl)
  refine ⟨_, _, pre3 _ ?_, hrun, hended, _, _, rfl, ?_, ⟨_, rfl⟩, hW, hsame.mono (by decide) (by decide)⟩
  · show SS p e below m T2 17 #[vr a1, vr a2, vi p3, vi (0 : Int32)] [(.int p3), (.ref a2), (.int (0 : Int32)), (.ref ta)] _
    refine XS.aloadN X2.here hx rfl (hb hby d16_17) rfl rfl ?_
    show SS p e below m T2 18 #[vr a1, vr a2, vi p3, vi (0 : Int32)] [(.ref a1), (.int p3), (.ref a2), (.int (0 : Int32)), (.ref ta)] _
    refine st4 _ ?_
    show SS p e below m T4 21 #[vr a1, vr a2, vi p3, vi (0 : Int32)] [(.ref ta), (.int p3), (.ref a2), (.int (0 : Int32)), (.ref ta)] _
    refine X4.arraylength hx (by rw [e4]; exact Ar5.1) ia5 (g := (mkF m 21 #[vr a1, vr a2, vi p3, vi (0 : Int32)] [(.ref ta), (.int p3), (.ref a2), (.int (0 : Int32)), (.ref ta)])) rfl rfl (hb hby d16_21) _ ?_
    rw [len_of Sz5 Nn5]
    show SS p e below m T4 22 #[vr a1, vr a2, vi p3, vi (0 : Int32)] [(.int z), (.int p3), (.ref a2), (.int (0 : Int32)), (.ref ta)] _
    refine st6 _ ?_
    show SS p e below m T6 25 #[vr a1, vr a2, vi p3, vi (0 : Int32)] [] _
    refine XS.goto X6.here hx rfl (pc0 := 25) (pc' := 43) rfl (hb hby d16_25) (by decide) (by decide) ?_
    show SS p e below m T6 43 #[vr a1, vr a2, vi p3, vi (0 : Int32)] [] _
    exact X6.returnOut hx Bd.returns (hb hby d16_43) hr
  · show Q_rm_gb Z a1 a2 p3 ta k z vs kd vd vd' zc h0 n0 _ T6.heap _
    rw [e6]
    exact ⟨rfl, N6, KC, Vq6⟩
theorem pd_6 : parseMethodDescriptor "(Ljava/lang/String;)V" = some ⟨[(.object "java/lang/String")], none⟩ := by decide +kernel
theorem pd_7 : parseMethodDescriptor "([BIB)V" = some ⟨[(.array .byte), .int, .byte], none⟩ := by decide +kernel
theorem d14_0 : decode jdk_68_method_73_code 0 = .ok (.aload_n 0, 1) := by decide +kernel
theorem d14_1 : decode jdk_68_method_73_code 1 = .ok (.aload_n 2, 1) := by decide +kernel
theorem d14_2 : decode jdk_68_method_73_code 2 = .ok (.invokevirtual 397, 3) := by decide +kernel
theorem d14_5 : decode jdk_68_method_73_code 5 = .ok (.aload_n 2, 1) := by decide +kernel
theorem d14_6 : decode jdk_68_method_73_code 6 = .ok (.aload_n 0, 1) := by decide +kernel
theorem d14_7 : decode jdk_68_method_73_code 7 = .ok (.getfield 15, 3) := by decide +kernel
theorem d14_10 : decode jdk_68_method_73_code 10 = .ok (.iload_n 1, 1) := by decide +kernel
theorem d14_11 : decode jdk_68_method_73_code 11 = .ok (.aload_n 0, 1) := by decide +kernel
theorem d14_12 : decode jdk_68_method_73_code 12 = .ok (.getfield 22, 3) := by decide +kernel
theorem d14_15 : decode jdk_68_method_73_code 15 = .ok (.invokevirtual 399, 3) := by decide +kernel
theorem d14_18 : decode jdk_68_method_73_code 18 = .ok (.return_, 1) := by decide +kernel
theorem ef_rm_psa (m : MethodId) (x0 : Addr) (x1 : Int32) (x2 : Addr) : entryFrame m #[(.ref x0), (.int x1), (.ref x2)] 3 = mkF m 0 #[vr x0, vi x1, vr x2] [] := by first | (simp [entryFrame, mkF, argsToLocals, Value.category]; done) | rfl
def Q_rm_psa (Z : State) (a1 : Addr) (p2 : Int32) (a3 : Addr) (ta : Addr) (k : ClassId) (z : Int32) (vs : List Value) (kd : ClassId) (vd : List Value) (vd' : List Value) (tb : Addr) (zc : Int32) (h0 : Heap) (n0 : Nat) (v : Option Value) (h : Heap) (L : List Loc) : Prop := (v = none) ∧ (Fr n0 L) ∧ (Keep h0 h [tb]) ∧ (Arv Z h tb kd .byte (16 : Int32) vd' (.int (0 : Int32)))
set_option maxRecDepth 65536 in
set_option maxHeartbeats 40000000 in
theorem rm_psa (l : Launch) (Z : State) (a0 : Array Value) (hw : ∀ d ∈ tables_1, d.before a0 Z = true) (ws : List Jvm.Cond) (a1 : Addr) (p2 : Int32) (a3 : Addr) (ta : Addr) (k : ClassId) (z : Int32) (vs : List Value) (kd : ClassId) (vd : List Value) (vd' : List Value) (tb : Addr) (zc : Int32) (h0 : Heap) (n0 : Nat) (Z0 : n0 ≤ h0.size) (O0 : Old Z n0 h0) (F_value_a1 : Fld Z h0 a1 "java/lang/AbstractStringBuilder" "value" "[B" (.ref tb)) (F_coder_a1 : Fld Z h0 a1 "java/lang/AbstractStringBuilder" "coder" "B" (.int (0 : Int32))) (E_a1 : Exa Z h0 a1 "java/lang/StringBuilder") (E_a3 : Exa Z h0 a3 "java/lang/String") (F_value_a3 : Fld Z h0 a3 "java/lang/String" "value" "[B" (.ref ta)) (F_coder_a3 : Fld Z h0 a3 "java/lang/String" "coder" "B" (.int (0 : Int32))) (V_ta : Arv Z h0 ta k .byte z vs (.int (0 : Int32))) (V_tb : Arv Z h0 tb kd .byte (16 : Int32) vd (.int (0 : Int32))) (g_tb : n0 ≤ tb) (ne_t : ta ≠ tb) (S_CS : Sta Z Z.heap "java/lang/String" "COMPACT_STRINGS" "Z" (.int zc)) (hz : ¬ zc = (0 : Int32)) (hp3 : ¬ p2 < (0 : Int32)) (hz0 : ¬ z < (0 : Int32)) (hfit : p2.toNatClampNeg + z.toNatClampNeg ≤ 16) (hlen : p2.toNatClampNeg + z.toNatClampNeg ≤ vd.length) (hv : (vd.take p2.toNatClampNeg ++ ((List.range z.toNatClampNeg).map fun i => vs.getD ((0 : Int32).toNatClampNeg + i) (.int (0 : Int32))) ++ vd.drop (p2.toNatClampNeg + z.toNatClampNeg)) = vd') :
    MetFree l y_13 (head1 (Jvm.Cond.code y_13 jdk_68_method_73_code 3 none :: ws) ({ frames := 2, cells := 0, slots := 0, locals := 33 } : Room)) (fun a U => a = #[(.ref a1), (.int p2), (.ref a3)] ∧ Z.Warmed39 U.vm ∧ U.heap = h0) (fun _ _ _ _ _ => True) (fun _ U o U' => ∃ v L, o = .returned v ∧ Q_rm_psa Z a1 p2 a3 ta k z vs kd vd vd' tb zc h0 n0 v U'.heap L ∧ FrameEnd U o U' L ({ frames := 2, cells := 0, slots := 0, locals := 33 } : Room).cells ({ frames := 2, cells := 0, slots := 0, locals := 33 } : Room).slots) := by
  refine MetFree.of_bodySF (plainFor_of_name pn_3) hisR ?_
  intro p e s m args below meth c s₁ Bd hml0 hP hK
  obtain ⟨rfl, hZ, hh⟩ := hP
  have hx := Bd.exec
  have hby := Bd.bytes
  have hml : c.maxLocals = 3 := hml0
  have hown : s.vm.findClass "java/lang/AbstractStringBuilder" = some m.cls := findClass_of_methodNamed Bd.named
  have hnm := (name_of_methodNamed Bd.named Bd.method).1
  have X0 : Stand p l e ({ frames := 2, cells := 0, slots := 0, locals := 33 } : Room) s m #[(.ref a1), (.int p2), (.ref a3)] below meth c s₁ [] 0 0 := Stand.of_body Bd
  have e0 : s₁.heap = h0 := by rw [← hh, Bd.state]; rfl
  have N0 := Fr.nil n0
  have KC : Keep h0 h0 [tb] := Keep.refl h0 _
  have pre0 : ∀ t, Steps p.tables e below (s₁.setTop (mkF m 0 #[vr a1, vi p2, vr a3] [])) t → Steps p.tables e below (s₁.setTop (entryFrame m #[(.ref a1), (.int p2), (.ref a3)] 3)) t := fun t k => castTop (ef_rm_psa m a1 p2 a3) k
  obtain ⟨cq1, kq1, q1a, q1b, q1c⟩ := isOf hZ e0 E_a1
  obtain ⟨_, _, ⟨T1, L1, kz1, nz1⟩, -, X1, ⟨Lc1, hQ1, l1, y1, z1⟩, st1⟩ := X0.virtualBack hx (y := y_11) (z := y_11) hown (mvT hZ (ww hw 91 rfl)) (own_decl (mvT hZ (ww hw 95 rfl)) (mvT hZ (ww hw 92 rfl))) (notFace_of_selects (args := #[]) (mvT hZ (ww hw 94 rfl))) (mvT hZ (ww hw 94 rfl)) (mvT hZ (ww hw 92 rfl)) (by decide) (backOf (W := 0) (rm_inf l Z a0 hw [] a1 a3 zc h0 n0 (Nat.le_trans Z0 KC.1) O0 F_coder_a1 E_a3 F_coder_a3 S_CS hz) hZ (ww hw 95 rfl) (ww hw 60 rfl) (by decide) (by decide)) q1a q1c (g := (mkF m 2 #[vr a1, vi p2, vr a3] [(.ref a3), (.ref a1)])) rfl (by rw [hml]; rfl) (Steps.refl _) (argsL := [(.ref a3)]) (rest := []) (lenOf pd_6 rfl) rfl (by show 2 * 0 + _ ≤ _; exact Nat.le_of_eq rfl) (hb hby d14_2) (fun _ _ => ⟨rfl, e0, (by decide : 0 + 0 ≤ _), (by decide : 0 + 0 ≤ _)⟩)
  dsimp only [Pt.U, Pt.locs, Pt.cells, Pt.slots] at X1 l1 y1 z1 st1 hQ1
  subst l1 y1 z1
  obtain ⟨rfl, N1q, e1⟩ := hQ1
  have N1 := Fr.app N0 N1q
  obtain ⟨T2, X2, e2, st2⟩ := getF X1 hx hZ hown (host := "") (Or.inl (ww hw 64 rfl)) Via.refl e1 F_value_a1 (g := (mkF m 7 #[vr a1, vi p2, vr a3] [(.ref a1), (.ref a3)])) rfl rfl (hb hby d14_7)
  obtain ⟨T3, X3, e3, st3⟩ := getF X2 hx hZ hown (host := "") (Or.inl (ww hw 66 rfl)) Via.refl e2 F_coder_a1 (g := (mkF m 12 #[vr a1, vi p2, vr a3] [(.ref a1), (.int p2), (.ref tb), (.ref a3)])) rfl rfl (hb hby d14_12)
  obtain ⟨cq4, kq4, q4a, q4b, q4c⟩ := isOf hZ e3 E_a3
  obtain ⟨_, _, ⟨T4, L4, kz4, nz4⟩, -, X4, ⟨Lc4, hQ4, l4, y4, z4⟩, st4⟩ := X3.virtualBack hx (y := y_12) (z := y_12) hown (mvT hZ (ww hw 97 rfl)) (mvT hZ (ww hw 98 rfl)) (notFace_of_selects (args := #[]) (mvT hZ (ww hw 100 rfl))) (mvT hZ (ww hw 100 rfl)) (mvT hZ (ww hw 99 rfl)) (by decide) (backOf (W := 0) (rm_gb l Z a0 hw [] a3 tb p2 ta k z vs kd vd vd' zc h0 n0 (Nat.le_trans Z0 KC.1) O0 E_a3 F_value_a3 F_coder_a3 V_ta V_tb g_tb ne_t S_CS hz hp3 hz0 hfit hlen hv) hZ (ww hw 101 rfl) (ww hw 3 rfl) (by decide) (by decide)) q4a q4c (g := (mkF m 15 #[vr a1, vi p2, vr a3] [(.int (0 : Int32)), (.int p2), (.ref tb), (.ref a3)])) rfl (by rw [hml]; rfl) (Steps.refl _) (argsL := [(.ref tb), (.int p2), (.int (0 : Int32))]) (rest := []) (lenOf pd_7 rfl) rfl (by show 2 * 0 + _ ≤ _; exact Nat.le_of_eq rfl) (hb hby d14_15) (fun _ _ => ⟨rfl, e3, (by decide : 0 + 0 ≤ _), (by decide : 0 + 0 ≤ _)⟩)
  dsimp only [Pt.U, Pt.locs, Pt.cells, Pt.slots] at X4 l4 y4 z4 st4 hQ4
  subst l4 y4 z4
  obtain ⟨rfl, N4q, K4, V_a2_4⟩ := hQ4
  have N4 := Fr.app N1 N4q
  have nev_a1_tb : a1 ≠ tb := Exa.neArv E_a1 V_tb (ww hw 51 rfl)
  have nev_a3_tb : a3 ≠ tb := Exa.neArv E_a3 V_tb (ww hw 2 rfl)
  replace F_value_a1 := F_value_a1.keep K4 (ninS nev_a1_tb nin0)
  replace F_coder_a1 := F_coder_a1.keep K4 (ninS nev_a1_tb nin0)
  replace E_a1 := E_a1.keep K4
  replace E_a3 := E_a3.keep K4
  replace F_value_a3 := F_value_a3.keep K4 (ninS nev_a3_tb nin0)
  replace F_coder_a3 := F_coder_a3.keep K4 (ninS nev_a3_tb nin0)
  replace V_ta := V_ta.keep K4 (ninS ne_t nin0)
  replace O0 := O0.keep K4 (allS g_tb all0)
  replace KC := KC.trans K4 (allS (Or.inl (List.mem_of_getElem? (i := 0) rfl)) all0)
  obtain ⟨fs, hr, hrun, hended, hW, hsame⟩ := X4.leave (v := none) (fun _ => rfl)
  refine ⟨_, _, pre0 _ ?_, hrun, hended, _, _, rfl, ?_, ⟨_, rfl⟩, hW, hsame.mono (by decide) (by decide)⟩
  · show SS p e below m s₁ 0 #[vr a1, vi p2, vr a3] [] _
    refine XS.aloadN X0.here hx rfl (hb hby d14_0) rfl rfl ?_
    show SS p e below m s₁ 1 #[vr a1, vi p2, vr a3] [(.ref a1)] _
    refine XS.aloadN X0.here hx rfl (hb hby d14_1) rfl rfl ?_
    show SS p e below m s₁ 2 #[vr a1, vi p2, vr a3] [(.ref a3), (.ref a1)] _
    refine st1.trans ?_
    show SS p e below m T1 5 #[vr a1, vi p2, vr a3] [] _
    refine XS.aloadN X1.here hx rfl (hb hby d14_5) rfl rfl ?_
    show SS p e below m T1 6 #[vr a1, vi p2, vr a3] [(.ref a3)] _
    refine XS.aloadN X1.here hx rfl (hb hby d14_6) rfl rfl ?_
    show SS p e below m T1 7 #[vr a1, vi p2, vr a3] [(.ref a1), (.ref a3)] _
    refine st2 _ ?_
    show SS p e below m T2 10 #[vr a1, vi p2, vr a3] [(.ref tb), (.ref a3)] _
    refine XS.iloadN X2.here hx rfl (hb hby d14_10) rfl ?_
    show SS p e below m T2 11 #[vr a1, vi p2, vr a3] [(.int p2), (.ref tb), (.ref a3)] _
    refine XS.aloadN X2.here hx rfl (hb hby d14_11) rfl rfl ?_
    show SS p e below m T2 12 #[vr a1, vi p2, vr a3] [(.ref a1), (.int p2), (.ref tb), (.ref a3)] _
    refine st3 _ ?_
    show SS p e below m T3 15 #[vr a1, vi p2, vr a3] [(.int (0 : Int32)), (.int p2), (.ref tb), (.ref a3)] _
    refine st4.trans ?_
    show SS p e below m T4 18 #[vr a1, vi p2, vr a3] [] _
    exact X4.returnOut hx Bd.returns (hb hby d14_18) hr
  · show Q_rm_psa Z a1 p2 a3 ta k z vs kd vd vd' tb zc h0 n0 _ T4.heap _
    exact ⟨rfl, N4, KC, V_a2_4⟩
theorem pd_8 : parseMethodDescriptor "()I" = some ⟨[], some .int⟩ := by decide +kernel
theorem pd_9 : parseMethodDescriptor "(ILjava/lang/String;)V" = some ⟨[.int, (.object "java/lang/String")], none⟩ := by decide +kernel
theorem d12_0 : decode jdk_68_method_22_code 0 = .ok (.aload_n 1, 1) := by decide +kernel
theorem d12_1 : decode jdk_68_method_22_code 1 = .ok (.ifnonnull 8, 3) := by decide +kernel
theorem d12_9 : decode jdk_68_method_22_code 9 = .ok (.aload_n 1, 1) := by decide +kernel
theorem d12_10 : decode jdk_68_method_22_code 10 = .ok (.invokevirtual 32, 3) := by decide +kernel
theorem d12_13 : decode jdk_68_method_22_code 13 = .ok (.istore_n 2, 1) := by decide +kernel
theorem d12_14 : decode jdk_68_method_22_code 14 = .ok (.aload_n 0, 1) := by decide +kernel
theorem d12_15 : decode jdk_68_method_22_code 15 = .ok (.aload_n 0, 1) := by decide +kernel
theorem d12_16 : decode jdk_68_method_22_code 16 = .ok (.getfield 79, 3) := by decide +kernel
theorem d12_19 : decode jdk_68_method_22_code 19 = .ok (.iload_n 2, 1) := by decide +kernel
theorem d12_20 : decode jdk_68_method_22_code 20 = .ok (.iadd, 1) := by decide +kernel
theorem d12_21 : decode jdk_68_method_22_code 21 = .ok (.invokevirtual 100, 3) := by decide +kernel
theorem d12_24 : decode jdk_68_method_22_code 24 = .ok (.aload_n 0, 1) := by decide +kernel
theorem d12_25 : decode jdk_68_method_22_code 25 = .ok (.aload_n 0, 1) := by decide +kernel
theorem d12_26 : decode jdk_68_method_22_code 26 = .ok (.getfield 79, 3) := by decide +kernel
theorem d12_29 : decode jdk_68_method_22_code 29 = .ok (.aload_n 1, 1) := by decide +kernel
theorem d12_30 : decode jdk_68_method_22_code 30 = .ok (.invokevirtual 208, 3) := by decide +kernel
theorem d12_33 : decode jdk_68_method_22_code 33 = .ok (.aload_n 0, 1) := by decide +kernel
theorem d12_34 : decode jdk_68_method_22_code 34 = .ok (.dup, 1) := by decide +kernel
theorem d12_35 : decode jdk_68_method_22_code 35 = .ok (.getfield 79, 3) := by decide +kernel
theorem d12_38 : decode jdk_68_method_22_code 38 = .ok (.iload_n 2, 1) := by decide +kernel
theorem d12_39 : decode jdk_68_method_22_code 39 = .ok (.iadd, 1) := by decide +kernel
theorem d12_40 : decode jdk_68_method_22_code 40 = .ok (.putfield 79, 3) := by decide +kernel
theorem d12_43 : decode jdk_68_method_22_code 43 = .ok (.aload_n 0, 1) := by decide +kernel
theorem d12_44 : decode jdk_68_method_22_code 44 = .ok (.areturn, 1) := by decide +kernel
theorem ef_rm_aap (m : MethodId) (x0 : Addr) (x1 : Addr) : entryFrame m #[(.ref x0), (.ref x1)] 3 = mkF m 0 #[vr x0, vr x1, .unset] [] := by first | (simp [entryFrame, mkF, argsToLocals, Value.category]; done) | rfl
def Q_rm_aap (Z : State) (a1 : Addr) (a2 : Addr) (ta : Addr) (k : ClassId) (z : Int32) (vs : List Value) (kd : ClassId) (vd : List Value) (vd' : List Value) (tb : Addr) (c0 : Int32) (m' : Int32) (zc : Int32) (h0 : Heap) (n0 : Nat) (v : Option Value) (h : Heap) (L : List Loc) : Prop := (v = some (.ref a1)) ∧ (Fr n0 L) ∧ (Keep h0 h [a1, tb]) ∧ (Fld Z h a1 "java/lang/AbstractStringBuilder" "value" "[B" (.ref tb)) ∧ (Fld Z h a1 "java/lang/AbstractStringBuilder" "coder" "B" (.int (0 : Int32))) ∧ (Fld Z h a1 "java/lang/AbstractStringBuilder" "count" "I" (.int m')) ∧ (Arv Z h tb kd .byte (16 : Int32) vd' (.int (0 : Int32)))
set_option maxRecDepth 65536 in
set_option maxHeartbeats 40000000 in
theorem rm_aap (l : Launch) (Z : State) (a0 : Array Value) (hw : ∀ d ∈ tables_1, d.before a0 Z = true) (ws : List Jvm.Cond) (a1 : Addr) (a2 : Addr) (ta : Addr) (k : ClassId) (z : Int32) (vs : List Value) (kd : ClassId) (vd : List Value) (vd' : List Value) (tb : Addr) (c0 : Int32) (m' : Int32) (zc : Int32) (h0 : Heap) (n0 : Nat) (Z0 : n0 ≤ h0.size) (O0 : Old Z n0 h0) (F_value_a1 : Fld Z h0 a1 "java/lang/AbstractStringBuilder" "value" "[B" (.ref tb)) (F_coder_a1 : Fld Z h0 a1 "java/lang/AbstractStringBuilder" "coder" "B" (.int (0 : Int32))) (F_count_a1 : Fld Z h0 a1 "java/lang/AbstractStringBuilder" "count" "I" (.int c0)) (E_a1 : Exa Z h0 a1 "java/lang/StringBuilder") (g_a1 : n0 ≤ a1) (E_a2 : Exa Z h0 a2 "java/lang/String") (F_value_a2 : Fld Z h0 a2 "java/lang/String" "value" "[B" (.ref ta)) (F_coder_a2 : Fld Z h0 a2 "java/lang/String" "coder" "B" (.int (0 : Int32))) (V_ta : Arv Z h0 ta k .byte z vs (.int (0 : Int32))) (V_tb : Arv Z h0 tb kd .byte (16 : Int32) vd (.int (0 : Int32))) (g_tb : n0 ≤ tb) (ne_t : ta ≠ tb) (ne_tb : tb ≠ a1) (ne_ta : ta ≠ a1) (S_CS : Sta Z Z.heap "java/lang/String" "COMPACT_STRINGS" "Z" (.int zc)) (hz : ¬ zc = (0 : Int32)) (hle : ¬ (0 : Int32) < ((c0 + z) - (16 : Int32))) (hMm : c0 + z = m') (hp3 : ¬ c0 < (0 : Int32)) (hz0 : ¬ z < (0 : Int32)) (hfit : c0.toNatClampNeg + z.toNatClampNeg ≤ 16) (hlen : c0.toNatClampNeg + z.toNatClampNeg ≤ vd.length) (hv : (vd.take c0.toNatClampNeg ++ ((List.range z.toNatClampNeg).map fun i => vs.getD ((0 : Int32).toNatClampNeg + i) (.int (0 : Int32))) ++ vd.drop (c0.toNatClampNeg + z.toNatClampNeg)) = vd') :
    MetFree l y_14 (head1 (Jvm.Cond.code y_14 jdk_68_method_22_code 3 (some (.object "java/lang/AbstractStringBuilder")) :: ws) ({ frames := 3, cells := 0, slots := 0, locals := 47 } : Room)) (fun a U => a = #[(.ref a1), (.ref a2)] ∧ Z.Warmed39 U.vm ∧ U.heap = h0) (fun _ _ _ _ _ => True) (fun _ U o U' => ∃ v L, o = .returned v ∧ Q_rm_aap Z a1 a2 ta k z vs kd vd vd' tb c0 m' zc h0 n0 v U'.heap L ∧ FrameEnd U o U' L ({ frames := 3, cells := 0, slots := 0, locals := 47 } : Room).cells ({ frames := 3, cells := 0, slots := 0, locals := 47 } : Room).slots) := by
  refine MetFree.of_bodySF (plainFor_of_name pn_3) hisR ?_
  intro p e s m args below meth c s₁ Bd hml0 hP hK
  obtain ⟨rfl, hZ, hh⟩ := hP
  have hx := Bd.exec
  have hby := Bd.bytes
  have hml : c.maxLocals = 3 := hml0
  have hown : s.vm.findClass "java/lang/AbstractStringBuilder" = some m.cls := findClass_of_methodNamed Bd.named
  have hnm := (name_of_methodNamed Bd.named Bd.method).1
  have X0 : Stand p l e ({ frames := 3, cells := 0, slots := 0, locals := 47 } : Room) s m #[(.ref a1), (.ref a2)] below meth c s₁ [] 0 0 := Stand.of_body Bd
  have e0 : s₁.heap = h0 := by rw [← hh, Bd.state]; rfl
  have N0 := Fr.nil n0
  have KC : Keep h0 h0 [a1, tb] := Keep.refl h0 _
  have pre0 : ∀ t, Steps p.tables e below (s₁.setTop (mkF m 0 #[vr a1, vr a2, un] [])) t → Steps p.tables e below (s₁.setTop (entryFrame m #[(.ref a1), (.ref a2)] 3)) t := fun t k => castTop (ef_rm_aap m a1 a2) k
  obtain ⟨cq1, kq1, q1a, q1b, q1c⟩ := isOf hZ e0 E_a2
  obtain ⟨_, _, ⟨T1, L1, kz1, nz1⟩, -, X1, ⟨Lc1, hQ1, l1, y1, z1⟩, st1⟩ := X0.virtualBack hx (y := y_1) (z := y_1) hown (mvT hZ (ww hw 78 rfl)) (mvT hZ (ww hw 33 rfl)) (notFace_of_selects (args := #[]) (mvT hZ (ww hw 35 rfl))) (mvT hZ (ww hw 35 rfl)) (mvT hZ (ww hw 34 rfl)) (by decide) (backOf (W := 0) (rm_length l Z a0 hw [] a2 ta k z vs zc h0 n0 (Nat.le_trans Z0 KC.1) O0 E_a2 F_value_a2 F_coder_a2 V_ta S_CS hz) hZ (ww hw 36 rfl) (ww hw 3 rfl) (by decide) (by decide)) q1a q1c (g := (mkF m 10 #[vr a1, vr a2, un] [(.ref a2)])) rfl (by rw [hml]; rfl) (Steps.refl _) (argsL := []) (rest := []) (lenOf pd_8 rfl) rfl (by show 2 * 0 + _ ≤ _; exact Nat.le_of_eq rfl) (hb hby d12_10) (fun _ _ => ⟨rfl, e0, (by decide : 0 + 0 ≤ _), (by decide : 0 + 0 ≤ _)⟩)
  dsimp only [Pt.U, Pt.locs, Pt.cells, Pt.slots] at X1 l1 y1 z1 st1 hQ1
  subst l1 y1 z1
  obtain ⟨rfl, N1q, e1⟩ := hQ1
  have N1 := Fr.app N0 N1q
  obtain ⟨T2, X2, e2, st2⟩ := getF X1 hx hZ hown (host := "") (Or.inl (ww hw 79 rfl)) Via.refl e1 F_count_a1 (g := (mkF m 16 #[vr a1, vr a2, vi z] [(.ref a1), (.ref a1)])) rfl rfl (hb hby d12_16)
  obtain ⟨cq3, kq3, q3a, q3b, q3c⟩ := isOf hZ e2 E_a1
  obtain ⟨_, _, ⟨T3, L3, kz3, nz3⟩, -, X3, ⟨Lc3, hQ3, l3, y3, z3⟩, st3⟩ := X2.virtualBack hx (y := y_10) (z := y_10) hown (mvT hZ (ww hw 81 rfl)) (own_decl (mvT hZ (ww hw 85 rfl)) (mvT hZ (ww hw 82 rfl))) (notFace_of_selects (args := #[]) (mvT hZ (ww hw 84 rfl))) (mvT hZ (ww hw 84 rfl)) (mvT hZ (ww hw 82 rfl)) (by decide) (backOf (W := 0) (rm_ens l Z a0 hw [] a1 (c0 + z) tb kd vd h0 n0 (Nat.le_trans Z0 KC.1) O0 F_value_a1 F_coder_a1 V_tb hle) hZ (ww hw 85 rfl) (ww hw 60 rfl) (by decide) (by decide)) q3a q3c (g := (mkF m 21 #[vr a1, vr a2, vi z] [(.int (c0 + z)), (.ref a1)])) rfl (by rw [hml]; rfl) (Steps.refl _) (argsL := [(.int (c0 + z))]) (rest := []) (lenOf pd_5 rfl) rfl (by show 2 * 0 + _ ≤ _; exact Nat.le_of_eq rfl) (hb hby d12_21) (fun _ _ => ⟨rfl, e2, (by decide : 0 + 0 ≤ _), (by decide : 0 + 0 ≤ _)⟩)
  dsimp only [Pt.U, Pt.locs, Pt.cells, Pt.slots] at X3 l3 y3 z3 st3 hQ3
  subst l3 y3 z3
  obtain ⟨rfl, N3q, e3⟩ := hQ3
  have N3 := Fr.app N1 N3q
  obtain ⟨T4, X4, e4, st4⟩ := getF X3 hx hZ hown (host := "") (Or.inl (ww hw 79 rfl)) Via.refl e3 F_count_a1 (g := (mkF m 26 #[vr a1, vr a2, vi z] [(.ref a1), (.ref a1)])) rfl rfl (hb hby d12_26)
  obtain ⟨cq5, kq5, q5a, q5b, q5c⟩ := isOf hZ e4 E_a1
  obtain ⟨_, _, ⟨T5, L5, kz5, nz5⟩, -, X5, ⟨Lc5, hQ5, l5, y5, z5⟩, st5⟩ := X4.virtualBack hx (y := y_13) (z := y_13) hown (mvT hZ (ww hw 86 rfl)) (own_decl (mvT hZ (ww hw 90 rfl)) (mvT hZ (ww hw 87 rfl))) (notFace_of_selects (args := #[]) (mvT hZ (ww hw 89 rfl))) (mvT hZ (ww hw 89 rfl)) (mvT hZ (ww hw 87 rfl)) (by decide) (backOf (W := 0) (rm_psa l Z a0 hw [] a1 c0 a2 ta k z vs kd vd vd' tb zc h0 n0 (Nat.le_trans Z0 KC.1) O0 F_value_a1 F_coder_a1 E_a1 E_a2 F_value_a2 F_coder_a2 V_ta V_tb g_tb ne_t S_CS hz hp3 hz0 hfit hlen hv) hZ (ww hw 90 rfl) (ww hw 60 rfl) (by decide) (by decide)) q5a q5c (g := (mkF m 30 #[vr a1, vr a2, vi z] [(.ref a2), (.int c0), (.ref a1)])) rfl (by rw [hml]; rfl) (Steps.refl _) (argsL := [(.int c0), (.ref a2)]) (rest := []) (lenOf pd_9 rfl) rfl (by show 2 * 0 + _ ≤ _; exact Nat.le_of_eq rfl) (hb hby d12_30) (fun _ _ => ⟨rfl, e4, (by decide : 0 + 0 ≤ _), (by decide : 0 + 0 ≤ _)⟩)
  dsimp only [Pt.U, Pt.locs, Pt.cells, Pt.slots] at X5 l5 y5 z5 st5 hQ5
  subst l5 y5 z5
  obtain ⟨rfl, N5q, K5, V_tb_5⟩ := hQ5
  have N5 := Fr.app N3 N5q
  have nev_a2_tb : a2 ≠ tb := Exa.neArv E_a2 V_tb (ww hw 2 rfl)
  replace F_value_a1 := F_value_a1.keep K5 (ninS (Ne.symm ne_tb) nin0)
  replace F_coder_a1 := F_coder_a1.keep K5 (ninS (Ne.symm ne_tb) nin0)
  replace F_count_a1 := F_count_a1.keep K5 (ninS (Ne.symm ne_tb) nin0)
  replace E_a1 := E_a1.keep K5
  replace E_a2 := E_a2.keep K5
  replace F_value_a2 := F_value_a2.keep K5 (ninS nev_a2_tb nin0)
  replace F_coder_a2 := F_coder_a2.keep K5 (ninS nev_a2_tb nin0)
  replace V_ta := V_ta.keep K5 (ninS ne_t nin0)
  replace O0 := O0.keep K5 (allS g_tb all0)
  replace KC := KC.trans K5 (allS (Or.inl (List.mem_of_getElem? (i := 1) rfl)) all0)
  obtain ⟨T6, X6, e6, st6⟩ := getF X5 hx hZ hown (host := "") (Or.inl (ww hw 79 rfl)) Via.refl rfl F_count_a1 (g := (mkF m 35 #[vr a1, vr a2, vi z] [(.ref a1), (.ref a1)])) rfl rfl (hb hby d12_35)
  obtain ⟨T7, h7, X7, e7, W7, st7⟩ := putF X6 hx hZ hown (host := "") (Or.inl (ww hw 79 rfl)) Via.refl e6 F_count_a1 E_a1 (Or.inl (ww hw 80 rfl)) (ww hw 51 rfl) (ty := .int) (by decide) rfl rfl (g := (mkF m 40 #[vr a1, vr a2, vi z] [(.int (c0 + z)), (.ref a1)])) rfl rfl (hb hby d12_40)
  have N7 := Fr.snoc X7 N5 g_a1
  replace F_count_a1 := F_count_a1.same W7
  have nec_a2_a1 : a2 ≠ a1 := Exa.ne E_a2 E_a1 (by decide)
  replace F_value_a1 := F_value_a1.other W7 (Or.inr (slot_ne (Or.inl (ww hw 65 rfl)) (Or.inl (ww hw 80 rfl)) (by decide) (t := (.array .byte)) (t' := .int) (by decide) (by decide)))
  replace F_coder_a1 := F_coder_a1.other W7 (Or.inr (slot_ne (Or.inl (ww hw 67 rfl)) (Or.inl (ww hw 80 rfl)) (by decide) (t := .byte) (t' := .int) (by decide) (by decide)))
  replace E_a1 := E_a1.wr W7
  replace E_a2 := E_a2.wr W7
  replace F_value_a2 := F_value_a2.other W7 (Or.inl nec_a2_a1)
  replace F_coder_a2 := F_coder_a2.other W7 (Or.inl nec_a2_a1)
  replace V_ta := V_ta.other W7 ne_ta
  replace V_tb_5 := V_tb_5.other W7 ne_tb
  replace O0 := O0.wr W7 g_a1
  replace KC := KC.wr W7 (Or.inl (List.mem_of_getElem? (i := 0) rfl))
  rw [hMm] at F_count_a1
  obtain ⟨fs, hr, hrun, hended, hW, hsame⟩ := X7.leave (v := some (.ref a1)) (fun h => by rw [Bd.returns] at h; cases h)
  refine ⟨_, _, pre0 _ ?_, hrun, hended, _, _, rfl, ?_, ⟨_, rfl⟩, hW, hsame.mono (by decide) (by decide)⟩
  · show SS p e below m s₁ 0 #[vr a1, vr a2, un] [] _
    refine XS.aloadN X0.here hx rfl (hb hby d12_0) rfl rfl ?_
    show SS p e below m s₁ 1 #[vr a1, vr a2, un] [(.ref a2)] _
    refine XS.ifnonnullYes X0.here hx rfl (pc0 := 1) (pc' := 9) rfl (hb hby d12_1) rfl (by decide) (by decide) ?_
    show SS p e below m s₁ 9 #[vr a1, vr a2, un] [] _
    refine XS.aloadN X0.here hx rfl (hb hby d12_9) rfl rfl ?_
    show SS p e below m s₁ 10 #[vr a1, vr a2, un] [(.ref a2)] _
    refine st1.trans ?_
    show SS p e below m T1 13 #[vr a1, vr a2, un] [(.int z)] _
    refine XS.istoreN X1.here hx rfl (hb hby d12_13) rfl (l' := #[vr a1, vr a2, vi z]) rfl ?_
    show SS p e below m T1 14 #[vr a1, vr a2, vi z] [] _
    refine XS.aloadN X1.here hx rfl (hb hby d12_14) rfl rfl ?_
    show SS p e below m T1 15 #[vr a1, vr a2, vi z] [(.ref a1)] _
    refine XS.aloadN X1.here hx rfl (hb hby d12_15) rfl rfl ?_
    show SS p e below m T1 16 #[vr a1, vr a2, vi z] [(.ref a1), (.ref a1)] _
    refine st2 _ ?_
    show SS p e below m T2 19 #[vr a1, vr a2, vi z] [(.int c0), (.ref a1)] _
    refine XS.iloadN X2.here hx rfl (hb hby d12_19) rfl ?_
    show SS p e below m T2 20 #[vr a1, vr a2, vi z] [(.int z), (.int c0), (.ref a1)] _
    refine XS.iadd X2.here hx rfl (hb hby d12_20) rfl ?_
    show SS p e below m T2 21 #[vr a1, vr a2, vi z] [(.int (c0 + z)), (.ref a1)] _
    refine st3.trans ?_
    show SS p e below m T3 24 #[vr a1, vr a2, vi z] [] _
    refine XS.aloadN X3.here hx rfl (hb hby d12_24) rfl rfl ?_
    show SS p e below m T3 25 #[vr a1, vr a2, vi z] [(.ref a1)] _
    refine XS.aloadN X3.here hx rfl (hb hby d12_25) rfl rfl ?_
    show SS p e below m T3 26 #[vr a1, vr a2, vi z] [(.ref a1), (.ref a1)] _
    refine st4 _ ?_
    show SS p e below m T4 29 #[vr a1, vr a2, vi z] [(.int c0), (.ref a1)] _
    refine XS.aloadN X4.here hx rfl (hb hby d12_29) rfl rfl ?_
    show SS p e below m T4 30 #[vr a1, vr a2, vi z] [(.ref a2), (.int c0), (.ref a1)] _
    refine st5.trans ?_
    show SS p e below m T5 33 #[vr a1, vr a2, vi z] [] _
    refine XS.aloadN X5.here hx rfl (hb hby d12_33) rfl rfl ?_
    show SS p e below m T5 34 #[vr a1, vr a2, vi z] [(.ref a1)] _
    refine XS.dup X5.here hx rfl (hb hby d12_34) rfl rfl ?_
    show SS p e below m T5 35 #[vr a1, vr a2, vi z] [(.ref a1), (.ref a1)] _
    refine st6 _ ?_
    show SS p e below m T6 38 #[vr a1, vr a2, vi z] [(.int c0), (.ref a1)] _
    refine XS.iloadN X6.here hx rfl (hb hby d12_38) rfl ?_
    show SS p e below m T6 39 #[vr a1, vr a2, vi z] [(.int z), (.int c0), (.ref a1)] _
    refine XS.iadd X6.here hx rfl (hb hby d12_39) rfl ?_
    show SS p e below m T6 40 #[vr a1, vr a2, vi z] [(.int (c0 + z)), (.ref a1)] _
    refine st7 _ ?_
    show SS p e below m T7 43 #[vr a1, vr a2, vi z] [] _
    refine XS.aloadN X7.here hx rfl (hb hby d12_43) rfl rfl ?_
    show SS p e below m T7 44 #[vr a1, vr a2, vi z] [(.ref a1)] _
    jvm_step X7.here [X7.here.top, hx, (hb hby d12_44), X7.method', Bd.returns, Value.isRef, FieldType.isReference]
    first | (intro acts; rw [hr _ acts rfl rfl rfl]) | rw [hr _ _ rfl rfl rfl]
    exact Steps.refl _
  · show Q_rm_aap Z a1 a2 ta k z vs kd vd vd' tb c0 m' zc h0 n0 _ T7.heap _
    rw [e7]
    exact ⟨rfl, N7, KC, F_value_a1, F_coder_a1, F_count_a1, V_tb_5⟩
theorem pd_10 : parseMethodDescriptor "(Ljava/lang/String;)Ljava/lang/AbstractStringBuilder;" = some ⟨[(.object "java/lang/String")], some (.object "java/lang/AbstractStringBuilder")⟩ := by decide +kernel
theorem d11_0 : decode jdk_67_method_7_code 0 = .ok (.aload_n 0, 1) := by decide +kernel
theorem d11_1 : decode jdk_67_method_7_code 1 = .ok (.aload_n 1, 1) := by decide +kernel
theorem d11_2 : decode jdk_67_method_7_code 2 = .ok (.invokespecial 29, 3) := by decide +kernel
theorem d11_5 : decode jdk_67_method_7_code 5 = .ok (.pop, 1) := by decide +kernel
theorem d11_6 : decode jdk_67_method_7_code 6 = .ok (.aload_n 0, 1) := by decide +kernel
theorem d11_7 : decode jdk_67_method_7_code 7 = .ok (.areturn, 1) := by decide +kernel
theorem ef_rm_sap (m : MethodId) (x0 : Addr) (x1 : Addr) : entryFrame m #[(.ref x0), (.ref x1)] 2 = mkF m 0 #[vr x0, vr x1] [] := by first | (simp [entryFrame, mkF, argsToLocals, Value.category]; done) | rfl
def Q_rm_sap (Z : State) (a1 : Addr) (a2 : Addr) (ta : Addr) (k : ClassId) (z : Int32) (vs : List Value) (kd : ClassId) (vd : List Value) (vd' : List Value) (tb : Addr) (c0 : Int32) (m' : Int32) (zc : Int32) (h0 : Heap) (n0 : Nat) (v : Option Value) (h : Heap) (L : List Loc) : Prop := (v = some (.ref a1)) ∧ (Fr n0 L) ∧ (Keep h0 h [a1, tb]) ∧ (Fld Z h a1 "java/lang/AbstractStringBuilder" "value" "[B" (.ref tb)) ∧ (Fld Z h a1 "java/lang/AbstractStringBuilder" "coder" "B" (.int (0 : Int32))) ∧ (Fld Z h a1 "java/lang/AbstractStringBuilder" "count" "I" (.int m')) ∧ (Arv Z h tb kd .byte (16 : Int32) vd' (.int (0 : Int32)))
set_option maxRecDepth 65536 in
set_option maxHeartbeats 40000000 in
theorem rm_sap (l : Launch) (Z : State) (a0 : Array Value) (hw : ∀ d ∈ tables_1, d.before a0 Z = true) (ws : List Jvm.Cond) (a1 : Addr) (a2 : Addr) (ta : Addr) (k : ClassId) (z : Int32) (vs : List Value) (kd : ClassId) (vd : List Value) (vd' : List Value) (tb : Addr) (c0 : Int32) (m' : Int32) (zc : Int32) (h0 : Heap) (n0 : Nat) (Z0 : n0 ≤ h0.size) (O0 : Old Z n0 h0) (F_value_a1 : Fld Z h0 a1 "java/lang/AbstractStringBuilder" "value" "[B" (.ref tb)) (F_coder_a1 : Fld Z h0 a1 "java/lang/AbstractStringBuilder" "coder" "B" (.int (0 : Int32))) (F_count_a1 : Fld Z h0 a1 "java/lang/AbstractStringBuilder" "count" "I" (.int c0)) (E_a1 : Exa Z h0 a1 "java/lang/StringBuilder") (g_a1 : n0 ≤ a1) (E_a2 : Exa Z h0 a2 "java/lang/String") (F_value_a2 : Fld Z h0 a2 "java/lang/String" "value" "[B" (.ref ta)) (F_coder_a2 : Fld Z h0 a2 "java/lang/String" "coder" "B" (.int (0 : Int32))) (V_ta : Arv Z h0 ta k .byte z vs (.int (0 : Int32))) (V_tb : Arv Z h0 tb kd .byte (16 : Int32) vd (.int (0 : Int32))) (g_tb : n0 ≤ tb) (ne_t : ta ≠ tb) (ne_tb : tb ≠ a1) (ne_ta : ta ≠ a1) (S_CS : Sta Z Z.heap "java/lang/String" "COMPACT_STRINGS" "Z" (.int zc)) (hz : ¬ zc = (0 : Int32)) (hle : ¬ (0 : Int32) < ((c0 + z) - (16 : Int32))) (hMm : c0 + z = m') (hp3 : ¬ c0 < (0 : Int32)) (hz0 : ¬ z < (0 : Int32)) (hfit : c0.toNatClampNeg + z.toNatClampNeg ≤ 16) (hlen : c0.toNatClampNeg + z.toNatClampNeg ≤ vd.length) (hv : (vd.take c0.toNatClampNeg ++ ((List.range z.toNatClampNeg).map fun i => vs.getD ((0 : Int32).toNatClampNeg + i) (.int (0 : Int32))) ++ vd.drop (c0.toNatClampNeg + z.toNatClampNeg)) = vd') :
    MetFree l y_15 (head1 (Jvm.Cond.code y_15 jdk_67_method_7_code 2 (some (.object "java/lang/StringBuilder")) :: ws) ({ frames := 4, cells := 0, slots := 0, locals := 61 } : Room)) (fun a U => a = #[(.ref a1), (.ref a2)] ∧ Z.Warmed39 U.vm ∧ U.heap = h0) (fun _ _ _ _ _ => True) (fun _ U o U' => ∃ v L, o = .returned v ∧ Q_rm_sap Z a1 a2 ta k z vs kd vd vd' tb c0 m' zc h0 n0 v U'.heap L ∧ FrameEnd U o U' L ({ frames := 4, cells := 0, slots := 0, locals := 61 } : Room).cells ({ frames := 4, cells := 0, slots := 0, locals := 61 } : Room).slots) := by
  refine MetFree.of_bodySF (plainFor_of_name pn_4) hisR ?_
  intro p e s m args below meth c s₁ Bd hml0 hP hK
  obtain ⟨rfl, hZ, hh⟩ := hP
  have hx := Bd.exec
  have hby := Bd.bytes
  have hml : c.maxLocals = 2 := hml0
  have hown : s.vm.findClass "java/lang/StringBuilder" = some m.cls := findClass_of_methodNamed Bd.named
  have hnm := (name_of_methodNamed Bd.named Bd.method).1
  have X0 : Stand p l e ({ frames := 4, cells := 0, slots := 0, locals := 61 } : Room) s m #[(.ref a1), (.ref a2)] below meth c s₁ [] 0 0 := Stand.of_body Bd
  have e0 : s₁.heap = h0 := by rw [← hh, Bd.state]; rfl
  have N0 := Fr.nil n0
  have KC : Keep h0 h0 [a1, tb] := Keep.refl h0 _
  have pre0 : ∀ t, Steps p.tables e below (s₁.setTop (mkF m 0 #[vr a1, vr a2] [])) t → Steps p.tables e below (s₁.setTop (entryFrame m #[(.ref a1), (.ref a2)] 2)) t := fun t k => castTop (ef_rm_sap m a1 a2) k
  obtain ⟨_, _, ⟨T1, L1, kz1, nz1⟩, -, X1, ⟨Lc1, hQ1, l1, y1, z1⟩, st1⟩ := superBack X0 hx hZ (y := y_14) hown (ww hw 73 rfl) (own_sm (ww hw 76 rfl) (ww hw 122 rfl) (ww hw 121 rfl) rfl (by decide)) (ww hw 74 rfl) (ww hw 75 rfl) (by decide) (backOf (W := 0) (rm_aap l Z a0 hw [] a1 a2 ta k z vs kd vd vd' tb c0 m' zc h0 n0 (Nat.le_trans Z0 KC.1) O0 F_value_a1 F_coder_a1 F_count_a1 E_a1 g_a1 E_a2 F_value_a2 F_coder_a2 V_ta V_tb g_tb ne_t ne_tb ne_ta S_CS hz hle hMm hp3 hz0 hfit hlen hv) hZ (ww hw 77 rfl) (ww hw 60 rfl) (by decide) (by decide)) e0 (Ins.self E_a1) (g := (mkF m 2 #[vr a1, vr a2] [(.ref a2), (.ref a1)])) rfl (by rw [hml]; rfl) (ww hw 77 rfl) (argsL := [(.ref a2)]) (rest := []) (lenOf pd_10 rfl) rfl (by show 2 * 0 + _ ≤ _; exact Nat.le_of_eq rfl) (hb hby d11_2) (fun _ _ => ⟨rfl, e0, (by decide : 0 + 0 ≤ _), (by decide : 0 + 0 ≤ _)⟩)
  dsimp only [Pt.U, Pt.locs, Pt.cells, Pt.slots] at X1 l1 y1 z1 st1 hQ1
  subst l1 y1 z1
  obtain ⟨rfl, N1q, K1, F_value_a1_1, F_coder_a1_1, F_count_a1_1, V_tb_1⟩ := hQ1
  have N1 := Fr.app N0 N1q
  have nev_a2_tb : a2 ≠ tb := Exa.neArv E_a2 V_tb (ww hw 2 rfl)
  have nec_a2_a1 : a2 ≠ a1 := Exa.ne E_a2 E_a1 (by decide)
  replace E_a1 := E_a1.keep K1
  replace E_a2 := E_a2.keep K1
  replace F_value_a2 := F_value_a2.keep K1 (ninS nec_a2_a1 (ninS nev_a2_tb nin0))
  replace F_coder_a2 := F_coder_a2.keep K1 (ninS nec_a2_a1 (ninS nev_a2_tb nin0))
  replace V_ta := V_ta.keep K1 (ninS ne_ta (ninS ne_t nin0))
  replace O0 := O0.keep K1 (allS g_a1 (allS g_tb all0))
  replace KC := KC.trans K1 (allS (Or.inl (List.mem_of_getElem? (i := 0) rfl)) (allS (Or.inl (List.mem_of_getElem? (i := 1) rfl)) all0))
  obtain ⟨fs, hr, hrun, hended, hW, hsame⟩ := X1.leave (v := some (.ref a1)) (fun h => by rw [Bd.returns] at h; cases h)
  refine ⟨_, _, pre0 _ ?_, hrun, hended, _, _, rfl, ?_, ⟨_, rfl⟩, hW, hsame.mono (by decide) (by decide)⟩
  · show SS p e below m s₁ 0 #[vr a1, vr a2] [] _
    refine XS.aloadN X0.here hx rfl (hb hby d11_0) rfl rfl ?_
    show SS p e below m s₁ 1 #[vr a1, vr a2] [(.ref a1)] _
    refine XS.aloadN X0.here hx rfl (hb hby d11_1) rfl rfl ?_
    show SS p e below m s₁ 2 #[vr a1, vr a2] [(.ref a2), (.ref a1)] _
    refine st1.trans ?_
    show SS p e below m T1 5 #[vr a1, vr a2] [(.ref a1)] _
    refine XS.pop X1.here hx rfl (hb hby d11_5) rfl rfl ?_
    show SS p e below m T1 6 #[vr a1, vr a2] [] _
    refine XS.aloadN X1.here hx rfl (hb hby d11_6) rfl rfl ?_
    show SS p e below m T1 7 #[vr a1, vr a2] [(.ref a1)] _
    jvm_step X1.here [X1.here.top, hx, (hb hby d11_7), X1.method', Bd.returns, Value.isRef, FieldType.isReference]
    first | (intro acts; rw [hr _ acts rfl rfl rfl]) | rw [hr _ _ rfl rfl rfl]
    exact Steps.refl _
  · show Q_rm_sap Z a1 a2 ta k z vs kd vd vd' tb c0 m' zc h0 n0 _ T1.heap _
    exact ⟨rfl, N1, KC, F_value_a1_1, F_coder_a1_1, F_count_a1_1, V_tb_1⟩
theorem d20_0 : decode jdk_68_method_64_code 0 = .ok (.aload_n 0, 1) := by decide +kernel
theorem d20_1 : decode jdk_68_method_64_code 1 = .ok (.getfield 15, 3) := by decide +kernel
theorem d20_4 : decode jdk_68_method_64_code 4 = .ok (.areturn, 1) := by decide +kernel
theorem ef_rm_gv (m : MethodId) (x0 : Addr) : entryFrame m #[(.ref x0)] 1 = mkF m 0 #[vr x0] [] := by first | (simp [entryFrame, mkF, argsToLocals, Value.category]; done) | rfl
def Q_rm_gv (Z : State) (a1 : Addr) (ta : Addr) (h0 : Heap) (n0 : Nat) (v : Option Value) (h : Heap) (L : List Loc) : Prop := (v = some (.ref ta)) ∧ (Fr n0 L) ∧ (h = h0)
set_option maxRecDepth 65536 in
set_option maxHeartbeats 40000000 in
theorem rm_gv (l : Launch) (Z : State) (a0 : Array Value) (hw : ∀ d ∈ tables_1, d.before a0 Z = true) (ws : List Jvm.Cond) (a1 : Addr) (ta : Addr) (h0 : Heap) (n0 : Nat) (Z0 : n0 ≤ h0.size) (O0 : Old Z n0 h0) (F_value_a1 : Fld Z h0 a1 "java/lang/AbstractStringBuilder" "value" "[B" (.ref ta)) :
    MetFree l y_7 (head1 (Jvm.Cond.code y_7 jdk_68_method_64_code 1 (some (.array .byte)) :: ws) ({ frames := 0, cells := 0, slots := 0, locals := 0 } : Room)) (fun a U => a = #[(.ref a1)] ∧ Z.Warmed39 U.vm ∧ U.heap = h0) (fun _ _ _ _ _ => True) (fun _ U o U' => ∃ v L, o = .returned v ∧ Q_rm_gv Z a1 ta h0 n0 v U'.heap L ∧ FrameEnd U o U' L ({ frames := 0, cells := 0, slots := 0, locals := 0 } : Room).cells ({ frames := 0, cells := 0, slots := 0, locals := 0 } : Room).slots) := by
  refine MetFree.of_bodySF (plainFor_of_name pn_3) hisR ?_
  intro p e s m args below meth c s₁ Bd hml0 hP hK
  obtain ⟨rfl, hZ, hh⟩ := hP
  have hx := Bd.exec
  have hby := Bd.bytes
  have hml : c.maxLocals = 1 := hml0
  have hown : s.vm.findClass "java/lang/AbstractStringBuilder" = some m.cls := findClass_of_methodNamed Bd.named
  have hnm := (name_of_methodNamed Bd.named Bd.method).1
  have X0 : Stand p l e ({ frames := 0, cells := 0, slots := 0, locals := 0 } : Room) s m #[(.ref a1)] below meth c s₁ [] 0 0 := Stand.of_body Bd
  have e0 : s₁.heap = h0 := by rw [← hh, Bd.state]; rfl
  have N0 := Fr.nil n0
  have KC : Keep h0 h0 [] := Keep.refl h0 _
  have pre0 : ∀ t, Steps p.tables e below (s₁.setTop (mkF m 0 #[vr a1] [])) t → Steps p.tables e below (s₁.setTop (entryFrame m #[(.ref a1)] 1)) t := fun t k => castTop (ef_rm_gv m a1) k
  obtain ⟨T1, X1, e1, st1⟩ := getF X0 hx hZ hown (host := "") (Or.inl (ww hw 64 rfl)) Via.refl e0 F_value_a1 (g := (mkF m 1 #[vr a1] [(.ref a1)])) rfl rfl (hb hby d20_1)
  obtain ⟨fs, hr, hrun, hended, hW, hsame⟩ := X1.leave (v := some (.ref ta)) (fun h => by rw [Bd.returns] at h; cases h)
  refine ⟨_, _, pre0 _ ?_, hrun, hended, _, _, rfl, ?_, ⟨_, rfl⟩, hW, hsame.mono (by decide) (by decide)⟩
  · show SS p e below m s₁ 0 #[vr a1] [] _
    refine XS.aloadN X0.here hx rfl (hb hby d20_0) rfl rfl ?_
    show SS p e below m s₁ 1 #[vr a1] [(.ref a1)] _
    refine st1 _ ?_
    show SS p e below m T1 4 #[vr a1] [(.ref ta)] _
    jvm_step X1.here [X1.here.top, hx, (hb hby d20_4), X1.method', Bd.returns, Value.isRef, FieldType.isReference]
    first | (intro acts; rw [hr _ acts rfl rfl rfl]) | rw [hr _ _ rfl rfl rfl]
    exact Steps.refl _
  · show Q_rm_gv Z a1 ta h0 n0 _ T1.heap _
    rw [e1]
    exact ⟨rfl, N0, rfl⟩
theorem d22_0 : decode jdk_68_method_6_code 0 = .ok (.aload_n 0, 1) := by decide +kernel
theorem d22_1 : decode jdk_68_method_6_code 1 = .ok (.getfield 79, 3) := by decide +kernel
theorem d22_4 : decode jdk_68_method_6_code 4 = .ok (.ireturn, 1) := by decide +kernel
theorem ef_rm_abl (m : MethodId) (x0 : Addr) : entryFrame m #[(.ref x0)] 1 = mkF m 0 #[vr x0] [] := by first | (simp [entryFrame, mkF, argsToLocals, Value.category]; done) | rfl
def Q_rm_abl (Z : State) (a1 : Addr) (c0 : Int32) (h0 : Heap) (n0 : Nat) (v : Option Value) (h : Heap) (L : List Loc) : Prop := (v = some (.int c0)) ∧ (Fr n0 L) ∧ (h = h0)
set_option maxRecDepth 65536 in
set_option maxHeartbeats 40000000 in
theorem rm_abl (l : Launch) (Z : State) (a0 : Array Value) (hw : ∀ d ∈ tables_1, d.before a0 Z = true) (ws : List Jvm.Cond) (a1 : Addr) (c0 : Int32) (h0 : Heap) (n0 : Nat) (Z0 : n0 ≤ h0.size) (O0 : Old Z n0 h0) (F_count_a1 : Fld Z h0 a1 "java/lang/AbstractStringBuilder" "count" "I" (.int c0)) :
    MetFree l y_16 (head1 (Jvm.Cond.code y_16 jdk_68_method_6_code 1 (some .int) :: ws) ({ frames := 0, cells := 0, slots := 0, locals := 0 } : Room)) (fun a U => a = #[(.ref a1)] ∧ Z.Warmed39 U.vm ∧ U.heap = h0) (fun _ _ _ _ _ => True) (fun _ U o U' => ∃ v L, o = .returned v ∧ Q_rm_abl Z a1 c0 h0 n0 v U'.heap L ∧ FrameEnd U o U' L ({ frames := 0, cells := 0, slots := 0, locals := 0 } : Room).cells ({ frames := 0, cells := 0, slots := 0, locals := 0 } : Room).slots) := by
  refine MetFree.of_bodySF (plainFor_of_name pn_3) hisR ?_
  intro p e s m args below meth c s₁ Bd hml0 hP hK
  obtain ⟨rfl, hZ, hh⟩ := hP
  have hx := Bd.exec
  have hby := Bd.bytes
  have hml : c.maxLocals = 1 := hml0
  have hown : s.vm.findClass "java/lang/AbstractStringBuilder" = some m.cls := findClass_of_methodNamed Bd.named
  have hnm := (name_of_methodNamed Bd.named Bd.method).1
  have X0 : Stand p l e ({ frames := 0, cells := 0, slots := 0, locals := 0 } : Room) s m #[(.ref a1)] below meth c s₁ [] 0 0 := Stand.of_body Bd
  have e0 : s₁.heap = h0 := by rw [← hh, Bd.state]; rfl
  have N0 := Fr.nil n0
  have KC : Keep h0 h0 [] := Keep.refl h0 _
  have pre0 : ∀ t, Steps p.tables e below (s₁.setTop (mkF m 0 #[vr a1] [])) t → Steps p.tables e below (s₁.setTop (entryFrame m #[(.ref a1)] 1)) t := fun t k => castTop (ef_rm_abl m a1) k
  obtain ⟨T1, X1, e1, st1⟩ := getF X0 hx hZ hown (host := "") (Or.inl (ww hw 79 rfl)) Via.refl e0 F_count_a1 (g := (mkF m 1 #[vr a1] [(.ref a1)])) rfl rfl (hb hby d22_1)
  obtain ⟨fs, hr, hrun, hended, hW, hsame⟩ := X1.leave (v := some (.int c0)) (fun h => by rw [Bd.returns] at h; cases h)
  refine ⟨_, _, pre0 _ ?_, hrun, hended, _, _, rfl, ?_, ⟨_, rfl⟩, hW, hsame.mono (by decide) (by decide)⟩
  · show SS p e below m s₁ 0 #[vr a1] [] _
    refine XS.aloadN X0.here hx rfl (hb hby d22_0) rfl rfl ?_
    show SS p e below m s₁ 1 #[vr a1] [(.ref a1)] _
    refine st1 _ ?_
    show SS p e below m T1 4 #[vr a1] [(.int c0)] _
    exact retI X1 hx Bd.returns (hb hby d22_4) hr
  · show Q_rm_abl Z a1 c0 h0 n0 _ T1.heap _
    rw [e1]
    exact ⟨rfl, N0, rfl⟩
theorem d21_0 : decode jdk_67_method_93_code 0 = .ok (.aload_n 0, 1) := by decide +kernel
theorem d21_1 : decode jdk_67_method_93_code 1 = .ok (.invokespecial 343, 3) := by decide +kernel
theorem d21_4 : decode jdk_67_method_93_code 4 = .ok (.ireturn, 1) := by decide +kernel
theorem ef_rm_sbl (m : MethodId) (x0 : Addr) : entryFrame m #[(.ref x0)] 1 = mkF m 0 #[vr x0] [] := by first | (simp [entryFrame, mkF, argsToLocals, Value.category]; done) | rfl
def Q_rm_sbl (Z : State) (a1 : Addr) (c0 : Int32) (h0 : Heap) (n0 : Nat) (v : Option Value) (h : Heap) (L : List Loc) : Prop := (v = some (.int c0)) ∧ (Fr n0 L) ∧ (h = h0)
set_option maxRecDepth 65536 in
set_option maxHeartbeats 40000000 in
theorem rm_sbl (l : Launch) (Z : State) (a0 : Array Value) (hw : ∀ d ∈ tables_1, d.before a0 Z = true) (ws : List Jvm.Cond) (a1 : Addr) (c0 : Int32) (h0 : Heap) (n0 : Nat) (Z0 : n0 ≤ h0.size) (O0 : Old Z n0 h0) (F_count_a1 : Fld Z h0 a1 "java/lang/AbstractStringBuilder" "count" "I" (.int c0)) (E_a1 : Exa Z h0 a1 "java/lang/StringBuilder") :
    MetFree l y_17 (head1 (Jvm.Cond.code y_17 jdk_67_method_93_code 1 (some .int) :: ws) ({ frames := 1, cells := 0, slots := 0, locals := 12 } : Room)) (fun a U => a = #[(.ref a1)] ∧ Z.Warmed39 U.vm ∧ U.heap = h0) (fun _ _ _ _ _ => True) (fun _ U o U' => ∃ v L, o = .returned v ∧ Q_rm_sbl Z a1 c0 h0 n0 v U'.heap L ∧ FrameEnd U o U' L ({ frames := 1, cells := 0, slots := 0, locals := 12 } : Room).cells ({ frames := 1, cells := 0, slots := 0, locals := 12 } : Room).slots) := by
  refine MetFree.of_bodySF (plainFor_of_name pn_4) hisR ?_
  intro p e s m args below meth c s₁ Bd hml0 hP hK
  obtain ⟨rfl, hZ, hh⟩ := hP
  have hx := Bd.exec
  have hby := Bd.bytes
  have hml : c.maxLocals = 1 := hml0
  have hown : s.vm.findClass "java/lang/StringBuilder" = some m.cls := findClass_of_methodNamed Bd.named
  have hnm := (name_of_methodNamed Bd.named Bd.method).1
  have X0 : Stand p l e ({ frames := 1, cells := 0, slots := 0, locals := 12 } : Room) s m #[(.ref a1)] below meth c s₁ [] 0 0 := Stand.of_body Bd
  have e0 : s₁.heap = h0 := by rw [← hh, Bd.state]; rfl
  have N0 := Fr.nil n0
  have KC : Keep h0 h0 [] := Keep.refl h0 _
  have pre0 : ∀ t, Steps p.tables e below (s₁.setTop (mkF m 0 #[vr a1] [])) t → Steps p.tables e below (s₁.setTop (entryFrame m #[(.ref a1)] 1)) t := fun t k => castTop (ef_rm_sbl m a1) k
  obtain ⟨_, _, ⟨T1, L1, kz1, nz1⟩, -, X1, ⟨Lc1, hQ1, l1, y1, z1⟩, st1⟩ := superBack X0 hx hZ (y := y_16) hown (ww hw 130 rfl) (own_sm (ww hw 125 rfl) (ww hw 122 rfl) (ww hw 121 rfl) rfl (by decide)) (ww hw 126 rfl) (ww hw 75 rfl) (by decide) (backOf (W := 0) (rm_abl l Z a0 hw [] a1 c0 h0 n0 (Nat.le_trans Z0 KC.1) O0 F_count_a1) hZ (ww hw 131 rfl) (ww hw 60 rfl) (by decide) (by decide)) e0 (Ins.self E_a1) (g := (mkF m 1 #[vr a1] [(.ref a1)])) rfl (by rw [hml]; rfl) (ww hw 131 rfl) (argsL := []) (rest := []) (lenOf pd_8 rfl) rfl (by show 2 * 0 + _ ≤ _; exact Nat.le_of_eq rfl) (hb hby d21_1) (fun _ _ => ⟨rfl, e0, (by decide : 0 + 0 ≤ _), (by decide : 0 + 0 ≤ _)⟩)
  dsimp only [Pt.U, Pt.locs, Pt.cells, Pt.slots] at X1 l1 y1 z1 st1 hQ1
  subst l1 y1 z1
  obtain ⟨rfl, N1q, e1⟩ := hQ1
  have N1 := Fr.app N0 N1q
  obtain ⟨fs, hr, hrun, hended, hW, hsame⟩ := X1.leave (v := some (.int c0)) (fun h => by rw [Bd.returns] at h; cases h)
  refine ⟨_, _, pre0 _ ?_, hrun, hended, _, _, rfl, ?_, ⟨_, rfl⟩, hW, hsame.mono (by decide) (by decide)⟩
  · show SS p e below m s₁ 0 #[vr a1] [] _
    refine XS.aloadN X0.here hx rfl (hb hby d21_0) rfl rfl ?_
    show SS p e below m s₁ 1 #[vr a1] [(.ref a1)] _
    refine st1.trans ?_
    show SS p e below m T1 4 #[vr a1] [(.int c0)] _
    exact retI X1 hx Bd.returns (hb hby d21_4) hr
  · show Q_rm_sbl Z a1 c0 h0 n0 _ T1.heap _
    rw [e1]
    exact ⟨rfl, N1, rfl⟩
theorem d23_0 : decode jdk_68_method_68_code 0 = .ok (.getstatic 18, 3) := by decide +kernel
theorem d23_3 : decode jdk_68_method_68_code 3 = .ok (.ifCond .eq 14, 3) := by decide +kernel
theorem d23_6 : decode jdk_68_method_68_code 6 = .ok (.aload_n 0, 1) := by decide +kernel
theorem d23_7 : decode jdk_68_method_68_code 7 = .ok (.getfield 22, 3) := by decide +kernel
theorem d23_10 : decode jdk_68_method_68_code 10 = .ok (.ifCond .ne 7, 3) := by decide +kernel
theorem d23_13 : decode jdk_68_method_68_code 13 = .ok (.iconst 1, 1) := by decide +kernel
theorem d23_14 : decode jdk_68_method_68_code 14 = .ok (.goto 4, 3) := by decide +kernel
theorem d23_18 : decode jdk_68_method_68_code 18 = .ok (.ireturn, 1) := by decide +kernel
theorem ef_rm_abL (m : MethodId) (x0 : Addr) : entryFrame m #[(.ref x0)] 1 = mkF m 0 #[vr x0] [] := by first | (simp [entryFrame, mkF, argsToLocals, Value.category]; done) | rfl
def Q_rm_abL (Z : State) (a1 : Addr) (zc : Int32) (h0 : Heap) (n0 : Nat) (v : Option Value) (h : Heap) (L : List Loc) : Prop := (v = some (.int (1 : Int32))) ∧ (Fr n0 L) ∧ (h = h0)
set_option maxRecDepth 65536 in
set_option maxHeartbeats 40000000 in
theorem rm_abL (l : Launch) (Z : State) (a0 : Array Value) (hw : ∀ d ∈ tables_1, d.before a0 Z = true) (ws : List Jvm.Cond) (a1 : Addr) (zc : Int32) (h0 : Heap) (n0 : Nat) (Z0 : n0 ≤ h0.size) (O0 : Old Z n0 h0) (F_coder_a1 : Fld Z h0 a1 "java/lang/AbstractStringBuilder" "coder" "B" (.int (0 : Int32))) (S_CS : Sta Z Z.heap "java/lang/String" "COMPACT_STRINGS" "Z" (.int zc)) (hz : ¬ zc = (0 : Int32)) :
    MetFree l y_18 (head1 (Jvm.Cond.code y_18 jdk_68_method_68_code 1 (some .boolean) :: ws) ({ frames := 0, cells := 0, slots := 0, locals := 0 } : Room)) (fun a U => a = #[(.ref a1)] ∧ Z.Warmed39 U.vm ∧ U.heap = h0) (fun _ _ _ _ _ => True) (fun _ U o U' => ∃ v L, o = .returned v ∧ Q_rm_abL Z a1 zc h0 n0 v U'.heap L ∧ FrameEnd U o U' L ({ frames := 0, cells := 0, slots := 0, locals := 0 } : Room).cells ({ frames := 0, cells := 0, slots := 0, locals := 0 } : Room).slots) := by
  refine MetFree.of_bodySF (plainFor_of_name pn_3) hisR ?_
  intro p e s m args below meth c s₁ Bd hml0 hP hK
  obtain ⟨rfl, hZ, hh⟩ := hP
  have hx := Bd.exec
  have hby := Bd.bytes
  have hml : c.maxLocals = 1 := hml0
  have hown : s.vm.findClass "java/lang/AbstractStringBuilder" = some m.cls := findClass_of_methodNamed Bd.named
  have hnm := (name_of_methodNamed Bd.named Bd.method).1
  have X0 : Stand p l e ({ frames := 0, cells := 0, slots := 0, locals := 0 } : Room) s m #[(.ref a1)] below meth c s₁ [] 0 0 := Stand.of_body Bd
  have e0 : s₁.heap = h0 := by rw [← hh, Bd.state]; rfl
  have N0 := Fr.nil n0
  have KC : Keep h0 h0 [] := Keep.refl h0 _
  have pre0 : ∀ t, Steps p.tables e below (s₁.setTop (mkF m 0 #[vr a1] [])) t → Steps p.tables e below (s₁.setTop (entryFrame m #[(.ref a1)] 1)) t := fun t k => castTop (ef_rm_abL m a1) k
  obtain ⟨T1, X1, e1, st1⟩ := getS2 X0 hx hZ hown (host := "") (Or.inl (ww hw 63 rfl)) Via.refl e0 (S_CS.ext O0.2) (g := (mkF m 0 #[vr a1] [])) rfl (hb hby d23_0)
  obtain ⟨T2, X2, e2, st2⟩ := getF X1 hx hZ hown (host := "") (Or.inl (ww hw 66 rfl)) Via.refl e1 F_coder_a1 (g := (mkF m 7 #[vr a1] [(.ref a1)])) rfl rfl (hb hby d23_7)
  obtain ⟨fs, hr, hrun, hended, hW, hsame⟩ := X2.leave (v := some (.int (1 : Int32))) (fun h => by rw [Bd.returns] at h; cases h)
  refine ⟨_, _, pre0 _ ?_, hrun, hended, _, _, rfl, ?_, ⟨_, rfl⟩, hW, hsame.mono (by decide) (by decide)⟩
  · show SS p e below m s₁ 0 #[vr a1] [] _
    refine st1 _ ?_
    show SS p e below m T1 3 #[vr a1] [(.int zc)] _
    refine XS.ifNo X1.here hx rfl (hb hby d23_3) rfl ((if0 _ _).trans (feq hz).1) ?_
    show SS p e below m T1 6 #[vr a1] [] _
    refine XS.aloadN X1.here hx rfl (hb hby d23_6) rfl rfl ?_
    show SS p e below m T1 7 #[vr a1] [(.ref a1)] _
    refine st2 _ ?_
    show SS p e below m T2 10 #[vr a1] [(.int (0 : Int32))] _
    refine XS.ifNo X2.here hx rfl (hb hby d23_10) rfl ((if0 _ _).trans (teq (by decide)).2) ?_
    show SS p e below m T2 13 #[vr a1] [] _
    refine XS.iconst X2.here hx rfl (hb hby d23_13) ?_
    show SS p e below m T2 14 #[vr a1] [(.int (1 : Int32))] _
    refine XS.goto X2.here hx rfl (pc0 := 14) (pc' := 18) rfl (hb hby d23_14) (by decide) (by decide) ?_
    show SS p e below m T2 18 #[vr a1] [(.int (1 : Int32))] _
    exact retN X2 hx (t := .boolean) Bd.returns (by simp) (hb hby d23_18) hr
  · show Q_rm_abL Z a1 zc h0 n0 _ T2.heap _
    rw [e2]
    exact ⟨rfl, N0, rfl⟩
theorem d26_0 : decode jdk_65_method_131_code 0 = .ok (.iload_n 1, 1) := by decide +kernel
theorem d26_1 : decode jdk_65_method_131_code 1 = .ok (.iload_n 0, 1) := by decide +kernel
theorem d26_2 : decode jdk_65_method_131_code 2 = .ok (.if_icmp .ge 35, 3) := by decide +kernel
theorem d26_37 : decode jdk_65_method_131_code 37 = .ok (.return_, 1) := by decide +kernel
theorem pn_5 : plainName "java/util/Arrays" = true := by first | (simp [plainName, overriddenIn]; done) | decide +kernel
theorem ef_rm_ckl (m : MethodId) (x0 : Int32) (x1 : Int32) : entryFrame m #[(.int x0), (.int x1)] 2 = mkF m 0 #[vi x0, vi x1] [] := by first | (simp [entryFrame, mkF, argsToLocals, Value.category]; done) | rfl
def Q_rm_ckl (Z : State) (p2 : Int32) (h0 : Heap) (n0 : Nat) (v : Option Value) (h : Heap) (L : List Loc) : Prop := (v = none) ∧ (Fr n0 L) ∧ (h = h0)
set_option maxRecDepth 65536 in
set_option maxHeartbeats 40000000 in
theorem rm_ckl (l : Launch) (Z : State) (a0 : Array Value) (hw : ∀ d ∈ tables_1, d.before a0 Z = true) (ws : List Jvm.Cond) (p2 : Int32) (h0 : Heap) (n0 : Nat) (Z0 : n0 ≤ h0.size) (O0 : Old Z n0 h0) (hp0 : ¬ p2 < (0 : Int32)) :
    MetFree l y_19 (head1 (Jvm.Cond.code y_19 jdk_65_method_131_code 2 none :: ws) ({ frames := 0, cells := 0, slots := 0, locals := 0 } : Room)) (fun a U => a = #[(.int (0 : Int32)), (.int p2)] ∧ Z.Warmed39 U.vm ∧ U.heap = h0) (fun _ _ _ _ _ => True) (fun _ U o U' => ∃ v L, o = .returned v ∧ Q_rm_ckl Z p2 h0 n0 v U'.heap L ∧ FrameEnd U o U' L ({ frames := 0, cells := 0, slots := 0, locals := 0 } : Room).cells ({ frames := 0, cells := 0, slots := 0, locals := 0 } : Room).slots) := by
  refine MetFree.of_bodySF (plainFor_of_name pn_5) hisR ?_
  intro p e s m args below meth c s₁ Bd hml0 hP hK
  obtain ⟨rfl, hZ, hh⟩ := hP
  have hx := Bd.exec
  have hby := Bd.bytes
  have hml : c.maxLocals = 2 := hml0
  have hown : s.vm.findClass "java/util/Arrays" = some m.cls := findClass_of_methodNamed Bd.named
  have hnm := (name_of_methodNamed Bd.named Bd.method).1
  have X0 : Stand p l e ({ frames := 0, cells := 0, slots := 0, locals := 0 } : Room) s m #[(.int (0 : Int32)), (.int p2)] below meth c s₁ [] 0 0 := Stand.of_body Bd
  have e0 : s₁.heap = h0 := by rw [← hh, Bd.state]; rfl
  have N0 := Fr.nil n0
  have KC : Keep h0 h0 [] := Keep.refl h0 _
  have pre0 : ∀ t, Steps p.tables e below (s₁.setTop (mkF m 0 #[vi (0 : Int32), vi p2] [])) t → Steps p.tables e below (s₁.setTop (entryFrame m #[(.int (0 : Int32)), (.int p2)] 2)) t := fun t k => castTop (ef_rm_ckl m (0 : Int32) p2) k
  obtain ⟨fs, hr, hrun, hended, hW, hsame⟩ := X0.leave (v := none) (fun _ => rfl)
  refine ⟨_, _, pre0 _ ?_, hrun, hended, _, _, rfl, ?_, ⟨_, rfl⟩, hW, hsame.mono (by decide) (by decide)⟩
  · show SS p e below m s₁ 0 #[vi (0 : Int32), vi p2] [] _
    refine XS.iloadN X0.here hx rfl (hb hby d26_0) rfl ?_
    show SS p e below m s₁ 1 #[vi (0 : Int32), vi p2] [(.int p2)] _
    refine XS.iloadN X0.here hx rfl (hb hby d26_1) rfl ?_
    show SS p e below m s₁ 2 #[vi (0 : Int32), vi p2] [(.int (0 : Int32)), (.int p2)] _
    refine XS.icmpYes X0.here hx rfl (pc0 := 2) (pc' := 37) rfl (hb hby d26_2) rfl (flt hp0).2.1 (by decide) (by decide) ?_
    show SS p e below m s₁ 37 #[vi (0 : Int32), vi p2] [] _
    exact X0.returnOut hx Bd.returns (hb hby d26_37) hr
  · show Q_rm_ckl Z p2 h0 n0 _ s₁.heap _
    rw [e0]
    exact ⟨rfl, N0, rfl⟩
theorem d27_0 : decode jdk_29_method_69_code 0 = .ok (.iload_n 0, 1) := by decide +kernel
theorem d27_1 : decode jdk_29_method_69_code 1 = .ok (.iload_n 1, 1) := by decide +kernel
theorem d27_2 : decode jdk_29_method_69_code 2 = .ok (.if_icmp .gt 7, 3) := by decide +kernel
theorem d27_5 : decode jdk_29_method_69_code 5 = .ok (.iload_n 0, 1) := by decide +kernel
theorem d27_6 : decode jdk_29_method_69_code 6 = .ok (.goto 4, 3) := by decide +kernel
theorem d27_9 : decode jdk_29_method_69_code 9 = .ok (.iload_n 1, 1) := by decide +kernel
theorem d27_10 : decode jdk_29_method_69_code 10 = .ok (.ireturn, 1) := by decide +kernel
theorem ef_rm_min (m : MethodId) (x0 : Int32) (x1 : Int32) : entryFrame m #[(.int x0), (.int x1)] 2 = mkF m 0 #[vi x0, vi x1] [] := by first | (simp [entryFrame, mkF, argsToLocals, Value.category]; done) | rfl
def Q_rm_min (Z : State) (p1 : Int32) (p2 : Int32) (h0 : Heap) (n0 : Nat) (v : Option Value) (h : Heap) (L : List Loc) : Prop := (v = some (.int (if p2 < p1 then p2 else p1))) ∧ (Fr n0 L) ∧ (h = h0)
set_option maxRecDepth 65536 in
set_option maxHeartbeats 40000000 in
theorem rm_min (l : Launch) (Z : State) (a0 : Array Value) (hw : ∀ d ∈ tables_1, d.before a0 Z = true) (ws : List Jvm.Cond) (p1 : Int32) (p2 : Int32) (h0 : Heap) (n0 : Nat) (Z0 : n0 ≤ h0.size) (O0 : Old Z n0 h0) :
    MetFree l y_20 (head1 (Jvm.Cond.code y_20 jdk_29_method_69_code 2 (some .int) :: ws) ({ frames := 0, cells := 0, slots := 0, locals := 0 } : Room)) (fun a U => a = #[(.int p1), (.int p2)] ∧ Z.Warmed39 U.vm ∧ U.heap = h0) (fun _ _ _ _ _ => True) (fun _ U o U' => ∃ v L, o = .returned v ∧ Q_rm_min Z p1 p2 h0 n0 v U'.heap L ∧ FrameEnd U o U' L ({ frames := 0, cells := 0, slots := 0, locals := 0 } : Room).cells ({ frames := 0, cells := 0, slots := 0, locals := 0 } : Room).slots) := by
  refine MetFree.of_bodySF (Jvm.Free.JP.mathPlain rfl (by decide +kernel)) hisR ?_
  intro p e s m args below meth c s₁ Bd hml0 hP hK
  obtain ⟨rfl, hZ, hh⟩ := hP
  have hx := Bd.exec
  have hby := Bd.bytes
  have hml : c.maxLocals = 2 := hml0
  have hown : s.vm.findClass "java/lang/Math" = some m.cls := findClass_of_methodNamed Bd.named
  have hnm := (name_of_methodNamed Bd.named Bd.method).1
  have X0 : Stand p l e ({ frames := 0, cells := 0, slots := 0, locals := 0 } : Room) s m #[(.int p1), (.int p2)] below meth c s₁ [] 0 0 := Stand.of_body Bd
  have e0 : s₁.heap = h0 := by rw [← hh, Bd.state]; rfl
  have N0 := Fr.nil n0
  have KC : Keep h0 h0 [] := Keep.refl h0 _
  have pre0 : ∀ t, Steps p.tables e below (s₁.setTop (mkF m 0 #[vi p1, vi p2] [])) t → Steps p.tables e below (s₁.setTop (entryFrame m #[(.int p1), (.int p2)] 2)) t := fun t k => castTop (ef_rm_min m p1 p2) k
  have pre1 : ∀ t, Steps p.tables e below (s₁.setTop (mkF m 2 #[vi p1, vi p2] [(.int p2), (.int p1)])) t → Steps p.tables e below (s₁.setTop (entryFrame m #[(.int p1), (.int p2)] 2)) t := by
    intro t kt
    refine pre0 t ?_
    show SS p e below m s₁ 0 #[vi p1, vi p2] [] _
    refine XS.iloadN X0.here hx rfl (hb hby d27_0) rfl ?_
    show SS p e below m s₁ 1 #[vi p1, vi p2] [(.int p1)] _
    refine XS.iloadN X0.here hx rfl (hb hby d27_1) rfl ?_
    exact kt
  by_cases hc2_2 : p2 < p1
  · obtain ⟨fs, hr, hrun, hended, hW, hsame⟩ := X0.leave (v := some (.int p2)) (fun h => by rw [Bd.returns] at h; cases h)
    refine ⟨_, _, pre1 _ ?_, hrun, hended, _, _, rfl, ?_, ⟨_, rfl⟩, hW, hsame.mono (by decide) (by decide)⟩
    · show SS p e below m s₁ 2 #[vi p1, vi p2] [(.int p2), (.int p1)] _
      refine XS.icmpYes X0.here hx rfl (pc0 := 2) (pc' := 9) rfl (hb hby d27_2) rfl (tlt hc2_2).2.2.1 (by decide) (by decide) ?_
      show SS p e below m s₁ 9 #[vi p1, vi p2] [] _
      refine XS.iloadN X0.here hx rfl (hb hby d27_9) rfl ?_
      show SS p e below m s₁ 10 #[vi p1, vi p2] [(.int p2)] _
      exact retI X0 hx Bd.returns (hb hby d27_10) hr
    · show Q_rm_min Z p1 p2 h0 n0 _ s₁.heap _
      rw [e0]
      exact ⟨(by simp [hc2_2]), N0, rfl⟩
  · obtain ⟨fs, hr, hrun, hended, hW, hsame⟩ := X0.leave (v := some (.int p1)) (fun h => by rw [Bd.returns] at h; cases h)
    refine ⟨_, _, pre1 _ ?_, hrun, hended, _, _, rfl, ?_, ⟨_, rfl⟩, hW, hsame.mono (by decide) (by decide)⟩
    · show SS p e below m s₁ 2 #[vi p1, vi p2] [(.int p2), (.int p1)] _
      refine XS.icmpNo X0.here hx rfl (hb hby d27_2) rfl (flt hc2_2).2.2.1 ?_
      show SS p e below m s₁ 5 #[vi p1, vi p2] [] _
      refine XS.iloadN X0.here hx rfl (hb hby d27_5) rfl ?_
      show SS p e below m s₁ 6 #[vi p1, vi p2] [(.int p1)] _
      refine XS.goto X0.here hx rfl (pc0 := 6) (pc' := 10) rfl (hb hby d27_6) (by decide) (by decide) ?_
      show SS p e below m s₁ 10 #[vi p1, vi p2] [(.int p1)] _
      exact retI X0 hx Bd.returns (hb hby d27_10) hr
    · show Q_rm_min Z p1 p2 h0 n0 _ s₁.heap _
      rw [e0]
      exact ⟨(by simp [hc2_2]), N0, rfl⟩
theorem pd_11 : parseMethodDescriptor "(II)I" = some ⟨[.int, .int], some .int⟩ := by decide +kernel
theorem d25_0 : decode jdk_65_method_133_code 0 = .ok (.iload_n 1, 1) := by decide +kernel
theorem d25_1 : decode jdk_65_method_133_code 1 = .ok (.iload_n 2, 1) := by decide +kernel
theorem d25_2 : decode jdk_65_method_133_code 2 = .ok (.invokestatic 343, 3) := by decide +kernel
theorem d25_5 : decode jdk_65_method_133_code 5 = .ok (.iload_n 2, 1) := by decide +kernel
theorem d25_6 : decode jdk_65_method_133_code 6 = .ok (.iload_n 1, 1) := by decide +kernel
theorem d25_7 : decode jdk_65_method_133_code 7 = .ok (.isub, 1) := by decide +kernel
theorem d25_8 : decode jdk_65_method_133_code 8 = .ok (.istore_n 3, 1) := by decide +kernel
theorem d25_9 : decode jdk_65_method_133_code 9 = .ok (.iload_n 3, 1) := by decide +kernel
theorem d25_10 : decode jdk_65_method_133_code 10 = .ok (.newarray .byte, 2) := by decide +kernel
theorem d25_12 : decode jdk_65_method_133_code 12 = .ok (.astore 4, 2) := by decide +kernel
theorem d25_14 : decode jdk_65_method_133_code 14 = .ok (.aload_n 0, 1) := by decide +kernel
theorem d25_15 : decode jdk_65_method_133_code 15 = .ok (.iload_n 1, 1) := by decide +kernel
theorem d25_16 : decode jdk_65_method_133_code 16 = .ok (.aload 4, 2) := by decide +kernel
theorem d25_18 : decode jdk_65_method_133_code 18 = .ok (.iconst 0, 1) := by decide +kernel
theorem d25_19 : decode jdk_65_method_133_code 19 = .ok (.aload_n 0, 1) := by decide +kernel
theorem d25_20 : decode jdk_65_method_133_code 20 = .ok (.arraylength, 1) := by decide +kernel
theorem d25_21 : decode jdk_65_method_133_code 21 = .ok (.iload_n 1, 1) := by decide +kernel
theorem d25_22 : decode jdk_65_method_133_code 22 = .ok (.isub, 1) := by decide +kernel
theorem d25_23 : decode jdk_65_method_133_code 23 = .ok (.iload_n 3, 1) := by decide +kernel
theorem d25_24 : decode jdk_65_method_133_code 24 = .ok (.invokestatic 304, 3) := by decide +kernel
theorem d25_27 : decode jdk_65_method_133_code 27 = .ok (.invokestatic 150, 3) := by decide +kernel
theorem d25_30 : decode jdk_65_method_133_code 30 = .ok (.aload 4, 2) := by decide +kernel
theorem d25_32 : decode jdk_65_method_133_code 32 = .ok (.areturn, 1) := by decide +kernel
theorem ef_rm_crb (m : MethodId) (x0 : Addr) (x1 : Int32) (x2 : Int32) : entryFrame m #[(.ref x0), (.int x1), (.int x2)] 5 = mkF m 0 #[vr x0, vi x1, vi x2, .unset, .unset] [] := by first | (simp [entryFrame, mkF, argsToLocals, Value.category]; done) | rfl
def Q_rm_crb (Z : State) (a1 : Addr) (p3 : Int32) (k : ClassId) (vs : List Value) (vs2 : List Value) (h0 : Heap) (n0 : Nat) (v : Option Value) (h : Heap) (L : List Loc) : Prop := ∃ b : Addr, ∃ k2 : ClassId, (v = some (.ref b)) ∧ (Fr n0 L) ∧ (Keep h0 h []) ∧ (h0.size ≤ b) ∧ (Arv Z h b k2 .byte p3 vs2 (.int (0 : Int32)))
set_option maxRecDepth 65536 in
set_option maxHeartbeats 40000000 in
theorem rm_crb (l : Launch) (Z : State) (a0 : Array Value) (hw : ∀ d ∈ tables_1, d.before a0 Z = true) (ws : List Jvm.Cond) (a1 : Addr) (p3 : Int32) (k : ClassId) (vs : List Value) (vs2 : List Value) (h0 : Heap) (n0 : Nat) (Z0 : n0 ≤ h0.size) (O0 : Old Z n0 h0) (V_a1 : Arv Z h0 a1 k .byte (16 : Int32) vs (.int (0 : Int32))) (hp0 : ¬ p3 < (0 : Int32)) (hlt : p3 < (16 : Int32)) (h16 : p3.toNatClampNeg ≤ 16) (hv2 : ((List.replicate 16 (.int (0 : Int32))).take (0 : Int32).toNatClampNeg ++ ((List.range p3.toNatClampNeg).map fun i => vs.getD ((0 : Int32).toNatClampNeg + i) (.int (0 : Int32))) ++ (List.replicate 16 (.int (0 : Int32))).drop ((0 : Int32).toNatClampNeg + p3.toNatClampNeg)) = vs2) :
    MetFree l y_21 (head1 (Jvm.Cond.code y_21 jdk_65_method_133_code 5 (some (.array .byte)) :: ws) ({ frames := 1, cells := 1, slots := 16, locals := 18 } : Room)) (fun a U => a = #[(.ref a1), (.int (0 : Int32)), (.int p3)] ∧ Z.Warmed39 U.vm ∧ U.heap = h0) (fun _ _ _ _ _ => True) (fun _ U o U' => ∃ v L, o = .returned v ∧ Q_rm_crb Z a1 p3 k vs vs2 h0 n0 v U'.heap L ∧ FrameEnd U o U' L ({ frames := 1, cells := 1, slots := 16, locals := 18 } : Room).cells ({ frames := 1, cells := 1, slots := 16, locals := 18 } : Room).slots) := by
  refine MetFree.of_bodySF (plainFor_of_name pn_5) hisR ?_
  intro p e s m args below meth c s₁ Bd hml0 hP hK
  obtain ⟨rfl, hZ, hh⟩ := hP
  have hx := Bd.exec
  have hby := Bd.bytes
  have hml : c.maxLocals = 5 := hml0
  have hown : s.vm.findClass "java/util/Arrays" = some m.cls := findClass_of_methodNamed Bd.named
  have hnm := (name_of_methodNamed Bd.named Bd.method).1
  have X0 : Stand p l e ({ frames := 1, cells := 1, slots := 16, locals := 18 } : Room) s m #[(.ref a1), (.int (0 : Int32)), (.int p3)] below meth c s₁ [] 0 0 := Stand.of_body Bd
  have e0 : s₁.heap = h0 := by rw [← hh, Bd.state]; rfl
  have N0 := Fr.nil n0
  have KC : Keep h0 h0 [] := Keep.refl h0 _
  have pre0 : ∀ t, Steps p.tables e below (s₁.setTop (mkF m 0 #[vr a1, vi (0 : Int32), vi p3, un, un] [])) t → Steps p.tables e below (s₁.setTop (entryFrame m #[(.ref a1), (.int (0 : Int32)), (.int p3)] 5)) t := fun t k => castTop (ef_rm_crb m a1 (0 : Int32) p3) k
  obtain ⟨_, _, ⟨T1, L1, kz1, nz1⟩, -, X1, ⟨Lc1, hQ1, l1, y1, z1⟩, st1⟩ := Jvm.LawKit.callS X0 hx (y := y_19) hown (mvT hZ (ww hw 144 rfl)) (mvT hZ (ww hw 145 rfl)) (mvT hZ (ww hw 139 rfl)) (mvT hZ (ww hw 146 rfl)) (by decide) (backOf (W := 0) (rm_ckl l Z a0 hw [] p3 h0 n0 (Nat.le_trans Z0 KC.1) O0 hp0) hZ (ww hw 146 rfl) (ww hw 139 rfl) (by decide) (by decide)) (g := (mkF m 2 #[vr a1, vi (0 : Int32), vi p3, un, un] [(.int p3), (.int (0 : Int32))])) rfl (by rw [hml]; rfl) (argsL := [(.int (0 : Int32)), (.int p3)]) (rest := []) (lenOf pd_2 rfl) rfl (by show 2 * 0 + _ ≤ _; exact Nat.le_of_eq rfl) (hb hby d25_2) (fun _ _ => ⟨rfl, e0, (by decide : 0 + 0 ≤ _), (by decide : 0 + 0 ≤ _)⟩)
  dsimp only [Pt.U, Pt.locs, Pt.cells, Pt.slots] at X1 l1 y1 z1 st1 hQ1
  subst l1 y1 z1
  obtain ⟨rfl, N1q, e1⟩ := hQ1
  have N1 := Fr.app N0 N1q
  have pre2 : ∀ t, Steps p.tables e below (T1.setTop (mkF m 8 #[vr a1, vi (0 : Int32), vi p3, un, un] [(.int (p3 - (0 : Int32)))])) t → Steps p.tables e below (s₁.setTop (entryFrame m #[(.ref a1), (.int (0 : Int32)), (.int p3)] 5)) t := by
    intro t kt
    refine pre0 t ?_
    show SS p e below m s₁ 0 #[vr a1, vi (0 : Int32), vi p3, un, un] [] _
    refine XS.iloadN X0.here hx rfl (hb hby d25_0) rfl ?_
    show SS p e below m s₁ 1 #[vr a1, vi (0 : Int32), vi p3, un, un] [(.int (0 : Int32))] _
    refine XS.iloadN X0.here hx rfl (hb hby d25_1) rfl ?_
    show SS p e below m s₁ 2 #[vr a1, vi (0 : Int32), vi p3, un, un] [(.int p3), (.int (0 : Int32))] _
    refine st1 _ ?_
    show SS p e below m T1 5 #[vr a1, vi (0 : Int32), vi p3, un, un] [] _
    refine XS.iloadN X1.here hx rfl (hb hby d25_5) rfl ?_
    show SS p e below m T1 6 #[vr a1, vi (0 : Int32), vi p3, un, un] [(.int p3)] _
    refine XS.iloadN X1.here hx rfl (hb hby d25_6) rfl ?_
    show SS p e below m T1 7 #[vr a1, vi (0 : Int32), vi p3, un, un] [(.int (0 : Int32)), (.int p3)] _
    refine XS.isub X1.here hx rfl (hb hby d25_7) rfl ?_
    exact kt
  rw [(own_sub0 _)] at pre2
  obtain ⟨T3, h3, k3, X3, e3, E3, A3, st3⟩ := newP X1 hx hZ (ww hw 15 rfl) e1 (g := (mkF m 10 #[vr a1, vi (0 : Int32), vi p3, vi p3, un] [(.int p3)])) rfl (hb hby d25_10) rfl hp0 (cap := 16) h16 (by decide) (by decide) (by decide)
  obtain ⟨b3, g3⟩ : ∃ z, z = h0.size := ⟨_, rfl⟩
  rw [← g3] at A3 st3
  have ne_a1_b3 : a1 ≠ b3 := Nat.ne_of_lt (Nat.lt_of_lt_of_le V_a1.lt (Nat.le_of_eq g3.symm))
  have g_b3 : n0 ≤ b3 := Nat.le_trans (Nat.le_trans Z0 KC.1) (Nat.le_of_eq g3.symm)
  have sz_b3 : h0.size ≤ b3 := Nat.le_trans KC.1 (Nat.le_of_eq g3.symm)
  replace V_a1 := V_a1.ext E3
  replace O0 := O0.ext E3
  replace KC := KC.ext E3
  have V_b3 : Arv Z h3 b3 k3 .byte p3 [] (.int (0 : Int32)) := Arv.new A3 hp0
  have Vo4 := V_a1
  obtain ⟨cl4, Ar4, -, Sz4, Nn4, -, -⟩ := Vo4
  have ia4 := State.isArrayOf_alike hZ.alike Ar4.2.1
  obtain ⟨_, _, ⟨T5, L5, kz5, nz5⟩, -, X5, ⟨Lc5, hQ5, l5, y5, z5⟩, st5⟩ := Jvm.LawKit.callS X3 hx (y := y_20) hown (mvT hZ (ww hw 147 rfl)) (mvT hZ (ww hw 148 rfl)) (mvT hZ (ww hw 149 rfl)) (mvT hZ (ww hw 150 rfl)) (by decide) (backOf (W := 4) (rm_min l Z a0 hw [] (16 : Int32) p3 h3 n0 (Nat.le_trans Z0 KC.1) O0 ) hZ (ww hw 150 rfl) (ww hw 149 rfl) (by decide) (by decide)) (g := (mkF m 24 #[vr a1, vi (0 : Int32), vi p3, vi p3, vr b3] [(.int p3), (.int (16 : Int32)), (.int (0 : Int32)), (.ref b3), (.int (0 : Int32)), (.ref a1)])) rfl (by rw [hml]; rfl) (argsL := [(.int (16 : Int32)), (.int p3)]) (rest := [(.int (0 : Int32)), (.ref b3), (.int (0 : Int32)), (.ref a1)]) (lenOf pd_11 rfl) rfl (by show 2 * 0 + _ ≤ _; exact Nat.le_of_eq rfl) (hb hby d25_24) (fun _ _ => ⟨rfl, e3, (by decide : 1 + 0 ≤ _), (by decide : 16 + 0 ≤ _)⟩)
  dsimp only [Pt.U, Pt.locs, Pt.cells, Pt.slots] at X5 l5 y5 z5 st5 hQ5
  subst l5 y5 z5
  obtain ⟨rfl, N5q, e5⟩ := hQ5
  have N5 := Fr.app N1 N5q
  have pre6 : ∀ t, Steps p.tables e below (T5.setTop (mkF m 27 #[vr a1, vi (0 : Int32), vi p3, vi p3, vr b3] [(.int (if p3 < (16 : Int32) then p3 else (16 : Int32))), (.int (0 : Int32)), (.ref b3), (.int (0 : Int32)), (.ref a1)])) t → Steps p.tables e below (s₁.setTop (entryFrame m #[(.ref a1), (.int (0 : Int32)), (.int p3)] 5)) t := by
    intro t kt
    refine pre2 t ?_
    show SS p e below m T1 8 #[vr a1, vi (0 : Int32), vi p3, un, un] [(.int p3)] _
    refine XS.istoreN X1.here hx rfl (hb hby d25_8) rfl (l' := #[vr a1, vi (0 : Int32), vi p3, vi p3, un]) rfl ?_
    show SS p e below m T1 9 #[vr a1, vi (0 : Int32), vi p3, vi p3, un] [] _
    refine XS.iloadN X1.here hx rfl (hb hby d25_9) rfl ?_
    show SS p e below m T1 10 #[vr a1, vi (0 : Int32), vi p3, vi p3, un] [(.int p3)] _
    refine st3 _ ?_
    show SS p e below m T3 12 #[vr a1, vi (0 : Int32), vi p3, vi p3, un] [(.ref b3)] _
    refine XS.astore X3.here hx rfl (hb hby d25_12) rfl rfl (l' := #[vr a1, vi (0 : Int32), vi p3, vi p3, vr b3]) rfl ?_
    show SS p e below m T3 14 #[vr a1, vi (0 : Int32), vi p3, vi p3, vr b3] [] _
    refine XS.aloadN X3.here hx rfl (hb hby d25_14) rfl rfl ?_
    show SS p e below m T3 15 #[vr a1, vi (0 : Int32), vi p3, vi p3, vr b3] [(.ref a1)] _
    refine XS.iloadN X3.here hx rfl (hb hby d25_15) rfl ?_
    show SS p e below m T3 16 #[vr a1, vi (0 : Int32), vi p3, vi p3, vr b3] [(.int (0 : Int32)), (.ref a1)] _
    refine XS.aload X3.here hx rfl (hb hby d25_16) rfl rfl ?_
    show SS p e below m T3 18 #[vr a1, vi (0 : Int32), vi p3, vi p3, vr b3] [(.ref b3), (.int (0 : Int32)), (.ref a1)] _
    refine XS.iconst X3.here hx rfl (hb hby d25_18) ?_
    show SS p e below m T3 19 #[vr a1, vi (0 : Int32), vi p3, vi p3, vr b3] [(.int (0 : Int32)), (.ref b3), (.int (0 : Int32)), (.ref a1)] _
    refine XS.aloadN X3.here hx rfl (hb hby d25_19) rfl rfl ?_
    show SS p e below m T3 20 #[vr a1, vi (0 : Int32), vi p3, vi p3, vr b3] [(.ref a1), (.int (0 : Int32)), (.ref b3), (.int (0 : Int32)), (.ref a1)] _
    refine X3.arraylength hx (by rw [e3]; exact Ar4.1) ia4 (g := (mkF m 20 #[vr a1, vi (0 : Int32), vi p3, vi p3, vr b3] [(.ref a1), (.int (0 : Int32)), (.ref b3), (.int (0 : Int32)), (.ref a1)])) rfl rfl (hb hby d25_20) _ ?_
    rw [len_of Sz4 Nn4]
    show SS p e below m T3 21 #[vr a1, vi (0 : Int32), vi p3, vi p3, vr b3] [(.int (16 : Int32)), (.int (0 : Int32)), (.ref b3), (.int (0 : Int32)), (.ref a1)] _
    refine XS.iloadN X3.here hx rfl (hb hby d25_21) rfl ?_
    show SS p e below m T3 22 #[vr a1, vi (0 : Int32), vi p3, vi p3, vr b3] [(.int (0 : Int32)), (.int (16 : Int32)), (.int (0 : Int32)), (.ref b3), (.int (0 : Int32)), (.ref a1)] _
    refine XS.isub X3.here hx rfl (hb hby d25_22) rfl ?_
    show SS p e below m T3 23 #[vr a1, vi (0 : Int32), vi p3, vi p3, vr b3] [(.int (16 : Int32)), (.int (0 : Int32)), (.ref b3), (.int (0 : Int32)), (.ref a1)] _
    refine XS.iloadN X3.here hx rfl (hb hby d25_23) rfl ?_
    show SS p e below m T3 24 #[vr a1, vi (0 : Int32), vi p3, vi p3, vr b3] [(.int p3), (.int (16 : Int32)), (.int (0 : Int32)), (.ref b3), (.int (0 : Int32)), (.ref a1)] _
    refine st5 _ ?_
    exact kt
  rw [(if_pos hlt)] at pre6
  have Vp : Arv Z h3 b3 k3 .byte p3 (List.replicate 16 (.int (0 : Int32))) (.int (0 : Int32)) := V_b3.pad (pad_rep [] (.int (0 : Int32)) 16)
  obtain ⟨T7, h7, L7, X7, e7, N7, K7, Vq7, st7⟩ := cpA X5 hx hZ hown (ww hw 151 rfl) (ww hw 105 rfl) (ww hw 103 rfl) (ww hw 104 rfl) e5 V_a1 Vp (us := (List.range p3.toNatClampNeg).map fun i => vs.getD ((0 : Int32).toNatClampNeg + i) (.int (0 : Int32))) (Or.inl ⟨rfl, rfl⟩) (by decide) (by decide) hp0 (by show 0 + _ ≤ 16; omega) (by show 0 + _ ≤ _; omega) rfl (by simp only [List.length_replicate]; show 0 + _ ≤ _; omega) N5 g_b3 (g := (mkF m 27 #[vr a1, vi (0 : Int32), vi p3, vi p3, vr b3] [(.int p3), (.int (0 : Int32)), (.ref b3), (.int (0 : Int32)), (.ref a1)])) rfl (by rw [hml]; rfl) rfl (hb hby d25_27) (by decide) (W := 0) (by show 2 * 0 + _ ≤ _; exact Nat.le_of_eq rfl) (by decide)
  replace V_a1 := V_a1.keep K7 (ninS ne_a1_b3 nin0)
  replace O0 := O0.keep K7 (allS g_b3 all0)
  replace KC := KC.trans K7 (allS (Or.inr sz_b3) all0)
  rw [hv2] at Vq7
  obtain ⟨fs, hr, hrun, hended, hW, hsame⟩ := X7.leave (v := some (.ref b3)) (fun h => by rw [Bd.returns] at h; cases h)
  refine ⟨_, _, pre6 _ ?_, hrun, hended, _, _, rfl, ?_, ⟨_, rfl⟩, hW, hsame.mono (by decide) (by decide)⟩
  · show SS p e below m T5 27 #[vr a1, vi (0 : Int32), vi p3, vi p3, vr b3] [(.int p3), (.int (0 : Int32)), (.ref b3), (.int (0 : Int32)), (.ref a1)] _
    refine st7 _ ?_
    show SS p e below m T7 30 #[vr a1, vi (0 : Int32), vi p3, vi p3, vr b3] [] _
    refine XS.aload X7.here hx rfl (hb hby d25_30) rfl rfl ?_
    show SS p e below m T7 32 #[vr a1, vi (0 : Int32), vi p3, vi p3, vr b3] [(.ref b3)] _
    jvm_step X7.here [X7.here.top, hx, (hb hby d25_32), X7.method', Bd.returns, Value.isRef, FieldType.isReference]
    first | (intro acts; rw [hr _ acts rfl rfl rfl]) | rw [hr _ _ rfl rfl rfl]
    exact Steps.refl _
  · show Q_rm_crb Z a1 p3 k vs vs2 h0 n0 _ T7.heap _
    rw [e7]
    exact ⟨b3, k3, rfl, N7, KC, sz_b3, Vq7⟩
theorem pd_12 : parseMethodDescriptor "([BII)[B" = some ⟨[(.array .byte), .int, .int], some (.array .byte)⟩ := by decide +kernel
theorem d24_0 : decode jdk_65_method_132_code 0 = .ok (.iload_n 1, 1) := by decide +kernel
theorem d24_1 : decode jdk_65_method_132_code 1 = .ok (.ifCond .ne 9, 3) := by decide +kernel
theorem d24_4 : decode jdk_65_method_132_code 4 = .ok (.iload_n 2, 1) := by decide +kernel
theorem d24_5 : decode jdk_65_method_132_code 5 = .ok (.aload_n 0, 1) := by decide +kernel
theorem d24_6 : decode jdk_65_method_132_code 6 = .ok (.arraylength, 1) := by decide +kernel
theorem d24_7 : decode jdk_65_method_132_code 7 = .ok (.if_icmp .eq 10, 3) := by decide +kernel
theorem d24_10 : decode jdk_65_method_132_code 10 = .ok (.aload_n 0, 1) := by decide +kernel
theorem d24_11 : decode jdk_65_method_132_code 11 = .ok (.iload_n 1, 1) := by decide +kernel
theorem d24_12 : decode jdk_65_method_132_code 12 = .ok (.iload_n 2, 1) := by decide +kernel
theorem d24_13 : decode jdk_65_method_132_code 13 = .ok (.invokestatic 339, 3) := by decide +kernel
theorem d24_16 : decode jdk_65_method_132_code 16 = .ok (.areturn, 1) := by decide +kernel
theorem ef_rm_cor (m : MethodId) (x0 : Addr) (x1 : Int32) (x2 : Int32) : entryFrame m #[(.ref x0), (.int x1), (.int x2)] 3 = mkF m 0 #[vr x0, vi x1, vi x2] [] := by first | (simp [entryFrame, mkF, argsToLocals, Value.category]; done) | rfl
def Q_rm_cor (Z : State) (a1 : Addr) (p3 : Int32) (k : ClassId) (vs : List Value) (vs2 : List Value) (h0 : Heap) (n0 : Nat) (v : Option Value) (h : Heap) (L : List Loc) : Prop := ∃ b : Addr, ∃ k2 : ClassId, (v = some (.ref b)) ∧ (Fr n0 L) ∧ (Keep h0 h []) ∧ (h0.size ≤ b) ∧ (Arv Z h b k2 .byte p3 vs2 (.int (0 : Int32)))
set_option maxRecDepth 65536 in
set_option maxHeartbeats 40000000 in
theorem rm_cor (l : Launch) (Z : State) (a0 : Array Value) (hw : ∀ d ∈ tables_1, d.before a0 Z = true) (ws : List Jvm.Cond) (a1 : Addr) (p3 : Int32) (k : ClassId) (vs : List Value) (vs2 : List Value) (h0 : Heap) (n0 : Nat) (Z0 : n0 ≤ h0.size) (O0 : Old Z n0 h0) (V_a1 : Arv Z h0 a1 k .byte (16 : Int32) vs (.int (0 : Int32))) (hp0 : ¬ p3 < (0 : Int32)) (hlt : p3 < (16 : Int32)) (h16 : p3.toNatClampNeg ≤ 16) (hv2 : ((List.replicate 16 (.int (0 : Int32))).take (0 : Int32).toNatClampNeg ++ ((List.range p3.toNatClampNeg).map fun i => vs.getD ((0 : Int32).toNatClampNeg + i) (.int (0 : Int32))) ++ (List.replicate 16 (.int (0 : Int32))).drop ((0 : Int32).toNatClampNeg + p3.toNatClampNeg)) = vs2) :
    MetFree l y_22 (head1 (Jvm.Cond.code y_22 jdk_65_method_132_code 3 (some (.array .byte)) :: ws) ({ frames := 2, cells := 1, slots := 16, locals := 34 } : Room)) (fun a U => a = #[(.ref a1), (.int (0 : Int32)), (.int p3)] ∧ Z.Warmed39 U.vm ∧ U.heap = h0) (fun _ _ _ _ _ => True) (fun _ U o U' => ∃ v L, o = .returned v ∧ Q_rm_cor Z a1 p3 k vs vs2 h0 n0 v U'.heap L ∧ FrameEnd U o U' L ({ frames := 2, cells := 1, slots := 16, locals := 34 } : Room).cells ({ frames := 2, cells := 1, slots := 16, locals := 34 } : Room).slots) := by
  refine MetFree.of_bodySF (plainFor_of_name pn_5) hisR ?_
  intro p e s m args below meth c s₁ Bd hml0 hP hK
  obtain ⟨rfl, hZ, hh⟩ := hP
  have hx := Bd.exec
  have hby := Bd.bytes
  have hml : c.maxLocals = 3 := hml0
  have hown : s.vm.findClass "java/util/Arrays" = some m.cls := findClass_of_methodNamed Bd.named
  have hnm := (name_of_methodNamed Bd.named Bd.method).1
  have X0 : Stand p l e ({ frames := 2, cells := 1, slots := 16, locals := 34 } : Room) s m #[(.ref a1), (.int (0 : Int32)), (.int p3)] below meth c s₁ [] 0 0 := Stand.of_body Bd
  have e0 : s₁.heap = h0 := by rw [← hh, Bd.state]; rfl
  have N0 := Fr.nil n0
  have KC : Keep h0 h0 [] := Keep.refl h0 _
  have pre0 : ∀ t, Steps p.tables e below (s₁.setTop (mkF m 0 #[vr a1, vi (0 : Int32), vi p3] [])) t → Steps p.tables e below (s₁.setTop (entryFrame m #[(.ref a1), (.int (0 : Int32)), (.int p3)] 3)) t := fun t k => castTop (ef_rm_cor m a1 (0 : Int32) p3) k
  have Vo1 := V_a1
  obtain ⟨cl1, Ar1, -, Sz1, Nn1, -, -⟩ := Vo1
  have ia1 := State.isArrayOf_alike hZ.alike Ar1.2.1
  obtain ⟨_, _, ⟨T2, L2, kz2, nz2⟩, -, X2, ⟨Lc2, hQ2, l2, y2, z2⟩, st2⟩ := Jvm.LawKit.callS X0 hx (y := y_21) hown (mvT hZ (ww hw 141 rfl)) (mvT hZ (ww hw 142 rfl)) (mvT hZ (ww hw 139 rfl)) (mvT hZ (ww hw 143 rfl)) (by decide) (backOf (W := 0) (rm_crb l Z a0 hw [] a1 p3 k vs vs2 h0 n0 (Nat.le_trans Z0 KC.1) O0 V_a1 hp0 hlt h16 hv2) hZ (ww hw 143 rfl) (ww hw 139 rfl) (by decide) (by decide)) (g := (mkF m 13 #[vr a1, vi (0 : Int32), vi p3] [(.int p3), (.int (0 : Int32)), (.ref a1)])) rfl (by rw [hml]; rfl) (argsL := [(.ref a1), (.int (0 : Int32)), (.int p3)]) (rest := []) (lenOf pd_12 rfl) rfl (by show 2 * 0 + _ ≤ _; exact Nat.le_of_eq rfl) (hb hby d24_13) (fun _ _ => ⟨rfl, e0, (by decide : 0 + 1 ≤ _), (by decide : 0 + 16 ≤ _)⟩)
  dsimp only [Pt.U, Pt.locs, Pt.cells, Pt.slots] at X2 l2 y2 z2 st2 hQ2
  subst l2 y2 z2
  obtain ⟨b2_b, k2_2, rfl, N2q, K2, sz_b2_b, V_b_2⟩ := hQ2
  have N2 := Fr.app N0 N2q
  have ne_a1_b2_b : a1 ≠ b2_b := Nat.ne_of_lt (Nat.lt_of_lt_of_le V_a1.lt sz_b2_b)
  have g_b2_b : n0 ≤ b2_b := Nat.le_trans (Nat.le_trans Z0 KC.1) sz_b2_b
  replace sz_b2_b : h0.size ≤ b2_b := Nat.le_trans KC.1 sz_b2_b
  replace V_a1 := V_a1.keep K2 nin0
  replace O0 := O0.keep K2 all0
  replace KC := KC.trans K2 all0
  obtain ⟨fs, hr, hrun, hended, hW, hsame⟩ := X2.leave (v := some (.ref b2_b)) (fun h => by rw [Bd.returns] at h; cases h)
  refine ⟨_, _, pre0 _ ?_, hrun, hended, _, _, rfl, ?_, ⟨_, rfl⟩, hW, hsame.mono (by decide) (by decide)⟩
  · show SS p e below m s₁ 0 #[vr a1, vi (0 : Int32), vi p3] [] _
    refine XS.iloadN X0.here hx rfl (hb hby d24_0) rfl ?_
    show SS p e below m s₁ 1 #[vr a1, vi (0 : Int32), vi p3] [(.int (0 : Int32))] _
    refine XS.ifNo X0.here hx rfl (hb hby d24_1) rfl ((if0 _ _).trans (teq (by decide)).2) ?_
    show SS p e below m s₁ 4 #[vr a1, vi (0 : Int32), vi p3] [] _
    refine XS.iloadN X0.here hx rfl (hb hby d24_4) rfl ?_
    show SS p e below m s₁ 5 #[vr a1, vi (0 : Int32), vi p3] [(.int p3)] _
    refine XS.aloadN X0.here hx rfl (hb hby d24_5) rfl rfl ?_
    show SS p e below m s₁ 6 #[vr a1, vi (0 : Int32), vi p3] [(.ref a1), (.int p3)] _
    refine X0.arraylength hx (by rw [e0]; exact Ar1.1) ia1 (g := (mkF m 6 #[vr a1, vi (0 : Int32), vi p3] [(.ref a1), (.int p3)])) rfl rfl (hb hby d24_6) _ ?_
    rw [len_of Sz1 Nn1]
    show SS p e below m s₁ 7 #[vr a1, vi (0 : Int32), vi p3] [(.int (16 : Int32)), (.int p3)] _
    refine XS.icmpNo X0.here hx rfl (hb hby d24_7) rfl (feq (own_lne hlt)).1 ?_
    show SS p e below m s₁ 10 #[vr a1, vi (0 : Int32), vi p3] [] _
    refine XS.aloadN X0.here hx rfl (hb hby d24_10) rfl rfl ?_
    show SS p e below m s₁ 11 #[vr a1, vi (0 : Int32), vi p3] [(.ref a1)] _
    refine XS.iloadN X0.here hx rfl (hb hby d24_11) rfl ?_
    show SS p e below m s₁ 12 #[vr a1, vi (0 : Int32), vi p3] [(.int (0 : Int32)), (.ref a1)] _
    refine XS.iloadN X0.here hx rfl (hb hby d24_12) rfl ?_
    show SS p e below m s₁ 13 #[vr a1, vi (0 : Int32), vi p3] [(.int p3), (.int (0 : Int32)), (.ref a1)] _
    refine st2 _ ?_
    show SS p e below m T2 16 #[vr a1, vi (0 : Int32), vi p3] [(.ref b2_b)] _
    jvm_step X2.here [X2.here.top, hx, (hb hby d24_16), X2.method', Bd.returns, Value.isRef, FieldType.isReference]
    first | (intro acts; rw [hr _ acts rfl rfl rfl]) | rw [hr _ _ rfl rfl rfl]
    exact Steps.refl _
  · show Q_rm_cor Z a1 p3 k vs vs2 h0 n0 _ T2.heap _
    exact ⟨b2_b, k2_2, rfl, N2, KC, sz_b2_b, V_b_2⟩
theorem pd_13 : parseMethodDescriptor "()[B" = some ⟨[], some (.array .byte)⟩ := by decide +kernel
theorem d19_0 : decode jdk_42_method_150_code 0 = .ok (.aload_n 0, 1) := by decide +kernel
theorem d19_1 : decode jdk_42_method_150_code 1 = .ok (.invokespecial 1, 3) := by decide +kernel
theorem d19_4 : decode jdk_42_method_150_code 4 = .ok (.aload_n 1, 1) := by decide +kernel
theorem d19_5 : decode jdk_42_method_150_code 5 = .ok (.invokevirtual 552, 3) := by decide +kernel
theorem d19_8 : decode jdk_42_method_150_code 8 = .ok (.astore_n 3, 1) := by decide +kernel
theorem d19_9 : decode jdk_42_method_150_code 9 = .ok (.aload_n 1, 1) := by decide +kernel
theorem d19_10 : decode jdk_42_method_150_code 10 = .ok (.invokevirtual 549, 3) := by decide +kernel
theorem d19_13 : decode jdk_42_method_150_code 13 = .ok (.istore 4, 2) := by decide +kernel
theorem d19_15 : decode jdk_42_method_150_code 15 = .ok (.aload_n 1, 1) := by decide +kernel
theorem d19_16 : decode jdk_42_method_150_code 16 = .ok (.invokevirtual 1047, 3) := by decide +kernel
theorem d19_19 : decode jdk_42_method_150_code 19 = .ok (.ifCond .eq 22, 3) := by decide +kernel
theorem d19_22 : decode jdk_42_method_150_code 22 = .ok (.aload_n 0, 1) := by decide +kernel
theorem d19_23 : decode jdk_42_method_150_code 23 = .ok (.iconst 0, 1) := by decide +kernel
theorem d19_24 : decode jdk_42_method_150_code 24 = .ok (.putfield 15, 3) := by decide +kernel
theorem d19_27 : decode jdk_42_method_150_code 27 = .ok (.aload_n 0, 1) := by decide +kernel
theorem d19_28 : decode jdk_42_method_150_code 28 = .ok (.aload_n 3, 1) := by decide +kernel
theorem d19_29 : decode jdk_42_method_150_code 29 = .ok (.iconst 0, 1) := by decide +kernel
theorem d19_30 : decode jdk_42_method_150_code 30 = .ok (.iload 4, 2) := by decide +kernel
theorem d19_32 : decode jdk_42_method_150_code 32 = .ok (.invokestatic 54, 3) := by decide +kernel
theorem d19_35 : decode jdk_42_method_150_code 35 = .ok (.putfield 9, 3) := by decide +kernel
theorem d19_38 : decode jdk_42_method_150_code 38 = .ok (.goto 59, 3) := by decide +kernel
theorem d19_97 : decode jdk_42_method_150_code 97 = .ok (.return_, 1) := by decide +kernel
theorem ef_rm_sib (m : MethodId) (x0 : Addr) (x1 : Addr) : entryFrame m #[(.ref x0), (.ref x1), .null] 5 = mkF m 0 #[vr x0, vr x1, vN, .unset, .unset] [] := by first | (simp [entryFrame, mkF, argsToLocals, Value.category]; done) | rfl
def Q_rm_sib (Z : State) (a1 : Addr) (a2 : Addr) (tb : Addr) (c0 : Int32) (k : ClassId) (vs : List Value) (vs2 : List Value) (zc : Int32) (h0 : Heap) (n0 : Nat) (v : Option Value) (h : Heap) (L : List Loc) : Prop := ∃ b : Addr, ∃ k2 : ClassId, (v = none) ∧ (Fr n0 L) ∧ (Keep h0 h [a1]) ∧ (h0.size ≤ b) ∧ (Fld Z h a1 "java/lang/String" "value" "[B" (.ref b)) ∧ (Fld Z h a1 "java/lang/String" "coder" "B" (.int (0 : Int32))) ∧ (Arv Z h b k2 .byte c0 vs2 (.int (0 : Int32)))
set_option maxRecDepth 65536 in
set_option maxHeartbeats 40000000 in
theorem rm_sib (l : Launch) (Z : State) (a0 : Array Value) (hw : ∀ d ∈ tables_1, d.before a0 Z = true) (ws : List Jvm.Cond) (a1 : Addr) (a2 : Addr) (tb : Addr) (c0 : Int32) (k : ClassId) (vs : List Value) (vs2 : List Value) (zc : Int32) (h0 : Heap) (n0 : Nat) (Z0 : n0 ≤ h0.size) (O0 : Old Z n0 h0) (F_value_a1 : Fld Z h0 a1 "java/lang/String" "value" "[B" .null) (F_coder_a1 : Fld Z h0 a1 "java/lang/String" "coder" "B" (.int (0 : Int32))) (E_a1 : Exa Z h0 a1 "java/lang/String") (g_a1 : n0 ≤ a1) (F_value_a2 : Fld Z h0 a2 "java/lang/AbstractStringBuilder" "value" "[B" (.ref tb)) (F_coder_a2 : Fld Z h0 a2 "java/lang/AbstractStringBuilder" "coder" "B" (.int (0 : Int32))) (F_count_a2 : Fld Z h0 a2 "java/lang/AbstractStringBuilder" "count" "I" (.int c0)) (E_a2 : Exa Z h0 a2 "java/lang/StringBuilder") (V_tb : Arv Z h0 tb k .byte (16 : Int32) vs (.int (0 : Int32))) (ne_tb : tb ≠ a1) (ne_a2 : a2 ≠ a1) (S_CS : Sta Z Z.heap "java/lang/String" "COMPACT_STRINGS" "Z" (.int zc)) (hz : ¬ zc = (0 : Int32)) (hp0 : ¬ c0 < (0 : Int32)) (hlt : c0 < (16 : Int32)) (h16 : c0.toNatClampNeg ≤ 16) (hv2 : ((List.replicate 16 (.int (0 : Int32))).take (0 : Int32).toNatClampNeg ++ ((List.range c0.toNatClampNeg).map fun i => vs.getD ((0 : Int32).toNatClampNeg + i) (.int (0 : Int32))) ++ (List.replicate 16 (.int (0 : Int32))).drop ((0 : Int32).toNatClampNeg + c0.toNatClampNeg)) = vs2) :
    MetFree l y_23 (head1 (Jvm.Cond.code y_23 jdk_42_method_150_code 5 none :: ws) ({ frames := 3, cells := 1, slots := 16, locals := 49 } : Room)) (fun a U => a = #[(.ref a1), (.ref a2), .null] ∧ Z.Warmed39 U.vm ∧ U.heap = h0) (fun _ _ _ _ _ => True) (fun _ U o U' => ∃ v L, o = .returned v ∧ Q_rm_sib Z a1 a2 tb c0 k vs vs2 zc h0 n0 v U'.heap L ∧ FrameEnd U o U' L ({ frames := 3, cells := 1, slots := 16, locals := 49 } : Room).cells ({ frames := 3, cells := 1, slots := 16, locals := 49 } : Room).slots) := by
  refine MetFree.of_bodySF (plainFor_of_name pn_0) hisR ?_
  intro p e s m args below meth c s₁ Bd hml0 hP hK
  obtain ⟨rfl, hZ, hh⟩ := hP
  have hx := Bd.exec
  have hby := Bd.bytes
  have hml : c.maxLocals = 5 := hml0
  have hown : s.vm.findClass "java/lang/String" = some m.cls := findClass_of_methodNamed Bd.named
  have hnm := (name_of_methodNamed Bd.named Bd.method).1
  have X0 : Stand p l e ({ frames := 3, cells := 1, slots := 16, locals := 49 } : Room) s m #[(.ref a1), (.ref a2), .null] below meth c s₁ [] 0 0 := Stand.of_body Bd
  have e0 : s₁.heap = h0 := by rw [← hh, Bd.state]; rfl
  have N0 := Fr.nil n0
  have KC : Keep h0 h0 [a1] := Keep.refl h0 _
  have pre0 : ∀ t, Steps p.tables e below (s₁.setTop (mkF m 0 #[vr a1, vr a2, vN, un, un] [])) t → Steps p.tables e below (s₁.setTop (entryFrame m #[(.ref a1), (.ref a2), .null] 5)) t := fun t k => castTop (ef_rm_sib m a1 a2) k
  obtain ⟨T1, X1, e1, st1⟩ := initO X0 hx hZ hown (ww hw 11 rfl) (ww hw 12 rfl) (ww hw 13 rfl) e0 (g := (mkF m 1 #[vr a1, vr a2, vN, un, un] [(.ref a1)])) rfl (by rw [hml]; rfl) rfl (hb hby d19_1) (by decide) (W := 0) (by show 2 * 0 + _ ≤ _; exact Nat.le_of_eq rfl) (by decide)
  obtain ⟨cq2, kq2, q2a, q2b, q2c⟩ := isOf hZ e1 E_a2
  obtain ⟨_, _, ⟨T2, L2, kz2, nz2⟩, -, X2, ⟨Lc2, hQ2, l2, y2, z2⟩, st2⟩ := X1.virtualBack hx (y := y_7) (z := y_7) hown (mvT hZ (ww hw 119 rfl)) (mvT hZ (ww hw 120 rfl)) (notFace_of_selects (args := #[]) (mvT hZ (ww hw 122 rfl))) (mvT hZ (ww hw 122 rfl)) (mvT hZ (ww hw 121 rfl)) (by decide) (backOf (W := 0) (rm_gv l Z a0 hw [] a2 tb h0 n0 (Nat.le_trans Z0 KC.1) O0 F_value_a2) hZ (ww hw 123 rfl) (ww hw 60 rfl) (by decide) (by decide)) q2a q2c (g := (mkF m 5 #[vr a1, vr a2, vN, un, un] [(.ref a2)])) rfl (by rw [hml]; rfl) (Steps.refl _) (argsL := []) (rest := []) (lenOf pd_13 rfl) rfl (by show 2 * 0 + _ ≤ _; exact Nat.le_of_eq rfl) (hb hby d19_5) (fun _ _ => ⟨rfl, e1, (by decide : 0 + 0 ≤ _), (by decide : 0 + 0 ≤ _)⟩)
  dsimp only [Pt.U, Pt.locs, Pt.cells, Pt.slots] at X2 l2 y2 z2 st2 hQ2
  subst l2 y2 z2
  obtain ⟨rfl, N2q, e2⟩ := hQ2
  have N2 := Fr.app N0 N2q
  obtain ⟨cq3, kq3, q3a, q3b, q3c⟩ := isOf hZ e2 E_a2
  obtain ⟨_, _, ⟨T3, L3, kz3, nz3⟩, -, X3, ⟨Lc3, hQ3, l3, y3, z3⟩, st3⟩ := X2.virtualBack hx (y := y_16) (z := y_17) hown (mvT hZ (ww hw 124 rfl)) (mvT hZ (ww hw 125 rfl)) (own_nf (args := #[]) (y2 := y_7) (mvT hZ (ww hw 122 rfl)) (mvT hZ (ww hw 121 rfl)) rfl) (mvT hZ (ww hw 127 rfl)) (mvT hZ (ww hw 128 rfl)) (by decide) (backOf (W := 0) (rm_sbl l Z a0 hw [] a2 c0 h0 n0 (Nat.le_trans Z0 KC.1) O0 F_count_a2 E_a2) hZ (ww hw 129 rfl) (ww hw 52 rfl) (by decide) (by decide)) q3a q3c (g := (mkF m 10 #[vr a1, vr a2, vN, vr tb, un] [(.ref a2)])) rfl (by rw [hml]; rfl) (Steps.refl _) (argsL := []) (rest := []) (lenOf pd_8 rfl) rfl (by show 2 * 0 + _ ≤ _; exact Nat.le_of_eq rfl) (hb hby d19_10) (fun _ _ => ⟨rfl, e2, (by decide : 0 + 0 ≤ _), (by decide : 0 + 0 ≤ _)⟩)
  dsimp only [Pt.U, Pt.locs, Pt.cells, Pt.slots] at X3 l3 y3 z3 st3 hQ3
  subst l3 y3 z3
  obtain ⟨rfl, N3q, e3⟩ := hQ3
  have N3 := Fr.app N2 N3q
  obtain ⟨cq4, kq4, q4a, q4b, q4c⟩ := isOf hZ e3 E_a2
  obtain ⟨_, _, ⟨T4, L4, kz4, nz4⟩, -, X4, ⟨Lc4, hQ4, l4, y4, z4⟩, st4⟩ := X3.virtualBack hx (y := y_18) (z := y_18) hown (mvT hZ (ww hw 132 rfl)) (mvT hZ (ww hw 133 rfl)) (notFace_of_selects (args := #[]) (mvT hZ (ww hw 135 rfl))) (mvT hZ (ww hw 135 rfl)) (mvT hZ (ww hw 134 rfl)) (by decide) (backOf (W := 0) (rm_abL l Z a0 hw [] a2 zc h0 n0 (Nat.le_trans Z0 KC.1) O0 F_coder_a2 S_CS hz) hZ (ww hw 136 rfl) (ww hw 60 rfl) (by decide) (by decide)) q4a q4c (g := (mkF m 16 #[vr a1, vr a2, vN, vr tb, vi c0] [(.ref a2)])) rfl (by rw [hml]; rfl) (Steps.refl _) (argsL := []) (rest := []) (lenOf pd_3 rfl) rfl (by show 2 * 0 + _ ≤ _; exact Nat.le_of_eq rfl) (hb hby d19_16) (fun _ _ => ⟨rfl, e3, (by decide : 0 + 0 ≤ _), (by decide : 0 + 0 ≤ _)⟩)
  dsimp only [Pt.U, Pt.locs, Pt.cells, Pt.slots] at X4 l4 y4 z4 st4 hQ4
  subst l4 y4 z4
  obtain ⟨rfl, N4q, e4⟩ := hQ4
  have N4 := Fr.app N3 N4q
  obtain ⟨T5, h5, X5, e5, W5, st5⟩ := putFN X4 hx hZ hown (ww hw 21 rfl) Via.refl e4 F_coder_a1 E_a1 (Or.inr ⟨(ww hw 17 rfl), rfl, hnm⟩) (ww hw 2 rfl) (ty := .byte) (v' := .int (0 : Int32)) (by decide) rfl rfl (g := (mkF m 24 #[vr a1, vr a2, vN, vr tb, vi c0] [(.int (0 : Int32)), (.ref a1)])) rfl rfl (hb hby d19_24)
  have N5 := Fr.snoc X5 N4 g_a1
  replace F_coder_a1 := F_coder_a1.same W5
  replace F_value_a1 := F_value_a1.other W5 (Or.inr (slot_ne (Or.inr (ww hw 16 rfl)) (Or.inr (ww hw 17 rfl)) (by decide) (t := (.array .byte)) (t' := .byte) (by decide) (by decide)))
  replace E_a1 := E_a1.wr W5
  replace F_value_a2 := F_value_a2.other W5 (Or.inl ne_a2)
  replace F_coder_a2 := F_coder_a2.other W5 (Or.inl ne_a2)
  replace F_count_a2 := F_count_a2.other W5 (Or.inl ne_a2)
  replace E_a2 := E_a2.wr W5
  replace V_tb := V_tb.other W5 ne_tb
  replace O0 := O0.wr W5 g_a1
  replace KC := KC.wr W5 (Or.inl (List.mem_of_getElem? (i := 0) rfl))
  obtain ⟨_, _, ⟨T6, L6, kz6, nz6⟩, -, X6, ⟨Lc6, hQ6, l6, y6, z6⟩, st6⟩ := Jvm.LawKit.callS X5 hx (y := y_22) hown (mvT hZ (ww hw 137 rfl)) (mvT hZ (ww hw 138 rfl)) (mvT hZ (ww hw 139 rfl)) (mvT hZ (ww hw 140 rfl)) (by decide) (backOf (W := 1) (rm_cor l Z a0 hw [] tb c0 k vs vs2 h5 n0 (Nat.le_trans Z0 KC.1) O0 V_tb hp0 hlt h16 hv2) hZ (ww hw 140 rfl) (ww hw 139 rfl) (by decide) (by decide)) (g := (mkF m 32 #[vr a1, vr a2, vN, vr tb, vi c0] [(.int c0), (.int (0 : Int32)), (.ref tb), (.ref a1)])) rfl (by rw [hml]; rfl) (argsL := [(.ref tb), (.int (0 : Int32)), (.int c0)]) (rest := [(.ref a1)]) (lenOf pd_12 rfl) rfl (by show 2 * 0 + _ ≤ _; exact Nat.le_of_eq rfl) (hb hby d19_32) (fun _ _ => ⟨rfl, e5, (by decide : 0 + 1 ≤ _), (by decide : 0 + 16 ≤ _)⟩)
  dsimp only [Pt.U, Pt.locs, Pt.cells, Pt.slots] at X6 l6 y6 z6 st6 hQ6
  subst l6 y6 z6
  obtain ⟨b6_b, k2_6, rfl, N6q, K6, sz_b6_b, V_b_6⟩ := hQ6
  have N6 := Fr.app N5 N6q
  have ne_a1_b6_b : a1 ≠ b6_b := Nat.ne_of_lt (Nat.lt_of_lt_of_le F_value_a1.lt sz_b6_b)
  have ne_a2_b6_b : a2 ≠ b6_b := Nat.ne_of_lt (Nat.lt_of_lt_of_le F_value_a2.lt sz_b6_b)
  have ne_tb_b6_b : tb ≠ b6_b := Nat.ne_of_lt (Nat.lt_of_lt_of_le V_tb.lt sz_b6_b)
  have g_b6_b : n0 ≤ b6_b := Nat.le_trans (Nat.le_trans Z0 KC.1) sz_b6_b
  replace sz_b6_b : h0.size ≤ b6_b := Nat.le_trans KC.1 sz_b6_b
  replace F_value_a1 := F_value_a1.keep K6 nin0
  replace F_coder_a1 := F_coder_a1.keep K6 nin0
  replace E_a1 := E_a1.keep K6
  replace F_value_a2 := F_value_a2.keep K6 nin0
  replace F_coder_a2 := F_coder_a2.keep K6 nin0
  replace F_count_a2 := F_count_a2.keep K6 nin0
  replace E_a2 := E_a2.keep K6
  replace V_tb := V_tb.keep K6 nin0
  replace O0 := O0.keep K6 all0
  replace KC := KC.trans K6 all0
  obtain ⟨T7, h7, X7, e7, W7, st7⟩ := putF X6 hx hZ hown (host := "") (Or.inl (ww hw 20 rfl)) Via.refl rfl F_value_a1 E_a1 (Or.inr ⟨(ww hw 16 rfl), rfl, hnm⟩) (ww hw 2 rfl) (ty := (.array .byte)) (by decide) rfl rfl (g := (mkF m 35 #[vr a1, vr a2, vN, vr tb, vi c0] [(.ref b6_b), (.ref a1)])) rfl rfl (hb hby d19_35)
  have N7 := Fr.snoc X7 N6 g_a1
  replace F_value_a1 := F_value_a1.same W7
  replace F_coder_a1 := F_coder_a1.other W7 (Or.inr (slot_ne (Or.inr (ww hw 17 rfl)) (Or.inr (ww hw 16 rfl)) (by decide) (t := .byte) (t' := (.array .byte)) (by decide) (by decide)))
  replace E_a1 := E_a1.wr W7
  replace F_value_a2 := F_value_a2.other W7 (Or.inl ne_a2)
  replace F_coder_a2 := F_coder_a2.other W7 (Or.inl ne_a2)
  replace F_count_a2 := F_count_a2.other W7 (Or.inl ne_a2)
  replace E_a2 := E_a2.wr W7
  replace V_tb := V_tb.other W7 ne_tb
  replace V_b_6 := V_b_6.other W7 (Ne.symm ne_a1_b6_b)
  replace O0 := O0.wr W7 g_a1
  replace KC := KC.wr W7 (Or.inl (List.mem_of_getElem? (i := 0) rfl))
  obtain ⟨fs, hr, hrun, hended, hW, hsame⟩ := X7.leave (v := none) (fun _ => rfl)
  refine ⟨_, _, pre0 _ ?_, hrun, hended, _, _, rfl, ?_, ⟨_, rfl⟩, hW, hsame.mono (by decide) (by decide)⟩
  · show SS p e below m s₁ 0 #[vr a1, vr a2, vN, un, un] [] _
    refine XS.aloadN X0.here hx rfl (hb hby d19_0) rfl rfl ?_
    show SS p e below m s₁ 1 #[vr a1, vr a2, vN, un, un] [(.ref a1)] _
    refine st1 _ ?_
    show SS p e below m T1 4 #[vr a1, vr a2, vN, un, un] [] _
    refine XS.aloadN X1.here hx rfl (hb hby d19_4) rfl rfl ?_
    show SS p e below m T1 5 #[vr a1, vr a2, vN, un, un] [(.ref a2)] _
    refine st2.trans ?_
    show SS p e below m T2 8 #[vr a1, vr a2, vN, un, un] [(.ref tb)] _
    refine XS.astoreN X2.here hx rfl (hb hby d19_8) rfl rfl (l' := #[vr a1, vr a2, vN, vr tb, un]) rfl ?_
    show SS p e below m T2 9 #[vr a1, vr a2, vN, vr tb, un] [] _
    refine XS.aloadN X2.here hx rfl (hb hby d19_9) rfl rfl ?_
    show SS p e below m T2 10 #[vr a1, vr a2, vN, vr tb, un] [(.ref a2)] _
    refine st3.trans ?_
    show SS p e below m T3 13 #[vr a1, vr a2, vN, vr tb, un] [(.int c0)] _
    refine XS.istore X3.here hx rfl (hb hby d19_13) rfl (l' := #[vr a1, vr a2, vN, vr tb, vi c0]) rfl ?_
    show SS p e below m T3 15 #[vr a1, vr a2, vN, vr tb, vi c0] [] _
    refine XS.aloadN X3.here hx rfl (hb hby d19_15) rfl rfl ?_
    show SS p e below m T3 16 #[vr a1, vr a2, vN, vr tb, vi c0] [(.ref a2)] _
    refine st4.trans ?_
    show SS p e below m T4 19 #[vr a1, vr a2, vN, vr tb, vi c0] [(.int (1 : Int32))] _
    refine XS.ifNo X4.here hx rfl (hb hby d19_19) rfl ((if0 _ _).trans (feq (by decide)).1) ?_
    show SS p e below m T4 22 #[vr a1, vr a2, vN, vr tb, vi c0] [] _
    refine XS.aloadN X4.here hx rfl (hb hby d19_22) rfl rfl ?_
    show SS p e below m T4 23 #[vr a1, vr a2, vN, vr tb, vi c0] [(.ref a1)] _
    refine XS.iconst X4.here hx rfl (hb hby d19_23) ?_
    show SS p e below m T4 24 #[vr a1, vr a2, vN, vr tb, vi c0] [(.int (0 : Int32)), (.ref a1)] _
    refine st5 _ ?_
    show SS p e below m T5 27 #[vr a1, vr a2, vN, vr tb, vi c0] [] _
    refine XS.aloadN X5.here hx rfl (hb hby d19_27) rfl rfl ?_
    show SS p e below m T5 28 #[vr a1, vr a2, vN, vr tb, vi c0] [(.ref a1)] _
    refine XS.aloadN X5.here hx rfl (hb hby d19_28) rfl rfl ?_
    show SS p e below m T5 29 #[vr a1, vr a2, vN, vr tb, vi c0] [(.ref tb), (.ref a1)] _
    refine XS.iconst X5.here hx rfl (hb hby d19_29) ?_
    show SS p e below m T5 30 #[vr a1, vr a2, vN, vr tb, vi c0] [(.int (0 : Int32)), (.ref tb), (.ref a1)] _
    refine XS.iload X5.here hx rfl (hb hby d19_30) rfl ?_
    show SS p e below m T5 32 #[vr a1, vr a2, vN, vr tb, vi c0] [(.int c0), (.int (0 : Int32)), (.ref tb), (.ref a1)] _
    refine st6 _ ?_
    show SS p e below m T6 35 #[vr a1, vr a2, vN, vr tb, vi c0] [(.ref b6_b), (.ref a1)] _
    refine st7 _ ?_
    show SS p e below m T7 38 #[vr a1, vr a2, vN, vr tb, vi c0] [] _
    refine XS.goto X7.here hx rfl (pc0 := 38) (pc' := 97) rfl (hb hby d19_38) (by decide) (by decide) ?_
    show SS p e below m T7 97 #[vr a1, vr a2, vN, vr tb, vi c0] [] _
    exact X7.returnOut hx Bd.returns (hb hby d19_97) hr
  · show Q_rm_sib Z a1 a2 tb c0 k vs vs2 zc h0 n0 _ T7.heap _
    rw [e7]
    exact ⟨b6_b, k2_6, rfl, N7, KC, sz_b6_b, F_value_a1, F_coder_a1, V_b_6⟩
theorem pd_14 : parseMethodDescriptor "(Ljava/lang/AbstractStringBuilder;Ljava/lang/Void;)V" = some ⟨[(.object "java/lang/AbstractStringBuilder"), (.object "java/lang/Void")], none⟩ := by decide +kernel
theorem d18_0 : decode jdk_42_method_53_code 0 = .ok (.aload_n 0, 1) := by decide +kernel
theorem d18_1 : decode jdk_42_method_53_code 1 = .ok (.aload_n 1, 1) := by decide +kernel
theorem d18_2 : decode jdk_42_method_53_code 2 = .ok (.aconst_null, 1) := by decide +kernel
theorem d18_3 : decode jdk_42_method_53_code 3 = .ok (.invokespecial 489, 3) := by decide +kernel
theorem d18_6 : decode jdk_42_method_53_code 6 = .ok (.return_, 1) := by decide +kernel
theorem ef_rm_sis (m : MethodId) (x0 : Addr) (x1 : Addr) : entryFrame m #[(.ref x0), (.ref x1)] 2 = mkF m 0 #[vr x0, vr x1] [] := by first | (simp [entryFrame, mkF, argsToLocals, Value.category]; done) | rfl
def Q_rm_sis (Z : State) (a1 : Addr) (a2 : Addr) (tb : Addr) (c0 : Int32) (k : ClassId) (vs : List Value) (vs2 : List Value) (zc : Int32) (h0 : Heap) (n0 : Nat) (v : Option Value) (h : Heap) (L : List Loc) : Prop := ∃ b : Addr, ∃ k2 : ClassId, (v = none) ∧ (Fr n0 L) ∧ (Keep h0 h [a1]) ∧ (h0.size ≤ b) ∧ (Fld Z h a1 "java/lang/String" "value" "[B" (.ref b)) ∧ (Fld Z h a1 "java/lang/String" "coder" "B" (.int (0 : Int32))) ∧ (Arv Z h b k2 .byte c0 vs2 (.int (0 : Int32)))
set_option maxRecDepth 65536 in
set_option maxHeartbeats 40000000 in
theorem rm_sis (l : Launch) (Z : State) (a0 : Array Value) (hw : ∀ d ∈ tables_1, d.before a0 Z = true) (ws : List Jvm.Cond) (a1 : Addr) (a2 : Addr) (tb : Addr) (c0 : Int32) (k : ClassId) (vs : List Value) (vs2 : List Value) (zc : Int32) (h0 : Heap) (n0 : Nat) (Z0 : n0 ≤ h0.size) (O0 : Old Z n0 h0) (F_value_a1 : Fld Z h0 a1 "java/lang/String" "value" "[B" .null) (F_coder_a1 : Fld Z h0 a1 "java/lang/String" "coder" "B" (.int (0 : Int32))) (E_a1 : Exa Z h0 a1 "java/lang/String") (g_a1 : n0 ≤ a1) (F_value_a2 : Fld Z h0 a2 "java/lang/AbstractStringBuilder" "value" "[B" (.ref tb)) (F_coder_a2 : Fld Z h0 a2 "java/lang/AbstractStringBuilder" "coder" "B" (.int (0 : Int32))) (F_count_a2 : Fld Z h0 a2 "java/lang/AbstractStringBuilder" "count" "I" (.int c0)) (E_a2 : Exa Z h0 a2 "java/lang/StringBuilder") (V_tb : Arv Z h0 tb k .byte (16 : Int32) vs (.int (0 : Int32))) (ne_tb : tb ≠ a1) (ne_a2 : a2 ≠ a1) (S_CS : Sta Z Z.heap "java/lang/String" "COMPACT_STRINGS" "Z" (.int zc)) (hz : ¬ zc = (0 : Int32)) (hp0 : ¬ c0 < (0 : Int32)) (hlt : c0 < (16 : Int32)) (h16 : c0.toNatClampNeg ≤ 16) (hv2 : ((List.replicate 16 (.int (0 : Int32))).take (0 : Int32).toNatClampNeg ++ ((List.range c0.toNatClampNeg).map fun i => vs.getD ((0 : Int32).toNatClampNeg + i) (.int (0 : Int32))) ++ (List.replicate 16 (.int (0 : Int32))).drop ((0 : Int32).toNatClampNeg + c0.toNatClampNeg)) = vs2) :
    MetFree l y_24 (head1 (Jvm.Cond.code y_24 jdk_42_method_53_code 2 none :: ws) ({ frames := 4, cells := 1, slots := 16, locals := 65 } : Room)) (fun a U => a = #[(.ref a1), (.ref a2)] ∧ Z.Warmed39 U.vm ∧ U.heap = h0) (fun _ _ _ _ _ => True) (fun _ U o U' => ∃ v L, o = .returned v ∧ Q_rm_sis Z a1 a2 tb c0 k vs vs2 zc h0 n0 v U'.heap L ∧ FrameEnd U o U' L ({ frames := 4, cells := 1, slots := 16, locals := 65 } : Room).cells ({ frames := 4, cells := 1, slots := 16, locals := 65 } : Room).slots) := by
  refine MetFree.of_bodySF (plainFor_of_name pn_0) hisR ?_
  intro p e s m args below meth c s₁ Bd hml0 hP hK
  obtain ⟨rfl, hZ, hh⟩ := hP
  have hx := Bd.exec
  have hby := Bd.bytes
  have hml : c.maxLocals = 2 := hml0
  have hown : s.vm.findClass "java/lang/String" = some m.cls := findClass_of_methodNamed Bd.named
  have hnm := (name_of_methodNamed Bd.named Bd.method).1
  have X0 : Stand p l e ({ frames := 4, cells := 1, slots := 16, locals := 65 } : Room) s m #[(.ref a1), (.ref a2)] below meth c s₁ [] 0 0 := Stand.of_body Bd
  have e0 : s₁.heap = h0 := by rw [← hh, Bd.state]; rfl
  have N0 := Fr.nil n0
  have KC : Keep h0 h0 [a1] := Keep.refl h0 _
  have pre0 : ∀ t, Steps p.tables e below (s₁.setTop (mkF m 0 #[vr a1, vr a2] [])) t → Steps p.tables e below (s₁.setTop (entryFrame m #[(.ref a1), (.ref a2)] 2)) t := fun t k => castTop (ef_rm_sis m a1 a2) k
  obtain ⟨_, _, ⟨T1, L1, kz1, nz1⟩, -, X1, ⟨Lc1, hQ1, l1, y1, z1⟩, st1⟩ := X0.specialBack hx (y := y_23) rfl hown (mvT hZ (ww hw 116 rfl)) (mvT hZ (ww hw 117 rfl)) (mvT hZ (ww hw 118 rfl)) (by decide) (backOf (W := 0) (rm_sib l Z a0 hw [] a1 a2 tb c0 k vs vs2 zc h0 n0 (Nat.le_trans Z0 KC.1) O0 F_value_a1 F_coder_a1 E_a1 g_a1 F_value_a2 F_coder_a2 F_count_a2 E_a2 V_tb ne_tb ne_a2 S_CS hz hp0 hlt h16 hv2) hZ (ww hw 118 rfl) (ww hw 3 rfl) (by decide) (by decide)) (g := (mkF m 3 #[vr a1, vr a2] [.null, (.ref a2), (.ref a1)])) rfl (by rw [hml]; rfl) (Steps.refl _) (a := a1) (argsL := [(.ref a2), .null]) (rest := []) (lenOf pd_14 rfl) rfl (by show 2 * 0 + _ ≤ _; exact Nat.le_of_eq rfl) (hb hby d18_3) (fun _ _ => ⟨rfl, e0, (by decide : 0 + 1 ≤ _), (by decide : 0 + 16 ≤ _)⟩)
  dsimp only [Pt.U, Pt.locs, Pt.cells, Pt.slots] at X1 l1 y1 z1 st1 hQ1
  subst l1 y1 z1
  obtain ⟨b1_b, k2_1, rfl, N1q, K1, sz_b1_b, F_value_a1_1, F_coder_a1_1, V_b_1⟩ := hQ1
  have N1 := Fr.app N0 N1q
  have ne_a1_b1_b : a1 ≠ b1_b := Nat.ne_of_lt (Nat.lt_of_lt_of_le F_value_a1.lt sz_b1_b)
  have ne_a2_b1_b : a2 ≠ b1_b := Nat.ne_of_lt (Nat.lt_of_lt_of_le F_value_a2.lt sz_b1_b)
  have ne_tb_b1_b : tb ≠ b1_b := Nat.ne_of_lt (Nat.lt_of_lt_of_le V_tb.lt sz_b1_b)
  have g_b1_b : n0 ≤ b1_b := Nat.le_trans (Nat.le_trans Z0 KC.1) sz_b1_b
  replace sz_b1_b : h0.size ≤ b1_b := Nat.le_trans KC.1 sz_b1_b
  replace E_a1 := E_a1.keep K1
  replace F_value_a2 := F_value_a2.keep K1 (ninS ne_a2 nin0)
  replace F_coder_a2 := F_coder_a2.keep K1 (ninS ne_a2 nin0)
  replace F_count_a2 := F_count_a2.keep K1 (ninS ne_a2 nin0)
  replace E_a2 := E_a2.keep K1
  replace V_tb := V_tb.keep K1 (ninS ne_tb nin0)
  replace O0 := O0.keep K1 (allS g_a1 all0)
  replace KC := KC.trans K1 (allS (Or.inl (List.mem_of_getElem? (i := 0) rfl)) all0)
  obtain ⟨fs, hr, hrun, hended, hW, hsame⟩ := X1.leave (v := none) (fun _ => rfl)
  refine ⟨_, _, pre0 _ ?_, hrun, hended, _, _, rfl, ?_, ⟨_, rfl⟩, hW, hsame.mono (by decide) (by decide)⟩
  · show SS p e below m s₁ 0 #[vr a1, vr a2] [] _
    refine XS.aloadN X0.here hx rfl (hb hby d18_0) rfl rfl ?_
    show SS p e below m s₁ 1 #[vr a1, vr a2] [(.ref a1)] _
    refine XS.aloadN X0.here hx rfl (hb hby d18_1) rfl rfl ?_
    show SS p e below m s₁ 2 #[vr a1, vr a2] [(.ref a2), (.ref a1)] _
    refine XS.aconstNull X0.here hx rfl (hb hby d18_2) ?_
    show SS p e below m s₁ 3 #[vr a1, vr a2] [.null, (.ref a2), (.ref a1)] _
    refine st1.trans ?_
    show SS p e below m T1 6 #[vr a1, vr a2] [] _
    exact X1.returnOut hx Bd.returns (hb hby d18_6) hr
  · show Q_rm_sis Z a1 a2 tb c0 k vs vs2 zc h0 n0 _ T1.heap _
    exact ⟨b1_b, k2_1, rfl, N1, KC, sz_b1_b, F_value_a1_1, F_coder_a1_1, V_b_1⟩
theorem pd_15 : parseMethodDescriptor "(Ljava/lang/StringBuilder;)V" = some ⟨[(.object "java/lang/StringBuilder")], none⟩ := by decide +kernel
theorem d17_0 : decode jdk_67_method_42_code 0 = .ok (.new 18, 3) := by decide +kernel
theorem d17_3 : decode jdk_67_method_42_code 3 = .ok (.dup, 1) := by decide +kernel
theorem d17_4 : decode jdk_67_method_42_code 4 = .ok (.aload_n 0, 1) := by decide +kernel
theorem d17_5 : decode jdk_67_method_42_code 5 = .ok (.invokespecial 137, 3) := by decide +kernel
theorem d17_8 : decode jdk_67_method_42_code 8 = .ok (.areturn, 1) := by decide +kernel
theorem ef_rm_tos (m : MethodId) (x0 : Addr) : entryFrame m #[(.ref x0)] 1 = mkF m 0 #[vr x0] [] := by first | (simp [entryFrame, mkF, argsToLocals, Value.category]; done) | rfl
def Q_rm_tos (Z : State) (a1 : Addr) (tb : Addr) (c0 : Int32) (k : ClassId) (vs : List Value) (vs2 : List Value) (zc : Int32) (h0 : Heap) (n0 : Nat) (v : Option Value) (h : Heap) (L : List Loc) : Prop := ∃ s0 : Addr, ∃ b : Addr, ∃ k2 : ClassId, (v = some (.ref s0)) ∧ (Fr n0 L) ∧ (Keep h0 h []) ∧ (h0.size ≤ s0) ∧ (h0.size ≤ b) ∧ (Exa Z h s0 "java/lang/String") ∧ (Fld Z h s0 "java/lang/String" "value" "[B" (.ref b)) ∧ (Fld Z h s0 "java/lang/String" "coder" "B" (.int (0 : Int32))) ∧ (Arv Z h b k2 .byte c0 vs2 (.int (0 : Int32)))
set_option maxRecDepth 65536 in
set_option maxHeartbeats 40000000 in
theorem rm_tos (l : Launch) (Z : State) (a0 : Array Value) (hw : ∀ d ∈ tables_1, d.before a0 Z = true) (ws : List Jvm.Cond) (a1 : Addr) (tb : Addr) (c0 : Int32) (k : ClassId) (vs : List Value) (vs2 : List Value) (zc : Int32) (h0 : Heap) (n0 : Nat) (Z0 : n0 ≤ h0.size) (O0 : Old Z n0 h0) (F_value_a1 : Fld Z h0 a1 "java/lang/AbstractStringBuilder" "value" "[B" (.ref tb)) (F_coder_a1 : Fld Z h0 a1 "java/lang/AbstractStringBuilder" "coder" "B" (.int (0 : Int32))) (F_count_a1 : Fld Z h0 a1 "java/lang/AbstractStringBuilder" "count" "I" (.int c0)) (E_a1 : Exa Z h0 a1 "java/lang/StringBuilder") (V_tb : Arv Z h0 tb k .byte (16 : Int32) vs (.int (0 : Int32))) (S_CS : Sta Z Z.heap "java/lang/String" "COMPACT_STRINGS" "Z" (.int zc)) (hz : ¬ zc = (0 : Int32)) (hp0 : ¬ c0 < (0 : Int32)) (hlt : c0 < (16 : Int32)) (h16 : c0.toNatClampNeg ≤ 16) (hv2 : ((List.replicate 16 (.int (0 : Int32))).take (0 : Int32).toNatClampNeg ++ ((List.range c0.toNatClampNeg).map fun i => vs.getD ((0 : Int32).toNatClampNeg + i) (.int (0 : Int32))) ++ (List.replicate 16 (.int (0 : Int32))).drop ((0 : Int32).toNatClampNeg + c0.toNatClampNeg)) = vs2) :
    MetFree l y_25 (head1 (Jvm.Cond.code y_25 jdk_67_method_42_code 1 (some (.object "java/lang/String")) :: ws) ({ frames := 5, cells := 2, slots := 20, locals := 79 } : Room)) (fun a U => a = #[(.ref a1)] ∧ Z.Warmed39 U.vm ∧ U.heap = h0) (fun _ _ _ _ _ => True) (fun _ U o U' => ∃ v L, o = .returned v ∧ Q_rm_tos Z a1 tb c0 k vs vs2 zc h0 n0 v U'.heap L ∧ FrameEnd U o U' L ({ frames := 5, cells := 2, slots := 20, locals := 79 } : Room).cells ({ frames := 5, cells := 2, slots := 20, locals := 79 } : Room).slots) := by
  refine MetFree.of_bodySF (plainFor_of_name pn_4) hisR ?_
  intro p e s m args below meth c s₁ Bd hml0 hP hK
  obtain ⟨rfl, hZ, hh⟩ := hP
  have hx := Bd.exec
  have hby := Bd.bytes
  have hml : c.maxLocals = 1 := hml0
  have hown : s.vm.findClass "java/lang/StringBuilder" = some m.cls := findClass_of_methodNamed Bd.named
  have hnm := (name_of_methodNamed Bd.named Bd.method).1
  have X0 : Stand p l e ({ frames := 5, cells := 2, slots := 20, locals := 79 } : Room) s m #[(.ref a1)] below meth c s₁ [] 0 0 := Stand.of_body Bd
  have e0 : s₁.heap = h0 := by rw [← hh, Bd.state]; rfl
  have N0 := Fr.nil n0
  have KC : Keep h0 h0 [] := Keep.refl h0 _
  have pre0 : ∀ t, Steps p.tables e below (s₁.setTop (mkF m 0 #[vr a1] [])) t → Steps p.tables e below (s₁.setTop (entryFrame m #[(.ref a1)] 1)) t := fun t k => castTop (ef_rm_tos m a1) k
  obtain ⟨T1, h1, X1, e1, E1, A1, D1, -, st1⟩ := newO X0 hx hZ hown (ww hw 112 rfl) (ww hw 2 rfl) (ww hw 3 rfl) e0 (g := (mkF m 0 #[vr a1] [])) rfl (hb hby d17_0) (by decide) (by decide)
  obtain ⟨b1, g1⟩ : ∃ z, z = h0.size := ⟨_, rfl⟩
  rw [← g1] at A1 D1 st1
  have ne_a1_b1 : a1 ≠ b1 := Nat.ne_of_lt (Nat.lt_of_lt_of_le F_value_a1.lt (Nat.le_of_eq g1.symm))
  have ne_tb_b1 : tb ≠ b1 := Nat.ne_of_lt (Nat.lt_of_lt_of_le V_tb.lt (Nat.le_of_eq g1.symm))
  have g_b1 : n0 ≤ b1 := Nat.le_trans (Nat.le_trans Z0 KC.1) (Nat.le_of_eq g1.symm)
  have sz_b1 : h0.size ≤ b1 := Nat.le_trans KC.1 (Nat.le_of_eq g1.symm)
  replace F_value_a1 := F_value_a1.ext E1
  replace F_coder_a1 := F_coder_a1.ext E1
  replace F_count_a1 := F_count_a1.ext E1
  replace E_a1 := E_a1.ext E1
  replace V_tb := V_tb.ext E1
  replace O0 := O0.ext E1
  replace KC := KC.ext E1
  have F_value_b1 : Fld Z h1 b1 "java/lang/String" "value" "[B" .null := D1 (Or.inr (ww hw 16 rfl)) (ty := (.array .byte)) (by decide)
  have F_coder_b1 : Fld Z h1 b1 "java/lang/String" "coder" "B" (.int (0 : Int32)) := D1 (Or.inr (ww hw 17 rfl)) (ty := .byte) (by decide)
  obtain ⟨_, _, ⟨T2, L2, kz2, nz2⟩, -, X2, ⟨Lc2, hQ2, l2, y2, z2⟩, st2⟩ := X1.specialBack hx (y := y_24) rfl hown (mvT hZ (ww hw 113 rfl)) (mvT hZ (ww hw 114 rfl)) (mvT hZ (ww hw 115 rfl)) (by decide) (backOf (W := 1) (rm_sis l Z a0 hw [] b1 a1 tb c0 k vs vs2 zc h1 n0 (Nat.le_trans Z0 KC.1) O0 F_value_b1 F_coder_b1 A1 g_b1 F_value_a1 F_coder_a1 F_count_a1 E_a1 V_tb ne_tb_b1 ne_a1_b1 S_CS hz hp0 hlt h16 hv2) hZ (ww hw 115 rfl) (ww hw 3 rfl) (by decide) (by decide)) (g := (mkF m 5 #[vr a1] [(.ref a1), (.ref b1), (.ref b1)])) rfl (by rw [hml]; rfl) (Steps.refl _) (a := b1) (argsL := [(.ref a1)]) (rest := [(.ref b1)]) (lenOf pd_15 rfl) rfl (by show 2 * 0 + _ ≤ _; exact Nat.le_of_eq rfl) (hb hby d17_5) (fun _ _ => ⟨rfl, e1, (by decide : 1 + 1 ≤ _), (by decide : 4 + 16 ≤ _)⟩)
  dsimp only [Pt.U, Pt.locs, Pt.cells, Pt.slots] at X2 l2 y2 z2 st2 hQ2
  subst l2 y2 z2
  obtain ⟨b2_b, k2_2, rfl, N2q, K2, sz_b2_b, F_value_a1_2, F_coder_a1_2, V_b_2⟩ := hQ2
  have N2 := Fr.app N0 N2q
  have ne_a1_b2_b : a1 ≠ b2_b := Nat.ne_of_lt (Nat.lt_of_lt_of_le F_value_a1.lt sz_b2_b)
  have ne_tb_b2_b : tb ≠ b2_b := Nat.ne_of_lt (Nat.lt_of_lt_of_le V_tb.lt sz_b2_b)
  have ne_b1_b2_b : b1 ≠ b2_b := Nat.ne_of_lt (Nat.lt_of_lt_of_le A1.lt sz_b2_b)
  have g_b2_b : n0 ≤ b2_b := Nat.le_trans (Nat.le_trans Z0 KC.1) sz_b2_b
  replace sz_b2_b : h0.size ≤ b2_b := Nat.le_trans KC.1 sz_b2_b
  replace F_value_a1 := F_value_a1.keep K2 (ninS ne_a1_b1 nin0)
  replace F_coder_a1 := F_coder_a1.keep K2 (ninS ne_a1_b1 nin0)
  replace F_count_a1 := F_count_a1.keep K2 (ninS ne_a1_b1 nin0)
  replace E_a1 := E_a1.keep K2
  replace V_tb := V_tb.keep K2 (ninS ne_tb_b1 nin0)
  replace A1 := A1.keep K2
  replace O0 := O0.keep K2 (allS g_b1 all0)
  replace KC := KC.trans K2 (allS (Or.inr sz_b1) all0)
  obtain ⟨fs, hr, hrun, hended, hW, hsame⟩ := X2.leave (v := some (.ref b1)) (fun h => by rw [Bd.returns] at h; cases h)
  refine ⟨_, _, pre0 _ ?_, hrun, hended, _, _, rfl, ?_, ⟨_, rfl⟩, hW, hsame.mono (by decide) (by decide)⟩
  · show SS p e below m s₁ 0 #[vr a1] [] _
    refine st1 _ ?_
    show SS p e below m T1 3 #[vr a1] [(.ref b1)] _
    refine XS.dup X1.here hx rfl (hb hby d17_3) rfl rfl ?_
    show SS p e below m T1 4 #[vr a1] [(.ref b1), (.ref b1)] _
    refine XS.aloadN X1.here hx rfl (hb hby d17_4) rfl rfl ?_
    show SS p e below m T1 5 #[vr a1] [(.ref a1), (.ref b1), (.ref b1)] _
    refine st2.trans ?_
    show SS p e below m T2 8 #[vr a1] [(.ref b1)] _
    jvm_step X2.here [X2.here.top, hx, (hb hby d17_8), X2.method', Bd.returns, Value.isRef, FieldType.isReference]
    first | (intro acts; rw [hr _ acts rfl rfl rfl]) | rw [hr _ _ rfl rfl rfl]
    exact Steps.refl _
  · show Q_rm_tos Z a1 tb c0 k vs vs2 zc h0 n0 _ T2.heap _
    exact ⟨b1, b2_b, k2_2, rfl, N2, KC, sz_b1, sz_b2_b, A1, F_value_a1_2, F_coder_a1_2, V_b_2⟩
theorem d29_0 : decode jdk_30_method_1_code 0 = .ok (.aload_n 0, 1) := by decide +kernel
theorem d29_1 : decode jdk_30_method_1_code 1 = .ok (.invokespecial 1, 3) := by decide +kernel
theorem d29_4 : decode jdk_30_method_1_code 4 = .ok (.return_, 1) := by decide +kernel
theorem pn_6 : plainName "java/lang/Record" = true := by first | (simp [plainName, overriddenIn]; done) | decide +kernel
theorem ef_rm_rec (m : MethodId) (x0 : Addr) : entryFrame m #[(.ref x0)] 1 = mkF m 0 #[vr x0] [] := by first | (simp [entryFrame, mkF, argsToLocals, Value.category]; done) | rfl
def Q_rm_rec (Z : State) (a1 : Addr) (h0 : Heap) (n0 : Nat) (v : Option Value) (h : Heap) (L : List Loc) : Prop := (v = none) ∧ (Fr n0 L) ∧ (h = h0)
set_option maxRecDepth 65536 in
set_option maxHeartbeats 40000000 in
theorem rm_rec (l : Launch) (Z : State) (a0 : Array Value) (hw : ∀ d ∈ tables_1, d.before a0 Z = true) (ws : List Jvm.Cond) (a1 : Addr) (h0 : Heap) (n0 : Nat) (Z0 : n0 ≤ h0.size) (O0 : Old Z n0 h0) :
    MetFree l y_26 (head1 (Jvm.Cond.code y_26 jdk_30_method_1_code 1 none :: ws) ({ frames := 1, cells := 0, slots := 0, locals := 12 } : Room)) (fun a U => a = #[(.ref a1)] ∧ Z.Warmed39 U.vm ∧ U.heap = h0) (fun _ _ _ _ _ => True) (fun _ U o U' => ∃ v L, o = .returned v ∧ Q_rm_rec Z a1 h0 n0 v U'.heap L ∧ FrameEnd U o U' L ({ frames := 1, cells := 0, slots := 0, locals := 12 } : Room).cells ({ frames := 1, cells := 0, slots := 0, locals := 12 } : Room).slots) := by
  refine MetFree.of_bodySF (plainFor_of_name pn_6) hisR ?_
  intro p e s m args below meth c s₁ Bd hml0 hP hK
  obtain ⟨rfl, hZ, hh⟩ := hP
  have hx := Bd.exec
  have hby := Bd.bytes
  have hml : c.maxLocals = 1 := hml0
  have hown : s.vm.findClass "java/lang/Record" = some m.cls := findClass_of_methodNamed Bd.named
  have hnm := (name_of_methodNamed Bd.named Bd.method).1
  have X0 : Stand p l e ({ frames := 1, cells := 0, slots := 0, locals := 12 } : Room) s m #[(.ref a1)] below meth c s₁ [] 0 0 := Stand.of_body Bd
  have e0 : s₁.heap = h0 := by rw [← hh, Bd.state]; rfl
  have N0 := Fr.nil n0
  have KC : Keep h0 h0 [] := Keep.refl h0 _
  have pre0 : ∀ t, Steps p.tables e below (s₁.setTop (mkF m 0 #[vr a1] [])) t → Steps p.tables e below (s₁.setTop (entryFrame m #[(.ref a1)] 1)) t := fun t k => castTop (ef_rm_rec m a1) k
  obtain ⟨T1, X1, e1, st1⟩ := initO X0 hx hZ hown (ww hw 163 rfl) (ww hw 12 rfl) (ww hw 13 rfl) e0 (g := (mkF m 1 #[vr a1] [(.ref a1)])) rfl (by rw [hml]; rfl) rfl (hb hby d29_1) (by decide) (W := 0) (by show 2 * 0 + _ ≤ _; exact Nat.le_of_eq rfl) (by decide)
  obtain ⟨fs, hr, hrun, hended, hW, hsame⟩ := X1.leave (v := none) (fun _ => rfl)
  refine ⟨_, _, pre0 _ ?_, hrun, hended, _, _, rfl, ?_, ⟨_, rfl⟩, hW, hsame.mono (by decide) (by decide)⟩
  · show SS p e below m s₁ 0 #[vr a1] [] _
    refine XS.aloadN X0.here hx rfl (hb hby d29_0) rfl rfl ?_
    show SS p e below m s₁ 1 #[vr a1] [(.ref a1)] _
    refine st1 _ ?_
    show SS p e below m T1 4 #[vr a1] [] _
    exact X1.returnOut hx Bd.returns (hb hby d29_4) hr
  · show Q_rm_rec Z a1 h0 n0 _ T1.heap _
    rw [e1]
    exact ⟨rfl, N0, rfl⟩
theorem d2_0 : decode jdk_42_method_149_code 0 = .ok (.aload_n 0, 1) := by decide +kernel
theorem d2_1 : decode jdk_42_method_149_code 1 = .ok (.invokespecial 1, 3) := by decide +kernel
theorem d2_4 : decode jdk_42_method_149_code 4 = .ok (.iload_n 3, 1) := by decide +kernel
theorem d2_5 : decode jdk_42_method_149_code 5 = .ok (.ifCond .ne 22, 3) := by decide +kernel
theorem d2_8 : decode jdk_42_method_149_code 8 = .ok (.aload_n 0, 1) := by decide +kernel
theorem d2_9 : decode jdk_42_method_149_code 9 = .ok (.ldc 7, 2) := by decide +kernel
theorem d2_11 : decode jdk_42_method_149_code 11 = .ok (.getfield 9, 3) := by decide +kernel
theorem d2_14 : decode jdk_42_method_149_code 14 = .ok (.putfield 9, 3) := by decide +kernel
theorem d2_17 : decode jdk_42_method_149_code 17 = .ok (.aload_n 0, 1) := by decide +kernel
theorem d2_18 : decode jdk_42_method_149_code 18 = .ok (.ldc 7, 2) := by decide +kernel
theorem d2_20 : decode jdk_42_method_149_code 20 = .ok (.getfield 15, 3) := by decide +kernel
theorem d2_23 : decode jdk_42_method_149_code 23 = .ok (.putfield 15, 3) := by decide +kernel
theorem d2_26 : decode jdk_42_method_149_code 26 = .ok (.return_, 1) := by decide +kernel
theorem ef_rm_i40 (m : MethodId) (x0 : Addr) (x1 : Addr) (x2 : Int32) (x3 : Int32) : entryFrame m #[(.ref x0), (.ref x1), (.int x2), (.int x3), .null] 6 = mkF m 0 #[vr x0, vr x1, vi x2, vi x3, vN, .unset] [] := by first | (simp [entryFrame, mkF, argsToLocals, Value.category]; done) | rfl
def Q_rm_i40 (Z : State) (a1 : Addr) (a2 : Addr) (h0 : Heap) (n0 : Nat) (v : Option Value) (h : Heap) (L : List Loc) : Prop := ∃ tz : Addr, ∃ kb : ClassId, (v = none) ∧ (Fr n0 L) ∧ (Keep h0 h [a1]) ∧ (Fld Z h a1 "java/lang/String" "value" "[B" (.ref tz)) ∧ (Fld Z h a1 "java/lang/String" "coder" "B" (.int (0 : Int32))) ∧ (Arv Z h tz kb .byte (0 : Int32) [] (.int (0 : Int32)))
set_option maxRecDepth 65536 in
set_option maxHeartbeats 40000000 in
theorem rm_i40 (l : Launch) (Z : State) (a0 : Array Value) (hw : ∀ d ∈ tables_1, d.before a0 Z = true) (ws : List Jvm.Cond) (a1 : Addr) (a2 : Addr) (h0 : Heap) (n0 : Nat) (Z0 : n0 ≤ h0.size) (O0 : Old Z n0 h0) (F_value_a1 : Fld Z h0 a1 "java/lang/String" "value" "[B" .null) (F_coder_a1 : Fld Z h0 a1 "java/lang/String" "coder" "B" (.int (0 : Int32))) (E_a1 : Exa Z h0 a1 "java/lang/String") (g_a1 : n0 ≤ a1) :
    MetFree l y_27 (head1 (Jvm.Cond.code y_27 jdk_42_method_149_code 6 none :: ws) ({ frames := 1, cells := 4, slots := 8, locals := 12 } : Room)) (fun a U => a = #[(.ref a1), (.ref a2), (.int (0 : Int32)), (.int (0 : Int32)), .null] ∧ Z.Warmed39 U.vm ∧ U.heap = h0 ∧ CHv Z EL U.vm h0) (fun _ _ _ _ _ => True) (fun _ U o U' => ∃ v L, o = .returned v ∧ Q_rm_i40 Z a1 a2 h0 n0 v U'.heap L ∧ CHr Z EL U.vm U.heap U'.vm U'.heap ∧ ReturnedEndW U o U' L ({ frames := 1, cells := 4, slots := 8, locals := 12 } : Room).cells ({ frames := 1, cells := 4, slots := 8, locals := 12 } : Room).slots) := by
  refine MetFree.of_bodySF (plainFor_of_name pn_0) hisR ?_
  intro p e s m args below meth c s₁ Bd hml0 hP hK
  obtain ⟨rfl, hZ0, hh, hC0⟩ := hP
  have hx := Bd.exec
  have hby := Bd.bytes
  have hml : c.maxLocals = 6 := hml0
  have hown : (s.setVm s.vm).vm.findClass "java/lang/String" = some m.cls := findClass_of_methodNamed Bd.named
  have hnm := (name_of_methodNamed Bd.named Bd.method).1
  have X0 : Stand p l e ({ frames := 1, cells := 4, slots := 8, locals := 12 } : Room) (s.setVm s.vm) m #[(.ref a1), (.ref a2), (.int (0 : Int32)), (.int (0 : Int32)), .null] below meth c s₁ [] 0 0 := Stand.of_body Bd
  have e0 : s₁.heap = h0 := by rw [← hh, Bd.state]; rfl
  have N0 := Fr.nil n0
  have KC : Keep h0 h0 [a1] := Keep.refl h0 _
  have pre0 : ∀ t, Steps p.tables e below (s₁.setTop (mkF m 0 #[vr a1, vr a2, vi (0 : Int32), vi (0 : Int32), vN, un] [])) t → Steps p.tables e below (s₁.setTop (entryFrame m #[(.ref a1), (.ref a2), (.int (0 : Int32)), (.int (0 : Int32)), .null] 6)) t := fun t k => castTop (ef_rm_i40 m a1 a2 (0 : Int32) (0 : Int32)) k
  have hZ : Z.Warmed39 (s.setVm s.vm).vm := hZ0
  have hEL := own_hEL hw
  have wS := own_wS hw
  have hS : s.Since s.vm 0 := (State.WarmedH.refl s).since 0
  have hk : 0 ≤ h0.size := Nat.zero_le _
  have hC : CHr Z EL s.vm h0 s.vm h0 := CHr.refl hC0
  obtain ⟨T1, X1, e1, st1⟩ := initO X0 hx hZ hown (ww hw 11 rfl) (ww hw 12 rfl) (ww hw 13 rfl) e0 (g := (mkF m 1 #[vr a1, vr a2, vi (0 : Int32), vi (0 : Int32), vN, un] [(.ref a1)])) rfl (by rw [hml]; rfl) rfl (hb hby d2_1) (by decide) (W := 0) (by show 2 * 0 + _ ≤ _; exact Nat.le_of_eq rfl) (by decide)
  have Sf_a1 := (own_safe (EL := EL) hZ.alike E_a1 F_value_a1)
  obtain ⟨sa2, T2, h2, kx2, sb2, kc2, X2, e2, E2, hS2, hk2, hZ2, hown2, Ex2, Fc2, Fv2, Vv2, -, -, C2, -, nx2, st2⟩ := ldcCH X1 hx hZ hown (ww hw 14 rfl) wS e1 hS hk hEL (by decide) hC.1 (vs := []) (z := (0 : Int32)) ⟨by decide, by first | rfl | decide⟩ (by decide) (by first | rfl | decide) (g := (mkF m 9 #[vr a1, vr a2, vi (0 : Int32), vi (0 : Int32), vN, un] [(.ref a1)])) rfl (hb hby d2_9) (n := 0) (by decide) (by decide) (by decide) (by decide)
  replace Sf_a1 := C2.safe E_a1.lt Sf_a1
  replace F_value_a1 := F_value_a1.ext E2
  replace F_coder_a1 := F_coder_a1.ext E2
  replace E_a1 := E_a1.ext E2
  replace O0 := O0.ext E2
  replace KC := KC.ext E2
  replace hC := hC.trans C2
  replace hZ := hZ2
  replace hown := hown2
  replace hS := hS2
  replace hk := hk2
  have nx2_a1 := nx2 _ Sf_a1
  obtain ⟨T3, X3, e3, st3⟩ := getF X2 hx hZ hown (host := "") (Or.inl (ww hw 20 rfl)) Via.refl e2 Fv2 (g := (mkF m 11 #[vr a1, vr a2, vi (0 : Int32), vi (0 : Int32), vN, un] [(.ref sa2), (.ref a1)])) rfl rfl (hb hby d2_11)
  obtain ⟨T4, h4, X4, e4, W4, st4⟩ := putF X3 hx hZ hown (host := "") (Or.inl (ww hw 20 rfl)) Via.refl e3 F_value_a1 E_a1 (Or.inr ⟨(ww hw 16 rfl), rfl, hnm⟩) (ww hw 2 rfl) (ty := (.array .byte)) (by decide) rfl rfl (g := (mkF m 14 #[vr a1, vr a2, vi (0 : Int32), vi (0 : Int32), vN, un] [(.ref sb2), (.ref a1)])) rfl rfl (hb hby d2_14)
  have N4 := Fr.snoc X4 N0 g_a1
  replace F_value_a1 := F_value_a1.same W4
  have SfW4 := Sf_a1
  replace Sf_a1 := Safe.wr W4 Sf_a1 hC.1 Sf_a1
  replace hk := Nat.le_trans hk (Keep.of_wr W4).1
  replace hC := hC.trans (CHr.wr W4 SfW4 hC.1)
  replace F_coder_a1 := F_coder_a1.other W4 (Or.inr (slot_ne (Or.inr (ww hw 17 rfl)) (Or.inr (ww hw 16 rfl)) (by decide) (t := .byte) (t' := (.array .byte)) (by decide) (by decide)))
  replace E_a1 := E_a1.wr W4
  replace Ex2 := Ex2.wr W4
  replace Fc2 := Fc2.other W4 (Or.inl (Ne.symm nx2_a1.1))
  replace Fv2 := Fv2.other W4 (Or.inl (Ne.symm nx2_a1.1))
  replace Vv2 := Vv2.other W4 (Ne.symm nx2_a1.2)
  replace O0 := O0.wr W4 g_a1
  replace KC := KC.wr W4 (Or.inl (List.mem_of_getElem? (i := 0) rfl))
  obtain ⟨sa5, T5, h5, kx5, sb5, kc5, X5, e5, E5, hS5, hk5, hZ5, hown5, Ex5, Fc5, Fv5, Vv5, -, -, C5, -, nx5, st5⟩ := ldcCH X4 hx hZ hown (ww hw 14 rfl) wS e4 hS hk hEL (by decide) hC.1 (vs := []) (z := (0 : Int32)) ⟨by decide, by first | rfl | decide⟩ (by decide) (by first | rfl | decide) (g := (mkF m 18 #[vr a1, vr a2, vi (0 : Int32), vi (0 : Int32), vN, un] [(.ref a1)])) rfl (hb hby d2_18) (n := 0) (by decide) (by decide) (by decide) (by decide)
  replace Sf_a1 := C5.safe E_a1.lt Sf_a1
  replace F_value_a1 := F_value_a1.ext E5
  replace F_coder_a1 := F_coder_a1.ext E5
  replace E_a1 := E_a1.ext E5
  replace Ex2 := Ex2.ext E5
  replace Fc2 := Fc2.ext E5
  replace Fv2 := Fv2.ext E5
  replace Vv2 := Vv2.ext E5
  replace O0 := O0.ext E5
  replace KC := KC.ext E5
  replace hC := hC.trans C5
  replace hZ := hZ5
  replace hown := hown5
  replace hS := hS5
  replace hk := hk5
  have nx5_a1 := nx5 _ Sf_a1
  obtain ⟨T6, X6, e6, st6⟩ := getF X5 hx hZ hown (host := "") (Or.inl (ww hw 21 rfl)) Via.refl e5 Fc5 (g := (mkF m 20 #[vr a1, vr a2, vi (0 : Int32), vi (0 : Int32), vN, un] [(.ref sa5), (.ref a1)])) rfl rfl (hb hby d2_20)
  obtain ⟨T7, h7, X7, e7, W7, st7⟩ := putFN X6 hx hZ hown (ww hw 21 rfl) Via.refl e6 F_coder_a1 E_a1 (Or.inr ⟨(ww hw 17 rfl), rfl, hnm⟩) (ww hw 2 rfl) (ty := .byte) (v' := .int (0 : Int32)) (by decide) rfl rfl (g := (mkF m 23 #[vr a1, vr a2, vi (0 : Int32), vi (0 : Int32), vN, un] [(.int (0 : Int32)), (.ref a1)])) rfl rfl (hb hby d2_23)
  have N7 := Fr.snoc X7 N4 g_a1
  replace F_coder_a1 := F_coder_a1.same W7
  have SfW7 := Sf_a1
  replace Sf_a1 := Safe.wr W7 Sf_a1 hC.1 Sf_a1
  replace hk := Nat.le_trans hk (Keep.of_wr W7).1
  replace hC := hC.trans (CHr.wr W7 SfW7 hC.1)
  replace F_value_a1 := F_value_a1.other W7 (Or.inr (slot_ne (Or.inr (ww hw 16 rfl)) (Or.inr (ww hw 17 rfl)) (by decide) (t := (.array .byte)) (t' := .byte) (by decide) (by decide)))
  replace E_a1 := E_a1.wr W7
  replace Ex2 := Ex2.wr W7
  replace Fc2 := Fc2.other W7 (Or.inl (Ne.symm nx2_a1.1))
  replace Fv2 := Fv2.other W7 (Or.inl (Ne.symm nx2_a1.1))
  replace Vv2 := Vv2.other W7 (Ne.symm nx2_a1.2)
  replace Ex5 := Ex5.wr W7
  replace Fc5 := Fc5.other W7 (Or.inl (Ne.symm nx5_a1.1))
  replace Fv5 := Fv5.other W7 (Or.inl (Ne.symm nx5_a1.1))
  replace Vv5 := Vv5.other W7 (Ne.symm nx5_a1.2)
  replace O0 := O0.wr W7 g_a1
  replace KC := KC.wr W7 (Or.inl (List.mem_of_getElem? (i := 0) rfl))
  obtain ⟨fs, hr, hrun, hended, hRE⟩ := X7.leaveW hS (by rw [e7]; exact hk) (v := none) (fun _ => rfl)
  refine ⟨_, _, pre0 _ ?_, hrun, hended, _, _, rfl, ?_, ?_, hRE.1, hRE.2.1, hRE.2.2.1, hRE.2.2.2.mono (by decide) (by decide)⟩
  · show SS p e below m s₁ 0 #[vr a1, vr a2, vi (0 : Int32), vi (0 : Int32), vN, un] [] _
    refine XS.aloadN X0.here hx rfl (hb hby d2_0) rfl rfl ?_
    show SS p e below m s₁ 1 #[vr a1, vr a2, vi (0 : Int32), vi (0 : Int32), vN, un] [(.ref a1)] _
    refine st1 _ ?_
    show SS p e below m T1 4 #[vr a1, vr a2, vi (0 : Int32), vi (0 : Int32), vN, un] [] _
    refine XS.iloadN X1.here hx rfl (hb hby d2_4) rfl ?_
    show SS p e below m T1 5 #[vr a1, vr a2, vi (0 : Int32), vi (0 : Int32), vN, un] [(.int (0 : Int32))] _
    refine XS.ifNo X1.here hx rfl (hb hby d2_5) rfl ((if0 _ _).trans (teq (by decide)).2) ?_
    show SS p e below m T1 8 #[vr a1, vr a2, vi (0 : Int32), vi (0 : Int32), vN, un] [] _
    refine XS.aloadN X1.here hx rfl (hb hby d2_8) rfl rfl ?_
    show SS p e below m T1 9 #[vr a1, vr a2, vi (0 : Int32), vi (0 : Int32), vN, un] [(.ref a1)] _
    refine st2 _ ?_
    show SS p e below m T2 11 #[vr a1, vr a2, vi (0 : Int32), vi (0 : Int32), vN, un] [(.ref sa2), (.ref a1)] _
    refine st3 _ ?_
    show SS p e below m T3 14 #[vr a1, vr a2, vi (0 : Int32), vi (0 : Int32), vN, un] [(.ref sb2), (.ref a1)] _
    refine st4 _ ?_
    show SS p e below m T4 17 #[vr a1, vr a2, vi (0 : Int32), vi (0 : Int32), vN, un] [] _
    refine XS.aloadN X4.here hx rfl (hb hby d2_17) rfl rfl ?_
    show SS p e below m T4 18 #[vr a1, vr a2, vi (0 : Int32), vi (0 : Int32), vN, un] [(.ref a1)] _
    refine st5 _ ?_
    show SS p e below m T5 20 #[vr a1, vr a2, vi (0 : Int32), vi (0 : Int32), vN, un] [(.ref sa5), (.ref a1)] _
    refine st6 _ ?_
    show SS p e below m T6 23 #[vr a1, vr a2, vi (0 : Int32), vi (0 : Int32), vN, un] [(.int (0 : Int32)), (.ref a1)] _
    refine st7 _ ?_
    show SS p e below m T7 26 #[vr a1, vr a2, vi (0 : Int32), vi (0 : Int32), vN, un] [] _
    exact X7.returnOut hx Bd.returns (hb hby d2_26) hr
  · show Q_rm_i40 Z a1 a2 h0 n0 _ T7.heap _
    rw [e7]
    exact ⟨sb2, kc2, rfl, N7, KC, F_value_a1, F_coder_a1, Vv2⟩
  · show CHr Z EL s.vm s.heap T7.vm T7.heap
    rw [hh, e7]
    exact hC.trans (CHv.at X7 hZ hEL hC.1)
theorem pd_16 : parseMethodDescriptor "([CIILjava/lang/Void;)V" = some ⟨[(.array .char), .int, .int, (.object "java/lang/Void")], none⟩ := by decide +kernel
theorem d1_0 : decode jdk_42_method_3_code 0 = .ok (.aload_n 0, 1) := by decide +kernel
theorem d1_1 : decode jdk_42_method_3_code 1 = .ok (.aload_n 1, 1) := by decide +kernel
theorem d1_2 : decode jdk_42_method_3_code 2 = .ok (.iconst 0, 1) := by decide +kernel
theorem d1_3 : decode jdk_42_method_3_code 3 = .ok (.aload_n 1, 1) := by decide +kernel
theorem d1_4 : decode jdk_42_method_3_code 4 = .ok (.arraylength, 1) := by decide +kernel
theorem d1_5 : decode jdk_42_method_3_code 5 = .ok (.aconst_null, 1) := by decide +kernel
theorem d1_6 : decode jdk_42_method_3_code 6 = .ok (.invokespecial 27, 3) := by decide +kernel
theorem d1_9 : decode jdk_42_method_3_code 9 = .ok (.return_, 1) := by decide +kernel
theorem ef_rm_i10 (m : MethodId) (x0 : Addr) (x1 : Addr) : entryFrame m #[(.ref x0), (.ref x1)] 2 = mkF m 0 #[vr x0, vr x1] [] := by first | (simp [entryFrame, mkF, argsToLocals, Value.category]; done) | rfl
def Q_rm_i10 (Z : State) (a1 : Addr) (a2 : Addr) (kc : ClassId) (h0 : Heap) (n0 : Nat) (v : Option Value) (h : Heap) (L : List Loc) : Prop := ∃ tz : Addr, ∃ kb : ClassId, (v = none) ∧ (Fr n0 L) ∧ (Keep h0 h [a1]) ∧ (Fld Z h a1 "java/lang/String" "value" "[B" (.ref tz)) ∧ (Fld Z h a1 "java/lang/String" "coder" "B" (.int (0 : Int32))) ∧ (Arv Z h tz kb .byte (0 : Int32) [] (.int (0 : Int32)))
set_option maxRecDepth 65536 in
set_option maxHeartbeats 40000000 in
theorem rm_i10 (l : Launch) (Z : State) (a0 : Array Value) (hw : ∀ d ∈ tables_1, d.before a0 Z = true) (ws : List Jvm.Cond) (a1 : Addr) (a2 : Addr) (kc : ClassId) (h0 : Heap) (n0 : Nat) (Z0 : n0 ≤ h0.size) (O0 : Old Z n0 h0) (F_value_a1 : Fld Z h0 a1 "java/lang/String" "value" "[B" .null) (F_coder_a1 : Fld Z h0 a1 "java/lang/String" "coder" "B" (.int (0 : Int32))) (E_a1 : Exa Z h0 a1 "java/lang/String") (g_a1 : n0 ≤ a1) (V_a2 : Arv Z h0 a2 kc .char (0 : Int32) [] (.int (0 : Int32))) :
    MetFree l y_28 (head1 (Jvm.Cond.code y_28 jdk_42_method_3_code 2 none :: ws) ({ frames := 2, cells := 4, slots := 8, locals := 29 } : Room)) (fun a U => a = #[(.ref a1), (.ref a2)] ∧ Z.Warmed39 U.vm ∧ U.heap = h0 ∧ CHv Z EL U.vm h0) (fun _ _ _ _ _ => True) (fun _ U o U' => ∃ v L, o = .returned v ∧ Q_rm_i10 Z a1 a2 kc h0 n0 v U'.heap L ∧ CHr Z EL U.vm U.heap U'.vm U'.heap ∧ ReturnedEndW U o U' L ({ frames := 2, cells := 4, slots := 8, locals := 29 } : Room).cells ({ frames := 2, cells := 4, slots := 8, locals := 29 } : Room).slots) := by
  refine MetFree.of_bodySF (plainFor_of_name pn_0) hisR ?_
  intro p e s m args below meth c s₁ Bd hml0 hP hK
  obtain ⟨rfl, hZ0, hh, hC0⟩ := hP
  have hx := Bd.exec
  have hby := Bd.bytes
  have hml : c.maxLocals = 2 := hml0
  have hown : (s.setVm s.vm).vm.findClass "java/lang/String" = some m.cls := findClass_of_methodNamed Bd.named
  have hnm := (name_of_methodNamed Bd.named Bd.method).1
  have X0 : Stand p l e ({ frames := 2, cells := 4, slots := 8, locals := 29 } : Room) (s.setVm s.vm) m #[(.ref a1), (.ref a2)] below meth c s₁ [] 0 0 := Stand.of_body Bd
  have e0 : s₁.heap = h0 := by rw [← hh, Bd.state]; rfl
  have N0 := Fr.nil n0
  have KC : Keep h0 h0 [a1] := Keep.refl h0 _
  have pre0 : ∀ t, Steps p.tables e below (s₁.setTop (mkF m 0 #[vr a1, vr a2] [])) t → Steps p.tables e below (s₁.setTop (entryFrame m #[(.ref a1), (.ref a2)] 2)) t := fun t k => castTop (ef_rm_i10 m a1 a2) k
  have hZ : Z.Warmed39 (s.setVm s.vm).vm := hZ0
  have hEL := own_hEL hw
  have wS := own_wS hw
  have hS : s.Since s.vm 0 := (State.WarmedH.refl s).since 0
  have hk : 0 ≤ h0.size := Nat.zero_le _
  have hC : CHr Z EL s.vm h0 s.vm h0 := CHr.refl hC0
  have Vo1 := V_a2
  obtain ⟨cl1, Ar1, -, Sz1, Nn1, -, -⟩ := Vo1
  have ia1 := State.isArrayOf_alike hZ.alike Ar1.2.1
  obtain ⟨_, _, ⟨T2, L2, kz2, nz2⟩, -, X2, hS2, gr2, ⟨Lc2, hQ2, l2, y2, z2, C2⟩, st2⟩ := X0.specialBackS hx (y := y_27) rfl hown (mvT hZ (ww hw 7 rfl)) (mvT hZ (ww hw 8 rfl)) (mvT hZ (ww hw 10 rfl)) (by decide) (backOfSH (W := 0) (rm_i40 l Z a0 hw [] a1 a2 h0 n0 (Nat.le_trans Z0 KC.1) O0 F_value_a1 F_coder_a1 E_a1 g_a1) hZ (ww hw 10 rfl) (ww hw 3 rfl) (by decide) (by decide) hEL hC.1) (g := (mkF m 6 #[vr a1, vr a2] [.null, (.int (0 : Int32)), (.int (0 : Int32)), (.ref a2), (.ref a1)])) rfl (by rw [hml]; rfl) (Steps.refl _) (a := a1) (argsL := [(.ref a2), (.int (0 : Int32)), (.int (0 : Int32)), .null]) (rest := []) (lenOf pd_16 rfl) rfl (by show 2 * 0 + _ ≤ _; exact Nat.le_of_eq rfl) (hb hby d1_6) (fun _ _ => ⟨rfl, e0, (by decide : 0 + 4 ≤ _), (by decide : 0 + 8 ≤ _)⟩)
  dsimp only [Pt.U, Pt.locs, Pt.cells, Pt.slots] at X2 l2 y2 z2 st2 hQ2 hS2 gr2 C2
  subst l2 y2 z2
  rw [e0] at gr2
  obtain ⟨Xr2, hSr2, hZr2, hownr2⟩ := rebS hS hk X2 hS2 gr2 hZ hown
  replace hC := hC.trans C2
  replace hZ := hZr2
  replace hown := hownr2
  replace hS := hSr2
  replace hk : T2.heap.size ≤ T2.heap.size := Nat.le_refl _
  replace X2 := Xr2
  obtain ⟨tz_2, kb_2, rfl, N2q, K2, F_value_a1_2, F_coder_a1_2, V_tz_2⟩ := hQ2
  have N2 := Fr.app N0 N2q
  have nev_a1_a2 : a1 ≠ a2 := Exa.neArv E_a1 V_a2 (ww hw 2 rfl)
  replace E_a1 := E_a1.keep K2
  replace V_a2 := V_a2.keep K2 (ninS (Ne.symm nev_a1_a2) nin0)
  replace O0 := O0.keep K2 (allS g_a1 all0)
  replace KC := KC.trans K2 (allS (Or.inl (List.mem_of_getElem? (i := 0) rfl)) all0)
  obtain ⟨fs, hr, hrun, hended, hRE⟩ := X2.leaveW hS hk (v := none) (fun _ => rfl)
  refine ⟨_, _, pre0 _ ?_, hrun, hended, _, _, rfl, ?_, ?_, hRE.1, hRE.2.1, hRE.2.2.1, hRE.2.2.2.mono (by decide) (by decide)⟩
  · show SS p e below m s₁ 0 #[vr a1, vr a2] [] _
    refine XS.aloadN X0.here hx rfl (hb hby d1_0) rfl rfl ?_
    show SS p e below m s₁ 1 #[vr a1, vr a2] [(.ref a1)] _
    refine XS.aloadN X0.here hx rfl (hb hby d1_1) rfl rfl ?_
    show SS p e below m s₁ 2 #[vr a1, vr a2] [(.ref a2), (.ref a1)] _
    refine XS.iconst X0.here hx rfl (hb hby d1_2) ?_
    show SS p e below m s₁ 3 #[vr a1, vr a2] [(.int (0 : Int32)), (.ref a2), (.ref a1)] _
    refine XS.aloadN X0.here hx rfl (hb hby d1_3) rfl rfl ?_
    show SS p e below m s₁ 4 #[vr a1, vr a2] [(.ref a2), (.int (0 : Int32)), (.ref a2), (.ref a1)] _
    refine X0.arraylength hx (by rw [e0]; exact Ar1.1) ia1 (g := (mkF m 4 #[vr a1, vr a2] [(.ref a2), (.int (0 : Int32)), (.ref a2), (.ref a1)])) rfl rfl (hb hby d1_4) _ ?_
    rw [len_of Sz1 Nn1]
    show SS p e below m s₁ 5 #[vr a1, vr a2] [(.int (0 : Int32)), (.int (0 : Int32)), (.ref a2), (.ref a1)] _
    refine XS.aconstNull X0.here hx rfl (hb hby d1_5) ?_
    show SS p e below m s₁ 6 #[vr a1, vr a2] [.null, (.int (0 : Int32)), (.int (0 : Int32)), (.ref a2), (.ref a1)] _
    refine st2.trans ?_
    show SS p e below m T2 9 #[vr a1, vr a2] [] _
    exact X2.returnOut hx Bd.returns (hb hby d1_9) hr
  · show Q_rm_i10 Z a1 a2 kc h0 n0 _ T2.heap _
    exact ⟨tz_2, kb_2, rfl, N2, KC, F_value_a1_2, F_coder_a1_2, V_tz_2⟩
  · show CHr Z EL s.vm s.heap T2.vm T2.heap
    rw [hh]
    exact hC.trans (CHv.at X2 hZ hEL hC.1)
theorem d43_0 : decode jdk_52_method_21_code 0 = .ok (.iconst 0, 1) := by decide +kernel
theorem d43_1 : decode jdk_52_method_21_code 1 = .ok (.istore 5, 2) := by decide +kernel
theorem d43_3 : decode jdk_52_method_21_code 3 = .ok (.iload 5, 2) := by decide +kernel
theorem d43_5 : decode jdk_52_method_21_code 5 = .ok (.iload 4, 2) := by decide +kernel
theorem d43_7 : decode jdk_52_method_21_code 7 = .ok (.if_icmp .ge 37, 3) := by decide +kernel
theorem d43_10 : decode jdk_52_method_21_code 10 = .ok (.aload_n 0, 1) := by decide +kernel
theorem d43_11 : decode jdk_52_method_21_code 11 = .ok (.iload_n 1, 1) := by decide +kernel
theorem d43_12 : decode jdk_52_method_21_code 12 = .ok (.caload, 1) := by decide +kernel
theorem d43_13 : decode jdk_52_method_21_code 13 = .ok (.istore 6, 2) := by decide +kernel
theorem d43_15 : decode jdk_52_method_21_code 15 = .ok (.iload 6, 2) := by decide +kernel
theorem d43_17 : decode jdk_52_method_21_code 17 = .ok (.sipush 255, 3) := by decide +kernel
theorem d43_20 : decode jdk_52_method_21_code 20 = .ok (.if_icmp .le 6, 3) := by decide +kernel
theorem d43_26 : decode jdk_52_method_21_code 26 = .ok (.aload_n 2, 1) := by decide +kernel
theorem d43_27 : decode jdk_52_method_21_code 27 = .ok (.iload_n 3, 1) := by decide +kernel
theorem d43_28 : decode jdk_52_method_21_code 28 = .ok (.iload 6, 2) := by decide +kernel
theorem d43_30 : decode jdk_52_method_21_code 30 = .ok (.i2b, 1) := by decide +kernel
theorem d43_31 : decode jdk_52_method_21_code 31 = .ok (.bastore, 1) := by decide +kernel
theorem d43_32 : decode jdk_52_method_21_code 32 = .ok (.iinc 1 1, 3) := by decide +kernel
theorem d43_35 : decode jdk_52_method_21_code 35 = .ok (.iinc 3 1, 3) := by decide +kernel
theorem d43_38 : decode jdk_52_method_21_code 38 = .ok (.iinc 5 1, 3) := by decide +kernel
theorem d43_41 : decode jdk_52_method_21_code 41 = .ok (.goto (-38), 3) := by decide +kernel
theorem d43_44 : decode jdk_52_method_21_code 44 = .ok (.iload 4, 2) := by decide +kernel
theorem d43_46 : decode jdk_52_method_21_code 46 = .ok (.ireturn, 1) := by decide +kernel
theorem pn_7 : plainName "java/lang/StringUTF16" = true := by first | (simp [plainName, overriddenIn]; done) | decide +kernel
theorem ef_rm_cmp1 (m : MethodId) (x0 : Addr) (x1 : Int32) (x2 : Addr) (x3 : Int32) (x4 : Int32) : entryFrame m #[(.ref x0), (.int x1), (.ref x2), (.int x3), (.int x4)] 7 = mkF m 0 #[vr x0, vi x1, vr x2, vi x3, vi x4, .unset, .unset] [] := by first | (simp [entryFrame, mkF, argsToLocals, Value.category]; done) | rfl
def Q_rm_cmp1 (Z : State) (a1 : Addr) (a3 : Addr) (kc : ClassId) (kb : ClassId) (x0 : Int32) (h0 : Heap) (n0 : Nat) (v : Option Value) (h : Heap) (L : List Loc) : Prop := (v = some (.int (1 : Int32))) ∧ (Fr n0 L) ∧ (Keep h0 h [a3]) ∧ (Arv Z h a3 kb .byte (1 : Int32) [(.int (own_b x0))] (.int (0 : Int32)))
set_option maxRecDepth 65536 in
set_option maxHeartbeats 40000000 in
theorem rm_cmp1 (l : Launch) (Z : State) (a0 : Array Value) (hw : ∀ d ∈ tables_1, d.before a0 Z = true) (ws : List Jvm.Cond) (a1 : Addr) (a3 : Addr) (kc : ClassId) (kb : ClassId) (x0 : Int32) (h0 : Heap) (n0 : Nat) (Z0 : n0 ≤ h0.size) (O0 : Old Z n0 h0) (V_a1 : Arv Z h0 a1 kc .char (1 : Int32) [(.int x0)] (.int (0 : Int32))) (V_a3 : Arv Z h0 a3 kb .byte (1 : Int32) [(.int (0 : Int32))] (.int (0 : Int32))) (g_a3 : n0 ≤ a3) (ne_13 : a1 ≠ a3) (hx0 : ¬ (255 : Int32) < x0) :
    MetFree l y_29 (head1 (Jvm.Cond.code y_29 jdk_52_method_21_code 7 (some .int) :: ws) ({ frames := 0, cells := 0, slots := 0, locals := 0 } : Room)) (fun a U => a = #[(.ref a1), (.int (0 : Int32)), (.ref a3), (.int (0 : Int32)), (.int (1 : Int32))] ∧ Z.Warmed39 U.vm ∧ U.heap = h0) (fun _ _ _ _ _ => True) (fun _ U o U' => ∃ v L, o = .returned v ∧ Q_rm_cmp1 Z a1 a3 kc kb x0 h0 n0 v U'.heap L ∧ FrameEnd U o U' L ({ frames := 0, cells := 0, slots := 0, locals := 0 } : Room).cells ({ frames := 0, cells := 0, slots := 0, locals := 0 } : Room).slots) := by
  refine MetFree.of_bodySF (plainFor_of_name pn_7) hisR ?_
  intro p e s m args below meth c s₁ Bd hml0 hP hK
  obtain ⟨rfl, hZ, hh⟩ := hP
  have hx := Bd.exec
  have hby := Bd.bytes
  have hml : c.maxLocals = 7 := hml0
  have hown : s.vm.findClass "java/lang/StringUTF16" = some m.cls := findClass_of_methodNamed Bd.named
  have hnm := (name_of_methodNamed Bd.named Bd.method).1
  have X0 : Stand p l e ({ frames := 0, cells := 0, slots := 0, locals := 0 } : Room) s m #[(.ref a1), (.int (0 : Int32)), (.ref a3), (.int (0 : Int32)), (.int (1 : Int32))] below meth c s₁ [] 0 0 := Stand.of_body Bd
  have e0 : s₁.heap = h0 := by rw [← hh, Bd.state]; rfl
  have N0 := Fr.nil n0
  have KC : Keep h0 h0 [a3] := Keep.refl h0 _
  have pre0 : ∀ t, Steps p.tables e below (s₁.setTop (mkF m 0 #[vr a1, vi (0 : Int32), vr a3, vi (0 : Int32), vi (1 : Int32), un, un] [])) t → Steps p.tables e below (s₁.setTop (entryFrame m #[(.ref a1), (.int (0 : Int32)), (.ref a3), (.int (0 : Int32)), (.int (1 : Int32))] 7)) t := fun t k => castTop (ef_rm_cmp1 m a1 (0 : Int32) a3 (0 : Int32) (1 : Int32)) k
  have Vo1 := V_a1
  obtain ⟨cl1, Ar1, q1, Sz1, Nn1, Hh1, Gg1⟩ := Vo1
  have hin1 : ¬ ((0 : Int32) < 0 ∨ cl1.slots.size ≤ ((0 : Int32)).toNatClampNeg) := inb_of Sz1 ⟨by decide, by decide⟩
  have hat1 : cl1.slots[((0 : Int32)).toNatClampNeg]? = some (.int x0) := Has.at Hh1 hin1 rfl
  have ia1 := State.isArrayOf_alike hZ.alike Ar1.2.1
  have Vo2 := V_a3
  obtain ⟨cl2, Ar2, q2, Sz2, Nn2, Hh2, Gg2⟩ := Vo2
  have hin2 : ¬ ((0 : Int32) < 0 ∨ cl2.slots.size ≤ ((0 : Int32)).toNatClampNeg) := inb_of Sz2 ⟨by decide, by decide⟩
  obtain ⟨T3, h3, X3, e3, W3, st3⟩ := stB X0 hx hZ e0 Ar2 (j := (0 : Int32)) hin2 (g := (mkF m 31 #[vr a1, vi (0 : Int32), vr a3, vi (0 : Int32), vi (1 : Int32), vi (0 : Int32), vi x0] [(.int (x0.toInt8.toInt32)), (.int (0 : Int32)), (.ref a3)])) rfl rfl (hb hby d43_31)
  have Vn3 := Arv.set Ar2 q2 Sz2 Nn2 Hh2 Gg2 (fits_nar_byte _) W3 (0) rfl (Nat.le_of_ble_eq_true rfl)
  have N3 := Fr.snoc X3 N0 g_a3
  have Vm3 : Arv Z h3 a3 kb .byte (1 : Int32) [(.int (own_b x0))] (.int (0 : Int32)) := by have hh := Vn3; rw [own_bb] at hh; exact hh
  replace V_a1 := V_a1.other W3 ne_13
  replace O0 := O0.wr W3 g_a3
  replace KC := KC.wr W3 (Or.inl (List.mem_of_getElem? (i := 0) rfl))
  obtain ⟨fs, hr, hrun, hended, hW, hsame⟩ := X3.leave (v := some (.int (1 : Int32))) (fun h => by rw [Bd.returns] at h; cases h)
  refine ⟨_, _, pre0 _ ?_, hrun, hended, _, _, rfl, ?_, ⟨_, rfl⟩, hW, hsame.mono (by decide) (by decide)⟩
  · show SS p e below m s₁ 0 #[vr a1, vi (0 : Int32), vr a3, vi (0 : Int32), vi (1 : Int32), un, un] [] _
    refine XS.iconst X0.here hx rfl (hb hby d43_0) ?_
    show SS p e below m s₁ 1 #[vr a1, vi (0 : Int32), vr a3, vi (0 : Int32), vi (1 : Int32), un, un] [(.int (0 : Int32))] _
    refine XS.istore X0.here hx rfl (hb hby d43_1) rfl (l' := #[vr a1, vi (0 : Int32), vr a3, vi (0 : Int32), vi (1 : Int32), vi (0 : Int32), un]) rfl ?_
    show SS p e below m s₁ 3 #[vr a1, vi (0 : Int32), vr a3, vi (0 : Int32), vi (1 : Int32), vi (0 : Int32), un] [] _
    refine XS.iload X0.here hx rfl (hb hby d43_3) rfl ?_
    show SS p e below m s₁ 5 #[vr a1, vi (0 : Int32), vr a3, vi (0 : Int32), vi (1 : Int32), vi (0 : Int32), un] [(.int (0 : Int32))] _
    refine XS.iload X0.here hx rfl (hb hby d43_5) rfl ?_
    show SS p e below m s₁ 7 #[vr a1, vi (0 : Int32), vr a3, vi (0 : Int32), vi (1 : Int32), vi (0 : Int32), un] [(.int (1 : Int32)), (.int (0 : Int32))] _
    refine XS.icmpNo X0.here hx rfl (hb hby d43_7) rfl (tlt (by decide)).2.1 ?_
    show SS p e below m s₁ 10 #[vr a1, vi (0 : Int32), vr a3, vi (0 : Int32), vi (1 : Int32), vi (0 : Int32), un] [] _
    refine XS.aloadN X0.here hx rfl (hb hby d43_10) rfl rfl ?_
    show SS p e below m s₁ 11 #[vr a1, vi (0 : Int32), vr a3, vi (0 : Int32), vi (1 : Int32), vi (0 : Int32), un] [(.ref a1)] _
    refine XS.iloadN X0.here hx rfl (hb hby d43_11) rfl ?_
    show SS p e below m s₁ 12 #[vr a1, vi (0 : Int32), vr a3, vi (0 : Int32), vi (1 : Int32), vi (0 : Int32), un] [(.int (0 : Int32)), (.ref a1)] _
    refine X0.caload hx (j := (0 : Int32)) (v := (.int x0)) (by rw [e0]; exact Ar1.1) ia1 Ar1.2.2 hin1 hat1 (g := (mkF m 12 #[vr a1, vi (0 : Int32), vr a3, vi (0 : Int32), vi (1 : Int32), vi (0 : Int32), un] [(.int (0 : Int32)), (.ref a1)])) rfl rfl (hb hby d43_12) _ ?_
    show SS p e below m s₁ 13 #[vr a1, vi (0 : Int32), vr a3, vi (0 : Int32), vi (1 : Int32), vi (0 : Int32), un] [(.int x0)] _
    refine XS.istore X0.here hx rfl (hb hby d43_13) rfl (l' := #[vr a1, vi (0 : Int32), vr a3, vi (0 : Int32), vi (1 : Int32), vi (0 : Int32), vi x0]) rfl ?_
    show SS p e below m s₁ 15 #[vr a1, vi (0 : Int32), vr a3, vi (0 : Int32), vi (1 : Int32), vi (0 : Int32), vi x0] [] _
    refine XS.iload X0.here hx rfl (hb hby d43_15) rfl ?_
    show SS p e below m s₁ 17 #[vr a1, vi (0 : Int32), vr a3, vi (0 : Int32), vi (1 : Int32), vi (0 : Int32), vi x0] [(.int x0)] _
    refine XS.sipush X0.here hx rfl (hb hby d43_17) ?_
    show SS p e below m s₁ 20 #[vr a1, vi (0 : Int32), vr a3, vi (0 : Int32), vi (1 : Int32), vi (0 : Int32), vi x0] [(.int (255 : Int32)), (.int x0)] _
    refine XS.icmpYes X0.here hx rfl (pc0 := 20) (pc' := 26) rfl (hb hby d43_20) rfl (flt hx0).2.2.2 (by decide) (by decide) ?_
    show SS p e below m s₁ 26 #[vr a1, vi (0 : Int32), vr a3, vi (0 : Int32), vi (1 : Int32), vi (0 : Int32), vi x0] [] _
    refine XS.aloadN X0.here hx rfl (hb hby d43_26) rfl rfl ?_
    show SS p e below m s₁ 27 #[vr a1, vi (0 : Int32), vr a3, vi (0 : Int32), vi (1 : Int32), vi (0 : Int32), vi x0] [(.ref a3)] _
    refine XS.iloadN X0.here hx rfl (hb hby d43_27) rfl ?_
    show SS p e below m s₁ 28 #[vr a1, vi (0 : Int32), vr a3, vi (0 : Int32), vi (1 : Int32), vi (0 : Int32), vi x0] [(.int (0 : Int32)), (.ref a3)] _
    refine XS.iload X0.here hx rfl (hb hby d43_28) rfl ?_
    show SS p e below m s₁ 30 #[vr a1, vi (0 : Int32), vr a3, vi (0 : Int32), vi (1 : Int32), vi (0 : Int32), vi x0] [(.int x0), (.int (0 : Int32)), (.ref a3)] _
    refine XS.i2b X0.here hx rfl (hb hby d43_30) rfl ?_
    show SS p e below m s₁ 31 #[vr a1, vi (0 : Int32), vr a3, vi (0 : Int32), vi (1 : Int32), vi (0 : Int32), vi x0] [(.int (x0.toInt8.toInt32)), (.int (0 : Int32)), (.ref a3)] _
    refine st3 _ ?_
    show SS p e below m T3 32 #[vr a1, vi (0 : Int32), vr a3, vi (0 : Int32), vi (1 : Int32), vi (0 : Int32), vi x0] [] _
    refine XS.iinc X3.here hx rfl (hb hby d43_32) rfl (l' := #[vr a1, vi (1 : Int32), vr a3, vi (0 : Int32), vi (1 : Int32), vi (0 : Int32), vi x0]) rfl ?_
    show SS p e below m T3 35 #[vr a1, vi (1 : Int32), vr a3, vi (0 : Int32), vi (1 : Int32), vi (0 : Int32), vi x0] [] _
    refine XS.iinc X3.here hx rfl (hb hby d43_35) rfl (l' := #[vr a1, vi (1 : Int32), vr a3, vi (1 : Int32), vi (1 : Int32), vi (0 : Int32), vi x0]) rfl ?_
    show SS p e below m T3 38 #[vr a1, vi (1 : Int32), vr a3, vi (1 : Int32), vi (1 : Int32), vi (0 : Int32), vi x0] [] _
    refine XS.iinc X3.here hx rfl (hb hby d43_38) rfl (l' := #[vr a1, vi (1 : Int32), vr a3, vi (1 : Int32), vi (1 : Int32), vi (1 : Int32), vi x0]) rfl ?_
    show SS p e below m T3 41 #[vr a1, vi (1 : Int32), vr a3, vi (1 : Int32), vi (1 : Int32), vi (1 : Int32), vi x0] [] _
    refine XS.goto X3.here hx rfl (pc0 := 41) (pc' := 3) rfl (hb hby d43_41) (by decide) (by decide) ?_
    show SS p e below m T3 3 #[vr a1, vi (1 : Int32), vr a3, vi (1 : Int32), vi (1 : Int32), vi (1 : Int32), vi x0] [] _
    refine XS.iload X3.here hx rfl (hb hby d43_3) rfl ?_
    show SS p e below m T3 5 #[vr a1, vi (1 : Int32), vr a3, vi (1 : Int32), vi (1 : Int32), vi (1 : Int32), vi x0] [(.int (1 : Int32))] _
    refine XS.iload X3.here hx rfl (hb hby d43_5) rfl ?_
    show SS p e below m T3 7 #[vr a1, vi (1 : Int32), vr a3, vi (1 : Int32), vi (1 : Int32), vi (1 : Int32), vi x0] [(.int (1 : Int32)), (.int (1 : Int32))] _
    refine XS.icmpYes X3.here hx rfl (pc0 := 7) (pc' := 44) rfl (hb hby d43_7) rfl (flt (by decide)).2.1 (by decide) (by decide) ?_
    show SS p e below m T3 44 #[vr a1, vi (1 : Int32), vr a3, vi (1 : Int32), vi (1 : Int32), vi (1 : Int32), vi x0] [] _
    refine XS.iload X3.here hx rfl (hb hby d43_44) rfl ?_
    show SS p e below m T3 46 #[vr a1, vi (1 : Int32), vr a3, vi (1 : Int32), vi (1 : Int32), vi (1 : Int32), vi x0] [(.int (1 : Int32))] _
    exact retI X3 hx Bd.returns (hb hby d43_46) hr
  · show Q_rm_cmp1 Z a1 a3 kc kb x0 h0 n0 _ T3.heap _
    rw [e3]
    exact ⟨rfl, N3, KC, Vm3⟩
theorem pd_17 : parseMethodDescriptor "([CI[BII)I" = some ⟨[(.array .char), .int, (.array .byte), .int, .int], some .int⟩ := by decide +kernel
theorem d42_0 : decode jdk_52_method_16_code 0 = .ok (.iload_n 2, 1) := by decide +kernel
theorem d42_1 : decode jdk_52_method_16_code 1 = .ok (.newarray .byte, 2) := by decide +kernel
theorem d42_3 : decode jdk_52_method_16_code 3 = .ok (.astore_n 3, 1) := by decide +kernel
theorem d42_4 : decode jdk_52_method_16_code 4 = .ok (.aload_n 0, 1) := by decide +kernel
theorem d42_5 : decode jdk_52_method_16_code 5 = .ok (.iload_n 1, 1) := by decide +kernel
theorem d42_6 : decode jdk_52_method_16_code 6 = .ok (.aload_n 3, 1) := by decide +kernel
theorem d42_7 : decode jdk_52_method_16_code 7 = .ok (.iconst 0, 1) := by decide +kernel
theorem d42_8 : decode jdk_52_method_16_code 8 = .ok (.iload_n 2, 1) := by decide +kernel
theorem d42_9 : decode jdk_52_method_16_code 9 = .ok (.invokestatic 115, 3) := by decide +kernel
theorem d42_12 : decode jdk_52_method_16_code 12 = .ok (.istore 4, 2) := by decide +kernel
theorem d42_14 : decode jdk_52_method_16_code 14 = .ok (.iload 4, 2) := by decide +kernel
theorem d42_16 : decode jdk_52_method_16_code 16 = .ok (.iload_n 2, 1) := by decide +kernel
theorem d42_17 : decode jdk_52_method_16_code 17 = .ok (.if_icmp .eq 40, 3) := by decide +kernel
theorem d42_57 : decode jdk_52_method_16_code 57 = .ok (.aload_n 3, 1) := by decide +kernel
theorem d42_58 : decode jdk_52_method_16_code 58 = .ok (.areturn, 1) := by decide +kernel
theorem ef_rm_cm1 (m : MethodId) (x0 : Addr) (x1 : Int32) (x2 : Int32) : entryFrame m #[(.ref x0), (.int x1), (.int x2)] 6 = mkF m 0 #[vr x0, vi x1, vi x2, .unset, .unset, .unset] [] := by first | (simp [entryFrame, mkF, argsToLocals, Value.category]; done) | rfl
def Q_rm_cm1 (Z : State) (a1 : Addr) (kc : ClassId) (x0 : Int32) (h0 : Heap) (n0 : Nat) (v : Option Value) (h : Heap) (L : List Loc) : Prop := ∃ tz : Addr, ∃ kb : ClassId, (v = some (.ref tz)) ∧ (Fr n0 L) ∧ (Keep h0 h []) ∧ (h0.size ≤ tz) ∧ (Arv Z h tz kb .byte (1 : Int32) [(.int (own_b x0))] (.int (0 : Int32)))
set_option maxRecDepth 65536 in
set_option maxHeartbeats 40000000 in
theorem rm_cm1 (l : Launch) (Z : State) (a0 : Array Value) (hw : ∀ d ∈ tables_1, d.before a0 Z = true) (ws : List Jvm.Cond) (a1 : Addr) (kc : ClassId) (x0 : Int32) (h0 : Heap) (n0 : Nat) (Z0 : n0 ≤ h0.size) (O0 : Old Z n0 h0) (V_a1 : Arv Z h0 a1 kc .char (1 : Int32) [(.int x0)] (.int (0 : Int32))) (hx0 : ¬ (255 : Int32) < x0) :
    MetFree l y_30 (head1 (Jvm.Cond.code y_30 jdk_52_method_16_code 6 (some (.array .byte)) :: ws) ({ frames := 1, cells := 1, slots := 1, locals := 18 } : Room)) (fun a U => a = #[(.ref a1), (.int (0 : Int32)), (.int (1 : Int32))] ∧ Z.Warmed39 U.vm ∧ U.heap = h0) (fun _ _ _ _ _ => True) (fun _ U o U' => ∃ v L, o = .returned v ∧ Q_rm_cm1 Z a1 kc x0 h0 n0 v U'.heap L ∧ FrameEnd U o U' L ({ frames := 1, cells := 1, slots := 1, locals := 18 } : Room).cells ({ frames := 1, cells := 1, slots := 1, locals := 18 } : Room).slots) := by
  refine MetFree.of_bodySF (plainFor_of_name pn_7) hisR ?_
  intro p e s m args below meth c s₁ Bd hml0 hP hK
  obtain ⟨rfl, hZ, hh⟩ := hP
  have hx := Bd.exec
  have hby := Bd.bytes
  have hml : c.maxLocals = 6 := hml0
  have hown : s.vm.findClass "java/lang/StringUTF16" = some m.cls := findClass_of_methodNamed Bd.named
  have hnm := (name_of_methodNamed Bd.named Bd.method).1
  have X0 : Stand p l e ({ frames := 1, cells := 1, slots := 1, locals := 18 } : Room) s m #[(.ref a1), (.int (0 : Int32)), (.int (1 : Int32))] below meth c s₁ [] 0 0 := Stand.of_body Bd
  have e0 : s₁.heap = h0 := by rw [← hh, Bd.state]; rfl
  have N0 := Fr.nil n0
  have KC : Keep h0 h0 [] := Keep.refl h0 _
  have pre0 : ∀ t, Steps p.tables e below (s₁.setTop (mkF m 0 #[vr a1, vi (0 : Int32), vi (1 : Int32), un, un, un] [])) t → Steps p.tables e below (s₁.setTop (entryFrame m #[(.ref a1), (.int (0 : Int32)), (.int (1 : Int32))] 6)) t := fun t k => castTop (ef_rm_cm1 m a1 (0 : Int32) (1 : Int32)) k
  obtain ⟨T1, h1, k1, X1, e1, E1, A1, st1⟩ := newP X0 hx hZ (ww hw 15 rfl) e0 (g := (mkF m 1 #[vr a1, vi (0 : Int32), vi (1 : Int32), un, un, un] [(.int (1 : Int32))])) rfl (hb hby d42_1) rfl (by decide) (cap := 1) (by decide) (by decide) (by decide) (by decide)
  obtain ⟨b1, g1⟩ : ∃ z, z = h0.size := ⟨_, rfl⟩
  rw [← g1] at A1 st1
  have ne_a1_b1 : a1 ≠ b1 := Nat.ne_of_lt (Nat.lt_of_lt_of_le V_a1.lt (Nat.le_of_eq g1.symm))
  have g_b1 : n0 ≤ b1 := Nat.le_trans (Nat.le_trans Z0 KC.1) (Nat.le_of_eq g1.symm)
  have sz_b1 : h0.size ≤ b1 := Nat.le_trans KC.1 (Nat.le_of_eq g1.symm)
  replace V_a1 := V_a1.ext E1
  replace O0 := O0.ext E1
  replace KC := KC.ext E1
  have V_b1 : Arv Z h1 b1 k1 .byte (1 : Int32) [(.int (0 : Int32))] (.int (0 : Int32)) := (Arv.new A1 (by decide)).pad (pad_rep [] (.int (0 : Int32)) 1)
  obtain ⟨_, _, ⟨T2, L2, kz2, nz2⟩, -, X2, ⟨Lc2, hQ2, l2, y2, z2⟩, st2⟩ := Jvm.LawKit.callS X1 hx (y := y_29) hown (mvT hZ (ww hw 233 rfl)) (mvT hZ (ww hw 234 rfl)) (mvT hZ (ww hw 231 rfl)) (mvT hZ (ww hw 235 rfl)) (by decide) (backOf (W := 0) (rm_cmp1 l Z a0 hw [] a1 b1 kc k1 x0 h1 n0 (Nat.le_trans Z0 KC.1) O0 V_a1 V_b1 g_b1 ne_a1_b1 hx0) hZ (ww hw 235 rfl) (ww hw 231 rfl) (by decide) (by decide)) (g := (mkF m 9 #[vr a1, vi (0 : Int32), vi (1 : Int32), vr b1, un, un] [(.int (1 : Int32)), (.int (0 : Int32)), (.ref b1), (.int (0 : Int32)), (.ref a1)])) rfl (by rw [hml]; rfl) (argsL := [(.ref a1), (.int (0 : Int32)), (.ref b1), (.int (0 : Int32)), (.int (1 : Int32))]) (rest := []) (lenOf pd_17 rfl) rfl (by show 2 * 0 + _ ≤ _; exact Nat.le_of_eq rfl) (hb hby d42_9) (fun _ _ => ⟨rfl, e1, (by decide : 1 + 0 ≤ _), (by decide : 1 + 0 ≤ _)⟩)
  dsimp only [Pt.U, Pt.locs, Pt.cells, Pt.slots] at X2 l2 y2 z2 st2 hQ2
  subst l2 y2 z2
  obtain ⟨rfl, N2q, K2, V_a3_2⟩ := hQ2
  have N2 := Fr.app N0 N2q
  replace V_a1 := V_a1.keep K2 (ninS ne_a1_b1 nin0)
  replace O0 := O0.keep K2 (allS g_b1 all0)
  replace KC := KC.trans K2 (allS (Or.inr sz_b1) all0)
  obtain ⟨fs, hr, hrun, hended, hW, hsame⟩ := X2.leave (v := some (.ref b1)) (fun h => by rw [Bd.returns] at h; cases h)
  refine ⟨_, _, pre0 _ ?_, hrun, hended, _, _, rfl, ?_, ⟨_, rfl⟩, hW, hsame.mono (by decide) (by decide)⟩
  · show SS p e below m s₁ 0 #[vr a1, vi (0 : Int32), vi (1 : Int32), un, un, un] [] _
    refine XS.iloadN X0.here hx rfl (hb hby d42_0) rfl ?_
    show SS p e below m s₁ 1 #[vr a1, vi (0 : Int32), vi (1 : Int32), un, un, un] [(.int (1 : Int32))] _
    refine st1 _ ?_
    show SS p e below m T1 3 #[vr a1, vi (0 : Int32), vi (1 : Int32), un, un, un] [(.ref b1)] _
    refine XS.astoreN X1.here hx rfl (hb hby d42_3) rfl rfl (l' := #[vr a1, vi (0 : Int32), vi (1 : Int32), vr b1, un, un]) rfl ?_
    show SS p e below m T1 4 #[vr a1, vi (0 : Int32), vi (1 : Int32), vr b1, un, un] [] _
    refine XS.aloadN X1.here hx rfl (hb hby d42_4) rfl rfl ?_
    show SS p e below m T1 5 #[vr a1, vi (0 : Int32), vi (1 : Int32), vr b1, un, un] [(.ref a1)] _
    refine XS.iloadN X1.here hx rfl (hb hby d42_5) rfl ?_
    show SS p e below m T1 6 #[vr a1, vi (0 : Int32), vi (1 : Int32), vr b1, un, un] [(.int (0 : Int32)), (.ref a1)] _
    refine XS.aloadN X1.here hx rfl (hb hby d42_6) rfl rfl ?_
    show SS p e below m T1 7 #[vr a1, vi (0 : Int32), vi (1 : Int32), vr b1, un, un] [(.ref b1), (.int (0 : Int32)), (.ref a1)] _
    refine XS.iconst X1.here hx rfl (hb hby d42_7) ?_
    show SS p e below m T1 8 #[vr a1, vi (0 : Int32), vi (1 : Int32), vr b1, un, un] [(.int (0 : Int32)), (.ref b1), (.int (0 : Int32)), (.ref a1)] _
    refine XS.iloadN X1.here hx rfl (hb hby d42_8) rfl ?_
    show SS p e below m T1 9 #[vr a1, vi (0 : Int32), vi (1 : Int32), vr b1, un, un] [(.int (1 : Int32)), (.int (0 : Int32)), (.ref b1), (.int (0 : Int32)), (.ref a1)] _
    refine st2 _ ?_
    show SS p e below m T2 12 #[vr a1, vi (0 : Int32), vi (1 : Int32), vr b1, un, un] [(.int (1 : Int32))] _
    refine XS.istore X2.here hx rfl (hb hby d42_12) rfl (l' := #[vr a1, vi (0 : Int32), vi (1 : Int32), vr b1, vi (1 : Int32), un]) rfl ?_
    show SS p e below m T2 14 #[vr a1, vi (0 : Int32), vi (1 : Int32), vr b1, vi (1 : Int32), un] [] _
    refine XS.iload X2.here hx rfl (hb hby d42_14) rfl ?_
    show SS p e below m T2 16 #[vr a1, vi (0 : Int32), vi (1 : Int32), vr b1, vi (1 : Int32), un] [(.int (1 : Int32))] _
    refine XS.iloadN X2.here hx rfl (hb hby d42_16) rfl ?_
    show SS p e below m T2 17 #[vr a1, vi (0 : Int32), vi (1 : Int32), vr b1, vi (1 : Int32), un] [(.int (1 : Int32)), (.int (1 : Int32))] _
    refine XS.icmpYes X2.here hx rfl (pc0 := 17) (pc' := 57) rfl (hb hby d42_17) rfl (teq (by decide)).1 (by decide) (by decide) ?_
    show SS p e below m T2 57 #[vr a1, vi (0 : Int32), vi (1 : Int32), vr b1, vi (1 : Int32), un] [] _
    refine XS.aloadN X2.here hx rfl (hb hby d42_57) rfl rfl ?_
    show SS p e below m T2 58 #[vr a1, vi (0 : Int32), vi (1 : Int32), vr b1, vi (1 : Int32), un] [(.ref b1)] _
    jvm_step X2.here [X2.here.top, hx, (hb hby d42_58), X2.method', Bd.returns, Value.isRef, FieldType.isReference]
    first | (intro acts; rw [hr _ acts rfl rfl rfl]) | rw [hr _ _ rfl rfl rfl]
    exact Steps.refl _
  · show Q_rm_cm1 Z a1 kc x0 h0 n0 _ T2.heap _
    exact ⟨b1, k1, rfl, N2, KC, sz_b1, V_a3_2⟩
theorem d44_0 : decode jdk_52_method_15_code 0 = .ok (.iload_n 1, 1) := by decide +kernel
theorem d44_1 : decode jdk_52_method_15_code 1 = .ok (.aload_n 0, 1) := by decide +kernel
theorem d44_2 : decode jdk_52_method_15_code 2 = .ok (.arraylength, 1) := by decide +kernel
theorem d44_3 : decode jdk_52_method_15_code 3 = .ok (.isub, 1) := by decide +kernel
theorem d44_4 : decode jdk_52_method_15_code 4 = .ok (.bipush 31, 2) := by decide +kernel
theorem d44_6 : decode jdk_52_method_15_code 6 = .ok (.iushr, 1) := by decide +kernel
theorem d44_7 : decode jdk_52_method_15_code 7 = .ok (.i2b, 1) := by decide +kernel
theorem d44_8 : decode jdk_52_method_15_code 8 = .ok (.ireturn, 1) := by decide +kernel
theorem ef_rm_cf1 (m : MethodId) (x0 : Addr) (x1 : Int32) : entryFrame m #[(.ref x0), (.int x1)] 2 = mkF m 0 #[vr x0, vi x1] [] := by first | (simp [entryFrame, mkF, argsToLocals, Value.category]; done) | rfl
def Q_rm_cf1 (Z : State) (a1 : Addr) (kb : ClassId) (vs : List Value) (h0 : Heap) (n0 : Nat) (v : Option Value) (h : Heap) (L : List Loc) : Prop := (v = some (.int (0 : Int32))) ∧ (Fr n0 L) ∧ (h = h0)
set_option maxRecDepth 65536 in
set_option maxHeartbeats 40000000 in
theorem rm_cf1 (l : Launch) (Z : State) (a0 : Array Value) (hw : ∀ d ∈ tables_1, d.before a0 Z = true) (ws : List Jvm.Cond) (a1 : Addr) (kb : ClassId) (vs : List Value) (h0 : Heap) (n0 : Nat) (Z0 : n0 ≤ h0.size) (O0 : Old Z n0 h0) (V_a1 : Arv Z h0 a1 kb .byte (1 : Int32) vs (.int (0 : Int32))) :
    MetFree l y_31 (head1 (Jvm.Cond.code y_31 jdk_52_method_15_code 2 (some .byte) :: ws) ({ frames := 0, cells := 0, slots := 0, locals := 0 } : Room)) (fun a U => a = #[(.ref a1), (.int (1 : Int32))] ∧ Z.Warmed39 U.vm ∧ U.heap = h0) (fun _ _ _ _ _ => True) (fun _ U o U' => ∃ v L, o = .returned v ∧ Q_rm_cf1 Z a1 kb vs h0 n0 v U'.heap L ∧ FrameEnd U o U' L ({ frames := 0, cells := 0, slots := 0, locals := 0 } : Room).cells ({ frames := 0, cells := 0, slots := 0, locals := 0 } : Room).slots) := by
  refine MetFree.of_bodySF (plainFor_of_name pn_7) hisR ?_
  intro p e s m args below meth c s₁ Bd hml0 hP hK
  obtain ⟨rfl, hZ, hh⟩ := hP
  have hx := Bd.exec
  have hby := Bd.bytes
  have hml : c.maxLocals = 2 := hml0
  have hown : s.vm.findClass "java/lang/StringUTF16" = some m.cls := findClass_of_methodNamed Bd.named
  have hnm := (name_of_methodNamed Bd.named Bd.method).1
  have X0 : Stand p l e ({ frames := 0, cells := 0, slots := 0, locals := 0 } : Room) s m #[(.ref a1), (.int (1 : Int32))] below meth c s₁ [] 0 0 := Stand.of_body Bd
  have e0 : s₁.heap = h0 := by rw [← hh, Bd.state]; rfl
  have N0 := Fr.nil n0
  have KC : Keep h0 h0 [] := Keep.refl h0 _
  have pre0 : ∀ t, Steps p.tables e below (s₁.setTop (mkF m 0 #[vr a1, vi (1 : Int32)] [])) t → Steps p.tables e below (s₁.setTop (entryFrame m #[(.ref a1), (.int (1 : Int32))] 2)) t := fun t k => castTop (ef_rm_cf1 m a1 (1 : Int32)) k
  have Vo1 := V_a1
  obtain ⟨cl1, Ar1, -, Sz1, Nn1, -, -⟩ := Vo1
  have ia1 := State.isArrayOf_alike hZ.alike Ar1.2.1
  obtain ⟨fs, hr, hrun, hended, hW, hsame⟩ := X0.leave (v := some (.int (nar .byte ((((0 : Int32).toUInt32 >>> ((31 : Int32) &&& 31).toUInt32).toInt32).toInt8.toInt32)))) (fun h => by rw [Bd.returns] at h; cases h)
  refine ⟨_, _, pre0 _ ?_, hrun, hended, _, _, rfl, ?_, ⟨_, rfl⟩, hW, hsame.mono (by decide) (by decide)⟩
  · show SS p e below m s₁ 0 #[vr a1, vi (1 : Int32)] [] _
    refine XS.iloadN X0.here hx rfl (hb hby d44_0) rfl ?_
    show SS p e below m s₁ 1 #[vr a1, vi (1 : Int32)] [(.int (1 : Int32))] _
    refine XS.aloadN X0.here hx rfl (hb hby d44_1) rfl rfl ?_
    show SS p e below m s₁ 2 #[vr a1, vi (1 : Int32)] [(.ref a1), (.int (1 : Int32))] _
    refine X0.arraylength hx (by rw [e0]; exact Ar1.1) ia1 (g := (mkF m 2 #[vr a1, vi (1 : Int32)] [(.ref a1), (.int (1 : Int32))])) rfl rfl (hb hby d44_2) _ ?_
    rw [len_of Sz1 Nn1]
    show SS p e below m s₁ 3 #[vr a1, vi (1 : Int32)] [(.int (1 : Int32)), (.int (1 : Int32))] _
    refine XS.isub X0.here hx rfl (hb hby d44_3) rfl ?_
    show SS p e below m s₁ 4 #[vr a1, vi (1 : Int32)] [(.int (0 : Int32))] _
    refine XS.bipush X0.here hx rfl (hb hby d44_4) ?_
    show SS p e below m s₁ 6 #[vr a1, vi (1 : Int32)] [(.int (31 : Int32)), (.int (0 : Int32))] _
    refine XS.iushr X0.here hx rfl (hb hby d44_6) rfl ?_
    show SS p e below m s₁ 7 #[vr a1, vi (1 : Int32)] [(.int (((0 : Int32).toUInt32 >>> ((31 : Int32) &&& 31).toUInt32).toInt32))] _
    refine XS.i2b X0.here hx rfl (hb hby d44_7) rfl ?_
    show SS p e below m s₁ 8 #[vr a1, vi (1 : Int32)] [(.int ((((0 : Int32).toUInt32 >>> ((31 : Int32) &&& 31).toUInt32).toInt32).toInt8.toInt32))] _
    exact retN X0 hx (t := .byte) Bd.returns (by simp) (hb hby d44_8) hr
  · show Q_rm_cf1 Z a1 kb vs h0 n0 _ s₁.heap _
    rw [e0]
    exact ⟨(by decide), N0, rfl⟩
theorem pd_18 : parseMethodDescriptor "([CII)[B" = some ⟨[(.array .char), .int, .int], some (.array .byte)⟩ := by decide +kernel
theorem pd_19 : parseMethodDescriptor "([BI)B" = some ⟨[(.array .byte), .int], some .byte⟩ := by decide +kernel
theorem d2_27 : decode jdk_42_method_149_code 27 = .ok (.getstatic 38, 3) := by decide +kernel
theorem d2_30 : decode jdk_42_method_149_code 30 = .ok (.ifCond .eq 28, 3) := by decide +kernel
theorem d2_33 : decode jdk_42_method_149_code 33 = .ok (.aload_n 1, 1) := by decide +kernel
theorem d2_34 : decode jdk_42_method_149_code 34 = .ok (.iload_n 2, 1) := by decide +kernel
theorem d2_35 : decode jdk_42_method_149_code 35 = .ok (.iload_n 3, 1) := by decide +kernel
theorem d2_36 : decode jdk_42_method_149_code 36 = .ok (.invokestatic 177, 3) := by decide +kernel
theorem d2_39 : decode jdk_42_method_149_code 39 = .ok (.astore 5, 2) := by decide +kernel
theorem d2_41 : decode jdk_42_method_149_code 41 = .ok (.aload_n 0, 1) := by decide +kernel
theorem d2_42 : decode jdk_42_method_149_code 42 = .ok (.aload 5, 2) := by decide +kernel
theorem d2_44 : decode jdk_42_method_149_code 44 = .ok (.iload_n 3, 1) := by decide +kernel
theorem d2_45 : decode jdk_42_method_149_code 45 = .ok (.invokestatic 47, 3) := by decide +kernel
theorem d2_48 : decode jdk_42_method_149_code 48 = .ok (.putfield 15, 3) := by decide +kernel
theorem d2_51 : decode jdk_42_method_149_code 51 = .ok (.aload_n 0, 1) := by decide +kernel
theorem d2_52 : decode jdk_42_method_149_code 52 = .ok (.aload 5, 2) := by decide +kernel
theorem d2_54 : decode jdk_42_method_149_code 54 = .ok (.putfield 9, 3) := by decide +kernel
theorem d2_57 : decode jdk_42_method_149_code 57 = .ok (.return_, 1) := by decide +kernel
theorem ef_rm_i41 (m : MethodId) (x0 : Addr) (x1 : Addr) (x2 : Int32) (x3 : Int32) : entryFrame m #[(.ref x0), (.ref x1), (.int x2), (.int x3), .null] 6 = mkF m 0 #[vr x0, vr x1, vi x2, vi x3, vN, .unset] [] := by first | (simp [entryFrame, mkF, argsToLocals, Value.category]; done) | rfl
def Q_rm_i41 (Z : State) (a1 : Addr) (a2 : Addr) (kc : ClassId) (x0 : Int32) (zc : Int32) (h0 : Heap) (n0 : Nat) (v : Option Value) (h : Heap) (L : List Loc) : Prop := ∃ tz : Addr, ∃ kb : ClassId, (v = none) ∧ (Fr n0 L) ∧ (Keep h0 h [a1]) ∧ (h0.size ≤ tz) ∧ (Fld Z h a1 "java/lang/String" "value" "[B" (.ref tz)) ∧ (Fld Z h a1 "java/lang/String" "coder" "B" (.int (0 : Int32))) ∧ (Arv Z h tz kb .byte (1 : Int32) [(.int (own_b x0))] (.int (0 : Int32)))
set_option maxRecDepth 65536 in
set_option maxHeartbeats 40000000 in
theorem rm_i41 (l : Launch) (Z : State) (a0 : Array Value) (hw : ∀ d ∈ tables_1, d.before a0 Z = true) (ws : List Jvm.Cond) (a1 : Addr) (a2 : Addr) (kc : ClassId) (x0 : Int32) (zc : Int32) (h0 : Heap) (n0 : Nat) (Z0 : n0 ≤ h0.size) (O0 : Old Z n0 h0) (F_value_a1 : Fld Z h0 a1 "java/lang/String" "value" "[B" .null) (F_coder_a1 : Fld Z h0 a1 "java/lang/String" "coder" "B" (.int (0 : Int32))) (E_a1 : Exa Z h0 a1 "java/lang/String") (g_a1 : n0 ≤ a1) (V_a2 : Arv Z h0 a2 kc .char (1 : Int32) [(.int x0)] (.int (0 : Int32))) (S_CS : Sta Z Z.heap "java/lang/String" "COMPACT_STRINGS" "Z" (.int zc)) (hz : ¬ zc = (0 : Int32)) (hx0 : ¬ (255 : Int32) < x0) :
    MetFree l y_27 (head1 (Jvm.Cond.code y_27 jdk_42_method_149_code 6 none :: ws) ({ frames := 2, cells := 1, slots := 1, locals := 35 } : Room)) (fun a U => a = #[(.ref a1), (.ref a2), (.int (0 : Int32)), (.int (1 : Int32)), .null] ∧ Z.Warmed39 U.vm ∧ U.heap = h0) (fun _ _ _ _ _ => True) (fun _ U o U' => ∃ v L, o = .returned v ∧ Q_rm_i41 Z a1 a2 kc x0 zc h0 n0 v U'.heap L ∧ FrameEnd U o U' L ({ frames := 2, cells := 1, slots := 1, locals := 35 } : Room).cells ({ frames := 2, cells := 1, slots := 1, locals := 35 } : Room).slots) := by
  refine MetFree.of_bodySF (plainFor_of_name pn_0) hisR ?_
  intro p e s m args below meth c s₁ Bd hml0 hP hK
  obtain ⟨rfl, hZ, hh⟩ := hP
  have hx := Bd.exec
  have hby := Bd.bytes
  have hml : c.maxLocals = 6 := hml0
  have hown : s.vm.findClass "java/lang/String" = some m.cls := findClass_of_methodNamed Bd.named
  have hnm := (name_of_methodNamed Bd.named Bd.method).1
  have X0 : Stand p l e ({ frames := 2, cells := 1, slots := 1, locals := 35 } : Room) s m #[(.ref a1), (.ref a2), (.int (0 : Int32)), (.int (1 : Int32)), .null] below meth c s₁ [] 0 0 := Stand.of_body Bd
  have e0 : s₁.heap = h0 := by rw [← hh, Bd.state]; rfl
  have N0 := Fr.nil n0
  have KC : Keep h0 h0 [a1] := Keep.refl h0 _
  have pre0 : ∀ t, Steps p.tables e below (s₁.setTop (mkF m 0 #[vr a1, vr a2, vi (0 : Int32), vi (1 : Int32), vN, un] [])) t → Steps p.tables e below (s₁.setTop (entryFrame m #[(.ref a1), (.ref a2), (.int (0 : Int32)), (.int (1 : Int32)), .null] 6)) t := fun t k => castTop (ef_rm_i41 m a1 a2 (0 : Int32) (1 : Int32)) k
  obtain ⟨T1, X1, e1, st1⟩ := initO X0 hx hZ hown (ww hw 11 rfl) (ww hw 12 rfl) (ww hw 13 rfl) e0 (g := (mkF m 1 #[vr a1, vr a2, vi (0 : Int32), vi (1 : Int32), vN, un] [(.ref a1)])) rfl (by rw [hml]; rfl) rfl (hb hby d2_1) (by decide) (W := 0) (by show 2 * 0 + _ ≤ _; exact Nat.le_of_eq rfl) (by decide)
  obtain ⟨T2, X2, e2, st2⟩ := getS2 X1 hx hZ hown (host := "") (Or.inl (ww hw 42 rfl)) Via.refl e1 (S_CS.ext O0.2) (g := (mkF m 27 #[vr a1, vr a2, vi (0 : Int32), vi (1 : Int32), vN, un] [])) rfl (hb hby d2_27)
  obtain ⟨_, _, ⟨T3, L3, kz3, nz3⟩, -, X3, ⟨Lc3, hQ3, l3, y3, z3⟩, st3⟩ := Jvm.LawKit.callS X2 hx (y := y_30) hown (mvT hZ (ww hw 229 rfl)) (mvT hZ (ww hw 230 rfl)) (mvT hZ (ww hw 231 rfl)) (mvT hZ (ww hw 232 rfl)) (by decide) (backOf (W := 0) (rm_cm1 l Z a0 hw [] a2 kc x0 h0 n0 (Nat.le_trans Z0 KC.1) O0 V_a2 hx0) hZ (ww hw 232 rfl) (ww hw 231 rfl) (by decide) (by decide)) (g := (mkF m 36 #[vr a1, vr a2, vi (0 : Int32), vi (1 : Int32), vN, un] [(.int (1 : Int32)), (.int (0 : Int32)), (.ref a2)])) rfl (by rw [hml]; rfl) (argsL := [(.ref a2), (.int (0 : Int32)), (.int (1 : Int32))]) (rest := []) (lenOf pd_18 rfl) rfl (by show 2 * 0 + _ ≤ _; exact Nat.le_of_eq rfl) (hb hby d2_36) (fun _ _ => ⟨rfl, e2, (by decide : 0 + 1 ≤ _), (by decide : 0 + 1 ≤ _)⟩)
  dsimp only [Pt.U, Pt.locs, Pt.cells, Pt.slots] at X3 l3 y3 z3 st3 hQ3
  subst l3 y3 z3
  obtain ⟨b3_tz, kb_3, rfl, N3q, K3, sz_b3_tz, V_tz_3⟩ := hQ3
  have N3 := Fr.app N0 N3q
  have ne_a1_b3_tz : a1 ≠ b3_tz := Nat.ne_of_lt (Nat.lt_of_lt_of_le F_value_a1.lt sz_b3_tz)
  have ne_a2_b3_tz : a2 ≠ b3_tz := Nat.ne_of_lt (Nat.lt_of_lt_of_le V_a2.lt sz_b3_tz)
  have g_b3_tz : n0 ≤ b3_tz := Nat.le_trans (Nat.le_trans Z0 KC.1) sz_b3_tz
  replace sz_b3_tz : h0.size ≤ b3_tz := Nat.le_trans KC.1 sz_b3_tz
  replace F_value_a1 := F_value_a1.keep K3 nin0
  replace F_coder_a1 := F_coder_a1.keep K3 nin0
  replace E_a1 := E_a1.keep K3
  replace V_a2 := V_a2.keep K3 nin0
  replace O0 := O0.keep K3 all0
  replace KC := KC.trans K3 all0
  obtain ⟨_, _, ⟨T4, L4, kz4, nz4⟩, -, X4, ⟨Lc4, hQ4, l4, y4, z4⟩, st4⟩ := Jvm.LawKit.callS X3 hx (y := y_31) hown (mvT hZ (ww hw 236 rfl)) (mvT hZ (ww hw 237 rfl)) (mvT hZ (ww hw 231 rfl)) (mvT hZ (ww hw 238 rfl)) (by decide) (backOf (W := 1) (rm_cf1 l Z a0 hw [] b3_tz kb_3 [(.int (own_b x0))] T3.heap n0 (Nat.le_trans Z0 KC.1) O0 V_tz_3) hZ (ww hw 238 rfl) (ww hw 231 rfl) (by decide) (by decide)) (g := (mkF m 45 #[vr a1, vr a2, vi (0 : Int32), vi (1 : Int32), vN, vr b3_tz] [(.int (1 : Int32)), (.ref b3_tz), (.ref a1)])) rfl (by rw [hml]; rfl) (argsL := [(.ref b3_tz), (.int (1 : Int32))]) (rest := [(.ref a1)]) (lenOf pd_19 rfl) rfl (by show 2 * 0 + _ ≤ _; exact Nat.le_of_eq rfl) (hb hby d2_45) (fun _ _ => ⟨rfl, rfl, (by decide : 1 + 0 ≤ _), (by decide : 1 + 0 ≤ _)⟩)
  dsimp only [Pt.U, Pt.locs, Pt.cells, Pt.slots] at X4 l4 y4 z4 st4 hQ4
  subst l4 y4 z4
  obtain ⟨rfl, N4q, e4⟩ := hQ4
  have N4 := Fr.app N3 N4q
  obtain ⟨T5, h5, X5, e5, W5, st5⟩ := putFN X4 hx hZ hown (ww hw 21 rfl) Via.refl e4 F_coder_a1 E_a1 (Or.inr ⟨(ww hw 17 rfl), rfl, hnm⟩) (ww hw 2 rfl) (ty := .byte) (v' := .int (0 : Int32)) (by decide) rfl rfl (g := (mkF m 48 #[vr a1, vr a2, vi (0 : Int32), vi (1 : Int32), vN, vr b3_tz] [(.int (0 : Int32)), (.ref a1)])) rfl rfl (hb hby d2_48)
  have N5 := Fr.snoc X5 N4 g_a1
  replace F_coder_a1 := F_coder_a1.same W5
  have nev_a1_a2 : a1 ≠ a2 := Exa.neArv E_a1 V_a2 (ww hw 2 rfl)
  replace F_value_a1 := F_value_a1.other W5 (Or.inr (slot_ne (Or.inr (ww hw 16 rfl)) (Or.inr (ww hw 17 rfl)) (by decide) (t := (.array .byte)) (t' := .byte) (by decide) (by decide)))
  replace E_a1 := E_a1.wr W5
  replace V_a2 := V_a2.other W5 (Ne.symm nev_a1_a2)
  replace V_tz_3 := V_tz_3.other W5 (Ne.symm ne_a1_b3_tz)
  replace O0 := O0.wr W5 g_a1
  replace KC := KC.wr W5 (Or.inl (List.mem_of_getElem? (i := 0) rfl))
  obtain ⟨T6, h6, X6, e6, W6, st6⟩ := putF X5 hx hZ hown (host := "") (Or.inl (ww hw 20 rfl)) Via.refl e5 F_value_a1 E_a1 (Or.inr ⟨(ww hw 16 rfl), rfl, hnm⟩) (ww hw 2 rfl) (ty := (.array .byte)) (by decide) rfl rfl (g := (mkF m 54 #[vr a1, vr a2, vi (0 : Int32), vi (1 : Int32), vN, vr b3_tz] [(.ref b3_tz), (.ref a1)])) rfl rfl (hb hby d2_54)
  have N6 := Fr.snoc X6 N5 g_a1
  replace F_value_a1 := F_value_a1.same W6
  replace F_coder_a1 := F_coder_a1.other W6 (Or.inr (slot_ne (Or.inr (ww hw 17 rfl)) (Or.inr (ww hw 16 rfl)) (by decide) (t := .byte) (t' := (.array .byte)) (by decide) (by decide)))
  replace E_a1 := E_a1.wr W6
  replace V_a2 := V_a2.other W6 (Ne.symm nev_a1_a2)
  replace V_tz_3 := V_tz_3.other W6 (Ne.symm ne_a1_b3_tz)
  replace O0 := O0.wr W6 g_a1
  replace KC := KC.wr W6 (Or.inl (List.mem_of_getElem? (i := 0) rfl))
  obtain ⟨fs, hr, hrun, hended, hW, hsame⟩ := X6.leave (v := none) (fun _ => rfl)
  refine ⟨_, _, pre0 _ ?_, hrun, hended, _, _, rfl, ?_, ⟨_, rfl⟩, hW, hsame.mono (by decide) (by decide)⟩
  · show SS p e below m s₁ 0 #[vr a1, vr a2, vi (0 : Int32), vi (1 : Int32), vN, un] [] _
    refine XS.aloadN X0.here hx rfl (hb hby d2_0) rfl rfl ?_
    show SS p e below m s₁ 1 #[vr a1, vr a2, vi (0 : Int32), vi (1 : Int32), vN, un] [(.ref a1)] _
    refine st1 _ ?_
    show SS p e below m T1 4 #[vr a1, vr a2, vi (0 : Int32), vi (1 : Int32), vN, un] [] _
    refine XS.iloadN X1.here hx rfl (hb hby d2_4) rfl ?_
    show SS p e below m T1 5 #[vr a1, vr a2, vi (0 : Int32), vi (1 : Int32), vN, un] [(.int (1 : Int32))] _
    refine XS.ifYes X1.here hx rfl (pc0 := 5) (pc' := 27) rfl (hb hby d2_5) rfl ((if0 _ _).trans (feq (by decide)).2) (by decide) (by decide) ?_
    show SS p e below m T1 27 #[vr a1, vr a2, vi (0 : Int32), vi (1 : Int32), vN, un] [] _
    refine st2 _ ?_
    show SS p e below m T2 30 #[vr a1, vr a2, vi (0 : Int32), vi (1 : Int32), vN, un] [(.int zc)] _
    refine XS.ifNo X2.here hx rfl (hb hby d2_30) rfl ((if0 _ _).trans (feq hz).1) ?_
    show SS p e below m T2 33 #[vr a1, vr a2, vi (0 : Int32), vi (1 : Int32), vN, un] [] _
    refine XS.aloadN X2.here hx rfl (hb hby d2_33) rfl rfl ?_
    show SS p e below m T2 34 #[vr a1, vr a2, vi (0 : Int32), vi (1 : Int32), vN, un] [(.ref a2)] _
    refine XS.iloadN X2.here hx rfl (hb hby d2_34) rfl ?_
    show SS p e below m T2 35 #[vr a1, vr a2, vi (0 : Int32), vi (1 : Int32), vN, un] [(.int (0 : Int32)), (.ref a2)] _
    refine XS.iloadN X2.here hx rfl (hb hby d2_35) rfl ?_
    show SS p e below m T2 36 #[vr a1, vr a2, vi (0 : Int32), vi (1 : Int32), vN, un] [(.int (1 : Int32)), (.int (0 : Int32)), (.ref a2)] _
    refine st3 _ ?_
    show SS p e below m T3 39 #[vr a1, vr a2, vi (0 : Int32), vi (1 : Int32), vN, un] [(.ref b3_tz)] _
    refine XS.astore X3.here hx rfl (hb hby d2_39) rfl rfl (l' := #[vr a1, vr a2, vi (0 : Int32), vi (1 : Int32), vN, vr b3_tz]) rfl ?_
    show SS p e below m T3 41 #[vr a1, vr a2, vi (0 : Int32), vi (1 : Int32), vN, vr b3_tz] [] _
    refine XS.aloadN X3.here hx rfl (hb hby d2_41) rfl rfl ?_
    show SS p e below m T3 42 #[vr a1, vr a2, vi (0 : Int32), vi (1 : Int32), vN, vr b3_tz] [(.ref a1)] _
    refine XS.aload X3.here hx rfl (hb hby d2_42) rfl rfl ?_
    show SS p e below m T3 44 #[vr a1, vr a2, vi (0 : Int32), vi (1 : Int32), vN, vr b3_tz] [(.ref b3_tz), (.ref a1)] _
    refine XS.iloadN X3.here hx rfl (hb hby d2_44) rfl ?_
    show SS p e below m T3 45 #[vr a1, vr a2, vi (0 : Int32), vi (1 : Int32), vN, vr b3_tz] [(.int (1 : Int32)), (.ref b3_tz), (.ref a1)] _
    refine st4 _ ?_
    show SS p e below m T4 48 #[vr a1, vr a2, vi (0 : Int32), vi (1 : Int32), vN, vr b3_tz] [(.int (0 : Int32)), (.ref a1)] _
    refine st5 _ ?_
    show SS p e below m T5 51 #[vr a1, vr a2, vi (0 : Int32), vi (1 : Int32), vN, vr b3_tz] [] _
    refine XS.aloadN X5.here hx rfl (hb hby d2_51) rfl rfl ?_
    show SS p e below m T5 52 #[vr a1, vr a2, vi (0 : Int32), vi (1 : Int32), vN, vr b3_tz] [(.ref a1)] _
    refine XS.aload X5.here hx rfl (hb hby d2_52) rfl rfl ?_
    show SS p e below m T5 54 #[vr a1, vr a2, vi (0 : Int32), vi (1 : Int32), vN, vr b3_tz] [(.ref b3_tz), (.ref a1)] _
    refine st6 _ ?_
    show SS p e below m T6 57 #[vr a1, vr a2, vi (0 : Int32), vi (1 : Int32), vN, vr b3_tz] [] _
    exact X6.returnOut hx Bd.returns (hb hby d2_57) hr
  · show Q_rm_i41 Z a1 a2 kc x0 zc h0 n0 _ T6.heap _
    rw [e6]
    exact ⟨b3_tz, kb_3, rfl, N6, KC, sz_b3_tz, F_value_a1, F_coder_a1, V_tz_3⟩
theorem ef_rm_i11 (m : MethodId) (x0 : Addr) (x1 : Addr) : entryFrame m #[(.ref x0), (.ref x1)] 2 = mkF m 0 #[vr x0, vr x1] [] := by first | (simp [entryFrame, mkF, argsToLocals, Value.category]; done) | rfl
def Q_rm_i11 (Z : State) (a1 : Addr) (a2 : Addr) (kc : ClassId) (x0 : Int32) (zc : Int32) (h0 : Heap) (n0 : Nat) (v : Option Value) (h : Heap) (L : List Loc) : Prop := ∃ tz : Addr, ∃ kb : ClassId, (v = none) ∧ (Fr n0 L) ∧ (Keep h0 h [a1]) ∧ (h0.size ≤ tz) ∧ (Fld Z h a1 "java/lang/String" "value" "[B" (.ref tz)) ∧ (Fld Z h a1 "java/lang/String" "coder" "B" (.int (0 : Int32))) ∧ (Arv Z h tz kb .byte (1 : Int32) [(.int (own_b x0))] (.int (0 : Int32)))
set_option maxRecDepth 65536 in
set_option maxHeartbeats 40000000 in
theorem rm_i11 (l : Launch) (Z : State) (a0 : Array Value) (hw : ∀ d ∈ tables_1, d.before a0 Z = true) (ws : List Jvm.Cond) (a1 : Addr) (a2 : Addr) (kc : ClassId) (x0 : Int32) (zc : Int32) (h0 : Heap) (n0 : Nat) (Z0 : n0 ≤ h0.size) (O0 : Old Z n0 h0) (F_value_a1 : Fld Z h0 a1 "java/lang/String" "value" "[B" .null) (F_coder_a1 : Fld Z h0 a1 "java/lang/String" "coder" "B" (.int (0 : Int32))) (E_a1 : Exa Z h0 a1 "java/lang/String") (g_a1 : n0 ≤ a1) (V_a2 : Arv Z h0 a2 kc .char (1 : Int32) [(.int x0)] (.int (0 : Int32))) (S_CS : Sta Z Z.heap "java/lang/String" "COMPACT_STRINGS" "Z" (.int zc)) (hz : ¬ zc = (0 : Int32)) (hx0 : ¬ (255 : Int32) < x0) :
    MetFree l y_28 (head1 (Jvm.Cond.code y_28 jdk_42_method_3_code 2 none :: ws) ({ frames := 3, cells := 1, slots := 1, locals := 52 } : Room)) (fun a U => a = #[(.ref a1), (.ref a2)] ∧ Z.Warmed39 U.vm ∧ U.heap = h0) (fun _ _ _ _ _ => True) (fun _ U o U' => ∃ v L, o = .returned v ∧ Q_rm_i11 Z a1 a2 kc x0 zc h0 n0 v U'.heap L ∧ FrameEnd U o U' L ({ frames := 3, cells := 1, slots := 1, locals := 52 } : Room).cells ({ frames := 3, cells := 1, slots := 1, locals := 52 } : Room).slots) := by
  refine MetFree.of_bodySF (plainFor_of_name pn_0) hisR ?_
  intro p e s m args below meth c s₁ Bd hml0 hP hK
  obtain ⟨rfl, hZ, hh⟩ := hP
  have hx := Bd.exec
  have hby := Bd.bytes
  have hml : c.maxLocals = 2 := hml0
  have hown : s.vm.findClass "java/lang/String" = some m.cls := findClass_of_methodNamed Bd.named
  have hnm := (name_of_methodNamed Bd.named Bd.method).1
  have X0 : Stand p l e ({ frames := 3, cells := 1, slots := 1, locals := 52 } : Room) s m #[(.ref a1), (.ref a2)] below meth c s₁ [] 0 0 := Stand.of_body Bd
  have e0 : s₁.heap = h0 := by rw [← hh, Bd.state]; rfl
  have N0 := Fr.nil n0
  have KC : Keep h0 h0 [a1] := Keep.refl h0 _
  have pre0 : ∀ t, Steps p.tables e below (s₁.setTop (mkF m 0 #[vr a1, vr a2] [])) t → Steps p.tables e below (s₁.setTop (entryFrame m #[(.ref a1), (.ref a2)] 2)) t := fun t k => castTop (ef_rm_i11 m a1 a2) k
  have Vo1 := V_a2
  obtain ⟨cl1, Ar1, -, Sz1, Nn1, -, -⟩ := Vo1
  have ia1 := State.isArrayOf_alike hZ.alike Ar1.2.1
  obtain ⟨_, _, ⟨T2, L2, kz2, nz2⟩, -, X2, ⟨Lc2, hQ2, l2, y2, z2⟩, st2⟩ := X0.specialBack hx (y := y_27) rfl hown (mvT hZ (ww hw 7 rfl)) (mvT hZ (ww hw 8 rfl)) (mvT hZ (ww hw 10 rfl)) (by decide) (backOf (W := 0) (rm_i41 l Z a0 hw [] a1 a2 kc x0 zc h0 n0 (Nat.le_trans Z0 KC.1) O0 F_value_a1 F_coder_a1 E_a1 g_a1 V_a2 S_CS hz hx0) hZ (ww hw 10 rfl) (ww hw 3 rfl) (by decide) (by decide)) (g := (mkF m 6 #[vr a1, vr a2] [.null, (.int (1 : Int32)), (.int (0 : Int32)), (.ref a2), (.ref a1)])) rfl (by rw [hml]; rfl) (Steps.refl _) (a := a1) (argsL := [(.ref a2), (.int (0 : Int32)), (.int (1 : Int32)), .null]) (rest := []) (lenOf pd_16 rfl) rfl (by show 2 * 0 + _ ≤ _; exact Nat.le_of_eq rfl) (hb hby d1_6) (fun _ _ => ⟨rfl, e0, (by decide : 0 + 1 ≤ _), (by decide : 0 + 1 ≤ _)⟩)
  dsimp only [Pt.U, Pt.locs, Pt.cells, Pt.slots] at X2 l2 y2 z2 st2 hQ2
  subst l2 y2 z2
  obtain ⟨b2_tz, kb_2, rfl, N2q, K2, sz_b2_tz, F_value_a1_2, F_coder_a1_2, V_tz_2⟩ := hQ2
  have N2 := Fr.app N0 N2q
  have ne_a1_b2_tz : a1 ≠ b2_tz := Nat.ne_of_lt (Nat.lt_of_lt_of_le F_value_a1.lt sz_b2_tz)
  have ne_a2_b2_tz : a2 ≠ b2_tz := Nat.ne_of_lt (Nat.lt_of_lt_of_le V_a2.lt sz_b2_tz)
  have g_b2_tz : n0 ≤ b2_tz := Nat.le_trans (Nat.le_trans Z0 KC.1) sz_b2_tz
  replace sz_b2_tz : h0.size ≤ b2_tz := Nat.le_trans KC.1 sz_b2_tz
  have nev_a1_a2 : a1 ≠ a2 := Exa.neArv E_a1 V_a2 (ww hw 2 rfl)
  replace E_a1 := E_a1.keep K2
  replace V_a2 := V_a2.keep K2 (ninS (Ne.symm nev_a1_a2) nin0)
  replace O0 := O0.keep K2 (allS g_a1 all0)
  replace KC := KC.trans K2 (allS (Or.inl (List.mem_of_getElem? (i := 0) rfl)) all0)
  obtain ⟨fs, hr, hrun, hended, hW, hsame⟩ := X2.leave (v := none) (fun _ => rfl)
  refine ⟨_, _, pre0 _ ?_, hrun, hended, _, _, rfl, ?_, ⟨_, rfl⟩, hW, hsame.mono (by decide) (by decide)⟩
  · show SS p e below m s₁ 0 #[vr a1, vr a2] [] _
    refine XS.aloadN X0.here hx rfl (hb hby d1_0) rfl rfl ?_
    show SS p e below m s₁ 1 #[vr a1, vr a2] [(.ref a1)] _
    refine XS.aloadN X0.here hx rfl (hb hby d1_1) rfl rfl ?_
    show SS p e below m s₁ 2 #[vr a1, vr a2] [(.ref a2), (.ref a1)] _
    refine XS.iconst X0.here hx rfl (hb hby d1_2) ?_
    show SS p e below m s₁ 3 #[vr a1, vr a2] [(.int (0 : Int32)), (.ref a2), (.ref a1)] _
    refine XS.aloadN X0.here hx rfl (hb hby d1_3) rfl rfl ?_
    show SS p e below m s₁ 4 #[vr a1, vr a2] [(.ref a2), (.int (0 : Int32)), (.ref a2), (.ref a1)] _
    refine X0.arraylength hx (by rw [e0]; exact Ar1.1) ia1 (g := (mkF m 4 #[vr a1, vr a2] [(.ref a2), (.int (0 : Int32)), (.ref a2), (.ref a1)])) rfl rfl (hb hby d1_4) _ ?_
    rw [len_of Sz1 Nn1]
    show SS p e below m s₁ 5 #[vr a1, vr a2] [(.int (1 : Int32)), (.int (0 : Int32)), (.ref a2), (.ref a1)] _
    refine XS.aconstNull X0.here hx rfl (hb hby d1_5) ?_
    show SS p e below m s₁ 6 #[vr a1, vr a2] [.null, (.int (1 : Int32)), (.int (0 : Int32)), (.ref a2), (.ref a1)] _
    refine st2.trans ?_
    show SS p e below m T2 9 #[vr a1, vr a2] [] _
    exact X2.returnOut hx Bd.returns (hb hby d1_9) hr
  · show Q_rm_i11 Z a1 a2 kc x0 zc h0 n0 _ T2.heap _
    exact ⟨b2_tz, kb_2, rfl, N2, KC, sz_b2_tz, F_value_a1_2, F_coder_a1_2, V_tz_2⟩
theorem ef_rm_cmp2 (m : MethodId) (x0 : Addr) (x1 : Int32) (x2 : Addr) (x3 : Int32) (x4 : Int32) : entryFrame m #[(.ref x0), (.int x1), (.ref x2), (.int x3), (.int x4)] 7 = mkF m 0 #[vr x0, vi x1, vr x2, vi x3, vi x4, .unset, .unset] [] := by first | (simp [entryFrame, mkF, argsToLocals, Value.category]; done) | rfl
def Q_rm_cmp2 (Z : State) (a1 : Addr) (a3 : Addr) (kc : ClassId) (kb : ClassId) (x0 : Int32) (x1 : Int32) (h0 : Heap) (n0 : Nat) (v : Option Value) (h : Heap) (L : List Loc) : Prop := (v = some (.int (2 : Int32))) ∧ (Fr n0 L) ∧ (Keep h0 h [a3]) ∧ (Arv Z h a3 kb .byte (2 : Int32) [(.int (own_b x0)), (.int (own_b x1))] (.int (0 : Int32)))
set_option maxRecDepth 65536 in
set_option maxHeartbeats 40000000 in
theorem rm_cmp2 (l : Launch) (Z : State) (a0 : Array Value) (hw : ∀ d ∈ tables_1, d.before a0 Z = true) (ws : List Jvm.Cond) (a1 : Addr) (a3 : Addr) (kc : ClassId) (kb : ClassId) (x0 : Int32) (x1 : Int32) (h0 : Heap) (n0 : Nat) (Z0 : n0 ≤ h0.size) (O0 : Old Z n0 h0) (V_a1 : Arv Z h0 a1 kc .char (2 : Int32) [(.int x0), (.int x1)] (.int (0 : Int32))) (V_a3 : Arv Z h0 a3 kb .byte (2 : Int32) [(.int (0 : Int32)), (.int (0 : Int32))] (.int (0 : Int32))) (g_a3 : n0 ≤ a3) (ne_13 : a1 ≠ a3) (hx0 : ¬ (255 : Int32) < x0) (hx1 : ¬ (255 : Int32) < x1) :
    MetFree l y_29 (head1 (Jvm.Cond.code y_29 jdk_52_method_21_code 7 (some .int) :: ws) ({ frames := 0, cells := 0, slots := 0, locals := 0 } : Room)) (fun a U => a = #[(.ref a1), (.int (0 : Int32)), (.ref a3), (.int (0 : Int32)), (.int (2 : Int32))] ∧ Z.Warmed39 U.vm ∧ U.heap = h0) (fun _ _ _ _ _ => True) (fun _ U o U' => ∃ v L, o = .returned v ∧ Q_rm_cmp2 Z a1 a3 kc kb x0 x1 h0 n0 v U'.heap L ∧ FrameEnd U o U' L ({ frames := 0, cells := 0, slots := 0, locals := 0 } : Room).cells ({ frames := 0, cells := 0, slots := 0, locals := 0 } : Room).slots) := by
  refine MetFree.of_bodySF (plainFor_of_name pn_7) hisR ?_
  intro p e s m args below meth c s₁ Bd hml0 hP hK
  obtain ⟨rfl, hZ, hh⟩ := hP
  have hx := Bd.exec
  have hby := Bd.bytes
  have hml : c.maxLocals = 7 := hml0
  have hown : s.vm.findClass "java/lang/StringUTF16" = some m.cls := findClass_of_methodNamed Bd.named
  have hnm := (name_of_methodNamed Bd.named Bd.method).1
  have X0 : Stand p l e ({ frames := 0, cells := 0, slots := 0, locals := 0 } : Room) s m #[(.ref a1), (.int (0 : Int32)), (.ref a3), (.int (0 : Int32)), (.int (2 : Int32))] below meth c s₁ [] 0 0 := Stand.of_body Bd
  have e0 : s₁.heap = h0 := by rw [← hh, Bd.state]; rfl
  have N0 := Fr.nil n0
  have KC : Keep h0 h0 [a3] := Keep.refl h0 _
  have pre0 : ∀ t, Steps p.tables e below (s₁.setTop (mkF m 0 #[vr a1, vi (0 : Int32), vr a3, vi (0 : Int32), vi (2 : Int32), un, un] [])) t → Steps p.tables e below (s₁.setTop (entryFrame m #[(.ref a1), (.int (0 : Int32)), (.ref a3), (.int (0 : Int32)), (.int (2 : Int32))] 7)) t := fun t k => castTop (ef_rm_cmp2 m a1 (0 : Int32) a3 (0 : Int32) (2 : Int32)) k
  have Vo1 := V_a1
  obtain ⟨cl1, Ar1, q1, Sz1, Nn1, Hh1, Gg1⟩ := Vo1
  have hin1 : ¬ ((0 : Int32) < 0 ∨ cl1.slots.size ≤ ((0 : Int32)).toNatClampNeg) := inb_of Sz1 ⟨by decide, by decide⟩
  have hat1 : cl1.slots[((0 : Int32)).toNatClampNeg]? = some (.int x0) := Has.at Hh1 hin1 rfl
  have ia1 := State.isArrayOf_alike hZ.alike Ar1.2.1
  have Vo2 := V_a3
  obtain ⟨cl2, Ar2, q2, Sz2, Nn2, Hh2, Gg2⟩ := Vo2
  have hin2 : ¬ ((0 : Int32) < 0 ∨ cl2.slots.size ≤ ((0 : Int32)).toNatClampNeg) := inb_of Sz2 ⟨by decide, by decide⟩
  obtain ⟨T3, h3, X3, e3, W3, st3⟩ := stB X0 hx hZ e0 Ar2 (j := (0 : Int32)) hin2 (g := (mkF m 31 #[vr a1, vi (0 : Int32), vr a3, vi (0 : Int32), vi (2 : Int32), vi (0 : Int32), vi x0] [(.int (x0.toInt8.toInt32)), (.int (0 : Int32)), (.ref a3)])) rfl rfl (hb hby d43_31)
  have Vn3 := Arv.set Ar2 q2 Sz2 Nn2 Hh2 Gg2 (fits_nar_byte _) W3 (0) rfl (Nat.le_of_ble_eq_true rfl)
  have N3 := Fr.snoc X3 N0 g_a3
  have Vm3 : Arv Z h3 a3 kb .byte (2 : Int32) [(.int (own_b x0)), (.int (0 : Int32))] (.int (0 : Int32)) := by have hh := Vn3; rw [own_bb] at hh; exact hh
  replace V_a1 := V_a1.other W3 ne_13
  replace O0 := O0.wr W3 g_a3
  replace KC := KC.wr W3 (Or.inl (List.mem_of_getElem? (i := 0) rfl))
  have Vo4 := V_a1
  obtain ⟨cl4, Ar4, q4, Sz4, Nn4, Hh4, Gg4⟩ := Vo4
  have hin4 : ¬ ((1 : Int32) < 0 ∨ cl4.slots.size ≤ ((1 : Int32)).toNatClampNeg) := inb_of Sz4 ⟨by decide, by decide⟩
  have hat4 : cl4.slots[((1 : Int32)).toNatClampNeg]? = some (.int x1) := Has.at Hh4 hin4 rfl
  have ia4 := State.isArrayOf_alike hZ.alike Ar4.2.1
  have Vo5 := Vm3
  obtain ⟨cl5, Ar5, q5, Sz5, Nn5, Hh5, Gg5⟩ := Vo5
  have hin5 : ¬ ((1 : Int32) < 0 ∨ cl5.slots.size ≤ ((1 : Int32)).toNatClampNeg) := inb_of Sz5 ⟨by decide, by decide⟩
  obtain ⟨T6, h6, X6, e6, W6, st6⟩ := stB X3 hx hZ e3 Ar5 (j := (1 : Int32)) hin5 (g := (mkF m 31 #[vr a1, vi (1 : Int32), vr a3, vi (1 : Int32), vi (2 : Int32), vi (1 : Int32), vi x1] [(.int (x1.toInt8.toInt32)), (.int (1 : Int32)), (.ref a3)])) rfl rfl (hb hby d43_31)
  have Vn6 := Arv.set Ar5 q5 Sz5 Nn5 Hh5 Gg5 (fits_nar_byte _) W6 (1) rfl (Nat.le_of_ble_eq_true rfl)
  have N6 := Fr.snoc X6 N3 g_a3
  have Vm6 : Arv Z h6 a3 kb .byte (2 : Int32) [(.int (own_b x0)), (.int (own_b x1))] (.int (0 : Int32)) := by have hh := Vn6; rw [own_bb] at hh; exact hh
  replace V_a1 := V_a1.other W6 ne_13
  replace O0 := O0.wr W6 g_a3
  replace KC := KC.wr W6 (Or.inl (List.mem_of_getElem? (i := 0) rfl))
  obtain ⟨fs, hr, hrun, hended, hW, hsame⟩ := X6.leave (v := some (.int (2 : Int32))) (fun h => by rw [Bd.returns] at h; cases h)
  refine ⟨_, _, pre0 _ ?_, hrun, hended, _, _, rfl, ?_, ⟨_, rfl⟩, hW, hsame.mono (by decide) (by decide)⟩
  · show SS p e below m s₁ 0 #[vr a1, vi (0 : Int32), vr a3, vi (0 : Int32), vi (2 : Int32), un, un] [] _
    refine XS.iconst X0.here hx rfl (hb hby d43_0) ?_
    show SS p e below m s₁ 1 #[vr a1, vi (0 : Int32), vr a3, vi (0 : Int32), vi (2 : Int32), un, un] [(.int (0 : Int32))] _
    refine XS.istore X0.here hx rfl (hb hby d43_1) rfl (l' := #[vr a1, vi (0 : Int32), vr a3, vi (0 : Int32), vi (2 : Int32), vi (0 : Int32), un]) rfl ?_
    show SS p e below m s₁ 3 #[vr a1, vi (0 : Int32), vr a3, vi (0 : Int32), vi (2 : Int32), vi (0 : Int32), un] [] _
    refine XS.iload X0.here hx rfl (hb hby d43_3) rfl ?_
    show SS p e below m s₁ 5 #[vr a1, vi (0 : Int32), vr a3, vi (0 : Int32), vi (2 : Int32), vi (0 : Int32), un] [(.int (0 : Int32))] _
    refine XS.iload X0.here hx rfl (hb hby d43_5) rfl ?_
    show SS p e below m s₁ 7 #[vr a1, vi (0 : Int32), vr a3, vi (0 : Int32), vi (2 : Int32), vi (0 : Int32), un] [(.int (2 : Int32)), (.int (0 : Int32))] _
    refine XS.icmpNo X0.here hx rfl (hb hby d43_7) rfl (tlt (by decide)).2.1 ?_
    show SS p e below m s₁ 10 #[vr a1, vi (0 : Int32), vr a3, vi (0 : Int32), vi (2 : Int32), vi (0 : Int32), un] [] _
    refine XS.aloadN X0.here hx rfl (hb hby d43_10) rfl rfl ?_
    show SS p e below m s₁ 11 #[vr a1, vi (0 : Int32), vr a3, vi (0 : Int32), vi (2 : Int32), vi (0 : Int32), un] [(.ref a1)] _
    refine XS.iloadN X0.here hx rfl (hb hby d43_11) rfl ?_
    show SS p e below m s₁ 12 #[vr a1, vi (0 : Int32), vr a3, vi (0 : Int32), vi (2 : Int32), vi (0 : Int32), un] [(.int (0 : Int32)), (.ref a1)] _
    refine X0.caload hx (j := (0 : Int32)) (v := (.int x0)) (by rw [e0]; exact Ar1.1) ia1 Ar1.2.2 hin1 hat1 (g := (mkF m 12 #[vr a1, vi (0 : Int32), vr a3, vi (0 : Int32), vi (2 : Int32), vi (0 : Int32), un] [(.int (0 : Int32)), (.ref a1)])) rfl rfl (hb hby d43_12) _ ?_
    show SS p e below m s₁ 13 #[vr a1, vi (0 : Int32), vr a3, vi (0 : Int32), vi (2 : Int32), vi (0 : Int32), un] [(.int x0)] _
    refine XS.istore X0.here hx rfl (hb hby d43_13) rfl (l' := #[vr a1, vi (0 : Int32), vr a3, vi (0 : Int32), vi (2 : Int32), vi (0 : Int32), vi x0]) rfl ?_
    show SS p e below m s₁ 15 #[vr a1, vi (0 : Int32), vr a3, vi (0 : Int32), vi (2 : Int32), vi (0 : Int32), vi x0] [] _
    refine XS.iload X0.here hx rfl (hb hby d43_15) rfl ?_
    show SS p e below m s₁ 17 #[vr a1, vi (0 : Int32), vr a3, vi (0 : Int32), vi (2 : Int32), vi (0 : Int32), vi x0] [(.int x0)] _
    refine XS.sipush X0.here hx rfl (hb hby d43_17) ?_
    show SS p e below m s₁ 20 #[vr a1, vi (0 : Int32), vr a3, vi (0 : Int32), vi (2 : Int32), vi (0 : Int32), vi x0] [(.int (255 : Int32)), (.int x0)] _
    refine XS.icmpYes X0.here hx rfl (pc0 := 20) (pc' := 26) rfl (hb hby d43_20) rfl (flt hx0).2.2.2 (by decide) (by decide) ?_
    show SS p e below m s₁ 26 #[vr a1, vi (0 : Int32), vr a3, vi (0 : Int32), vi (2 : Int32), vi (0 : Int32), vi x0] [] _
    refine XS.aloadN X0.here hx rfl (hb hby d43_26) rfl rfl ?_
    show SS p e below m s₁ 27 #[vr a1, vi (0 : Int32), vr a3, vi (0 : Int32), vi (2 : Int32), vi (0 : Int32), vi x0] [(.ref a3)] _
    refine XS.iloadN X0.here hx rfl (hb hby d43_27) rfl ?_
    show SS p e below m s₁ 28 #[vr a1, vi (0 : Int32), vr a3, vi (0 : Int32), vi (2 : Int32), vi (0 : Int32), vi x0] [(.int (0 : Int32)), (.ref a3)] _
    refine XS.iload X0.here hx rfl (hb hby d43_28) rfl ?_
    show SS p e below m s₁ 30 #[vr a1, vi (0 : Int32), vr a3, vi (0 : Int32), vi (2 : Int32), vi (0 : Int32), vi x0] [(.int x0), (.int (0 : Int32)), (.ref a3)] _
    refine XS.i2b X0.here hx rfl (hb hby d43_30) rfl ?_
    show SS p e below m s₁ 31 #[vr a1, vi (0 : Int32), vr a3, vi (0 : Int32), vi (2 : Int32), vi (0 : Int32), vi x0] [(.int (x0.toInt8.toInt32)), (.int (0 : Int32)), (.ref a3)] _
    refine st3 _ ?_
    show SS p e below m T3 32 #[vr a1, vi (0 : Int32), vr a3, vi (0 : Int32), vi (2 : Int32), vi (0 : Int32), vi x0] [] _
    refine XS.iinc X3.here hx rfl (hb hby d43_32) rfl (l' := #[vr a1, vi (1 : Int32), vr a3, vi (0 : Int32), vi (2 : Int32), vi (0 : Int32), vi x0]) rfl ?_
    show SS p e below m T3 35 #[vr a1, vi (1 : Int32), vr a3, vi (0 : Int32), vi (2 : Int32), vi (0 : Int32), vi x0] [] _
    refine XS.iinc X3.here hx rfl (hb hby d43_35) rfl (l' := #[vr a1, vi (1 : Int32), vr a3, vi (1 : Int32), vi (2 : Int32), vi (0 : Int32), vi x0]) rfl ?_
    show SS p e below m T3 38 #[vr a1, vi (1 : Int32), vr a3, vi (1 : Int32), vi (2 : Int32), vi (0 : Int32), vi x0] [] _
    refine XS.iinc X3.here hx rfl (hb hby d43_38) rfl (l' := #[vr a1, vi (1 : Int32), vr a3, vi (1 : Int32), vi (2 : Int32), vi (1 : Int32), vi x0]) rfl ?_
    show SS p e below m T3 41 #[vr a1, vi (1 : Int32), vr a3, vi (1 : Int32), vi (2 : Int32), vi (1 : Int32), vi x0] [] _
    refine XS.goto X3.here hx rfl (pc0 := 41) (pc' := 3) rfl (hb hby d43_41) (by decide) (by decide) ?_
    show SS p e below m T3 3 #[vr a1, vi (1 : Int32), vr a3, vi (1 : Int32), vi (2 : Int32), vi (1 : Int32), vi x0] [] _
    refine XS.iload X3.here hx rfl (hb hby d43_3) rfl ?_
    show SS p e below m T3 5 #[vr a1, vi (1 : Int32), vr a3, vi (1 : Int32), vi (2 : Int32), vi (1 : Int32), vi x0] [(.int (1 : Int32))] _
    refine XS.iload X3.here hx rfl (hb hby d43_5) rfl ?_
    show SS p e below m T3 7 #[vr a1, vi (1 : Int32), vr a3, vi (1 : Int32), vi (2 : Int32), vi (1 : Int32), vi x0] [(.int (2 : Int32)), (.int (1 : Int32))] _
    refine XS.icmpNo X3.here hx rfl (hb hby d43_7) rfl (tlt (by decide)).2.1 ?_
    show SS p e below m T3 10 #[vr a1, vi (1 : Int32), vr a3, vi (1 : Int32), vi (2 : Int32), vi (1 : Int32), vi x0] [] _
    refine XS.aloadN X3.here hx rfl (hb hby d43_10) rfl rfl ?_
    show SS p e below m T3 11 #[vr a1, vi (1 : Int32), vr a3, vi (1 : Int32), vi (2 : Int32), vi (1 : Int32), vi x0] [(.ref a1)] _
    refine XS.iloadN X3.here hx rfl (hb hby d43_11) rfl ?_
    show SS p e below m T3 12 #[vr a1, vi (1 : Int32), vr a3, vi (1 : Int32), vi (2 : Int32), vi (1 : Int32), vi x0] [(.int (1 : Int32)), (.ref a1)] _
    refine X3.caload hx (j := (1 : Int32)) (v := (.int x1)) (by rw [e3]; exact Ar4.1) ia4 Ar4.2.2 hin4 hat4 (g := (mkF m 12 #[vr a1, vi (1 : Int32), vr a3, vi (1 : Int32), vi (2 : Int32), vi (1 : Int32), vi x0] [(.int (1 : Int32)), (.ref a1)])) rfl rfl (hb hby d43_12) _ ?_
    show SS p e below m T3 13 #[vr a1, vi (1 : Int32), vr a3, vi (1 : Int32), vi (2 : Int32), vi (1 : Int32), vi x0] [(.int x1)] _
    refine XS.istore X3.here hx rfl (hb hby d43_13) rfl (l' := #[vr a1, vi (1 : Int32), vr a3, vi (1 : Int32), vi (2 : Int32), vi (1 : Int32), vi x1]) rfl ?_
    show SS p e below m T3 15 #[vr a1, vi (1 : Int32), vr a3, vi (1 : Int32), vi (2 : Int32), vi (1 : Int32), vi x1] [] _
    refine XS.iload X3.here hx rfl (hb hby d43_15) rfl ?_
    show SS p e below m T3 17 #[vr a1, vi (1 : Int32), vr a3, vi (1 : Int32), vi (2 : Int32), vi (1 : Int32), vi x1] [(.int x1)] _
    refine XS.sipush X3.here hx rfl (hb hby d43_17) ?_
    show SS p e below m T3 20 #[vr a1, vi (1 : Int32), vr a3, vi (1 : Int32), vi (2 : Int32), vi (1 : Int32), vi x1] [(.int (255 : Int32)), (.int x1)] _
    refine XS.icmpYes X3.here hx rfl (pc0 := 20) (pc' := 26) rfl (hb hby d43_20) rfl (flt hx1).2.2.2 (by decide) (by decide) ?_
    show SS p e below m T3 26 #[vr a1, vi (1 : Int32), vr a3, vi (1 : Int32), vi (2 : Int32), vi (1 : Int32), vi x1] [] _
    refine XS.aloadN X3.here hx rfl (hb hby d43_26) rfl rfl ?_
    show SS p e below m T3 27 #[vr a1, vi (1 : Int32), vr a3, vi (1 : Int32), vi (2 : Int32), vi (1 : Int32), vi x1] [(.ref a3)] _
    refine XS.iloadN X3.here hx rfl (hb hby d43_27) rfl ?_
    show SS p e below m T3 28 #[vr a1, vi (1 : Int32), vr a3, vi (1 : Int32), vi (2 : Int32), vi (1 : Int32), vi x1] [(.int (1 : Int32)), (.ref a3)] _
    refine XS.iload X3.here hx rfl (hb hby d43_28) rfl ?_
    show SS p e below m T3 30 #[vr a1, vi (1 : Int32), vr a3, vi (1 : Int32), vi (2 : Int32), vi (1 : Int32), vi x1] [(.int x1), (.int (1 : Int32)), (.ref a3)] _
    refine XS.i2b X3.here hx rfl (hb hby d43_30) rfl ?_
    show SS p e below m T3 31 #[vr a1, vi (1 : Int32), vr a3, vi (1 : Int32), vi (2 : Int32), vi (1 : Int32), vi x1] [(.int (x1.toInt8.toInt32)), (.int (1 : Int32)), (.ref a3)] _
    refine st6 _ ?_
    show SS p e below m T6 32 #[vr a1, vi (1 : Int32), vr a3, vi (1 : Int32), vi (2 : Int32), vi (1 : Int32), vi x1] [] _
    refine XS.iinc X6.here hx rfl (hb hby d43_32) rfl (l' := #[vr a1, vi (2 : Int32), vr a3, vi (1 : Int32), vi (2 : Int32), vi (1 : Int32), vi x1]) rfl ?_
    show SS p e below m T6 35 #[vr a1, vi (2 : Int32), vr a3, vi (1 : Int32), vi (2 : Int32), vi (1 : Int32), vi x1] [] _
    refine XS.iinc X6.here hx rfl (hb hby d43_35) rfl (l' := #[vr a1, vi (2 : Int32), vr a3, vi (2 : Int32), vi (2 : Int32), vi (1 : Int32), vi x1]) rfl ?_
    show SS p e below m T6 38 #[vr a1, vi (2 : Int32), vr a3, vi (2 : Int32), vi (2 : Int32), vi (1 : Int32), vi x1] [] _
    refine XS.iinc X6.here hx rfl (hb hby d43_38) rfl (l' := #[vr a1, vi (2 : Int32), vr a3, vi (2 : Int32), vi (2 : Int32), vi (2 : Int32), vi x1]) rfl ?_
    show SS p e below m T6 41 #[vr a1, vi (2 : Int32), vr a3, vi (2 : Int32), vi (2 : Int32), vi (2 : Int32), vi x1] [] _
    refine XS.goto X6.here hx rfl (pc0 := 41) (pc' := 3) rfl (hb hby d43_41) (by decide) (by decide) ?_
    show SS p e below m T6 3 #[vr a1, vi (2 : Int32), vr a3, vi (2 : Int32), vi (2 : Int32), vi (2 : Int32), vi x1] [] _
    refine XS.iload X6.here hx rfl (hb hby d43_3) rfl ?_
    show SS p e below m T6 5 #[vr a1, vi (2 : Int32), vr a3, vi (2 : Int32), vi (2 : Int32), vi (2 : Int32), vi x1] [(.int (2 : Int32))] _
    refine XS.iload X6.here hx rfl (hb hby d43_5) rfl ?_
    show SS p e below m T6 7 #[vr a1, vi (2 : Int32), vr a3, vi (2 : Int32), vi (2 : Int32), vi (2 : Int32), vi x1] [(.int (2 : Int32)), (.int (2 : Int32))] _
    refine XS.icmpYes X6.here hx rfl (pc0 := 7) (pc' := 44) rfl (hb hby d43_7) rfl (flt (by decide)).2.1 (by decide) (by decide) ?_
    show SS p e below m T6 44 #[vr a1, vi (2 : Int32), vr a3, vi (2 : Int32), vi (2 : Int32), vi (2 : Int32), vi x1] [] _
    refine XS.iload X6.here hx rfl (hb hby d43_44) rfl ?_
    show SS p e below m T6 46 #[vr a1, vi (2 : Int32), vr a3, vi (2 : Int32), vi (2 : Int32), vi (2 : Int32), vi x1] [(.int (2 : Int32))] _
    exact retI X6 hx Bd.returns (hb hby d43_46) hr
  · show Q_rm_cmp2 Z a1 a3 kc kb x0 x1 h0 n0 _ T6.heap _
    rw [e6]
    exact ⟨rfl, N6, KC, Vm6⟩
theorem ef_rm_cm2 (m : MethodId) (x0 : Addr) (x1 : Int32) (x2 : Int32) : entryFrame m #[(.ref x0), (.int x1), (.int x2)] 6 = mkF m 0 #[vr x0, vi x1, vi x2, .unset, .unset, .unset] [] := by first | (simp [entryFrame, mkF, argsToLocals, Value.category]; done) | rfl
def Q_rm_cm2 (Z : State) (a1 : Addr) (kc : ClassId) (x0 : Int32) (x1 : Int32) (h0 : Heap) (n0 : Nat) (v : Option Value) (h : Heap) (L : List Loc) : Prop := ∃ tz : Addr, ∃ kb : ClassId, (v = some (.ref tz)) ∧ (Fr n0 L) ∧ (Keep h0 h []) ∧ (h0.size ≤ tz) ∧ (Arv Z h tz kb .byte (2 : Int32) [(.int (own_b x0)), (.int (own_b x1))] (.int (0 : Int32)))
set_option maxRecDepth 65536 in
set_option maxHeartbeats 40000000 in
theorem rm_cm2 (l : Launch) (Z : State) (a0 : Array Value) (hw : ∀ d ∈ tables_1, d.before a0 Z = true) (ws : List Jvm.Cond) (a1 : Addr) (kc : ClassId) (x0 : Int32) (x1 : Int32) (h0 : Heap) (n0 : Nat) (Z0 : n0 ≤ h0.size) (O0 : Old Z n0 h0) (V_a1 : Arv Z h0 a1 kc .char (2 : Int32) [(.int x0), (.int x1)] (.int (0 : Int32))) (hx0 : ¬ (255 : Int32) < x0) (hx1 : ¬ (255 : Int32) < x1) :
    MetFree l y_30 (head1 (Jvm.Cond.code y_30 jdk_52_method_16_code 6 (some (.array .byte)) :: ws) ({ frames := 1, cells := 1, slots := 2, locals := 18 } : Room)) (fun a U => a = #[(.ref a1), (.int (0 : Int32)), (.int (2 : Int32))] ∧ Z.Warmed39 U.vm ∧ U.heap = h0) (fun _ _ _ _ _ => True) (fun _ U o U' => ∃ v L, o = .returned v ∧ Q_rm_cm2 Z a1 kc x0 x1 h0 n0 v U'.heap L ∧ FrameEnd U o U' L ({ frames := 1, cells := 1, slots := 2, locals := 18 } : Room).cells ({ frames := 1, cells := 1, slots := 2, locals := 18 } : Room).slots) := by
  refine MetFree.of_bodySF (plainFor_of_name pn_7) hisR ?_
  intro p e s m args below meth c s₁ Bd hml0 hP hK
  obtain ⟨rfl, hZ, hh⟩ := hP
  have hx := Bd.exec
  have hby := Bd.bytes
  have hml : c.maxLocals = 6 := hml0
  have hown : s.vm.findClass "java/lang/StringUTF16" = some m.cls := findClass_of_methodNamed Bd.named
  have hnm := (name_of_methodNamed Bd.named Bd.method).1
  have X0 : Stand p l e ({ frames := 1, cells := 1, slots := 2, locals := 18 } : Room) s m #[(.ref a1), (.int (0 : Int32)), (.int (2 : Int32))] below meth c s₁ [] 0 0 := Stand.of_body Bd
  have e0 : s₁.heap = h0 := by rw [← hh, Bd.state]; rfl
  have N0 := Fr.nil n0
  have KC : Keep h0 h0 [] := Keep.refl h0 _
  have pre0 : ∀ t, Steps p.tables e below (s₁.setTop (mkF m 0 #[vr a1, vi (0 : Int32), vi (2 : Int32), un, un, un] [])) t → Steps p.tables e below (s₁.setTop (entryFrame m #[(.ref a1), (.int (0 : Int32)), (.int (2 : Int32))] 6)) t := fun t k => castTop (ef_rm_cm2 m a1 (0 : Int32) (2 : Int32)) k
  obtain ⟨T1, h1, k1, X1, e1, E1, A1, st1⟩ := newP X0 hx hZ (ww hw 15 rfl) e0 (g := (mkF m 1 #[vr a1, vi (0 : Int32), vi (2 : Int32), un, un, un] [(.int (2 : Int32))])) rfl (hb hby d42_1) rfl (by decide) (cap := 2) (by decide) (by decide) (by decide) (by decide)
  obtain ⟨b1, g1⟩ : ∃ z, z = h0.size := ⟨_, rfl⟩
  rw [← g1] at A1 st1
  have ne_a1_b1 : a1 ≠ b1 := Nat.ne_of_lt (Nat.lt_of_lt_of_le V_a1.lt (Nat.le_of_eq g1.symm))
  have g_b1 : n0 ≤ b1 := Nat.le_trans (Nat.le_trans Z0 KC.1) (Nat.le_of_eq g1.symm)
  have sz_b1 : h0.size ≤ b1 := Nat.le_trans KC.1 (Nat.le_of_eq g1.symm)
  replace V_a1 := V_a1.ext E1
  replace O0 := O0.ext E1
  replace KC := KC.ext E1
  have V_b1 : Arv Z h1 b1 k1 .byte (2 : Int32) [(.int (0 : Int32)), (.int (0 : Int32))] (.int (0 : Int32)) := (Arv.new A1 (by decide)).pad (pad_rep [] (.int (0 : Int32)) 2)
  obtain ⟨_, _, ⟨T2, L2, kz2, nz2⟩, -, X2, ⟨Lc2, hQ2, l2, y2, z2⟩, st2⟩ := Jvm.LawKit.callS X1 hx (y := y_29) hown (mvT hZ (ww hw 233 rfl)) (mvT hZ (ww hw 234 rfl)) (mvT hZ (ww hw 231 rfl)) (mvT hZ (ww hw 235 rfl)) (by decide) (backOf (W := 0) (rm_cmp2 l Z a0 hw [] a1 b1 kc k1 x0 x1 h1 n0 (Nat.le_trans Z0 KC.1) O0 V_a1 V_b1 g_b1 ne_a1_b1 hx0 hx1) hZ (ww hw 235 rfl) (ww hw 231 rfl) (by decide) (by decide)) (g := (mkF m 9 #[vr a1, vi (0 : Int32), vi (2 : Int32), vr b1, un, un] [(.int (2 : Int32)), (.int (0 : Int32)), (.ref b1), (.int (0 : Int32)), (.ref a1)])) rfl (by rw [hml]; rfl) (argsL := [(.ref a1), (.int (0 : Int32)), (.ref b1), (.int (0 : Int32)), (.int (2 : Int32))]) (rest := []) (lenOf pd_17 rfl) rfl (by show 2 * 0 + _ ≤ _; exact Nat.le_of_eq rfl) (hb hby d42_9) (fun _ _ => ⟨rfl, e1, (by decide : 1 + 0 ≤ _), (by decide : 2 + 0 ≤ _)⟩)
  dsimp only [Pt.U, Pt.locs, Pt.cells, Pt.slots] at X2 l2 y2 z2 st2 hQ2
  subst l2 y2 z2
  obtain ⟨rfl, N2q, K2, V_a3_2⟩ := hQ2
  have N2 := Fr.app N0 N2q
  replace V_a1 := V_a1.keep K2 (ninS ne_a1_b1 nin0)
  replace O0 := O0.keep K2 (allS g_b1 all0)
  replace KC := KC.trans K2 (allS (Or.inr sz_b1) all0)
  obtain ⟨fs, hr, hrun, hended, hW, hsame⟩ := X2.leave (v := some (.ref b1)) (fun h => by rw [Bd.returns] at h; cases h)
  refine ⟨_, _, pre0 _ ?_, hrun, hended, _, _, rfl, ?_, ⟨_, rfl⟩, hW, hsame.mono (by decide) (by decide)⟩
  · show SS p e below m s₁ 0 #[vr a1, vi (0 : Int32), vi (2 : Int32), un, un, un] [] _
    refine XS.iloadN X0.here hx rfl (hb hby d42_0) rfl ?_
    show SS p e below m s₁ 1 #[vr a1, vi (0 : Int32), vi (2 : Int32), un, un, un] [(.int (2 : Int32))] _
    refine st1 _ ?_
    show SS p e below m T1 3 #[vr a1, vi (0 : Int32), vi (2 : Int32), un, un, un] [(.ref b1)] _
    refine XS.astoreN X1.here hx rfl (hb hby d42_3) rfl rfl (l' := #[vr a1, vi (0 : Int32), vi (2 : Int32), vr b1, un, un]) rfl ?_
    show SS p e below m T1 4 #[vr a1, vi (0 : Int32), vi (2 : Int32), vr b1, un, un] [] _
    refine XS.aloadN X1.here hx rfl (hb hby d42_4) rfl rfl ?_
    show SS p e below m T1 5 #[vr a1, vi (0 : Int32), vi (2 : Int32), vr b1, un, un] [(.ref a1)] _
    refine XS.iloadN X1.here hx rfl (hb hby d42_5) rfl ?_
    show SS p e below m T1 6 #[vr a1, vi (0 : Int32), vi (2 : Int32), vr b1, un, un] [(.int (0 : Int32)), (.ref a1)] _
    refine XS.aloadN X1.here hx rfl (hb hby d42_6) rfl rfl ?_
    show SS p e below m T1 7 #[vr a1, vi (0 : Int32), vi (2 : Int32), vr b1, un, un] [(.ref b1), (.int (0 : Int32)), (.ref a1)] _
    refine XS.iconst X1.here hx rfl (hb hby d42_7) ?_
    show SS p e below m T1 8 #[vr a1, vi (0 : Int32), vi (2 : Int32), vr b1, un, un] [(.int (0 : Int32)), (.ref b1), (.int (0 : Int32)), (.ref a1)] _
    refine XS.iloadN X1.here hx rfl (hb hby d42_8) rfl ?_
    show SS p e below m T1 9 #[vr a1, vi (0 : Int32), vi (2 : Int32), vr b1, un, un] [(.int (2 : Int32)), (.int (0 : Int32)), (.ref b1), (.int (0 : Int32)), (.ref a1)] _
    refine st2 _ ?_
    show SS p e below m T2 12 #[vr a1, vi (0 : Int32), vi (2 : Int32), vr b1, un, un] [(.int (2 : Int32))] _
    refine XS.istore X2.here hx rfl (hb hby d42_12) rfl (l' := #[vr a1, vi (0 : Int32), vi (2 : Int32), vr b1, vi (2 : Int32), un]) rfl ?_
    show SS p e below m T2 14 #[vr a1, vi (0 : Int32), vi (2 : Int32), vr b1, vi (2 : Int32), un] [] _
    refine XS.iload X2.here hx rfl (hb hby d42_14) rfl ?_
    show SS p e below m T2 16 #[vr a1, vi (0 : Int32), vi (2 : Int32), vr b1, vi (2 : Int32), un] [(.int (2 : Int32))] _
    refine XS.iloadN X2.here hx rfl (hb hby d42_16) rfl ?_
    show SS p e below m T2 17 #[vr a1, vi (0 : Int32), vi (2 : Int32), vr b1, vi (2 : Int32), un] [(.int (2 : Int32)), (.int (2 : Int32))] _
    refine XS.icmpYes X2.here hx rfl (pc0 := 17) (pc' := 57) rfl (hb hby d42_17) rfl (teq (by decide)).1 (by decide) (by decide) ?_
    show SS p e below m T2 57 #[vr a1, vi (0 : Int32), vi (2 : Int32), vr b1, vi (2 : Int32), un] [] _
    refine XS.aloadN X2.here hx rfl (hb hby d42_57) rfl rfl ?_
    show SS p e below m T2 58 #[vr a1, vi (0 : Int32), vi (2 : Int32), vr b1, vi (2 : Int32), un] [(.ref b1)] _
    jvm_step X2.here [X2.here.top, hx, (hb hby d42_58), X2.method', Bd.returns, Value.isRef, FieldType.isReference]
    first | (intro acts; rw [hr _ acts rfl rfl rfl]) | rw [hr _ _ rfl rfl rfl]
    exact Steps.refl _
  · show Q_rm_cm2 Z a1 kc x0 x1 h0 n0 _ T2.heap _
    exact ⟨b1, k1, rfl, N2, KC, sz_b1, V_a3_2⟩
theorem ef_rm_cf2 (m : MethodId) (x0 : Addr) (x1 : Int32) : entryFrame m #[(.ref x0), (.int x1)] 2 = mkF m 0 #[vr x0, vi x1] [] := by first | (simp [entryFrame, mkF, argsToLocals, Value.category]; done) | rfl
def Q_rm_cf2 (Z : State) (a1 : Addr) (kb : ClassId) (vs : List Value) (h0 : Heap) (n0 : Nat) (v : Option Value) (h : Heap) (L : List Loc) : Prop := (v = some (.int (0 : Int32))) ∧ (Fr n0 L) ∧ (h = h0)
set_option maxRecDepth 65536 in
set_option maxHeartbeats 40000000 in
theorem rm_cf2 (l : Launch) (Z : State) (a0 : Array Value) (hw : ∀ d ∈ tables_1, d.before a0 Z = true) (ws : List Jvm.Cond) (a1 : Addr) (kb : ClassId) (vs : List Value) (h0 : Heap) (n0 : Nat) (Z0 : n0 ≤ h0.size) (O0 : Old Z n0 h0) (V_a1 : Arv Z h0 a1 kb .byte (2 : Int32) vs (.int (0 : Int32))) :
    MetFree l y_31 (head1 (Jvm.Cond.code y_31 jdk_52_method_15_code 2 (some .byte) :: ws) ({ frames := 0, cells := 0, slots := 0, locals := 0 } : Room)) (fun a U => a = #[(.ref a1), (.int (2 : Int32))] ∧ Z.Warmed39 U.vm ∧ U.heap = h0) (fun _ _ _ _ _ => True) (fun _ U o U' => ∃ v L, o = .returned v ∧ Q_rm_cf2 Z a1 kb vs h0 n0 v U'.heap L ∧ FrameEnd U o U' L ({ frames := 0, cells := 0, slots := 0, locals := 0 } : Room).cells ({ frames := 0, cells := 0, slots := 0, locals := 0 } : Room).slots) := by
  refine MetFree.of_bodySF (plainFor_of_name pn_7) hisR ?_
  intro p e s m args below meth c s₁ Bd hml0 hP hK
  obtain ⟨rfl, hZ, hh⟩ := hP
  have hx := Bd.exec
  have hby := Bd.bytes
  have hml : c.maxLocals = 2 := hml0
  have hown : s.vm.findClass "java/lang/StringUTF16" = some m.cls := findClass_of_methodNamed Bd.named
  have hnm := (name_of_methodNamed Bd.named Bd.method).1
  have X0 : Stand p l e ({ frames := 0, cells := 0, slots := 0, locals := 0 } : Room) s m #[(.ref a1), (.int (2 : Int32))] below meth c s₁ [] 0 0 := Stand.of_body Bd
  have e0 : s₁.heap = h0 := by rw [← hh, Bd.state]; rfl
  have N0 := Fr.nil n0
  have KC : Keep h0 h0 [] := Keep.refl h0 _
  have pre0 : ∀ t, Steps p.tables e below (s₁.setTop (mkF m 0 #[vr a1, vi (2 : Int32)] [])) t → Steps p.tables e below (s₁.setTop (entryFrame m #[(.ref a1), (.int (2 : Int32))] 2)) t := fun t k => castTop (ef_rm_cf2 m a1 (2 : Int32)) k
  have Vo1 := V_a1
  obtain ⟨cl1, Ar1, -, Sz1, Nn1, -, -⟩ := Vo1
  have ia1 := State.isArrayOf_alike hZ.alike Ar1.2.1
  obtain ⟨fs, hr, hrun, hended, hW, hsame⟩ := X0.leave (v := some (.int (nar .byte ((((0 : Int32).toUInt32 >>> ((31 : Int32) &&& 31).toUInt32).toInt32).toInt8.toInt32)))) (fun h => by rw [Bd.returns] at h; cases h)
  refine ⟨_, _, pre0 _ ?_, hrun, hended, _, _, rfl, ?_, ⟨_, rfl⟩, hW, hsame.mono (by decide) (by decide)⟩
  · show SS p e below m s₁ 0 #[vr a1, vi (2 : Int32)] [] _
    refine XS.iloadN X0.here hx rfl (hb hby d44_0) rfl ?_
    show SS p e below m s₁ 1 #[vr a1, vi (2 : Int32)] [(.int (2 : Int32))] _
    refine XS.aloadN X0.here hx rfl (hb hby d44_1) rfl rfl ?_
    show SS p e below m s₁ 2 #[vr a1, vi (2 : Int32)] [(.ref a1), (.int (2 : Int32))] _
    refine X0.arraylength hx (by rw [e0]; exact Ar1.1) ia1 (g := (mkF m 2 #[vr a1, vi (2 : Int32)] [(.ref a1), (.int (2 : Int32))])) rfl rfl (hb hby d44_2) _ ?_
    rw [len_of Sz1 Nn1]
    show SS p e below m s₁ 3 #[vr a1, vi (2 : Int32)] [(.int (2 : Int32)), (.int (2 : Int32))] _
    refine XS.isub X0.here hx rfl (hb hby d44_3) rfl ?_
    show SS p e below m s₁ 4 #[vr a1, vi (2 : Int32)] [(.int (0 : Int32))] _
    refine XS.bipush X0.here hx rfl (hb hby d44_4) ?_
    show SS p e below m s₁ 6 #[vr a1, vi (2 : Int32)] [(.int (31 : Int32)), (.int (0 : Int32))] _
    refine XS.iushr X0.here hx rfl (hb hby d44_6) rfl ?_
    show SS p e below m s₁ 7 #[vr a1, vi (2 : Int32)] [(.int (((0 : Int32).toUInt32 >>> ((31 : Int32) &&& 31).toUInt32).toInt32))] _
    refine XS.i2b X0.here hx rfl (hb hby d44_7) rfl ?_
    show SS p e below m s₁ 8 #[vr a1, vi (2 : Int32)] [(.int ((((0 : Int32).toUInt32 >>> ((31 : Int32) &&& 31).toUInt32).toInt32).toInt8.toInt32))] _
    exact retN X0 hx (t := .byte) Bd.returns (by simp) (hb hby d44_8) hr
  · show Q_rm_cf2 Z a1 kb vs h0 n0 _ s₁.heap _
    rw [e0]
    exact ⟨(by decide), N0, rfl⟩
theorem ef_rm_i42 (m : MethodId) (x0 : Addr) (x1 : Addr) (x2 : Int32) (x3 : Int32) : entryFrame m #[(.ref x0), (.ref x1), (.int x2), (.int x3), .null] 6 = mkF m 0 #[vr x0, vr x1, vi x2, vi x3, vN, .unset] [] := by first | (simp [entryFrame, mkF, argsToLocals, Value.category]; done) | rfl
def Q_rm_i42 (Z : State) (a1 : Addr) (a2 : Addr) (kc : ClassId) (x0 : Int32) (x1 : Int32) (zc : Int32) (h0 : Heap) (n0 : Nat) (v : Option Value) (h : Heap) (L : List Loc) : Prop := ∃ tz : Addr, ∃ kb : ClassId, (v = none) ∧ (Fr n0 L) ∧ (Keep h0 h [a1]) ∧ (h0.size ≤ tz) ∧ (Fld Z h a1 "java/lang/String" "value" "[B" (.ref tz)) ∧ (Fld Z h a1 "java/lang/String" "coder" "B" (.int (0 : Int32))) ∧ (Arv Z h tz kb .byte (2 : Int32) [(.int (own_b x0)), (.int (own_b x1))] (.int (0 : Int32)))
set_option maxRecDepth 65536 in
set_option maxHeartbeats 40000000 in
theorem rm_i42 (l : Launch) (Z : State) (a0 : Array Value) (hw : ∀ d ∈ tables_1, d.before a0 Z = true) (ws : List Jvm.Cond) (a1 : Addr) (a2 : Addr) (kc : ClassId) (x0 : Int32) (x1 : Int32) (zc : Int32) (h0 : Heap) (n0 : Nat) (Z0 : n0 ≤ h0.size) (O0 : Old Z n0 h0) (F_value_a1 : Fld Z h0 a1 "java/lang/String" "value" "[B" .null) (F_coder_a1 : Fld Z h0 a1 "java/lang/String" "coder" "B" (.int (0 : Int32))) (E_a1 : Exa Z h0 a1 "java/lang/String") (g_a1 : n0 ≤ a1) (V_a2 : Arv Z h0 a2 kc .char (2 : Int32) [(.int x0), (.int x1)] (.int (0 : Int32))) (S_CS : Sta Z Z.heap "java/lang/String" "COMPACT_STRINGS" "Z" (.int zc)) (hz : ¬ zc = (0 : Int32)) (hx0 : ¬ (255 : Int32) < x0) (hx1 : ¬ (255 : Int32) < x1) :
    MetFree l y_27 (head1 (Jvm.Cond.code y_27 jdk_42_method_149_code 6 none :: ws) ({ frames := 2, cells := 1, slots := 2, locals := 35 } : Room)) (fun a U => a = #[(.ref a1), (.ref a2), (.int (0 : Int32)), (.int (2 : Int32)), .null] ∧ Z.Warmed39 U.vm ∧ U.heap = h0) (fun _ _ _ _ _ => True) (fun _ U o U' => ∃ v L, o = .returned v ∧ Q_rm_i42 Z a1 a2 kc x0 x1 zc h0 n0 v U'.heap L ∧ FrameEnd U o U' L ({ frames := 2, cells := 1, slots := 2, locals := 35 } : Room).cells ({ frames := 2, cells := 1, slots := 2, locals := 35 } : Room).slots) := by
  refine MetFree.of_bodySF (plainFor_of_name pn_0) hisR ?_
  intro p e s m args below meth c s₁ Bd hml0 hP hK
  obtain ⟨rfl, hZ, hh⟩ := hP
  have hx := Bd.exec
  have hby := Bd.bytes
  have hml : c.maxLocals = 6 := hml0
  have hown : s.vm.findClass "java/lang/String" = some m.cls := findClass_of_methodNamed Bd.named
  have hnm := (name_of_methodNamed Bd.named Bd.method).1
  have X0 : Stand p l e ({ frames := 2, cells := 1, slots := 2, locals := 35 } : Room) s m #[(.ref a1), (.ref a2), (.int (0 : Int32)), (.int (2 : Int32)), .null] below meth c s₁ [] 0 0 := Stand.of_body Bd
  have e0 : s₁.heap = h0 := by rw [← hh, Bd.state]; rfl
  have N0 := Fr.nil n0
  have KC : Keep h0 h0 [a1] := Keep.refl h0 _
  have pre0 : ∀ t, Steps p.tables e below (s₁.setTop (mkF m 0 #[vr a1, vr a2, vi (0 : Int32), vi (2 : Int32), vN, un] [])) t → Steps p.tables e below (s₁.setTop (entryFrame m #[(.ref a1), (.ref a2), (.int (0 : Int32)), (.int (2 : Int32)), .null] 6)) t := fun t k => castTop (ef_rm_i42 m a1 a2 (0 : Int32) (2 : Int32)) k
  obtain ⟨T1, X1, e1, st1⟩ := initO X0 hx hZ hown (ww hw 11 rfl) (ww hw 12 rfl) (ww hw 13 rfl) e0 (g := (mkF m 1 #[vr a1, vr a2, vi (0 : Int32), vi (2 : Int32), vN, un] [(.ref a1)])) rfl (by rw [hml]; rfl) rfl (hb hby d2_1) (by decide) (W := 0) (by show 2 * 0 + _ ≤ _; exact Nat.le_of_eq rfl) (by decide)
  obtain ⟨T2, X2, e2, st2⟩ := getS2 X1 hx hZ hown (host := "") (Or.inl (ww hw 42 rfl)) Via.refl e1 (S_CS.ext O0.2) (g := (mkF m 27 #[vr a1, vr a2, vi (0 : Int32), vi (2 : Int32), vN, un] [])) rfl (hb hby d2_27)
  obtain ⟨_, _, ⟨T3, L3, kz3, nz3⟩, -, X3, ⟨Lc3, hQ3, l3, y3, z3⟩, st3⟩ := Jvm.LawKit.callS X2 hx (y := y_30) hown (mvT hZ (ww hw 229 rfl)) (mvT hZ (ww hw 230 rfl)) (mvT hZ (ww hw 231 rfl)) (mvT hZ (ww hw 232 rfl)) (by decide) (backOf (W := 0) (rm_cm2 l Z a0 hw [] a2 kc x0 x1 h0 n0 (Nat.le_trans Z0 KC.1) O0 V_a2 hx0 hx1) hZ (ww hw 232 rfl) (ww hw 231 rfl) (by decide) (by decide)) (g := (mkF m 36 #[vr a1, vr a2, vi (0 : Int32), vi (2 : Int32), vN, un] [(.int (2 : Int32)), (.int (0 : Int32)), (.ref a2)])) rfl (by rw [hml]; rfl) (argsL := [(.ref a2), (.int (0 : Int32)), (.int (2 : Int32))]) (rest := []) (lenOf pd_18 rfl) rfl (by show 2 * 0 + _ ≤ _; exact Nat.le_of_eq rfl) (hb hby d2_36) (fun _ _ => ⟨rfl, e2, (by decide : 0 + 1 ≤ _), (by decide : 0 + 2 ≤ _)⟩)
  dsimp only [Pt.U, Pt.locs, Pt.cells, Pt.slots] at X3 l3 y3 z3 st3 hQ3
  subst l3 y3 z3
  obtain ⟨b3_tz, kb_3, rfl, N3q, K3, sz_b3_tz, V_tz_3⟩ := hQ3
  have N3 := Fr.app N0 N3q
  have ne_a1_b3_tz : a1 ≠ b3_tz := Nat.ne_of_lt (Nat.lt_of_lt_of_le F_value_a1.lt sz_b3_tz)
  have ne_a2_b3_tz : a2 ≠ b3_tz := Nat.ne_of_lt (Nat.lt_of_lt_of_le V_a2.lt sz_b3_tz)
  have g_b3_tz : n0 ≤ b3_tz := Nat.le_trans (Nat.le_trans Z0 KC.1) sz_b3_tz
  replace sz_b3_tz : h0.size ≤ b3_tz := Nat.le_trans KC.1 sz_b3_tz
  replace F_value_a1 := F_value_a1.keep K3 nin0
  replace F_coder_a1 := F_coder_a1.keep K3 nin0
  replace E_a1 := E_a1.keep K3
  replace V_a2 := V_a2.keep K3 nin0
  replace O0 := O0.keep K3 all0
  replace KC := KC.trans K3 all0
  obtain ⟨_, _, ⟨T4, L4, kz4, nz4⟩, -, X4, ⟨Lc4, hQ4, l4, y4, z4⟩, st4⟩ := Jvm.LawKit.callS X3 hx (y := y_31) hown (mvT hZ (ww hw 236 rfl)) (mvT hZ (ww hw 237 rfl)) (mvT hZ (ww hw 231 rfl)) (mvT hZ (ww hw 238 rfl)) (by decide) (backOf (W := 1) (rm_cf2 l Z a0 hw [] b3_tz kb_3 [(.int (own_b x0)), (.int (own_b x1))] T3.heap n0 (Nat.le_trans Z0 KC.1) O0 V_tz_3) hZ (ww hw 238 rfl) (ww hw 231 rfl) (by decide) (by decide)) (g := (mkF m 45 #[vr a1, vr a2, vi (0 : Int32), vi (2 : Int32), vN, vr b3_tz] [(.int (2 : Int32)), (.ref b3_tz), (.ref a1)])) rfl (by rw [hml]; rfl) (argsL := [(.ref b3_tz), (.int (2 : Int32))]) (rest := [(.ref a1)]) (lenOf pd_19 rfl) rfl (by show 2 * 0 + _ ≤ _; exact Nat.le_of_eq rfl) (hb hby d2_45) (fun _ _ => ⟨rfl, rfl, (by decide : 1 + 0 ≤ _), (by decide : 2 + 0 ≤ _)⟩)
  dsimp only [Pt.U, Pt.locs, Pt.cells, Pt.slots] at X4 l4 y4 z4 st4 hQ4
  subst l4 y4 z4
  obtain ⟨rfl, N4q, e4⟩ := hQ4
  have N4 := Fr.app N3 N4q
  obtain ⟨T5, h5, X5, e5, W5, st5⟩ := putFN X4 hx hZ hown (ww hw 21 rfl) Via.refl e4 F_coder_a1 E_a1 (Or.inr ⟨(ww hw 17 rfl), rfl, hnm⟩) (ww hw 2 rfl) (ty := .byte) (v' := .int (0 : Int32)) (by decide) rfl rfl (g := (mkF m 48 #[vr a1, vr a2, vi (0 : Int32), vi (2 : Int32), vN, vr b3_tz] [(.int (0 : Int32)), (.ref a1)])) rfl rfl (hb hby d2_48)
  have N5 := Fr.snoc X5 N4 g_a1
  replace F_coder_a1 := F_coder_a1.same W5
  have nev_a1_a2 : a1 ≠ a2 := Exa.neArv E_a1 V_a2 (ww hw 2 rfl)
  replace F_value_a1 := F_value_a1.other W5 (Or.inr (slot_ne (Or.inr (ww hw 16 rfl)) (Or.inr (ww hw 17 rfl)) (by decide) (t := (.array .byte)) (t' := .byte) (by decide) (by decide)))
  replace E_a1 := E_a1.wr W5
  replace V_a2 := V_a2.other W5 (Ne.symm nev_a1_a2)
  replace V_tz_3 := V_tz_3.other W5 (Ne.symm ne_a1_b3_tz)
  replace O0 := O0.wr W5 g_a1
  replace KC := KC.wr W5 (Or.inl (List.mem_of_getElem? (i := 0) rfl))
  obtain ⟨T6, h6, X6, e6, W6, st6⟩ := putF X5 hx hZ hown (host := "") (Or.inl (ww hw 20 rfl)) Via.refl e5 F_value_a1 E_a1 (Or.inr ⟨(ww hw 16 rfl), rfl, hnm⟩) (ww hw 2 rfl) (ty := (.array .byte)) (by decide) rfl rfl (g := (mkF m 54 #[vr a1, vr a2, vi (0 : Int32), vi (2 : Int32), vN, vr b3_tz] [(.ref b3_tz), (.ref a1)])) rfl rfl (hb hby d2_54)
  have N6 := Fr.snoc X6 N5 g_a1
  replace F_value_a1 := F_value_a1.same W6
  replace F_coder_a1 := F_coder_a1.other W6 (Or.inr (slot_ne (Or.inr (ww hw 17 rfl)) (Or.inr (ww hw 16 rfl)) (by decide) (t := .byte) (t' := (.array .byte)) (by decide) (by decide)))
  replace E_a1 := E_a1.wr W6
  replace V_a2 := V_a2.other W6 (Ne.symm nev_a1_a2)
  replace V_tz_3 := V_tz_3.other W6 (Ne.symm ne_a1_b3_tz)
  replace O0 := O0.wr W6 g_a1
  replace KC := KC.wr W6 (Or.inl (List.mem_of_getElem? (i := 0) rfl))
  obtain ⟨fs, hr, hrun, hended, hW, hsame⟩ := X6.leave (v := none) (fun _ => rfl)
  refine ⟨_, _, pre0 _ ?_, hrun, hended, _, _, rfl, ?_, ⟨_, rfl⟩, hW, hsame.mono (by decide) (by decide)⟩
  · show SS p e below m s₁ 0 #[vr a1, vr a2, vi (0 : Int32), vi (2 : Int32), vN, un] [] _
    refine XS.aloadN X0.here hx rfl (hb hby d2_0) rfl rfl ?_
    show SS p e below m s₁ 1 #[vr a1, vr a2, vi (0 : Int32), vi (2 : Int32), vN, un] [(.ref a1)] _
    refine st1 _ ?_
    show SS p e below m T1 4 #[vr a1, vr a2, vi (0 : Int32), vi (2 : Int32), vN, un] [] _
    refine XS.iloadN X1.here hx rfl (hb hby d2_4) rfl ?_
    show SS p e below m T1 5 #[vr a1, vr a2, vi (0 : Int32), vi (2 : Int32), vN, un] [(.int (2 : Int32))] _
    refine XS.ifYes X1.here hx rfl (pc0 := 5) (pc' := 27) rfl (hb hby d2_5) rfl ((if0 _ _).trans (feq (by decide)).2) (by decide) (by decide) ?_
    show SS p e below m T1 27 #[vr a1, vr a2, vi (0 : Int32), vi (2 : Int32), vN, un] [] _
    refine st2 _ ?_
    show SS p e below m T2 30 #[vr a1, vr a2, vi (0 : Int32), vi (2 : Int32), vN, un] [(.int zc)] _
    refine XS.ifNo X2.here hx rfl (hb hby d2_30) rfl ((if0 _ _).trans (feq hz).1) ?_
    show SS p e below m T2 33 #[vr a1, vr a2, vi (0 : Int32), vi (2 : Int32), vN, un] [] _
    refine XS.aloadN X2.here hx rfl (hb hby d2_33) rfl rfl ?_
    show SS p e below m T2 34 #[vr a1, vr a2, vi (0 : Int32), vi (2 : Int32), vN, un] [(.ref a2)] _
    refine XS.iloadN X2.here hx rfl (hb hby d2_34) rfl ?_
    show SS p e below m T2 35 #[vr a1, vr a2, vi (0 : Int32), vi (2 : Int32), vN, un] [(.int (0 : Int32)), (.ref a2)] _
    refine XS.iloadN X2.here hx rfl (hb hby d2_35) rfl ?_
    show SS p e below m T2 36 #[vr a1, vr a2, vi (0 : Int32), vi (2 : Int32), vN, un] [(.int (2 : Int32)), (.int (0 : Int32)), (.ref a2)] _
    refine st3 _ ?_
    show SS p e below m T3 39 #[vr a1, vr a2, vi (0 : Int32), vi (2 : Int32), vN, un] [(.ref b3_tz)] _
    refine XS.astore X3.here hx rfl (hb hby d2_39) rfl rfl (l' := #[vr a1, vr a2, vi (0 : Int32), vi (2 : Int32), vN, vr b3_tz]) rfl ?_
    show SS p e below m T3 41 #[vr a1, vr a2, vi (0 : Int32), vi (2 : Int32), vN, vr b3_tz] [] _
    refine XS.aloadN X3.here hx rfl (hb hby d2_41) rfl rfl ?_
    show SS p e below m T3 42 #[vr a1, vr a2, vi (0 : Int32), vi (2 : Int32), vN, vr b3_tz] [(.ref a1)] _
    refine XS.aload X3.here hx rfl (hb hby d2_42) rfl rfl ?_
    show SS p e below m T3 44 #[vr a1, vr a2, vi (0 : Int32), vi (2 : Int32), vN, vr b3_tz] [(.ref b3_tz), (.ref a1)] _
    refine XS.iloadN X3.here hx rfl (hb hby d2_44) rfl ?_
    show SS p e below m T3 45 #[vr a1, vr a2, vi (0 : Int32), vi (2 : Int32), vN, vr b3_tz] [(.int (2 : Int32)), (.ref b3_tz), (.ref a1)] _
    refine st4 _ ?_
    show SS p e below m T4 48 #[vr a1, vr a2, vi (0 : Int32), vi (2 : Int32), vN, vr b3_tz] [(.int (0 : Int32)), (.ref a1)] _
    refine st5 _ ?_
    show SS p e below m T5 51 #[vr a1, vr a2, vi (0 : Int32), vi (2 : Int32), vN, vr b3_tz] [] _
    refine XS.aloadN X5.here hx rfl (hb hby d2_51) rfl rfl ?_
    show SS p e below m T5 52 #[vr a1, vr a2, vi (0 : Int32), vi (2 : Int32), vN, vr b3_tz] [(.ref a1)] _
    refine XS.aload X5.here hx rfl (hb hby d2_52) rfl rfl ?_
    show SS p e below m T5 54 #[vr a1, vr a2, vi (0 : Int32), vi (2 : Int32), vN, vr b3_tz] [(.ref b3_tz), (.ref a1)] _
    refine st6 _ ?_
    show SS p e below m T6 57 #[vr a1, vr a2, vi (0 : Int32), vi (2 : Int32), vN, vr b3_tz] [] _
    exact X6.returnOut hx Bd.returns (hb hby d2_57) hr
  · show Q_rm_i42 Z a1 a2 kc x0 x1 zc h0 n0 _ T6.heap _
    rw [e6]
    exact ⟨b3_tz, kb_3, rfl, N6, KC, sz_b3_tz, F_value_a1, F_coder_a1, V_tz_3⟩
theorem ef_rm_i12 (m : MethodId) (x0 : Addr) (x1 : Addr) : entryFrame m #[(.ref x0), (.ref x1)] 2 = mkF m 0 #[vr x0, vr x1] [] := by first | (simp [entryFrame, mkF, argsToLocals, Value.category]; done) | rfl
def Q_rm_i12 (Z : State) (a1 : Addr) (a2 : Addr) (kc : ClassId) (x0 : Int32) (x1 : Int32) (zc : Int32) (h0 : Heap) (n0 : Nat) (v : Option Value) (h : Heap) (L : List Loc) : Prop := ∃ tz : Addr, ∃ kb : ClassId, (v = none) ∧ (Fr n0 L) ∧ (Keep h0 h [a1]) ∧ (h0.size ≤ tz) ∧ (Fld Z h a1 "java/lang/String" "value" "[B" (.ref tz)) ∧ (Fld Z h a1 "java/lang/String" "coder" "B" (.int (0 : Int32))) ∧ (Arv Z h tz kb .byte (2 : Int32) [(.int (own_b x0)), (.int (own_b x1))] (.int (0 : Int32)))
set_option maxRecDepth 65536 in
set_option maxHeartbeats 40000000 in
theorem rm_i12 (l : Launch) (Z : State) (a0 : Array Value) (hw : ∀ d ∈ tables_1, d.before a0 Z = true) (ws : List Jvm.Cond) (a1 : Addr) (a2 : Addr) (kc : ClassId) (x0 : Int32) (x1 : Int32) (zc : Int32) (h0 : Heap) (n0 : Nat) (Z0 : n0 ≤ h0.size) (O0 : Old Z n0 h0) (F_value_a1 : Fld Z h0 a1 "java/lang/String" "value" "[B" .null) (F_coder_a1 : Fld Z h0 a1 "java/lang/String" "coder" "B" (.int (0 : Int32))) (E_a1 : Exa Z h0 a1 "java/lang/String") (g_a1 : n0 ≤ a1) (V_a2 : Arv Z h0 a2 kc .char (2 : Int32) [(.int x0), (.int x1)] (.int (0 : Int32))) (S_CS : Sta Z Z.heap "java/lang/String" "COMPACT_STRINGS" "Z" (.int zc)) (hz : ¬ zc = (0 : Int32)) (hx0 : ¬ (255 : Int32) < x0) (hx1 : ¬ (255 : Int32) < x1) :
    MetFree l y_28 (head1 (Jvm.Cond.code y_28 jdk_42_method_3_code 2 none :: ws) ({ frames := 3, cells := 1, slots := 2, locals := 52 } : Room)) (fun a U => a = #[(.ref a1), (.ref a2)] ∧ Z.Warmed39 U.vm ∧ U.heap = h0) (fun _ _ _ _ _ => True) (fun _ U o U' => ∃ v L, o = .returned v ∧ Q_rm_i12 Z a1 a2 kc x0 x1 zc h0 n0 v U'.heap L ∧ FrameEnd U o U' L ({ frames := 3, cells := 1, slots := 2, locals := 52 } : Room).cells ({ frames := 3, cells := 1, slots := 2, locals := 52 } : Room).slots) := by
  refine MetFree.of_bodySF (plainFor_of_name pn_0) hisR ?_
  intro p e s m args below meth c s₁ Bd hml0 hP hK
  obtain ⟨rfl, hZ, hh⟩ := hP
  have hx := Bd.exec
  have hby := Bd.bytes
  have hml : c.maxLocals = 2 := hml0
  have hown : s.vm.findClass "java/lang/String" = some m.cls := findClass_of_methodNamed Bd.named
  have hnm := (name_of_methodNamed Bd.named Bd.method).1
  have X0 : Stand p l e ({ frames := 3, cells := 1, slots := 2, locals := 52 } : Room) s m #[(.ref a1), (.ref a2)] below meth c s₁ [] 0 0 := Stand.of_body Bd
  have e0 : s₁.heap = h0 := by rw [← hh, Bd.state]; rfl
  have N0 := Fr.nil n0
  have KC : Keep h0 h0 [a1] := Keep.refl h0 _
  have pre0 : ∀ t, Steps p.tables e below (s₁.setTop (mkF m 0 #[vr a1, vr a2] [])) t → Steps p.tables e below (s₁.setTop (entryFrame m #[(.ref a1), (.ref a2)] 2)) t := fun t k => castTop (ef_rm_i12 m a1 a2) k
  have Vo1 := V_a2
  obtain ⟨cl1, Ar1, -, Sz1, Nn1, -, -⟩ := Vo1
  have ia1 := State.isArrayOf_alike hZ.alike Ar1.2.1
  obtain ⟨_, _, ⟨T2, L2, kz2, nz2⟩, -, X2, ⟨Lc2, hQ2, l2, y2, z2⟩, st2⟩ := X0.specialBack hx (y := y_27) rfl hown (mvT hZ (ww hw 7 rfl)) (mvT hZ (ww hw 8 rfl)) (mvT hZ (ww hw 10 rfl)) (by decide) (backOf (W := 0) (rm_i42 l Z a0 hw [] a1 a2 kc x0 x1 zc h0 n0 (Nat.le_trans Z0 KC.1) O0 F_value_a1 F_coder_a1 E_a1 g_a1 V_a2 S_CS hz hx0 hx1) hZ (ww hw 10 rfl) (ww hw 3 rfl) (by decide) (by decide)) (g := (mkF m 6 #[vr a1, vr a2] [.null, (.int (2 : Int32)), (.int (0 : Int32)), (.ref a2), (.ref a1)])) rfl (by rw [hml]; rfl) (Steps.refl _) (a := a1) (argsL := [(.ref a2), (.int (0 : Int32)), (.int (2 : Int32)), .null]) (rest := []) (lenOf pd_16 rfl) rfl (by show 2 * 0 + _ ≤ _; exact Nat.le_of_eq rfl) (hb hby d1_6) (fun _ _ => ⟨rfl, e0, (by decide : 0 + 1 ≤ _), (by decide : 0 + 2 ≤ _)⟩)
  dsimp only [Pt.U, Pt.locs, Pt.cells, Pt.slots] at X2 l2 y2 z2 st2 hQ2
  subst l2 y2 z2
  obtain ⟨b2_tz, kb_2, rfl, N2q, K2, sz_b2_tz, F_value_a1_2, F_coder_a1_2, V_tz_2⟩ := hQ2
  have N2 := Fr.app N0 N2q
  have ne_a1_b2_tz : a1 ≠ b2_tz := Nat.ne_of_lt (Nat.lt_of_lt_of_le F_value_a1.lt sz_b2_tz)
  have ne_a2_b2_tz : a2 ≠ b2_tz := Nat.ne_of_lt (Nat.lt_of_lt_of_le V_a2.lt sz_b2_tz)
  have g_b2_tz : n0 ≤ b2_tz := Nat.le_trans (Nat.le_trans Z0 KC.1) sz_b2_tz
  replace sz_b2_tz : h0.size ≤ b2_tz := Nat.le_trans KC.1 sz_b2_tz
  have nev_a1_a2 : a1 ≠ a2 := Exa.neArv E_a1 V_a2 (ww hw 2 rfl)
  replace E_a1 := E_a1.keep K2
  replace V_a2 := V_a2.keep K2 (ninS (Ne.symm nev_a1_a2) nin0)
  replace O0 := O0.keep K2 (allS g_a1 all0)
  replace KC := KC.trans K2 (allS (Or.inl (List.mem_of_getElem? (i := 0) rfl)) all0)
  obtain ⟨fs, hr, hrun, hended, hW, hsame⟩ := X2.leave (v := none) (fun _ => rfl)
  refine ⟨_, _, pre0 _ ?_, hrun, hended, _, _, rfl, ?_, ⟨_, rfl⟩, hW, hsame.mono (by decide) (by decide)⟩
  · show SS p e below m s₁ 0 #[vr a1, vr a2] [] _
    refine XS.aloadN X0.here hx rfl (hb hby d1_0) rfl rfl ?_
    show SS p e below m s₁ 1 #[vr a1, vr a2] [(.ref a1)] _
    refine XS.aloadN X0.here hx rfl (hb hby d1_1) rfl rfl ?_
    show SS p e below m s₁ 2 #[vr a1, vr a2] [(.ref a2), (.ref a1)] _
    refine XS.iconst X0.here hx rfl (hb hby d1_2) ?_
    show SS p e below m s₁ 3 #[vr a1, vr a2] [(.int (0 : Int32)), (.ref a2), (.ref a1)] _
    refine XS.aloadN X0.here hx rfl (hb hby d1_3) rfl rfl ?_
    show SS p e below m s₁ 4 #[vr a1, vr a2] [(.ref a2), (.int (0 : Int32)), (.ref a2), (.ref a1)] _
    refine X0.arraylength hx (by rw [e0]; exact Ar1.1) ia1 (g := (mkF m 4 #[vr a1, vr a2] [(.ref a2), (.int (0 : Int32)), (.ref a2), (.ref a1)])) rfl rfl (hb hby d1_4) _ ?_
    rw [len_of Sz1 Nn1]
    show SS p e below m s₁ 5 #[vr a1, vr a2] [(.int (2 : Int32)), (.int (0 : Int32)), (.ref a2), (.ref a1)] _
    refine XS.aconstNull X0.here hx rfl (hb hby d1_5) ?_
    show SS p e below m s₁ 6 #[vr a1, vr a2] [.null, (.int (2 : Int32)), (.int (0 : Int32)), (.ref a2), (.ref a1)] _
    refine st2.trans ?_
    show SS p e below m T2 9 #[vr a1, vr a2] [] _
    exact X2.returnOut hx Bd.returns (hb hby d1_9) hr
  · show Q_rm_i12 Z a1 a2 kc x0 x1 zc h0 n0 _ T2.heap _
    exact ⟨b2_tz, kb_2, rfl, N2, KC, sz_b2_tz, F_value_a1_2, F_coder_a1_2, V_tz_2⟩
theorem ef_rm_cmp3 (m : MethodId) (x0 : Addr) (x1 : Int32) (x2 : Addr) (x3 : Int32) (x4 : Int32) : entryFrame m #[(.ref x0), (.int x1), (.ref x2), (.int x3), (.int x4)] 7 = mkF m 0 #[vr x0, vi x1, vr x2, vi x3, vi x4, .unset, .unset] [] := by first | (simp [entryFrame, mkF, argsToLocals, Value.category]; done) | rfl
def Q_rm_cmp3 (Z : State) (a1 : Addr) (a3 : Addr) (kc : ClassId) (kb : ClassId) (x0 : Int32) (x1 : Int32) (x2 : Int32) (h0 : Heap) (n0 : Nat) (v : Option Value) (h : Heap) (L : List Loc) : Prop := (v = some (.int (3 : Int32))) ∧ (Fr n0 L) ∧ (Keep h0 h [a3]) ∧ (Arv Z h a3 kb .byte (3 : Int32) [(.int (own_b x0)), (.int (own_b x1)), (.int (own_b x2))] (.int (0 : Int32)))
set_option maxRecDepth 65536 in
set_option maxHeartbeats 40000000 in
theorem rm_cmp3 (l : Launch) (Z : State) (a0 : Array Value) (hw : ∀ d ∈ tables_1, d.before a0 Z = true) (ws : List Jvm.Cond) (a1 : Addr) (a3 : Addr) (kc : ClassId) (kb : ClassId) (x0 : Int32) (x1 : Int32) (x2 : Int32) (h0 : Heap) (n0 : Nat) (Z0 : n0 ≤ h0.size) (O0 : Old Z n0 h0) (V_a1 : Arv Z h0 a1 kc .char (3 : Int32) [(.int x0), (.int x1), (.int x2)] (.int (0 : Int32))) (V_a3 : Arv Z h0 a3 kb .byte (3 : Int32) [(.int (0 : Int32)), (.int (0 : Int32)), (.int (0 : Int32))] (.int (0 : Int32))) (g_a3 : n0 ≤ a3) (ne_13 : a1 ≠ a3) (hx0 : ¬ (255 : Int32) < x0) (hx1 : ¬ (255 : Int32) < x1) (hx2 : ¬ (255 : Int32) < x2) :
    MetFree l y_29 (head1 (Jvm.Cond.code y_29 jdk_52_method_21_code 7 (some .int) :: ws) ({ frames := 0, cells := 0, slots := 0, locals := 0 } : Room)) (fun a U => a = #[(.ref a1), (.int (0 : Int32)), (.ref a3), (.int (0 : Int32)), (.int (3 : Int32))] ∧ Z.Warmed39 U.vm ∧ U.heap = h0) (fun _ _ _ _ _ => True) (fun _ U o U' => ∃ v L, o = .returned v ∧ Q_rm_cmp3 Z a1 a3 kc kb x0 x1 x2 h0 n0 v U'.heap L ∧ FrameEnd U o U' L ({ frames := 0, cells := 0, slots := 0, locals := 0 } : Room).cells ({ frames := 0, cells := 0, slots := 0, locals := 0 } : Room).slots) := by
  refine MetFree.of_bodySF (plainFor_of_name pn_7) hisR ?_
  intro p e s m args below meth c s₁ Bd hml0 hP hK
  obtain ⟨rfl, hZ, hh⟩ := hP
  have hx := Bd.exec
  have hby := Bd.bytes
  have hml : c.maxLocals = 7 := hml0
  have hown : s.vm.findClass "java/lang/StringUTF16" = some m.cls := findClass_of_methodNamed Bd.named
  have hnm := (name_of_methodNamed Bd.named Bd.method).1
  have X0 : Stand p l e ({ frames := 0, cells := 0, slots := 0, locals := 0 } : Room) s m #[(.ref a1), (.int (0 : Int32)), (.ref a3), (.int (0 : Int32)), (.int (3 : Int32))] below meth c s₁ [] 0 0 := Stand.of_body Bd
  have e0 : s₁.heap = h0 := by rw [← hh, Bd.state]; rfl
  have N0 := Fr.nil n0
  have KC : Keep h0 h0 [a3] := Keep.refl h0 _
  have pre0 : ∀ t, Steps p.tables e below (s₁.setTop (mkF m 0 #[vr a1, vi (0 : Int32), vr a3, vi (0 : Int32), vi (3 : Int32), un, un] [])) t → Steps p.tables e below (s₁.setTop (entryFrame m #[(.ref a1), (.int (0 : Int32)), (.ref a3), (.int (0 : Int32)), (.int (3 : Int32))] 7)) t := fun t k => castTop (ef_rm_cmp3 m a1 (0 : Int32) a3 (0 : Int32) (3 : Int32)) k
  have Vo1 := V_a1
  obtain ⟨cl1, Ar1, q1, Sz1, Nn1, Hh1, Gg1⟩ := Vo1
  have hin1 : ¬ ((0 : Int32) < 0 ∨ cl1.slots.size ≤ ((0 : Int32)).toNatClampNeg) := inb_of Sz1 ⟨by decide, by decide⟩
  have hat1 : cl1.slots[((0 : Int32)).toNatClampNeg]? = some (.int x0) := Has.at Hh1 hin1 rfl
  have ia1 := State.isArrayOf_alike hZ.alike Ar1.2.1
  have Vo2 := V_a3
  obtain ⟨cl2, Ar2, q2, Sz2, Nn2, Hh2, Gg2⟩ := Vo2
  have hin2 : ¬ ((0 : Int32) < 0 ∨ cl2.slots.size ≤ ((0 : Int32)).toNatClampNeg) := inb_of Sz2 ⟨by decide, by decide⟩
  obtain ⟨T3, h3, X3, e3, W3, st3⟩ := stB X0 hx hZ e0 Ar2 (j := (0 : Int32)) hin2 (g := (mkF m 31 #[vr a1, vi (0 : Int32), vr a3, vi (0 : Int32), vi (3 : Int32), vi (0 : Int32), vi x0] [(.int (x0.toInt8.toInt32)), (.int (0 : Int32)), (.ref a3)])) rfl rfl (hb hby d43_31)
  have Vn3 := Arv.set Ar2 q2 Sz2 Nn2 Hh2 Gg2 (fits_nar_byte _) W3 (0) rfl (Nat.le_of_ble_eq_true rfl)
  have N3 := Fr.snoc X3 N0 g_a3
  have Vm3 : Arv Z h3 a3 kb .byte (3 : Int32) [(.int (own_b x0)), (.int (0 : Int32)), (.int (0 : Int32))] (.int (0 : Int32)) := by have hh := Vn3; rw [own_bb] at hh; exact hh
  replace V_a1 := V_a1.other W3 ne_13
  replace O0 := O0.wr W3 g_a3
  replace KC := KC.wr W3 (Or.inl (List.mem_of_getElem? (i := 0) rfl))
  have Vo4 := V_a1
  obtain ⟨cl4, Ar4, q4, Sz4, Nn4, Hh4, Gg4⟩ := Vo4
  have hin4 : ¬ ((1 : Int32) < 0 ∨ cl4.slots.size ≤ ((1 : Int32)).toNatClampNeg) := inb_of Sz4 ⟨by decide, by decide⟩
  have hat4 : cl4.slots[((1 : Int32)).toNatClampNeg]? = some (.int x1) := Has.at Hh4 hin4 rfl
  have ia4 := State.isArrayOf_alike hZ.alike Ar4.2.1
  have Vo5 := Vm3
  obtain ⟨cl5, Ar5, q5, Sz5, Nn5, Hh5, Gg5⟩ := Vo5
  have hin5 : ¬ ((1 : Int32) < 0 ∨ cl5.slots.size ≤ ((1 : Int32)).toNatClampNeg) := inb_of Sz5 ⟨by decide, by decide⟩
  obtain ⟨T6, h6, X6, e6, W6, st6⟩ := stB X3 hx hZ e3 Ar5 (j := (1 : Int32)) hin5 (g := (mkF m 31 #[vr a1, vi (1 : Int32), vr a3, vi (1 : Int32), vi (3 : Int32), vi (1 : Int32), vi x1] [(.int (x1.toInt8.toInt32)), (.int (1 : Int32)), (.ref a3)])) rfl rfl (hb hby d43_31)
  have Vn6 := Arv.set Ar5 q5 Sz5 Nn5 Hh5 Gg5 (fits_nar_byte _) W6 (1) rfl (Nat.le_of_ble_eq_true rfl)
  have N6 := Fr.snoc X6 N3 g_a3
  have Vm6 : Arv Z h6 a3 kb .byte (3 : Int32) [(.int (own_b x0)), (.int (own_b x1)), (.int (0 : Int32))] (.int (0 : Int32)) := by have hh := Vn6; rw [own_bb] at hh; exact hh
  replace V_a1 := V_a1.other W6 ne_13
  replace O0 := O0.wr W6 g_a3
  replace KC := KC.wr W6 (Or.inl (List.mem_of_getElem? (i := 0) rfl))
  have Vo7 := V_a1
  obtain ⟨cl7, Ar7, q7, Sz7, Nn7, Hh7, Gg7⟩ := Vo7
  have hin7 : ¬ ((2 : Int32) < 0 ∨ cl7.slots.size ≤ ((2 : Int32)).toNatClampNeg) := inb_of Sz7 ⟨by decide, by decide⟩
  have hat7 : cl7.slots[((2 : Int32)).toNatClampNeg]? = some (.int x2) := Has.at Hh7 hin7 rfl
  have ia7 := State.isArrayOf_alike hZ.alike Ar7.2.1
  have Vo8 := Vm6
  obtain ⟨cl8, Ar8, q8, Sz8, Nn8, Hh8, Gg8⟩ := Vo8
  have hin8 : ¬ ((2 : Int32) < 0 ∨ cl8.slots.size ≤ ((2 : Int32)).toNatClampNeg) := inb_of Sz8 ⟨by decide, by decide⟩
  obtain ⟨T9, h9, X9, e9, W9, st9⟩ := stB X6 hx hZ e6 Ar8 (j := (2 : Int32)) hin8 (g := (mkF m 31 #[vr a1, vi (2 : Int32), vr a3, vi (2 : Int32), vi (3 : Int32), vi (2 : Int32), vi x2] [(.int (x2.toInt8.toInt32)), (.int (2 : Int32)), (.ref a3)])) rfl rfl (hb hby d43_31)
  have Vn9 := Arv.set Ar8 q8 Sz8 Nn8 Hh8 Gg8 (fits_nar_byte _) W9 (2) rfl (Nat.le_of_ble_eq_true rfl)
  have N9 := Fr.snoc X9 N6 g_a3
  have Vm9 : Arv Z h9 a3 kb .byte (3 : Int32) [(.int (own_b x0)), (.int (own_b x1)), (.int (own_b x2))] (.int (0 : Int32)) := by have hh := Vn9; rw [own_bb] at hh; exact hh
  replace V_a1 := V_a1.other W9 ne_13
  replace O0 := O0.wr W9 g_a3
  replace KC := KC.wr W9 (Or.inl (List.mem_of_getElem? (i := 0) rfl))
  obtain ⟨fs, hr, hrun, hended, hW, hsame⟩ := X9.leave (v := some (.int (3 : Int32))) (fun h => by rw [Bd.returns] at h; cases h)
  refine ⟨_, _, pre0 _ ?_, hrun, hended, _, _, rfl, ?_, ⟨_, rfl⟩, hW, hsame.mono (by decide) (by decide)⟩
  · show SS p e below m s₁ 0 #[vr a1, vi (0 : Int32), vr a3, vi (0 : Int32), vi (3 : Int32), un, un] [] _
    refine XS.iconst X0.here hx rfl (hb hby d43_0) ?_
    show SS p e below m s₁ 1 #[vr a1, vi (0 : Int32), vr a3, vi (0 : Int32), vi (3 : Int32), un, un] [(.int (0 : Int32))] _
    refine XS.istore X0.here hx rfl (hb hby d43_1) rfl (l' := #[vr a1, vi (0 : Int32), vr a3, vi (0 : Int32), vi (3 : Int32), vi (0 : Int32), un]) rfl ?_
    show SS p e below m s₁ 3 #[vr a1, vi (0 : Int32), vr a3, vi (0 : Int32), vi (3 : Int32), vi (0 : Int32), un] [] _
    refine XS.iload X0.here hx rfl (hb hby d43_3) rfl ?_
    show SS p e below m s₁ 5 #[vr a1, vi (0 : Int32), vr a3, vi (0 : Int32), vi (3 : Int32), vi (0 : Int32), un] [(.int (0 : Int32))] _
    refine XS.iload X0.here hx rfl (hb hby d43_5) rfl ?_
    show SS p e below m s₁ 7 #[vr a1, vi (0 : Int32), vr a3, vi (0 : Int32), vi (3 : Int32), vi (0 : Int32), un] [(.int (3 : Int32)), (.int (0 : Int32))] _
    refine XS.icmpNo X0.here hx rfl (hb hby d43_7) rfl (tlt (by decide)).2.1 ?_
    show SS p e below m s₁ 10 #[vr a1, vi (0 : Int32), vr a3, vi (0 : Int32), vi (3 : Int32), vi (0 : Int32), un] [] _
    refine XS.aloadN X0.here hx rfl (hb hby d43_10) rfl rfl ?_
    show SS p e below m s₁ 11 #[vr a1, vi (0 : Int32), vr a3, vi (0 : Int32), vi (3 : Int32), vi (0 : Int32), un] [(.ref a1)] _
    refine XS.iloadN X0.here hx rfl (hb hby d43_11) rfl ?_
    show SS p e below m s₁ 12 #[vr a1, vi (0 : Int32), vr a3, vi (0 : Int32), vi (3 : Int32), vi (0 : Int32), un] [(.int (0 : Int32)), (.ref a1)] _
    refine X0.caload hx (j := (0 : Int32)) (v := (.int x0)) (by rw [e0]; exact Ar1.1) ia1 Ar1.2.2 hin1 hat1 (g := (mkF m 12 #[vr a1, vi (0 : Int32), vr a3, vi (0 : Int32), vi (3 : Int32), vi (0 : Int32), un] [(.int (0 : Int32)), (.ref a1)])) rfl rfl (hb hby d43_12) _ ?_
    show SS p e below m s₁ 13 #[vr a1, vi (0 : Int32), vr a3, vi (0 : Int32), vi (3 : Int32), vi (0 : Int32), un] [(.int x0)] _
    refine XS.istore X0.here hx rfl (hb hby d43_13) rfl (l' := #[vr a1, vi (0 : Int32), vr a3, vi (0 : Int32), vi (3 : Int32), vi (0 : Int32), vi x0]) rfl ?_
    show SS p e below m s₁ 15 #[vr a1, vi (0 : Int32), vr a3, vi (0 : Int32), vi (3 : Int32), vi (0 : Int32), vi x0] [] _
    refine XS.iload X0.here hx rfl (hb hby d43_15) rfl ?_
    show SS p e below m s₁ 17 #[vr a1, vi (0 : Int32), vr a3, vi (0 : Int32), vi (3 : Int32), vi (0 : Int32), vi x0] [(.int x0)] _
    refine XS.sipush X0.here hx rfl (hb hby d43_17) ?_
    show SS p e below m s₁ 20 #[vr a1, vi (0 : Int32), vr a3, vi (0 : Int32), vi (3 : Int32), vi (0 : Int32), vi x0] [(.int (255 : Int32)), (.int x0)] _
    refine XS.icmpYes X0.here hx rfl (pc0 := 20) (pc' := 26) rfl (hb hby d43_20) rfl (flt hx0).2.2.2 (by decide) (by decide) ?_
    show SS p e below m s₁ 26 #[vr a1, vi (0 : Int32), vr a3, vi (0 : Int32), vi (3 : Int32), vi (0 : Int32), vi x0] [] _
    refine XS.aloadN X0.here hx rfl (hb hby d43_26) rfl rfl ?_
    show SS p e below m s₁ 27 #[vr a1, vi (0 : Int32), vr a3, vi (0 : Int32), vi (3 : Int32), vi (0 : Int32), vi x0] [(.ref a3)] _
    refine XS.iloadN X0.here hx rfl (hb hby d43_27) rfl ?_
    show SS p e below m s₁ 28 #[vr a1, vi (0 : Int32), vr a3, vi (0 : Int32), vi (3 : Int32), vi (0 : Int32), vi x0] [(.int (0 : Int32)), (.ref a3)] _
    refine XS.iload X0.here hx rfl (hb hby d43_28) rfl ?_
    show SS p e below m s₁ 30 #[vr a1, vi (0 : Int32), vr a3, vi (0 : Int32), vi (3 : Int32), vi (0 : Int32), vi x0] [(.int x0), (.int (0 : Int32)), (.ref a3)] _
    refine XS.i2b X0.here hx rfl (hb hby d43_30) rfl ?_
    show SS p e below m s₁ 31 #[vr a1, vi (0 : Int32), vr a3, vi (0 : Int32), vi (3 : Int32), vi (0 : Int32), vi x0] [(.int (x0.toInt8.toInt32)), (.int (0 : Int32)), (.ref a3)] _
    refine st3 _ ?_
    show SS p e below m T3 32 #[vr a1, vi (0 : Int32), vr a3, vi (0 : Int32), vi (3 : Int32), vi (0 : Int32), vi x0] [] _
    refine XS.iinc X3.here hx rfl (hb hby d43_32) rfl (l' := #[vr a1, vi (1 : Int32), vr a3, vi (0 : Int32), vi (3 : Int32), vi (0 : Int32), vi x0]) rfl ?_
    show SS p e below m T3 35 #[vr a1, vi (1 : Int32), vr a3, vi (0 : Int32), vi (3 : Int32), vi (0 : Int32), vi x0] [] _
    refine XS.iinc X3.here hx rfl (hb hby d43_35) rfl (l' := #[vr a1, vi (1 : Int32), vr a3, vi (1 : Int32), vi (3 : Int32), vi (0 : Int32), vi x0]) rfl ?_
    show SS p e below m T3 38 #[vr a1, vi (1 : Int32), vr a3, vi (1 : Int32), vi (3 : Int32), vi (0 : Int32), vi x0] [] _
    refine XS.iinc X3.here hx rfl (hb hby d43_38) rfl (l' := #[vr a1, vi (1 : Int32), vr a3, vi (1 : Int32), vi (3 : Int32), vi (1 : Int32), vi x0]) rfl ?_
    show SS p e below m T3 41 #[vr a1, vi (1 : Int32), vr a3, vi (1 : Int32), vi (3 : Int32), vi (1 : Int32), vi x0] [] _
    refine XS.goto X3.here hx rfl (pc0 := 41) (pc' := 3) rfl (hb hby d43_41) (by decide) (by decide) ?_
    show SS p e below m T3 3 #[vr a1, vi (1 : Int32), vr a3, vi (1 : Int32), vi (3 : Int32), vi (1 : Int32), vi x0] [] _
    refine XS.iload X3.here hx rfl (hb hby d43_3) rfl ?_
    show SS p e below m T3 5 #[vr a1, vi (1 : Int32), vr a3, vi (1 : Int32), vi (3 : Int32), vi (1 : Int32), vi x0] [(.int (1 : Int32))] _
    refine XS.iload X3.here hx rfl (hb hby d43_5) rfl ?_
    show SS p e below m T3 7 #[vr a1, vi (1 : Int32), vr a3, vi (1 : Int32), vi (3 : Int32), vi (1 : Int32), vi x0] [(.int (3 : Int32)), (.int (1 : Int32))] _
    refine XS.icmpNo X3.here hx rfl (hb hby d43_7) rfl (tlt (by decide)).2.1 ?_
    show SS p e below m T3 10 #[vr a1, vi (1 : Int32), vr a3, vi (1 : Int32), vi (3 : Int32), vi (1 : Int32), vi x0] [] _
    refine XS.aloadN X3.here hx rfl (hb hby d43_10) rfl rfl ?_
    show SS p e below m T3 11 #[vr a1, vi (1 : Int32), vr a3, vi (1 : Int32), vi (3 : Int32), vi (1 : Int32), vi x0] [(.ref a1)] _
    refine XS.iloadN X3.here hx rfl (hb hby d43_11) rfl ?_
    show SS p e below m T3 12 #[vr a1, vi (1 : Int32), vr a3, vi (1 : Int32), vi (3 : Int32), vi (1 : Int32), vi x0] [(.int (1 : Int32)), (.ref a1)] _
    refine X3.caload hx (j := (1 : Int32)) (v := (.int x1)) (by rw [e3]; exact Ar4.1) ia4 Ar4.2.2 hin4 hat4 (g := (mkF m 12 #[vr a1, vi (1 : Int32), vr a3, vi (1 : Int32), vi (3 : Int32), vi (1 : Int32), vi x0] [(.int (1 : Int32)), (.ref a1)])) rfl rfl (hb hby d43_12) _ ?_
    show SS p e below m T3 13 #[vr a1, vi (1 : Int32), vr a3, vi (1 : Int32), vi (3 : Int32), vi (1 : Int32), vi x0] [(.int x1)] _
    refine XS.istore X3.here hx rfl (hb hby d43_13) rfl (l' := #[vr a1, vi (1 : Int32), vr a3, vi (1 : Int32), vi (3 : Int32), vi (1 : Int32), vi x1]) rfl ?_
    show SS p e below m T3 15 #[vr a1, vi (1 : Int32), vr a3, vi (1 : Int32), vi (3 : Int32), vi (1 : Int32), vi x1] [] _
    refine XS.iload X3.here hx rfl (hb hby d43_15) rfl ?_
    show SS p e below m T3 17 #[vr a1, vi (1 : Int32), vr a3, vi (1 : Int32), vi (3 : Int32), vi (1 : Int32), vi x1] [(.int x1)] _
    refine XS.sipush X3.here hx rfl (hb hby d43_17) ?_
    show SS p e below m T3 20 #[vr a1, vi (1 : Int32), vr a3, vi (1 : Int32), vi (3 : Int32), vi (1 : Int32), vi x1] [(.int (255 : Int32)), (.int x1)] _
    refine XS.icmpYes X3.here hx rfl (pc0 := 20) (pc' := 26) rfl (hb hby d43_20) rfl (flt hx1).2.2.2 (by decide) (by decide) ?_
    show SS p e below m T3 26 #[vr a1, vi (1 : Int32), vr a3, vi (1 : Int32), vi (3 : Int32), vi (1 : Int32), vi x1] [] _
    refine XS.aloadN X3.here hx rfl (hb hby d43_26) rfl rfl ?_
    show SS p e below m T3 27 #[vr a1, vi (1 : Int32), vr a3, vi (1 : Int32), vi (3 : Int32), vi (1 : Int32), vi x1] [(.ref a3)] _
    refine XS.iloadN X3.here hx rfl (hb hby d43_27) rfl ?_
    show SS p e below m T3 28 #[vr a1, vi (1 : Int32), vr a3, vi (1 : Int32), vi (3 : Int32), vi (1 : Int32), vi x1] [(.int (1 : Int32)), (.ref a3)] _
    refine XS.iload X3.here hx rfl (hb hby d43_28) rfl ?_
    show SS p e below m T3 30 #[vr a1, vi (1 : Int32), vr a3, vi (1 : Int32), vi (3 : Int32), vi (1 : Int32), vi x1] [(.int x1), (.int (1 : Int32)), (.ref a3)] _
    refine XS.i2b X3.here hx rfl (hb hby d43_30) rfl ?_
    show SS p e below m T3 31 #[vr a1, vi (1 : Int32), vr a3, vi (1 : Int32), vi (3 : Int32), vi (1 : Int32), vi x1] [(.int (x1.toInt8.toInt32)), (.int (1 : Int32)), (.ref a3)] _
    refine st6 _ ?_
    show SS p e below m T6 32 #[vr a1, vi (1 : Int32), vr a3, vi (1 : Int32), vi (3 : Int32), vi (1 : Int32), vi x1] [] _
    refine XS.iinc X6.here hx rfl (hb hby d43_32) rfl (l' := #[vr a1, vi (2 : Int32), vr a3, vi (1 : Int32), vi (3 : Int32), vi (1 : Int32), vi x1]) rfl ?_
    show SS p e below m T6 35 #[vr a1, vi (2 : Int32), vr a3, vi (1 : Int32), vi (3 : Int32), vi (1 : Int32), vi x1] [] _
    refine XS.iinc X6.here hx rfl (hb hby d43_35) rfl (l' := #[vr a1, vi (2 : Int32), vr a3, vi (2 : Int32), vi (3 : Int32), vi (1 : Int32), vi x1]) rfl ?_
    show SS p e below m T6 38 #[vr a1, vi (2 : Int32), vr a3, vi (2 : Int32), vi (3 : Int32), vi (1 : Int32), vi x1] [] _
    refine XS.iinc X6.here hx rfl (hb hby d43_38) rfl (l' := #[vr a1, vi (2 : Int32), vr a3, vi (2 : Int32), vi (3 : Int32), vi (2 : Int32), vi x1]) rfl ?_
    show SS p e below m T6 41 #[vr a1, vi (2 : Int32), vr a3, vi (2 : Int32), vi (3 : Int32), vi (2 : Int32), vi x1] [] _
    refine XS.goto X6.here hx rfl (pc0 := 41) (pc' := 3) rfl (hb hby d43_41) (by decide) (by decide) ?_
    show SS p e below m T6 3 #[vr a1, vi (2 : Int32), vr a3, vi (2 : Int32), vi (3 : Int32), vi (2 : Int32), vi x1] [] _
    refine XS.iload X6.here hx rfl (hb hby d43_3) rfl ?_
    show SS p e below m T6 5 #[vr a1, vi (2 : Int32), vr a3, vi (2 : Int32), vi (3 : Int32), vi (2 : Int32), vi x1] [(.int (2 : Int32))] _
    refine XS.iload X6.here hx rfl (hb hby d43_5) rfl ?_
    show SS p e below m T6 7 #[vr a1, vi (2 : Int32), vr a3, vi (2 : Int32), vi (3 : Int32), vi (2 : Int32), vi x1] [(.int (3 : Int32)), (.int (2 : Int32))] _
    refine XS.icmpNo X6.here hx rfl (hb hby d43_7) rfl (tlt (by decide)).2.1 ?_
    show SS p e below m T6 10 #[vr a1, vi (2 : Int32), vr a3, vi (2 : Int32), vi (3 : Int32), vi (2 : Int32), vi x1] [] _
    refine XS.aloadN X6.here hx rfl (hb hby d43_10) rfl rfl ?_
    show SS p e below m T6 11 #[vr a1, vi (2 : Int32), vr a3, vi (2 : Int32), vi (3 : Int32), vi (2 : Int32), vi x1] [(.ref a1)] _
    refine XS.iloadN X6.here hx rfl (hb hby d43_11) rfl ?_
    show SS p e below m T6 12 #[vr a1, vi (2 : Int32), vr a3, vi (2 : Int32), vi (3 : Int32), vi (2 : Int32), vi x1] [(.int (2 : Int32)), (.ref a1)] _
    refine X6.caload hx (j := (2 : Int32)) (v := (.int x2)) (by rw [e6]; exact Ar7.1) ia7 Ar7.2.2 hin7 hat7 (g := (mkF m 12 #[vr a1, vi (2 : Int32), vr a3, vi (2 : Int32), vi (3 : Int32), vi (2 : Int32), vi x1] [(.int (2 : Int32)), (.ref a1)])) rfl rfl (hb hby d43_12) _ ?_
    show SS p e below m T6 13 #[vr a1, vi (2 : Int32), vr a3, vi (2 : Int32), vi (3 : Int32), vi (2 : Int32), vi x1] [(.int x2)] _
    refine XS.istore X6.here hx rfl (hb hby d43_13) rfl (l' := #[vr a1, vi (2 : Int32), vr a3, vi (2 : Int32), vi (3 : Int32), vi (2 : Int32), vi x2]) rfl ?_
    show SS p e below m T6 15 #[vr a1, vi (2 : Int32), vr a3, vi (2 : Int32), vi (3 : Int32), vi (2 : Int32), vi x2] [] _
    refine XS.iload X6.here hx rfl (hb hby d43_15) rfl ?_
    show SS p e below m T6 17 #[vr a1, vi (2 : Int32), vr a3, vi (2 : Int32), vi (3 : Int32), vi (2 : Int32), vi x2] [(.int x2)] _
    refine XS.sipush X6.here hx rfl (hb hby d43_17) ?_
    show SS p e below m T6 20 #[vr a1, vi (2 : Int32), vr a3, vi (2 : Int32), vi (3 : Int32), vi (2 : Int32), vi x2] [(.int (255 : Int32)), (.int x2)] _
    refine XS.icmpYes X6.here hx rfl (pc0 := 20) (pc' := 26) rfl (hb hby d43_20) rfl (flt hx2).2.2.2 (by decide) (by decide) ?_
    show SS p e below m T6 26 #[vr a1, vi (2 : Int32), vr a3, vi (2 : Int32), vi (3 : Int32), vi (2 : Int32), vi x2] [] _
    refine XS.aloadN X6.here hx rfl (hb hby d43_26) rfl rfl ?_
    show SS p e below m T6 27 #[vr a1, vi (2 : Int32), vr a3, vi (2 : Int32), vi (3 : Int32), vi (2 : Int32), vi x2] [(.ref a3)] _
    refine XS.iloadN X6.here hx rfl (hb hby d43_27) rfl ?_
    show SS p e below m T6 28 #[vr a1, vi (2 : Int32), vr a3, vi (2 : Int32), vi (3 : Int32), vi (2 : Int32), vi x2] [(.int (2 : Int32)), (.ref a3)] _
    refine XS.iload X6.here hx rfl (hb hby d43_28) rfl ?_
    show SS p e below m T6 30 #[vr a1, vi (2 : Int32), vr a3, vi (2 : Int32), vi (3 : Int32), vi (2 : Int32), vi x2] [(.int x2), (.int (2 : Int32)), (.ref a3)] _
    refine XS.i2b X6.here hx rfl (hb hby d43_30) rfl ?_
    show SS p e below m T6 31 #[vr a1, vi (2 : Int32), vr a3, vi (2 : Int32), vi (3 : Int32), vi (2 : Int32), vi x2] [(.int (x2.toInt8.toInt32)), (.int (2 : Int32)), (.ref a3)] _
    refine st9 _ ?_
    show SS p e below m T9 32 #[vr a1, vi (2 : Int32), vr a3, vi (2 : Int32), vi (3 : Int32), vi (2 : Int32), vi x2] [] _
    refine XS.iinc X9.here hx rfl (hb hby d43_32) rfl (l' := #[vr a1, vi (3 : Int32), vr a3, vi (2 : Int32), vi (3 : Int32), vi (2 : Int32), vi x2]) rfl ?_
    show SS p e below m T9 35 #[vr a1, vi (3 : Int32), vr a3, vi (2 : Int32), vi (3 : Int32), vi (2 : Int32), vi x2] [] _
    refine XS.iinc X9.here hx rfl (hb hby d43_35) rfl (l' := #[vr a1, vi (3 : Int32), vr a3, vi (3 : Int32), vi (3 : Int32), vi (2 : Int32), vi x2]) rfl ?_
    show SS p e below m T9 38 #[vr a1, vi (3 : Int32), vr a3, vi (3 : Int32), vi (3 : Int32), vi (2 : Int32), vi x2] [] _
    refine XS.iinc X9.here hx rfl (hb hby d43_38) rfl (l' := #[vr a1, vi (3 : Int32), vr a3, vi (3 : Int32), vi (3 : Int32), vi (3 : Int32), vi x2]) rfl ?_
    show SS p e below m T9 41 #[vr a1, vi (3 : Int32), vr a3, vi (3 : Int32), vi (3 : Int32), vi (3 : Int32), vi x2] [] _
    refine XS.goto X9.here hx rfl (pc0 := 41) (pc' := 3) rfl (hb hby d43_41) (by decide) (by decide) ?_
    show SS p e below m T9 3 #[vr a1, vi (3 : Int32), vr a3, vi (3 : Int32), vi (3 : Int32), vi (3 : Int32), vi x2] [] _
    refine XS.iload X9.here hx rfl (hb hby d43_3) rfl ?_
    show SS p e below m T9 5 #[vr a1, vi (3 : Int32), vr a3, vi (3 : Int32), vi (3 : Int32), vi (3 : Int32), vi x2] [(.int (3 : Int32))] _
    refine XS.iload X9.here hx rfl (hb hby d43_5) rfl ?_
    show SS p e below m T9 7 #[vr a1, vi (3 : Int32), vr a3, vi (3 : Int32), vi (3 : Int32), vi (3 : Int32), vi x2] [(.int (3 : Int32)), (.int (3 : Int32))] _
    refine XS.icmpYes X9.here hx rfl (pc0 := 7) (pc' := 44) rfl (hb hby d43_7) rfl (flt (by decide)).2.1 (by decide) (by decide) ?_
    show SS p e below m T9 44 #[vr a1, vi (3 : Int32), vr a3, vi (3 : Int32), vi (3 : Int32), vi (3 : Int32), vi x2] [] _
    refine XS.iload X9.here hx rfl (hb hby d43_44) rfl ?_
    show SS p e below m T9 46 #[vr a1, vi (3 : Int32), vr a3, vi (3 : Int32), vi (3 : Int32), vi (3 : Int32), vi x2] [(.int (3 : Int32))] _
    exact retI X9 hx Bd.returns (hb hby d43_46) hr
  · show Q_rm_cmp3 Z a1 a3 kc kb x0 x1 x2 h0 n0 _ T9.heap _
    rw [e9]
    exact ⟨rfl, N9, KC, Vm9⟩
theorem ef_rm_cm3 (m : MethodId) (x0 : Addr) (x1 : Int32) (x2 : Int32) : entryFrame m #[(.ref x0), (.int x1), (.int x2)] 6 = mkF m 0 #[vr x0, vi x1, vi x2, .unset, .unset, .unset] [] := by first | (simp [entryFrame, mkF, argsToLocals, Value.category]; done) | rfl
def Q_rm_cm3 (Z : State) (a1 : Addr) (kc : ClassId) (x0 : Int32) (x1 : Int32) (x2 : Int32) (h0 : Heap) (n0 : Nat) (v : Option Value) (h : Heap) (L : List Loc) : Prop := ∃ tz : Addr, ∃ kb : ClassId, (v = some (.ref tz)) ∧ (Fr n0 L) ∧ (Keep h0 h []) ∧ (h0.size ≤ tz) ∧ (Arv Z h tz kb .byte (3 : Int32) [(.int (own_b x0)), (.int (own_b x1)), (.int (own_b x2))] (.int (0 : Int32)))
set_option maxRecDepth 65536 in
set_option maxHeartbeats 40000000 in
theorem rm_cm3 (l : Launch) (Z : State) (a0 : Array Value) (hw : ∀ d ∈ tables_1, d.before a0 Z = true) (ws : List Jvm.Cond) (a1 : Addr) (kc : ClassId) (x0 : Int32) (x1 : Int32) (x2 : Int32) (h0 : Heap) (n0 : Nat) (Z0 : n0 ≤ h0.size) (O0 : Old Z n0 h0) (V_a1 : Arv Z h0 a1 kc .char (3 : Int32) [(.int x0), (.int x1), (.int x2)] (.int (0 : Int32))) (hx0 : ¬ (255 : Int32) < x0) (hx1 : ¬ (255 : Int32) < x1) (hx2 : ¬ (255 : Int32) < x2) :
    MetFree l y_30 (head1 (Jvm.Cond.code y_30 jdk_52_method_16_code 6 (some (.array .byte)) :: ws) ({ frames := 1, cells := 1, slots := 3, locals := 18 } : Room)) (fun a U => a = #[(.ref a1), (.int (0 : Int32)), (.int (3 : Int32))] ∧ Z.Warmed39 U.vm ∧ U.heap = h0) (fun _ _ _ _ _ => True) (fun _ U o U' => ∃ v L, o = .returned v ∧ Q_rm_cm3 Z a1 kc x0 x1 x2 h0 n0 v U'.heap L ∧ FrameEnd U o U' L ({ frames := 1, cells := 1, slots := 3, locals := 18 } : Room).cells ({ frames := 1, cells := 1, slots := 3, locals := 18 } : Room).slots) := by
  refine MetFree.of_bodySF (plainFor_of_name pn_7) hisR ?_
  intro p e s m args below meth c s₁ Bd hml0 hP hK
  obtain ⟨rfl, hZ, hh⟩ := hP
  have hx := Bd.exec
  have hby := Bd.bytes
  have hml : c.maxLocals = 6 := hml0
  have hown : s.vm.findClass "java/lang/StringUTF16" = some m.cls := findClass_of_methodNamed Bd.named
  have hnm := (name_of_methodNamed Bd.named Bd.method).1
  have X0 : Stand p l e ({ frames := 1, cells := 1, slots := 3, locals := 18 } : Room) s m #[(.ref a1), (.int (0 : Int32)), (.int (3 : Int32))] below meth c s₁ [] 0 0 := Stand.of_body Bd
  have e0 : s₁.heap = h0 := by rw [← hh, Bd.state]; rfl
  have N0 := Fr.nil n0
  have KC : Keep h0 h0 [] := Keep.refl h0 _
  have pre0 : ∀ t, Steps p.tables e below (s₁.setTop (mkF m 0 #[vr a1, vi (0 : Int32), vi (3 : Int32), un, un, un] [])) t → Steps p.tables e below (s₁.setTop (entryFrame m #[(.ref a1), (.int (0 : Int32)), (.int (3 : Int32))] 6)) t := fun t k => castTop (ef_rm_cm3 m a1 (0 : Int32) (3 : Int32)) k
  obtain ⟨T1, h1, k1, X1, e1, E1, A1, st1⟩ := newP X0 hx hZ (ww hw 15 rfl) e0 (g := (mkF m 1 #[vr a1, vi (0 : Int32), vi (3 : Int32), un, un, un] [(.int (3 : Int32))])) rfl (hb hby d42_1) rfl (by decide) (cap := 3) (by decide) (by decide) (by decide) (by decide)
  obtain ⟨b1, g1⟩ : ∃ z, z = h0.size := ⟨_, rfl⟩
  rw [← g1] at A1 st1
  have ne_a1_b1 : a1 ≠ b1 := Nat.ne_of_lt (Nat.lt_of_lt_of_le V_a1.lt (Nat.le_of_eq g1.symm))
  have g_b1 : n0 ≤ b1 := Nat.le_trans (Nat.le_trans Z0 KC.1) (Nat.le_of_eq g1.symm)
  have sz_b1 : h0.size ≤ b1 := Nat.le_trans KC.1 (Nat.le_of_eq g1.symm)
  replace V_a1 := V_a1.ext E1
  replace O0 := O0.ext E1
  replace KC := KC.ext E1
  have V_b1 : Arv Z h1 b1 k1 .byte (3 : Int32) [(.int (0 : Int32)), (.int (0 : Int32)), (.int (0 : Int32))] (.int (0 : Int32)) := (Arv.new A1 (by decide)).pad (pad_rep [] (.int (0 : Int32)) 3)
  obtain ⟨_, _, ⟨T2, L2, kz2, nz2⟩, -, X2, ⟨Lc2, hQ2, l2, y2, z2⟩, st2⟩ := Jvm.LawKit.callS X1 hx (y := y_29) hown (mvT hZ (ww hw 233 rfl)) (mvT hZ (ww hw 234 rfl)) (mvT hZ (ww hw 231 rfl)) (mvT hZ (ww hw 235 rfl)) (by decide) (backOf (W := 0) (rm_cmp3 l Z a0 hw [] a1 b1 kc k1 x0 x1 x2 h1 n0 (Nat.le_trans Z0 KC.1) O0 V_a1 V_b1 g_b1 ne_a1_b1 hx0 hx1 hx2) hZ (ww hw 235 rfl) (ww hw 231 rfl) (by decide) (by decide)) (g := (mkF m 9 #[vr a1, vi (0 : Int32), vi (3 : Int32), vr b1, un, un] [(.int (3 : Int32)), (.int (0 : Int32)), (.ref b1), (.int (0 : Int32)), (.ref a1)])) rfl (by rw [hml]; rfl) (argsL := [(.ref a1), (.int (0 : Int32)), (.ref b1), (.int (0 : Int32)), (.int (3 : Int32))]) (rest := []) (lenOf pd_17 rfl) rfl (by show 2 * 0 + _ ≤ _; exact Nat.le_of_eq rfl) (hb hby d42_9) (fun _ _ => ⟨rfl, e1, (by decide : 1 + 0 ≤ _), (by decide : 3 + 0 ≤ _)⟩)
  dsimp only [Pt.U, Pt.locs, Pt.cells, Pt.slots] at X2 l2 y2 z2 st2 hQ2
  subst l2 y2 z2
  obtain ⟨rfl, N2q, K2, V_a3_2⟩ := hQ2
  have N2 := Fr.app N0 N2q
  replace V_a1 := V_a1.keep K2 (ninS ne_a1_b1 nin0)
  replace O0 := O0.keep K2 (allS g_b1 all0)
  replace KC := KC.trans K2 (allS (Or.inr sz_b1) all0)
  obtain ⟨fs, hr, hrun, hended, hW, hsame⟩ := X2.leave (v := some (.ref b1)) (fun h => by rw [Bd.returns] at h; cases h)
  refine ⟨_, _, pre0 _ ?_, hrun, hended, _, _, rfl, ?_, ⟨_, rfl⟩, hW, hsame.mono (by decide) (by decide)⟩
  · show SS p e below m s₁ 0 #[vr a1, vi (0 : Int32), vi (3 : Int32), un, un, un] [] _
    refine XS.iloadN X0.here hx rfl (hb hby d42_0) rfl ?_
    show SS p e below m s₁ 1 #[vr a1, vi (0 : Int32), vi (3 : Int32), un, un, un] [(.int (3 : Int32))] _
    refine st1 _ ?_
    show SS p e below m T1 3 #[vr a1, vi (0 : Int32), vi (3 : Int32), un, un, un] [(.ref b1)] _
    refine XS.astoreN X1.here hx rfl (hb hby d42_3) rfl rfl (l' := #[vr a1, vi (0 : Int32), vi (3 : Int32), vr b1, un, un]) rfl ?_
    show SS p e below m T1 4 #[vr a1, vi (0 : Int32), vi (3 : Int32), vr b1, un, un] [] _
    refine XS.aloadN X1.here hx rfl (hb hby d42_4) rfl rfl ?_
    show SS p e below m T1 5 #[vr a1, vi (0 : Int32), vi (3 : Int32), vr b1, un, un] [(.ref a1)] _
    refine XS.iloadN X1.here hx rfl (hb hby d42_5) rfl ?_
    show SS p e below m T1 6 #[vr a1, vi (0 : Int32), vi (3 : Int32), vr b1, un, un] [(.int (0 : Int32)), (.ref a1)] _
    refine XS.aloadN X1.here hx rfl (hb hby d42_6) rfl rfl ?_
    show SS p e below m T1 7 #[vr a1, vi (0 : Int32), vi (3 : Int32), vr b1, un, un] [(.ref b1), (.int (0 : Int32)), (.ref a1)] _
    refine XS.iconst X1.here hx rfl (hb hby d42_7) ?_
    show SS p e below m T1 8 #[vr a1, vi (0 : Int32), vi (3 : Int32), vr b1, un, un] [(.int (0 : Int32)), (.ref b1), (.int (0 : Int32)), (.ref a1)] _
    refine XS.iloadN X1.here hx rfl (hb hby d42_8) rfl ?_
    show SS p e below m T1 9 #[vr a1, vi (0 : Int32), vi (3 : Int32), vr b1, un, un] [(.int (3 : Int32)), (.int (0 : Int32)), (.ref b1), (.int (0 : Int32)), (.ref a1)] _
    refine st2 _ ?_
    show SS p e below m T2 12 #[vr a1, vi (0 : Int32), vi (3 : Int32), vr b1, un, un] [(.int (3 : Int32))] _
    refine XS.istore X2.here hx rfl (hb hby d42_12) rfl (l' := #[vr a1, vi (0 : Int32), vi (3 : Int32), vr b1, vi (3 : Int32), un]) rfl ?_
    show SS p e below m T2 14 #[vr a1, vi (0 : Int32), vi (3 : Int32), vr b1, vi (3 : Int32), un] [] _
    refine XS.iload X2.here hx rfl (hb hby d42_14) rfl ?_
    show SS p e below m T2 16 #[vr a1, vi (0 : Int32), vi (3 : Int32), vr b1, vi (3 : Int32), un] [(.int (3 : Int32))] _
    refine XS.iloadN X2.here hx rfl (hb hby d42_16) rfl ?_
    show SS p e below m T2 17 #[vr a1, vi (0 : Int32), vi (3 : Int32), vr b1, vi (3 : Int32), un] [(.int (3 : Int32)), (.int (3 : Int32))] _
    refine XS.icmpYes X2.here hx rfl (pc0 := 17) (pc' := 57) rfl (hb hby d42_17) rfl (teq (by decide)).1 (by decide) (by decide) ?_
    show SS p e below m T2 57 #[vr a1, vi (0 : Int32), vi (3 : Int32), vr b1, vi (3 : Int32), un] [] _
    refine XS.aloadN X2.here hx rfl (hb hby d42_57) rfl rfl ?_
    show SS p e below m T2 58 #[vr a1, vi (0 : Int32), vi (3 : Int32), vr b1, vi (3 : Int32), un] [(.ref b1)] _
    jvm_step X2.here [X2.here.top, hx, (hb hby d42_58), X2.method', Bd.returns, Value.isRef, FieldType.isReference]
    first | (intro acts; rw [hr _ acts rfl rfl rfl]) | rw [hr _ _ rfl rfl rfl]
    exact Steps.refl _
  · show Q_rm_cm3 Z a1 kc x0 x1 x2 h0 n0 _ T2.heap _
    exact ⟨b1, k1, rfl, N2, KC, sz_b1, V_a3_2⟩
theorem ef_rm_cf3 (m : MethodId) (x0 : Addr) (x1 : Int32) : entryFrame m #[(.ref x0), (.int x1)] 2 = mkF m 0 #[vr x0, vi x1] [] := by first | (simp [entryFrame, mkF, argsToLocals, Value.category]; done) | rfl
def Q_rm_cf3 (Z : State) (a1 : Addr) (kb : ClassId) (vs : List Value) (h0 : Heap) (n0 : Nat) (v : Option Value) (h : Heap) (L : List Loc) : Prop := (v = some (.int (0 : Int32))) ∧ (Fr n0 L) ∧ (h = h0)
set_option maxRecDepth 65536 in
set_option maxHeartbeats 40000000 in
theorem rm_cf3 (l : Launch) (Z : State) (a0 : Array Value) (hw : ∀ d ∈ tables_1, d.before a0 Z = true) (ws : List Jvm.Cond) (a1 : Addr) (kb : ClassId) (vs : List Value) (h0 : Heap) (n0 : Nat) (Z0 : n0 ≤ h0.size) (O0 : Old Z n0 h0) (V_a1 : Arv Z h0 a1 kb .byte (3 : Int32) vs (.int (0 : Int32))) :
    MetFree l y_31 (head1 (Jvm.Cond.code y_31 jdk_52_method_15_code 2 (some .byte) :: ws) ({ frames := 0, cells := 0, slots := 0, locals := 0 } : Room)) (fun a U => a = #[(.ref a1), (.int (3 : Int32))] ∧ Z.Warmed39 U.vm ∧ U.heap = h0) (fun _ _ _ _ _ => True) (fun _ U o U' => ∃ v L, o = .returned v ∧ Q_rm_cf3 Z a1 kb vs h0 n0 v U'.heap L ∧ FrameEnd U o U' L ({ frames := 0, cells := 0, slots := 0, locals := 0 } : Room).cells ({ frames := 0, cells := 0, slots := 0, locals := 0 } : Room).slots) := by
  refine MetFree.of_bodySF (plainFor_of_name pn_7) hisR ?_
  intro p e s m args below meth c s₁ Bd hml0 hP hK
  obtain ⟨rfl, hZ, hh⟩ := hP
  have hx := Bd.exec
  have hby := Bd.bytes
  have hml : c.maxLocals = 2 := hml0
  have hown : s.vm.findClass "java/lang/StringUTF16" = some m.cls := findClass_of_methodNamed Bd.named
  have hnm := (name_of_methodNamed Bd.named Bd.method).1
  have X0 : Stand p l e ({ frames := 0, cells := 0, slots := 0, locals := 0 } : Room) s m #[(.ref a1), (.int (3 : Int32))] below meth c s₁ [] 0 0 := Stand.of_body Bd
  have e0 : s₁.heap = h0 := by rw [← hh, Bd.state]; rfl
  have N0 := Fr.nil n0
  have KC : Keep h0 h0 [] := Keep.refl h0 _
  have pre0 : ∀ t, Steps p.tables e below (s₁.setTop (mkF m 0 #[vr a1, vi (3 : Int32)] [])) t → Steps p.tables e below (s₁.setTop (entryFrame m #[(.ref a1), (.int (3 : Int32))] 2)) t := fun t k => castTop (ef_rm_cf3 m a1 (3 : Int32)) k
  have Vo1 := V_a1
  obtain ⟨cl1, Ar1, -, Sz1, Nn1, -, -⟩ := Vo1
  have ia1 := State.isArrayOf_alike hZ.alike Ar1.2.1
  obtain ⟨fs, hr, hrun, hended, hW, hsame⟩ := X0.leave (v := some (.int (nar .byte ((((0 : Int32).toUInt32 >>> ((31 : Int32) &&& 31).toUInt32).toInt32).toInt8.toInt32)))) (fun h => by rw [Bd.returns] at h; cases h)
  refine ⟨_, _, pre0 _ ?_, hrun, hended, _, _, rfl, ?_, ⟨_, rfl⟩, hW, hsame.mono (by decide) (by decide)⟩
  · show SS p e below m s₁ 0 #[vr a1, vi (3 : Int32)] [] _
    refine XS.iloadN X0.here hx rfl (hb hby d44_0) rfl ?_
    show SS p e below m s₁ 1 #[vr a1, vi (3 : Int32)] [(.int (3 : Int32))] _
    refine XS.aloadN X0.here hx rfl (hb hby d44_1) rfl rfl ?_
    show SS p e below m s₁ 2 #[vr a1, vi (3 : Int32)] [(.ref a1), (.int (3 : Int32))] _
    refine X0.arraylength hx (by rw [e0]; exact Ar1.1) ia1 (g := (mkF m 2 #[vr a1, vi (3 : Int32)] [(.ref a1), (.int (3 : Int32))])) rfl rfl (hb hby d44_2) _ ?_
    rw [len_of Sz1 Nn1]
    show SS p e below m s₁ 3 #[vr a1, vi (3 : Int32)] [(.int (3 : Int32)), (.int (3 : Int32))] _
    refine XS.isub X0.here hx rfl (hb hby d44_3) rfl ?_
    show SS p e below m s₁ 4 #[vr a1, vi (3 : Int32)] [(.int (0 : Int32))] _
    refine XS.bipush X0.here hx rfl (hb hby d44_4) ?_
    show SS p e below m s₁ 6 #[vr a1, vi (3 : Int32)] [(.int (31 : Int32)), (.int (0 : Int32))] _
    refine XS.iushr X0.here hx rfl (hb hby d44_6) rfl ?_
    show SS p e below m s₁ 7 #[vr a1, vi (3 : Int32)] [(.int (((0 : Int32).toUInt32 >>> ((31 : Int32) &&& 31).toUInt32).toInt32))] _
    refine XS.i2b X0.here hx rfl (hb hby d44_7) rfl ?_
    show SS p e below m s₁ 8 #[vr a1, vi (3 : Int32)] [(.int ((((0 : Int32).toUInt32 >>> ((31 : Int32) &&& 31).toUInt32).toInt32).toInt8.toInt32))] _
    exact retN X0 hx (t := .byte) Bd.returns (by simp) (hb hby d44_8) hr
  · show Q_rm_cf3 Z a1 kb vs h0 n0 _ s₁.heap _
    rw [e0]
    exact ⟨(by decide), N0, rfl⟩
theorem ef_rm_i43 (m : MethodId) (x0 : Addr) (x1 : Addr) (x2 : Int32) (x3 : Int32) : entryFrame m #[(.ref x0), (.ref x1), (.int x2), (.int x3), .null] 6 = mkF m 0 #[vr x0, vr x1, vi x2, vi x3, vN, .unset] [] := by first | (simp [entryFrame, mkF, argsToLocals, Value.category]; done) | rfl
def Q_rm_i43 (Z : State) (a1 : Addr) (a2 : Addr) (kc : ClassId) (x0 : Int32) (x1 : Int32) (x2 : Int32) (zc : Int32) (h0 : Heap) (n0 : Nat) (v : Option Value) (h : Heap) (L : List Loc) : Prop := ∃ tz : Addr, ∃ kb : ClassId, (v = none) ∧ (Fr n0 L) ∧ (Keep h0 h [a1]) ∧ (h0.size ≤ tz) ∧ (Fld Z h a1 "java/lang/String" "value" "[B" (.ref tz)) ∧ (Fld Z h a1 "java/lang/String" "coder" "B" (.int (0 : Int32))) ∧ (Arv Z h tz kb .byte (3 : Int32) [(.int (own_b x0)), (.int (own_b x1)), (.int (own_b x2))] (.int (0 : Int32)))
set_option maxRecDepth 65536 in
set_option maxHeartbeats 40000000 in
theorem rm_i43 (l : Launch) (Z : State) (a0 : Array Value) (hw : ∀ d ∈ tables_1, d.before a0 Z = true) (ws : List Jvm.Cond) (a1 : Addr) (a2 : Addr) (kc : ClassId) (x0 : Int32) (x1 : Int32) (x2 : Int32) (zc : Int32) (h0 : Heap) (n0 : Nat) (Z0 : n0 ≤ h0.size) (O0 : Old Z n0 h0) (F_value_a1 : Fld Z h0 a1 "java/lang/String" "value" "[B" .null) (F_coder_a1 : Fld Z h0 a1 "java/lang/String" "coder" "B" (.int (0 : Int32))) (E_a1 : Exa Z h0 a1 "java/lang/String") (g_a1 : n0 ≤ a1) (V_a2 : Arv Z h0 a2 kc .char (3 : Int32) [(.int x0), (.int x1), (.int x2)] (.int (0 : Int32))) (S_CS : Sta Z Z.heap "java/lang/String" "COMPACT_STRINGS" "Z" (.int zc)) (hz : ¬ zc = (0 : Int32)) (hx0 : ¬ (255 : Int32) < x0) (hx1 : ¬ (255 : Int32) < x1) (hx2 : ¬ (255 : Int32) < x2) :
    MetFree l y_27 (head1 (Jvm.Cond.code y_27 jdk_42_method_149_code 6 none :: ws) ({ frames := 2, cells := 1, slots := 3, locals := 35 } : Room)) (fun a U => a = #[(.ref a1), (.ref a2), (.int (0 : Int32)), (.int (3 : Int32)), .null] ∧ Z.Warmed39 U.vm ∧ U.heap = h0) (fun _ _ _ _ _ => True) (fun _ U o U' => ∃ v L, o = .returned v ∧ Q_rm_i43 Z a1 a2 kc x0 x1 x2 zc h0 n0 v U'.heap L ∧ FrameEnd U o U' L ({ frames := 2, cells := 1, slots := 3, locals := 35 } : Room).cells ({ frames := 2, cells := 1, slots := 3, locals := 35 } : Room).slots) := by
  refine MetFree.of_bodySF (plainFor_of_name pn_0) hisR ?_
  intro p e s m args below meth c s₁ Bd hml0 hP hK
  obtain ⟨rfl, hZ, hh⟩ := hP
  have hx := Bd.exec
  have hby := Bd.bytes
  have hml : c.maxLocals = 6 := hml0
  have hown : s.vm.findClass "java/lang/String" = some m.cls := findClass_of_methodNamed Bd.named
  have hnm := (name_of_methodNamed Bd.named Bd.method).1
  have X0 : Stand p l e ({ frames := 2, cells := 1, slots := 3, locals := 35 } : Room) s m #[(.ref a1), (.ref a2), (.int (0 : Int32)), (.int (3 : Int32)), .null] below meth c s₁ [] 0 0 := Stand.of_body Bd
  have e0 : s₁.heap = h0 := by rw [← hh, Bd.state]; rfl
  have N0 := Fr.nil n0
  have KC : Keep h0 h0 [a1] := Keep.refl h0 _
  have pre0 : ∀ t, Steps p.tables e below (s₁.setTop (mkF m 0 #[vr a1, vr a2, vi (0 : Int32), vi (3 : Int32), vN, un] [])) t → Steps p.tables e below (s₁.setTop (entryFrame m #[(.ref a1), (.ref a2), (.int (0 : Int32)), (.int (3 : Int32)), .null] 6)) t := fun t k => castTop (ef_rm_i43 m a1 a2 (0 : Int32) (3 : Int32)) k
  obtain ⟨T1, X1, e1, st1⟩ := initO X0 hx hZ hown (ww hw 11 rfl) (ww hw 12 rfl) (ww hw 13 rfl) e0 (g := (mkF m 1 #[vr a1, vr a2, vi (0 : Int32), vi (3 : Int32), vN, un] [(.ref a1)])) rfl (by rw [hml]; rfl) rfl (hb hby d2_1) (by decide) (W := 0) (by show 2 * 0 + _ ≤ _; exact Nat.le_of_eq rfl) (by decide)
  obtain ⟨T2, X2, e2, st2⟩ := getS2 X1 hx hZ hown (host := "") (Or.inl (ww hw 42 rfl)) Via.refl e1 (S_CS.ext O0.2) (g := (mkF m 27 #[vr a1, vr a2, vi (0 : Int32), vi (3 : Int32), vN, un] [])) rfl (hb hby d2_27)
  obtain ⟨_, _, ⟨T3, L3, kz3, nz3⟩, -, X3, ⟨Lc3, hQ3, l3, y3, z3⟩, st3⟩ := Jvm.LawKit.callS X2 hx (y := y_30) hown (mvT hZ (ww hw 229 rfl)) (mvT hZ (ww hw 230 rfl)) (mvT hZ (ww hw 231 rfl)) (mvT hZ (ww hw 232 rfl)) (by decide) (backOf (W := 0) (rm_cm3 l Z a0 hw [] a2 kc x0 x1 x2 h0 n0 (Nat.le_trans Z0 KC.1) O0 V_a2 hx0 hx1 hx2) hZ (ww hw 232 rfl) (ww hw 231 rfl) (by decide) (by decide)) (g := (mkF m 36 #[vr a1, vr a2, vi (0 : Int32), vi (3 : Int32), vN, un] [(.int (3 : Int32)), (.int (0 : Int32)), (.ref a2)])) rfl (by rw [hml]; rfl) (argsL := [(.ref a2), (.int (0 : Int32)), (.int (3 : Int32))]) (rest := []) (lenOf pd_18 rfl) rfl (by show 2 * 0 + _ ≤ _; exact Nat.le_of_eq rfl) (hb hby d2_36) (fun _ _ => ⟨rfl, e2, (by decide : 0 + 1 ≤ _), (by decide : 0 + 3 ≤ _)⟩)
  dsimp only [Pt.U, Pt.locs, Pt.cells, Pt.slots] at X3 l3 y3 z3 st3 hQ3
  subst l3 y3 z3
  obtain ⟨b3_tz, kb_3, rfl, N3q, K3, sz_b3_tz, V_tz_3⟩ := hQ3
  have N3 := Fr.app N0 N3q
  have ne_a1_b3_tz : a1 ≠ b3_tz := Nat.ne_of_lt (Nat.lt_of_lt_of_le F_value_a1.lt sz_b3_tz)
  have ne_a2_b3_tz : a2 ≠ b3_tz := Nat.ne_of_lt (Nat.lt_of_lt_of_le V_a2.lt sz_b3_tz)
  have g_b3_tz : n0 ≤ b3_tz := Nat.le_trans (Nat.le_trans Z0 KC.1) sz_b3_tz
  replace sz_b3_tz : h0.size ≤ b3_tz := Nat.le_trans KC.1 sz_b3_tz
  replace F_value_a1 := F_value_a1.keep K3 nin0
  replace F_coder_a1 := F_coder_a1.keep K3 nin0
  replace E_a1 := E_a1.keep K3
  replace V_a2 := V_a2.keep K3 nin0
  replace O0 := O0.keep K3 all0
  replace KC := KC.trans K3 all0
  obtain ⟨_, _, ⟨T4, L4, kz4, nz4⟩, -, X4, ⟨Lc4, hQ4, l4, y4, z4⟩, st4⟩ := Jvm.LawKit.callS X3 hx (y := y_31) hown (mvT hZ (ww hw 236 rfl)) (mvT hZ (ww hw 237 rfl)) (mvT hZ (ww hw 231 rfl)) (mvT hZ (ww hw 238 rfl)) (by decide) (backOf (W := 1) (rm_cf3 l Z a0 hw [] b3_tz kb_3 [(.int (own_b x0)), (.int (own_b x1)), (.int (own_b x2))] T3.heap n0 (Nat.le_trans Z0 KC.1) O0 V_tz_3) hZ (ww hw 238 rfl) (ww hw 231 rfl) (by decide) (by decide)) (g := (mkF m 45 #[vr a1, vr a2, vi (0 : Int32), vi (3 : Int32), vN, vr b3_tz] [(.int (3 : Int32)), (.ref b3_tz), (.ref a1)])) rfl (by rw [hml]; rfl) (argsL := [(.ref b3_tz), (.int (3 : Int32))]) (rest := [(.ref a1)]) (lenOf pd_19 rfl) rfl (by show 2 * 0 + _ ≤ _; exact Nat.le_of_eq rfl) (hb hby d2_45) (fun _ _ => ⟨rfl, rfl, (by decide : 1 + 0 ≤ _), (by decide : 3 + 0 ≤ _)⟩)
  dsimp only [Pt.U, Pt.locs, Pt.cells, Pt.slots] at X4 l4 y4 z4 st4 hQ4
  subst l4 y4 z4
  obtain ⟨rfl, N4q, e4⟩ := hQ4
  have N4 := Fr.app N3 N4q
  obtain ⟨T5, h5, X5, e5, W5, st5⟩ := putFN X4 hx hZ hown (ww hw 21 rfl) Via.refl e4 F_coder_a1 E_a1 (Or.inr ⟨(ww hw 17 rfl), rfl, hnm⟩) (ww hw 2 rfl) (ty := .byte) (v' := .int (0 : Int32)) (by decide) rfl rfl (g := (mkF m 48 #[vr a1, vr a2, vi (0 : Int32), vi (3 : Int32), vN, vr b3_tz] [(.int (0 : Int32)), (.ref a1)])) rfl rfl (hb hby d2_48)
  have N5 := Fr.snoc X5 N4 g_a1
  replace F_coder_a1 := F_coder_a1.same W5
  have nev_a1_a2 : a1 ≠ a2 := Exa.neArv E_a1 V_a2 (ww hw 2 rfl)
  replace F_value_a1 := F_value_a1.other W5 (Or.inr (slot_ne (Or.inr (ww hw 16 rfl)) (Or.inr (ww hw 17 rfl)) (by decide) (t := (.array .byte)) (t' := .byte) (by decide) (by decide)))
  replace E_a1 := E_a1.wr W5
  replace V_a2 := V_a2.other W5 (Ne.symm nev_a1_a2)
  replace V_tz_3 := V_tz_3.other W5 (Ne.symm ne_a1_b3_tz)
  replace O0 := O0.wr W5 g_a1
  replace KC := KC.wr W5 (Or.inl (List.mem_of_getElem? (i := 0) rfl))
  obtain ⟨T6, h6, X6, e6, W6, st6⟩ := putF X5 hx hZ hown (host := "") (Or.inl (ww hw 20 rfl)) Via.refl e5 F_value_a1 E_a1 (Or.inr ⟨(ww hw 16 rfl), rfl, hnm⟩) (ww hw 2 rfl) (ty := (.array .byte)) (by decide) rfl rfl (g := (mkF m 54 #[vr a1, vr a2, vi (0 : Int32), vi (3 : Int32), vN, vr b3_tz] [(.ref b3_tz), (.ref a1)])) rfl rfl (hb hby d2_54)
  have N6 := Fr.snoc X6 N5 g_a1
  replace F_value_a1 := F_value_a1.same W6
  replace F_coder_a1 := F_coder_a1.other W6 (Or.inr (slot_ne (Or.inr (ww hw 17 rfl)) (Or.inr (ww hw 16 rfl)) (by decide) (t := .byte) (t' := (.array .byte)) (by decide) (by decide)))
  replace E_a1 := E_a1.wr W6
  replace V_a2 := V_a2.other W6 (Ne.symm nev_a1_a2)
  replace V_tz_3 := V_tz_3.other W6 (Ne.symm ne_a1_b3_tz)
  replace O0 := O0.wr W6 g_a1
  replace KC := KC.wr W6 (Or.inl (List.mem_of_getElem? (i := 0) rfl))
  obtain ⟨fs, hr, hrun, hended, hW, hsame⟩ := X6.leave (v := none) (fun _ => rfl)
  refine ⟨_, _, pre0 _ ?_, hrun, hended, _, _, rfl, ?_, ⟨_, rfl⟩, hW, hsame.mono (by decide) (by decide)⟩
  · show SS p e below m s₁ 0 #[vr a1, vr a2, vi (0 : Int32), vi (3 : Int32), vN, un] [] _
    refine XS.aloadN X0.here hx rfl (hb hby d2_0) rfl rfl ?_
    show SS p e below m s₁ 1 #[vr a1, vr a2, vi (0 : Int32), vi (3 : Int32), vN, un] [(.ref a1)] _
    refine st1 _ ?_
    show SS p e below m T1 4 #[vr a1, vr a2, vi (0 : Int32), vi (3 : Int32), vN, un] [] _
    refine XS.iloadN X1.here hx rfl (hb hby d2_4) rfl ?_
    show SS p e below m T1 5 #[vr a1, vr a2, vi (0 : Int32), vi (3 : Int32), vN, un] [(.int (3 : Int32))] _
    refine XS.ifYes X1.here hx rfl (pc0 := 5) (pc' := 27) rfl (hb hby d2_5) rfl ((if0 _ _).trans (feq (by decide)).2) (by decide) (by decide) ?_
    show SS p e below m T1 27 #[vr a1, vr a2, vi (0 : Int32), vi (3 : Int32), vN, un] [] _
    refine st2 _ ?_
    show SS p e below m T2 30 #[vr a1, vr a2, vi (0 : Int32), vi (3 : Int32), vN, un] [(.int zc)] _
    refine XS.ifNo X2.here hx rfl (hb hby d2_30) rfl ((if0 _ _).trans (feq hz).1) ?_
    show SS p e below m T2 33 #[vr a1, vr a2, vi (0 : Int32), vi (3 : Int32), vN, un] [] _
    refine XS.aloadN X2.here hx rfl (hb hby d2_33) rfl rfl ?_
    show SS p e below m T2 34 #[vr a1, vr a2, vi (0 : Int32), vi (3 : Int32), vN, un] [(.ref a2)] _
    refine XS.iloadN X2.here hx rfl (hb hby d2_34) rfl ?_
    show SS p e below m T2 35 #[vr a1, vr a2, vi (0 : Int32), vi (3 : Int32), vN, un] [(.int (0 : Int32)), (.ref a2)] _
    refine XS.iloadN X2.here hx rfl (hb hby d2_35) rfl ?_
    show SS p e below m T2 36 #[vr a1, vr a2, vi (0 : Int32), vi (3 : Int32), vN, un] [(.int (3 : Int32)), (.int (0 : Int32)), (.ref a2)] _
    refine st3 _ ?_
    show SS p e below m T3 39 #[vr a1, vr a2, vi (0 : Int32), vi (3 : Int32), vN, un] [(.ref b3_tz)] _
    refine XS.astore X3.here hx rfl (hb hby d2_39) rfl rfl (l' := #[vr a1, vr a2, vi (0 : Int32), vi (3 : Int32), vN, vr b3_tz]) rfl ?_
    show SS p e below m T3 41 #[vr a1, vr a2, vi (0 : Int32), vi (3 : Int32), vN, vr b3_tz] [] _
    refine XS.aloadN X3.here hx rfl (hb hby d2_41) rfl rfl ?_
    show SS p e below m T3 42 #[vr a1, vr a2, vi (0 : Int32), vi (3 : Int32), vN, vr b3_tz] [(.ref a1)] _
    refine XS.aload X3.here hx rfl (hb hby d2_42) rfl rfl ?_
    show SS p e below m T3 44 #[vr a1, vr a2, vi (0 : Int32), vi (3 : Int32), vN, vr b3_tz] [(.ref b3_tz), (.ref a1)] _
    refine XS.iloadN X3.here hx rfl (hb hby d2_44) rfl ?_
    show SS p e below m T3 45 #[vr a1, vr a2, vi (0 : Int32), vi (3 : Int32), vN, vr b3_tz] [(.int (3 : Int32)), (.ref b3_tz), (.ref a1)] _
    refine st4 _ ?_
    show SS p e below m T4 48 #[vr a1, vr a2, vi (0 : Int32), vi (3 : Int32), vN, vr b3_tz] [(.int (0 : Int32)), (.ref a1)] _
    refine st5 _ ?_
    show SS p e below m T5 51 #[vr a1, vr a2, vi (0 : Int32), vi (3 : Int32), vN, vr b3_tz] [] _
    refine XS.aloadN X5.here hx rfl (hb hby d2_51) rfl rfl ?_
    show SS p e below m T5 52 #[vr a1, vr a2, vi (0 : Int32), vi (3 : Int32), vN, vr b3_tz] [(.ref a1)] _
    refine XS.aload X5.here hx rfl (hb hby d2_52) rfl rfl ?_
    show SS p e below m T5 54 #[vr a1, vr a2, vi (0 : Int32), vi (3 : Int32), vN, vr b3_tz] [(.ref b3_tz), (.ref a1)] _
    refine st6 _ ?_
    show SS p e below m T6 57 #[vr a1, vr a2, vi (0 : Int32), vi (3 : Int32), vN, vr b3_tz] [] _
    exact X6.returnOut hx Bd.returns (hb hby d2_57) hr
  · show Q_rm_i43 Z a1 a2 kc x0 x1 x2 zc h0 n0 _ T6.heap _
    rw [e6]
    exact ⟨b3_tz, kb_3, rfl, N6, KC, sz_b3_tz, F_value_a1, F_coder_a1, V_tz_3⟩
theorem ef_rm_i13 (m : MethodId) (x0 : Addr) (x1 : Addr) : entryFrame m #[(.ref x0), (.ref x1)] 2 = mkF m 0 #[vr x0, vr x1] [] := by first | (simp [entryFrame, mkF, argsToLocals, Value.category]; done) | rfl
def Q_rm_i13 (Z : State) (a1 : Addr) (a2 : Addr) (kc : ClassId) (x0 : Int32) (x1 : Int32) (x2 : Int32) (zc : Int32) (h0 : Heap) (n0 : Nat) (v : Option Value) (h : Heap) (L : List Loc) : Prop := ∃ tz : Addr, ∃ kb : ClassId, (v = none) ∧ (Fr n0 L) ∧ (Keep h0 h [a1]) ∧ (h0.size ≤ tz) ∧ (Fld Z h a1 "java/lang/String" "value" "[B" (.ref tz)) ∧ (Fld Z h a1 "java/lang/String" "coder" "B" (.int (0 : Int32))) ∧ (Arv Z h tz kb .byte (3 : Int32) [(.int (own_b x0)), (.int (own_b x1)), (.int (own_b x2))] (.int (0 : Int32)))
set_option maxRecDepth 65536 in
set_option maxHeartbeats 40000000 in
theorem rm_i13 (l : Launch) (Z : State) (a0 : Array Value) (hw : ∀ d ∈ tables_1, d.before a0 Z = true) (ws : List Jvm.Cond) (a1 : Addr) (a2 : Addr) (kc : ClassId) (x0 : Int32) (x1 : Int32) (x2 : Int32) (zc : Int32) (h0 : Heap) (n0 : Nat) (Z0 : n0 ≤ h0.size) (O0 : Old Z n0 h0) (F_value_a1 : Fld Z h0 a1 "java/lang/String" "value" "[B" .null) (F_coder_a1 : Fld Z h0 a1 "java/lang/String" "coder" "B" (.int (0 : Int32))) (E_a1 : Exa Z h0 a1 "java/lang/String") (g_a1 : n0 ≤ a1) (V_a2 : Arv Z h0 a2 kc .char (3 : Int32) [(.int x0), (.int x1), (.int x2)] (.int (0 : Int32))) (S_CS : Sta Z Z.heap "java/lang/String" "COMPACT_STRINGS" "Z" (.int zc)) (hz : ¬ zc = (0 : Int32)) (hx0 : ¬ (255 : Int32) < x0) (hx1 : ¬ (255 : Int32) < x1) (hx2 : ¬ (255 : Int32) < x2) :
    MetFree l y_28 (head1 (Jvm.Cond.code y_28 jdk_42_method_3_code 2 none :: ws) ({ frames := 3, cells := 1, slots := 3, locals := 52 } : Room)) (fun a U => a = #[(.ref a1), (.ref a2)] ∧ Z.Warmed39 U.vm ∧ U.heap = h0) (fun _ _ _ _ _ => True) (fun _ U o U' => ∃ v L, o = .returned v ∧ Q_rm_i13 Z a1 a2 kc x0 x1 x2 zc h0 n0 v U'.heap L ∧ FrameEnd U o U' L ({ frames := 3, cells := 1, slots := 3, locals := 52 } : Room).cells ({ frames := 3, cells := 1, slots := 3, locals := 52 } : Room).slots) := by
  refine MetFree.of_bodySF (plainFor_of_name pn_0) hisR ?_
  intro p e s m args below meth c s₁ Bd hml0 hP hK
  obtain ⟨rfl, hZ, hh⟩ := hP
  have hx := Bd.exec
  have hby := Bd.bytes
  have hml : c.maxLocals = 2 := hml0
  have hown : s.vm.findClass "java/lang/String" = some m.cls := findClass_of_methodNamed Bd.named
  have hnm := (name_of_methodNamed Bd.named Bd.method).1
  have X0 : Stand p l e ({ frames := 3, cells := 1, slots := 3, locals := 52 } : Room) s m #[(.ref a1), (.ref a2)] below meth c s₁ [] 0 0 := Stand.of_body Bd
  have e0 : s₁.heap = h0 := by rw [← hh, Bd.state]; rfl
  have N0 := Fr.nil n0
  have KC : Keep h0 h0 [a1] := Keep.refl h0 _
  have pre0 : ∀ t, Steps p.tables e below (s₁.setTop (mkF m 0 #[vr a1, vr a2] [])) t → Steps p.tables e below (s₁.setTop (entryFrame m #[(.ref a1), (.ref a2)] 2)) t := fun t k => castTop (ef_rm_i13 m a1 a2) k
  have Vo1 := V_a2
  obtain ⟨cl1, Ar1, -, Sz1, Nn1, -, -⟩ := Vo1
  have ia1 := State.isArrayOf_alike hZ.alike Ar1.2.1
  obtain ⟨_, _, ⟨T2, L2, kz2, nz2⟩, -, X2, ⟨Lc2, hQ2, l2, y2, z2⟩, st2⟩ := X0.specialBack hx (y := y_27) rfl hown (mvT hZ (ww hw 7 rfl)) (mvT hZ (ww hw 8 rfl)) (mvT hZ (ww hw 10 rfl)) (by decide) (backOf (W := 0) (rm_i43 l Z a0 hw [] a1 a2 kc x0 x1 x2 zc h0 n0 (Nat.le_trans Z0 KC.1) O0 F_value_a1 F_coder_a1 E_a1 g_a1 V_a2 S_CS hz hx0 hx1 hx2) hZ (ww hw 10 rfl) (ww hw 3 rfl) (by decide) (by decide)) (g := (mkF m 6 #[vr a1, vr a2] [.null, (.int (3 : Int32)), (.int (0 : Int32)), (.ref a2), (.ref a1)])) rfl (by rw [hml]; rfl) (Steps.refl _) (a := a1) (argsL := [(.ref a2), (.int (0 : Int32)), (.int (3 : Int32)), .null]) (rest := []) (lenOf pd_16 rfl) rfl (by show 2 * 0 + _ ≤ _; exact Nat.le_of_eq rfl) (hb hby d1_6) (fun _ _ => ⟨rfl, e0, (by decide : 0 + 1 ≤ _), (by decide : 0 + 3 ≤ _)⟩)
  dsimp only [Pt.U, Pt.locs, Pt.cells, Pt.slots] at X2 l2 y2 z2 st2 hQ2
  subst l2 y2 z2
  obtain ⟨b2_tz, kb_2, rfl, N2q, K2, sz_b2_tz, F_value_a1_2, F_coder_a1_2, V_tz_2⟩ := hQ2
  have N2 := Fr.app N0 N2q
  have ne_a1_b2_tz : a1 ≠ b2_tz := Nat.ne_of_lt (Nat.lt_of_lt_of_le F_value_a1.lt sz_b2_tz)
  have ne_a2_b2_tz : a2 ≠ b2_tz := Nat.ne_of_lt (Nat.lt_of_lt_of_le V_a2.lt sz_b2_tz)
  have g_b2_tz : n0 ≤ b2_tz := Nat.le_trans (Nat.le_trans Z0 KC.1) sz_b2_tz
  replace sz_b2_tz : h0.size ≤ b2_tz := Nat.le_trans KC.1 sz_b2_tz
  have nev_a1_a2 : a1 ≠ a2 := Exa.neArv E_a1 V_a2 (ww hw 2 rfl)
  replace E_a1 := E_a1.keep K2
  replace V_a2 := V_a2.keep K2 (ninS (Ne.symm nev_a1_a2) nin0)
  replace O0 := O0.keep K2 (allS g_a1 all0)
  replace KC := KC.trans K2 (allS (Or.inl (List.mem_of_getElem? (i := 0) rfl)) all0)
  obtain ⟨fs, hr, hrun, hended, hW, hsame⟩ := X2.leave (v := none) (fun _ => rfl)
  refine ⟨_, _, pre0 _ ?_, hrun, hended, _, _, rfl, ?_, ⟨_, rfl⟩, hW, hsame.mono (by decide) (by decide)⟩
  · show SS p e below m s₁ 0 #[vr a1, vr a2] [] _
    refine XS.aloadN X0.here hx rfl (hb hby d1_0) rfl rfl ?_
    show SS p e below m s₁ 1 #[vr a1, vr a2] [(.ref a1)] _
    refine XS.aloadN X0.here hx rfl (hb hby d1_1) rfl rfl ?_
    show SS p e below m s₁ 2 #[vr a1, vr a2] [(.ref a2), (.ref a1)] _
    refine XS.iconst X0.here hx rfl (hb hby d1_2) ?_
    show SS p e below m s₁ 3 #[vr a1, vr a2] [(.int (0 : Int32)), (.ref a2), (.ref a1)] _
    refine XS.aloadN X0.here hx rfl (hb hby d1_3) rfl rfl ?_
    show SS p e below m s₁ 4 #[vr a1, vr a2] [(.ref a2), (.int (0 : Int32)), (.ref a2), (.ref a1)] _
    refine X0.arraylength hx (by rw [e0]; exact Ar1.1) ia1 (g := (mkF m 4 #[vr a1, vr a2] [(.ref a2), (.int (0 : Int32)), (.ref a2), (.ref a1)])) rfl rfl (hb hby d1_4) _ ?_
    rw [len_of Sz1 Nn1]
    show SS p e below m s₁ 5 #[vr a1, vr a2] [(.int (3 : Int32)), (.int (0 : Int32)), (.ref a2), (.ref a1)] _
    refine XS.aconstNull X0.here hx rfl (hb hby d1_5) ?_
    show SS p e below m s₁ 6 #[vr a1, vr a2] [.null, (.int (3 : Int32)), (.int (0 : Int32)), (.ref a2), (.ref a1)] _
    refine st2.trans ?_
    show SS p e below m T2 9 #[vr a1, vr a2] [] _
    exact X2.returnOut hx Bd.returns (hb hby d1_9) hr
  · show Q_rm_i13 Z a1 a2 kc x0 x1 x2 zc h0 n0 _ T2.heap _
    exact ⟨b2_tz, kb_2, rfl, N2, KC, sz_b2_tz, F_value_a1_2, F_coder_a1_2, V_tz_2⟩
theorem d8_0 : decode jdk_42_method_75_code 0 = .ok (.iload_n 2, 1) := by decide +kernel
theorem d8_1 : decode jdk_42_method_75_code 1 = .ok (.ifCond .lt 16, 3) := by decide +kernel
theorem d8_17 : decode jdk_42_method_75_code 17 = .ok (.iconst 0, 1) := by decide +kernel
theorem d8_18 : decode jdk_42_method_75_code 18 = .ok (.ireturn, 1) := by decide +kernel
theorem ef_rm_sw0 (m : MethodId) (x0 : Addr) (x1 : Addr) (x2 : Int32) : entryFrame m #[(.ref x0), (.ref x1), (.int x2)] 8 = mkF m 0 #[vr x0, vr x1, vi x2, .unset, .unset, .unset, .unset, .unset] [] := by first | (simp [entryFrame, mkF, argsToLocals, Value.category]; done) | rfl
def Q_rm_sw0 (Z : State) (a1 : Addr) (a2 : Addr) (h0 : Heap) (n0 : Nat) (v : Option Value) (h : Heap) (L : List Loc) : Prop := (v = some (.int (0 : Int32))) ∧ (Fr n0 L) ∧ (h = h0)
set_option maxRecDepth 65536 in
set_option maxHeartbeats 40000000 in
theorem rm_sw0 (l : Launch) (Z : State) (a0 : Array Value) (hw : ∀ d ∈ tables_1, d.before a0 Z = true) (ws : List Jvm.Cond) (a1 : Addr) (a2 : Addr) (h0 : Heap) (n0 : Nat) (Z0 : n0 ≤ h0.size) (O0 : Old Z n0 h0) :
    MetFree l y_32 (head1 (Jvm.Cond.code y_32 jdk_42_method_75_code 8 (some .boolean) :: ws) ({ frames := 0, cells := 0, slots := 0, locals := 0 } : Room)) (fun a U => a = #[(.ref a1), (.ref a2), (.int (-1 : Int32))] ∧ Z.Warmed39 U.vm ∧ U.heap = h0) (fun _ _ _ _ _ => True) (fun _ U o U' => ∃ v L, o = .returned v ∧ Q_rm_sw0 Z a1 a2 h0 n0 v U'.heap L ∧ FrameEnd U o U' L ({ frames := 0, cells := 0, slots := 0, locals := 0 } : Room).cells ({ frames := 0, cells := 0, slots := 0, locals := 0 } : Room).slots) := by
  refine MetFree.of_bodySF (plainFor_of_name pn_0) hisR ?_
  intro p e s m args below meth c s₁ Bd hml0 hP hK
  obtain ⟨rfl, hZ, hh⟩ := hP
  have hx := Bd.exec
  have hby := Bd.bytes
  have hml : c.maxLocals = 8 := hml0
  have hown : s.vm.findClass "java/lang/String" = some m.cls := findClass_of_methodNamed Bd.named
  have hnm := (name_of_methodNamed Bd.named Bd.method).1
  have X0 : Stand p l e ({ frames := 0, cells := 0, slots := 0, locals := 0 } : Room) s m #[(.ref a1), (.ref a2), (.int (-1 : Int32))] below meth c s₁ [] 0 0 := Stand.of_body Bd
  have e0 : s₁.heap = h0 := by rw [← hh, Bd.state]; rfl
  have N0 := Fr.nil n0
  have KC : Keep h0 h0 [] := Keep.refl h0 _
  have pre0 : ∀ t, Steps p.tables e below (s₁.setTop (mkF m 0 #[vr a1, vr a2, vi (-1 : Int32), un, un, un, un, un] [])) t → Steps p.tables e below (s₁.setTop (entryFrame m #[(.ref a1), (.ref a2), (.int (-1 : Int32))] 8)) t := fun t k => castTop (ef_rm_sw0 m a1 a2 (-1 : Int32)) k
  obtain ⟨fs, hr, hrun, hended, hW, hsame⟩ := X0.leave (v := some (.int (0 : Int32))) (fun h => by rw [Bd.returns] at h; cases h)
  refine ⟨_, _, pre0 _ ?_, hrun, hended, _, _, rfl, ?_, ⟨_, rfl⟩, hW, hsame.mono (by decide) (by decide)⟩
  · show SS p e below m s₁ 0 #[vr a1, vr a2, vi (-1 : Int32), un, un, un, un, un] [] _
    refine XS.iloadN X0.here hx rfl (hb hby d8_0) rfl ?_
    show SS p e below m s₁ 1 #[vr a1, vr a2, vi (-1 : Int32), un, un, un, un, un] [(.int (-1 : Int32))] _
    refine XS.ifYes X0.here hx rfl (pc0 := 1) (pc' := 17) rfl (hb hby d8_1) rfl ((if0 _ _).trans (tlt (by decide)).1) (by decide) (by decide) ?_
    show SS p e below m s₁ 17 #[vr a1, vr a2, vi (-1 : Int32), un, un, un, un, un] [] _
    refine XS.iconst X0.here hx rfl (hb hby d8_17) ?_
    show SS p e below m s₁ 18 #[vr a1, vr a2, vi (-1 : Int32), un, un, un, un, un] [(.int (0 : Int32))] _
    exact retN X0 hx (t := .boolean) Bd.returns (by simp) (hb hby d8_18) hr
  · show Q_rm_sw0 Z a1 a2 h0 n0 _ s₁.heap _
    rw [e0]
    exact ⟨rfl, N0, rfl⟩
theorem d45_0 : decode jdk_48_method_14_code 0 = .ok (.iconst 0, 1) := by decide +kernel
theorem d45_1 : decode jdk_48_method_14_code 1 = .ok (.istore 5, 2) := by decide +kernel
theorem d45_3 : decode jdk_48_method_14_code 3 = .ok (.iload 4, 2) := by decide +kernel
theorem d45_5 : decode jdk_48_method_14_code 5 = .ok (.bipush 7, 2) := by decide +kernel
theorem d45_7 : decode jdk_48_method_14_code 7 = .ok (.if_icmp .le 63, 3) := by decide +kernel
theorem d45_70 : decode jdk_48_method_14_code 70 = .ok (.iload 5, 2) := by decide +kernel
theorem d45_72 : decode jdk_48_method_14_code 72 = .ok (.iload 4, 2) := by decide +kernel
theorem d45_74 : decode jdk_48_method_14_code 74 = .ok (.if_icmp .ge 27, 3) := by decide +kernel
theorem d45_77 : decode jdk_48_method_14_code 77 = .ok (.aload_n 0, 1) := by decide +kernel
theorem d45_78 : decode jdk_48_method_14_code 78 = .ok (.iload_n 1, 1) := by decide +kernel
theorem d45_79 : decode jdk_48_method_14_code 79 = .ok (.iload 5, 2) := by decide +kernel
theorem d45_81 : decode jdk_48_method_14_code 81 = .ok (.iadd, 1) := by decide +kernel
theorem d45_82 : decode jdk_48_method_14_code 82 = .ok (.baload, 1) := by decide +kernel
theorem d45_83 : decode jdk_48_method_14_code 83 = .ok (.aload_n 2, 1) := by decide +kernel
theorem d45_84 : decode jdk_48_method_14_code 84 = .ok (.iload_n 3, 1) := by decide +kernel
theorem d45_85 : decode jdk_48_method_14_code 85 = .ok (.iload 5, 2) := by decide +kernel
theorem d45_87 : decode jdk_48_method_14_code 87 = .ok (.iadd, 1) := by decide +kernel
theorem d45_88 : decode jdk_48_method_14_code 88 = .ok (.baload, 1) := by decide +kernel
theorem d45_89 : decode jdk_48_method_14_code 89 = .ok (.if_icmp .eq 6, 3) := by decide +kernel
theorem d45_92 : decode jdk_48_method_14_code 92 = .ok (.iload 5, 2) := by decide +kernel
theorem d45_94 : decode jdk_48_method_14_code 94 = .ok (.ireturn, 1) := by decide +kernel
theorem pn_8 : plainName "jdk/internal/util/ArraysSupport" = true := by first | (simp [plainName, overriddenIn]; done) | decide +kernel
theorem ef_rm_mm0 (m : MethodId) (x0 : Addr) (x1 : Int32) (x2 : Addr) (x3 : Int32) (x4 : Int32) : entryFrame m #[(.ref x0), (.int x1), (.ref x2), (.int x3), (.int x4)] 8 = mkF m 0 #[vr x0, vi x1, vr x2, vi x3, vi x4, .unset, .unset, .unset] [] := by first | (simp [entryFrame, mkF, argsToLocals, Value.category]; done) | rfl
def Q_rm_mm0 (Z : State) (a1 : Addr) (a3 : Addr) (k1 : ClassId) (z1 : Int32) (vs1 : List Value) (u : Int32) (k3 : ClassId) (w : Int32) (h0 : Heap) (n0 : Nat) (v : Option Value) (h : Heap) (L : List Loc) : Prop := (v = some (.int (0 : Int32))) ∧ (Fr n0 L) ∧ (h = h0)
set_option maxRecDepth 65536 in
set_option maxHeartbeats 40000000 in
theorem rm_mm0 (l : Launch) (Z : State) (a0 : Array Value) (hw : ∀ d ∈ tables_1, d.before a0 Z = true) (ws : List Jvm.Cond) (a1 : Addr) (a3 : Addr) (k1 : ClassId) (z1 : Int32) (vs1 : List Value) (u : Int32) (k3 : ClassId) (w : Int32) (h0 : Heap) (n0 : Nat) (Z0 : n0 ≤ h0.size) (O0 : Old Z n0 h0) (V_a1 : Arv Z h0 a1 k1 .byte z1 vs1 (.int (0 : Int32))) (V_a3 : Arv Z h0 a3 k3 .byte (1 : Int32) [(.int w)] (.int (0 : Int32))) (hM : (0 : Int32) < z1) (hU : vs1.getD (0 : Int32).toNatClampNeg (.int (0 : Int32)) = .int u) (hN : ¬ u = w) :
    MetFree l y_33 (head1 (Jvm.Cond.code y_33 jdk_48_method_14_code 8 (some .int) :: ws) ({ frames := 0, cells := 0, slots := 0, locals := 0 } : Room)) (fun a U => a = #[(.ref a1), (.int (0 : Int32)), (.ref a3), (.int (0 : Int32)), (.int (1 : Int32))] ∧ Z.Warmed39 U.vm ∧ U.heap = h0) (fun _ _ _ _ _ => True) (fun _ U o U' => ∃ v L, o = .returned v ∧ Q_rm_mm0 Z a1 a3 k1 z1 vs1 u k3 w h0 n0 v U'.heap L ∧ FrameEnd U o U' L ({ frames := 0, cells := 0, slots := 0, locals := 0 } : Room).cells ({ frames := 0, cells := 0, slots := 0, locals := 0 } : Room).slots) := by
  refine MetFree.of_bodySF (plainFor_of_name pn_8) hisR ?_
  intro p e s m args below meth c s₁ Bd hml0 hP hK
  obtain ⟨rfl, hZ, hh⟩ := hP
  have hx := Bd.exec
  have hby := Bd.bytes
  have hml : c.maxLocals = 8 := hml0
  have hown : s.vm.findClass "jdk/internal/util/ArraysSupport" = some m.cls := findClass_of_methodNamed Bd.named
  have hnm := (name_of_methodNamed Bd.named Bd.method).1
  have X0 : Stand p l e ({ frames := 0, cells := 0, slots := 0, locals := 0 } : Room) s m #[(.ref a1), (.int (0 : Int32)), (.ref a3), (.int (0 : Int32)), (.int (1 : Int32))] below meth c s₁ [] 0 0 := Stand.of_body Bd
  have e0 : s₁.heap = h0 := by rw [← hh, Bd.state]; rfl
  have N0 := Fr.nil n0
  have KC : Keep h0 h0 [] := Keep.refl h0 _
  have pre0 : ∀ t, Steps p.tables e below (s₁.setTop (mkF m 0 #[vr a1, vi (0 : Int32), vr a3, vi (0 : Int32), vi (1 : Int32), un, un, un] [])) t → Steps p.tables e below (s₁.setTop (entryFrame m #[(.ref a1), (.int (0 : Int32)), (.ref a3), (.int (0 : Int32)), (.int (1 : Int32))] 8)) t := fun t k => castTop (ef_rm_mm0 m a1 (0 : Int32) a3 (0 : Int32) (1 : Int32)) k
  have Vo1 := V_a1
  obtain ⟨cl1, Ar1, q1, Sz1, Nn1, Hh1, Gg1⟩ := Vo1
  have hin1 : ¬ ((0 : Int32) < 0 ∨ cl1.slots.size ≤ ((0 : Int32)).toNatClampNeg) := inb_of Sz1 ⟨by decide, hM⟩
  have hat1 : cl1.slots[((0 : Int32)).toNatClampNeg]? = some (.int u) := Has.at Hh1 hin1 hU
  have ia1 := State.isArrayOf_alike hZ.alike Ar1.2.1
  have Vo2 := V_a3
  obtain ⟨cl2, Ar2, q2, Sz2, Nn2, Hh2, Gg2⟩ := Vo2
  have hin2 : ¬ ((0 : Int32) < 0 ∨ cl2.slots.size ≤ ((0 : Int32)).toNatClampNeg) := inb_of Sz2 ⟨by decide, by decide⟩
  have hat2 : cl2.slots[((0 : Int32)).toNatClampNeg]? = some (.int w) := Has.at Hh2 hin2 rfl
  have ia2 := State.isArrayOf_alike hZ.alike Ar2.2.1
  obtain ⟨fs, hr, hrun, hended, hW, hsame⟩ := X0.leave (v := some (.int (0 : Int32))) (fun h => by rw [Bd.returns] at h; cases h)
  refine ⟨_, _, pre0 _ ?_, hrun, hended, _, _, rfl, ?_, ⟨_, rfl⟩, hW, hsame.mono (by decide) (by decide)⟩
  · show SS p e below m s₁ 0 #[vr a1, vi (0 : Int32), vr a3, vi (0 : Int32), vi (1 : Int32), un, un, un] [] _
    refine XS.iconst X0.here hx rfl (hb hby d45_0) ?_
    show SS p e below m s₁ 1 #[vr a1, vi (0 : Int32), vr a3, vi (0 : Int32), vi (1 : Int32), un, un, un] [(.int (0 : Int32))] _
    refine XS.istore X0.here hx rfl (hb hby d45_1) rfl (l' := #[vr a1, vi (0 : Int32), vr a3, vi (0 : Int32), vi (1 : Int32), vi (0 : Int32), un, un]) rfl ?_
    show SS p e below m s₁ 3 #[vr a1, vi (0 : Int32), vr a3, vi (0 : Int32), vi (1 : Int32), vi (0 : Int32), un, un] [] _
    refine XS.iload X0.here hx rfl (hb hby d45_3) rfl ?_
    show SS p e below m s₁ 5 #[vr a1, vi (0 : Int32), vr a3, vi (0 : Int32), vi (1 : Int32), vi (0 : Int32), un, un] [(.int (1 : Int32))] _
    refine XS.bipush X0.here hx rfl (hb hby d45_5) ?_
    show SS p e below m s₁ 7 #[vr a1, vi (0 : Int32), vr a3, vi (0 : Int32), vi (1 : Int32), vi (0 : Int32), un, un] [(.int (7 : Int32)), (.int (1 : Int32))] _
    refine XS.icmpYes X0.here hx rfl (pc0 := 7) (pc' := 70) rfl (hb hby d45_7) rfl (flt (by decide)).2.2.2 (by decide) (by decide) ?_
    show SS p e below m s₁ 70 #[vr a1, vi (0 : Int32), vr a3, vi (0 : Int32), vi (1 : Int32), vi (0 : Int32), un, un] [] _
    refine XS.iload X0.here hx rfl (hb hby d45_70) rfl ?_
    show SS p e below m s₁ 72 #[vr a1, vi (0 : Int32), vr a3, vi (0 : Int32), vi (1 : Int32), vi (0 : Int32), un, un] [(.int (0 : Int32))] _
    refine XS.iload X0.here hx rfl (hb hby d45_72) rfl ?_
    show SS p e below m s₁ 74 #[vr a1, vi (0 : Int32), vr a3, vi (0 : Int32), vi (1 : Int32), vi (0 : Int32), un, un] [(.int (1 : Int32)), (.int (0 : Int32))] _
    refine XS.icmpNo X0.here hx rfl (hb hby d45_74) rfl (tlt (by decide)).2.1 ?_
    show SS p e below m s₁ 77 #[vr a1, vi (0 : Int32), vr a3, vi (0 : Int32), vi (1 : Int32), vi (0 : Int32), un, un] [] _
    refine XS.aloadN X0.here hx rfl (hb hby d45_77) rfl rfl ?_
    show SS p e below m s₁ 78 #[vr a1, vi (0 : Int32), vr a3, vi (0 : Int32), vi (1 : Int32), vi (0 : Int32), un, un] [(.ref a1)] _
    refine XS.iloadN X0.here hx rfl (hb hby d45_78) rfl ?_
    show SS p e below m s₁ 79 #[vr a1, vi (0 : Int32), vr a3, vi (0 : Int32), vi (1 : Int32), vi (0 : Int32), un, un] [(.int (0 : Int32)), (.ref a1)] _
    refine XS.iload X0.here hx rfl (hb hby d45_79) rfl ?_
    show SS p e below m s₁ 81 #[vr a1, vi (0 : Int32), vr a3, vi (0 : Int32), vi (1 : Int32), vi (0 : Int32), un, un] [(.int (0 : Int32)), (.int (0 : Int32)), (.ref a1)] _
    refine XS.iadd X0.here hx rfl (hb hby d45_81) rfl ?_
    show SS p e below m s₁ 82 #[vr a1, vi (0 : Int32), vr a3, vi (0 : Int32), vi (1 : Int32), vi (0 : Int32), un, un] [(.int (0 : Int32)), (.ref a1)] _
    refine X0.baloadBytes hx (j := (0 : Int32)) (v := (.int u)) (by rw [e0]; exact Ar1.1) ia1 Ar1.2.2 hin1 hat1 (g := (mkF m 82 #[vr a1, vi (0 : Int32), vr a3, vi (0 : Int32), vi (1 : Int32), vi (0 : Int32), un, un] [(.int (0 : Int32)), (.ref a1)])) rfl rfl (hb hby d45_82) _ ?_
    show SS p e below m s₁ 83 #[vr a1, vi (0 : Int32), vr a3, vi (0 : Int32), vi (1 : Int32), vi (0 : Int32), un, un] [(.int u)] _
    refine XS.aloadN X0.here hx rfl (hb hby d45_83) rfl rfl ?_
    show SS p e below m s₁ 84 #[vr a1, vi (0 : Int32), vr a3, vi (0 : Int32), vi (1 : Int32), vi (0 : Int32), un, un] [(.ref a3), (.int u)] _
    refine XS.iloadN X0.here hx rfl (hb hby d45_84) rfl ?_
    show SS p e below m s₁ 85 #[vr a1, vi (0 : Int32), vr a3, vi (0 : Int32), vi (1 : Int32), vi (0 : Int32), un, un] [(.int (0 : Int32)), (.ref a3), (.int u)] _
    refine XS.iload X0.here hx rfl (hb hby d45_85) rfl ?_
    show SS p e below m s₁ 87 #[vr a1, vi (0 : Int32), vr a3, vi (0 : Int32), vi (1 : Int32), vi (0 : Int32), un, un] [(.int (0 : Int32)), (.int (0 : Int32)), (.ref a3), (.int u)] _
    refine XS.iadd X0.here hx rfl (hb hby d45_87) rfl ?_
    show SS p e below m s₁ 88 #[vr a1, vi (0 : Int32), vr a3, vi (0 : Int32), vi (1 : Int32), vi (0 : Int32), un, un] [(.int (0 : Int32)), (.ref a3), (.int u)] _
    refine X0.baloadBytes hx (j := (0 : Int32)) (v := (.int w)) (by rw [e0]; exact Ar2.1) ia2 Ar2.2.2 hin2 hat2 (g := (mkF m 88 #[vr a1, vi (0 : Int32), vr a3, vi (0 : Int32), vi (1 : Int32), vi (0 : Int32), un, un] [(.int (0 : Int32)), (.ref a3), (.int u)])) rfl rfl (hb hby d45_88) _ ?_
    show SS p e below m s₁ 89 #[vr a1, vi (0 : Int32), vr a3, vi (0 : Int32), vi (1 : Int32), vi (0 : Int32), un, un] [(.int w), (.int u)] _
    refine XS.icmpNo X0.here hx rfl (hb hby d45_89) rfl (feq hN).1 ?_
    show SS p e below m s₁ 92 #[vr a1, vi (0 : Int32), vr a3, vi (0 : Int32), vi (1 : Int32), vi (0 : Int32), un, un] [] _
    refine XS.iload X0.here hx rfl (hb hby d45_92) rfl ?_
    show SS p e below m s₁ 94 #[vr a1, vi (0 : Int32), vr a3, vi (0 : Int32), vi (1 : Int32), vi (0 : Int32), un, un] [(.int (0 : Int32))] _
    exact retI X0 hx Bd.returns (hb hby d45_94) hr
  · show Q_rm_mm0 Z a1 a3 k1 z1 vs1 u k3 w h0 n0 _ s₁.heap _
    rw [e0]
    exact ⟨rfl, N0, rfl⟩
theorem pd_20 : parseMethodDescriptor "([BI[BII)I" = some ⟨[(.array .byte), .int, (.array .byte), .int, .int], some .int⟩ := by decide +kernel
theorem d8_4 : decode jdk_42_method_75_code 4 = .ok (.iload_n 2, 1) := by decide +kernel
theorem d8_5 : decode jdk_42_method_75_code 5 = .ok (.aload_n 0, 1) := by decide +kernel
theorem d8_6 : decode jdk_42_method_75_code 6 = .ok (.invokevirtual 505, 3) := by decide +kernel
theorem d8_9 : decode jdk_42_method_75_code 9 = .ok (.aload_n 1, 1) := by decide +kernel
theorem d8_10 : decode jdk_42_method_75_code 10 = .ok (.invokevirtual 505, 3) := by decide +kernel
theorem d8_13 : decode jdk_42_method_75_code 13 = .ok (.isub, 1) := by decide +kernel
theorem d8_14 : decode jdk_42_method_75_code 14 = .ok (.if_icmp .le 5, 3) := by decide +kernel
theorem d8_19 : decode jdk_42_method_75_code 19 = .ok (.aload_n 0, 1) := by decide +kernel
theorem d8_20 : decode jdk_42_method_75_code 20 = .ok (.getfield 9, 3) := by decide +kernel
theorem d8_23 : decode jdk_42_method_75_code 23 = .ok (.astore_n 3, 1) := by decide +kernel
theorem d8_24 : decode jdk_42_method_75_code 24 = .ok (.aload_n 1, 1) := by decide +kernel
theorem d8_25 : decode jdk_42_method_75_code 25 = .ok (.getfield 9, 3) := by decide +kernel
theorem d8_28 : decode jdk_42_method_75_code 28 = .ok (.astore 4, 2) := by decide +kernel
theorem d8_30 : decode jdk_42_method_75_code 30 = .ok (.iconst 0, 1) := by decide +kernel
theorem d8_31 : decode jdk_42_method_75_code 31 = .ok (.istore 5, 2) := by decide +kernel
theorem d8_33 : decode jdk_42_method_75_code 33 = .ok (.aload 4, 2) := by decide +kernel
theorem d8_35 : decode jdk_42_method_75_code 35 = .ok (.arraylength, 1) := by decide +kernel
theorem d8_36 : decode jdk_42_method_75_code 36 = .ok (.istore 6, 2) := by decide +kernel
theorem d8_38 : decode jdk_42_method_75_code 38 = .ok (.aload_n 0, 1) := by decide +kernel
theorem d8_39 : decode jdk_42_method_75_code 39 = .ok (.invokevirtual 335, 3) := by decide +kernel
theorem d8_42 : decode jdk_42_method_75_code 42 = .ok (.istore 7, 2) := by decide +kernel
theorem d8_44 : decode jdk_42_method_75_code 44 = .ok (.iload 7, 2) := by decide +kernel
theorem d8_46 : decode jdk_42_method_75_code 46 = .ok (.aload_n 1, 1) := by decide +kernel
theorem d8_47 : decode jdk_42_method_75_code 47 = .ok (.invokevirtual 335, 3) := by decide +kernel
theorem d8_50 : decode jdk_42_method_75_code 50 = .ok (.if_icmp .ne 32, 3) := by decide +kernel
theorem d8_53 : decode jdk_42_method_75_code 53 = .ok (.iload 7, 2) := by decide +kernel
theorem d8_55 : decode jdk_42_method_75_code 55 = .ok (.iconst 1, 1) := by decide +kernel
theorem d8_56 : decode jdk_42_method_75_code 56 = .ok (.if_icmp .ne 7, 3) := by decide +kernel
theorem d8_63 : decode jdk_42_method_75_code 63 = .ok (.aload_n 3, 1) := by decide +kernel
theorem d8_64 : decode jdk_42_method_75_code 64 = .ok (.iload_n 2, 1) := by decide +kernel
theorem d8_65 : decode jdk_42_method_75_code 65 = .ok (.aload 4, 2) := by decide +kernel
theorem d8_67 : decode jdk_42_method_75_code 67 = .ok (.iconst 0, 1) := by decide +kernel
theorem d8_68 : decode jdk_42_method_75_code 68 = .ok (.iload 6, 2) := by decide +kernel
theorem d8_70 : decode jdk_42_method_75_code 70 = .ok (.invokestatic 607, 3) := by decide +kernel
theorem d8_73 : decode jdk_42_method_75_code 73 = .ok (.ifCond .ge 7, 3) := by decide +kernel
theorem d8_80 : decode jdk_42_method_75_code 80 = .ok (.iconst 0, 1) := by decide +kernel
theorem d8_81 : decode jdk_42_method_75_code 81 = .ok (.ireturn, 1) := by decide +kernel
theorem ef_rm_sw1 (m : MethodId) (x0 : Addr) (x1 : Addr) (x2 : Int32) : entryFrame m #[(.ref x0), (.ref x1), (.int x2)] 8 = mkF m 0 #[vr x0, vr x1, vi x2, .unset, .unset, .unset, .unset, .unset] [] := by first | (simp [entryFrame, mkF, argsToLocals, Value.category]; done) | rfl
def Q_rm_sw1 (Z : State) (a1 : Addr) (a2 : Addr) (t1 : Addr) (k1 : ClassId) (vs1 : List Value) (u : Int32) (t2 : Addr) (k2 : ClassId) (w : Int32) (zc : Int32) (h0 : Heap) (n0 : Nat) (v : Option Value) (h : Heap) (L : List Loc) : Prop := (v = some (.int (0 : Int32))) ∧ (Fr n0 L) ∧ (h = h0)
set_option maxRecDepth 65536 in
set_option maxHeartbeats 40000000 in
theorem rm_sw1 (l : Launch) (Z : State) (a0 : Array Value) (hw : ∀ d ∈ tables_1, d.before a0 Z = true) (ws : List Jvm.Cond) (a1 : Addr) (a2 : Addr) (t1 : Addr) (k1 : ClassId) (vs1 : List Value) (u : Int32) (t2 : Addr) (k2 : ClassId) (w : Int32) (zc : Int32) (h0 : Heap) (n0 : Nat) (Z0 : n0 ≤ h0.size) (O0 : Old Z n0 h0) (E_a1 : Exa Z h0 a1 "java/lang/String") (F_value_a1 : Fld Z h0 a1 "java/lang/String" "value" "[B" (.ref t1)) (F_coder_a1 : Fld Z h0 a1 "java/lang/String" "coder" "B" (.int (0 : Int32))) (V_t1 : Arv Z h0 t1 k1 .byte (1 : Int32) vs1 (.int (0 : Int32))) (E_a2 : Exa Z h0 a2 "java/lang/String") (F_value_a2 : Fld Z h0 a2 "java/lang/String" "value" "[B" (.ref t2)) (F_coder_a2 : Fld Z h0 a2 "java/lang/String" "coder" "B" (.int (0 : Int32))) (V_t2 : Arv Z h0 t2 k2 .byte (1 : Int32) [(.int w)] (.int (0 : Int32))) (S_CS : Sta Z Z.heap "java/lang/String" "COMPACT_STRINGS" "Z" (.int zc)) (hz : ¬ zc = (0 : Int32)) (hU : vs1.getD (0 : Int32).toNatClampNeg (.int (0 : Int32)) = .int u) (hN : ¬ u = w) :
    MetFree l y_32 (head1 (Jvm.Cond.code y_32 jdk_42_method_75_code 8 (some .boolean) :: ws) ({ frames := 2, cells := 0, slots := 0, locals := 27 } : Room)) (fun a U => a = #[(.ref a1), (.ref a2), (.int (0 : Int32))] ∧ Z.Warmed39 U.vm ∧ U.heap = h0) (fun _ _ _ _ _ => True) (fun _ U o U' => ∃ v L, o = .returned v ∧ Q_rm_sw1 Z a1 a2 t1 k1 vs1 u t2 k2 w zc h0 n0 v U'.heap L ∧ FrameEnd U o U' L ({ frames := 2, cells := 0, slots := 0, locals := 27 } : Room).cells ({ frames := 2, cells := 0, slots := 0, locals := 27 } : Room).slots) := by
  refine MetFree.of_bodySF (plainFor_of_name pn_0) hisR ?_
  intro p e s m args below meth c s₁ Bd hml0 hP hK
  obtain ⟨rfl, hZ, hh⟩ := hP
  have hx := Bd.exec
  have hby := Bd.bytes
  have hml : c.maxLocals = 8 := hml0
  have hown : s.vm.findClass "java/lang/String" = some m.cls := findClass_of_methodNamed Bd.named
  have hnm := (name_of_methodNamed Bd.named Bd.method).1
  have X0 : Stand p l e ({ frames := 2, cells := 0, slots := 0, locals := 27 } : Room) s m #[(.ref a1), (.ref a2), (.int (0 : Int32))] below meth c s₁ [] 0 0 := Stand.of_body Bd
  have e0 : s₁.heap = h0 := by rw [← hh, Bd.state]; rfl
  have N0 := Fr.nil n0
  have KC : Keep h0 h0 [] := Keep.refl h0 _
  have pre0 : ∀ t, Steps p.tables e below (s₁.setTop (mkF m 0 #[vr a1, vr a2, vi (0 : Int32), un, un, un, un, un] [])) t → Steps p.tables e below (s₁.setTop (entryFrame m #[(.ref a1), (.ref a2), (.int (0 : Int32))] 8)) t := fun t k => castTop (ef_rm_sw1 m a1 a2 (0 : Int32)) k
  obtain ⟨cq1, kq1, q1a, q1b, q1c⟩ := isOf hZ e0 E_a1
  obtain ⟨_, _, ⟨T1, L1, kz1, nz1⟩, -, X1, ⟨Lc1, hQ1, l1, y1, z1⟩, st1⟩ := X0.virtualBack hx (y := y_1) (z := y_1) hown (mvT hZ (ww hw 32 rfl)) (mvT hZ (ww hw 33 rfl)) (notFace_of_selects (args := #[]) (mvT hZ (ww hw 35 rfl))) (mvT hZ (ww hw 35 rfl)) (mvT hZ (ww hw 34 rfl)) (by decide) (backOf (W := 1) (rm_length l Z a0 hw [] a1 t1 k1 (1 : Int32) vs1 zc h0 n0 (Nat.le_trans Z0 KC.1) O0 E_a1 F_value_a1 F_coder_a1 V_t1 S_CS hz) hZ (ww hw 36 rfl) (ww hw 3 rfl) (by decide) (by decide)) q1a q1c (g := (mkF m 6 #[vr a1, vr a2, vi (0 : Int32), un, un, un, un, un] [(.ref a1), (.int (0 : Int32))])) rfl (by rw [hml]; rfl) (Steps.refl _) (argsL := []) (rest := [(.int (0 : Int32))]) (lenOf pd_8 rfl) rfl (by show 2 * 0 + _ ≤ _; exact Nat.le_of_eq rfl) (hb hby d8_6) (fun _ _ => ⟨rfl, e0, (by decide : 0 + 0 ≤ _), (by decide : 0 + 0 ≤ _)⟩)
  dsimp only [Pt.U, Pt.locs, Pt.cells, Pt.slots] at X1 l1 y1 z1 st1 hQ1
  subst l1 y1 z1
  obtain ⟨rfl, N1q, e1⟩ := hQ1
  have N1 := Fr.app N0 N1q
  obtain ⟨cq2, kq2, q2a, q2b, q2c⟩ := isOf hZ e1 E_a2
  obtain ⟨_, _, ⟨T2, L2, kz2, nz2⟩, -, X2, ⟨Lc2, hQ2, l2, y2, z2⟩, st2⟩ := X1.virtualBack hx (y := y_1) (z := y_1) hown (mvT hZ (ww hw 32 rfl)) (mvT hZ (ww hw 33 rfl)) (notFace_of_selects (args := #[]) (mvT hZ (ww hw 35 rfl))) (mvT hZ (ww hw 35 rfl)) (mvT hZ (ww hw 34 rfl)) (by decide) (backOf (W := 2) (rm_length l Z a0 hw [] a2 t2 k2 (1 : Int32) [(.int w)] zc h0 n0 (Nat.le_trans Z0 KC.1) O0 E_a2 F_value_a2 F_coder_a2 V_t2 S_CS hz) hZ (ww hw 36 rfl) (ww hw 3 rfl) (by decide) (by decide)) q2a q2c (g := (mkF m 10 #[vr a1, vr a2, vi (0 : Int32), un, un, un, un, un] [(.ref a2), (.int (1 : Int32)), (.int (0 : Int32))])) rfl (by rw [hml]; rfl) (Steps.refl _) (argsL := []) (rest := [(.int (1 : Int32)), (.int (0 : Int32))]) (lenOf pd_8 rfl) rfl (by show 2 * 0 + _ ≤ _; exact Nat.le_of_eq rfl) (hb hby d8_10) (fun _ _ => ⟨rfl, e1, (by decide : 0 + 0 ≤ _), (by decide : 0 + 0 ≤ _)⟩)
  dsimp only [Pt.U, Pt.locs, Pt.cells, Pt.slots] at X2 l2 y2 z2 st2 hQ2
  subst l2 y2 z2
  obtain ⟨rfl, N2q, e2⟩ := hQ2
  have N2 := Fr.app N1 N2q
  obtain ⟨T3, X3, e3, st3⟩ := getF X2 hx hZ hown (host := "") (Or.inl (ww hw 20 rfl)) Via.refl e2 F_value_a1 (g := (mkF m 20 #[vr a1, vr a2, vi (0 : Int32), un, un, un, un, un] [(.ref a1)])) rfl rfl (hb hby d8_20)
  obtain ⟨T4, X4, e4, st4⟩ := getF X3 hx hZ hown (host := "") (Or.inl (ww hw 20 rfl)) Via.refl e3 F_value_a2 (g := (mkF m 25 #[vr a1, vr a2, vi (0 : Int32), vr t1, un, un, un, un] [(.ref a2)])) rfl rfl (hb hby d8_25)
  have Vo5 := V_t2
  obtain ⟨cl5, Ar5, -, Sz5, Nn5, -, -⟩ := Vo5
  have ia5 := State.isArrayOf_alike hZ.alike Ar5.2.1
  obtain ⟨cq6, kq6, q6a, q6b, q6c⟩ := isOf hZ e4 E_a1
  obtain ⟨_, _, ⟨T6, L6, kz6, nz6⟩, -, X6, ⟨Lc6, hQ6, l6, y6, z6⟩, st6⟩ := X4.virtualBack hx (y := y_0) (z := y_0) hown (mvT hZ (ww hw 37 rfl)) (mvT hZ (ww hw 38 rfl)) (notFace_of_selects (args := #[]) (mvT hZ (ww hw 40 rfl))) (mvT hZ (ww hw 40 rfl)) (mvT hZ (ww hw 39 rfl)) (by decide) (backOf (W := 0) (rm_coder l Z a0 hw [] a1 zc h0 n0 (Nat.le_trans Z0 KC.1) O0 F_coder_a1 S_CS hz) hZ (ww hw 41 rfl) (ww hw 3 rfl) (by decide) (by decide)) q6a q6c (g := (mkF m 39 #[vr a1, vr a2, vi (0 : Int32), vr t1, vr t2, vi (0 : Int32), vi (1 : Int32), un] [(.ref a1)])) rfl (by rw [hml]; rfl) (Steps.refl _) (argsL := []) (rest := []) (lenOf pd_0 rfl) rfl (by show 2 * 0 + _ ≤ _; exact Nat.le_of_eq rfl) (hb hby d8_39) (fun _ _ => ⟨rfl, e4, (by decide : 0 + 0 ≤ _), (by decide : 0 + 0 ≤ _)⟩)
  dsimp only [Pt.U, Pt.locs, Pt.cells, Pt.slots] at X6 l6 y6 z6 st6 hQ6
  subst l6 y6 z6
  obtain ⟨rfl, N6q, e6⟩ := hQ6
  have N6 := Fr.app N2 N6q
  obtain ⟨cq7, kq7, q7a, q7b, q7c⟩ := isOf hZ e6 E_a2
  obtain ⟨_, _, ⟨T7, L7, kz7, nz7⟩, -, X7, ⟨Lc7, hQ7, l7, y7, z7⟩, st7⟩ := X6.virtualBack hx (y := y_0) (z := y_0) hown (mvT hZ (ww hw 37 rfl)) (mvT hZ (ww hw 38 rfl)) (notFace_of_selects (args := #[]) (mvT hZ (ww hw 40 rfl))) (mvT hZ (ww hw 40 rfl)) (mvT hZ (ww hw 39 rfl)) (by decide) (backOf (W := 1) (rm_coder l Z a0 hw [] a2 zc h0 n0 (Nat.le_trans Z0 KC.1) O0 F_coder_a2 S_CS hz) hZ (ww hw 41 rfl) (ww hw 3 rfl) (by decide) (by decide)) q7a q7c (g := (mkF m 47 #[vr a1, vr a2, vi (0 : Int32), vr t1, vr t2, vi (0 : Int32), vi (1 : Int32), vi (0 : Int32)] [(.ref a2), (.int (0 : Int32))])) rfl (by rw [hml]; rfl) (Steps.refl _) (argsL := []) (rest := [(.int (0 : Int32))]) (lenOf pd_0 rfl) rfl (by show 2 * 0 + _ ≤ _; exact Nat.le_of_eq rfl) (hb hby d8_47) (fun _ _ => ⟨rfl, e6, (by decide : 0 + 0 ≤ _), (by decide : 0 + 0 ≤ _)⟩)
  dsimp only [Pt.U, Pt.locs, Pt.cells, Pt.slots] at X7 l7 y7 z7 st7 hQ7
  subst l7 y7 z7
  obtain ⟨rfl, N7q, e7⟩ := hQ7
  have N7 := Fr.app N6 N7q
  obtain ⟨_, _, ⟨T8, L8, kz8, nz8⟩, -, X8, ⟨Lc8, hQ8, l8, y8, z8⟩, st8⟩ := Jvm.LawKit.callS X7 hx (y := y_33) hown (mvT hZ (ww hw 239 rfl)) (mvT hZ (ww hw 240 rfl)) (mvT hZ (ww hw 241 rfl)) (mvT hZ (ww hw 242 rfl)) (by decide) (backOf (W := 0) (rm_mm0 l Z a0 hw [] t1 t2 k1 (1 : Int32) vs1 u k2 w h0 n0 (Nat.le_trans Z0 KC.1) O0 V_t1 V_t2 (by decide) hU hN) hZ (ww hw 242 rfl) (ww hw 241 rfl) (by decide) (by decide)) (g := (mkF m 70 #[vr a1, vr a2, vi (0 : Int32), vr t1, vr t2, vi (0 : Int32), vi (1 : Int32), vi (0 : Int32)] [(.int (1 : Int32)), (.int (0 : Int32)), (.ref t2), (.int (0 : Int32)), (.ref t1)])) rfl (by rw [hml]; rfl) (argsL := [(.ref t1), (.int (0 : Int32)), (.ref t2), (.int (0 : Int32)), (.int (1 : Int32))]) (rest := []) (lenOf pd_20 rfl) rfl (by show 2 * 0 + _ ≤ _; exact Nat.le_of_eq rfl) (hb hby d8_70) (fun _ _ => ⟨rfl, e7, (by decide : 0 + 0 ≤ _), (by decide : 0 + 0 ≤ _)⟩)
  dsimp only [Pt.U, Pt.locs, Pt.cells, Pt.slots] at X8 l8 y8 z8 st8 hQ8
  subst l8 y8 z8
  obtain ⟨rfl, N8q, e8⟩ := hQ8
  have N8 := Fr.app N7 N8q
  obtain ⟨fs, hr, hrun, hended, hW, hsame⟩ := X8.leave (v := some (.int (0 : Int32))) (fun h => by rw [Bd.returns] at h; cases h)
  refine ⟨_, _, pre0 _ ?_, hrun, hended, _, _, rfl, ?_, ⟨_, rfl⟩, hW, hsame.mono (by decide) (by decide)⟩
  · show SS p e below m s₁ 0 #[vr a1, vr a2, vi (0 : Int32), un, un, un, un, un] [] _
    refine XS.iloadN X0.here hx rfl (hb hby d8_0) rfl ?_
    show SS p e below m s₁ 1 #[vr a1, vr a2, vi (0 : Int32), un, un, un, un, un] [(.int (0 : Int32))] _
    refine XS.ifNo X0.here hx rfl (hb hby d8_1) rfl ((if0 _ _).trans (flt (by decide)).1) ?_
    show SS p e below m s₁ 4 #[vr a1, vr a2, vi (0 : Int32), un, un, un, un, un] [] _
    refine XS.iloadN X0.here hx rfl (hb hby d8_4) rfl ?_
    show SS p e below m s₁ 5 #[vr a1, vr a2, vi (0 : Int32), un, un, un, un, un] [(.int (0 : Int32))] _
    refine XS.aloadN X0.here hx rfl (hb hby d8_5) rfl rfl ?_
    show SS p e below m s₁ 6 #[vr a1, vr a2, vi (0 : Int32), un, un, un, un, un] [(.ref a1), (.int (0 : Int32))] _
    refine st1.trans ?_
    show SS p e below m T1 9 #[vr a1, vr a2, vi (0 : Int32), un, un, un, un, un] [(.int (1 : Int32)), (.int (0 : Int32))] _
    refine XS.aloadN X1.here hx rfl (hb hby d8_9) rfl rfl ?_
    show SS p e below m T1 10 #[vr a1, vr a2, vi (0 : Int32), un, un, un, un, un] [(.ref a2), (.int (1 : Int32)), (.int (0 : Int32))] _
    refine st2.trans ?_
    show SS p e below m T2 13 #[vr a1, vr a2, vi (0 : Int32), un, un, un, un, un] [(.int (1 : Int32)), (.int (1 : Int32)), (.int (0 : Int32))] _
    refine XS.isub X2.here hx rfl (hb hby d8_13) rfl ?_
    show SS p e below m T2 14 #[vr a1, vr a2, vi (0 : Int32), un, un, un, un, un] [(.int (0 : Int32)), (.int (0 : Int32))] _
    refine XS.icmpYes X2.here hx rfl (pc0 := 14) (pc' := 19) rfl (hb hby d8_14) rfl (flt (by decide)).2.2.2 (by decide) (by decide) ?_
    show SS p e below m T2 19 #[vr a1, vr a2, vi (0 : Int32), un, un, un, un, un] [] _
    refine XS.aloadN X2.here hx rfl (hb hby d8_19) rfl rfl ?_
    show SS p e below m T2 20 #[vr a1, vr a2, vi (0 : Int32), un, un, un, un, un] [(.ref a1)] _
    refine st3 _ ?_
    show SS p e below m T3 23 #[vr a1, vr a2, vi (0 : Int32), un, un, un, un, un] [(.ref t1)] _
    refine XS.astoreN X3.here hx rfl (hb hby d8_23) rfl rfl (l' := #[vr a1, vr a2, vi (0 : Int32), vr t1, un, un, un, un]) rfl ?_
    show SS p e below m T3 24 #[vr a1, vr a2, vi (0 : Int32), vr t1, un, un, un, un] [] _
    refine XS.aloadN X3.here hx rfl (hb hby d8_24) rfl rfl ?_
    show SS p e below m T3 25 #[vr a1, vr a2, vi (0 : Int32), vr t1, un, un, un, un] [(.ref a2)] _
    refine st4 _ ?_
    show SS p e below m T4 28 #[vr a1, vr a2, vi (0 : Int32), vr t1, un, un, un, un] [(.ref t2)] _
    refine XS.astore X4.here hx rfl (hb hby d8_28) rfl rfl (l' := #[vr a1, vr a2, vi (0 : Int32), vr t1, vr t2, un, un, un]) rfl ?_
    show SS p e below m T4 30 #[vr a1, vr a2, vi (0 : Int32), vr t1, vr t2, un, un, un] [] _
    refine XS.iconst X4.here hx rfl (hb hby d8_30) ?_
    show SS p e below m T4 31 #[vr a1, vr a2, vi (0 : Int32), vr t1, vr t2, un, un, un] [(.int (0 : Int32))] _
    refine XS.istore X4.here hx rfl (hb hby d8_31) rfl (l' := #[vr a1, vr a2, vi (0 : Int32), vr t1, vr t2, vi (0 : Int32), un, un]) rfl ?_
    show SS p e below m T4 33 #[vr a1, vr a2, vi (0 : Int32), vr t1, vr t2, vi (0 : Int32), un, un] [] _
    refine XS.aload X4.here hx rfl (hb hby d8_33) rfl rfl ?_
    show SS p e below m T4 35 #[vr a1, vr a2, vi (0 : Int32), vr t1, vr t2, vi (0 : Int32), un, un] [(.ref t2)] _
    refine X4.arraylength hx (by rw [e4]; exact Ar5.1) ia5 (g := (mkF m 35 #[vr a1, vr a2, vi (0 : Int32), vr t1, vr t2, vi (0 : Int32), un, un] [(.ref t2)])) rfl rfl (hb hby d8_35) _ ?_
    rw [len_of Sz5 Nn5]
    show SS p e below m T4 36 #[vr a1, vr a2, vi (0 : Int32), vr t1, vr t2, vi (0 : Int32), un, un] [(.int (1 : Int32))] _
    refine XS.istore X4.here hx rfl (hb hby d8_36) rfl (l' := #[vr a1, vr a2, vi (0 : Int32), vr t1, vr t2, vi (0 : Int32), vi (1 : Int32), un]) rfl ?_
    show SS p e below m T4 38 #[vr a1, vr a2, vi (0 : Int32), vr t1, vr t2, vi (0 : Int32), vi (1 : Int32), un] [] _
    refine XS.aloadN X4.here hx rfl (hb hby d8_38) rfl rfl ?_
    show SS p e below m T4 39 #[vr a1, vr a2, vi (0 : Int32), vr t1, vr t2, vi (0 : Int32), vi (1 : Int32), un] [(.ref a1)] _
    refine st6.trans ?_
    show SS p e below m T6 42 #[vr a1, vr a2, vi (0 : Int32), vr t1, vr t2, vi (0 : Int32), vi (1 : Int32), un] [(.int (0 : Int32))] _
    refine XS.istore X6.here hx rfl (hb hby d8_42) rfl (l' := #[vr a1, vr a2, vi (0 : Int32), vr t1, vr t2, vi (0 : Int32), vi (1 : Int32), vi (0 : Int32)]) rfl ?_
    show SS p e below m T6 44 #[vr a1, vr a2, vi (0 : Int32), vr t1, vr t2, vi (0 : Int32), vi (1 : Int32), vi (0 : Int32)] [] _
    refine XS.iload X6.here hx rfl (hb hby d8_44) rfl ?_
    show SS p e below m T6 46 #[vr a1, vr a2, vi (0 : Int32), vr t1, vr t2, vi (0 : Int32), vi (1 : Int32), vi (0 : Int32)] [(.int (0 : Int32))] _
    refine XS.aloadN X6.here hx rfl (hb hby d8_46) rfl rfl ?_
    show SS p e below m T6 47 #[vr a1, vr a2, vi (0 : Int32), vr t1, vr t2, vi (0 : Int32), vi (1 : Int32), vi (0 : Int32)] [(.ref a2), (.int (0 : Int32))] _
    refine st7.trans ?_
    show SS p e below m T7 50 #[vr a1, vr a2, vi (0 : Int32), vr t1, vr t2, vi (0 : Int32), vi (1 : Int32), vi (0 : Int32)] [(.int (0 : Int32)), (.int (0 : Int32))] _
    refine XS.icmpNo X7.here hx rfl (hb hby d8_50) rfl (teq (by decide)).2 ?_
    show SS p e below m T7 53 #[vr a1, vr a2, vi (0 : Int32), vr t1, vr t2, vi (0 : Int32), vi (1 : Int32), vi (0 : Int32)] [] _
    refine XS.iload X7.here hx rfl (hb hby d8_53) rfl ?_
    show SS p e below m T7 55 #[vr a1, vr a2, vi (0 : Int32), vr t1, vr t2, vi (0 : Int32), vi (1 : Int32), vi (0 : Int32)] [(.int (0 : Int32))] _
    refine XS.iconst X7.here hx rfl (hb hby d8_55) ?_
    show SS p e below m T7 56 #[vr a1, vr a2, vi (0 : Int32), vr t1, vr t2, vi (0 : Int32), vi (1 : Int32), vi (0 : Int32)] [(.int (1 : Int32)), (.int (0 : Int32))] _
    refine XS.icmpYes X7.here hx rfl (pc0 := 56) (pc' := 63) rfl (hb hby d8_56) rfl (feq (by decide)).2 (by decide) (by decide) ?_
    show SS p e below m T7 63 #[vr a1, vr a2, vi (0 : Int32), vr t1, vr t2, vi (0 : Int32), vi (1 : Int32), vi (0 : Int32)] [] _
    refine XS.aloadN X7.here hx rfl (hb hby d8_63) rfl rfl ?_
    show SS p e below m T7 64 #[vr a1, vr a2, vi (0 : Int32), vr t1, vr t2, vi (0 : Int32), vi (1 : Int32), vi (0 : Int32)] [(.ref t1)] _
    refine XS.iloadN X7.here hx rfl (hb hby d8_64) rfl ?_
    show SS p e below m T7 65 #[vr a1, vr a2, vi (0 : Int32), vr t1, vr t2, vi (0 : Int32), vi (1 : Int32), vi (0 : Int32)] [(.int (0 : Int32)), (.ref t1)] _
    refine XS.aload X7.here hx rfl (hb hby d8_65) rfl rfl ?_
    show SS p e below m T7 67 #[vr a1, vr a2, vi (0 : Int32), vr t1, vr t2, vi (0 : Int32), vi (1 : Int32), vi (0 : Int32)] [(.ref t2), (.int (0 : Int32)), (.ref t1)] _
    refine XS.iconst X7.here hx rfl (hb hby d8_67) ?_
    show SS p e below m T7 68 #[vr a1, vr a2, vi (0 : Int32), vr t1, vr t2, vi (0 : Int32), vi (1 : Int32), vi (0 : Int32)] [(.int (0 : Int32)), (.ref t2), (.int (0 : Int32)), (.ref t1)] _
    refine XS.iload X7.here hx rfl (hb hby d8_68) rfl ?_
    show SS p e below m T7 70 #[vr a1, vr a2, vi (0 : Int32), vr t1, vr t2, vi (0 : Int32), vi (1 : Int32), vi (0 : Int32)] [(.int (1 : Int32)), (.int (0 : Int32)), (.ref t2), (.int (0 : Int32)), (.ref t1)] _
    refine st8 _ ?_
    show SS p e below m T8 73 #[vr a1, vr a2, vi (0 : Int32), vr t1, vr t2, vi (0 : Int32), vi (1 : Int32), vi (0 : Int32)] [(.int (0 : Int32))] _
    refine XS.ifYes X8.here hx rfl (pc0 := 73) (pc' := 80) rfl (hb hby d8_73) rfl ((if0 _ _).trans (flt (by decide)).2.1) (by decide) (by decide) ?_
    show SS p e below m T8 80 #[vr a1, vr a2, vi (0 : Int32), vr t1, vr t2, vi (0 : Int32), vi (1 : Int32), vi (0 : Int32)] [] _
    refine XS.iconst X8.here hx rfl (hb hby d8_80) ?_
    show SS p e below m T8 81 #[vr a1, vr a2, vi (0 : Int32), vr t1, vr t2, vi (0 : Int32), vi (1 : Int32), vi (0 : Int32)] [(.int (0 : Int32))] _
    exact retN X8 hx (t := .boolean) Bd.returns (by simp) (hb hby d8_81) hr
  · show Q_rm_sw1 Z a1 a2 t1 k1 vs1 u t2 k2 w zc h0 n0 _ T8.heap _
    rw [e8]
    exact ⟨rfl, N8, rfl⟩
theorem ef_rm_mm1 (m : MethodId) (x0 : Addr) (x1 : Int32) (x2 : Addr) (x3 : Int32) (x4 : Int32) : entryFrame m #[(.ref x0), (.int x1), (.ref x2), (.int x3), (.int x4)] 8 = mkF m 0 #[vr x0, vi x1, vr x2, vi x3, vi x4, .unset, .unset, .unset] [] := by first | (simp [entryFrame, mkF, argsToLocals, Value.category]; done) | rfl
def Q_rm_mm1 (Z : State) (a1 : Addr) (a3 : Addr) (k1 : ClassId) (z1 : Int32) (vs1 : List Value) (u : Int32) (k3 : ClassId) (w : Int32) (h0 : Heap) (n0 : Nat) (v : Option Value) (h : Heap) (L : List Loc) : Prop := (v = some (.int (0 : Int32))) ∧ (Fr n0 L) ∧ (h = h0)
set_option maxRecDepth 65536 in
set_option maxHeartbeats 40000000 in
theorem rm_mm1 (l : Launch) (Z : State) (a0 : Array Value) (hw : ∀ d ∈ tables_1, d.before a0 Z = true) (ws : List Jvm.Cond) (a1 : Addr) (a3 : Addr) (k1 : ClassId) (z1 : Int32) (vs1 : List Value) (u : Int32) (k3 : ClassId) (w : Int32) (h0 : Heap) (n0 : Nat) (Z0 : n0 ≤ h0.size) (O0 : Old Z n0 h0) (V_a1 : Arv Z h0 a1 k1 .byte z1 vs1 (.int (0 : Int32))) (V_a3 : Arv Z h0 a3 k3 .byte (1 : Int32) [(.int w)] (.int (0 : Int32))) (hM : (1 : Int32) < z1) (hU : vs1.getD (1 : Int32).toNatClampNeg (.int (0 : Int32)) = .int u) (hN : ¬ u = w) :
    MetFree l y_33 (head1 (Jvm.Cond.code y_33 jdk_48_method_14_code 8 (some .int) :: ws) ({ frames := 0, cells := 0, slots := 0, locals := 0 } : Room)) (fun a U => a = #[(.ref a1), (.int (1 : Int32)), (.ref a3), (.int (0 : Int32)), (.int (1 : Int32))] ∧ Z.Warmed39 U.vm ∧ U.heap = h0) (fun _ _ _ _ _ => True) (fun _ U o U' => ∃ v L, o = .returned v ∧ Q_rm_mm1 Z a1 a3 k1 z1 vs1 u k3 w h0 n0 v U'.heap L ∧ FrameEnd U o U' L ({ frames := 0, cells := 0, slots := 0, locals := 0 } : Room).cells ({ frames := 0, cells := 0, slots := 0, locals := 0 } : Room).slots) := by
  refine MetFree.of_bodySF (plainFor_of_name pn_8) hisR ?_
  intro p e s m args below meth c s₁ Bd hml0 hP hK
  obtain ⟨rfl, hZ, hh⟩ := hP
  have hx := Bd.exec
  have hby := Bd.bytes
  have hml : c.maxLocals = 8 := hml0
  have hown : s.vm.findClass "jdk/internal/util/ArraysSupport" = some m.cls := findClass_of_methodNamed Bd.named
  have hnm := (name_of_methodNamed Bd.named Bd.method).1
  have X0 : Stand p l e ({ frames := 0, cells := 0, slots := 0, locals := 0 } : Room) s m #[(.ref a1), (.int (1 : Int32)), (.ref a3), (.int (0 : Int32)), (.int (1 : Int32))] below meth c s₁ [] 0 0 := Stand.of_body Bd
  have e0 : s₁.heap = h0 := by rw [← hh, Bd.state]; rfl
  have N0 := Fr.nil n0
  have KC : Keep h0 h0 [] := Keep.refl h0 _
  have pre0 : ∀ t, Steps p.tables e below (s₁.setTop (mkF m 0 #[vr a1, vi (1 : Int32), vr a3, vi (0 : Int32), vi (1 : Int32), un, un, un] [])) t → Steps p.tables e below (s₁.setTop (entryFrame m #[(.ref a1), (.int (1 : Int32)), (.ref a3), (.int (0 : Int32)), (.int (1 : Int32))] 8)) t := fun t k => castTop (ef_rm_mm1 m a1 (1 : Int32) a3 (0 : Int32) (1 : Int32)) k
  have Vo1 := V_a1
  obtain ⟨cl1, Ar1, q1, Sz1, Nn1, Hh1, Gg1⟩ := Vo1
  have hin1 : ¬ ((1 : Int32) < 0 ∨ cl1.slots.size ≤ ((1 : Int32)).toNatClampNeg) := inb_of Sz1 ⟨by decide, hM⟩
  have hat1 : cl1.slots[((1 : Int32)).toNatClampNeg]? = some (.int u) := Has.at Hh1 hin1 hU
  have ia1 := State.isArrayOf_alike hZ.alike Ar1.2.1
  have Vo2 := V_a3
  obtain ⟨cl2, Ar2, q2, Sz2, Nn2, Hh2, Gg2⟩ := Vo2
  have hin2 : ¬ ((0 : Int32) < 0 ∨ cl2.slots.size ≤ ((0 : Int32)).toNatClampNeg) := inb_of Sz2 ⟨by decide, by decide⟩
  have hat2 : cl2.slots[((0 : Int32)).toNatClampNeg]? = some (.int w) := Has.at Hh2 hin2 rfl
  have ia2 := State.isArrayOf_alike hZ.alike Ar2.2.1
  obtain ⟨fs, hr, hrun, hended, hW, hsame⟩ := X0.leave (v := some (.int (0 : Int32))) (fun h => by rw [Bd.returns] at h; cases h)
  refine ⟨_, _, pre0 _ ?_, hrun, hended, _, _, rfl, ?_, ⟨_, rfl⟩, hW, hsame.mono (by decide) (by decide)⟩
  · show SS p e below m s₁ 0 #[vr a1, vi (1 : Int32), vr a3, vi (0 : Int32), vi (1 : Int32), un, un, un] [] _
    refine XS.iconst X0.here hx rfl (hb hby d45_0) ?_
    show SS p e below m s₁ 1 #[vr a1, vi (1 : Int32), vr a3, vi (0 : Int32), vi (1 : Int32), un, un, un] [(.int (0 : Int32))] _
    refine XS.istore X0.here hx rfl (hb hby d45_1) rfl (l' := #[vr a1, vi (1 : Int32), vr a3, vi (0 : Int32), vi (1 : Int32), vi (0 : Int32), un, un]) rfl ?_
    show SS p e below m s₁ 3 #[vr a1, vi (1 : Int32), vr a3, vi (0 : Int32), vi (1 : Int32), vi (0 : Int32), un, un] [] _
    refine XS.iload X0.here hx rfl (hb hby d45_3) rfl ?_
    show SS p e below m s₁ 5 #[vr a1, vi (1 : Int32), vr a3, vi (0 : Int32), vi (1 : Int32), vi (0 : Int32), un, un] [(.int (1 : Int32))] _
    refine XS.bipush X0.here hx rfl (hb hby d45_5) ?_
    show SS p e below m s₁ 7 #[vr a1, vi (1 : Int32), vr a3, vi (0 : Int32), vi (1 : Int32), vi (0 : Int32), un, un] [(.int (7 : Int32)), (.int (1 : Int32))] _
    refine XS.icmpYes X0.here hx rfl (pc0 := 7) (pc' := 70) rfl (hb hby d45_7) rfl (flt (by decide)).2.2.2 (by decide) (by decide) ?_
    show SS p e below m s₁ 70 #[vr a1, vi (1 : Int32), vr a3, vi (0 : Int32), vi (1 : Int32), vi (0 : Int32), un, un] [] _
    refine XS.iload X0.here hx rfl (hb hby d45_70) rfl ?_
    show SS p e below m s₁ 72 #[vr a1, vi (1 : Int32), vr a3, vi (0 : Int32), vi (1 : Int32), vi (0 : Int32), un, un] [(.int (0 : Int32))] _
    refine XS.iload X0.here hx rfl (hb hby d45_72) rfl ?_
    show SS p e below m s₁ 74 #[vr a1, vi (1 : Int32), vr a3, vi (0 : Int32), vi (1 : Int32), vi (0 : Int32), un, un] [(.int (1 : Int32)), (.int (0 : Int32))] _
    refine XS.icmpNo X0.here hx rfl (hb hby d45_74) rfl (tlt (by decide)).2.1 ?_
    show SS p e below m s₁ 77 #[vr a1, vi (1 : Int32), vr a3, vi (0 : Int32), vi (1 : Int32), vi (0 : Int32), un, un] [] _
    refine XS.aloadN X0.here hx rfl (hb hby d45_77) rfl rfl ?_
    show SS p e below m s₁ 78 #[vr a1, vi (1 : Int32), vr a3, vi (0 : Int32), vi (1 : Int32), vi (0 : Int32), un, un] [(.ref a1)] _
    refine XS.iloadN X0.here hx rfl (hb hby d45_78) rfl ?_
    show SS p e below m s₁ 79 #[vr a1, vi (1 : Int32), vr a3, vi (0 : Int32), vi (1 : Int32), vi (0 : Int32), un, un] [(.int (1 : Int32)), (.ref a1)] _
    refine XS.iload X0.here hx rfl (hb hby d45_79) rfl ?_
    show SS p e below m s₁ 81 #[vr a1, vi (1 : Int32), vr a3, vi (0 : Int32), vi (1 : Int32), vi (0 : Int32), un, un] [(.int (0 : Int32)), (.int (1 : Int32)), (.ref a1)] _
    refine XS.iadd X0.here hx rfl (hb hby d45_81) rfl ?_
    show SS p e below m s₁ 82 #[vr a1, vi (1 : Int32), vr a3, vi (0 : Int32), vi (1 : Int32), vi (0 : Int32), un, un] [(.int (1 : Int32)), (.ref a1)] _
    refine X0.baloadBytes hx (j := (1 : Int32)) (v := (.int u)) (by rw [e0]; exact Ar1.1) ia1 Ar1.2.2 hin1 hat1 (g := (mkF m 82 #[vr a1, vi (1 : Int32), vr a3, vi (0 : Int32), vi (1 : Int32), vi (0 : Int32), un, un] [(.int (1 : Int32)), (.ref a1)])) rfl rfl (hb hby d45_82) _ ?_
    show SS p e below m s₁ 83 #[vr a1, vi (1 : Int32), vr a3, vi (0 : Int32), vi (1 : Int32), vi (0 : Int32), un, un] [(.int u)] _
    refine XS.aloadN X0.here hx rfl (hb hby d45_83) rfl rfl ?_
    show SS p e below m s₁ 84 #[vr a1, vi (1 : Int32), vr a3, vi (0 : Int32), vi (1 : Int32), vi (0 : Int32), un, un] [(.ref a3), (.int u)] _
    refine XS.iloadN X0.here hx rfl (hb hby d45_84) rfl ?_
    show SS p e below m s₁ 85 #[vr a1, vi (1 : Int32), vr a3, vi (0 : Int32), vi (1 : Int32), vi (0 : Int32), un, un] [(.int (0 : Int32)), (.ref a3), (.int u)] _
    refine XS.iload X0.here hx rfl (hb hby d45_85) rfl ?_
    show SS p e below m s₁ 87 #[vr a1, vi (1 : Int32), vr a3, vi (0 : Int32), vi (1 : Int32), vi (0 : Int32), un, un] [(.int (0 : Int32)), (.int (0 : Int32)), (.ref a3), (.int u)] _
    refine XS.iadd X0.here hx rfl (hb hby d45_87) rfl ?_
    show SS p e below m s₁ 88 #[vr a1, vi (1 : Int32), vr a3, vi (0 : Int32), vi (1 : Int32), vi (0 : Int32), un, un] [(.int (0 : Int32)), (.ref a3), (.int u)] _
    refine X0.baloadBytes hx (j := (0 : Int32)) (v := (.int w)) (by rw [e0]; exact Ar2.1) ia2 Ar2.2.2 hin2 hat2 (g := (mkF m 88 #[vr a1, vi (1 : Int32), vr a3, vi (0 : Int32), vi (1 : Int32), vi (0 : Int32), un, un] [(.int (0 : Int32)), (.ref a3), (.int u)])) rfl rfl (hb hby d45_88) _ ?_
    show SS p e below m s₁ 89 #[vr a1, vi (1 : Int32), vr a3, vi (0 : Int32), vi (1 : Int32), vi (0 : Int32), un, un] [(.int w), (.int u)] _
    refine XS.icmpNo X0.here hx rfl (hb hby d45_89) rfl (feq hN).1 ?_
    show SS p e below m s₁ 92 #[vr a1, vi (1 : Int32), vr a3, vi (0 : Int32), vi (1 : Int32), vi (0 : Int32), un, un] [] _
    refine XS.iload X0.here hx rfl (hb hby d45_92) rfl ?_
    show SS p e below m s₁ 94 #[vr a1, vi (1 : Int32), vr a3, vi (0 : Int32), vi (1 : Int32), vi (0 : Int32), un, un] [(.int (0 : Int32))] _
    exact retI X0 hx Bd.returns (hb hby d45_94) hr
  · show Q_rm_mm1 Z a1 a3 k1 z1 vs1 u k3 w h0 n0 _ s₁.heap _
    rw [e0]
    exact ⟨rfl, N0, rfl⟩
theorem ef_rm_sw2 (m : MethodId) (x0 : Addr) (x1 : Addr) (x2 : Int32) : entryFrame m #[(.ref x0), (.ref x1), (.int x2)] 8 = mkF m 0 #[vr x0, vr x1, vi x2, .unset, .unset, .unset, .unset, .unset] [] := by first | (simp [entryFrame, mkF, argsToLocals, Value.category]; done) | rfl
def Q_rm_sw2 (Z : State) (a1 : Addr) (a2 : Addr) (t1 : Addr) (k1 : ClassId) (vs1 : List Value) (u : Int32) (t2 : Addr) (k2 : ClassId) (w : Int32) (zc : Int32) (h0 : Heap) (n0 : Nat) (v : Option Value) (h : Heap) (L : List Loc) : Prop := (v = some (.int (0 : Int32))) ∧ (Fr n0 L) ∧ (h = h0)
set_option maxRecDepth 65536 in
set_option maxHeartbeats 40000000 in
theorem rm_sw2 (l : Launch) (Z : State) (a0 : Array Value) (hw : ∀ d ∈ tables_1, d.before a0 Z = true) (ws : List Jvm.Cond) (a1 : Addr) (a2 : Addr) (t1 : Addr) (k1 : ClassId) (vs1 : List Value) (u : Int32) (t2 : Addr) (k2 : ClassId) (w : Int32) (zc : Int32) (h0 : Heap) (n0 : Nat) (Z0 : n0 ≤ h0.size) (O0 : Old Z n0 h0) (E_a1 : Exa Z h0 a1 "java/lang/String") (F_value_a1 : Fld Z h0 a1 "java/lang/String" "value" "[B" (.ref t1)) (F_coder_a1 : Fld Z h0 a1 "java/lang/String" "coder" "B" (.int (0 : Int32))) (V_t1 : Arv Z h0 t1 k1 .byte (2 : Int32) vs1 (.int (0 : Int32))) (E_a2 : Exa Z h0 a2 "java/lang/String") (F_value_a2 : Fld Z h0 a2 "java/lang/String" "value" "[B" (.ref t2)) (F_coder_a2 : Fld Z h0 a2 "java/lang/String" "coder" "B" (.int (0 : Int32))) (V_t2 : Arv Z h0 t2 k2 .byte (1 : Int32) [(.int w)] (.int (0 : Int32))) (S_CS : Sta Z Z.heap "java/lang/String" "COMPACT_STRINGS" "Z" (.int zc)) (hz : ¬ zc = (0 : Int32)) (hU : vs1.getD (1 : Int32).toNatClampNeg (.int (0 : Int32)) = .int u) (hN : ¬ u = w) :
    MetFree l y_32 (head1 (Jvm.Cond.code y_32 jdk_42_method_75_code 8 (some .boolean) :: ws) ({ frames := 2, cells := 0, slots := 0, locals := 27 } : Room)) (fun a U => a = #[(.ref a1), (.ref a2), (.int (1 : Int32))] ∧ Z.Warmed39 U.vm ∧ U.heap = h0) (fun _ _ _ _ _ => True) (fun _ U o U' => ∃ v L, o = .returned v ∧ Q_rm_sw2 Z a1 a2 t1 k1 vs1 u t2 k2 w zc h0 n0 v U'.heap L ∧ FrameEnd U o U' L ({ frames := 2, cells := 0, slots := 0, locals := 27 } : Room).cells ({ frames := 2, cells := 0, slots := 0, locals := 27 } : Room).slots) := by
  refine MetFree.of_bodySF (plainFor_of_name pn_0) hisR ?_
  intro p e s m args below meth c s₁ Bd hml0 hP hK
  obtain ⟨rfl, hZ, hh⟩ := hP
  have hx := Bd.exec
  have hby := Bd.bytes
  have hml : c.maxLocals = 8 := hml0
  have hown : s.vm.findClass "java/lang/String" = some m.cls := findClass_of_methodNamed Bd.named
  have hnm := (name_of_methodNamed Bd.named Bd.method).1
  have X0 : Stand p l e ({ frames := 2, cells := 0, slots := 0, locals := 27 } : Room) s m #[(.ref a1), (.ref a2), (.int (1 : Int32))] below meth c s₁ [] 0 0 := Stand.of_body Bd
  have e0 : s₁.heap = h0 := by rw [← hh, Bd.state]; rfl
  have N0 := Fr.nil n0
  have KC : Keep h0 h0 [] := Keep.refl h0 _
  have pre0 : ∀ t, Steps p.tables e below (s₁.setTop (mkF m 0 #[vr a1, vr a2, vi (1 : Int32), un, un, un, un, un] [])) t → Steps p.tables e below (s₁.setTop (entryFrame m #[(.ref a1), (.ref a2), (.int (1 : Int32))] 8)) t := fun t k => castTop (ef_rm_sw2 m a1 a2 (1 : Int32)) k
  obtain ⟨cq1, kq1, q1a, q1b, q1c⟩ := isOf hZ e0 E_a1
  obtain ⟨_, _, ⟨T1, L1, kz1, nz1⟩, -, X1, ⟨Lc1, hQ1, l1, y1, z1⟩, st1⟩ := X0.virtualBack hx (y := y_1) (z := y_1) hown (mvT hZ (ww hw 32 rfl)) (mvT hZ (ww hw 33 rfl)) (notFace_of_selects (args := #[]) (mvT hZ (ww hw 35 rfl))) (mvT hZ (ww hw 35 rfl)) (mvT hZ (ww hw 34 rfl)) (by decide) (backOf (W := 1) (rm_length l Z a0 hw [] a1 t1 k1 (2 : Int32) vs1 zc h0 n0 (Nat.le_trans Z0 KC.1) O0 E_a1 F_value_a1 F_coder_a1 V_t1 S_CS hz) hZ (ww hw 36 rfl) (ww hw 3 rfl) (by decide) (by decide)) q1a q1c (g := (mkF m 6 #[vr a1, vr a2, vi (1 : Int32), un, un, un, un, un] [(.ref a1), (.int (1 : Int32))])) rfl (by rw [hml]; rfl) (Steps.refl _) (argsL := []) (rest := [(.int (1 : Int32))]) (lenOf pd_8 rfl) rfl (by show 2 * 0 + _ ≤ _; exact Nat.le_of_eq rfl) (hb hby d8_6) (fun _ _ => ⟨rfl, e0, (by decide : 0 + 0 ≤ _), (by decide : 0 + 0 ≤ _)⟩)
  dsimp only [Pt.U, Pt.locs, Pt.cells, Pt.slots] at X1 l1 y1 z1 st1 hQ1
  subst l1 y1 z1
  obtain ⟨rfl, N1q, e1⟩ := hQ1
  have N1 := Fr.app N0 N1q
  obtain ⟨cq2, kq2, q2a, q2b, q2c⟩ := isOf hZ e1 E_a2
  obtain ⟨_, _, ⟨T2, L2, kz2, nz2⟩, -, X2, ⟨Lc2, hQ2, l2, y2, z2⟩, st2⟩ := X1.virtualBack hx (y := y_1) (z := y_1) hown (mvT hZ (ww hw 32 rfl)) (mvT hZ (ww hw 33 rfl)) (notFace_of_selects (args := #[]) (mvT hZ (ww hw 35 rfl))) (mvT hZ (ww hw 35 rfl)) (mvT hZ (ww hw 34 rfl)) (by decide) (backOf (W := 2) (rm_length l Z a0 hw [] a2 t2 k2 (1 : Int32) [(.int w)] zc h0 n0 (Nat.le_trans Z0 KC.1) O0 E_a2 F_value_a2 F_coder_a2 V_t2 S_CS hz) hZ (ww hw 36 rfl) (ww hw 3 rfl) (by decide) (by decide)) q2a q2c (g := (mkF m 10 #[vr a1, vr a2, vi (1 : Int32), un, un, un, un, un] [(.ref a2), (.int (2 : Int32)), (.int (1 : Int32))])) rfl (by rw [hml]; rfl) (Steps.refl _) (argsL := []) (rest := [(.int (2 : Int32)), (.int (1 : Int32))]) (lenOf pd_8 rfl) rfl (by show 2 * 0 + _ ≤ _; exact Nat.le_of_eq rfl) (hb hby d8_10) (fun _ _ => ⟨rfl, e1, (by decide : 0 + 0 ≤ _), (by decide : 0 + 0 ≤ _)⟩)
  dsimp only [Pt.U, Pt.locs, Pt.cells, Pt.slots] at X2 l2 y2 z2 st2 hQ2
  subst l2 y2 z2
  obtain ⟨rfl, N2q, e2⟩ := hQ2
  have N2 := Fr.app N1 N2q
  obtain ⟨T3, X3, e3, st3⟩ := getF X2 hx hZ hown (host := "") (Or.inl (ww hw 20 rfl)) Via.refl e2 F_value_a1 (g := (mkF m 20 #[vr a1, vr a2, vi (1 : Int32), un, un, un, un, un] [(.ref a1)])) rfl rfl (hb hby d8_20)
  obtain ⟨T4, X4, e4, st4⟩ := getF X3 hx hZ hown (host := "") (Or.inl (ww hw 20 rfl)) Via.refl e3 F_value_a2 (g := (mkF m 25 #[vr a1, vr a2, vi (1 : Int32), vr t1, un, un, un, un] [(.ref a2)])) rfl rfl (hb hby d8_25)
  have Vo5 := V_t2
  obtain ⟨cl5, Ar5, -, Sz5, Nn5, -, -⟩ := Vo5
  have ia5 := State.isArrayOf_alike hZ.alike Ar5.2.1
  obtain ⟨cq6, kq6, q6a, q6b, q6c⟩ := isOf hZ e4 E_a1
  obtain ⟨_, _, ⟨T6, L6, kz6, nz6⟩, -, X6, ⟨Lc6, hQ6, l6, y6, z6⟩, st6⟩ := X4.virtualBack hx (y := y_0) (z := y_0) hown (mvT hZ (ww hw 37 rfl)) (mvT hZ (ww hw 38 rfl)) (notFace_of_selects (args := #[]) (mvT hZ (ww hw 40 rfl))) (mvT hZ (ww hw 40 rfl)) (mvT hZ (ww hw 39 rfl)) (by decide) (backOf (W := 0) (rm_coder l Z a0 hw [] a1 zc h0 n0 (Nat.le_trans Z0 KC.1) O0 F_coder_a1 S_CS hz) hZ (ww hw 41 rfl) (ww hw 3 rfl) (by decide) (by decide)) q6a q6c (g := (mkF m 39 #[vr a1, vr a2, vi (1 : Int32), vr t1, vr t2, vi (0 : Int32), vi (1 : Int32), un] [(.ref a1)])) rfl (by rw [hml]; rfl) (Steps.refl _) (argsL := []) (rest := []) (lenOf pd_0 rfl) rfl (by show 2 * 0 + _ ≤ _; exact Nat.le_of_eq rfl) (hb hby d8_39) (fun _ _ => ⟨rfl, e4, (by decide : 0 + 0 ≤ _), (by decide : 0 + 0 ≤ _)⟩)
  dsimp only [Pt.U, Pt.locs, Pt.cells, Pt.slots] at X6 l6 y6 z6 st6 hQ6
  subst l6 y6 z6
  obtain ⟨rfl, N6q, e6⟩ := hQ6
  have N6 := Fr.app N2 N6q
  obtain ⟨cq7, kq7, q7a, q7b, q7c⟩ := isOf hZ e6 E_a2
  obtain ⟨_, _, ⟨T7, L7, kz7, nz7⟩, -, X7, ⟨Lc7, hQ7, l7, y7, z7⟩, st7⟩ := X6.virtualBack hx (y := y_0) (z := y_0) hown (mvT hZ (ww hw 37 rfl)) (mvT hZ (ww hw 38 rfl)) (notFace_of_selects (args := #[]) (mvT hZ (ww hw 40 rfl))) (mvT hZ (ww hw 40 rfl)) (mvT hZ (ww hw 39 rfl)) (by decide) (backOf (W := 1) (rm_coder l Z a0 hw [] a2 zc h0 n0 (Nat.le_trans Z0 KC.1) O0 F_coder_a2 S_CS hz) hZ (ww hw 41 rfl) (ww hw 3 rfl) (by decide) (by decide)) q7a q7c (g := (mkF m 47 #[vr a1, vr a2, vi (1 : Int32), vr t1, vr t2, vi (0 : Int32), vi (1 : Int32), vi (0 : Int32)] [(.ref a2), (.int (0 : Int32))])) rfl (by rw [hml]; rfl) (Steps.refl _) (argsL := []) (rest := [(.int (0 : Int32))]) (lenOf pd_0 rfl) rfl (by show 2 * 0 + _ ≤ _; exact Nat.le_of_eq rfl) (hb hby d8_47) (fun _ _ => ⟨rfl, e6, (by decide : 0 + 0 ≤ _), (by decide : 0 + 0 ≤ _)⟩)
  dsimp only [Pt.U, Pt.locs, Pt.cells, Pt.slots] at X7 l7 y7 z7 st7 hQ7
  subst l7 y7 z7
  obtain ⟨rfl, N7q, e7⟩ := hQ7
  have N7 := Fr.app N6 N7q
  obtain ⟨_, _, ⟨T8, L8, kz8, nz8⟩, -, X8, ⟨Lc8, hQ8, l8, y8, z8⟩, st8⟩ := Jvm.LawKit.callS X7 hx (y := y_33) hown (mvT hZ (ww hw 239 rfl)) (mvT hZ (ww hw 240 rfl)) (mvT hZ (ww hw 241 rfl)) (mvT hZ (ww hw 242 rfl)) (by decide) (backOf (W := 0) (rm_mm1 l Z a0 hw [] t1 t2 k1 (2 : Int32) vs1 u k2 w h0 n0 (Nat.le_trans Z0 KC.1) O0 V_t1 V_t2 (by decide) hU hN) hZ (ww hw 242 rfl) (ww hw 241 rfl) (by decide) (by decide)) (g := (mkF m 70 #[vr a1, vr a2, vi (1 : Int32), vr t1, vr t2, vi (0 : Int32), vi (1 : Int32), vi (0 : Int32)] [(.int (1 : Int32)), (.int (0 : Int32)), (.ref t2), (.int (1 : Int32)), (.ref t1)])) rfl (by rw [hml]; rfl) (argsL := [(.ref t1), (.int (1 : Int32)), (.ref t2), (.int (0 : Int32)), (.int (1 : Int32))]) (rest := []) (lenOf pd_20 rfl) rfl (by show 2 * 0 + _ ≤ _; exact Nat.le_of_eq rfl) (hb hby d8_70) (fun _ _ => ⟨rfl, e7, (by decide : 0 + 0 ≤ _), (by decide : 0 + 0 ≤ _)⟩)
  dsimp only [Pt.U, Pt.locs, Pt.cells, Pt.slots] at X8 l8 y8 z8 st8 hQ8
  subst l8 y8 z8
  obtain ⟨rfl, N8q, e8⟩ := hQ8
  have N8 := Fr.app N7 N8q
  obtain ⟨fs, hr, hrun, hended, hW, hsame⟩ := X8.leave (v := some (.int (0 : Int32))) (fun h => by rw [Bd.returns] at h; cases h)
  refine ⟨_, _, pre0 _ ?_, hrun, hended, _, _, rfl, ?_, ⟨_, rfl⟩, hW, hsame.mono (by decide) (by decide)⟩
  · show SS p e below m s₁ 0 #[vr a1, vr a2, vi (1 : Int32), un, un, un, un, un] [] _
    refine XS.iloadN X0.here hx rfl (hb hby d8_0) rfl ?_
    show SS p e below m s₁ 1 #[vr a1, vr a2, vi (1 : Int32), un, un, un, un, un] [(.int (1 : Int32))] _
    refine XS.ifNo X0.here hx rfl (hb hby d8_1) rfl ((if0 _ _).trans (flt (by decide)).1) ?_
    show SS p e below m s₁ 4 #[vr a1, vr a2, vi (1 : Int32), un, un, un, un, un] [] _
    refine XS.iloadN X0.here hx rfl (hb hby d8_4) rfl ?_
    show SS p e below m s₁ 5 #[vr a1, vr a2, vi (1 : Int32), un, un, un, un, un] [(.int (1 : Int32))] _
    refine XS.aloadN X0.here hx rfl (hb hby d8_5) rfl rfl ?_
    show SS p e below m s₁ 6 #[vr a1, vr a2, vi (1 : Int32), un, un, un, un, un] [(.ref a1), (.int (1 : Int32))] _
    refine st1.trans ?_
    show SS p e below m T1 9 #[vr a1, vr a2, vi (1 : Int32), un, un, un, un, un] [(.int (2 : Int32)), (.int (1 : Int32))] _
    refine XS.aloadN X1.here hx rfl (hb hby d8_9) rfl rfl ?_
    show SS p e below m T1 10 #[vr a1, vr a2, vi (1 : Int32), un, un, un, un, un] [(.ref a2), (.int (2 : Int32)), (.int (1 : Int32))] _
    refine st2.trans ?_
    show SS p e below m T2 13 #[vr a1, vr a2, vi (1 : Int32), un, un, un, un, un] [(.int (1 : Int32)), (.int (2 : Int32)), (.int (1 : Int32))] _
    refine XS.isub X2.here hx rfl (hb hby d8_13) rfl ?_
    show SS p e below m T2 14 #[vr a1, vr a2, vi (1 : Int32), un, un, un, un, un] [(.int (1 : Int32)), (.int (1 : Int32))] _
    refine XS.icmpYes X2.here hx rfl (pc0 := 14) (pc' := 19) rfl (hb hby d8_14) rfl (flt (by decide)).2.2.2 (by decide) (by decide) ?_
    show SS p e below m T2 19 #[vr a1, vr a2, vi (1 : Int32), un, un, un, un, un] [] _
    refine XS.aloadN X2.here hx rfl (hb hby d8_19) rfl rfl ?_
    show SS p e below m T2 20 #[vr a1, vr a2, vi (1 : Int32), un, un, un, un, un] [(.ref a1)] _
    refine st3 _ ?_
    show SS p e below m T3 23 #[vr a1, vr a2, vi (1 : Int32), un, un, un, un, un] [(.ref t1)] _
    refine XS.astoreN X3.here hx rfl (hb hby d8_23) rfl rfl (l' := #[vr a1, vr a2, vi (1 : Int32), vr t1, un, un, un, un]) rfl ?_
    show SS p e below m T3 24 #[vr a1, vr a2, vi (1 : Int32), vr t1, un, un, un, un] [] _
    refine XS.aloadN X3.here hx rfl (hb hby d8_24) rfl rfl ?_
    show SS p e below m T3 25 #[vr a1, vr a2, vi (1 : Int32), vr t1, un, un, un, un] [(.ref a2)] _
    refine st4 _ ?_
    show SS p e below m T4 28 #[vr a1, vr a2, vi (1 : Int32), vr t1, un, un, un, un] [(.ref t2)] _
    refine XS.astore X4.here hx rfl (hb hby d8_28) rfl rfl (l' := #[vr a1, vr a2, vi (1 : Int32), vr t1, vr t2, un, un, un]) rfl ?_
    show SS p e below m T4 30 #[vr a1, vr a2, vi (1 : Int32), vr t1, vr t2, un, un, un] [] _
    refine XS.iconst X4.here hx rfl (hb hby d8_30) ?_
    show SS p e below m T4 31 #[vr a1, vr a2, vi (1 : Int32), vr t1, vr t2, un, un, un] [(.int (0 : Int32))] _
    refine XS.istore X4.here hx rfl (hb hby d8_31) rfl (l' := #[vr a1, vr a2, vi (1 : Int32), vr t1, vr t2, vi (0 : Int32), un, un]) rfl ?_
    show SS p e below m T4 33 #[vr a1, vr a2, vi (1 : Int32), vr t1, vr t2, vi (0 : Int32), un, un] [] _
    refine XS.aload X4.here hx rfl (hb hby d8_33) rfl rfl ?_
    show SS p e below m T4 35 #[vr a1, vr a2, vi (1 : Int32), vr t1, vr t2, vi (0 : Int32), un, un] [(.ref t2)] _
    refine X4.arraylength hx (by rw [e4]; exact Ar5.1) ia5 (g := (mkF m 35 #[vr a1, vr a2, vi (1 : Int32), vr t1, vr t2, vi (0 : Int32), un, un] [(.ref t2)])) rfl rfl (hb hby d8_35) _ ?_
    rw [len_of Sz5 Nn5]
    show SS p e below m T4 36 #[vr a1, vr a2, vi (1 : Int32), vr t1, vr t2, vi (0 : Int32), un, un] [(.int (1 : Int32))] _
    refine XS.istore X4.here hx rfl (hb hby d8_36) rfl (l' := #[vr a1, vr a2, vi (1 : Int32), vr t1, vr t2, vi (0 : Int32), vi (1 : Int32), un]) rfl ?_
    show SS p e below m T4 38 #[vr a1, vr a2, vi (1 : Int32), vr t1, vr t2, vi (0 : Int32), vi (1 : Int32), un] [] _
    refine XS.aloadN X4.here hx rfl (hb hby d8_38) rfl rfl ?_
    show SS p e below m T4 39 #[vr a1, vr a2, vi (1 : Int32), vr t1, vr t2, vi (0 : Int32), vi (1 : Int32), un] [(.ref a1)] _
    refine st6.trans ?_
    show SS p e below m T6 42 #[vr a1, vr a2, vi (1 : Int32), vr t1, vr t2, vi (0 : Int32), vi (1 : Int32), un] [(.int (0 : Int32))] _
    refine XS.istore X6.here hx rfl (hb hby d8_42) rfl (l' := #[vr a1, vr a2, vi (1 : Int32), vr t1, vr t2, vi (0 : Int32), vi (1 : Int32), vi (0 : Int32)]) rfl ?_
    show SS p e below m T6 44 #[vr a1, vr a2, vi (1 : Int32), vr t1, vr t2, vi (0 : Int32), vi (1 : Int32), vi (0 : Int32)] [] _
    refine XS.iload X6.here hx rfl (hb hby d8_44) rfl ?_
    show SS p e below m T6 46 #[vr a1, vr a2, vi (1 : Int32), vr t1, vr t2, vi (0 : Int32), vi (1 : Int32), vi (0 : Int32)] [(.int (0 : Int32))] _
    refine XS.aloadN X6.here hx rfl (hb hby d8_46) rfl rfl ?_
    show SS p e below m T6 47 #[vr a1, vr a2, vi (1 : Int32), vr t1, vr t2, vi (0 : Int32), vi (1 : Int32), vi (0 : Int32)] [(.ref a2), (.int (0 : Int32))] _
    refine st7.trans ?_
    show SS p e below m T7 50 #[vr a1, vr a2, vi (1 : Int32), vr t1, vr t2, vi (0 : Int32), vi (1 : Int32), vi (0 : Int32)] [(.int (0 : Int32)), (.int (0 : Int32))] _
    refine XS.icmpNo X7.here hx rfl (hb hby d8_50) rfl (teq (by decide)).2 ?_
    show SS p e below m T7 53 #[vr a1, vr a2, vi (1 : Int32), vr t1, vr t2, vi (0 : Int32), vi (1 : Int32), vi (0 : Int32)] [] _
    refine XS.iload X7.here hx rfl (hb hby d8_53) rfl ?_
    show SS p e below m T7 55 #[vr a1, vr a2, vi (1 : Int32), vr t1, vr t2, vi (0 : Int32), vi (1 : Int32), vi (0 : Int32)] [(.int (0 : Int32))] _
    refine XS.iconst X7.here hx rfl (hb hby d8_55) ?_
    show SS p e below m T7 56 #[vr a1, vr a2, vi (1 : Int32), vr t1, vr t2, vi (0 : Int32), vi (1 : Int32), vi (0 : Int32)] [(.int (1 : Int32)), (.int (0 : Int32))] _
    refine XS.icmpYes X7.here hx rfl (pc0 := 56) (pc' := 63) rfl (hb hby d8_56) rfl (feq (by decide)).2 (by decide) (by decide) ?_
    show SS p e below m T7 63 #[vr a1, vr a2, vi (1 : Int32), vr t1, vr t2, vi (0 : Int32), vi (1 : Int32), vi (0 : Int32)] [] _
    refine XS.aloadN X7.here hx rfl (hb hby d8_63) rfl rfl ?_
    show SS p e below m T7 64 #[vr a1, vr a2, vi (1 : Int32), vr t1, vr t2, vi (0 : Int32), vi (1 : Int32), vi (0 : Int32)] [(.ref t1)] _
    refine XS.iloadN X7.here hx rfl (hb hby d8_64) rfl ?_
    show SS p e below m T7 65 #[vr a1, vr a2, vi (1 : Int32), vr t1, vr t2, vi (0 : Int32), vi (1 : Int32), vi (0 : Int32)] [(.int (1 : Int32)), (.ref t1)] _
    refine XS.aload X7.here hx rfl (hb hby d8_65) rfl rfl ?_
    show SS p e below m T7 67 #[vr a1, vr a2, vi (1 : Int32), vr t1, vr t2, vi (0 : Int32), vi (1 : Int32), vi (0 : Int32)] [(.ref t2), (.int (1 : Int32)), (.ref t1)] _
    refine XS.iconst X7.here hx rfl (hb hby d8_67) ?_
    show SS p e below m T7 68 #[vr a1, vr a2, vi (1 : Int32), vr t1, vr t2, vi (0 : Int32), vi (1 : Int32), vi (0 : Int32)] [(.int (0 : Int32)), (.ref t2), (.int (1 : Int32)), (.ref t1)] _
    refine XS.iload X7.here hx rfl (hb hby d8_68) rfl ?_
    show SS p e below m T7 70 #[vr a1, vr a2, vi (1 : Int32), vr t1, vr t2, vi (0 : Int32), vi (1 : Int32), vi (0 : Int32)] [(.int (1 : Int32)), (.int (0 : Int32)), (.ref t2), (.int (1 : Int32)), (.ref t1)] _
    refine st8 _ ?_
    show SS p e below m T8 73 #[vr a1, vr a2, vi (1 : Int32), vr t1, vr t2, vi (0 : Int32), vi (1 : Int32), vi (0 : Int32)] [(.int (0 : Int32))] _
    refine XS.ifYes X8.here hx rfl (pc0 := 73) (pc' := 80) rfl (hb hby d8_73) rfl ((if0 _ _).trans (flt (by decide)).2.1) (by decide) (by decide) ?_
    show SS p e below m T8 80 #[vr a1, vr a2, vi (1 : Int32), vr t1, vr t2, vi (0 : Int32), vi (1 : Int32), vi (0 : Int32)] [] _
    refine XS.iconst X8.here hx rfl (hb hby d8_80) ?_
    show SS p e below m T8 81 #[vr a1, vr a2, vi (1 : Int32), vr t1, vr t2, vi (0 : Int32), vi (1 : Int32), vi (0 : Int32)] [(.int (0 : Int32))] _
    exact retN X8 hx (t := .boolean) Bd.returns (by simp) (hb hby d8_81) hr
  · show Q_rm_sw2 Z a1 a2 t1 k1 vs1 u t2 k2 w zc h0 n0 _ T8.heap _
    rw [e8]
    exact ⟨rfl, N8, rfl⟩
theorem ef_rm_mm2 (m : MethodId) (x0 : Addr) (x1 : Int32) (x2 : Addr) (x3 : Int32) (x4 : Int32) : entryFrame m #[(.ref x0), (.int x1), (.ref x2), (.int x3), (.int x4)] 8 = mkF m 0 #[vr x0, vi x1, vr x2, vi x3, vi x4, .unset, .unset, .unset] [] := by first | (simp [entryFrame, mkF, argsToLocals, Value.category]; done) | rfl
def Q_rm_mm2 (Z : State) (a1 : Addr) (a3 : Addr) (k1 : ClassId) (z1 : Int32) (vs1 : List Value) (u : Int32) (k3 : ClassId) (w : Int32) (h0 : Heap) (n0 : Nat) (v : Option Value) (h : Heap) (L : List Loc) : Prop := (v = some (.int (0 : Int32))) ∧ (Fr n0 L) ∧ (h = h0)
set_option maxRecDepth 65536 in
set_option maxHeartbeats 40000000 in
theorem rm_mm2 (l : Launch) (Z : State) (a0 : Array Value) (hw : ∀ d ∈ tables_1, d.before a0 Z = true) (ws : List Jvm.Cond) (a1 : Addr) (a3 : Addr) (k1 : ClassId) (z1 : Int32) (vs1 : List Value) (u : Int32) (k3 : ClassId) (w : Int32) (h0 : Heap) (n0 : Nat) (Z0 : n0 ≤ h0.size) (O0 : Old Z n0 h0) (V_a1 : Arv Z h0 a1 k1 .byte z1 vs1 (.int (0 : Int32))) (V_a3 : Arv Z h0 a3 k3 .byte (1 : Int32) [(.int w)] (.int (0 : Int32))) (hM : (2 : Int32) < z1) (hU : vs1.getD (2 : Int32).toNatClampNeg (.int (0 : Int32)) = .int u) (hN : ¬ u = w) :
    MetFree l y_33 (head1 (Jvm.Cond.code y_33 jdk_48_method_14_code 8 (some .int) :: ws) ({ frames := 0, cells := 0, slots := 0, locals := 0 } : Room)) (fun a U => a = #[(.ref a1), (.int (2 : Int32)), (.ref a3), (.int (0 : Int32)), (.int (1 : Int32))] ∧ Z.Warmed39 U.vm ∧ U.heap = h0) (fun _ _ _ _ _ => True) (fun _ U o U' => ∃ v L, o = .returned v ∧ Q_rm_mm2 Z a1 a3 k1 z1 vs1 u k3 w h0 n0 v U'.heap L ∧ FrameEnd U o U' L ({ frames := 0, cells := 0, slots := 0, locals := 0 } : Room).cells ({ frames := 0, cells := 0, slots := 0, locals := 0 } : Room).slots) := by
  refine MetFree.of_bodySF (plainFor_of_name pn_8) hisR ?_
  intro p e s m args below meth c s₁ Bd hml0 hP hK
  obtain ⟨rfl, hZ, hh⟩ := hP
  have hx := Bd.exec
  have hby := Bd.bytes
  have hml : c.maxLocals = 8 := hml0
  have hown : s.vm.findClass "jdk/internal/util/ArraysSupport" = some m.cls := findClass_of_methodNamed Bd.named
  have hnm := (name_of_methodNamed Bd.named Bd.method).1
  have X0 : Stand p l e ({ frames := 0, cells := 0, slots := 0, locals := 0 } : Room) s m #[(.ref a1), (.int (2 : Int32)), (.ref a3), (.int (0 : Int32)), (.int (1 : Int32))] below meth c s₁ [] 0 0 := Stand.of_body Bd
  have e0 : s₁.heap = h0 := by rw [← hh, Bd.state]; rfl
  have N0 := Fr.nil n0
  have KC : Keep h0 h0 [] := Keep.refl h0 _
  have pre0 : ∀ t, Steps p.tables e below (s₁.setTop (mkF m 0 #[vr a1, vi (2 : Int32), vr a3, vi (0 : Int32), vi (1 : Int32), un, un, un] [])) t → Steps p.tables e below (s₁.setTop (entryFrame m #[(.ref a1), (.int (2 : Int32)), (.ref a3), (.int (0 : Int32)), (.int (1 : Int32))] 8)) t := fun t k => castTop (ef_rm_mm2 m a1 (2 : Int32) a3 (0 : Int32) (1 : Int32)) k
  have Vo1 := V_a1
  obtain ⟨cl1, Ar1, q1, Sz1, Nn1, Hh1, Gg1⟩ := Vo1
  have hin1 : ¬ ((2 : Int32) < 0 ∨ cl1.slots.size ≤ ((2 : Int32)).toNatClampNeg) := inb_of Sz1 ⟨by decide, hM⟩
  have hat1 : cl1.slots[((2 : Int32)).toNatClampNeg]? = some (.int u) := Has.at Hh1 hin1 hU
  have ia1 := State.isArrayOf_alike hZ.alike Ar1.2.1
  have Vo2 := V_a3
  obtain ⟨cl2, Ar2, q2, Sz2, Nn2, Hh2, Gg2⟩ := Vo2
  have hin2 : ¬ ((0 : Int32) < 0 ∨ cl2.slots.size ≤ ((0 : Int32)).toNatClampNeg) := inb_of Sz2 ⟨by decide, by decide⟩
  have hat2 : cl2.slots[((0 : Int32)).toNatClampNeg]? = some (.int w) := Has.at Hh2 hin2 rfl
  have ia2 := State.isArrayOf_alike hZ.alike Ar2.2.1
  obtain ⟨fs, hr, hrun, hended, hW, hsame⟩ := X0.leave (v := some (.int (0 : Int32))) (fun h => by rw [Bd.returns] at h; cases h)
  refine ⟨_, _, pre0 _ ?_, hrun, hended, _, _, rfl, ?_, ⟨_, rfl⟩, hW, hsame.mono (by decide) (by decide)⟩
  · show SS p e below m s₁ 0 #[vr a1, vi (2 : Int32), vr a3, vi (0 : Int32), vi (1 : Int32), un, un, un] [] _
    refine XS.iconst X0.here hx rfl (hb hby d45_0) ?_
    show SS p e below m s₁ 1 #[vr a1, vi (2 : Int32), vr a3, vi (0 : Int32), vi (1 : Int32), un, un, un] [(.int (0 : Int32))] _
    refine XS.istore X0.here hx rfl (hb hby d45_1) rfl (l' := #[vr a1, vi (2 : Int32), vr a3, vi (0 : Int32), vi (1 : Int32), vi (0 : Int32), un, un]) rfl ?_
    show SS p e below m s₁ 3 #[vr a1, vi (2 : Int32), vr a3, vi (0 : Int32), vi (1 : Int32), vi (0 : Int32), un, un] [] _
    refine XS.iload X0.here hx rfl (hb hby d45_3) rfl ?_
    show SS p e below m s₁ 5 #[vr a1, vi (2 : Int32), vr a3, vi (0 : Int32), vi (1 : Int32), vi (0 : Int32), un, un] [(.int (1 : Int32))] _
    refine XS.bipush X0.here hx rfl (hb hby d45_5) ?_
    show SS p e below m s₁ 7 #[vr a1, vi (2 : Int32), vr a3, vi (0 : Int32), vi (1 : Int32), vi (0 : Int32), un, un] [(.int (7 : Int32)), (.int (1 : Int32))] _
    refine XS.icmpYes X0.here hx rfl (pc0 := 7) (pc' := 70) rfl (hb hby d45_7) rfl (flt (by decide)).2.2.2 (by decide) (by decide) ?_
    show SS p e below m s₁ 70 #[vr a1, vi (2 : Int32), vr a3, vi (0 : Int32), vi (1 : Int32), vi (0 : Int32), un, un] [] _
    refine XS.iload X0.here hx rfl (hb hby d45_70) rfl ?_
    show SS p e below m s₁ 72 #[vr a1, vi (2 : Int32), vr a3, vi (0 : Int32), vi (1 : Int32), vi (0 : Int32), un, un] [(.int (0 : Int32))] _
    refine XS.iload X0.here hx rfl (hb hby d45_72) rfl ?_
    show SS p e below m s₁ 74 #[vr a1, vi (2 : Int32), vr a3, vi (0 : Int32), vi (1 : Int32), vi (0 : Int32), un, un] [(.int (1 : Int32)), (.int (0 : Int32))] _
    refine XS.icmpNo X0.here hx rfl (hb hby d45_74) rfl (tlt (by decide)).2.1 ?_
    show SS p e below m s₁ 77 #[vr a1, vi (2 : Int32), vr a3, vi (0 : Int32), vi (1 : Int32), vi (0 : Int32), un, un] [] _
    refine XS.aloadN X0.here hx rfl (hb hby d45_77) rfl rfl ?_
    show SS p e below m s₁ 78 #[vr a1, vi (2 : Int32), vr a3, vi (0 : Int32), vi (1 : Int32), vi (0 : Int32), un, un] [(.ref a1)] _
    refine XS.iloadN X0.here hx rfl (hb hby d45_78) rfl ?_
    show SS p e below m s₁ 79 #[vr a1, vi (2 : Int32), vr a3, vi (0 : Int32), vi (1 : Int32), vi (0 : Int32), un, un] [(.int (2 : Int32)), (.ref a1)] _
    refine XS.iload X0.here hx rfl (hb hby d45_79) rfl ?_
    show SS p e below m s₁ 81 #[vr a1, vi (2 : Int32), vr a3, vi (0 : Int32), vi (1 : Int32), vi (0 : Int32), un, un] [(.int (0 : Int32)), (.int (2 : Int32)), (.ref a1)] _
    refine XS.iadd X0.here hx rfl (hb hby d45_81) rfl ?_
    show SS p e below m s₁ 82 #[vr a1, vi (2 : Int32), vr a3, vi (0 : Int32), vi (1 : Int32), vi (0 : Int32), un, un] [(.int (2 : Int32)), (.ref a1)] _
    refine X0.baloadBytes hx (j := (2 : Int32)) (v := (.int u)) (by rw [e0]; exact Ar1.1) ia1 Ar1.2.2 hin1 hat1 (g := (mkF m 82 #[vr a1, vi (2 : Int32), vr a3, vi (0 : Int32), vi (1 : Int32), vi (0 : Int32), un, un] [(.int (2 : Int32)), (.ref a1)])) rfl rfl (hb hby d45_82) _ ?_
    show SS p e below m s₁ 83 #[vr a1, vi (2 : Int32), vr a3, vi (0 : Int32), vi (1 : Int32), vi (0 : Int32), un, un] [(.int u)] _
    refine XS.aloadN X0.here hx rfl (hb hby d45_83) rfl rfl ?_
    show SS p e below m s₁ 84 #[vr a1, vi (2 : Int32), vr a3, vi (0 : Int32), vi (1 : Int32), vi (0 : Int32), un, un] [(.ref a3), (.int u)] _
    refine XS.iloadN X0.here hx rfl (hb hby d45_84) rfl ?_
    show SS p e below m s₁ 85 #[vr a1, vi (2 : Int32), vr a3, vi (0 : Int32), vi (1 : Int32), vi (0 : Int32), un, un] [(.int (0 : Int32)), (.ref a3), (.int u)] _
    refine XS.iload X0.here hx rfl (hb hby d45_85) rfl ?_
    show SS p e below m s₁ 87 #[vr a1, vi (2 : Int32), vr a3, vi (0 : Int32), vi (1 : Int32), vi (0 : Int32), un, un] [(.int (0 : Int32)), (.int (0 : Int32)), (.ref a3), (.int u)] _
    refine XS.iadd X0.here hx rfl (hb hby d45_87) rfl ?_
    show SS p e below m s₁ 88 #[vr a1, vi (2 : Int32), vr a3, vi (0 : Int32), vi (1 : Int32), vi (0 : Int32), un, un] [(.int (0 : Int32)), (.ref a3), (.int u)] _
    refine X0.baloadBytes hx (j := (0 : Int32)) (v := (.int w)) (by rw [e0]; exact Ar2.1) ia2 Ar2.2.2 hin2 hat2 (g := (mkF m 88 #[vr a1, vi (2 : Int32), vr a3, vi (0 : Int32), vi (1 : Int32), vi (0 : Int32), un, un] [(.int (0 : Int32)), (.ref a3), (.int u)])) rfl rfl (hb hby d45_88) _ ?_
    show SS p e below m s₁ 89 #[vr a1, vi (2 : Int32), vr a3, vi (0 : Int32), vi (1 : Int32), vi (0 : Int32), un, un] [(.int w), (.int u)] _
    refine XS.icmpNo X0.here hx rfl (hb hby d45_89) rfl (feq hN).1 ?_
    show SS p e below m s₁ 92 #[vr a1, vi (2 : Int32), vr a3, vi (0 : Int32), vi (1 : Int32), vi (0 : Int32), un, un] [] _
    refine XS.iload X0.here hx rfl (hb hby d45_92) rfl ?_
    show SS p e below m s₁ 94 #[vr a1, vi (2 : Int32), vr a3, vi (0 : Int32), vi (1 : Int32), vi (0 : Int32), un, un] [(.int (0 : Int32))] _
    exact retI X0 hx Bd.returns (hb hby d45_94) hr
  · show Q_rm_mm2 Z a1 a3 k1 z1 vs1 u k3 w h0 n0 _ s₁.heap _
    rw [e0]
    exact ⟨rfl, N0, rfl⟩
theorem ef_rm_sw3 (m : MethodId) (x0 : Addr) (x1 : Addr) (x2 : Int32) : entryFrame m #[(.ref x0), (.ref x1), (.int x2)] 8 = mkF m 0 #[vr x0, vr x1, vi x2, .unset, .unset, .unset, .unset, .unset] [] := by first | (simp [entryFrame, mkF, argsToLocals, Value.category]; done) | rfl
def Q_rm_sw3 (Z : State) (a1 : Addr) (a2 : Addr) (t1 : Addr) (k1 : ClassId) (vs1 : List Value) (u : Int32) (t2 : Addr) (k2 : ClassId) (w : Int32) (zc : Int32) (h0 : Heap) (n0 : Nat) (v : Option Value) (h : Heap) (L : List Loc) : Prop := (v = some (.int (0 : Int32))) ∧ (Fr n0 L) ∧ (h = h0)
set_option maxRecDepth 65536 in
set_option maxHeartbeats 40000000 in
theorem rm_sw3 (l : Launch) (Z : State) (a0 : Array Value) (hw : ∀ d ∈ tables_1, d.before a0 Z = true) (ws : List Jvm.Cond) (a1 : Addr) (a2 : Addr) (t1 : Addr) (k1 : ClassId) (vs1 : List Value) (u : Int32) (t2 : Addr) (k2 : ClassId) (w : Int32) (zc : Int32) (h0 : Heap) (n0 : Nat) (Z0 : n0 ≤ h0.size) (O0 : Old Z n0 h0) (E_a1 : Exa Z h0 a1 "java/lang/String") (F_value_a1 : Fld Z h0 a1 "java/lang/String" "value" "[B" (.ref t1)) (F_coder_a1 : Fld Z h0 a1 "java/lang/String" "coder" "B" (.int (0 : Int32))) (V_t1 : Arv Z h0 t1 k1 .byte (3 : Int32) vs1 (.int (0 : Int32))) (E_a2 : Exa Z h0 a2 "java/lang/String") (F_value_a2 : Fld Z h0 a2 "java/lang/String" "value" "[B" (.ref t2)) (F_coder_a2 : Fld Z h0 a2 "java/lang/String" "coder" "B" (.int (0 : Int32))) (V_t2 : Arv Z h0 t2 k2 .byte (1 : Int32) [(.int w)] (.int (0 : Int32))) (S_CS : Sta Z Z.heap "java/lang/String" "COMPACT_STRINGS" "Z" (.int zc)) (hz : ¬ zc = (0 : Int32)) (hU : vs1.getD (2 : Int32).toNatClampNeg (.int (0 : Int32)) = .int u) (hN : ¬ u = w) :
    MetFree l y_32 (head1 (Jvm.Cond.code y_32 jdk_42_method_75_code 8 (some .boolean) :: ws) ({ frames := 2, cells := 0, slots := 0, locals := 27 } : Room)) (fun a U => a = #[(.ref a1), (.ref a2), (.int (2 : Int32))] ∧ Z.Warmed39 U.vm ∧ U.heap = h0) (fun _ _ _ _ _ => True) (fun _ U o U' => ∃ v L, o = .returned v ∧ Q_rm_sw3 Z a1 a2 t1 k1 vs1 u t2 k2 w zc h0 n0 v U'.heap L ∧ FrameEnd U o U' L ({ frames := 2, cells := 0, slots := 0, locals := 27 } : Room).cells ({ frames := 2, cells := 0, slots := 0, locals := 27 } : Room).slots) := by
  refine MetFree.of_bodySF (plainFor_of_name pn_0) hisR ?_
  intro p e s m args below meth c s₁ Bd hml0 hP hK
  obtain ⟨rfl, hZ, hh⟩ := hP
  have hx := Bd.exec
  have hby := Bd.bytes
  have hml : c.maxLocals = 8 := hml0
  have hown : s.vm.findClass "java/lang/String" = some m.cls := findClass_of_methodNamed Bd.named
  have hnm := (name_of_methodNamed Bd.named Bd.method).1
  have X0 : Stand p l e ({ frames := 2, cells := 0, slots := 0, locals := 27 } : Room) s m #[(.ref a1), (.ref a2), (.int (2 : Int32))] below meth c s₁ [] 0 0 := Stand.of_body Bd
  have e0 : s₁.heap = h0 := by rw [← hh, Bd.state]; rfl
  have N0 := Fr.nil n0
  have KC : Keep h0 h0 [] := Keep.refl h0 _
  have pre0 : ∀ t, Steps p.tables e below (s₁.setTop (mkF m 0 #[vr a1, vr a2, vi (2 : Int32), un, un, un, un, un] [])) t → Steps p.tables e below (s₁.setTop (entryFrame m #[(.ref a1), (.ref a2), (.int (2 : Int32))] 8)) t := fun t k => castTop (ef_rm_sw3 m a1 a2 (2 : Int32)) k
  obtain ⟨cq1, kq1, q1a, q1b, q1c⟩ := isOf hZ e0 E_a1
  obtain ⟨_, _, ⟨T1, L1, kz1, nz1⟩, -, X1, ⟨Lc1, hQ1, l1, y1, z1⟩, st1⟩ := X0.virtualBack hx (y := y_1) (z := y_1) hown (mvT hZ (ww hw 32 rfl)) (mvT hZ (ww hw 33 rfl)) (notFace_of_selects (args := #[]) (mvT hZ (ww hw 35 rfl))) (mvT hZ (ww hw 35 rfl)) (mvT hZ (ww hw 34 rfl)) (by decide) (backOf (W := 1) (rm_length l Z a0 hw [] a1 t1 k1 (3 : Int32) vs1 zc h0 n0 (Nat.le_trans Z0 KC.1) O0 E_a1 F_value_a1 F_coder_a1 V_t1 S_CS hz) hZ (ww hw 36 rfl) (ww hw 3 rfl) (by decide) (by decide)) q1a q1c (g := (mkF m 6 #[vr a1, vr a2, vi (2 : Int32), un, un, un, un, un] [(.ref a1), (.int (2 : Int32))])) rfl (by rw [hml]; rfl) (Steps.refl _) (argsL := []) (rest := [(.int (2 : Int32))]) (lenOf pd_8 rfl) rfl (by show 2 * 0 + _ ≤ _; exact Nat.le_of_eq rfl) (hb hby d8_6) (fun _ _ => ⟨rfl, e0, (by decide : 0 + 0 ≤ _), (by decide : 0 + 0 ≤ _)⟩)
  dsimp only [Pt.U, Pt.locs, Pt.cells, Pt.slots] at X1 l1 y1 z1 st1 hQ1
  subst l1 y1 z1
  obtain ⟨rfl, N1q, e1⟩ := hQ1
  have N1 := Fr.app N0 N1q
  obtain ⟨cq2, kq2, q2a, q2b, q2c⟩ := isOf hZ e1 E_a2
  obtain ⟨_, _, ⟨T2, L2, kz2, nz2⟩, -, X2, ⟨Lc2, hQ2, l2, y2, z2⟩, st2⟩ := X1.virtualBack hx (y := y_1) (z := y_1) hown (mvT hZ (ww hw 32 rfl)) (mvT hZ (ww hw 33 rfl)) (notFace_of_selects (args := #[]) (mvT hZ (ww hw 35 rfl))) (mvT hZ (ww hw 35 rfl)) (mvT hZ (ww hw 34 rfl)) (by decide) (backOf (W := 2) (rm_length l Z a0 hw [] a2 t2 k2 (1 : Int32) [(.int w)] zc h0 n0 (Nat.le_trans Z0 KC.1) O0 E_a2 F_value_a2 F_coder_a2 V_t2 S_CS hz) hZ (ww hw 36 rfl) (ww hw 3 rfl) (by decide) (by decide)) q2a q2c (g := (mkF m 10 #[vr a1, vr a2, vi (2 : Int32), un, un, un, un, un] [(.ref a2), (.int (3 : Int32)), (.int (2 : Int32))])) rfl (by rw [hml]; rfl) (Steps.refl _) (argsL := []) (rest := [(.int (3 : Int32)), (.int (2 : Int32))]) (lenOf pd_8 rfl) rfl (by show 2 * 0 + _ ≤ _; exact Nat.le_of_eq rfl) (hb hby d8_10) (fun _ _ => ⟨rfl, e1, (by decide : 0 + 0 ≤ _), (by decide : 0 + 0 ≤ _)⟩)
  dsimp only [Pt.U, Pt.locs, Pt.cells, Pt.slots] at X2 l2 y2 z2 st2 hQ2
  subst l2 y2 z2
  obtain ⟨rfl, N2q, e2⟩ := hQ2
  have N2 := Fr.app N1 N2q
  obtain ⟨T3, X3, e3, st3⟩ := getF X2 hx hZ hown (host := "") (Or.inl (ww hw 20 rfl)) Via.refl e2 F_value_a1 (g := (mkF m 20 #[vr a1, vr a2, vi (2 : Int32), un, un, un, un, un] [(.ref a1)])) rfl rfl (hb hby d8_20)
  obtain ⟨T4, X4, e4, st4⟩ := getF X3 hx hZ hown (host := "") (Or.inl (ww hw 20 rfl)) Via.refl e3 F_value_a2 (g := (mkF m 25 #[vr a1, vr a2, vi (2 : Int32), vr t1, un, un, un, un] [(.ref a2)])) rfl rfl (hb hby d8_25)
  have Vo5 := V_t2
  obtain ⟨cl5, Ar5, -, Sz5, Nn5, -, -⟩ := Vo5
  have ia5 := State.isArrayOf_alike hZ.alike Ar5.2.1
  obtain ⟨cq6, kq6, q6a, q6b, q6c⟩ := isOf hZ e4 E_a1
  obtain ⟨_, _, ⟨T6, L6, kz6, nz6⟩, -, X6, ⟨Lc6, hQ6, l6, y6, z6⟩, st6⟩ := X4.virtualBack hx (y := y_0) (z := y_0) hown (mvT hZ (ww hw 37 rfl)) (mvT hZ (ww hw 38 rfl)) (notFace_of_selects (args := #[]) (mvT hZ (ww hw 40 rfl))) (mvT hZ (ww hw 40 rfl)) (mvT hZ (ww hw 39 rfl)) (by decide) (backOf (W := 0) (rm_coder l Z a0 hw [] a1 zc h0 n0 (Nat.le_trans Z0 KC.1) O0 F_coder_a1 S_CS hz) hZ (ww hw 41 rfl) (ww hw 3 rfl) (by decide) (by decide)) q6a q6c (g := (mkF m 39 #[vr a1, vr a2, vi (2 : Int32), vr t1, vr t2, vi (0 : Int32), vi (1 : Int32), un] [(.ref a1)])) rfl (by rw [hml]; rfl) (Steps.refl _) (argsL := []) (rest := []) (lenOf pd_0 rfl) rfl (by show 2 * 0 + _ ≤ _; exact Nat.le_of_eq rfl) (hb hby d8_39) (fun _ _ => ⟨rfl, e4, (by decide : 0 + 0 ≤ _), (by decide : 0 + 0 ≤ _)⟩)
  dsimp only [Pt.U, Pt.locs, Pt.cells, Pt.slots] at X6 l6 y6 z6 st6 hQ6
  subst l6 y6 z6
  obtain ⟨rfl, N6q, e6⟩ := hQ6
  have N6 := Fr.app N2 N6q
  obtain ⟨cq7, kq7, q7a, q7b, q7c⟩ := isOf hZ e6 E_a2
  obtain ⟨_, _, ⟨T7, L7, kz7, nz7⟩, -, X7, ⟨Lc7, hQ7, l7, y7, z7⟩, st7⟩ := X6.virtualBack hx (y := y_0) (z := y_0) hown (mvT hZ (ww hw 37 rfl)) (mvT hZ (ww hw 38 rfl)) (notFace_of_selects (args := #[]) (mvT hZ (ww hw 40 rfl))) (mvT hZ (ww hw 40 rfl)) (mvT hZ (ww hw 39 rfl)) (by decide) (backOf (W := 1) (rm_coder l Z a0 hw [] a2 zc h0 n0 (Nat.le_trans Z0 KC.1) O0 F_coder_a2 S_CS hz) hZ (ww hw 41 rfl) (ww hw 3 rfl) (by decide) (by decide)) q7a q7c (g := (mkF m 47 #[vr a1, vr a2, vi (2 : Int32), vr t1, vr t2, vi (0 : Int32), vi (1 : Int32), vi (0 : Int32)] [(.ref a2), (.int (0 : Int32))])) rfl (by rw [hml]; rfl) (Steps.refl _) (argsL := []) (rest := [(.int (0 : Int32))]) (lenOf pd_0 rfl) rfl (by show 2 * 0 + _ ≤ _; exact Nat.le_of_eq rfl) (hb hby d8_47) (fun _ _ => ⟨rfl, e6, (by decide : 0 + 0 ≤ _), (by decide : 0 + 0 ≤ _)⟩)
  dsimp only [Pt.U, Pt.locs, Pt.cells, Pt.slots] at X7 l7 y7 z7 st7 hQ7
  subst l7 y7 z7
  obtain ⟨rfl, N7q, e7⟩ := hQ7
  have N7 := Fr.app N6 N7q
  obtain ⟨_, _, ⟨T8, L8, kz8, nz8⟩, -, X8, ⟨Lc8, hQ8, l8, y8, z8⟩, st8⟩ := Jvm.LawKit.callS X7 hx (y := y_33) hown (mvT hZ (ww hw 239 rfl)) (mvT hZ (ww hw 240 rfl)) (mvT hZ (ww hw 241 rfl)) (mvT hZ (ww hw 242 rfl)) (by decide) (backOf (W := 0) (rm_mm2 l Z a0 hw [] t1 t2 k1 (3 : Int32) vs1 u k2 w h0 n0 (Nat.le_trans Z0 KC.1) O0 V_t1 V_t2 (by decide) hU hN) hZ (ww hw 242 rfl) (ww hw 241 rfl) (by decide) (by decide)) (g := (mkF m 70 #[vr a1, vr a2, vi (2 : Int32), vr t1, vr t2, vi (0 : Int32), vi (1 : Int32), vi (0 : Int32)] [(.int (1 : Int32)), (.int (0 : Int32)), (.ref t2), (.int (2 : Int32)), (.ref t1)])) rfl (by rw [hml]; rfl) (argsL := [(.ref t1), (.int (2 : Int32)), (.ref t2), (.int (0 : Int32)), (.int (1 : Int32))]) (rest := []) (lenOf pd_20 rfl) rfl (by show 2 * 0 + _ ≤ _; exact Nat.le_of_eq rfl) (hb hby d8_70) (fun _ _ => ⟨rfl, e7, (by decide : 0 + 0 ≤ _), (by decide : 0 + 0 ≤ _)⟩)
  dsimp only [Pt.U, Pt.locs, Pt.cells, Pt.slots] at X8 l8 y8 z8 st8 hQ8
  subst l8 y8 z8
  obtain ⟨rfl, N8q, e8⟩ := hQ8
  have N8 := Fr.app N7 N8q
  obtain ⟨fs, hr, hrun, hended, hW, hsame⟩ := X8.leave (v := some (.int (0 : Int32))) (fun h => by rw [Bd.returns] at h; cases h)
  refine ⟨_, _, pre0 _ ?_, hrun, hended, _, _, rfl, ?_, ⟨_, rfl⟩, hW, hsame.mono (by decide) (by decide)⟩
  · show SS p e below m s₁ 0 #[vr a1, vr a2, vi (2 : Int32), un, un, un, un, un] [] _
    refine XS.iloadN X0.here hx rfl (hb hby d8_0) rfl ?_
    show SS p e below m s₁ 1 #[vr a1, vr a2, vi (2 : Int32), un, un, un, un, un] [(.int (2 : Int32))] _
    refine XS.ifNo X0.here hx rfl (hb hby d8_1) rfl ((if0 _ _).trans (flt (by decide)).1) ?_
    show SS p e below m s₁ 4 #[vr a1, vr a2, vi (2 : Int32), un, un, un, un, un] [] _
    refine XS.iloadN X0.here hx rfl (hb hby d8_4) rfl ?_
    show SS p e below m s₁ 5 #[vr a1, vr a2, vi (2 : Int32), un, un, un, un, un] [(.int (2 : Int32))] _
    refine XS.aloadN X0.here hx rfl (hb hby d8_5) rfl rfl ?_
    show SS p e below m s₁ 6 #[vr a1, vr a2, vi (2 : Int32), un, un, un, un, un] [(.ref a1), (.int (2 : Int32))] _
    refine st1.trans ?_
    show SS p e below m T1 9 #[vr a1, vr a2, vi (2 : Int32), un, un, un, un, un] [(.int (3 : Int32)), (.int (2 : Int32))] _
    refine XS.aloadN X1.here hx rfl (hb hby d8_9) rfl rfl ?_
    show SS p e below m T1 10 #[vr a1, vr a2, vi (2 : Int32), un, un, un, un, un] [(.ref a2), (.int (3 : Int32)), (.int (2 : Int32))] _
    refine st2.trans ?_
    show SS p e below m T2 13 #[vr a1, vr a2, vi (2 : Int32), un, un, un, un, un] [(.int (1 : Int32)), (.int (3 : Int32)), (.int (2 : Int32))] _
    refine XS.isub X2.here hx rfl (hb hby d8_13) rfl ?_
    show SS p e below m T2 14 #[vr a1, vr a2, vi (2 : Int32), un, un, un, un, un] [(.int (2 : Int32)), (.int (2 : Int32))] _
    refine XS.icmpYes X2.here hx rfl (pc0 := 14) (pc' := 19) rfl (hb hby d8_14) rfl (flt (by decide)).2.2.2 (by decide) (by decide) ?_
    show SS p e below m T2 19 #[vr a1, vr a2, vi (2 : Int32), un, un, un, un, un] [] _
    refine XS.aloadN X2.here hx rfl (hb hby d8_19) rfl rfl ?_
    show SS p e below m T2 20 #[vr a1, vr a2, vi (2 : Int32), un, un, un, un, un] [(.ref a1)] _
    refine st3 _ ?_
    show SS p e below m T3 23 #[vr a1, vr a2, vi (2 : Int32), un, un, un, un, un] [(.ref t1)] _
    refine XS.astoreN X3.here hx rfl (hb hby d8_23) rfl rfl (l' := #[vr a1, vr a2, vi (2 : Int32), vr t1, un, un, un, un]) rfl ?_
    show SS p e below m T3 24 #[vr a1, vr a2, vi (2 : Int32), vr t1, un, un, un, un] [] _
    refine XS.aloadN X3.here hx rfl (hb hby d8_24) rfl rfl ?_
    show SS p e below m T3 25 #[vr a1, vr a2, vi (2 : Int32), vr t1, un, un, un, un] [(.ref a2)] _
    refine st4 _ ?_
    show SS p e below m T4 28 #[vr a1, vr a2, vi (2 : Int32), vr t1, un, un, un, un] [(.ref t2)] _
    refine XS.astore X4.here hx rfl (hb hby d8_28) rfl rfl (l' := #[vr a1, vr a2, vi (2 : Int32), vr t1, vr t2, un, un, un]) rfl ?_
    show SS p e below m T4 30 #[vr a1, vr a2, vi (2 : Int32), vr t1, vr t2, un, un, un] [] _
    refine XS.iconst X4.here hx rfl (hb hby d8_30) ?_
    show SS p e below m T4 31 #[vr a1, vr a2, vi (2 : Int32), vr t1, vr t2, un, un, un] [(.int (0 : Int32))] _
    refine XS.istore X4.here hx rfl (hb hby d8_31) rfl (l' := #[vr a1, vr a2, vi (2 : Int32), vr t1, vr t2, vi (0 : Int32), un, un]) rfl ?_
    show SS p e below m T4 33 #[vr a1, vr a2, vi (2 : Int32), vr t1, vr t2, vi (0 : Int32), un, un] [] _
    refine XS.aload X4.here hx rfl (hb hby d8_33) rfl rfl ?_
    show SS p e below m T4 35 #[vr a1, vr a2, vi (2 : Int32), vr t1, vr t2, vi (0 : Int32), un, un] [(.ref t2)] _
    refine X4.arraylength hx (by rw [e4]; exact Ar5.1) ia5 (g := (mkF m 35 #[vr a1, vr a2, vi (2 : Int32), vr t1, vr t2, vi (0 : Int32), un, un] [(.ref t2)])) rfl rfl (hb hby d8_35) _ ?_
    rw [len_of Sz5 Nn5]
    show SS p e below m T4 36 #[vr a1, vr a2, vi (2 : Int32), vr t1, vr t2, vi (0 : Int32), un, un] [(.int (1 : Int32))] _
    refine XS.istore X4.here hx rfl (hb hby d8_36) rfl (l' := #[vr a1, vr a2, vi (2 : Int32), vr t1, vr t2, vi (0 : Int32), vi (1 : Int32), un]) rfl ?_
    show SS p e below m T4 38 #[vr a1, vr a2, vi (2 : Int32), vr t1, vr t2, vi (0 : Int32), vi (1 : Int32), un] [] _
    refine XS.aloadN X4.here hx rfl (hb hby d8_38) rfl rfl ?_
    show SS p e below m T4 39 #[vr a1, vr a2, vi (2 : Int32), vr t1, vr t2, vi (0 : Int32), vi (1 : Int32), un] [(.ref a1)] _
    refine st6.trans ?_
    show SS p e below m T6 42 #[vr a1, vr a2, vi (2 : Int32), vr t1, vr t2, vi (0 : Int32), vi (1 : Int32), un] [(.int (0 : Int32))] _
    refine XS.istore X6.here hx rfl (hb hby d8_42) rfl (l' := #[vr a1, vr a2, vi (2 : Int32), vr t1, vr t2, vi (0 : Int32), vi (1 : Int32), vi (0 : Int32)]) rfl ?_
    show SS p e below m T6 44 #[vr a1, vr a2, vi (2 : Int32), vr t1, vr t2, vi (0 : Int32), vi (1 : Int32), vi (0 : Int32)] [] _
    refine XS.iload X6.here hx rfl (hb hby d8_44) rfl ?_
    show SS p e below m T6 46 #[vr a1, vr a2, vi (2 : Int32), vr t1, vr t2, vi (0 : Int32), vi (1 : Int32), vi (0 : Int32)] [(.int (0 : Int32))] _
    refine XS.aloadN X6.here hx rfl (hb hby d8_46) rfl rfl ?_
    show SS p e below m T6 47 #[vr a1, vr a2, vi (2 : Int32), vr t1, vr t2, vi (0 : Int32), vi (1 : Int32), vi (0 : Int32)] [(.ref a2), (.int (0 : Int32))] _
    refine st7.trans ?_
    show SS p e below m T7 50 #[vr a1, vr a2, vi (2 : Int32), vr t1, vr t2, vi (0 : Int32), vi (1 : Int32), vi (0 : Int32)] [(.int (0 : Int32)), (.int (0 : Int32))] _
    refine XS.icmpNo X7.here hx rfl (hb hby d8_50) rfl (teq (by decide)).2 ?_
    show SS p e below m T7 53 #[vr a1, vr a2, vi (2 : Int32), vr t1, vr t2, vi (0 : Int32), vi (1 : Int32), vi (0 : Int32)] [] _
    refine XS.iload X7.here hx rfl (hb hby d8_53) rfl ?_
    show SS p e below m T7 55 #[vr a1, vr a2, vi (2 : Int32), vr t1, vr t2, vi (0 : Int32), vi (1 : Int32), vi (0 : Int32)] [(.int (0 : Int32))] _
    refine XS.iconst X7.here hx rfl (hb hby d8_55) ?_
    show SS p e below m T7 56 #[vr a1, vr a2, vi (2 : Int32), vr t1, vr t2, vi (0 : Int32), vi (1 : Int32), vi (0 : Int32)] [(.int (1 : Int32)), (.int (0 : Int32))] _
    refine XS.icmpYes X7.here hx rfl (pc0 := 56) (pc' := 63) rfl (hb hby d8_56) rfl (feq (by decide)).2 (by decide) (by decide) ?_
    show SS p e below m T7 63 #[vr a1, vr a2, vi (2 : Int32), vr t1, vr t2, vi (0 : Int32), vi (1 : Int32), vi (0 : Int32)] [] _
    refine XS.aloadN X7.here hx rfl (hb hby d8_63) rfl rfl ?_
    show SS p e below m T7 64 #[vr a1, vr a2, vi (2 : Int32), vr t1, vr t2, vi (0 : Int32), vi (1 : Int32), vi (0 : Int32)] [(.ref t1)] _
    refine XS.iloadN X7.here hx rfl (hb hby d8_64) rfl ?_
    show SS p e below m T7 65 #[vr a1, vr a2, vi (2 : Int32), vr t1, vr t2, vi (0 : Int32), vi (1 : Int32), vi (0 : Int32)] [(.int (2 : Int32)), (.ref t1)] _
    refine XS.aload X7.here hx rfl (hb hby d8_65) rfl rfl ?_
    show SS p e below m T7 67 #[vr a1, vr a2, vi (2 : Int32), vr t1, vr t2, vi (0 : Int32), vi (1 : Int32), vi (0 : Int32)] [(.ref t2), (.int (2 : Int32)), (.ref t1)] _
    refine XS.iconst X7.here hx rfl (hb hby d8_67) ?_
    show SS p e below m T7 68 #[vr a1, vr a2, vi (2 : Int32), vr t1, vr t2, vi (0 : Int32), vi (1 : Int32), vi (0 : Int32)] [(.int (0 : Int32)), (.ref t2), (.int (2 : Int32)), (.ref t1)] _
    refine XS.iload X7.here hx rfl (hb hby d8_68) rfl ?_
    show SS p e below m T7 70 #[vr a1, vr a2, vi (2 : Int32), vr t1, vr t2, vi (0 : Int32), vi (1 : Int32), vi (0 : Int32)] [(.int (1 : Int32)), (.int (0 : Int32)), (.ref t2), (.int (2 : Int32)), (.ref t1)] _
    refine st8 _ ?_
    show SS p e below m T8 73 #[vr a1, vr a2, vi (2 : Int32), vr t1, vr t2, vi (0 : Int32), vi (1 : Int32), vi (0 : Int32)] [(.int (0 : Int32))] _
    refine XS.ifYes X8.here hx rfl (pc0 := 73) (pc' := 80) rfl (hb hby d8_73) rfl ((if0 _ _).trans (flt (by decide)).2.1) (by decide) (by decide) ?_
    show SS p e below m T8 80 #[vr a1, vr a2, vi (2 : Int32), vr t1, vr t2, vi (0 : Int32), vi (1 : Int32), vi (0 : Int32)] [] _
    refine XS.iconst X8.here hx rfl (hb hby d8_80) ?_
    show SS p e below m T8 81 #[vr a1, vr a2, vi (2 : Int32), vr t1, vr t2, vi (0 : Int32), vi (1 : Int32), vi (0 : Int32)] [(.int (0 : Int32))] _
    exact retN X8 hx (t := .boolean) Bd.returns (by simp) (hb hby d8_81) hr
  · show Q_rm_sw3 Z a1 a2 t1 k1 vs1 u t2 k2 w zc h0 n0 _ T8.heap _
    rw [e8]
    exact ⟨rfl, N8, rfl⟩
theorem pd_21 : parseMethodDescriptor "(Ljava/lang/String;I)Z" = some ⟨[(.object "java/lang/String"), .int], some .boolean⟩ := by decide +kernel
theorem d5_0 : decode jdk_42_method_77_code 0 = .ok (.aload_n 0, 1) := by decide +kernel
theorem d5_1 : decode jdk_42_method_77_code 1 = .ok (.aload_n 1, 1) := by decide +kernel
theorem d5_2 : decode jdk_42_method_77_code 2 = .ok (.aload_n 0, 1) := by decide +kernel
theorem d5_3 : decode jdk_42_method_77_code 3 = .ok (.invokevirtual 505, 3) := by decide +kernel
theorem d5_6 : decode jdk_42_method_77_code 6 = .ok (.aload_n 1, 1) := by decide +kernel
theorem d5_7 : decode jdk_42_method_77_code 7 = .ok (.invokevirtual 505, 3) := by decide +kernel
theorem d5_10 : decode jdk_42_method_77_code 10 = .ok (.isub, 1) := by decide +kernel
theorem d5_11 : decode jdk_42_method_77_code 11 = .ok (.invokevirtual 624, 3) := by decide +kernel
theorem d5_14 : decode jdk_42_method_77_code 14 = .ok (.ireturn, 1) := by decide +kernel
theorem ef_rm_ew (m : MethodId) (x0 : Addr) (x1 : Addr) : entryFrame m #[(.ref x0), (.ref x1)] 2 = mkF m 0 #[vr x0, vr x1] [] := by first | (simp [entryFrame, mkF, argsToLocals, Value.category]; done) | rfl
def Q_rm_ew (Z : State) (a1 : Addr) (a2 : Addr) (t1 : Addr) (k1 : ClassId) (z1 : Int32) (vs1 : List Value) (t2 : Addr) (k2 : ClassId) (w : Int32) (zc : Int32) (h0 : Heap) (n0 : Nat) (v : Option Value) (h : Heap) (L : List Loc) : Prop := (v = some (.int (0 : Int32))) ∧ (Fr n0 L) ∧ (h = h0)
set_option maxRecDepth 65536 in
set_option maxHeartbeats 40000000 in
theorem rm_ew (l : Launch) (Z : State) (a0 : Array Value) (hw : ∀ d ∈ tables_1, d.before a0 Z = true) (ws : List Jvm.Cond) (a1 : Addr) (a2 : Addr) (t1 : Addr) (k1 : ClassId) (z1 : Int32) (vs1 : List Value) (t2 : Addr) (k2 : ClassId) (w : Int32) (zc : Int32) (h0 : Heap) (n0 : Nat) (Z0 : n0 ≤ h0.size) (O0 : Old Z n0 h0) (E_a1 : Exa Z h0 a1 "java/lang/String") (F_value_a1 : Fld Z h0 a1 "java/lang/String" "value" "[B" (.ref t1)) (F_coder_a1 : Fld Z h0 a1 "java/lang/String" "coder" "B" (.int (0 : Int32))) (V_t1 : Arv Z h0 t1 k1 .byte z1 vs1 (.int (0 : Int32))) (E_a2 : Exa Z h0 a2 "java/lang/String") (F_value_a2 : Fld Z h0 a2 "java/lang/String" "value" "[B" (.ref t2)) (F_coder_a2 : Fld Z h0 a2 "java/lang/String" "coder" "B" (.int (0 : Int32))) (V_t2 : Arv Z h0 t2 k2 .byte (1 : Int32) [(.int w)] (.int (0 : Int32))) (S_CS : Sta Z Z.heap "java/lang/String" "COMPACT_STRINGS" "Z" (.int zc)) (hz : ¬ zc = (0 : Int32)) (hD : (z1 = (0 : Int32)) ∨ (z1 = (1 : Int32) ∧ ∃ u : Int32, vs1.getD (0 : Int32).toNatClampNeg (.int (0 : Int32)) = .int u ∧ ¬ u = w) ∨ (z1 = (2 : Int32) ∧ ∃ u : Int32, vs1.getD (1 : Int32).toNatClampNeg (.int (0 : Int32)) = .int u ∧ ¬ u = w) ∨ (z1 = (3 : Int32) ∧ ∃ u : Int32, vs1.getD (2 : Int32).toNatClampNeg (.int (0 : Int32)) = .int u ∧ ¬ u = w)) :
    MetFree l y_34 (head1 (Jvm.Cond.code y_34 jdk_42_method_77_code 2 (some .boolean) :: ws) ({ frames := 3, cells := 0, slots := 0, locals := 46 } : Room)) (fun a U => a = #[(.ref a1), (.ref a2)] ∧ Z.Warmed39 U.vm ∧ U.heap = h0) (fun _ _ _ _ _ => True) (fun _ U o U' => ∃ v L, o = .returned v ∧ Q_rm_ew Z a1 a2 t1 k1 z1 vs1 t2 k2 w zc h0 n0 v U'.heap L ∧ FrameEnd U o U' L ({ frames := 3, cells := 0, slots := 0, locals := 46 } : Room).cells ({ frames := 3, cells := 0, slots := 0, locals := 46 } : Room).slots) := by
  refine MetFree.of_bodySF (plainFor_of_name pn_0) hisR ?_
  intro p e s m args below meth c s₁ Bd hml0 hP hK
  obtain ⟨rfl, hZ, hh⟩ := hP
  have hx := Bd.exec
  have hby := Bd.bytes
  have hml : c.maxLocals = 2 := hml0
  have hown : s.vm.findClass "java/lang/String" = some m.cls := findClass_of_methodNamed Bd.named
  have hnm := (name_of_methodNamed Bd.named Bd.method).1
  have X0 : Stand p l e ({ frames := 3, cells := 0, slots := 0, locals := 46 } : Room) s m #[(.ref a1), (.ref a2)] below meth c s₁ [] 0 0 := Stand.of_body Bd
  have e0 : s₁.heap = h0 := by rw [← hh, Bd.state]; rfl
  have N0 := Fr.nil n0
  have KC : Keep h0 h0 [] := Keep.refl h0 _
  have pre0 : ∀ t, Steps p.tables e below (s₁.setTop (mkF m 0 #[vr a1, vr a2] [])) t → Steps p.tables e below (s₁.setTop (entryFrame m #[(.ref a1), (.ref a2)] 2)) t := fun t k => castTop (ef_rm_ew m a1 a2) k
  rcases hD with hD | ⟨hD, u, hU, hN⟩ | ⟨hD, u, hU, hN⟩ | ⟨hD, u, hU, hN⟩
  · replace V_t1 := (by have hh := V_t1; rw [hD] at hh; exact hh : Arv Z h0 t1 k1 .byte (0 : Int32) vs1 (.int (0 : Int32)))
    obtain ⟨cq1, kq1, q1a, q1b, q1c⟩ := isOf hZ e0 E_a1
    obtain ⟨_, _, ⟨T1, L1, kz1, nz1⟩, -, X1, ⟨Lc1, hQ1, l1, y1, z1⟩, st1⟩ := X0.virtualBack hx (y := y_1) (z := y_1) hown (mvT hZ (ww hw 32 rfl)) (mvT hZ (ww hw 33 rfl)) (notFace_of_selects (args := #[]) (mvT hZ (ww hw 35 rfl))) (mvT hZ (ww hw 35 rfl)) (mvT hZ (ww hw 34 rfl)) (by decide) (backOf (W := 2) (rm_length l Z a0 hw [] a1 t1 k1 (0 : Int32) vs1 zc h0 n0 (Nat.le_trans Z0 KC.1) O0 E_a1 F_value_a1 F_coder_a1 V_t1 S_CS hz) hZ (ww hw 36 rfl) (ww hw 3 rfl) (by decide) (by decide)) q1a q1c (g := (mkF m 3 #[vr a1, vr a2] [(.ref a1), (.ref a2), (.ref a1)])) rfl (by rw [hml]; rfl) (Steps.refl _) (argsL := []) (rest := [(.ref a2), (.ref a1)]) (lenOf pd_8 rfl) rfl (by show 2 * 0 + _ ≤ _; exact Nat.le_of_eq rfl) (hb hby d5_3) (fun _ _ => ⟨rfl, e0, (by decide : 0 + 0 ≤ _), (by decide : 0 + 0 ≤ _)⟩)
    dsimp only [Pt.U, Pt.locs, Pt.cells, Pt.slots] at X1 l1 y1 z1 st1 hQ1
    subst l1 y1 z1
    obtain ⟨rfl, N1q, e1⟩ := hQ1
    have N1 := Fr.app N0 N1q
    obtain ⟨cq2, kq2, q2a, q2b, q2c⟩ := isOf hZ e1 E_a2
    obtain ⟨_, _, ⟨T2, L2, kz2, nz2⟩, -, X2, ⟨Lc2, hQ2, l2, y2, z2⟩, st2⟩ := X1.virtualBack hx (y := y_1) (z := y_1) hown (mvT hZ (ww hw 32 rfl)) (mvT hZ (ww hw 33 rfl)) (notFace_of_selects (args := #[]) (mvT hZ (ww hw 35 rfl))) (mvT hZ (ww hw 35 rfl)) (mvT hZ (ww hw 34 rfl)) (by decide) (backOf (W := 3) (rm_length l Z a0 hw [] a2 t2 k2 (1 : Int32) [(.int w)] zc h0 n0 (Nat.le_trans Z0 KC.1) O0 E_a2 F_value_a2 F_coder_a2 V_t2 S_CS hz) hZ (ww hw 36 rfl) (ww hw 3 rfl) (by decide) (by decide)) q2a q2c (g := (mkF m 7 #[vr a1, vr a2] [(.ref a2), (.int (0 : Int32)), (.ref a2), (.ref a1)])) rfl (by rw [hml]; rfl) (Steps.refl _) (argsL := []) (rest := [(.int (0 : Int32)), (.ref a2), (.ref a1)]) (lenOf pd_8 rfl) rfl (by show 2 * 0 + _ ≤ _; exact Nat.le_of_eq rfl) (hb hby d5_7) (fun _ _ => ⟨rfl, e1, (by decide : 0 + 0 ≤ _), (by decide : 0 + 0 ≤ _)⟩)
    dsimp only [Pt.U, Pt.locs, Pt.cells, Pt.slots] at X2 l2 y2 z2 st2 hQ2
    subst l2 y2 z2
    obtain ⟨rfl, N2q, e2⟩ := hQ2
    have N2 := Fr.app N1 N2q
    obtain ⟨cq3, kq3, q3a, q3b, q3c⟩ := isOf hZ e2 E_a1
    obtain ⟨_, _, ⟨T3, L3, kz3, nz3⟩, -, X3, ⟨Lc3, hQ3, l3, y3, z3⟩, st3⟩ := X2.virtualBack hx (y := y_32) (z := y_32) hown (mvT hZ (ww hw 43 rfl)) (mvT hZ (ww hw 44 rfl)) (notFace_of_selects (args := #[]) (mvT hZ (ww hw 46 rfl))) (mvT hZ (ww hw 46 rfl)) (mvT hZ (ww hw 45 rfl)) (by decide) (backOf (W := 0) (rm_sw0 l Z a0 hw [] a1 a2 h0 n0 (Nat.le_trans Z0 KC.1) O0 ) hZ (ww hw 47 rfl) (ww hw 3 rfl) (by decide) (by decide)) q3a q3c (g := (mkF m 11 #[vr a1, vr a2] [(.int (-1 : Int32)), (.ref a2), (.ref a1)])) rfl (by rw [hml]; rfl) (Steps.refl _) (argsL := [(.ref a2), (.int (-1 : Int32))]) (rest := []) (lenOf pd_21 rfl) rfl (by show 2 * 0 + _ ≤ _; exact Nat.le_of_eq rfl) (hb hby d5_11) (fun _ _ => ⟨rfl, e2, (by decide : 0 + 0 ≤ _), (by decide : 0 + 0 ≤ _)⟩)
    dsimp only [Pt.U, Pt.locs, Pt.cells, Pt.slots] at X3 l3 y3 z3 st3 hQ3
    subst l3 y3 z3
    obtain ⟨rfl, N3q, e3⟩ := hQ3
    have N3 := Fr.app N2 N3q
    obtain ⟨fs, hr, hrun, hended, hW, hsame⟩ := X3.leave (v := some (.int (0 : Int32))) (fun h => by rw [Bd.returns] at h; cases h)
    refine ⟨_, _, pre0 _ ?_, hrun, hended, _, _, rfl, ?_, ⟨_, rfl⟩, hW, hsame.mono (by decide) (by decide)⟩
    · show SS p e below m s₁ 0 #[vr a1, vr a2] [] _
      refine XS.aloadN X0.here hx rfl (hb hby d5_0) rfl rfl ?_
      show SS p e below m s₁ 1 #[vr a1, vr a2] [(.ref a1)] _
      refine XS.aloadN X0.here hx rfl (hb hby d5_1) rfl rfl ?_
      show SS p e below m s₁ 2 #[vr a1, vr a2] [(.ref a2), (.ref a1)] _
      refine XS.aloadN X0.here hx rfl (hb hby d5_2) rfl rfl ?_
      show SS p e below m s₁ 3 #[vr a1, vr a2] [(.ref a1), (.ref a2), (.ref a1)] _
      refine st1.trans ?_
      show SS p e below m T1 6 #[vr a1, vr a2] [(.int (0 : Int32)), (.ref a2), (.ref a1)] _
      refine XS.aloadN X1.here hx rfl (hb hby d5_6) rfl rfl ?_
      show SS p e below m T1 7 #[vr a1, vr a2] [(.ref a2), (.int (0 : Int32)), (.ref a2), (.ref a1)] _
      refine st2.trans ?_
      show SS p e below m T2 10 #[vr a1, vr a2] [(.int (1 : Int32)), (.int (0 : Int32)), (.ref a2), (.ref a1)] _
      refine XS.isub X2.here hx rfl (hb hby d5_10) rfl ?_
      show SS p e below m T2 11 #[vr a1, vr a2] [(.int (-1 : Int32)), (.ref a2), (.ref a1)] _
      refine st3.trans ?_
      show SS p e below m T3 14 #[vr a1, vr a2] [(.int (0 : Int32))] _
      exact retN X3 hx (t := .boolean) Bd.returns (by simp) (hb hby d5_14) hr
    · show Q_rm_ew Z a1 a2 t1 k1 z1 vs1 t2 k2 w zc h0 n0 _ T3.heap _
      rw [e3]
      exact ⟨rfl, N3, rfl⟩
  · replace V_t1 := (by have hh := V_t1; rw [hD] at hh; exact hh : Arv Z h0 t1 k1 .byte (1 : Int32) vs1 (.int (0 : Int32)))
    obtain ⟨cq4, kq4, q4a, q4b, q4c⟩ := isOf hZ e0 E_a1
    obtain ⟨_, _, ⟨T4, L4, kz4, nz4⟩, -, X4, ⟨Lc4, hQ4, l4, y4, z4⟩, st4⟩ := X0.virtualBack hx (y := y_1) (z := y_1) hown (mvT hZ (ww hw 32 rfl)) (mvT hZ (ww hw 33 rfl)) (notFace_of_selects (args := #[]) (mvT hZ (ww hw 35 rfl))) (mvT hZ (ww hw 35 rfl)) (mvT hZ (ww hw 34 rfl)) (by decide) (backOf (W := 2) (rm_length l Z a0 hw [] a1 t1 k1 (1 : Int32) vs1 zc h0 n0 (Nat.le_trans Z0 KC.1) O0 E_a1 F_value_a1 F_coder_a1 V_t1 S_CS hz) hZ (ww hw 36 rfl) (ww hw 3 rfl) (by decide) (by decide)) q4a q4c (g := (mkF m 3 #[vr a1, vr a2] [(.ref a1), (.ref a2), (.ref a1)])) rfl (by rw [hml]; rfl) (Steps.refl _) (argsL := []) (rest := [(.ref a2), (.ref a1)]) (lenOf pd_8 rfl) rfl (by show 2 * 0 + _ ≤ _; exact Nat.le_of_eq rfl) (hb hby d5_3) (fun _ _ => ⟨rfl, e0, (by decide : 0 + 0 ≤ _), (by decide : 0 + 0 ≤ _)⟩)
    dsimp only [Pt.U, Pt.locs, Pt.cells, Pt.slots] at X4 l4 y4 z4 st4 hQ4
    subst l4 y4 z4
    obtain ⟨rfl, N4q, e4⟩ := hQ4
    have N4 := Fr.app N0 N4q
    obtain ⟨cq5, kq5, q5a, q5b, q5c⟩ := isOf hZ e4 E_a2
    obtain ⟨_, _, ⟨T5, L5, kz5, nz5⟩, -, X5, ⟨Lc5, hQ5, l5, y5, z5⟩, st5⟩ := X4.virtualBack hx (y := y_1) (z := y_1) hown (mvT hZ (ww hw 32 rfl)) (mvT hZ (ww hw 33 rfl)) (notFace_of_selects (args := #[]) (mvT hZ (ww hw 35 rfl))) (mvT hZ (ww hw 35 rfl)) (mvT hZ (ww hw 34 rfl)) (by decide) (backOf (W := 3) (rm_length l Z a0 hw [] a2 t2 k2 (1 : Int32) [(.int w)] zc h0 n0 (Nat.le_trans Z0 KC.1) O0 E_a2 F_value_a2 F_coder_a2 V_t2 S_CS hz) hZ (ww hw 36 rfl) (ww hw 3 rfl) (by decide) (by decide)) q5a q5c (g := (mkF m 7 #[vr a1, vr a2] [(.ref a2), (.int (1 : Int32)), (.ref a2), (.ref a1)])) rfl (by rw [hml]; rfl) (Steps.refl _) (argsL := []) (rest := [(.int (1 : Int32)), (.ref a2), (.ref a1)]) (lenOf pd_8 rfl) rfl (by show 2 * 0 + _ ≤ _; exact Nat.le_of_eq rfl) (hb hby d5_7) (fun _ _ => ⟨rfl, e4, (by decide : 0 + 0 ≤ _), (by decide : 0 + 0 ≤ _)⟩)
    dsimp only [Pt.U, Pt.locs, Pt.cells, Pt.slots] at X5 l5 y5 z5 st5 hQ5
    subst l5 y5 z5
    obtain ⟨rfl, N5q, e5⟩ := hQ5
    have N5 := Fr.app N4 N5q
    obtain ⟨cq6, kq6, q6a, q6b, q6c⟩ := isOf hZ e5 E_a1
    obtain ⟨_, _, ⟨T6, L6, kz6, nz6⟩, -, X6, ⟨Lc6, hQ6, l6, y6, z6⟩, st6⟩ := X5.virtualBack hx (y := y_32) (z := y_32) hown (mvT hZ (ww hw 43 rfl)) (mvT hZ (ww hw 44 rfl)) (notFace_of_selects (args := #[]) (mvT hZ (ww hw 46 rfl))) (mvT hZ (ww hw 46 rfl)) (mvT hZ (ww hw 45 rfl)) (by decide) (backOf (W := 0) (rm_sw1 l Z a0 hw [] a1 a2 t1 k1 vs1 u t2 k2 w zc h0 n0 (Nat.le_trans Z0 KC.1) O0 E_a1 F_value_a1 F_coder_a1 V_t1 E_a2 F_value_a2 F_coder_a2 V_t2 S_CS hz hU hN) hZ (ww hw 47 rfl) (ww hw 3 rfl) (by decide) (by decide)) q6a q6c (g := (mkF m 11 #[vr a1, vr a2] [(.int (0 : Int32)), (.ref a2), (.ref a1)])) rfl (by rw [hml]; rfl) (Steps.refl _) (argsL := [(.ref a2), (.int (0 : Int32))]) (rest := []) (lenOf pd_21 rfl) rfl (by show 2 * 0 + _ ≤ _; exact Nat.le_of_eq rfl) (hb hby d5_11) (fun _ _ => ⟨rfl, e5, (by decide : 0 + 0 ≤ _), (by decide : 0 + 0 ≤ _)⟩)
    dsimp only [Pt.U, Pt.locs, Pt.cells, Pt.slots] at X6 l6 y6 z6 st6 hQ6
    subst l6 y6 z6
    obtain ⟨rfl, N6q, e6⟩ := hQ6
    have N6 := Fr.app N5 N6q
    obtain ⟨fs, hr, hrun, hended, hW, hsame⟩ := X6.leave (v := some (.int (0 : Int32))) (fun h => by rw [Bd.returns] at h; cases h)
    refine ⟨_, _, pre0 _ ?_, hrun, hended, _, _, rfl, ?_, ⟨_, rfl⟩, hW, hsame.mono (by decide) (by decide)⟩
    · show SS p e below m s₁ 0 #[vr a1, vr a2] [] _
      refine XS.aloadN X0.here hx rfl (hb hby d5_0) rfl rfl ?_
      show SS p e below m s₁ 1 #[vr a1, vr a2] [(.ref a1)] _
      refine XS.aloadN X0.here hx rfl (hb hby d5_1) rfl rfl ?_
      show SS p e below m s₁ 2 #[vr a1, vr a2] [(.ref a2), (.ref a1)] _
      refine XS.aloadN X0.here hx rfl (hb hby d5_2) rfl rfl ?_
      show SS p e below m s₁ 3 #[vr a1, vr a2] [(.ref a1), (.ref a2), (.ref a1)] _
      refine st4.trans ?_
      show SS p e below m T4 6 #[vr a1, vr a2] [(.int (1 : Int32)), (.ref a2), (.ref a1)] _
      refine XS.aloadN X4.here hx rfl (hb hby d5_6) rfl rfl ?_
      show SS p e below m T4 7 #[vr a1, vr a2] [(.ref a2), (.int (1 : Int32)), (.ref a2), (.ref a1)] _
      refine st5.trans ?_
      show SS p e below m T5 10 #[vr a1, vr a2] [(.int (1 : Int32)), (.int (1 : Int32)), (.ref a2), (.ref a1)] _
      refine XS.isub X5.here hx rfl (hb hby d5_10) rfl ?_
      show SS p e below m T5 11 #[vr a1, vr a2] [(.int (0 : Int32)), (.ref a2), (.ref a1)] _
      refine st6.trans ?_
      show SS p e below m T6 14 #[vr a1, vr a2] [(.int (0 : Int32))] _
      exact retN X6 hx (t := .boolean) Bd.returns (by simp) (hb hby d5_14) hr
    · show Q_rm_ew Z a1 a2 t1 k1 z1 vs1 t2 k2 w zc h0 n0 _ T6.heap _
      rw [e6]
      exact ⟨rfl, N6, rfl⟩
  · replace V_t1 := (by have hh := V_t1; rw [hD] at hh; exact hh : Arv Z h0 t1 k1 .byte (2 : Int32) vs1 (.int (0 : Int32)))
    obtain ⟨cq7, kq7, q7a, q7b, q7c⟩ := isOf hZ e0 E_a1
    obtain ⟨_, _, ⟨T7, L7, kz7, nz7⟩, -, X7, ⟨Lc7, hQ7, l7, y7, z7⟩, st7⟩ := X0.virtualBack hx (y := y_1) (z := y_1) hown (mvT hZ (ww hw 32 rfl)) (mvT hZ (ww hw 33 rfl)) (notFace_of_selects (args := #[]) (mvT hZ (ww hw 35 rfl))) (mvT hZ (ww hw 35 rfl)) (mvT hZ (ww hw 34 rfl)) (by decide) (backOf (W := 2) (rm_length l Z a0 hw [] a1 t1 k1 (2 : Int32) vs1 zc h0 n0 (Nat.le_trans Z0 KC.1) O0 E_a1 F_value_a1 F_coder_a1 V_t1 S_CS hz) hZ (ww hw 36 rfl) (ww hw 3 rfl) (by decide) (by decide)) q7a q7c (g := (mkF m 3 #[vr a1, vr a2] [(.ref a1), (.ref a2), (.ref a1)])) rfl (by rw [hml]; rfl) (Steps.refl _) (argsL := []) (rest := [(.ref a2), (.ref a1)]) (lenOf pd_8 rfl) rfl (by show 2 * 0 + _ ≤ _; exact Nat.le_of_eq rfl) (hb hby d5_3) (fun _ _ => ⟨rfl, e0, (by decide : 0 + 0 ≤ _), (by decide : 0 + 0 ≤ _)⟩)
    dsimp only [Pt.U, Pt.locs, Pt.cells, Pt.slots] at X7 l7 y7 z7 st7 hQ7
    subst l7 y7 z7
    obtain ⟨rfl, N7q, e7⟩ := hQ7
    have N7 := Fr.app N0 N7q
    obtain ⟨cq8, kq8, q8a, q8b, q8c⟩ := isOf hZ e7 E_a2
    obtain ⟨_, _, ⟨T8, L8, kz8, nz8⟩, -, X8, ⟨Lc8, hQ8, l8, y8, z8⟩, st8⟩ := X7.virtualBack hx (y := y_1) (z := y_1) hown (mvT hZ (ww hw 32 rfl)) (mvT hZ (ww hw 33 rfl)) (notFace_of_selects (args := #[]) (mvT hZ (ww hw 35 rfl))) (mvT hZ (ww hw 35 rfl)) (mvT hZ (ww hw 34 rfl)) (by decide) (backOf (W := 3) (rm_length l Z a0 hw [] a2 t2 k2 (1 : Int32) [(.int w)] zc h0 n0 (Nat.le_trans Z0 KC.1) O0 E_a2 F_value_a2 F_coder_a2 V_t2 S_CS hz) hZ (ww hw 36 rfl) (ww hw 3 rfl) (by decide) (by decide)) q8a q8c (g := (mkF m 7 #[vr a1, vr a2] [(.ref a2), (.int (2 : Int32)), (.ref a2), (.ref a1)])) rfl (by rw [hml]; rfl) (Steps.refl _) (argsL := []) (rest := [(.int (2 : Int32)), (.ref a2), (.ref a1)]) (lenOf pd_8 rfl) rfl (by show 2 * 0 + _ ≤ _; exact Nat.le_of_eq rfl) (hb hby d5_7) (fun _ _ => ⟨rfl, e7, (by decide : 0 + 0 ≤ _), (by decide : 0 + 0 ≤ _)⟩)
    dsimp only [Pt.U, Pt.locs, Pt.cells, Pt.slots] at X8 l8 y8 z8 st8 hQ8
    subst l8 y8 z8
    obtain ⟨rfl, N8q, e8⟩ := hQ8
    have N8 := Fr.app N7 N8q
    obtain ⟨cq9, kq9, q9a, q9b, q9c⟩ := isOf hZ e8 E_a1
    obtain ⟨_, _, ⟨T9, L9, kz9, nz9⟩, -, X9, ⟨Lc9, hQ9, l9, y9, z9⟩, st9⟩ := X8.virtualBack hx (y := y_32) (z := y_32) hown (mvT hZ (ww hw 43 rfl)) (mvT hZ (ww hw 44 rfl)) (notFace_of_selects (args := #[]) (mvT hZ (ww hw 46 rfl))) (mvT hZ (ww hw 46 rfl)) (mvT hZ (ww hw 45 rfl)) (by decide) (backOf (W := 0) (rm_sw2 l Z a0 hw [] a1 a2 t1 k1 vs1 u t2 k2 w zc h0 n0 (Nat.le_trans Z0 KC.1) O0 E_a1 F_value_a1 F_coder_a1 V_t1 E_a2 F_value_a2 F_coder_a2 V_t2 S_CS hz hU hN) hZ (ww hw 47 rfl) (ww hw 3 rfl) (by decide) (by decide)) q9a q9c (g := (mkF m 11 #[vr a1, vr a2] [(.int (1 : Int32)), (.ref a2), (.ref a1)])) rfl (by rw [hml]; rfl) (Steps.refl _) (argsL := [(.ref a2), (.int (1 : Int32))]) (rest := []) (lenOf pd_21 rfl) rfl (by show 2 * 0 + _ ≤ _; exact Nat.le_of_eq rfl) (hb hby d5_11) (fun _ _ => ⟨rfl, e8, (by decide : 0 + 0 ≤ _), (by decide : 0 + 0 ≤ _)⟩)
    dsimp only [Pt.U, Pt.locs, Pt.cells, Pt.slots] at X9 l9 y9 z9 st9 hQ9
    subst l9 y9 z9
    obtain ⟨rfl, N9q, e9⟩ := hQ9
    have N9 := Fr.app N8 N9q
    obtain ⟨fs, hr, hrun, hended, hW, hsame⟩ := X9.leave (v := some (.int (0 : Int32))) (fun h => by rw [Bd.returns] at h; cases h)
    refine ⟨_, _, pre0 _ ?_, hrun, hended, _, _, rfl, ?_, ⟨_, rfl⟩, hW, hsame.mono (by decide) (by decide)⟩
    · show SS p e below m s₁ 0 #[vr a1, vr a2] [] _
      refine XS.aloadN X0.here hx rfl (hb hby d5_0) rfl rfl ?_
      show SS p e below m s₁ 1 #[vr a1, vr a2] [(.ref a1)] _
      refine XS.aloadN X0.here hx rfl (hb hby d5_1) rfl rfl ?_
      show SS p e below m s₁ 2 #[vr a1, vr a2] [(.ref a2), (.ref a1)] _
      refine XS.aloadN X0.here hx rfl (hb hby d5_2) rfl rfl ?_
      show SS p e below m s₁ 3 #[vr a1, vr a2] [(.ref a1), (.ref a2), (.ref a1)] _
      refine st7.trans ?_
      show SS p e below m T7 6 #[vr a1, vr a2] [(.int (2 : Int32)), (.ref a2), (.ref a1)] _
      refine XS.aloadN X7.here hx rfl (hb hby d5_6) rfl rfl ?_
      show SS p e below m T7 7 #[vr a1, vr a2] [(.ref a2), (.int (2 : Int32)), (.ref a2), (.ref a1)] _
      refine st8.trans ?_
      show SS p e below m T8 10 #[vr a1, vr a2] [(.int (1 : Int32)), (.int (2 : Int32)), (.ref a2), (.ref a1)] _
      refine XS.isub X8.here hx rfl (hb hby d5_10) rfl ?_
      show SS p e below m T8 11 #[vr a1, vr a2] [(.int (1 : Int32)), (.ref a2), (.ref a1)] _
      refine st9.trans ?_
      show SS p e below m T9 14 #[vr a1, vr a2] [(.int (0 : Int32))] _
      exact retN X9 hx (t := .boolean) Bd.returns (by simp) (hb hby d5_14) hr
    · show Q_rm_ew Z a1 a2 t1 k1 z1 vs1 t2 k2 w zc h0 n0 _ T9.heap _
      rw [e9]
      exact ⟨rfl, N9, rfl⟩
  · replace V_t1 := (by have hh := V_t1; rw [hD] at hh; exact hh : Arv Z h0 t1 k1 .byte (3 : Int32) vs1 (.int (0 : Int32)))
    obtain ⟨cq10, kq10, q10a, q10b, q10c⟩ := isOf hZ e0 E_a1
    obtain ⟨_, _, ⟨T10, L10, kz10, nz10⟩, -, X10, ⟨Lc10, hQ10, l10, y10, z10⟩, st10⟩ := X0.virtualBack hx (y := y_1) (z := y_1) hown (mvT hZ (ww hw 32 rfl)) (mvT hZ (ww hw 33 rfl)) (notFace_of_selects (args := #[]) (mvT hZ (ww hw 35 rfl))) (mvT hZ (ww hw 35 rfl)) (mvT hZ (ww hw 34 rfl)) (by decide) (backOf (W := 2) (rm_length l Z a0 hw [] a1 t1 k1 (3 : Int32) vs1 zc h0 n0 (Nat.le_trans Z0 KC.1) O0 E_a1 F_value_a1 F_coder_a1 V_t1 S_CS hz) hZ (ww hw 36 rfl) (ww hw 3 rfl) (by decide) (by decide)) q10a q10c (g := (mkF m 3 #[vr a1, vr a2] [(.ref a1), (.ref a2), (.ref a1)])) rfl (by rw [hml]; rfl) (Steps.refl _) (argsL := []) (rest := [(.ref a2), (.ref a1)]) (lenOf pd_8 rfl) rfl (by show 2 * 0 + _ ≤ _; exact Nat.le_of_eq rfl) (hb hby d5_3) (fun _ _ => ⟨rfl, e0, (by decide : 0 + 0 ≤ _), (by decide : 0 + 0 ≤ _)⟩)
    dsimp only [Pt.U, Pt.locs, Pt.cells, Pt.slots] at X10 l10 y10 z10 st10 hQ10
    subst l10 y10 z10
    obtain ⟨rfl, N10q, e10⟩ := hQ10
    have N10 := Fr.app N0 N10q
    obtain ⟨cq11, kq11, q11a, q11b, q11c⟩ := isOf hZ e10 E_a2
    obtain ⟨_, _, ⟨T11, L11, kz11, nz11⟩, -, X11, ⟨Lc11, hQ11, l11, y11, z11⟩, st11⟩ := X10.virtualBack hx (y := y_1) (z := y_1) hown (mvT hZ (ww hw 32 rfl)) (mvT hZ (ww hw 33 rfl)) (notFace_of_selects (args := #[]) (mvT hZ (ww hw 35 rfl))) (mvT hZ (ww hw 35 rfl)) (mvT hZ (ww hw 34 rfl)) (by decide) (backOf (W := 3) (rm_length l Z a0 hw [] a2 t2 k2 (1 : Int32) [(.int w)] zc h0 n0 (Nat.le_trans Z0 KC.1) O0 E_a2 F_value_a2 F_coder_a2 V_t2 S_CS hz) hZ (ww hw 36 rfl) (ww hw 3 rfl) (by decide) (by decide)) q11a q11c (g := (mkF m 7 #[vr a1, vr a2] [(.ref a2), (.int (3 : Int32)), (.ref a2), (.ref a1)])) rfl (by rw [hml]; rfl) (Steps.refl _) (argsL := []) (rest := [(.int (3 : Int32)), (.ref a2), (.ref a1)]) (lenOf pd_8 rfl) rfl (by show 2 * 0 + _ ≤ _; exact Nat.le_of_eq rfl) (hb hby d5_7) (fun _ _ => ⟨rfl, e10, (by decide : 0 + 0 ≤ _), (by decide : 0 + 0 ≤ _)⟩)
    dsimp only [Pt.U, Pt.locs, Pt.cells, Pt.slots] at X11 l11 y11 z11 st11 hQ11
    subst l11 y11 z11
    obtain ⟨rfl, N11q, e11⟩ := hQ11
    have N11 := Fr.app N10 N11q
    obtain ⟨cq12, kq12, q12a, q12b, q12c⟩ := isOf hZ e11 E_a1
    obtain ⟨_, _, ⟨T12, L12, kz12, nz12⟩, -, X12, ⟨Lc12, hQ12, l12, y12, z12⟩, st12⟩ := X11.virtualBack hx (y := y_32) (z := y_32) hown (mvT hZ (ww hw 43 rfl)) (mvT hZ (ww hw 44 rfl)) (notFace_of_selects (args := #[]) (mvT hZ (ww hw 46 rfl))) (mvT hZ (ww hw 46 rfl)) (mvT hZ (ww hw 45 rfl)) (by decide) (backOf (W := 0) (rm_sw3 l Z a0 hw [] a1 a2 t1 k1 vs1 u t2 k2 w zc h0 n0 (Nat.le_trans Z0 KC.1) O0 E_a1 F_value_a1 F_coder_a1 V_t1 E_a2 F_value_a2 F_coder_a2 V_t2 S_CS hz hU hN) hZ (ww hw 47 rfl) (ww hw 3 rfl) (by decide) (by decide)) q12a q12c (g := (mkF m 11 #[vr a1, vr a2] [(.int (2 : Int32)), (.ref a2), (.ref a1)])) rfl (by rw [hml]; rfl) (Steps.refl _) (argsL := [(.ref a2), (.int (2 : Int32))]) (rest := []) (lenOf pd_21 rfl) rfl (by show 2 * 0 + _ ≤ _; exact Nat.le_of_eq rfl) (hb hby d5_11) (fun _ _ => ⟨rfl, e11, (by decide : 0 + 0 ≤ _), (by decide : 0 + 0 ≤ _)⟩)
    dsimp only [Pt.U, Pt.locs, Pt.cells, Pt.slots] at X12 l12 y12 z12 st12 hQ12
    subst l12 y12 z12
    obtain ⟨rfl, N12q, e12⟩ := hQ12
    have N12 := Fr.app N11 N12q
    obtain ⟨fs, hr, hrun, hended, hW, hsame⟩ := X12.leave (v := some (.int (0 : Int32))) (fun h => by rw [Bd.returns] at h; cases h)
    refine ⟨_, _, pre0 _ ?_, hrun, hended, _, _, rfl, ?_, ⟨_, rfl⟩, hW, hsame.mono (by decide) (by decide)⟩
    · show SS p e below m s₁ 0 #[vr a1, vr a2] [] _
      refine XS.aloadN X0.here hx rfl (hb hby d5_0) rfl rfl ?_
      show SS p e below m s₁ 1 #[vr a1, vr a2] [(.ref a1)] _
      refine XS.aloadN X0.here hx rfl (hb hby d5_1) rfl rfl ?_
      show SS p e below m s₁ 2 #[vr a1, vr a2] [(.ref a2), (.ref a1)] _
      refine XS.aloadN X0.here hx rfl (hb hby d5_2) rfl rfl ?_
      show SS p e below m s₁ 3 #[vr a1, vr a2] [(.ref a1), (.ref a2), (.ref a1)] _
      refine st10.trans ?_
      show SS p e below m T10 6 #[vr a1, vr a2] [(.int (3 : Int32)), (.ref a2), (.ref a1)] _
      refine XS.aloadN X10.here hx rfl (hb hby d5_6) rfl rfl ?_
      show SS p e below m T10 7 #[vr a1, vr a2] [(.ref a2), (.int (3 : Int32)), (.ref a2), (.ref a1)] _
      refine st11.trans ?_
      show SS p e below m T11 10 #[vr a1, vr a2] [(.int (1 : Int32)), (.int (3 : Int32)), (.ref a2), (.ref a1)] _
      refine XS.isub X11.here hx rfl (hb hby d5_10) rfl ?_
      show SS p e below m T11 11 #[vr a1, vr a2] [(.int (2 : Int32)), (.ref a2), (.ref a1)] _
      refine st12.trans ?_
      show SS p e below m T12 14 #[vr a1, vr a2] [(.int (0 : Int32))] _
      exact retN X12 hx (t := .boolean) Bd.returns (by simp) (hb hby d5_14) hr
    · show Q_rm_ew Z a1 a2 t1 k1 z1 vs1 t2 k2 w zc h0 n0 _ T12.heap _
      rw [e12]
      exact ⟨rfl, N12, rfl⟩
theorem pd_22 : parseMethodDescriptor "(I)C" = some ⟨[.int], some .char⟩ := by decide +kernel
theorem d33_0 : decode method_5_code 0 = .ok (.iload_n 3, 1) := by decide +kernel
theorem d33_1 : decode method_5_code 1 = .ok (.aload_n 2, 1) := by decide +kernel
theorem d33_2 : decode method_5_code 2 = .ok (.invokevirtual 45, 3) := by decide +kernel
theorem d33_5 : decode method_5_code 5 = .ok (.if_icmp .ge 18, 3) := by decide +kernel
theorem d33_8 : decode method_5_code 8 = .ok (.aload_n 0, 1) := by decide +kernel
theorem d33_9 : decode method_5_code 9 = .ok (.iload_n 1, 1) := by decide +kernel
theorem d33_10 : decode method_5_code 10 = .ok (.iload_n 3, 1) := by decide +kernel
theorem d33_11 : decode method_5_code 11 = .ok (.iadd, 1) := by decide +kernel
theorem d33_12 : decode method_5_code 12 = .ok (.invokevirtual 57, 3) := by decide +kernel
theorem d33_15 : decode method_5_code 15 = .ok (.aload_n 2, 1) := by decide +kernel
theorem d33_16 : decode method_5_code 16 = .ok (.iload_n 3, 1) := by decide +kernel
theorem d33_17 : decode method_5_code 17 = .ok (.invokevirtual 57, 3) := by decide +kernel
theorem d33_20 : decode method_5_code 20 = .ok (.if_icmp .ne 7, 3) := by decide +kernel
theorem d33_23 : decode method_5_code 23 = .ok (.iconst 1, 1) := by decide +kernel
theorem d33_24 : decode method_5_code 24 = .ok (.goto 4, 3) := by decide +kernel
theorem d33_28 : decode method_5_code 28 = .ok (.ireturn, 1) := by decide +kernel
theorem pn_9 : plainName "com/example/federant/federant/saml/IdpEndpointsUnderPinLaw" = true := by first | (simp [plainName, overriddenIn]; done) | decide +kernel
theorem ef_rm_ch (m : MethodId) (x0 : Addr) (x1 : Int32) (x2 : Addr) (x3 : Int32) : entryFrame m #[(.ref x0), (.int x1), (.ref x2), (.int x3)] 4 = mkF m 0 #[vr x0, vi x1, vr x2, vi x3] [] := by first | (simp [entryFrame, mkF, argsToLocals, Value.category]; done) | rfl
def Q_rm_ch (Z : State) (a1 : Addr) (p2 : Int32) (a3 : Addr) (p4 : Int32) (t1 : Addr) (k1 : ClassId) (z1 : Int32) (vs1 : List Value) (t3 : Addr) (k3 : ClassId) (z3 : Int32) (vs3 : List Value) (zc : Int32) (fm : Value) (h0 : Heap) (n0 : Nat) (v : Option Value) (h : Heap) (L : List Loc) : Prop := (v = some (.int (1 : Int32))) ∧ (Fr n0 L) ∧ (h = h0)
set_option maxRecDepth 65536 in
set_option maxHeartbeats 40000000 in
theorem rm_ch (l : Launch) (Z : State) (a0 : Array Value) (hw : ∀ d ∈ tables_1, d.before a0 Z = true) (ws : List Jvm.Cond) (a1 : Addr) (p2 : Int32) (a3 : Addr) (p4 : Int32) (t1 : Addr) (k1 : ClassId) (z1 : Int32) (vs1 : List Value) (t3 : Addr) (k3 : ClassId) (z3 : Int32) (vs3 : List Value) (zc : Int32) (fm : Value) (h0 : Heap) (n0 : Nat) (Z0 : n0 ≤ h0.size) (O0 : Old Z n0 h0) (E_a1 : Exa Z h0 a1 "java/lang/String") (F_value_a1 : Fld Z h0 a1 "java/lang/String" "value" "[B" (.ref t1)) (F_coder_a1 : Fld Z h0 a1 "java/lang/String" "coder" "B" (.int (0 : Int32))) (V_t1 : Arv Z h0 t1 k1 .byte z1 vs1 (.int (0 : Int32))) (E_a3 : Exa Z h0 a3 "java/lang/String") (F_value_a3 : Fld Z h0 a3 "java/lang/String" "value" "[B" (.ref t3)) (F_coder_a3 : Fld Z h0 a3 "java/lang/String" "coder" "B" (.int (0 : Int32))) (V_t3 : Arv Z h0 t3 k3 .byte z3 vs3 (.int (0 : Int32))) (S_CS : Sta Z Z.heap "java/lang/String" "COMPACT_STRINGS" "Z" (.int zc)) (hz : ¬ zc = (0 : Int32)) (S_FM : Sta Z Z.heap "jdk/internal/util/Preconditions" "SIOOBE_FORMATTER" "Ljava/util/function/BiFunction;" fm) (hW_fm : fm.isRef = true) (hk0 : ¬ p4 < (0 : Int32)) (hCh : p4 < z3 → ¬ (p2 + p4) < (0 : Int32) ∧ (p2 + p4) < z1 ∧ ∃ u : Int32, vs1.getD (p2 + p4).toNatClampNeg (.int (0 : Int32)) = .int u ∧ vs3.getD p4.toNatClampNeg (.int (0 : Int32)) = .int u) :
    MetFree l y_35 (head1 (Jvm.Cond.code y_35 method_5_code 4 (some .boolean) :: ws) ({ frames := 4, cells := 0, slots := 0, locals := 54 } : Room)) (fun a U => a = #[(.ref a1), (.int p2), (.ref a3), (.int p4)] ∧ Z.Warmed39 U.vm ∧ U.heap = h0) (fun _ _ _ _ _ => True) (fun _ U o U' => ∃ v L, o = .returned v ∧ Q_rm_ch Z a1 p2 a3 p4 t1 k1 z1 vs1 t3 k3 z3 vs3 zc fm h0 n0 v U'.heap L ∧ FrameEnd U o U' L ({ frames := 4, cells := 0, slots := 0, locals := 54 } : Room).cells ({ frames := 4, cells := 0, slots := 0, locals := 54 } : Room).slots) := by
  refine MetFree.of_bodySF (plainFor_of_name pn_9) hisR ?_
  intro p e s m args below meth c s₁ Bd hml0 hP hK
  obtain ⟨rfl, hZ, hh⟩ := hP
  have hx := Bd.exec
  have hby := Bd.bytes
  have hml : c.maxLocals = 4 := hml0
  have hown : s.vm.findClass "com/example/federant/federant/saml/IdpEndpointsUnderPinLaw" = some m.cls := findClass_of_methodNamed Bd.named
  have hnm := (name_of_methodNamed Bd.named Bd.method).1
  have X0 : Stand p l e ({ frames := 4, cells := 0, slots := 0, locals := 54 } : Room) s m #[(.ref a1), (.int p2), (.ref a3), (.int p4)] below meth c s₁ [] 0 0 := Stand.of_body Bd
  have e0 : s₁.heap = h0 := by rw [← hh, Bd.state]; rfl
  have N0 := Fr.nil n0
  have KC : Keep h0 h0 [] := Keep.refl h0 _
  have pre0 : ∀ t, Steps p.tables e below (s₁.setTop (mkF m 0 #[vr a1, vi p2, vr a3, vi p4] [])) t → Steps p.tables e below (s₁.setTop (entryFrame m #[(.ref a1), (.int p2), (.ref a3), (.int p4)] 4)) t := fun t k => castTop (ef_rm_ch m a1 p2 a3 p4) k
  obtain ⟨cq1, kq1, q1a, q1b, q1c⟩ := isOf hZ e0 E_a3
  obtain ⟨_, _, ⟨T1, L1, kz1, nz1⟩, -, X1, ⟨Lc1, hQ1, l1, y1, z1⟩, st1⟩ := X0.virtualBack hx (y := y_1) (z := y_1) hown (mvT hZ (ww hw 182 rfl)) (mvT hZ (ww hw 33 rfl)) (notFace_of_selects (args := #[]) (mvT hZ (ww hw 35 rfl))) (mvT hZ (ww hw 35 rfl)) (mvT hZ (ww hw 34 rfl)) (by decide) (backOf (W := 1) (rm_length l Z a0 hw [] a3 t3 k3 z3 vs3 zc h0 n0 (Nat.le_trans Z0 KC.1) O0 E_a3 F_value_a3 F_coder_a3 V_t3 S_CS hz) hZ (ww hw 36 rfl) (ww hw 3 rfl) (by decide) (by decide)) q1a q1c (g := (mkF m 2 #[vr a1, vi p2, vr a3, vi p4] [(.ref a3), (.int p4)])) rfl (by rw [hml]; rfl) (Steps.refl _) (argsL := []) (rest := [(.int p4)]) (lenOf pd_8 rfl) rfl (by show 2 * 0 + _ ≤ _; exact Nat.le_of_eq rfl) (hb hby d33_2) (fun _ _ => ⟨rfl, e0, (by decide : 0 + 0 ≤ _), (by decide : 0 + 0 ≤ _)⟩)
  dsimp only [Pt.U, Pt.locs, Pt.cells, Pt.slots] at X1 l1 y1 z1 st1 hQ1
  subst l1 y1 z1
  obtain ⟨rfl, N1q, e1⟩ := hQ1
  have N1 := Fr.app N0 N1q
  have pre2 : ∀ t, Steps p.tables e below (T1.setTop (mkF m 5 #[vr a1, vi p2, vr a3, vi p4] [(.int z3), (.int p4)])) t → Steps p.tables e below (s₁.setTop (entryFrame m #[(.ref a1), (.int p2), (.ref a3), (.int p4)] 4)) t := by
    intro t kt
    refine pre0 t ?_
    show SS p e below m s₁ 0 #[vr a1, vi p2, vr a3, vi p4] [] _
    refine XS.iloadN X0.here hx rfl (hb hby d33_0) rfl ?_
    show SS p e below m s₁ 1 #[vr a1, vi p2, vr a3, vi p4] [(.int p4)] _
    refine XS.aloadN X0.here hx rfl (hb hby d33_1) rfl rfl ?_
    show SS p e below m s₁ 2 #[vr a1, vi p2, vr a3, vi p4] [(.ref a3), (.int p4)] _
    refine st1.trans ?_
    exact kt
  by_cases hc5_3 : p4 < z3
  · obtain ⟨hA, hB, u, hU, hV⟩ := hCh hc5_3
    obtain ⟨cq4, kq4, q4a, q4b, q4c⟩ := isOf hZ e1 E_a1
    obtain ⟨_, _, ⟨T4, L4, kz4, nz4⟩, -, X4, ⟨Lc4, hQ4, l4, y4, z4⟩, st4⟩ := X1.virtualBack hx (y := y_6) (z := y_6) hown (mvT hZ (ww hw 189 rfl)) (mvT hZ (ww hw 190 rfl)) (notFace_of_selects (args := #[]) (mvT hZ (ww hw 192 rfl))) (mvT hZ (ww hw 192 rfl)) (mvT hZ (ww hw 191 rfl)) (by decide) (backOf (W := 0) (rm_cha l Z a0 hw [] a1 (p2 + p4) t1 k1 z1 vs1 u zc fm h0 n0 (Nat.le_trans Z0 KC.1) O0 E_a1 F_value_a1 F_coder_a1 V_t1 S_CS hz S_FM hW_fm hA hB hU) hZ (ww hw 193 rfl) (ww hw 3 rfl) (by decide) (by decide)) q4a q4c (g := (mkF m 12 #[vr a1, vi p2, vr a3, vi p4] [(.int (p2 + p4)), (.ref a1)])) rfl (by rw [hml]; rfl) (Steps.refl _) (argsL := [(.int (p2 + p4))]) (rest := []) (lenOf pd_22 rfl) rfl (by show 2 * 0 + _ ≤ _; exact Nat.le_of_eq rfl) (hb hby d33_12) (fun _ _ => ⟨rfl, e1, (by decide : 0 + 0 ≤ _), (by decide : 0 + 0 ≤ _)⟩)
    dsimp only [Pt.U, Pt.locs, Pt.cells, Pt.slots] at X4 l4 y4 z4 st4 hQ4
    subst l4 y4 z4
    obtain ⟨rfl, N4q, e4⟩ := hQ4
    have N4 := Fr.app N1 N4q
    obtain ⟨cq5, kq5, q5a, q5b, q5c⟩ := isOf hZ e4 E_a3
    obtain ⟨_, _, ⟨T5, L5, kz5, nz5⟩, -, X5, ⟨Lc5, hQ5, l5, y5, z5⟩, st5⟩ := X4.virtualBack hx (y := y_6) (z := y_6) hown (mvT hZ (ww hw 189 rfl)) (mvT hZ (ww hw 190 rfl)) (notFace_of_selects (args := #[]) (mvT hZ (ww hw 192 rfl))) (mvT hZ (ww hw 192 rfl)) (mvT hZ (ww hw 191 rfl)) (by decide) (backOf (W := 1) (rm_cha l Z a0 hw [] a3 p4 t3 k3 z3 vs3 u zc fm h0 n0 (Nat.le_trans Z0 KC.1) O0 E_a3 F_value_a3 F_coder_a3 V_t3 S_CS hz S_FM hW_fm hk0 hc5_3 hV) hZ (ww hw 193 rfl) (ww hw 3 rfl) (by decide) (by decide)) q5a q5c (g := (mkF m 17 #[vr a1, vi p2, vr a3, vi p4] [(.int p4), (.ref a3), (.int (u &&& (255 : Int32)))])) rfl (by rw [hml]; rfl) (Steps.refl _) (argsL := [(.int p4)]) (rest := [(.int (u &&& (255 : Int32)))]) (lenOf pd_22 rfl) rfl (by show 2 * 0 + _ ≤ _; exact Nat.le_of_eq rfl) (hb hby d33_17) (fun _ _ => ⟨rfl, e4, (by decide : 0 + 0 ≤ _), (by decide : 0 + 0 ≤ _)⟩)
    dsimp only [Pt.U, Pt.locs, Pt.cells, Pt.slots] at X5 l5 y5 z5 st5 hQ5
    subst l5 y5 z5
    obtain ⟨rfl, N5q, e5⟩ := hQ5
    have N5 := Fr.app N4 N5q
    obtain ⟨fs, hr, hrun, hended, hW, hsame⟩ := X5.leave (v := some (.int (1 : Int32))) (fun h => by rw [Bd.returns] at h; cases h)
    refine ⟨_, _, pre2 _ ?_, hrun, hended, _, _, rfl, ?_, ⟨_, rfl⟩, hW, hsame.mono (by decide) (by decide)⟩
    · show SS p e below m T1 5 #[vr a1, vi p2, vr a3, vi p4] [(.int z3), (.int p4)] _
      refine XS.icmpNo X1.here hx rfl (hb hby d33_5) rfl (tlt hc5_3).2.1 ?_
      show SS p e below m T1 8 #[vr a1, vi p2, vr a3, vi p4] [] _
      refine XS.aloadN X1.here hx rfl (hb hby d33_8) rfl rfl ?_
      show SS p e below m T1 9 #[vr a1, vi p2, vr a3, vi p4] [(.ref a1)] _
      refine XS.iloadN X1.here hx rfl (hb hby d33_9) rfl ?_
      show SS p e below m T1 10 #[vr a1, vi p2, vr a3, vi p4] [(.int p2), (.ref a1)] _
      refine XS.iloadN X1.here hx rfl (hb hby d33_10) rfl ?_
      show SS p e below m T1 11 #[vr a1, vi p2, vr a3, vi p4] [(.int p4), (.int p2), (.ref a1)] _
      refine XS.iadd X1.here hx rfl (hb hby d33_11) rfl ?_
      show SS p e below m T1 12 #[vr a1, vi p2, vr a3, vi p4] [(.int (p2 + p4)), (.ref a1)] _
      refine st4.trans ?_
      show SS p e below m T4 15 #[vr a1, vi p2, vr a3, vi p4] [(.int (u &&& (255 : Int32)))] _
      refine XS.aloadN X4.here hx rfl (hb hby d33_15) rfl rfl ?_
      show SS p e below m T4 16 #[vr a1, vi p2, vr a3, vi p4] [(.ref a3), (.int (u &&& (255 : Int32)))] _
      refine XS.iloadN X4.here hx rfl (hb hby d33_16) rfl ?_
      show SS p e below m T4 17 #[vr a1, vi p2, vr a3, vi p4] [(.int p4), (.ref a3), (.int (u &&& (255 : Int32)))] _
      refine st5.trans ?_
      show SS p e below m T5 20 #[vr a1, vi p2, vr a3, vi p4] [(.int (u &&& (255 : Int32))), (.int (u &&& (255 : Int32)))] _
      refine XS.icmpNo X5.here hx rfl (hb hby d33_20) rfl (teq rfl).2 ?_
      show SS p e below m T5 23 #[vr a1, vi p2, vr a3, vi p4] [] _
      refine XS.iconst X5.here hx rfl (hb hby d33_23) ?_
      show SS p e below m T5 24 #[vr a1, vi p2, vr a3, vi p4] [(.int (1 : Int32))] _
      refine XS.goto X5.here hx rfl (pc0 := 24) (pc' := 28) rfl (hb hby d33_24) (by decide) (by decide) ?_
      show SS p e below m T5 28 #[vr a1, vi p2, vr a3, vi p4] [(.int (1 : Int32))] _
      exact retN X5 hx (t := .boolean) Bd.returns (by simp) (hb hby d33_28) hr
    · show Q_rm_ch Z a1 p2 a3 p4 t1 k1 z1 vs1 t3 k3 z3 vs3 zc fm h0 n0 _ T5.heap _
      rw [e5]
      exact ⟨rfl, N5, rfl⟩
  · obtain ⟨fs, hr, hrun, hended, hW, hsame⟩ := X1.leave (v := some (.int (1 : Int32))) (fun h => by rw [Bd.returns] at h; cases h)
    refine ⟨_, _, pre2 _ ?_, hrun, hended, _, _, rfl, ?_, ⟨_, rfl⟩, hW, hsame.mono (by decide) (by decide)⟩
    · show SS p e below m T1 5 #[vr a1, vi p2, vr a3, vi p4] [(.int z3), (.int p4)] _
      refine XS.icmpYes X1.here hx rfl (pc0 := 5) (pc' := 23) rfl (hb hby d33_5) rfl (flt hc5_3).2.1 (by decide) (by decide) ?_
      show SS p e below m T1 23 #[vr a1, vi p2, vr a3, vi p4] [] _
      refine XS.iconst X1.here hx rfl (hb hby d33_23) ?_
      show SS p e below m T1 24 #[vr a1, vi p2, vr a3, vi p4] [(.int (1 : Int32))] _
      refine XS.goto X1.here hx rfl (pc0 := 24) (pc' := 28) rfl (hb hby d33_24) (by decide) (by decide) ?_
      show SS p e below m T1 28 #[vr a1, vi p2, vr a3, vi p4] [(.int (1 : Int32))] _
      exact retN X1 hx (t := .boolean) Bd.returns (by simp) (hb hby d33_28) hr
    · show Q_rm_ch Z a1 p2 a3 p4 t1 k1 z1 vs1 t3 k3 z3 vs3 zc fm h0 n0 _ T1.heap _
      rw [e1]
      exact ⟨rfl, N1, rfl⟩
theorem pd_23 : parseMethodDescriptor "(Ljava/lang/String;ILjava/lang/String;I)Z" = some ⟨[(.object "java/lang/String"), .int, (.object "java/lang/String"), .int], some .boolean⟩ := by decide +kernel
theorem d32_0 : decode method_4_code 0 = .ok (.aload_n 0, 1) := by decide +kernel
theorem d32_1 : decode method_4_code 1 = .ok (.iload_n 1, 1) := by decide +kernel
theorem d32_2 : decode method_4_code 2 = .ok (.aload_n 2, 1) := by decide +kernel
theorem d32_3 : decode method_4_code 3 = .ok (.iconst 0, 1) := by decide +kernel
theorem d32_4 : decode method_4_code 4 = .ok (.invokestatic 53, 3) := by decide +kernel
theorem d32_7 : decode method_4_code 7 = .ok (.ifCond .eq 90, 3) := by decide +kernel
theorem d32_10 : decode method_4_code 10 = .ok (.aload_n 0, 1) := by decide +kernel
theorem d32_11 : decode method_4_code 11 = .ok (.iload_n 1, 1) := by decide +kernel
theorem d32_12 : decode method_4_code 12 = .ok (.aload_n 2, 1) := by decide +kernel
theorem d32_13 : decode method_4_code 13 = .ok (.iconst 1, 1) := by decide +kernel
theorem d32_14 : decode method_4_code 14 = .ok (.invokestatic 53, 3) := by decide +kernel
theorem d32_17 : decode method_4_code 17 = .ok (.ifCond .eq 80, 3) := by decide +kernel
theorem d32_20 : decode method_4_code 20 = .ok (.aload_n 0, 1) := by decide +kernel
theorem d32_21 : decode method_4_code 21 = .ok (.iload_n 1, 1) := by decide +kernel
theorem d32_22 : decode method_4_code 22 = .ok (.aload_n 2, 1) := by decide +kernel
theorem d32_23 : decode method_4_code 23 = .ok (.iconst 2, 1) := by decide +kernel
theorem d32_24 : decode method_4_code 24 = .ok (.invokestatic 53, 3) := by decide +kernel
theorem d32_27 : decode method_4_code 27 = .ok (.ifCond .eq 70, 3) := by decide +kernel
theorem d32_30 : decode method_4_code 30 = .ok (.aload_n 0, 1) := by decide +kernel
theorem d32_31 : decode method_4_code 31 = .ok (.iload_n 1, 1) := by decide +kernel
theorem d32_32 : decode method_4_code 32 = .ok (.aload_n 2, 1) := by decide +kernel
theorem d32_33 : decode method_4_code 33 = .ok (.iconst 3, 1) := by decide +kernel
theorem d32_34 : decode method_4_code 34 = .ok (.invokestatic 53, 3) := by decide +kernel
theorem d32_37 : decode method_4_code 37 = .ok (.ifCond .eq 60, 3) := by decide +kernel
theorem d32_40 : decode method_4_code 40 = .ok (.aload_n 0, 1) := by decide +kernel
theorem d32_41 : decode method_4_code 41 = .ok (.iload_n 1, 1) := by decide +kernel
theorem d32_42 : decode method_4_code 42 = .ok (.aload_n 2, 1) := by decide +kernel
theorem d32_43 : decode method_4_code 43 = .ok (.iconst 4, 1) := by decide +kernel
theorem d32_44 : decode method_4_code 44 = .ok (.invokestatic 53, 3) := by decide +kernel
theorem d32_47 : decode method_4_code 47 = .ok (.ifCond .eq 50, 3) := by decide +kernel
theorem d32_50 : decode method_4_code 50 = .ok (.aload_n 0, 1) := by decide +kernel
theorem d32_51 : decode method_4_code 51 = .ok (.iload_n 1, 1) := by decide +kernel
theorem d32_52 : decode method_4_code 52 = .ok (.aload_n 2, 1) := by decide +kernel
theorem d32_53 : decode method_4_code 53 = .ok (.iconst 5, 1) := by decide +kernel
theorem d32_54 : decode method_4_code 54 = .ok (.invokestatic 53, 3) := by decide +kernel
theorem d32_57 : decode method_4_code 57 = .ok (.ifCond .eq 40, 3) := by decide +kernel
theorem d32_60 : decode method_4_code 60 = .ok (.aload_n 0, 1) := by decide +kernel
theorem d32_61 : decode method_4_code 61 = .ok (.iload_n 1, 1) := by decide +kernel
theorem d32_62 : decode method_4_code 62 = .ok (.aload_n 2, 1) := by decide +kernel
theorem d32_63 : decode method_4_code 63 = .ok (.bipush 6, 2) := by decide +kernel
theorem d32_65 : decode method_4_code 65 = .ok (.invokestatic 53, 3) := by decide +kernel
theorem d32_68 : decode method_4_code 68 = .ok (.ifCond .eq 29, 3) := by decide +kernel
theorem d32_71 : decode method_4_code 71 = .ok (.aload_n 0, 1) := by decide +kernel
theorem d32_72 : decode method_4_code 72 = .ok (.iload_n 1, 1) := by decide +kernel
theorem d32_73 : decode method_4_code 73 = .ok (.aload_n 2, 1) := by decide +kernel
theorem d32_74 : decode method_4_code 74 = .ok (.bipush 7, 2) := by decide +kernel
theorem d32_76 : decode method_4_code 76 = .ok (.invokestatic 53, 3) := by decide +kernel
theorem d32_79 : decode method_4_code 79 = .ok (.ifCond .eq 18, 3) := by decide +kernel
theorem d32_82 : decode method_4_code 82 = .ok (.aload_n 0, 1) := by decide +kernel
theorem d32_83 : decode method_4_code 83 = .ok (.iload_n 1, 1) := by decide +kernel
theorem d32_84 : decode method_4_code 84 = .ok (.aload_n 2, 1) := by decide +kernel
theorem d32_85 : decode method_4_code 85 = .ok (.bipush 8, 2) := by decide +kernel
theorem d32_87 : decode method_4_code 87 = .ok (.invokestatic 53, 3) := by decide +kernel
theorem d32_90 : decode method_4_code 90 = .ok (.ifCond .eq 7, 3) := by decide +kernel
theorem d32_93 : decode method_4_code 93 = .ok (.iconst 1, 1) := by decide +kernel
theorem d32_94 : decode method_4_code 94 = .ok (.goto 4, 3) := by decide +kernel
theorem d32_98 : decode method_4_code 98 = .ok (.ireturn, 1) := by decide +kernel
theorem ef_rm_has (m : MethodId) (x0 : Addr) (x1 : Int32) (x2 : Addr) : entryFrame m #[(.ref x0), (.int x1), (.ref x2)] 3 = mkF m 0 #[vr x0, vi x1, vr x2] [] := by first | (simp [entryFrame, mkF, argsToLocals, Value.category]; done) | rfl
def Q_rm_has (Z : State) (a1 : Addr) (p2 : Int32) (a3 : Addr) (t1 : Addr) (k1 : ClassId) (z1 : Int32) (vs1 : List Value) (t3 : Addr) (k3 : ClassId) (z3 : Int32) (vs3 : List Value) (zc : Int32) (fm : Value) (h0 : Heap) (n0 : Nat) (v : Option Value) (h : Heap) (L : List Loc) : Prop := (v = some (.int (1 : Int32))) ∧ (Fr n0 L) ∧ (h = h0)
set_option maxRecDepth 65536 in
set_option maxHeartbeats 40000000 in
theorem rm_has (l : Launch) (Z : State) (a0 : Array Value) (hw : ∀ d ∈ tables_1, d.before a0 Z = true) (ws : List Jvm.Cond) (a1 : Addr) (p2 : Int32) (a3 : Addr) (t1 : Addr) (k1 : ClassId) (z1 : Int32) (vs1 : List Value) (t3 : Addr) (k3 : ClassId) (z3 : Int32) (vs3 : List Value) (zc : Int32) (fm : Value) (h0 : Heap) (n0 : Nat) (Z0 : n0 ≤ h0.size) (O0 : Old Z n0 h0) (E_a1 : Exa Z h0 a1 "java/lang/String") (F_value_a1 : Fld Z h0 a1 "java/lang/String" "value" "[B" (.ref t1)) (F_coder_a1 : Fld Z h0 a1 "java/lang/String" "coder" "B" (.int (0 : Int32))) (V_t1 : Arv Z h0 t1 k1 .byte z1 vs1 (.int (0 : Int32))) (E_a3 : Exa Z h0 a3 "java/lang/String") (F_value_a3 : Fld Z h0 a3 "java/lang/String" "value" "[B" (.ref t3)) (F_coder_a3 : Fld Z h0 a3 "java/lang/String" "coder" "B" (.int (0 : Int32))) (V_t3 : Arv Z h0 t3 k3 .byte z3 vs3 (.int (0 : Int32))) (S_CS : Sta Z Z.heap "java/lang/String" "COMPACT_STRINGS" "Z" (.int zc)) (hz : ¬ zc = (0 : Int32)) (S_FM : Sta Z Z.heap "jdk/internal/util/Preconditions" "SIOOBE_FORMATTER" "Ljava/util/function/BiFunction;" fm) (hW_fm : fm.isRef = true) (hH : ∀ kk : Int32, ¬ kk < (0 : Int32) → kk < z3 → ¬ (p2 + kk) < (0 : Int32) ∧ (p2 + kk) < z1 ∧ ∃ u : Int32, vs1.getD (p2 + kk).toNatClampNeg (.int (0 : Int32)) = .int u ∧ vs3.getD kk.toNatClampNeg (.int (0 : Int32)) = .int u) :
    MetFree l y_36 (head1 (Jvm.Cond.code y_36 method_4_code 3 (some .boolean) :: ws) ({ frames := 5, cells := 0, slots := 0, locals := 69 } : Room)) (fun a U => a = #[(.ref a1), (.int p2), (.ref a3)] ∧ Z.Warmed39 U.vm ∧ U.heap = h0) (fun _ _ _ _ _ => True) (fun _ U o U' => ∃ v L, o = .returned v ∧ Q_rm_has Z a1 p2 a3 t1 k1 z1 vs1 t3 k3 z3 vs3 zc fm h0 n0 v U'.heap L ∧ FrameEnd U o U' L ({ frames := 5, cells := 0, slots := 0, locals := 69 } : Room).cells ({ frames := 5, cells := 0, slots := 0, locals := 69 } : Room).slots) := by
  refine MetFree.of_bodySF (plainFor_of_name pn_9) hisR ?_
  intro p e s m args below meth c s₁ Bd hml0 hP hK
  obtain ⟨rfl, hZ, hh⟩ := hP
  have hx := Bd.exec
  have hby := Bd.bytes
  have hml : c.maxLocals = 3 := hml0
  have hown : s.vm.findClass "com/example/federant/federant/saml/IdpEndpointsUnderPinLaw" = some m.cls := findClass_of_methodNamed Bd.named
  have hnm := (name_of_methodNamed Bd.named Bd.method).1
  have X0 : Stand p l e ({ frames := 5, cells := 0, slots := 0, locals := 69 } : Room) s m #[(.ref a1), (.int p2), (.ref a3)] below meth c s₁ [] 0 0 := Stand.of_body Bd
  have e0 : s₁.heap = h0 := by rw [← hh, Bd.state]; rfl
  have N0 := Fr.nil n0
  have KC : Keep h0 h0 [] := Keep.refl h0 _
  have pre0 : ∀ t, Steps p.tables e below (s₁.setTop (mkF m 0 #[vr a1, vi p2, vr a3] [])) t → Steps p.tables e below (s₁.setTop (entryFrame m #[(.ref a1), (.int p2), (.ref a3)] 3)) t := fun t k => castTop (ef_rm_has m a1 p2 a3) k
  obtain ⟨_, _, ⟨T1, L1, kz1, nz1⟩, -, X1, ⟨Lc1, hQ1, l1, y1, z1⟩, st1⟩ := Jvm.LawKit.callS X0 hx (y := y_35) hown (mvT hZ (ww hw 186 rfl)) (mvT hZ (ww hw 187 rfl)) (mvT hZ (ww hw 180 rfl)) (mvT hZ (ww hw 188 rfl)) (by decide) (backOf (W := 0) (rm_ch l Z a0 hw [] a1 p2 a3 (0 : Int32) t1 k1 z1 vs1 t3 k3 z3 vs3 zc fm h0 n0 (Nat.le_trans Z0 KC.1) O0 E_a1 F_value_a1 F_coder_a1 V_t1 E_a3 F_value_a3 F_coder_a3 V_t3 S_CS hz S_FM hW_fm (by decide) (hH (0 : Int32) (by decide))) hZ (ww hw 188 rfl) (ww hw 180 rfl) (by decide) (by decide)) (g := (mkF m 4 #[vr a1, vi p2, vr a3] [(.int (0 : Int32)), (.ref a3), (.int p2), (.ref a1)])) rfl (by rw [hml]; rfl) (argsL := [(.ref a1), (.int p2), (.ref a3), (.int (0 : Int32))]) (rest := []) (lenOf pd_23 rfl) rfl (by show 2 * 0 + _ ≤ _; exact Nat.le_of_eq rfl) (hb hby d32_4) (fun _ _ => ⟨rfl, e0, (by decide : 0 + 0 ≤ _), (by decide : 0 + 0 ≤ _)⟩)
  dsimp only [Pt.U, Pt.locs, Pt.cells, Pt.slots] at X1 l1 y1 z1 st1 hQ1
  subst l1 y1 z1
  obtain ⟨rfl, N1q, e1⟩ := hQ1
  have N1 := Fr.app N0 N1q
  obtain ⟨_, _, ⟨T2, L2, kz2, nz2⟩, -, X2, ⟨Lc2, hQ2, l2, y2, z2⟩, st2⟩ := Jvm.LawKit.callS X1 hx (y := y_35) hown (mvT hZ (ww hw 186 rfl)) (mvT hZ (ww hw 187 rfl)) (mvT hZ (ww hw 180 rfl)) (mvT hZ (ww hw 188 rfl)) (by decide) (backOf (W := 0) (rm_ch l Z a0 hw [] a1 p2 a3 (1 : Int32) t1 k1 z1 vs1 t3 k3 z3 vs3 zc fm h0 n0 (Nat.le_trans Z0 KC.1) O0 E_a1 F_value_a1 F_coder_a1 V_t1 E_a3 F_value_a3 F_coder_a3 V_t3 S_CS hz S_FM hW_fm (by decide) (hH (1 : Int32) (by decide))) hZ (ww hw 188 rfl) (ww hw 180 rfl) (by decide) (by decide)) (g := (mkF m 14 #[vr a1, vi p2, vr a3] [(.int (1 : Int32)), (.ref a3), (.int p2), (.ref a1)])) rfl (by rw [hml]; rfl) (argsL := [(.ref a1), (.int p2), (.ref a3), (.int (1 : Int32))]) (rest := []) (lenOf pd_23 rfl) rfl (by show 2 * 0 + _ ≤ _; exact Nat.le_of_eq rfl) (hb hby d32_14) (fun _ _ => ⟨rfl, e1, (by decide : 0 + 0 ≤ _), (by decide : 0 + 0 ≤ _)⟩)
  dsimp only [Pt.U, Pt.locs, Pt.cells, Pt.slots] at X2 l2 y2 z2 st2 hQ2
  subst l2 y2 z2
  obtain ⟨rfl, N2q, e2⟩ := hQ2
  have N2 := Fr.app N1 N2q
  obtain ⟨_, _, ⟨T3, L3, kz3, nz3⟩, -, X3, ⟨Lc3, hQ3, l3, y3, z3⟩, st3⟩ := Jvm.LawKit.callS X2 hx (y := y_35) hown (mvT hZ (ww hw 186 rfl)) (mvT hZ (ww hw 187 rfl)) (mvT hZ (ww hw 180 rfl)) (mvT hZ (ww hw 188 rfl)) (by decide) (backOf (W := 0) (rm_ch l Z a0 hw [] a1 p2 a3 (2 : Int32) t1 k1 z1 vs1 t3 k3 z3 vs3 zc fm h0 n0 (Nat.le_trans Z0 KC.1) O0 E_a1 F_value_a1 F_coder_a1 V_t1 E_a3 F_value_a3 F_coder_a3 V_t3 S_CS hz S_FM hW_fm (by decide) (hH (2 : Int32) (by decide))) hZ (ww hw 188 rfl) (ww hw 180 rfl) (by decide) (by decide)) (g := (mkF m 24 #[vr a1, vi p2, vr a3] [(.int (2 : Int32)), (.ref a3), (.int p2), (.ref a1)])) rfl (by rw [hml]; rfl) (argsL := [(.ref a1), (.int p2), (.ref a3), (.int (2 : Int32))]) (rest := []) (lenOf pd_23 rfl) rfl (by show 2 * 0 + _ ≤ _; exact Nat.le_of_eq rfl) (hb hby d32_24) (fun _ _ => ⟨rfl, e2, (by decide : 0 + 0 ≤ _), (by decide : 0 + 0 ≤ _)⟩)
  dsimp only [Pt.U, Pt.locs, Pt.cells, Pt.slots] at X3 l3 y3 z3 st3 hQ3
  subst l3 y3 z3
  obtain ⟨rfl, N3q, e3⟩ := hQ3
  have N3 := Fr.app N2 N3q
  obtain ⟨_, _, ⟨T4, L4, kz4, nz4⟩, -, X4, ⟨Lc4, hQ4, l4, y4, z4⟩, st4⟩ := Jvm.LawKit.callS X3 hx (y := y_35) hown (mvT hZ (ww hw 186 rfl)) (mvT hZ (ww hw 187 rfl)) (mvT hZ (ww hw 180 rfl)) (mvT hZ (ww hw 188 rfl)) (by decide) (backOf (W := 0) (rm_ch l Z a0 hw [] a1 p2 a3 (3 : Int32) t1 k1 z1 vs1 t3 k3 z3 vs3 zc fm h0 n0 (Nat.le_trans Z0 KC.1) O0 E_a1 F_value_a1 F_coder_a1 V_t1 E_a3 F_value_a3 F_coder_a3 V_t3 S_CS hz S_FM hW_fm (by decide) (hH (3 : Int32) (by decide))) hZ (ww hw 188 rfl) (ww hw 180 rfl) (by decide) (by decide)) (g := (mkF m 34 #[vr a1, vi p2, vr a3] [(.int (3 : Int32)), (.ref a3), (.int p2), (.ref a1)])) rfl (by rw [hml]; rfl) (argsL := [(.ref a1), (.int p2), (.ref a3), (.int (3 : Int32))]) (rest := []) (lenOf pd_23 rfl) rfl (by show 2 * 0 + _ ≤ _; exact Nat.le_of_eq rfl) (hb hby d32_34) (fun _ _ => ⟨rfl, e3, (by decide : 0 + 0 ≤ _), (by decide : 0 + 0 ≤ _)⟩)
  dsimp only [Pt.U, Pt.locs, Pt.cells, Pt.slots] at X4 l4 y4 z4 st4 hQ4
  subst l4 y4 z4
  obtain ⟨rfl, N4q, e4⟩ := hQ4
  have N4 := Fr.app N3 N4q
  obtain ⟨_, _, ⟨T5, L5, kz5, nz5⟩, -, X5, ⟨Lc5, hQ5, l5, y5, z5⟩, st5⟩ := Jvm.LawKit.callS X4 hx (y := y_35) hown (mvT hZ (ww hw 186 rfl)) (mvT hZ (ww hw 187 rfl)) (mvT hZ (ww hw 180 rfl)) (mvT hZ (ww hw 188 rfl)) (by decide) (backOf (W := 0) (rm_ch l Z a0 hw [] a1 p2 a3 (4 : Int32) t1 k1 z1 vs1 t3 k3 z3 vs3 zc fm h0 n0 (Nat.le_trans Z0 KC.1) O0 E_a1 F_value_a1 F_coder_a1 V_t1 E_a3 F_value_a3 F_coder_a3 V_t3 S_CS hz S_FM hW_fm (by decide) (hH (4 : Int32) (by decide))) hZ (ww hw 188 rfl) (ww hw 180 rfl) (by decide) (by decide)) (g := (mkF m 44 #[vr a1, vi p2, vr a3] [(.int (4 : Int32)), (.ref a3), (.int p2), (.ref a1)])) rfl (by rw [hml]; rfl) (argsL := [(.ref a1), (.int p2), (.ref a3), (.int (4 : Int32))]) (rest := []) (lenOf pd_23 rfl) rfl (by show 2 * 0 + _ ≤ _; exact Nat.le_of_eq rfl) (hb hby d32_44) (fun _ _ => ⟨rfl, e4, (by decide : 0 + 0 ≤ _), (by decide : 0 + 0 ≤ _)⟩)
  dsimp only [Pt.U, Pt.locs, Pt.cells, Pt.slots] at X5 l5 y5 z5 st5 hQ5
  subst l5 y5 z5
  obtain ⟨rfl, N5q, e5⟩ := hQ5
  have N5 := Fr.app N4 N5q
  obtain ⟨_, _, ⟨T6, L6, kz6, nz6⟩, -, X6, ⟨Lc6, hQ6, l6, y6, z6⟩, st6⟩ := Jvm.LawKit.callS X5 hx (y := y_35) hown (mvT hZ (ww hw 186 rfl)) (mvT hZ (ww hw 187 rfl)) (mvT hZ (ww hw 180 rfl)) (mvT hZ (ww hw 188 rfl)) (by decide) (backOf (W := 0) (rm_ch l Z a0 hw [] a1 p2 a3 (5 : Int32) t1 k1 z1 vs1 t3 k3 z3 vs3 zc fm h0 n0 (Nat.le_trans Z0 KC.1) O0 E_a1 F_value_a1 F_coder_a1 V_t1 E_a3 F_value_a3 F_coder_a3 V_t3 S_CS hz S_FM hW_fm (by decide) (hH (5 : Int32) (by decide))) hZ (ww hw 188 rfl) (ww hw 180 rfl) (by decide) (by decide)) (g := (mkF m 54 #[vr a1, vi p2, vr a3] [(.int (5 : Int32)), (.ref a3), (.int p2), (.ref a1)])) rfl (by rw [hml]; rfl) (argsL := [(.ref a1), (.int p2), (.ref a3), (.int (5 : Int32))]) (rest := []) (lenOf pd_23 rfl) rfl (by show 2 * 0 + _ ≤ _; exact Nat.le_of_eq rfl) (hb hby d32_54) (fun _ _ => ⟨rfl, e5, (by decide : 0 + 0 ≤ _), (by decide : 0 + 0 ≤ _)⟩)
  dsimp only [Pt.U, Pt.locs, Pt.cells, Pt.slots] at X6 l6 y6 z6 st6 hQ6
  subst l6 y6 z6
  obtain ⟨rfl, N6q, e6⟩ := hQ6
  have N6 := Fr.app N5 N6q
  obtain ⟨_, _, ⟨T7, L7, kz7, nz7⟩, -, X7, ⟨Lc7, hQ7, l7, y7, z7⟩, st7⟩ := Jvm.LawKit.callS X6 hx (y := y_35) hown (mvT hZ (ww hw 186 rfl)) (mvT hZ (ww hw 187 rfl)) (mvT hZ (ww hw 180 rfl)) (mvT hZ (ww hw 188 rfl)) (by decide) (backOf (W := 0) (rm_ch l Z a0 hw [] a1 p2 a3 (6 : Int32) t1 k1 z1 vs1 t3 k3 z3 vs3 zc fm h0 n0 (Nat.le_trans Z0 KC.1) O0 E_a1 F_value_a1 F_coder_a1 V_t1 E_a3 F_value_a3 F_coder_a3 V_t3 S_CS hz S_FM hW_fm (by decide) (hH (6 : Int32) (by decide))) hZ (ww hw 188 rfl) (ww hw 180 rfl) (by decide) (by decide)) (g := (mkF m 65 #[vr a1, vi p2, vr a3] [(.int (6 : Int32)), (.ref a3), (.int p2), (.ref a1)])) rfl (by rw [hml]; rfl) (argsL := [(.ref a1), (.int p2), (.ref a3), (.int (6 : Int32))]) (rest := []) (lenOf pd_23 rfl) rfl (by show 2 * 0 + _ ≤ _; exact Nat.le_of_eq rfl) (hb hby d32_65) (fun _ _ => ⟨rfl, e6, (by decide : 0 + 0 ≤ _), (by decide : 0 + 0 ≤ _)⟩)
  dsimp only [Pt.U, Pt.locs, Pt.cells, Pt.slots] at X7 l7 y7 z7 st7 hQ7
  subst l7 y7 z7
  obtain ⟨rfl, N7q, e7⟩ := hQ7
  have N7 := Fr.app N6 N7q
  obtain ⟨_, _, ⟨T8, L8, kz8, nz8⟩, -, X8, ⟨Lc8, hQ8, l8, y8, z8⟩, st8⟩ := Jvm.LawKit.callS X7 hx (y := y_35) hown (mvT hZ (ww hw 186 rfl)) (mvT hZ (ww hw 187 rfl)) (mvT hZ (ww hw 180 rfl)) (mvT hZ (ww hw 188 rfl)) (by decide) (backOf (W := 0) (rm_ch l Z a0 hw [] a1 p2 a3 (7 : Int32) t1 k1 z1 vs1 t3 k3 z3 vs3 zc fm h0 n0 (Nat.le_trans Z0 KC.1) O0 E_a1 F_value_a1 F_coder_a1 V_t1 E_a3 F_value_a3 F_coder_a3 V_t3 S_CS hz S_FM hW_fm (by decide) (hH (7 : Int32) (by decide))) hZ (ww hw 188 rfl) (ww hw 180 rfl) (by decide) (by decide)) (g := (mkF m 76 #[vr a1, vi p2, vr a3] [(.int (7 : Int32)), (.ref a3), (.int p2), (.ref a1)])) rfl (by rw [hml]; rfl) (argsL := [(.ref a1), (.int p2), (.ref a3), (.int (7 : Int32))]) (rest := []) (lenOf pd_23 rfl) rfl (by show 2 * 0 + _ ≤ _; exact Nat.le_of_eq rfl) (hb hby d32_76) (fun _ _ => ⟨rfl, e7, (by decide : 0 + 0 ≤ _), (by decide : 0 + 0 ≤ _)⟩)
  dsimp only [Pt.U, Pt.locs, Pt.cells, Pt.slots] at X8 l8 y8 z8 st8 hQ8
  subst l8 y8 z8
  obtain ⟨rfl, N8q, e8⟩ := hQ8
  have N8 := Fr.app N7 N8q
  obtain ⟨_, _, ⟨T9, L9, kz9, nz9⟩, -, X9, ⟨Lc9, hQ9, l9, y9, z9⟩, st9⟩ := Jvm.LawKit.callS X8 hx (y := y_35) hown (mvT hZ (ww hw 186 rfl)) (mvT hZ (ww hw 187 rfl)) (mvT hZ (ww hw 180 rfl)) (mvT hZ (ww hw 188 rfl)) (by decide) (backOf (W := 0) (rm_ch l Z a0 hw [] a1 p2 a3 (8 : Int32) t1 k1 z1 vs1 t3 k3 z3 vs3 zc fm h0 n0 (Nat.le_trans Z0 KC.1) O0 E_a1 F_value_a1 F_coder_a1 V_t1 E_a3 F_value_a3 F_coder_a3 V_t3 S_CS hz S_FM hW_fm (by decide) (hH (8 : Int32) (by decide))) hZ (ww hw 188 rfl) (ww hw 180 rfl) (by decide) (by decide)) (g := (mkF m 87 #[vr a1, vi p2, vr a3] [(.int (8 : Int32)), (.ref a3), (.int p2), (.ref a1)])) rfl (by rw [hml]; rfl) (argsL := [(.ref a1), (.int p2), (.ref a3), (.int (8 : Int32))]) (rest := []) (lenOf pd_23 rfl) rfl (by show 2 * 0 + _ ≤ _; exact Nat.le_of_eq rfl) (hb hby d32_87) (fun _ _ => ⟨rfl, e8, (by decide : 0 + 0 ≤ _), (by decide : 0 + 0 ≤ _)⟩)
  dsimp only [Pt.U, Pt.locs, Pt.cells, Pt.slots] at X9 l9 y9 z9 st9 hQ9
  subst l9 y9 z9
  obtain ⟨rfl, N9q, e9⟩ := hQ9
  have N9 := Fr.app N8 N9q
  obtain ⟨fs, hr, hrun, hended, hW, hsame⟩ := X9.leave (v := some (.int (1 : Int32))) (fun h => by rw [Bd.returns] at h; cases h)
  refine ⟨_, _, pre0 _ ?_, hrun, hended, _, _, rfl, ?_, ⟨_, rfl⟩, hW, hsame.mono (by decide) (by decide)⟩
  · show SS p e below m s₁ 0 #[vr a1, vi p2, vr a3] [] _
    refine XS.aloadN X0.here hx rfl (hb hby d32_0) rfl rfl ?_
    show SS p e below m s₁ 1 #[vr a1, vi p2, vr a3] [(.ref a1)] _
    refine XS.iloadN X0.here hx rfl (hb hby d32_1) rfl ?_
    show SS p e below m s₁ 2 #[vr a1, vi p2, vr a3] [(.int p2), (.ref a1)] _
    refine XS.aloadN X0.here hx rfl (hb hby d32_2) rfl rfl ?_
    show SS p e below m s₁ 3 #[vr a1, vi p2, vr a3] [(.ref a3), (.int p2), (.ref a1)] _
    refine XS.iconst X0.here hx rfl (hb hby d32_3) ?_
    show SS p e below m s₁ 4 #[vr a1, vi p2, vr a3] [(.int (0 : Int32)), (.ref a3), (.int p2), (.ref a1)] _
    refine st1 _ ?_
    show SS p e below m T1 7 #[vr a1, vi p2, vr a3] [(.int (1 : Int32))] _
    refine XS.ifNo X1.here hx rfl (hb hby d32_7) rfl ((if0 _ _).trans (feq (by decide)).1) ?_
    show SS p e below m T1 10 #[vr a1, vi p2, vr a3] [] _
    refine XS.aloadN X1.here hx rfl (hb hby d32_10) rfl rfl ?_
    show SS p e below m T1 11 #[vr a1, vi p2, vr a3] [(.ref a1)] _
    refine XS.iloadN X1.here hx rfl (hb hby d32_11) rfl ?_
    show SS p e below m T1 12 #[vr a1, vi p2, vr a3] [(.int p2), (.ref a1)] _
    refine XS.aloadN X1.here hx rfl (hb hby d32_12) rfl rfl ?_
    show SS p e below m T1 13 #[vr a1, vi p2, vr a3] [(.ref a3), (.int p2), (.ref a1)] _
    refine XS.iconst X1.here hx rfl (hb hby d32_13) ?_
    show SS p e below m T1 14 #[vr a1, vi p2, vr a3] [(.int (1 : Int32)), (.ref a3), (.int p2), (.ref a1)] _
    refine st2 _ ?_
    show SS p e below m T2 17 #[vr a1, vi p2, vr a3] [(.int (1 : Int32))] _
    refine XS.ifNo X2.here hx rfl (hb hby d32_17) rfl ((if0 _ _).trans (feq (by decide)).1) ?_
    show SS p e below m T2 20 #[vr a1, vi p2, vr a3] [] _
    refine XS.aloadN X2.here hx rfl (hb hby d32_20) rfl rfl ?_
    show SS p e below m T2 21 #[vr a1, vi p2, vr a3] [(.ref a1)] _
    refine XS.iloadN X2.here hx rfl (hb hby d32_21) rfl ?_
    show SS p e below m T2 22 #[vr a1, vi p2, vr a3] [(.int p2), (.ref a1)] _
    refine XS.aloadN X2.here hx rfl (hb hby d32_22) rfl rfl ?_
    show SS p e below m T2 23 #[vr a1, vi p2, vr a3] [(.ref a3), (.int p2), (.ref a1)] _
    refine XS.iconst X2.here hx rfl (hb hby d32_23) ?_
    show SS p e below m T2 24 #[vr a1, vi p2, vr a3] [(.int (2 : Int32)), (.ref a3), (.int p2), (.ref a1)] _
    refine st3 _ ?_
    show SS p e below m T3 27 #[vr a1, vi p2, vr a3] [(.int (1 : Int32))] _
    refine XS.ifNo X3.here hx rfl (hb hby d32_27) rfl ((if0 _ _).trans (feq (by decide)).1) ?_
    show SS p e below m T3 30 #[vr a1, vi p2, vr a3] [] _
    refine XS.aloadN X3.here hx rfl (hb hby d32_30) rfl rfl ?_
    show SS p e below m T3 31 #[vr a1, vi p2, vr a3] [(.ref a1)] _
    refine XS.iloadN X3.here hx rfl (hb hby d32_31) rfl ?_
    show SS p e below m T3 32 #[vr a1, vi p2, vr a3] [(.int p2), (.ref a1)] _
    refine XS.aloadN X3.here hx rfl (hb hby d32_32) rfl rfl ?_
    show SS p e below m T3 33 #[vr a1, vi p2, vr a3] [(.ref a3), (.int p2), (.ref a1)] _
    refine XS.iconst X3.here hx rfl (hb hby d32_33) ?_
    show SS p e below m T3 34 #[vr a1, vi p2, vr a3] [(.int (3 : Int32)), (.ref a3), (.int p2), (.ref a1)] _
    refine st4 _ ?_
    show SS p e below m T4 37 #[vr a1, vi p2, vr a3] [(.int (1 : Int32))] _
    refine XS.ifNo X4.here hx rfl (hb hby d32_37) rfl ((if0 _ _).trans (feq (by decide)).1) ?_
    show SS p e below m T4 40 #[vr a1, vi p2, vr a3] [] _
    refine XS.aloadN X4.here hx rfl (hb hby d32_40) rfl rfl ?_
    show SS p e below m T4 41 #[vr a1, vi p2, vr a3] [(.ref a1)] _
    refine XS.iloadN X4.here hx rfl (hb hby d32_41) rfl ?_
    show SS p e below m T4 42 #[vr a1, vi p2, vr a3] [(.int p2), (.ref a1)] _
    refine XS.aloadN X4.here hx rfl (hb hby d32_42) rfl rfl ?_
    show SS p e below m T4 43 #[vr a1, vi p2, vr a3] [(.ref a3), (.int p2), (.ref a1)] _
    refine XS.iconst X4.here hx rfl (hb hby d32_43) ?_
    show SS p e below m T4 44 #[vr a1, vi p2, vr a3] [(.int (4 : Int32)), (.ref a3), (.int p2), (.ref a1)] _
    refine st5 _ ?_
    show SS p e below m T5 47 #[vr a1, vi p2, vr a3] [(.int (1 : Int32))] _
    refine XS.ifNo X5.here hx rfl (hb hby d32_47) rfl ((if0 _ _).trans (feq (by decide)).1) ?_
    show SS p e below m T5 50 #[vr a1, vi p2, vr a3] [] _
    refine XS.aloadN X5.here hx rfl (hb hby d32_50) rfl rfl ?_
    show SS p e below m T5 51 #[vr a1, vi p2, vr a3] [(.ref a1)] _
    refine XS.iloadN X5.here hx rfl (hb hby d32_51) rfl ?_
    show SS p e below m T5 52 #[vr a1, vi p2, vr a3] [(.int p2), (.ref a1)] _
    refine XS.aloadN X5.here hx rfl (hb hby d32_52) rfl rfl ?_
    show SS p e below m T5 53 #[vr a1, vi p2, vr a3] [(.ref a3), (.int p2), (.ref a1)] _
    refine XS.iconst X5.here hx rfl (hb hby d32_53) ?_
    show SS p e below m T5 54 #[vr a1, vi p2, vr a3] [(.int (5 : Int32)), (.ref a3), (.int p2), (.ref a1)] _
    refine st6 _ ?_
    show SS p e below m T6 57 #[vr a1, vi p2, vr a3] [(.int (1 : Int32))] _
    refine XS.ifNo X6.here hx rfl (hb hby d32_57) rfl ((if0 _ _).trans (feq (by decide)).1) ?_
    show SS p e below m T6 60 #[vr a1, vi p2, vr a3] [] _
    refine XS.aloadN X6.here hx rfl (hb hby d32_60) rfl rfl ?_
    show SS p e below m T6 61 #[vr a1, vi p2, vr a3] [(.ref a1)] _
    refine XS.iloadN X6.here hx rfl (hb hby d32_61) rfl ?_
    show SS p e below m T6 62 #[vr a1, vi p2, vr a3] [(.int p2), (.ref a1)] _
    refine XS.aloadN X6.here hx rfl (hb hby d32_62) rfl rfl ?_
    show SS p e below m T6 63 #[vr a1, vi p2, vr a3] [(.ref a3), (.int p2), (.ref a1)] _
    refine XS.bipush X6.here hx rfl (hb hby d32_63) ?_
    show SS p e below m T6 65 #[vr a1, vi p2, vr a3] [(.int (6 : Int32)), (.ref a3), (.int p2), (.ref a1)] _
    refine st7 _ ?_
    show SS p e below m T7 68 #[vr a1, vi p2, vr a3] [(.int (1 : Int32))] _
    refine XS.ifNo X7.here hx rfl (hb hby d32_68) rfl ((if0 _ _).trans (feq (by decide)).1) ?_
    show SS p e below m T7 71 #[vr a1, vi p2, vr a3] [] _
    refine XS.aloadN X7.here hx rfl (hb hby d32_71) rfl rfl ?_
    show SS p e below m T7 72 #[vr a1, vi p2, vr a3] [(.ref a1)] _
    refine XS.iloadN X7.here hx rfl (hb hby d32_72) rfl ?_
    show SS p e below m T7 73 #[vr a1, vi p2, vr a3] [(.int p2), (.ref a1)] _
    refine XS.aloadN X7.here hx rfl (hb hby d32_73) rfl rfl ?_
    show SS p e below m T7 74 #[vr a1, vi p2, vr a3] [(.ref a3), (.int p2), (.ref a1)] _
    refine XS.bipush X7.here hx rfl (hb hby d32_74) ?_
    show SS p e below m T7 76 #[vr a1, vi p2, vr a3] [(.int (7 : Int32)), (.ref a3), (.int p2), (.ref a1)] _
    refine st8 _ ?_
    show SS p e below m T8 79 #[vr a1, vi p2, vr a3] [(.int (1 : Int32))] _
    refine XS.ifNo X8.here hx rfl (hb hby d32_79) rfl ((if0 _ _).trans (feq (by decide)).1) ?_
    show SS p e below m T8 82 #[vr a1, vi p2, vr a3] [] _
    refine XS.aloadN X8.here hx rfl (hb hby d32_82) rfl rfl ?_
    show SS p e below m T8 83 #[vr a1, vi p2, vr a3] [(.ref a1)] _
    refine XS.iloadN X8.here hx rfl (hb hby d32_83) rfl ?_
    show SS p e below m T8 84 #[vr a1, vi p2, vr a3] [(.int p2), (.ref a1)] _
    refine XS.aloadN X8.here hx rfl (hb hby d32_84) rfl rfl ?_
    show SS p e below m T8 85 #[vr a1, vi p2, vr a3] [(.ref a3), (.int p2), (.ref a1)] _
    refine XS.bipush X8.here hx rfl (hb hby d32_85) ?_
    show SS p e below m T8 87 #[vr a1, vi p2, vr a3] [(.int (8 : Int32)), (.ref a3), (.int p2), (.ref a1)] _
    refine st9 _ ?_
    show SS p e below m T9 90 #[vr a1, vi p2, vr a3] [(.int (1 : Int32))] _
    refine XS.ifNo X9.here hx rfl (hb hby d32_90) rfl ((if0 _ _).trans (feq (by decide)).1) ?_
    show SS p e below m T9 93 #[vr a1, vi p2, vr a3] [] _
    refine XS.iconst X9.here hx rfl (hb hby d32_93) ?_
    show SS p e below m T9 94 #[vr a1, vi p2, vr a3] [(.int (1 : Int32))] _
    refine XS.goto X9.here hx rfl (pc0 := 94) (pc' := 98) rfl (hb hby d32_94) (by decide) (by decide) ?_
    show SS p e below m T9 98 #[vr a1, vi p2, vr a3] [(.int (1 : Int32))] _
    exact retN X9 hx (t := .boolean) Bd.returns (by simp) (hb hby d32_98) hr
  · show Q_rm_has Z a1 p2 a3 t1 k1 z1 vs1 t3 k3 z3 vs3 zc fm h0 n0 _ T9.heap _
    rw [e9]
    exact ⟨rfl, N9, rfl⟩
theorem pd_24 : parseMethodDescriptor "(Ljava/lang/String;ILjava/lang/String;)Z" = some ⟨[(.object "java/lang/String"), .int, (.object "java/lang/String")], some .boolean⟩ := by decide +kernel
theorem d31_0 : decode method_3_code 0 = .ok (.aload_n 0, 1) := by decide +kernel
theorem d31_1 : decode method_3_code 1 = .ok (.ifnull 44, 3) := by decide +kernel
theorem d31_4 : decode method_3_code 4 = .ok (.aload_n 0, 1) := by decide +kernel
theorem d31_5 : decode method_3_code 5 = .ok (.invokevirtual 45, 3) := by decide +kernel
theorem d31_8 : decode method_3_code 8 = .ok (.aload_n 1, 1) := by decide +kernel
theorem d31_9 : decode method_3_code 9 = .ok (.invokevirtual 45, 3) := by decide +kernel
theorem d31_12 : decode method_3_code 12 = .ok (.aload_n 2, 1) := by decide +kernel
theorem d31_13 : decode method_3_code 13 = .ok (.invokevirtual 45, 3) := by decide +kernel
theorem d31_16 : decode method_3_code 16 = .ok (.iadd, 1) := by decide +kernel
theorem d31_17 : decode method_3_code 17 = .ok (.if_icmp .ne 28, 3) := by decide +kernel
theorem d31_20 : decode method_3_code 20 = .ok (.aload_n 0, 1) := by decide +kernel
theorem d31_21 : decode method_3_code 21 = .ok (.iconst 0, 1) := by decide +kernel
theorem d31_22 : decode method_3_code 22 = .ok (.aload_n 1, 1) := by decide +kernel
theorem d31_23 : decode method_3_code 23 = .ok (.invokestatic 49, 3) := by decide +kernel
theorem d31_26 : decode method_3_code 26 = .ok (.ifCond .eq 19, 3) := by decide +kernel
theorem d31_29 : decode method_3_code 29 = .ok (.aload_n 0, 1) := by decide +kernel
theorem d31_30 : decode method_3_code 30 = .ok (.aload_n 1, 1) := by decide +kernel
theorem d31_31 : decode method_3_code 31 = .ok (.invokevirtual 45, 3) := by decide +kernel
theorem d31_34 : decode method_3_code 34 = .ok (.aload_n 2, 1) := by decide +kernel
theorem d31_35 : decode method_3_code 35 = .ok (.invokestatic 49, 3) := by decide +kernel
theorem d31_38 : decode method_3_code 38 = .ok (.ifCond .eq 7, 3) := by decide +kernel
theorem d31_41 : decode method_3_code 41 = .ok (.iconst 1, 1) := by decide +kernel
theorem d31_42 : decode method_3_code 42 = .ok (.goto 4, 3) := by decide +kernel
theorem d31_46 : decode method_3_code 46 = .ok (.ireturn, 1) := by decide +kernel
theorem ef_rm_is (m : MethodId) (x0 : Addr) (x1 : Addr) (x2 : Addr) : entryFrame m #[(.ref x0), (.ref x1), (.ref x2)] 3 = mkF m 0 #[vr x0, vr x1, vr x2] [] := by first | (simp [entryFrame, mkF, argsToLocals, Value.category]; done) | rfl
def Q_rm_is (Z : State) (a1 : Addr) (a2 : Addr) (a3 : Addr) (t1 : Addr) (k1 : ClassId) (z1 : Int32) (vs1 : List Value) (t2 : Addr) (k2 : ClassId) (z2 : Int32) (vs2 : List Value) (t3 : Addr) (k3 : ClassId) (z3 : Int32) (vs3 : List Value) (zc : Int32) (fm : Value) (h0 : Heap) (n0 : Nat) (v : Option Value) (h : Heap) (L : List Loc) : Prop := (v = some (.int (1 : Int32))) ∧ (Fr n0 L) ∧ (h = h0)
set_option maxRecDepth 65536 in
set_option maxHeartbeats 40000000 in
theorem rm_is (l : Launch) (Z : State) (a0 : Array Value) (hw : ∀ d ∈ tables_1, d.before a0 Z = true) (ws : List Jvm.Cond) (a1 : Addr) (a2 : Addr) (a3 : Addr) (t1 : Addr) (k1 : ClassId) (z1 : Int32) (vs1 : List Value) (t2 : Addr) (k2 : ClassId) (z2 : Int32) (vs2 : List Value) (t3 : Addr) (k3 : ClassId) (z3 : Int32) (vs3 : List Value) (zc : Int32) (fm : Value) (h0 : Heap) (n0 : Nat) (Z0 : n0 ≤ h0.size) (O0 : Old Z n0 h0) (E_a1 : Exa Z h0 a1 "java/lang/String") (F_value_a1 : Fld Z h0 a1 "java/lang/String" "value" "[B" (.ref t1)) (F_coder_a1 : Fld Z h0 a1 "java/lang/String" "coder" "B" (.int (0 : Int32))) (V_t1 : Arv Z h0 t1 k1 .byte z1 vs1 (.int (0 : Int32))) (E_a2 : Exa Z h0 a2 "java/lang/String") (F_value_a2 : Fld Z h0 a2 "java/lang/String" "value" "[B" (.ref t2)) (F_coder_a2 : Fld Z h0 a2 "java/lang/String" "coder" "B" (.int (0 : Int32))) (V_t2 : Arv Z h0 t2 k2 .byte z2 vs2 (.int (0 : Int32))) (E_a3 : Exa Z h0 a3 "java/lang/String") (F_value_a3 : Fld Z h0 a3 "java/lang/String" "value" "[B" (.ref t3)) (F_coder_a3 : Fld Z h0 a3 "java/lang/String" "coder" "B" (.int (0 : Int32))) (V_t3 : Arv Z h0 t3 k3 .byte z3 vs3 (.int (0 : Int32))) (S_CS : Sta Z Z.heap "java/lang/String" "COMPACT_STRINGS" "Z" (.int zc)) (hz : ¬ zc = (0 : Int32)) (S_FM : Sta Z Z.heap "jdk/internal/util/Preconditions" "SIOOBE_FORMATTER" "Ljava/util/function/BiFunction;" fm) (hW_fm : fm.isRef = true) (hL : z2 + z3 = z1) (hHa : ∀ kk : Int32, ¬ kk < (0 : Int32) → kk < z2 → ¬ ((0 : Int32) + kk) < (0 : Int32) ∧ ((0 : Int32) + kk) < z1 ∧ ∃ u : Int32, vs1.getD ((0 : Int32) + kk).toNatClampNeg (.int (0 : Int32)) = .int u ∧ vs2.getD kk.toNatClampNeg (.int (0 : Int32)) = .int u) (hHb : ∀ kk : Int32, ¬ kk < (0 : Int32) → kk < z3 → ¬ (z2 + kk) < (0 : Int32) ∧ (z2 + kk) < z1 ∧ ∃ u : Int32, vs1.getD (z2 + kk).toNatClampNeg (.int (0 : Int32)) = .int u ∧ vs3.getD kk.toNatClampNeg (.int (0 : Int32)) = .int u) :
    MetFree l y_37 (head1 (Jvm.Cond.code y_37 method_3_code 3 (some .boolean) :: ws) ({ frames := 6, cells := 0, slots := 0, locals := 83 } : Room)) (fun a U => a = #[(.ref a1), (.ref a2), (.ref a3)] ∧ Z.Warmed39 U.vm ∧ U.heap = h0) (fun _ _ _ _ _ => True) (fun _ U o U' => ∃ v L, o = .returned v ∧ Q_rm_is Z a1 a2 a3 t1 k1 z1 vs1 t2 k2 z2 vs2 t3 k3 z3 vs3 zc fm h0 n0 v U'.heap L ∧ FrameEnd U o U' L ({ frames := 6, cells := 0, slots := 0, locals := 83 } : Room).cells ({ frames := 6, cells := 0, slots := 0, locals := 83 } : Room).slots) := by
  refine MetFree.of_bodySF (plainFor_of_name pn_9) hisR ?_
  intro p e s m args below meth c s₁ Bd hml0 hP hK
  obtain ⟨rfl, hZ, hh⟩ := hP
  have hx := Bd.exec
  have hby := Bd.bytes
  have hml : c.maxLocals = 3 := hml0
  have hown : s.vm.findClass "com/example/federant/federant/saml/IdpEndpointsUnderPinLaw" = some m.cls := findClass_of_methodNamed Bd.named
  have hnm := (name_of_methodNamed Bd.named Bd.method).1
  have X0 : Stand p l e ({ frames := 6, cells := 0, slots := 0, locals := 83 } : Room) s m #[(.ref a1), (.ref a2), (.ref a3)] below meth c s₁ [] 0 0 := Stand.of_body Bd
  have e0 : s₁.heap = h0 := by rw [← hh, Bd.state]; rfl
  have N0 := Fr.nil n0
  have KC : Keep h0 h0 [] := Keep.refl h0 _
  have pre0 : ∀ t, Steps p.tables e below (s₁.setTop (mkF m 0 #[vr a1, vr a2, vr a3] [])) t → Steps p.tables e below (s₁.setTop (entryFrame m #[(.ref a1), (.ref a2), (.ref a3)] 3)) t := fun t k => castTop (ef_rm_is m a1 a2 a3) k
  obtain ⟨cq1, kq1, q1a, q1b, q1c⟩ := isOf hZ e0 E_a1
  obtain ⟨_, _, ⟨T1, L1, kz1, nz1⟩, -, X1, ⟨Lc1, hQ1, l1, y1, z1⟩, st1⟩ := X0.virtualBack hx (y := y_1) (z := y_1) hown (mvT hZ (ww hw 182 rfl)) (mvT hZ (ww hw 33 rfl)) (notFace_of_selects (args := #[]) (mvT hZ (ww hw 35 rfl))) (mvT hZ (ww hw 35 rfl)) (mvT hZ (ww hw 34 rfl)) (by decide) (backOf (W := 0) (rm_length l Z a0 hw [] a1 t1 k1 z1 vs1 zc h0 n0 (Nat.le_trans Z0 KC.1) O0 E_a1 F_value_a1 F_coder_a1 V_t1 S_CS hz) hZ (ww hw 36 rfl) (ww hw 3 rfl) (by decide) (by decide)) q1a q1c (g := (mkF m 5 #[vr a1, vr a2, vr a3] [(.ref a1)])) rfl (by rw [hml]; rfl) (Steps.refl _) (argsL := []) (rest := []) (lenOf pd_8 rfl) rfl (by show 2 * 0 + _ ≤ _; exact Nat.le_of_eq rfl) (hb hby d31_5) (fun _ _ => ⟨rfl, e0, (by decide : 0 + 0 ≤ _), (by decide : 0 + 0 ≤ _)⟩)
  dsimp only [Pt.U, Pt.locs, Pt.cells, Pt.slots] at X1 l1 y1 z1 st1 hQ1
  subst l1 y1 z1
  obtain ⟨rfl, N1q, e1⟩ := hQ1
  have N1 := Fr.app N0 N1q
  obtain ⟨cq2, kq2, q2a, q2b, q2c⟩ := isOf hZ e1 E_a2
  obtain ⟨_, _, ⟨T2, L2, kz2, nz2⟩, -, X2, ⟨Lc2, hQ2, l2, y2, z2⟩, st2⟩ := X1.virtualBack hx (y := y_1) (z := y_1) hown (mvT hZ (ww hw 182 rfl)) (mvT hZ (ww hw 33 rfl)) (notFace_of_selects (args := #[]) (mvT hZ (ww hw 35 rfl))) (mvT hZ (ww hw 35 rfl)) (mvT hZ (ww hw 34 rfl)) (by decide) (backOf (W := 1) (rm_length l Z a0 hw [] a2 t2 k2 z2 vs2 zc h0 n0 (Nat.le_trans Z0 KC.1) O0 E_a2 F_value_a2 F_coder_a2 V_t2 S_CS hz) hZ (ww hw 36 rfl) (ww hw 3 rfl) (by decide) (by decide)) q2a q2c (g := (mkF m 9 #[vr a1, vr a2, vr a3] [(.ref a2), (.int z1)])) rfl (by rw [hml]; rfl) (Steps.refl _) (argsL := []) (rest := [(.int z1)]) (lenOf pd_8 rfl) rfl (by show 2 * 0 + _ ≤ _; exact Nat.le_of_eq rfl) (hb hby d31_9) (fun _ _ => ⟨rfl, e1, (by decide : 0 + 0 ≤ _), (by decide : 0 + 0 ≤ _)⟩)
  dsimp only [Pt.U, Pt.locs, Pt.cells, Pt.slots] at X2 l2 y2 z2 st2 hQ2
  subst l2 y2 z2
  obtain ⟨rfl, N2q, e2⟩ := hQ2
  have N2 := Fr.app N1 N2q
  obtain ⟨cq3, kq3, q3a, q3b, q3c⟩ := isOf hZ e2 E_a3
  obtain ⟨_, _, ⟨T3, L3, kz3, nz3⟩, -, X3, ⟨Lc3, hQ3, l3, y3, z3⟩, st3⟩ := X2.virtualBack hx (y := y_1) (z := y_1) hown (mvT hZ (ww hw 182 rfl)) (mvT hZ (ww hw 33 rfl)) (notFace_of_selects (args := #[]) (mvT hZ (ww hw 35 rfl))) (mvT hZ (ww hw 35 rfl)) (mvT hZ (ww hw 34 rfl)) (by decide) (backOf (W := 2) (rm_length l Z a0 hw [] a3 t3 k3 z3 vs3 zc h0 n0 (Nat.le_trans Z0 KC.1) O0 E_a3 F_value_a3 F_coder_a3 V_t3 S_CS hz) hZ (ww hw 36 rfl) (ww hw 3 rfl) (by decide) (by decide)) q3a q3c (g := (mkF m 13 #[vr a1, vr a2, vr a3] [(.ref a3), (.int z2), (.int z1)])) rfl (by rw [hml]; rfl) (Steps.refl _) (argsL := []) (rest := [(.int z2), (.int z1)]) (lenOf pd_8 rfl) rfl (by show 2 * 0 + _ ≤ _; exact Nat.le_of_eq rfl) (hb hby d31_13) (fun _ _ => ⟨rfl, e2, (by decide : 0 + 0 ≤ _), (by decide : 0 + 0 ≤ _)⟩)
  dsimp only [Pt.U, Pt.locs, Pt.cells, Pt.slots] at X3 l3 y3 z3 st3 hQ3
  subst l3 y3 z3
  obtain ⟨rfl, N3q, e3⟩ := hQ3
  have N3 := Fr.app N2 N3q
  obtain ⟨_, _, ⟨T4, L4, kz4, nz4⟩, -, X4, ⟨Lc4, hQ4, l4, y4, z4⟩, st4⟩ := Jvm.LawKit.callS X3 hx (y := y_36) hown (mvT hZ (ww hw 183 rfl)) (mvT hZ (ww hw 184 rfl)) (mvT hZ (ww hw 180 rfl)) (mvT hZ (ww hw 185 rfl)) (by decide) (backOf (W := 0) (rm_has l Z a0 hw [] a1 (0 : Int32) a2 t1 k1 z1 vs1 t2 k2 z2 vs2 zc fm h0 n0 (Nat.le_trans Z0 KC.1) O0 E_a1 F_value_a1 F_coder_a1 V_t1 E_a2 F_value_a2 F_coder_a2 V_t2 S_CS hz S_FM hW_fm hHa) hZ (ww hw 185 rfl) (ww hw 180 rfl) (by decide) (by decide)) (g := (mkF m 23 #[vr a1, vr a2, vr a3] [(.ref a2), (.int (0 : Int32)), (.ref a1)])) rfl (by rw [hml]; rfl) (argsL := [(.ref a1), (.int (0 : Int32)), (.ref a2)]) (rest := []) (lenOf pd_24 rfl) rfl (by show 2 * 0 + _ ≤ _; exact Nat.le_of_eq rfl) (hb hby d31_23) (fun _ _ => ⟨rfl, e3, (by decide : 0 + 0 ≤ _), (by decide : 0 + 0 ≤ _)⟩)
  dsimp only [Pt.U, Pt.locs, Pt.cells, Pt.slots] at X4 l4 y4 z4 st4 hQ4
  subst l4 y4 z4
  obtain ⟨rfl, N4q, e4⟩ := hQ4
  have N4 := Fr.app N3 N4q
  obtain ⟨cq5, kq5, q5a, q5b, q5c⟩ := isOf hZ e4 E_a2
  obtain ⟨_, _, ⟨T5, L5, kz5, nz5⟩, -, X5, ⟨Lc5, hQ5, l5, y5, z5⟩, st5⟩ := X4.virtualBack hx (y := y_1) (z := y_1) hown (mvT hZ (ww hw 182 rfl)) (mvT hZ (ww hw 33 rfl)) (notFace_of_selects (args := #[]) (mvT hZ (ww hw 35 rfl))) (mvT hZ (ww hw 35 rfl)) (mvT hZ (ww hw 34 rfl)) (by decide) (backOf (W := 1) (rm_length l Z a0 hw [] a2 t2 k2 z2 vs2 zc h0 n0 (Nat.le_trans Z0 KC.1) O0 E_a2 F_value_a2 F_coder_a2 V_t2 S_CS hz) hZ (ww hw 36 rfl) (ww hw 3 rfl) (by decide) (by decide)) q5a q5c (g := (mkF m 31 #[vr a1, vr a2, vr a3] [(.ref a2), (.ref a1)])) rfl (by rw [hml]; rfl) (Steps.refl _) (argsL := []) (rest := [(.ref a1)]) (lenOf pd_8 rfl) rfl (by show 2 * 0 + _ ≤ _; exact Nat.le_of_eq rfl) (hb hby d31_31) (fun _ _ => ⟨rfl, e4, (by decide : 0 + 0 ≤ _), (by decide : 0 + 0 ≤ _)⟩)
  dsimp only [Pt.U, Pt.locs, Pt.cells, Pt.slots] at X5 l5 y5 z5 st5 hQ5
  subst l5 y5 z5
  obtain ⟨rfl, N5q, e5⟩ := hQ5
  have N5 := Fr.app N4 N5q
  obtain ⟨_, _, ⟨T6, L6, kz6, nz6⟩, -, X6, ⟨Lc6, hQ6, l6, y6, z6⟩, st6⟩ := Jvm.LawKit.callS X5 hx (y := y_36) hown (mvT hZ (ww hw 183 rfl)) (mvT hZ (ww hw 184 rfl)) (mvT hZ (ww hw 180 rfl)) (mvT hZ (ww hw 185 rfl)) (by decide) (backOf (W := 0) (rm_has l Z a0 hw [] a1 z2 a3 t1 k1 z1 vs1 t3 k3 z3 vs3 zc fm h0 n0 (Nat.le_trans Z0 KC.1) O0 E_a1 F_value_a1 F_coder_a1 V_t1 E_a3 F_value_a3 F_coder_a3 V_t3 S_CS hz S_FM hW_fm hHb) hZ (ww hw 185 rfl) (ww hw 180 rfl) (by decide) (by decide)) (g := (mkF m 35 #[vr a1, vr a2, vr a3] [(.ref a3), (.int z2), (.ref a1)])) rfl (by rw [hml]; rfl) (argsL := [(.ref a1), (.int z2), (.ref a3)]) (rest := []) (lenOf pd_24 rfl) rfl (by show 2 * 0 + _ ≤ _; exact Nat.le_of_eq rfl) (hb hby d31_35) (fun _ _ => ⟨rfl, e5, (by decide : 0 + 0 ≤ _), (by decide : 0 + 0 ≤ _)⟩)
  dsimp only [Pt.U, Pt.locs, Pt.cells, Pt.slots] at X6 l6 y6 z6 st6 hQ6
  subst l6 y6 z6
  obtain ⟨rfl, N6q, e6⟩ := hQ6
  have N6 := Fr.app N5 N6q
  obtain ⟨fs, hr, hrun, hended, hW, hsame⟩ := X6.leave (v := some (.int (1 : Int32))) (fun h => by rw [Bd.returns] at h; cases h)
  refine ⟨_, _, pre0 _ ?_, hrun, hended, _, _, rfl, ?_, ⟨_, rfl⟩, hW, hsame.mono (by decide) (by decide)⟩
  · show SS p e below m s₁ 0 #[vr a1, vr a2, vr a3] [] _
    refine XS.aloadN X0.here hx rfl (hb hby d31_0) rfl rfl ?_
    show SS p e below m s₁ 1 #[vr a1, vr a2, vr a3] [(.ref a1)] _
    refine XS.ifnullNo X0.here hx rfl (hb hby d31_1) rfl ?_
    show SS p e below m s₁ 4 #[vr a1, vr a2, vr a3] [] _
    refine XS.aloadN X0.here hx rfl (hb hby d31_4) rfl rfl ?_
    show SS p e below m s₁ 5 #[vr a1, vr a2, vr a3] [(.ref a1)] _
    refine st1.trans ?_
    show SS p e below m T1 8 #[vr a1, vr a2, vr a3] [(.int z1)] _
    refine XS.aloadN X1.here hx rfl (hb hby d31_8) rfl rfl ?_
    show SS p e below m T1 9 #[vr a1, vr a2, vr a3] [(.ref a2), (.int z1)] _
    refine st2.trans ?_
    show SS p e below m T2 12 #[vr a1, vr a2, vr a3] [(.int z2), (.int z1)] _
    refine XS.aloadN X2.here hx rfl (hb hby d31_12) rfl rfl ?_
    show SS p e below m T2 13 #[vr a1, vr a2, vr a3] [(.ref a3), (.int z2), (.int z1)] _
    refine st3.trans ?_
    show SS p e below m T3 16 #[vr a1, vr a2, vr a3] [(.int z3), (.int z2), (.int z1)] _
    refine XS.iadd X3.here hx rfl (hb hby d31_16) rfl ?_
    show SS p e below m T3 17 #[vr a1, vr a2, vr a3] [(.int (z2 + z3)), (.int z1)] _
    refine XS.icmpNo X3.here hx rfl (hb hby d31_17) rfl (teq hL.symm).2 ?_
    show SS p e below m T3 20 #[vr a1, vr a2, vr a3] [] _
    refine XS.aloadN X3.here hx rfl (hb hby d31_20) rfl rfl ?_
    show SS p e below m T3 21 #[vr a1, vr a2, vr a3] [(.ref a1)] _
    refine XS.iconst X3.here hx rfl (hb hby d31_21) ?_
    show SS p e below m T3 22 #[vr a1, vr a2, vr a3] [(.int (0 : Int32)), (.ref a1)] _
    refine XS.aloadN X3.here hx rfl (hb hby d31_22) rfl rfl ?_
    show SS p e below m T3 23 #[vr a1, vr a2, vr a3] [(.ref a2), (.int (0 : Int32)), (.ref a1)] _
    refine st4 _ ?_
    show SS p e below m T4 26 #[vr a1, vr a2, vr a3] [(.int (1 : Int32))] _
    refine XS.ifNo X4.here hx rfl (hb hby d31_26) rfl ((if0 _ _).trans (feq (by decide)).1) ?_
    show SS p e below m T4 29 #[vr a1, vr a2, vr a3] [] _
    refine XS.aloadN X4.here hx rfl (hb hby d31_29) rfl rfl ?_
    show SS p e below m T4 30 #[vr a1, vr a2, vr a3] [(.ref a1)] _
    refine XS.aloadN X4.here hx rfl (hb hby d31_30) rfl rfl ?_
    show SS p e below m T4 31 #[vr a1, vr a2, vr a3] [(.ref a2), (.ref a1)] _
    refine st5.trans ?_
    show SS p e below m T5 34 #[vr a1, vr a2, vr a3] [(.int z2), (.ref a1)] _
    refine XS.aloadN X5.here hx rfl (hb hby d31_34) rfl rfl ?_
    show SS p e below m T5 35 #[vr a1, vr a2, vr a3] [(.ref a3), (.int z2), (.ref a1)] _
    refine st6 _ ?_
    show SS p e below m T6 38 #[vr a1, vr a2, vr a3] [(.int (1 : Int32))] _
    refine XS.ifNo X6.here hx rfl (hb hby d31_38) rfl ((if0 _ _).trans (feq (by decide)).1) ?_
    show SS p e below m T6 41 #[vr a1, vr a2, vr a3] [] _
    refine XS.iconst X6.here hx rfl (hb hby d31_41) ?_
    show SS p e below m T6 42 #[vr a1, vr a2, vr a3] [(.int (1 : Int32))] _
    refine XS.goto X6.here hx rfl (pc0 := 42) (pc' := 46) rfl (hb hby d31_42) (by decide) (by decide) ?_
    show SS p e below m T6 46 #[vr a1, vr a2, vr a3] [(.int (1 : Int32))] _
    exact retN X6 hx (t := .boolean) Bd.returns (by simp) (hb hby d31_46) hr
  · show Q_rm_is Z a1 a2 a3 t1 k1 z1 vs1 t2 k2 z2 vs2 t3 k3 z3 vs3 zc fm h0 n0 _ T6.heap _
    rw [e6]
    exact ⟨rfl, N6, rfl⟩
theorem pd_25 : parseMethodDescriptor "()V" = some ⟨[], none⟩ := by decide +kernel
theorem d28_0 : decode prog_26_method_1_code 0 = .ok (.aload_n 0, 1) := by decide +kernel
theorem d28_1 : decode prog_26_method_1_code 1 = .ok (.invokespecial 1, 3) := by decide +kernel
theorem d28_4 : decode prog_26_method_1_code 4 = .ok (.aload_n 0, 1) := by decide +kernel
theorem d28_5 : decode prog_26_method_1_code 5 = .ok (.aload_n 1, 1) := by decide +kernel
theorem d28_6 : decode prog_26_method_1_code 6 = .ok (.putfield 7, 3) := by decide +kernel
theorem d28_9 : decode prog_26_method_1_code 9 = .ok (.aload_n 0, 1) := by decide +kernel
theorem d28_10 : decode prog_26_method_1_code 10 = .ok (.aload_n 2, 1) := by decide +kernel
theorem d28_11 : decode prog_26_method_1_code 11 = .ok (.putfield 13, 3) := by decide +kernel
theorem d28_14 : decode prog_26_method_1_code 14 = .ok (.aload_n 0, 1) := by decide +kernel
theorem d28_15 : decode prog_26_method_1_code 15 = .ok (.aload_n 3, 1) := by decide +kernel
theorem d28_16 : decode prog_26_method_1_code 16 = .ok (.putfield 16, 3) := by decide +kernel
theorem d28_19 : decode prog_26_method_1_code 19 = .ok (.aload_n 0, 1) := by decide +kernel
theorem d28_20 : decode prog_26_method_1_code 20 = .ok (.aload 4, 2) := by decide +kernel
theorem d28_22 : decode prog_26_method_1_code 22 = .ok (.putfield 19, 3) := by decide +kernel
theorem d28_25 : decode prog_26_method_1_code 25 = .ok (.return_, 1) := by decide +kernel
theorem pn_10 : plainName "com/example/federant/federant/saml/IdpEndpoints" = true := by first | (simp [plainName, overriddenIn]; done) | decide +kernel
theorem ef_rm_idi (m : MethodId) (x0 : Addr) (x1 : Addr) (x2 : Addr) (x3 : Addr) (x4 : Addr) : entryFrame m #[(.ref x0), (.ref x1), (.ref x2), (.ref x3), (.ref x4)] 5 = mkF m 0 #[vr x0, vr x1, vr x2, vr x3, vr x4] [] := by first | (simp [entryFrame, mkF, argsToLocals, Value.category]; done) | rfl
def Q_rm_idi (Z : State) (a1 : Addr) (a2 : Addr) (a3 : Addr) (a4 : Addr) (a5 : Addr) (h0 : Heap) (n0 : Nat) (v : Option Value) (h : Heap) (L : List Loc) : Prop := (v = none) ∧ (Fr n0 L) ∧ (Keep h0 h [a1]) ∧ (Fld Z h a1 "com/example/federant/federant/saml/IdpEndpoints" "entityId" "Ljava/lang/String;" (.ref a2)) ∧ (Fld Z h a1 "com/example/federant/federant/saml/IdpEndpoints" "metadata" "Ljava/lang/String;" (.ref a3)) ∧ (Fld Z h a1 "com/example/federant/federant/saml/IdpEndpoints" "singleSignOn" "Ljava/lang/String;" (.ref a4)) ∧ (Fld Z h a1 "com/example/federant/federant/saml/IdpEndpoints" "singleLogout" "Ljava/lang/String;" (.ref a5))
set_option maxRecDepth 65536 in
set_option maxHeartbeats 40000000 in
theorem rm_idi (l : Launch) (Z : State) (a0 : Array Value) (hw : ∀ d ∈ tables_1, d.before a0 Z = true) (ws : List Jvm.Cond) (a1 : Addr) (a2 : Addr) (a3 : Addr) (a4 : Addr) (a5 : Addr) (h0 : Heap) (n0 : Nat) (Z0 : n0 ≤ h0.size) (O0 : Old Z n0 h0) (F_entityId_a1 : Fld Z h0 a1 "com/example/federant/federant/saml/IdpEndpoints" "entityId" "Ljava/lang/String;" .null) (F_metadata_a1 : Fld Z h0 a1 "com/example/federant/federant/saml/IdpEndpoints" "metadata" "Ljava/lang/String;" .null) (F_singleSignOn_a1 : Fld Z h0 a1 "com/example/federant/federant/saml/IdpEndpoints" "singleSignOn" "Ljava/lang/String;" .null) (F_singleLogout_a1 : Fld Z h0 a1 "com/example/federant/federant/saml/IdpEndpoints" "singleLogout" "Ljava/lang/String;" .null) (E_a1 : Exa Z h0 a1 "com/example/federant/federant/saml/IdpEndpoints") (g_a1 : n0 ≤ a1) :
    MetFree l y_38 (head1 (Jvm.Cond.code y_38 prog_26_method_1_code 5 none :: ws) ({ frames := 2, cells := 0, slots := 0, locals := 24 } : Room)) (fun a U => a = #[(.ref a1), (.ref a2), (.ref a3), (.ref a4), (.ref a5)] ∧ Z.Warmed39 U.vm ∧ U.heap = h0) (fun _ _ _ _ _ => True) (fun _ U o U' => ∃ v L, o = .returned v ∧ Q_rm_idi Z a1 a2 a3 a4 a5 h0 n0 v U'.heap L ∧ FrameEnd U o U' L ({ frames := 2, cells := 0, slots := 0, locals := 24 } : Room).cells ({ frames := 2, cells := 0, slots := 0, locals := 24 } : Room).slots) := by
  refine MetFree.of_bodySF (plainFor_of_name pn_10) hisR ?_
  intro p e s m args below meth c s₁ Bd hml0 hP hK
  obtain ⟨rfl, hZ, hh⟩ := hP
  have hx := Bd.exec
  have hby := Bd.bytes
  have hml : c.maxLocals = 5 := hml0
  have hown : s.vm.findClass "com/example/federant/federant/saml/IdpEndpoints" = some m.cls := findClass_of_methodNamed Bd.named
  have hnm := (name_of_methodNamed Bd.named Bd.method).1
  have X0 : Stand p l e ({ frames := 2, cells := 0, slots := 0, locals := 24 } : Room) s m #[(.ref a1), (.ref a2), (.ref a3), (.ref a4), (.ref a5)] below meth c s₁ [] 0 0 := Stand.of_body Bd
  have e0 : s₁.heap = h0 := by rw [← hh, Bd.state]; rfl
  have N0 := Fr.nil n0
  have KC : Keep h0 h0 [a1] := Keep.refl h0 _
  have pre0 : ∀ t, Steps p.tables e below (s₁.setTop (mkF m 0 #[vr a1, vr a2, vr a3, vr a4, vr a5] [])) t → Steps p.tables e below (s₁.setTop (entryFrame m #[(.ref a1), (.ref a2), (.ref a3), (.ref a4), (.ref a5)] 5)) t := fun t k => castTop (ef_rm_idi m a1 a2 a3 a4 a5) k
  obtain ⟨_, _, ⟨T1, L1, kz1, nz1⟩, -, X1, ⟨Lc1, hQ1, l1, y1, z1⟩, st1⟩ := X0.specialBack hx (y := y_26) rfl hown (mvT hZ (ww hw 158 rfl)) (mvT hZ (ww hw 159 rfl)) (mvT hZ (ww hw 162 rfl)) (by decide) (backOf (W := 0) (rm_rec l Z a0 hw [] a1 h0 n0 (Nat.le_trans Z0 KC.1) O0 ) hZ (ww hw 162 rfl) (ww hw 161 rfl) (by decide) (by decide)) (g := (mkF m 1 #[vr a1, vr a2, vr a3, vr a4, vr a5] [(.ref a1)])) rfl (by rw [hml]; rfl) (Steps.refl _) (a := a1) (argsL := []) (rest := []) (lenOf pd_25 rfl) rfl (by show 2 * 0 + _ ≤ _; exact Nat.le_of_eq rfl) (hb hby d28_1) (fun _ _ => ⟨rfl, e0, (by decide : 0 + 0 ≤ _), (by decide : 0 + 0 ≤ _)⟩)
  dsimp only [Pt.U, Pt.locs, Pt.cells, Pt.slots] at X1 l1 y1 z1 st1 hQ1
  subst l1 y1 z1
  obtain ⟨rfl, N1q, e1⟩ := hQ1
  have N1 := Fr.app N0 N1q
  obtain ⟨T2, h2, X2, e2, W2, st2⟩ := putF X1 hx hZ hown (host := "") (Or.inl (ww hw 164 rfl)) Via.refl e1 F_entityId_a1 E_a1 (Or.inr ⟨(ww hw 165 rfl), rfl, hnm⟩) (ww hw 49 rfl) (ty := (.object "java/lang/String")) (by decide) rfl rfl (g := (mkF m 6 #[vr a1, vr a2, vr a3, vr a4, vr a5] [(.ref a2), (.ref a1)])) rfl rfl (hb hby d28_6)
  have N2 := Fr.snoc X2 N1 g_a1
  replace F_entityId_a1 := F_entityId_a1.same W2
  replace F_metadata_a1 := F_metadata_a1.other W2 (Or.inr (slot_ne (Or.inr (ww hw 167 rfl)) (Or.inr (ww hw 165 rfl)) (by decide) (t := (.object "java/lang/String")) (t' := (.object "java/lang/String")) (by decide) (by decide)))
  replace F_singleSignOn_a1 := F_singleSignOn_a1.other W2 (Or.inr (slot_ne (Or.inr (ww hw 169 rfl)) (Or.inr (ww hw 165 rfl)) (by decide) (t := (.object "java/lang/String")) (t' := (.object "java/lang/String")) (by decide) (by decide)))
  replace F_singleLogout_a1 := F_singleLogout_a1.other W2 (Or.inr (slot_ne (Or.inr (ww hw 171 rfl)) (Or.inr (ww hw 165 rfl)) (by decide) (t := (.object "java/lang/String")) (t' := (.object "java/lang/String")) (by decide) (by decide)))
  replace E_a1 := E_a1.wr W2
  replace O0 := O0.wr W2 g_a1
  replace KC := KC.wr W2 (Or.inl (List.mem_of_getElem? (i := 0) rfl))
  obtain ⟨T3, h3, X3, e3, W3, st3⟩ := putF X2 hx hZ hown (host := "") (Or.inl (ww hw 166 rfl)) Via.refl e2 F_metadata_a1 E_a1 (Or.inr ⟨(ww hw 167 rfl), rfl, hnm⟩) (ww hw 49 rfl) (ty := (.object "java/lang/String")) (by decide) rfl rfl (g := (mkF m 11 #[vr a1, vr a2, vr a3, vr a4, vr a5] [(.ref a3), (.ref a1)])) rfl rfl (hb hby d28_11)
  have N3 := Fr.snoc X3 N2 g_a1
  replace F_metadata_a1 := F_metadata_a1.same W3
  replace F_entityId_a1 := F_entityId_a1.other W3 (Or.inr (slot_ne (Or.inr (ww hw 165 rfl)) (Or.inr (ww hw 167 rfl)) (by decide) (t := (.object "java/lang/String")) (t' := (.object "java/lang/String")) (by decide) (by decide)))
  replace F_singleSignOn_a1 := F_singleSignOn_a1.other W3 (Or.inr (slot_ne (Or.inr (ww hw 169 rfl)) (Or.inr (ww hw 167 rfl)) (by decide) (t := (.object "java/lang/String")) (t' := (.object "java/lang/String")) (by decide) (by decide)))
  replace F_singleLogout_a1 := F_singleLogout_a1.other W3 (Or.inr (slot_ne (Or.inr (ww hw 171 rfl)) (Or.inr (ww hw 167 rfl)) (by decide) (t := (.object "java/lang/String")) (t' := (.object "java/lang/String")) (by decide) (by decide)))
  replace E_a1 := E_a1.wr W3
  replace O0 := O0.wr W3 g_a1
  replace KC := KC.wr W3 (Or.inl (List.mem_of_getElem? (i := 0) rfl))
  obtain ⟨T4, h4, X4, e4, W4, st4⟩ := putF X3 hx hZ hown (host := "") (Or.inl (ww hw 168 rfl)) Via.refl e3 F_singleSignOn_a1 E_a1 (Or.inr ⟨(ww hw 169 rfl), rfl, hnm⟩) (ww hw 49 rfl) (ty := (.object "java/lang/String")) (by decide) rfl rfl (g := (mkF m 16 #[vr a1, vr a2, vr a3, vr a4, vr a5] [(.ref a4), (.ref a1)])) rfl rfl (hb hby d28_16)
  have N4 := Fr.snoc X4 N3 g_a1
  replace F_singleSignOn_a1 := F_singleSignOn_a1.same W4
  replace F_entityId_a1 := F_entityId_a1.other W4 (Or.inr (slot_ne (Or.inr (ww hw 165 rfl)) (Or.inr (ww hw 169 rfl)) (by decide) (t := (.object "java/lang/String")) (t' := (.object "java/lang/String")) (by decide) (by decide)))
  replace F_metadata_a1 := F_metadata_a1.other W4 (Or.inr (slot_ne (Or.inr (ww hw 167 rfl)) (Or.inr (ww hw 169 rfl)) (by decide) (t := (.object "java/lang/String")) (t' := (.object "java/lang/String")) (by decide) (by decide)))
  replace F_singleLogout_a1 := F_singleLogout_a1.other W4 (Or.inr (slot_ne (Or.inr (ww hw 171 rfl)) (Or.inr (ww hw 169 rfl)) (by decide) (t := (.object "java/lang/String")) (t' := (.object "java/lang/String")) (by decide) (by decide)))
  replace E_a1 := E_a1.wr W4
  replace O0 := O0.wr W4 g_a1
  replace KC := KC.wr W4 (Or.inl (List.mem_of_getElem? (i := 0) rfl))
  obtain ⟨T5, h5, X5, e5, W5, st5⟩ := putF X4 hx hZ hown (host := "") (Or.inl (ww hw 170 rfl)) Via.refl e4 F_singleLogout_a1 E_a1 (Or.inr ⟨(ww hw 171 rfl), rfl, hnm⟩) (ww hw 49 rfl) (ty := (.object "java/lang/String")) (by decide) rfl rfl (g := (mkF m 22 #[vr a1, vr a2, vr a3, vr a4, vr a5] [(.ref a5), (.ref a1)])) rfl rfl (hb hby d28_22)
  have N5 := Fr.snoc X5 N4 g_a1
  replace F_singleLogout_a1 := F_singleLogout_a1.same W5
  replace F_entityId_a1 := F_entityId_a1.other W5 (Or.inr (slot_ne (Or.inr (ww hw 165 rfl)) (Or.inr (ww hw 171 rfl)) (by decide) (t := (.object "java/lang/String")) (t' := (.object "java/lang/String")) (by decide) (by decide)))
  replace F_metadata_a1 := F_metadata_a1.other W5 (Or.inr (slot_ne (Or.inr (ww hw 167 rfl)) (Or.inr (ww hw 171 rfl)) (by decide) (t := (.object "java/lang/String")) (t' := (.object "java/lang/String")) (by decide) (by decide)))
  replace F_singleSignOn_a1 := F_singleSignOn_a1.other W5 (Or.inr (slot_ne (Or.inr (ww hw 169 rfl)) (Or.inr (ww hw 171 rfl)) (by decide) (t := (.object "java/lang/String")) (t' := (.object "java/lang/String")) (by decide) (by decide)))
  replace E_a1 := E_a1.wr W5
  replace O0 := O0.wr W5 g_a1
  replace KC := KC.wr W5 (Or.inl (List.mem_of_getElem? (i := 0) rfl))
  obtain ⟨fs, hr, hrun, hended, hW, hsame⟩ := X5.leave (v := none) (fun _ => rfl)
  refine ⟨_, _, pre0 _ ?_, hrun, hended, _, _, rfl, ?_, ⟨_, rfl⟩, hW, hsame.mono (by decide) (by decide)⟩
  · show SS p e below m s₁ 0 #[vr a1, vr a2, vr a3, vr a4, vr a5] [] _
    refine XS.aloadN X0.here hx rfl (hb hby d28_0) rfl rfl ?_
    show SS p e below m s₁ 1 #[vr a1, vr a2, vr a3, vr a4, vr a5] [(.ref a1)] _
    refine st1.trans ?_
    show SS p e below m T1 4 #[vr a1, vr a2, vr a3, vr a4, vr a5] [] _
    refine XS.aloadN X1.here hx rfl (hb hby d28_4) rfl rfl ?_
    show SS p e below m T1 5 #[vr a1, vr a2, vr a3, vr a4, vr a5] [(.ref a1)] _
    refine XS.aloadN X1.here hx rfl (hb hby d28_5) rfl rfl ?_
    show SS p e below m T1 6 #[vr a1, vr a2, vr a3, vr a4, vr a5] [(.ref a2), (.ref a1)] _
    refine st2 _ ?_
    show SS p e below m T2 9 #[vr a1, vr a2, vr a3, vr a4, vr a5] [] _
    refine XS.aloadN X2.here hx rfl (hb hby d28_9) rfl rfl ?_
    show SS p e below m T2 10 #[vr a1, vr a2, vr a3, vr a4, vr a5] [(.ref a1)] _
    refine XS.aloadN X2.here hx rfl (hb hby d28_10) rfl rfl ?_
    show SS p e below m T2 11 #[vr a1, vr a2, vr a3, vr a4, vr a5] [(.ref a3), (.ref a1)] _
    refine st3 _ ?_
    show SS p e below m T3 14 #[vr a1, vr a2, vr a3, vr a4, vr a5] [] _
    refine XS.aloadN X3.here hx rfl (hb hby d28_14) rfl rfl ?_
    show SS p e below m T3 15 #[vr a1, vr a2, vr a3, vr a4, vr a5] [(.ref a1)] _
    refine XS.aloadN X3.here hx rfl (hb hby d28_15) rfl rfl ?_
    show SS p e below m T3 16 #[vr a1, vr a2, vr a3, vr a4, vr a5] [(.ref a4), (.ref a1)] _
    refine st4 _ ?_
    show SS p e below m T4 19 #[vr a1, vr a2, vr a3, vr a4, vr a5] [] _
    refine XS.aloadN X4.here hx rfl (hb hby d28_19) rfl rfl ?_
    show SS p e below m T4 20 #[vr a1, vr a2, vr a3, vr a4, vr a5] [(.ref a1)] _
    refine XS.aload X4.here hx rfl (hb hby d28_20) rfl rfl ?_
    show SS p e below m T4 22 #[vr a1, vr a2, vr a3, vr a4, vr a5] [(.ref a5), (.ref a1)] _
    refine st5 _ ?_
    show SS p e below m T5 25 #[vr a1, vr a2, vr a3, vr a4, vr a5] [] _
    exact X5.returnOut hx Bd.returns (hb hby d28_25) hr
  · show Q_rm_idi Z a1 a2 a3 a4 a5 h0 n0 _ T5.heap _
    rw [e5]
    exact ⟨rfl, N5, KC, F_entityId_a1, F_metadata_a1, F_singleSignOn_a1, F_singleLogout_a1⟩
theorem d30_0 : decode prog_26_method_6_code 0 = .ok (.aload_n 0, 1) := by decide +kernel
theorem d30_1 : decode prog_26_method_6_code 1 = .ok (.getfield 7, 3) := by decide +kernel
theorem d30_4 : decode prog_26_method_6_code 4 = .ok (.areturn, 1) := by decide +kernel
theorem ef_rm_get_entityId (m : MethodId) (x0 : Addr) : entryFrame m #[(.ref x0)] 1 = mkF m 0 #[vr x0] [] := by first | (simp [entryFrame, mkF, argsToLocals, Value.category]; done) | rfl
def Q_rm_get_entityId (Z : State) (a1 : Addr) (sv : Addr) (h0 : Heap) (n0 : Nat) (v : Option Value) (h : Heap) (L : List Loc) : Prop := (v = some (.ref sv)) ∧ (Fr n0 L) ∧ (h = h0)
set_option maxRecDepth 65536 in
set_option maxHeartbeats 40000000 in
theorem rm_get_entityId (l : Launch) (Z : State) (a0 : Array Value) (hw : ∀ d ∈ tables_1, d.before a0 Z = true) (ws : List Jvm.Cond) (a1 : Addr) (sv : Addr) (h0 : Heap) (n0 : Nat) (Z0 : n0 ≤ h0.size) (O0 : Old Z n0 h0) (F_entityId_a1 : Fld Z h0 a1 "com/example/federant/federant/saml/IdpEndpoints" "entityId" "Ljava/lang/String;" (.ref sv)) :
    MetFree l y_39 (head1 (Jvm.Cond.code y_39 prog_26_method_6_code 1 (some (.object "java/lang/String")) :: ws) ({ frames := 0, cells := 0, slots := 0, locals := 0 } : Room)) (fun a U => a = #[(.ref a1)] ∧ Z.Warmed39 U.vm ∧ U.heap = h0) (fun _ _ _ _ _ => True) (fun _ U o U' => ∃ v L, o = .returned v ∧ Q_rm_get_entityId Z a1 sv h0 n0 v U'.heap L ∧ FrameEnd U o U' L ({ frames := 0, cells := 0, slots := 0, locals := 0 } : Room).cells ({ frames := 0, cells := 0, slots := 0, locals := 0 } : Room).slots) := by
  refine MetFree.of_bodySF (plainFor_of_name pn_10) hisR ?_
  intro p e s m args below meth c s₁ Bd hml0 hP hK
  obtain ⟨rfl, hZ, hh⟩ := hP
  have hx := Bd.exec
  have hby := Bd.bytes
  have hml : c.maxLocals = 1 := hml0
  have hown : s.vm.findClass "com/example/federant/federant/saml/IdpEndpoints" = some m.cls := findClass_of_methodNamed Bd.named
  have hnm := (name_of_methodNamed Bd.named Bd.method).1
  have X0 : Stand p l e ({ frames := 0, cells := 0, slots := 0, locals := 0 } : Room) s m #[(.ref a1)] below meth c s₁ [] 0 0 := Stand.of_body Bd
  have e0 : s₁.heap = h0 := by rw [← hh, Bd.state]; rfl
  have N0 := Fr.nil n0
  have KC : Keep h0 h0 [] := Keep.refl h0 _
  have pre0 : ∀ t, Steps p.tables e below (s₁.setTop (mkF m 0 #[vr a1] [])) t → Steps p.tables e below (s₁.setTop (entryFrame m #[(.ref a1)] 1)) t := fun t k => castTop (ef_rm_get_entityId m a1) k
  obtain ⟨T1, X1, e1, st1⟩ := getF X0 hx hZ hown (host := "") (Or.inl (ww hw 164 rfl)) Via.refl e0 F_entityId_a1 (g := (mkF m 1 #[vr a1] [(.ref a1)])) rfl rfl (hb hby d30_1)
  obtain ⟨fs, hr, hrun, hended, hW, hsame⟩ := X1.leave (v := some (.ref sv)) (fun h => by rw [Bd.returns] at h; cases h)
  refine ⟨_, _, pre0 _ ?_, hrun, hended, _, _, rfl, ?_, ⟨_, rfl⟩, hW, hsame.mono (by decide) (by decide)⟩
  · show SS p e below m s₁ 0 #[vr a1] [] _
    refine XS.aloadN X0.here hx rfl (hb hby d30_0) rfl rfl ?_
    show SS p e below m s₁ 1 #[vr a1] [(.ref a1)] _
    refine st1 _ ?_
    show SS p e below m T1 4 #[vr a1] [(.ref sv)] _
    jvm_step X1.here [X1.here.top, hx, (hb hby d30_4), X1.method', Bd.returns, Value.isRef, FieldType.isReference]
    first | (intro acts; rw [hr _ acts rfl rfl rfl]) | rw [hr _ _ rfl rfl rfl]
    exact Steps.refl _
  · show Q_rm_get_entityId Z a1 sv h0 n0 _ T1.heap _
    rw [e1]
    exact ⟨rfl, N0, rfl⟩
theorem d39_0 : decode prog_26_method_7_code 0 = .ok (.aload_n 0, 1) := by decide +kernel
theorem d39_1 : decode prog_26_method_7_code 1 = .ok (.getfield 13, 3) := by decide +kernel
theorem d39_4 : decode prog_26_method_7_code 4 = .ok (.areturn, 1) := by decide +kernel
theorem ef_rm_get_metadata (m : MethodId) (x0 : Addr) : entryFrame m #[(.ref x0)] 1 = mkF m 0 #[vr x0] [] := by first | (simp [entryFrame, mkF, argsToLocals, Value.category]; done) | rfl
def Q_rm_get_metadata (Z : State) (a1 : Addr) (sv : Addr) (h0 : Heap) (n0 : Nat) (v : Option Value) (h : Heap) (L : List Loc) : Prop := (v = some (.ref sv)) ∧ (Fr n0 L) ∧ (h = h0)
set_option maxRecDepth 65536 in
set_option maxHeartbeats 40000000 in
theorem rm_get_metadata (l : Launch) (Z : State) (a0 : Array Value) (hw : ∀ d ∈ tables_1, d.before a0 Z = true) (ws : List Jvm.Cond) (a1 : Addr) (sv : Addr) (h0 : Heap) (n0 : Nat) (Z0 : n0 ≤ h0.size) (O0 : Old Z n0 h0) (F_metadata_a1 : Fld Z h0 a1 "com/example/federant/federant/saml/IdpEndpoints" "metadata" "Ljava/lang/String;" (.ref sv)) :
    MetFree l y_40 (head1 (Jvm.Cond.code y_40 prog_26_method_7_code 1 (some (.object "java/lang/String")) :: ws) ({ frames := 0, cells := 0, slots := 0, locals := 0 } : Room)) (fun a U => a = #[(.ref a1)] ∧ Z.Warmed39 U.vm ∧ U.heap = h0) (fun _ _ _ _ _ => True) (fun _ U o U' => ∃ v L, o = .returned v ∧ Q_rm_get_metadata Z a1 sv h0 n0 v U'.heap L ∧ FrameEnd U o U' L ({ frames := 0, cells := 0, slots := 0, locals := 0 } : Room).cells ({ frames := 0, cells := 0, slots := 0, locals := 0 } : Room).slots) := by
  refine MetFree.of_bodySF (plainFor_of_name pn_10) hisR ?_
  intro p e s m args below meth c s₁ Bd hml0 hP hK
  obtain ⟨rfl, hZ, hh⟩ := hP
  have hx := Bd.exec
  have hby := Bd.bytes
  have hml : c.maxLocals = 1 := hml0
  have hown : s.vm.findClass "com/example/federant/federant/saml/IdpEndpoints" = some m.cls := findClass_of_methodNamed Bd.named
  have hnm := (name_of_methodNamed Bd.named Bd.method).1
  have X0 : Stand p l e ({ frames := 0, cells := 0, slots := 0, locals := 0 } : Room) s m #[(.ref a1)] below meth c s₁ [] 0 0 := Stand.of_body Bd
  have e0 : s₁.heap = h0 := by rw [← hh, Bd.state]; rfl
  have N0 := Fr.nil n0
  have KC : Keep h0 h0 [] := Keep.refl h0 _
  have pre0 : ∀ t, Steps p.tables e below (s₁.setTop (mkF m 0 #[vr a1] [])) t → Steps p.tables e below (s₁.setTop (entryFrame m #[(.ref a1)] 1)) t := fun t k => castTop (ef_rm_get_metadata m a1) k
  obtain ⟨T1, X1, e1, st1⟩ := getF X0 hx hZ hown (host := "") (Or.inl (ww hw 166 rfl)) Via.refl e0 F_metadata_a1 (g := (mkF m 1 #[vr a1] [(.ref a1)])) rfl rfl (hb hby d39_1)
  obtain ⟨fs, hr, hrun, hended, hW, hsame⟩ := X1.leave (v := some (.ref sv)) (fun h => by rw [Bd.returns] at h; cases h)
  refine ⟨_, _, pre0 _ ?_, hrun, hended, _, _, rfl, ?_, ⟨_, rfl⟩, hW, hsame.mono (by decide) (by decide)⟩
  · show SS p e below m s₁ 0 #[vr a1] [] _
    refine XS.aloadN X0.here hx rfl (hb hby d39_0) rfl rfl ?_
    show SS p e below m s₁ 1 #[vr a1] [(.ref a1)] _
    refine st1 _ ?_
    show SS p e below m T1 4 #[vr a1] [(.ref sv)] _
    jvm_step X1.here [X1.here.top, hx, (hb hby d39_4), X1.method', Bd.returns, Value.isRef, FieldType.isReference]
    first | (intro acts; rw [hr _ acts rfl rfl rfl]) | rw [hr _ _ rfl rfl rfl]
    exact Steps.refl _
  · show Q_rm_get_metadata Z a1 sv h0 n0 _ T1.heap _
    rw [e1]
    exact ⟨rfl, N0, rfl⟩
theorem d40_0 : decode prog_26_method_8_code 0 = .ok (.aload_n 0, 1) := by decide +kernel
theorem d40_1 : decode prog_26_method_8_code 1 = .ok (.getfield 16, 3) := by decide +kernel
theorem d40_4 : decode prog_26_method_8_code 4 = .ok (.areturn, 1) := by decide +kernel
theorem ef_rm_get_singleSignOn (m : MethodId) (x0 : Addr) : entryFrame m #[(.ref x0)] 1 = mkF m 0 #[vr x0] [] := by first | (simp [entryFrame, mkF, argsToLocals, Value.category]; done) | rfl
def Q_rm_get_singleSignOn (Z : State) (a1 : Addr) (sv : Addr) (h0 : Heap) (n0 : Nat) (v : Option Value) (h : Heap) (L : List Loc) : Prop := (v = some (.ref sv)) ∧ (Fr n0 L) ∧ (h = h0)
set_option maxRecDepth 65536 in
set_option maxHeartbeats 40000000 in
theorem rm_get_singleSignOn (l : Launch) (Z : State) (a0 : Array Value) (hw : ∀ d ∈ tables_1, d.before a0 Z = true) (ws : List Jvm.Cond) (a1 : Addr) (sv : Addr) (h0 : Heap) (n0 : Nat) (Z0 : n0 ≤ h0.size) (O0 : Old Z n0 h0) (F_singleSignOn_a1 : Fld Z h0 a1 "com/example/federant/federant/saml/IdpEndpoints" "singleSignOn" "Ljava/lang/String;" (.ref sv)) :
    MetFree l y_41 (head1 (Jvm.Cond.code y_41 prog_26_method_8_code 1 (some (.object "java/lang/String")) :: ws) ({ frames := 0, cells := 0, slots := 0, locals := 0 } : Room)) (fun a U => a = #[(.ref a1)] ∧ Z.Warmed39 U.vm ∧ U.heap = h0) (fun _ _ _ _ _ => True) (fun _ U o U' => ∃ v L, o = .returned v ∧ Q_rm_get_singleSignOn Z a1 sv h0 n0 v U'.heap L ∧ FrameEnd U o U' L ({ frames := 0, cells := 0, slots := 0, locals := 0 } : Room).cells ({ frames := 0, cells := 0, slots := 0, locals := 0 } : Room).slots) := by
  refine MetFree.of_bodySF (plainFor_of_name pn_10) hisR ?_
  intro p e s m args below meth c s₁ Bd hml0 hP hK
  obtain ⟨rfl, hZ, hh⟩ := hP
  have hx := Bd.exec
  have hby := Bd.bytes
  have hml : c.maxLocals = 1 := hml0
  have hown : s.vm.findClass "com/example/federant/federant/saml/IdpEndpoints" = some m.cls := findClass_of_methodNamed Bd.named
  have hnm := (name_of_methodNamed Bd.named Bd.method).1
  have X0 : Stand p l e ({ frames := 0, cells := 0, slots := 0, locals := 0 } : Room) s m #[(.ref a1)] below meth c s₁ [] 0 0 := Stand.of_body Bd
  have e0 : s₁.heap = h0 := by rw [← hh, Bd.state]; rfl
  have N0 := Fr.nil n0
  have KC : Keep h0 h0 [] := Keep.refl h0 _
  have pre0 : ∀ t, Steps p.tables e below (s₁.setTop (mkF m 0 #[vr a1] [])) t → Steps p.tables e below (s₁.setTop (entryFrame m #[(.ref a1)] 1)) t := fun t k => castTop (ef_rm_get_singleSignOn m a1) k
  obtain ⟨T1, X1, e1, st1⟩ := getF X0 hx hZ hown (host := "") (Or.inl (ww hw 168 rfl)) Via.refl e0 F_singleSignOn_a1 (g := (mkF m 1 #[vr a1] [(.ref a1)])) rfl rfl (hb hby d40_1)
  obtain ⟨fs, hr, hrun, hended, hW, hsame⟩ := X1.leave (v := some (.ref sv)) (fun h => by rw [Bd.returns] at h; cases h)
  refine ⟨_, _, pre0 _ ?_, hrun, hended, _, _, rfl, ?_, ⟨_, rfl⟩, hW, hsame.mono (by decide) (by decide)⟩
  · show SS p e below m s₁ 0 #[vr a1] [] _
    refine XS.aloadN X0.here hx rfl (hb hby d40_0) rfl rfl ?_
    show SS p e below m s₁ 1 #[vr a1] [(.ref a1)] _
    refine st1 _ ?_
    show SS p e below m T1 4 #[vr a1] [(.ref sv)] _
    jvm_step X1.here [X1.here.top, hx, (hb hby d40_4), X1.method', Bd.returns, Value.isRef, FieldType.isReference]
    first | (intro acts; rw [hr _ acts rfl rfl rfl]) | rw [hr _ _ rfl rfl rfl]
    exact Steps.refl _
  · show Q_rm_get_singleSignOn Z a1 sv h0 n0 _ T1.heap _
    rw [e1]
    exact ⟨rfl, N0, rfl⟩
theorem d41_0 : decode prog_26_method_9_code 0 = .ok (.aload_n 0, 1) := by decide +kernel
theorem d41_1 : decode prog_26_method_9_code 1 = .ok (.getfield 19, 3) := by decide +kernel
theorem d41_4 : decode prog_26_method_9_code 4 = .ok (.areturn, 1) := by decide +kernel
theorem ef_rm_get_singleLogout (m : MethodId) (x0 : Addr) : entryFrame m #[(.ref x0)] 1 = mkF m 0 #[vr x0] [] := by first | (simp [entryFrame, mkF, argsToLocals, Value.category]; done) | rfl
def Q_rm_get_singleLogout (Z : State) (a1 : Addr) (sv : Addr) (h0 : Heap) (n0 : Nat) (v : Option Value) (h : Heap) (L : List Loc) : Prop := (v = some (.ref sv)) ∧ (Fr n0 L) ∧ (h = h0)
set_option maxRecDepth 65536 in
set_option maxHeartbeats 40000000 in
theorem rm_get_singleLogout (l : Launch) (Z : State) (a0 : Array Value) (hw : ∀ d ∈ tables_1, d.before a0 Z = true) (ws : List Jvm.Cond) (a1 : Addr) (sv : Addr) (h0 : Heap) (n0 : Nat) (Z0 : n0 ≤ h0.size) (O0 : Old Z n0 h0) (F_singleLogout_a1 : Fld Z h0 a1 "com/example/federant/federant/saml/IdpEndpoints" "singleLogout" "Ljava/lang/String;" (.ref sv)) :
    MetFree l y_42 (head1 (Jvm.Cond.code y_42 prog_26_method_9_code 1 (some (.object "java/lang/String")) :: ws) ({ frames := 0, cells := 0, slots := 0, locals := 0 } : Room)) (fun a U => a = #[(.ref a1)] ∧ Z.Warmed39 U.vm ∧ U.heap = h0) (fun _ _ _ _ _ => True) (fun _ U o U' => ∃ v L, o = .returned v ∧ Q_rm_get_singleLogout Z a1 sv h0 n0 v U'.heap L ∧ FrameEnd U o U' L ({ frames := 0, cells := 0, slots := 0, locals := 0 } : Room).cells ({ frames := 0, cells := 0, slots := 0, locals := 0 } : Room).slots) := by
  refine MetFree.of_bodySF (plainFor_of_name pn_10) hisR ?_
  intro p e s m args below meth c s₁ Bd hml0 hP hK
  obtain ⟨rfl, hZ, hh⟩ := hP
  have hx := Bd.exec
  have hby := Bd.bytes
  have hml : c.maxLocals = 1 := hml0
  have hown : s.vm.findClass "com/example/federant/federant/saml/IdpEndpoints" = some m.cls := findClass_of_methodNamed Bd.named
  have hnm := (name_of_methodNamed Bd.named Bd.method).1
  have X0 : Stand p l e ({ frames := 0, cells := 0, slots := 0, locals := 0 } : Room) s m #[(.ref a1)] below meth c s₁ [] 0 0 := Stand.of_body Bd
  have e0 : s₁.heap = h0 := by rw [← hh, Bd.state]; rfl
  have N0 := Fr.nil n0
  have KC : Keep h0 h0 [] := Keep.refl h0 _
  have pre0 : ∀ t, Steps p.tables e below (s₁.setTop (mkF m 0 #[vr a1] [])) t → Steps p.tables e below (s₁.setTop (entryFrame m #[(.ref a1)] 1)) t := fun t k => castTop (ef_rm_get_singleLogout m a1) k
  obtain ⟨T1, X1, e1, st1⟩ := getF X0 hx hZ hown (host := "") (Or.inl (ww hw 170 rfl)) Via.refl e0 F_singleLogout_a1 (g := (mkF m 1 #[vr a1] [(.ref a1)])) rfl rfl (hb hby d41_1)
  obtain ⟨fs, hr, hrun, hended, hW, hsame⟩ := X1.leave (v := some (.ref sv)) (fun h => by rw [Bd.returns] at h; cases h)
  refine ⟨_, _, pre0 _ ?_, hrun, hended, _, _, rfl, ?_, ⟨_, rfl⟩, hW, hsame.mono (by decide) (by decide)⟩
  · show SS p e below m s₁ 0 #[vr a1] [] _
    refine XS.aloadN X0.here hx rfl (hb hby d41_0) rfl rfl ?_
    show SS p e below m s₁ 1 #[vr a1] [(.ref a1)] _
    refine st1 _ ?_
    show SS p e below m T1 4 #[vr a1] [(.ref sv)] _
    jvm_step X1.here [X1.here.top, hx, (hb hby d41_4), X1.method', Bd.returns, Value.isRef, FieldType.isReference]
    first | (intro acts; rw [hr _ acts rfl rfl rfl]) | rw [hr _ _ rfl rfl rfl]
    exact Steps.refl _
  · show Q_rm_get_singleLogout Z a1 sv h0 n0 _ T1.heap _
    rw [e1]
    exact ⟨rfl, N0, rfl⟩
theorem pd_26 : parseMethodDescriptor "(Ljava/lang/String;)Z" = some ⟨[(.object "java/lang/String")], some .boolean⟩ := by decide +kernel
theorem pd_27 : parseMethodDescriptor "(Ljava/lang/String;)Ljava/lang/StringBuilder;" = some ⟨[(.object "java/lang/String")], some (.object "java/lang/StringBuilder")⟩ := by decide +kernel
theorem pd_28 : parseMethodDescriptor "()Ljava/lang/String;" = some ⟨[], some (.object "java/lang/String")⟩ := by decide +kernel
theorem pd_29 : parseMethodDescriptor "(Ljava/lang/String;Ljava/lang/String;Ljava/lang/String;Ljava/lang/String;)V" = some ⟨[(.object "java/lang/String"), (.object "java/lang/String"), (.object "java/lang/String"), (.object "java/lang/String")], none⟩ := by decide +kernel
theorem d4_0 : decode prog_26_method_2_code 0 = .ok (.aload_n 0, 1) := by decide +kernel
theorem d4_1 : decode prog_26_method_2_code 1 = .ok (.ldc 22, 2) := by decide +kernel
theorem d4_3 : decode prog_26_method_2_code 3 = .ok (.invokevirtual 24, 3) := by decide +kernel
theorem d4_6 : decode prog_26_method_2_code 6 = .ok (.ifCond .eq 30, 3) := by decide +kernel
theorem d4_36 : decode prog_26_method_2_code 36 = .ok (.new 8, 3) := by decide +kernel
theorem d4_39 : decode prog_26_method_2_code 39 = .ok (.dup, 1) := by decide +kernel
theorem d4_40 : decode prog_26_method_2_code 40 = .ok (.new 32, 3) := by decide +kernel
theorem d4_43 : decode prog_26_method_2_code 43 = .ok (.dup, 1) := by decide +kernel
theorem d4_44 : decode prog_26_method_2_code 44 = .ok (.invokespecial 34, 3) := by decide +kernel
theorem d4_47 : decode prog_26_method_2_code 47 = .ok (.aload_n 0, 1) := by decide +kernel
theorem d4_48 : decode prog_26_method_2_code 48 = .ok (.invokevirtual 37, 3) := by decide +kernel
theorem d4_51 : decode prog_26_method_2_code 51 = .ok (.ldc 48, 2) := by decide +kernel
theorem d4_53 : decode prog_26_method_2_code 53 = .ok (.invokevirtual 37, 3) := by decide +kernel
theorem d4_56 : decode prog_26_method_2_code 56 = .ok (.invokevirtual 41, 3) := by decide +kernel
theorem d4_59 : decode prog_26_method_2_code 59 = .ok (.new 32, 3) := by decide +kernel
theorem d4_62 : decode prog_26_method_2_code 62 = .ok (.dup, 1) := by decide +kernel
theorem d4_63 : decode prog_26_method_2_code 63 = .ok (.invokespecial 34, 3) := by decide +kernel
theorem d4_66 : decode prog_26_method_2_code 66 = .ok (.aload_n 0, 1) := by decide +kernel
theorem d4_67 : decode prog_26_method_2_code 67 = .ok (.invokevirtual 37, 3) := by decide +kernel
theorem d4_70 : decode prog_26_method_2_code 70 = .ok (.ldc 50, 2) := by decide +kernel
theorem d4_72 : decode prog_26_method_2_code 72 = .ok (.invokevirtual 37, 3) := by decide +kernel
theorem d4_75 : decode prog_26_method_2_code 75 = .ok (.invokevirtual 41, 3) := by decide +kernel
theorem d4_78 : decode prog_26_method_2_code 78 = .ok (.new 32, 3) := by decide +kernel
theorem d4_81 : decode prog_26_method_2_code 81 = .ok (.dup, 1) := by decide +kernel
theorem d4_82 : decode prog_26_method_2_code 82 = .ok (.invokespecial 34, 3) := by decide +kernel
theorem d4_85 : decode prog_26_method_2_code 85 = .ok (.aload_n 0, 1) := by decide +kernel
theorem d4_86 : decode prog_26_method_2_code 86 = .ok (.invokevirtual 37, 3) := by decide +kernel
theorem d4_89 : decode prog_26_method_2_code 89 = .ok (.ldc 52, 2) := by decide +kernel
theorem d4_91 : decode prog_26_method_2_code 91 = .ok (.invokevirtual 37, 3) := by decide +kernel
theorem d4_94 : decode prog_26_method_2_code 94 = .ok (.invokevirtual 41, 3) := by decide +kernel
theorem d4_97 : decode prog_26_method_2_code 97 = .ok (.new 32, 3) := by decide +kernel
theorem d4_100 : decode prog_26_method_2_code 100 = .ok (.dup, 1) := by decide +kernel
theorem d4_101 : decode prog_26_method_2_code 101 = .ok (.invokespecial 34, 3) := by decide +kernel
theorem d4_104 : decode prog_26_method_2_code 104 = .ok (.aload_n 0, 1) := by decide +kernel
theorem d4_105 : decode prog_26_method_2_code 105 = .ok (.invokevirtual 37, 3) := by decide +kernel
theorem d4_108 : decode prog_26_method_2_code 108 = .ok (.ldc 54, 2) := by decide +kernel
theorem d4_110 : decode prog_26_method_2_code 110 = .ok (.invokevirtual 37, 3) := by decide +kernel
theorem d4_113 : decode prog_26_method_2_code 113 = .ok (.invokevirtual 41, 3) := by decide +kernel
theorem d4_116 : decode prog_26_method_2_code 116 = .ok (.invokespecial 56, 3) := by decide +kernel
theorem d4_119 : decode prog_26_method_2_code 119 = .ok (.areturn, 1) := by decide +kernel
theorem ef_rm_und (m : MethodId) (x0 : Addr) : entryFrame m #[(.ref x0)] 1 = mkF m 0 #[vr x0] [] := by first | (simp [entryFrame, mkF, argsToLocals, Value.category]; done) | rfl
def Q_rm_und (Z : State) (a1 : Addr) (ta : Addr) (k : ClassId) (z : Int32) (vs : List Value) (v1 : List Value) (wA : List Value) (mA : Int32) (uA : List Value) (wB : List Value) (mB : Int32) (uB : List Value) (wC : List Value) (mC : Int32) (uC : List Value) (wD : List Value) (mD : Int32) (uD : List Value) (zc : Int32) (h0 : Heap) (n0 : Nat) (v : Option Value) (h : Heap) (L : List Loc) : Prop := ∃ e0 : Addr, ∃ sA : Addr, ∃ tA : Addr, ∃ kA : ClassId, ∃ sB : Addr, ∃ tB : Addr, ∃ kB : ClassId, ∃ sC : Addr, ∃ tC : Addr, ∃ kC : ClassId, ∃ sD : Addr, ∃ tD : Addr, ∃ kD : ClassId, (v = some (.ref e0)) ∧ (Fr n0 L) ∧ (Keep h0 h []) ∧ (h0.size ≤ e0) ∧ (Exa Z h e0 "com/example/federant/federant/saml/IdpEndpoints") ∧ (Fld Z h e0 "com/example/federant/federant/saml/IdpEndpoints" "entityId" "Ljava/lang/String;" (.ref sA)) ∧ (Fld Z h e0 "com/example/federant/federant/saml/IdpEndpoints" "metadata" "Ljava/lang/String;" (.ref sB)) ∧ (Fld Z h e0 "com/example/federant/federant/saml/IdpEndpoints" "singleSignOn" "Ljava/lang/String;" (.ref sC)) ∧ (Fld Z h e0 "com/example/federant/federant/saml/IdpEndpoints" "singleLogout" "Ljava/lang/String;" (.ref sD)) ∧ (Exa Z h sA "java/lang/String") ∧ (Fld Z h sA "java/lang/String" "value" "[B" (.ref tA)) ∧ (Fld Z h sA "java/lang/String" "coder" "B" (.int (0 : Int32))) ∧ (Arv Z h tA kA .byte mA uA (.int (0 : Int32))) ∧ (Exa Z h sB "java/lang/String") ∧ (Fld Z h sB "java/lang/String" "value" "[B" (.ref tB)) ∧ (Fld Z h sB "java/lang/String" "coder" "B" (.int (0 : Int32))) ∧ (Arv Z h tB kB .byte mB uB (.int (0 : Int32))) ∧ (Exa Z h sC "java/lang/String") ∧ (Fld Z h sC "java/lang/String" "value" "[B" (.ref tC)) ∧ (Fld Z h sC "java/lang/String" "coder" "B" (.int (0 : Int32))) ∧ (Arv Z h tC kC .byte mC uC (.int (0 : Int32))) ∧ (Exa Z h sD "java/lang/String") ∧ (Fld Z h sD "java/lang/String" "value" "[B" (.ref tD)) ∧ (Fld Z h sD "java/lang/String" "coder" "B" (.int (0 : Int32))) ∧ (Arv Z h tD kD .byte mD uD (.int (0 : Int32)))
set_option maxRecDepth 65536 in
set_option maxHeartbeats 40000000 in
theorem rm_und (l : Launch) (Z : State) (a0 : Array Value) (hw : ∀ d ∈ tables_1, d.before a0 Z = true) (ws : List Jvm.Cond) (a1 : Addr) (ta : Addr) (k : ClassId) (z : Int32) (vs : List Value) (v1 : List Value) (wA : List Value) (mA : Int32) (uA : List Value) (wB : List Value) (mB : Int32) (uB : List Value) (wC : List Value) (mC : Int32) (uC : List Value) (wD : List Value) (mD : Int32) (uD : List Value) (zc : Int32) (h0 : Heap) (n0 : Nat) (Z0 : n0 ≤ h0.size) (O0 : Old Z n0 h0) (E_a1 : Exa Z h0 a1 "java/lang/String") (F_value_a1 : Fld Z h0 a1 "java/lang/String" "value" "[B" (.ref ta)) (F_coder_a1 : Fld Z h0 a1 "java/lang/String" "coder" "B" (.int (0 : Int32))) (V_ta : Arv Z h0 ta k .byte z vs (.int (0 : Int32))) (S_CS : Sta Z Z.heap "java/lang/String" "COMPACT_STRINGS" "Z" (.int zc)) (hz : ¬ zc = (0 : Int32)) (hD : (z = (0 : Int32)) ∨ (z = (1 : Int32) ∧ ∃ u : Int32, vs.getD (0 : Int32).toNatClampNeg (.int (0 : Int32)) = .int u ∧ ¬ u = (47 : Int32)) ∨ (z = (2 : Int32) ∧ ∃ u : Int32, vs.getD (1 : Int32).toNatClampNeg (.int (0 : Int32)) = .int u ∧ ¬ u = (47 : Int32)) ∨ (z = (3 : Int32) ∧ ∃ u : Int32, vs.getD (2 : Int32).toNatClampNeg (.int (0 : Int32)) = .int u ∧ ¬ u = (47 : Int32))) (hz0 : ¬ z < (0 : Int32)) (hf0 : (0 : Int32).toNatClampNeg + z.toNatClampNeg ≤ 16) (hv0 : ([(.int (0 : Int32)), (.int (0 : Int32)), (.int (0 : Int32)), (.int (0 : Int32)), (.int (0 : Int32)), (.int (0 : Int32)), (.int (0 : Int32)), (.int (0 : Int32)), (.int (0 : Int32)), (.int (0 : Int32)), (.int (0 : Int32)), (.int (0 : Int32)), (.int (0 : Int32)), (.int (0 : Int32)), (.int (0 : Int32)), (.int (0 : Int32))].take (0 : Int32).toNatClampNeg ++ ((List.range z.toNatClampNeg).map fun i => vs.getD ((0 : Int32).toNatClampNeg + i) (.int (0 : Int32))) ++ [(.int (0 : Int32)), (.int (0 : Int32)), (.int (0 : Int32)), (.int (0 : Int32)), (.int (0 : Int32)), (.int (0 : Int32)), (.int (0 : Int32)), (.int (0 : Int32)), (.int (0 : Int32)), (.int (0 : Int32)), (.int (0 : Int32)), (.int (0 : Int32)), (.int (0 : Int32)), (.int (0 : Int32)), (.int (0 : Int32)), (.int (0 : Int32))].drop ((0 : Int32).toNatClampNeg + z.toNatClampNeg)) = v1) (hl0 : ¬ (0 : Int32) < (((0 : Int32) + z) - (16 : Int32))) (hfA : z.toNatClampNeg + (4 : Int32).toNatClampNeg ≤ 16) (hnA : z.toNatClampNeg + (4 : Int32).toNatClampNeg ≤ v1.length) (hvA : (v1.take z.toNatClampNeg ++ ((List.range (4 : Int32).toNatClampNeg).map fun i => [(.int (47 : Int32)), (.int (105 : Int32)), (.int (100 : Int32)), (.int (112 : Int32))].getD ((0 : Int32).toNatClampNeg + i) (.int (0 : Int32))) ++ v1.drop (z.toNatClampNeg + (4 : Int32).toNatClampNeg)) = wA) (hlA : ¬ (0 : Int32) < ((z + (4 : Int32)) - (16 : Int32))) (hmA : z + (4 : Int32) = mA) (hpA : ¬ mA < (0 : Int32)) (htA : mA < (16 : Int32)) (hgA : mA.toNatClampNeg ≤ 16) (huA : ((List.replicate 16 (.int (0 : Int32))).take (0 : Int32).toNatClampNeg ++ ((List.range mA.toNatClampNeg).map fun i => wA.getD ((0 : Int32).toNatClampNeg + i) (.int (0 : Int32))) ++ (List.replicate 16 (.int (0 : Int32))).drop ((0 : Int32).toNatClampNeg + mA.toNatClampNeg)) = uA) (hfB : z.toNatClampNeg + (9 : Int32).toNatClampNeg ≤ 16) (hnB : z.toNatClampNeg + (9 : Int32).toNatClampNeg ≤ v1.length) (hvB : (v1.take z.toNatClampNeg ++ ((List.range (9 : Int32).toNatClampNeg).map fun i => [(.int (47 : Int32)), (.int (109 : Int32)), (.int (101 : Int32)), (.int (116 : Int32)), (.int (97 : Int32)), (.int (100 : Int32)), (.int (97 : Int32)), (.int (116 : Int32)), (.int (97 : Int32))].getD ((0 : Int32).toNatClampNeg + i) (.int (0 : Int32))) ++ v1.drop (z.toNatClampNeg + (9 : Int32).toNatClampNeg)) = wB) (hlB : ¬ (0 : Int32) < ((z + (9 : Int32)) - (16 : Int32))) (hmB : z + (9 : Int32) = mB) (hpB : ¬ mB < (0 : Int32)) (htB : mB < (16 : Int32)) (hgB : mB.toNatClampNeg ≤ 16) (huB : ((List.replicate 16 (.int (0 : Int32))).take (0 : Int32).toNatClampNeg ++ ((List.range mB.toNatClampNeg).map fun i => wB.getD ((0 : Int32).toNatClampNeg + i) (.int (0 : Int32))) ++ (List.replicate 16 (.int (0 : Int32))).drop ((0 : Int32).toNatClampNeg + mB.toNatClampNeg)) = uB) (hfC : z.toNatClampNeg + (4 : Int32).toNatClampNeg ≤ 16) (hnC : z.toNatClampNeg + (4 : Int32).toNatClampNeg ≤ v1.length) (hvC : (v1.take z.toNatClampNeg ++ ((List.range (4 : Int32).toNatClampNeg).map fun i => [(.int (47 : Int32)), (.int (115 : Int32)), (.int (115 : Int32)), (.int (111 : Int32))].getD ((0 : Int32).toNatClampNeg + i) (.int (0 : Int32))) ++ v1.drop (z.toNatClampNeg + (4 : Int32).toNatClampNeg)) = wC) (hlC : ¬ (0 : Int32) < ((z + (4 : Int32)) - (16 : Int32))) (hmC : z + (4 : Int32) = mC) (hpC : ¬ mC < (0 : Int32)) (htC : mC < (16 : Int32)) (hgC : mC.toNatClampNeg ≤ 16) (huC : ((List.replicate 16 (.int (0 : Int32))).take (0 : Int32).toNatClampNeg ++ ((List.range mC.toNatClampNeg).map fun i => wC.getD ((0 : Int32).toNatClampNeg + i) (.int (0 : Int32))) ++ (List.replicate 16 (.int (0 : Int32))).drop ((0 : Int32).toNatClampNeg + mC.toNatClampNeg)) = uC) (hfD : z.toNatClampNeg + (4 : Int32).toNatClampNeg ≤ 16) (hnD : z.toNatClampNeg + (4 : Int32).toNatClampNeg ≤ v1.length) (hvD : (v1.take z.toNatClampNeg ++ ((List.range (4 : Int32).toNatClampNeg).map fun i => [(.int (47 : Int32)), (.int (115 : Int32)), (.int (108 : Int32)), (.int (111 : Int32))].getD ((0 : Int32).toNatClampNeg + i) (.int (0 : Int32))) ++ v1.drop (z.toNatClampNeg + (4 : Int32).toNatClampNeg)) = wD) (hlD : ¬ (0 : Int32) < ((z + (4 : Int32)) - (16 : Int32))) (hmD : z + (4 : Int32) = mD) (hpD : ¬ mD < (0 : Int32)) (htD : mD < (16 : Int32)) (hgD : mD.toNatClampNeg ≤ 16) (huD : ((List.replicate 16 (.int (0 : Int32))).take (0 : Int32).toNatClampNeg ++ ((List.range mD.toNatClampNeg).map fun i => wD.getD ((0 : Int32).toNatClampNeg + i) (.int (0 : Int32))) ++ (List.replicate 16 (.int (0 : Int32))).drop ((0 : Int32).toNatClampNeg + mD.toNatClampNeg)) = uD) :
    MetFree l y_43 (head1 (Jvm.Cond.code y_43 prog_26_method_2_code 1 (some (.object "com/example/federant/federant/saml/IdpEndpoints")) :: ws) ({ frames := 6, cells := 27, slots := 272, locals := 96 } : Room)) (fun a U => a = #[(.ref a1)] ∧ Z.Warmed39 U.vm ∧ U.heap = h0 ∧ CHv Z EL U.vm h0) (fun _ _ _ _ _ => True) (fun _ U o U' => ∃ v L, o = .returned v ∧ Q_rm_und Z a1 ta k z vs v1 wA mA uA wB mB uB wC mC uC wD mD uD zc h0 n0 v U'.heap L ∧ CHr Z EL U.vm U.heap U'.vm U'.heap ∧ ReturnedEndW U o U' L ({ frames := 6, cells := 27, slots := 272, locals := 96 } : Room).cells ({ frames := 6, cells := 27, slots := 272, locals := 96 } : Room).slots) := by
  refine MetFree.of_bodySF (plainFor_of_name pn_10) hisR ?_
  intro p e s m args below meth c s₁ Bd hml0 hP hK
  obtain ⟨rfl, hZ0, hh, hC0⟩ := hP
  have hx := Bd.exec
  have hby := Bd.bytes
  have hml : c.maxLocals = 1 := hml0
  have hown : (s.setVm s.vm).vm.findClass "com/example/federant/federant/saml/IdpEndpoints" = some m.cls := findClass_of_methodNamed Bd.named
  have hnm := (name_of_methodNamed Bd.named Bd.method).1
  have X0 : Stand p l e ({ frames := 6, cells := 27, slots := 272, locals := 96 } : Room) (s.setVm s.vm) m #[(.ref a1)] below meth c s₁ [] 0 0 := Stand.of_body Bd
  have e0 : s₁.heap = h0 := by rw [← hh, Bd.state]; rfl
  have N0 := Fr.nil n0
  have KC : Keep h0 h0 [] := Keep.refl h0 _
  have pre0 : ∀ t, Steps p.tables e below (s₁.setTop (mkF m 0 #[vr a1] [])) t → Steps p.tables e below (s₁.setTop (entryFrame m #[(.ref a1)] 1)) t := fun t k => castTop (ef_rm_und m a1) k
  have hZ : Z.Warmed39 (s.setVm s.vm).vm := hZ0
  have hEL := own_hEL hw
  have wS := own_wS hw
  have hS : s.Since s.vm 0 := (State.WarmedH.refl s).since 0
  have hk : 0 ≤ h0.size := Nat.zero_le _
  have hC : CHr Z EL s.vm h0 s.vm h0 := CHr.refl hC0
  obtain ⟨sa1, T1, h1, kx1, sb1, kc1, X1, e1, E1, hS1, hk1, hZ1, hown1, Ex1, Fc1, Fv1, Vv1, -, -, C1, -, nx1, st1⟩ := ldcCH X0 hx hZ hown (ww hw 26 rfl) wS e0 hS hk hEL (by decide) hC.1 (vs := [(.int (47 : Int32))]) (z := (1 : Int32)) ⟨by decide, by first | rfl | decide⟩ (by decide) (by first | rfl | decide) (g := (mkF m 1 #[vr a1] [(.ref a1)])) rfl (hb hby d4_1) (n := 4) (by decide) (by decide) (by decide) (by decide)
  replace E_a1 := E_a1.ext E1
  replace F_value_a1 := F_value_a1.ext E1
  replace F_coder_a1 := F_coder_a1.ext E1
  replace V_ta := V_ta.ext E1
  replace O0 := O0.ext E1
  replace KC := KC.ext E1
  replace hC := hC.trans C1
  replace hZ := hZ1
  replace hown := hown1
  replace hS := hS1
  replace hk := hk1
  obtain ⟨cq2, kq2, q2a, q2b, q2c⟩ := isOf hZ e1 E_a1
  obtain ⟨_, _, ⟨T2, L2, kz2, nz2⟩, -, X2, ⟨Lc2, hQ2, l2, y2, z2⟩, st2⟩ := X1.virtualBack hx (y := y_34) (z := y_34) hown (mvT hZ (ww hw 27 rfl)) (mvT hZ (ww hw 28 rfl)) (notFace_of_selects (args := #[]) (mvT hZ (ww hw 30 rfl))) (mvT hZ (ww hw 30 rfl)) (mvT hZ (ww hw 29 rfl)) (by decide) (backOf (W := 0) (rm_ew l Z a0 hw [] a1 sa1 ta k z vs sb1 kc1 (47 : Int32) zc h1 n0 (Nat.le_trans Z0 KC.1) O0 E_a1 F_value_a1 F_coder_a1 V_ta Ex1 Fv1 Fc1 Vv1 S_CS hz hD) hZ (ww hw 31 rfl) (ww hw 3 rfl) (by decide) (by decide)) q2a q2c (g := (mkF m 3 #[vr a1] [(.ref sa1), (.ref a1)])) rfl (by rw [hml]; rfl) (Steps.refl _) (argsL := [(.ref sa1)]) (rest := []) (lenOf pd_26 rfl) rfl (by show 2 * 0 + _ ≤ _; exact Nat.le_of_eq rfl) (hb hby d4_3) (fun _ _ => ⟨rfl, e1, (by decide : 2 + 0 ≤ _), (by decide : 8 + 0 ≤ _)⟩)
  dsimp only [Pt.U, Pt.locs, Pt.cells, Pt.slots] at X2 l2 y2 z2 st2 hQ2
  subst l2 y2 z2
  obtain ⟨rfl, N2q, e2⟩ := hQ2
  have N2 := Fr.app N0 N2q
  obtain ⟨T3, h3, X3, e3, E3, A3, D3, -, st3⟩ := newO X2 hx hZ hown (ww hw 48 rfl) (ww hw 49 rfl) (ww hw 24 rfl) e2 (g := (mkF m 36 #[vr a1] [])) rfl (hb hby d4_36) (by decide) (by decide)
  obtain ⟨b3, g3⟩ : ∃ z, z = h1.size := ⟨_, rfl⟩
  rw [← g3] at A3 D3 st3
  have ne_a1_b3 : a1 ≠ b3 := Nat.ne_of_lt (Nat.lt_of_lt_of_le E_a1.lt (Nat.le_of_eq g3.symm))
  have ne_ta_b3 : ta ≠ b3 := Nat.ne_of_lt (Nat.lt_of_lt_of_le V_ta.lt (Nat.le_of_eq g3.symm))
  have ne_sa1_b3 : sa1 ≠ b3 := Nat.ne_of_lt (Nat.lt_of_lt_of_le Ex1.lt (Nat.le_of_eq g3.symm))
  have ne_sb1_b3 : sb1 ≠ b3 := Nat.ne_of_lt (Nat.lt_of_lt_of_le Vv1.lt (Nat.le_of_eq g3.symm))
  have g_b3 : n0 ≤ b3 := Nat.le_trans (Nat.le_trans Z0 KC.1) (Nat.le_of_eq g3.symm)
  have sz_b3 : h0.size ≤ b3 := Nat.le_trans KC.1 (Nat.le_of_eq g3.symm)
  replace hk := Nat.le_trans hk E3.1
  replace hC := hC.trans (CHr.ext E3 hC.1)
  replace E_a1 := E_a1.ext E3
  replace F_value_a1 := F_value_a1.ext E3
  replace F_coder_a1 := F_coder_a1.ext E3
  replace V_ta := V_ta.ext E3
  replace Ex1 := Ex1.ext E3
  replace Fc1 := Fc1.ext E3
  replace Fv1 := Fv1.ext E3
  replace Vv1 := Vv1.ext E3
  replace O0 := O0.ext E3
  replace KC := KC.ext E3
  have F_entityId_b3 : Fld Z h3 b3 "com/example/federant/federant/saml/IdpEndpoints" "entityId" "Ljava/lang/String;" .null := D3 (Or.inr (ww hw 165 rfl)) (ty := (.object "java/lang/String")) (by decide)
  have F_metadata_b3 : Fld Z h3 b3 "com/example/federant/federant/saml/IdpEndpoints" "metadata" "Ljava/lang/String;" .null := D3 (Or.inr (ww hw 167 rfl)) (ty := (.object "java/lang/String")) (by decide)
  have F_singleSignOn_b3 : Fld Z h3 b3 "com/example/federant/federant/saml/IdpEndpoints" "singleSignOn" "Ljava/lang/String;" .null := D3 (Or.inr (ww hw 169 rfl)) (ty := (.object "java/lang/String")) (by decide)
  have F_singleLogout_b3 : Fld Z h3 b3 "com/example/federant/federant/saml/IdpEndpoints" "singleLogout" "Ljava/lang/String;" .null := D3 (Or.inr (ww hw 171 rfl)) (ty := (.object "java/lang/String")) (by decide)
  obtain ⟨T4, h4, X4, e4, E4, A4, D4, -, st4⟩ := newO X3 hx hZ hown (ww hw 50 rfl) (ww hw 51 rfl) (ww hw 52 rfl) e3 (g := (mkF m 40 #[vr a1] [(.ref b3), (.ref b3)])) rfl (hb hby d4_40) (by decide) (by decide)
  obtain ⟨b4, g4⟩ : ∃ z, z = h3.size := ⟨_, rfl⟩
  rw [← g4] at A4 D4 st4
  have ne_a1_b4 : a1 ≠ b4 := Nat.ne_of_lt (Nat.lt_of_lt_of_le E_a1.lt (Nat.le_of_eq g4.symm))
  have ne_ta_b4 : ta ≠ b4 := Nat.ne_of_lt (Nat.lt_of_lt_of_le V_ta.lt (Nat.le_of_eq g4.symm))
  have ne_sa1_b4 : sa1 ≠ b4 := Nat.ne_of_lt (Nat.lt_of_lt_of_le Ex1.lt (Nat.le_of_eq g4.symm))
  have ne_sb1_b4 : sb1 ≠ b4 := Nat.ne_of_lt (Nat.lt_of_lt_of_le Vv1.lt (Nat.le_of_eq g4.symm))
  have ne_b3_b4 : b3 ≠ b4 := Nat.ne_of_lt (Nat.lt_of_lt_of_le A3.lt (Nat.le_of_eq g4.symm))
  have g_b4 : n0 ≤ b4 := Nat.le_trans (Nat.le_trans Z0 KC.1) (Nat.le_of_eq g4.symm)
  have sz_b4 : h0.size ≤ b4 := Nat.le_trans KC.1 (Nat.le_of_eq g4.symm)
  replace hk := Nat.le_trans hk E4.1
  replace hC := hC.trans (CHr.ext E4 hC.1)
  replace E_a1 := E_a1.ext E4
  replace F_value_a1 := F_value_a1.ext E4
  replace F_coder_a1 := F_coder_a1.ext E4
  replace V_ta := V_ta.ext E4
  replace Ex1 := Ex1.ext E4
  replace Fc1 := Fc1.ext E4
  replace Fv1 := Fv1.ext E4
  replace Vv1 := Vv1.ext E4
  replace A3 := A3.ext E4
  replace F_entityId_b3 := F_entityId_b3.ext E4
  replace F_metadata_b3 := F_metadata_b3.ext E4
  replace F_singleSignOn_b3 := F_singleSignOn_b3.ext E4
  replace F_singleLogout_b3 := F_singleLogout_b3.ext E4
  replace O0 := O0.ext E4
  replace KC := KC.ext E4
  have F_value_b4 : Fld Z h4 b4 "java/lang/AbstractStringBuilder" "value" "[B" .null := D4 (Or.inl (ww hw 65 rfl)) (ty := (.array .byte)) (by decide)
  have F_coder_b4 : Fld Z h4 b4 "java/lang/AbstractStringBuilder" "coder" "B" (.int (0 : Int32)) := D4 (Or.inl (ww hw 67 rfl)) (ty := .byte) (by decide)
  have F_count_b4 : Fld Z h4 b4 "java/lang/AbstractStringBuilder" "count" "I" (.int (0 : Int32)) := D4 (Or.inl (ww hw 80 rfl)) (ty := .int) (by decide)
  obtain ⟨_, _, ⟨T5, L5, kz5, nz5⟩, -, X5, ⟨Lc5, hQ5, l5, y5, z5⟩, st5⟩ := X4.specialBack hx (y := y_9) rfl hown (mvT hZ (ww hw 53 rfl)) (mvT hZ (ww hw 54 rfl)) (mvT hZ (ww hw 55 rfl)) (by decide) (backOf (W := 3) (rm_sbi l Z a0 hw [] b4 zc h4 n0 (Nat.le_trans Z0 KC.1) O0 F_value_b4 F_coder_b4 F_count_b4 A4 g_b4 S_CS hz) hZ (ww hw 55 rfl) (ww hw 52 rfl) (by decide) (by decide)) (g := (mkF m 44 #[vr a1] [(.ref b4), (.ref b4), (.ref b3), (.ref b3)])) rfl (by rw [hml]; rfl) (Steps.refl _) (a := b4) (argsL := []) (rest := [(.ref b4), (.ref b3), (.ref b3)]) (lenOf pd_25 rfl) rfl (by show 2 * 0 + _ ≤ _; exact Nat.le_of_eq rfl) (hb hby d4_44) (fun _ _ => ⟨rfl, e4, (by decide : 4 + 1 ≤ _), (by decide : 16 + 16 ≤ _)⟩)
  dsimp only [Pt.U, Pt.locs, Pt.cells, Pt.slots] at X5 l5 y5 z5 st5 hQ5
  subst l5 y5 z5
  obtain ⟨b5_ta, k_5, rfl, N5q, K5, sz_b5_ta, F_value_a1_5, F_coder_a1_5, F_count_a1_5, V_ta_5⟩ := hQ5
  have N5 := Fr.app N2 N5q
  have Sf_b5_ta : Safe Z EL T1.vm h4 b5_ta := Safe.new sz_b5_ta
  have ne_a1_b5_ta : a1 ≠ b5_ta := Nat.ne_of_lt (Nat.lt_of_lt_of_le E_a1.lt sz_b5_ta)
  have ne_ta_b5_ta : ta ≠ b5_ta := Nat.ne_of_lt (Nat.lt_of_lt_of_le V_ta.lt sz_b5_ta)
  have ne_sa1_b5_ta : sa1 ≠ b5_ta := Nat.ne_of_lt (Nat.lt_of_lt_of_le Ex1.lt sz_b5_ta)
  have ne_sb1_b5_ta : sb1 ≠ b5_ta := Nat.ne_of_lt (Nat.lt_of_lt_of_le Vv1.lt sz_b5_ta)
  have ne_b3_b5_ta : b3 ≠ b5_ta := Nat.ne_of_lt (Nat.lt_of_lt_of_le A3.lt sz_b5_ta)
  have ne_b4_b5_ta : b4 ≠ b5_ta := Nat.ne_of_lt (Nat.lt_of_lt_of_le A4.lt sz_b5_ta)
  have g_b5_ta : n0 ≤ b5_ta := Nat.le_trans (Nat.le_trans Z0 KC.1) sz_b5_ta
  replace sz_b5_ta : h0.size ≤ b5_ta := Nat.le_trans KC.1 sz_b5_ta
  have hsf5 := (sfS (Safe.exa (EL := EL) hZ.alike A4 (by decide) (by decide)) sf0)
  replace Sf_b5_ta := Safe.keep K5 hsf5 hC.1 Sf_b5_ta
  replace hk := Nat.le_trans hk K5.1
  replace hC := hC.trans (CHr.keep K5 hsf5 hC.1)
  replace E_a1 := E_a1.keep K5
  replace F_value_a1 := F_value_a1.keep K5 (ninS ne_a1_b4 nin0)
  replace F_coder_a1 := F_coder_a1.keep K5 (ninS ne_a1_b4 nin0)
  replace V_ta := V_ta.keep K5 (ninS ne_ta_b4 nin0)
  replace Ex1 := Ex1.keep K5
  replace Fc1 := Fc1.keep K5 (ninS ne_sa1_b4 nin0)
  replace Fv1 := Fv1.keep K5 (ninS ne_sa1_b4 nin0)
  replace Vv1 := Vv1.keep K5 (ninS ne_sb1_b4 nin0)
  replace A3 := A3.keep K5
  replace F_entityId_b3 := F_entityId_b3.keep K5 (ninS ne_b3_b4 nin0)
  replace F_metadata_b3 := F_metadata_b3.keep K5 (ninS ne_b3_b4 nin0)
  replace F_singleSignOn_b3 := F_singleSignOn_b3.keep K5 (ninS ne_b3_b4 nin0)
  replace F_singleLogout_b3 := F_singleLogout_b3.keep K5 (ninS ne_b3_b4 nin0)
  replace A4 := A4.keep K5
  replace O0 := O0.keep K5 (allS g_b4 all0)
  replace KC := KC.trans K5 (allS (Or.inr sz_b4) all0)
  obtain ⟨cq6, kq6, q6a, q6b, q6c⟩ := isOf hZ rfl A4
  obtain ⟨_, _, ⟨T6, L6, kz6, nz6⟩, -, X6, ⟨Lc6, hQ6, l6, y6, z6⟩, st6⟩ := X5.virtualBack hx (y := y_15) (z := y_15) hown (mvT hZ (ww hw 68 rfl)) (mvT hZ (ww hw 69 rfl)) (notFace_of_selects (args := #[]) (mvT hZ (ww hw 71 rfl))) (mvT hZ (ww hw 71 rfl)) (mvT hZ (ww hw 70 rfl)) (by decide) (backOf (W := 2) (rm_sap l Z a0 hw [] b4 a1 ta k z vs k_5 [(.int (0 : Int32)), (.int (0 : Int32)), (.int (0 : Int32)), (.int (0 : Int32)), (.int (0 : Int32)), (.int (0 : Int32)), (.int (0 : Int32)), (.int (0 : Int32)), (.int (0 : Int32)), (.int (0 : Int32)), (.int (0 : Int32)), (.int (0 : Int32)), (.int (0 : Int32)), (.int (0 : Int32)), (.int (0 : Int32)), (.int (0 : Int32))] v1 b5_ta (0 : Int32) z zc T5.heap n0 (Nat.le_trans Z0 KC.1) O0 F_value_a1_5 F_coder_a1_5 F_count_a1_5 A4 g_b4 E_a1 F_value_a1 F_coder_a1 V_ta V_ta_5 g_b5_ta ne_ta_b5_ta (Ne.symm ne_b4_b5_ta) ne_ta_b4 S_CS hz hl0 (by simp) (by decide) hz0 hf0 hf0 hv0) hZ (ww hw 72 rfl) (ww hw 52 rfl) (by decide) (by decide)) q6a q6c (g := (mkF m 48 #[vr a1] [(.ref a1), (.ref b4), (.ref b3), (.ref b3)])) rfl (by rw [hml]; rfl) (Steps.refl _) (argsL := [(.ref a1)]) (rest := [(.ref b3), (.ref b3)]) (lenOf pd_27 rfl) rfl (by show 2 * 0 + _ ≤ _; exact Nat.le_of_eq rfl) (hb hby d4_48) (fun _ _ => ⟨rfl, rfl, (by decide : 5 + 0 ≤ _), (by decide : 32 + 0 ≤ _)⟩)
  dsimp only [Pt.U, Pt.locs, Pt.cells, Pt.slots] at X6 l6 y6 z6 st6 hQ6
  subst l6 y6 z6
  obtain ⟨rfl, N6q, K6, F_value_a1_6, F_coder_a1_6, F_count_a1_6, V_tb_6⟩ := hQ6
  have N6 := Fr.app N5 N6q
  have hsf6 := (sfS (Safe.exa (EL := EL) hZ.alike A4 (by decide) (by decide)) (sfS Sf_b5_ta sf0))
  replace Sf_b5_ta := Safe.keep K6 hsf6 hC.1 Sf_b5_ta
  replace hk := Nat.le_trans hk K6.1
  replace hC := hC.trans (CHr.keep K6 hsf6 hC.1)
  replace E_a1 := E_a1.keep K6
  replace F_value_a1 := F_value_a1.keep K6 (ninS ne_a1_b4 (ninS ne_a1_b5_ta nin0))
  replace F_coder_a1 := F_coder_a1.keep K6 (ninS ne_a1_b4 (ninS ne_a1_b5_ta nin0))
  replace V_ta := V_ta.keep K6 (ninS ne_ta_b4 (ninS ne_ta_b5_ta nin0))
  replace Ex1 := Ex1.keep K6
  replace Fc1 := Fc1.keep K6 (ninS ne_sa1_b4 (ninS ne_sa1_b5_ta nin0))
  replace Fv1 := Fv1.keep K6 (ninS ne_sa1_b4 (ninS ne_sa1_b5_ta nin0))
  replace Vv1 := Vv1.keep K6 (ninS ne_sb1_b4 (ninS ne_sb1_b5_ta nin0))
  replace A3 := A3.keep K6
  replace F_entityId_b3 := F_entityId_b3.keep K6 (ninS ne_b3_b4 (ninS ne_b3_b5_ta nin0))
  replace F_metadata_b3 := F_metadata_b3.keep K6 (ninS ne_b3_b4 (ninS ne_b3_b5_ta nin0))
  replace F_singleSignOn_b3 := F_singleSignOn_b3.keep K6 (ninS ne_b3_b4 (ninS ne_b3_b5_ta nin0))
  replace F_singleLogout_b3 := F_singleLogout_b3.keep K6 (ninS ne_b3_b4 (ninS ne_b3_b5_ta nin0))
  replace A4 := A4.keep K6
  replace O0 := O0.keep K6 (allS g_b4 (allS g_b5_ta all0))
  replace KC := KC.trans K6 (allS (Or.inr sz_b4) (allS (Or.inr sz_b5_ta) all0))
  obtain ⟨sa7, T7, h7, kx7, sb7, kc7, X7, e7, E7, hS7, hk7, hZ7, hown7, Ex7, Fc7, Fv7, Vv7, -, -, C7, -, nx7, st7⟩ := ldcCH X6 hx hZ hown (ww hw 106 rfl) wS rfl hS hk hEL (by decide) hC.1 (vs := [(.int (47 : Int32)), (.int (105 : Int32)), (.int (100 : Int32)), (.int (112 : Int32))]) (z := (4 : Int32)) ⟨by decide, by first | rfl | decide⟩ (by decide) (by first | rfl | decide) (g := (mkF m 51 #[vr a1] [(.ref b4), (.ref b3), (.ref b3)])) rfl (hb hby d4_51) (n := 16) (by decide) (by decide) (by decide) (by decide)
  replace Sf_b5_ta := C7.safe V_tb_6.lt Sf_b5_ta
  replace E_a1 := E_a1.ext E7
  replace F_value_a1 := F_value_a1.ext E7
  replace F_coder_a1 := F_coder_a1.ext E7
  replace V_ta := V_ta.ext E7
  replace Ex1 := Ex1.ext E7
  replace Fc1 := Fc1.ext E7
  replace Fv1 := Fv1.ext E7
  replace Vv1 := Vv1.ext E7
  replace A3 := A3.ext E7
  replace F_entityId_b3 := F_entityId_b3.ext E7
  replace F_metadata_b3 := F_metadata_b3.ext E7
  replace F_singleSignOn_b3 := F_singleSignOn_b3.ext E7
  replace F_singleLogout_b3 := F_singleLogout_b3.ext E7
  replace A4 := A4.ext E7
  replace F_value_a1_6 := F_value_a1_6.ext E7
  replace F_coder_a1_6 := F_coder_a1_6.ext E7
  replace F_count_a1_6 := F_count_a1_6.ext E7
  replace V_tb_6 := V_tb_6.ext E7
  replace O0 := O0.ext E7
  replace KC := KC.ext E7
  replace hC := hC.trans C7
  replace hZ := hZ7
  replace hown := hown7
  replace hS := hS7
  replace hk := hk7
  have nx7_b5_ta := nx7 _ Sf_b5_ta
  have nev_b4_sb7 : b4 ≠ sb7 := Exa.neArv A4 Vv7 (ww hw 51 rfl)
  obtain ⟨cq8, kq8, q8a, q8b, q8c⟩ := isOf hZ e7 A4
  obtain ⟨_, _, ⟨T8, L8, kz8, nz8⟩, -, X8, ⟨Lc8, hQ8, l8, y8, z8⟩, st8⟩ := X7.virtualBack hx (y := y_15) (z := y_15) hown (mvT hZ (ww hw 68 rfl)) (mvT hZ (ww hw 69 rfl)) (notFace_of_selects (args := #[]) (mvT hZ (ww hw 71 rfl))) (mvT hZ (ww hw 71 rfl)) (mvT hZ (ww hw 70 rfl)) (by decide) (backOf (W := 2) (rm_sap l Z a0 hw [] b4 sa7 sb7 kc7 (4 : Int32) [(.int (47 : Int32)), (.int (105 : Int32)), (.int (100 : Int32)), (.int (112 : Int32))] k_5 v1 wA b5_ta z mA zc h7 n0 (Nat.le_trans Z0 KC.1) O0 F_value_a1_6 F_coder_a1_6 F_count_a1_6 A4 g_b4 Ex7 Fv7 Fc7 Vv7 V_tb_6 g_b5_ta (Ne.symm nx7_b5_ta.2) (Ne.symm ne_b4_b5_ta) (Ne.symm nev_b4_sb7) S_CS hz hlA hmA hz0 (by decide) hfA hnA hvA) hZ (ww hw 72 rfl) (ww hw 52 rfl) (by decide) (by decide)) q8a q8c (g := (mkF m 53 #[vr a1] [(.ref sa7), (.ref b4), (.ref b3), (.ref b3)])) rfl (by rw [hml]; rfl) (Steps.refl _) (argsL := [(.ref sa7)]) (rest := [(.ref b3), (.ref b3)]) (lenOf pd_27 rfl) rfl (by show 2 * 0 + _ ≤ _; exact Nat.le_of_eq rfl) (hb hby d4_53) (fun _ _ => ⟨rfl, e7, (by decide : 7 + 0 ≤ _), (by decide : 52 + 0 ≤ _)⟩)
  dsimp only [Pt.U, Pt.locs, Pt.cells, Pt.slots] at X8 l8 y8 z8 st8 hQ8
  subst l8 y8 z8
  obtain ⟨rfl, N8q, K8, F_value_a1_8, F_coder_a1_8, F_count_a1_8, V_tb_8⟩ := hQ8
  have N8 := Fr.app N6 N8q
  have nec_sa7_b4 : sa7 ≠ b4 := Exa.ne Ex7 A4 (by decide)
  have hsf8 := (sfS (Safe.exa (EL := EL) hZ.alike A4 (by decide) (by decide)) (sfS Sf_b5_ta sf0))
  replace Sf_b5_ta := Safe.keep K8 hsf8 hC.1 Sf_b5_ta
  replace hk := Nat.le_trans hk K8.1
  replace hC := hC.trans (CHr.keep K8 hsf8 hC.1)
  replace E_a1 := E_a1.keep K8
  replace F_value_a1 := F_value_a1.keep K8 (ninS ne_a1_b4 (ninS ne_a1_b5_ta nin0))
  replace F_coder_a1 := F_coder_a1.keep K8 (ninS ne_a1_b4 (ninS ne_a1_b5_ta nin0))
  replace V_ta := V_ta.keep K8 (ninS ne_ta_b4 (ninS ne_ta_b5_ta nin0))
  replace Ex1 := Ex1.keep K8
  replace Fc1 := Fc1.keep K8 (ninS ne_sa1_b4 (ninS ne_sa1_b5_ta nin0))
  replace Fv1 := Fv1.keep K8 (ninS ne_sa1_b4 (ninS ne_sa1_b5_ta nin0))
  replace Vv1 := Vv1.keep K8 (ninS ne_sb1_b4 (ninS ne_sb1_b5_ta nin0))
  replace A3 := A3.keep K8
  replace F_entityId_b3 := F_entityId_b3.keep K8 (ninS ne_b3_b4 (ninS ne_b3_b5_ta nin0))
  replace F_metadata_b3 := F_metadata_b3.keep K8 (ninS ne_b3_b4 (ninS ne_b3_b5_ta nin0))
  replace F_singleSignOn_b3 := F_singleSignOn_b3.keep K8 (ninS ne_b3_b4 (ninS ne_b3_b5_ta nin0))
  replace F_singleLogout_b3 := F_singleLogout_b3.keep K8 (ninS ne_b3_b4 (ninS ne_b3_b5_ta nin0))
  replace A4 := A4.keep K8
  replace Ex7 := Ex7.keep K8
  replace Fc7 := Fc7.keep K8 (ninS nec_sa7_b4 (ninS (Ne.symm nx7_b5_ta.1) nin0))
  replace Fv7 := Fv7.keep K8 (ninS nec_sa7_b4 (ninS (Ne.symm nx7_b5_ta.1) nin0))
  replace Vv7 := Vv7.keep K8 (ninS (Ne.symm nev_b4_sb7) (ninS (Ne.symm nx7_b5_ta.2) nin0))
  replace O0 := O0.keep K8 (allS g_b4 (allS g_b5_ta all0))
  replace KC := KC.trans K8 (allS (Or.inr sz_b4) (allS (Or.inr sz_b5_ta) all0))
  obtain ⟨cq9, kq9, q9a, q9b, q9c⟩ := isOf hZ rfl A4
  obtain ⟨_, _, ⟨T9, L9, kz9, nz9⟩, -, X9, ⟨Lc9, hQ9, l9, y9, z9⟩, st9⟩ := X8.virtualBack hx (y := y_25) (z := y_25) hown (mvT hZ (ww hw 107 rfl)) (mvT hZ (ww hw 108 rfl)) (notFace_of_selects (args := #[]) (mvT hZ (ww hw 110 rfl))) (mvT hZ (ww hw 110 rfl)) (mvT hZ (ww hw 109 rfl)) (by decide) (backOf (W := 2) (rm_tos l Z a0 hw [] b4 b5_ta mA k_5 wA uA zc T8.heap n0 (Nat.le_trans Z0 KC.1) O0 F_value_a1_8 F_coder_a1_8 F_count_a1_8 A4 V_tb_8 S_CS hz hpA htA hgA huA) hZ (ww hw 111 rfl) (ww hw 52 rfl) (by decide) (by decide)) q9a q9c (g := (mkF m 56 #[vr a1] [(.ref b4), (.ref b3), (.ref b3)])) rfl (by rw [hml]; rfl) (Steps.refl _) (argsL := []) (rest := [(.ref b3), (.ref b3)]) (lenOf pd_28 rfl) rfl (by show 2 * 0 + _ ≤ _; exact Nat.le_of_eq rfl) (hb hby d4_56) (fun _ _ => ⟨rfl, rfl, (by decide : 7 + 2 ≤ _), (by decide : 52 + 20 ≤ _)⟩)
  dsimp only [Pt.U, Pt.locs, Pt.cells, Pt.slots] at X9 l9 y9 z9 st9 hQ9
  subst l9 y9 z9
  obtain ⟨b9_s0, b9_b, k2_9, rfl, N9q, K9, sz_b9_s0, sz_b9_b, E_s0_9, F_value_s0_9, F_coder_s0_9, V_b_9⟩ := hQ9
  have N9 := Fr.app N8 N9q
  have Sf_b9_s0 : Safe Z EL T7.vm T8.heap b9_s0 := Safe.new sz_b9_s0
  have Sf_b9_b : Safe Z EL T7.vm T8.heap b9_b := Safe.new sz_b9_b
  have ne_a1_b9_s0 : a1 ≠ b9_s0 := Nat.ne_of_lt (Nat.lt_of_lt_of_le E_a1.lt sz_b9_s0)
  have ne_ta_b9_s0 : ta ≠ b9_s0 := Nat.ne_of_lt (Nat.lt_of_lt_of_le V_ta.lt sz_b9_s0)
  have ne_sa1_b9_s0 : sa1 ≠ b9_s0 := Nat.ne_of_lt (Nat.lt_of_lt_of_le Ex1.lt sz_b9_s0)
  have ne_sb1_b9_s0 : sb1 ≠ b9_s0 := Nat.ne_of_lt (Nat.lt_of_lt_of_le Vv1.lt sz_b9_s0)
  have ne_b3_b9_s0 : b3 ≠ b9_s0 := Nat.ne_of_lt (Nat.lt_of_lt_of_le A3.lt sz_b9_s0)
  have ne_b4_b9_s0 : b4 ≠ b9_s0 := Nat.ne_of_lt (Nat.lt_of_lt_of_le A4.lt sz_b9_s0)
  have ne_sa7_b9_s0 : sa7 ≠ b9_s0 := Nat.ne_of_lt (Nat.lt_of_lt_of_le Ex7.lt sz_b9_s0)
  have ne_sb7_b9_s0 : sb7 ≠ b9_s0 := Nat.ne_of_lt (Nat.lt_of_lt_of_le Vv7.lt sz_b9_s0)
  have ne_b5_ta_b9_s0 : b5_ta ≠ b9_s0 := Nat.ne_of_lt (Nat.lt_of_lt_of_le V_tb_8.lt sz_b9_s0)
  have g_b9_s0 : n0 ≤ b9_s0 := Nat.le_trans (Nat.le_trans Z0 KC.1) sz_b9_s0
  replace sz_b9_s0 : h0.size ≤ b9_s0 := Nat.le_trans KC.1 sz_b9_s0
  have ne_a1_b9_b : a1 ≠ b9_b := Nat.ne_of_lt (Nat.lt_of_lt_of_le E_a1.lt sz_b9_b)
  have ne_ta_b9_b : ta ≠ b9_b := Nat.ne_of_lt (Nat.lt_of_lt_of_le V_ta.lt sz_b9_b)
  have ne_sa1_b9_b : sa1 ≠ b9_b := Nat.ne_of_lt (Nat.lt_of_lt_of_le Ex1.lt sz_b9_b)
  have ne_sb1_b9_b : sb1 ≠ b9_b := Nat.ne_of_lt (Nat.lt_of_lt_of_le Vv1.lt sz_b9_b)
  have ne_b3_b9_b : b3 ≠ b9_b := Nat.ne_of_lt (Nat.lt_of_lt_of_le A3.lt sz_b9_b)
  have ne_b4_b9_b : b4 ≠ b9_b := Nat.ne_of_lt (Nat.lt_of_lt_of_le A4.lt sz_b9_b)
  have ne_sa7_b9_b : sa7 ≠ b9_b := Nat.ne_of_lt (Nat.lt_of_lt_of_le Ex7.lt sz_b9_b)
  have ne_sb7_b9_b : sb7 ≠ b9_b := Nat.ne_of_lt (Nat.lt_of_lt_of_le Vv7.lt sz_b9_b)
  have ne_b5_ta_b9_b : b5_ta ≠ b9_b := Nat.ne_of_lt (Nat.lt_of_lt_of_le V_tb_8.lt sz_b9_b)
  have g_b9_b : n0 ≤ b9_b := Nat.le_trans (Nat.le_trans Z0 KC.1) sz_b9_b
  replace sz_b9_b : h0.size ≤ b9_b := Nat.le_trans KC.1 sz_b9_b
  replace Sf_b5_ta := Safe.keep K9 sf0 hC.1 Sf_b5_ta
  replace Sf_b9_s0 := Safe.keep K9 sf0 hC.1 Sf_b9_s0
  replace Sf_b9_b := Safe.keep K9 sf0 hC.1 Sf_b9_b
  replace hk := Nat.le_trans hk K9.1
  replace hC := hC.trans (CHr.keep K9 sf0 hC.1)
  replace E_a1 := E_a1.keep K9
  replace F_value_a1 := F_value_a1.keep K9 nin0
  replace F_coder_a1 := F_coder_a1.keep K9 nin0
  replace V_ta := V_ta.keep K9 nin0
  replace Ex1 := Ex1.keep K9
  replace Fc1 := Fc1.keep K9 nin0
  replace Fv1 := Fv1.keep K9 nin0
  replace Vv1 := Vv1.keep K9 nin0
  replace A3 := A3.keep K9
  replace F_entityId_b3 := F_entityId_b3.keep K9 nin0
  replace F_metadata_b3 := F_metadata_b3.keep K9 nin0
  replace F_singleSignOn_b3 := F_singleSignOn_b3.keep K9 nin0
  replace F_singleLogout_b3 := F_singleLogout_b3.keep K9 nin0
  replace A4 := A4.keep K9
  replace Ex7 := Ex7.keep K9
  replace Fc7 := Fc7.keep K9 nin0
  replace Fv7 := Fv7.keep K9 nin0
  replace Vv7 := Vv7.keep K9 nin0
  replace F_value_a1_8 := F_value_a1_8.keep K9 nin0
  replace F_coder_a1_8 := F_coder_a1_8.keep K9 nin0
  replace F_count_a1_8 := F_count_a1_8.keep K9 nin0
  replace V_tb_8 := V_tb_8.keep K9 nin0
  replace O0 := O0.keep K9 all0
  replace KC := KC.trans K9 all0
  obtain ⟨T10, h10, X10, e10, E10, A10, D10, -, st10⟩ := newO X9 hx hZ hown (ww hw 50 rfl) (ww hw 51 rfl) (ww hw 52 rfl) rfl (g := (mkF m 59 #[vr a1] [(.ref b9_s0), (.ref b3), (.ref b3)])) rfl (hb hby d4_59) (by decide) (by decide)
  obtain ⟨b10, g10⟩ : ∃ z, z = T9.heap.size := ⟨_, rfl⟩
  rw [← g10] at A10 D10 st10
  have ne_a1_b10 : a1 ≠ b10 := Nat.ne_of_lt (Nat.lt_of_lt_of_le E_a1.lt (Nat.le_of_eq g10.symm))
  have ne_ta_b10 : ta ≠ b10 := Nat.ne_of_lt (Nat.lt_of_lt_of_le V_ta.lt (Nat.le_of_eq g10.symm))
  have ne_b3_b10 : b3 ≠ b10 := Nat.ne_of_lt (Nat.lt_of_lt_of_le A3.lt (Nat.le_of_eq g10.symm))
  have ne_b9_s0_b10 : b9_s0 ≠ b10 := Nat.ne_of_lt (Nat.lt_of_lt_of_le E_s0_9.lt (Nat.le_of_eq g10.symm))
  have ne_b9_b_b10 : b9_b ≠ b10 := Nat.ne_of_lt (Nat.lt_of_lt_of_le V_b_9.lt (Nat.le_of_eq g10.symm))
  have g_b10 : n0 ≤ b10 := Nat.le_trans (Nat.le_trans Z0 KC.1) (Nat.le_of_eq g10.symm)
  have sz_b10 : h0.size ≤ b10 := Nat.le_trans KC.1 (Nat.le_of_eq g10.symm)
  replace hk := Nat.le_trans hk E10.1
  replace hC := hC.trans (CHr.ext E10 hC.1)
  replace E_a1 := E_a1.ext E10
  replace F_value_a1 := F_value_a1.ext E10
  replace F_coder_a1 := F_coder_a1.ext E10
  replace V_ta := V_ta.ext E10
  replace A3 := A3.ext E10
  replace F_entityId_b3 := F_entityId_b3.ext E10
  replace F_metadata_b3 := F_metadata_b3.ext E10
  replace F_singleSignOn_b3 := F_singleSignOn_b3.ext E10
  replace F_singleLogout_b3 := F_singleLogout_b3.ext E10
  replace E_s0_9 := E_s0_9.ext E10
  replace F_value_s0_9 := F_value_s0_9.ext E10
  replace F_coder_s0_9 := F_coder_s0_9.ext E10
  replace V_b_9 := V_b_9.ext E10
  replace O0 := O0.ext E10
  replace KC := KC.ext E10
  have F_value_b10 : Fld Z h10 b10 "java/lang/AbstractStringBuilder" "value" "[B" .null := D10 (Or.inl (ww hw 65 rfl)) (ty := (.array .byte)) (by decide)
  have F_coder_b10 : Fld Z h10 b10 "java/lang/AbstractStringBuilder" "coder" "B" (.int (0 : Int32)) := D10 (Or.inl (ww hw 67 rfl)) (ty := .byte) (by decide)
  have F_count_b10 : Fld Z h10 b10 "java/lang/AbstractStringBuilder" "count" "I" (.int (0 : Int32)) := D10 (Or.inl (ww hw 80 rfl)) (ty := .int) (by decide)
  obtain ⟨_, _, ⟨T11, L11, kz11, nz11⟩, -, X11, ⟨Lc11, hQ11, l11, y11, z11⟩, st11⟩ := X10.specialBack hx (y := y_9) rfl hown (mvT hZ (ww hw 53 rfl)) (mvT hZ (ww hw 54 rfl)) (mvT hZ (ww hw 55 rfl)) (by decide) (backOf (W := 4) (rm_sbi l Z a0 hw [] b10 zc h10 n0 (Nat.le_trans Z0 KC.1) O0 F_value_b10 F_coder_b10 F_count_b10 A10 g_b10 S_CS hz) hZ (ww hw 55 rfl) (ww hw 52 rfl) (by decide) (by decide)) (g := (mkF m 63 #[vr a1] [(.ref b10), (.ref b10), (.ref b9_s0), (.ref b3), (.ref b3)])) rfl (by rw [hml]; rfl) (Steps.refl _) (a := b10) (argsL := []) (rest := [(.ref b10), (.ref b9_s0), (.ref b3), (.ref b3)]) (lenOf pd_25 rfl) rfl (by show 2 * 0 + _ ≤ _; exact Nat.le_of_eq rfl) (hb hby d4_63) (fun _ _ => ⟨rfl, e10, (by decide : 10 + 1 ≤ _), (by decide : 76 + 16 ≤ _)⟩)
  dsimp only [Pt.U, Pt.locs, Pt.cells, Pt.slots] at X11 l11 y11 z11 st11 hQ11
  subst l11 y11 z11
  obtain ⟨b11_ta, k_11, rfl, N11q, K11, sz_b11_ta, F_value_a1_11, F_coder_a1_11, F_count_a1_11, V_ta_11⟩ := hQ11
  have N11 := Fr.app N9 N11q
  have Sf_b11_ta : Safe Z EL T7.vm h10 b11_ta := Safe.new sz_b11_ta
  have ne_a1_b11_ta : a1 ≠ b11_ta := Nat.ne_of_lt (Nat.lt_of_lt_of_le E_a1.lt sz_b11_ta)
  have ne_ta_b11_ta : ta ≠ b11_ta := Nat.ne_of_lt (Nat.lt_of_lt_of_le V_ta.lt sz_b11_ta)
  have ne_b3_b11_ta : b3 ≠ b11_ta := Nat.ne_of_lt (Nat.lt_of_lt_of_le A3.lt sz_b11_ta)
  have ne_b9_s0_b11_ta : b9_s0 ≠ b11_ta := Nat.ne_of_lt (Nat.lt_of_lt_of_le E_s0_9.lt sz_b11_ta)
  have ne_b9_b_b11_ta : b9_b ≠ b11_ta := Nat.ne_of_lt (Nat.lt_of_lt_of_le V_b_9.lt sz_b11_ta)
  have ne_b10_b11_ta : b10 ≠ b11_ta := Nat.ne_of_lt (Nat.lt_of_lt_of_le A10.lt sz_b11_ta)
  have g_b11_ta : n0 ≤ b11_ta := Nat.le_trans (Nat.le_trans Z0 KC.1) sz_b11_ta
  replace sz_b11_ta : h0.size ≤ b11_ta := Nat.le_trans KC.1 sz_b11_ta
  have hsf11 := (sfS (Safe.exa (EL := EL) hZ.alike A10 (by decide) (by decide)) sf0)
  replace Sf_b11_ta := Safe.keep K11 hsf11 hC.1 Sf_b11_ta
  replace hk := Nat.le_trans hk K11.1
  replace hC := hC.trans (CHr.keep K11 hsf11 hC.1)
  replace E_a1 := E_a1.keep K11
  replace F_value_a1 := F_value_a1.keep K11 (ninS ne_a1_b10 nin0)
  replace F_coder_a1 := F_coder_a1.keep K11 (ninS ne_a1_b10 nin0)
  replace V_ta := V_ta.keep K11 (ninS ne_ta_b10 nin0)
  replace A3 := A3.keep K11
  replace F_entityId_b3 := F_entityId_b3.keep K11 (ninS ne_b3_b10 nin0)
  replace F_metadata_b3 := F_metadata_b3.keep K11 (ninS ne_b3_b10 nin0)
  replace F_singleSignOn_b3 := F_singleSignOn_b3.keep K11 (ninS ne_b3_b10 nin0)
  replace F_singleLogout_b3 := F_singleLogout_b3.keep K11 (ninS ne_b3_b10 nin0)
  replace E_s0_9 := E_s0_9.keep K11
  replace F_value_s0_9 := F_value_s0_9.keep K11 (ninS ne_b9_s0_b10 nin0)
  replace F_coder_s0_9 := F_coder_s0_9.keep K11 (ninS ne_b9_s0_b10 nin0)
  replace V_b_9 := V_b_9.keep K11 (ninS ne_b9_b_b10 nin0)
  replace A10 := A10.keep K11
  replace O0 := O0.keep K11 (allS g_b10 all0)
  replace KC := KC.trans K11 (allS (Or.inr sz_b10) all0)
  obtain ⟨cq12, kq12, q12a, q12b, q12c⟩ := isOf hZ rfl A10
  obtain ⟨_, _, ⟨T12, L12, kz12, nz12⟩, -, X12, ⟨Lc12, hQ12, l12, y12, z12⟩, st12⟩ := X11.virtualBack hx (y := y_15) (z := y_15) hown (mvT hZ (ww hw 68 rfl)) (mvT hZ (ww hw 69 rfl)) (notFace_of_selects (args := #[]) (mvT hZ (ww hw 71 rfl))) (mvT hZ (ww hw 71 rfl)) (mvT hZ (ww hw 70 rfl)) (by decide) (backOf (W := 3) (rm_sap l Z a0 hw [] b10 a1 ta k z vs k_11 [(.int (0 : Int32)), (.int (0 : Int32)), (.int (0 : Int32)), (.int (0 : Int32)), (.int (0 : Int32)), (.int (0 : Int32)), (.int (0 : Int32)), (.int (0 : Int32)), (.int (0 : Int32)), (.int (0 : Int32)), (.int (0 : Int32)), (.int (0 : Int32)), (.int (0 : Int32)), (.int (0 : Int32)), (.int (0 : Int32)), (.int (0 : Int32))] v1 b11_ta (0 : Int32) z zc T11.heap n0 (Nat.le_trans Z0 KC.1) O0 F_value_a1_11 F_coder_a1_11 F_count_a1_11 A10 g_b10 E_a1 F_value_a1 F_coder_a1 V_ta V_ta_11 g_b11_ta ne_ta_b11_ta (Ne.symm ne_b10_b11_ta) ne_ta_b10 S_CS hz hl0 (by simp) (by decide) hz0 hf0 hf0 hv0) hZ (ww hw 72 rfl) (ww hw 52 rfl) (by decide) (by decide)) q12a q12c (g := (mkF m 67 #[vr a1] [(.ref a1), (.ref b10), (.ref b9_s0), (.ref b3), (.ref b3)])) rfl (by rw [hml]; rfl) (Steps.refl _) (argsL := [(.ref a1)]) (rest := [(.ref b9_s0), (.ref b3), (.ref b3)]) (lenOf pd_27 rfl) rfl (by show 2 * 0 + _ ≤ _; exact Nat.le_of_eq rfl) (hb hby d4_67) (fun _ _ => ⟨rfl, rfl, (by decide : 11 + 0 ≤ _), (by decide : 92 + 0 ≤ _)⟩)
  dsimp only [Pt.U, Pt.locs, Pt.cells, Pt.slots] at X12 l12 y12 z12 st12 hQ12
  subst l12 y12 z12
  obtain ⟨rfl, N12q, K12, F_value_a1_12, F_coder_a1_12, F_count_a1_12, V_tb_12⟩ := hQ12
  have N12 := Fr.app N11 N12q
  have hsf12 := (sfS (Safe.exa (EL := EL) hZ.alike A10 (by decide) (by decide)) (sfS Sf_b11_ta sf0))
  replace Sf_b11_ta := Safe.keep K12 hsf12 hC.1 Sf_b11_ta
  replace hk := Nat.le_trans hk K12.1
  replace hC := hC.trans (CHr.keep K12 hsf12 hC.1)
  replace E_a1 := E_a1.keep K12
  replace F_value_a1 := F_value_a1.keep K12 (ninS ne_a1_b10 (ninS ne_a1_b11_ta nin0))
  replace F_coder_a1 := F_coder_a1.keep K12 (ninS ne_a1_b10 (ninS ne_a1_b11_ta nin0))
  replace V_ta := V_ta.keep K12 (ninS ne_ta_b10 (ninS ne_ta_b11_ta nin0))
  replace A3 := A3.keep K12
  replace F_entityId_b3 := F_entityId_b3.keep K12 (ninS ne_b3_b10 (ninS ne_b3_b11_ta nin0))
  replace F_metadata_b3 := F_metadata_b3.keep K12 (ninS ne_b3_b10 (ninS ne_b3_b11_ta nin0))
  replace F_singleSignOn_b3 := F_singleSignOn_b3.keep K12 (ninS ne_b3_b10 (ninS ne_b3_b11_ta nin0))
  replace F_singleLogout_b3 := F_singleLogout_b3.keep K12 (ninS ne_b3_b10 (ninS ne_b3_b11_ta nin0))
  replace E_s0_9 := E_s0_9.keep K12
  replace F_value_s0_9 := F_value_s0_9.keep K12 (ninS ne_b9_s0_b10 (ninS ne_b9_s0_b11_ta nin0))
  replace F_coder_s0_9 := F_coder_s0_9.keep K12 (ninS ne_b9_s0_b10 (ninS ne_b9_s0_b11_ta nin0))
  replace V_b_9 := V_b_9.keep K12 (ninS ne_b9_b_b10 (ninS ne_b9_b_b11_ta nin0))
  replace A10 := A10.keep K12
  replace O0 := O0.keep K12 (allS g_b10 (allS g_b11_ta all0))
  replace KC := KC.trans K12 (allS (Or.inr sz_b10) (allS (Or.inr sz_b11_ta) all0))
  obtain ⟨sa13, T13, h13, kx13, sb13, kc13, X13, e13, E13, hS13, hk13, hZ13, hown13, Ex13, Fc13, Fv13, Vv13, -, -, C13, -, nx13, st13⟩ := ldcCH X12 hx hZ hown (ww hw 152 rfl) wS rfl hS hk hEL (by decide) hC.1 (vs := [(.int (47 : Int32)), (.int (109 : Int32)), (.int (101 : Int32)), (.int (116 : Int32)), (.int (97 : Int32)), (.int (100 : Int32)), (.int (97 : Int32)), (.int (116 : Int32)), (.int (97 : Int32))]) (z := (9 : Int32)) ⟨by decide, by first | rfl | decide⟩ (by decide) (by first | rfl | decide) (g := (mkF m 70 #[vr a1] [(.ref b10), (.ref b9_s0), (.ref b3), (.ref b3)])) rfl (hb hby d4_70) (n := 36) (by decide) (by decide) (by decide) (by decide)
  replace Sf_b11_ta := C13.safe V_tb_12.lt Sf_b11_ta
  replace E_a1 := E_a1.ext E13
  replace F_value_a1 := F_value_a1.ext E13
  replace F_coder_a1 := F_coder_a1.ext E13
  replace V_ta := V_ta.ext E13
  replace A3 := A3.ext E13
  replace F_entityId_b3 := F_entityId_b3.ext E13
  replace F_metadata_b3 := F_metadata_b3.ext E13
  replace F_singleSignOn_b3 := F_singleSignOn_b3.ext E13
  replace F_singleLogout_b3 := F_singleLogout_b3.ext E13
  replace E_s0_9 := E_s0_9.ext E13
  replace F_value_s0_9 := F_value_s0_9.ext E13
  replace F_coder_s0_9 := F_coder_s0_9.ext E13
  replace V_b_9 := V_b_9.ext E13
  replace A10 := A10.ext E13
  replace F_value_a1_12 := F_value_a1_12.ext E13
  replace F_coder_a1_12 := F_coder_a1_12.ext E13
  replace F_count_a1_12 := F_count_a1_12.ext E13
  replace V_tb_12 := V_tb_12.ext E13
  replace O0 := O0.ext E13
  replace KC := KC.ext E13
  replace hC := hC.trans C13
  replace hZ := hZ13
  replace hown := hown13
  replace hS := hS13
  replace hk := hk13
  have nx13_b11_ta := nx13 _ Sf_b11_ta
  have nev_b10_sb13 : b10 ≠ sb13 := Exa.neArv A10 Vv13 (ww hw 51 rfl)
  obtain ⟨cq14, kq14, q14a, q14b, q14c⟩ := isOf hZ e13 A10
  obtain ⟨_, _, ⟨T14, L14, kz14, nz14⟩, -, X14, ⟨Lc14, hQ14, l14, y14, z14⟩, st14⟩ := X13.virtualBack hx (y := y_15) (z := y_15) hown (mvT hZ (ww hw 68 rfl)) (mvT hZ (ww hw 69 rfl)) (notFace_of_selects (args := #[]) (mvT hZ (ww hw 71 rfl))) (mvT hZ (ww hw 71 rfl)) (mvT hZ (ww hw 70 rfl)) (by decide) (backOf (W := 3) (rm_sap l Z a0 hw [] b10 sa13 sb13 kc13 (9 : Int32) [(.int (47 : Int32)), (.int (109 : Int32)), (.int (101 : Int32)), (.int (116 : Int32)), (.int (97 : Int32)), (.int (100 : Int32)), (.int (97 : Int32)), (.int (116 : Int32)), (.int (97 : Int32))] k_11 v1 wB b11_ta z mB zc h13 n0 (Nat.le_trans Z0 KC.1) O0 F_value_a1_12 F_coder_a1_12 F_count_a1_12 A10 g_b10 Ex13 Fv13 Fc13 Vv13 V_tb_12 g_b11_ta (Ne.symm nx13_b11_ta.2) (Ne.symm ne_b10_b11_ta) (Ne.symm nev_b10_sb13) S_CS hz hlB hmB hz0 (by decide) hfB hnB hvB) hZ (ww hw 72 rfl) (ww hw 52 rfl) (by decide) (by decide)) q14a q14c (g := (mkF m 72 #[vr a1] [(.ref sa13), (.ref b10), (.ref b9_s0), (.ref b3), (.ref b3)])) rfl (by rw [hml]; rfl) (Steps.refl _) (argsL := [(.ref sa13)]) (rest := [(.ref b9_s0), (.ref b3), (.ref b3)]) (lenOf pd_27 rfl) rfl (by show 2 * 0 + _ ≤ _; exact Nat.le_of_eq rfl) (hb hby d4_72) (fun _ _ => ⟨rfl, e13, (by decide : 13 + 0 ≤ _), (by decide : 132 + 0 ≤ _)⟩)
  dsimp only [Pt.U, Pt.locs, Pt.cells, Pt.slots] at X14 l14 y14 z14 st14 hQ14
  subst l14 y14 z14
  obtain ⟨rfl, N14q, K14, F_value_a1_14, F_coder_a1_14, F_count_a1_14, V_tb_14⟩ := hQ14
  have N14 := Fr.app N12 N14q
  have nec_sa13_b10 : sa13 ≠ b10 := Exa.ne Ex13 A10 (by decide)
  have hsf14 := (sfS (Safe.exa (EL := EL) hZ.alike A10 (by decide) (by decide)) (sfS Sf_b11_ta sf0))
  replace Sf_b11_ta := Safe.keep K14 hsf14 hC.1 Sf_b11_ta
  replace hk := Nat.le_trans hk K14.1
  replace hC := hC.trans (CHr.keep K14 hsf14 hC.1)
  replace E_a1 := E_a1.keep K14
  replace F_value_a1 := F_value_a1.keep K14 (ninS ne_a1_b10 (ninS ne_a1_b11_ta nin0))
  replace F_coder_a1 := F_coder_a1.keep K14 (ninS ne_a1_b10 (ninS ne_a1_b11_ta nin0))
  replace V_ta := V_ta.keep K14 (ninS ne_ta_b10 (ninS ne_ta_b11_ta nin0))
  replace A3 := A3.keep K14
  replace F_entityId_b3 := F_entityId_b3.keep K14 (ninS ne_b3_b10 (ninS ne_b3_b11_ta nin0))
  replace F_metadata_b3 := F_metadata_b3.keep K14 (ninS ne_b3_b10 (ninS ne_b3_b11_ta nin0))
  replace F_singleSignOn_b3 := F_singleSignOn_b3.keep K14 (ninS ne_b3_b10 (ninS ne_b3_b11_ta nin0))
  replace F_singleLogout_b3 := F_singleLogout_b3.keep K14 (ninS ne_b3_b10 (ninS ne_b3_b11_ta nin0))
  replace E_s0_9 := E_s0_9.keep K14
  replace F_value_s0_9 := F_value_s0_9.keep K14 (ninS ne_b9_s0_b10 (ninS ne_b9_s0_b11_ta nin0))
  replace F_coder_s0_9 := F_coder_s0_9.keep K14 (ninS ne_b9_s0_b10 (ninS ne_b9_s0_b11_ta nin0))
  replace V_b_9 := V_b_9.keep K14 (ninS ne_b9_b_b10 (ninS ne_b9_b_b11_ta nin0))
  replace A10 := A10.keep K14
  replace Ex13 := Ex13.keep K14
  replace Fc13 := Fc13.keep K14 (ninS nec_sa13_b10 (ninS (Ne.symm nx13_b11_ta.1) nin0))
  replace Fv13 := Fv13.keep K14 (ninS nec_sa13_b10 (ninS (Ne.symm nx13_b11_ta.1) nin0))
  replace Vv13 := Vv13.keep K14 (ninS (Ne.symm nev_b10_sb13) (ninS (Ne.symm nx13_b11_ta.2) nin0))
  replace O0 := O0.keep K14 (allS g_b10 (allS g_b11_ta all0))
  replace KC := KC.trans K14 (allS (Or.inr sz_b10) (allS (Or.inr sz_b11_ta) all0))
  obtain ⟨cq15, kq15, q15a, q15b, q15c⟩ := isOf hZ rfl A10
  obtain ⟨_, _, ⟨T15, L15, kz15, nz15⟩, -, X15, ⟨Lc15, hQ15, l15, y15, z15⟩, st15⟩ := X14.virtualBack hx (y := y_25) (z := y_25) hown (mvT hZ (ww hw 107 rfl)) (mvT hZ (ww hw 108 rfl)) (notFace_of_selects (args := #[]) (mvT hZ (ww hw 110 rfl))) (mvT hZ (ww hw 110 rfl)) (mvT hZ (ww hw 109 rfl)) (by decide) (backOf (W := 3) (rm_tos l Z a0 hw [] b10 b11_ta mB k_11 wB uB zc T14.heap n0 (Nat.le_trans Z0 KC.1) O0 F_value_a1_14 F_coder_a1_14 F_count_a1_14 A10 V_tb_14 S_CS hz hpB htB hgB huB) hZ (ww hw 111 rfl) (ww hw 52 rfl) (by decide) (by decide)) q15a q15c (g := (mkF m 75 #[vr a1] [(.ref b10), (.ref b9_s0), (.ref b3), (.ref b3)])) rfl (by rw [hml]; rfl) (Steps.refl _) (argsL := []) (rest := [(.ref b9_s0), (.ref b3), (.ref b3)]) (lenOf pd_28 rfl) rfl (by show 2 * 0 + _ ≤ _; exact Nat.le_of_eq rfl) (hb hby d4_75) (fun _ _ => ⟨rfl, rfl, (by decide : 13 + 2 ≤ _), (by decide : 132 + 20 ≤ _)⟩)
  dsimp only [Pt.U, Pt.locs, Pt.cells, Pt.slots] at X15 l15 y15 z15 st15 hQ15
  subst l15 y15 z15
  obtain ⟨b15_s0, b15_b, k2_15, rfl, N15q, K15, sz_b15_s0, sz_b15_b, E_s0_15, F_value_s0_15, F_coder_s0_15, V_b_15⟩ := hQ15
  have N15 := Fr.app N14 N15q
  have Sf_b15_s0 : Safe Z EL T13.vm T14.heap b15_s0 := Safe.new sz_b15_s0
  have Sf_b15_b : Safe Z EL T13.vm T14.heap b15_b := Safe.new sz_b15_b
  have ne_a1_b15_s0 : a1 ≠ b15_s0 := Nat.ne_of_lt (Nat.lt_of_lt_of_le E_a1.lt sz_b15_s0)
  have ne_ta_b15_s0 : ta ≠ b15_s0 := Nat.ne_of_lt (Nat.lt_of_lt_of_le V_ta.lt sz_b15_s0)
  have ne_b3_b15_s0 : b3 ≠ b15_s0 := Nat.ne_of_lt (Nat.lt_of_lt_of_le A3.lt sz_b15_s0)
  have ne_b9_s0_b15_s0 : b9_s0 ≠ b15_s0 := Nat.ne_of_lt (Nat.lt_of_lt_of_le E_s0_9.lt sz_b15_s0)
  have ne_b9_b_b15_s0 : b9_b ≠ b15_s0 := Nat.ne_of_lt (Nat.lt_of_lt_of_le V_b_9.lt sz_b15_s0)
  have ne_b10_b15_s0 : b10 ≠ b15_s0 := Nat.ne_of_lt (Nat.lt_of_lt_of_le A10.lt sz_b15_s0)
  have ne_sa13_b15_s0 : sa13 ≠ b15_s0 := Nat.ne_of_lt (Nat.lt_of_lt_of_le Ex13.lt sz_b15_s0)
  have ne_sb13_b15_s0 : sb13 ≠ b15_s0 := Nat.ne_of_lt (Nat.lt_of_lt_of_le Vv13.lt sz_b15_s0)
  have ne_b11_ta_b15_s0 : b11_ta ≠ b15_s0 := Nat.ne_of_lt (Nat.lt_of_lt_of_le V_tb_14.lt sz_b15_s0)
  have g_b15_s0 : n0 ≤ b15_s0 := Nat.le_trans (Nat.le_trans Z0 KC.1) sz_b15_s0
  replace sz_b15_s0 : h0.size ≤ b15_s0 := Nat.le_trans KC.1 sz_b15_s0
  have ne_a1_b15_b : a1 ≠ b15_b := Nat.ne_of_lt (Nat.lt_of_lt_of_le E_a1.lt sz_b15_b)
  have ne_ta_b15_b : ta ≠ b15_b := Nat.ne_of_lt (Nat.lt_of_lt_of_le V_ta.lt sz_b15_b)
  have ne_b3_b15_b : b3 ≠ b15_b := Nat.ne_of_lt (Nat.lt_of_lt_of_le A3.lt sz_b15_b)
  have ne_b9_s0_b15_b : b9_s0 ≠ b15_b := Nat.ne_of_lt (Nat.lt_of_lt_of_le E_s0_9.lt sz_b15_b)
  have ne_b9_b_b15_b : b9_b ≠ b15_b := Nat.ne_of_lt (Nat.lt_of_lt_of_le V_b_9.lt sz_b15_b)
  have ne_b10_b15_b : b10 ≠ b15_b := Nat.ne_of_lt (Nat.lt_of_lt_of_le A10.lt sz_b15_b)
  have ne_sa13_b15_b : sa13 ≠ b15_b := Nat.ne_of_lt (Nat.lt_of_lt_of_le Ex13.lt sz_b15_b)
  have ne_sb13_b15_b : sb13 ≠ b15_b := Nat.ne_of_lt (Nat.lt_of_lt_of_le Vv13.lt sz_b15_b)
  have ne_b11_ta_b15_b : b11_ta ≠ b15_b := Nat.ne_of_lt (Nat.lt_of_lt_of_le V_tb_14.lt sz_b15_b)
  have g_b15_b : n0 ≤ b15_b := Nat.le_trans (Nat.le_trans Z0 KC.1) sz_b15_b
  replace sz_b15_b : h0.size ≤ b15_b := Nat.le_trans KC.1 sz_b15_b
  replace Sf_b11_ta := Safe.keep K15 sf0 hC.1 Sf_b11_ta
  replace Sf_b15_s0 := Safe.keep K15 sf0 hC.1 Sf_b15_s0
  replace Sf_b15_b := Safe.keep K15 sf0 hC.1 Sf_b15_b
  replace hk := Nat.le_trans hk K15.1
  replace hC := hC.trans (CHr.keep K15 sf0 hC.1)
  replace E_a1 := E_a1.keep K15
  replace F_value_a1 := F_value_a1.keep K15 nin0
  replace F_coder_a1 := F_coder_a1.keep K15 nin0
  replace V_ta := V_ta.keep K15 nin0
  replace A3 := A3.keep K15
  replace F_entityId_b3 := F_entityId_b3.keep K15 nin0
  replace F_metadata_b3 := F_metadata_b3.keep K15 nin0
  replace F_singleSignOn_b3 := F_singleSignOn_b3.keep K15 nin0
  replace F_singleLogout_b3 := F_singleLogout_b3.keep K15 nin0
  replace E_s0_9 := E_s0_9.keep K15
  replace F_value_s0_9 := F_value_s0_9.keep K15 nin0
  replace F_coder_s0_9 := F_coder_s0_9.keep K15 nin0
  replace V_b_9 := V_b_9.keep K15 nin0
  replace A10 := A10.keep K15
  replace Ex13 := Ex13.keep K15
  replace Fc13 := Fc13.keep K15 nin0
  replace Fv13 := Fv13.keep K15 nin0
  replace Vv13 := Vv13.keep K15 nin0
  replace F_value_a1_14 := F_value_a1_14.keep K15 nin0
  replace F_coder_a1_14 := F_coder_a1_14.keep K15 nin0
  replace F_count_a1_14 := F_count_a1_14.keep K15 nin0
  replace V_tb_14 := V_tb_14.keep K15 nin0
  replace O0 := O0.keep K15 all0
  replace KC := KC.trans K15 all0
  obtain ⟨T16, h16, X16, e16, E16, A16, D16, -, st16⟩ := newO X15 hx hZ hown (ww hw 50 rfl) (ww hw 51 rfl) (ww hw 52 rfl) rfl (g := (mkF m 78 #[vr a1] [(.ref b15_s0), (.ref b9_s0), (.ref b3), (.ref b3)])) rfl (hb hby d4_78) (by decide) (by decide)
  obtain ⟨b16, g16⟩ : ∃ z, z = T15.heap.size := ⟨_, rfl⟩
  rw [← g16] at A16 D16 st16
  have ne_a1_b16 : a1 ≠ b16 := Nat.ne_of_lt (Nat.lt_of_lt_of_le E_a1.lt (Nat.le_of_eq g16.symm))
  have ne_ta_b16 : ta ≠ b16 := Nat.ne_of_lt (Nat.lt_of_lt_of_le V_ta.lt (Nat.le_of_eq g16.symm))
  have ne_b3_b16 : b3 ≠ b16 := Nat.ne_of_lt (Nat.lt_of_lt_of_le A3.lt (Nat.le_of_eq g16.symm))
  have ne_b9_s0_b16 : b9_s0 ≠ b16 := Nat.ne_of_lt (Nat.lt_of_lt_of_le E_s0_9.lt (Nat.le_of_eq g16.symm))
  have ne_b9_b_b16 : b9_b ≠ b16 := Nat.ne_of_lt (Nat.lt_of_lt_of_le V_b_9.lt (Nat.le_of_eq g16.symm))
  have ne_b15_s0_b16 : b15_s0 ≠ b16 := Nat.ne_of_lt (Nat.lt_of_lt_of_le E_s0_15.lt (Nat.le_of_eq g16.symm))
  have ne_b15_b_b16 : b15_b ≠ b16 := Nat.ne_of_lt (Nat.lt_of_lt_of_le V_b_15.lt (Nat.le_of_eq g16.symm))
  have g_b16 : n0 ≤ b16 := Nat.le_trans (Nat.le_trans Z0 KC.1) (Nat.le_of_eq g16.symm)
  have sz_b16 : h0.size ≤ b16 := Nat.le_trans KC.1 (Nat.le_of_eq g16.symm)
  replace hk := Nat.le_trans hk E16.1
  replace hC := hC.trans (CHr.ext E16 hC.1)
  replace E_a1 := E_a1.ext E16
  replace F_value_a1 := F_value_a1.ext E16
  replace F_coder_a1 := F_coder_a1.ext E16
  replace V_ta := V_ta.ext E16
  replace A3 := A3.ext E16
  replace F_entityId_b3 := F_entityId_b3.ext E16
  replace F_metadata_b3 := F_metadata_b3.ext E16
  replace F_singleSignOn_b3 := F_singleSignOn_b3.ext E16
  replace F_singleLogout_b3 := F_singleLogout_b3.ext E16
  replace E_s0_9 := E_s0_9.ext E16
  replace F_value_s0_9 := F_value_s0_9.ext E16
  replace F_coder_s0_9 := F_coder_s0_9.ext E16
  replace V_b_9 := V_b_9.ext E16
  replace E_s0_15 := E_s0_15.ext E16
  replace F_value_s0_15 := F_value_s0_15.ext E16
  replace F_coder_s0_15 := F_coder_s0_15.ext E16
  replace V_b_15 := V_b_15.ext E16
  replace O0 := O0.ext E16
  replace KC := KC.ext E16
  have F_value_b16 : Fld Z h16 b16 "java/lang/AbstractStringBuilder" "value" "[B" .null := D16 (Or.inl (ww hw 65 rfl)) (ty := (.array .byte)) (by decide)
  have F_coder_b16 : Fld Z h16 b16 "java/lang/AbstractStringBuilder" "coder" "B" (.int (0 : Int32)) := D16 (Or.inl (ww hw 67 rfl)) (ty := .byte) (by decide)
  have F_count_b16 : Fld Z h16 b16 "java/lang/AbstractStringBuilder" "count" "I" (.int (0 : Int32)) := D16 (Or.inl (ww hw 80 rfl)) (ty := .int) (by decide)
  obtain ⟨_, _, ⟨T17, L17, kz17, nz17⟩, -, X17, ⟨Lc17, hQ17, l17, y17, z17⟩, st17⟩ := X16.specialBack hx (y := y_9) rfl hown (mvT hZ (ww hw 53 rfl)) (mvT hZ (ww hw 54 rfl)) (mvT hZ (ww hw 55 rfl)) (by decide) (backOf (W := 5) (rm_sbi l Z a0 hw [] b16 zc h16 n0 (Nat.le_trans Z0 KC.1) O0 F_value_b16 F_coder_b16 F_count_b16 A16 g_b16 S_CS hz) hZ (ww hw 55 rfl) (ww hw 52 rfl) (by decide) (by decide)) (g := (mkF m 82 #[vr a1] [(.ref b16), (.ref b16), (.ref b15_s0), (.ref b9_s0), (.ref b3), (.ref b3)])) rfl (by rw [hml]; rfl) (Steps.refl _) (a := b16) (argsL := []) (rest := [(.ref b16), (.ref b15_s0), (.ref b9_s0), (.ref b3), (.ref b3)]) (lenOf pd_25 rfl) rfl (by show 2 * 0 + _ ≤ _; exact Nat.le_of_eq rfl) (hb hby d4_82) (fun _ _ => ⟨rfl, e16, (by decide : 16 + 1 ≤ _), (by decide : 156 + 16 ≤ _)⟩)
  dsimp only [Pt.U, Pt.locs, Pt.cells, Pt.slots] at X17 l17 y17 z17 st17 hQ17
  subst l17 y17 z17
  obtain ⟨b17_ta, k_17, rfl, N17q, K17, sz_b17_ta, F_value_a1_17, F_coder_a1_17, F_count_a1_17, V_ta_17⟩ := hQ17
  have N17 := Fr.app N15 N17q
  have Sf_b17_ta : Safe Z EL T13.vm h16 b17_ta := Safe.new sz_b17_ta
  have ne_a1_b17_ta : a1 ≠ b17_ta := Nat.ne_of_lt (Nat.lt_of_lt_of_le E_a1.lt sz_b17_ta)
  have ne_ta_b17_ta : ta ≠ b17_ta := Nat.ne_of_lt (Nat.lt_of_lt_of_le V_ta.lt sz_b17_ta)
  have ne_b3_b17_ta : b3 ≠ b17_ta := Nat.ne_of_lt (Nat.lt_of_lt_of_le A3.lt sz_b17_ta)
  have ne_b9_s0_b17_ta : b9_s0 ≠ b17_ta := Nat.ne_of_lt (Nat.lt_of_lt_of_le E_s0_9.lt sz_b17_ta)
  have ne_b9_b_b17_ta : b9_b ≠ b17_ta := Nat.ne_of_lt (Nat.lt_of_lt_of_le V_b_9.lt sz_b17_ta)
  have ne_b15_s0_b17_ta : b15_s0 ≠ b17_ta := Nat.ne_of_lt (Nat.lt_of_lt_of_le E_s0_15.lt sz_b17_ta)
  have ne_b15_b_b17_ta : b15_b ≠ b17_ta := Nat.ne_of_lt (Nat.lt_of_lt_of_le V_b_15.lt sz_b17_ta)
  have ne_b16_b17_ta : b16 ≠ b17_ta := Nat.ne_of_lt (Nat.lt_of_lt_of_le A16.lt sz_b17_ta)
  have g_b17_ta : n0 ≤ b17_ta := Nat.le_trans (Nat.le_trans Z0 KC.1) sz_b17_ta
  replace sz_b17_ta : h0.size ≤ b17_ta := Nat.le_trans KC.1 sz_b17_ta
  have hsf17 := (sfS (Safe.exa (EL := EL) hZ.alike A16 (by decide) (by decide)) sf0)
  replace Sf_b17_ta := Safe.keep K17 hsf17 hC.1 Sf_b17_ta
  replace hk := Nat.le_trans hk K17.1
  replace hC := hC.trans (CHr.keep K17 hsf17 hC.1)
  replace E_a1 := E_a1.keep K17
  replace F_value_a1 := F_value_a1.keep K17 (ninS ne_a1_b16 nin0)
  replace F_coder_a1 := F_coder_a1.keep K17 (ninS ne_a1_b16 nin0)
  replace V_ta := V_ta.keep K17 (ninS ne_ta_b16 nin0)
  replace A3 := A3.keep K17
  replace F_entityId_b3 := F_entityId_b3.keep K17 (ninS ne_b3_b16 nin0)
  replace F_metadata_b3 := F_metadata_b3.keep K17 (ninS ne_b3_b16 nin0)
  replace F_singleSignOn_b3 := F_singleSignOn_b3.keep K17 (ninS ne_b3_b16 nin0)
  replace F_singleLogout_b3 := F_singleLogout_b3.keep K17 (ninS ne_b3_b16 nin0)
  replace E_s0_9 := E_s0_9.keep K17
  replace F_value_s0_9 := F_value_s0_9.keep K17 (ninS ne_b9_s0_b16 nin0)
  replace F_coder_s0_9 := F_coder_s0_9.keep K17 (ninS ne_b9_s0_b16 nin0)
  replace V_b_9 := V_b_9.keep K17 (ninS ne_b9_b_b16 nin0)
  replace E_s0_15 := E_s0_15.keep K17
  replace F_value_s0_15 := F_value_s0_15.keep K17 (ninS ne_b15_s0_b16 nin0)
  replace F_coder_s0_15 := F_coder_s0_15.keep K17 (ninS ne_b15_s0_b16 nin0)
  replace V_b_15 := V_b_15.keep K17 (ninS ne_b15_b_b16 nin0)
  replace A16 := A16.keep K17
  replace O0 := O0.keep K17 (allS g_b16 all0)
  replace KC := KC.trans K17 (allS (Or.inr sz_b16) all0)
  obtain ⟨cq18, kq18, q18a, q18b, q18c⟩ := isOf hZ rfl A16
  obtain ⟨_, _, ⟨T18, L18, kz18, nz18⟩, -, X18, ⟨Lc18, hQ18, l18, y18, z18⟩, st18⟩ := X17.virtualBack hx (y := y_15) (z := y_15) hown (mvT hZ (ww hw 68 rfl)) (mvT hZ (ww hw 69 rfl)) (notFace_of_selects (args := #[]) (mvT hZ (ww hw 71 rfl))) (mvT hZ (ww hw 71 rfl)) (mvT hZ (ww hw 70 rfl)) (by decide) (backOf (W := 4) (rm_sap l Z a0 hw [] b16 a1 ta k z vs k_17 [(.int (0 : Int32)), (.int (0 : Int32)), (.int (0 : Int32)), (.int (0 : Int32)), (.int (0 : Int32)), (.int (0 : Int32)), (.int (0 : Int32)), (.int (0 : Int32)), (.int (0 : Int32)), (.int (0 : Int32)), (.int (0 : Int32)), (.int (0 : Int32)), (.int (0 : Int32)), (.int (0 : Int32)), (.int (0 : Int32)), (.int (0 : Int32))] v1 b17_ta (0 : Int32) z zc T17.heap n0 (Nat.le_trans Z0 KC.1) O0 F_value_a1_17 F_coder_a1_17 F_count_a1_17 A16 g_b16 E_a1 F_value_a1 F_coder_a1 V_ta V_ta_17 g_b17_ta ne_ta_b17_ta (Ne.symm ne_b16_b17_ta) ne_ta_b16 S_CS hz hl0 (by simp) (by decide) hz0 hf0 hf0 hv0) hZ (ww hw 72 rfl) (ww hw 52 rfl) (by decide) (by decide)) q18a q18c (g := (mkF m 86 #[vr a1] [(.ref a1), (.ref b16), (.ref b15_s0), (.ref b9_s0), (.ref b3), (.ref b3)])) rfl (by rw [hml]; rfl) (Steps.refl _) (argsL := [(.ref a1)]) (rest := [(.ref b15_s0), (.ref b9_s0), (.ref b3), (.ref b3)]) (lenOf pd_27 rfl) rfl (by show 2 * 0 + _ ≤ _; exact Nat.le_of_eq rfl) (hb hby d4_86) (fun _ _ => ⟨rfl, rfl, (by decide : 17 + 0 ≤ _), (by decide : 172 + 0 ≤ _)⟩)
  dsimp only [Pt.U, Pt.locs, Pt.cells, Pt.slots] at X18 l18 y18 z18 st18 hQ18
  subst l18 y18 z18
  obtain ⟨rfl, N18q, K18, F_value_a1_18, F_coder_a1_18, F_count_a1_18, V_tb_18⟩ := hQ18
  have N18 := Fr.app N17 N18q
  have hsf18 := (sfS (Safe.exa (EL := EL) hZ.alike A16 (by decide) (by decide)) (sfS Sf_b17_ta sf0))
  replace Sf_b17_ta := Safe.keep K18 hsf18 hC.1 Sf_b17_ta
  replace hk := Nat.le_trans hk K18.1
  replace hC := hC.trans (CHr.keep K18 hsf18 hC.1)
  replace E_a1 := E_a1.keep K18
  replace F_value_a1 := F_value_a1.keep K18 (ninS ne_a1_b16 (ninS ne_a1_b17_ta nin0))
  replace F_coder_a1 := F_coder_a1.keep K18 (ninS ne_a1_b16 (ninS ne_a1_b17_ta nin0))
  replace V_ta := V_ta.keep K18 (ninS ne_ta_b16 (ninS ne_ta_b17_ta nin0))
  replace A3 := A3.keep K18
  replace F_entityId_b3 := F_entityId_b3.keep K18 (ninS ne_b3_b16 (ninS ne_b3_b17_ta nin0))
  replace F_metadata_b3 := F_metadata_b3.keep K18 (ninS ne_b3_b16 (ninS ne_b3_b17_ta nin0))
  replace F_singleSignOn_b3 := F_singleSignOn_b3.keep K18 (ninS ne_b3_b16 (ninS ne_b3_b17_ta nin0))
  replace F_singleLogout_b3 := F_singleLogout_b3.keep K18 (ninS ne_b3_b16 (ninS ne_b3_b17_ta nin0))
  replace E_s0_9 := E_s0_9.keep K18
  replace F_value_s0_9 := F_value_s0_9.keep K18 (ninS ne_b9_s0_b16 (ninS ne_b9_s0_b17_ta nin0))
  replace F_coder_s0_9 := F_coder_s0_9.keep K18 (ninS ne_b9_s0_b16 (ninS ne_b9_s0_b17_ta nin0))
  replace V_b_9 := V_b_9.keep K18 (ninS ne_b9_b_b16 (ninS ne_b9_b_b17_ta nin0))
  replace E_s0_15 := E_s0_15.keep K18
  replace F_value_s0_15 := F_value_s0_15.keep K18 (ninS ne_b15_s0_b16 (ninS ne_b15_s0_b17_ta nin0))
  replace F_coder_s0_15 := F_coder_s0_15.keep K18 (ninS ne_b15_s0_b16 (ninS ne_b15_s0_b17_ta nin0))
  replace V_b_15 := V_b_15.keep K18 (ninS ne_b15_b_b16 (ninS ne_b15_b_b17_ta nin0))
  replace A16 := A16.keep K18
  replace O0 := O0.keep K18 (allS g_b16 (allS g_b17_ta all0))
  replace KC := KC.trans K18 (allS (Or.inr sz_b16) (allS (Or.inr sz_b17_ta) all0))
  obtain ⟨sa19, T19, h19, kx19, sb19, kc19, X19, e19, E19, hS19, hk19, hZ19, hown19, Ex19, Fc19, Fv19, Vv19, -, -, C19, -, nx19, st19⟩ := ldcCH X18 hx hZ hown (ww hw 153 rfl) wS rfl hS hk hEL (by decide) hC.1 (vs := [(.int (47 : Int32)), (.int (115 : Int32)), (.int (115 : Int32)), (.int (111 : Int32))]) (z := (4 : Int32)) ⟨by decide, by first | rfl | decide⟩ (by decide) (by first | rfl | decide) (g := (mkF m 89 #[vr a1] [(.ref b16), (.ref b15_s0), (.ref b9_s0), (.ref b3), (.ref b3)])) rfl (hb hby d4_89) (n := 16) (by decide) (by decide) (by decide) (by decide)
  replace Sf_b17_ta := C19.safe V_tb_18.lt Sf_b17_ta
  replace E_a1 := E_a1.ext E19
  replace F_value_a1 := F_value_a1.ext E19
  replace F_coder_a1 := F_coder_a1.ext E19
  replace V_ta := V_ta.ext E19
  replace A3 := A3.ext E19
  replace F_entityId_b3 := F_entityId_b3.ext E19
  replace F_metadata_b3 := F_metadata_b3.ext E19
  replace F_singleSignOn_b3 := F_singleSignOn_b3.ext E19
  replace F_singleLogout_b3 := F_singleLogout_b3.ext E19
  replace E_s0_9 := E_s0_9.ext E19
  replace F_value_s0_9 := F_value_s0_9.ext E19
  replace F_coder_s0_9 := F_coder_s0_9.ext E19
  replace V_b_9 := V_b_9.ext E19
  replace E_s0_15 := E_s0_15.ext E19
  replace F_value_s0_15 := F_value_s0_15.ext E19
  replace F_coder_s0_15 := F_coder_s0_15.ext E19
  replace V_b_15 := V_b_15.ext E19
  replace A16 := A16.ext E19
  replace F_value_a1_18 := F_value_a1_18.ext E19
  replace F_coder_a1_18 := F_coder_a1_18.ext E19
  replace F_count_a1_18 := F_count_a1_18.ext E19
  replace V_tb_18 := V_tb_18.ext E19
  replace O0 := O0.ext E19
  replace KC := KC.ext E19
  replace hC := hC.trans C19
  replace hZ := hZ19
  replace hown := hown19
  replace hS := hS19
  replace hk := hk19
  have nx19_b17_ta := nx19 _ Sf_b17_ta
  have nev_b16_sb19 : b16 ≠ sb19 := Exa.neArv A16 Vv19 (ww hw 51 rfl)
  obtain ⟨cq20, kq20, q20a, q20b, q20c⟩ := isOf hZ e19 A16
  obtain ⟨_, _, ⟨T20, L20, kz20, nz20⟩, -, X20, ⟨Lc20, hQ20, l20, y20, z20⟩, st20⟩ := X19.virtualBack hx (y := y_15) (z := y_15) hown (mvT hZ (ww hw 68 rfl)) (mvT hZ (ww hw 69 rfl)) (notFace_of_selects (args := #[]) (mvT hZ (ww hw 71 rfl))) (mvT hZ (ww hw 71 rfl)) (mvT hZ (ww hw 70 rfl)) (by decide) (backOf (W := 4) (rm_sap l Z a0 hw [] b16 sa19 sb19 kc19 (4 : Int32) [(.int (47 : Int32)), (.int (115 : Int32)), (.int (115 : Int32)), (.int (111 : Int32))] k_17 v1 wC b17_ta z mC zc h19 n0 (Nat.le_trans Z0 KC.1) O0 F_value_a1_18 F_coder_a1_18 F_count_a1_18 A16 g_b16 Ex19 Fv19 Fc19 Vv19 V_tb_18 g_b17_ta (Ne.symm nx19_b17_ta.2) (Ne.symm ne_b16_b17_ta) (Ne.symm nev_b16_sb19) S_CS hz hlC hmC hz0 (by decide) hfC hnC hvC) hZ (ww hw 72 rfl) (ww hw 52 rfl) (by decide) (by decide)) q20a q20c (g := (mkF m 91 #[vr a1] [(.ref sa19), (.ref b16), (.ref b15_s0), (.ref b9_s0), (.ref b3), (.ref b3)])) rfl (by rw [hml]; rfl) (Steps.refl _) (argsL := [(.ref sa19)]) (rest := [(.ref b15_s0), (.ref b9_s0), (.ref b3), (.ref b3)]) (lenOf pd_27 rfl) rfl (by show 2 * 0 + _ ≤ _; exact Nat.le_of_eq rfl) (hb hby d4_91) (fun _ _ => ⟨rfl, e19, (by decide : 19 + 0 ≤ _), (by decide : 192 + 0 ≤ _)⟩)
  dsimp only [Pt.U, Pt.locs, Pt.cells, Pt.slots] at X20 l20 y20 z20 st20 hQ20
  subst l20 y20 z20
  obtain ⟨rfl, N20q, K20, F_value_a1_20, F_coder_a1_20, F_count_a1_20, V_tb_20⟩ := hQ20
  have N20 := Fr.app N18 N20q
  have nec_sa19_b16 : sa19 ≠ b16 := Exa.ne Ex19 A16 (by decide)
  have hsf20 := (sfS (Safe.exa (EL := EL) hZ.alike A16 (by decide) (by decide)) (sfS Sf_b17_ta sf0))
  replace Sf_b17_ta := Safe.keep K20 hsf20 hC.1 Sf_b17_ta
  replace hk := Nat.le_trans hk K20.1
  replace hC := hC.trans (CHr.keep K20 hsf20 hC.1)
  replace E_a1 := E_a1.keep K20
  replace F_value_a1 := F_value_a1.keep K20 (ninS ne_a1_b16 (ninS ne_a1_b17_ta nin0))
  replace F_coder_a1 := F_coder_a1.keep K20 (ninS ne_a1_b16 (ninS ne_a1_b17_ta nin0))
  replace V_ta := V_ta.keep K20 (ninS ne_ta_b16 (ninS ne_ta_b17_ta nin0))
  replace A3 := A3.keep K20
  replace F_entityId_b3 := F_entityId_b3.keep K20 (ninS ne_b3_b16 (ninS ne_b3_b17_ta nin0))
  replace F_metadata_b3 := F_metadata_b3.keep K20 (ninS ne_b3_b16 (ninS ne_b3_b17_ta nin0))
  replace F_singleSignOn_b3 := F_singleSignOn_b3.keep K20 (ninS ne_b3_b16 (ninS ne_b3_b17_ta nin0))
  replace F_singleLogout_b3 := F_singleLogout_b3.keep K20 (ninS ne_b3_b16 (ninS ne_b3_b17_ta nin0))
  replace E_s0_9 := E_s0_9.keep K20
  replace F_value_s0_9 := F_value_s0_9.keep K20 (ninS ne_b9_s0_b16 (ninS ne_b9_s0_b17_ta nin0))
  replace F_coder_s0_9 := F_coder_s0_9.keep K20 (ninS ne_b9_s0_b16 (ninS ne_b9_s0_b17_ta nin0))
  replace V_b_9 := V_b_9.keep K20 (ninS ne_b9_b_b16 (ninS ne_b9_b_b17_ta nin0))
  replace E_s0_15 := E_s0_15.keep K20
  replace F_value_s0_15 := F_value_s0_15.keep K20 (ninS ne_b15_s0_b16 (ninS ne_b15_s0_b17_ta nin0))
  replace F_coder_s0_15 := F_coder_s0_15.keep K20 (ninS ne_b15_s0_b16 (ninS ne_b15_s0_b17_ta nin0))
  replace V_b_15 := V_b_15.keep K20 (ninS ne_b15_b_b16 (ninS ne_b15_b_b17_ta nin0))
  replace A16 := A16.keep K20
  replace Ex19 := Ex19.keep K20
  replace Fc19 := Fc19.keep K20 (ninS nec_sa19_b16 (ninS (Ne.symm nx19_b17_ta.1) nin0))
  replace Fv19 := Fv19.keep K20 (ninS nec_sa19_b16 (ninS (Ne.symm nx19_b17_ta.1) nin0))
  replace Vv19 := Vv19.keep K20 (ninS (Ne.symm nev_b16_sb19) (ninS (Ne.symm nx19_b17_ta.2) nin0))
  replace O0 := O0.keep K20 (allS g_b16 (allS g_b17_ta all0))
  replace KC := KC.trans K20 (allS (Or.inr sz_b16) (allS (Or.inr sz_b17_ta) all0))
  obtain ⟨cq21, kq21, q21a, q21b, q21c⟩ := isOf hZ rfl A16
  obtain ⟨_, _, ⟨T21, L21, kz21, nz21⟩, -, X21, ⟨Lc21, hQ21, l21, y21, z21⟩, st21⟩ := X20.virtualBack hx (y := y_25) (z := y_25) hown (mvT hZ (ww hw 107 rfl)) (mvT hZ (ww hw 108 rfl)) (notFace_of_selects (args := #[]) (mvT hZ (ww hw 110 rfl))) (mvT hZ (ww hw 110 rfl)) (mvT hZ (ww hw 109 rfl)) (by decide) (backOf (W := 4) (rm_tos l Z a0 hw [] b16 b17_ta mC k_17 wC uC zc T20.heap n0 (Nat.le_trans Z0 KC.1) O0 F_value_a1_20 F_coder_a1_20 F_count_a1_20 A16 V_tb_20 S_CS hz hpC htC hgC huC) hZ (ww hw 111 rfl) (ww hw 52 rfl) (by decide) (by decide)) q21a q21c (g := (mkF m 94 #[vr a1] [(.ref b16), (.ref b15_s0), (.ref b9_s0), (.ref b3), (.ref b3)])) rfl (by rw [hml]; rfl) (Steps.refl _) (argsL := []) (rest := [(.ref b15_s0), (.ref b9_s0), (.ref b3), (.ref b3)]) (lenOf pd_28 rfl) rfl (by show 2 * 0 + _ ≤ _; exact Nat.le_of_eq rfl) (hb hby d4_94) (fun _ _ => ⟨rfl, rfl, (by decide : 19 + 2 ≤ _), (by decide : 192 + 20 ≤ _)⟩)
  dsimp only [Pt.U, Pt.locs, Pt.cells, Pt.slots] at X21 l21 y21 z21 st21 hQ21
  subst l21 y21 z21
  obtain ⟨b21_s0, b21_b, k2_21, rfl, N21q, K21, sz_b21_s0, sz_b21_b, E_s0_21, F_value_s0_21, F_coder_s0_21, V_b_21⟩ := hQ21
  have N21 := Fr.app N20 N21q
  have Sf_b21_s0 : Safe Z EL T19.vm T20.heap b21_s0 := Safe.new sz_b21_s0
  have Sf_b21_b : Safe Z EL T19.vm T20.heap b21_b := Safe.new sz_b21_b
  have ne_a1_b21_s0 : a1 ≠ b21_s0 := Nat.ne_of_lt (Nat.lt_of_lt_of_le E_a1.lt sz_b21_s0)
  have ne_ta_b21_s0 : ta ≠ b21_s0 := Nat.ne_of_lt (Nat.lt_of_lt_of_le V_ta.lt sz_b21_s0)
  have ne_b3_b21_s0 : b3 ≠ b21_s0 := Nat.ne_of_lt (Nat.lt_of_lt_of_le A3.lt sz_b21_s0)
  have ne_b9_s0_b21_s0 : b9_s0 ≠ b21_s0 := Nat.ne_of_lt (Nat.lt_of_lt_of_le E_s0_9.lt sz_b21_s0)
  have ne_b9_b_b21_s0 : b9_b ≠ b21_s0 := Nat.ne_of_lt (Nat.lt_of_lt_of_le V_b_9.lt sz_b21_s0)
  have ne_b15_s0_b21_s0 : b15_s0 ≠ b21_s0 := Nat.ne_of_lt (Nat.lt_of_lt_of_le E_s0_15.lt sz_b21_s0)
  have ne_b15_b_b21_s0 : b15_b ≠ b21_s0 := Nat.ne_of_lt (Nat.lt_of_lt_of_le V_b_15.lt sz_b21_s0)
  have ne_b16_b21_s0 : b16 ≠ b21_s0 := Nat.ne_of_lt (Nat.lt_of_lt_of_le A16.lt sz_b21_s0)
  have ne_sa19_b21_s0 : sa19 ≠ b21_s0 := Nat.ne_of_lt (Nat.lt_of_lt_of_le Ex19.lt sz_b21_s0)
  have ne_sb19_b21_s0 : sb19 ≠ b21_s0 := Nat.ne_of_lt (Nat.lt_of_lt_of_le Vv19.lt sz_b21_s0)
  have ne_b17_ta_b21_s0 : b17_ta ≠ b21_s0 := Nat.ne_of_lt (Nat.lt_of_lt_of_le V_tb_20.lt sz_b21_s0)
  have g_b21_s0 : n0 ≤ b21_s0 := Nat.le_trans (Nat.le_trans Z0 KC.1) sz_b21_s0
  replace sz_b21_s0 : h0.size ≤ b21_s0 := Nat.le_trans KC.1 sz_b21_s0
  have ne_a1_b21_b : a1 ≠ b21_b := Nat.ne_of_lt (Nat.lt_of_lt_of_le E_a1.lt sz_b21_b)
  have ne_ta_b21_b : ta ≠ b21_b := Nat.ne_of_lt (Nat.lt_of_lt_of_le V_ta.lt sz_b21_b)
  have ne_b3_b21_b : b3 ≠ b21_b := Nat.ne_of_lt (Nat.lt_of_lt_of_le A3.lt sz_b21_b)
  have ne_b9_s0_b21_b : b9_s0 ≠ b21_b := Nat.ne_of_lt (Nat.lt_of_lt_of_le E_s0_9.lt sz_b21_b)
  have ne_b9_b_b21_b : b9_b ≠ b21_b := Nat.ne_of_lt (Nat.lt_of_lt_of_le V_b_9.lt sz_b21_b)
  have ne_b15_s0_b21_b : b15_s0 ≠ b21_b := Nat.ne_of_lt (Nat.lt_of_lt_of_le E_s0_15.lt sz_b21_b)
  have ne_b15_b_b21_b : b15_b ≠ b21_b := Nat.ne_of_lt (Nat.lt_of_lt_of_le V_b_15.lt sz_b21_b)
  have ne_b16_b21_b : b16 ≠ b21_b := Nat.ne_of_lt (Nat.lt_of_lt_of_le A16.lt sz_b21_b)
  have ne_sa19_b21_b : sa19 ≠ b21_b := Nat.ne_of_lt (Nat.lt_of_lt_of_le Ex19.lt sz_b21_b)
  have ne_sb19_b21_b : sb19 ≠ b21_b := Nat.ne_of_lt (Nat.lt_of_lt_of_le Vv19.lt sz_b21_b)
  have ne_b17_ta_b21_b : b17_ta ≠ b21_b := Nat.ne_of_lt (Nat.lt_of_lt_of_le V_tb_20.lt sz_b21_b)
  have g_b21_b : n0 ≤ b21_b := Nat.le_trans (Nat.le_trans Z0 KC.1) sz_b21_b
  replace sz_b21_b : h0.size ≤ b21_b := Nat.le_trans KC.1 sz_b21_b
  replace Sf_b17_ta := Safe.keep K21 sf0 hC.1 Sf_b17_ta
  replace Sf_b21_s0 := Safe.keep K21 sf0 hC.1 Sf_b21_s0
  replace Sf_b21_b := Safe.keep K21 sf0 hC.1 Sf_b21_b
  replace hk := Nat.le_trans hk K21.1
  replace hC := hC.trans (CHr.keep K21 sf0 hC.1)
  replace E_a1 := E_a1.keep K21
  replace F_value_a1 := F_value_a1.keep K21 nin0
  replace F_coder_a1 := F_coder_a1.keep K21 nin0
  replace V_ta := V_ta.keep K21 nin0
  replace A3 := A3.keep K21
  replace F_entityId_b3 := F_entityId_b3.keep K21 nin0
  replace F_metadata_b3 := F_metadata_b3.keep K21 nin0
  replace F_singleSignOn_b3 := F_singleSignOn_b3.keep K21 nin0
  replace F_singleLogout_b3 := F_singleLogout_b3.keep K21 nin0
  replace E_s0_9 := E_s0_9.keep K21
  replace F_value_s0_9 := F_value_s0_9.keep K21 nin0
  replace F_coder_s0_9 := F_coder_s0_9.keep K21 nin0
  replace V_b_9 := V_b_9.keep K21 nin0
  replace E_s0_15 := E_s0_15.keep K21
  replace F_value_s0_15 := F_value_s0_15.keep K21 nin0
  replace F_coder_s0_15 := F_coder_s0_15.keep K21 nin0
  replace V_b_15 := V_b_15.keep K21 nin0
  replace A16 := A16.keep K21
  replace Ex19 := Ex19.keep K21
  replace Fc19 := Fc19.keep K21 nin0
  replace Fv19 := Fv19.keep K21 nin0
  replace Vv19 := Vv19.keep K21 nin0
  replace F_value_a1_20 := F_value_a1_20.keep K21 nin0
  replace F_coder_a1_20 := F_coder_a1_20.keep K21 nin0
  replace F_count_a1_20 := F_count_a1_20.keep K21 nin0
  replace V_tb_20 := V_tb_20.keep K21 nin0
  replace O0 := O0.keep K21 all0
  replace KC := KC.trans K21 all0
  obtain ⟨T22, h22, X22, e22, E22, A22, D22, -, st22⟩ := newO X21 hx hZ hown (ww hw 50 rfl) (ww hw 51 rfl) (ww hw 52 rfl) rfl (g := (mkF m 97 #[vr a1] [(.ref b21_s0), (.ref b15_s0), (.ref b9_s0), (.ref b3), (.ref b3)])) rfl (hb hby d4_97) (by decide) (by decide)
  obtain ⟨b22, g22⟩ : ∃ z, z = T21.heap.size := ⟨_, rfl⟩
  rw [← g22] at A22 D22 st22
  have ne_a1_b22 : a1 ≠ b22 := Nat.ne_of_lt (Nat.lt_of_lt_of_le E_a1.lt (Nat.le_of_eq g22.symm))
  have ne_ta_b22 : ta ≠ b22 := Nat.ne_of_lt (Nat.lt_of_lt_of_le V_ta.lt (Nat.le_of_eq g22.symm))
  have ne_b3_b22 : b3 ≠ b22 := Nat.ne_of_lt (Nat.lt_of_lt_of_le A3.lt (Nat.le_of_eq g22.symm))
  have ne_b9_s0_b22 : b9_s0 ≠ b22 := Nat.ne_of_lt (Nat.lt_of_lt_of_le E_s0_9.lt (Nat.le_of_eq g22.symm))
  have ne_b9_b_b22 : b9_b ≠ b22 := Nat.ne_of_lt (Nat.lt_of_lt_of_le V_b_9.lt (Nat.le_of_eq g22.symm))
  have ne_b15_s0_b22 : b15_s0 ≠ b22 := Nat.ne_of_lt (Nat.lt_of_lt_of_le E_s0_15.lt (Nat.le_of_eq g22.symm))
  have ne_b15_b_b22 : b15_b ≠ b22 := Nat.ne_of_lt (Nat.lt_of_lt_of_le V_b_15.lt (Nat.le_of_eq g22.symm))
  have ne_b21_s0_b22 : b21_s0 ≠ b22 := Nat.ne_of_lt (Nat.lt_of_lt_of_le E_s0_21.lt (Nat.le_of_eq g22.symm))
  have ne_b21_b_b22 : b21_b ≠ b22 := Nat.ne_of_lt (Nat.lt_of_lt_of_le V_b_21.lt (Nat.le_of_eq g22.symm))
  have g_b22 : n0 ≤ b22 := Nat.le_trans (Nat.le_trans Z0 KC.1) (Nat.le_of_eq g22.symm)
  have sz_b22 : h0.size ≤ b22 := Nat.le_trans KC.1 (Nat.le_of_eq g22.symm)
  replace hk := Nat.le_trans hk E22.1
  replace hC := hC.trans (CHr.ext E22 hC.1)
  replace E_a1 := E_a1.ext E22
  replace F_value_a1 := F_value_a1.ext E22
  replace F_coder_a1 := F_coder_a1.ext E22
  replace V_ta := V_ta.ext E22
  replace A3 := A3.ext E22
  replace F_entityId_b3 := F_entityId_b3.ext E22
  replace F_metadata_b3 := F_metadata_b3.ext E22
  replace F_singleSignOn_b3 := F_singleSignOn_b3.ext E22
  replace F_singleLogout_b3 := F_singleLogout_b3.ext E22
  replace E_s0_9 := E_s0_9.ext E22
  replace F_value_s0_9 := F_value_s0_9.ext E22
  replace F_coder_s0_9 := F_coder_s0_9.ext E22
  replace V_b_9 := V_b_9.ext E22
  replace E_s0_15 := E_s0_15.ext E22
  replace F_value_s0_15 := F_value_s0_15.ext E22
  replace F_coder_s0_15 := F_coder_s0_15.ext E22
  replace V_b_15 := V_b_15.ext E22
  replace E_s0_21 := E_s0_21.ext E22
  replace F_value_s0_21 := F_value_s0_21.ext E22
  replace F_coder_s0_21 := F_coder_s0_21.ext E22
  replace V_b_21 := V_b_21.ext E22
  replace O0 := O0.ext E22
  replace KC := KC.ext E22
  have F_value_b22 : Fld Z h22 b22 "java/lang/AbstractStringBuilder" "value" "[B" .null := D22 (Or.inl (ww hw 65 rfl)) (ty := (.array .byte)) (by decide)
  have F_coder_b22 : Fld Z h22 b22 "java/lang/AbstractStringBuilder" "coder" "B" (.int (0 : Int32)) := D22 (Or.inl (ww hw 67 rfl)) (ty := .byte) (by decide)
  have F_count_b22 : Fld Z h22 b22 "java/lang/AbstractStringBuilder" "count" "I" (.int (0 : Int32)) := D22 (Or.inl (ww hw 80 rfl)) (ty := .int) (by decide)
  obtain ⟨_, _, ⟨T23, L23, kz23, nz23⟩, -, X23, ⟨Lc23, hQ23, l23, y23, z23⟩, st23⟩ := X22.specialBack hx (y := y_9) rfl hown (mvT hZ (ww hw 53 rfl)) (mvT hZ (ww hw 54 rfl)) (mvT hZ (ww hw 55 rfl)) (by decide) (backOf (W := 6) (rm_sbi l Z a0 hw [] b22 zc h22 n0 (Nat.le_trans Z0 KC.1) O0 F_value_b22 F_coder_b22 F_count_b22 A22 g_b22 S_CS hz) hZ (ww hw 55 rfl) (ww hw 52 rfl) (by decide) (by decide)) (g := (mkF m 101 #[vr a1] [(.ref b22), (.ref b22), (.ref b21_s0), (.ref b15_s0), (.ref b9_s0), (.ref b3), (.ref b3)])) rfl (by rw [hml]; rfl) (Steps.refl _) (a := b22) (argsL := []) (rest := [(.ref b22), (.ref b21_s0), (.ref b15_s0), (.ref b9_s0), (.ref b3), (.ref b3)]) (lenOf pd_25 rfl) rfl (by show 2 * 0 + _ ≤ _; exact Nat.le_of_eq rfl) (hb hby d4_101) (fun _ _ => ⟨rfl, e22, (by decide : 22 + 1 ≤ _), (by decide : 216 + 16 ≤ _)⟩)
  dsimp only [Pt.U, Pt.locs, Pt.cells, Pt.slots] at X23 l23 y23 z23 st23 hQ23
  subst l23 y23 z23
  obtain ⟨b23_ta, k_23, rfl, N23q, K23, sz_b23_ta, F_value_a1_23, F_coder_a1_23, F_count_a1_23, V_ta_23⟩ := hQ23
  have N23 := Fr.app N21 N23q
  have Sf_b23_ta : Safe Z EL T19.vm h22 b23_ta := Safe.new sz_b23_ta
  have ne_a1_b23_ta : a1 ≠ b23_ta := Nat.ne_of_lt (Nat.lt_of_lt_of_le E_a1.lt sz_b23_ta)
  have ne_ta_b23_ta : ta ≠ b23_ta := Nat.ne_of_lt (Nat.lt_of_lt_of_le V_ta.lt sz_b23_ta)
  have ne_b3_b23_ta : b3 ≠ b23_ta := Nat.ne_of_lt (Nat.lt_of_lt_of_le A3.lt sz_b23_ta)
  have ne_b9_s0_b23_ta : b9_s0 ≠ b23_ta := Nat.ne_of_lt (Nat.lt_of_lt_of_le E_s0_9.lt sz_b23_ta)
  have ne_b9_b_b23_ta : b9_b ≠ b23_ta := Nat.ne_of_lt (Nat.lt_of_lt_of_le V_b_9.lt sz_b23_ta)
  have ne_b15_s0_b23_ta : b15_s0 ≠ b23_ta := Nat.ne_of_lt (Nat.lt_of_lt_of_le E_s0_15.lt sz_b23_ta)
  have ne_b15_b_b23_ta : b15_b ≠ b23_ta := Nat.ne_of_lt (Nat.lt_of_lt_of_le V_b_15.lt sz_b23_ta)
  have ne_b21_s0_b23_ta : b21_s0 ≠ b23_ta := Nat.ne_of_lt (Nat.lt_of_lt_of_le E_s0_21.lt sz_b23_ta)
  have ne_b21_b_b23_ta : b21_b ≠ b23_ta := Nat.ne_of_lt (Nat.lt_of_lt_of_le V_b_21.lt sz_b23_ta)
  have ne_b22_b23_ta : b22 ≠ b23_ta := Nat.ne_of_lt (Nat.lt_of_lt_of_le A22.lt sz_b23_ta)
  have g_b23_ta : n0 ≤ b23_ta := Nat.le_trans (Nat.le_trans Z0 KC.1) sz_b23_ta
  replace sz_b23_ta : h0.size ≤ b23_ta := Nat.le_trans KC.1 sz_b23_ta
  have hsf23 := (sfS (Safe.exa (EL := EL) hZ.alike A22 (by decide) (by decide)) sf0)
  replace Sf_b23_ta := Safe.keep K23 hsf23 hC.1 Sf_b23_ta
  replace hk := Nat.le_trans hk K23.1
  replace hC := hC.trans (CHr.keep K23 hsf23 hC.1)
  replace E_a1 := E_a1.keep K23
  replace F_value_a1 := F_value_a1.keep K23 (ninS ne_a1_b22 nin0)
  replace F_coder_a1 := F_coder_a1.keep K23 (ninS ne_a1_b22 nin0)
  replace V_ta := V_ta.keep K23 (ninS ne_ta_b22 nin0)
  replace A3 := A3.keep K23
  replace F_entityId_b3 := F_entityId_b3.keep K23 (ninS ne_b3_b22 nin0)
  replace F_metadata_b3 := F_metadata_b3.keep K23 (ninS ne_b3_b22 nin0)
  replace F_singleSignOn_b3 := F_singleSignOn_b3.keep K23 (ninS ne_b3_b22 nin0)
  replace F_singleLogout_b3 := F_singleLogout_b3.keep K23 (ninS ne_b3_b22 nin0)
  replace E_s0_9 := E_s0_9.keep K23
  replace F_value_s0_9 := F_value_s0_9.keep K23 (ninS ne_b9_s0_b22 nin0)
  replace F_coder_s0_9 := F_coder_s0_9.keep K23 (ninS ne_b9_s0_b22 nin0)
  replace V_b_9 := V_b_9.keep K23 (ninS ne_b9_b_b22 nin0)
  replace E_s0_15 := E_s0_15.keep K23
  replace F_value_s0_15 := F_value_s0_15.keep K23 (ninS ne_b15_s0_b22 nin0)
  replace F_coder_s0_15 := F_coder_s0_15.keep K23 (ninS ne_b15_s0_b22 nin0)
  replace V_b_15 := V_b_15.keep K23 (ninS ne_b15_b_b22 nin0)
  replace E_s0_21 := E_s0_21.keep K23
  replace F_value_s0_21 := F_value_s0_21.keep K23 (ninS ne_b21_s0_b22 nin0)
  replace F_coder_s0_21 := F_coder_s0_21.keep K23 (ninS ne_b21_s0_b22 nin0)
  replace V_b_21 := V_b_21.keep K23 (ninS ne_b21_b_b22 nin0)
  replace A22 := A22.keep K23
  replace O0 := O0.keep K23 (allS g_b22 all0)
  replace KC := KC.trans K23 (allS (Or.inr sz_b22) all0)
  obtain ⟨cq24, kq24, q24a, q24b, q24c⟩ := isOf hZ rfl A22
  obtain ⟨_, _, ⟨T24, L24, kz24, nz24⟩, -, X24, ⟨Lc24, hQ24, l24, y24, z24⟩, st24⟩ := X23.virtualBack hx (y := y_15) (z := y_15) hown (mvT hZ (ww hw 68 rfl)) (mvT hZ (ww hw 69 rfl)) (notFace_of_selects (args := #[]) (mvT hZ (ww hw 71 rfl))) (mvT hZ (ww hw 71 rfl)) (mvT hZ (ww hw 70 rfl)) (by decide) (backOf (W := 5) (rm_sap l Z a0 hw [] b22 a1 ta k z vs k_23 [(.int (0 : Int32)), (.int (0 : Int32)), (.int (0 : Int32)), (.int (0 : Int32)), (.int (0 : Int32)), (.int (0 : Int32)), (.int (0 : Int32)), (.int (0 : Int32)), (.int (0 : Int32)), (.int (0 : Int32)), (.int (0 : Int32)), (.int (0 : Int32)), (.int (0 : Int32)), (.int (0 : Int32)), (.int (0 : Int32)), (.int (0 : Int32))] v1 b23_ta (0 : Int32) z zc T23.heap n0 (Nat.le_trans Z0 KC.1) O0 F_value_a1_23 F_coder_a1_23 F_count_a1_23 A22 g_b22 E_a1 F_value_a1 F_coder_a1 V_ta V_ta_23 g_b23_ta ne_ta_b23_ta (Ne.symm ne_b22_b23_ta) ne_ta_b22 S_CS hz hl0 (by simp) (by decide) hz0 hf0 hf0 hv0) hZ (ww hw 72 rfl) (ww hw 52 rfl) (by decide) (by decide)) q24a q24c (g := (mkF m 105 #[vr a1] [(.ref a1), (.ref b22), (.ref b21_s0), (.ref b15_s0), (.ref b9_s0), (.ref b3), (.ref b3)])) rfl (by rw [hml]; rfl) (Steps.refl _) (argsL := [(.ref a1)]) (rest := [(.ref b21_s0), (.ref b15_s0), (.ref b9_s0), (.ref b3), (.ref b3)]) (lenOf pd_27 rfl) rfl (by show 2 * 0 + _ ≤ _; exact Nat.le_of_eq rfl) (hb hby d4_105) (fun _ _ => ⟨rfl, rfl, (by decide : 23 + 0 ≤ _), (by decide : 232 + 0 ≤ _)⟩)
  dsimp only [Pt.U, Pt.locs, Pt.cells, Pt.slots] at X24 l24 y24 z24 st24 hQ24
  subst l24 y24 z24
  obtain ⟨rfl, N24q, K24, F_value_a1_24, F_coder_a1_24, F_count_a1_24, V_tb_24⟩ := hQ24
  have N24 := Fr.app N23 N24q
  have hsf24 := (sfS (Safe.exa (EL := EL) hZ.alike A22 (by decide) (by decide)) (sfS Sf_b23_ta sf0))
  replace Sf_b23_ta := Safe.keep K24 hsf24 hC.1 Sf_b23_ta
  replace hk := Nat.le_trans hk K24.1
  replace hC := hC.trans (CHr.keep K24 hsf24 hC.1)
  replace E_a1 := E_a1.keep K24
  replace F_value_a1 := F_value_a1.keep K24 (ninS ne_a1_b22 (ninS ne_a1_b23_ta nin0))
  replace F_coder_a1 := F_coder_a1.keep K24 (ninS ne_a1_b22 (ninS ne_a1_b23_ta nin0))
  replace V_ta := V_ta.keep K24 (ninS ne_ta_b22 (ninS ne_ta_b23_ta nin0))
  replace A3 := A3.keep K24
  replace F_entityId_b3 := F_entityId_b3.keep K24 (ninS ne_b3_b22 (ninS ne_b3_b23_ta nin0))
  replace F_metadata_b3 := F_metadata_b3.keep K24 (ninS ne_b3_b22 (ninS ne_b3_b23_ta nin0))
  replace F_singleSignOn_b3 := F_singleSignOn_b3.keep K24 (ninS ne_b3_b22 (ninS ne_b3_b23_ta nin0))
  replace F_singleLogout_b3 := F_singleLogout_b3.keep K24 (ninS ne_b3_b22 (ninS ne_b3_b23_ta nin0))
  replace E_s0_9 := E_s0_9.keep K24
  replace F_value_s0_9 := F_value_s0_9.keep K24 (ninS ne_b9_s0_b22 (ninS ne_b9_s0_b23_ta nin0))
  replace F_coder_s0_9 := F_coder_s0_9.keep K24 (ninS ne_b9_s0_b22 (ninS ne_b9_s0_b23_ta nin0))
  replace V_b_9 := V_b_9.keep K24 (ninS ne_b9_b_b22 (ninS ne_b9_b_b23_ta nin0))
  replace E_s0_15 := E_s0_15.keep K24
  replace F_value_s0_15 := F_value_s0_15.keep K24 (ninS ne_b15_s0_b22 (ninS ne_b15_s0_b23_ta nin0))
  replace F_coder_s0_15 := F_coder_s0_15.keep K24 (ninS ne_b15_s0_b22 (ninS ne_b15_s0_b23_ta nin0))
  replace V_b_15 := V_b_15.keep K24 (ninS ne_b15_b_b22 (ninS ne_b15_b_b23_ta nin0))
  replace E_s0_21 := E_s0_21.keep K24
  replace F_value_s0_21 := F_value_s0_21.keep K24 (ninS ne_b21_s0_b22 (ninS ne_b21_s0_b23_ta nin0))
  replace F_coder_s0_21 := F_coder_s0_21.keep K24 (ninS ne_b21_s0_b22 (ninS ne_b21_s0_b23_ta nin0))
  replace V_b_21 := V_b_21.keep K24 (ninS ne_b21_b_b22 (ninS ne_b21_b_b23_ta nin0))
  replace A22 := A22.keep K24
  replace O0 := O0.keep K24 (allS g_b22 (allS g_b23_ta all0))
  replace KC := KC.trans K24 (allS (Or.inr sz_b22) (allS (Or.inr sz_b23_ta) all0))
  obtain ⟨sa25, T25, h25, kx25, sb25, kc25, X25, e25, E25, hS25, hk25, hZ25, hown25, Ex25, Fc25, Fv25, Vv25, -, -, C25, -, nx25, st25⟩ := ldcCH X24 hx hZ hown (ww hw 154 rfl) wS rfl hS hk hEL (by decide) hC.1 (vs := [(.int (47 : Int32)), (.int (115 : Int32)), (.int (108 : Int32)), (.int (111 : Int32))]) (z := (4 : Int32)) ⟨by decide, by first | rfl | decide⟩ (by decide) (by first | rfl | decide) (g := (mkF m 108 #[vr a1] [(.ref b22), (.ref b21_s0), (.ref b15_s0), (.ref b9_s0), (.ref b3), (.ref b3)])) rfl (hb hby d4_108) (n := 16) (by decide) (by decide) (by decide) (by decide)
  replace Sf_b23_ta := C25.safe V_tb_24.lt Sf_b23_ta
  replace E_a1 := E_a1.ext E25
  replace F_value_a1 := F_value_a1.ext E25
  replace F_coder_a1 := F_coder_a1.ext E25
  replace V_ta := V_ta.ext E25
  replace A3 := A3.ext E25
  replace F_entityId_b3 := F_entityId_b3.ext E25
  replace F_metadata_b3 := F_metadata_b3.ext E25
  replace F_singleSignOn_b3 := F_singleSignOn_b3.ext E25
  replace F_singleLogout_b3 := F_singleLogout_b3.ext E25
  replace E_s0_9 := E_s0_9.ext E25
  replace F_value_s0_9 := F_value_s0_9.ext E25
  replace F_coder_s0_9 := F_coder_s0_9.ext E25
  replace V_b_9 := V_b_9.ext E25
  replace E_s0_15 := E_s0_15.ext E25
  replace F_value_s0_15 := F_value_s0_15.ext E25
  replace F_coder_s0_15 := F_coder_s0_15.ext E25
  replace V_b_15 := V_b_15.ext E25
  replace E_s0_21 := E_s0_21.ext E25
  replace F_value_s0_21 := F_value_s0_21.ext E25
  replace F_coder_s0_21 := F_coder_s0_21.ext E25
  replace V_b_21 := V_b_21.ext E25
  replace A22 := A22.ext E25
  replace F_value_a1_24 := F_value_a1_24.ext E25
  replace F_coder_a1_24 := F_coder_a1_24.ext E25
  replace F_count_a1_24 := F_count_a1_24.ext E25
  replace V_tb_24 := V_tb_24.ext E25
  replace O0 := O0.ext E25
  replace KC := KC.ext E25
  replace hC := hC.trans C25
  replace hZ := hZ25
  replace hown := hown25
  replace hS := hS25
  replace hk := hk25
  have nx25_b23_ta := nx25 _ Sf_b23_ta
  have nev_b22_sb25 : b22 ≠ sb25 := Exa.neArv A22 Vv25 (ww hw 51 rfl)
  obtain ⟨cq26, kq26, q26a, q26b, q26c⟩ := isOf hZ e25 A22
  obtain ⟨_, _, ⟨T26, L26, kz26, nz26⟩, -, X26, ⟨Lc26, hQ26, l26, y26, z26⟩, st26⟩ := X25.virtualBack hx (y := y_15) (z := y_15) hown (mvT hZ (ww hw 68 rfl)) (mvT hZ (ww hw 69 rfl)) (notFace_of_selects (args := #[]) (mvT hZ (ww hw 71 rfl))) (mvT hZ (ww hw 71 rfl)) (mvT hZ (ww hw 70 rfl)) (by decide) (backOf (W := 5) (rm_sap l Z a0 hw [] b22 sa25 sb25 kc25 (4 : Int32) [(.int (47 : Int32)), (.int (115 : Int32)), (.int (108 : Int32)), (.int (111 : Int32))] k_23 v1 wD b23_ta z mD zc h25 n0 (Nat.le_trans Z0 KC.1) O0 F_value_a1_24 F_coder_a1_24 F_count_a1_24 A22 g_b22 Ex25 Fv25 Fc25 Vv25 V_tb_24 g_b23_ta (Ne.symm nx25_b23_ta.2) (Ne.symm ne_b22_b23_ta) (Ne.symm nev_b22_sb25) S_CS hz hlD hmD hz0 (by decide) hfD hnD hvD) hZ (ww hw 72 rfl) (ww hw 52 rfl) (by decide) (by decide)) q26a q26c (g := (mkF m 110 #[vr a1] [(.ref sa25), (.ref b22), (.ref b21_s0), (.ref b15_s0), (.ref b9_s0), (.ref b3), (.ref b3)])) rfl (by rw [hml]; rfl) (Steps.refl _) (argsL := [(.ref sa25)]) (rest := [(.ref b21_s0), (.ref b15_s0), (.ref b9_s0), (.ref b3), (.ref b3)]) (lenOf pd_27 rfl) rfl (by show 2 * 0 + _ ≤ _; exact Nat.le_of_eq rfl) (hb hby d4_110) (fun _ _ => ⟨rfl, e25, (by decide : 25 + 0 ≤ _), (by decide : 252 + 0 ≤ _)⟩)
  dsimp only [Pt.U, Pt.locs, Pt.cells, Pt.slots] at X26 l26 y26 z26 st26 hQ26
  subst l26 y26 z26
  obtain ⟨rfl, N26q, K26, F_value_a1_26, F_coder_a1_26, F_count_a1_26, V_tb_26⟩ := hQ26
  have N26 := Fr.app N24 N26q
  have nec_sa25_b22 : sa25 ≠ b22 := Exa.ne Ex25 A22 (by decide)
  have hsf26 := (sfS (Safe.exa (EL := EL) hZ.alike A22 (by decide) (by decide)) (sfS Sf_b23_ta sf0))
  replace Sf_b23_ta := Safe.keep K26 hsf26 hC.1 Sf_b23_ta
  replace hk := Nat.le_trans hk K26.1
  replace hC := hC.trans (CHr.keep K26 hsf26 hC.1)
  replace E_a1 := E_a1.keep K26
  replace F_value_a1 := F_value_a1.keep K26 (ninS ne_a1_b22 (ninS ne_a1_b23_ta nin0))
  replace F_coder_a1 := F_coder_a1.keep K26 (ninS ne_a1_b22 (ninS ne_a1_b23_ta nin0))
  replace V_ta := V_ta.keep K26 (ninS ne_ta_b22 (ninS ne_ta_b23_ta nin0))
  replace A3 := A3.keep K26
  replace F_entityId_b3 := F_entityId_b3.keep K26 (ninS ne_b3_b22 (ninS ne_b3_b23_ta nin0))
  replace F_metadata_b3 := F_metadata_b3.keep K26 (ninS ne_b3_b22 (ninS ne_b3_b23_ta nin0))
  replace F_singleSignOn_b3 := F_singleSignOn_b3.keep K26 (ninS ne_b3_b22 (ninS ne_b3_b23_ta nin0))
  replace F_singleLogout_b3 := F_singleLogout_b3.keep K26 (ninS ne_b3_b22 (ninS ne_b3_b23_ta nin0))
  replace E_s0_9 := E_s0_9.keep K26
  replace F_value_s0_9 := F_value_s0_9.keep K26 (ninS ne_b9_s0_b22 (ninS ne_b9_s0_b23_ta nin0))
  replace F_coder_s0_9 := F_coder_s0_9.keep K26 (ninS ne_b9_s0_b22 (ninS ne_b9_s0_b23_ta nin0))
  replace V_b_9 := V_b_9.keep K26 (ninS ne_b9_b_b22 (ninS ne_b9_b_b23_ta nin0))
  replace E_s0_15 := E_s0_15.keep K26
  replace F_value_s0_15 := F_value_s0_15.keep K26 (ninS ne_b15_s0_b22 (ninS ne_b15_s0_b23_ta nin0))
  replace F_coder_s0_15 := F_coder_s0_15.keep K26 (ninS ne_b15_s0_b22 (ninS ne_b15_s0_b23_ta nin0))
  replace V_b_15 := V_b_15.keep K26 (ninS ne_b15_b_b22 (ninS ne_b15_b_b23_ta nin0))
  replace E_s0_21 := E_s0_21.keep K26
  replace F_value_s0_21 := F_value_s0_21.keep K26 (ninS ne_b21_s0_b22 (ninS ne_b21_s0_b23_ta nin0))
  replace F_coder_s0_21 := F_coder_s0_21.keep K26 (ninS ne_b21_s0_b22 (ninS ne_b21_s0_b23_ta nin0))
  replace V_b_21 := V_b_21.keep K26 (ninS ne_b21_b_b22 (ninS ne_b21_b_b23_ta nin0))
  replace A22 := A22.keep K26
  replace Ex25 := Ex25.keep K26
  replace Fc25 := Fc25.keep K26 (ninS nec_sa25_b22 (ninS (Ne.symm nx25_b23_ta.1) nin0))
  replace Fv25 := Fv25.keep K26 (ninS nec_sa25_b22 (ninS (Ne.symm nx25_b23_ta.1) nin0))
  replace Vv25 := Vv25.keep K26 (ninS (Ne.symm nev_b22_sb25) (ninS (Ne.symm nx25_b23_ta.2) nin0))
  replace O0 := O0.keep K26 (allS g_b22 (allS g_b23_ta all0))
  replace KC := KC.trans K26 (allS (Or.inr sz_b22) (allS (Or.inr sz_b23_ta) all0))
  obtain ⟨cq27, kq27, q27a, q27b, q27c⟩ := isOf hZ rfl A22
  obtain ⟨_, _, ⟨T27, L27, kz27, nz27⟩, -, X27, ⟨Lc27, hQ27, l27, y27, z27⟩, st27⟩ := X26.virtualBack hx (y := y_25) (z := y_25) hown (mvT hZ (ww hw 107 rfl)) (mvT hZ (ww hw 108 rfl)) (notFace_of_selects (args := #[]) (mvT hZ (ww hw 110 rfl))) (mvT hZ (ww hw 110 rfl)) (mvT hZ (ww hw 109 rfl)) (by decide) (backOf (W := 5) (rm_tos l Z a0 hw [] b22 b23_ta mD k_23 wD uD zc T26.heap n0 (Nat.le_trans Z0 KC.1) O0 F_value_a1_26 F_coder_a1_26 F_count_a1_26 A22 V_tb_26 S_CS hz hpD htD hgD huD) hZ (ww hw 111 rfl) (ww hw 52 rfl) (by decide) (by decide)) q27a q27c (g := (mkF m 113 #[vr a1] [(.ref b22), (.ref b21_s0), (.ref b15_s0), (.ref b9_s0), (.ref b3), (.ref b3)])) rfl (by rw [hml]; rfl) (Steps.refl _) (argsL := []) (rest := [(.ref b21_s0), (.ref b15_s0), (.ref b9_s0), (.ref b3), (.ref b3)]) (lenOf pd_28 rfl) rfl (by show 2 * 0 + _ ≤ _; exact Nat.le_of_eq rfl) (hb hby d4_113) (fun _ _ => ⟨rfl, rfl, (by decide : 25 + 2 ≤ _), (by decide : 252 + 20 ≤ _)⟩)
  dsimp only [Pt.U, Pt.locs, Pt.cells, Pt.slots] at X27 l27 y27 z27 st27 hQ27
  subst l27 y27 z27
  obtain ⟨b27_s0, b27_b, k2_27, rfl, N27q, K27, sz_b27_s0, sz_b27_b, E_s0_27, F_value_s0_27, F_coder_s0_27, V_b_27⟩ := hQ27
  have N27 := Fr.app N26 N27q
  have Sf_b27_s0 : Safe Z EL T25.vm T26.heap b27_s0 := Safe.new sz_b27_s0
  have Sf_b27_b : Safe Z EL T25.vm T26.heap b27_b := Safe.new sz_b27_b
  have ne_a1_b27_s0 : a1 ≠ b27_s0 := Nat.ne_of_lt (Nat.lt_of_lt_of_le E_a1.lt sz_b27_s0)
  have ne_ta_b27_s0 : ta ≠ b27_s0 := Nat.ne_of_lt (Nat.lt_of_lt_of_le V_ta.lt sz_b27_s0)
  have ne_b3_b27_s0 : b3 ≠ b27_s0 := Nat.ne_of_lt (Nat.lt_of_lt_of_le A3.lt sz_b27_s0)
  have ne_b9_s0_b27_s0 : b9_s0 ≠ b27_s0 := Nat.ne_of_lt (Nat.lt_of_lt_of_le E_s0_9.lt sz_b27_s0)
  have ne_b9_b_b27_s0 : b9_b ≠ b27_s0 := Nat.ne_of_lt (Nat.lt_of_lt_of_le V_b_9.lt sz_b27_s0)
  have ne_b15_s0_b27_s0 : b15_s0 ≠ b27_s0 := Nat.ne_of_lt (Nat.lt_of_lt_of_le E_s0_15.lt sz_b27_s0)
  have ne_b15_b_b27_s0 : b15_b ≠ b27_s0 := Nat.ne_of_lt (Nat.lt_of_lt_of_le V_b_15.lt sz_b27_s0)
  have ne_b21_s0_b27_s0 : b21_s0 ≠ b27_s0 := Nat.ne_of_lt (Nat.lt_of_lt_of_le E_s0_21.lt sz_b27_s0)
  have ne_b21_b_b27_s0 : b21_b ≠ b27_s0 := Nat.ne_of_lt (Nat.lt_of_lt_of_le V_b_21.lt sz_b27_s0)
  have ne_b22_b27_s0 : b22 ≠ b27_s0 := Nat.ne_of_lt (Nat.lt_of_lt_of_le A22.lt sz_b27_s0)
  have ne_sa25_b27_s0 : sa25 ≠ b27_s0 := Nat.ne_of_lt (Nat.lt_of_lt_of_le Ex25.lt sz_b27_s0)
  have ne_sb25_b27_s0 : sb25 ≠ b27_s0 := Nat.ne_of_lt (Nat.lt_of_lt_of_le Vv25.lt sz_b27_s0)
  have ne_b23_ta_b27_s0 : b23_ta ≠ b27_s0 := Nat.ne_of_lt (Nat.lt_of_lt_of_le V_tb_26.lt sz_b27_s0)
  have g_b27_s0 : n0 ≤ b27_s0 := Nat.le_trans (Nat.le_trans Z0 KC.1) sz_b27_s0
  replace sz_b27_s0 : h0.size ≤ b27_s0 := Nat.le_trans KC.1 sz_b27_s0
  have ne_a1_b27_b : a1 ≠ b27_b := Nat.ne_of_lt (Nat.lt_of_lt_of_le E_a1.lt sz_b27_b)
  have ne_ta_b27_b : ta ≠ b27_b := Nat.ne_of_lt (Nat.lt_of_lt_of_le V_ta.lt sz_b27_b)
  have ne_b3_b27_b : b3 ≠ b27_b := Nat.ne_of_lt (Nat.lt_of_lt_of_le A3.lt sz_b27_b)
  have ne_b9_s0_b27_b : b9_s0 ≠ b27_b := Nat.ne_of_lt (Nat.lt_of_lt_of_le E_s0_9.lt sz_b27_b)
  have ne_b9_b_b27_b : b9_b ≠ b27_b := Nat.ne_of_lt (Nat.lt_of_lt_of_le V_b_9.lt sz_b27_b)
  have ne_b15_s0_b27_b : b15_s0 ≠ b27_b := Nat.ne_of_lt (Nat.lt_of_lt_of_le E_s0_15.lt sz_b27_b)
  have ne_b15_b_b27_b : b15_b ≠ b27_b := Nat.ne_of_lt (Nat.lt_of_lt_of_le V_b_15.lt sz_b27_b)
  have ne_b21_s0_b27_b : b21_s0 ≠ b27_b := Nat.ne_of_lt (Nat.lt_of_lt_of_le E_s0_21.lt sz_b27_b)
  have ne_b21_b_b27_b : b21_b ≠ b27_b := Nat.ne_of_lt (Nat.lt_of_lt_of_le V_b_21.lt sz_b27_b)
  have ne_b22_b27_b : b22 ≠ b27_b := Nat.ne_of_lt (Nat.lt_of_lt_of_le A22.lt sz_b27_b)
  have ne_sa25_b27_b : sa25 ≠ b27_b := Nat.ne_of_lt (Nat.lt_of_lt_of_le Ex25.lt sz_b27_b)
  have ne_sb25_b27_b : sb25 ≠ b27_b := Nat.ne_of_lt (Nat.lt_of_lt_of_le Vv25.lt sz_b27_b)
  have ne_b23_ta_b27_b : b23_ta ≠ b27_b := Nat.ne_of_lt (Nat.lt_of_lt_of_le V_tb_26.lt sz_b27_b)
  have g_b27_b : n0 ≤ b27_b := Nat.le_trans (Nat.le_trans Z0 KC.1) sz_b27_b
  replace sz_b27_b : h0.size ≤ b27_b := Nat.le_trans KC.1 sz_b27_b
  replace Sf_b23_ta := Safe.keep K27 sf0 hC.1 Sf_b23_ta
  replace Sf_b27_s0 := Safe.keep K27 sf0 hC.1 Sf_b27_s0
  replace Sf_b27_b := Safe.keep K27 sf0 hC.1 Sf_b27_b
  replace hk := Nat.le_trans hk K27.1
  replace hC := hC.trans (CHr.keep K27 sf0 hC.1)
  replace E_a1 := E_a1.keep K27
  replace F_value_a1 := F_value_a1.keep K27 nin0
  replace F_coder_a1 := F_coder_a1.keep K27 nin0
  replace V_ta := V_ta.keep K27 nin0
  replace A3 := A3.keep K27
  replace F_entityId_b3 := F_entityId_b3.keep K27 nin0
  replace F_metadata_b3 := F_metadata_b3.keep K27 nin0
  replace F_singleSignOn_b3 := F_singleSignOn_b3.keep K27 nin0
  replace F_singleLogout_b3 := F_singleLogout_b3.keep K27 nin0
  replace E_s0_9 := E_s0_9.keep K27
  replace F_value_s0_9 := F_value_s0_9.keep K27 nin0
  replace F_coder_s0_9 := F_coder_s0_9.keep K27 nin0
  replace V_b_9 := V_b_9.keep K27 nin0
  replace E_s0_15 := E_s0_15.keep K27
  replace F_value_s0_15 := F_value_s0_15.keep K27 nin0
  replace F_coder_s0_15 := F_coder_s0_15.keep K27 nin0
  replace V_b_15 := V_b_15.keep K27 nin0
  replace E_s0_21 := E_s0_21.keep K27
  replace F_value_s0_21 := F_value_s0_21.keep K27 nin0
  replace F_coder_s0_21 := F_coder_s0_21.keep K27 nin0
  replace V_b_21 := V_b_21.keep K27 nin0
  replace A22 := A22.keep K27
  replace Ex25 := Ex25.keep K27
  replace Fc25 := Fc25.keep K27 nin0
  replace Fv25 := Fv25.keep K27 nin0
  replace Vv25 := Vv25.keep K27 nin0
  replace F_value_a1_26 := F_value_a1_26.keep K27 nin0
  replace F_coder_a1_26 := F_coder_a1_26.keep K27 nin0
  replace F_count_a1_26 := F_count_a1_26.keep K27 nin0
  replace V_tb_26 := V_tb_26.keep K27 nin0
  replace O0 := O0.keep K27 all0
  replace KC := KC.trans K27 all0
  obtain ⟨_, _, ⟨T28, L28, kz28, nz28⟩, -, X28, ⟨Lc28, hQ28, l28, y28, z28⟩, st28⟩ := X27.specialBack hx (y := y_38) rfl hown (mvT hZ (ww hw 155 rfl)) (mvT hZ (ww hw 156 rfl)) (mvT hZ (ww hw 157 rfl)) (by decide) (backOf (W := 1) (rm_idi l Z a0 hw [] b3 b9_s0 b15_s0 b21_s0 b27_s0 T27.heap n0 (Nat.le_trans Z0 KC.1) O0 F_entityId_b3 F_metadata_b3 F_singleSignOn_b3 F_singleLogout_b3 A3 g_b3) hZ (ww hw 157 rfl) (ww hw 24 rfl) (by decide) (by decide)) (g := (mkF m 116 #[vr a1] [(.ref b27_s0), (.ref b21_s0), (.ref b15_s0), (.ref b9_s0), (.ref b3), (.ref b3)])) rfl (by rw [hml]; rfl) (Steps.refl _) (a := b3) (argsL := [(.ref b9_s0), (.ref b15_s0), (.ref b21_s0), (.ref b27_s0)]) (rest := [(.ref b3)]) (lenOf pd_29 rfl) rfl (by show 2 * 0 + _ ≤ _; exact Nat.le_of_eq rfl) (hb hby d4_116) (fun _ _ => ⟨rfl, rfl, (by decide : 27 + 0 ≤ _), (by decide : 272 + 0 ≤ _)⟩)
  dsimp only [Pt.U, Pt.locs, Pt.cells, Pt.slots] at X28 l28 y28 z28 st28 hQ28
  subst l28 y28 z28
  obtain ⟨rfl, N28q, K28, F_entityId_a1_28, F_metadata_a1_28, F_singleSignOn_a1_28, F_singleLogout_a1_28⟩ := hQ28
  have N28 := Fr.app N27 N28q
  replace hk := Nat.le_trans hk K28.1
  replace hC := hC.trans (CHr.keep K28 (sfS (Safe.exa (EL := EL) hZ.alike A3 (by decide) (by decide)) sf0) hC.1)
  replace E_a1 := E_a1.keep K28
  replace F_value_a1 := F_value_a1.keep K28 (ninS ne_a1_b3 nin0)
  replace F_coder_a1 := F_coder_a1.keep K28 (ninS ne_a1_b3 nin0)
  replace V_ta := V_ta.keep K28 (ninS ne_ta_b3 nin0)
  replace A3 := A3.keep K28
  replace E_s0_9 := E_s0_9.keep K28
  replace F_value_s0_9 := F_value_s0_9.keep K28 (ninS (Ne.symm ne_b3_b9_s0) nin0)
  replace F_coder_s0_9 := F_coder_s0_9.keep K28 (ninS (Ne.symm ne_b3_b9_s0) nin0)
  replace V_b_9 := V_b_9.keep K28 (ninS (Ne.symm ne_b3_b9_b) nin0)
  replace E_s0_15 := E_s0_15.keep K28
  replace F_value_s0_15 := F_value_s0_15.keep K28 (ninS (Ne.symm ne_b3_b15_s0) nin0)
  replace F_coder_s0_15 := F_coder_s0_15.keep K28 (ninS (Ne.symm ne_b3_b15_s0) nin0)
  replace V_b_15 := V_b_15.keep K28 (ninS (Ne.symm ne_b3_b15_b) nin0)
  replace E_s0_21 := E_s0_21.keep K28
  replace F_value_s0_21 := F_value_s0_21.keep K28 (ninS (Ne.symm ne_b3_b21_s0) nin0)
  replace F_coder_s0_21 := F_coder_s0_21.keep K28 (ninS (Ne.symm ne_b3_b21_s0) nin0)
  replace V_b_21 := V_b_21.keep K28 (ninS (Ne.symm ne_b3_b21_b) nin0)
  replace E_s0_27 := E_s0_27.keep K28
  replace F_value_s0_27 := F_value_s0_27.keep K28 (ninS (Ne.symm ne_b3_b27_s0) nin0)
  replace F_coder_s0_27 := F_coder_s0_27.keep K28 (ninS (Ne.symm ne_b3_b27_s0) nin0)
  replace V_b_27 := V_b_27.keep K28 (ninS (Ne.symm ne_b3_b27_b) nin0)
  replace O0 := O0.keep K28 (allS g_b3 all0)
  replace KC := KC.trans K28 (allS (Or.inr sz_b3) all0)
  obtain ⟨fs, hr, hrun, hended, hRE⟩ := X28.leaveW hS hk (v := some (.ref b3)) (fun h => by rw [Bd.returns] at h; cases h)
  refine ⟨_, _, pre0 _ ?_, hrun, hended, _, _, rfl, ?_, ?_, hRE.1, hRE.2.1, hRE.2.2.1, hRE.2.2.2.mono (by decide) (by decide)⟩
  · show SS p e below m s₁ 0 #[vr a1] [] _
    refine XS.aloadN X0.here hx rfl (hb hby d4_0) rfl rfl ?_
    show SS p e below m s₁ 1 #[vr a1] [(.ref a1)] _
    refine st1 _ ?_
    show SS p e below m T1 3 #[vr a1] [(.ref sa1), (.ref a1)] _
    refine st2.trans ?_
    show SS p e below m T2 6 #[vr a1] [(.int (0 : Int32))] _
    refine XS.ifYes X2.here hx rfl (pc0 := 6) (pc' := 36) rfl (hb hby d4_6) rfl ((if0 _ _).trans (teq (by decide)).1) (by decide) (by decide) ?_
    show SS p e below m T2 36 #[vr a1] [] _
    refine st3 _ ?_
    show SS p e below m T3 39 #[vr a1] [(.ref b3)] _
    refine XS.dup X3.here hx rfl (hb hby d4_39) rfl rfl ?_
    show SS p e below m T3 40 #[vr a1] [(.ref b3), (.ref b3)] _
    refine st4 _ ?_
    show SS p e below m T4 43 #[vr a1] [(.ref b4), (.ref b3), (.ref b3)] _
    refine XS.dup X4.here hx rfl (hb hby d4_43) rfl rfl ?_
    show SS p e below m T4 44 #[vr a1] [(.ref b4), (.ref b4), (.ref b3), (.ref b3)] _
    refine st5.trans ?_
    show SS p e below m T5 47 #[vr a1] [(.ref b4), (.ref b3), (.ref b3)] _
    refine XS.aloadN X5.here hx rfl (hb hby d4_47) rfl rfl ?_
    show SS p e below m T5 48 #[vr a1] [(.ref a1), (.ref b4), (.ref b3), (.ref b3)] _
    refine st6.trans ?_
    show SS p e below m T6 51 #[vr a1] [(.ref b4), (.ref b3), (.ref b3)] _
    refine st7 _ ?_
    show SS p e below m T7 53 #[vr a1] [(.ref sa7), (.ref b4), (.ref b3), (.ref b3)] _
    refine st8.trans ?_
    show SS p e below m T8 56 #[vr a1] [(.ref b4), (.ref b3), (.ref b3)] _
    refine st9.trans ?_
    show SS p e below m T9 59 #[vr a1] [(.ref b9_s0), (.ref b3), (.ref b3)] _
    refine st10 _ ?_
    show SS p e below m T10 62 #[vr a1] [(.ref b10), (.ref b9_s0), (.ref b3), (.ref b3)] _
    refine XS.dup X10.here hx rfl (hb hby d4_62) rfl rfl ?_
    show SS p e below m T10 63 #[vr a1] [(.ref b10), (.ref b10), (.ref b9_s0), (.ref b3), (.ref b3)] _
    refine st11.trans ?_
    show SS p e below m T11 66 #[vr a1] [(.ref b10), (.ref b9_s0), (.ref b3), (.ref b3)] _
    refine XS.aloadN X11.here hx rfl (hb hby d4_66) rfl rfl ?_
    show SS p e below m T11 67 #[vr a1] [(.ref a1), (.ref b10), (.ref b9_s0), (.ref b3), (.ref b3)] _
    refine st12.trans ?_
    show SS p e below m T12 70 #[vr a1] [(.ref b10), (.ref b9_s0), (.ref b3), (.ref b3)] _
    refine st13 _ ?_
    show SS p e below m T13 72 #[vr a1] [(.ref sa13), (.ref b10), (.ref b9_s0), (.ref b3), (.ref b3)] _
    refine st14.trans ?_
    show SS p e below m T14 75 #[vr a1] [(.ref b10), (.ref b9_s0), (.ref b3), (.ref b3)] _
    refine st15.trans ?_
    show SS p e below m T15 78 #[vr a1] [(.ref b15_s0), (.ref b9_s0), (.ref b3), (.ref b3)] _
    refine st16 _ ?_
    show SS p e below m T16 81 #[vr a1] [(.ref b16), (.ref b15_s0), (.ref b9_s0), (.ref b3), (.ref b3)] _
    refine XS.dup X16.here hx rfl (hb hby d4_81) rfl rfl ?_
    show SS p e below m T16 82 #[vr a1] [(.ref b16), (.ref b16), (.ref b15_s0), (.ref b9_s0), (.ref b3), (.ref b3)] _
    refine st17.trans ?_
    show SS p e below m T17 85 #[vr a1] [(.ref b16), (.ref b15_s0), (.ref b9_s0), (.ref b3), (.ref b3)] _
    refine XS.aloadN X17.here hx rfl (hb hby d4_85) rfl rfl ?_
    show SS p e below m T17 86 #[vr a1] [(.ref a1), (.ref b16), (.ref b15_s0), (.ref b9_s0), (.ref b3), (.ref b3)] _
    refine st18.trans ?_
    show SS p e below m T18 89 #[vr a1] [(.ref b16), (.ref b15_s0), (.ref b9_s0), (.ref b3), (.ref b3)] _
    refine st19 _ ?_
    show SS p e below m T19 91 #[vr a1] [(.ref sa19), (.ref b16), (.ref b15_s0), (.ref b9_s0), (.ref b3), (.ref b3)] _
    refine st20.trans ?_
    show SS p e below m T20 94 #[vr a1] [(.ref b16), (.ref b15_s0), (.ref b9_s0), (.ref b3), (.ref b3)] _
    refine st21.trans ?_
    show SS p e below m T21 97 #[vr a1] [(.ref b21_s0), (.ref b15_s0), (.ref b9_s0), (.ref b3), (.ref b3)] _
    refine st22 _ ?_
    show SS p e below m T22 100 #[vr a1] [(.ref b22), (.ref b21_s0), (.ref b15_s0), (.ref b9_s0), (.ref b3), (.ref b3)] _
    refine XS.dup X22.here hx rfl (hb hby d4_100) rfl rfl ?_
    show SS p e below m T22 101 #[vr a1] [(.ref b22), (.ref b22), (.ref b21_s0), (.ref b15_s0), (.ref b9_s0), (.ref b3), (.ref b3)] _
    refine st23.trans ?_
    show SS p e below m T23 104 #[vr a1] [(.ref b22), (.ref b21_s0), (.ref b15_s0), (.ref b9_s0), (.ref b3), (.ref b3)] _
    refine XS.aloadN X23.here hx rfl (hb hby d4_104) rfl rfl ?_
    show SS p e below m T23 105 #[vr a1] [(.ref a1), (.ref b22), (.ref b21_s0), (.ref b15_s0), (.ref b9_s0), (.ref b3), (.ref b3)] _
    refine st24.trans ?_
    show SS p e below m T24 108 #[vr a1] [(.ref b22), (.ref b21_s0), (.ref b15_s0), (.ref b9_s0), (.ref b3), (.ref b3)] _
    refine st25 _ ?_
    show SS p e below m T25 110 #[vr a1] [(.ref sa25), (.ref b22), (.ref b21_s0), (.ref b15_s0), (.ref b9_s0), (.ref b3), (.ref b3)] _
    refine st26.trans ?_
    show SS p e below m T26 113 #[vr a1] [(.ref b22), (.ref b21_s0), (.ref b15_s0), (.ref b9_s0), (.ref b3), (.ref b3)] _
    refine st27.trans ?_
    show SS p e below m T27 116 #[vr a1] [(.ref b27_s0), (.ref b21_s0), (.ref b15_s0), (.ref b9_s0), (.ref b3), (.ref b3)] _
    refine st28.trans ?_
    show SS p e below m T28 119 #[vr a1] [(.ref b3)] _
    jvm_step X28.here [X28.here.top, hx, (hb hby d4_119), X28.method', Bd.returns, Value.isRef, FieldType.isReference]
    first | (intro acts; rw [hr _ acts rfl rfl rfl]) | rw [hr _ _ rfl rfl rfl]
    exact Steps.refl _
  · show Q_rm_und Z a1 ta k z vs v1 wA mA uA wB mB uB wC mC uC wD mD uD zc h0 n0 _ T28.heap _
    exact ⟨b3, b9_s0, b9_b, k2_9, b15_s0, b15_b, k2_15, b21_s0, b21_b, k2_21, b27_s0, b27_b, k2_27, rfl, N28, KC, sz_b3, A3, F_entityId_a1_28, F_metadata_a1_28, F_singleSignOn_a1_28, F_singleLogout_a1_28, E_s0_9, F_value_s0_9, F_coder_s0_9, V_b_9, E_s0_15, F_value_s0_15, F_coder_s0_15, V_b_15, E_s0_21, F_value_s0_21, F_coder_s0_21, V_b_21, E_s0_27, F_value_s0_27, F_coder_s0_27, V_b_27⟩
  · show CHr Z EL s.vm s.heap T28.vm T28.heap
    rw [hh]
    exact hC.trans (CHv.at X28 hZ hEL hC.1)
set_option maxRecDepth 65536 in
set_option maxHeartbeats 40000000 in
theorem rsg1 {p : Program} {l : Launch} {e : Env} {R : Room} {s : State} {m : MethodId} {args : Array Value} {below : List Frame} {meth : Method} {c : Code} {T0 : State} {locs : List Loc} {cells slots : Nat} {Z : State} {a0 : Array Value} (hw : ∀ d ∈ tables_1, d.before a0 Z = true) (X0 : Stand p l e R s m args below meth c T0 locs cells slots) (hx : p.tables.exec = Jvm.exec) (hZ : Z.Warmed39 s.vm) (hby : c.code = code) (hml : c.maxLocals = 11) (hown : s.vm.findClass "com/example/federant/federant/saml/IdpEndpointsUnderPinLaw" = some m.cls) (lq1 : Int32) (lq2 : Int32) (lq3 : Int32) (lq4 : Int32) (lq5 : Int32) (lq6 : Int32) (lq7 : Int32) (cs : Addr) (kc : ClassId) (x0 : Int32) (h0 : Heap) (n0 : Nat) (e0 : T0.heap = h0) (Z0 : n0 ≤ h0.size) (O0 : Old Z n0 h0) (N0 : Fr n0 locs) (V_cs : Arv Z h0 cs kc .char (1 : Int32) [(.int x0)] (.int (0 : Int32))) (g_cs : n0 ≤ cs) (hxl : ¬ (255 : Int32) < x0) (hbl : ¬ x0 = 47 → ¬ own_b x0 = 47) (hRf : 0 ≤ R.frames) (hRl : 0 ≤ R.locals) (hRc : cells + 0 ≤ R.cells) (hRs : slots + 0 ≤ R.slots) :
    ∃ (T' : State) (h' : Heap) (L' : List Loc), ∃ y0 : Int32, (Stand p l e R s m args below meth c T' L' (cells + 0) (slots + 0)) ∧ (T'.heap = h') ∧ (Fr n0 L') ∧ (Keep h0 h' [cs]) ∧ (Arv Z h' cs kc .char (1 : Int32) [(.int y0)] (.int (0 : Int32))) ∧ (¬ (255 : Int32) < y0) ∧ (¬ own_b y0 = 47) ∧ (∀ t, Steps p.tables e below (T'.setTop (mkF m 131 #[vi lq1, vi lq2, vi lq3, vi lq4, vi (1 : Int32), vi lq5, vi lq6, vi lq7, vr cs, un, un] [])) t → Steps p.tables e below (T0.setTop (mkF m 105 #[vi lq1, vi lq2, vi lq3, vi lq4, vi (1 : Int32), vi lq5, vi lq6, vi lq7, vr cs, un, un] [])) t) := by
  have KC : Keep h0 h0 [cs] := Keep.refl h0 _
  have pre0 : ∀ t, Steps p.tables e below (T0.setTop (mkF m 105 #[vi lq1, vi lq2, vi lq3, vi lq4, vi (1 : Int32), vi lq5, vi lq6, vi lq7, vr cs, un, un] [])) t → Steps p.tables e below (T0.setTop (mkF m 105 #[vi lq1, vi lq2, vi lq3, vi lq4, vi (1 : Int32), vi lq5, vi lq6, vi lq7, vr cs, un, un] [])) t := fun _ k => k
  have Vo1 := V_cs
  obtain ⟨cl1, Ar1, q1, Sz1, Nn1, Hh1, Gg1⟩ := Vo1
  have hin1 : ¬ ((0 : Int32) < 0 ∨ cl1.slots.size ≤ ((0 : Int32)).toNatClampNeg) := inb_of Sz1 ⟨by decide, by decide⟩
  have hat1 : cl1.slots[((0 : Int32)).toNatClampNeg]? = some (.int x0) := Has.at Hh1 hin1 rfl
  have ia1 := State.isArrayOf_alike hZ.alike Ar1.2.1
  have pre2 : ∀ t, Steps p.tables e below (T0.setTop (mkF m 119 #[vi lq1, vi lq2, vi lq3, vi lq4, vi (1 : Int32), vi lq5, vi lq6, vi lq7, vr cs, un, un] [(.int (47 : Int32)), (.int x0)])) t → Steps p.tables e below (T0.setTop (mkF m 105 #[vi lq1, vi lq2, vi lq3, vi lq4, vi (1 : Int32), vi lq5, vi lq6, vi lq7, vr cs, un, un] [])) t := by
    intro t kt
    refine pre0 t ?_
    show SS p e below m T0 105 #[vi lq1, vi lq2, vi lq3, vi lq4, vi (1 : Int32), vi lq5, vi lq6, vi lq7, vr cs, un, un] [] _
    refine XS.iload X0.here hx rfl (hb hby at_105) rfl ?_
    show SS p e below m T0 107 #[vi lq1, vi lq2, vi lq3, vi lq4, vi (1 : Int32), vi lq5, vi lq6, vi lq7, vr cs, un, un] [(.int (1 : Int32))] _
    refine XS.ifNo X0.here hx rfl (hb hby at_107) rfl ((if0 _ _).trans (tlt (by decide)).2.2.2) ?_
    show SS p e below m T0 110 #[vi lq1, vi lq2, vi lq3, vi lq4, vi (1 : Int32), vi lq5, vi lq6, vi lq7, vr cs, un, un] [] _
    refine XS.aload X0.here hx rfl (hb hby at_110) rfl rfl ?_
    show SS p e below m T0 112 #[vi lq1, vi lq2, vi lq3, vi lq4, vi (1 : Int32), vi lq5, vi lq6, vi lq7, vr cs, un, un] [(.ref cs)] _
    refine XS.iload X0.here hx rfl (hb hby at_112) rfl ?_
    show SS p e below m T0 114 #[vi lq1, vi lq2, vi lq3, vi lq4, vi (1 : Int32), vi lq5, vi lq6, vi lq7, vr cs, un, un] [(.int (1 : Int32)), (.ref cs)] _
    refine XS.iconst X0.here hx rfl (hb hby at_114) ?_
    show SS p e below m T0 115 #[vi lq1, vi lq2, vi lq3, vi lq4, vi (1 : Int32), vi lq5, vi lq6, vi lq7, vr cs, un, un] [(.int (1 : Int32)), (.int (1 : Int32)), (.ref cs)] _
    refine XS.isub X0.here hx rfl (hb hby at_115) rfl ?_
    show SS p e below m T0 116 #[vi lq1, vi lq2, vi lq3, vi lq4, vi (1 : Int32), vi lq5, vi lq6, vi lq7, vr cs, un, un] [(.int (0 : Int32)), (.ref cs)] _
    refine X0.caload hx (j := (0 : Int32)) (v := (.int x0)) (by rw [e0]; exact Ar1.1) ia1 Ar1.2.2 hin1 hat1 (g := (mkF m 116 #[vi lq1, vi lq2, vi lq3, vi lq4, vi (1 : Int32), vi lq5, vi lq6, vi lq7, vr cs, un, un] [(.int (0 : Int32)), (.ref cs)])) rfl rfl (hb hby at_116) _ ?_
    show SS p e below m T0 117 #[vi lq1, vi lq2, vi lq3, vi lq4, vi (1 : Int32), vi lq5, vi lq6, vi lq7, vr cs, un, un] [(.int x0)] _
    refine XS.bipush X0.here hx rfl (hb hby at_117) ?_
    exact kt
  by_cases hc119_3 : x0 = (47 : Int32)
  · have Vo4 := V_cs
    obtain ⟨cl4, Ar4, q4, Sz4, Nn4, Hh4, Gg4⟩ := Vo4
    have hin4 : ¬ ((0 : Int32) < 0 ∨ cl4.slots.size ≤ ((0 : Int32)).toNatClampNeg) := inb_of Sz4 ⟨by decide, by decide⟩
    obtain ⟨T5, h5, X5, e5, W5, st5⟩ := stC X0 hx hZ e0 Ar4 (j := (0 : Int32)) hin4 (g := (mkF m 130 #[vi lq1, vi lq2, vi lq3, vi lq4, vi (1 : Int32), vi lq5, vi lq6, vi lq7, vr cs, un, un] [(.int (46 : Int32)), (.int (0 : Int32)), (.ref cs)])) rfl rfl (hb hby at_130)
    have Vn5 := Arv.set Ar4 q4 Sz4 Nn4 Hh4 Gg4 (fits_nar_char _) W5 (0) rfl (Nat.le_of_ble_eq_true rfl)
    have N5 := Fr.snoc X5 N0 g_cs
    have Vm5 : Arv Z h5 cs kc .char (1 : Int32) [(.int (46 : Int32))] (.int (0 : Int32)) := by have hh := Vn5; rw [own_n46] at hh; exact hh
    replace O0 := O0.wr W5 g_cs
    replace KC := KC.wr W5 (Or.inl (List.mem_of_getElem? (i := 0) rfl))
    have pre6 : ∀ t, Steps p.tables e below (T5.setTop (mkF m 131 #[vi lq1, vi lq2, vi lq3, vi lq4, vi (1 : Int32), vi lq5, vi lq6, vi lq7, vr cs, un, un] [])) t → Steps p.tables e below (T0.setTop (mkF m 105 #[vi lq1, vi lq2, vi lq3, vi lq4, vi (1 : Int32), vi lq5, vi lq6, vi lq7, vr cs, un, un] [])) t := by
      intro t kt
      refine pre2 t ?_
      show SS p e below m T0 119 #[vi lq1, vi lq2, vi lq3, vi lq4, vi (1 : Int32), vi lq5, vi lq6, vi lq7, vr cs, un, un] [(.int (47 : Int32)), (.int x0)] _
      refine XS.icmpNo X0.here hx rfl (hb hby at_119) rfl (teq hc119_3).2 ?_
      show SS p e below m T0 122 #[vi lq1, vi lq2, vi lq3, vi lq4, vi (1 : Int32), vi lq5, vi lq6, vi lq7, vr cs, un, un] [] _
      refine XS.aload X0.here hx rfl (hb hby at_122) rfl rfl ?_
      show SS p e below m T0 124 #[vi lq1, vi lq2, vi lq3, vi lq4, vi (1 : Int32), vi lq5, vi lq6, vi lq7, vr cs, un, un] [(.ref cs)] _
      refine XS.iload X0.here hx rfl (hb hby at_124) rfl ?_
      show SS p e below m T0 126 #[vi lq1, vi lq2, vi lq3, vi lq4, vi (1 : Int32), vi lq5, vi lq6, vi lq7, vr cs, un, un] [(.int (1 : Int32)), (.ref cs)] _
      refine XS.iconst X0.here hx rfl (hb hby at_126) ?_
      show SS p e below m T0 127 #[vi lq1, vi lq2, vi lq3, vi lq4, vi (1 : Int32), vi lq5, vi lq6, vi lq7, vr cs, un, un] [(.int (1 : Int32)), (.int (1 : Int32)), (.ref cs)] _
      refine XS.isub X0.here hx rfl (hb hby at_127) rfl ?_
      show SS p e below m T0 128 #[vi lq1, vi lq2, vi lq3, vi lq4, vi (1 : Int32), vi lq5, vi lq6, vi lq7, vr cs, un, un] [(.int (0 : Int32)), (.ref cs)] _
      refine XS.bipush X0.here hx rfl (hb hby at_128) ?_
      show SS p e below m T0 130 #[vi lq1, vi lq2, vi lq3, vi lq4, vi (1 : Int32), vi lq5, vi lq6, vi lq7, vr cs, un, un] [(.int (46 : Int32)), (.int (0 : Int32)), (.ref cs)] _
      refine st5 _ ?_
      exact kt
    exact ⟨T5, _, _, (46 : Int32), X5.more (by omega) (by omega), e5, N5, KC, Vm5, (by decide), (by decide), pre6⟩
  · have pre7 : ∀ t, Steps p.tables e below (T0.setTop (mkF m 131 #[vi lq1, vi lq2, vi lq3, vi lq4, vi (1 : Int32), vi lq5, vi lq6, vi lq7, vr cs, un, un] [])) t → Steps p.tables e below (T0.setTop (mkF m 105 #[vi lq1, vi lq2, vi lq3, vi lq4, vi (1 : Int32), vi lq5, vi lq6, vi lq7, vr cs, un, un] [])) t := by
      intro t kt
      refine pre2 t ?_
      show SS p e below m T0 119 #[vi lq1, vi lq2, vi lq3, vi lq4, vi (1 : Int32), vi lq5, vi lq6, vi lq7, vr cs, un, un] [(.int (47 : Int32)), (.int x0)] _
      refine XS.icmpYes X0.here hx rfl (pc0 := 119) (pc' := 131) rfl (hb hby at_119) rfl (feq hc119_3).2 (by decide) (by decide) ?_
      exact kt
    exact ⟨T0, _, _, x0, X0.more (by omega) (by omega), e0, N0, KC, V_cs, hxl, (hbl hc119_3), pre7⟩
set_option maxRecDepth 65536 in
set_option maxHeartbeats 40000000 in
theorem rsg2 {p : Program} {l : Launch} {e : Env} {R : Room} {s : State} {m : MethodId} {args : Array Value} {below : List Frame} {meth : Method} {c : Code} {T0 : State} {locs : List Loc} {cells slots : Nat} {Z : State} {a0 : Array Value} (hw : ∀ d ∈ tables_1, d.before a0 Z = true) (X0 : Stand p l e R s m args below meth c T0 locs cells slots) (hx : p.tables.exec = Jvm.exec) (hZ : Z.Warmed39 s.vm) (hby : c.code = code) (hml : c.maxLocals = 11) (hown : s.vm.findClass "com/example/federant/federant/saml/IdpEndpointsUnderPinLaw" = some m.cls) (lq1 : Int32) (lq2 : Int32) (lq3 : Int32) (lq4 : Int32) (lq5 : Int32) (lq6 : Int32) (lq7 : Int32) (cs : Addr) (kc : ClassId) (x0 : Int32) (x1 : Int32) (h0 : Heap) (n0 : Nat) (e0 : T0.heap = h0) (Z0 : n0 ≤ h0.size) (O0 : Old Z n0 h0) (N0 : Fr n0 locs) (V_cs : Arv Z h0 cs kc .char (2 : Int32) [(.int x0), (.int x1)] (.int (0 : Int32))) (g_cs : n0 ≤ cs) (hxl : ¬ (255 : Int32) < x1) (hbl : ¬ x1 = 47 → ¬ own_b x1 = 47) (hRf : 0 ≤ R.frames) (hRl : 0 ≤ R.locals) (hRc : cells + 0 ≤ R.cells) (hRs : slots + 0 ≤ R.slots) :
    ∃ (T' : State) (h' : Heap) (L' : List Loc), ∃ y0 : Int32, (Stand p l e R s m args below meth c T' L' (cells + 0) (slots + 0)) ∧ (T'.heap = h') ∧ (Fr n0 L') ∧ (Keep h0 h' [cs]) ∧ (Arv Z h' cs kc .char (2 : Int32) [(.int x0), (.int y0)] (.int (0 : Int32))) ∧ (¬ (255 : Int32) < y0) ∧ (¬ own_b y0 = 47) ∧ (∀ t, Steps p.tables e below (T'.setTop (mkF m 131 #[vi lq1, vi lq2, vi lq3, vi lq4, vi (2 : Int32), vi lq5, vi lq6, vi lq7, vr cs, un, un] [])) t → Steps p.tables e below (T0.setTop (mkF m 105 #[vi lq1, vi lq2, vi lq3, vi lq4, vi (2 : Int32), vi lq5, vi lq6, vi lq7, vr cs, un, un] [])) t) := by
  have KC : Keep h0 h0 [cs] := Keep.refl h0 _
  have pre0 : ∀ t, Steps p.tables e below (T0.setTop (mkF m 105 #[vi lq1, vi lq2, vi lq3, vi lq4, vi (2 : Int32), vi lq5, vi lq6, vi lq7, vr cs, un, un] [])) t → Steps p.tables e below (T0.setTop (mkF m 105 #[vi lq1, vi lq2, vi lq3, vi lq4, vi (2 : Int32), vi lq5, vi lq6, vi lq7, vr cs, un, un] [])) t := fun _ k => k
  have Vo1 := V_cs
  obtain ⟨cl1, Ar1, q1, Sz1, Nn1, Hh1, Gg1⟩ := Vo1
  have hin1 : ¬ ((1 : Int32) < 0 ∨ cl1.slots.size ≤ ((1 : Int32)).toNatClampNeg) := inb_of Sz1 ⟨by decide, by decide⟩
  have hat1 : cl1.slots[((1 : Int32)).toNatClampNeg]? = some (.int x1) := Has.at Hh1 hin1 rfl
  have ia1 := State.isArrayOf_alike hZ.alike Ar1.2.1
  have pre2 : ∀ t, Steps p.tables e below (T0.setTop (mkF m 119 #[vi lq1, vi lq2, vi lq3, vi lq4, vi (2 : Int32), vi lq5, vi lq6, vi lq7, vr cs, un, un] [(.int (47 : Int32)), (.int x1)])) t → Steps p.tables e below (T0.setTop (mkF m 105 #[vi lq1, vi lq2, vi lq3, vi lq4, vi (2 : Int32), vi lq5, vi lq6, vi lq7, vr cs, un, un] [])) t := by
    intro t kt
    refine pre0 t ?_
    show SS p e below m T0 105 #[vi lq1, vi lq2, vi lq3, vi lq4, vi (2 : Int32), vi lq5, vi lq6, vi lq7, vr cs, un, un] [] _
    refine XS.iload X0.here hx rfl (hb hby at_105) rfl ?_
    show SS p e below m T0 107 #[vi lq1, vi lq2, vi lq3, vi lq4, vi (2 : Int32), vi lq5, vi lq6, vi lq7, vr cs, un, un] [(.int (2 : Int32))] _
    refine XS.ifNo X0.here hx rfl (hb hby at_107) rfl ((if0 _ _).trans (tlt (by decide)).2.2.2) ?_
    show SS p e below m T0 110 #[vi lq1, vi lq2, vi lq3, vi lq4, vi (2 : Int32), vi lq5, vi lq6, vi lq7, vr cs, un, un] [] _
    refine XS.aload X0.here hx rfl (hb hby at_110) rfl rfl ?_
    show SS p e below m T0 112 #[vi lq1, vi lq2, vi lq3, vi lq4, vi (2 : Int32), vi lq5, vi lq6, vi lq7, vr cs, un, un] [(.ref cs)] _
    refine XS.iload X0.here hx rfl (hb hby at_112) rfl ?_
    show SS p e below m T0 114 #[vi lq1, vi lq2, vi lq3, vi lq4, vi (2 : Int32), vi lq5, vi lq6, vi lq7, vr cs, un, un] [(.int (2 : Int32)), (.ref cs)] _
    refine XS.iconst X0.here hx rfl (hb hby at_114) ?_
    show SS p e below m T0 115 #[vi lq1, vi lq2, vi lq3, vi lq4, vi (2 : Int32), vi lq5, vi lq6, vi lq7, vr cs, un, un] [(.int (1 : Int32)), (.int (2 : Int32)), (.ref cs)] _
    refine XS.isub X0.here hx rfl (hb hby at_115) rfl ?_
    show SS p e below m T0 116 #[vi lq1, vi lq2, vi lq3, vi lq4, vi (2 : Int32), vi lq5, vi lq6, vi lq7, vr cs, un, un] [(.int (1 : Int32)), (.ref cs)] _
    refine X0.caload hx (j := (1 : Int32)) (v := (.int x1)) (by rw [e0]; exact Ar1.1) ia1 Ar1.2.2 hin1 hat1 (g := (mkF m 116 #[vi lq1, vi lq2, vi lq3, vi lq4, vi (2 : Int32), vi lq5, vi lq6, vi lq7, vr cs, un, un] [(.int (1 : Int32)), (.ref cs)])) rfl rfl (hb hby at_116) _ ?_
    show SS p e below m T0 117 #[vi lq1, vi lq2, vi lq3, vi lq4, vi (2 : Int32), vi lq5, vi lq6, vi lq7, vr cs, un, un] [(.int x1)] _
    refine XS.bipush X0.here hx rfl (hb hby at_117) ?_
    exact kt
  by_cases hc119_3 : x1 = (47 : Int32)
  · have Vo4 := V_cs
    obtain ⟨cl4, Ar4, q4, Sz4, Nn4, Hh4, Gg4⟩ := Vo4
    have hin4 : ¬ ((1 : Int32) < 0 ∨ cl4.slots.size ≤ ((1 : Int32)).toNatClampNeg) := inb_of Sz4 ⟨by decide, by decide⟩
    obtain ⟨T5, h5, X5, e5, W5, st5⟩ := stC X0 hx hZ e0 Ar4 (j := (1 : Int32)) hin4 (g := (mkF m 130 #[vi lq1, vi lq2, vi lq3, vi lq4, vi (2 : Int32), vi lq5, vi lq6, vi lq7, vr cs, un, un] [(.int (46 : Int32)), (.int (1 : Int32)), (.ref cs)])) rfl rfl (hb hby at_130)
    have Vn5 := Arv.set Ar4 q4 Sz4 Nn4 Hh4 Gg4 (fits_nar_char _) W5 (1) rfl (Nat.le_of_ble_eq_true rfl)
    have N5 := Fr.snoc X5 N0 g_cs
    have Vm5 : Arv Z h5 cs kc .char (2 : Int32) [(.int x0), (.int (46 : Int32))] (.int (0 : Int32)) := by have hh := Vn5; rw [own_n46] at hh; exact hh
    replace O0 := O0.wr W5 g_cs
    replace KC := KC.wr W5 (Or.inl (List.mem_of_getElem? (i := 0) rfl))
    have pre6 : ∀ t, Steps p.tables e below (T5.setTop (mkF m 131 #[vi lq1, vi lq2, vi lq3, vi lq4, vi (2 : Int32), vi lq5, vi lq6, vi lq7, vr cs, un, un] [])) t → Steps p.tables e below (T0.setTop (mkF m 105 #[vi lq1, vi lq2, vi lq3, vi lq4, vi (2 : Int32), vi lq5, vi lq6, vi lq7, vr cs, un, un] [])) t := by
      intro t kt
      refine pre2 t ?_
      show SS p e below m T0 119 #[vi lq1, vi lq2, vi lq3, vi lq4, vi (2 : Int32), vi lq5, vi lq6, vi lq7, vr cs, un, un] [(.int (47 : Int32)), (.int x1)] _
      refine XS.icmpNo X0.here hx rfl (hb hby at_119) rfl (teq hc119_3).2 ?_
      show SS p e below m T0 122 #[vi lq1, vi lq2, vi lq3, vi lq4, vi (2 : Int32), vi lq5, vi lq6, vi lq7, vr cs, un, un] [] _
      refine XS.aload X0.here hx rfl (hb hby at_122) rfl rfl ?_
      show SS p e below m T0 124 #[vi lq1, vi lq2, vi lq3, vi lq4, vi (2 : Int32), vi lq5, vi lq6, vi lq7, vr cs, un, un] [(.ref cs)] _
      refine XS.iload X0.here hx rfl (hb hby at_124) rfl ?_
      show SS p e below m T0 126 #[vi lq1, vi lq2, vi lq3, vi lq4, vi (2 : Int32), vi lq5, vi lq6, vi lq7, vr cs, un, un] [(.int (2 : Int32)), (.ref cs)] _
      refine XS.iconst X0.here hx rfl (hb hby at_126) ?_
      show SS p e below m T0 127 #[vi lq1, vi lq2, vi lq3, vi lq4, vi (2 : Int32), vi lq5, vi lq6, vi lq7, vr cs, un, un] [(.int (1 : Int32)), (.int (2 : Int32)), (.ref cs)] _
      refine XS.isub X0.here hx rfl (hb hby at_127) rfl ?_
      show SS p e below m T0 128 #[vi lq1, vi lq2, vi lq3, vi lq4, vi (2 : Int32), vi lq5, vi lq6, vi lq7, vr cs, un, un] [(.int (1 : Int32)), (.ref cs)] _
      refine XS.bipush X0.here hx rfl (hb hby at_128) ?_
      show SS p e below m T0 130 #[vi lq1, vi lq2, vi lq3, vi lq4, vi (2 : Int32), vi lq5, vi lq6, vi lq7, vr cs, un, un] [(.int (46 : Int32)), (.int (1 : Int32)), (.ref cs)] _
      refine st5 _ ?_
      exact kt
    exact ⟨T5, _, _, (46 : Int32), X5.more (by omega) (by omega), e5, N5, KC, Vm5, (by decide), (by decide), pre6⟩
  · have pre7 : ∀ t, Steps p.tables e below (T0.setTop (mkF m 131 #[vi lq1, vi lq2, vi lq3, vi lq4, vi (2 : Int32), vi lq5, vi lq6, vi lq7, vr cs, un, un] [])) t → Steps p.tables e below (T0.setTop (mkF m 105 #[vi lq1, vi lq2, vi lq3, vi lq4, vi (2 : Int32), vi lq5, vi lq6, vi lq7, vr cs, un, un] [])) t := by
      intro t kt
      refine pre2 t ?_
      show SS p e below m T0 119 #[vi lq1, vi lq2, vi lq3, vi lq4, vi (2 : Int32), vi lq5, vi lq6, vi lq7, vr cs, un, un] [(.int (47 : Int32)), (.int x1)] _
      refine XS.icmpYes X0.here hx rfl (pc0 := 119) (pc' := 131) rfl (hb hby at_119) rfl (feq hc119_3).2 (by decide) (by decide) ?_
      exact kt
    exact ⟨T0, _, _, x1, X0.more (by omega) (by omega), e0, N0, KC, V_cs, hxl, (hbl hc119_3), pre7⟩
set_option maxRecDepth 65536 in
set_option maxHeartbeats 40000000 in
theorem rsg3 {p : Program} {l : Launch} {e : Env} {R : Room} {s : State} {m : MethodId} {args : Array Value} {below : List Frame} {meth : Method} {c : Code} {T0 : State} {locs : List Loc} {cells slots : Nat} {Z : State} {a0 : Array Value} (hw : ∀ d ∈ tables_1, d.before a0 Z = true) (X0 : Stand p l e R s m args below meth c T0 locs cells slots) (hx : p.tables.exec = Jvm.exec) (hZ : Z.Warmed39 s.vm) (hby : c.code = code) (hml : c.maxLocals = 11) (hown : s.vm.findClass "com/example/federant/federant/saml/IdpEndpointsUnderPinLaw" = some m.cls) (lq1 : Int32) (lq2 : Int32) (lq3 : Int32) (lq4 : Int32) (lq5 : Int32) (lq6 : Int32) (lq7 : Int32) (cs : Addr) (kc : ClassId) (x0 : Int32) (x1 : Int32) (x2 : Int32) (h0 : Heap) (n0 : Nat) (e0 : T0.heap = h0) (Z0 : n0 ≤ h0.size) (O0 : Old Z n0 h0) (N0 : Fr n0 locs) (V_cs : Arv Z h0 cs kc .char (3 : Int32) [(.int x0), (.int x1), (.int x2)] (.int (0 : Int32))) (g_cs : n0 ≤ cs) (hxl : ¬ (255 : Int32) < x2) (hbl : ¬ x2 = 47 → ¬ own_b x2 = 47) (hRf : 0 ≤ R.frames) (hRl : 0 ≤ R.locals) (hRc : cells + 0 ≤ R.cells) (hRs : slots + 0 ≤ R.slots) :
    ∃ (T' : State) (h' : Heap) (L' : List Loc), ∃ y0 : Int32, (Stand p l e R s m args below meth c T' L' (cells + 0) (slots + 0)) ∧ (T'.heap = h') ∧ (Fr n0 L') ∧ (Keep h0 h' [cs]) ∧ (Arv Z h' cs kc .char (3 : Int32) [(.int x0), (.int x1), (.int y0)] (.int (0 : Int32))) ∧ (¬ (255 : Int32) < y0) ∧ (¬ own_b y0 = 47) ∧ (∀ t, Steps p.tables e below (T'.setTop (mkF m 131 #[vi lq1, vi lq2, vi lq3, vi lq4, vi (3 : Int32), vi lq5, vi lq6, vi lq7, vr cs, un, un] [])) t → Steps p.tables e below (T0.setTop (mkF m 105 #[vi lq1, vi lq2, vi lq3, vi lq4, vi (3 : Int32), vi lq5, vi lq6, vi lq7, vr cs, un, un] [])) t) := by
  have KC : Keep h0 h0 [cs] := Keep.refl h0 _
  have pre0 : ∀ t, Steps p.tables e below (T0.setTop (mkF m 105 #[vi lq1, vi lq2, vi lq3, vi lq4, vi (3 : Int32), vi lq5, vi lq6, vi lq7, vr cs, un, un] [])) t → Steps p.tables e below (T0.setTop (mkF m 105 #[vi lq1, vi lq2, vi lq3, vi lq4, vi (3 : Int32), vi lq5, vi lq6, vi lq7, vr cs, un, un] [])) t := fun _ k => k
  have Vo1 := V_cs
  obtain ⟨cl1, Ar1, q1, Sz1, Nn1, Hh1, Gg1⟩ := Vo1
  have hin1 : ¬ ((2 : Int32) < 0 ∨ cl1.slots.size ≤ ((2 : Int32)).toNatClampNeg) := inb_of Sz1 ⟨by decide, by decide⟩
  have hat1 : cl1.slots[((2 : Int32)).toNatClampNeg]? = some (.int x2) := Has.at Hh1 hin1 rfl
  have ia1 := State.isArrayOf_alike hZ.alike Ar1.2.1
  have pre2 : ∀ t, Steps p.tables e below (T0.setTop (mkF m 119 #[vi lq1, vi lq2, vi lq3, vi lq4, vi (3 : Int32), vi lq5, vi lq6, vi lq7, vr cs, un, un] [(.int (47 : Int32)), (.int x2)])) t → Steps p.tables e below (T0.setTop (mkF m 105 #[vi lq1, vi lq2, vi lq3, vi lq4, vi (3 : Int32), vi lq5, vi lq6, vi lq7, vr cs, un, un] [])) t := by
    intro t kt
    refine pre0 t ?_
    show SS p e below m T0 105 #[vi lq1, vi lq2, vi lq3, vi lq4, vi (3 : Int32), vi lq5, vi lq6, vi lq7, vr cs, un, un] [] _
    refine XS.iload X0.here hx rfl (hb hby at_105) rfl ?_
    show SS p e below m T0 107 #[vi lq1, vi lq2, vi lq3, vi lq4, vi (3 : Int32), vi lq5, vi lq6, vi lq7, vr cs, un, un] [(.int (3 : Int32))] _
    refine XS.ifNo X0.here hx rfl (hb hby at_107) rfl ((if0 _ _).trans (tlt (by decide)).2.2.2) ?_
    show SS p e below m T0 110 #[vi lq1, vi lq2, vi lq3, vi lq4, vi (3 : Int32), vi lq5, vi lq6, vi lq7, vr cs, un, un] [] _
    refine XS.aload X0.here hx rfl (hb hby at_110) rfl rfl ?_
    show SS p e below m T0 112 #[vi lq1, vi lq2, vi lq3, vi lq4, vi (3 : Int32), vi lq5, vi lq6, vi lq7, vr cs, un, un] [(.ref cs)] _
    refine XS.iload X0.here hx rfl (hb hby at_112) rfl ?_
    show SS p e below m T0 114 #[vi lq1, vi lq2, vi lq3, vi lq4, vi (3 : Int32), vi lq5, vi lq6, vi lq7, vr cs, un, un] [(.int (3 : Int32)), (.ref cs)] _
    refine XS.iconst X0.here hx rfl (hb hby at_114) ?_
    show SS p e below m T0 115 #[vi lq1, vi lq2, vi lq3, vi lq4, vi (3 : Int32), vi lq5, vi lq6, vi lq7, vr cs, un, un] [(.int (1 : Int32)), (.int (3 : Int32)), (.ref cs)] _
    refine XS.isub X0.here hx rfl (hb hby at_115) rfl ?_
    show SS p e below m T0 116 #[vi lq1, vi lq2, vi lq3, vi lq4, vi (3 : Int32), vi lq5, vi lq6, vi lq7, vr cs, un, un] [(.int (2 : Int32)), (.ref cs)] _
    refine X0.caload hx (j := (2 : Int32)) (v := (.int x2)) (by rw [e0]; exact Ar1.1) ia1 Ar1.2.2 hin1 hat1 (g := (mkF m 116 #[vi lq1, vi lq2, vi lq3, vi lq4, vi (3 : Int32), vi lq5, vi lq6, vi lq7, vr cs, un, un] [(.int (2 : Int32)), (.ref cs)])) rfl rfl (hb hby at_116) _ ?_
    show SS p e below m T0 117 #[vi lq1, vi lq2, vi lq3, vi lq4, vi (3 : Int32), vi lq5, vi lq6, vi lq7, vr cs, un, un] [(.int x2)] _
    refine XS.bipush X0.here hx rfl (hb hby at_117) ?_
    exact kt
  by_cases hc119_3 : x2 = (47 : Int32)
  · have Vo4 := V_cs
    obtain ⟨cl4, Ar4, q4, Sz4, Nn4, Hh4, Gg4⟩ := Vo4
    have hin4 : ¬ ((2 : Int32) < 0 ∨ cl4.slots.size ≤ ((2 : Int32)).toNatClampNeg) := inb_of Sz4 ⟨by decide, by decide⟩
    obtain ⟨T5, h5, X5, e5, W5, st5⟩ := stC X0 hx hZ e0 Ar4 (j := (2 : Int32)) hin4 (g := (mkF m 130 #[vi lq1, vi lq2, vi lq3, vi lq4, vi (3 : Int32), vi lq5, vi lq6, vi lq7, vr cs, un, un] [(.int (46 : Int32)), (.int (2 : Int32)), (.ref cs)])) rfl rfl (hb hby at_130)
    have Vn5 := Arv.set Ar4 q4 Sz4 Nn4 Hh4 Gg4 (fits_nar_char _) W5 (2) rfl (Nat.le_of_ble_eq_true rfl)
    have N5 := Fr.snoc X5 N0 g_cs
    have Vm5 : Arv Z h5 cs kc .char (3 : Int32) [(.int x0), (.int x1), (.int (46 : Int32))] (.int (0 : Int32)) := by have hh := Vn5; rw [own_n46] at hh; exact hh
    replace O0 := O0.wr W5 g_cs
    replace KC := KC.wr W5 (Or.inl (List.mem_of_getElem? (i := 0) rfl))
    have pre6 : ∀ t, Steps p.tables e below (T5.setTop (mkF m 131 #[vi lq1, vi lq2, vi lq3, vi lq4, vi (3 : Int32), vi lq5, vi lq6, vi lq7, vr cs, un, un] [])) t → Steps p.tables e below (T0.setTop (mkF m 105 #[vi lq1, vi lq2, vi lq3, vi lq4, vi (3 : Int32), vi lq5, vi lq6, vi lq7, vr cs, un, un] [])) t := by
      intro t kt
      refine pre2 t ?_
      show SS p e below m T0 119 #[vi lq1, vi lq2, vi lq3, vi lq4, vi (3 : Int32), vi lq5, vi lq6, vi lq7, vr cs, un, un] [(.int (47 : Int32)), (.int x2)] _
      refine XS.icmpNo X0.here hx rfl (hb hby at_119) rfl (teq hc119_3).2 ?_
      show SS p e below m T0 122 #[vi lq1, vi lq2, vi lq3, vi lq4, vi (3 : Int32), vi lq5, vi lq6, vi lq7, vr cs, un, un] [] _
      refine XS.aload X0.here hx rfl (hb hby at_122) rfl rfl ?_
      show SS p e below m T0 124 #[vi lq1, vi lq2, vi lq3, vi lq4, vi (3 : Int32), vi lq5, vi lq6, vi lq7, vr cs, un, un] [(.ref cs)] _
      refine XS.iload X0.here hx rfl (hb hby at_124) rfl ?_
      show SS p e below m T0 126 #[vi lq1, vi lq2, vi lq3, vi lq4, vi (3 : Int32), vi lq5, vi lq6, vi lq7, vr cs, un, un] [(.int (3 : Int32)), (.ref cs)] _
      refine XS.iconst X0.here hx rfl (hb hby at_126) ?_
      show SS p e below m T0 127 #[vi lq1, vi lq2, vi lq3, vi lq4, vi (3 : Int32), vi lq5, vi lq6, vi lq7, vr cs, un, un] [(.int (1 : Int32)), (.int (3 : Int32)), (.ref cs)] _
      refine XS.isub X0.here hx rfl (hb hby at_127) rfl ?_
      show SS p e below m T0 128 #[vi lq1, vi lq2, vi lq3, vi lq4, vi (3 : Int32), vi lq5, vi lq6, vi lq7, vr cs, un, un] [(.int (2 : Int32)), (.ref cs)] _
      refine XS.bipush X0.here hx rfl (hb hby at_128) ?_
      show SS p e below m T0 130 #[vi lq1, vi lq2, vi lq3, vi lq4, vi (3 : Int32), vi lq5, vi lq6, vi lq7, vr cs, un, un] [(.int (46 : Int32)), (.int (2 : Int32)), (.ref cs)] _
      refine st5 _ ?_
      exact kt
    exact ⟨T5, _, _, (46 : Int32), X5.more (by omega) (by omega), e5, N5, KC, Vm5, (by decide), (by decide), pre6⟩
  · have pre7 : ∀ t, Steps p.tables e below (T0.setTop (mkF m 131 #[vi lq1, vi lq2, vi lq3, vi lq4, vi (3 : Int32), vi lq5, vi lq6, vi lq7, vr cs, un, un] [])) t → Steps p.tables e below (T0.setTop (mkF m 105 #[vi lq1, vi lq2, vi lq3, vi lq4, vi (3 : Int32), vi lq5, vi lq6, vi lq7, vr cs, un, un] [])) t := by
      intro t kt
      refine pre2 t ?_
      show SS p e below m T0 119 #[vi lq1, vi lq2, vi lq3, vi lq4, vi (3 : Int32), vi lq5, vi lq6, vi lq7, vr cs, un, un] [(.int (47 : Int32)), (.int x2)] _
      refine XS.icmpYes X0.here hx rfl (pc0 := 119) (pc' := 131) rfl (hb hby at_119) rfl (feq hc119_3).2 (by decide) (by decide) ?_
      exact kt
    exact ⟨T0, _, _, x2, X0.more (by omega) (by omega), e0, N0, KC, V_cs, hxl, (hbl hc119_3), pre7⟩
theorem pd_30 : parseMethodDescriptor "([C)V" = some ⟨[(.array .char)], none⟩ := by decide +kernel
theorem pd_31 : parseMethodDescriptor "(Ljava/lang/String;)Lcom/example/federant/federant/saml/IdpEndpoints;" = some ⟨[(.object "java/lang/String")], some (.object "com/example/federant/federant/saml/IdpEndpoints")⟩ := by decide +kernel
theorem pd_32 : parseMethodDescriptor "(Ljava/lang/String;Ljava/lang/String;Ljava/lang/String;)Z" = some ⟨[(.object "java/lang/String"), (.object "java/lang/String"), (.object "java/lang/String")], some .boolean⟩ := by decide +kernel
theorem ef_rm0 (m : MethodId) (x0 : Int32) (x1 : Int32) (x2 : Int32) (x3 : Int32) : entryFrame m #[(.int x0), (.int x1), (.int x2), (.int x3)] maxLocals = mkF m 0 #[vi x0, vi x1, vi x2, vi x3, .unset, .unset, .unset, .unset, .unset, .unset, .unset] [] := by first | (simp [entryFrame, mkF, argsToLocals, Value.category, maxLocals]; done) | rfl
def Q_rm0 (Z : State) (p1 : Int32) (p2 : Int32) (p3 : Int32) (p4 : Int32) (zc : Int32) (fm : Value) (h0 : Heap) (n0 : Nat) (v : Option Value) (h : Heap) (L : List Loc) : Prop := (v = some (.int (1 : Int32))) ∧ (Fr n0 L) ∧ (Keep h0 h [])
set_option maxRecDepth 65536 in
set_option maxHeartbeats 40000000 in
theorem rm0 (l : Launch) (Z : State) (a0 : Array Value) (hw : ∀ d ∈ tables_1, d.before a0 Z = true) (ws : List Jvm.Cond) (p1 : Int32) (p2 : Int32) (p3 : Int32) (p4 : Int32) (zc : Int32) (fm : Value) (h0 : Heap) (n0 : Nat) (Z0 : n0 ≤ h0.size) (O0 : Old Z n0 h0) (S_CS : Sta Z Z.heap "java/lang/String" "COMPACT_STRINGS" "Z" (.int zc)) (hz : ¬ zc = (0 : Int32)) (S_FM : Sta Z Z.heap "jdk/internal/util/Preconditions" "SIOOBE_FORMATTER" "Ljava/util/function/BiFunction;" fm) (hW_fm : fm.isRef = true) :
    MetFree l x (head1 (Jvm.Cond.code x code maxLocals ret :: ws) room_1) (fun a U => a = #[(.int p1), (.int p2), (.int p3), (.int p4)] ∧ Z.Warmed39 U.vm ∧ U.heap = h0 ∧ CHv Z EL U.vm h0) (fun _ _ _ _ _ => True) (fun _ U o U' => ∃ v L, o = .returned v ∧ Q_rm0 Z p1 p2 p3 p4 zc fm h0 n0 v U'.heap L ∧ CHr Z EL U.vm U.heap U'.vm U'.heap ∧ ReturnedEndW U o U' L room_1.cells room_1.slots) := by
  refine MetFree.of_bodySF (plainFor_of_name pn_9) hisR ?_
  intro p e s m args below meth c s₁ Bd hml0 hP hK
  obtain ⟨rfl, hZ0, hh, hC0⟩ := hP
  have hx := Bd.exec
  have hby := Bd.bytes
  have hml : c.maxLocals = 11 := hml0
  have hown : (s.setVm s.vm).vm.findClass "com/example/federant/federant/saml/IdpEndpointsUnderPinLaw" = some m.cls := findClass_of_methodNamed Bd.named
  have hnm := (name_of_methodNamed Bd.named Bd.method).1
  have X0 : Stand p l e room_1 (s.setVm s.vm) m #[(.int p1), (.int p2), (.int p3), (.int p4)] below meth c s₁ [] 0 0 := Stand.of_body Bd
  have e0 : s₁.heap = h0 := by rw [← hh, Bd.state]; rfl
  have N0 := Fr.nil n0
  have KC : Keep h0 h0 [] := Keep.refl h0 _
  have pre0 : ∀ t, Steps p.tables e below (s₁.setTop (mkF m 0 #[vi p1, vi p2, vi p3, vi p4, un, un, un, un, un, un, un] [])) t → Steps p.tables e below (s₁.setTop (entryFrame m #[(.int p1), (.int p2), (.int p3), (.int p4)] maxLocals)) t := fun t k => castTop (ef_rm0 m p1 p2 p3 p4) k
  have hZ : Z.Warmed39 (s.setVm s.vm).vm := hZ0
  have hEL := own_hEL hw
  have wS := own_wS hw
  have hS : s.Since s.vm 0 := (State.WarmedH.refl s).since 0
  have hk : 0 ≤ h0.size := Nat.zero_le _
  have hC : CHr Z EL s.vm h0 s.vm h0 := CHr.refl hC0
  have pre1 : ∀ t, Steps p.tables e below (s₁.setTop (mkF m 3 #[vi p1, vi p2, vi p3, vi p4, un, un, un, un, un, un, un] [(.int (p1 &&& (3 : Int32)))])) t → Steps p.tables e below (s₁.setTop (entryFrame m #[(.int p1), (.int p2), (.int p3), (.int p4)] maxLocals)) t := by
    intro t kt
    refine pre0 t ?_
    show SS p e below m s₁ 0 #[vi p1, vi p2, vi p3, vi p4, un, un, un, un, un, un, un] [] _
    refine XS.iloadN X0.here hx rfl (hb hby at_0) rfl ?_
    show SS p e below m s₁ 1 #[vi p1, vi p2, vi p3, vi p4, un, un, un, un, un, un, un] [(.int p1)] _
    refine XS.iconst X0.here hx rfl (hb hby at_1) ?_
    show SS p e below m s₁ 2 #[vi p1, vi p2, vi p3, vi p4, un, un, un, un, un, un, un] [(.int (3 : Int32)), (.int p1)] _
    refine XS.iand X0.here hx rfl (hb hby at_2) rfl ?_
    exact kt
  rcases own_n4 p1 with hc | hc | hc | hc
  · rw [hc] at pre1
    obtain ⟨x0, ex0, hx0, nx0, hb0⟩ := own_x p2
    have pre2 : ∀ t, Steps p.tables e below (s₁.setTop (mkF m 11 #[vi p1, vi p2, vi p3, vi p4, vi (0 : Int32), un, un, un, un, un, un] [(.int ((p2 &&& (255 : Int32)).toUInt32.toUInt16.toUInt32.toInt32))])) t → Steps p.tables e below (s₁.setTop (entryFrame m #[(.int p1), (.int p2), (.int p3), (.int p4)] maxLocals)) t := by
      intro t kt
      refine pre1 t ?_
      show SS p e below m s₁ 3 #[vi p1, vi p2, vi p3, vi p4, un, un, un, un, un, un, un] [(.int (0 : Int32))] _
      refine XS.istore X0.here hx rfl (hb hby at_3) rfl (l' := #[vi p1, vi p2, vi p3, vi p4, vi (0 : Int32), un, un, un, un, un, un]) rfl ?_
      show SS p e below m s₁ 5 #[vi p1, vi p2, vi p3, vi p4, vi (0 : Int32), un, un, un, un, un, un] [] _
      refine XS.iloadN X0.here hx rfl (hb hby at_5) rfl ?_
      show SS p e below m s₁ 6 #[vi p1, vi p2, vi p3, vi p4, vi (0 : Int32), un, un, un, un, un, un] [(.int p2)] _
      refine XS.sipush X0.here hx rfl (hb hby at_6) ?_
      show SS p e below m s₁ 9 #[vi p1, vi p2, vi p3, vi p4, vi (0 : Int32), un, un, un, un, un, un] [(.int (255 : Int32)), (.int p2)] _
      refine XS.iand X0.here hx rfl (hb hby at_9) rfl ?_
      show SS p e below m s₁ 10 #[vi p1, vi p2, vi p3, vi p4, vi (0 : Int32), un, un, un, un, un, un] [(.int (p2 &&& (255 : Int32)))] _
      refine XS.i2c X0.here hx rfl (hb hby at_10) rfl ?_
      exact kt
    rw [ex0] at pre2
    obtain ⟨x1, ex1, hx1, nx1, hb1⟩ := own_x p3
    have pre3 : ∀ t, Steps p.tables e below (s₁.setTop (mkF m 19 #[vi p1, vi p2, vi p3, vi p4, vi (0 : Int32), vi x0, un, un, un, un, un] [(.int ((p3 &&& (255 : Int32)).toUInt32.toUInt16.toUInt32.toInt32))])) t → Steps p.tables e below (s₁.setTop (entryFrame m #[(.int p1), (.int p2), (.int p3), (.int p4)] maxLocals)) t := by
      intro t kt
      refine pre2 t ?_
      show SS p e below m s₁ 11 #[vi p1, vi p2, vi p3, vi p4, vi (0 : Int32), un, un, un, un, un, un] [(.int x0)] _
      refine XS.istore X0.here hx rfl (hb hby at_11) rfl (l' := #[vi p1, vi p2, vi p3, vi p4, vi (0 : Int32), vi x0, un, un, un, un, un]) rfl ?_
      show SS p e below m s₁ 13 #[vi p1, vi p2, vi p3, vi p4, vi (0 : Int32), vi x0, un, un, un, un, un] [] _
      refine XS.iloadN X0.here hx rfl (hb hby at_13) rfl ?_
      show SS p e below m s₁ 14 #[vi p1, vi p2, vi p3, vi p4, vi (0 : Int32), vi x0, un, un, un, un, un] [(.int p3)] _
      refine XS.sipush X0.here hx rfl (hb hby at_14) ?_
      show SS p e below m s₁ 17 #[vi p1, vi p2, vi p3, vi p4, vi (0 : Int32), vi x0, un, un, un, un, un] [(.int (255 : Int32)), (.int p3)] _
      refine XS.iand X0.here hx rfl (hb hby at_17) rfl ?_
      show SS p e below m s₁ 18 #[vi p1, vi p2, vi p3, vi p4, vi (0 : Int32), vi x0, un, un, un, un, un] [(.int (p3 &&& (255 : Int32)))] _
      refine XS.i2c X0.here hx rfl (hb hby at_18) rfl ?_
      exact kt
    rw [ex1] at pre3
    obtain ⟨x2, ex2, hx2, nx2, hb2⟩ := own_x p4
    have pre4 : ∀ t, Steps p.tables e below (s₁.setTop (mkF m 27 #[vi p1, vi p2, vi p3, vi p4, vi (0 : Int32), vi x0, vi x1, un, un, un, un] [(.int ((p4 &&& (255 : Int32)).toUInt32.toUInt16.toUInt32.toInt32))])) t → Steps p.tables e below (s₁.setTop (entryFrame m #[(.int p1), (.int p2), (.int p3), (.int p4)] maxLocals)) t := by
      intro t kt
      refine pre3 t ?_
      show SS p e below m s₁ 19 #[vi p1, vi p2, vi p3, vi p4, vi (0 : Int32), vi x0, un, un, un, un, un] [(.int x1)] _
      refine XS.istore X0.here hx rfl (hb hby at_19) rfl (l' := #[vi p1, vi p2, vi p3, vi p4, vi (0 : Int32), vi x0, vi x1, un, un, un, un]) rfl ?_
      show SS p e below m s₁ 21 #[vi p1, vi p2, vi p3, vi p4, vi (0 : Int32), vi x0, vi x1, un, un, un, un] [] _
      refine XS.iloadN X0.here hx rfl (hb hby at_21) rfl ?_
      show SS p e below m s₁ 22 #[vi p1, vi p2, vi p3, vi p4, vi (0 : Int32), vi x0, vi x1, un, un, un, un] [(.int p4)] _
      refine XS.sipush X0.here hx rfl (hb hby at_22) ?_
      show SS p e below m s₁ 25 #[vi p1, vi p2, vi p3, vi p4, vi (0 : Int32), vi x0, vi x1, un, un, un, un] [(.int (255 : Int32)), (.int p4)] _
      refine XS.iand X0.here hx rfl (hb hby at_25) rfl ?_
      show SS p e below m s₁ 26 #[vi p1, vi p2, vi p3, vi p4, vi (0 : Int32), vi x0, vi x1, un, un, un, un] [(.int (p4 &&& (255 : Int32)))] _
      refine XS.i2c X0.here hx rfl (hb hby at_26) rfl ?_
      exact kt
    rw [ex2] at pre4
    obtain ⟨T5, h5, k5, X5, e5, E5, A5, st5⟩ := newP X0 hx hZ (ww hw 0 rfl) e0 (g := (mkF m 35 #[vi p1, vi p2, vi p3, vi p4, vi (0 : Int32), vi x0, vi x1, vi x2, un, un, un] [(.int (0 : Int32))])) rfl (hb hby at_35) rfl (by decide) (cap := 0) (by decide) (by decide) (by decide) (by decide)
    obtain ⟨b5, g5⟩ : ∃ z, z = h0.size := ⟨_, rfl⟩
    rw [← g5] at A5 st5
    have g_b5 : n0 ≤ b5 := Nat.le_trans (Nat.le_trans Z0 KC.1) (Nat.le_of_eq g5.symm)
    have sz_b5 : h0.size ≤ b5 := Nat.le_trans KC.1 (Nat.le_of_eq g5.symm)
    replace hk := Nat.le_trans hk E5.1
    replace hC := hC.trans (CHr.ext E5 hC.1)
    replace O0 := O0.ext E5
    replace KC := KC.ext E5
    have V_b5 : Arv Z h5 b5 k5 .char (0 : Int32) [] (.int (0 : Int32)) := Arv.new A5 (by decide)
    obtain ⟨T6, h6, X6, e6, E6, A6, D6, -, st6⟩ := newO X5 hx hZ hown (ww hw 1 rfl) (ww hw 2 rfl) (ww hw 3 rfl) e5 (g := (mkF m 131 #[vi p1, vi p2, vi p3, vi p4, vi (0 : Int32), vi x0, vi x1, vi x2, vr b5, un, un] [])) rfl (hb hby at_131) (by decide) (by decide)
    obtain ⟨b6, g6⟩ : ∃ z, z = h5.size := ⟨_, rfl⟩
    rw [← g6] at A6 D6 st6
    have ne_b5_b6 : b5 ≠ b6 := Nat.ne_of_lt (Nat.lt_of_lt_of_le V_b5.lt (Nat.le_of_eq g6.symm))
    have g_b6 : n0 ≤ b6 := Nat.le_trans (Nat.le_trans Z0 KC.1) (Nat.le_of_eq g6.symm)
    have sz_b6 : h0.size ≤ b6 := Nat.le_trans KC.1 (Nat.le_of_eq g6.symm)
    replace hk := Nat.le_trans hk E6.1
    replace hC := hC.trans (CHr.ext E6 hC.1)
    replace V_b5 := V_b5.ext E6
    replace O0 := O0.ext E6
    replace KC := KC.ext E6
    have F_value_b6 : Fld Z h6 b6 "java/lang/String" "value" "[B" .null := D6 (Or.inr (ww hw 16 rfl)) (ty := (.array .byte)) (by decide)
    have F_coder_b6 : Fld Z h6 b6 "java/lang/String" "coder" "B" (.int (0 : Int32)) := D6 (Or.inr (ww hw 17 rfl)) (ty := .byte) (by decide)
    obtain ⟨_, _, ⟨T7, L7, kz7, nz7⟩, -, X7, hS7, gr7, ⟨Lc7, hQ7, l7, y7, z7, C7⟩, st7⟩ := X6.specialBackS hx (y := y_28) rfl hown (mvT hZ (ww hw 4 rfl)) (mvT hZ (ww hw 5 rfl)) (mvT hZ (ww hw 6 rfl)) (by decide) (backOfSH (W := 1) (rm_i10 l Z a0 hw [] b6 b5 k5 h6 n0 (Nat.le_trans Z0 KC.1) O0 F_value_b6 F_coder_b6 A6 g_b6 V_b5) hZ (ww hw 6 rfl) (ww hw 3 rfl) (by decide) (by decide) hEL hC.1) (g := (mkF m 137 #[vi p1, vi p2, vi p3, vi p4, vi (0 : Int32), vi x0, vi x1, vi x2, vr b5, un, un] [(.ref b5), (.ref b6), (.ref b6)])) rfl (by rw [hml]; rfl) (Steps.refl _) (a := b6) (argsL := [(.ref b5)]) (rest := [(.ref b6)]) (lenOf pd_30 rfl) rfl (by show 2 * 0 + _ ≤ _; exact Nat.le_of_eq rfl) (hb hby at_137) (fun _ _ => ⟨rfl, e6, (by decide : 2 + 4 ≤ _), (by decide : 4 + 8 ≤ _)⟩)
    dsimp only [Pt.U, Pt.locs, Pt.cells, Pt.slots] at X7 l7 y7 z7 st7 hQ7 hS7 gr7 C7
    subst l7 y7 z7
    rw [e6] at gr7
    obtain ⟨Xr7, hSr7, hZr7, hownr7⟩ := rebS hS hk X7 hS7 gr7 hZ hown
    replace hC := hC.trans C7
    replace hZ := hZr7
    replace hown := hownr7
    replace hS := hSr7
    replace hk : T7.heap.size ≤ T7.heap.size := Nat.le_refl _
    replace X7 := Xr7
    obtain ⟨tz_7, kb_7, rfl, N7q, K7, F_value_a1_7, F_coder_a1_7, V_tz_7⟩ := hQ7
    have N7 := Fr.app N0 N7q
    replace V_b5 := V_b5.keep K7 (ninS ne_b5_b6 nin0)
    replace A6 := A6.keep K7
    replace O0 := O0.keep K7 (allS g_b6 all0)
    replace KC := KC.trans K7 (allS (Or.inr sz_b6) all0)
    obtain ⟨_, _, ⟨T8, L8, kz8, nz8⟩, -, X8, hS8, gr8, ⟨Lc8, hQ8, l8, y8, z8, C8⟩, st8⟩ := callSS X7 hx (y := y_43) hown (mvT hZ (ww hw 22 rfl)) (mvT hZ (ww hw 23 rfl)) (mvT hZ (ww hw 24 rfl)) (mvT hZ (ww hw 25 rfl)) (by decide) (backOfSH (W := 0) (rm_und l Z a0 hw [] b6 tz_7 kb_7 (0 : Int32) [] [nO, nO, nO, nO, nO, nO, nO, nO, nO, nO, nO, nO, nO, nO, nO, nO] [(.int (47 : Int32)), (.int (105 : Int32)), (.int (100 : Int32)), (.int (112 : Int32)), nO, nO, nO, nO, nO, nO, nO, nO, nO, nO, nO, nO] (4 : Int32) [(.int (47 : Int32)), (.int (105 : Int32)), (.int (100 : Int32)), (.int (112 : Int32)), nO, nO, nO, nO, nO, nO, nO, nO, nO, nO, nO, nO] [(.int (47 : Int32)), (.int (109 : Int32)), (.int (101 : Int32)), (.int (116 : Int32)), (.int (97 : Int32)), (.int (100 : Int32)), (.int (97 : Int32)), (.int (116 : Int32)), (.int (97 : Int32)), nO, nO, nO, nO, nO, nO, nO] (9 : Int32) [(.int (47 : Int32)), (.int (109 : Int32)), (.int (101 : Int32)), (.int (116 : Int32)), (.int (97 : Int32)), (.int (100 : Int32)), (.int (97 : Int32)), (.int (116 : Int32)), (.int (97 : Int32)), nO, nO, nO, nO, nO, nO, nO] [(.int (47 : Int32)), (.int (115 : Int32)), (.int (115 : Int32)), (.int (111 : Int32)), nO, nO, nO, nO, nO, nO, nO, nO, nO, nO, nO, nO] (4 : Int32) [(.int (47 : Int32)), (.int (115 : Int32)), (.int (115 : Int32)), (.int (111 : Int32)), nO, nO, nO, nO, nO, nO, nO, nO, nO, nO, nO, nO] [(.int (47 : Int32)), (.int (115 : Int32)), (.int (108 : Int32)), (.int (111 : Int32)), nO, nO, nO, nO, nO, nO, nO, nO, nO, nO, nO, nO] (4 : Int32) [(.int (47 : Int32)), (.int (115 : Int32)), (.int (108 : Int32)), (.int (111 : Int32)), nO, nO, nO, nO, nO, nO, nO, nO, nO, nO, nO, nO] zc T7.heap n0 (Nat.le_trans Z0 KC.1) O0 A6 F_value_a1_7 F_coder_a1_7 V_tz_7 S_CS hz (Or.inl rfl) (by decide) (by decide) rfl (by decide) (by decide) (Nat.le_of_ble_eq_true rfl) rfl (by decide) (by decide) (by decide) (by decide) (by decide) rfl (by decide) (Nat.le_of_ble_eq_true rfl) rfl (by decide) (by decide) (by decide) (by decide) (by decide) rfl (by decide) (Nat.le_of_ble_eq_true rfl) rfl (by decide) (by decide) (by decide) (by decide) (by decide) rfl (by decide) (Nat.le_of_ble_eq_true rfl) rfl (by decide) (by decide) (by decide) (by decide) (by decide) rfl) hZ (ww hw 25 rfl) (ww hw 24 rfl) (by decide) (by decide) hEL hC.1) (g := (mkF m 144 #[vi p1, vi p2, vi p3, vi p4, vi (0 : Int32), vi x0, vi x1, vi x2, vr b5, vr b6, un] [(.ref b6)])) rfl (by rw [hml]; rfl) (argsL := [(.ref b6)]) (rest := []) (lenOf pd_31 rfl) rfl (by show 2 * 0 + _ ≤ _; exact Nat.le_of_eq rfl) (hb hby at_144) (fun _ _ => ⟨rfl, rfl, (by decide : 6 + 27 ≤ _), (by decide : 12 + 272 ≤ _)⟩)
    dsimp only [Pt.U, Pt.locs, Pt.cells, Pt.slots] at X8 l8 y8 z8 st8 hQ8 hS8 gr8 C8
    subst l8 y8 z8
    obtain ⟨Xr8, hSr8, hZr8, hownr8⟩ := rebS hS hk X8 hS8 gr8 hZ hown
    replace hC := hC.trans C8
    replace hZ := hZr8
    replace hown := hownr8
    replace hS := hSr8
    replace hk : T8.heap.size ≤ T8.heap.size := Nat.le_refl _
    replace X8 := Xr8
    obtain ⟨b8_e0, sA_8, tA_8, kA_8, sB_8, tB_8, kB_8, sC_8, tC_8, kC_8, sD_8, tD_8, kD_8, rfl, N8q, K8, sz_b8_e0, E_e0_8, F_entityId_e0_8, F_metadata_e0_8, F_singleSignOn_e0_8, F_singleLogout_e0_8, E_sA_8, F_value_sA_8, F_coder_sA_8, V_tA_8, E_sB_8, F_value_sB_8, F_coder_sB_8, V_tB_8, E_sC_8, F_value_sC_8, F_coder_sC_8, V_tC_8, E_sD_8, F_value_sD_8, F_coder_sD_8, V_tD_8⟩ := hQ8
    have N8 := Fr.app N7 N8q
    have ne_b5_b8_e0 : b5 ≠ b8_e0 := Nat.ne_of_lt (Nat.lt_of_lt_of_le V_b5.lt sz_b8_e0)
    have ne_b6_b8_e0 : b6 ≠ b8_e0 := Nat.ne_of_lt (Nat.lt_of_lt_of_le A6.lt sz_b8_e0)
    have ne_tz_7_b8_e0 : tz_7 ≠ b8_e0 := Nat.ne_of_lt (Nat.lt_of_lt_of_le V_tz_7.lt sz_b8_e0)
    have g_b8_e0 : n0 ≤ b8_e0 := Nat.le_trans (Nat.le_trans Z0 KC.1) sz_b8_e0
    replace sz_b8_e0 : h0.size ≤ b8_e0 := Nat.le_trans KC.1 sz_b8_e0
    replace V_b5 := V_b5.keep K8 nin0
    replace A6 := A6.keep K8
    replace F_value_a1_7 := F_value_a1_7.keep K8 nin0
    replace F_coder_a1_7 := F_coder_a1_7.keep K8 nin0
    replace V_tz_7 := V_tz_7.keep K8 nin0
    replace O0 := O0.keep K8 all0
    replace KC := KC.trans K8 all0
    obtain ⟨cq9, kq9, q9a, q9b, q9c⟩ := isOf hZ rfl E_e0_8
    obtain ⟨_, _, ⟨T9, L9, kz9, nz9⟩, -, X9, ⟨Lc9, hQ9, l9, y9, z9⟩, st9⟩ := X8.virtualBack hx (y := y_39) (z := y_39) hown (mvT hZ (ww hw 172 rfl)) (mvT hZ (ww hw 173 rfl)) (notFace_of_selects (args := #[]) (mvT hZ (ww hw 175 rfl))) (mvT hZ (ww hw 175 rfl)) (mvT hZ (ww hw 174 rfl)) (by decide) (backOf (W := 0) (rm_get_entityId l Z a0 hw [] b8_e0 sA_8 T8.heap n0 (Nat.le_trans Z0 KC.1) O0 F_entityId_e0_8) hZ (ww hw 176 rfl) (ww hw 24 rfl) (by decide) (by decide)) q9a q9c (g := (mkF m 156 #[vi p1, vi p2, vi p3, vi p4, vi (0 : Int32), vi x0, vi x1, vi x2, vr b5, vr b6, vr b8_e0] [(.ref b8_e0)])) rfl (by rw [hml]; rfl) (Steps.refl _) (argsL := []) (rest := []) (lenOf pd_28 rfl) rfl (by show 2 * 0 + _ ≤ _; exact Nat.le_of_eq rfl) (hb hby at_156) (fun _ _ => ⟨rfl, rfl, (by decide : 33 + 0 ≤ _), (by decide : 284 + 0 ≤ _)⟩)
    dsimp only [Pt.U, Pt.locs, Pt.cells, Pt.slots] at X9 l9 y9 z9 st9 hQ9
    subst l9 y9 z9
    obtain ⟨rfl, N9q, e9⟩ := hQ9
    have N9 := Fr.app N8 N9q
    obtain ⟨sa10, T10, h10, kx10, sb10, kc10, X10, e10, E10, hS10, hk10, hZ10, hown10, Ex10, Fc10, Fv10, Vv10, -, -, C10, -, nx10, st10⟩ := ldcCH X9 hx hZ hown (ww hw 177 rfl) wS e9 hS hk hEL (by decide) hC.1 (vs := [(.int (47 : Int32)), (.int (105 : Int32)), (.int (100 : Int32)), (.int (112 : Int32))]) (z := (4 : Int32)) ⟨by decide, by first | rfl | decide⟩ (by decide) (by first | rfl | decide) (g := (mkF m 161 #[vi p1, vi p2, vi p3, vi p4, vi (0 : Int32), vi x0, vi x1, vi x2, vr b5, vr b6, vr b8_e0] [(.ref b6), (.ref sA_8)])) rfl (hb hby at_161) (n := 16) (by decide) (by decide) (by decide) (by decide)
    replace V_b5 := V_b5.ext E10
    replace A6 := A6.ext E10
    replace F_value_a1_7 := F_value_a1_7.ext E10
    replace F_coder_a1_7 := F_coder_a1_7.ext E10
    replace V_tz_7 := V_tz_7.ext E10
    replace E_e0_8 := E_e0_8.ext E10
    replace F_entityId_e0_8 := F_entityId_e0_8.ext E10
    replace F_metadata_e0_8 := F_metadata_e0_8.ext E10
    replace F_singleSignOn_e0_8 := F_singleSignOn_e0_8.ext E10
    replace F_singleLogout_e0_8 := F_singleLogout_e0_8.ext E10
    replace E_sA_8 := E_sA_8.ext E10
    replace F_value_sA_8 := F_value_sA_8.ext E10
    replace F_coder_sA_8 := F_coder_sA_8.ext E10
    replace V_tA_8 := V_tA_8.ext E10
    replace E_sB_8 := E_sB_8.ext E10
    replace F_value_sB_8 := F_value_sB_8.ext E10
    replace F_coder_sB_8 := F_coder_sB_8.ext E10
    replace V_tB_8 := V_tB_8.ext E10
    replace E_sC_8 := E_sC_8.ext E10
    replace F_value_sC_8 := F_value_sC_8.ext E10
    replace F_coder_sC_8 := F_coder_sC_8.ext E10
    replace V_tC_8 := V_tC_8.ext E10
    replace E_sD_8 := E_sD_8.ext E10
    replace F_value_sD_8 := F_value_sD_8.ext E10
    replace F_coder_sD_8 := F_coder_sD_8.ext E10
    replace V_tD_8 := V_tD_8.ext E10
    replace O0 := O0.ext E10
    replace KC := KC.ext E10
    replace hC := hC.trans C10
    replace hZ := hZ10
    replace hown := hown10
    replace hS := hS10
    replace hk := hk10
    obtain ⟨_, _, ⟨T11, L11, kz11, nz11⟩, -, X11, ⟨Lc11, hQ11, l11, y11, z11⟩, st11⟩ := Jvm.LawKit.callS X10 hx (y := y_37) hown (mvT hZ (ww hw 178 rfl)) (mvT hZ (ww hw 179 rfl)) (mvT hZ (ww hw 180 rfl)) (mvT hZ (ww hw 181 rfl)) (by decide) (backOf (W := 0) (rm_is l Z a0 hw [] sA_8 b6 sa10 tA_8 kA_8 (4 : Int32) [(.int (47 : Int32)), (.int (105 : Int32)), (.int (100 : Int32)), (.int (112 : Int32)), nO, nO, nO, nO, nO, nO, nO, nO, nO, nO, nO, nO] tz_7 kb_7 (0 : Int32) [] sb10 kc10 (4 : Int32) [(.int (47 : Int32)), (.int (105 : Int32)), (.int (100 : Int32)), (.int (112 : Int32))] zc fm h10 n0 (Nat.le_trans Z0 KC.1) O0 E_sA_8 F_value_sA_8 F_coder_sA_8 V_tA_8 A6 F_value_a1_7 F_coder_a1_7 V_tz_7 Ex10 Fv10 Fc10 Vv10 S_CS hz S_FM hW_fm (by decide) (fun kk q0 q1 => own_f0 q0 q1) (fun kk q0 q1 => by rcases own_f4 q0 q1 with rfl | rfl | rfl | rfl <;> exact ⟨by decide, by decide, _, rfl, rfl⟩)) hZ (ww hw 181 rfl) (ww hw 180 rfl) (by decide) (by decide)) (g := (mkF m 163 #[vi p1, vi p2, vi p3, vi p4, vi (0 : Int32), vi x0, vi x1, vi x2, vr b5, vr b6, vr b8_e0] [(.ref sa10), (.ref b6), (.ref sA_8)])) rfl (by rw [hml]; rfl) (argsL := [(.ref sA_8), (.ref b6), (.ref sa10)]) (rest := []) (lenOf pd_32 rfl) rfl (by show 2 * 0 + _ ≤ _; exact Nat.le_of_eq rfl) (hb hby at_163) (fun _ _ => ⟨rfl, e10, (by decide : 35 + 0 ≤ _), (by decide : 304 + 0 ≤ _)⟩)
    dsimp only [Pt.U, Pt.locs, Pt.cells, Pt.slots] at X11 l11 y11 z11 st11 hQ11
    subst l11 y11 z11
    obtain ⟨rfl, N11q, e11⟩ := hQ11
    have N11 := Fr.app N9 N11q
    obtain ⟨cq12, kq12, q12a, q12b, q12c⟩ := isOf hZ e11 E_e0_8
    obtain ⟨_, _, ⟨T12, L12, kz12, nz12⟩, -, X12, ⟨Lc12, hQ12, l12, y12, z12⟩, st12⟩ := X11.virtualBack hx (y := y_40) (z := y_40) hown (mvT hZ (ww hw 211 rfl)) (mvT hZ (ww hw 212 rfl)) (notFace_of_selects (args := #[]) (mvT hZ (ww hw 214 rfl))) (mvT hZ (ww hw 214 rfl)) (mvT hZ (ww hw 213 rfl)) (by decide) (backOf (W := 0) (rm_get_metadata l Z a0 hw [] b8_e0 sB_8 h10 n0 (Nat.le_trans Z0 KC.1) O0 F_metadata_e0_8) hZ (ww hw 215 rfl) (ww hw 24 rfl) (by decide) (by decide)) q12a q12c (g := (mkF m 171 #[vi p1, vi p2, vi p3, vi p4, vi (0 : Int32), vi x0, vi x1, vi x2, vr b5, vr b6, vr b8_e0] [(.ref b8_e0)])) rfl (by rw [hml]; rfl) (Steps.refl _) (argsL := []) (rest := []) (lenOf pd_28 rfl) rfl (by show 2 * 0 + _ ≤ _; exact Nat.le_of_eq rfl) (hb hby at_171) (fun _ _ => ⟨rfl, e11, (by decide : 35 + 0 ≤ _), (by decide : 304 + 0 ≤ _)⟩)
    dsimp only [Pt.U, Pt.locs, Pt.cells, Pt.slots] at X12 l12 y12 z12 st12 hQ12
    subst l12 y12 z12
    obtain ⟨rfl, N12q, e12⟩ := hQ12
    have N12 := Fr.app N11 N12q
    obtain ⟨sa13, T13, h13, kx13, sb13, kc13, X13, e13, E13, hS13, hk13, hZ13, hown13, Ex13, Fc13, Fv13, Vv13, -, -, C13, -, nx13, st13⟩ := ldcCH X12 hx hZ hown (ww hw 216 rfl) wS e12 hS hk hEL (by decide) hC.1 (vs := [(.int (47 : Int32)), (.int (109 : Int32)), (.int (101 : Int32)), (.int (116 : Int32)), (.int (97 : Int32)), (.int (100 : Int32)), (.int (97 : Int32)), (.int (116 : Int32)), (.int (97 : Int32))]) (z := (9 : Int32)) ⟨by decide, by first | rfl | decide⟩ (by decide) (by first | rfl | decide) (g := (mkF m 176 #[vi p1, vi p2, vi p3, vi p4, vi (0 : Int32), vi x0, vi x1, vi x2, vr b5, vr b6, vr b8_e0] [(.ref b6), (.ref sB_8)])) rfl (hb hby at_176) (n := 36) (by decide) (by decide) (by decide) (by decide)
    replace V_b5 := V_b5.ext E13
    replace A6 := A6.ext E13
    replace F_value_a1_7 := F_value_a1_7.ext E13
    replace F_coder_a1_7 := F_coder_a1_7.ext E13
    replace V_tz_7 := V_tz_7.ext E13
    replace E_e0_8 := E_e0_8.ext E13
    replace F_entityId_e0_8 := F_entityId_e0_8.ext E13
    replace F_metadata_e0_8 := F_metadata_e0_8.ext E13
    replace F_singleSignOn_e0_8 := F_singleSignOn_e0_8.ext E13
    replace F_singleLogout_e0_8 := F_singleLogout_e0_8.ext E13
    replace E_sA_8 := E_sA_8.ext E13
    replace F_value_sA_8 := F_value_sA_8.ext E13
    replace F_coder_sA_8 := F_coder_sA_8.ext E13
    replace V_tA_8 := V_tA_8.ext E13
    replace E_sB_8 := E_sB_8.ext E13
    replace F_value_sB_8 := F_value_sB_8.ext E13
    replace F_coder_sB_8 := F_coder_sB_8.ext E13
    replace V_tB_8 := V_tB_8.ext E13
    replace E_sC_8 := E_sC_8.ext E13
    replace F_value_sC_8 := F_value_sC_8.ext E13
    replace F_coder_sC_8 := F_coder_sC_8.ext E13
    replace V_tC_8 := V_tC_8.ext E13
    replace E_sD_8 := E_sD_8.ext E13
    replace F_value_sD_8 := F_value_sD_8.ext E13
    replace F_coder_sD_8 := F_coder_sD_8.ext E13
    replace V_tD_8 := V_tD_8.ext E13
    replace Ex10 := Ex10.ext E13
    replace Fc10 := Fc10.ext E13
    replace Fv10 := Fv10.ext E13
    replace Vv10 := Vv10.ext E13
    replace O0 := O0.ext E13
    replace KC := KC.ext E13
    replace hC := hC.trans C13
    replace hZ := hZ13
    replace hown := hown13
    replace hS := hS13
    replace hk := hk13
    obtain ⟨_, _, ⟨T14, L14, kz14, nz14⟩, -, X14, ⟨Lc14, hQ14, l14, y14, z14⟩, st14⟩ := Jvm.LawKit.callS X13 hx (y := y_37) hown (mvT hZ (ww hw 178 rfl)) (mvT hZ (ww hw 179 rfl)) (mvT hZ (ww hw 180 rfl)) (mvT hZ (ww hw 181 rfl)) (by decide) (backOf (W := 0) (rm_is l Z a0 hw [] sB_8 b6 sa13 tB_8 kB_8 (9 : Int32) [(.int (47 : Int32)), (.int (109 : Int32)), (.int (101 : Int32)), (.int (116 : Int32)), (.int (97 : Int32)), (.int (100 : Int32)), (.int (97 : Int32)), (.int (116 : Int32)), (.int (97 : Int32)), nO, nO, nO, nO, nO, nO, nO] tz_7 kb_7 (0 : Int32) [] sb13 kc13 (9 : Int32) [(.int (47 : Int32)), (.int (109 : Int32)), (.int (101 : Int32)), (.int (116 : Int32)), (.int (97 : Int32)), (.int (100 : Int32)), (.int (97 : Int32)), (.int (116 : Int32)), (.int (97 : Int32))] zc fm h13 n0 (Nat.le_trans Z0 KC.1) O0 E_sB_8 F_value_sB_8 F_coder_sB_8 V_tB_8 A6 F_value_a1_7 F_coder_a1_7 V_tz_7 Ex13 Fv13 Fc13 Vv13 S_CS hz S_FM hW_fm (by decide) (fun kk q0 q1 => own_f0 q0 q1) (fun kk q0 q1 => by rcases own_f9 q0 q1 with rfl | rfl | rfl | rfl | rfl | rfl | rfl | rfl | rfl <;> exact ⟨by decide, by decide, _, rfl, rfl⟩)) hZ (ww hw 181 rfl) (ww hw 180 rfl) (by decide) (by decide)) (g := (mkF m 178 #[vi p1, vi p2, vi p3, vi p4, vi (0 : Int32), vi x0, vi x1, vi x2, vr b5, vr b6, vr b8_e0] [(.ref sa13), (.ref b6), (.ref sB_8)])) rfl (by rw [hml]; rfl) (argsL := [(.ref sB_8), (.ref b6), (.ref sa13)]) (rest := []) (lenOf pd_32 rfl) rfl (by show 2 * 0 + _ ≤ _; exact Nat.le_of_eq rfl) (hb hby at_178) (fun _ _ => ⟨rfl, e13, (by decide : 37 + 0 ≤ _), (by decide : 344 + 0 ≤ _)⟩)
    dsimp only [Pt.U, Pt.locs, Pt.cells, Pt.slots] at X14 l14 y14 z14 st14 hQ14
    subst l14 y14 z14
    obtain ⟨rfl, N14q, e14⟩ := hQ14
    have N14 := Fr.app N12 N14q
    obtain ⟨cq15, kq15, q15a, q15b, q15c⟩ := isOf hZ e14 E_e0_8
    obtain ⟨_, _, ⟨T15, L15, kz15, nz15⟩, -, X15, ⟨Lc15, hQ15, l15, y15, z15⟩, st15⟩ := X14.virtualBack hx (y := y_41) (z := y_41) hown (mvT hZ (ww hw 217 rfl)) (mvT hZ (ww hw 218 rfl)) (notFace_of_selects (args := #[]) (mvT hZ (ww hw 220 rfl))) (mvT hZ (ww hw 220 rfl)) (mvT hZ (ww hw 219 rfl)) (by decide) (backOf (W := 0) (rm_get_singleSignOn l Z a0 hw [] b8_e0 sC_8 h13 n0 (Nat.le_trans Z0 KC.1) O0 F_singleSignOn_e0_8) hZ (ww hw 221 rfl) (ww hw 24 rfl) (by decide) (by decide)) q15a q15c (g := (mkF m 186 #[vi p1, vi p2, vi p3, vi p4, vi (0 : Int32), vi x0, vi x1, vi x2, vr b5, vr b6, vr b8_e0] [(.ref b8_e0)])) rfl (by rw [hml]; rfl) (Steps.refl _) (argsL := []) (rest := []) (lenOf pd_28 rfl) rfl (by show 2 * 0 + _ ≤ _; exact Nat.le_of_eq rfl) (hb hby at_186) (fun _ _ => ⟨rfl, e14, (by decide : 37 + 0 ≤ _), (by decide : 344 + 0 ≤ _)⟩)
    dsimp only [Pt.U, Pt.locs, Pt.cells, Pt.slots] at X15 l15 y15 z15 st15 hQ15
    subst l15 y15 z15
    obtain ⟨rfl, N15q, e15⟩ := hQ15
    have N15 := Fr.app N14 N15q
    obtain ⟨sa16, T16, h16, kx16, sb16, kc16, X16, e16, E16, hS16, hk16, hZ16, hown16, Ex16, Fc16, Fv16, Vv16, -, -, C16, -, nx16, st16⟩ := ldcCH X15 hx hZ hown (ww hw 222 rfl) wS e15 hS hk hEL (by decide) hC.1 (vs := [(.int (47 : Int32)), (.int (115 : Int32)), (.int (115 : Int32)), (.int (111 : Int32))]) (z := (4 : Int32)) ⟨by decide, by first | rfl | decide⟩ (by decide) (by first | rfl | decide) (g := (mkF m 191 #[vi p1, vi p2, vi p3, vi p4, vi (0 : Int32), vi x0, vi x1, vi x2, vr b5, vr b6, vr b8_e0] [(.ref b6), (.ref sC_8)])) rfl (hb hby at_191) (n := 16) (by decide) (by decide) (by decide) (by decide)
    replace V_b5 := V_b5.ext E16
    replace A6 := A6.ext E16
    replace F_value_a1_7 := F_value_a1_7.ext E16
    replace F_coder_a1_7 := F_coder_a1_7.ext E16
    replace V_tz_7 := V_tz_7.ext E16
    replace E_e0_8 := E_e0_8.ext E16
    replace F_entityId_e0_8 := F_entityId_e0_8.ext E16
    replace F_metadata_e0_8 := F_metadata_e0_8.ext E16
    replace F_singleSignOn_e0_8 := F_singleSignOn_e0_8.ext E16
    replace F_singleLogout_e0_8 := F_singleLogout_e0_8.ext E16
    replace E_sA_8 := E_sA_8.ext E16
    replace F_value_sA_8 := F_value_sA_8.ext E16
    replace F_coder_sA_8 := F_coder_sA_8.ext E16
    replace V_tA_8 := V_tA_8.ext E16
    replace E_sB_8 := E_sB_8.ext E16
    replace F_value_sB_8 := F_value_sB_8.ext E16
    replace F_coder_sB_8 := F_coder_sB_8.ext E16
    replace V_tB_8 := V_tB_8.ext E16
    replace E_sC_8 := E_sC_8.ext E16
    replace F_value_sC_8 := F_value_sC_8.ext E16
    replace F_coder_sC_8 := F_coder_sC_8.ext E16
    replace V_tC_8 := V_tC_8.ext E16
    replace E_sD_8 := E_sD_8.ext E16
    replace F_value_sD_8 := F_value_sD_8.ext E16
    replace F_coder_sD_8 := F_coder_sD_8.ext E16
    replace V_tD_8 := V_tD_8.ext E16
    replace Ex10 := Ex10.ext E16
    replace Fc10 := Fc10.ext E16
    replace Fv10 := Fv10.ext E16
    replace Vv10 := Vv10.ext E16
    replace Ex13 := Ex13.ext E16
    replace Fc13 := Fc13.ext E16
    replace Fv13 := Fv13.ext E16
    replace Vv13 := Vv13.ext E16
    replace O0 := O0.ext E16
    replace KC := KC.ext E16
    replace hC := hC.trans C16
    replace hZ := hZ16
    replace hown := hown16
    replace hS := hS16
    replace hk := hk16
    obtain ⟨_, _, ⟨T17, L17, kz17, nz17⟩, -, X17, ⟨Lc17, hQ17, l17, y17, z17⟩, st17⟩ := Jvm.LawKit.callS X16 hx (y := y_37) hown (mvT hZ (ww hw 178 rfl)) (mvT hZ (ww hw 179 rfl)) (mvT hZ (ww hw 180 rfl)) (mvT hZ (ww hw 181 rfl)) (by decide) (backOf (W := 0) (rm_is l Z a0 hw [] sC_8 b6 sa16 tC_8 kC_8 (4 : Int32) [(.int (47 : Int32)), (.int (115 : Int32)), (.int (115 : Int32)), (.int (111 : Int32)), nO, nO, nO, nO, nO, nO, nO, nO, nO, nO, nO, nO] tz_7 kb_7 (0 : Int32) [] sb16 kc16 (4 : Int32) [(.int (47 : Int32)), (.int (115 : Int32)), (.int (115 : Int32)), (.int (111 : Int32))] zc fm h16 n0 (Nat.le_trans Z0 KC.1) O0 E_sC_8 F_value_sC_8 F_coder_sC_8 V_tC_8 A6 F_value_a1_7 F_coder_a1_7 V_tz_7 Ex16 Fv16 Fc16 Vv16 S_CS hz S_FM hW_fm (by decide) (fun kk q0 q1 => own_f0 q0 q1) (fun kk q0 q1 => by rcases own_f4 q0 q1 with rfl | rfl | rfl | rfl <;> exact ⟨by decide, by decide, _, rfl, rfl⟩)) hZ (ww hw 181 rfl) (ww hw 180 rfl) (by decide) (by decide)) (g := (mkF m 193 #[vi p1, vi p2, vi p3, vi p4, vi (0 : Int32), vi x0, vi x1, vi x2, vr b5, vr b6, vr b8_e0] [(.ref sa16), (.ref b6), (.ref sC_8)])) rfl (by rw [hml]; rfl) (argsL := [(.ref sC_8), (.ref b6), (.ref sa16)]) (rest := []) (lenOf pd_32 rfl) rfl (by show 2 * 0 + _ ≤ _; exact Nat.le_of_eq rfl) (hb hby at_193) (fun _ _ => ⟨rfl, e16, (by decide : 39 + 0 ≤ _), (by decide : 364 + 0 ≤ _)⟩)
    dsimp only [Pt.U, Pt.locs, Pt.cells, Pt.slots] at X17 l17 y17 z17 st17 hQ17
    subst l17 y17 z17
    obtain ⟨rfl, N17q, e17⟩ := hQ17
    have N17 := Fr.app N15 N17q
    obtain ⟨cq18, kq18, q18a, q18b, q18c⟩ := isOf hZ e17 E_e0_8
    obtain ⟨_, _, ⟨T18, L18, kz18, nz18⟩, -, X18, ⟨Lc18, hQ18, l18, y18, z18⟩, st18⟩ := X17.virtualBack hx (y := y_42) (z := y_42) hown (mvT hZ (ww hw 223 rfl)) (mvT hZ (ww hw 224 rfl)) (notFace_of_selects (args := #[]) (mvT hZ (ww hw 226 rfl))) (mvT hZ (ww hw 226 rfl)) (mvT hZ (ww hw 225 rfl)) (by decide) (backOf (W := 0) (rm_get_singleLogout l Z a0 hw [] b8_e0 sD_8 h16 n0 (Nat.le_trans Z0 KC.1) O0 F_singleLogout_e0_8) hZ (ww hw 227 rfl) (ww hw 24 rfl) (by decide) (by decide)) q18a q18c (g := (mkF m 201 #[vi p1, vi p2, vi p3, vi p4, vi (0 : Int32), vi x0, vi x1, vi x2, vr b5, vr b6, vr b8_e0] [(.ref b8_e0)])) rfl (by rw [hml]; rfl) (Steps.refl _) (argsL := []) (rest := []) (lenOf pd_28 rfl) rfl (by show 2 * 0 + _ ≤ _; exact Nat.le_of_eq rfl) (hb hby at_201) (fun _ _ => ⟨rfl, e17, (by decide : 39 + 0 ≤ _), (by decide : 364 + 0 ≤ _)⟩)
    dsimp only [Pt.U, Pt.locs, Pt.cells, Pt.slots] at X18 l18 y18 z18 st18 hQ18
    subst l18 y18 z18
    obtain ⟨rfl, N18q, e18⟩ := hQ18
    have N18 := Fr.app N17 N18q
    obtain ⟨sa19, T19, h19, kx19, sb19, kc19, X19, e19, E19, hS19, hk19, hZ19, hown19, Ex19, Fc19, Fv19, Vv19, -, -, C19, -, nx19, st19⟩ := ldcCH X18 hx hZ hown (ww hw 228 rfl) wS e18 hS hk hEL (by decide) hC.1 (vs := [(.int (47 : Int32)), (.int (115 : Int32)), (.int (108 : Int32)), (.int (111 : Int32))]) (z := (4 : Int32)) ⟨by decide, by first | rfl | decide⟩ (by decide) (by first | rfl | decide) (g := (mkF m 206 #[vi p1, vi p2, vi p3, vi p4, vi (0 : Int32), vi x0, vi x1, vi x2, vr b5, vr b6, vr b8_e0] [(.ref b6), (.ref sD_8)])) rfl (hb hby at_206) (n := 16) (by decide) (by decide) (by decide) (by decide)
    replace V_b5 := V_b5.ext E19
    replace A6 := A6.ext E19
    replace F_value_a1_7 := F_value_a1_7.ext E19
    replace F_coder_a1_7 := F_coder_a1_7.ext E19
    replace V_tz_7 := V_tz_7.ext E19
    replace E_e0_8 := E_e0_8.ext E19
    replace F_entityId_e0_8 := F_entityId_e0_8.ext E19
    replace F_metadata_e0_8 := F_metadata_e0_8.ext E19
    replace F_singleSignOn_e0_8 := F_singleSignOn_e0_8.ext E19
    replace F_singleLogout_e0_8 := F_singleLogout_e0_8.ext E19
    replace E_sA_8 := E_sA_8.ext E19
    replace F_value_sA_8 := F_value_sA_8.ext E19
    replace F_coder_sA_8 := F_coder_sA_8.ext E19
    replace V_tA_8 := V_tA_8.ext E19
    replace E_sB_8 := E_sB_8.ext E19
    replace F_value_sB_8 := F_value_sB_8.ext E19
    replace F_coder_sB_8 := F_coder_sB_8.ext E19
    replace V_tB_8 := V_tB_8.ext E19
    replace E_sC_8 := E_sC_8.ext E19
    replace F_value_sC_8 := F_value_sC_8.ext E19
    replace F_coder_sC_8 := F_coder_sC_8.ext E19
    replace V_tC_8 := V_tC_8.ext E19
    replace E_sD_8 := E_sD_8.ext E19
    replace F_value_sD_8 := F_value_sD_8.ext E19
    replace F_coder_sD_8 := F_coder_sD_8.ext E19
    replace V_tD_8 := V_tD_8.ext E19
    replace Ex10 := Ex10.ext E19
    replace Fc10 := Fc10.ext E19
    replace Fv10 := Fv10.ext E19
    replace Vv10 := Vv10.ext E19
    replace Ex13 := Ex13.ext E19
    replace Fc13 := Fc13.ext E19
    replace Fv13 := Fv13.ext E19
    replace Vv13 := Vv13.ext E19
    replace Ex16 := Ex16.ext E19
    replace Fc16 := Fc16.ext E19
    replace Fv16 := Fv16.ext E19
    replace Vv16 := Vv16.ext E19
    replace O0 := O0.ext E19
    replace KC := KC.ext E19
    replace hC := hC.trans C19
    replace hZ := hZ19
    replace hown := hown19
    replace hS := hS19
    replace hk := hk19
    obtain ⟨_, _, ⟨T20, L20, kz20, nz20⟩, -, X20, ⟨Lc20, hQ20, l20, y20, z20⟩, st20⟩ := Jvm.LawKit.callS X19 hx (y := y_37) hown (mvT hZ (ww hw 178 rfl)) (mvT hZ (ww hw 179 rfl)) (mvT hZ (ww hw 180 rfl)) (mvT hZ (ww hw 181 rfl)) (by decide) (backOf (W := 0) (rm_is l Z a0 hw [] sD_8 b6 sa19 tD_8 kD_8 (4 : Int32) [(.int (47 : Int32)), (.int (115 : Int32)), (.int (108 : Int32)), (.int (111 : Int32)), nO, nO, nO, nO, nO, nO, nO, nO, nO, nO, nO, nO] tz_7 kb_7 (0 : Int32) [] sb19 kc19 (4 : Int32) [(.int (47 : Int32)), (.int (115 : Int32)), (.int (108 : Int32)), (.int (111 : Int32))] zc fm h19 n0 (Nat.le_trans Z0 KC.1) O0 E_sD_8 F_value_sD_8 F_coder_sD_8 V_tD_8 A6 F_value_a1_7 F_coder_a1_7 V_tz_7 Ex19 Fv19 Fc19 Vv19 S_CS hz S_FM hW_fm (by decide) (fun kk q0 q1 => own_f0 q0 q1) (fun kk q0 q1 => by rcases own_f4 q0 q1 with rfl | rfl | rfl | rfl <;> exact ⟨by decide, by decide, _, rfl, rfl⟩)) hZ (ww hw 181 rfl) (ww hw 180 rfl) (by decide) (by decide)) (g := (mkF m 208 #[vi p1, vi p2, vi p3, vi p4, vi (0 : Int32), vi x0, vi x1, vi x2, vr b5, vr b6, vr b8_e0] [(.ref sa19), (.ref b6), (.ref sD_8)])) rfl (by rw [hml]; rfl) (argsL := [(.ref sD_8), (.ref b6), (.ref sa19)]) (rest := []) (lenOf pd_32 rfl) rfl (by show 2 * 0 + _ ≤ _; exact Nat.le_of_eq rfl) (hb hby at_208) (fun _ _ => ⟨rfl, e19, (by decide : 41 + 0 ≤ _), (by decide : 384 + 0 ≤ _)⟩)
    dsimp only [Pt.U, Pt.locs, Pt.cells, Pt.slots] at X20 l20 y20 z20 st20 hQ20
    subst l20 y20 z20
    obtain ⟨rfl, N20q, e20⟩ := hQ20
    have N20 := Fr.app N18 N20q
    obtain ⟨fs, hr, hrun, hended, hRE⟩ := X20.leaveW hS (by rw [e20]; exact hk) (v := some (.int (1 : Int32))) (fun h => by rw [Bd.returns] at h; cases h)
    refine ⟨_, _, pre4 _ ?_, hrun, hended, _, _, rfl, ?_, ?_, hRE.1, hRE.2.1, hRE.2.2.1, hRE.2.2.2.mono (by decide) (by decide)⟩
    · show SS p e below m s₁ 27 #[vi p1, vi p2, vi p3, vi p4, vi (0 : Int32), vi x0, vi x1, un, un, un, un] [(.int x2)] _
      refine XS.istore X0.here hx rfl (hb hby at_27) rfl (l' := #[vi p1, vi p2, vi p3, vi p4, vi (0 : Int32), vi x0, vi x1, vi x2, un, un, un]) rfl ?_
      show SS p e below m s₁ 29 #[vi p1, vi p2, vi p3, vi p4, vi (0 : Int32), vi x0, vi x1, vi x2, un, un, un] [] _
      refine XS.iload X0.here hx rfl (hb hby at_29) rfl ?_
      show SS p e below m s₁ 31 #[vi p1, vi p2, vi p3, vi p4, vi (0 : Int32), vi x0, vi x1, vi x2, un, un, un] [(.int (0 : Int32))] _
      refine XS.ifNo X0.here hx rfl (hb hby at_31) rfl ((if0 _ _).trans (teq (by decide)).2) ?_
      show SS p e below m s₁ 34 #[vi p1, vi p2, vi p3, vi p4, vi (0 : Int32), vi x0, vi x1, vi x2, un, un, un] [] _
      refine XS.iconst X0.here hx rfl (hb hby at_34) ?_
      show SS p e below m s₁ 35 #[vi p1, vi p2, vi p3, vi p4, vi (0 : Int32), vi x0, vi x1, vi x2, un, un, un] [(.int (0 : Int32))] _
      refine st5 _ ?_
      show SS p e below m T5 37 #[vi p1, vi p2, vi p3, vi p4, vi (0 : Int32), vi x0, vi x1, vi x2, un, un, un] [(.ref b5)] _
      refine XS.astore X5.here hx rfl (hb hby at_37) rfl rfl (l' := #[vi p1, vi p2, vi p3, vi p4, vi (0 : Int32), vi x0, vi x1, vi x2, vr b5, un, un]) rfl ?_
      show SS p e below m T5 39 #[vi p1, vi p2, vi p3, vi p4, vi (0 : Int32), vi x0, vi x1, vi x2, vr b5, un, un] [] _
      refine XS.goto X5.here hx rfl (pc0 := 39) (pc' := 105) rfl (hb hby at_39) (by decide) (by decide) ?_
      show SS p e below m T5 105 #[vi p1, vi p2, vi p3, vi p4, vi (0 : Int32), vi x0, vi x1, vi x2, vr b5, un, un] [] _
      refine XS.iload X5.here hx rfl (hb hby at_105) rfl ?_
      show SS p e below m T5 107 #[vi p1, vi p2, vi p3, vi p4, vi (0 : Int32), vi x0, vi x1, vi x2, vr b5, un, un] [(.int (0 : Int32))] _
      refine XS.ifYes X5.here hx rfl (pc0 := 107) (pc' := 131) rfl (hb hby at_107) rfl ((if0 _ _).trans (flt (by decide)).2.2.2) (by decide) (by decide) ?_
      show SS p e below m T5 131 #[vi p1, vi p2, vi p3, vi p4, vi (0 : Int32), vi x0, vi x1, vi x2, vr b5, un, un] [] _
      refine st6 _ ?_
      show SS p e below m T6 134 #[vi p1, vi p2, vi p3, vi p4, vi (0 : Int32), vi x0, vi x1, vi x2, vr b5, un, un] [(.ref b6)] _
      refine XS.dup X6.here hx rfl (hb hby at_134) rfl rfl ?_
      show SS p e below m T6 135 #[vi p1, vi p2, vi p3, vi p4, vi (0 : Int32), vi x0, vi x1, vi x2, vr b5, un, un] [(.ref b6), (.ref b6)] _
      refine XS.aload X6.here hx rfl (hb hby at_135) rfl rfl ?_
      show SS p e below m T6 137 #[vi p1, vi p2, vi p3, vi p4, vi (0 : Int32), vi x0, vi x1, vi x2, vr b5, un, un] [(.ref b5), (.ref b6), (.ref b6)] _
      refine st7.trans ?_
      show SS p e below m T7 140 #[vi p1, vi p2, vi p3, vi p4, vi (0 : Int32), vi x0, vi x1, vi x2, vr b5, un, un] [(.ref b6)] _
      refine XS.astore X7.here hx rfl (hb hby at_140) rfl rfl (l' := #[vi p1, vi p2, vi p3, vi p4, vi (0 : Int32), vi x0, vi x1, vi x2, vr b5, vr b6, un]) rfl ?_
      show SS p e below m T7 142 #[vi p1, vi p2, vi p3, vi p4, vi (0 : Int32), vi x0, vi x1, vi x2, vr b5, vr b6, un] [] _
      refine XS.aload X7.here hx rfl (hb hby at_142) rfl rfl ?_
      show SS p e below m T7 144 #[vi p1, vi p2, vi p3, vi p4, vi (0 : Int32), vi x0, vi x1, vi x2, vr b5, vr b6, un] [(.ref b6)] _
      refine st8.trans ?_
      show SS p e below m T8 147 #[vi p1, vi p2, vi p3, vi p4, vi (0 : Int32), vi x0, vi x1, vi x2, vr b5, vr b6, un] [(.ref b8_e0)] _
      refine XS.astore X8.here hx rfl (hb hby at_147) rfl rfl (l' := #[vi p1, vi p2, vi p3, vi p4, vi (0 : Int32), vi x0, vi x1, vi x2, vr b5, vr b6, vr b8_e0]) rfl ?_
      show SS p e below m T8 149 #[vi p1, vi p2, vi p3, vi p4, vi (0 : Int32), vi x0, vi x1, vi x2, vr b5, vr b6, vr b8_e0] [] _
      refine XS.aload X8.here hx rfl (hb hby at_149) rfl rfl ?_
      show SS p e below m T8 151 #[vi p1, vi p2, vi p3, vi p4, vi (0 : Int32), vi x0, vi x1, vi x2, vr b5, vr b6, vr b8_e0] [(.ref b8_e0)] _
      refine XS.ifnullNo X8.here hx rfl (hb hby at_151) rfl ?_
      show SS p e below m T8 154 #[vi p1, vi p2, vi p3, vi p4, vi (0 : Int32), vi x0, vi x1, vi x2, vr b5, vr b6, vr b8_e0] [] _
      refine XS.aload X8.here hx rfl (hb hby at_154) rfl rfl ?_
      show SS p e below m T8 156 #[vi p1, vi p2, vi p3, vi p4, vi (0 : Int32), vi x0, vi x1, vi x2, vr b5, vr b6, vr b8_e0] [(.ref b8_e0)] _
      refine st9.trans ?_
      show SS p e below m T9 159 #[vi p1, vi p2, vi p3, vi p4, vi (0 : Int32), vi x0, vi x1, vi x2, vr b5, vr b6, vr b8_e0] [(.ref sA_8)] _
      refine XS.aload X9.here hx rfl (hb hby at_159) rfl rfl ?_
      show SS p e below m T9 161 #[vi p1, vi p2, vi p3, vi p4, vi (0 : Int32), vi x0, vi x1, vi x2, vr b5, vr b6, vr b8_e0] [(.ref b6), (.ref sA_8)] _
      refine st10 _ ?_
      show SS p e below m T10 163 #[vi p1, vi p2, vi p3, vi p4, vi (0 : Int32), vi x0, vi x1, vi x2, vr b5, vr b6, vr b8_e0] [(.ref sa10), (.ref b6), (.ref sA_8)] _
      refine st11 _ ?_
      show SS p e below m T11 166 #[vi p1, vi p2, vi p3, vi p4, vi (0 : Int32), vi x0, vi x1, vi x2, vr b5, vr b6, vr b8_e0] [(.int (1 : Int32))] _
      refine XS.ifNo X11.here hx rfl (hb hby at_166) rfl ((if0 _ _).trans (feq (by decide)).1) ?_
      show SS p e below m T11 169 #[vi p1, vi p2, vi p3, vi p4, vi (0 : Int32), vi x0, vi x1, vi x2, vr b5, vr b6, vr b8_e0] [] _
      refine XS.aload X11.here hx rfl (hb hby at_169) rfl rfl ?_
      show SS p e below m T11 171 #[vi p1, vi p2, vi p3, vi p4, vi (0 : Int32), vi x0, vi x1, vi x2, vr b5, vr b6, vr b8_e0] [(.ref b8_e0)] _
      refine st12.trans ?_
      show SS p e below m T12 174 #[vi p1, vi p2, vi p3, vi p4, vi (0 : Int32), vi x0, vi x1, vi x2, vr b5, vr b6, vr b8_e0] [(.ref sB_8)] _
      refine XS.aload X12.here hx rfl (hb hby at_174) rfl rfl ?_
      show SS p e below m T12 176 #[vi p1, vi p2, vi p3, vi p4, vi (0 : Int32), vi x0, vi x1, vi x2, vr b5, vr b6, vr b8_e0] [(.ref b6), (.ref sB_8)] _
      refine st13 _ ?_
      show SS p e below m T13 178 #[vi p1, vi p2, vi p3, vi p4, vi (0 : Int32), vi x0, vi x1, vi x2, vr b5, vr b6, vr b8_e0] [(.ref sa13), (.ref b6), (.ref sB_8)] _
      refine st14 _ ?_
      show SS p e below m T14 181 #[vi p1, vi p2, vi p3, vi p4, vi (0 : Int32), vi x0, vi x1, vi x2, vr b5, vr b6, vr b8_e0] [(.int (1 : Int32))] _
      refine XS.ifNo X14.here hx rfl (hb hby at_181) rfl ((if0 _ _).trans (feq (by decide)).1) ?_
      show SS p e below m T14 184 #[vi p1, vi p2, vi p3, vi p4, vi (0 : Int32), vi x0, vi x1, vi x2, vr b5, vr b6, vr b8_e0] [] _
      refine XS.aload X14.here hx rfl (hb hby at_184) rfl rfl ?_
      show SS p e below m T14 186 #[vi p1, vi p2, vi p3, vi p4, vi (0 : Int32), vi x0, vi x1, vi x2, vr b5, vr b6, vr b8_e0] [(.ref b8_e0)] _
      refine st15.trans ?_
      show SS p e below m T15 189 #[vi p1, vi p2, vi p3, vi p4, vi (0 : Int32), vi x0, vi x1, vi x2, vr b5, vr b6, vr b8_e0] [(.ref sC_8)] _
      refine XS.aload X15.here hx rfl (hb hby at_189) rfl rfl ?_
      show SS p e below m T15 191 #[vi p1, vi p2, vi p3, vi p4, vi (0 : Int32), vi x0, vi x1, vi x2, vr b5, vr b6, vr b8_e0] [(.ref b6), (.ref sC_8)] _
      refine st16 _ ?_
      show SS p e below m T16 193 #[vi p1, vi p2, vi p3, vi p4, vi (0 : Int32), vi x0, vi x1, vi x2, vr b5, vr b6, vr b8_e0] [(.ref sa16), (.ref b6), (.ref sC_8)] _
      refine st17 _ ?_
      show SS p e below m T17 196 #[vi p1, vi p2, vi p3, vi p4, vi (0 : Int32), vi x0, vi x1, vi x2, vr b5, vr b6, vr b8_e0] [(.int (1 : Int32))] _
      refine XS.ifNo X17.here hx rfl (hb hby at_196) rfl ((if0 _ _).trans (feq (by decide)).1) ?_
      show SS p e below m T17 199 #[vi p1, vi p2, vi p3, vi p4, vi (0 : Int32), vi x0, vi x1, vi x2, vr b5, vr b6, vr b8_e0] [] _
      refine XS.aload X17.here hx rfl (hb hby at_199) rfl rfl ?_
      show SS p e below m T17 201 #[vi p1, vi p2, vi p3, vi p4, vi (0 : Int32), vi x0, vi x1, vi x2, vr b5, vr b6, vr b8_e0] [(.ref b8_e0)] _
      refine st18.trans ?_
      show SS p e below m T18 204 #[vi p1, vi p2, vi p3, vi p4, vi (0 : Int32), vi x0, vi x1, vi x2, vr b5, vr b6, vr b8_e0] [(.ref sD_8)] _
      refine XS.aload X18.here hx rfl (hb hby at_204) rfl rfl ?_
      show SS p e below m T18 206 #[vi p1, vi p2, vi p3, vi p4, vi (0 : Int32), vi x0, vi x1, vi x2, vr b5, vr b6, vr b8_e0] [(.ref b6), (.ref sD_8)] _
      refine st19 _ ?_
      show SS p e below m T19 208 #[vi p1, vi p2, vi p3, vi p4, vi (0 : Int32), vi x0, vi x1, vi x2, vr b5, vr b6, vr b8_e0] [(.ref sa19), (.ref b6), (.ref sD_8)] _
      refine st20 _ ?_
      show SS p e below m T20 211 #[vi p1, vi p2, vi p3, vi p4, vi (0 : Int32), vi x0, vi x1, vi x2, vr b5, vr b6, vr b8_e0] [(.int (1 : Int32))] _
      refine XS.ifNo X20.here hx rfl (hb hby at_211) rfl ((if0 _ _).trans (feq (by decide)).1) ?_
      show SS p e below m T20 214 #[vi p1, vi p2, vi p3, vi p4, vi (0 : Int32), vi x0, vi x1, vi x2, vr b5, vr b6, vr b8_e0] [] _
      refine XS.iconst X20.here hx rfl (hb hby at_214) ?_
      show SS p e below m T20 215 #[vi p1, vi p2, vi p3, vi p4, vi (0 : Int32), vi x0, vi x1, vi x2, vr b5, vr b6, vr b8_e0] [(.int (1 : Int32))] _
      refine XS.goto X20.here hx rfl (pc0 := 215) (pc' := 219) rfl (hb hby at_215) (by decide) (by decide) ?_
      show SS p e below m T20 219 #[vi p1, vi p2, vi p3, vi p4, vi (0 : Int32), vi x0, vi x1, vi x2, vr b5, vr b6, vr b8_e0] [(.int (1 : Int32))] _
      exact retN X20 hx (t := .boolean) Bd.returns (by simp) (hb hby at_219) hr
    · show Q_rm0 Z p1 p2 p3 p4 zc fm h0 n0 _ T20.heap _
      rw [e20]
      exact ⟨rfl, N20, KC⟩
    · show CHr Z EL s.vm s.heap T20.vm T20.heap
      rw [hh, e20]
      exact hC.trans (CHv.at X20 hZ hEL hC.1)
  · rw [hc] at pre1
    obtain ⟨x0, ex0, hx0, nx0, hb0⟩ := own_x p2
    have pre21 : ∀ t, Steps p.tables e below (s₁.setTop (mkF m 11 #[vi p1, vi p2, vi p3, vi p4, vi (1 : Int32), un, un, un, un, un, un] [(.int ((p2 &&& (255 : Int32)).toUInt32.toUInt16.toUInt32.toInt32))])) t → Steps p.tables e below (s₁.setTop (entryFrame m #[(.int p1), (.int p2), (.int p3), (.int p4)] maxLocals)) t := by
      intro t kt
      refine pre1 t ?_
      show SS p e below m s₁ 3 #[vi p1, vi p2, vi p3, vi p4, un, un, un, un, un, un, un] [(.int (1 : Int32))] _
      refine XS.istore X0.here hx rfl (hb hby at_3) rfl (l' := #[vi p1, vi p2, vi p3, vi p4, vi (1 : Int32), un, un, un, un, un, un]) rfl ?_
      show SS p e below m s₁ 5 #[vi p1, vi p2, vi p3, vi p4, vi (1 : Int32), un, un, un, un, un, un] [] _
      refine XS.iloadN X0.here hx rfl (hb hby at_5) rfl ?_
      show SS p e below m s₁ 6 #[vi p1, vi p2, vi p3, vi p4, vi (1 : Int32), un, un, un, un, un, un] [(.int p2)] _
      refine XS.sipush X0.here hx rfl (hb hby at_6) ?_
      show SS p e below m s₁ 9 #[vi p1, vi p2, vi p3, vi p4, vi (1 : Int32), un, un, un, un, un, un] [(.int (255 : Int32)), (.int p2)] _
      refine XS.iand X0.here hx rfl (hb hby at_9) rfl ?_
      show SS p e below m s₁ 10 #[vi p1, vi p2, vi p3, vi p4, vi (1 : Int32), un, un, un, un, un, un] [(.int (p2 &&& (255 : Int32)))] _
      refine XS.i2c X0.here hx rfl (hb hby at_10) rfl ?_
      exact kt
    rw [ex0] at pre21
    obtain ⟨x1, ex1, hx1, nx1, hb1⟩ := own_x p3
    have pre22 : ∀ t, Steps p.tables e below (s₁.setTop (mkF m 19 #[vi p1, vi p2, vi p3, vi p4, vi (1 : Int32), vi x0, un, un, un, un, un] [(.int ((p3 &&& (255 : Int32)).toUInt32.toUInt16.toUInt32.toInt32))])) t → Steps p.tables e below (s₁.setTop (entryFrame m #[(.int p1), (.int p2), (.int p3), (.int p4)] maxLocals)) t := by
      intro t kt
      refine pre21 t ?_
      show SS p e below m s₁ 11 #[vi p1, vi p2, vi p3, vi p4, vi (1 : Int32), un, un, un, un, un, un] [(.int x0)] _
      refine XS.istore X0.here hx rfl (hb hby at_11) rfl (l' := #[vi p1, vi p2, vi p3, vi p4, vi (1 : Int32), vi x0, un, un, un, un, un]) rfl ?_
      show SS p e below m s₁ 13 #[vi p1, vi p2, vi p3, vi p4, vi (1 : Int32), vi x0, un, un, un, un, un] [] _
      refine XS.iloadN X0.here hx rfl (hb hby at_13) rfl ?_
      show SS p e below m s₁ 14 #[vi p1, vi p2, vi p3, vi p4, vi (1 : Int32), vi x0, un, un, un, un, un] [(.int p3)] _
      refine XS.sipush X0.here hx rfl (hb hby at_14) ?_
      show SS p e below m s₁ 17 #[vi p1, vi p2, vi p3, vi p4, vi (1 : Int32), vi x0, un, un, un, un, un] [(.int (255 : Int32)), (.int p3)] _
      refine XS.iand X0.here hx rfl (hb hby at_17) rfl ?_
      show SS p e below m s₁ 18 #[vi p1, vi p2, vi p3, vi p4, vi (1 : Int32), vi x0, un, un, un, un, un] [(.int (p3 &&& (255 : Int32)))] _
      refine XS.i2c X0.here hx rfl (hb hby at_18) rfl ?_
      exact kt
    rw [ex1] at pre22
    obtain ⟨x2, ex2, hx2, nx2, hb2⟩ := own_x p4
    have pre23 : ∀ t, Steps p.tables e below (s₁.setTop (mkF m 27 #[vi p1, vi p2, vi p3, vi p4, vi (1 : Int32), vi x0, vi x1, un, un, un, un] [(.int ((p4 &&& (255 : Int32)).toUInt32.toUInt16.toUInt32.toInt32))])) t → Steps p.tables e below (s₁.setTop (entryFrame m #[(.int p1), (.int p2), (.int p3), (.int p4)] maxLocals)) t := by
      intro t kt
      refine pre22 t ?_
      show SS p e below m s₁ 19 #[vi p1, vi p2, vi p3, vi p4, vi (1 : Int32), vi x0, un, un, un, un, un] [(.int x1)] _
      refine XS.istore X0.here hx rfl (hb hby at_19) rfl (l' := #[vi p1, vi p2, vi p3, vi p4, vi (1 : Int32), vi x0, vi x1, un, un, un, un]) rfl ?_
      show SS p e below m s₁ 21 #[vi p1, vi p2, vi p3, vi p4, vi (1 : Int32), vi x0, vi x1, un, un, un, un] [] _
      refine XS.iloadN X0.here hx rfl (hb hby at_21) rfl ?_
      show SS p e below m s₁ 22 #[vi p1, vi p2, vi p3, vi p4, vi (1 : Int32), vi x0, vi x1, un, un, un, un] [(.int p4)] _
      refine XS.sipush X0.here hx rfl (hb hby at_22) ?_
      show SS p e below m s₁ 25 #[vi p1, vi p2, vi p3, vi p4, vi (1 : Int32), vi x0, vi x1, un, un, un, un] [(.int (255 : Int32)), (.int p4)] _
      refine XS.iand X0.here hx rfl (hb hby at_25) rfl ?_
      show SS p e below m s₁ 26 #[vi p1, vi p2, vi p3, vi p4, vi (1 : Int32), vi x0, vi x1, un, un, un, un] [(.int (p4 &&& (255 : Int32)))] _
      refine XS.i2c X0.here hx rfl (hb hby at_26) rfl ?_
      exact kt
    rw [ex2] at pre23
    obtain ⟨T24, h24, k24, X24, e24, E24, A24, st24⟩ := newP X0 hx hZ (ww hw 0 rfl) e0 (g := (mkF m 49 #[vi p1, vi p2, vi p3, vi p4, vi (1 : Int32), vi x0, vi x1, vi x2, un, un, un] [(.int (1 : Int32))])) rfl (hb hby at_49) rfl (by decide) (cap := 1) (by decide) (by decide) (by decide) (by decide)
    obtain ⟨b24, g24⟩ : ∃ z, z = h0.size := ⟨_, rfl⟩
    rw [← g24] at A24 st24
    have g_b24 : n0 ≤ b24 := Nat.le_trans (Nat.le_trans Z0 KC.1) (Nat.le_of_eq g24.symm)
    have sz_b24 : h0.size ≤ b24 := Nat.le_trans KC.1 (Nat.le_of_eq g24.symm)
    replace hk := Nat.le_trans hk E24.1
    replace hC := hC.trans (CHr.ext E24 hC.1)
    replace O0 := O0.ext E24
    replace KC := KC.ext E24
    have V_b24 : Arv Z h24 b24 k24 .char (1 : Int32) [(.int (0 : Int32))] (.int (0 : Int32)) := (Arv.new A24 (by decide)).pad (pad_rep [] (.int (0 : Int32)) 1)
    have Vo25 := V_b24
    obtain ⟨cl25, Ar25, q25, Sz25, Nn25, Hh25, Gg25⟩ := Vo25
    have hin25 : ¬ ((0 : Int32) < 0 ∨ cl25.slots.size ≤ ((0 : Int32)).toNatClampNeg) := inb_of Sz25 ⟨by decide, by decide⟩
    obtain ⟨T26, h26, X26, e26, W26, st26⟩ := stC X24 hx hZ e24 Ar25 (j := (0 : Int32)) hin25 (g := (mkF m 55 #[vi p1, vi p2, vi p3, vi p4, vi (1 : Int32), vi x0, vi x1, vi x2, un, un, un] [(.int x0), (.int (0 : Int32)), (.ref b24), (.ref b24)])) rfl rfl (hb hby at_55)
    have Vn26 := Arv.set Ar25 q25 Sz25 Nn25 Hh25 Gg25 (fits_nar_char _) W26 (0) rfl (Nat.le_of_ble_eq_true rfl)
    have N26 := Fr.snoc X26 N0 g_b24
    have Vm26 : Arv Z h26 b24 k24 .char (1 : Int32) [(.int x0)] (.int (0 : Int32)) := by have hh := Vn26; rw [nx0] at hh; exact hh
    have SfA26 := (Safe.arv (EL := EL) hZ.alike V_b24 (by decide))
    replace hk := Nat.le_trans hk (Keep.of_wr W26).1
    replace hC := hC.trans (CHr.wr W26 SfA26 hC.1)
    replace O0 := O0.wr W26 g_b24
    replace KC := KC.wr W26 (Or.inr sz_b24)
    obtain ⟨T27, h27, L27, y0_27, X27, e27, N27, K27, V_cs_27, hq27_0, hq27_1, st27⟩ := rsg1 hw X26 hx hZ hby hml hown p1 p2 p3 p4 x0 x1 x2 b24 k24 x0 h26 n0 e26 (Nat.le_trans Z0 KC.1) O0 N26 Vm26 g_b24 hx0 hb0 (by decide) (by decide) (by decide) (by decide)
    replace hk := Nat.le_trans hk K27.1
    replace hC := hC.trans (CHr.keep K27 (sfS (Safe.arv (EL := EL) hZ.alike Vm26 (by decide)) sf0) hC.1)
    replace O0 := O0.keep K27 (allS g_b24 all0)
    replace KC := KC.trans K27 (allS (Or.inr sz_b24) all0)
    obtain ⟨T28, h28, X28, e28, E28, A28, D28, -, st28⟩ := newO X27 hx hZ hown (ww hw 1 rfl) (ww hw 2 rfl) (ww hw 3 rfl) e27 (g := (mkF m 131 #[vi p1, vi p2, vi p3, vi p4, vi (1 : Int32), vi x0, vi x1, vi x2, vr b24, un, un] [])) rfl (hb hby at_131) (by decide) (by decide)
    obtain ⟨b28, g28⟩ : ∃ z, z = h27.size := ⟨_, rfl⟩
    rw [← g28] at A28 D28 st28
    have ne_b24_b28 : b24 ≠ b28 := Nat.ne_of_lt (Nat.lt_of_lt_of_le V_cs_27.lt (Nat.le_of_eq g28.symm))
    have g_b28 : n0 ≤ b28 := Nat.le_trans (Nat.le_trans Z0 KC.1) (Nat.le_of_eq g28.symm)
    have sz_b28 : h0.size ≤ b28 := Nat.le_trans KC.1 (Nat.le_of_eq g28.symm)
    replace hk := Nat.le_trans hk E28.1
    replace hC := hC.trans (CHr.ext E28 hC.1)
    replace V_cs_27 := V_cs_27.ext E28
    replace O0 := O0.ext E28
    replace KC := KC.ext E28
    have F_value_b28 : Fld Z h28 b28 "java/lang/String" "value" "[B" .null := D28 (Or.inr (ww hw 16 rfl)) (ty := (.array .byte)) (by decide)
    have F_coder_b28 : Fld Z h28 b28 "java/lang/String" "coder" "B" (.int (0 : Int32)) := D28 (Or.inr (ww hw 17 rfl)) (ty := .byte) (by decide)
    obtain ⟨_, _, ⟨T29, L29, kz29, nz29⟩, -, X29, ⟨Lc29, hQ29, l29, y29, z29⟩, st29⟩ := X28.specialBack hx (y := y_28) rfl hown (mvT hZ (ww hw 4 rfl)) (mvT hZ (ww hw 5 rfl)) (mvT hZ (ww hw 6 rfl)) (by decide) (backOf (W := 1) (rm_i11 l Z a0 hw [] b28 b24 k24 y0_27 zc h28 n0 (Nat.le_trans Z0 KC.1) O0 F_value_b28 F_coder_b28 A28 g_b28 V_cs_27 S_CS hz hq27_0) hZ (ww hw 6 rfl) (ww hw 3 rfl) (by decide) (by decide)) (g := (mkF m 137 #[vi p1, vi p2, vi p3, vi p4, vi (1 : Int32), vi x0, vi x1, vi x2, vr b24, un, un] [(.ref b24), (.ref b28), (.ref b28)])) rfl (by rw [hml]; rfl) (Steps.refl _) (a := b28) (argsL := [(.ref b24)]) (rest := [(.ref b28)]) (lenOf pd_30 rfl) rfl (by show 2 * 0 + _ ≤ _; exact Nat.le_of_eq rfl) (hb hby at_137) (fun _ _ => ⟨rfl, e28, (by decide : 2 + 1 ≤ _), (by decide : 5 + 1 ≤ _)⟩)
    dsimp only [Pt.U, Pt.locs, Pt.cells, Pt.slots] at X29 l29 y29 z29 st29 hQ29
    subst l29 y29 z29
    obtain ⟨b29_tz, kb_29, rfl, N29q, K29, sz_b29_tz, F_value_a1_29, F_coder_a1_29, V_tz_29⟩ := hQ29
    have N29 := Fr.app N27 N29q
    have Sf_b29_tz : Safe Z EL s.vm h28 b29_tz := Safe.new sz_b29_tz
    have ne_b24_b29_tz : b24 ≠ b29_tz := Nat.ne_of_lt (Nat.lt_of_lt_of_le V_cs_27.lt sz_b29_tz)
    have ne_b28_b29_tz : b28 ≠ b29_tz := Nat.ne_of_lt (Nat.lt_of_lt_of_le A28.lt sz_b29_tz)
    have g_b29_tz : n0 ≤ b29_tz := Nat.le_trans (Nat.le_trans Z0 KC.1) sz_b29_tz
    replace sz_b29_tz : h0.size ≤ b29_tz := Nat.le_trans KC.1 sz_b29_tz
    have hsf29 := (sfS (own_safe (EL := EL) hZ.alike A28 F_value_b28) sf0)
    replace Sf_b29_tz := Safe.keep K29 hsf29 hC.1 Sf_b29_tz
    replace hk := Nat.le_trans hk K29.1
    replace hC := hC.trans (CHr.keep K29 hsf29 hC.1)
    replace V_cs_27 := V_cs_27.keep K29 (ninS ne_b24_b28 nin0)
    replace A28 := A28.keep K29
    replace O0 := O0.keep K29 (allS g_b28 all0)
    replace KC := KC.trans K29 (allS (Or.inr sz_b28) all0)
    obtain ⟨_, _, ⟨T30, L30, kz30, nz30⟩, -, X30, hS30, gr30, ⟨Lc30, hQ30, l30, y30, z30, C30⟩, st30⟩ := callSS X29 hx (y := y_43) hown (mvT hZ (ww hw 22 rfl)) (mvT hZ (ww hw 23 rfl)) (mvT hZ (ww hw 24 rfl)) (mvT hZ (ww hw 25 rfl)) (by decide) (backOfSH (W := 0) (rm_und l Z a0 hw [] b28 b29_tz kb_29 (1 : Int32) [(.int (own_b y0_27))] [(.int (own_b y0_27)), nO, nO, nO, nO, nO, nO, nO, nO, nO, nO, nO, nO, nO, nO, nO] [(.int (own_b y0_27)), (.int (47 : Int32)), (.int (105 : Int32)), (.int (100 : Int32)), (.int (112 : Int32)), nO, nO, nO, nO, nO, nO, nO, nO, nO, nO, nO] (5 : Int32) [(.int (own_b y0_27)), (.int (47 : Int32)), (.int (105 : Int32)), (.int (100 : Int32)), (.int (112 : Int32)), nO, nO, nO, nO, nO, nO, nO, nO, nO, nO, nO] [(.int (own_b y0_27)), (.int (47 : Int32)), (.int (109 : Int32)), (.int (101 : Int32)), (.int (116 : Int32)), (.int (97 : Int32)), (.int (100 : Int32)), (.int (97 : Int32)), (.int (116 : Int32)), (.int (97 : Int32)), nO, nO, nO, nO, nO, nO] (10 : Int32) [(.int (own_b y0_27)), (.int (47 : Int32)), (.int (109 : Int32)), (.int (101 : Int32)), (.int (116 : Int32)), (.int (97 : Int32)), (.int (100 : Int32)), (.int (97 : Int32)), (.int (116 : Int32)), (.int (97 : Int32)), nO, nO, nO, nO, nO, nO] [(.int (own_b y0_27)), (.int (47 : Int32)), (.int (115 : Int32)), (.int (115 : Int32)), (.int (111 : Int32)), nO, nO, nO, nO, nO, nO, nO, nO, nO, nO, nO] (5 : Int32) [(.int (own_b y0_27)), (.int (47 : Int32)), (.int (115 : Int32)), (.int (115 : Int32)), (.int (111 : Int32)), nO, nO, nO, nO, nO, nO, nO, nO, nO, nO, nO] [(.int (own_b y0_27)), (.int (47 : Int32)), (.int (115 : Int32)), (.int (108 : Int32)), (.int (111 : Int32)), nO, nO, nO, nO, nO, nO, nO, nO, nO, nO, nO] (5 : Int32) [(.int (own_b y0_27)), (.int (47 : Int32)), (.int (115 : Int32)), (.int (108 : Int32)), (.int (111 : Int32)), nO, nO, nO, nO, nO, nO, nO, nO, nO, nO, nO] zc T29.heap n0 (Nat.le_trans Z0 KC.1) O0 A28 F_value_a1_29 F_coder_a1_29 V_tz_29 S_CS hz (Or.inr (Or.inl ⟨rfl, _, rfl, hq27_1⟩)) (by decide) (by decide) rfl (by decide) (by decide) (Nat.le_of_ble_eq_true rfl) rfl (by decide) (by decide) (by decide) (by decide) (by decide) rfl (by decide) (Nat.le_of_ble_eq_true rfl) rfl (by decide) (by decide) (by decide) (by decide) (by decide) rfl (by decide) (Nat.le_of_ble_eq_true rfl) rfl (by decide) (by decide) (by decide) (by decide) (by decide) rfl (by decide) (Nat.le_of_ble_eq_true rfl) rfl (by decide) (by decide) (by decide) (by decide) (by decide) rfl) hZ (ww hw 25 rfl) (ww hw 24 rfl) (by decide) (by decide) hEL hC.1) (g := (mkF m 144 #[vi p1, vi p2, vi p3, vi p4, vi (1 : Int32), vi x0, vi x1, vi x2, vr b24, vr b28, un] [(.ref b28)])) rfl (by rw [hml]; rfl) (argsL := [(.ref b28)]) (rest := []) (lenOf pd_31 rfl) rfl (by show 2 * 0 + _ ≤ _; exact Nat.le_of_eq rfl) (hb hby at_144) (fun _ _ => ⟨rfl, rfl, (by decide : 3 + 27 ≤ _), (by decide : 6 + 272 ≤ _)⟩)
    dsimp only [Pt.U, Pt.locs, Pt.cells, Pt.slots] at X30 l30 y30 z30 st30 hQ30 hS30 gr30 C30
    subst l30 y30 z30
    replace Sf_b29_tz := C30.safe V_tz_29.lt Sf_b29_tz
    obtain ⟨Xr30, hSr30, hZr30, hownr30⟩ := rebS hS hk X30 hS30 gr30 hZ hown
    replace hC := hC.trans C30
    replace hZ := hZr30
    replace hown := hownr30
    replace hS := hSr30
    replace hk : T30.heap.size ≤ T30.heap.size := Nat.le_refl _
    replace X30 := Xr30
    obtain ⟨b30_e0, sA_30, tA_30, kA_30, sB_30, tB_30, kB_30, sC_30, tC_30, kC_30, sD_30, tD_30, kD_30, rfl, N30q, K30, sz_b30_e0, E_e0_30, F_entityId_e0_30, F_metadata_e0_30, F_singleSignOn_e0_30, F_singleLogout_e0_30, E_sA_30, F_value_sA_30, F_coder_sA_30, V_tA_30, E_sB_30, F_value_sB_30, F_coder_sB_30, V_tB_30, E_sC_30, F_value_sC_30, F_coder_sC_30, V_tC_30, E_sD_30, F_value_sD_30, F_coder_sD_30, V_tD_30⟩ := hQ30
    have N30 := Fr.app N29 N30q
    have ne_b24_b30_e0 : b24 ≠ b30_e0 := Nat.ne_of_lt (Nat.lt_of_lt_of_le V_cs_27.lt sz_b30_e0)
    have ne_b28_b30_e0 : b28 ≠ b30_e0 := Nat.ne_of_lt (Nat.lt_of_lt_of_le A28.lt sz_b30_e0)
    have ne_b29_tz_b30_e0 : b29_tz ≠ b30_e0 := Nat.ne_of_lt (Nat.lt_of_lt_of_le V_tz_29.lt sz_b30_e0)
    have g_b30_e0 : n0 ≤ b30_e0 := Nat.le_trans (Nat.le_trans Z0 KC.1) sz_b30_e0
    replace sz_b30_e0 : h0.size ≤ b30_e0 := Nat.le_trans KC.1 sz_b30_e0
    replace V_cs_27 := V_cs_27.keep K30 nin0
    replace A28 := A28.keep K30
    replace F_value_a1_29 := F_value_a1_29.keep K30 nin0
    replace F_coder_a1_29 := F_coder_a1_29.keep K30 nin0
    replace V_tz_29 := V_tz_29.keep K30 nin0
    replace O0 := O0.keep K30 all0
    replace KC := KC.trans K30 all0
    obtain ⟨cq31, kq31, q31a, q31b, q31c⟩ := isOf hZ rfl E_e0_30
    obtain ⟨_, _, ⟨T31, L31, kz31, nz31⟩, -, X31, ⟨Lc31, hQ31, l31, y31, z31⟩, st31⟩ := X30.virtualBack hx (y := y_39) (z := y_39) hown (mvT hZ (ww hw 172 rfl)) (mvT hZ (ww hw 173 rfl)) (notFace_of_selects (args := #[]) (mvT hZ (ww hw 175 rfl))) (mvT hZ (ww hw 175 rfl)) (mvT hZ (ww hw 174 rfl)) (by decide) (backOf (W := 0) (rm_get_entityId l Z a0 hw [] b30_e0 sA_30 T30.heap n0 (Nat.le_trans Z0 KC.1) O0 F_entityId_e0_30) hZ (ww hw 176 rfl) (ww hw 24 rfl) (by decide) (by decide)) q31a q31c (g := (mkF m 156 #[vi p1, vi p2, vi p3, vi p4, vi (1 : Int32), vi x0, vi x1, vi x2, vr b24, vr b28, vr b30_e0] [(.ref b30_e0)])) rfl (by rw [hml]; rfl) (Steps.refl _) (argsL := []) (rest := []) (lenOf pd_28 rfl) rfl (by show 2 * 0 + _ ≤ _; exact Nat.le_of_eq rfl) (hb hby at_156) (fun _ _ => ⟨rfl, rfl, (by decide : 30 + 0 ≤ _), (by decide : 278 + 0 ≤ _)⟩)
    dsimp only [Pt.U, Pt.locs, Pt.cells, Pt.slots] at X31 l31 y31 z31 st31 hQ31
    subst l31 y31 z31
    obtain ⟨rfl, N31q, e31⟩ := hQ31
    have N31 := Fr.app N30 N31q
    obtain ⟨sa32, T32, h32, kx32, sb32, kc32, X32, e32, E32, hS32, hk32, hZ32, hown32, Ex32, Fc32, Fv32, Vv32, -, -, C32, -, nx32, st32⟩ := ldcCH X31 hx hZ hown (ww hw 177 rfl) wS e31 hS hk hEL (by decide) hC.1 (vs := [(.int (47 : Int32)), (.int (105 : Int32)), (.int (100 : Int32)), (.int (112 : Int32))]) (z := (4 : Int32)) ⟨by decide, by first | rfl | decide⟩ (by decide) (by first | rfl | decide) (g := (mkF m 161 #[vi p1, vi p2, vi p3, vi p4, vi (1 : Int32), vi x0, vi x1, vi x2, vr b24, vr b28, vr b30_e0] [(.ref b28), (.ref sA_30)])) rfl (hb hby at_161) (n := 16) (by decide) (by decide) (by decide) (by decide)
    replace Sf_b29_tz := C32.safe V_tz_29.lt Sf_b29_tz
    replace V_cs_27 := V_cs_27.ext E32
    replace A28 := A28.ext E32
    replace F_value_a1_29 := F_value_a1_29.ext E32
    replace F_coder_a1_29 := F_coder_a1_29.ext E32
    replace V_tz_29 := V_tz_29.ext E32
    replace E_e0_30 := E_e0_30.ext E32
    replace F_entityId_e0_30 := F_entityId_e0_30.ext E32
    replace F_metadata_e0_30 := F_metadata_e0_30.ext E32
    replace F_singleSignOn_e0_30 := F_singleSignOn_e0_30.ext E32
    replace F_singleLogout_e0_30 := F_singleLogout_e0_30.ext E32
    replace E_sA_30 := E_sA_30.ext E32
    replace F_value_sA_30 := F_value_sA_30.ext E32
    replace F_coder_sA_30 := F_coder_sA_30.ext E32
    replace V_tA_30 := V_tA_30.ext E32
    replace E_sB_30 := E_sB_30.ext E32
    replace F_value_sB_30 := F_value_sB_30.ext E32
    replace F_coder_sB_30 := F_coder_sB_30.ext E32
    replace V_tB_30 := V_tB_30.ext E32
    replace E_sC_30 := E_sC_30.ext E32
    replace F_value_sC_30 := F_value_sC_30.ext E32
    replace F_coder_sC_30 := F_coder_sC_30.ext E32
    replace V_tC_30 := V_tC_30.ext E32
    replace E_sD_30 := E_sD_30.ext E32
    replace F_value_sD_30 := F_value_sD_30.ext E32
    replace F_coder_sD_30 := F_coder_sD_30.ext E32
    replace V_tD_30 := V_tD_30.ext E32
    replace O0 := O0.ext E32
    replace KC := KC.ext E32
    replace hC := hC.trans C32
    replace hZ := hZ32
    replace hown := hown32
    replace hS := hS32
    replace hk := hk32
    have nx32_b29_tz := nx32 _ Sf_b29_tz
    obtain ⟨_, _, ⟨T33, L33, kz33, nz33⟩, -, X33, ⟨Lc33, hQ33, l33, y33, z33⟩, st33⟩ := Jvm.LawKit.callS X32 hx (y := y_37) hown (mvT hZ (ww hw 178 rfl)) (mvT hZ (ww hw 179 rfl)) (mvT hZ (ww hw 180 rfl)) (mvT hZ (ww hw 181 rfl)) (by decide) (backOf (W := 0) (rm_is l Z a0 hw [] sA_30 b28 sa32 tA_30 kA_30 (5 : Int32) [(.int (own_b y0_27)), (.int (47 : Int32)), (.int (105 : Int32)), (.int (100 : Int32)), (.int (112 : Int32)), nO, nO, nO, nO, nO, nO, nO, nO, nO, nO, nO] b29_tz kb_29 (1 : Int32) [(.int (own_b y0_27))] sb32 kc32 (4 : Int32) [(.int (47 : Int32)), (.int (105 : Int32)), (.int (100 : Int32)), (.int (112 : Int32))] zc fm h32 n0 (Nat.le_trans Z0 KC.1) O0 E_sA_30 F_value_sA_30 F_coder_sA_30 V_tA_30 A28 F_value_a1_29 F_coder_a1_29 V_tz_29 Ex32 Fv32 Fc32 Vv32 S_CS hz S_FM hW_fm (by decide) (fun kk q0 q1 => by rcases own_f1 q0 q1 with rfl <;> exact ⟨by decide, by decide, _, rfl, rfl⟩) (fun kk q0 q1 => by rcases own_f4 q0 q1 with rfl | rfl | rfl | rfl <;> exact ⟨by decide, by decide, _, rfl, rfl⟩)) hZ (ww hw 181 rfl) (ww hw 180 rfl) (by decide) (by decide)) (g := (mkF m 163 #[vi p1, vi p2, vi p3, vi p4, vi (1 : Int32), vi x0, vi x1, vi x2, vr b24, vr b28, vr b30_e0] [(.ref sa32), (.ref b28), (.ref sA_30)])) rfl (by rw [hml]; rfl) (argsL := [(.ref sA_30), (.ref b28), (.ref sa32)]) (rest := []) (lenOf pd_32 rfl) rfl (by show 2 * 0 + _ ≤ _; exact Nat.le_of_eq rfl) (hb hby at_163) (fun _ _ => ⟨rfl, e32, (by decide : 32 + 0 ≤ _), (by decide : 298 + 0 ≤ _)⟩)
    dsimp only [Pt.U, Pt.locs, Pt.cells, Pt.slots] at X33 l33 y33 z33 st33 hQ33
    subst l33 y33 z33
    obtain ⟨rfl, N33q, e33⟩ := hQ33
    have N33 := Fr.app N31 N33q
    obtain ⟨cq34, kq34, q34a, q34b, q34c⟩ := isOf hZ e33 E_e0_30
    obtain ⟨_, _, ⟨T34, L34, kz34, nz34⟩, -, X34, ⟨Lc34, hQ34, l34, y34, z34⟩, st34⟩ := X33.virtualBack hx (y := y_40) (z := y_40) hown (mvT hZ (ww hw 211 rfl)) (mvT hZ (ww hw 212 rfl)) (notFace_of_selects (args := #[]) (mvT hZ (ww hw 214 rfl))) (mvT hZ (ww hw 214 rfl)) (mvT hZ (ww hw 213 rfl)) (by decide) (backOf (W := 0) (rm_get_metadata l Z a0 hw [] b30_e0 sB_30 h32 n0 (Nat.le_trans Z0 KC.1) O0 F_metadata_e0_30) hZ (ww hw 215 rfl) (ww hw 24 rfl) (by decide) (by decide)) q34a q34c (g := (mkF m 171 #[vi p1, vi p2, vi p3, vi p4, vi (1 : Int32), vi x0, vi x1, vi x2, vr b24, vr b28, vr b30_e0] [(.ref b30_e0)])) rfl (by rw [hml]; rfl) (Steps.refl _) (argsL := []) (rest := []) (lenOf pd_28 rfl) rfl (by show 2 * 0 + _ ≤ _; exact Nat.le_of_eq rfl) (hb hby at_171) (fun _ _ => ⟨rfl, e33, (by decide : 32 + 0 ≤ _), (by decide : 298 + 0 ≤ _)⟩)
    dsimp only [Pt.U, Pt.locs, Pt.cells, Pt.slots] at X34 l34 y34 z34 st34 hQ34
    subst l34 y34 z34
    obtain ⟨rfl, N34q, e34⟩ := hQ34
    have N34 := Fr.app N33 N34q
    obtain ⟨sa35, T35, h35, kx35, sb35, kc35, X35, e35, E35, hS35, hk35, hZ35, hown35, Ex35, Fc35, Fv35, Vv35, -, -, C35, -, nx35, st35⟩ := ldcCH X34 hx hZ hown (ww hw 216 rfl) wS e34 hS hk hEL (by decide) hC.1 (vs := [(.int (47 : Int32)), (.int (109 : Int32)), (.int (101 : Int32)), (.int (116 : Int32)), (.int (97 : Int32)), (.int (100 : Int32)), (.int (97 : Int32)), (.int (116 : Int32)), (.int (97 : Int32))]) (z := (9 : Int32)) ⟨by decide, by first | rfl | decide⟩ (by decide) (by first | rfl | decide) (g := (mkF m 176 #[vi p1, vi p2, vi p3, vi p4, vi (1 : Int32), vi x0, vi x1, vi x2, vr b24, vr b28, vr b30_e0] [(.ref b28), (.ref sB_30)])) rfl (hb hby at_176) (n := 36) (by decide) (by decide) (by decide) (by decide)
    replace Sf_b29_tz := C35.safe V_tz_29.lt Sf_b29_tz
    replace V_cs_27 := V_cs_27.ext E35
    replace A28 := A28.ext E35
    replace F_value_a1_29 := F_value_a1_29.ext E35
    replace F_coder_a1_29 := F_coder_a1_29.ext E35
    replace V_tz_29 := V_tz_29.ext E35
    replace E_e0_30 := E_e0_30.ext E35
    replace F_entityId_e0_30 := F_entityId_e0_30.ext E35
    replace F_metadata_e0_30 := F_metadata_e0_30.ext E35
    replace F_singleSignOn_e0_30 := F_singleSignOn_e0_30.ext E35
    replace F_singleLogout_e0_30 := F_singleLogout_e0_30.ext E35
    replace E_sA_30 := E_sA_30.ext E35
    replace F_value_sA_30 := F_value_sA_30.ext E35
    replace F_coder_sA_30 := F_coder_sA_30.ext E35
    replace V_tA_30 := V_tA_30.ext E35
    replace E_sB_30 := E_sB_30.ext E35
    replace F_value_sB_30 := F_value_sB_30.ext E35
    replace F_coder_sB_30 := F_coder_sB_30.ext E35
    replace V_tB_30 := V_tB_30.ext E35
    replace E_sC_30 := E_sC_30.ext E35
    replace F_value_sC_30 := F_value_sC_30.ext E35
    replace F_coder_sC_30 := F_coder_sC_30.ext E35
    replace V_tC_30 := V_tC_30.ext E35
    replace E_sD_30 := E_sD_30.ext E35
    replace F_value_sD_30 := F_value_sD_30.ext E35
    replace F_coder_sD_30 := F_coder_sD_30.ext E35
    replace V_tD_30 := V_tD_30.ext E35
    replace Ex32 := Ex32.ext E35
    replace Fc32 := Fc32.ext E35
    replace Fv32 := Fv32.ext E35
    replace Vv32 := Vv32.ext E35
    replace O0 := O0.ext E35
    replace KC := KC.ext E35
    replace hC := hC.trans C35
    replace hZ := hZ35
    replace hown := hown35
    replace hS := hS35
    replace hk := hk35
    have nx35_b29_tz := nx35 _ Sf_b29_tz
    obtain ⟨_, _, ⟨T36, L36, kz36, nz36⟩, -, X36, ⟨Lc36, hQ36, l36, y36, z36⟩, st36⟩ := Jvm.LawKit.callS X35 hx (y := y_37) hown (mvT hZ (ww hw 178 rfl)) (mvT hZ (ww hw 179 rfl)) (mvT hZ (ww hw 180 rfl)) (mvT hZ (ww hw 181 rfl)) (by decide) (backOf (W := 0) (rm_is l Z a0 hw [] sB_30 b28 sa35 tB_30 kB_30 (10 : Int32) [(.int (own_b y0_27)), (.int (47 : Int32)), (.int (109 : Int32)), (.int (101 : Int32)), (.int (116 : Int32)), (.int (97 : Int32)), (.int (100 : Int32)), (.int (97 : Int32)), (.int (116 : Int32)), (.int (97 : Int32)), nO, nO, nO, nO, nO, nO] b29_tz kb_29 (1 : Int32) [(.int (own_b y0_27))] sb35 kc35 (9 : Int32) [(.int (47 : Int32)), (.int (109 : Int32)), (.int (101 : Int32)), (.int (116 : Int32)), (.int (97 : Int32)), (.int (100 : Int32)), (.int (97 : Int32)), (.int (116 : Int32)), (.int (97 : Int32))] zc fm h35 n0 (Nat.le_trans Z0 KC.1) O0 E_sB_30 F_value_sB_30 F_coder_sB_30 V_tB_30 A28 F_value_a1_29 F_coder_a1_29 V_tz_29 Ex35 Fv35 Fc35 Vv35 S_CS hz S_FM hW_fm (by decide) (fun kk q0 q1 => by rcases own_f1 q0 q1 with rfl <;> exact ⟨by decide, by decide, _, rfl, rfl⟩) (fun kk q0 q1 => by rcases own_f9 q0 q1 with rfl | rfl | rfl | rfl | rfl | rfl | rfl | rfl | rfl <;> exact ⟨by decide, by decide, _, rfl, rfl⟩)) hZ (ww hw 181 rfl) (ww hw 180 rfl) (by decide) (by decide)) (g := (mkF m 178 #[vi p1, vi p2, vi p3, vi p4, vi (1 : Int32), vi x0, vi x1, vi x2, vr b24, vr b28, vr b30_e0] [(.ref sa35), (.ref b28), (.ref sB_30)])) rfl (by rw [hml]; rfl) (argsL := [(.ref sB_30), (.ref b28), (.ref sa35)]) (rest := []) (lenOf pd_32 rfl) rfl (by show 2 * 0 + _ ≤ _; exact Nat.le_of_eq rfl) (hb hby at_178) (fun _ _ => ⟨rfl, e35, (by decide : 34 + 0 ≤ _), (by decide : 338 + 0 ≤ _)⟩)
    dsimp only [Pt.U, Pt.locs, Pt.cells, Pt.slots] at X36 l36 y36 z36 st36 hQ36
    subst l36 y36 z36
    obtain ⟨rfl, N36q, e36⟩ := hQ36
    have N36 := Fr.app N34 N36q
    obtain ⟨cq37, kq37, q37a, q37b, q37c⟩ := isOf hZ e36 E_e0_30
    obtain ⟨_, _, ⟨T37, L37, kz37, nz37⟩, -, X37, ⟨Lc37, hQ37, l37, y37, z37⟩, st37⟩ := X36.virtualBack hx (y := y_41) (z := y_41) hown (mvT hZ (ww hw 217 rfl)) (mvT hZ (ww hw 218 rfl)) (notFace_of_selects (args := #[]) (mvT hZ (ww hw 220 rfl))) (mvT hZ (ww hw 220 rfl)) (mvT hZ (ww hw 219 rfl)) (by decide) (backOf (W := 0) (rm_get_singleSignOn l Z a0 hw [] b30_e0 sC_30 h35 n0 (Nat.le_trans Z0 KC.1) O0 F_singleSignOn_e0_30) hZ (ww hw 221 rfl) (ww hw 24 rfl) (by decide) (by decide)) q37a q37c (g := (mkF m 186 #[vi p1, vi p2, vi p3, vi p4, vi (1 : Int32), vi x0, vi x1, vi x2, vr b24, vr b28, vr b30_e0] [(.ref b30_e0)])) rfl (by rw [hml]; rfl) (Steps.refl _) (argsL := []) (rest := []) (lenOf pd_28 rfl) rfl (by show 2 * 0 + _ ≤ _; exact Nat.le_of_eq rfl) (hb hby at_186) (fun _ _ => ⟨rfl, e36, (by decide : 34 + 0 ≤ _), (by decide : 338 + 0 ≤ _)⟩)
    dsimp only [Pt.U, Pt.locs, Pt.cells, Pt.slots] at X37 l37 y37 z37 st37 hQ37
    subst l37 y37 z37
    obtain ⟨rfl, N37q, e37⟩ := hQ37
    have N37 := Fr.app N36 N37q
    obtain ⟨sa38, T38, h38, kx38, sb38, kc38, X38, e38, E38, hS38, hk38, hZ38, hown38, Ex38, Fc38, Fv38, Vv38, -, -, C38, -, nx38, st38⟩ := ldcCH X37 hx hZ hown (ww hw 222 rfl) wS e37 hS hk hEL (by decide) hC.1 (vs := [(.int (47 : Int32)), (.int (115 : Int32)), (.int (115 : Int32)), (.int (111 : Int32))]) (z := (4 : Int32)) ⟨by decide, by first | rfl | decide⟩ (by decide) (by first | rfl | decide) (g := (mkF m 191 #[vi p1, vi p2, vi p3, vi p4, vi (1 : Int32), vi x0, vi x1, vi x2, vr b24, vr b28, vr b30_e0] [(.ref b28), (.ref sC_30)])) rfl (hb hby at_191) (n := 16) (by decide) (by decide) (by decide) (by decide)
    replace Sf_b29_tz := C38.safe V_tz_29.lt Sf_b29_tz
    replace V_cs_27 := V_cs_27.ext E38
    replace A28 := A28.ext E38
    replace F_value_a1_29 := F_value_a1_29.ext E38
    replace F_coder_a1_29 := F_coder_a1_29.ext E38
    replace V_tz_29 := V_tz_29.ext E38
    replace E_e0_30 := E_e0_30.ext E38
    replace F_entityId_e0_30 := F_entityId_e0_30.ext E38
    replace F_metadata_e0_30 := F_metadata_e0_30.ext E38
    replace F_singleSignOn_e0_30 := F_singleSignOn_e0_30.ext E38
    replace F_singleLogout_e0_30 := F_singleLogout_e0_30.ext E38
    replace E_sA_30 := E_sA_30.ext E38
    replace F_value_sA_30 := F_value_sA_30.ext E38
    replace F_coder_sA_30 := F_coder_sA_30.ext E38
    replace V_tA_30 := V_tA_30.ext E38
    replace E_sB_30 := E_sB_30.ext E38
    replace F_value_sB_30 := F_value_sB_30.ext E38
    replace F_coder_sB_30 := F_coder_sB_30.ext E38
    replace V_tB_30 := V_tB_30.ext E38
    replace E_sC_30 := E_sC_30.ext E38
    replace F_value_sC_30 := F_value_sC_30.ext E38
    replace F_coder_sC_30 := F_coder_sC_30.ext E38
    replace V_tC_30 := V_tC_30.ext E38
    replace E_sD_30 := E_sD_30.ext E38
    replace F_value_sD_30 := F_value_sD_30.ext E38
    replace F_coder_sD_30 := F_coder_sD_30.ext E38
    replace V_tD_30 := V_tD_30.ext E38
    replace Ex32 := Ex32.ext E38
    replace Fc32 := Fc32.ext E38
    replace Fv32 := Fv32.ext E38
    replace Vv32 := Vv32.ext E38
    replace Ex35 := Ex35.ext E38
    replace Fc35 := Fc35.ext E38
    replace Fv35 := Fv35.ext E38
    replace Vv35 := Vv35.ext E38
    replace O0 := O0.ext E38
    replace KC := KC.ext E38
    replace hC := hC.trans C38
    replace hZ := hZ38
    replace hown := hown38
    replace hS := hS38
    replace hk := hk38
    have nx38_b29_tz := nx38 _ Sf_b29_tz
    obtain ⟨_, _, ⟨T39, L39, kz39, nz39⟩, -, X39, ⟨Lc39, hQ39, l39, y39, z39⟩, st39⟩ := Jvm.LawKit.callS X38 hx (y := y_37) hown (mvT hZ (ww hw 178 rfl)) (mvT hZ (ww hw 179 rfl)) (mvT hZ (ww hw 180 rfl)) (mvT hZ (ww hw 181 rfl)) (by decide) (backOf (W := 0) (rm_is l Z a0 hw [] sC_30 b28 sa38 tC_30 kC_30 (5 : Int32) [(.int (own_b y0_27)), (.int (47 : Int32)), (.int (115 : Int32)), (.int (115 : Int32)), (.int (111 : Int32)), nO, nO, nO, nO, nO, nO, nO, nO, nO, nO, nO] b29_tz kb_29 (1 : Int32) [(.int (own_b y0_27))] sb38 kc38 (4 : Int32) [(.int (47 : Int32)), (.int (115 : Int32)), (.int (115 : Int32)), (.int (111 : Int32))] zc fm h38 n0 (Nat.le_trans Z0 KC.1) O0 E_sC_30 F_value_sC_30 F_coder_sC_30 V_tC_30 A28 F_value_a1_29 F_coder_a1_29 V_tz_29 Ex38 Fv38 Fc38 Vv38 S_CS hz S_FM hW_fm (by decide) (fun kk q0 q1 => by rcases own_f1 q0 q1 with rfl <;> exact ⟨by decide, by decide, _, rfl, rfl⟩) (fun kk q0 q1 => by rcases own_f4 q0 q1 with rfl | rfl | rfl | rfl <;> exact ⟨by decide, by decide, _, rfl, rfl⟩)) hZ (ww hw 181 rfl) (ww hw 180 rfl) (by decide) (by decide)) (g := (mkF m 193 #[vi p1, vi p2, vi p3, vi p4, vi (1 : Int32), vi x0, vi x1, vi x2, vr b24, vr b28, vr b30_e0] [(.ref sa38), (.ref b28), (.ref sC_30)])) rfl (by rw [hml]; rfl) (argsL := [(.ref sC_30), (.ref b28), (.ref sa38)]) (rest := []) (lenOf pd_32 rfl) rfl (by show 2 * 0 + _ ≤ _; exact Nat.le_of_eq rfl) (hb hby at_193) (fun _ _ => ⟨rfl, e38, (by decide : 36 + 0 ≤ _), (by decide : 358 + 0 ≤ _)⟩)
    dsimp only [Pt.U, Pt.locs, Pt.cells, Pt.slots] at X39 l39 y39 z39 st39 hQ39
    subst l39 y39 z39
    obtain ⟨rfl, N39q, e39⟩ := hQ39
    have N39 := Fr.app N37 N39q
    obtain ⟨cq40, kq40, q40a, q40b, q40c⟩ := isOf hZ e39 E_e0_30
    obtain ⟨_, _, ⟨T40, L40, kz40, nz40⟩, -, X40, ⟨Lc40, hQ40, l40, y40, z40⟩, st40⟩ := X39.virtualBack hx (y := y_42) (z := y_42) hown (mvT hZ (ww hw 223 rfl)) (mvT hZ (ww hw 224 rfl)) (notFace_of_selects (args := #[]) (mvT hZ (ww hw 226 rfl))) (mvT hZ (ww hw 226 rfl)) (mvT hZ (ww hw 225 rfl)) (by decide) (backOf (W := 0) (rm_get_singleLogout l Z a0 hw [] b30_e0 sD_30 h38 n0 (Nat.le_trans Z0 KC.1) O0 F_singleLogout_e0_30) hZ (ww hw 227 rfl) (ww hw 24 rfl) (by decide) (by decide)) q40a q40c (g := (mkF m 201 #[vi p1, vi p2, vi p3, vi p4, vi (1 : Int32), vi x0, vi x1, vi x2, vr b24, vr b28, vr b30_e0] [(.ref b30_e0)])) rfl (by rw [hml]; rfl) (Steps.refl _) (argsL := []) (rest := []) (lenOf pd_28 rfl) rfl (by show 2 * 0 + _ ≤ _; exact Nat.le_of_eq rfl) (hb hby at_201) (fun _ _ => ⟨rfl, e39, (by decide : 36 + 0 ≤ _), (by decide : 358 + 0 ≤ _)⟩)
    dsimp only [Pt.U, Pt.locs, Pt.cells, Pt.slots] at X40 l40 y40 z40 st40 hQ40
    subst l40 y40 z40
    obtain ⟨rfl, N40q, e40⟩ := hQ40
    have N40 := Fr.app N39 N40q
    obtain ⟨sa41, T41, h41, kx41, sb41, kc41, X41, e41, E41, hS41, hk41, hZ41, hown41, Ex41, Fc41, Fv41, Vv41, -, -, C41, -, nx41, st41⟩ := ldcCH X40 hx hZ hown (ww hw 228 rfl) wS e40 hS hk hEL (by decide) hC.1 (vs := [(.int (47 : Int32)), (.int (115 : Int32)), (.int (108 : Int32)), (.int (111 : Int32))]) (z := (4 : Int32)) ⟨by decide, by first | rfl | decide⟩ (by decide) (by first | rfl | decide) (g := (mkF m 206 #[vi p1, vi p2, vi p3, vi p4, vi (1 : Int32), vi x0, vi x1, vi x2, vr b24, vr b28, vr b30_e0] [(.ref b28), (.ref sD_30)])) rfl (hb hby at_206) (n := 16) (by decide) (by decide) (by decide) (by decide)
    replace Sf_b29_tz := C41.safe V_tz_29.lt Sf_b29_tz
    replace V_cs_27 := V_cs_27.ext E41
    replace A28 := A28.ext E41
    replace F_value_a1_29 := F_value_a1_29.ext E41
    replace F_coder_a1_29 := F_coder_a1_29.ext E41
    replace V_tz_29 := V_tz_29.ext E41
    replace E_e0_30 := E_e0_30.ext E41
    replace F_entityId_e0_30 := F_entityId_e0_30.ext E41
    replace F_metadata_e0_30 := F_metadata_e0_30.ext E41
    replace F_singleSignOn_e0_30 := F_singleSignOn_e0_30.ext E41
    replace F_singleLogout_e0_30 := F_singleLogout_e0_30.ext E41
    replace E_sA_30 := E_sA_30.ext E41
    replace F_value_sA_30 := F_value_sA_30.ext E41
    replace F_coder_sA_30 := F_coder_sA_30.ext E41
    replace V_tA_30 := V_tA_30.ext E41
    replace E_sB_30 := E_sB_30.ext E41
    replace F_value_sB_30 := F_value_sB_30.ext E41
    replace F_coder_sB_30 := F_coder_sB_30.ext E41
    replace V_tB_30 := V_tB_30.ext E41
    replace E_sC_30 := E_sC_30.ext E41
    replace F_value_sC_30 := F_value_sC_30.ext E41
    replace F_coder_sC_30 := F_coder_sC_30.ext E41
    replace V_tC_30 := V_tC_30.ext E41
    replace E_sD_30 := E_sD_30.ext E41
    replace F_value_sD_30 := F_value_sD_30.ext E41
    replace F_coder_sD_30 := F_coder_sD_30.ext E41
    replace V_tD_30 := V_tD_30.ext E41
    replace Ex32 := Ex32.ext E41
    replace Fc32 := Fc32.ext E41
    replace Fv32 := Fv32.ext E41
    replace Vv32 := Vv32.ext E41
    replace Ex35 := Ex35.ext E41
    replace Fc35 := Fc35.ext E41
    replace Fv35 := Fv35.ext E41
    replace Vv35 := Vv35.ext E41
    replace Ex38 := Ex38.ext E41
    replace Fc38 := Fc38.ext E41
    replace Fv38 := Fv38.ext E41
    replace Vv38 := Vv38.ext E41
    replace O0 := O0.ext E41
    replace KC := KC.ext E41
    replace hC := hC.trans C41
    replace hZ := hZ41
    replace hown := hown41
    replace hS := hS41
    replace hk := hk41
    have nx41_b29_tz := nx41 _ Sf_b29_tz
    obtain ⟨_, _, ⟨T42, L42, kz42, nz42⟩, -, X42, ⟨Lc42, hQ42, l42, y42, z42⟩, st42⟩ := Jvm.LawKit.callS X41 hx (y := y_37) hown (mvT hZ (ww hw 178 rfl)) (mvT hZ (ww hw 179 rfl)) (mvT hZ (ww hw 180 rfl)) (mvT hZ (ww hw 181 rfl)) (by decide) (backOf (W := 0) (rm_is l Z a0 hw [] sD_30 b28 sa41 tD_30 kD_30 (5 : Int32) [(.int (own_b y0_27)), (.int (47 : Int32)), (.int (115 : Int32)), (.int (108 : Int32)), (.int (111 : Int32)), nO, nO, nO, nO, nO, nO, nO, nO, nO, nO, nO] b29_tz kb_29 (1 : Int32) [(.int (own_b y0_27))] sb41 kc41 (4 : Int32) [(.int (47 : Int32)), (.int (115 : Int32)), (.int (108 : Int32)), (.int (111 : Int32))] zc fm h41 n0 (Nat.le_trans Z0 KC.1) O0 E_sD_30 F_value_sD_30 F_coder_sD_30 V_tD_30 A28 F_value_a1_29 F_coder_a1_29 V_tz_29 Ex41 Fv41 Fc41 Vv41 S_CS hz S_FM hW_fm (by decide) (fun kk q0 q1 => by rcases own_f1 q0 q1 with rfl <;> exact ⟨by decide, by decide, _, rfl, rfl⟩) (fun kk q0 q1 => by rcases own_f4 q0 q1 with rfl | rfl | rfl | rfl <;> exact ⟨by decide, by decide, _, rfl, rfl⟩)) hZ (ww hw 181 rfl) (ww hw 180 rfl) (by decide) (by decide)) (g := (mkF m 208 #[vi p1, vi p2, vi p3, vi p4, vi (1 : Int32), vi x0, vi x1, vi x2, vr b24, vr b28, vr b30_e0] [(.ref sa41), (.ref b28), (.ref sD_30)])) rfl (by rw [hml]; rfl) (argsL := [(.ref sD_30), (.ref b28), (.ref sa41)]) (rest := []) (lenOf pd_32 rfl) rfl (by show 2 * 0 + _ ≤ _; exact Nat.le_of_eq rfl) (hb hby at_208) (fun _ _ => ⟨rfl, e41, (by decide : 38 + 0 ≤ _), (by decide : 378 + 0 ≤ _)⟩)
    dsimp only [Pt.U, Pt.locs, Pt.cells, Pt.slots] at X42 l42 y42 z42 st42 hQ42
    subst l42 y42 z42
    obtain ⟨rfl, N42q, e42⟩ := hQ42
    have N42 := Fr.app N40 N42q
    obtain ⟨fs, hr, hrun, hended, hRE⟩ := X42.leaveW hS (by rw [e42]; exact hk) (v := some (.int (1 : Int32))) (fun h => by rw [Bd.returns] at h; cases h)
    refine ⟨_, _, pre23 _ ?_, hrun, hended, _, _, rfl, ?_, ?_, hRE.1, hRE.2.1, hRE.2.2.1, hRE.2.2.2.mono (by decide) (by decide)⟩
    · show SS p e below m s₁ 27 #[vi p1, vi p2, vi p3, vi p4, vi (1 : Int32), vi x0, vi x1, un, un, un, un] [(.int x2)] _
      refine XS.istore X0.here hx rfl (hb hby at_27) rfl (l' := #[vi p1, vi p2, vi p3, vi p4, vi (1 : Int32), vi x0, vi x1, vi x2, un, un, un]) rfl ?_
      show SS p e below m s₁ 29 #[vi p1, vi p2, vi p3, vi p4, vi (1 : Int32), vi x0, vi x1, vi x2, un, un, un] [] _
      refine XS.iload X0.here hx rfl (hb hby at_29) rfl ?_
      show SS p e below m s₁ 31 #[vi p1, vi p2, vi p3, vi p4, vi (1 : Int32), vi x0, vi x1, vi x2, un, un, un] [(.int (1 : Int32))] _
      refine XS.ifYes X0.here hx rfl (pc0 := 31) (pc' := 42) rfl (hb hby at_31) rfl ((if0 _ _).trans (feq (by decide)).2) (by decide) (by decide) ?_
      show SS p e below m s₁ 42 #[vi p1, vi p2, vi p3, vi p4, vi (1 : Int32), vi x0, vi x1, vi x2, un, un, un] [] _
      refine XS.iload X0.here hx rfl (hb hby at_42) rfl ?_
      show SS p e below m s₁ 44 #[vi p1, vi p2, vi p3, vi p4, vi (1 : Int32), vi x0, vi x1, vi x2, un, un, un] [(.int (1 : Int32))] _
      refine XS.iconst X0.here hx rfl (hb hby at_44) ?_
      show SS p e below m s₁ 45 #[vi p1, vi p2, vi p3, vi p4, vi (1 : Int32), vi x0, vi x1, vi x2, un, un, un] [(.int (1 : Int32)), (.int (1 : Int32))] _
      refine XS.icmpNo X0.here hx rfl (hb hby at_45) rfl (teq (by decide)).2 ?_
      show SS p e below m s₁ 48 #[vi p1, vi p2, vi p3, vi p4, vi (1 : Int32), vi x0, vi x1, vi x2, un, un, un] [] _
      refine XS.iconst X0.here hx rfl (hb hby at_48) ?_
      show SS p e below m s₁ 49 #[vi p1, vi p2, vi p3, vi p4, vi (1 : Int32), vi x0, vi x1, vi x2, un, un, un] [(.int (1 : Int32))] _
      refine st24 _ ?_
      show SS p e below m T24 51 #[vi p1, vi p2, vi p3, vi p4, vi (1 : Int32), vi x0, vi x1, vi x2, un, un, un] [(.ref b24)] _
      refine XS.dup X24.here hx rfl (hb hby at_51) rfl rfl ?_
      show SS p e below m T24 52 #[vi p1, vi p2, vi p3, vi p4, vi (1 : Int32), vi x0, vi x1, vi x2, un, un, un] [(.ref b24), (.ref b24)] _
      refine XS.iconst X24.here hx rfl (hb hby at_52) ?_
      show SS p e below m T24 53 #[vi p1, vi p2, vi p3, vi p4, vi (1 : Int32), vi x0, vi x1, vi x2, un, un, un] [(.int (0 : Int32)), (.ref b24), (.ref b24)] _
      refine XS.iload X24.here hx rfl (hb hby at_53) rfl ?_
      show SS p e below m T24 55 #[vi p1, vi p2, vi p3, vi p4, vi (1 : Int32), vi x0, vi x1, vi x2, un, un, un] [(.int x0), (.int (0 : Int32)), (.ref b24), (.ref b24)] _
      refine st26 _ ?_
      show SS p e below m T26 56 #[vi p1, vi p2, vi p3, vi p4, vi (1 : Int32), vi x0, vi x1, vi x2, un, un, un] [(.ref b24)] _
      refine XS.astore X26.here hx rfl (hb hby at_56) rfl rfl (l' := #[vi p1, vi p2, vi p3, vi p4, vi (1 : Int32), vi x0, vi x1, vi x2, vr b24, un, un]) rfl ?_
      show SS p e below m T26 58 #[vi p1, vi p2, vi p3, vi p4, vi (1 : Int32), vi x0, vi x1, vi x2, vr b24, un, un] [] _
      refine XS.goto X26.here hx rfl (pc0 := 58) (pc' := 105) rfl (hb hby at_58) (by decide) (by decide) ?_
      show SS p e below m T26 105 #[vi p1, vi p2, vi p3, vi p4, vi (1 : Int32), vi x0, vi x1, vi x2, vr b24, un, un] [] _
      refine st27 _ ?_
      show SS p e below m T27 131 #[vi p1, vi p2, vi p3, vi p4, vi (1 : Int32), vi x0, vi x1, vi x2, vr b24, un, un] [] _
      refine st28 _ ?_
      show SS p e below m T28 134 #[vi p1, vi p2, vi p3, vi p4, vi (1 : Int32), vi x0, vi x1, vi x2, vr b24, un, un] [(.ref b28)] _
      refine XS.dup X28.here hx rfl (hb hby at_134) rfl rfl ?_
      show SS p e below m T28 135 #[vi p1, vi p2, vi p3, vi p4, vi (1 : Int32), vi x0, vi x1, vi x2, vr b24, un, un] [(.ref b28), (.ref b28)] _
      refine XS.aload X28.here hx rfl (hb hby at_135) rfl rfl ?_
      show SS p e below m T28 137 #[vi p1, vi p2, vi p3, vi p4, vi (1 : Int32), vi x0, vi x1, vi x2, vr b24, un, un] [(.ref b24), (.ref b28), (.ref b28)] _
      refine st29.trans ?_
      show SS p e below m T29 140 #[vi p1, vi p2, vi p3, vi p4, vi (1 : Int32), vi x0, vi x1, vi x2, vr b24, un, un] [(.ref b28)] _
      refine XS.astore X29.here hx rfl (hb hby at_140) rfl rfl (l' := #[vi p1, vi p2, vi p3, vi p4, vi (1 : Int32), vi x0, vi x1, vi x2, vr b24, vr b28, un]) rfl ?_
      show SS p e below m T29 142 #[vi p1, vi p2, vi p3, vi p4, vi (1 : Int32), vi x0, vi x1, vi x2, vr b24, vr b28, un] [] _
      refine XS.aload X29.here hx rfl (hb hby at_142) rfl rfl ?_
      show SS p e below m T29 144 #[vi p1, vi p2, vi p3, vi p4, vi (1 : Int32), vi x0, vi x1, vi x2, vr b24, vr b28, un] [(.ref b28)] _
      refine st30.trans ?_
      show SS p e below m T30 147 #[vi p1, vi p2, vi p3, vi p4, vi (1 : Int32), vi x0, vi x1, vi x2, vr b24, vr b28, un] [(.ref b30_e0)] _
      refine XS.astore X30.here hx rfl (hb hby at_147) rfl rfl (l' := #[vi p1, vi p2, vi p3, vi p4, vi (1 : Int32), vi x0, vi x1, vi x2, vr b24, vr b28, vr b30_e0]) rfl ?_
      show SS p e below m T30 149 #[vi p1, vi p2, vi p3, vi p4, vi (1 : Int32), vi x0, vi x1, vi x2, vr b24, vr b28, vr b30_e0] [] _
      refine XS.aload X30.here hx rfl (hb hby at_149) rfl rfl ?_
      show SS p e below m T30 151 #[vi p1, vi p2, vi p3, vi p4, vi (1 : Int32), vi x0, vi x1, vi x2, vr b24, vr b28, vr b30_e0] [(.ref b30_e0)] _
      refine XS.ifnullNo X30.here hx rfl (hb hby at_151) rfl ?_
      show SS p e below m T30 154 #[vi p1, vi p2, vi p3, vi p4, vi (1 : Int32), vi x0, vi x1, vi x2, vr b24, vr b28, vr b30_e0] [] _
      refine XS.aload X30.here hx rfl (hb hby at_154) rfl rfl ?_
      show SS p e below m T30 156 #[vi p1, vi p2, vi p3, vi p4, vi (1 : Int32), vi x0, vi x1, vi x2, vr b24, vr b28, vr b30_e0] [(.ref b30_e0)] _
      refine st31.trans ?_
      show SS p e below m T31 159 #[vi p1, vi p2, vi p3, vi p4, vi (1 : Int32), vi x0, vi x1, vi x2, vr b24, vr b28, vr b30_e0] [(.ref sA_30)] _
      refine XS.aload X31.here hx rfl (hb hby at_159) rfl rfl ?_
      show SS p e below m T31 161 #[vi p1, vi p2, vi p3, vi p4, vi (1 : Int32), vi x0, vi x1, vi x2, vr b24, vr b28, vr b30_e0] [(.ref b28), (.ref sA_30)] _
      refine st32 _ ?_
      show SS p e below m T32 163 #[vi p1, vi p2, vi p3, vi p4, vi (1 : Int32), vi x0, vi x1, vi x2, vr b24, vr b28, vr b30_e0] [(.ref sa32), (.ref b28), (.ref sA_30)] _
      refine st33 _ ?_
      show SS p e below m T33 166 #[vi p1, vi p2, vi p3, vi p4, vi (1 : Int32), vi x0, vi x1, vi x2, vr b24, vr b28, vr b30_e0] [(.int (1 : Int32))] _
      refine XS.ifNo X33.here hx rfl (hb hby at_166) rfl ((if0 _ _).trans (feq (by decide)).1) ?_
      show SS p e below m T33 169 #[vi p1, vi p2, vi p3, vi p4, vi (1 : Int32), vi x0, vi x1, vi x2, vr b24, vr b28, vr b30_e0] [] _
      refine XS.aload X33.here hx rfl (hb hby at_169) rfl rfl ?_
      show SS p e below m T33 171 #[vi p1, vi p2, vi p3, vi p4, vi (1 : Int32), vi x0, vi x1, vi x2, vr b24, vr b28, vr b30_e0] [(.ref b30_e0)] _
      refine st34.trans ?_
      show SS p e below m T34 174 #[vi p1, vi p2, vi p3, vi p4, vi (1 : Int32), vi x0, vi x1, vi x2, vr b24, vr b28, vr b30_e0] [(.ref sB_30)] _
      refine XS.aload X34.here hx rfl (hb hby at_174) rfl rfl ?_
      show SS p e below m T34 176 #[vi p1, vi p2, vi p3, vi p4, vi (1 : Int32), vi x0, vi x1, vi x2, vr b24, vr b28, vr b30_e0] [(.ref b28), (.ref sB_30)] _
      refine st35 _ ?_
      show SS p e below m T35 178 #[vi p1, vi p2, vi p3, vi p4, vi (1 : Int32), vi x0, vi x1, vi x2, vr b24, vr b28, vr b30_e0] [(.ref sa35), (.ref b28), (.ref sB_30)] _
      refine st36 _ ?_
      show SS p e below m T36 181 #[vi p1, vi p2, vi p3, vi p4, vi (1 : Int32), vi x0, vi x1, vi x2, vr b24, vr b28, vr b30_e0] [(.int (1 : Int32))] _
      refine XS.ifNo X36.here hx rfl (hb hby at_181) rfl ((if0 _ _).trans (feq (by decide)).1) ?_
      show SS p e below m T36 184 #[vi p1, vi p2, vi p3, vi p4, vi (1 : Int32), vi x0, vi x1, vi x2, vr b24, vr b28, vr b30_e0] [] _
      refine XS.aload X36.here hx rfl (hb hby at_184) rfl rfl ?_
      show SS p e below m T36 186 #[vi p1, vi p2, vi p3, vi p4, vi (1 : Int32), vi x0, vi x1, vi x2, vr b24, vr b28, vr b30_e0] [(.ref b30_e0)] _
      refine st37.trans ?_
      show SS p e below m T37 189 #[vi p1, vi p2, vi p3, vi p4, vi (1 : Int32), vi x0, vi x1, vi x2, vr b24, vr b28, vr b30_e0] [(.ref sC_30)] _
      refine XS.aload X37.here hx rfl (hb hby at_189) rfl rfl ?_
      show SS p e below m T37 191 #[vi p1, vi p2, vi p3, vi p4, vi (1 : Int32), vi x0, vi x1, vi x2, vr b24, vr b28, vr b30_e0] [(.ref b28), (.ref sC_30)] _
      refine st38 _ ?_
      show SS p e below m T38 193 #[vi p1, vi p2, vi p3, vi p4, vi (1 : Int32), vi x0, vi x1, vi x2, vr b24, vr b28, vr b30_e0] [(.ref sa38), (.ref b28), (.ref sC_30)] _
      refine st39 _ ?_
      show SS p e below m T39 196 #[vi p1, vi p2, vi p3, vi p4, vi (1 : Int32), vi x0, vi x1, vi x2, vr b24, vr b28, vr b30_e0] [(.int (1 : Int32))] _
      refine XS.ifNo X39.here hx rfl (hb hby at_196) rfl ((if0 _ _).trans (feq (by decide)).1) ?_
      show SS p e below m T39 199 #[vi p1, vi p2, vi p3, vi p4, vi (1 : Int32), vi x0, vi x1, vi x2, vr b24, vr b28, vr b30_e0] [] _
      refine XS.aload X39.here hx rfl (hb hby at_199) rfl rfl ?_
      show SS p e below m T39 201 #[vi p1, vi p2, vi p3, vi p4, vi (1 : Int32), vi x0, vi x1, vi x2, vr b24, vr b28, vr b30_e0] [(.ref b30_e0)] _
      refine st40.trans ?_
      show SS p e below m T40 204 #[vi p1, vi p2, vi p3, vi p4, vi (1 : Int32), vi x0, vi x1, vi x2, vr b24, vr b28, vr b30_e0] [(.ref sD_30)] _
      refine XS.aload X40.here hx rfl (hb hby at_204) rfl rfl ?_
      show SS p e below m T40 206 #[vi p1, vi p2, vi p3, vi p4, vi (1 : Int32), vi x0, vi x1, vi x2, vr b24, vr b28, vr b30_e0] [(.ref b28), (.ref sD_30)] _
      refine st41 _ ?_
      show SS p e below m T41 208 #[vi p1, vi p2, vi p3, vi p4, vi (1 : Int32), vi x0, vi x1, vi x2, vr b24, vr b28, vr b30_e0] [(.ref sa41), (.ref b28), (.ref sD_30)] _
      refine st42 _ ?_
      show SS p e below m T42 211 #[vi p1, vi p2, vi p3, vi p4, vi (1 : Int32), vi x0, vi x1, vi x2, vr b24, vr b28, vr b30_e0] [(.int (1 : Int32))] _
      refine XS.ifNo X42.here hx rfl (hb hby at_211) rfl ((if0 _ _).trans (feq (by decide)).1) ?_
      show SS p e below m T42 214 #[vi p1, vi p2, vi p3, vi p4, vi (1 : Int32), vi x0, vi x1, vi x2, vr b24, vr b28, vr b30_e0] [] _
      refine XS.iconst X42.here hx rfl (hb hby at_214) ?_
      show SS p e below m T42 215 #[vi p1, vi p2, vi p3, vi p4, vi (1 : Int32), vi x0, vi x1, vi x2, vr b24, vr b28, vr b30_e0] [(.int (1 : Int32))] _
      refine XS.goto X42.here hx rfl (pc0 := 215) (pc' := 219) rfl (hb hby at_215) (by decide) (by decide) ?_
      show SS p e below m T42 219 #[vi p1, vi p2, vi p3, vi p4, vi (1 : Int32), vi x0, vi x1, vi x2, vr b24, vr b28, vr b30_e0] [(.int (1 : Int32))] _
      exact retN X42 hx (t := .boolean) Bd.returns (by simp) (hb hby at_219) hr
    · show Q_rm0 Z p1 p2 p3 p4 zc fm h0 n0 _ T42.heap _
      rw [e42]
      exact ⟨rfl, N42, KC⟩
    · show CHr Z EL s.vm s.heap T42.vm T42.heap
      rw [hh, e42]
      exact hC.trans (CHv.at X42 hZ hEL hC.1)
  · rw [hc] at pre1
    obtain ⟨x0, ex0, hx0, nx0, hb0⟩ := own_x p2
    have pre43 : ∀ t, Steps p.tables e below (s₁.setTop (mkF m 11 #[vi p1, vi p2, vi p3, vi p4, vi (2 : Int32), un, un, un, un, un, un] [(.int ((p2 &&& (255 : Int32)).toUInt32.toUInt16.toUInt32.toInt32))])) t → Steps p.tables e below (s₁.setTop (entryFrame m #[(.int p1), (.int p2), (.int p3), (.int p4)] maxLocals)) t := by
      intro t kt
      refine pre1 t ?_
      show SS p e below m s₁ 3 #[vi p1, vi p2, vi p3, vi p4, un, un, un, un, un, un, un] [(.int (2 : Int32))] _
      refine XS.istore X0.here hx rfl (hb hby at_3) rfl (l' := #[vi p1, vi p2, vi p3, vi p4, vi (2 : Int32), un, un, un, un, un, un]) rfl ?_
      show SS p e below m s₁ 5 #[vi p1, vi p2, vi p3, vi p4, vi (2 : Int32), un, un, un, un, un, un] [] _
      refine XS.iloadN X0.here hx rfl (hb hby at_5) rfl ?_
      show SS p e below m s₁ 6 #[vi p1, vi p2, vi p3, vi p4, vi (2 : Int32), un, un, un, un, un, un] [(.int p2)] _
      refine XS.sipush X0.here hx rfl (hb hby at_6) ?_
      show SS p e below m s₁ 9 #[vi p1, vi p2, vi p3, vi p4, vi (2 : Int32), un, un, un, un, un, un] [(.int (255 : Int32)), (.int p2)] _
      refine XS.iand X0.here hx rfl (hb hby at_9) rfl ?_
      show SS p e below m s₁ 10 #[vi p1, vi p2, vi p3, vi p4, vi (2 : Int32), un, un, un, un, un, un] [(.int (p2 &&& (255 : Int32)))] _
      refine XS.i2c X0.here hx rfl (hb hby at_10) rfl ?_
      exact kt
    rw [ex0] at pre43
    obtain ⟨x1, ex1, hx1, nx1, hb1⟩ := own_x p3
    have pre44 : ∀ t, Steps p.tables e below (s₁.setTop (mkF m 19 #[vi p1, vi p2, vi p3, vi p4, vi (2 : Int32), vi x0, un, un, un, un, un] [(.int ((p3 &&& (255 : Int32)).toUInt32.toUInt16.toUInt32.toInt32))])) t → Steps p.tables e below (s₁.setTop (entryFrame m #[(.int p1), (.int p2), (.int p3), (.int p4)] maxLocals)) t := by
      intro t kt
      refine pre43 t ?_
      show SS p e below m s₁ 11 #[vi p1, vi p2, vi p3, vi p4, vi (2 : Int32), un, un, un, un, un, un] [(.int x0)] _
      refine XS.istore X0.here hx rfl (hb hby at_11) rfl (l' := #[vi p1, vi p2, vi p3, vi p4, vi (2 : Int32), vi x0, un, un, un, un, un]) rfl ?_
      show SS p e below m s₁ 13 #[vi p1, vi p2, vi p3, vi p4, vi (2 : Int32), vi x0, un, un, un, un, un] [] _
      refine XS.iloadN X0.here hx rfl (hb hby at_13) rfl ?_
      show SS p e below m s₁ 14 #[vi p1, vi p2, vi p3, vi p4, vi (2 : Int32), vi x0, un, un, un, un, un] [(.int p3)] _
      refine XS.sipush X0.here hx rfl (hb hby at_14) ?_
      show SS p e below m s₁ 17 #[vi p1, vi p2, vi p3, vi p4, vi (2 : Int32), vi x0, un, un, un, un, un] [(.int (255 : Int32)), (.int p3)] _
      refine XS.iand X0.here hx rfl (hb hby at_17) rfl ?_
      show SS p e below m s₁ 18 #[vi p1, vi p2, vi p3, vi p4, vi (2 : Int32), vi x0, un, un, un, un, un] [(.int (p3 &&& (255 : Int32)))] _
      refine XS.i2c X0.here hx rfl (hb hby at_18) rfl ?_
      exact kt
    rw [ex1] at pre44
    obtain ⟨x2, ex2, hx2, nx2, hb2⟩ := own_x p4
    have pre45 : ∀ t, Steps p.tables e below (s₁.setTop (mkF m 27 #[vi p1, vi p2, vi p3, vi p4, vi (2 : Int32), vi x0, vi x1, un, un, un, un] [(.int ((p4 &&& (255 : Int32)).toUInt32.toUInt16.toUInt32.toInt32))])) t → Steps p.tables e below (s₁.setTop (entryFrame m #[(.int p1), (.int p2), (.int p3), (.int p4)] maxLocals)) t := by
      intro t kt
      refine pre44 t ?_
      show SS p e below m s₁ 19 #[vi p1, vi p2, vi p3, vi p4, vi (2 : Int32), vi x0, un, un, un, un, un] [(.int x1)] _
      refine XS.istore X0.here hx rfl (hb hby at_19) rfl (l' := #[vi p1, vi p2, vi p3, vi p4, vi (2 : Int32), vi x0, vi x1, un, un, un, un]) rfl ?_
      show SS p e below m s₁ 21 #[vi p1, vi p2, vi p3, vi p4, vi (2 : Int32), vi x0, vi x1, un, un, un, un] [] _
      refine XS.iloadN X0.here hx rfl (hb hby at_21) rfl ?_
      show SS p e below m s₁ 22 #[vi p1, vi p2, vi p3, vi p4, vi (2 : Int32), vi x0, vi x1, un, un, un, un] [(.int p4)] _
      refine XS.sipush X0.here hx rfl (hb hby at_22) ?_
      show SS p e below m s₁ 25 #[vi p1, vi p2, vi p3, vi p4, vi (2 : Int32), vi x0, vi x1, un, un, un, un] [(.int (255 : Int32)), (.int p4)] _
      refine XS.iand X0.here hx rfl (hb hby at_25) rfl ?_
      show SS p e below m s₁ 26 #[vi p1, vi p2, vi p3, vi p4, vi (2 : Int32), vi x0, vi x1, un, un, un, un] [(.int (p4 &&& (255 : Int32)))] _
      refine XS.i2c X0.here hx rfl (hb hby at_26) rfl ?_
      exact kt
    rw [ex2] at pre45
    obtain ⟨T46, h46, k46, X46, e46, E46, A46, st46⟩ := newP X0 hx hZ (ww hw 0 rfl) e0 (g := (mkF m 68 #[vi p1, vi p2, vi p3, vi p4, vi (2 : Int32), vi x0, vi x1, vi x2, un, un, un] [(.int (2 : Int32))])) rfl (hb hby at_68) rfl (by decide) (cap := 2) (by decide) (by decide) (by decide) (by decide)
    obtain ⟨b46, g46⟩ : ∃ z, z = h0.size := ⟨_, rfl⟩
    rw [← g46] at A46 st46
    have g_b46 : n0 ≤ b46 := Nat.le_trans (Nat.le_trans Z0 KC.1) (Nat.le_of_eq g46.symm)
    have sz_b46 : h0.size ≤ b46 := Nat.le_trans KC.1 (Nat.le_of_eq g46.symm)
    replace hk := Nat.le_trans hk E46.1
    replace hC := hC.trans (CHr.ext E46 hC.1)
    replace O0 := O0.ext E46
    replace KC := KC.ext E46
    have V_b46 : Arv Z h46 b46 k46 .char (2 : Int32) [(.int (0 : Int32)), (.int (0 : Int32))] (.int (0 : Int32)) := (Arv.new A46 (by decide)).pad (pad_rep [] (.int (0 : Int32)) 2)
    have Vo47 := V_b46
    obtain ⟨cl47, Ar47, q47, Sz47, Nn47, Hh47, Gg47⟩ := Vo47
    have hin47 : ¬ ((0 : Int32) < 0 ∨ cl47.slots.size ≤ ((0 : Int32)).toNatClampNeg) := inb_of Sz47 ⟨by decide, by decide⟩
    obtain ⟨T48, h48, X48, e48, W48, st48⟩ := stC X46 hx hZ e46 Ar47 (j := (0 : Int32)) hin47 (g := (mkF m 74 #[vi p1, vi p2, vi p3, vi p4, vi (2 : Int32), vi x0, vi x1, vi x2, un, un, un] [(.int x0), (.int (0 : Int32)), (.ref b46), (.ref b46)])) rfl rfl (hb hby at_74)
    have Vn48 := Arv.set Ar47 q47 Sz47 Nn47 Hh47 Gg47 (fits_nar_char _) W48 (0) rfl (Nat.le_of_ble_eq_true rfl)
    have N48 := Fr.snoc X48 N0 g_b46
    have Vm48 : Arv Z h48 b46 k46 .char (2 : Int32) [(.int x0), (.int (0 : Int32))] (.int (0 : Int32)) := by have hh := Vn48; rw [nx0] at hh; exact hh
    have SfA48 := (Safe.arv (EL := EL) hZ.alike V_b46 (by decide))
    replace hk := Nat.le_trans hk (Keep.of_wr W48).1
    replace hC := hC.trans (CHr.wr W48 SfA48 hC.1)
    replace O0 := O0.wr W48 g_b46
    replace KC := KC.wr W48 (Or.inr sz_b46)
    have Vo49 := Vm48
    obtain ⟨cl49, Ar49, q49, Sz49, Nn49, Hh49, Gg49⟩ := Vo49
    have hin49 : ¬ ((1 : Int32) < 0 ∨ cl49.slots.size ≤ ((1 : Int32)).toNatClampNeg) := inb_of Sz49 ⟨by decide, by decide⟩
    obtain ⟨T50, h50, X50, e50, W50, st50⟩ := stC X48 hx hZ e48 Ar49 (j := (1 : Int32)) hin49 (g := (mkF m 79 #[vi p1, vi p2, vi p3, vi p4, vi (2 : Int32), vi x0, vi x1, vi x2, un, un, un] [(.int x1), (.int (1 : Int32)), (.ref b46), (.ref b46)])) rfl rfl (hb hby at_79)
    have Vn50 := Arv.set Ar49 q49 Sz49 Nn49 Hh49 Gg49 (fits_nar_char _) W50 (1) rfl (Nat.le_of_ble_eq_true rfl)
    have N50 := Fr.snoc X50 N48 g_b46
    have Vm50 : Arv Z h50 b46 k46 .char (2 : Int32) [(.int x0), (.int x1)] (.int (0 : Int32)) := by have hh := Vn50; rw [nx1] at hh; exact hh
    have SfA50 := (Safe.arv (EL := EL) hZ.alike Vm48 (by decide))
    replace hk := Nat.le_trans hk (Keep.of_wr W50).1
    replace hC := hC.trans (CHr.wr W50 SfA50 hC.1)
    replace O0 := O0.wr W50 g_b46
    replace KC := KC.wr W50 (Or.inr sz_b46)
    obtain ⟨T51, h51, L51, y0_51, X51, e51, N51, K51, V_cs_51, hq51_0, hq51_1, st51⟩ := rsg2 hw X50 hx hZ hby hml hown p1 p2 p3 p4 x0 x1 x2 b46 k46 x0 x1 h50 n0 e50 (Nat.le_trans Z0 KC.1) O0 N50 Vm50 g_b46 hx1 hb1 (by decide) (by decide) (by decide) (by decide)
    replace hk := Nat.le_trans hk K51.1
    replace hC := hC.trans (CHr.keep K51 (sfS (Safe.arv (EL := EL) hZ.alike Vm50 (by decide)) sf0) hC.1)
    replace O0 := O0.keep K51 (allS g_b46 all0)
    replace KC := KC.trans K51 (allS (Or.inr sz_b46) all0)
    obtain ⟨T52, h52, X52, e52, E52, A52, D52, -, st52⟩ := newO X51 hx hZ hown (ww hw 1 rfl) (ww hw 2 rfl) (ww hw 3 rfl) e51 (g := (mkF m 131 #[vi p1, vi p2, vi p3, vi p4, vi (2 : Int32), vi x0, vi x1, vi x2, vr b46, un, un] [])) rfl (hb hby at_131) (by decide) (by decide)
    obtain ⟨b52, g52⟩ : ∃ z, z = h51.size := ⟨_, rfl⟩
    rw [← g52] at A52 D52 st52
    have ne_b46_b52 : b46 ≠ b52 := Nat.ne_of_lt (Nat.lt_of_lt_of_le V_cs_51.lt (Nat.le_of_eq g52.symm))
    have g_b52 : n0 ≤ b52 := Nat.le_trans (Nat.le_trans Z0 KC.1) (Nat.le_of_eq g52.symm)
    have sz_b52 : h0.size ≤ b52 := Nat.le_trans KC.1 (Nat.le_of_eq g52.symm)
    replace hk := Nat.le_trans hk E52.1
    replace hC := hC.trans (CHr.ext E52 hC.1)
    replace V_cs_51 := V_cs_51.ext E52
    replace O0 := O0.ext E52
    replace KC := KC.ext E52
    have F_value_b52 : Fld Z h52 b52 "java/lang/String" "value" "[B" .null := D52 (Or.inr (ww hw 16 rfl)) (ty := (.array .byte)) (by decide)
    have F_coder_b52 : Fld Z h52 b52 "java/lang/String" "coder" "B" (.int (0 : Int32)) := D52 (Or.inr (ww hw 17 rfl)) (ty := .byte) (by decide)
    obtain ⟨_, _, ⟨T53, L53, kz53, nz53⟩, -, X53, ⟨Lc53, hQ53, l53, y53, z53⟩, st53⟩ := X52.specialBack hx (y := y_28) rfl hown (mvT hZ (ww hw 4 rfl)) (mvT hZ (ww hw 5 rfl)) (mvT hZ (ww hw 6 rfl)) (by decide) (backOf (W := 1) (rm_i12 l Z a0 hw [] b52 b46 k46 x0 y0_51 zc h52 n0 (Nat.le_trans Z0 KC.1) O0 F_value_b52 F_coder_b52 A52 g_b52 V_cs_51 S_CS hz hx0 hq51_0) hZ (ww hw 6 rfl) (ww hw 3 rfl) (by decide) (by decide)) (g := (mkF m 137 #[vi p1, vi p2, vi p3, vi p4, vi (2 : Int32), vi x0, vi x1, vi x2, vr b46, un, un] [(.ref b46), (.ref b52), (.ref b52)])) rfl (by rw [hml]; rfl) (Steps.refl _) (a := b52) (argsL := [(.ref b46)]) (rest := [(.ref b52)]) (lenOf pd_30 rfl) rfl (by show 2 * 0 + _ ≤ _; exact Nat.le_of_eq rfl) (hb hby at_137) (fun _ _ => ⟨rfl, e52, (by decide : 2 + 1 ≤ _), (by decide : 6 + 2 ≤ _)⟩)
    dsimp only [Pt.U, Pt.locs, Pt.cells, Pt.slots] at X53 l53 y53 z53 st53 hQ53
    subst l53 y53 z53
    obtain ⟨b53_tz, kb_53, rfl, N53q, K53, sz_b53_tz, F_value_a1_53, F_coder_a1_53, V_tz_53⟩ := hQ53
    have N53 := Fr.app N51 N53q
    have Sf_b53_tz : Safe Z EL s.vm h52 b53_tz := Safe.new sz_b53_tz
    have ne_b46_b53_tz : b46 ≠ b53_tz := Nat.ne_of_lt (Nat.lt_of_lt_of_le V_cs_51.lt sz_b53_tz)
    have ne_b52_b53_tz : b52 ≠ b53_tz := Nat.ne_of_lt (Nat.lt_of_lt_of_le A52.lt sz_b53_tz)
    have g_b53_tz : n0 ≤ b53_tz := Nat.le_trans (Nat.le_trans Z0 KC.1) sz_b53_tz
    replace sz_b53_tz : h0.size ≤ b53_tz := Nat.le_trans KC.1 sz_b53_tz
    have hsf53 := (sfS (own_safe (EL := EL) hZ.alike A52 F_value_b52) sf0)
    replace Sf_b53_tz := Safe.keep K53 hsf53 hC.1 Sf_b53_tz
    replace hk := Nat.le_trans hk K53.1
    replace hC := hC.trans (CHr.keep K53 hsf53 hC.1)
    replace V_cs_51 := V_cs_51.keep K53 (ninS ne_b46_b52 nin0)
    replace A52 := A52.keep K53
    replace O0 := O0.keep K53 (allS g_b52 all0)
    replace KC := KC.trans K53 (allS (Or.inr sz_b52) all0)
    obtain ⟨_, _, ⟨T54, L54, kz54, nz54⟩, -, X54, hS54, gr54, ⟨Lc54, hQ54, l54, y54, z54, C54⟩, st54⟩ := callSS X53 hx (y := y_43) hown (mvT hZ (ww hw 22 rfl)) (mvT hZ (ww hw 23 rfl)) (mvT hZ (ww hw 24 rfl)) (mvT hZ (ww hw 25 rfl)) (by decide) (backOfSH (W := 0) (rm_und l Z a0 hw [] b52 b53_tz kb_53 (2 : Int32) [(.int (own_b x0)), (.int (own_b y0_51))] [(.int (own_b x0)), (.int (own_b y0_51)), nO, nO, nO, nO, nO, nO, nO, nO, nO, nO, nO, nO, nO, nO] [(.int (own_b x0)), (.int (own_b y0_51)), (.int (47 : Int32)), (.int (105 : Int32)), (.int (100 : Int32)), (.int (112 : Int32)), nO, nO, nO, nO, nO, nO, nO, nO, nO, nO] (6 : Int32) [(.int (own_b x0)), (.int (own_b y0_51)), (.int (47 : Int32)), (.int (105 : Int32)), (.int (100 : Int32)), (.int (112 : Int32)), nO, nO, nO, nO, nO, nO, nO, nO, nO, nO] [(.int (own_b x0)), (.int (own_b y0_51)), (.int (47 : Int32)), (.int (109 : Int32)), (.int (101 : Int32)), (.int (116 : Int32)), (.int (97 : Int32)), (.int (100 : Int32)), (.int (97 : Int32)), (.int (116 : Int32)), (.int (97 : Int32)), nO, nO, nO, nO, nO] (11 : Int32) [(.int (own_b x0)), (.int (own_b y0_51)), (.int (47 : Int32)), (.int (109 : Int32)), (.int (101 : Int32)), (.int (116 : Int32)), (.int (97 : Int32)), (.int (100 : Int32)), (.int (97 : Int32)), (.int (116 : Int32)), (.int (97 : Int32)), nO, nO, nO, nO, nO] [(.int (own_b x0)), (.int (own_b y0_51)), (.int (47 : Int32)), (.int (115 : Int32)), (.int (115 : Int32)), (.int (111 : Int32)), nO, nO, nO, nO, nO, nO, nO, nO, nO, nO] (6 : Int32) [(.int (own_b x0)), (.int (own_b y0_51)), (.int (47 : Int32)), (.int (115 : Int32)), (.int (115 : Int32)), (.int (111 : Int32)), nO, nO, nO, nO, nO, nO, nO, nO, nO, nO] [(.int (own_b x0)), (.int (own_b y0_51)), (.int (47 : Int32)), (.int (115 : Int32)), (.int (108 : Int32)), (.int (111 : Int32)), nO, nO, nO, nO, nO, nO, nO, nO, nO, nO] (6 : Int32) [(.int (own_b x0)), (.int (own_b y0_51)), (.int (47 : Int32)), (.int (115 : Int32)), (.int (108 : Int32)), (.int (111 : Int32)), nO, nO, nO, nO, nO, nO, nO, nO, nO, nO] zc T53.heap n0 (Nat.le_trans Z0 KC.1) O0 A52 F_value_a1_53 F_coder_a1_53 V_tz_53 S_CS hz (Or.inr (Or.inr (Or.inl ⟨rfl, _, rfl, hq51_1⟩))) (by decide) (by decide) rfl (by decide) (by decide) (Nat.le_of_ble_eq_true rfl) rfl (by decide) (by decide) (by decide) (by decide) (by decide) rfl (by decide) (Nat.le_of_ble_eq_true rfl) rfl (by decide) (by decide) (by decide) (by decide) (by decide) rfl (by decide) (Nat.le_of_ble_eq_true rfl) rfl (by decide) (by decide) (by decide) (by decide) (by decide) rfl (by decide) (Nat.le_of_ble_eq_true rfl) rfl (by decide) (by decide) (by decide) (by decide) (by decide) rfl) hZ (ww hw 25 rfl) (ww hw 24 rfl) (by decide) (by decide) hEL hC.1) (g := (mkF m 144 #[vi p1, vi p2, vi p3, vi p4, vi (2 : Int32), vi x0, vi x1, vi x2, vr b46, vr b52, un] [(.ref b52)])) rfl (by rw [hml]; rfl) (argsL := [(.ref b52)]) (rest := []) (lenOf pd_31 rfl) rfl (by show 2 * 0 + _ ≤ _; exact Nat.le_of_eq rfl) (hb hby at_144) (fun _ _ => ⟨rfl, rfl, (by decide : 3 + 27 ≤ _), (by decide : 8 + 272 ≤ _)⟩)
    dsimp only [Pt.U, Pt.locs, Pt.cells, Pt.slots] at X54 l54 y54 z54 st54 hQ54 hS54 gr54 C54
    subst l54 y54 z54
    replace Sf_b53_tz := C54.safe V_tz_53.lt Sf_b53_tz
    obtain ⟨Xr54, hSr54, hZr54, hownr54⟩ := rebS hS hk X54 hS54 gr54 hZ hown
    replace hC := hC.trans C54
    replace hZ := hZr54
    replace hown := hownr54
    replace hS := hSr54
    replace hk : T54.heap.size ≤ T54.heap.size := Nat.le_refl _
    replace X54 := Xr54
    obtain ⟨b54_e0, sA_54, tA_54, kA_54, sB_54, tB_54, kB_54, sC_54, tC_54, kC_54, sD_54, tD_54, kD_54, rfl, N54q, K54, sz_b54_e0, E_e0_54, F_entityId_e0_54, F_metadata_e0_54, F_singleSignOn_e0_54, F_singleLogout_e0_54, E_sA_54, F_value_sA_54, F_coder_sA_54, V_tA_54, E_sB_54, F_value_sB_54, F_coder_sB_54, V_tB_54, E_sC_54, F_value_sC_54, F_coder_sC_54, V_tC_54, E_sD_54, F_value_sD_54, F_coder_sD_54, V_tD_54⟩ := hQ54
    have N54 := Fr.app N53 N54q
    have ne_b46_b54_e0 : b46 ≠ b54_e0 := Nat.ne_of_lt (Nat.lt_of_lt_of_le V_cs_51.lt sz_b54_e0)
    have ne_b52_b54_e0 : b52 ≠ b54_e0 := Nat.ne_of_lt (Nat.lt_of_lt_of_le A52.lt sz_b54_e0)
    have ne_b53_tz_b54_e0 : b53_tz ≠ b54_e0 := Nat.ne_of_lt (Nat.lt_of_lt_of_le V_tz_53.lt sz_b54_e0)
    have g_b54_e0 : n0 ≤ b54_e0 := Nat.le_trans (Nat.le_trans Z0 KC.1) sz_b54_e0
    replace sz_b54_e0 : h0.size ≤ b54_e0 := Nat.le_trans KC.1 sz_b54_e0
    replace V_cs_51 := V_cs_51.keep K54 nin0
    replace A52 := A52.keep K54
    replace F_value_a1_53 := F_value_a1_53.keep K54 nin0
    replace F_coder_a1_53 := F_coder_a1_53.keep K54 nin0
    replace V_tz_53 := V_tz_53.keep K54 nin0
    replace O0 := O0.keep K54 all0
    replace KC := KC.trans K54 all0
    obtain ⟨cq55, kq55, q55a, q55b, q55c⟩ := isOf hZ rfl E_e0_54
    obtain ⟨_, _, ⟨T55, L55, kz55, nz55⟩, -, X55, ⟨Lc55, hQ55, l55, y55, z55⟩, st55⟩ := X54.virtualBack hx (y := y_39) (z := y_39) hown (mvT hZ (ww hw 172 rfl)) (mvT hZ (ww hw 173 rfl)) (notFace_of_selects (args := #[]) (mvT hZ (ww hw 175 rfl))) (mvT hZ (ww hw 175 rfl)) (mvT hZ (ww hw 174 rfl)) (by decide) (backOf (W := 0) (rm_get_entityId l Z a0 hw [] b54_e0 sA_54 T54.heap n0 (Nat.le_trans Z0 KC.1) O0 F_entityId_e0_54) hZ (ww hw 176 rfl) (ww hw 24 rfl) (by decide) (by decide)) q55a q55c (g := (mkF m 156 #[vi p1, vi p2, vi p3, vi p4, vi (2 : Int32), vi x0, vi x1, vi x2, vr b46, vr b52, vr b54_e0] [(.ref b54_e0)])) rfl (by rw [hml]; rfl) (Steps.refl _) (argsL := []) (rest := []) (lenOf pd_28 rfl) rfl (by show 2 * 0 + _ ≤ _; exact Nat.le_of_eq rfl) (hb hby at_156) (fun _ _ => ⟨rfl, rfl, (by decide : 30 + 0 ≤ _), (by decide : 280 + 0 ≤ _)⟩)
    dsimp only [Pt.U, Pt.locs, Pt.cells, Pt.slots] at X55 l55 y55 z55 st55 hQ55
    subst l55 y55 z55
    obtain ⟨rfl, N55q, e55⟩ := hQ55
    have N55 := Fr.app N54 N55q
    obtain ⟨sa56, T56, h56, kx56, sb56, kc56, X56, e56, E56, hS56, hk56, hZ56, hown56, Ex56, Fc56, Fv56, Vv56, -, -, C56, -, nx56, st56⟩ := ldcCH X55 hx hZ hown (ww hw 177 rfl) wS e55 hS hk hEL (by decide) hC.1 (vs := [(.int (47 : Int32)), (.int (105 : Int32)), (.int (100 : Int32)), (.int (112 : Int32))]) (z := (4 : Int32)) ⟨by decide, by first | rfl | decide⟩ (by decide) (by first | rfl | decide) (g := (mkF m 161 #[vi p1, vi p2, vi p3, vi p4, vi (2 : Int32), vi x0, vi x1, vi x2, vr b46, vr b52, vr b54_e0] [(.ref b52), (.ref sA_54)])) rfl (hb hby at_161) (n := 16) (by decide) (by decide) (by decide) (by decide)
    replace Sf_b53_tz := C56.safe V_tz_53.lt Sf_b53_tz
    replace V_cs_51 := V_cs_51.ext E56
    replace A52 := A52.ext E56
    replace F_value_a1_53 := F_value_a1_53.ext E56
    replace F_coder_a1_53 := F_coder_a1_53.ext E56
    replace V_tz_53 := V_tz_53.ext E56
    replace E_e0_54 := E_e0_54.ext E56
    replace F_entityId_e0_54 := F_entityId_e0_54.ext E56
    replace F_metadata_e0_54 := F_metadata_e0_54.ext E56
    replace F_singleSignOn_e0_54 := F_singleSignOn_e0_54.ext E56
    replace F_singleLogout_e0_54 := F_singleLogout_e0_54.ext E56
    replace E_sA_54 := E_sA_54.ext E56
    replace F_value_sA_54 := F_value_sA_54.ext E56
    replace F_coder_sA_54 := F_coder_sA_54.ext E56
    replace V_tA_54 := V_tA_54.ext E56
    replace E_sB_54 := E_sB_54.ext E56
    replace F_value_sB_54 := F_value_sB_54.ext E56
    replace F_coder_sB_54 := F_coder_sB_54.ext E56
    replace V_tB_54 := V_tB_54.ext E56
    replace E_sC_54 := E_sC_54.ext E56
    replace F_value_sC_54 := F_value_sC_54.ext E56
    replace F_coder_sC_54 := F_coder_sC_54.ext E56
    replace V_tC_54 := V_tC_54.ext E56
    replace E_sD_54 := E_sD_54.ext E56
    replace F_value_sD_54 := F_value_sD_54.ext E56
    replace F_coder_sD_54 := F_coder_sD_54.ext E56
    replace V_tD_54 := V_tD_54.ext E56
    replace O0 := O0.ext E56
    replace KC := KC.ext E56
    replace hC := hC.trans C56
    replace hZ := hZ56
    replace hown := hown56
    replace hS := hS56
    replace hk := hk56
    have nx56_b53_tz := nx56 _ Sf_b53_tz
    obtain ⟨_, _, ⟨T57, L57, kz57, nz57⟩, -, X57, ⟨Lc57, hQ57, l57, y57, z57⟩, st57⟩ := Jvm.LawKit.callS X56 hx (y := y_37) hown (mvT hZ (ww hw 178 rfl)) (mvT hZ (ww hw 179 rfl)) (mvT hZ (ww hw 180 rfl)) (mvT hZ (ww hw 181 rfl)) (by decide) (backOf (W := 0) (rm_is l Z a0 hw [] sA_54 b52 sa56 tA_54 kA_54 (6 : Int32) [(.int (own_b x0)), (.int (own_b y0_51)), (.int (47 : Int32)), (.int (105 : Int32)), (.int (100 : Int32)), (.int (112 : Int32)), nO, nO, nO, nO, nO, nO, nO, nO, nO, nO] b53_tz kb_53 (2 : Int32) [(.int (own_b x0)), (.int (own_b y0_51))] sb56 kc56 (4 : Int32) [(.int (47 : Int32)), (.int (105 : Int32)), (.int (100 : Int32)), (.int (112 : Int32))] zc fm h56 n0 (Nat.le_trans Z0 KC.1) O0 E_sA_54 F_value_sA_54 F_coder_sA_54 V_tA_54 A52 F_value_a1_53 F_coder_a1_53 V_tz_53 Ex56 Fv56 Fc56 Vv56 S_CS hz S_FM hW_fm (by decide) (fun kk q0 q1 => by rcases own_f2 q0 q1 with rfl | rfl <;> exact ⟨by decide, by decide, _, rfl, rfl⟩) (fun kk q0 q1 => by rcases own_f4 q0 q1 with rfl | rfl | rfl | rfl <;> exact ⟨by decide, by decide, _, rfl, rfl⟩)) hZ (ww hw 181 rfl) (ww hw 180 rfl) (by decide) (by decide)) (g := (mkF m 163 #[vi p1, vi p2, vi p3, vi p4, vi (2 : Int32), vi x0, vi x1, vi x2, vr b46, vr b52, vr b54_e0] [(.ref sa56), (.ref b52), (.ref sA_54)])) rfl (by rw [hml]; rfl) (argsL := [(.ref sA_54), (.ref b52), (.ref sa56)]) (rest := []) (lenOf pd_32 rfl) rfl (by show 2 * 0 + _ ≤ _; exact Nat.le_of_eq rfl) (hb hby at_163) (fun _ _ => ⟨rfl, e56, (by decide : 32 + 0 ≤ _), (by decide : 300 + 0 ≤ _)⟩)
    dsimp only [Pt.U, Pt.locs, Pt.cells, Pt.slots] at X57 l57 y57 z57 st57 hQ57
    subst l57 y57 z57
    obtain ⟨rfl, N57q, e57⟩ := hQ57
    have N57 := Fr.app N55 N57q
    obtain ⟨cq58, kq58, q58a, q58b, q58c⟩ := isOf hZ e57 E_e0_54
    obtain ⟨_, _, ⟨T58, L58, kz58, nz58⟩, -, X58, ⟨Lc58, hQ58, l58, y58, z58⟩, st58⟩ := X57.virtualBack hx (y := y_40) (z := y_40) hown (mvT hZ (ww hw 211 rfl)) (mvT hZ (ww hw 212 rfl)) (notFace_of_selects (args := #[]) (mvT hZ (ww hw 214 rfl))) (mvT hZ (ww hw 214 rfl)) (mvT hZ (ww hw 213 rfl)) (by decide) (backOf (W := 0) (rm_get_metadata l Z a0 hw [] b54_e0 sB_54 h56 n0 (Nat.le_trans Z0 KC.1) O0 F_metadata_e0_54) hZ (ww hw 215 rfl) (ww hw 24 rfl) (by decide) (by decide)) q58a q58c (g := (mkF m 171 #[vi p1, vi p2, vi p3, vi p4, vi (2 : Int32), vi x0, vi x1, vi x2, vr b46, vr b52, vr b54_e0] [(.ref b54_e0)])) rfl (by rw [hml]; rfl) (Steps.refl _) (argsL := []) (rest := []) (lenOf pd_28 rfl) rfl (by show 2 * 0 + _ ≤ _; exact Nat.le_of_eq rfl) (hb hby at_171) (fun _ _ => ⟨rfl, e57, (by decide : 32 + 0 ≤ _), (by decide : 300 + 0 ≤ _)⟩)
    dsimp only [Pt.U, Pt.locs, Pt.cells, Pt.slots] at X58 l58 y58 z58 st58 hQ58
    subst l58 y58 z58
    obtain ⟨rfl, N58q, e58⟩ := hQ58
    have N58 := Fr.app N57 N58q
    obtain ⟨sa59, T59, h59, kx59, sb59, kc59, X59, e59, E59, hS59, hk59, hZ59, hown59, Ex59, Fc59, Fv59, Vv59, -, -, C59, -, nx59, st59⟩ := ldcCH X58 hx hZ hown (ww hw 216 rfl) wS e58 hS hk hEL (by decide) hC.1 (vs := [(.int (47 : Int32)), (.int (109 : Int32)), (.int (101 : Int32)), (.int (116 : Int32)), (.int (97 : Int32)), (.int (100 : Int32)), (.int (97 : Int32)), (.int (116 : Int32)), (.int (97 : Int32))]) (z := (9 : Int32)) ⟨by decide, by first | rfl | decide⟩ (by decide) (by first | rfl | decide) (g := (mkF m 176 #[vi p1, vi p2, vi p3, vi p4, vi (2 : Int32), vi x0, vi x1, vi x2, vr b46, vr b52, vr b54_e0] [(.ref b52), (.ref sB_54)])) rfl (hb hby at_176) (n := 36) (by decide) (by decide) (by decide) (by decide)
    replace Sf_b53_tz := C59.safe V_tz_53.lt Sf_b53_tz
    replace V_cs_51 := V_cs_51.ext E59
    replace A52 := A52.ext E59
    replace F_value_a1_53 := F_value_a1_53.ext E59
    replace F_coder_a1_53 := F_coder_a1_53.ext E59
    replace V_tz_53 := V_tz_53.ext E59
    replace E_e0_54 := E_e0_54.ext E59
    replace F_entityId_e0_54 := F_entityId_e0_54.ext E59
    replace F_metadata_e0_54 := F_metadata_e0_54.ext E59
    replace F_singleSignOn_e0_54 := F_singleSignOn_e0_54.ext E59
    replace F_singleLogout_e0_54 := F_singleLogout_e0_54.ext E59
    replace E_sA_54 := E_sA_54.ext E59
    replace F_value_sA_54 := F_value_sA_54.ext E59
    replace F_coder_sA_54 := F_coder_sA_54.ext E59
    replace V_tA_54 := V_tA_54.ext E59
    replace E_sB_54 := E_sB_54.ext E59
    replace F_value_sB_54 := F_value_sB_54.ext E59
    replace F_coder_sB_54 := F_coder_sB_54.ext E59
    replace V_tB_54 := V_tB_54.ext E59
    replace E_sC_54 := E_sC_54.ext E59
    replace F_value_sC_54 := F_value_sC_54.ext E59
    replace F_coder_sC_54 := F_coder_sC_54.ext E59
    replace V_tC_54 := V_tC_54.ext E59
    replace E_sD_54 := E_sD_54.ext E59
    replace F_value_sD_54 := F_value_sD_54.ext E59
    replace F_coder_sD_54 := F_coder_sD_54.ext E59
    replace V_tD_54 := V_tD_54.ext E59
    replace Ex56 := Ex56.ext E59
    replace Fc56 := Fc56.ext E59
    replace Fv56 := Fv56.ext E59
    replace Vv56 := Vv56.ext E59
    replace O0 := O0.ext E59
    replace KC := KC.ext E59
    replace hC := hC.trans C59
    replace hZ := hZ59
    replace hown := hown59
    replace hS := hS59
    replace hk := hk59
    have nx59_b53_tz := nx59 _ Sf_b53_tz
    obtain ⟨_, _, ⟨T60, L60, kz60, nz60⟩, -, X60, ⟨Lc60, hQ60, l60, y60, z60⟩, st60⟩ := Jvm.LawKit.callS X59 hx (y := y_37) hown (mvT hZ (ww hw 178 rfl)) (mvT hZ (ww hw 179 rfl)) (mvT hZ (ww hw 180 rfl)) (mvT hZ (ww hw 181 rfl)) (by decide) (backOf (W := 0) (rm_is l Z a0 hw [] sB_54 b52 sa59 tB_54 kB_54 (11 : Int32) [(.int (own_b x0)), (.int (own_b y0_51)), (.int (47 : Int32)), (.int (109 : Int32)), (.int (101 : Int32)), (.int (116 : Int32)), (.int (97 : Int32)), (.int (100 : Int32)), (.int (97 : Int32)), (.int (116 : Int32)), (.int (97 : Int32)), nO, nO, nO, nO, nO] b53_tz kb_53 (2 : Int32) [(.int (own_b x0)), (.int (own_b y0_51))] sb59 kc59 (9 : Int32) [(.int (47 : Int32)), (.int (109 : Int32)), (.int (101 : Int32)), (.int (116 : Int32)), (.int (97 : Int32)), (.int (100 : Int32)), (.int (97 : Int32)), (.int (116 : Int32)), (.int (97 : Int32))] zc fm h59 n0 (Nat.le_trans Z0 KC.1) O0 E_sB_54 F_value_sB_54 F_coder_sB_54 V_tB_54 A52 F_value_a1_53 F_coder_a1_53 V_tz_53 Ex59 Fv59 Fc59 Vv59 S_CS hz S_FM hW_fm (by decide) (fun kk q0 q1 => by rcases own_f2 q0 q1 with rfl | rfl <;> exact ⟨by decide, by decide, _, rfl, rfl⟩) (fun kk q0 q1 => by rcases own_f9 q0 q1 with rfl | rfl | rfl | rfl | rfl | rfl | rfl | rfl | rfl <;> exact ⟨by decide, by decide, _, rfl, rfl⟩)) hZ (ww hw 181 rfl) (ww hw 180 rfl) (by decide) (by decide)) (g := (mkF m 178 #[vi p1, vi p2, vi p3, vi p4, vi (2 : Int32), vi x0, vi x1, vi x2, vr b46, vr b52, vr b54_e0] [(.ref sa59), (.ref b52), (.ref sB_54)])) rfl (by rw [hml]; rfl) (argsL := [(.ref sB_54), (.ref b52), (.ref sa59)]) (rest := []) (lenOf pd_32 rfl) rfl (by show 2 * 0 + _ ≤ _; exact Nat.le_of_eq rfl) (hb hby at_178) (fun _ _ => ⟨rfl, e59, (by decide : 34 + 0 ≤ _), (by decide : 340 + 0 ≤ _)⟩)
    dsimp only [Pt.U, Pt.locs, Pt.cells, Pt.slots] at X60 l60 y60 z60 st60 hQ60
    subst l60 y60 z60
    obtain ⟨rfl, N60q, e60⟩ := hQ60
    have N60 := Fr.app N58 N60q
    obtain ⟨cq61, kq61, q61a, q61b, q61c⟩ := isOf hZ e60 E_e0_54
    obtain ⟨_, _, ⟨T61, L61, kz61, nz61⟩, -, X61, ⟨Lc61, hQ61, l61, y61, z61⟩, st61⟩ := X60.virtualBack hx (y := y_41) (z := y_41) hown (mvT hZ (ww hw 217 rfl)) (mvT hZ (ww hw 218 rfl)) (notFace_of_selects (args := #[]) (mvT hZ (ww hw 220 rfl))) (mvT hZ (ww hw 220 rfl)) (mvT hZ (ww hw 219 rfl)) (by decide) (backOf (W := 0) (rm_get_singleSignOn l Z a0 hw [] b54_e0 sC_54 h59 n0 (Nat.le_trans Z0 KC.1) O0 F_singleSignOn_e0_54) hZ (ww hw 221 rfl) (ww hw 24 rfl) (by decide) (by decide)) q61a q61c (g := (mkF m 186 #[vi p1, vi p2, vi p3, vi p4, vi (2 : Int32), vi x0, vi x1, vi x2, vr b46, vr b52, vr b54_e0] [(.ref b54_e0)])) rfl (by rw [hml]; rfl) (Steps.refl _) (argsL := []) (rest := []) (lenOf pd_28 rfl) rfl (by show 2 * 0 + _ ≤ _; exact Nat.le_of_eq rfl) (hb hby at_186) (fun _ _ => ⟨rfl, e60, (by decide : 34 + 0 ≤ _), (by decide : 340 + 0 ≤ _)⟩)
    dsimp only [Pt.U, Pt.locs, Pt.cells, Pt.slots] at X61 l61 y61 z61 st61 hQ61
    subst l61 y61 z61
    obtain ⟨rfl, N61q, e61⟩ := hQ61
    have N61 := Fr.app N60 N61q
    obtain ⟨sa62, T62, h62, kx62, sb62, kc62, X62, e62, E62, hS62, hk62, hZ62, hown62, Ex62, Fc62, Fv62, Vv62, -, -, C62, -, nx62, st62⟩ := ldcCH X61 hx hZ hown (ww hw 222 rfl) wS e61 hS hk hEL (by decide) hC.1 (vs := [(.int (47 : Int32)), (.int (115 : Int32)), (.int (115 : Int32)), (.int (111 : Int32))]) (z := (4 : Int32)) ⟨by decide, by first | rfl | decide⟩ (by decide) (by first | rfl | decide) (g := (mkF m 191 #[vi p1, vi p2, vi p3, vi p4, vi (2 : Int32), vi x0, vi x1, vi x2, vr b46, vr b52, vr b54_e0] [(.ref b52), (.ref sC_54)])) rfl (hb hby at_191) (n := 16) (by decide) (by decide) (by decide) (by decide)
    replace Sf_b53_tz := C62.safe V_tz_53.lt Sf_b53_tz
    replace V_cs_51 := V_cs_51.ext E62
    replace A52 := A52.ext E62
    replace F_value_a1_53 := F_value_a1_53.ext E62
    replace F_coder_a1_53 := F_coder_a1_53.ext E62
    replace V_tz_53 := V_tz_53.ext E62
    replace E_e0_54 := E_e0_54.ext E62
    replace F_entityId_e0_54 := F_entityId_e0_54.ext E62
    replace F_metadata_e0_54 := F_metadata_e0_54.ext E62
    replace F_singleSignOn_e0_54 := F_singleSignOn_e0_54.ext E62
    replace F_singleLogout_e0_54 := F_singleLogout_e0_54.ext E62
    replace E_sA_54 := E_sA_54.ext E62
    replace F_value_sA_54 := F_value_sA_54.ext E62
    replace F_coder_sA_54 := F_coder_sA_54.ext E62
    replace V_tA_54 := V_tA_54.ext E62
    replace E_sB_54 := E_sB_54.ext E62
    replace F_value_sB_54 := F_value_sB_54.ext E62
    replace F_coder_sB_54 := F_coder_sB_54.ext E62
    replace V_tB_54 := V_tB_54.ext E62
    replace E_sC_54 := E_sC_54.ext E62
    replace F_value_sC_54 := F_value_sC_54.ext E62
    replace F_coder_sC_54 := F_coder_sC_54.ext E62
    replace V_tC_54 := V_tC_54.ext E62
    replace E_sD_54 := E_sD_54.ext E62
    replace F_value_sD_54 := F_value_sD_54.ext E62
    replace F_coder_sD_54 := F_coder_sD_54.ext E62
    replace V_tD_54 := V_tD_54.ext E62
    replace Ex56 := Ex56.ext E62
    replace Fc56 := Fc56.ext E62
    replace Fv56 := Fv56.ext E62
    replace Vv56 := Vv56.ext E62
    replace Ex59 := Ex59.ext E62
    replace Fc59 := Fc59.ext E62
    replace Fv59 := Fv59.ext E62
    replace Vv59 := Vv59.ext E62
    replace O0 := O0.ext E62
    replace KC := KC.ext E62
    replace hC := hC.trans C62
    replace hZ := hZ62
    replace hown := hown62
    replace hS := hS62
    replace hk := hk62
    have nx62_b53_tz := nx62 _ Sf_b53_tz
    obtain ⟨_, _, ⟨T63, L63, kz63, nz63⟩, -, X63, ⟨Lc63, hQ63, l63, y63, z63⟩, st63⟩ := Jvm.LawKit.callS X62 hx (y := y_37) hown (mvT hZ (ww hw 178 rfl)) (mvT hZ (ww hw 179 rfl)) (mvT hZ (ww hw 180 rfl)) (mvT hZ (ww hw 181 rfl)) (by decide) (backOf (W := 0) (rm_is l Z a0 hw [] sC_54 b52 sa62 tC_54 kC_54 (6 : Int32) [(.int (own_b x0)), (.int (own_b y0_51)), (.int (47 : Int32)), (.int (115 : Int32)), (.int (115 : Int32)), (.int (111 : Int32)), nO, nO, nO, nO, nO, nO, nO, nO, nO, nO] b53_tz kb_53 (2 : Int32) [(.int (own_b x0)), (.int (own_b y0_51))] sb62 kc62 (4 : Int32) [(.int (47 : Int32)), (.int (115 : Int32)), (.int (115 : Int32)), (.int (111 : Int32))] zc fm h62 n0 (Nat.le_trans Z0 KC.1) O0 E_sC_54 F_value_sC_54 F_coder_sC_54 V_tC_54 A52 F_value_a1_53 F_coder_a1_53 V_tz_53 Ex62 Fv62 Fc62 Vv62 S_CS hz S_FM hW_fm (by decide) (fun kk q0 q1 => by rcases own_f2 q0 q1 with rfl | rfl <;> exact ⟨by decide, by decide, _, rfl, rfl⟩) (fun kk q0 q1 => by rcases own_f4 q0 q1 with rfl | rfl | rfl | rfl <;> exact ⟨by decide, by decide, _, rfl, rfl⟩)) hZ (ww hw 181 rfl) (ww hw 180 rfl) (by decide) (by decide)) (g := (mkF m 193 #[vi p1, vi p2, vi p3, vi p4, vi (2 : Int32), vi x0, vi x1, vi x2, vr b46, vr b52, vr b54_e0] [(.ref sa62), (.ref b52), (.ref sC_54)])) rfl (by rw [hml]; rfl) (argsL := [(.ref sC_54), (.ref b52), (.ref sa62)]) (rest := []) (lenOf pd_32 rfl) rfl (by show 2 * 0 + _ ≤ _; exact Nat.le_of_eq rfl) (hb hby at_193) (fun _ _ => ⟨rfl, e62, (by decide : 36 + 0 ≤ _), (by decide : 360 + 0 ≤ _)⟩)
    dsimp only [Pt.U, Pt.locs, Pt.cells, Pt.slots] at X63 l63 y63 z63 st63 hQ63
    subst l63 y63 z63
    obtain ⟨rfl, N63q, e63⟩ := hQ63
    have N63 := Fr.app N61 N63q
    obtain ⟨cq64, kq64, q64a, q64b, q64c⟩ := isOf hZ e63 E_e0_54
    obtain ⟨_, _, ⟨T64, L64, kz64, nz64⟩, -, X64, ⟨Lc64, hQ64, l64, y64, z64⟩, st64⟩ := X63.virtualBack hx (y := y_42) (z := y_42) hown (mvT hZ (ww hw 223 rfl)) (mvT hZ (ww hw 224 rfl)) (notFace_of_selects (args := #[]) (mvT hZ (ww hw 226 rfl))) (mvT hZ (ww hw 226 rfl)) (mvT hZ (ww hw 225 rfl)) (by decide) (backOf (W := 0) (rm_get_singleLogout l Z a0 hw [] b54_e0 sD_54 h62 n0 (Nat.le_trans Z0 KC.1) O0 F_singleLogout_e0_54) hZ (ww hw 227 rfl) (ww hw 24 rfl) (by decide) (by decide)) q64a q64c (g := (mkF m 201 #[vi p1, vi p2, vi p3, vi p4, vi (2 : Int32), vi x0, vi x1, vi x2, vr b46, vr b52, vr b54_e0] [(.ref b54_e0)])) rfl (by rw [hml]; rfl) (Steps.refl _) (argsL := []) (rest := []) (lenOf pd_28 rfl) rfl (by show 2 * 0 + _ ≤ _; exact Nat.le_of_eq rfl) (hb hby at_201) (fun _ _ => ⟨rfl, e63, (by decide : 36 + 0 ≤ _), (by decide : 360 + 0 ≤ _)⟩)
    dsimp only [Pt.U, Pt.locs, Pt.cells, Pt.slots] at X64 l64 y64 z64 st64 hQ64
    subst l64 y64 z64
    obtain ⟨rfl, N64q, e64⟩ := hQ64
    have N64 := Fr.app N63 N64q
    obtain ⟨sa65, T65, h65, kx65, sb65, kc65, X65, e65, E65, hS65, hk65, hZ65, hown65, Ex65, Fc65, Fv65, Vv65, -, -, C65, -, nx65, st65⟩ := ldcCH X64 hx hZ hown (ww hw 228 rfl) wS e64 hS hk hEL (by decide) hC.1 (vs := [(.int (47 : Int32)), (.int (115 : Int32)), (.int (108 : Int32)), (.int (111 : Int32))]) (z := (4 : Int32)) ⟨by decide, by first | rfl | decide⟩ (by decide) (by first | rfl | decide) (g := (mkF m 206 #[vi p1, vi p2, vi p3, vi p4, vi (2 : Int32), vi x0, vi x1, vi x2, vr b46, vr b52, vr b54_e0] [(.ref b52), (.ref sD_54)])) rfl (hb hby at_206) (n := 16) (by decide) (by decide) (by decide) (by decide)
    replace Sf_b53_tz := C65.safe V_tz_53.lt Sf_b53_tz
    replace V_cs_51 := V_cs_51.ext E65
    replace A52 := A52.ext E65
    replace F_value_a1_53 := F_value_a1_53.ext E65
    replace F_coder_a1_53 := F_coder_a1_53.ext E65
    replace V_tz_53 := V_tz_53.ext E65
    replace E_e0_54 := E_e0_54.ext E65
    replace F_entityId_e0_54 := F_entityId_e0_54.ext E65
    replace F_metadata_e0_54 := F_metadata_e0_54.ext E65
    replace F_singleSignOn_e0_54 := F_singleSignOn_e0_54.ext E65
    replace F_singleLogout_e0_54 := F_singleLogout_e0_54.ext E65
    replace E_sA_54 := E_sA_54.ext E65
    replace F_value_sA_54 := F_value_sA_54.ext E65
    replace F_coder_sA_54 := F_coder_sA_54.ext E65
    replace V_tA_54 := V_tA_54.ext E65
    replace E_sB_54 := E_sB_54.ext E65
    replace F_value_sB_54 := F_value_sB_54.ext E65
    replace F_coder_sB_54 := F_coder_sB_54.ext E65
    replace V_tB_54 := V_tB_54.ext E65
    replace E_sC_54 := E_sC_54.ext E65
    replace F_value_sC_54 := F_value_sC_54.ext E65
    replace F_coder_sC_54 := F_coder_sC_54.ext E65
    replace V_tC_54 := V_tC_54.ext E65
    replace E_sD_54 := E_sD_54.ext E65
    replace F_value_sD_54 := F_value_sD_54.ext E65
    replace F_coder_sD_54 := F_coder_sD_54.ext E65
    replace V_tD_54 := V_tD_54.ext E65
    replace Ex56 := Ex56.ext E65
    replace Fc56 := Fc56.ext E65
    replace Fv56 := Fv56.ext E65
    replace Vv56 := Vv56.ext E65
    replace Ex59 := Ex59.ext E65
    replace Fc59 := Fc59.ext E65
    replace Fv59 := Fv59.ext E65
    replace Vv59 := Vv59.ext E65
    replace Ex62 := Ex62.ext E65
    replace Fc62 := Fc62.ext E65
    replace Fv62 := Fv62.ext E65
    replace Vv62 := Vv62.ext E65
    replace O0 := O0.ext E65
    replace KC := KC.ext E65
    replace hC := hC.trans C65
    replace hZ := hZ65
    replace hown := hown65
    replace hS := hS65
    replace hk := hk65
    have nx65_b53_tz := nx65 _ Sf_b53_tz
    obtain ⟨_, _, ⟨T66, L66, kz66, nz66⟩, -, X66, ⟨Lc66, hQ66, l66, y66, z66⟩, st66⟩ := Jvm.LawKit.callS X65 hx (y := y_37) hown (mvT hZ (ww hw 178 rfl)) (mvT hZ (ww hw 179 rfl)) (mvT hZ (ww hw 180 rfl)) (mvT hZ (ww hw 181 rfl)) (by decide) (backOf (W := 0) (rm_is l Z a0 hw [] sD_54 b52 sa65 tD_54 kD_54 (6 : Int32) [(.int (own_b x0)), (.int (own_b y0_51)), (.int (47 : Int32)), (.int (115 : Int32)), (.int (108 : Int32)), (.int (111 : Int32)), nO, nO, nO, nO, nO, nO, nO, nO, nO, nO] b53_tz kb_53 (2 : Int32) [(.int (own_b x0)), (.int (own_b y0_51))] sb65 kc65 (4 : Int32) [(.int (47 : Int32)), (.int (115 : Int32)), (.int (108 : Int32)), (.int (111 : Int32))] zc fm h65 n0 (Nat.le_trans Z0 KC.1) O0 E_sD_54 F_value_sD_54 F_coder_sD_54 V_tD_54 A52 F_value_a1_53 F_coder_a1_53 V_tz_53 Ex65 Fv65 Fc65 Vv65 S_CS hz S_FM hW_fm (by decide) (fun kk q0 q1 => by rcases own_f2 q0 q1 with rfl | rfl <;> exact ⟨by decide, by decide, _, rfl, rfl⟩) (fun kk q0 q1 => by rcases own_f4 q0 q1 with rfl | rfl | rfl | rfl <;> exact ⟨by decide, by decide, _, rfl, rfl⟩)) hZ (ww hw 181 rfl) (ww hw 180 rfl) (by decide) (by decide)) (g := (mkF m 208 #[vi p1, vi p2, vi p3, vi p4, vi (2 : Int32), vi x0, vi x1, vi x2, vr b46, vr b52, vr b54_e0] [(.ref sa65), (.ref b52), (.ref sD_54)])) rfl (by rw [hml]; rfl) (argsL := [(.ref sD_54), (.ref b52), (.ref sa65)]) (rest := []) (lenOf pd_32 rfl) rfl (by show 2 * 0 + _ ≤ _; exact Nat.le_of_eq rfl) (hb hby at_208) (fun _ _ => ⟨rfl, e65, (by decide : 38 + 0 ≤ _), (by decide : 380 + 0 ≤ _)⟩)
    dsimp only [Pt.U, Pt.locs, Pt.cells, Pt.slots] at X66 l66 y66 z66 st66 hQ66
    subst l66 y66 z66
    obtain ⟨rfl, N66q, e66⟩ := hQ66
    have N66 := Fr.app N64 N66q
    obtain ⟨fs, hr, hrun, hended, hRE⟩ := X66.leaveW hS (by rw [e66]; exact hk) (v := some (.int (1 : Int32))) (fun h => by rw [Bd.returns] at h; cases h)
    refine ⟨_, _, pre45 _ ?_, hrun, hended, _, _, rfl, ?_, ?_, hRE.1, hRE.2.1, hRE.2.2.1, hRE.2.2.2.mono (by decide) (by decide)⟩
    · show SS p e below m s₁ 27 #[vi p1, vi p2, vi p3, vi p4, vi (2 : Int32), vi x0, vi x1, un, un, un, un] [(.int x2)] _
      refine XS.istore X0.here hx rfl (hb hby at_27) rfl (l' := #[vi p1, vi p2, vi p3, vi p4, vi (2 : Int32), vi x0, vi x1, vi x2, un, un, un]) rfl ?_
      show SS p e below m s₁ 29 #[vi p1, vi p2, vi p3, vi p4, vi (2 : Int32), vi x0, vi x1, vi x2, un, un, un] [] _
      refine XS.iload X0.here hx rfl (hb hby at_29) rfl ?_
      show SS p e below m s₁ 31 #[vi p1, vi p2, vi p3, vi p4, vi (2 : Int32), vi x0, vi x1, vi x2, un, un, un] [(.int (2 : Int32))] _
      refine XS.ifYes X0.here hx rfl (pc0 := 31) (pc' := 42) rfl (hb hby at_31) rfl ((if0 _ _).trans (feq (by decide)).2) (by decide) (by decide) ?_
      show SS p e below m s₁ 42 #[vi p1, vi p2, vi p3, vi p4, vi (2 : Int32), vi x0, vi x1, vi x2, un, un, un] [] _
      refine XS.iload X0.here hx rfl (hb hby at_42) rfl ?_
      show SS p e below m s₁ 44 #[vi p1, vi p2, vi p3, vi p4, vi (2 : Int32), vi x0, vi x1, vi x2, un, un, un] [(.int (2 : Int32))] _
      refine XS.iconst X0.here hx rfl (hb hby at_44) ?_
      show SS p e below m s₁ 45 #[vi p1, vi p2, vi p3, vi p4, vi (2 : Int32), vi x0, vi x1, vi x2, un, un, un] [(.int (1 : Int32)), (.int (2 : Int32))] _
      refine XS.icmpYes X0.here hx rfl (pc0 := 45) (pc' := 61) rfl (hb hby at_45) rfl (feq (by decide)).2 (by decide) (by decide) ?_
      show SS p e below m s₁ 61 #[vi p1, vi p2, vi p3, vi p4, vi (2 : Int32), vi x0, vi x1, vi x2, un, un, un] [] _
      refine XS.iload X0.here hx rfl (hb hby at_61) rfl ?_
      show SS p e below m s₁ 63 #[vi p1, vi p2, vi p3, vi p4, vi (2 : Int32), vi x0, vi x1, vi x2, un, un, un] [(.int (2 : Int32))] _
      refine XS.iconst X0.here hx rfl (hb hby at_63) ?_
      show SS p e below m s₁ 64 #[vi p1, vi p2, vi p3, vi p4, vi (2 : Int32), vi x0, vi x1, vi x2, un, un, un] [(.int (2 : Int32)), (.int (2 : Int32))] _
      refine XS.icmpNo X0.here hx rfl (hb hby at_64) rfl (teq (by decide)).2 ?_
      show SS p e below m s₁ 67 #[vi p1, vi p2, vi p3, vi p4, vi (2 : Int32), vi x0, vi x1, vi x2, un, un, un] [] _
      refine XS.iconst X0.here hx rfl (hb hby at_67) ?_
      show SS p e below m s₁ 68 #[vi p1, vi p2, vi p3, vi p4, vi (2 : Int32), vi x0, vi x1, vi x2, un, un, un] [(.int (2 : Int32))] _
      refine st46 _ ?_
      show SS p e below m T46 70 #[vi p1, vi p2, vi p3, vi p4, vi (2 : Int32), vi x0, vi x1, vi x2, un, un, un] [(.ref b46)] _
      refine XS.dup X46.here hx rfl (hb hby at_70) rfl rfl ?_
      show SS p e below m T46 71 #[vi p1, vi p2, vi p3, vi p4, vi (2 : Int32), vi x0, vi x1, vi x2, un, un, un] [(.ref b46), (.ref b46)] _
      refine XS.iconst X46.here hx rfl (hb hby at_71) ?_
      show SS p e below m T46 72 #[vi p1, vi p2, vi p3, vi p4, vi (2 : Int32), vi x0, vi x1, vi x2, un, un, un] [(.int (0 : Int32)), (.ref b46), (.ref b46)] _
      refine XS.iload X46.here hx rfl (hb hby at_72) rfl ?_
      show SS p e below m T46 74 #[vi p1, vi p2, vi p3, vi p4, vi (2 : Int32), vi x0, vi x1, vi x2, un, un, un] [(.int x0), (.int (0 : Int32)), (.ref b46), (.ref b46)] _
      refine st48 _ ?_
      show SS p e below m T48 75 #[vi p1, vi p2, vi p3, vi p4, vi (2 : Int32), vi x0, vi x1, vi x2, un, un, un] [(.ref b46)] _
      refine XS.dup X48.here hx rfl (hb hby at_75) rfl rfl ?_
      show SS p e below m T48 76 #[vi p1, vi p2, vi p3, vi p4, vi (2 : Int32), vi x0, vi x1, vi x2, un, un, un] [(.ref b46), (.ref b46)] _
      refine XS.iconst X48.here hx rfl (hb hby at_76) ?_
      show SS p e below m T48 77 #[vi p1, vi p2, vi p3, vi p4, vi (2 : Int32), vi x0, vi x1, vi x2, un, un, un] [(.int (1 : Int32)), (.ref b46), (.ref b46)] _
      refine XS.iload X48.here hx rfl (hb hby at_77) rfl ?_
      show SS p e below m T48 79 #[vi p1, vi p2, vi p3, vi p4, vi (2 : Int32), vi x0, vi x1, vi x2, un, un, un] [(.int x1), (.int (1 : Int32)), (.ref b46), (.ref b46)] _
      refine st50 _ ?_
      show SS p e below m T50 80 #[vi p1, vi p2, vi p3, vi p4, vi (2 : Int32), vi x0, vi x1, vi x2, un, un, un] [(.ref b46)] _
      refine XS.astore X50.here hx rfl (hb hby at_80) rfl rfl (l' := #[vi p1, vi p2, vi p3, vi p4, vi (2 : Int32), vi x0, vi x1, vi x2, vr b46, un, un]) rfl ?_
      show SS p e below m T50 82 #[vi p1, vi p2, vi p3, vi p4, vi (2 : Int32), vi x0, vi x1, vi x2, vr b46, un, un] [] _
      refine XS.goto X50.here hx rfl (pc0 := 82) (pc' := 105) rfl (hb hby at_82) (by decide) (by decide) ?_
      show SS p e below m T50 105 #[vi p1, vi p2, vi p3, vi p4, vi (2 : Int32), vi x0, vi x1, vi x2, vr b46, un, un] [] _
      refine st51 _ ?_
      show SS p e below m T51 131 #[vi p1, vi p2, vi p3, vi p4, vi (2 : Int32), vi x0, vi x1, vi x2, vr b46, un, un] [] _
      refine st52 _ ?_
      show SS p e below m T52 134 #[vi p1, vi p2, vi p3, vi p4, vi (2 : Int32), vi x0, vi x1, vi x2, vr b46, un, un] [(.ref b52)] _
      refine XS.dup X52.here hx rfl (hb hby at_134) rfl rfl ?_
      show SS p e below m T52 135 #[vi p1, vi p2, vi p3, vi p4, vi (2 : Int32), vi x0, vi x1, vi x2, vr b46, un, un] [(.ref b52), (.ref b52)] _
      refine XS.aload X52.here hx rfl (hb hby at_135) rfl rfl ?_
      show SS p e below m T52 137 #[vi p1, vi p2, vi p3, vi p4, vi (2 : Int32), vi x0, vi x1, vi x2, vr b46, un, un] [(.ref b46), (.ref b52), (.ref b52)] _
      refine st53.trans ?_
      show SS p e below m T53 140 #[vi p1, vi p2, vi p3, vi p4, vi (2 : Int32), vi x0, vi x1, vi x2, vr b46, un, un] [(.ref b52)] _
      refine XS.astore X53.here hx rfl (hb hby at_140) rfl rfl (l' := #[vi p1, vi p2, vi p3, vi p4, vi (2 : Int32), vi x0, vi x1, vi x2, vr b46, vr b52, un]) rfl ?_
      show SS p e below m T53 142 #[vi p1, vi p2, vi p3, vi p4, vi (2 : Int32), vi x0, vi x1, vi x2, vr b46, vr b52, un] [] _
      refine XS.aload X53.here hx rfl (hb hby at_142) rfl rfl ?_
      show SS p e below m T53 144 #[vi p1, vi p2, vi p3, vi p4, vi (2 : Int32), vi x0, vi x1, vi x2, vr b46, vr b52, un] [(.ref b52)] _
      refine st54.trans ?_
      show SS p e below m T54 147 #[vi p1, vi p2, vi p3, vi p4, vi (2 : Int32), vi x0, vi x1, vi x2, vr b46, vr b52, un] [(.ref b54_e0)] _
      refine XS.astore X54.here hx rfl (hb hby at_147) rfl rfl (l' := #[vi p1, vi p2, vi p3, vi p4, vi (2 : Int32), vi x0, vi x1, vi x2, vr b46, vr b52, vr b54_e0]) rfl ?_
      show SS p e below m T54 149 #[vi p1, vi p2, vi p3, vi p4, vi (2 : Int32), vi x0, vi x1, vi x2, vr b46, vr b52, vr b54_e0] [] _
      refine XS.aload X54.here hx rfl (hb hby at_149) rfl rfl ?_
      show SS p e below m T54 151 #[vi p1, vi p2, vi p3, vi p4, vi (2 : Int32), vi x0, vi x1, vi x2, vr b46, vr b52, vr b54_e0] [(.ref b54_e0)] _
      refine XS.ifnullNo X54.here hx rfl (hb hby at_151) rfl ?_
      show SS p e below m T54 154 #[vi p1, vi p2, vi p3, vi p4, vi (2 : Int32), vi x0, vi x1, vi x2, vr b46, vr b52, vr b54_e0] [] _
      refine XS.aload X54.here hx rfl (hb hby at_154) rfl rfl ?_
      show SS p e below m T54 156 #[vi p1, vi p2, vi p3, vi p4, vi (2 : Int32), vi x0, vi x1, vi x2, vr b46, vr b52, vr b54_e0] [(.ref b54_e0)] _
      refine st55.trans ?_
      show SS p e below m T55 159 #[vi p1, vi p2, vi p3, vi p4, vi (2 : Int32), vi x0, vi x1, vi x2, vr b46, vr b52, vr b54_e0] [(.ref sA_54)] _
      refine XS.aload X55.here hx rfl (hb hby at_159) rfl rfl ?_
      show SS p e below m T55 161 #[vi p1, vi p2, vi p3, vi p4, vi (2 : Int32), vi x0, vi x1, vi x2, vr b46, vr b52, vr b54_e0] [(.ref b52), (.ref sA_54)] _
      refine st56 _ ?_
      show SS p e below m T56 163 #[vi p1, vi p2, vi p3, vi p4, vi (2 : Int32), vi x0, vi x1, vi x2, vr b46, vr b52, vr b54_e0] [(.ref sa56), (.ref b52), (.ref sA_54)] _
      refine st57 _ ?_
      show SS p e below m T57 166 #[vi p1, vi p2, vi p3, vi p4, vi (2 : Int32), vi x0, vi x1, vi x2, vr b46, vr b52, vr b54_e0] [(.int (1 : Int32))] _
      refine XS.ifNo X57.here hx rfl (hb hby at_166) rfl ((if0 _ _).trans (feq (by decide)).1) ?_
      show SS p e below m T57 169 #[vi p1, vi p2, vi p3, vi p4, vi (2 : Int32), vi x0, vi x1, vi x2, vr b46, vr b52, vr b54_e0] [] _
      refine XS.aload X57.here hx rfl (hb hby at_169) rfl rfl ?_
      show SS p e below m T57 171 #[vi p1, vi p2, vi p3, vi p4, vi (2 : Int32), vi x0, vi x1, vi x2, vr b46, vr b52, vr b54_e0] [(.ref b54_e0)] _
      refine st58.trans ?_
      show SS p e below m T58 174 #[vi p1, vi p2, vi p3, vi p4, vi (2 : Int32), vi x0, vi x1, vi x2, vr b46, vr b52, vr b54_e0] [(.ref sB_54)] _
      refine XS.aload X58.here hx rfl (hb hby at_174) rfl rfl ?_
      show SS p e below m T58 176 #[vi p1, vi p2, vi p3, vi p4, vi (2 : Int32), vi x0, vi x1, vi x2, vr b46, vr b52, vr b54_e0] [(.ref b52), (.ref sB_54)] _
      refine st59 _ ?_
      show SS p e below m T59 178 #[vi p1, vi p2, vi p3, vi p4, vi (2 : Int32), vi x0, vi x1, vi x2, vr b46, vr b52, vr b54_e0] [(.ref sa59), (.ref b52), (.ref sB_54)] _
      refine st60 _ ?_
      show SS p e below m T60 181 #[vi p1, vi p2, vi p3, vi p4, vi (2 : Int32), vi x0, vi x1, vi x2, vr b46, vr b52, vr b54_e0] [(.int (1 : Int32))] _
      refine XS.ifNo X60.here hx rfl (hb hby at_181) rfl ((if0 _ _).trans (feq (by decide)).1) ?_
      show SS p e below m T60 184 #[vi p1, vi p2, vi p3, vi p4, vi (2 : Int32), vi x0, vi x1, vi x2, vr b46, vr b52, vr b54_e0] [] _
      refine XS.aload X60.here hx rfl (hb hby at_184) rfl rfl ?_
      show SS p e below m T60 186 #[vi p1, vi p2, vi p3, vi p4, vi (2 : Int32), vi x0, vi x1, vi x2, vr b46, vr b52, vr b54_e0] [(.ref b54_e0)] _
      refine st61.trans ?_
      show SS p e below m T61 189 #[vi p1, vi p2, vi p3, vi p4, vi (2 : Int32), vi x0, vi x1, vi x2, vr b46, vr b52, vr b54_e0] [(.ref sC_54)] _
      refine XS.aload X61.here hx rfl (hb hby at_189) rfl rfl ?_
      show SS p e below m T61 191 #[vi p1, vi p2, vi p3, vi p4, vi (2 : Int32), vi x0, vi x1, vi x2, vr b46, vr b52, vr b54_e0] [(.ref b52), (.ref sC_54)] _
      refine st62 _ ?_
      show SS p e below m T62 193 #[vi p1, vi p2, vi p3, vi p4, vi (2 : Int32), vi x0, vi x1, vi x2, vr b46, vr b52, vr b54_e0] [(.ref sa62), (.ref b52), (.ref sC_54)] _
      refine st63 _ ?_
      show SS p e below m T63 196 #[vi p1, vi p2, vi p3, vi p4, vi (2 : Int32), vi x0, vi x1, vi x2, vr b46, vr b52, vr b54_e0] [(.int (1 : Int32))] _
      refine XS.ifNo X63.here hx rfl (hb hby at_196) rfl ((if0 _ _).trans (feq (by decide)).1) ?_
      show SS p e below m T63 199 #[vi p1, vi p2, vi p3, vi p4, vi (2 : Int32), vi x0, vi x1, vi x2, vr b46, vr b52, vr b54_e0] [] _
      refine XS.aload X63.here hx rfl (hb hby at_199) rfl rfl ?_
      show SS p e below m T63 201 #[vi p1, vi p2, vi p3, vi p4, vi (2 : Int32), vi x0, vi x1, vi x2, vr b46, vr b52, vr b54_e0] [(.ref b54_e0)] _
      refine st64.trans ?_
      show SS p e below m T64 204 #[vi p1, vi p2, vi p3, vi p4, vi (2 : Int32), vi x0, vi x1, vi x2, vr b46, vr b52, vr b54_e0] [(.ref sD_54)] _
      refine XS.aload X64.here hx rfl (hb hby at_204) rfl rfl ?_
      show SS p e below m T64 206 #[vi p1, vi p2, vi p3, vi p4, vi (2 : Int32), vi x0, vi x1, vi x2, vr b46, vr b52, vr b54_e0] [(.ref b52), (.ref sD_54)] _
      refine st65 _ ?_
      show SS p e below m T65 208 #[vi p1, vi p2, vi p3, vi p4, vi (2 : Int32), vi x0, vi x1, vi x2, vr b46, vr b52, vr b54_e0] [(.ref sa65), (.ref b52), (.ref sD_54)] _
      refine st66 _ ?_
      show SS p e below m T66 211 #[vi p1, vi p2, vi p3, vi p4, vi (2 : Int32), vi x0, vi x1, vi x2, vr b46, vr b52, vr b54_e0] [(.int (1 : Int32))] _
      refine XS.ifNo X66.here hx rfl (hb hby at_211) rfl ((if0 _ _).trans (feq (by decide)).1) ?_
      show SS p e below m T66 214 #[vi p1, vi p2, vi p3, vi p4, vi (2 : Int32), vi x0, vi x1, vi x2, vr b46, vr b52, vr b54_e0] [] _
      refine XS.iconst X66.here hx rfl (hb hby at_214) ?_
      show SS p e below m T66 215 #[vi p1, vi p2, vi p3, vi p4, vi (2 : Int32), vi x0, vi x1, vi x2, vr b46, vr b52, vr b54_e0] [(.int (1 : Int32))] _
      refine XS.goto X66.here hx rfl (pc0 := 215) (pc' := 219) rfl (hb hby at_215) (by decide) (by decide) ?_
      show SS p e below m T66 219 #[vi p1, vi p2, vi p3, vi p4, vi (2 : Int32), vi x0, vi x1, vi x2, vr b46, vr b52, vr b54_e0] [(.int (1 : Int32))] _
      exact retN X66 hx (t := .boolean) Bd.returns (by simp) (hb hby at_219) hr
    · show Q_rm0 Z p1 p2 p3 p4 zc fm h0 n0 _ T66.heap _
      rw [e66]
      exact ⟨rfl, N66, KC⟩
    · show CHr Z EL s.vm s.heap T66.vm T66.heap
      rw [hh, e66]
      exact hC.trans (CHv.at X66 hZ hEL hC.1)
  · rw [hc] at pre1
    obtain ⟨x0, ex0, hx0, nx0, hb0⟩ := own_x p2
    have pre67 : ∀ t, Steps p.tables e below (s₁.setTop (mkF m 11 #[vi p1, vi p2, vi p3, vi p4, vi (3 : Int32), un, un, un, un, un, un] [(.int ((p2 &&& (255 : Int32)).toUInt32.toUInt16.toUInt32.toInt32))])) t → Steps p.tables e below (s₁.setTop (entryFrame m #[(.int p1), (.int p2), (.int p3), (.int p4)] maxLocals)) t := by
      intro t kt
      refine pre1 t ?_
      show SS p e below m s₁ 3 #[vi p1, vi p2, vi p3, vi p4, un, un, un, un, un, un, un] [(.int (3 : Int32))] _
      refine XS.istore X0.here hx rfl (hb hby at_3) rfl (l' := #[vi p1, vi p2, vi p3, vi p4, vi (3 : Int32), un, un, un, un, un, un]) rfl ?_
      show SS p e below m s₁ 5 #[vi p1, vi p2, vi p3, vi p4, vi (3 : Int32), un, un, un, un, un, un] [] _
      refine XS.iloadN X0.here hx rfl (hb hby at_5) rfl ?_
      show SS p e below m s₁ 6 #[vi p1, vi p2, vi p3, vi p4, vi (3 : Int32), un, un, un, un, un, un] [(.int p2)] _
      refine XS.sipush X0.here hx rfl (hb hby at_6) ?_
      show SS p e below m s₁ 9 #[vi p1, vi p2, vi p3, vi p4, vi (3 : Int32), un, un, un, un, un, un] [(.int (255 : Int32)), (.int p2)] _
      refine XS.iand X0.here hx rfl (hb hby at_9) rfl ?_
      show SS p e below m s₁ 10 #[vi p1, vi p2, vi p3, vi p4, vi (3 : Int32), un, un, un, un, un, un] [(.int (p2 &&& (255 : Int32)))] _
      refine XS.i2c X0.here hx rfl (hb hby at_10) rfl ?_
      exact kt
    rw [ex0] at pre67
    obtain ⟨x1, ex1, hx1, nx1, hb1⟩ := own_x p3
    have pre68 : ∀ t, Steps p.tables e below (s₁.setTop (mkF m 19 #[vi p1, vi p2, vi p3, vi p4, vi (3 : Int32), vi x0, un, un, un, un, un] [(.int ((p3 &&& (255 : Int32)).toUInt32.toUInt16.toUInt32.toInt32))])) t → Steps p.tables e below (s₁.setTop (entryFrame m #[(.int p1), (.int p2), (.int p3), (.int p4)] maxLocals)) t := by
      intro t kt
      refine pre67 t ?_
      show SS p e below m s₁ 11 #[vi p1, vi p2, vi p3, vi p4, vi (3 : Int32), un, un, un, un, un, un] [(.int x0)] _
      refine XS.istore X0.here hx rfl (hb hby at_11) rfl (l' := #[vi p1, vi p2, vi p3, vi p4, vi (3 : Int32), vi x0, un, un, un, un, un]) rfl ?_
      show SS p e below m s₁ 13 #[vi p1, vi p2, vi p3, vi p4, vi (3 : Int32), vi x0, un, un, un, un, un] [] _
      refine XS.iloadN X0.here hx rfl (hb hby at_13) rfl ?_
      show SS p e below m s₁ 14 #[vi p1, vi p2, vi p3, vi p4, vi (3 : Int32), vi x0, un, un, un, un, un] [(.int p3)] _
      refine XS.sipush X0.here hx rfl (hb hby at_14) ?_
      show SS p e below m s₁ 17 #[vi p1, vi p2, vi p3, vi p4, vi (3 : Int32), vi x0, un, un, un, un, un] [(.int (255 : Int32)), (.int p3)] _
      refine XS.iand X0.here hx rfl (hb hby at_17) rfl ?_
      show SS p e below m s₁ 18 #[vi p1, vi p2, vi p3, vi p4, vi (3 : Int32), vi x0, un, un, un, un, un] [(.int (p3 &&& (255 : Int32)))] _
      refine XS.i2c X0.here hx rfl (hb hby at_18) rfl ?_
      exact kt
    rw [ex1] at pre68
    obtain ⟨x2, ex2, hx2, nx2, hb2⟩ := own_x p4
    have pre69 : ∀ t, Steps p.tables e below (s₁.setTop (mkF m 27 #[vi p1, vi p2, vi p3, vi p4, vi (3 : Int32), vi x0, vi x1, un, un, un, un] [(.int ((p4 &&& (255 : Int32)).toUInt32.toUInt16.toUInt32.toInt32))])) t → Steps p.tables e below (s₁.setTop (entryFrame m #[(.int p1), (.int p2), (.int p3), (.int p4)] maxLocals)) t := by
      intro t kt
      refine pre68 t ?_
      show SS p e below m s₁ 19 #[vi p1, vi p2, vi p3, vi p4, vi (3 : Int32), vi x0, un, un, un, un, un] [(.int x1)] _
      refine XS.istore X0.here hx rfl (hb hby at_19) rfl (l' := #[vi p1, vi p2, vi p3, vi p4, vi (3 : Int32), vi x0, vi x1, un, un, un, un]) rfl ?_
      show SS p e below m s₁ 21 #[vi p1, vi p2, vi p3, vi p4, vi (3 : Int32), vi x0, vi x1, un, un, un, un] [] _
      refine XS.iloadN X0.here hx rfl (hb hby at_21) rfl ?_
      show SS p e below m s₁ 22 #[vi p1, vi p2, vi p3, vi p4, vi (3 : Int32), vi x0, vi x1, un, un, un, un] [(.int p4)] _
      refine XS.sipush X0.here hx rfl (hb hby at_22) ?_
      show SS p e below m s₁ 25 #[vi p1, vi p2, vi p3, vi p4, vi (3 : Int32), vi x0, vi x1, un, un, un, un] [(.int (255 : Int32)), (.int p4)] _
      refine XS.iand X0.here hx rfl (hb hby at_25) rfl ?_
      show SS p e below m s₁ 26 #[vi p1, vi p2, vi p3, vi p4, vi (3 : Int32), vi x0, vi x1, un, un, un, un] [(.int (p4 &&& (255 : Int32)))] _
      refine XS.i2c X0.here hx rfl (hb hby at_26) rfl ?_
      exact kt
    rw [ex2] at pre69
    obtain ⟨T70, h70, k70, X70, e70, E70, A70, st70⟩ := newP X0 hx hZ (ww hw 0 rfl) e0 (g := (mkF m 86 #[vi p1, vi p2, vi p3, vi p4, vi (3 : Int32), vi x0, vi x1, vi x2, un, un, un] [(.int (3 : Int32))])) rfl (hb hby at_86) rfl (by decide) (cap := 3) (by decide) (by decide) (by decide) (by decide)
    obtain ⟨b70, g70⟩ : ∃ z, z = h0.size := ⟨_, rfl⟩
    rw [← g70] at A70 st70
    have g_b70 : n0 ≤ b70 := Nat.le_trans (Nat.le_trans Z0 KC.1) (Nat.le_of_eq g70.symm)
    have sz_b70 : h0.size ≤ b70 := Nat.le_trans KC.1 (Nat.le_of_eq g70.symm)
    replace hk := Nat.le_trans hk E70.1
    replace hC := hC.trans (CHr.ext E70 hC.1)
    replace O0 := O0.ext E70
    replace KC := KC.ext E70
    have V_b70 : Arv Z h70 b70 k70 .char (3 : Int32) [(.int (0 : Int32)), (.int (0 : Int32)), (.int (0 : Int32))] (.int (0 : Int32)) := (Arv.new A70 (by decide)).pad (pad_rep [] (.int (0 : Int32)) 3)
    have Vo71 := V_b70
    obtain ⟨cl71, Ar71, q71, Sz71, Nn71, Hh71, Gg71⟩ := Vo71
    have hin71 : ¬ ((0 : Int32) < 0 ∨ cl71.slots.size ≤ ((0 : Int32)).toNatClampNeg) := inb_of Sz71 ⟨by decide, by decide⟩
    obtain ⟨T72, h72, X72, e72, W72, st72⟩ := stC X70 hx hZ e70 Ar71 (j := (0 : Int32)) hin71 (g := (mkF m 92 #[vi p1, vi p2, vi p3, vi p4, vi (3 : Int32), vi x0, vi x1, vi x2, un, un, un] [(.int x0), (.int (0 : Int32)), (.ref b70), (.ref b70)])) rfl rfl (hb hby at_92)
    have Vn72 := Arv.set Ar71 q71 Sz71 Nn71 Hh71 Gg71 (fits_nar_char _) W72 (0) rfl (Nat.le_of_ble_eq_true rfl)
    have N72 := Fr.snoc X72 N0 g_b70
    have Vm72 : Arv Z h72 b70 k70 .char (3 : Int32) [(.int x0), (.int (0 : Int32)), (.int (0 : Int32))] (.int (0 : Int32)) := by have hh := Vn72; rw [nx0] at hh; exact hh
    have SfA72 := (Safe.arv (EL := EL) hZ.alike V_b70 (by decide))
    replace hk := Nat.le_trans hk (Keep.of_wr W72).1
    replace hC := hC.trans (CHr.wr W72 SfA72 hC.1)
    replace O0 := O0.wr W72 g_b70
    replace KC := KC.wr W72 (Or.inr sz_b70)
    have Vo73 := Vm72
    obtain ⟨cl73, Ar73, q73, Sz73, Nn73, Hh73, Gg73⟩ := Vo73
    have hin73 : ¬ ((1 : Int32) < 0 ∨ cl73.slots.size ≤ ((1 : Int32)).toNatClampNeg) := inb_of Sz73 ⟨by decide, by decide⟩
    obtain ⟨T74, h74, X74, e74, W74, st74⟩ := stC X72 hx hZ e72 Ar73 (j := (1 : Int32)) hin73 (g := (mkF m 97 #[vi p1, vi p2, vi p3, vi p4, vi (3 : Int32), vi x0, vi x1, vi x2, un, un, un] [(.int x1), (.int (1 : Int32)), (.ref b70), (.ref b70)])) rfl rfl (hb hby at_97)
    have Vn74 := Arv.set Ar73 q73 Sz73 Nn73 Hh73 Gg73 (fits_nar_char _) W74 (1) rfl (Nat.le_of_ble_eq_true rfl)
    have N74 := Fr.snoc X74 N72 g_b70
    have Vm74 : Arv Z h74 b70 k70 .char (3 : Int32) [(.int x0), (.int x1), (.int (0 : Int32))] (.int (0 : Int32)) := by have hh := Vn74; rw [nx1] at hh; exact hh
    have SfA74 := (Safe.arv (EL := EL) hZ.alike Vm72 (by decide))
    replace hk := Nat.le_trans hk (Keep.of_wr W74).1
    replace hC := hC.trans (CHr.wr W74 SfA74 hC.1)
    replace O0 := O0.wr W74 g_b70
    replace KC := KC.wr W74 (Or.inr sz_b70)
    have Vo75 := Vm74
    obtain ⟨cl75, Ar75, q75, Sz75, Nn75, Hh75, Gg75⟩ := Vo75
    have hin75 : ¬ ((2 : Int32) < 0 ∨ cl75.slots.size ≤ ((2 : Int32)).toNatClampNeg) := inb_of Sz75 ⟨by decide, by decide⟩
    obtain ⟨T76, h76, X76, e76, W76, st76⟩ := stC X74 hx hZ e74 Ar75 (j := (2 : Int32)) hin75 (g := (mkF m 102 #[vi p1, vi p2, vi p3, vi p4, vi (3 : Int32), vi x0, vi x1, vi x2, un, un, un] [(.int x2), (.int (2 : Int32)), (.ref b70), (.ref b70)])) rfl rfl (hb hby at_102)
    have Vn76 := Arv.set Ar75 q75 Sz75 Nn75 Hh75 Gg75 (fits_nar_char _) W76 (2) rfl (Nat.le_of_ble_eq_true rfl)
    have N76 := Fr.snoc X76 N74 g_b70
    have Vm76 : Arv Z h76 b70 k70 .char (3 : Int32) [(.int x0), (.int x1), (.int x2)] (.int (0 : Int32)) := by have hh := Vn76; rw [nx2] at hh; exact hh
    have SfA76 := (Safe.arv (EL := EL) hZ.alike Vm74 (by decide))
    replace hk := Nat.le_trans hk (Keep.of_wr W76).1
    replace hC := hC.trans (CHr.wr W76 SfA76 hC.1)
    replace O0 := O0.wr W76 g_b70
    replace KC := KC.wr W76 (Or.inr sz_b70)
    obtain ⟨T77, h77, L77, y0_77, X77, e77, N77, K77, V_cs_77, hq77_0, hq77_1, st77⟩ := rsg3 hw X76 hx hZ hby hml hown p1 p2 p3 p4 x0 x1 x2 b70 k70 x0 x1 x2 h76 n0 e76 (Nat.le_trans Z0 KC.1) O0 N76 Vm76 g_b70 hx2 hb2 (by decide) (by decide) (by decide) (by decide)
    replace hk := Nat.le_trans hk K77.1
    replace hC := hC.trans (CHr.keep K77 (sfS (Safe.arv (EL := EL) hZ.alike Vm76 (by decide)) sf0) hC.1)
    replace O0 := O0.keep K77 (allS g_b70 all0)
    replace KC := KC.trans K77 (allS (Or.inr sz_b70) all0)
    obtain ⟨T78, h78, X78, e78, E78, A78, D78, -, st78⟩ := newO X77 hx hZ hown (ww hw 1 rfl) (ww hw 2 rfl) (ww hw 3 rfl) e77 (g := (mkF m 131 #[vi p1, vi p2, vi p3, vi p4, vi (3 : Int32), vi x0, vi x1, vi x2, vr b70, un, un] [])) rfl (hb hby at_131) (by decide) (by decide)
    obtain ⟨b78, g78⟩ : ∃ z, z = h77.size := ⟨_, rfl⟩
    rw [← g78] at A78 D78 st78
    have ne_b70_b78 : b70 ≠ b78 := Nat.ne_of_lt (Nat.lt_of_lt_of_le V_cs_77.lt (Nat.le_of_eq g78.symm))
    have g_b78 : n0 ≤ b78 := Nat.le_trans (Nat.le_trans Z0 KC.1) (Nat.le_of_eq g78.symm)
    have sz_b78 : h0.size ≤ b78 := Nat.le_trans KC.1 (Nat.le_of_eq g78.symm)
    replace hk := Nat.le_trans hk E78.1
    replace hC := hC.trans (CHr.ext E78 hC.1)
    replace V_cs_77 := V_cs_77.ext E78
    replace O0 := O0.ext E78
    replace KC := KC.ext E78
    have F_value_b78 : Fld Z h78 b78 "java/lang/String" "value" "[B" .null := D78 (Or.inr (ww hw 16 rfl)) (ty := (.array .byte)) (by decide)
    have F_coder_b78 : Fld Z h78 b78 "java/lang/String" "coder" "B" (.int (0 : Int32)) := D78 (Or.inr (ww hw 17 rfl)) (ty := .byte) (by decide)
    obtain ⟨_, _, ⟨T79, L79, kz79, nz79⟩, -, X79, ⟨Lc79, hQ79, l79, y79, z79⟩, st79⟩ := X78.specialBack hx (y := y_28) rfl hown (mvT hZ (ww hw 4 rfl)) (mvT hZ (ww hw 5 rfl)) (mvT hZ (ww hw 6 rfl)) (by decide) (backOf (W := 1) (rm_i13 l Z a0 hw [] b78 b70 k70 x0 x1 y0_77 zc h78 n0 (Nat.le_trans Z0 KC.1) O0 F_value_b78 F_coder_b78 A78 g_b78 V_cs_77 S_CS hz hx0 hx1 hq77_0) hZ (ww hw 6 rfl) (ww hw 3 rfl) (by decide) (by decide)) (g := (mkF m 137 #[vi p1, vi p2, vi p3, vi p4, vi (3 : Int32), vi x0, vi x1, vi x2, vr b70, un, un] [(.ref b70), (.ref b78), (.ref b78)])) rfl (by rw [hml]; rfl) (Steps.refl _) (a := b78) (argsL := [(.ref b70)]) (rest := [(.ref b78)]) (lenOf pd_30 rfl) rfl (by show 2 * 0 + _ ≤ _; exact Nat.le_of_eq rfl) (hb hby at_137) (fun _ _ => ⟨rfl, e78, (by decide : 2 + 1 ≤ _), (by decide : 7 + 3 ≤ _)⟩)
    dsimp only [Pt.U, Pt.locs, Pt.cells, Pt.slots] at X79 l79 y79 z79 st79 hQ79
    subst l79 y79 z79
    obtain ⟨b79_tz, kb_79, rfl, N79q, K79, sz_b79_tz, F_value_a1_79, F_coder_a1_79, V_tz_79⟩ := hQ79
    have N79 := Fr.app N77 N79q
    have Sf_b79_tz : Safe Z EL s.vm h78 b79_tz := Safe.new sz_b79_tz
    have ne_b70_b79_tz : b70 ≠ b79_tz := Nat.ne_of_lt (Nat.lt_of_lt_of_le V_cs_77.lt sz_b79_tz)
    have ne_b78_b79_tz : b78 ≠ b79_tz := Nat.ne_of_lt (Nat.lt_of_lt_of_le A78.lt sz_b79_tz)
    have g_b79_tz : n0 ≤ b79_tz := Nat.le_trans (Nat.le_trans Z0 KC.1) sz_b79_tz
    replace sz_b79_tz : h0.size ≤ b79_tz := Nat.le_trans KC.1 sz_b79_tz
    have hsf79 := (sfS (own_safe (EL := EL) hZ.alike A78 F_value_b78) sf0)
    replace Sf_b79_tz := Safe.keep K79 hsf79 hC.1 Sf_b79_tz
    replace hk := Nat.le_trans hk K79.1
    replace hC := hC.trans (CHr.keep K79 hsf79 hC.1)
    replace V_cs_77 := V_cs_77.keep K79 (ninS ne_b70_b78 nin0)
    replace A78 := A78.keep K79
    replace O0 := O0.keep K79 (allS g_b78 all0)
    replace KC := KC.trans K79 (allS (Or.inr sz_b78) all0)
    obtain ⟨_, _, ⟨T80, L80, kz80, nz80⟩, -, X80, hS80, gr80, ⟨Lc80, hQ80, l80, y80, z80, C80⟩, st80⟩ := callSS X79 hx (y := y_43) hown (mvT hZ (ww hw 22 rfl)) (mvT hZ (ww hw 23 rfl)) (mvT hZ (ww hw 24 rfl)) (mvT hZ (ww hw 25 rfl)) (by decide) (backOfSH (W := 0) (rm_und l Z a0 hw [] b78 b79_tz kb_79 (3 : Int32) [(.int (own_b x0)), (.int (own_b x1)), (.int (own_b y0_77))] [(.int (own_b x0)), (.int (own_b x1)), (.int (own_b y0_77)), nO, nO, nO, nO, nO, nO, nO, nO, nO, nO, nO, nO, nO] [(.int (own_b x0)), (.int (own_b x1)), (.int (own_b y0_77)), (.int (47 : Int32)), (.int (105 : Int32)), (.int (100 : Int32)), (.int (112 : Int32)), nO, nO, nO, nO, nO, nO, nO, nO, nO] (7 : Int32) [(.int (own_b x0)), (.int (own_b x1)), (.int (own_b y0_77)), (.int (47 : Int32)), (.int (105 : Int32)), (.int (100 : Int32)), (.int (112 : Int32)), nO, nO, nO, nO, nO, nO, nO, nO, nO] [(.int (own_b x0)), (.int (own_b x1)), (.int (own_b y0_77)), (.int (47 : Int32)), (.int (109 : Int32)), (.int (101 : Int32)), (.int (116 : Int32)), (.int (97 : Int32)), (.int (100 : Int32)), (.int (97 : Int32)), (.int (116 : Int32)), (.int (97 : Int32)), nO, nO, nO, nO] (12 : Int32) [(.int (own_b x0)), (.int (own_b x1)), (.int (own_b y0_77)), (.int (47 : Int32)), (.int (109 : Int32)), (.int (101 : Int32)), (.int (116 : Int32)), (.int (97 : Int32)), (.int (100 : Int32)), (.int (97 : Int32)), (.int (116 : Int32)), (.int (97 : Int32)), nO, nO, nO, nO] [(.int (own_b x0)), (.int (own_b x1)), (.int (own_b y0_77)), (.int (47 : Int32)), (.int (115 : Int32)), (.int (115 : Int32)), (.int (111 : Int32)), nO, nO, nO, nO, nO, nO, nO, nO, nO] (7 : Int32) [(.int (own_b x0)), (.int (own_b x1)), (.int (own_b y0_77)), (.int (47 : Int32)), (.int (115 : Int32)), (.int (115 : Int32)), (.int (111 : Int32)), nO, nO, nO, nO, nO, nO, nO, nO, nO] [(.int (own_b x0)), (.int (own_b x1)), (.int (own_b y0_77)), (.int (47 : Int32)), (.int (115 : Int32)), (.int (108 : Int32)), (.int (111 : Int32)), nO, nO, nO, nO, nO, nO, nO, nO, nO] (7 : Int32) [(.int (own_b x0)), (.int (own_b x1)), (.int (own_b y0_77)), (.int (47 : Int32)), (.int (115 : Int32)), (.int (108 : Int32)), (.int (111 : Int32)), nO, nO, nO, nO, nO, nO, nO, nO, nO] zc T79.heap n0 (Nat.le_trans Z0 KC.1) O0 A78 F_value_a1_79 F_coder_a1_79 V_tz_79 S_CS hz (Or.inr (Or.inr (Or.inr ⟨rfl, _, rfl, hq77_1⟩))) (by decide) (by decide) rfl (by decide) (by decide) (Nat.le_of_ble_eq_true rfl) rfl (by decide) (by decide) (by decide) (by decide) (by decide) rfl (by decide) (Nat.le_of_ble_eq_true rfl) rfl (by decide) (by decide) (by decide) (by decide) (by decide) rfl (by decide) (Nat.le_of_ble_eq_true rfl) rfl (by decide) (by decide) (by decide) (by decide) (by decide) rfl (by decide) (Nat.le_of_ble_eq_true rfl) rfl (by decide) (by decide) (by decide) (by decide) (by decide) rfl) hZ (ww hw 25 rfl) (ww hw 24 rfl) (by decide) (by decide) hEL hC.1) (g := (mkF m 144 #[vi p1, vi p2, vi p3, vi p4, vi (3 : Int32), vi x0, vi x1, vi x2, vr b70, vr b78, un] [(.ref b78)])) rfl (by rw [hml]; rfl) (argsL := [(.ref b78)]) (rest := []) (lenOf pd_31 rfl) rfl (by show 2 * 0 + _ ≤ _; exact Nat.le_of_eq rfl) (hb hby at_144) (fun _ _ => ⟨rfl, rfl, (by decide : 3 + 27 ≤ _), (by decide : 10 + 272 ≤ _)⟩)
    dsimp only [Pt.U, Pt.locs, Pt.cells, Pt.slots] at X80 l80 y80 z80 st80 hQ80 hS80 gr80 C80
    subst l80 y80 z80
    replace Sf_b79_tz := C80.safe V_tz_79.lt Sf_b79_tz
    obtain ⟨Xr80, hSr80, hZr80, hownr80⟩ := rebS hS hk X80 hS80 gr80 hZ hown
    replace hC := hC.trans C80
    replace hZ := hZr80
    replace hown := hownr80
    replace hS := hSr80
    replace hk : T80.heap.size ≤ T80.heap.size := Nat.le_refl _
    replace X80 := Xr80
    obtain ⟨b80_e0, sA_80, tA_80, kA_80, sB_80, tB_80, kB_80, sC_80, tC_80, kC_80, sD_80, tD_80, kD_80, rfl, N80q, K80, sz_b80_e0, E_e0_80, F_entityId_e0_80, F_metadata_e0_80, F_singleSignOn_e0_80, F_singleLogout_e0_80, E_sA_80, F_value_sA_80, F_coder_sA_80, V_tA_80, E_sB_80, F_value_sB_80, F_coder_sB_80, V_tB_80, E_sC_80, F_value_sC_80, F_coder_sC_80, V_tC_80, E_sD_80, F_value_sD_80, F_coder_sD_80, V_tD_80⟩ := hQ80
    have N80 := Fr.app N79 N80q
    have ne_b70_b80_e0 : b70 ≠ b80_e0 := Nat.ne_of_lt (Nat.lt_of_lt_of_le V_cs_77.lt sz_b80_e0)
    have ne_b78_b80_e0 : b78 ≠ b80_e0 := Nat.ne_of_lt (Nat.lt_of_lt_of_le A78.lt sz_b80_e0)
    have ne_b79_tz_b80_e0 : b79_tz ≠ b80_e0 := Nat.ne_of_lt (Nat.lt_of_lt_of_le V_tz_79.lt sz_b80_e0)
    have g_b80_e0 : n0 ≤ b80_e0 := Nat.le_trans (Nat.le_trans Z0 KC.1) sz_b80_e0
    replace sz_b80_e0 : h0.size ≤ b80_e0 := Nat.le_trans KC.1 sz_b80_e0
    replace V_cs_77 := V_cs_77.keep K80 nin0
    replace A78 := A78.keep K80
    replace F_value_a1_79 := F_value_a1_79.keep K80 nin0
    replace F_coder_a1_79 := F_coder_a1_79.keep K80 nin0
    replace V_tz_79 := V_tz_79.keep K80 nin0
    replace O0 := O0.keep K80 all0
    replace KC := KC.trans K80 all0
    obtain ⟨cq81, kq81, q81a, q81b, q81c⟩ := isOf hZ rfl E_e0_80
    obtain ⟨_, _, ⟨T81, L81, kz81, nz81⟩, -, X81, ⟨Lc81, hQ81, l81, y81, z81⟩, st81⟩ := X80.virtualBack hx (y := y_39) (z := y_39) hown (mvT hZ (ww hw 172 rfl)) (mvT hZ (ww hw 173 rfl)) (notFace_of_selects (args := #[]) (mvT hZ (ww hw 175 rfl))) (mvT hZ (ww hw 175 rfl)) (mvT hZ (ww hw 174 rfl)) (by decide) (backOf (W := 0) (rm_get_entityId l Z a0 hw [] b80_e0 sA_80 T80.heap n0 (Nat.le_trans Z0 KC.1) O0 F_entityId_e0_80) hZ (ww hw 176 rfl) (ww hw 24 rfl) (by decide) (by decide)) q81a q81c (g := (mkF m 156 #[vi p1, vi p2, vi p3, vi p4, vi (3 : Int32), vi x0, vi x1, vi x2, vr b70, vr b78, vr b80_e0] [(.ref b80_e0)])) rfl (by rw [hml]; rfl) (Steps.refl _) (argsL := []) (rest := []) (lenOf pd_28 rfl) rfl (by show 2 * 0 + _ ≤ _; exact Nat.le_of_eq rfl) (hb hby at_156) (fun _ _ => ⟨rfl, rfl, (by decide : 30 + 0 ≤ _), (by decide : 282 + 0 ≤ _)⟩)
    dsimp only [Pt.U, Pt.locs, Pt.cells, Pt.slots] at X81 l81 y81 z81 st81 hQ81
    subst l81 y81 z81
    obtain ⟨rfl, N81q, e81⟩ := hQ81
    have N81 := Fr.app N80 N81q
    obtain ⟨sa82, T82, h82, kx82, sb82, kc82, X82, e82, E82, hS82, hk82, hZ82, hown82, Ex82, Fc82, Fv82, Vv82, -, -, C82, -, nx82, st82⟩ := ldcCH X81 hx hZ hown (ww hw 177 rfl) wS e81 hS hk hEL (by decide) hC.1 (vs := [(.int (47 : Int32)), (.int (105 : Int32)), (.int (100 : Int32)), (.int (112 : Int32))]) (z := (4 : Int32)) ⟨by decide, by first | rfl | decide⟩ (by decide) (by first | rfl | decide) (g := (mkF m 161 #[vi p1, vi p2, vi p3, vi p4, vi (3 : Int32), vi x0, vi x1, vi x2, vr b70, vr b78, vr b80_e0] [(.ref b78), (.ref sA_80)])) rfl (hb hby at_161) (n := 16) (by decide) (by decide) (by decide) (by decide)
    replace Sf_b79_tz := C82.safe V_tz_79.lt Sf_b79_tz
    replace V_cs_77 := V_cs_77.ext E82
    replace A78 := A78.ext E82
    replace F_value_a1_79 := F_value_a1_79.ext E82
    replace F_coder_a1_79 := F_coder_a1_79.ext E82
    replace V_tz_79 := V_tz_79.ext E82
    replace E_e0_80 := E_e0_80.ext E82
    replace F_entityId_e0_80 := F_entityId_e0_80.ext E82
    replace F_metadata_e0_80 := F_metadata_e0_80.ext E82
    replace F_singleSignOn_e0_80 := F_singleSignOn_e0_80.ext E82
    replace F_singleLogout_e0_80 := F_singleLogout_e0_80.ext E82
    replace E_sA_80 := E_sA_80.ext E82
    replace F_value_sA_80 := F_value_sA_80.ext E82
    replace F_coder_sA_80 := F_coder_sA_80.ext E82
    replace V_tA_80 := V_tA_80.ext E82
    replace E_sB_80 := E_sB_80.ext E82
    replace F_value_sB_80 := F_value_sB_80.ext E82
    replace F_coder_sB_80 := F_coder_sB_80.ext E82
    replace V_tB_80 := V_tB_80.ext E82
    replace E_sC_80 := E_sC_80.ext E82
    replace F_value_sC_80 := F_value_sC_80.ext E82
    replace F_coder_sC_80 := F_coder_sC_80.ext E82
    replace V_tC_80 := V_tC_80.ext E82
    replace E_sD_80 := E_sD_80.ext E82
    replace F_value_sD_80 := F_value_sD_80.ext E82
    replace F_coder_sD_80 := F_coder_sD_80.ext E82
    replace V_tD_80 := V_tD_80.ext E82
    replace O0 := O0.ext E82
    replace KC := KC.ext E82
    replace hC := hC.trans C82
    replace hZ := hZ82
    replace hown := hown82
    replace hS := hS82
    replace hk := hk82
    have nx82_b79_tz := nx82 _ Sf_b79_tz
    obtain ⟨_, _, ⟨T83, L83, kz83, nz83⟩, -, X83, ⟨Lc83, hQ83, l83, y83, z83⟩, st83⟩ := Jvm.LawKit.callS X82 hx (y := y_37) hown (mvT hZ (ww hw 178 rfl)) (mvT hZ (ww hw 179 rfl)) (mvT hZ (ww hw 180 rfl)) (mvT hZ (ww hw 181 rfl)) (by decide) (backOf (W := 0) (rm_is l Z a0 hw [] sA_80 b78 sa82 tA_80 kA_80 (7 : Int32) [(.int (own_b x0)), (.int (own_b x1)), (.int (own_b y0_77)), (.int (47 : Int32)), (.int (105 : Int32)), (.int (100 : Int32)), (.int (112 : Int32)), nO, nO, nO, nO, nO, nO, nO, nO, nO] b79_tz kb_79 (3 : Int32) [(.int (own_b x0)), (.int (own_b x1)), (.int (own_b y0_77))] sb82 kc82 (4 : Int32) [(.int (47 : Int32)), (.int (105 : Int32)), (.int (100 : Int32)), (.int (112 : Int32))] zc fm h82 n0 (Nat.le_trans Z0 KC.1) O0 E_sA_80 F_value_sA_80 F_coder_sA_80 V_tA_80 A78 F_value_a1_79 F_coder_a1_79 V_tz_79 Ex82 Fv82 Fc82 Vv82 S_CS hz S_FM hW_fm (by decide) (fun kk q0 q1 => by rcases own_f3 q0 q1 with rfl | rfl | rfl <;> exact ⟨by decide, by decide, _, rfl, rfl⟩) (fun kk q0 q1 => by rcases own_f4 q0 q1 with rfl | rfl | rfl | rfl <;> exact ⟨by decide, by decide, _, rfl, rfl⟩)) hZ (ww hw 181 rfl) (ww hw 180 rfl) (by decide) (by decide)) (g := (mkF m 163 #[vi p1, vi p2, vi p3, vi p4, vi (3 : Int32), vi x0, vi x1, vi x2, vr b70, vr b78, vr b80_e0] [(.ref sa82), (.ref b78), (.ref sA_80)])) rfl (by rw [hml]; rfl) (argsL := [(.ref sA_80), (.ref b78), (.ref sa82)]) (rest := []) (lenOf pd_32 rfl) rfl (by show 2 * 0 + _ ≤ _; exact Nat.le_of_eq rfl) (hb hby at_163) (fun _ _ => ⟨rfl, e82, (by decide : 32 + 0 ≤ _), (by decide : 302 + 0 ≤ _)⟩)
    dsimp only [Pt.U, Pt.locs, Pt.cells, Pt.slots] at X83 l83 y83 z83 st83 hQ83
    subst l83 y83 z83
    obtain ⟨rfl, N83q, e83⟩ := hQ83
    have N83 := Fr.app N81 N83q
    obtain ⟨cq84, kq84, q84a, q84b, q84c⟩ := isOf hZ e83 E_e0_80
    obtain ⟨_, _, ⟨T84, L84, kz84, nz84⟩, -, X84, ⟨Lc84, hQ84, l84, y84, z84⟩, st84⟩ := X83.virtualBack hx (y := y_40) (z := y_40) hown (mvT hZ (ww hw 211 rfl)) (mvT hZ (ww hw 212 rfl)) (notFace_of_selects (args := #[]) (mvT hZ (ww hw 214 rfl))) (mvT hZ (ww hw 214 rfl)) (mvT hZ (ww hw 213 rfl)) (by decide) (backOf (W := 0) (rm_get_metadata l Z a0 hw [] b80_e0 sB_80 h82 n0 (Nat.le_trans Z0 KC.1) O0 F_metadata_e0_80) hZ (ww hw 215 rfl) (ww hw 24 rfl) (by decide) (by decide)) q84a q84c (g := (mkF m 171 #[vi p1, vi p2, vi p3, vi p4, vi (3 : Int32), vi x0, vi x1, vi x2, vr b70, vr b78, vr b80_e0] [(.ref b80_e0)])) rfl (by rw [hml]; rfl) (Steps.refl _) (argsL := []) (rest := []) (lenOf pd_28 rfl) rfl (by show 2 * 0 + _ ≤ _; exact Nat.le_of_eq rfl) (hb hby at_171) (fun _ _ => ⟨rfl, e83, (by decide : 32 + 0 ≤ _), (by decide : 302 + 0 ≤ _)⟩)
    dsimp only [Pt.U, Pt.locs, Pt.cells, Pt.slots] at X84 l84 y84 z84 st84 hQ84
    subst l84 y84 z84
    obtain ⟨rfl, N84q, e84⟩ := hQ84
    have N84 := Fr.app N83 N84q
    obtain ⟨sa85, T85, h85, kx85, sb85, kc85, X85, e85, E85, hS85, hk85, hZ85, hown85, Ex85, Fc85, Fv85, Vv85, -, -, C85, -, nx85, st85⟩ := ldcCH X84 hx hZ hown (ww hw 216 rfl) wS e84 hS hk hEL (by decide) hC.1 (vs := [(.int (47 : Int32)), (.int (109 : Int32)), (.int (101 : Int32)), (.int (116 : Int32)), (.int (97 : Int32)), (.int (100 : Int32)), (.int (97 : Int32)), (.int (116 : Int32)), (.int (97 : Int32))]) (z := (9 : Int32)) ⟨by decide, by first | rfl | decide⟩ (by decide) (by first | rfl | decide) (g := (mkF m 176 #[vi p1, vi p2, vi p3, vi p4, vi (3 : Int32), vi x0, vi x1, vi x2, vr b70, vr b78, vr b80_e0] [(.ref b78), (.ref sB_80)])) rfl (hb hby at_176) (n := 36) (by decide) (by decide) (by decide) (by decide)
    replace Sf_b79_tz := C85.safe V_tz_79.lt Sf_b79_tz
    replace V_cs_77 := V_cs_77.ext E85
    replace A78 := A78.ext E85
    replace F_value_a1_79 := F_value_a1_79.ext E85
    replace F_coder_a1_79 := F_coder_a1_79.ext E85
    replace V_tz_79 := V_tz_79.ext E85
    replace E_e0_80 := E_e0_80.ext E85
    replace F_entityId_e0_80 := F_entityId_e0_80.ext E85
    replace F_metadata_e0_80 := F_metadata_e0_80.ext E85
    replace F_singleSignOn_e0_80 := F_singleSignOn_e0_80.ext E85
    replace F_singleLogout_e0_80 := F_singleLogout_e0_80.ext E85
    replace E_sA_80 := E_sA_80.ext E85
    replace F_value_sA_80 := F_value_sA_80.ext E85
    replace F_coder_sA_80 := F_coder_sA_80.ext E85
    replace V_tA_80 := V_tA_80.ext E85
    replace E_sB_80 := E_sB_80.ext E85
    replace F_value_sB_80 := F_value_sB_80.ext E85
    replace F_coder_sB_80 := F_coder_sB_80.ext E85
    replace V_tB_80 := V_tB_80.ext E85
    replace E_sC_80 := E_sC_80.ext E85
    replace F_value_sC_80 := F_value_sC_80.ext E85
    replace F_coder_sC_80 := F_coder_sC_80.ext E85
    replace V_tC_80 := V_tC_80.ext E85
    replace E_sD_80 := E_sD_80.ext E85
    replace F_value_sD_80 := F_value_sD_80.ext E85
    replace F_coder_sD_80 := F_coder_sD_80.ext E85
    replace V_tD_80 := V_tD_80.ext E85
    replace Ex82 := Ex82.ext E85
    replace Fc82 := Fc82.ext E85
    replace Fv82 := Fv82.ext E85
    replace Vv82 := Vv82.ext E85
    replace O0 := O0.ext E85
    replace KC := KC.ext E85
    replace hC := hC.trans C85
    replace hZ := hZ85
    replace hown := hown85
    replace hS := hS85
    replace hk := hk85
    have nx85_b79_tz := nx85 _ Sf_b79_tz
    obtain ⟨_, _, ⟨T86, L86, kz86, nz86⟩, -, X86, ⟨Lc86, hQ86, l86, y86, z86⟩, st86⟩ := Jvm.LawKit.callS X85 hx (y := y_37) hown (mvT hZ (ww hw 178 rfl)) (mvT hZ (ww hw 179 rfl)) (mvT hZ (ww hw 180 rfl)) (mvT hZ (ww hw 181 rfl)) (by decide) (backOf (W := 0) (rm_is l Z a0 hw [] sB_80 b78 sa85 tB_80 kB_80 (12 : Int32) [(.int (own_b x0)), (.int (own_b x1)), (.int (own_b y0_77)), (.int (47 : Int32)), (.int (109 : Int32)), (.int (101 : Int32)), (.int (116 : Int32)), (.int (97 : Int32)), (.int (100 : Int32)), (.int (97 : Int32)), (.int (116 : Int32)), (.int (97 : Int32)), nO, nO, nO, nO] b79_tz kb_79 (3 : Int32) [(.int (own_b x0)), (.int (own_b x1)), (.int (own_b y0_77))] sb85 kc85 (9 : Int32) [(.int (47 : Int32)), (.int (109 : Int32)), (.int (101 : Int32)), (.int (116 : Int32)), (.int (97 : Int32)), (.int (100 : Int32)), (.int (97 : Int32)), (.int (116 : Int32)), (.int (97 : Int32))] zc fm h85 n0 (Nat.le_trans Z0 KC.1) O0 E_sB_80 F_value_sB_80 F_coder_sB_80 V_tB_80 A78 F_value_a1_79 F_coder_a1_79 V_tz_79 Ex85 Fv85 Fc85 Vv85 S_CS hz S_FM hW_fm (by decide) (fun kk q0 q1 => by rcases own_f3 q0 q1 with rfl | rfl | rfl <;> exact ⟨by decide, by decide, _, rfl, rfl⟩) (fun kk q0 q1 => by rcases own_f9 q0 q1 with rfl | rfl | rfl | rfl | rfl | rfl | rfl | rfl | rfl <;> exact ⟨by decide, by decide, _, rfl, rfl⟩)) hZ (ww hw 181 rfl) (ww hw 180 rfl) (by decide) (by decide)) (g := (mkF m 178 #[vi p1, vi p2, vi p3, vi p4, vi (3 : Int32), vi x0, vi x1, vi x2, vr b70, vr b78, vr b80_e0] [(.ref sa85), (.ref b78), (.ref sB_80)])) rfl (by rw [hml]; rfl) (argsL := [(.ref sB_80), (.ref b78), (.ref sa85)]) (rest := []) (lenOf pd_32 rfl) rfl (by show 2 * 0 + _ ≤ _; exact Nat.le_of_eq rfl) (hb hby at_178) (fun _ _ => ⟨rfl, e85, (by decide : 34 + 0 ≤ _), (by decide : 342 + 0 ≤ _)⟩)
    dsimp only [Pt.U, Pt.locs, Pt.cells, Pt.slots] at X86 l86 y86 z86 st86 hQ86
    subst l86 y86 z86
    obtain ⟨rfl, N86q, e86⟩ := hQ86
    have N86 := Fr.app N84 N86q
    obtain ⟨cq87, kq87, q87a, q87b, q87c⟩ := isOf hZ e86 E_e0_80
    obtain ⟨_, _, ⟨T87, L87, kz87, nz87⟩, -, X87, ⟨Lc87, hQ87, l87, y87, z87⟩, st87⟩ := X86.virtualBack hx (y := y_41) (z := y_41) hown (mvT hZ (ww hw 217 rfl)) (mvT hZ (ww hw 218 rfl)) (notFace_of_selects (args := #[]) (mvT hZ (ww hw 220 rfl))) (mvT hZ (ww hw 220 rfl)) (mvT hZ (ww hw 219 rfl)) (by decide) (backOf (W := 0) (rm_get_singleSignOn l Z a0 hw [] b80_e0 sC_80 h85 n0 (Nat.le_trans Z0 KC.1) O0 F_singleSignOn_e0_80) hZ (ww hw 221 rfl) (ww hw 24 rfl) (by decide) (by decide)) q87a q87c (g := (mkF m 186 #[vi p1, vi p2, vi p3, vi p4, vi (3 : Int32), vi x0, vi x1, vi x2, vr b70, vr b78, vr b80_e0] [(.ref b80_e0)])) rfl (by rw [hml]; rfl) (Steps.refl _) (argsL := []) (rest := []) (lenOf pd_28 rfl) rfl (by show 2 * 0 + _ ≤ _; exact Nat.le_of_eq rfl) (hb hby at_186) (fun _ _ => ⟨rfl, e86, (by decide : 34 + 0 ≤ _), (by decide : 342 + 0 ≤ _)⟩)
    dsimp only [Pt.U, Pt.locs, Pt.cells, Pt.slots] at X87 l87 y87 z87 st87 hQ87
    subst l87 y87 z87
    obtain ⟨rfl, N87q, e87⟩ := hQ87
    have N87 := Fr.app N86 N87q
    obtain ⟨sa88, T88, h88, kx88, sb88, kc88, X88, e88, E88, hS88, hk88, hZ88, hown88, Ex88, Fc88, Fv88, Vv88, -, -, C88, -, nx88, st88⟩ := ldcCH X87 hx hZ hown (ww hw 222 rfl) wS e87 hS hk hEL (by decide) hC.1 (vs := [(.int (47 : Int32)), (.int (115 : Int32)), (.int (115 : Int32)), (.int (111 : Int32))]) (z := (4 : Int32)) ⟨by decide, by first | rfl | decide⟩ (by decide) (by first | rfl | decide) (g := (mkF m 191 #[vi p1, vi p2, vi p3, vi p4, vi (3 : Int32), vi x0, vi x1, vi x2, vr b70, vr b78, vr b80_e0] [(.ref b78), (.ref sC_80)])) rfl (hb hby at_191) (n := 16) (by decide) (by decide) (by decide) (by decide)
    replace Sf_b79_tz := C88.safe V_tz_79.lt Sf_b79_tz
    replace V_cs_77 := V_cs_77.ext E88
    replace A78 := A78.ext E88
    replace F_value_a1_79 := F_value_a1_79.ext E88
    replace F_coder_a1_79 := F_coder_a1_79.ext E88
    replace V_tz_79 := V_tz_79.ext E88
    replace E_e0_80 := E_e0_80.ext E88
    replace F_entityId_e0_80 := F_entityId_e0_80.ext E88
    replace F_metadata_e0_80 := F_metadata_e0_80.ext E88
    replace F_singleSignOn_e0_80 := F_singleSignOn_e0_80.ext E88
    replace F_singleLogout_e0_80 := F_singleLogout_e0_80.ext E88
    replace E_sA_80 := E_sA_80.ext E88
    replace F_value_sA_80 := F_value_sA_80.ext E88
    replace F_coder_sA_80 := F_coder_sA_80.ext E88
    replace V_tA_80 := V_tA_80.ext E88
    replace E_sB_80 := E_sB_80.ext E88
    replace F_value_sB_80 := F_value_sB_80.ext E88
    replace F_coder_sB_80 := F_coder_sB_80.ext E88
    replace V_tB_80 := V_tB_80.ext E88
    replace E_sC_80 := E_sC_80.ext E88
    replace F_value_sC_80 := F_value_sC_80.ext E88
    replace F_coder_sC_80 := F_coder_sC_80.ext E88
    replace V_tC_80 := V_tC_80.ext E88
    replace E_sD_80 := E_sD_80.ext E88
    replace F_value_sD_80 := F_value_sD_80.ext E88
    replace F_coder_sD_80 := F_coder_sD_80.ext E88
    replace V_tD_80 := V_tD_80.ext E88
    replace Ex82 := Ex82.ext E88
    replace Fc82 := Fc82.ext E88
    replace Fv82 := Fv82.ext E88
    replace Vv82 := Vv82.ext E88
    replace Ex85 := Ex85.ext E88
    replace Fc85 := Fc85.ext E88
    replace Fv85 := Fv85.ext E88
    replace Vv85 := Vv85.ext E88
    replace O0 := O0.ext E88
    replace KC := KC.ext E88
    replace hC := hC.trans C88
    replace hZ := hZ88
    replace hown := hown88
    replace hS := hS88
    replace hk := hk88
    have nx88_b79_tz := nx88 _ Sf_b79_tz
    obtain ⟨_, _, ⟨T89, L89, kz89, nz89⟩, -, X89, ⟨Lc89, hQ89, l89, y89, z89⟩, st89⟩ := Jvm.LawKit.callS X88 hx (y := y_37) hown (mvT hZ (ww hw 178 rfl)) (mvT hZ (ww hw 179 rfl)) (mvT hZ (ww hw 180 rfl)) (mvT hZ (ww hw 181 rfl)) (by decide) (backOf (W := 0) (rm_is l Z a0 hw [] sC_80 b78 sa88 tC_80 kC_80 (7 : Int32) [(.int (own_b x0)), (.int (own_b x1)), (.int (own_b y0_77)), (.int (47 : Int32)), (.int (115 : Int32)), (.int (115 : Int32)), (.int (111 : Int32)), nO, nO, nO, nO, nO, nO, nO, nO, nO] b79_tz kb_79 (3 : Int32) [(.int (own_b x0)), (.int (own_b x1)), (.int (own_b y0_77))] sb88 kc88 (4 : Int32) [(.int (47 : Int32)), (.int (115 : Int32)), (.int (115 : Int32)), (.int (111 : Int32))] zc fm h88 n0 (Nat.le_trans Z0 KC.1) O0 E_sC_80 F_value_sC_80 F_coder_sC_80 V_tC_80 A78 F_value_a1_79 F_coder_a1_79 V_tz_79 Ex88 Fv88 Fc88 Vv88 S_CS hz S_FM hW_fm (by decide) (fun kk q0 q1 => by rcases own_f3 q0 q1 with rfl | rfl | rfl <;> exact ⟨by decide, by decide, _, rfl, rfl⟩) (fun kk q0 q1 => by rcases own_f4 q0 q1 with rfl | rfl | rfl | rfl <;> exact ⟨by decide, by decide, _, rfl, rfl⟩)) hZ (ww hw 181 rfl) (ww hw 180 rfl) (by decide) (by decide)) (g := (mkF m 193 #[vi p1, vi p2, vi p3, vi p4, vi (3 : Int32), vi x0, vi x1, vi x2, vr b70, vr b78, vr b80_e0] [(.ref sa88), (.ref b78), (.ref sC_80)])) rfl (by rw [hml]; rfl) (argsL := [(.ref sC_80), (.ref b78), (.ref sa88)]) (rest := []) (lenOf pd_32 rfl) rfl (by show 2 * 0 + _ ≤ _; exact Nat.le_of_eq rfl) (hb hby at_193) (fun _ _ => ⟨rfl, e88, (by decide : 36 + 0 ≤ _), (by decide : 362 + 0 ≤ _)⟩)
    dsimp only [Pt.U, Pt.locs, Pt.cells, Pt.slots] at X89 l89 y89 z89 st89 hQ89
    subst l89 y89 z89
    obtain ⟨rfl, N89q, e89⟩ := hQ89
    have N89 := Fr.app N87 N89q
    obtain ⟨cq90, kq90, q90a, q90b, q90c⟩ := isOf hZ e89 E_e0_80
    obtain ⟨_, _, ⟨T90, L90, kz90, nz90⟩, -, X90, ⟨Lc90, hQ90, l90, y90, z90⟩, st90⟩ := X89.virtualBack hx (y := y_42) (z := y_42) hown (mvT hZ (ww hw 223 rfl)) (mvT hZ (ww hw 224 rfl)) (notFace_of_selects (args := #[]) (mvT hZ (ww hw 226 rfl))) (mvT hZ (ww hw 226 rfl)) (mvT hZ (ww hw 225 rfl)) (by decide) (backOf (W := 0) (rm_get_singleLogout l Z a0 hw [] b80_e0 sD_80 h88 n0 (Nat.le_trans Z0 KC.1) O0 F_singleLogout_e0_80) hZ (ww hw 227 rfl) (ww hw 24 rfl) (by decide) (by decide)) q90a q90c (g := (mkF m 201 #[vi p1, vi p2, vi p3, vi p4, vi (3 : Int32), vi x0, vi x1, vi x2, vr b70, vr b78, vr b80_e0] [(.ref b80_e0)])) rfl (by rw [hml]; rfl) (Steps.refl _) (argsL := []) (rest := []) (lenOf pd_28 rfl) rfl (by show 2 * 0 + _ ≤ _; exact Nat.le_of_eq rfl) (hb hby at_201) (fun _ _ => ⟨rfl, e89, (by decide : 36 + 0 ≤ _), (by decide : 362 + 0 ≤ _)⟩)
    dsimp only [Pt.U, Pt.locs, Pt.cells, Pt.slots] at X90 l90 y90 z90 st90 hQ90
    subst l90 y90 z90
    obtain ⟨rfl, N90q, e90⟩ := hQ90
    have N90 := Fr.app N89 N90q
    obtain ⟨sa91, T91, h91, kx91, sb91, kc91, X91, e91, E91, hS91, hk91, hZ91, hown91, Ex91, Fc91, Fv91, Vv91, -, -, C91, -, nx91, st91⟩ := ldcCH X90 hx hZ hown (ww hw 228 rfl) wS e90 hS hk hEL (by decide) hC.1 (vs := [(.int (47 : Int32)), (.int (115 : Int32)), (.int (108 : Int32)), (.int (111 : Int32))]) (z := (4 : Int32)) ⟨by decide, by first | rfl | decide⟩ (by decide) (by first | rfl | decide) (g := (mkF m 206 #[vi p1, vi p2, vi p3, vi p4, vi (3 : Int32), vi x0, vi x1, vi x2, vr b70, vr b78, vr b80_e0] [(.ref b78), (.ref sD_80)])) rfl (hb hby at_206) (n := 16) (by decide) (by decide) (by decide) (by decide)
    replace Sf_b79_tz := C91.safe V_tz_79.lt Sf_b79_tz
    replace V_cs_77 := V_cs_77.ext E91
    replace A78 := A78.ext E91
    replace F_value_a1_79 := F_value_a1_79.ext E91
    replace F_coder_a1_79 := F_coder_a1_79.ext E91
    replace V_tz_79 := V_tz_79.ext E91
    replace E_e0_80 := E_e0_80.ext E91
    replace F_entityId_e0_80 := F_entityId_e0_80.ext E91
    replace F_metadata_e0_80 := F_metadata_e0_80.ext E91
    replace F_singleSignOn_e0_80 := F_singleSignOn_e0_80.ext E91
    replace F_singleLogout_e0_80 := F_singleLogout_e0_80.ext E91
    replace E_sA_80 := E_sA_80.ext E91
    replace F_value_sA_80 := F_value_sA_80.ext E91
    replace F_coder_sA_80 := F_coder_sA_80.ext E91
    replace V_tA_80 := V_tA_80.ext E91
    replace E_sB_80 := E_sB_80.ext E91
    replace F_value_sB_80 := F_value_sB_80.ext E91
    replace F_coder_sB_80 := F_coder_sB_80.ext E91
    replace V_tB_80 := V_tB_80.ext E91
    replace E_sC_80 := E_sC_80.ext E91
    replace F_value_sC_80 := F_value_sC_80.ext E91
    replace F_coder_sC_80 := F_coder_sC_80.ext E91
    replace V_tC_80 := V_tC_80.ext E91
    replace E_sD_80 := E_sD_80.ext E91
    replace F_value_sD_80 := F_value_sD_80.ext E91
    replace F_coder_sD_80 := F_coder_sD_80.ext E91
    replace V_tD_80 := V_tD_80.ext E91
    replace Ex82 := Ex82.ext E91
    replace Fc82 := Fc82.ext E91
    replace Fv82 := Fv82.ext E91
    replace Vv82 := Vv82.ext E91
    replace Ex85 := Ex85.ext E91
    replace Fc85 := Fc85.ext E91
    replace Fv85 := Fv85.ext E91
    replace Vv85 := Vv85.ext E91
    replace Ex88 := Ex88.ext E91
    replace Fc88 := Fc88.ext E91
    replace Fv88 := Fv88.ext E91
    replace Vv88 := Vv88.ext E91
    replace O0 := O0.ext E91
    replace KC := KC.ext E91
    replace hC := hC.trans C91
    replace hZ := hZ91
    replace hown := hown91
    replace hS := hS91
    replace hk := hk91
    have nx91_b79_tz := nx91 _ Sf_b79_tz
    obtain ⟨_, _, ⟨T92, L92, kz92, nz92⟩, -, X92, ⟨Lc92, hQ92, l92, y92, z92⟩, st92⟩ := Jvm.LawKit.callS X91 hx (y := y_37) hown (mvT hZ (ww hw 178 rfl)) (mvT hZ (ww hw 179 rfl)) (mvT hZ (ww hw 180 rfl)) (mvT hZ (ww hw 181 rfl)) (by decide) (backOf (W := 0) (rm_is l Z a0 hw [] sD_80 b78 sa91 tD_80 kD_80 (7 : Int32) [(.int (own_b x0)), (.int (own_b x1)), (.int (own_b y0_77)), (.int (47 : Int32)), (.int (115 : Int32)), (.int (108 : Int32)), (.int (111 : Int32)), nO, nO, nO, nO, nO, nO, nO, nO, nO] b79_tz kb_79 (3 : Int32) [(.int (own_b x0)), (.int (own_b x1)), (.int (own_b y0_77))] sb91 kc91 (4 : Int32) [(.int (47 : Int32)), (.int (115 : Int32)), (.int (108 : Int32)), (.int (111 : Int32))] zc fm h91 n0 (Nat.le_trans Z0 KC.1) O0 E_sD_80 F_value_sD_80 F_coder_sD_80 V_tD_80 A78 F_value_a1_79 F_coder_a1_79 V_tz_79 Ex91 Fv91 Fc91 Vv91 S_CS hz S_FM hW_fm (by decide) (fun kk q0 q1 => by rcases own_f3 q0 q1 with rfl | rfl | rfl <;> exact ⟨by decide, by decide, _, rfl, rfl⟩) (fun kk q0 q1 => by rcases own_f4 q0 q1 with rfl | rfl | rfl | rfl <;> exact ⟨by decide, by decide, _, rfl, rfl⟩)) hZ (ww hw 181 rfl) (ww hw 180 rfl) (by decide) (by decide)) (g := (mkF m 208 #[vi p1, vi p2, vi p3, vi p4, vi (3 : Int32), vi x0, vi x1, vi x2, vr b70, vr b78, vr b80_e0] [(.ref sa91), (.ref b78), (.ref sD_80)])) rfl (by rw [hml]; rfl) (argsL := [(.ref sD_80), (.ref b78), (.ref sa91)]) (rest := []) (lenOf pd_32 rfl) rfl (by show 2 * 0 + _ ≤ _; exact Nat.le_of_eq rfl) (hb hby at_208) (fun _ _ => ⟨rfl, e91, (by decide : 38 + 0 ≤ _), (by decide : 382 + 0 ≤ _)⟩)
    dsimp only [Pt.U, Pt.locs, Pt.cells, Pt.slots] at X92 l92 y92 z92 st92 hQ92
    subst l92 y92 z92
    obtain ⟨rfl, N92q, e92⟩ := hQ92
    have N92 := Fr.app N90 N92q
    obtain ⟨fs, hr, hrun, hended, hRE⟩ := X92.leaveW hS (by rw [e92]; exact hk) (v := some (.int (1 : Int32))) (fun h => by rw [Bd.returns] at h; cases h)
    refine ⟨_, _, pre69 _ ?_, hrun, hended, _, _, rfl, ?_, ?_, hRE.1, hRE.2.1, hRE.2.2.1, hRE.2.2.2.mono (by decide) (by decide)⟩
    · show SS p e below m s₁ 27 #[vi p1, vi p2, vi p3, vi p4, vi (3 : Int32), vi x0, vi x1, un, un, un, un] [(.int x2)] _
      refine XS.istore X0.here hx rfl (hb hby at_27) rfl (l' := #[vi p1, vi p2, vi p3, vi p4, vi (3 : Int32), vi x0, vi x1, vi x2, un, un, un]) rfl ?_
      show SS p e below m s₁ 29 #[vi p1, vi p2, vi p3, vi p4, vi (3 : Int32), vi x0, vi x1, vi x2, un, un, un] [] _
      refine XS.iload X0.here hx rfl (hb hby at_29) rfl ?_
      show SS p e below m s₁ 31 #[vi p1, vi p2, vi p3, vi p4, vi (3 : Int32), vi x0, vi x1, vi x2, un, un, un] [(.int (3 : Int32))] _
      refine XS.ifYes X0.here hx rfl (pc0 := 31) (pc' := 42) rfl (hb hby at_31) rfl ((if0 _ _).trans (feq (by decide)).2) (by decide) (by decide) ?_
      show SS p e below m s₁ 42 #[vi p1, vi p2, vi p3, vi p4, vi (3 : Int32), vi x0, vi x1, vi x2, un, un, un] [] _
      refine XS.iload X0.here hx rfl (hb hby at_42) rfl ?_
      show SS p e below m s₁ 44 #[vi p1, vi p2, vi p3, vi p4, vi (3 : Int32), vi x0, vi x1, vi x2, un, un, un] [(.int (3 : Int32))] _
      refine XS.iconst X0.here hx rfl (hb hby at_44) ?_
      show SS p e below m s₁ 45 #[vi p1, vi p2, vi p3, vi p4, vi (3 : Int32), vi x0, vi x1, vi x2, un, un, un] [(.int (1 : Int32)), (.int (3 : Int32))] _
      refine XS.icmpYes X0.here hx rfl (pc0 := 45) (pc' := 61) rfl (hb hby at_45) rfl (feq (by decide)).2 (by decide) (by decide) ?_
      show SS p e below m s₁ 61 #[vi p1, vi p2, vi p3, vi p4, vi (3 : Int32), vi x0, vi x1, vi x2, un, un, un] [] _
      refine XS.iload X0.here hx rfl (hb hby at_61) rfl ?_
      show SS p e below m s₁ 63 #[vi p1, vi p2, vi p3, vi p4, vi (3 : Int32), vi x0, vi x1, vi x2, un, un, un] [(.int (3 : Int32))] _
      refine XS.iconst X0.here hx rfl (hb hby at_63) ?_
      show SS p e below m s₁ 64 #[vi p1, vi p2, vi p3, vi p4, vi (3 : Int32), vi x0, vi x1, vi x2, un, un, un] [(.int (2 : Int32)), (.int (3 : Int32))] _
      refine XS.icmpYes X0.here hx rfl (pc0 := 64) (pc' := 85) rfl (hb hby at_64) rfl (feq (by decide)).2 (by decide) (by decide) ?_
      show SS p e below m s₁ 85 #[vi p1, vi p2, vi p3, vi p4, vi (3 : Int32), vi x0, vi x1, vi x2, un, un, un] [] _
      refine XS.iconst X0.here hx rfl (hb hby at_85) ?_
      show SS p e below m s₁ 86 #[vi p1, vi p2, vi p3, vi p4, vi (3 : Int32), vi x0, vi x1, vi x2, un, un, un] [(.int (3 : Int32))] _
      refine st70 _ ?_
      show SS p e below m T70 88 #[vi p1, vi p2, vi p3, vi p4, vi (3 : Int32), vi x0, vi x1, vi x2, un, un, un] [(.ref b70)] _
      refine XS.dup X70.here hx rfl (hb hby at_88) rfl rfl ?_
      show SS p e below m T70 89 #[vi p1, vi p2, vi p3, vi p4, vi (3 : Int32), vi x0, vi x1, vi x2, un, un, un] [(.ref b70), (.ref b70)] _
      refine XS.iconst X70.here hx rfl (hb hby at_89) ?_
      show SS p e below m T70 90 #[vi p1, vi p2, vi p3, vi p4, vi (3 : Int32), vi x0, vi x1, vi x2, un, un, un] [(.int (0 : Int32)), (.ref b70), (.ref b70)] _
      refine XS.iload X70.here hx rfl (hb hby at_90) rfl ?_
      show SS p e below m T70 92 #[vi p1, vi p2, vi p3, vi p4, vi (3 : Int32), vi x0, vi x1, vi x2, un, un, un] [(.int x0), (.int (0 : Int32)), (.ref b70), (.ref b70)] _
      refine st72 _ ?_
      show SS p e below m T72 93 #[vi p1, vi p2, vi p3, vi p4, vi (3 : Int32), vi x0, vi x1, vi x2, un, un, un] [(.ref b70)] _
      refine XS.dup X72.here hx rfl (hb hby at_93) rfl rfl ?_
      show SS p e below m T72 94 #[vi p1, vi p2, vi p3, vi p4, vi (3 : Int32), vi x0, vi x1, vi x2, un, un, un] [(.ref b70), (.ref b70)] _
      refine XS.iconst X72.here hx rfl (hb hby at_94) ?_
      show SS p e below m T72 95 #[vi p1, vi p2, vi p3, vi p4, vi (3 : Int32), vi x0, vi x1, vi x2, un, un, un] [(.int (1 : Int32)), (.ref b70), (.ref b70)] _
      refine XS.iload X72.here hx rfl (hb hby at_95) rfl ?_
      show SS p e below m T72 97 #[vi p1, vi p2, vi p3, vi p4, vi (3 : Int32), vi x0, vi x1, vi x2, un, un, un] [(.int x1), (.int (1 : Int32)), (.ref b70), (.ref b70)] _
      refine st74 _ ?_
      show SS p e below m T74 98 #[vi p1, vi p2, vi p3, vi p4, vi (3 : Int32), vi x0, vi x1, vi x2, un, un, un] [(.ref b70)] _
      refine XS.dup X74.here hx rfl (hb hby at_98) rfl rfl ?_
      show SS p e below m T74 99 #[vi p1, vi p2, vi p3, vi p4, vi (3 : Int32), vi x0, vi x1, vi x2, un, un, un] [(.ref b70), (.ref b70)] _
      refine XS.iconst X74.here hx rfl (hb hby at_99) ?_
      show SS p e below m T74 100 #[vi p1, vi p2, vi p3, vi p4, vi (3 : Int32), vi x0, vi x1, vi x2, un, un, un] [(.int (2 : Int32)), (.ref b70), (.ref b70)] _
      refine XS.iload X74.here hx rfl (hb hby at_100) rfl ?_
      show SS p e below m T74 102 #[vi p1, vi p2, vi p3, vi p4, vi (3 : Int32), vi x0, vi x1, vi x2, un, un, un] [(.int x2), (.int (2 : Int32)), (.ref b70), (.ref b70)] _
      refine st76 _ ?_
      show SS p e below m T76 103 #[vi p1, vi p2, vi p3, vi p4, vi (3 : Int32), vi x0, vi x1, vi x2, un, un, un] [(.ref b70)] _
      refine XS.astore X76.here hx rfl (hb hby at_103) rfl rfl (l' := #[vi p1, vi p2, vi p3, vi p4, vi (3 : Int32), vi x0, vi x1, vi x2, vr b70, un, un]) rfl ?_
      show SS p e below m T76 105 #[vi p1, vi p2, vi p3, vi p4, vi (3 : Int32), vi x0, vi x1, vi x2, vr b70, un, un] [] _
      refine st77 _ ?_
      show SS p e below m T77 131 #[vi p1, vi p2, vi p3, vi p4, vi (3 : Int32), vi x0, vi x1, vi x2, vr b70, un, un] [] _
      refine st78 _ ?_
      show SS p e below m T78 134 #[vi p1, vi p2, vi p3, vi p4, vi (3 : Int32), vi x0, vi x1, vi x2, vr b70, un, un] [(.ref b78)] _
      refine XS.dup X78.here hx rfl (hb hby at_134) rfl rfl ?_
      show SS p e below m T78 135 #[vi p1, vi p2, vi p3, vi p4, vi (3 : Int32), vi x0, vi x1, vi x2, vr b70, un, un] [(.ref b78), (.ref b78)] _
      refine XS.aload X78.here hx rfl (hb hby at_135) rfl rfl ?_
      show SS p e below m T78 137 #[vi p1, vi p2, vi p3, vi p4, vi (3 : Int32), vi x0, vi x1, vi x2, vr b70, un, un] [(.ref b70), (.ref b78), (.ref b78)] _
      refine st79.trans ?_
      show SS p e below m T79 140 #[vi p1, vi p2, vi p3, vi p4, vi (3 : Int32), vi x0, vi x1, vi x2, vr b70, un, un] [(.ref b78)] _
      refine XS.astore X79.here hx rfl (hb hby at_140) rfl rfl (l' := #[vi p1, vi p2, vi p3, vi p4, vi (3 : Int32), vi x0, vi x1, vi x2, vr b70, vr b78, un]) rfl ?_
      show SS p e below m T79 142 #[vi p1, vi p2, vi p3, vi p4, vi (3 : Int32), vi x0, vi x1, vi x2, vr b70, vr b78, un] [] _
      refine XS.aload X79.here hx rfl (hb hby at_142) rfl rfl ?_
      show SS p e below m T79 144 #[vi p1, vi p2, vi p3, vi p4, vi (3 : Int32), vi x0, vi x1, vi x2, vr b70, vr b78, un] [(.ref b78)] _
      refine st80.trans ?_
      show SS p e below m T80 147 #[vi p1, vi p2, vi p3, vi p4, vi (3 : Int32), vi x0, vi x1, vi x2, vr b70, vr b78, un] [(.ref b80_e0)] _
      refine XS.astore X80.here hx rfl (hb hby at_147) rfl rfl (l' := #[vi p1, vi p2, vi p3, vi p4, vi (3 : Int32), vi x0, vi x1, vi x2, vr b70, vr b78, vr b80_e0]) rfl ?_
      show SS p e below m T80 149 #[vi p1, vi p2, vi p3, vi p4, vi (3 : Int32), vi x0, vi x1, vi x2, vr b70, vr b78, vr b80_e0] [] _
      refine XS.aload X80.here hx rfl (hb hby at_149) rfl rfl ?_
      show SS p e below m T80 151 #[vi p1, vi p2, vi p3, vi p4, vi (3 : Int32), vi x0, vi x1, vi x2, vr b70, vr b78, vr b80_e0] [(.ref b80_e0)] _
      refine XS.ifnullNo X80.here hx rfl (hb hby at_151) rfl ?_
      show SS p e below m T80 154 #[vi p1, vi p2, vi p3, vi p4, vi (3 : Int32), vi x0, vi x1, vi x2, vr b70, vr b78, vr b80_e0] [] _
      refine XS.aload X80.here hx rfl (hb hby at_154) rfl rfl ?_
      show SS p e below m T80 156 #[vi p1, vi p2, vi p3, vi p4, vi (3 : Int32), vi x0, vi x1, vi x2, vr b70, vr b78, vr b80_e0] [(.ref b80_e0)] _
      refine st81.trans ?_
      show SS p e below m T81 159 #[vi p1, vi p2, vi p3, vi p4, vi (3 : Int32), vi x0, vi x1, vi x2, vr b70, vr b78, vr b80_e0] [(.ref sA_80)] _
      refine XS.aload X81.here hx rfl (hb hby at_159) rfl rfl ?_
      show SS p e below m T81 161 #[vi p1, vi p2, vi p3, vi p4, vi (3 : Int32), vi x0, vi x1, vi x2, vr b70, vr b78, vr b80_e0] [(.ref b78), (.ref sA_80)] _
      refine st82 _ ?_
      show SS p e below m T82 163 #[vi p1, vi p2, vi p3, vi p4, vi (3 : Int32), vi x0, vi x1, vi x2, vr b70, vr b78, vr b80_e0] [(.ref sa82), (.ref b78), (.ref sA_80)] _
      refine st83 _ ?_
      show SS p e below m T83 166 #[vi p1, vi p2, vi p3, vi p4, vi (3 : Int32), vi x0, vi x1, vi x2, vr b70, vr b78, vr b80_e0] [(.int (1 : Int32))] _
      refine XS.ifNo X83.here hx rfl (hb hby at_166) rfl ((if0 _ _).trans (feq (by decide)).1) ?_
      show SS p e below m T83 169 #[vi p1, vi p2, vi p3, vi p4, vi (3 : Int32), vi x0, vi x1, vi x2, vr b70, vr b78, vr b80_e0] [] _
      refine XS.aload X83.here hx rfl (hb hby at_169) rfl rfl ?_
      show SS p e below m T83 171 #[vi p1, vi p2, vi p3, vi p4, vi (3 : Int32), vi x0, vi x1, vi x2, vr b70, vr b78, vr b80_e0] [(.ref b80_e0)] _
      refine st84.trans ?_
      show SS p e below m T84 174 #[vi p1, vi p2, vi p3, vi p4, vi (3 : Int32), vi x0, vi x1, vi x2, vr b70, vr b78, vr b80_e0] [(.ref sB_80)] _
      refine XS.aload X84.here hx rfl (hb hby at_174) rfl rfl ?_
      show SS p e below m T84 176 #[vi p1, vi p2, vi p3, vi p4, vi (3 : Int32), vi x0, vi x1, vi x2, vr b70, vr b78, vr b80_e0] [(.ref b78), (.ref sB_80)] _
      refine st85 _ ?_
      show SS p e below m T85 178 #[vi p1, vi p2, vi p3, vi p4, vi (3 : Int32), vi x0, vi x1, vi x2, vr b70, vr b78, vr b80_e0] [(.ref sa85), (.ref b78), (.ref sB_80)] _
      refine st86 _ ?_
      show SS p e below m T86 181 #[vi p1, vi p2, vi p3, vi p4, vi (3 : Int32), vi x0, vi x1, vi x2, vr b70, vr b78, vr b80_e0] [(.int (1 : Int32))] _
      refine XS.ifNo X86.here hx rfl (hb hby at_181) rfl ((if0 _ _).trans (feq (by decide)).1) ?_
      show SS p e below m T86 184 #[vi p1, vi p2, vi p3, vi p4, vi (3 : Int32), vi x0, vi x1, vi x2, vr b70, vr b78, vr b80_e0] [] _
      refine XS.aload X86.here hx rfl (hb hby at_184) rfl rfl ?_
      show SS p e below m T86 186 #[vi p1, vi p2, vi p3, vi p4, vi (3 : Int32), vi x0, vi x1, vi x2, vr b70, vr b78, vr b80_e0] [(.ref b80_e0)] _
      refine st87.trans ?_
      show SS p e below m T87 189 #[vi p1, vi p2, vi p3, vi p4, vi (3 : Int32), vi x0, vi x1, vi x2, vr b70, vr b78, vr b80_e0] [(.ref sC_80)] _
      refine XS.aload X87.here hx rfl (hb hby at_189) rfl rfl ?_
      show SS p e below m T87 191 #[vi p1, vi p2, vi p3, vi p4, vi (3 : Int32), vi x0, vi x1, vi x2, vr b70, vr b78, vr b80_e0] [(.ref b78), (.ref sC_80)] _
      refine st88 _ ?_
      show SS p e below m T88 193 #[vi p1, vi p2, vi p3, vi p4, vi (3 : Int32), vi x0, vi x1, vi x2, vr b70, vr b78, vr b80_e0] [(.ref sa88), (.ref b78), (.ref sC_80)] _
      refine st89 _ ?_
      show SS p e below m T89 196 #[vi p1, vi p2, vi p3, vi p4, vi (3 : Int32), vi x0, vi x1, vi x2, vr b70, vr b78, vr b80_e0] [(.int (1 : Int32))] _
      refine XS.ifNo X89.here hx rfl (hb hby at_196) rfl ((if0 _ _).trans (feq (by decide)).1) ?_
      show SS p e below m T89 199 #[vi p1, vi p2, vi p3, vi p4, vi (3 : Int32), vi x0, vi x1, vi x2, vr b70, vr b78, vr b80_e0] [] _
      refine XS.aload X89.here hx rfl (hb hby at_199) rfl rfl ?_
      show SS p e below m T89 201 #[vi p1, vi p2, vi p3, vi p4, vi (3 : Int32), vi x0, vi x1, vi x2, vr b70, vr b78, vr b80_e0] [(.ref b80_e0)] _
      refine st90.trans ?_
      show SS p e below m T90 204 #[vi p1, vi p2, vi p3, vi p4, vi (3 : Int32), vi x0, vi x1, vi x2, vr b70, vr b78, vr b80_e0] [(.ref sD_80)] _
      refine XS.aload X90.here hx rfl (hb hby at_204) rfl rfl ?_
      show SS p e below m T90 206 #[vi p1, vi p2, vi p3, vi p4, vi (3 : Int32), vi x0, vi x1, vi x2, vr b70, vr b78, vr b80_e0] [(.ref b78), (.ref sD_80)] _
      refine st91 _ ?_
      show SS p e below m T91 208 #[vi p1, vi p2, vi p3, vi p4, vi (3 : Int32), vi x0, vi x1, vi x2, vr b70, vr b78, vr b80_e0] [(.ref sa91), (.ref b78), (.ref sD_80)] _
      refine st92 _ ?_
      show SS p e below m T92 211 #[vi p1, vi p2, vi p3, vi p4, vi (3 : Int32), vi x0, vi x1, vi x2, vr b70, vr b78, vr b80_e0] [(.int (1 : Int32))] _
      refine XS.ifNo X92.here hx rfl (hb hby at_211) rfl ((if0 _ _).trans (feq (by decide)).1) ?_
      show SS p e below m T92 214 #[vi p1, vi p2, vi p3, vi p4, vi (3 : Int32), vi x0, vi x1, vi x2, vr b70, vr b78, vr b80_e0] [] _
      refine XS.iconst X92.here hx rfl (hb hby at_214) ?_
      show SS p e below m T92 215 #[vi p1, vi p2, vi p3, vi p4, vi (3 : Int32), vi x0, vi x1, vi x2, vr b70, vr b78, vr b80_e0] [(.int (1 : Int32))] _
      refine XS.goto X92.here hx rfl (pc0 := 215) (pc' := 219) rfl (hb hby at_215) (by decide) (by decide) ?_
      show SS p e below m T92 219 #[vi p1, vi p2, vi p3, vi p4, vi (3 : Int32), vi x0, vi x1, vi x2, vr b70, vr b78, vr b80_e0] [(.int (1 : Int32))] _
      exact retN X92 hx (t := .boolean) Bd.returns (by simp) (hb hby at_219) hr
    · show Q_rm0 Z p1 p2 p3 p4 zc fm h0 n0 _ T92.heap _
      rw [e92]
      exact ⟨rfl, N92, KC⟩
    · show CHr Z EL s.vm s.heap T92.vm T92.heap
      rw [hh, e92]
      exact hC.trans (CHv.at X92 hZ hEL hC.1)
set_option maxRecDepth 65536 in
set_option maxHeartbeats 40000000 in
theorem comes_1 {Post : Tables → Env → Array Value → State → Outcome → State → Prop} (hpost : ∀ tb e args s v u, (limb_1_1.after args s (.returned v) u = true ∧ limb_1_2.after args s (.returned v) u = true ∧ True) → ReturnedEndW s (.returned v) u (Jvm.fieldLocs frame_1_writes args s ++ Jvm.arrayLocs frame_1_arrays args s ++ Jvm.staticLocs frame_1_statics s) 72 10688 → Post tb e args s (.returned v) u) :
    ArmFor flags0 classFile x code maxLocals ret World_1 tables_1 room_1 Calls_1 rest_1 Pre_1 Post := by
  intro l hfl _ _ p e ha hc hk s m args below hf hA hF happ hP
  obtain ⟨hcalls, hrest, hpre⟩ := hP
  obtain ⟨-, -, -, hnamed, -, -, -, hat⟩ := (Spec.applies_iff hf).mp happ
  obtain ⟨hg, hn⟩ := and_e (Cond.before_iff.mp (show (Jvm.Cond.and given_1 narrow_1).before args s = true from hpre))
  obtain ⟨nw1, nv1⟩ := and_e hg
  obtain ⟨nw2, nv2⟩ := and_e nv1
  obtain ⟨nw3, nv3⟩ := and_e nv2
  obtain ⟨nw4, nv4⟩ := and_e nv3
  obtain ⟨w0, w1, w2, w3, rfl⟩ : ∃ w0 w1 w2 w3 : Value, args = #[w0, w1, w2, w3] := by
    have hs : args.size = 4 := by simpa [Cond.value, given_1] using nw1
    obtain ⟨L⟩ := args
    match L, hs with
    | [w0, w1, w2, w3], _ => exact ⟨w0, w1, w2, w3, rfl⟩
  have hw := fun d (hd : d ∈ tables_1) => atoms_spec (ws := Jvm.Cond.code x code maxLocals ret :: tables_1) hat d (List.mem_cons_of_mem _ hd)
  have hfit : Fit s := fun {y c} hc i hi => by
    obtain ⟨ha, rfl⟩ := Array.getElem?_eq_some_iff.mp hc
    have q := List.all_eq_true.mp ((Array.all_eq_true_iff_forall_mem.mp hF) _ (Array.getElem_mem ha)) i (List.mem_range.mpr hi)
    simpa [Array.getElem?_eq_getElem hi] using q
  obtain ⟨hsets, hown0⟩ := atoms_of _ (rest_1_c_eq ▸ (show rest_1_c.before _ s = true from hrest))
  have hr0 := Cond.before_iff.mp hown0
  obtain ⟨i0, ei0⟩ := is_v nw2
  obtain rfl : w0 = (.int i0) := Option.some.inj ei0
  obtain ⟨i1, ei1⟩ := is_v nw3
  obtain rfl : w1 = (.int i1) := Option.some.inj ei1
  obtain ⟨i2, ei2⟩ := is_v nw4
  obtain rfl : w2 = (.int i2) := Option.some.inj ei2
  obtain ⟨i3, ei3⟩ := is_v nv4
  obtain rfl : w3 = (.int i3) := Option.some.inj ei3
  obtain ⟨zc, evz⟩ := is_v (Cond.before_iff.mp (hsets _ (List.mem_of_getElem? (i := 1) rfl)))
  have S_CS := Sta.start evz (Or.inl (hsets _ (List.mem_of_getElem? (i := 0) rfl)))
  have hz : ¬ zc = (0 : Int32) := fun q => by
    have r := not_v (Cond.before_iff.mp (hsets _ (List.mem_of_getElem? (i := 2) rfl)))
    rw [Cond.eq_ints evz (Term.int_eval (0 : Int32)), q] at r; simp at r
  obtain ⟨fm, evf, hW_fm⟩ := isR_v (Cond.before_iff.mp (hsets _ (List.mem_of_getElem? (i := 8) rfl)))
  have S_FM := Sta.start evf (Or.inl (hsets _ (List.mem_of_getElem? (i := 7) rfl)))
  have hCH : CHv s EL s.vm s.heap := CHv.start (own_hEL hw) hcalls.1 (hsets _ (List.mem_of_getElem? (i := 2) rfl)) (ww hw 15 rfl) (ww hw 2 rfl)
  obtain ⟨n, o, h1, h2, h3, _, L, rfl, ⟨rfl, N, -⟩, -, hq⟩ := rm0 l s _ hw tables_1 i0 i1 i2 i3 zc fm s.heap s.heap.size (Nat.le_refl _) (Old.start s) S_CS hz S_FM hW_fm p e ha hc hk s m _ below hf ((Spec.applies_iff_loose hf).mp happ).1 ⟨rfl, State.Warmed39.refl s, rfl, hCH⟩ trivial
  refine ⟨n, _, h1, h2, h3, hpost _ _ _ _ _ _ ⟨Cond.after_iff.mpr rfl, Cond.after_iff.mpr (eq_i res_at (Term.int_eval (1)) rfl), trivial⟩ ⟨hq.1, hq.2.1, hq.2.2.1, (hq.2.2.2.sift fun y hy => Or.inr (N y hy)).mono (by decide) (by decide)⟩⟩
theorem main_1_1 : Claimed_1_1 := comes_1 fun _ _ _ _ _ _ h hF => ⟨h.1, hF⟩
theorem main_1_2 : Claimed_1_2 := comes_1 fun _ _ _ _ _ _ h hF => ⟨h.2.1, hF⟩
end Jvm.Pilot.@@N@@
namespace Jvm.Pilot.@@N@@
open Jvm Jvm.ClassFile Sem Op Lib Jvm.Free Jvm.Stand Jvm.Pilot.@@N@@.Jvm.D
/-! MADE BY PROGRAM (witnessworld.py) out of the Statement's table words and the real class files: 27 classes; the members and pool entries that the words name. The judged class is class 1, her method 1. -/
namespace start1
open Jvm.ClassFile
def u (s : String) : CpInfo := .utf8 (stringToUtf16 s)
/-- a pool by its gaps: so many unusable entries, then the entry; so many at the end -/
def gap : Nat → List CpInfo → List CpInfo
  | 0, r => r
  | n + 1, r => .unusable :: gap n r
def poolList (es : List (Nat × CpInfo)) (last : Nat) : List CpInfo := es.foldr (fun e r => gap e.1 (e.2 :: r)) (gap last [])
def pool (es : List (Nat × CpInfo)) (last : Nat) : Array CpInfo := ⟨poolList es last⟩
def fileOf (pool : Array CpInfo) (this : Nat) (attrs : Array Attribute := #[]) (ms : Array MethodInfo := #[]) (fl : Nat := 33) (sup : Nat := 0) (ifs : Array Nat := #[]) (fds : Array FieldInfo := #[]) : ClassFile where
  minorVersion := 0
  majorVersion := 65
  constantPool := pool
  accessFlags := fl
  thisClass := this
  superClass := sup
  interfaces := ifs
  fields := fds
  methods := ms
  attributes := attrs
def plain (name : String) (sup : Option ClassId) : Class where
  name := name
  kind := .ordinary
  loader := none
  accessFlags := 33
  super := sup
  interfaces := #[]
  cf := none
  fields := #[]
  methods := #[]
  instanceTypes := #[]
  staticTypes := #[]
  resolved := #[]
  callSites := []
  init := .initialized
  statics := none
  mirror := none

def pool0 : Array CpInfo := pool [(5, u "<init>"), (0, u "()V"), (1, .class_ 10), (1, u "java/lang/Object")] 113

def k0c0 : Code := { maxStack := 0, maxLocals := 1, code := object_method_1_code, exceptionTable := #[], attributes := #[] }
def k0m0 : Method := { name := "<init>", desc := "()V", sig := { parameters := [], returnType := none }, accessFlags := 1, code := some k0c0 }
/-- java/lang/Object -/
def k0 : Class := { plain "java/lang/Object" none with
  accessFlags := 33
  interfaces := #[]
  cf := some (fileOf pool0 8 #[] #[{ accessFlags := 1, nameIndex := 5, descriptorIndex := 6, attributes := #[] }] 33 0 #[] #[])
  fields := #[]
  methods := #[k0m0]
  instanceTypes := #[]
  staticTypes := #[]
  resolved := Array.replicate 124 none
  statics := none }

def pool1 : Array CpInfo := pool [(2, .class_ 4), (1, u "java/lang/Object"), (0, u "<init>"), (0, u "()V"), (0, .class_ 8), (0, u "java/lang/String"), (0, .methodref 7 10), (0, .nameAndType 5 11), (0, u "([C)V"), (0, .methodref 13 14), (0, .class_ 15), (0, .nameAndType 16 17), (0, u "com/example/federant/federant/saml/IdpEndpoints"), (0, u "under"), (0, u "(Ljava/lang/String;)Lcom/example/federant/federant/saml/IdpEndpoints;"), (0, .methodref 13 19), (0, .nameAndType 20 21), (0, u "entityId"), (0, u "()Ljava/lang/String;"), (0, .string 23), (0, u "/idp"), (0, .methodref 25 26), (0, .class_ 27), (0, .nameAndType 28 29), (0, u "com/example/federant/federant/saml/IdpEndpointsUnderPinLaw"), (0, u "is"), (0, u "(Ljava/lang/String;Ljava/lang/String;Ljava/lang/String;)Z"), (0, .methodref 13 31), (0, .nameAndType 32 21), (0, u "metadata"), (0, .string 34), (0, u "/metadata"), (0, .methodref 13 36), (0, .nameAndType 37 21), (0, u "singleSignOn"), (0, .string 39), (0, u "/sso"), (0, .methodref 13 41), (0, .nameAndType 42 21), (0, u "singleLogout"), (0, .string 44), (0, u "/slo"), (0, .methodref 7 46), (0, .nameAndType 47 48), (0, u "length"), (0, u "()I"), (0, .methodref 25 50), (0, .nameAndType 51 52), (0, u "has"), (0, u "(Ljava/lang/String;ILjava/lang/String;)Z"), (0, .methodref 25 54), (0, .nameAndType 55 56), (0, u "ch"), (0, u "(Ljava/lang/String;ILjava/lang/String;I)Z"), (0, .methodref 7 58), (0, .nameAndType 59 60), (0, u "charAt"), (0, u "(I)C"), (2, u "law"), (0, u "(IIII)Z")] 5

def k1m0 : Method := { name := "<init>", desc := "()V", sig := { parameters := [], returnType := none }, accessFlags := 1, code := none }
def k1c1 : Code := { maxStack := 4, maxLocals := 11, code := code, exceptionTable := #[], attributes := #[] }
def k1m1 : Method := { name := "law", desc := "(IIII)Z", sig := { parameters := [.int, .int, .int, .int], returnType := some .boolean }, accessFlags := 9, code := some k1c1 }
def k1c2 : Code := { maxStack := 3, maxLocals := 3, code := method_3_code, exceptionTable := #[], attributes := #[] }
def k1m2 : Method := { name := "is", desc := "(Ljava/lang/String;Ljava/lang/String;Ljava/lang/String;)Z", sig := { parameters := [(.object "java/lang/String"), (.object "java/lang/String"), (.object "java/lang/String")], returnType := some .boolean }, accessFlags := 10, code := some k1c2 }
def k1c3 : Code := { maxStack := 4, maxLocals := 3, code := method_4_code, exceptionTable := #[], attributes := #[] }
def k1m3 : Method := { name := "has", desc := "(Ljava/lang/String;ILjava/lang/String;)Z", sig := { parameters := [(.object "java/lang/String"), .int, (.object "java/lang/String")], returnType := some .boolean }, accessFlags := 10, code := some k1c3 }
def k1c4 : Code := { maxStack := 3, maxLocals := 4, code := method_5_code, exceptionTable := #[], attributes := #[] }
def k1m4 : Method := { name := "ch", desc := "(Ljava/lang/String;ILjava/lang/String;I)Z", sig := { parameters := [(.object "java/lang/String"), .int, (.object "java/lang/String"), .int], returnType := some .boolean }, accessFlags := 10, code := some k1c4 }
/-- com/example/federant/federant/saml/IdpEndpointsUnderPinLaw -/
def k1 : Class := { plain "com/example/federant/federant/saml/IdpEndpointsUnderPinLaw" (some 0) with
  accessFlags := 49
  interfaces := #[]
  cf := some (fileOf pool1 25 #[] #[{ accessFlags := 1, nameIndex := 5, descriptorIndex := 6, attributes := #[] }, { accessFlags := 9, nameIndex := 63, descriptorIndex := 64, attributes := #[] }, { accessFlags := 10, nameIndex := 28, descriptorIndex := 29, attributes := #[] }, { accessFlags := 10, nameIndex := 51, descriptorIndex := 52, attributes := #[] }, { accessFlags := 10, nameIndex := 55, descriptorIndex := 56, attributes := #[] }] 49 2 #[] #[])
  fields := #[]
  methods := #[k1m0, k1m1, k1m2, k1m3, k1m4]
  instanceTypes := #[]
  staticTypes := #[]
  resolved := Array.replicate 70 none
  statics := none }

def pool2 : Array CpInfo := pool [(1, .class_ 2), (0, u "java/io/Serializable"), (0, .class_ 4), (0, u "java/lang/Object")] 2

/-- java/io/Serializable -/
def k2 : Class := { plain "java/io/Serializable" (some 0) with
  accessFlags := 1537
  interfaces := #[]
  cf := some (fileOf pool2 1 #[] #[] 1537 3 #[] #[])
  fields := #[]
  methods := #[]
  instanceTypes := #[]
  staticTypes := #[]
  resolved := Array.replicate 7 none
  statics := none }

def pool3 : Array CpInfo := pool [(1, .class_ 2), (0, u "java/lang/Comparable"), (0, .class_ 4), (0, u "java/lang/Object")] 7

/-- java/lang/Comparable -/
def k3 : Class := { plain "java/lang/Comparable" (some 0) with
  accessFlags := 1537
  interfaces := #[]
  cf := some (fileOf pool3 1 #[] #[] 1537 3 #[] #[])
  fields := #[]
  methods := #[]
  instanceTypes := #[]
  staticTypes := #[]
  resolved := Array.replicate 12 none
  statics := none }

def pool4 : Array CpInfo := pool [(2, .class_ 4), (1, u "java/lang/CharSequence"), (42, .class_ 48), (0, u "java/lang/CharSequence$1CodePointIterator"), (10, .class_ 60), (0, u "java/lang/CharSequence$1CharIterator"), (5, .class_ 67), (0, u "java/lang/Object")] 63

/-- java/lang/CharSequence -/
def k4 : Class := { plain "java/lang/CharSequence" (some 0) with
  accessFlags := 1537
  interfaces := #[]
  cf := some (fileOf pool4 2 #[.nestMembers #[47, 59]] #[] 1537 66 #[] #[])
  fields := #[]
  methods := #[]
  instanceTypes := #[]
  staticTypes := #[]
  resolved := Array.replicate 131 none
  statics := none }

def pool5 : Array CpInfo := pool [(1, .class_ 2), (0, u "java/lang/constant/Constable"), (0, .class_ 4), (0, u "java/lang/Object")] 6

/-- java/lang/constant/Constable -/
def k5 : Class := { plain "java/lang/constant/Constable" (some 0) with
  accessFlags := 1537
  interfaces := #[]
  cf := some (fileOf pool5 1 #[] #[] 1537 3 #[] #[])
  fields := #[]
  methods := #[]
  instanceTypes := #[]
  staticTypes := #[]
  resolved := Array.replicate 11 none
  statics := none }

def pool6 : Array CpInfo := pool [(1, .class_ 2), (0, u "java/lang/constant/ConstantDesc"), (0, .class_ 4), (0, u "java/lang/Object")] 32

/-- java/lang/constant/ConstantDesc -/
def k6 : Class := { plain "java/lang/constant/ConstantDesc" (some 0) with
  accessFlags := 1537
  interfaces := #[]
  cf := some (fileOf pool6 1 #[] #[] 1537 3 #[] #[])
  fields := #[]
  methods := #[]
  instanceTypes := #[]
  staticTypes := #[]
  resolved := Array.replicate 37 none
  statics := none }

def pool7 : Array CpInfo := pool [(1, .methodref 2 3), (0, .class_ 4), (0, .nameAndType 5 6), (0, u "java/lang/Object"), (0, u "<init>"), (0, u "()V"), (0, .string 8), (0, u ""), (0, .fieldref 10 11), (0, .class_ 12), (0, .nameAndType 13 14), (0, u "java/lang/String"), (0, u "value"), (0, u "[B"), (0, .fieldref 10 16), (0, .nameAndType 17 18), (0, u "coder"), (0, u "B"), (2, u "hash"), (0, u "I"), (2, u "hashIsZero"), (0, u "Z"), (0, .methodref 10 28), (0, .nameAndType 5 29), (0, u "([CIILjava/lang/Void;)V"), (8, .fieldref 10 39), (0, .nameAndType 40 26), (0, u "COMPACT_STRINGS"), (1, .class_ 44), (1, u "java/lang/StringUTF16"), (0, u "compress"), (1, .methodref 42 48), (0, .nameAndType 49 50), (0, u "coderFromArrayLen"), (0, u "([BI)B"), (3, .methodref 55 56), (0, .class_ 57), (0, .nameAndType 58 59), (0, u "java/util/Arrays"), (0, u "copyOfRange"), (0, u "([BII)[B"), (47, .class_ 109), (1, u "java/lang/StringLatin1"), (32, u "()Z"), (34, .methodref 42 178), (0, .nameAndType 45 179), (0, u "([CII)[B"), (13, .class_ 195), (1, u "java/lang/System"), (16, .methodref 193 213), (0, .nameAndType 214 215), (0, u "arraycopy"), (0, u "(Ljava/lang/Object;ILjava/lang/Object;II)V"), (118, u "()I"), (0, .methodref 10 336), (0, .nameAndType 17 337), (0, u "()B"), (2, u "()[B"), (22, u "([BI)C"), (12, u "([BI[BII)I"), (14, u "(II)V"), (35, u "(I)C"), (61, .methodref 10 490), (0, .nameAndType 5 491), (0, u "(Ljava/lang/AbstractStringBuilder;Ljava/lang/Void;)V"), (0, .methodref 10 493), (0, .nameAndType 494 142), (0, u "isLatin1"), (0, .methodref 107 496), (0, .nameAndType 497 363), (0, u "charAt"), (3, u "checkIndex"), (3, .methodref 10 506), (0, .nameAndType 507 334), (0, u "length"), (24, u "getBytes"), (16, .methodref 550 506), (0, .class_ 551), (0, u "java/lang/AbstractStringBuilder"), (0, .methodref 550 553), (0, .nameAndType 554 340), (0, u "getValue"), (4, .class_ 561), (1, u "jdk/internal/util/ArraysSupport"), (0, u "mismatch"), (12, .class_ 576), (0, u "java/lang/CharSequence"), (22, u "CASE_INSENSITIVE_ORDER"), (0, u "Ljava/util/Comparator;"), (6, .methodref 559 608), (0, .nameAndType 562 376), (15, .methodref 10 625), (0, .nameAndType 626 627), (0, u "startsWith"), (0, u "(Ljava/lang/String;I)Z"), (193, u "([BIB)V"), (188, u "([C)V"), (36, .methodref 550 493), (5, .fieldref 1054 1055), (0, .class_ 1056), (0, .nameAndType 1057 1058), (0, u "jdk/internal/util/Preconditions"), (0, u "SIOOBE_FORMATTER"), (0, u "Ljava/util/function/BiFunction;"), (0, .methodref 1054 1060), (0, .nameAndType 501 1061), (0, u "(IILjava/util/function/BiFunction;)I"), (39, u "serialPersistentFields"), (0, u "[Ljava/io/ObjectStreamField;"), (0, .class_ 1104), (0, u "java/lang/String$CaseInsensitiveComparator"), (1, .class_ 1107), (0, u "java/io/Serializable"), (0, .class_ 1109), (0, u "java/lang/Comparable"), (0, .class_ 1111), (0, u "java/lang/constant/Constable"), (0, .class_ 1113), (0, u "java/lang/constant/ConstantDesc"), (2, u "serialVersionUID"), (0, u "J"), (3, u "REPL"), (0, u "C"), (2, u "LATIN1"), (1, u "UTF16"), (105, u "(Ljava/lang/StringBuilder;)V"), (23, u "(Ljava/lang/String;)Z"), (14, u "endsWith")] 178

def k7m0 : Method := { name := "<init>", desc := "()V", sig := { parameters := [], returnType := none }, accessFlags := 1, code := none }
def k7c1 : Code := { maxStack := 5, maxLocals := 2, code := jdk_42_method_3_code, exceptionTable := #[], attributes := #[] }
def k7m1 : Method := { name := "<init>", desc := "([C)V", sig := { parameters := [(.array .char)], returnType := none }, accessFlags := 1, code := some k7c1 }
def k7c2 : Code := { maxStack := 3, maxLocals := 2, code := jdk_42_method_53_code, exceptionTable := #[], attributes := #[] }
def k7m2 : Method := { name := "<init>", desc := "(Ljava/lang/StringBuilder;)V", sig := { parameters := [(.object "java/lang/StringBuilder")], returnType := none }, accessFlags := 1, code := some k7c2 }
def k7c3 : Code := { maxStack := 2, maxLocals := 1, code := jdk_42_method_54_code, exceptionTable := #[], attributes := #[] }
def k7m3 : Method := { name := "length", desc := "()I", sig := { parameters := [], returnType := some .int }, accessFlags := 1, code := some k7c3 }
def k7c4 : Code := { maxStack := 2, maxLocals := 2, code := jdk_42_method_56_code, exceptionTable := #[], attributes := #[] }
def k7m4 : Method := { name := "charAt", desc := "(I)C", sig := { parameters := [.int], returnType := some .char }, accessFlags := 1, code := some k7c4 }
def k7c5 : Code := { maxStack := 5, maxLocals := 8, code := jdk_42_method_75_code, exceptionTable := #[], attributes := #[] }
def k7m5 : Method := { name := "startsWith", desc := "(Ljava/lang/String;I)Z", sig := { parameters := [(.object "java/lang/String"), .int], returnType := some .boolean }, accessFlags := 1, code := some k7c5 }
def k7c6 : Code := { maxStack := 4, maxLocals := 2, code := jdk_42_method_77_code, exceptionTable := #[], attributes := #[] }
def k7m6 : Method := { name := "endsWith", desc := "(Ljava/lang/String;)Z", sig := { parameters := [(.object "java/lang/String")], returnType := some .boolean }, accessFlags := 1, code := some k7c6 }
def k7c7 : Code := { maxStack := 5, maxLocals := 4, code := jdk_42_method_147_code, exceptionTable := #[], attributes := #[] }
def k7m7 : Method := { name := "getBytes", desc := "([BIB)V", sig := { parameters := [(.array .byte), .int, .byte], returnType := none }, accessFlags := 0, code := some k7c7 }
def k7c8 : Code := { maxStack := 4, maxLocals := 6, code := jdk_42_method_149_code, exceptionTable := #[], attributes := #[] }
def k7m8 : Method := { name := "<init>", desc := "([CIILjava/lang/Void;)V", sig := { parameters := [(.array .char), .int, .int, (.object "java/lang/Void")], returnType := none }, accessFlags := 2, code := some k7c8 }
def k7c9 : Code := { maxStack := 5, maxLocals := 5, code := jdk_42_method_150_code, exceptionTable := #[], attributes := #[] }
def k7m9 : Method := { name := "<init>", desc := "(Ljava/lang/AbstractStringBuilder;Ljava/lang/Void;)V", sig := { parameters := [(.object "java/lang/AbstractStringBuilder"), (.object "java/lang/Void")], returnType := none }, accessFlags := 0, code := some k7c9 }
def k7c10 : Code := { maxStack := 1, maxLocals := 1, code := jdk_42_method_152_code, exceptionTable := #[], attributes := #[] }
def k7m10 : Method := { name := "coder", desc := "()B", sig := { parameters := [], returnType := some .byte }, accessFlags := 0, code := some k7c10 }
def k7c11 : Code := { maxStack := 1, maxLocals := 1, code := jdk_42_method_154_code, exceptionTable := #[], attributes := #[] }
def k7m11 : Method := { name := "isLatin1", desc := "()Z", sig := { parameters := [], returnType := some .boolean }, accessFlags := 0, code := some k7c11 }
def k7c12 : Code := { maxStack := 3, maxLocals := 2, code := jdk_42_method_155_code, exceptionTable := #[], attributes := #[] }
def k7m12 : Method := { name := "checkIndex", desc := "(II)V", sig := { parameters := [.int, .int], returnType := none }, accessFlags := 8, code := some k7c12 }
/-- java/lang/String -/
def k7 : Class := { plain "java/lang/String" (some 0) with
  accessFlags := 49
  interfaces := #[2, 3, 4, 5, 6]
  cf := some (fileOf pool7 10 #[.nestMembers #[1103]] #[{ accessFlags := 1, nameIndex := 5, descriptorIndex := 6, attributes := #[] }, { accessFlags := 1, nameIndex := 5, descriptorIndex := 1010, attributes := #[] }, { accessFlags := 1, nameIndex := 5, descriptorIndex := 1233, attributes := #[] }, { accessFlags := 1, nameIndex := 507, descriptorIndex := 334, attributes := #[] }, { accessFlags := 1, nameIndex := 497, descriptorIndex := 427, attributes := #[] }, { accessFlags := 1, nameIndex := 626, descriptorIndex := 627, attributes := #[] }, { accessFlags := 1, nameIndex := 1272, descriptorIndex := 1257, attributes := #[] }, { accessFlags := 0, nameIndex := 532, descriptorIndex := 821, attributes := #[] }, { accessFlags := 2, nameIndex := 5, descriptorIndex := 29, attributes := #[] }, { accessFlags := 0, nameIndex := 5, descriptorIndex := 491, attributes := #[] }, { accessFlags := 0, nameIndex := 17, descriptorIndex := 337, attributes := #[] }, { accessFlags := 0, nameIndex := 494, descriptorIndex := 142, attributes := #[] }, { accessFlags := 8, nameIndex := 501, descriptorIndex := 391, attributes := #[] }] 49 2 #[1106, 1108, 575, 1110, 1112] #[{ accessFlags := 18, nameIndex := 13, descriptorIndex := 14, attributes := #[] }, { accessFlags := 18, nameIndex := 17, descriptorIndex := 18, attributes := #[] }, { accessFlags := 2, nameIndex := 21, descriptorIndex := 22, attributes := #[] }, { accessFlags := 2, nameIndex := 25, descriptorIndex := 26, attributes := #[] }, { accessFlags := 26, nameIndex := 1116, descriptorIndex := 1117, attributes := #[] }, { accessFlags := 24, nameIndex := 40, descriptorIndex := 26, attributes := #[] }, { accessFlags := 26, nameIndex := 1101, descriptorIndex := 1102, attributes := #[] }, { accessFlags := 26, nameIndex := 1121, descriptorIndex := 1122, attributes := #[] }, { accessFlags := 25, nameIndex := 599, descriptorIndex := 600, attributes := #[] }, { accessFlags := 24, nameIndex := 1125, descriptorIndex := 18, attributes := #[] }, { accessFlags := 24, nameIndex := 1127, descriptorIndex := 18, attributes := #[] }])
  fields := #[{ name := "value", type := (.array .byte), accessFlags := 18, slot := 0, constantValue := 0 }, { name := "coder", type := .byte, accessFlags := 18, slot := 1, constantValue := 0 }, { name := "hash", type := .int, accessFlags := 2, slot := 2, constantValue := 0 }, { name := "hashIsZero", type := .boolean, accessFlags := 2, slot := 3, constantValue := 0 }, { name := "serialVersionUID", type := .long, accessFlags := 26, slot := 0, constantValue := 0 }, { name := "COMPACT_STRINGS", type := .boolean, accessFlags := 24, slot := 1, constantValue := 0 }, { name := "serialPersistentFields", type := (.array (.object "java/io/ObjectStreamField")), accessFlags := 26, slot := 2, constantValue := 0 }, { name := "REPL", type := .char, accessFlags := 26, slot := 3, constantValue := 0 }, { name := "CASE_INSENSITIVE_ORDER", type := (.object "java/util/Comparator"), accessFlags := 25, slot := 4, constantValue := 0 }, { name := "LATIN1", type := .byte, accessFlags := 24, slot := 5, constantValue := 0 }, { name := "UTF16", type := .byte, accessFlags := 24, slot := 6, constantValue := 0 }]
  methods := #[k7m0, k7m1, k7m2, k7m3, k7m4, k7m5, k7m6, k7m7, k7m8, k7m9, k7m10, k7m11, k7m12]
  instanceTypes := #[(.array .byte), .byte, .int, .boolean]
  staticTypes := #[.long, .boolean, (.array (.object "java/io/ObjectStreamField")), .char, (.object "java/util/Comparator"), .byte, .byte]
  resolved := Array.replicate 1451 none
  statics := some 0 }

def pool8 : Array CpInfo := pool [(1, .methodref 2 3), (0, .class_ 4), (0, .nameAndType 5 6), (0, u "java/lang/Object"), (0, u "<init>"), (0, u "()V"), (0, .class_ 8), (0, u "java/lang/Record")] 13

def k8c0 : Code := { maxStack := 1, maxLocals := 1, code := jdk_30_method_1_code, exceptionTable := #[], attributes := #[] }
def k8m0 : Method := { name := "<init>", desc := "()V", sig := { parameters := [], returnType := none }, accessFlags := 4, code := some k8c0 }
/-- java/lang/Record -/
def k8 : Class := { plain "java/lang/Record" (some 0) with
  accessFlags := 1057
  interfaces := #[]
  cf := some (fileOf pool8 7 #[] #[{ accessFlags := 4, nameIndex := 5, descriptorIndex := 6, attributes := #[] }] 1057 2 #[] #[])
  fields := #[]
  methods := #[k8m0]
  instanceTypes := #[]
  staticTypes := #[]
  resolved := Array.replicate 22 none
  statics := none }

def pool9 : Array CpInfo := pool [(1, .methodref 2 3), (0, .class_ 4), (0, .nameAndType 5 6), (0, u "java/lang/Record"), (0, u "<init>"), (0, u "()V"), (0, .fieldref 8 9), (0, .class_ 10), (0, .nameAndType 11 12), (0, u "com/example/federant/federant/saml/IdpEndpoints"), (0, u "entityId"), (0, u "Ljava/lang/String;"), (0, .fieldref 8 14), (0, .nameAndType 15 12), (0, u "metadata"), (0, .fieldref 8 17), (0, .nameAndType 18 12), (0, u "singleSignOn"), (0, .fieldref 8 20), (0, .nameAndType 21 12), (0, u "singleLogout"), (0, .string 23), (0, u "/"), (0, .methodref 25 26), (0, .class_ 27), (0, .nameAndType 28 29), (0, u "java/lang/String"), (0, u "endsWith"), (0, u "(Ljava/lang/String;)Z"), (2, .class_ 33), (0, u "java/lang/StringBuilder"), (0, .methodref 32 3), (2, .methodref 32 38), (0, .nameAndType 39 40), (0, u "append"), (0, u "(Ljava/lang/String;)Ljava/lang/StringBuilder;"), (0, .methodref 32 42), (0, .nameAndType 43 44), (0, u "toString"), (0, u "()Ljava/lang/String;"), (3, .string 49), (0, u "/idp"), (0, .string 51), (0, u "/metadata"), (0, .string 53), (0, u "/sso"), (0, .string 55), (0, u "/slo"), (0, .methodref 8 57), (0, .nameAndType 5 58), (0, u "(Ljava/lang/String;Ljava/lang/String;Ljava/lang/String;Ljava/lang/String;)V"), (14, u "under"), (0, u "(Ljava/lang/String;)Lcom/example/federant/federant/saml/IdpEndpoints;")] 26

def k9c0 : Code := { maxStack := 2, maxLocals := 5, code := prog_26_method_1_code, exceptionTable := #[], attributes := #[] }
def k9m0 : Method := { name := "<init>", desc := "(Ljava/lang/String;Ljava/lang/String;Ljava/lang/String;Ljava/lang/String;)V", sig := { parameters := [(.object "java/lang/String"), (.object "java/lang/String"), (.object "java/lang/String"), (.object "java/lang/String")], returnType := none }, accessFlags := 1, code := some k9c0 }
def k9c1 : Code := { maxStack := 7, maxLocals := 1, code := prog_26_method_2_code, exceptionTable := #[], attributes := #[] }
def k9m1 : Method := { name := "under", desc := "(Ljava/lang/String;)Lcom/example/federant/federant/saml/IdpEndpoints;", sig := { parameters := [(.object "java/lang/String")], returnType := some (.object "com/example/federant/federant/saml/IdpEndpoints") }, accessFlags := 9, code := some k9c1 }
def k9c2 : Code := { maxStack := 1, maxLocals := 1, code := prog_26_method_6_code, exceptionTable := #[], attributes := #[] }
def k9m2 : Method := { name := "entityId", desc := "()Ljava/lang/String;", sig := { parameters := [], returnType := some (.object "java/lang/String") }, accessFlags := 1, code := some k9c2 }
def k9c3 : Code := { maxStack := 1, maxLocals := 1, code := prog_26_method_7_code, exceptionTable := #[], attributes := #[] }
def k9m3 : Method := { name := "metadata", desc := "()Ljava/lang/String;", sig := { parameters := [], returnType := some (.object "java/lang/String") }, accessFlags := 1, code := some k9c3 }
def k9c4 : Code := { maxStack := 1, maxLocals := 1, code := prog_26_method_8_code, exceptionTable := #[], attributes := #[] }
def k9m4 : Method := { name := "singleSignOn", desc := "()Ljava/lang/String;", sig := { parameters := [], returnType := some (.object "java/lang/String") }, accessFlags := 1, code := some k9c4 }
def k9c5 : Code := { maxStack := 1, maxLocals := 1, code := prog_26_method_9_code, exceptionTable := #[], attributes := #[] }
def k9m5 : Method := { name := "singleLogout", desc := "()Ljava/lang/String;", sig := { parameters := [], returnType := some (.object "java/lang/String") }, accessFlags := 1, code := some k9c5 }
/-- com/example/federant/federant/saml/IdpEndpoints -/
def k9 : Class := { plain "com/example/federant/federant/saml/IdpEndpoints" (some 8) with
  accessFlags := 49
  interfaces := #[]
  cf := some (fileOf pool9 8 #[] #[{ accessFlags := 1, nameIndex := 5, descriptorIndex := 58, attributes := #[] }, { accessFlags := 9, nameIndex := 73, descriptorIndex := 74, attributes := #[] }, { accessFlags := 1, nameIndex := 11, descriptorIndex := 44, attributes := #[] }, { accessFlags := 1, nameIndex := 15, descriptorIndex := 44, attributes := #[] }, { accessFlags := 1, nameIndex := 18, descriptorIndex := 44, attributes := #[] }, { accessFlags := 1, nameIndex := 21, descriptorIndex := 44, attributes := #[] }] 49 2 #[] #[{ accessFlags := 18, nameIndex := 11, descriptorIndex := 12, attributes := #[] }, { accessFlags := 18, nameIndex := 15, descriptorIndex := 12, attributes := #[] }, { accessFlags := 18, nameIndex := 18, descriptorIndex := 12, attributes := #[] }, { accessFlags := 18, nameIndex := 21, descriptorIndex := 12, attributes := #[] }])
  fields := #[{ name := "entityId", type := (.object "java/lang/String"), accessFlags := 18, slot := 0, constantValue := 0 }, { name := "metadata", type := (.object "java/lang/String"), accessFlags := 18, slot := 1, constantValue := 0 }, { name := "singleSignOn", type := (.object "java/lang/String"), accessFlags := 18, slot := 2, constantValue := 0 }, { name := "singleLogout", type := (.object "java/lang/String"), accessFlags := 18, slot := 3, constantValue := 0 }]
  methods := #[k9m0, k9m1, k9m2, k9m3, k9m4, k9m5]
  instanceTypes := #[(.object "java/lang/String"), (.object "java/lang/String"), (.object "java/lang/String"), (.object "java/lang/String")]
  staticTypes := #[]
  resolved := Array.replicate 101 none
  statics := none }

def pool10 : Array CpInfo := pool [(1, .class_ 2), (0, u "java/lang/Appendable"), (0, .class_ 4), (0, u "java/lang/Object")] 9

/-- java/lang/Appendable -/
def k10 : Class := { plain "java/lang/Appendable" (some 0) with
  accessFlags := 1537
  interfaces := #[]
  cf := some (fileOf pool10 1 #[] #[] 1537 3 #[] #[])
  fields := #[]
  methods := #[]
  instanceTypes := #[]
  staticTypes := #[]
  resolved := Array.replicate 14 none
  statics := none }

def pool11 : Array CpInfo := pool [(1, .class_ 2), (0, u "java/lang/String"), (0, .methodref 4 5), (0, .class_ 6), (0, .nameAndType 7 8), (0, u "java/lang/Object"), (0, u "<init>"), (0, u "()V"), (1, .class_ 12), (1, u "java/lang/AbstractStringBuilder"), (0, u "EMPTYVALUE"), (0, u "[B"), (0, .fieldref 10 16), (0, .nameAndType 17 14), (0, u "value"), (0, .fieldref 1 19), (0, .nameAndType 20 21), (0, u "COMPACT_STRINGS"), (0, u "Z"), (0, .fieldref 10 23), (0, .nameAndType 24 25), (0, u "coder"), (0, u "B"), (6, .methodref 1 33), (0, .nameAndType 34 35), (0, u "length"), (0, u "()I"), (4, .methodref 1 41), (0, .nameAndType 24 42), (0, u "()B"), (2, u "append"), (0, u "(Ljava/lang/String;)Ljava/lang/AbstractStringBuilder;"), (1, .class_ 49), (0, u "java/lang/CharSequence"), (19, u "(Ljava/lang/String;)V"), (5, u "maybeLatin1"), (3, .fieldref 10 80), (0, .nameAndType 81 82), (0, u "count"), (0, u "I"), (2, u "isLatin1"), (0, u "()Z"), (13, .methodref 10 101), (0, .nameAndType 102 103), (0, u "ensureCapacityInternal"), (0, u "(I)V"), (104, .methodref 10 209), (0, .nameAndType 210 211), (0, u "putStringAt"), (0, u "(ILjava/lang/String;)V"), (5, u "inflateIfNeededFor"), (2, .nameAndType 221 222), (0, u "getBytes"), (0, u "([BIB)V"), (174, .methodref 10 398), (0, .nameAndType 217 69), (0, .methodref 1 220), (3, u "()[B"), (40, .class_ 445), (0, u "java/lang/Appendable"), (106, u "getValue")] 56

def k11m0 : Method := { name := "<init>", desc := "()V", sig := { parameters := [], returnType := none }, accessFlags := 0, code := none }
def k11c1 : Code := { maxStack := 2, maxLocals := 2, code := jdk_68_method_2_code, exceptionTable := #[], attributes := #[] }
def k11m1 : Method := { name := "<init>", desc := "(I)V", sig := { parameters := [.int], returnType := none }, accessFlags := 0, code := some k11c1 }
def k11c2 : Code := { maxStack := 1, maxLocals := 1, code := jdk_68_method_6_code, exceptionTable := #[], attributes := #[] }
def k11m2 : Method := { name := "length", desc := "()I", sig := { parameters := [], returnType := some .int }, accessFlags := 1, code := some k11c2 }
def k11c3 : Code := { maxStack := 4, maxLocals := 3, code := jdk_68_method_9_code, exceptionTable := #[], attributes := #[] }
def k11m3 : Method := { name := "ensureCapacityInternal", desc := "(I)V", sig := { parameters := [.int], returnType := none }, accessFlags := 2, code := some k11c3 }
def k11c4 : Code := { maxStack := 3, maxLocals := 3, code := jdk_68_method_22_code, exceptionTable := #[], attributes := #[] }
def k11m4 : Method := { name := "append", desc := "(Ljava/lang/String;)Ljava/lang/AbstractStringBuilder;", sig := { parameters := [(.object "java/lang/String")], returnType := some (.object "java/lang/AbstractStringBuilder") }, accessFlags := 1, code := some k11c4 }
def k11c5 : Code := { maxStack := 1, maxLocals := 1, code := jdk_68_method_64_code, exceptionTable := #[], attributes := #[] }
def k11m5 : Method := { name := "getValue", desc := "()[B", sig := { parameters := [], returnType := some (.array .byte) }, accessFlags := 16, code := some k11c5 }
def k11c6 : Code := { maxStack := 1, maxLocals := 1, code := jdk_68_method_68_code, exceptionTable := #[], attributes := #[] }
def k11m6 : Method := { name := "isLatin1", desc := "()Z", sig := { parameters := [], returnType := some .boolean }, accessFlags := 16, code := some k11c6 }
def k11c7 : Code := { maxStack := 2, maxLocals := 2, code := jdk_68_method_71_code, exceptionTable := #[], attributes := #[] }
def k11m7 : Method := { name := "inflateIfNeededFor", desc := "(Ljava/lang/String;)V", sig := { parameters := [(.object "java/lang/String")], returnType := none }, accessFlags := 2, code := some k11c7 }
def k11c8 : Code := { maxStack := 4, maxLocals := 3, code := jdk_68_method_73_code, exceptionTable := #[], attributes := #[] }
def k11m8 : Method := { name := "putStringAt", desc := "(ILjava/lang/String;)V", sig := { parameters := [.int, (.object "java/lang/String")], returnType := none }, accessFlags := 2, code := some k11c8 }
/-- java/lang/AbstractStringBuilder -/
def k11 : Class := { plain "java/lang/AbstractStringBuilder" (some 0) with
  accessFlags := 1056
  interfaces := #[10, 4]
  cf := some (fileOf pool11 10 #[] #[{ accessFlags := 0, nameIndex := 7, descriptorIndex := 8, attributes := #[] }, { accessFlags := 0, nameIndex := 7, descriptorIndex := 103, attributes := #[] }, { accessFlags := 1, nameIndex := 34, descriptorIndex := 35, attributes := #[] }, { accessFlags := 2, nameIndex := 102, descriptorIndex := 103, attributes := #[] }, { accessFlags := 1, nameIndex := 45, descriptorIndex := 46, attributes := #[] }, { accessFlags := 16, nameIndex := 552, descriptorIndex := 403, attributes := #[] }, { accessFlags := 16, nameIndex := 85, descriptorIndex := 86, attributes := #[] }, { accessFlags := 2, nameIndex := 217, descriptorIndex := 69, attributes := #[] }, { accessFlags := 2, nameIndex := 210, descriptorIndex := 211, attributes := #[] }] 1056 4 #[444, 48] #[{ accessFlags := 0, nameIndex := 17, descriptorIndex := 14, attributes := #[] }, { accessFlags := 0, nameIndex := 24, descriptorIndex := 25, attributes := #[] }, { accessFlags := 0, nameIndex := 75, descriptorIndex := 21, attributes := #[] }, { accessFlags := 0, nameIndex := 81, descriptorIndex := 82, attributes := #[] }, { accessFlags := 26, nameIndex := 13, descriptorIndex := 14, attributes := #[] }])
  fields := #[{ name := "value", type := (.array .byte), accessFlags := 0, slot := 0, constantValue := 0 }, { name := "coder", type := .byte, accessFlags := 0, slot := 1, constantValue := 0 }, { name := "maybeLatin1", type := .boolean, accessFlags := 0, slot := 2, constantValue := 0 }, { name := "count", type := .int, accessFlags := 0, slot := 3, constantValue := 0 }, { name := "EMPTYVALUE", type := (.array .byte), accessFlags := 26, slot := 0, constantValue := 0 }]
  methods := #[k11m0, k11m1, k11m2, k11m3, k11m4, k11m5, k11m6, k11m7, k11m8]
  instanceTypes := #[(.array .byte), .byte, .boolean, .int]
  staticTypes := #[(.array .byte)]
  resolved := Array.replicate 609 none
  statics := none }

def pool12 : Array CpInfo := pool [(1, .methodref 2 3), (0, .class_ 4), (0, .nameAndType 5 6), (0, u "java/lang/AbstractStringBuilder"), (0, u "<init>"), (0, u "(I)V"), (11, .class_ 20), (1, u "java/lang/String"), (3, .class_ 26), (1, u "java/lang/StringBuilder"), (0, u "append"), (0, u "(Ljava/lang/String;)Ljava/lang/StringBuilder;"), (0, .methodref 2 30), (0, .nameAndType 27 31), (0, u "(Ljava/lang/String;)Ljava/lang/AbstractStringBuilder;"), (105, .methodref 18 138), (0, .nameAndType 5 139), (0, u "(Ljava/lang/StringBuilder;)V"), (5, u "()V"), (10, u "()I"), (186, .methodref 2 344), (0, .nameAndType 345 156), (0, u "length"), (3, .class_ 350), (0, u "java/lang/Appendable"), (0, .class_ 352), (0, u "java/io/Serializable"), (0, .class_ 354), (0, u "java/lang/Comparable"), (0, .class_ 356), (0, u "java/lang/CharSequence"), (0, u "serialVersionUID"), (0, u "J"), (40, u "toString"), (0, u "()Ljava/lang/String;")] 21

def k12c0 : Code := { maxStack := 2, maxLocals := 1, code := jdk_67_method_1_code, exceptionTable := #[], attributes := #[] }
def k12m0 : Method := { name := "<init>", desc := "()V", sig := { parameters := [], returnType := none }, accessFlags := 1, code := some k12c0 }
def k12c1 : Code := { maxStack := 2, maxLocals := 2, code := jdk_67_method_7_code, exceptionTable := #[], attributes := #[] }
def k12m1 : Method := { name := "append", desc := "(Ljava/lang/String;)Ljava/lang/StringBuilder;", sig := { parameters := [(.object "java/lang/String")], returnType := some (.object "java/lang/StringBuilder") }, accessFlags := 1, code := some k12c1 }
def k12c2 : Code := { maxStack := 3, maxLocals := 1, code := jdk_67_method_42_code, exceptionTable := #[], attributes := #[] }
def k12m2 : Method := { name := "toString", desc := "()Ljava/lang/String;", sig := { parameters := [], returnType := some (.object "java/lang/String") }, accessFlags := 1, code := some k12c2 }
def k12c3 : Code := { maxStack := 1, maxLocals := 1, code := jdk_67_method_93_code, exceptionTable := #[], attributes := #[] }
def k12m3 : Method := { name := "length", desc := "()I", sig := { parameters := [], returnType := some .int }, accessFlags := 4161, code := some k12c3 }
/-- java/lang/StringBuilder -/
def k12 : Class := { plain "java/lang/StringBuilder" (some 11) with
  accessFlags := 49
  interfaces := #[10, 2, 3, 4]
  cf := some (fileOf pool12 24 #[] #[{ accessFlags := 1, nameIndex := 5, descriptorIndex := 145, attributes := #[] }, { accessFlags := 1, nameIndex := 27, descriptorIndex := 28, attributes := #[] }, { accessFlags := 1, nameIndex := 399, descriptorIndex := 400, attributes := #[] }, { accessFlags := 4161, nameIndex := 345, descriptorIndex := 156, attributes := #[] }] 49 2 #[349, 351, 353, 355] #[{ accessFlags := 24, nameIndex := 357, descriptorIndex := 358, attributes := #[] }])
  fields := #[{ name := "serialVersionUID", type := .long, accessFlags := 24, slot := 0, constantValue := 0 }]
  methods := #[k12m0, k12m1, k12m2, k12m3]
  instanceTypes := #[(.array .byte), .byte, .boolean, .int]
  staticTypes := #[.long]
  resolved := Array.replicate 422 none
  statics := none }

def pool13 : Array CpInfo := pool [(2, .class_ 4), (1, u "java/lang/Object"), (0, u "<init>"), (0, u "()V"), (1, .class_ 10), (1, u "java/lang/System"), (0, u "allowSecurityManager"), (0, u "I"), (16, u "cons"), (0, u "Ljava/io/Console;"), (77, .class_ 110), (1, u "java/lang/System$CallersHolder"), (43, u "initialErrStream"), (0, u "Ljava/io/PrintStream;"), (19, u "security"), (0, u "Ljava/lang/SecurityManager;"), (31, .class_ 209), (0, u "java/lang/System$1"), (7, u "props"), (0, u "Ljava/util/Properties;"), (2, u "lineSeparator"), (0, u "Ljava/lang/String;"), (96, .class_ 321), (1, u "java/lang/System$LoggerFinder"), (5, .class_ 328), (0, u "java/lang/System$Logger"), (67, u "err"), (2, u "out"), (91, u "notSupportedJnuEncoding"), (15, u "in"), (17, u "initialIn"), (0, u "Ljava/io/InputStream;"), (35, u "bootLayer"), (0, u "Ljava/lang/ModuleLayer;"), (99, .class_ 664), (0, u "java/lang/System$2"), (9, u "NEVER"), (2, u "MAYBE"), (49, u "arraycopy"), (0, u "(Ljava/lang/Object;ILjava/lang/Object;II)V"), (72, .class_ 802), (0, u "java/lang/System$Logger$Level")] 31

def k13m0 : Method := { name := "<init>", desc := "()V", sig := { parameters := [], returnType := none }, accessFlags := 2, code := none }
def k13m1 : Method := { name := "arraycopy", desc := "(Ljava/lang/Object;ILjava/lang/Object;II)V", sig := { parameters := [(.object "java/lang/Object"), .int, (.object "java/lang/Object"), .int, .int], returnType := none }, accessFlags := 265, code := none }
/-- java/lang/System -/
def k13 : Class := { plain "java/lang/System" (some 0) with
  accessFlags := 49
  interfaces := #[]
  cf := some (fileOf pool13 8 #[.nestMembers #[319, 327, 801, 108, 663, 208]] #[{ accessFlags := 2, nameIndex := 5, descriptorIndex := 6, attributes := #[] }, { accessFlags := 265, nameIndex := 727, descriptorIndex := 728, attributes := #[] }] 49 2 #[] #[{ accessFlags := 25, nameIndex := 507, descriptorIndex := 526, attributes := #[] }, { accessFlags := 25, nameIndex := 399, descriptorIndex := 155, attributes := #[] }, { accessFlags := 25, nameIndex := 396, descriptorIndex := 155, attributes := #[] }, { accessFlags := 10, nameIndex := 525, descriptorIndex := 526, attributes := #[] }, { accessFlags := 26, nameIndex := 674, descriptorIndex := 12, attributes := #[] }, { accessFlags := 26, nameIndex := 677, descriptorIndex := 12, attributes := #[] }, { accessFlags := 10, nameIndex := 11, descriptorIndex := 12, attributes := #[] }, { accessFlags := 74, nameIndex := 175, descriptorIndex := 176, attributes := #[] }, { accessFlags := 10, nameIndex := 491, descriptorIndex := 222, attributes := #[] }, { accessFlags := 74, nameIndex := 29, descriptorIndex := 30, attributes := #[] }, { accessFlags := 74, nameIndex := 154, descriptorIndex := 155, attributes := #[] }, { accessFlags := 10, nameIndex := 217, descriptorIndex := 218, attributes := #[] }, { accessFlags := 10, nameIndex := 221, descriptorIndex := 222, attributes := #[] }, { accessFlags := 8, nameIndex := 562, descriptorIndex := 563, attributes := #[] }])
  fields := #[{ name := "in", type := (.object "java/io/InputStream"), accessFlags := 25, slot := 0, constantValue := 0 }, { name := "out", type := (.object "java/io/PrintStream"), accessFlags := 25, slot := 1, constantValue := 0 }, { name := "err", type := (.object "java/io/PrintStream"), accessFlags := 25, slot := 2, constantValue := 0 }, { name := "initialIn", type := (.object "java/io/InputStream"), accessFlags := 10, slot := 3, constantValue := 0 }, { name := "NEVER", type := .int, accessFlags := 26, slot := 4, constantValue := 0 }, { name := "MAYBE", type := .int, accessFlags := 26, slot := 5, constantValue := 0 }, { name := "allowSecurityManager", type := .int, accessFlags := 10, slot := 6, constantValue := 0 }, { name := "security", type := (.object "java/lang/SecurityManager"), accessFlags := 74, slot := 7, constantValue := 0 }, { name := "notSupportedJnuEncoding", type := (.object "java/lang/String"), accessFlags := 10, slot := 8, constantValue := 0 }, { name := "cons", type := (.object "java/io/Console"), accessFlags := 74, slot := 9, constantValue := 0 }, { name := "initialErrStream", type := (.object "java/io/PrintStream"), accessFlags := 74, slot := 10, constantValue := 0 }, { name := "props", type := (.object "java/util/Properties"), accessFlags := 10, slot := 11, constantValue := 0 }, { name := "lineSeparator", type := (.object "java/lang/String"), accessFlags := 10, slot := 12, constantValue := 0 }, { name := "bootLayer", type := (.object "java/lang/ModuleLayer"), accessFlags := 8, slot := 13, constantValue := 0 }]
  methods := #[k13m0, k13m1]
  instanceTypes := #[]
  staticTypes := #[(.object "java/io/InputStream"), (.object "java/io/PrintStream"), (.object "java/io/PrintStream"), (.object "java/io/InputStream"), .int, .int, .int, (.object "java/lang/SecurityManager"), (.object "java/lang/String"), (.object "java/io/Console"), (.object "java/io/PrintStream"), (.object "java/util/Properties"), (.object "java/lang/String"), (.object "java/lang/ModuleLayer")]
  resolved := Array.replicate 834 none
  statics := none }

def pool14 : Array CpInfo := pool [(2, .class_ 4), (1, u "java/lang/Object"), (0, u "<init>"), (0, u "()V"), (7, .class_ 16), (1, u "java/util/Arrays"), (57, .class_ 76), (1, u "java/util/Arrays$NaturalOrder"), (36, .class_ 115), (1, u "java/util/Arrays$LegacyMergeSort"), (1, u "Z"), (21, u "copyOfRange"), (10, .methodref 151 152), (0, .class_ 153), (0, .nameAndType 154 155), (0, u "java/lang/System"), (0, u "arraycopy"), (0, u "(Ljava/lang/Object;ILjava/lang/Object;II)V"), (148, .methodref 305 306), (0, .class_ 307), (0, .nameAndType 308 309), (0, u "java/lang/Math"), (0, u "min"), (0, u "(II)I"), (29, .methodref 14 340), (0, .nameAndType 341 342), (0, u "copyOfRangeByte"), (0, u "([BII)[B"), (0, .methodref 14 344), (0, .nameAndType 345 346), (0, u "checkLength"), (0, u "(II)V"), (28, .class_ 376), (0, u "java/util/Arrays$ArrayList"), (68, u "$assertionsDisabled"), (269, u "MIN_ARRAY_SORT_GRAN"), (0, u "I"), (2, u "INSERTIONSORT_THRESHOLD"), (255, .class_ 976), (0, u "java/util/Arrays$ArrayItr")] 52

def k14m0 : Method := { name := "<init>", desc := "()V", sig := { parameters := [], returnType := none }, accessFlags := 2, code := none }
def k14c1 : Code := { maxStack := 4, maxLocals := 2, code := jdk_65_method_131_code, exceptionTable := #[], attributes := #[] }
def k14m1 : Method := { name := "checkLength", desc := "(II)V", sig := { parameters := [.int, .int], returnType := none }, accessFlags := 10, code := some k14c1 }
def k14c2 : Code := { maxStack := 3, maxLocals := 3, code := jdk_65_method_132_code, exceptionTable := #[], attributes := #[] }
def k14m2 : Method := { name := "copyOfRange", desc := "([BII)[B", sig := { parameters := [(.array .byte), .int, .int], returnType := some (.array .byte) }, accessFlags := 9, code := some k14c2 }
def k14c3 : Code := { maxStack := 6, maxLocals := 5, code := jdk_65_method_133_code, exceptionTable := #[], attributes := #[] }
def k14m3 : Method := { name := "copyOfRangeByte", desc := "([BII)[B", sig := { parameters := [(.array .byte), .int, .int], returnType := some (.array .byte) }, accessFlags := 10, code := some k14c3 }
/-- java/util/Arrays -/
def k14 : Class := { plain "java/util/Arrays" (some 0) with
  accessFlags := 49
  interfaces := #[]
  cf := some (fileOf pool14 14 #[.nestMembers #[975, 375, 113, 74]] #[{ accessFlags := 2, nameIndex := 5, descriptorIndex := 6, attributes := #[] }, { accessFlags := 10, nameIndex := 345, descriptorIndex := 346, attributes := #[] }, { accessFlags := 9, nameIndex := 139, descriptorIndex := 342, attributes := #[] }, { accessFlags := 10, nameIndex := 341, descriptorIndex := 342, attributes := #[] }] 49 2 #[] #[{ accessFlags := 26, nameIndex := 715, descriptorIndex := 716, attributes := #[] }, { accessFlags := 26, nameIndex := 719, descriptorIndex := 716, attributes := #[] }, { accessFlags := 4120, nameIndex := 445, descriptorIndex := 117, attributes := #[] }])
  fields := #[{ name := "MIN_ARRAY_SORT_GRAN", type := .int, accessFlags := 26, slot := 0, constantValue := 0 }, { name := "INSERTIONSORT_THRESHOLD", type := .int, accessFlags := 26, slot := 1, constantValue := 0 }, { name := "$assertionsDisabled", type := .boolean, accessFlags := 4120, slot := 2, constantValue := 0 }]
  methods := #[k14m0, k14m1, k14m2, k14m3]
  instanceTypes := #[]
  staticTypes := #[.int, .int, .boolean]
  resolved := Array.replicate 1029 none
  statics := none }

def pool15 : Array CpInfo := pool [(1, .class_ 2), (0, u "java/lang/Math"), (1, .class_ 6), (1, u "java/lang/Object"), (0, u "<init>"), (0, u "()V"), (89, .class_ 100), (1, u "java/lang/Math$RandomNumberGeneratorHolder"), (71, u "negativeZeroFloatBits"), (0, u "J"), (2, u "negativeZeroDoubleBits"), (24, u "min"), (43, u "$assertionsDisabled"), (0, u "Z"), (88, u "(II)I"), (2, u "twoToTheDoubleScaleDown"), (0, u "D"), (4, u "twoToTheDoubleScaleUp"), (9, u "E"), (3, u "PI"), (2, u "TAU"), (2, u "DEGREES_TO_RADIANS"), (0, u "RADIANS_TO_DEGREES")] 94

def k15m0 : Method := { name := "<init>", desc := "()V", sig := { parameters := [], returnType := none }, accessFlags := 2, code := none }
def k15c1 : Code := { maxStack := 2, maxLocals := 2, code := jdk_29_method_69_code, exceptionTable := #[], attributes := #[] }
def k15m1 : Method := { name := "min", desc := "(II)I", sig := { parameters := [.int, .int], returnType := some .int }, accessFlags := 9, code := some k15c1 }
/-- java/lang/Math -/
def k15 : Class := { plain "java/lang/Math" (some 0) with
  accessFlags := 49
  interfaces := #[]
  cf := some (fileOf pool15 1 #[.nestMembers #[98]] #[{ accessFlags := 2, nameIndex := 7, descriptorIndex := 8, attributes := #[] }, { accessFlags := 9, nameIndex := 201, descriptorIndex := 335, attributes := #[] }] 49 4 #[] #[{ accessFlags := 25, nameIndex := 354, descriptorIndex := 339, attributes := #[] }, { accessFlags := 25, nameIndex := 358, descriptorIndex := 339, attributes := #[] }, { accessFlags := 25, nameIndex := 361, descriptorIndex := 339, attributes := #[] }, { accessFlags := 26, nameIndex := 364, descriptorIndex := 339, attributes := #[] }, { accessFlags := 26, nameIndex := 365, descriptorIndex := 339, attributes := #[] }, { accessFlags := 26, nameIndex := 172, descriptorIndex := 173, attributes := #[] }, { accessFlags := 26, nameIndex := 176, descriptorIndex := 173, attributes := #[] }, { accessFlags := 8, nameIndex := 344, descriptorIndex := 339, attributes := #[] }, { accessFlags := 8, nameIndex := 338, descriptorIndex := 339, attributes := #[] }, { accessFlags := 4120, nameIndex := 245, descriptorIndex := 246, attributes := #[] }])
  fields := #[{ name := "E", type := .double, accessFlags := 25, slot := 0, constantValue := 0 }, { name := "PI", type := .double, accessFlags := 25, slot := 1, constantValue := 0 }, { name := "TAU", type := .double, accessFlags := 25, slot := 2, constantValue := 0 }, { name := "DEGREES_TO_RADIANS", type := .double, accessFlags := 26, slot := 3, constantValue := 0 }, { name := "RADIANS_TO_DEGREES", type := .double, accessFlags := 26, slot := 4, constantValue := 0 }, { name := "negativeZeroFloatBits", type := .long, accessFlags := 26, slot := 5, constantValue := 0 }, { name := "negativeZeroDoubleBits", type := .long, accessFlags := 26, slot := 6, constantValue := 0 }, { name := "twoToTheDoubleScaleUp", type := .double, accessFlags := 8, slot := 7, constantValue := 0 }, { name := "twoToTheDoubleScaleDown", type := .double, accessFlags := 8, slot := 8, constantValue := 0 }, { name := "$assertionsDisabled", type := .boolean, accessFlags := 4120, slot := 9, constantValue := 0 }]
  methods := #[k15m0, k15m1]
  instanceTypes := #[]
  staticTypes := #[.double, .double, .double, .double, .double, .long, .long, .double, .double, .boolean]
  resolved := Array.replicate 460 none
  statics := none }

def pool16 : Array CpInfo := pool [(1, .class_ 2), (0, u "java/lang/String"), (1, .class_ 6), (1, u "java/lang/Object"), (0, u "<init>"), (0, u "()V"), (0, .methodref 1 10), (0, .nameAndType 11 12), (0, u "checkIndex"), (0, u "(II)V"), (1, .class_ 16), (1, u "java/lang/StringLatin1"), (36, u "([BI)C"), (67, u "$assertionsDisabled"), (0, u "Z"), (98, .class_ 223), (1, u "java/lang/StringLatin1$LinesSpliterator"), (28, u "charAt"), (137, .class_ 391), (0, u "java/lang/StringLatin1$CharsSpliterator")] 3

def k16m0 : Method := { name := "<init>", desc := "()V", sig := { parameters := [], returnType := none }, accessFlags := 0, code := none }
def k16c1 : Code := { maxStack := 2, maxLocals := 2, code := jdk_43_method_2_code, exceptionTable := #[], attributes := #[] }
def k16m1 : Method := { name := "charAt", desc := "([BI)C", sig := { parameters := [(.array .byte), .int], returnType := some .char }, accessFlags := 9, code := some k16c1 }
/-- java/lang/StringLatin1 -/
def k16 : Class := { plain "java/lang/StringLatin1" (some 0) with
  accessFlags := 48
  interfaces := #[]
  cf := some (fileOf pool16 14 #[.nestMembers #[390, 221]] #[{ accessFlags := 0, nameIndex := 7, descriptorIndex := 8, attributes := #[] }, { accessFlags := 9, nameIndex := 252, descriptorIndex := 53, attributes := #[] }] 48 4 #[] #[{ accessFlags := 4120, nameIndex := 121, descriptorIndex := 122, attributes := #[] }])
  fields := #[{ name := "$assertionsDisabled", type := .boolean, accessFlags := 4120, slot := 0, constantValue := 0 }]
  methods := #[k16m0, k16m1]
  instanceTypes := #[]
  staticTypes := #[.boolean]
  resolved := Array.replicate 395 none
  statics := none }

def pool17 : Array CpInfo := pool [(2, .class_ 4), (1, u "java/lang/Object"), (0, u "<init>"), (0, u "()V"), (17, .class_ 26), (1, u "jdk/internal/util/Preconditions"), (6, u "checkIndex"), (21, .class_ 56), (0, u "jdk/internal/util/Preconditions$4"), (57, .class_ 115), (0, u "jdk/internal/util/Preconditions$1"), (7, u "SIOOBE_FORMATTER"), (0, u "Ljava/util/function/BiFunction;"), (0, .class_ 126), (0, u "jdk/internal/util/Preconditions$2"), (3, u "AIOOBE_FORMATTER"), (0, .class_ 132), (0, u "jdk/internal/util/Preconditions$3"), (3, u "IOOBE_FORMATTER"), (41, u "(IILjava/util/function/BiFunction;)I")] 15

def k17m0 : Method := { name := "<init>", desc := "()V", sig := { parameters := [], returnType := none }, accessFlags := 1, code := none }
def k17c1 : Code := { maxStack := 3, maxLocals := 3, code := jdk_41_method_11_code, exceptionTable := #[], attributes := #[] }
def k17m1 : Method := { name := "checkIndex", desc := "(IILjava/util/function/BiFunction;)I", sig := { parameters := [.int, .int, (.object "java/util/function/BiFunction")], returnType := some .int }, accessFlags := 9, code := some k17c1 }
/-- jdk/internal/util/Preconditions -/
def k17 : Class := { plain "jdk/internal/util/Preconditions" (some 0) with
  accessFlags := 33
  interfaces := #[]
  cf := some (fileOf pool17 24 #[.nestMembers #[55, 131, 125, 114]] #[{ accessFlags := 1, nameIndex := 5, descriptorIndex := 6, attributes := #[] }, { accessFlags := 9, nameIndex := 33, descriptorIndex := 178, attributes := #[] }] 33 2 #[] #[{ accessFlags := 25, nameIndex := 123, descriptorIndex := 124, attributes := #[] }, { accessFlags := 25, nameIndex := 130, descriptorIndex := 124, attributes := #[] }, { accessFlags := 25, nameIndex := 136, descriptorIndex := 124, attributes := #[] }])
  fields := #[{ name := "SIOOBE_FORMATTER", type := (.object "java/util/function/BiFunction"), accessFlags := 25, slot := 0, constantValue := 0 }, { name := "AIOOBE_FORMATTER", type := (.object "java/util/function/BiFunction"), accessFlags := 25, slot := 1, constantValue := 0 }, { name := "IOOBE_FORMATTER", type := (.object "java/util/function/BiFunction"), accessFlags := 25, slot := 2, constantValue := 0 }]
  methods := #[k17m0, k17m1]
  instanceTypes := #[]
  staticTypes := #[(.object "java/util/function/BiFunction"), (.object "java/util/function/BiFunction"), (.object "java/util/function/BiFunction")]
  resolved := Array.replicate 194 none
  statics := some 1 }

def pool18 : Array CpInfo := pool [(6, .class_ 8), (1, u "java/lang/Object"), (0, u "<init>"), (0, u "()V"), (1, .class_ 14), (1, u "java/lang/StringUTF16"), (31, u "$assertionsDisabled"), (0, u "Z"), (13, u "HI_BYTE_SHIFT"), (0, u "I"), (2, u "LO_BYTE_SHIFT"), (49, .methodref 12 116), (0, .nameAndType 117 118), (0, u "compress"), (0, u "([CI[BII)I"), (3, u "([CII)[B"), (138, u "coderFromArrayLen"), (0, u "([BI)B"), (106, .class_ 371), (1, u "java/lang/StringUTF16$LinesSpliterator"), (58, u "MAX_LENGTH"), (196, .class_ 628), (0, u "java/lang/StringUTF16$CodePointsSpliterator"), (0, .class_ 630), (0, u "java/lang/StringUTF16$CharsSpliterator")] 4

def k18m0 : Method := { name := "<init>", desc := "()V", sig := { parameters := [], returnType := none }, accessFlags := 0, code := none }
def k18c1 : Code := { maxStack := 2, maxLocals := 2, code := jdk_52_method_15_code, exceptionTable := #[], attributes := #[] }
def k18m1 : Method := { name := "coderFromArrayLen", desc := "([BI)B", sig := { parameters := [(.array .byte), .int], returnType := some .byte }, accessFlags := 8, code := some k18c1 }
def k18c2 : Code := { maxStack := 5, maxLocals := 6, code := jdk_52_method_16_code, exceptionTable := #[], attributes := #[] }
def k18m2 : Method := { name := "compress", desc := "([CII)[B", sig := { parameters := [(.array .char), .int, .int], returnType := some (.array .byte) }, accessFlags := 9, code := some k18c2 }
def k18c3 : Code := { maxStack := 3, maxLocals := 7, code := jdk_52_method_21_code, exceptionTable := #[], attributes := #[] }
def k18m3 : Method := { name := "compress", desc := "([CI[BII)I", sig := { parameters := [(.array .char), .int, (.array .byte), .int, .int], returnType := some .int }, accessFlags := 9, code := some k18c3 }
/-- java/lang/StringUTF16 -/
def k18 : Class := { plain "java/lang/StringUTF16" (some 0) with
  accessFlags := 48
  interfaces := #[]
  cf := some (fileOf pool18 12 #[.nestMembers #[627, 629, 369]] #[{ accessFlags := 0, nameIndex := 9, descriptorIndex := 10, attributes := #[] }, { accessFlags := 8, nameIndex := 261, descriptorIndex := 262, attributes := #[] }, { accessFlags := 9, nameIndex := 117, descriptorIndex := 122, attributes := #[] }, { accessFlags := 9, nameIndex := 117, descriptorIndex := 118, attributes := #[] }] 48 6 #[] #[{ accessFlags := 26, nameIndex := 61, descriptorIndex := 62, attributes := #[] }, { accessFlags := 26, nameIndex := 65, descriptorIndex := 62, attributes := #[] }, { accessFlags := 24, nameIndex := 430, descriptorIndex := 62, attributes := #[] }, { accessFlags := 4120, nameIndex := 46, descriptorIndex := 47, attributes := #[] }])
  fields := #[{ name := "HI_BYTE_SHIFT", type := .int, accessFlags := 26, slot := 0, constantValue := 0 }, { name := "LO_BYTE_SHIFT", type := .int, accessFlags := 26, slot := 1, constantValue := 0 }, { name := "MAX_LENGTH", type := .int, accessFlags := 24, slot := 2, constantValue := 0 }, { name := "$assertionsDisabled", type := .boolean, accessFlags := 4120, slot := 3, constantValue := 0 }]
  methods := #[k18m0, k18m1, k18m2, k18m3]
  instanceTypes := #[]
  staticTypes := #[.int, .int, .int, .boolean]
  resolved := Array.replicate 635 none
  statics := none }

def pool19 : Array CpInfo := pool [(9, u "<init>"), (6, .class_ 18), (1, u "java/lang/Object"), (0, u "()V"), (1, .class_ 23), (1, u "jdk/internal/util/ArraysSupport"), (0, u "LOG2_ARRAY_LONG_INDEX_SCALE"), (0, u "I"), (2, u "U"), (0, u "Ljdk/internal/misc/Unsafe;"), (8, u "BIG_ENDIAN"), (0, u "Z"), (8, u "LOG2_BYTE_BIT_SIZE"), (4, u "LOG2_ARRAY_INT_INDEX_SCALE"), (54, u "JLA"), (0, u "Ljdk/internal/access/JavaLangAccess;"), (11, u "LOG2_ARRAY_BOOLEAN_INDEX_SCALE"), (9, u "LOG2_ARRAY_BYTE_INDEX_SCALE"), (5, u "LOG2_ARRAY_CHAR_INDEX_SCALE"), (5, u "LOG2_ARRAY_SHORT_INDEX_SCALE"), (5, u "mismatch"), (12, u "LOG2_ARRAY_FLOAT_INDEX_SCALE"), (24, u "LOG2_ARRAY_DOUBLE_INDEX_SCALE"), (89, u "T_BOOLEAN"), (2, u "T_CHAR"), (1, u "T_FLOAT"), (1, u "T_DOUBLE"), (1, u "T_BYTE"), (1, u "T_SHORT"), (1, u "T_INT"), (1, u "T_LONG"), (1, u "SOFT_MAX_ARRAY_LENGTH"), (42, u "([BI[BII)I")] 40

def k19m0 : Method := { name := "<init>", desc := "()V", sig := { parameters := [], returnType := none }, accessFlags := 2, code := none }
def k19c1 : Code := { maxStack := 8, maxLocals := 8, code := jdk_48_method_14_code, exceptionTable := #[], attributes := #[] }
def k19m1 : Method := { name := "mismatch", desc := "([BI[BII)I", sig := { parameters := [(.array .byte), .int, (.array .byte), .int, .int], returnType := some .int }, accessFlags := 9, code := some k19c1 }
/-- jdk/internal/util/ArraysSupport -/
def k19 : Class := { plain "jdk/internal/util/ArraysSupport" (some 0) with
  accessFlags := 33
  interfaces := #[]
  cf := some (fileOf pool19 21 #[] #[{ accessFlags := 2, nameIndex := 9, descriptorIndex := 19, attributes := #[] }, { accessFlags := 9, nameIndex := 149, descriptorIndex := 337, attributes := #[] }] 33 16 #[] #[{ accessFlags := 24, nameIndex := 28, descriptorIndex := 29, attributes := #[] }, { accessFlags := 26, nameIndex := 38, descriptorIndex := 39, attributes := #[] }, { accessFlags := 25, nameIndex := 121, descriptorIndex := 25, attributes := #[] }, { accessFlags := 25, nameIndex := 131, descriptorIndex := 25, attributes := #[] }, { accessFlags := 25, nameIndex := 137, descriptorIndex := 25, attributes := #[] }, { accessFlags := 25, nameIndex := 143, descriptorIndex := 25, attributes := #[] }, { accessFlags := 25, nameIndex := 53, descriptorIndex := 25, attributes := #[] }, { accessFlags := 25, nameIndex := 24, descriptorIndex := 25, attributes := #[] }, { accessFlags := 25, nameIndex := 162, descriptorIndex := 25, attributes := #[] }, { accessFlags := 25, nameIndex := 187, descriptorIndex := 25, attributes := #[] }, { accessFlags := 26, nameIndex := 48, descriptorIndex := 25, attributes := #[] }, { accessFlags := 25, nameIndex := 277, descriptorIndex := 25, attributes := #[] }, { accessFlags := 25, nameIndex := 280, descriptorIndex := 25, attributes := #[] }, { accessFlags := 25, nameIndex := 282, descriptorIndex := 25, attributes := #[] }, { accessFlags := 25, nameIndex := 284, descriptorIndex := 25, attributes := #[] }, { accessFlags := 25, nameIndex := 286, descriptorIndex := 25, attributes := #[] }, { accessFlags := 25, nameIndex := 288, descriptorIndex := 25, attributes := #[] }, { accessFlags := 25, nameIndex := 290, descriptorIndex := 25, attributes := #[] }, { accessFlags := 25, nameIndex := 292, descriptorIndex := 25, attributes := #[] }, { accessFlags := 26, nameIndex := 108, descriptorIndex := 109, attributes := #[] }, { accessFlags := 25, nameIndex := 294, descriptorIndex := 25, attributes := #[] }])
  fields := #[{ name := "U", type := (.object "jdk/internal/misc/Unsafe"), accessFlags := 24, slot := 0, constantValue := 0 }, { name := "BIG_ENDIAN", type := .boolean, accessFlags := 26, slot := 1, constantValue := 0 }, { name := "LOG2_ARRAY_BOOLEAN_INDEX_SCALE", type := .int, accessFlags := 25, slot := 2, constantValue := 0 }, { name := "LOG2_ARRAY_BYTE_INDEX_SCALE", type := .int, accessFlags := 25, slot := 3, constantValue := 0 }, { name := "LOG2_ARRAY_CHAR_INDEX_SCALE", type := .int, accessFlags := 25, slot := 4, constantValue := 0 }, { name := "LOG2_ARRAY_SHORT_INDEX_SCALE", type := .int, accessFlags := 25, slot := 5, constantValue := 0 }, { name := "LOG2_ARRAY_INT_INDEX_SCALE", type := .int, accessFlags := 25, slot := 6, constantValue := 0 }, { name := "LOG2_ARRAY_LONG_INDEX_SCALE", type := .int, accessFlags := 25, slot := 7, constantValue := 0 }, { name := "LOG2_ARRAY_FLOAT_INDEX_SCALE", type := .int, accessFlags := 25, slot := 8, constantValue := 0 }, { name := "LOG2_ARRAY_DOUBLE_INDEX_SCALE", type := .int, accessFlags := 25, slot := 9, constantValue := 0 }, { name := "LOG2_BYTE_BIT_SIZE", type := .int, accessFlags := 26, slot := 10, constantValue := 0 }, { name := "T_BOOLEAN", type := .int, accessFlags := 25, slot := 11, constantValue := 0 }, { name := "T_CHAR", type := .int, accessFlags := 25, slot := 12, constantValue := 0 }, { name := "T_FLOAT", type := .int, accessFlags := 25, slot := 13, constantValue := 0 }, { name := "T_DOUBLE", type := .int, accessFlags := 25, slot := 14, constantValue := 0 }, { name := "T_BYTE", type := .int, accessFlags := 25, slot := 15, constantValue := 0 }, { name := "T_SHORT", type := .int, accessFlags := 25, slot := 16, constantValue := 0 }, { name := "T_INT", type := .int, accessFlags := 25, slot := 17, constantValue := 0 }, { name := "T_LONG", type := .int, accessFlags := 25, slot := 18, constantValue := 0 }, { name := "JLA", type := (.object "jdk/internal/access/JavaLangAccess"), accessFlags := 26, slot := 19, constantValue := 0 }, { name := "SOFT_MAX_ARRAY_LENGTH", type := .int, accessFlags := 25, slot := 20, constantValue := 0 }]
  methods := #[k19m0, k19m1]
  instanceTypes := #[]
  staticTypes := #[(.object "jdk/internal/misc/Unsafe"), .boolean, .int, .int, .int, .int, .int, .int, .int, .int, .int, .int, .int, .int, .int, .int, .int, .int, .int, (.object "jdk/internal/access/JavaLangAccess"), .int]
  resolved := Array.replicate 378 none
  statics := none }

def pool20 : Array CpInfo := pool [(1, u "java/lang/Cloneable"), (0, .class_ 1), (0, u "java/lang/Object"), (0, .class_ 3)] 3

/-- java/lang/Cloneable -/
def k20 : Class := { plain "java/lang/Cloneable" (some 0) with
  accessFlags := 1537
  interfaces := #[]
  cf := some (fileOf pool20 2 #[] #[] 1537 4 #[] #[])
  fields := #[]
  methods := #[]
  instanceTypes := #[]
  staticTypes := #[]
  resolved := Array.replicate 8 none
  statics := none }

/-- the primitive byte -/
def k21 : Class := { plain "byte" none with kind := .primitive 'B', accessFlags := 0x411 }
/-- [B -/
def k22 : Class := { plain "[B" (some 0) with kind := .array 21 .byte, interfaces := #[20, 2], accessFlags := 1041 }

/-- the primitive char -/
def k23 : Class := { plain "char" none with kind := .primitive 'C', accessFlags := 0x411 }
/-- [C -/
def k24 : Class := { plain "[C" (some 0) with kind := .array 23 .char, interfaces := #[20, 2], accessFlags := 1041 }

/-- the primitive int -/
def k25 : Class := { plain "int" none with kind := .primitive 'I', accessFlags := 0x411 }
/-- [I -/
def k26 : Class := { plain "[I" (some 0) with kind := .array 25 .int, interfaces := #[20, 2], accessFlags := 1041 }

def heap : Heap := #[{ cls := 7, slots := #[.long 0, .int 1, .null, .int 0, .null, .int 0, .int 0], vm := .statics 7 },
  { cls := 17, slots := #[.null, .null, .null], vm := .statics 17 }]
def classes : Array Class := #[k0, k1, k2, k3, k4, k5, k6, k7, k8, k9, k10, k11, k12, k13, k14, k15, k16, k17, k18, k19, k20, k21, k22, k23, k24, k25, k26]
def interned : List (Array UInt16 × Addr) := []
def slotsUsed : Nat := 10
def theMethod : MethodId := ⟨1, 1⟩
def args0 : Array Value := #[.int 5, .int 6, .int 7, .int 8]
def aboutOver (below : List Frame) : State where
  vm := { classes := classes, interned := interned.toArray }
  heap := heap
  slotsUsed := slotsUsed
  threads := #[{ frames := .invoking theMethod args0 :: below }]
def below0 : List Frame := [.native { method := ⟨0, 0⟩, args := #[] }]
def about1 : State := aboutOver below0
def p0 : Program := .bare "" "" ""
def e0 : Env := launch0.env 0 0 0
theorem w_frames : about1.frames = Frame.invoking theMethod args0 :: below0 := rfl
set_option maxRecDepth 65536 in
theorem w_args : argsFit about1.vm theMethod args0 = true := by decide +kernel
set_option maxRecDepth 65536 in
theorem w_heap : heapFits about1 = true := by decide +kernel
set_option maxRecDepth 65536 in
theorem w_runnable : about1.curStatus? = some .runnable := by decide +kernel
set_option maxRecDepth 65536 in
theorem w_alone : about1.alone = true := by decide +kernel
set_option maxRecDepth 65536 in
theorem w_named : about1.methodNamed? x = some theMethod := by decide +kernel
set_option maxRecDepth 65536 in
theorem w_hears : about1.hears theMethod below0 = true := by decide +kernel
set_option maxRecDepth 65536 in
theorem w_ripe : about1.ripe theMethod args0 below0 = true := by decide +kernel
theorem w_running : about1.status = .running := rfl
set_option maxRecDepth 65536 in
theorem w_room : about1.hasRoom e0.platform room_1 = true :=
  launch0.hasRoom_least _ room_1 (by decide +kernel) (by decide +kernel) (by decide +kernel) (by decide +kernel) (by decide +kernel) (by decide +kernel)
theorem allAtoms_all (ts : List Jvm.Cond) (a : Array Jvm.Value) (st : Jvm.State) : (allAtoms ts).before a st = ts.all (fun c => c.before a st) := by
  induction ts with
  | nil => rfl
  | cons c t ih =>
    show (Jvm.Cond.and c (allAtoms t)).before a st = _
    rw [Jvm.Cond.before_and, ih, List.all_cons]
def words1 : List Jvm.Cond := Jvm.Cond.code x code maxLocals ret :: tables_1
/-- a 'code' word, met by the world's own term for the bytes: nothing is compared byte by byte -/
theorem code_word {y : MethodName} {bytes : ByteArray} {mx : Nat} {rt : Option FieldType} {a : Array Value} {s : State} {m : MethodId} {meth : Method} {c : Code} (h1 : s.methodNamed? y = some m) (h2 : s.vm.method? m = some meth) (h3 : meth.code = some c) (h4 : c.code = bytes)
    (h5 : (c.maxLocals == mx && c.exceptionTable.isEmpty && decide (c.maxStack ≤ mostOperands) && decide (meth.sig.returnType = rt) && !meth.locks && decide (parseMethodDescriptor y.desc = some meth.sig)) = true) : (Jvm.Cond.code y bytes mx rt).before a s = true := by
  simp only [Bool.and_eq_true, beq_iff_eq, Bool.not_eq_true', decide_eq_true_eq] at h5
  obtain ⟨⟨⟨⟨⟨g1, g2⟩, g3⟩, g4⟩, g5⟩, g6⟩ := h5
  simp [Cond.before, Cond.holds, Cond.value, h1, h2, h3, h4, g1, g2, g3, g4, g5, g6]
def isCode : Jvm.Cond → Bool
  | .code _ _ _ _ => true
  | _ => false
theorem all_split {L : List Jvm.Cond} {P : Jvm.Cond → Bool} (h1 : L.all (fun c => isCode c || P c) = true) (h2 : ∀ c ∈ L.filter isCode, P c = true) : L.all P = true := by
  refine List.all_eq_true.mpr fun c hc => ?_
  have h := List.all_eq_true.mp h1 c hc
  rcases Bool.eq_false_or_eq_true (isCode c) with hi | hi
  · exact h2 c (List.mem_filter.mpr ⟨hc, hi⟩)
  · simpa [hi] using h
set_option maxRecDepth 65536 in
theorem w_c0 : (Jvm.Cond.code x code maxLocals ret).before args0 about1 = true := code_word (m := ⟨1, 1⟩) (meth := k1m1) (c := k1c1) (by decide +kernel) rfl rfl rfl (by decide +kernel)
set_option maxRecDepth 65536 in
theorem w_c1 : (Jvm.Cond.code ({ cls := "java/lang/String", name := "<init>", desc := "([C)V" } : Jvm.MethodName) jdk_42_method_3_code (2 : Nat) (Option.none : Option Jvm.ClassFile.FieldType)).before args0 about1 = true := code_word (m := ⟨7, 1⟩) (meth := k7m1) (c := k7c1) (by decide +kernel) rfl rfl rfl (by decide +kernel)
set_option maxRecDepth 65536 in
theorem w_c2 : (Jvm.Cond.code ({ cls := "java/lang/String", name := "<init>", desc := "([CIILjava/lang/Void;)V" } : Jvm.MethodName) jdk_42_method_149_code (6 : Nat) (Option.none : Option Jvm.ClassFile.FieldType)).before args0 about1 = true := code_word (m := ⟨7, 8⟩) (meth := k7m8) (c := k7c8) (by decide +kernel) rfl rfl rfl (by decide +kernel)
set_option maxRecDepth 65536 in
theorem w_c3 : (Jvm.Cond.code ({ cls := "java/lang/Object", name := "<init>", desc := "()V" } : Jvm.MethodName) object_method_1_code (1 : Nat) (Option.none : Option Jvm.ClassFile.FieldType)).before args0 about1 = true := code_word (m := ⟨0, 0⟩) (meth := k0m0) (c := k0c0) (by decide +kernel) rfl rfl rfl (by decide +kernel)
set_option maxRecDepth 65536 in
theorem w_c4 : (Jvm.Cond.code ({ cls := "com/example/federant/federant/saml/IdpEndpoints", name := "under", desc := "(Ljava/lang/String;)Lcom/example/federant/federant/saml/IdpEndpoints;" } : Jvm.MethodName) prog_26_method_2_code (1 : Nat) (Option.some (Jvm.ClassFile.FieldType.object "com/example/federant/federant/saml/IdpEndpoints"))).before args0 about1 = true := code_word (m := ⟨9, 1⟩) (meth := k9m1) (c := k9c1) (by decide +kernel) rfl rfl rfl (by decide +kernel)
set_option maxRecDepth 65536 in
theorem w_c5 : (Jvm.Cond.code ({ cls := "java/lang/String", name := "endsWith", desc := "(Ljava/lang/String;)Z" } : Jvm.MethodName) jdk_42_method_77_code (2 : Nat) (Option.some Jvm.ClassFile.FieldType.boolean)).before args0 about1 = true := code_word (m := ⟨7, 6⟩) (meth := k7m6) (c := k7c6) (by decide +kernel) rfl rfl rfl (by decide +kernel)
set_option maxRecDepth 65536 in
theorem w_c6 : (Jvm.Cond.code ({ cls := "java/lang/String", name := "length", desc := "()I" } : Jvm.MethodName) jdk_42_method_54_code (1 : Nat) (Option.some Jvm.ClassFile.FieldType.int)).before args0 about1 = true := code_word (m := ⟨7, 3⟩) (meth := k7m3) (c := k7c3) (by decide +kernel) rfl rfl rfl (by decide +kernel)
set_option maxRecDepth 65536 in
theorem w_c7 : (Jvm.Cond.code ({ cls := "java/lang/String", name := "coder", desc := "()B" } : Jvm.MethodName) jdk_42_method_152_code (1 : Nat) (Option.some Jvm.ClassFile.FieldType.byte)).before args0 about1 = true := code_word (m := ⟨7, 10⟩) (meth := k7m10) (c := k7c10) (by decide +kernel) rfl rfl rfl (by decide +kernel)
set_option maxRecDepth 65536 in
theorem w_c8 : (Jvm.Cond.code ({ cls := "java/lang/String", name := "startsWith", desc := "(Ljava/lang/String;I)Z" } : Jvm.MethodName) jdk_42_method_75_code (8 : Nat) (Option.some Jvm.ClassFile.FieldType.boolean)).before args0 about1 = true := code_word (m := ⟨7, 5⟩) (meth := k7m5) (c := k7c5) (by decide +kernel) rfl rfl rfl (by decide +kernel)
set_option maxRecDepth 65536 in
theorem w_c9 : (Jvm.Cond.code ({ cls := "java/lang/StringBuilder", name := "<init>", desc := "()V" } : Jvm.MethodName) jdk_67_method_1_code (1 : Nat) (Option.none : Option Jvm.ClassFile.FieldType)).before args0 about1 = true := code_word (m := ⟨12, 0⟩) (meth := k12m0) (c := k12c0) (by decide +kernel) rfl rfl rfl (by decide +kernel)
set_option maxRecDepth 65536 in
theorem w_c10 : (Jvm.Cond.code ({ cls := "java/lang/AbstractStringBuilder", name := "<init>", desc := "(I)V" } : Jvm.MethodName) jdk_68_method_2_code (2 : Nat) (Option.none : Option Jvm.ClassFile.FieldType)).before args0 about1 = true := code_word (m := ⟨11, 1⟩) (meth := k11m1) (c := k11c1) (by decide +kernel) rfl rfl rfl (by decide +kernel)
set_option maxRecDepth 65536 in
theorem w_c11 : (Jvm.Cond.code ({ cls := "java/lang/StringBuilder", name := "append", desc := "(Ljava/lang/String;)Ljava/lang/StringBuilder;" } : Jvm.MethodName) jdk_67_method_7_code (2 : Nat) (Option.some (Jvm.ClassFile.FieldType.object "java/lang/StringBuilder"))).before args0 about1 = true := code_word (m := ⟨12, 1⟩) (meth := k12m1) (c := k12c1) (by decide +kernel) rfl rfl rfl (by decide +kernel)
set_option maxRecDepth 65536 in
theorem w_c12 : (Jvm.Cond.code ({ cls := "java/lang/AbstractStringBuilder", name := "append", desc := "(Ljava/lang/String;)Ljava/lang/AbstractStringBuilder;" } : Jvm.MethodName) jdk_68_method_22_code (3 : Nat) (Option.some (Jvm.ClassFile.FieldType.object "java/lang/AbstractStringBuilder"))).before args0 about1 = true := code_word (m := ⟨11, 4⟩) (meth := k11m4) (c := k11c4) (by decide +kernel) rfl rfl rfl (by decide +kernel)
set_option maxRecDepth 65536 in
theorem w_c13 : (Jvm.Cond.code ({ cls := "java/lang/AbstractStringBuilder", name := "ensureCapacityInternal", desc := "(I)V" } : Jvm.MethodName) jdk_68_method_9_code (3 : Nat) (Option.none : Option Jvm.ClassFile.FieldType)).before args0 about1 = true := code_word (m := ⟨11, 3⟩) (meth := k11m3) (c := k11c3) (by decide +kernel) rfl rfl rfl (by decide +kernel)
set_option maxRecDepth 65536 in
theorem w_c14 : (Jvm.Cond.code ({ cls := "java/lang/AbstractStringBuilder", name := "putStringAt", desc := "(ILjava/lang/String;)V" } : Jvm.MethodName) jdk_68_method_73_code (3 : Nat) (Option.none : Option Jvm.ClassFile.FieldType)).before args0 about1 = true := code_word (m := ⟨11, 8⟩) (meth := k11m8) (c := k11c8) (by decide +kernel) rfl rfl rfl (by decide +kernel)
set_option maxRecDepth 65536 in
theorem w_c15 : (Jvm.Cond.code ({ cls := "java/lang/AbstractStringBuilder", name := "inflateIfNeededFor", desc := "(Ljava/lang/String;)V" } : Jvm.MethodName) jdk_68_method_71_code (2 : Nat) (Option.none : Option Jvm.ClassFile.FieldType)).before args0 about1 = true := code_word (m := ⟨11, 7⟩) (meth := k11m7) (c := k11c7) (by decide +kernel) rfl rfl rfl (by decide +kernel)
set_option maxRecDepth 65536 in
theorem w_c16 : (Jvm.Cond.code ({ cls := "java/lang/String", name := "getBytes", desc := "([BIB)V" } : Jvm.MethodName) jdk_42_method_147_code (4 : Nat) (Option.none : Option Jvm.ClassFile.FieldType)).before args0 about1 = true := code_word (m := ⟨7, 7⟩) (meth := k7m7) (c := k7c7) (by decide +kernel) rfl rfl rfl (by decide +kernel)
set_option maxRecDepth 65536 in
theorem w_c17 : (Jvm.Cond.code ({ cls := "java/lang/StringBuilder", name := "toString", desc := "()Ljava/lang/String;" } : Jvm.MethodName) jdk_67_method_42_code (1 : Nat) (Option.some (Jvm.ClassFile.FieldType.object "java/lang/String"))).before args0 about1 = true := code_word (m := ⟨12, 2⟩) (meth := k12m2) (c := k12c2) (by decide +kernel) rfl rfl rfl (by decide +kernel)
set_option maxRecDepth 65536 in
theorem w_c18 : (Jvm.Cond.code ({ cls := "java/lang/String", name := "<init>", desc := "(Ljava/lang/StringBuilder;)V" } : Jvm.MethodName) jdk_42_method_53_code (2 : Nat) (Option.none : Option Jvm.ClassFile.FieldType)).before args0 about1 = true := code_word (m := ⟨7, 2⟩) (meth := k7m2) (c := k7c2) (by decide +kernel) rfl rfl rfl (by decide +kernel)
set_option maxRecDepth 65536 in
theorem w_c19 : (Jvm.Cond.code ({ cls := "java/lang/String", name := "<init>", desc := "(Ljava/lang/AbstractStringBuilder;Ljava/lang/Void;)V" } : Jvm.MethodName) jdk_42_method_150_code (5 : Nat) (Option.none : Option Jvm.ClassFile.FieldType)).before args0 about1 = true := code_word (m := ⟨7, 9⟩) (meth := k7m9) (c := k7c9) (by decide +kernel) rfl rfl rfl (by decide +kernel)
set_option maxRecDepth 65536 in
theorem w_c20 : (Jvm.Cond.code ({ cls := "java/lang/AbstractStringBuilder", name := "getValue", desc := "()[B" } : Jvm.MethodName) jdk_68_method_64_code (1 : Nat) (Option.some (Jvm.ClassFile.FieldType.array Jvm.ClassFile.FieldType.byte))).before args0 about1 = true := code_word (m := ⟨11, 5⟩) (meth := k11m5) (c := k11c5) (by decide +kernel) rfl rfl rfl (by decide +kernel)
set_option maxRecDepth 65536 in
theorem w_c21 : (Jvm.Cond.code ({ cls := "java/lang/StringBuilder", name := "length", desc := "()I" } : Jvm.MethodName) jdk_67_method_93_code (1 : Nat) (Option.some Jvm.ClassFile.FieldType.int)).before args0 about1 = true := code_word (m := ⟨12, 3⟩) (meth := k12m3) (c := k12c3) (by decide +kernel) rfl rfl rfl (by decide +kernel)
set_option maxRecDepth 65536 in
theorem w_c22 : (Jvm.Cond.code ({ cls := "java/lang/AbstractStringBuilder", name := "length", desc := "()I" } : Jvm.MethodName) jdk_68_method_6_code (1 : Nat) (Option.some Jvm.ClassFile.FieldType.int)).before args0 about1 = true := code_word (m := ⟨11, 2⟩) (meth := k11m2) (c := k11c2) (by decide +kernel) rfl rfl rfl (by decide +kernel)
set_option maxRecDepth 65536 in
theorem w_c23 : (Jvm.Cond.code ({ cls := "java/lang/AbstractStringBuilder", name := "isLatin1", desc := "()Z" } : Jvm.MethodName) jdk_68_method_68_code (1 : Nat) (Option.some Jvm.ClassFile.FieldType.boolean)).before args0 about1 = true := code_word (m := ⟨11, 6⟩) (meth := k11m6) (c := k11c6) (by decide +kernel) rfl rfl rfl (by decide +kernel)
set_option maxRecDepth 65536 in
theorem w_c24 : (Jvm.Cond.code ({ cls := "java/util/Arrays", name := "copyOfRange", desc := "([BII)[B" } : Jvm.MethodName) jdk_65_method_132_code (3 : Nat) (Option.some (Jvm.ClassFile.FieldType.array Jvm.ClassFile.FieldType.byte))).before args0 about1 = true := code_word (m := ⟨14, 2⟩) (meth := k14m2) (c := k14c2) (by decide +kernel) rfl rfl rfl (by decide +kernel)
set_option maxRecDepth 65536 in
theorem w_c25 : (Jvm.Cond.code ({ cls := "java/util/Arrays", name := "copyOfRangeByte", desc := "([BII)[B" } : Jvm.MethodName) jdk_65_method_133_code (5 : Nat) (Option.some (Jvm.ClassFile.FieldType.array Jvm.ClassFile.FieldType.byte))).before args0 about1 = true := code_word (m := ⟨14, 3⟩) (meth := k14m3) (c := k14c3) (by decide +kernel) rfl rfl rfl (by decide +kernel)
set_option maxRecDepth 65536 in
theorem w_c26 : (Jvm.Cond.code ({ cls := "java/util/Arrays", name := "checkLength", desc := "(II)V" } : Jvm.MethodName) jdk_65_method_131_code (2 : Nat) (Option.none : Option Jvm.ClassFile.FieldType)).before args0 about1 = true := code_word (m := ⟨14, 1⟩) (meth := k14m1) (c := k14c1) (by decide +kernel) rfl rfl rfl (by decide +kernel)
set_option maxRecDepth 65536 in
theorem w_c27 : (Jvm.Cond.code ({ cls := "java/lang/Math", name := "min", desc := "(II)I" } : Jvm.MethodName) jdk_29_method_69_code (2 : Nat) (Option.some Jvm.ClassFile.FieldType.int)).before args0 about1 = true := code_word (m := ⟨15, 1⟩) (meth := k15m1) (c := k15c1) (by decide +kernel) rfl rfl rfl (by decide +kernel)
set_option maxRecDepth 65536 in
theorem w_c28 : (Jvm.Cond.code ({ cls := "com/example/federant/federant/saml/IdpEndpoints", name := "<init>", desc := "(Ljava/lang/String;Ljava/lang/String;Ljava/lang/String;Ljava/lang/String;)V" } : Jvm.MethodName) prog_26_method_1_code (5 : Nat) (Option.none : Option Jvm.ClassFile.FieldType)).before args0 about1 = true := code_word (m := ⟨9, 0⟩) (meth := k9m0) (c := k9c0) (by decide +kernel) rfl rfl rfl (by decide +kernel)
set_option maxRecDepth 65536 in
theorem w_c29 : (Jvm.Cond.code ({ cls := "java/lang/Record", name := "<init>", desc := "()V" } : Jvm.MethodName) jdk_30_method_1_code (1 : Nat) (Option.none : Option Jvm.ClassFile.FieldType)).before args0 about1 = true := code_word (m := ⟨8, 0⟩) (meth := k8m0) (c := k8c0) (by decide +kernel) rfl rfl rfl (by decide +kernel)
set_option maxRecDepth 65536 in
theorem w_c30 : (Jvm.Cond.code ({ cls := "com/example/federant/federant/saml/IdpEndpoints", name := "entityId", desc := "()Ljava/lang/String;" } : Jvm.MethodName) prog_26_method_6_code (1 : Nat) (Option.some (Jvm.ClassFile.FieldType.object "java/lang/String"))).before args0 about1 = true := code_word (m := ⟨9, 2⟩) (meth := k9m2) (c := k9c2) (by decide +kernel) rfl rfl rfl (by decide +kernel)
set_option maxRecDepth 65536 in
theorem w_c31 : (Jvm.Cond.code ({ cls := "com/example/federant/federant/saml/IdpEndpointsUnderPinLaw", name := "is", desc := "(Ljava/lang/String;Ljava/lang/String;Ljava/lang/String;)Z" } : Jvm.MethodName) method_3_code (3 : Nat) (Option.some Jvm.ClassFile.FieldType.boolean)).before args0 about1 = true := code_word (m := ⟨1, 2⟩) (meth := k1m2) (c := k1c2) (by decide +kernel) rfl rfl rfl (by decide +kernel)
set_option maxRecDepth 65536 in
theorem w_c32 : (Jvm.Cond.code ({ cls := "com/example/federant/federant/saml/IdpEndpointsUnderPinLaw", name := "has", desc := "(Ljava/lang/String;ILjava/lang/String;)Z" } : Jvm.MethodName) method_4_code (3 : Nat) (Option.some Jvm.ClassFile.FieldType.boolean)).before args0 about1 = true := code_word (m := ⟨1, 3⟩) (meth := k1m3) (c := k1c3) (by decide +kernel) rfl rfl rfl (by decide +kernel)
set_option maxRecDepth 65536 in
theorem w_c33 : (Jvm.Cond.code ({ cls := "com/example/federant/federant/saml/IdpEndpointsUnderPinLaw", name := "ch", desc := "(Ljava/lang/String;ILjava/lang/String;I)Z" } : Jvm.MethodName) method_5_code (4 : Nat) (Option.some Jvm.ClassFile.FieldType.boolean)).before args0 about1 = true := code_word (m := ⟨1, 4⟩) (meth := k1m4) (c := k1c4) (by decide +kernel) rfl rfl rfl (by decide +kernel)
set_option maxRecDepth 65536 in
theorem w_c34 : (Jvm.Cond.code ({ cls := "java/lang/String", name := "charAt", desc := "(I)C" } : Jvm.MethodName) jdk_42_method_56_code (2 : Nat) (Option.some Jvm.ClassFile.FieldType.char)).before args0 about1 = true := code_word (m := ⟨7, 4⟩) (meth := k7m4) (c := k7c4) (by decide +kernel) rfl rfl rfl (by decide +kernel)
set_option maxRecDepth 65536 in
theorem w_c35 : (Jvm.Cond.code ({ cls := "java/lang/String", name := "isLatin1", desc := "()Z" } : Jvm.MethodName) jdk_42_method_154_code (1 : Nat) (Option.some Jvm.ClassFile.FieldType.boolean)).before args0 about1 = true := code_word (m := ⟨7, 11⟩) (meth := k7m11) (c := k7c11) (by decide +kernel) rfl rfl rfl (by decide +kernel)
set_option maxRecDepth 65536 in
theorem w_c36 : (Jvm.Cond.code ({ cls := "java/lang/StringLatin1", name := "charAt", desc := "([BI)C" } : Jvm.MethodName) jdk_43_method_2_code (2 : Nat) (Option.some Jvm.ClassFile.FieldType.char)).before args0 about1 = true := code_word (m := ⟨16, 1⟩) (meth := k16m1) (c := k16c1) (by decide +kernel) rfl rfl rfl (by decide +kernel)
set_option maxRecDepth 65536 in
theorem w_c37 : (Jvm.Cond.code ({ cls := "java/lang/String", name := "checkIndex", desc := "(II)V" } : Jvm.MethodName) jdk_42_method_155_code (2 : Nat) (Option.none : Option Jvm.ClassFile.FieldType)).before args0 about1 = true := code_word (m := ⟨7, 12⟩) (meth := k7m12) (c := k7c12) (by decide +kernel) rfl rfl rfl (by decide +kernel)
set_option maxRecDepth 65536 in
theorem w_c38 : (Jvm.Cond.code ({ cls := "jdk/internal/util/Preconditions", name := "checkIndex", desc := "(IILjava/util/function/BiFunction;)I" } : Jvm.MethodName) jdk_41_method_11_code (3 : Nat) (Option.some Jvm.ClassFile.FieldType.int)).before args0 about1 = true := code_word (m := ⟨17, 1⟩) (meth := k17m1) (c := k17c1) (by decide +kernel) rfl rfl rfl (by decide +kernel)
set_option maxRecDepth 65536 in
theorem w_c39 : (Jvm.Cond.code ({ cls := "com/example/federant/federant/saml/IdpEndpoints", name := "metadata", desc := "()Ljava/lang/String;" } : Jvm.MethodName) prog_26_method_7_code (1 : Nat) (Option.some (Jvm.ClassFile.FieldType.object "java/lang/String"))).before args0 about1 = true := code_word (m := ⟨9, 3⟩) (meth := k9m3) (c := k9c3) (by decide +kernel) rfl rfl rfl (by decide +kernel)
set_option maxRecDepth 65536 in
theorem w_c40 : (Jvm.Cond.code ({ cls := "com/example/federant/federant/saml/IdpEndpoints", name := "singleSignOn", desc := "()Ljava/lang/String;" } : Jvm.MethodName) prog_26_method_8_code (1 : Nat) (Option.some (Jvm.ClassFile.FieldType.object "java/lang/String"))).before args0 about1 = true := code_word (m := ⟨9, 4⟩) (meth := k9m4) (c := k9c4) (by decide +kernel) rfl rfl rfl (by decide +kernel)
set_option maxRecDepth 65536 in
theorem w_c41 : (Jvm.Cond.code ({ cls := "com/example/federant/federant/saml/IdpEndpoints", name := "singleLogout", desc := "()Ljava/lang/String;" } : Jvm.MethodName) prog_26_method_9_code (1 : Nat) (Option.some (Jvm.ClassFile.FieldType.object "java/lang/String"))).before args0 about1 = true := code_word (m := ⟨9, 5⟩) (meth := k9m5) (c := k9c5) (by decide +kernel) rfl rfl rfl (by decide +kernel)
set_option maxRecDepth 65536 in
theorem w_c42 : (Jvm.Cond.code ({ cls := "java/lang/StringUTF16", name := "compress", desc := "([CII)[B" } : Jvm.MethodName) jdk_52_method_16_code (6 : Nat) (Option.some (Jvm.ClassFile.FieldType.array Jvm.ClassFile.FieldType.byte))).before args0 about1 = true := code_word (m := ⟨18, 2⟩) (meth := k18m2) (c := k18c2) (by decide +kernel) rfl rfl rfl (by decide +kernel)
set_option maxRecDepth 65536 in
theorem w_c43 : (Jvm.Cond.code ({ cls := "java/lang/StringUTF16", name := "compress", desc := "([CI[BII)I" } : Jvm.MethodName) jdk_52_method_21_code (7 : Nat) (Option.some Jvm.ClassFile.FieldType.int)).before args0 about1 = true := code_word (m := ⟨18, 3⟩) (meth := k18m3) (c := k18c3) (by decide +kernel) rfl rfl rfl (by decide +kernel)
set_option maxRecDepth 65536 in
theorem w_c44 : (Jvm.Cond.code ({ cls := "java/lang/StringUTF16", name := "coderFromArrayLen", desc := "([BI)B" } : Jvm.MethodName) jdk_52_method_15_code (2 : Nat) (Option.some Jvm.ClassFile.FieldType.byte)).before args0 about1 = true := code_word (m := ⟨18, 1⟩) (meth := k18m1) (c := k18c1) (by decide +kernel) rfl rfl rfl (by decide +kernel)
set_option maxRecDepth 65536 in
theorem w_c45 : (Jvm.Cond.code ({ cls := "jdk/internal/util/ArraysSupport", name := "mismatch", desc := "([BI[BII)I" } : Jvm.MethodName) jdk_48_method_14_code (8 : Nat) (Option.some Jvm.ClassFile.FieldType.int)).before args0 about1 = true := code_word (m := ⟨19, 1⟩) (meth := k19m1) (c := k19c1) (by decide +kernel) rfl rfl rfl (by decide +kernel)
def codes1 : List Jvm.Cond := [Jvm.Cond.code x code maxLocals ret, Jvm.Cond.code ({ cls := "java/lang/String", name := "<init>", desc := "([C)V" } : Jvm.MethodName) jdk_42_method_3_code (2 : Nat) (Option.none : Option Jvm.ClassFile.FieldType), Jvm.Cond.code ({ cls := "java/lang/String", name := "<init>", desc := "([CIILjava/lang/Void;)V" } : Jvm.MethodName) jdk_42_method_149_code (6 : Nat) (Option.none : Option Jvm.ClassFile.FieldType), Jvm.Cond.code ({ cls := "java/lang/Object", name := "<init>", desc := "()V" } : Jvm.MethodName) object_method_1_code (1 : Nat) (Option.none : Option Jvm.ClassFile.FieldType), Jvm.Cond.code ({ cls := "com/example/federant/federant/saml/IdpEndpoints", name := "under", desc := "(Ljava/lang/String;)Lcom/example/federant/federant/saml/IdpEndpoints;" } : Jvm.MethodName) prog_26_method_2_code (1 : Nat) (Option.some (Jvm.ClassFile.FieldType.object "com/example/federant/federant/saml/IdpEndpoints")), Jvm.Cond.code ({ cls := "java/lang/String", name := "endsWith", desc := "(Ljava/lang/String;)Z" } : Jvm.MethodName) jdk_42_method_77_code (2 : Nat) (Option.some Jvm.ClassFile.FieldType.boolean), Jvm.Cond.code ({ cls := "java/lang/String", name := "length", desc := "()I" } : Jvm.MethodName) jdk_42_method_54_code (1 : Nat) (Option.some Jvm.ClassFile.FieldType.int), Jvm.Cond.code ({ cls := "java/lang/String", name := "coder", desc := "()B" } : Jvm.MethodName) jdk_42_method_152_code (1 : Nat) (Option.some Jvm.ClassFile.FieldType.byte), Jvm.Cond.code ({ cls := "java/lang/String", name := "startsWith", desc := "(Ljava/lang/String;I)Z" } : Jvm.MethodName) jdk_42_method_75_code (8 : Nat) (Option.some Jvm.ClassFile.FieldType.boolean), Jvm.Cond.code ({ cls := "java/lang/StringBuilder", name := "<init>", desc := "()V" } : Jvm.MethodName) jdk_67_method_1_code (1 : Nat) (Option.none : Option Jvm.ClassFile.FieldType), Jvm.Cond.code ({ cls := "java/lang/AbstractStringBuilder", name := "<init>", desc := "(I)V" } : Jvm.MethodName) jdk_68_method_2_code (2 : Nat) (Option.none : Option Jvm.ClassFile.FieldType), Jvm.Cond.code ({ cls := "java/lang/StringBuilder", name := "append", desc := "(Ljava/lang/String;)Ljava/lang/StringBuilder;" } : Jvm.MethodName) jdk_67_method_7_code (2 : Nat) (Option.some (Jvm.ClassFile.FieldType.object "java/lang/StringBuilder")), Jvm.Cond.code ({ cls := "java/lang/AbstractStringBuilder", name := "append", desc := "(Ljava/lang/String;)Ljava/lang/AbstractStringBuilder;" } : Jvm.MethodName) jdk_68_method_22_code (3 : Nat) (Option.some (Jvm.ClassFile.FieldType.object "java/lang/AbstractStringBuilder")), Jvm.Cond.code ({ cls := "java/lang/AbstractStringBuilder", name := "ensureCapacityInternal", desc := "(I)V" } : Jvm.MethodName) jdk_68_method_9_code (3 : Nat) (Option.none : Option Jvm.ClassFile.FieldType), Jvm.Cond.code ({ cls := "java/lang/AbstractStringBuilder", name := "putStringAt", desc := "(ILjava/lang/String;)V" } : Jvm.MethodName) jdk_68_method_73_code (3 : Nat) (Option.none : Option Jvm.ClassFile.FieldType), Jvm.Cond.code ({ cls := "java/lang/AbstractStringBuilder", name := "inflateIfNeededFor", desc := "(Ljava/lang/String;)V" } : Jvm.MethodName) jdk_68_method_71_code (2 : Nat) (Option.none : Option Jvm.ClassFile.FieldType), Jvm.Cond.code ({ cls := "java/lang/String", name := "getBytes", desc := "([BIB)V" } : Jvm.MethodName) jdk_42_method_147_code (4 : Nat) (Option.none : Option Jvm.ClassFile.FieldType), Jvm.Cond.code ({ cls := "java/lang/StringBuilder", name := "toString", desc := "()Ljava/lang/String;" } : Jvm.MethodName) jdk_67_method_42_code (1 : Nat) (Option.some (Jvm.ClassFile.FieldType.object "java/lang/String")), Jvm.Cond.code ({ cls := "java/lang/String", name := "<init>", desc := "(Ljava/lang/StringBuilder;)V" } : Jvm.MethodName) jdk_42_method_53_code (2 : Nat) (Option.none : Option Jvm.ClassFile.FieldType), Jvm.Cond.code ({ cls := "java/lang/String", name := "<init>", desc := "(Ljava/lang/AbstractStringBuilder;Ljava/lang/Void;)V" } : Jvm.MethodName) jdk_42_method_150_code (5 : Nat) (Option.none : Option Jvm.ClassFile.FieldType), Jvm.Cond.code ({ cls := "java/lang/AbstractStringBuilder", name := "getValue", desc := "()[B" } : Jvm.MethodName) jdk_68_method_64_code (1 : Nat) (Option.some (Jvm.ClassFile.FieldType.array Jvm.ClassFile.FieldType.byte)), Jvm.Cond.code ({ cls := "java/lang/StringBuilder", name := "length", desc := "()I" } : Jvm.MethodName) jdk_67_method_93_code (1 : Nat) (Option.some Jvm.ClassFile.FieldType.int), Jvm.Cond.code ({ cls := "java/lang/AbstractStringBuilder", name := "length", desc := "()I" } : Jvm.MethodName) jdk_68_method_6_code (1 : Nat) (Option.some Jvm.ClassFile.FieldType.int), Jvm.Cond.code ({ cls := "java/lang/AbstractStringBuilder", name := "isLatin1", desc := "()Z" } : Jvm.MethodName) jdk_68_method_68_code (1 : Nat) (Option.some Jvm.ClassFile.FieldType.boolean), Jvm.Cond.code ({ cls := "java/util/Arrays", name := "copyOfRange", desc := "([BII)[B" } : Jvm.MethodName) jdk_65_method_132_code (3 : Nat) (Option.some (Jvm.ClassFile.FieldType.array Jvm.ClassFile.FieldType.byte)), Jvm.Cond.code ({ cls := "java/util/Arrays", name := "copyOfRangeByte", desc := "([BII)[B" } : Jvm.MethodName) jdk_65_method_133_code (5 : Nat) (Option.some (Jvm.ClassFile.FieldType.array Jvm.ClassFile.FieldType.byte)), Jvm.Cond.code ({ cls := "java/util/Arrays", name := "checkLength", desc := "(II)V" } : Jvm.MethodName) jdk_65_method_131_code (2 : Nat) (Option.none : Option Jvm.ClassFile.FieldType), Jvm.Cond.code ({ cls := "java/lang/Math", name := "min", desc := "(II)I" } : Jvm.MethodName) jdk_29_method_69_code (2 : Nat) (Option.some Jvm.ClassFile.FieldType.int), Jvm.Cond.code ({ cls := "com/example/federant/federant/saml/IdpEndpoints", name := "<init>", desc := "(Ljava/lang/String;Ljava/lang/String;Ljava/lang/String;Ljava/lang/String;)V" } : Jvm.MethodName) prog_26_method_1_code (5 : Nat) (Option.none : Option Jvm.ClassFile.FieldType), Jvm.Cond.code ({ cls := "java/lang/Record", name := "<init>", desc := "()V" } : Jvm.MethodName) jdk_30_method_1_code (1 : Nat) (Option.none : Option Jvm.ClassFile.FieldType), Jvm.Cond.code ({ cls := "com/example/federant/federant/saml/IdpEndpoints", name := "entityId", desc := "()Ljava/lang/String;" } : Jvm.MethodName) prog_26_method_6_code (1 : Nat) (Option.some (Jvm.ClassFile.FieldType.object "java/lang/String")), Jvm.Cond.code ({ cls := "com/example/federant/federant/saml/IdpEndpointsUnderPinLaw", name := "is", desc := "(Ljava/lang/String;Ljava/lang/String;Ljava/lang/String;)Z" } : Jvm.MethodName) method_3_code (3 : Nat) (Option.some Jvm.ClassFile.FieldType.boolean), Jvm.Cond.code ({ cls := "com/example/federant/federant/saml/IdpEndpointsUnderPinLaw", name := "has", desc := "(Ljava/lang/String;ILjava/lang/String;)Z" } : Jvm.MethodName) method_4_code (3 : Nat) (Option.some Jvm.ClassFile.FieldType.boolean), Jvm.Cond.code ({ cls := "com/example/federant/federant/saml/IdpEndpointsUnderPinLaw", name := "ch", desc := "(Ljava/lang/String;ILjava/lang/String;I)Z" } : Jvm.MethodName) method_5_code (4 : Nat) (Option.some Jvm.ClassFile.FieldType.boolean), Jvm.Cond.code ({ cls := "java/lang/String", name := "charAt", desc := "(I)C" } : Jvm.MethodName) jdk_42_method_56_code (2 : Nat) (Option.some Jvm.ClassFile.FieldType.char), Jvm.Cond.code ({ cls := "java/lang/String", name := "isLatin1", desc := "()Z" } : Jvm.MethodName) jdk_42_method_154_code (1 : Nat) (Option.some Jvm.ClassFile.FieldType.boolean), Jvm.Cond.code ({ cls := "java/lang/StringLatin1", name := "charAt", desc := "([BI)C" } : Jvm.MethodName) jdk_43_method_2_code (2 : Nat) (Option.some Jvm.ClassFile.FieldType.char), Jvm.Cond.code ({ cls := "java/lang/String", name := "checkIndex", desc := "(II)V" } : Jvm.MethodName) jdk_42_method_155_code (2 : Nat) (Option.none : Option Jvm.ClassFile.FieldType), Jvm.Cond.code ({ cls := "jdk/internal/util/Preconditions", name := "checkIndex", desc := "(IILjava/util/function/BiFunction;)I" } : Jvm.MethodName) jdk_41_method_11_code (3 : Nat) (Option.some Jvm.ClassFile.FieldType.int), Jvm.Cond.code ({ cls := "com/example/federant/federant/saml/IdpEndpoints", name := "metadata", desc := "()Ljava/lang/String;" } : Jvm.MethodName) prog_26_method_7_code (1 : Nat) (Option.some (Jvm.ClassFile.FieldType.object "java/lang/String")), Jvm.Cond.code ({ cls := "com/example/federant/federant/saml/IdpEndpoints", name := "singleSignOn", desc := "()Ljava/lang/String;" } : Jvm.MethodName) prog_26_method_8_code (1 : Nat) (Option.some (Jvm.ClassFile.FieldType.object "java/lang/String")), Jvm.Cond.code ({ cls := "com/example/federant/federant/saml/IdpEndpoints", name := "singleLogout", desc := "()Ljava/lang/String;" } : Jvm.MethodName) prog_26_method_9_code (1 : Nat) (Option.some (Jvm.ClassFile.FieldType.object "java/lang/String")), Jvm.Cond.code ({ cls := "java/lang/StringUTF16", name := "compress", desc := "([CII)[B" } : Jvm.MethodName) jdk_52_method_16_code (6 : Nat) (Option.some (Jvm.ClassFile.FieldType.array Jvm.ClassFile.FieldType.byte)), Jvm.Cond.code ({ cls := "java/lang/StringUTF16", name := "compress", desc := "([CI[BII)I" } : Jvm.MethodName) jdk_52_method_21_code (7 : Nat) (Option.some Jvm.ClassFile.FieldType.int), Jvm.Cond.code ({ cls := "java/lang/StringUTF16", name := "coderFromArrayLen", desc := "([BI)B" } : Jvm.MethodName) jdk_52_method_15_code (2 : Nat) (Option.some Jvm.ClassFile.FieldType.byte), Jvm.Cond.code ({ cls := "jdk/internal/util/ArraysSupport", name := "mismatch", desc := "([BI[BII)I" } : Jvm.MethodName) jdk_48_method_14_code (8 : Nat) (Option.some Jvm.ClassFile.FieldType.int)]
set_option maxRecDepth 65536 in
theorem codes_eq : words1.filter isCode = codes1 := rfl
theorem w_codes : ∀ c ∈ words1.filter isCode, c.before args0 about1 = true := by
  rw [codes_eq]
  intro c hc
  simp only [codes1, List.mem_cons, List.not_mem_nil, or_false] at hc
  rcases hc with rfl | rfl | rfl | rfl | rfl | rfl | rfl | rfl | rfl | rfl | rfl | rfl | rfl | rfl | rfl | rfl | rfl | rfl | rfl | rfl | rfl | rfl | rfl | rfl | rfl | rfl | rfl | rfl | rfl | rfl | rfl | rfl | rfl | rfl | rfl | rfl | rfl | rfl | rfl | rfl | rfl | rfl | rfl | rfl | rfl | rfl
  · exact w_c0
  · exact w_c1
  · exact w_c2
  · exact w_c3
  · exact w_c4
  · exact w_c5
  · exact w_c6
  · exact w_c7
  · exact w_c8
  · exact w_c9
  · exact w_c10
  · exact w_c11
  · exact w_c12
  · exact w_c13
  · exact w_c14
  · exact w_c15
  · exact w_c16
  · exact w_c17
  · exact w_c18
  · exact w_c19
  · exact w_c20
  · exact w_c21
  · exact w_c22
  · exact w_c23
  · exact w_c24
  · exact w_c25
  · exact w_c26
  · exact w_c27
  · exact w_c28
  · exact w_c29
  · exact w_c30
  · exact w_c31
  · exact w_c32
  · exact w_c33
  · exact w_c34
  · exact w_c35
  · exact w_c36
  · exact w_c37
  · exact w_c38
  · exact w_c39
  · exact w_c40
  · exact w_c41
  · exact w_c42
  · exact w_c43
  · exact w_c44
  · exact w_c45
set_option maxRecDepth 65536 in
theorem w_t1 : (words1.take 24).all (fun c => isCode c || c.before args0 about1) = true := by decide +kernel
set_option maxRecDepth 65536 in
theorem w_t2 : ((words1.drop 24).take 24).all (fun c => isCode c || c.before args0 about1) = true := by decide +kernel
set_option maxRecDepth 65536 in
theorem w_t3 : (((words1.drop 24).drop 24).take 24).all (fun c => isCode c || c.before args0 about1) = true := by decide +kernel
set_option maxRecDepth 65536 in
theorem w_t4 : ((((words1.drop 24).drop 24).drop 24).take 24).all (fun c => isCode c || c.before args0 about1) = true := by decide +kernel
set_option maxRecDepth 65536 in
theorem w_t5 : (((((words1.drop 24).drop 24).drop 24).drop 24).take 24).all (fun c => isCode c || c.before args0 about1) = true := by decide +kernel
set_option maxRecDepth 65536 in
theorem w_t6 : ((((((words1.drop 24).drop 24).drop 24).drop 24).drop 24).take 24).all (fun c => isCode c || c.before args0 about1) = true := by decide +kernel
set_option maxRecDepth 65536 in
theorem w_t7 : (((((((words1.drop 24).drop 24).drop 24).drop 24).drop 24).drop 24).take 24).all (fun c => isCode c || c.before args0 about1) = true := by decide +kernel
set_option maxRecDepth 65536 in
theorem w_t8 : ((((((((words1.drop 24).drop 24).drop 24).drop 24).drop 24).drop 24).drop 24).take 24).all (fun c => isCode c || c.before args0 about1) = true := by decide +kernel
set_option maxRecDepth 65536 in
theorem w_t9 : (((((((((words1.drop 24).drop 24).drop 24).drop 24).drop 24).drop 24).drop 24).drop 24).take 24).all (fun c => isCode c || c.before args0 about1) = true := by decide +kernel
set_option maxRecDepth 65536 in
theorem w_t10 : ((((((((((words1.drop 24).drop 24).drop 24).drop 24).drop 24).drop 24).drop 24).drop 24).drop 24).take 24).all (fun c => isCode c || c.before args0 about1) = true := by decide +kernel
set_option maxRecDepth 65536 in
theorem w_t11 : ((((((((((words1.drop 24).drop 24).drop 24).drop 24).drop 24).drop 24).drop 24).drop 24).drop 24).drop 24).all (fun c => isCode c || c.before args0 about1) = true := by decide +kernel
theorem w_tables : (allAtoms (Jvm.Cond.code x code maxLocals ret :: tables_1)).before args0 about1 = true := by
  rw [allAtoms_all]
  show words1.all (fun c => c.before args0 about1) = true
  refine all_split ?_ w_codes
  rw [← List.take_append_drop 24 words1, List.all_append, w_t1, ← List.take_append_drop 24 (words1.drop 24), List.all_append, w_t2, ← List.take_append_drop 24 ((words1.drop 24).drop 24), List.all_append, w_t3, ← List.take_append_drop 24 (((words1.drop 24).drop 24).drop 24), List.all_append, w_t4, ← List.take_append_drop 24 ((((words1.drop 24).drop 24).drop 24).drop 24), List.all_append, w_t5, ← List.take_append_drop 24 (((((words1.drop 24).drop 24).drop 24).drop 24).drop 24), List.all_append, w_t6, ← List.take_append_drop 24 ((((((words1.drop 24).drop 24).drop 24).drop 24).drop 24).drop 24), List.all_append, w_t7, ← List.take_append_drop 24 (((((((words1.drop 24).drop 24).drop 24).drop 24).drop 24).drop 24).drop 24), List.all_append, w_t8, ← List.take_append_drop 24 ((((((((words1.drop 24).drop 24).drop 24).drop 24).drop 24).drop 24).drop 24).drop 24), List.all_append, w_t9, ← List.take_append_drop 24 (((((((((words1.drop 24).drop 24).drop 24).drop 24).drop 24).drop 24).drop 24).drop 24).drop 24), List.all_append, w_t10, w_t11]
  rfl
set_option maxRecDepth 65536 in
theorem w_rest : rest_1_c.before args0 about1 = true := by decide +kernel
set_option maxRecDepth 65536 in
theorem w_case : (Jvm.Cond.and given_1 narrow_1).before args0 about1 = true := by decide +kernel
set_option maxRecDepth 65536 in
theorem w_consts : constsHeld consts_1 about1 := Jvm.Lit.constsHeldB_iff.mp (by decide +kernel)
theorem w_applies : (headSpec (Jvm.Cond.code x code maxLocals ret :: tables_1) room_1).applies x e0.platform about1 = true :=
  (Spec.applies_iff w_frames).mpr ⟨w_running, w_runnable, w_alone, w_named, w_hears, w_ripe, w_room, w_tables⟩
set_option maxRecDepth 65536 in
theorem atStart : AtStart classFile x code maxLocals ret World_1 tables_1 room_1 Calls_1 rest_1 Pre_1 launch0 p0 e0 about1 theMethod args0 below0 :=
  ⟨lists_1, trivial, launch0.admits_env _ _ _, launch0.least_env, fairChoices_fair.cas, fairChoices_fair.clock, w_frames, w_args, w_heap, w_applies, ⟨w_consts, trivial⟩, w_rest, w_case⟩
end start1
theorem witness_1 : WitnessClaimed_1 := ⟨start1.p0, start1.e0, start1.about1, start1.theMethod, start1.args0, start1.below0, start1.atStart⟩
end Jvm.Pilot.@@N@@
