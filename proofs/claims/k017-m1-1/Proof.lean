import JvmDerived
import JvmDerived.Pilot.@@N@@Statement
import JvmDerived.Pilot.@@N@@Code
set_option linter.unusedVariables false
set_option linter.unusedSimpArgs false
namespace Jvm.RoadKit
open Sem ClassFile Op Lib Jvm.Stand Jvm.Free Jvm.LawKit
section New
variable {p : Program} {l : Launch} {e : Env} {R : Room} {s : State} {m : MethodId} {args : Array Value} {below : List Frame} {meth : Method} {c : Code} {T : State} {locs : List Loc} {cells slots : Nat}
theorem retI (X : Stand p l e R s m args below meth c T locs cells slots) (hx : p.tables.exec = Jvm.exec) {pc : Nat} {Ls : Array Slot} {z : Int32} {rest : List Value} (hret : meth.sig.returnType = some .int) (hd : decode c.code pc = .ok (.ireturn, 1)) {fs : List Frame}
    (hl : ∀ (f : JFrame) (acts : List Action), f.method = m → f.locked = none → f.entered = [] → (doReturn e (T.setTop f) acts (some (.int z))).1 = T.setFrames fs) : Steps p.tables e below (T.setTop (mkF m pc Ls (.int z :: rest))) (T.setFrames fs) := by
  have hm' : T.vm.method? m = some meth := X.method'
  have hn : narrow .int (.int z) = .int z := rfl
  show Steps p.tables e below (T.setTop { method := m, pc := pc, locals := Ls, stack := _ :: rest, locked := none }) _
  jvm_step X.here [X.here.top, hx, hd, hm', hret, hn]
  first | (intro acts; rw [hl _ acts rfl rfl rfl]) | rw [hl _ _ rfl rfl rfl]
  exact Steps.refl _
end New
end Jvm.RoadKit
namespace Jvm.Pilot.@@N@@
open Jvm Jvm.ClassFile Sem Op Lib Jvm.Free Jvm.Stand Jvm.LawKit Jvm.RoadKit Bundle Jvm.Pilot.@@N@@.Jvm.D
abbrev vi (x : Int32) : Slot := .val (.int x)
abbrev vj (x : Int64) : Slot := .val (.long x)
abbrev vr (x : Addr) : Slot := .val (.ref x)
abbrev vN : Slot := .val .null
abbrev un : Slot := .unset
abbrev SS (p : Program) (e : Env) (below : List Frame) (m : MethodId) (T : State) (pc : Nat) (L : Array Slot) (S : List Value) (t : State) : Prop := Steps p.tables e below (T.setTop (mkF m pc L S)) t
theorem ww {a0 : Array Value} {Z : State} (hw : ∀ d ∈ tables_1, d.before a0 Z = true) (i : Nat) {d : Jvm.Cond} (h : tables_1[i]? = some d) : d.before a0 Z = true := hw _ (List.mem_of_getElem? h)
abbrev y_0 : MethodName := ⟨"java/lang/Math", "min", "(II)I"⟩
abbrev y_1 : MethodName := ⟨"com/example/brisk_tableau/brisktableau/owl/FuzzyLabelIsPinLaw", "len", "(I)I"⟩
abbrev y_2 : MethodName := ⟨"com/example/brisk_tableau/brisktableau/owl/FuzzyLabelIsPinLaw", "c0", "(I)C"⟩
abbrev y_3 : MethodName := ⟨"com/example/brisk_tableau/brisktableau/owl/FuzzyLabelIsPinLaw", "c1", "(I)C"⟩
abbrev y_4 : MethodName := ⟨"com/example/brisk_tableau/brisktableau/owl/FuzzyLabelIsPinLaw", "same", "(II)Z"⟩
abbrev y_5 : MethodName := ⟨"java/lang/Record", "<init>", "()V"⟩
abbrev y_6 : MethodName := ⟨"com/example/brisk_tableau/brisktableau/owl/FuzzyLabel", "<init>", "(Ljava/lang/String;Ljava/lang/String;Ljava/util/Map;)V"⟩
abbrev y_7 : MethodName := ⟨"java/lang/StringLatin1", "canEncode", "(C)Z"⟩
abbrev y_8 : MethodName := ⟨"java/lang/StringLatin1", "toBytes", "(C)[B"⟩
abbrev y_9 : MethodName := ⟨"java/lang/String", "<init>", "([BB)V"⟩
abbrev y_10 : MethodName := ⟨"java/lang/String", "valueOf", "(C)Ljava/lang/String;"⟩
abbrev y_11 : MethodName := ⟨"java/lang/StringUTF16", "compress", "([CI[BII)I"⟩
abbrev y_12 : MethodName := ⟨"java/lang/StringUTF16", "compress", "([CII)[B"⟩
abbrev y_13 : MethodName := ⟨"java/lang/StringUTF16", "coderFromArrayLen", "([BI)B"⟩
abbrev y_14 : MethodName := ⟨"java/lang/String", "<init>", "([CIILjava/lang/Void;)V"⟩
abbrev y_15 : MethodName := ⟨"java/lang/String", "<init>", "([C)V"⟩
abbrev y_16 : MethodName := ⟨"com/example/brisk_tableau/brisktableau/owl/FuzzyLabelIsPinLaw", "mk", "(I)Ljava/lang/String;"⟩
abbrev y_17 : MethodName := ⟨"java/lang/StringLatin1", "equals", "([B[B)Z"⟩
abbrev y_18 : MethodName := ⟨"java/lang/String", "equals", "(Ljava/lang/Object;)Z"⟩
abbrev y_19 : MethodName := ⟨"com/example/brisk_tableau/brisktableau/owl/FuzzyLabel", "is", "(Ljava/lang/String;Ljava/lang/String;)Z"⟩
theorem own_fld {args : Array Value} {s : State} {t : Term} {C f d : String} {k : Int32} {w : Addr} (ev : t.eval args s none [] s = some (.ref w)) (h : (Jvm.Cond.eq (Term.field t C f d) (Term.int k)).value args s none s [] = some true) : Fld s s.heap w C f d (.int k) := Fld.start ((fld_at ev).symm.trans (eqv_i (Term.int_eval k) h))
abbrev EL : List (String × Nat) := consts_1
theorem own_hEL {a0 : Array Value} {Z : State} (hw : ∀ d ∈ tables_1, d.before a0 Z = true) : EW Z a0 EL := EW.cons (ww hw 28 rfl) (by decide) EW.nil
theorem own_wS {a0 : Array Value} {Z : State} (hw : ∀ d ∈ tables_1, d.before a0 Z = true) : ∀ a ∈ Bundle.stringAtoms, a.before a0 Z = true := fun d hd => by
  simp only [Bundle.stringAtoms, List.mem_cons, List.not_mem_nil, or_false] at hd
  rcases hd with rfl | rfl | rfl | rfl | rfl | rfl | rfl
  · exact ww hw 16 rfl
  · exact ww hw 15 rfl
  · exact ww hw 29 rfl
  · exact ww hw 30 rfl
  · exact ww hw 31 rfl
  · exact ww hw 32 rfl
  · exact ww hw 33 rfl
theorem own_safe {Z : State} {EL : List (String × Nat)} {vm : Vm} {h : Heap} {x : Addr} (hal : Z.vm.Alike vm) (E : Exa Z h x "java/lang/String") (F : Fld Z h x "java/lang/String" "value" "[B" .null) : Safe Z EL vm h x := fun B => by
  obtain ⟨p, hp, u, a, hb, q, hq, S, rfl | rfl⟩ := B
  · obtain ⟨cS, ⟨⟨s1, s2, s3, ⟨cv, kv, iv, s4, s4'⟩, -, s6, s7, s8, -⟩, -⟩, -⟩ := S
    obtain ⟨cell, cf, k, i, f, h1, h2, h3, h4, h5, h6, h7⟩ := F
    cases (show h[q.sa]? = some q.sC from s1).symm.trans h1
    obtain ⟨kv', z4⟩ := ff_back (U := Wst Z vm h) hal s4
    cases h2.symm.trans z4
    rw [h7] at s8; cases s8
  · obtain ⟨cell, kx, e1, e2, -⟩ := E
    cases (show h[q.sd]? = some q.SA from S.hd).symm.trans e1
    obtain ⟨cS, -, -, hB, -⟩ := S
    have hB' : Z.vm.findClass "[B" = some q.SA.cls := by rw [← hal.findClass]; exact hB
    exact ids_ne e2 hB' (by decide) rfl
def own_c0 (p : Int32) : Int32 := ((p.toUInt32 >>> ((2 : Int32) &&& 31).toUInt32).toInt32) &&& (255 : Int32)
def own_c1 (p : Int32) : Int32 := ((p.toUInt32 >>> ((10 : Int32) &&& 31).toUInt32).toInt32) &&& (255 : Int32)
def own_n (p : Int32) : Int32 := if (2 : Int32) < (p &&& (3 : Int32)) then (2 : Int32) else (p &&& (3 : Int32))
def own_b (x : Int32) : Int32 := x.toInt8.toInt32
def own_bs (p : Int32) : List Value := if own_n p = 0 then [] else if own_n p = 1 then [.int (own_b (own_c0 p))] else [.int (own_b (own_c0 p)), .int (own_b (own_c1 p))]
def own_eq (c d : Int32) : Int32 := if own_n c = own_n d ∧ (own_n c = 0 ∨ (own_c0 c = own_c0 d ∧ (own_n c = 1 ∨ own_c1 c = own_c1 d))) then 1 else 0
theorem own_nc (x : Int32) : nar .char ((x &&& (255 : Int32)).toUInt32.toUInt16.toUInt32.toInt32) = x &&& (255 : Int32) := by
  show ((x &&& (255 : Int32)).toUInt32.toUInt16.toUInt32.toInt32).toUInt32.toUInt16.toUInt32.toInt32 = _
  rw [i2c_mask, i2c_mask]
theorem own_nar (x : Int32) : nar .char (x &&& (255 : Int32)) = x &&& (255 : Int32) := i2c_mask x
theorem own_nar0 (p : Int32) : nar .char (own_c0 p) = own_c0 p := own_nar _
theorem own_nar1 (p : Int32) : nar .char (own_c1 p) = own_c1 p := own_nar _
theorem own_bnd (x : Int32) : 0 ≤ (x &&& (255 : Int32)).toInt ∧ (x &&& (255 : Int32)).toInt ≤ 255 := c_and x 255 (by decide)
theorem own_le (x : Int32) : ¬ (255 : Int32) < x &&& (255 : Int32) := by
  rw [Int32.lt_iff_toInt_lt]; have := own_bnd x; have e : (255 : Int32).toInt = 255 := by decide
  omega
theorem own_le0 (p : Int32) : ¬ (255 : Int32) < own_c0 p := own_le _
theorem own_le1 (p : Int32) : ¬ (255 : Int32) < own_c1 p := own_le _
theorem own_bb (x : Int32) : (x.toInt8.toInt32).toInt8.toInt32 = own_b x := by simp [own_b]
theorem own_binj (x y : Int32) : own_b (x &&& (255 : Int32)) = own_b (y &&& (255 : Int32)) ↔ x &&& (255 : Int32) = y &&& (255 : Int32) := by
  constructor
  · intro h
    have h1 := c_i2b (x &&& 255); have h2 := c_i2b (y &&& 255); have b1 := own_bnd x; have b2 := own_bnd y
    have e : (own_b (x &&& 255)).toInt = (own_b (y &&& 255)).toInt := by rw [h]
    rw [← Int32.toInt_inj]; simp only [own_b] at e; omega
  · intro h; rw [h]
theorem own_i0 {c d : Int32} : own_b (own_c0 c) = own_b (own_c0 d) ↔ own_c0 c = own_c0 d := own_binj _ _
theorem own_i1 {c d : Int32} : own_b (own_c1 c) = own_b (own_c1 d) ↔ own_c1 c = own_c1 d := own_binj _ _
theorem own_n3 (p : Int32) : own_n p = 0 ∨ own_n p = 1 ∨ own_n p = 2 := by
  have h := c_mask p 3 2 (by decide) (by decide)
  have e0 : (0 : Int32).toInt = 0 := by decide
  have e1 : (1 : Int32).toInt = 1 := by decide
  have e2 : (2 : Int32).toInt = 2 := by decide
  unfold own_n
  split
  · exact Or.inr (Or.inr rfl)
  · rename_i q
    rw [Int32.lt_iff_toInt_lt] at q
    simp only [← Int32.toInt_inj, e0, e1, e2]
    omega
theorem own_n9 (c d : Int32) : (own_n c = 0 ∧ own_n d = 0) ∨ (own_n c = 0 ∧ own_n d = 1) ∨ (own_n c = 0 ∧ own_n d = 2) ∨ (own_n c = 1 ∧ own_n d = 0) ∨ (own_n c = 1 ∧ own_n d = 1) ∨ (own_n c = 1 ∧ own_n d = 2) ∨ (own_n c = 2 ∧ own_n d = 0) ∨ (own_n c = 2 ∧ own_n d = 1) ∨ (own_n c = 2 ∧ own_n d = 2) := by
  rcases own_n3 c with h | h | h <;> rcases own_n3 d with g | g | g <;> simp [h, g]
section OwnV
variable {Z : State} {hh : Heap} {a : Addr} {k : ClassId} {p : Int32} {dv : Value}
theorem own_e0 (h : own_n p = 0) (V : Arv Z hh a k .byte (own_n p) (own_bs p) dv) : Arv Z hh a k .byte (0 : Int32) [] dv := by
  rw [own_bs, if_pos h, h] at V; exact V
theorem own_e1 (h : own_n p = 1) (V : Arv Z hh a k .byte (own_n p) (own_bs p) dv) : Arv Z hh a k .byte (1 : Int32) [(.int (own_b (own_c0 p)))] dv := by
  rw [own_bs, if_neg (by rw [h]; decide), if_pos h, h] at V; exact V
theorem own_e2 (h : own_n p = 2) (V : Arv Z hh a k .byte (own_n p) (own_bs p) dv) : Arv Z hh a k .byte (2 : Int32) [(.int (own_b (own_c0 p))), (.int (own_b (own_c1 p)))] dv := by
  rw [own_bs, if_neg (by rw [h]; decide), if_neg (by rw [h]; decide), h] at V; exact V
theorem own_v0 (h : own_n p = 0) (V : Arv Z hh a k .byte (0 : Int32) [] dv) : Arv Z hh a k .byte (own_n p) (own_bs p) dv := by
  rw [own_bs, if_pos h, h]; exact V
theorem own_v1 (h : own_n p = 1) (V : Arv Z hh a k .byte (1 : Int32) [(.int (own_b (own_c0 p)))] dv) : Arv Z hh a k .byte (own_n p) (own_bs p) dv := by
  rw [own_bs, if_neg (by rw [h]; decide), if_pos h, h]; exact V
theorem own_v2 (h0 : ¬ own_n p = 0) (h1 : ¬ own_n p = 1) (V : Arv Z hh a k .byte (2 : Int32) [(.int (own_b (own_c0 p))), (.int (own_b (own_c1 p)))] dv) : Arv Z hh a k .byte (own_n p) (own_bs p) dv := by
  have h : own_n p = 2 := by rcases own_n3 p with q | q | q <;> first | exact absurd q h0 | exact absurd q h1 | exact q
  rw [own_bs, if_neg h0, if_neg h1, h]; exact V
end OwnV
section OwnE
variable {c d : Int32}
theorem own_s1 (h : ¬ own_n c = own_n d) : own_eq c d = 0 := by simp [own_eq, h]
theorem own_l1 (h : own_n c < 1) : own_n c = 0 := by rcases own_n3 c with q | q | q <;> rw [q] at h <;> first | exact q | exact absurd h (by decide)
theorem own_l1' (h : ¬ own_n c < 1) : ¬ own_n c = 0 := fun q => h (by rw [q]; decide)
theorem own_l12 (h : own_n c < 1) : own_n c < 2 := by rw [own_l1 h]; decide
theorem own_l2 (h1 : ¬ own_n c < 1) (h : own_n c < 2) : own_n c = 1 := by rcases own_n3 c with q | q | q <;> rw [q] at h h1 <;> first | exact q | exact absurd h (by decide) | exact absurd (by decide) h1
theorem own_l2' (h : ¬ own_n c < 2) : ¬ own_n c = 1 := fun q => h (by rw [q]; decide)
theorem own_s2 (h : own_n c = own_n d) (h1 : own_n c < 1) : own_eq c d = 1 := by rw [own_eq, if_pos ⟨h, Or.inl (own_l1 h1)⟩]
theorem own_s3 (h : own_n c = own_n d) (h1 : ¬ own_n c < 1) (h2 : ¬ own_c0 c = own_c0 d) : own_eq c d = 0 := by
  rw [own_eq, if_neg]; rintro ⟨-, q | ⟨q, -⟩⟩ <;> first | exact own_l1' h1 q | exact h2 q
theorem own_s4 (h : own_n c = own_n d) (h1 : ¬ own_n c < 1) (h2 : own_c0 c = own_c0 d) (h3 : own_n c < 2) : own_eq c d = 1 := by rw [own_eq, if_pos ⟨h, Or.inr ⟨h2, Or.inl (own_l2 h1 h3)⟩⟩]
theorem own_s5 (h : own_n c = own_n d) (h1 : ¬ own_n c < 1) (h2 : own_c0 c = own_c0 d) (h3 : ¬ own_n c < 2) (h4 : ¬ own_c1 c = own_c1 d) : own_eq c d = 0 := by
  rw [own_eq, if_neg]; rintro ⟨-, q | ⟨-, q | q⟩⟩ <;> first | exact own_l1' h1 q | exact own_l2' h3 q | exact h4 q
theorem own_s6 (h : own_n c = own_n d) (h1 : ¬ own_n c < 1) (h2 : own_c0 c = own_c0 d) (h3 : ¬ own_n c < 2) (h4 : own_c1 c = own_c1 d) : own_eq c d = 1 := by rw [own_eq, if_pos ⟨h, Or.inr ⟨h2, Or.inr h4⟩⟩]
theorem own_eq1 (h : ¬ own_eq c d = 0) : own_eq c d = 1 := by
  unfold own_eq at h ⊢; split at h
  · rename_i q; rw [if_pos q]
  · exact absurd rfl h
end OwnE
theorem d3_0 : decode jdk_29_method_69_code 0 = .ok (.iload_n 0, 1) := by decide +kernel
theorem d3_1 : decode jdk_29_method_69_code 1 = .ok (.iload_n 1, 1) := by decide +kernel
theorem d3_2 : decode jdk_29_method_69_code 2 = .ok (.if_icmp .gt 7, 3) := by decide +kernel
theorem d3_5 : decode jdk_29_method_69_code 5 = .ok (.iload_n 0, 1) := by decide +kernel
theorem d3_6 : decode jdk_29_method_69_code 6 = .ok (.goto 4, 3) := by decide +kernel
theorem d3_9 : decode jdk_29_method_69_code 9 = .ok (.iload_n 1, 1) := by decide +kernel
theorem d3_10 : decode jdk_29_method_69_code 10 = .ok (.ireturn, 1) := by decide +kernel
theorem ef_rmMi (m : MethodId) (x0 : Int32) (x1 : Int32) : entryFrame m #[(.int x0), (.int x1)] 2 = mkF m 0 #[vi x0, vi x1] [] := by first | (simp [entryFrame, mkF, argsToLocals, Value.category]; done) | rfl
def Q_rmMi (Z : State) (p1 : Int32) (p2 : Int32) (h0 : Heap) (n0 : Nat) (v : Option Value) (h : Heap) (L : List Loc) : Prop := (v = some (.int (if p2 < p1 then p2 else p1))) ∧ (Fr n0 L) ∧ (h = h0)
set_option maxRecDepth 65536 in
set_option maxHeartbeats 40000000 in
theorem rmMi (l : Launch) (Z : State) (a0 : Array Value) (hw : ∀ d ∈ tables_1, d.before a0 Z = true) (ws : List Jvm.Cond) (p1 : Int32) (p2 : Int32) (h0 : Heap) (n0 : Nat) (Z0 : n0 ≤ h0.size) (O0 : Old Z n0 h0) :
    MetFree l y_0 (head1 (Jvm.Cond.code y_0 jdk_29_method_69_code 2 (some .int) :: ws) ({ frames := 0, cells := 0, slots := 0, locals := 0 } : Room)) (fun a U => a = #[(.int p1), (.int p2)] ∧ Z.Warmed39 U.vm ∧ U.heap = h0) (fun _ _ _ _ _ => True) (fun _ U o U' => ∃ v L, o = .returned v ∧ Q_rmMi Z p1 p2 h0 n0 v U'.heap L ∧ FrameEnd U o U' L ({ frames := 0, cells := 0, slots := 0, locals := 0 } : Room).cells ({ frames := 0, cells := 0, slots := 0, locals := 0 } : Room).slots) := by
  refine MetFree.of_bodySF (Jvm.Free.JP.mathPlain rfl (by decide +kernel)) hisR ?_
  intro p e s m args below meth c s₁ Bd hml0 hP hK
  obtain ⟨rfl, hZ, hh⟩ := hP
  have hx := Bd.exec
  have hby := Bd.bytes
  have hml : c.maxLocals = 2 := hml0
  have hown : s.vm.findClass "java/lang/Math" = some m.cls := findClass_of_methodNamed Bd.named
  have hnm := (name_of_methodNamed Bd.named Bd.method).1
  have X0 : Stand p l e ({ frames := 0, cells := 0, slots := 0, locals := 0 } : Room) s m #[(.int p1), (.int p2)] below meth c s₁ [] 0 0 := Stand.of_body Bd
  have e0 : s₁.heap = h0 := by rw [← hh, Bd.state]; rfl
  have N0 := Fr.nil n0
  have KC : Keep h0 h0 [] := Keep.refl h0 _
  have pre0 : ∀ t, Steps p.tables e below (s₁.setTop (mkF m 0 #[vi p1, vi p2] [])) t → Steps p.tables e below (s₁.setTop (entryFrame m #[(.int p1), (.int p2)] 2)) t := fun t k => castTop (ef_rmMi m p1 p2) k
  have pre1 : ∀ t, Steps p.tables e below (s₁.setTop (mkF m 2 #[vi p1, vi p2] [(.int p2), (.int p1)])) t → Steps p.tables e below (s₁.setTop (entryFrame m #[(.int p1), (.int p2)] 2)) t := by
    intro t kt
    refine pre0 t ?_
    show SS p e below m s₁ 0 #[vi p1, vi p2] [] _
    refine XS.iloadN X0.here hx rfl (hb hby d3_0) rfl ?_
    show SS p e below m s₁ 1 #[vi p1, vi p2] [(.int p1)] _
    refine XS.iloadN X0.here hx rfl (hb hby d3_1) rfl ?_
    exact kt
  by_cases hc2_2 : p2 < p1
  · obtain ⟨fs, hr, hrun, hended, hW, hsame⟩ := X0.leave (v := some (.int p2)) (fun h => by rw [Bd.returns] at h; cases h)
    refine ⟨_, _, pre1 _ ?_, hrun, hended, _, _, rfl, ?_, ⟨_, rfl⟩, hW, hsame.mono (by decide) (by decide)⟩
    · show SS p e below m s₁ 2 #[vi p1, vi p2] [(.int p2), (.int p1)] _
      refine XS.icmpYes X0.here hx rfl (pc0 := 2) (pc' := 9) rfl (hb hby d3_2) rfl (tlt hc2_2).2.2.1 (by decide) (by decide) ?_
      show SS p e below m s₁ 9 #[vi p1, vi p2] [] _
      refine XS.iloadN X0.here hx rfl (hb hby d3_9) rfl ?_
      show SS p e below m s₁ 10 #[vi p1, vi p2] [(.int p2)] _
      exact retI X0 hx Bd.returns (hb hby d3_10) hr
    · show Q_rmMi Z p1 p2 h0 n0 _ s₁.heap _
      rw [e0]
      exact ⟨(by simp [hc2_2]), N0, rfl⟩
  · obtain ⟨fs, hr, hrun, hended, hW, hsame⟩ := X0.leave (v := some (.int p1)) (fun h => by rw [Bd.returns] at h; cases h)
    refine ⟨_, _, pre1 _ ?_, hrun, hended, _, _, rfl, ?_, ⟨_, rfl⟩, hW, hsame.mono (by decide) (by decide)⟩
    · show SS p e below m s₁ 2 #[vi p1, vi p2] [(.int p2), (.int p1)] _
      refine XS.icmpNo X0.here hx rfl (hb hby d3_2) rfl (flt hc2_2).2.2.1 ?_
      show SS p e below m s₁ 5 #[vi p1, vi p2] [] _
      refine XS.iloadN X0.here hx rfl (hb hby d3_5) rfl ?_
      show SS p e below m s₁ 6 #[vi p1, vi p2] [(.int p1)] _
      refine XS.goto X0.here hx rfl (pc0 := 6) (pc' := 10) rfl (hb hby d3_6) (by decide) (by decide) ?_
      show SS p e below m s₁ 10 #[vi p1, vi p2] [(.int p1)] _
      exact retI X0 hx Bd.returns (hb hby d3_10) hr
    · show Q_rmMi Z p1 p2 h0 n0 _ s₁.heap _
      rw [e0]
      exact ⟨(by simp [hc2_2]), N0, rfl⟩
theorem pd_0 : parseMethodDescriptor "(II)I" = some ⟨[.int, .int], some .int⟩ := by decide +kernel
theorem d2_0 : decode method_2_code 0 = .ok (.iload_n 0, 1) := by decide +kernel
theorem d2_1 : decode method_2_code 1 = .ok (.iconst 3, 1) := by decide +kernel
theorem d2_2 : decode method_2_code 2 = .ok (.iand, 1) := by decide +kernel
theorem d2_3 : decode method_2_code 3 = .ok (.iconst 2, 1) := by decide +kernel
theorem d2_4 : decode method_2_code 4 = .ok (.invokestatic 7, 3) := by decide +kernel
theorem d2_7 : decode method_2_code 7 = .ok (.ireturn, 1) := by decide +kernel
theorem pn_0 : plainName "com/example/brisk_tableau/brisktableau/owl/FuzzyLabelIsPinLaw" = true := by first | (simp [plainName, overriddenIn]; done) | decide +kernel
theorem ef_rmLe (m : MethodId) (x0 : Int32) : entryFrame m #[(.int x0)] 1 = mkF m 0 #[vi x0] [] := by first | (simp [entryFrame, mkF, argsToLocals, Value.category]; done) | rfl
def Q_rmLe (Z : State) (p1 : Int32) (h0 : Heap) (n0 : Nat) (v : Option Value) (h : Heap) (L : List Loc) : Prop := (v = some (.int (own_n p1))) ∧ (Fr n0 L) ∧ (h = h0)
set_option maxRecDepth 65536 in
set_option maxHeartbeats 40000000 in
theorem rmLe (l : Launch) (Z : State) (a0 : Array Value) (hw : ∀ d ∈ tables_1, d.before a0 Z = true) (ws : List Jvm.Cond) (p1 : Int32) (h0 : Heap) (n0 : Nat) (Z0 : n0 ≤ h0.size) (O0 : Old Z n0 h0) :
    MetFree l y_1 (head1 (Jvm.Cond.code y_1 method_2_code 1 (some .int) :: ws) ({ frames := 1, cells := 0, slots := 0, locals := 13 } : Room)) (fun a U => a = #[(.int p1)] ∧ Z.Warmed39 U.vm ∧ U.heap = h0) (fun _ _ _ _ _ => True) (fun _ U o U' => ∃ v L, o = .returned v ∧ Q_rmLe Z p1 h0 n0 v U'.heap L ∧ FrameEnd U o U' L ({ frames := 1, cells := 0, slots := 0, locals := 13 } : Room).cells ({ frames := 1, cells := 0, slots := 0, locals := 13 } : Room).slots) := by
  refine MetFree.of_bodySF (plainFor_of_name pn_0) hisR ?_
  intro p e s m args below meth c s₁ Bd hml0 hP hK
  obtain ⟨rfl, hZ, hh⟩ := hP
  have hx := Bd.exec
  have hby := Bd.bytes
  have hml : c.maxLocals = 1 := hml0
  have hown : s.vm.findClass "com/example/brisk_tableau/brisktableau/owl/FuzzyLabelIsPinLaw" = some m.cls := findClass_of_methodNamed Bd.named
  have hnm := (name_of_methodNamed Bd.named Bd.method).1
  have X0 : Stand p l e ({ frames := 1, cells := 0, slots := 0, locals := 13 } : Room) s m #[(.int p1)] below meth c s₁ [] 0 0 := Stand.of_body Bd
  have e0 : s₁.heap = h0 := by rw [← hh, Bd.state]; rfl
  have N0 := Fr.nil n0
  have KC : Keep h0 h0 [] := Keep.refl h0 _
  have pre0 : ∀ t, Steps p.tables e below (s₁.setTop (mkF m 0 #[vi p1] [])) t → Steps p.tables e below (s₁.setTop (entryFrame m #[(.int p1)] 1)) t := fun t k => castTop (ef_rmLe m p1) k
  obtain ⟨_, _, ⟨T1, L1, k1, n1⟩, -, X1, ⟨Lc1, hQ1, l1, y1, z1⟩, st1⟩ := Jvm.LawKit.callS X0 hx (y := y_0) hown (mvT hZ (ww hw 10 rfl)) (mvT hZ (ww hw 11 rfl)) (mvT hZ (ww hw 12 rfl)) (mvT hZ (ww hw 13 rfl)) (by decide) (backOf (W := 0) (rmMi l Z a0 hw [] (p1 &&& (3 : Int32)) (2 : Int32) h0 n0 (Nat.le_trans Z0 KC.1) O0 ) hZ (ww hw 13 rfl) (ww hw 12 rfl) (by decide) (by decide)) (g := (mkF m 4 #[vi p1] [(.int (2 : Int32)), (.int (p1 &&& (3 : Int32)))])) rfl (by rw [hml]; rfl) (argsL := [(.int (p1 &&& (3 : Int32))), (.int (2 : Int32))]) (rest := []) (lenOf pd_0 rfl) rfl (by show 2 * 0 + _ ≤ _; exact Nat.le_of_eq rfl) (hb hby d2_4) (fun _ _ => ⟨rfl, e0, (by decide : 0 + 0 ≤ _), (by decide : 0 + 0 ≤ _)⟩)
  dsimp only [Pt.U, Pt.locs, Pt.cells, Pt.slots] at X1 l1 y1 z1 st1 hQ1
  subst l1 y1 z1
  obtain ⟨rfl, N1q, e1⟩ := hQ1
  have N1 := Fr.app N0 N1q
  obtain ⟨fs, hr, hrun, hended, hW, hsame⟩ := X1.leave (v := some (.int (if (2 : Int32) < (p1 &&& (3 : Int32)) then (2 : Int32) else (p1 &&& (3 : Int32))))) (fun h => by rw [Bd.returns] at h; cases h)
  refine ⟨_, _, pre0 _ ?_, hrun, hended, _, _, rfl, ?_, ⟨_, rfl⟩, hW, hsame.mono (by decide) (by decide)⟩
  · show SS p e below m s₁ 0 #[vi p1] [] _
    refine XS.iloadN X0.here hx rfl (hb hby d2_0) rfl ?_
    show SS p e below m s₁ 1 #[vi p1] [(.int p1)] _
    refine XS.iconst X0.here hx rfl (hb hby d2_1) ?_
    show SS p e below m s₁ 2 #[vi p1] [(.int (3 : Int32)), (.int p1)] _
    refine XS.iand X0.here hx rfl (hb hby d2_2) rfl ?_
    show SS p e below m s₁ 3 #[vi p1] [(.int (p1 &&& (3 : Int32)))] _
    refine XS.iconst X0.here hx rfl (hb hby d2_3) ?_
    show SS p e below m s₁ 4 #[vi p1] [(.int (2 : Int32)), (.int (p1 &&& (3 : Int32)))] _
    refine st1 _ ?_
    show SS p e below m T1 7 #[vi p1] [(.int (if (2 : Int32) < (p1 &&& (3 : Int32)) then (2 : Int32) else (p1 &&& (3 : Int32))))] _
    exact retI X1 hx Bd.returns (hb hby d2_7) hr
  · show Q_rmLe Z p1 h0 n0 _ T1.heap _
    rw [e1]
    exact ⟨rfl, N1, rfl⟩
theorem d7_0 : decode method_3_code 0 = .ok (.iload_n 0, 1) := by decide +kernel
theorem d7_1 : decode method_3_code 1 = .ok (.iconst 2, 1) := by decide +kernel
theorem d7_2 : decode method_3_code 2 = .ok (.iushr, 1) := by decide +kernel
theorem d7_3 : decode method_3_code 3 = .ok (.sipush 255, 3) := by decide +kernel
theorem d7_6 : decode method_3_code 6 = .ok (.iand, 1) := by decide +kernel
theorem d7_7 : decode method_3_code 7 = .ok (.i2c, 1) := by decide +kernel
theorem d7_8 : decode method_3_code 8 = .ok (.ireturn, 1) := by decide +kernel
theorem ef_rmC0 (m : MethodId) (x0 : Int32) : entryFrame m #[(.int x0)] 1 = mkF m 0 #[vi x0] [] := by first | (simp [entryFrame, mkF, argsToLocals, Value.category]; done) | rfl
def Q_rmC0 (Z : State) (p1 : Int32) (h0 : Heap) (n0 : Nat) (v : Option Value) (h : Heap) (L : List Loc) : Prop := (v = some (.int (own_c0 p1))) ∧ (Fr n0 L) ∧ (h = h0)
set_option maxRecDepth 65536 in
set_option maxHeartbeats 40000000 in
theorem rmC0 (l : Launch) (Z : State) (a0 : Array Value) (hw : ∀ d ∈ tables_1, d.before a0 Z = true) (ws : List Jvm.Cond) (p1 : Int32) (h0 : Heap) (n0 : Nat) (Z0 : n0 ≤ h0.size) (O0 : Old Z n0 h0) :
    MetFree l y_2 (head1 (Jvm.Cond.code y_2 method_3_code 1 (some .char) :: ws) ({ frames := 0, cells := 0, slots := 0, locals := 0 } : Room)) (fun a U => a = #[(.int p1)] ∧ Z.Warmed39 U.vm ∧ U.heap = h0) (fun _ _ _ _ _ => True) (fun _ U o U' => ∃ v L, o = .returned v ∧ Q_rmC0 Z p1 h0 n0 v U'.heap L ∧ FrameEnd U o U' L ({ frames := 0, cells := 0, slots := 0, locals := 0 } : Room).cells ({ frames := 0, cells := 0, slots := 0, locals := 0 } : Room).slots) := by
  refine MetFree.of_bodySF (plainFor_of_name pn_0) hisR ?_
  intro p e s m args below meth c s₁ Bd hml0 hP hK
  obtain ⟨rfl, hZ, hh⟩ := hP
  have hx := Bd.exec
  have hby := Bd.bytes
  have hml : c.maxLocals = 1 := hml0
  have hown : s.vm.findClass "com/example/brisk_tableau/brisktableau/owl/FuzzyLabelIsPinLaw" = some m.cls := findClass_of_methodNamed Bd.named
  have hnm := (name_of_methodNamed Bd.named Bd.method).1
  have X0 : Stand p l e ({ frames := 0, cells := 0, slots := 0, locals := 0 } : Room) s m #[(.int p1)] below meth c s₁ [] 0 0 := Stand.of_body Bd
  have e0 : s₁.heap = h0 := by rw [← hh, Bd.state]; rfl
  have N0 := Fr.nil n0
  have KC : Keep h0 h0 [] := Keep.refl h0 _
  have pre0 : ∀ t, Steps p.tables e below (s₁.setTop (mkF m 0 #[vi p1] [])) t → Steps p.tables e below (s₁.setTop (entryFrame m #[(.int p1)] 1)) t := fun t k => castTop (ef_rmC0 m p1) k
  obtain ⟨fs, hr, hrun, hended, hW, hsame⟩ := X0.leave (v := some (.int (nar .char ((((p1.toUInt32 >>> ((2 : Int32) &&& 31).toUInt32).toInt32) &&& (255 : Int32)).toUInt32.toUInt16.toUInt32.toInt32)))) (fun h => by rw [Bd.returns] at h; cases h)
  refine ⟨_, _, pre0 _ ?_, hrun, hended, _, _, rfl, ?_, ⟨_, rfl⟩, hW, hsame.mono (by decide) (by decide)⟩
  · show SS p e below m s₁ 0 #[vi p1] [] _
    refine XS.iloadN X0.here hx rfl (hb hby d7_0) rfl ?_
    show SS p e below m s₁ 1 #[vi p1] [(.int p1)] _
    refine XS.iconst X0.here hx rfl (hb hby d7_1) ?_
    show SS p e below m s₁ 2 #[vi p1] [(.int (2 : Int32)), (.int p1)] _
    refine XS.iushr X0.here hx rfl (hb hby d7_2) rfl ?_
    show SS p e below m s₁ 3 #[vi p1] [(.int ((p1.toUInt32 >>> ((2 : Int32) &&& 31).toUInt32).toInt32))] _
    refine XS.sipush X0.here hx rfl (hb hby d7_3) ?_
    show SS p e below m s₁ 6 #[vi p1] [(.int (255 : Int32)), (.int ((p1.toUInt32 >>> ((2 : Int32) &&& 31).toUInt32).toInt32))] _
    refine XS.iand X0.here hx rfl (hb hby d7_6) rfl ?_
    show SS p e below m s₁ 7 #[vi p1] [(.int (((p1.toUInt32 >>> ((2 : Int32) &&& 31).toUInt32).toInt32) &&& (255 : Int32)))] _
    refine XS.i2c X0.here hx rfl (hb hby d7_7) rfl ?_
    show SS p e below m s₁ 8 #[vi p1] [(.int ((((p1.toUInt32 >>> ((2 : Int32) &&& 31).toUInt32).toInt32) &&& (255 : Int32)).toUInt32.toUInt16.toUInt32.toInt32))] _
    exact retN X0 hx (t := .char) Bd.returns (by simp) (hb hby d7_8) hr
  · show Q_rmC0 Z p1 h0 n0 _ s₁.heap _
    rw [e0]
    exact ⟨(congrArg (fun z => some (Value.int z)) (own_nc _)), N0, rfl⟩
theorem d8_0 : decode method_4_code 0 = .ok (.iload_n 0, 1) := by decide +kernel
theorem d8_1 : decode method_4_code 1 = .ok (.bipush 10, 2) := by decide +kernel
theorem d8_3 : decode method_4_code 3 = .ok (.iushr, 1) := by decide +kernel
theorem d8_4 : decode method_4_code 4 = .ok (.sipush 255, 3) := by decide +kernel
theorem d8_7 : decode method_4_code 7 = .ok (.iand, 1) := by decide +kernel
theorem d8_8 : decode method_4_code 8 = .ok (.i2c, 1) := by decide +kernel
theorem d8_9 : decode method_4_code 9 = .ok (.ireturn, 1) := by decide +kernel
theorem ef_rmC1 (m : MethodId) (x0 : Int32) : entryFrame m #[(.int x0)] 1 = mkF m 0 #[vi x0] [] := by first | (simp [entryFrame, mkF, argsToLocals, Value.category]; done) | rfl
def Q_rmC1 (Z : State) (p1 : Int32) (h0 : Heap) (n0 : Nat) (v : Option Value) (h : Heap) (L : List Loc) : Prop := (v = some (.int (own_c1 p1))) ∧ (Fr n0 L) ∧ (h = h0)
set_option maxRecDepth 65536 in
set_option maxHeartbeats 40000000 in
theorem rmC1 (l : Launch) (Z : State) (a0 : Array Value) (hw : ∀ d ∈ tables_1, d.before a0 Z = true) (ws : List Jvm.Cond) (p1 : Int32) (h0 : Heap) (n0 : Nat) (Z0 : n0 ≤ h0.size) (O0 : Old Z n0 h0) :
    MetFree l y_3 (head1 (Jvm.Cond.code y_3 method_4_code 1 (some .char) :: ws) ({ frames := 0, cells := 0, slots := 0, locals := 0 } : Room)) (fun a U => a = #[(.int p1)] ∧ Z.Warmed39 U.vm ∧ U.heap = h0) (fun _ _ _ _ _ => True) (fun _ U o U' => ∃ v L, o = .returned v ∧ Q_rmC1 Z p1 h0 n0 v U'.heap L ∧ FrameEnd U o U' L ({ frames := 0, cells := 0, slots := 0, locals := 0 } : Room).cells ({ frames := 0, cells := 0, slots := 0, locals := 0 } : Room).slots) := by
  refine MetFree.of_bodySF (plainFor_of_name pn_0) hisR ?_
  intro p e s m args below meth c s₁ Bd hml0 hP hK
  obtain ⟨rfl, hZ, hh⟩ := hP
  have hx := Bd.exec
  have hby := Bd.bytes
  have hml : c.maxLocals = 1 := hml0
  have hown : s.vm.findClass "com/example/brisk_tableau/brisktableau/owl/FuzzyLabelIsPinLaw" = some m.cls := findClass_of_methodNamed Bd.named
  have hnm := (name_of_methodNamed Bd.named Bd.method).1
  have X0 : Stand p l e ({ frames := 0, cells := 0, slots := 0, locals := 0 } : Room) s m #[(.int p1)] below meth c s₁ [] 0 0 := Stand.of_body Bd
  have e0 : s₁.heap = h0 := by rw [← hh, Bd.state]; rfl
  have N0 := Fr.nil n0
  have KC : Keep h0 h0 [] := Keep.refl h0 _
  have pre0 : ∀ t, Steps p.tables e below (s₁.setTop (mkF m 0 #[vi p1] [])) t → Steps p.tables e below (s₁.setTop (entryFrame m #[(.int p1)] 1)) t := fun t k => castTop (ef_rmC1 m p1) k
  obtain ⟨fs, hr, hrun, hended, hW, hsame⟩ := X0.leave (v := some (.int (nar .char ((((p1.toUInt32 >>> ((10 : Int32) &&& 31).toUInt32).toInt32) &&& (255 : Int32)).toUInt32.toUInt16.toUInt32.toInt32)))) (fun h => by rw [Bd.returns] at h; cases h)
  refine ⟨_, _, pre0 _ ?_, hrun, hended, _, _, rfl, ?_, ⟨_, rfl⟩, hW, hsame.mono (by decide) (by decide)⟩
  · show SS p e below m s₁ 0 #[vi p1] [] _
    refine XS.iloadN X0.here hx rfl (hb hby d8_0) rfl ?_
    show SS p e below m s₁ 1 #[vi p1] [(.int p1)] _
    refine XS.bipush X0.here hx rfl (hb hby d8_1) ?_
    show SS p e below m s₁ 3 #[vi p1] [(.int (10 : Int32)), (.int p1)] _
    refine XS.iushr X0.here hx rfl (hb hby d8_3) rfl ?_
    show SS p e below m s₁ 4 #[vi p1] [(.int ((p1.toUInt32 >>> ((10 : Int32) &&& 31).toUInt32).toInt32))] _
    refine XS.sipush X0.here hx rfl (hb hby d8_4) ?_
    show SS p e below m s₁ 7 #[vi p1] [(.int (255 : Int32)), (.int ((p1.toUInt32 >>> ((10 : Int32) &&& 31).toUInt32).toInt32))] _
    refine XS.iand X0.here hx rfl (hb hby d8_7) rfl ?_
    show SS p e below m s₁ 8 #[vi p1] [(.int (((p1.toUInt32 >>> ((10 : Int32) &&& 31).toUInt32).toInt32) &&& (255 : Int32)))] _
    refine XS.i2c X0.here hx rfl (hb hby d8_8) rfl ?_
    show SS p e below m s₁ 9 #[vi p1] [(.int ((((p1.toUInt32 >>> ((10 : Int32) &&& 31).toUInt32).toInt32) &&& (255 : Int32)).toUInt32.toUInt16.toUInt32.toInt32))] _
    exact retN X0 hx (t := .char) Bd.returns (by simp) (hb hby d8_9) hr
  · show Q_rmC1 Z p1 h0 n0 _ s₁.heap _
    rw [e0]
    exact ⟨(congrArg (fun z => some (Value.int z)) (own_nc _)), N0, rfl⟩
theorem pd_1 : parseMethodDescriptor "(I)I" = some ⟨[.int], some .int⟩ := by decide +kernel
theorem pd_2 : parseMethodDescriptor "(I)C" = some ⟨[.int], some .char⟩ := by decide +kernel
theorem d14_0 : decode method_6_code 0 = .ok (.iload_n 0, 1) := by decide +kernel
theorem d14_1 : decode method_6_code 1 = .ok (.invokestatic 13, 3) := by decide +kernel
theorem d14_4 : decode method_6_code 4 = .ok (.istore_n 2, 1) := by decide +kernel
theorem d14_5 : decode method_6_code 5 = .ok (.iload_n 2, 1) := by decide +kernel
theorem d14_6 : decode method_6_code 6 = .ok (.iload_n 1, 1) := by decide +kernel
theorem d14_7 : decode method_6_code 7 = .ok (.invokestatic 13, 3) := by decide +kernel
theorem d14_10 : decode method_6_code 10 = .ok (.if_icmp .eq 5, 3) := by decide +kernel
theorem d14_13 : decode method_6_code 13 = .ok (.iconst 0, 1) := by decide +kernel
theorem d14_14 : decode method_6_code 14 = .ok (.ireturn, 1) := by decide +kernel
theorem d14_15 : decode method_6_code 15 = .ok (.iload_n 2, 1) := by decide +kernel
theorem d14_16 : decode method_6_code 16 = .ok (.iconst 1, 1) := by decide +kernel
theorem d14_17 : decode method_6_code 17 = .ok (.if_icmp .lt 16, 3) := by decide +kernel
theorem d14_20 : decode method_6_code 20 = .ok (.iload_n 0, 1) := by decide +kernel
theorem d14_21 : decode method_6_code 21 = .ok (.invokestatic 24, 3) := by decide +kernel
theorem d14_24 : decode method_6_code 24 = .ok (.iload_n 1, 1) := by decide +kernel
theorem d14_25 : decode method_6_code 25 = .ok (.invokestatic 24, 3) := by decide +kernel
theorem d14_28 : decode method_6_code 28 = .ok (.if_icmp .eq 5, 3) := by decide +kernel
theorem d14_31 : decode method_6_code 31 = .ok (.iconst 0, 1) := by decide +kernel
theorem d14_32 : decode method_6_code 32 = .ok (.ireturn, 1) := by decide +kernel
theorem d14_33 : decode method_6_code 33 = .ok (.iload_n 2, 1) := by decide +kernel
theorem d14_34 : decode method_6_code 34 = .ok (.iconst 2, 1) := by decide +kernel
theorem d14_35 : decode method_6_code 35 = .ok (.if_icmp .lt 16, 3) := by decide +kernel
theorem d14_38 : decode method_6_code 38 = .ok (.iload_n 0, 1) := by decide +kernel
theorem d14_39 : decode method_6_code 39 = .ok (.invokestatic 32, 3) := by decide +kernel
theorem d14_42 : decode method_6_code 42 = .ok (.iload_n 1, 1) := by decide +kernel
theorem d14_43 : decode method_6_code 43 = .ok (.invokestatic 32, 3) := by decide +kernel
theorem d14_46 : decode method_6_code 46 = .ok (.if_icmp .eq 5, 3) := by decide +kernel
theorem d14_49 : decode method_6_code 49 = .ok (.iconst 0, 1) := by decide +kernel
theorem d14_50 : decode method_6_code 50 = .ok (.ireturn, 1) := by decide +kernel
theorem d14_51 : decode method_6_code 51 = .ok (.iconst 1, 1) := by decide +kernel
theorem d14_52 : decode method_6_code 52 = .ok (.ireturn, 1) := by decide +kernel
theorem ef_rmSm (m : MethodId) (x0 : Int32) (x1 : Int32) : entryFrame m #[(.int x0), (.int x1)] 3 = mkF m 0 #[vi x0, vi x1, .unset] [] := by first | (simp [entryFrame, mkF, argsToLocals, Value.category]; done) | rfl
def Q_rmSm (Z : State) (p1 : Int32) (p2 : Int32) (h0 : Heap) (n0 : Nat) (v : Option Value) (h : Heap) (L : List Loc) : Prop := (v = some (.int (own_eq p1 p2))) ∧ (Fr n0 L) ∧ (h = h0)
set_option maxRecDepth 65536 in
set_option maxHeartbeats 40000000 in
theorem rmSm (l : Launch) (Z : State) (a0 : Array Value) (hw : ∀ d ∈ tables_1, d.before a0 Z = true) (ws : List Jvm.Cond) (p1 : Int32) (p2 : Int32) (h0 : Heap) (n0 : Nat) (Z0 : n0 ≤ h0.size) (O0 : Old Z n0 h0) :
    MetFree l y_4 (head1 (Jvm.Cond.code y_4 method_6_code 3 (some .boolean) :: ws) ({ frames := 2, cells := 0, slots := 0, locals := 26 } : Room)) (fun a U => a = #[(.int p1), (.int p2)] ∧ Z.Warmed39 U.vm ∧ U.heap = h0) (fun _ _ _ _ _ => True) (fun _ U o U' => ∃ v L, o = .returned v ∧ Q_rmSm Z p1 p2 h0 n0 v U'.heap L ∧ FrameEnd U o U' L ({ frames := 2, cells := 0, slots := 0, locals := 26 } : Room).cells ({ frames := 2, cells := 0, slots := 0, locals := 26 } : Room).slots) := by
  refine MetFree.of_bodySF (plainFor_of_name pn_0) hisR ?_
  intro p e s m args below meth c s₁ Bd hml0 hP hK
  obtain ⟨rfl, hZ, hh⟩ := hP
  have hx := Bd.exec
  have hby := Bd.bytes
  have hml : c.maxLocals = 3 := hml0
  have hown : s.vm.findClass "com/example/brisk_tableau/brisktableau/owl/FuzzyLabelIsPinLaw" = some m.cls := findClass_of_methodNamed Bd.named
  have hnm := (name_of_methodNamed Bd.named Bd.method).1
  have X0 : Stand p l e ({ frames := 2, cells := 0, slots := 0, locals := 26 } : Room) s m #[(.int p1), (.int p2)] below meth c s₁ [] 0 0 := Stand.of_body Bd
  have e0 : s₁.heap = h0 := by rw [← hh, Bd.state]; rfl
  have N0 := Fr.nil n0
  have KC : Keep h0 h0 [] := Keep.refl h0 _
  have pre0 : ∀ t, Steps p.tables e below (s₁.setTop (mkF m 0 #[vi p1, vi p2, un] [])) t → Steps p.tables e below (s₁.setTop (entryFrame m #[(.int p1), (.int p2)] 3)) t := fun t k => castTop (ef_rmSm m p1 p2) k
  obtain ⟨_, _, ⟨T1, L1, k1, n1⟩, -, X1, ⟨Lc1, hQ1, l1, y1, z1⟩, st1⟩ := Jvm.LawKit.callS X0 hx (y := y_1) hown (mvT hZ (ww hw 7 rfl)) (mvT hZ (ww hw 8 rfl)) (mvT hZ (ww hw 5 rfl)) (mvT hZ (ww hw 9 rfl)) (by decide) (backOf (W := 0) (rmLe l Z a0 hw [] p1 h0 n0 (Nat.le_trans Z0 KC.1) O0 ) hZ (ww hw 9 rfl) (ww hw 5 rfl) (by decide) (by decide)) (g := (mkF m 1 #[vi p1, vi p2, un] [(.int p1)])) rfl (by rw [hml]; rfl) (argsL := [(.int p1)]) (rest := []) (lenOf pd_1 rfl) rfl (by show 2 * 0 + _ ≤ _; exact Nat.le_of_eq rfl) (hb hby d14_1) (fun _ _ => ⟨rfl, e0, (by decide : 0 + 0 ≤ _), (by decide : 0 + 0 ≤ _)⟩)
  dsimp only [Pt.U, Pt.locs, Pt.cells, Pt.slots] at X1 l1 y1 z1 st1 hQ1
  subst l1 y1 z1
  obtain ⟨rfl, N1q, e1⟩ := hQ1
  have N1 := Fr.app N0 N1q
  obtain ⟨_, _, ⟨T2, L2, k2, n2⟩, -, X2, ⟨Lc2, hQ2, l2, y2, z2⟩, st2⟩ := Jvm.LawKit.callS X1 hx (y := y_1) hown (mvT hZ (ww hw 7 rfl)) (mvT hZ (ww hw 8 rfl)) (mvT hZ (ww hw 5 rfl)) (mvT hZ (ww hw 9 rfl)) (by decide) (backOf (W := 1) (rmLe l Z a0 hw [] p2 h0 n0 (Nat.le_trans Z0 KC.1) O0 ) hZ (ww hw 9 rfl) (ww hw 5 rfl) (by decide) (by decide)) (g := (mkF m 7 #[vi p1, vi p2, vi (own_n p1)] [(.int p2), (.int (own_n p1))])) rfl (by rw [hml]; rfl) (argsL := [(.int p2)]) (rest := [(.int (own_n p1))]) (lenOf pd_1 rfl) rfl (by show 2 * 0 + _ ≤ _; exact Nat.le_of_eq rfl) (hb hby d14_7) (fun _ _ => ⟨rfl, e1, (by decide : 0 + 0 ≤ _), (by decide : 0 + 0 ≤ _)⟩)
  dsimp only [Pt.U, Pt.locs, Pt.cells, Pt.slots] at X2 l2 y2 z2 st2 hQ2
  subst l2 y2 z2
  obtain ⟨rfl, N2q, e2⟩ := hQ2
  have N2 := Fr.app N1 N2q
  have pre3 : ∀ t, Steps p.tables e below (T2.setTop (mkF m 10 #[vi p1, vi p2, vi (own_n p1)] [(.int (own_n p2)), (.int (own_n p1))])) t → Steps p.tables e below (s₁.setTop (entryFrame m #[(.int p1), (.int p2)] 3)) t := by
    intro t kt
    refine pre0 t ?_
    show SS p e below m s₁ 0 #[vi p1, vi p2, un] [] _
    refine XS.iloadN X0.here hx rfl (hb hby d14_0) rfl ?_
    show SS p e below m s₁ 1 #[vi p1, vi p2, un] [(.int p1)] _
    refine st1 _ ?_
    show SS p e below m T1 4 #[vi p1, vi p2, un] [(.int (own_n p1))] _
    refine XS.istoreN X1.here hx rfl (hb hby d14_4) rfl (l' := #[vi p1, vi p2, vi (own_n p1)]) rfl ?_
    show SS p e below m T1 5 #[vi p1, vi p2, vi (own_n p1)] [] _
    refine XS.iloadN X1.here hx rfl (hb hby d14_5) rfl ?_
    show SS p e below m T1 6 #[vi p1, vi p2, vi (own_n p1)] [(.int (own_n p1))] _
    refine XS.iloadN X1.here hx rfl (hb hby d14_6) rfl ?_
    show SS p e below m T1 7 #[vi p1, vi p2, vi (own_n p1)] [(.int p2), (.int (own_n p1))] _
    refine st2 _ ?_
    exact kt
  by_cases hc10_4 : (own_n p1) = (own_n p2)
  · have pre5 : ∀ t, Steps p.tables e below (T2.setTop (mkF m 17 #[vi p1, vi p2, vi (own_n p1)] [(.int (1 : Int32)), (.int (own_n p1))])) t → Steps p.tables e below (s₁.setTop (entryFrame m #[(.int p1), (.int p2)] 3)) t := by
      intro t kt
      refine pre3 t ?_
      show SS p e below m T2 10 #[vi p1, vi p2, vi (own_n p1)] [(.int (own_n p2)), (.int (own_n p1))] _
      refine XS.icmpYes X2.here hx rfl (pc0 := 10) (pc' := 15) rfl (hb hby d14_10) rfl (teq hc10_4).1 (by decide) (by decide) ?_
      show SS p e below m T2 15 #[vi p1, vi p2, vi (own_n p1)] [] _
      refine XS.iloadN X2.here hx rfl (hb hby d14_15) rfl ?_
      show SS p e below m T2 16 #[vi p1, vi p2, vi (own_n p1)] [(.int (own_n p1))] _
      refine XS.iconst X2.here hx rfl (hb hby d14_16) ?_
      exact kt
    by_cases hc17_6 : (own_n p1) < (1 : Int32)
    · obtain ⟨fs, hr, hrun, hended, hW, hsame⟩ := X2.leave (v := some (.int (1 : Int32))) (fun h => by rw [Bd.returns] at h; cases h)
      refine ⟨_, _, pre5 _ ?_, hrun, hended, _, _, rfl, ?_, ⟨_, rfl⟩, hW, hsame.mono (by decide) (by decide)⟩
      · show SS p e below m T2 17 #[vi p1, vi p2, vi (own_n p1)] [(.int (1 : Int32)), (.int (own_n p1))] _
        refine XS.icmpYes X2.here hx rfl (pc0 := 17) (pc' := 33) rfl (hb hby d14_17) rfl (tlt hc17_6).1 (by decide) (by decide) ?_
        show SS p e below m T2 33 #[vi p1, vi p2, vi (own_n p1)] [] _
        refine XS.iloadN X2.here hx rfl (hb hby d14_33) rfl ?_
        show SS p e below m T2 34 #[vi p1, vi p2, vi (own_n p1)] [(.int (own_n p1))] _
        refine XS.iconst X2.here hx rfl (hb hby d14_34) ?_
        show SS p e below m T2 35 #[vi p1, vi p2, vi (own_n p1)] [(.int (2 : Int32)), (.int (own_n p1))] _
        refine XS.icmpYes X2.here hx rfl (pc0 := 35) (pc' := 51) rfl (hb hby d14_35) rfl (tlt (own_l12 hc17_6)).1 (by decide) (by decide) ?_
        show SS p e below m T2 51 #[vi p1, vi p2, vi (own_n p1)] [] _
        refine XS.iconst X2.here hx rfl (hb hby d14_51) ?_
        show SS p e below m T2 52 #[vi p1, vi p2, vi (own_n p1)] [(.int (1 : Int32))] _
        exact retN X2 hx (t := .boolean) Bd.returns (by simp) (hb hby d14_52) hr
      · show Q_rmSm Z p1 p2 h0 n0 _ T2.heap _
        rw [e2]
        exact ⟨(congrArg (fun z => some (Value.int z)) (own_s2 hc10_4 hc17_6).symm), N2, rfl⟩
    · obtain ⟨_, _, ⟨T7, L7, k7, n7⟩, -, X7, ⟨Lc7, hQ7, l7, y7, z7⟩, st7⟩ := Jvm.LawKit.callS X2 hx (y := y_2) hown (mvT hZ (ww hw 36 rfl)) (mvT hZ (ww hw 37 rfl)) (mvT hZ (ww hw 5 rfl)) (mvT hZ (ww hw 38 rfl)) (by decide) (backOf (W := 0) (rmC0 l Z a0 hw [] p1 h0 n0 (Nat.le_trans Z0 KC.1) O0 ) hZ (ww hw 38 rfl) (ww hw 5 rfl) (by decide) (by decide)) (g := (mkF m 21 #[vi p1, vi p2, vi (own_n p1)] [(.int p1)])) rfl (by rw [hml]; rfl) (argsL := [(.int p1)]) (rest := []) (lenOf pd_2 rfl) rfl (by show 2 * 0 + _ ≤ _; exact Nat.le_of_eq rfl) (hb hby d14_21) (fun _ _ => ⟨rfl, e2, (by decide : 0 + 0 ≤ _), (by decide : 0 + 0 ≤ _)⟩)
      dsimp only [Pt.U, Pt.locs, Pt.cells, Pt.slots] at X7 l7 y7 z7 st7 hQ7
      subst l7 y7 z7
      obtain ⟨rfl, N7q, e7⟩ := hQ7
      have N7 := Fr.app N2 N7q
      obtain ⟨_, _, ⟨T8, L8, k8, n8⟩, -, X8, ⟨Lc8, hQ8, l8, y8, z8⟩, st8⟩ := Jvm.LawKit.callS X7 hx (y := y_2) hown (mvT hZ (ww hw 36 rfl)) (mvT hZ (ww hw 37 rfl)) (mvT hZ (ww hw 5 rfl)) (mvT hZ (ww hw 38 rfl)) (by decide) (backOf (W := 1) (rmC0 l Z a0 hw [] p2 h0 n0 (Nat.le_trans Z0 KC.1) O0 ) hZ (ww hw 38 rfl) (ww hw 5 rfl) (by decide) (by decide)) (g := (mkF m 25 #[vi p1, vi p2, vi (own_n p1)] [(.int p2), (.int (own_c0 p1))])) rfl (by rw [hml]; rfl) (argsL := [(.int p2)]) (rest := [(.int (own_c0 p1))]) (lenOf pd_2 rfl) rfl (by show 2 * 0 + _ ≤ _; exact Nat.le_of_eq rfl) (hb hby d14_25) (fun _ _ => ⟨rfl, e7, (by decide : 0 + 0 ≤ _), (by decide : 0 + 0 ≤ _)⟩)
      dsimp only [Pt.U, Pt.locs, Pt.cells, Pt.slots] at X8 l8 y8 z8 st8 hQ8
      subst l8 y8 z8
      obtain ⟨rfl, N8q, e8⟩ := hQ8
      have N8 := Fr.app N7 N8q
      have pre9 : ∀ t, Steps p.tables e below (T8.setTop (mkF m 28 #[vi p1, vi p2, vi (own_n p1)] [(.int (own_c0 p2)), (.int (own_c0 p1))])) t → Steps p.tables e below (s₁.setTop (entryFrame m #[(.int p1), (.int p2)] 3)) t := by
        intro t kt
        refine pre5 t ?_
        show SS p e below m T2 17 #[vi p1, vi p2, vi (own_n p1)] [(.int (1 : Int32)), (.int (own_n p1))] _
        refine XS.icmpNo X2.here hx rfl (hb hby d14_17) rfl (flt hc17_6).1 ?_
        show SS p e below m T2 20 #[vi p1, vi p2, vi (own_n p1)] [] _
        refine XS.iloadN X2.here hx rfl (hb hby d14_20) rfl ?_
        show SS p e below m T2 21 #[vi p1, vi p2, vi (own_n p1)] [(.int p1)] _
        refine st7 _ ?_
        show SS p e below m T7 24 #[vi p1, vi p2, vi (own_n p1)] [(.int (own_c0 p1))] _
        refine XS.iloadN X7.here hx rfl (hb hby d14_24) rfl ?_
        show SS p e below m T7 25 #[vi p1, vi p2, vi (own_n p1)] [(.int p2), (.int (own_c0 p1))] _
        refine st8 _ ?_
        exact kt
      by_cases hc28_10 : (own_c0 p1) = (own_c0 p2)
      · have pre11 : ∀ t, Steps p.tables e below (T8.setTop (mkF m 35 #[vi p1, vi p2, vi (own_n p1)] [(.int (2 : Int32)), (.int (own_n p1))])) t → Steps p.tables e below (s₁.setTop (entryFrame m #[(.int p1), (.int p2)] 3)) t := by
          intro t kt
          refine pre9 t ?_
          show SS p e below m T8 28 #[vi p1, vi p2, vi (own_n p1)] [(.int (own_c0 p2)), (.int (own_c0 p1))] _
          refine XS.icmpYes X8.here hx rfl (pc0 := 28) (pc' := 33) rfl (hb hby d14_28) rfl (teq hc28_10).1 (by decide) (by decide) ?_
          show SS p e below m T8 33 #[vi p1, vi p2, vi (own_n p1)] [] _
          refine XS.iloadN X8.here hx rfl (hb hby d14_33) rfl ?_
          show SS p e below m T8 34 #[vi p1, vi p2, vi (own_n p1)] [(.int (own_n p1))] _
          refine XS.iconst X8.here hx rfl (hb hby d14_34) ?_
          exact kt
        by_cases hc35_12 : (own_n p1) < (2 : Int32)
        · obtain ⟨fs, hr, hrun, hended, hW, hsame⟩ := X8.leave (v := some (.int (1 : Int32))) (fun h => by rw [Bd.returns] at h; cases h)
          refine ⟨_, _, pre11 _ ?_, hrun, hended, _, _, rfl, ?_, ⟨_, rfl⟩, hW, hsame.mono (by decide) (by decide)⟩
          · show SS p e below m T8 35 #[vi p1, vi p2, vi (own_n p1)] [(.int (2 : Int32)), (.int (own_n p1))] _
            refine XS.icmpYes X8.here hx rfl (pc0 := 35) (pc' := 51) rfl (hb hby d14_35) rfl (tlt hc35_12).1 (by decide) (by decide) ?_
            show SS p e below m T8 51 #[vi p1, vi p2, vi (own_n p1)] [] _
            refine XS.iconst X8.here hx rfl (hb hby d14_51) ?_
            show SS p e below m T8 52 #[vi p1, vi p2, vi (own_n p1)] [(.int (1 : Int32))] _
            exact retN X8 hx (t := .boolean) Bd.returns (by simp) (hb hby d14_52) hr
          · show Q_rmSm Z p1 p2 h0 n0 _ T8.heap _
            rw [e8]
            exact ⟨(congrArg (fun z => some (Value.int z)) (own_s4 hc10_4 hc17_6 hc28_10 hc35_12).symm), N8, rfl⟩
        · obtain ⟨_, _, ⟨T13, L13, k13, n13⟩, -, X13, ⟨Lc13, hQ13, l13, y13, z13⟩, st13⟩ := Jvm.LawKit.callS X8 hx (y := y_3) hown (mvT hZ (ww hw 39 rfl)) (mvT hZ (ww hw 40 rfl)) (mvT hZ (ww hw 5 rfl)) (mvT hZ (ww hw 41 rfl)) (by decide) (backOf (W := 0) (rmC1 l Z a0 hw [] p1 h0 n0 (Nat.le_trans Z0 KC.1) O0 ) hZ (ww hw 41 rfl) (ww hw 5 rfl) (by decide) (by decide)) (g := (mkF m 39 #[vi p1, vi p2, vi (own_n p1)] [(.int p1)])) rfl (by rw [hml]; rfl) (argsL := [(.int p1)]) (rest := []) (lenOf pd_2 rfl) rfl (by show 2 * 0 + _ ≤ _; exact Nat.le_of_eq rfl) (hb hby d14_39) (fun _ _ => ⟨rfl, e8, (by decide : 0 + 0 ≤ _), (by decide : 0 + 0 ≤ _)⟩)
          dsimp only [Pt.U, Pt.locs, Pt.cells, Pt.slots] at X13 l13 y13 z13 st13 hQ13
          subst l13 y13 z13
          obtain ⟨rfl, N13q, e13⟩ := hQ13
          have N13 := Fr.app N8 N13q
          obtain ⟨_, _, ⟨T14, L14, k14, n14⟩, -, X14, ⟨Lc14, hQ14, l14, y14, z14⟩, st14⟩ := Jvm.LawKit.callS X13 hx (y := y_3) hown (mvT hZ (ww hw 39 rfl)) (mvT hZ (ww hw 40 rfl)) (mvT hZ (ww hw 5 rfl)) (mvT hZ (ww hw 41 rfl)) (by decide) (backOf (W := 1) (rmC1 l Z a0 hw [] p2 h0 n0 (Nat.le_trans Z0 KC.1) O0 ) hZ (ww hw 41 rfl) (ww hw 5 rfl) (by decide) (by decide)) (g := (mkF m 43 #[vi p1, vi p2, vi (own_n p1)] [(.int p2), (.int (own_c1 p1))])) rfl (by rw [hml]; rfl) (argsL := [(.int p2)]) (rest := [(.int (own_c1 p1))]) (lenOf pd_2 rfl) rfl (by show 2 * 0 + _ ≤ _; exact Nat.le_of_eq rfl) (hb hby d14_43) (fun _ _ => ⟨rfl, e13, (by decide : 0 + 0 ≤ _), (by decide : 0 + 0 ≤ _)⟩)
          dsimp only [Pt.U, Pt.locs, Pt.cells, Pt.slots] at X14 l14 y14 z14 st14 hQ14
          subst l14 y14 z14
          obtain ⟨rfl, N14q, e14⟩ := hQ14
          have N14 := Fr.app N13 N14q
          have pre15 : ∀ t, Steps p.tables e below (T14.setTop (mkF m 46 #[vi p1, vi p2, vi (own_n p1)] [(.int (own_c1 p2)), (.int (own_c1 p1))])) t → Steps p.tables e below (s₁.setTop (entryFrame m #[(.int p1), (.int p2)] 3)) t := by
            intro t kt
            refine pre11 t ?_
            show SS p e below m T8 35 #[vi p1, vi p2, vi (own_n p1)] [(.int (2 : Int32)), (.int (own_n p1))] _
            refine XS.icmpNo X8.here hx rfl (hb hby d14_35) rfl (flt hc35_12).1 ?_
            show SS p e below m T8 38 #[vi p1, vi p2, vi (own_n p1)] [] _
            refine XS.iloadN X8.here hx rfl (hb hby d14_38) rfl ?_
            show SS p e below m T8 39 #[vi p1, vi p2, vi (own_n p1)] [(.int p1)] _
            refine st13 _ ?_
            show SS p e below m T13 42 #[vi p1, vi p2, vi (own_n p1)] [(.int (own_c1 p1))] _
            refine XS.iloadN X13.here hx rfl (hb hby d14_42) rfl ?_
            show SS p e below m T13 43 #[vi p1, vi p2, vi (own_n p1)] [(.int p2), (.int (own_c1 p1))] _
            refine st14 _ ?_
            exact kt
          by_cases hc46_16 : (own_c1 p1) = (own_c1 p2)
          · obtain ⟨fs, hr, hrun, hended, hW, hsame⟩ := X14.leave (v := some (.int (1 : Int32))) (fun h => by rw [Bd.returns] at h; cases h)
            refine ⟨_, _, pre15 _ ?_, hrun, hended, _, _, rfl, ?_, ⟨_, rfl⟩, hW, hsame.mono (by decide) (by decide)⟩
            · show SS p e below m T14 46 #[vi p1, vi p2, vi (own_n p1)] [(.int (own_c1 p2)), (.int (own_c1 p1))] _
              refine XS.icmpYes X14.here hx rfl (pc0 := 46) (pc' := 51) rfl (hb hby d14_46) rfl (teq hc46_16).1 (by decide) (by decide) ?_
              show SS p e below m T14 51 #[vi p1, vi p2, vi (own_n p1)] [] _
              refine XS.iconst X14.here hx rfl (hb hby d14_51) ?_
              show SS p e below m T14 52 #[vi p1, vi p2, vi (own_n p1)] [(.int (1 : Int32))] _
              exact retN X14 hx (t := .boolean) Bd.returns (by simp) (hb hby d14_52) hr
            · show Q_rmSm Z p1 p2 h0 n0 _ T14.heap _
              rw [e14]
              exact ⟨(congrArg (fun z => some (Value.int z)) (own_s6 hc10_4 hc17_6 hc28_10 hc35_12 hc46_16).symm), N14, rfl⟩
          · obtain ⟨fs, hr, hrun, hended, hW, hsame⟩ := X14.leave (v := some (.int (0 : Int32))) (fun h => by rw [Bd.returns] at h; cases h)
            refine ⟨_, _, pre15 _ ?_, hrun, hended, _, _, rfl, ?_, ⟨_, rfl⟩, hW, hsame.mono (by decide) (by decide)⟩
            · show SS p e below m T14 46 #[vi p1, vi p2, vi (own_n p1)] [(.int (own_c1 p2)), (.int (own_c1 p1))] _
              refine XS.icmpNo X14.here hx rfl (hb hby d14_46) rfl (feq hc46_16).1 ?_
              show SS p e below m T14 49 #[vi p1, vi p2, vi (own_n p1)] [] _
              refine XS.iconst X14.here hx rfl (hb hby d14_49) ?_
              show SS p e below m T14 50 #[vi p1, vi p2, vi (own_n p1)] [(.int (0 : Int32))] _
              exact retN X14 hx (t := .boolean) Bd.returns (by simp) (hb hby d14_50) hr
            · show Q_rmSm Z p1 p2 h0 n0 _ T14.heap _
              rw [e14]
              exact ⟨(congrArg (fun z => some (Value.int z)) (own_s5 hc10_4 hc17_6 hc28_10 hc35_12 hc46_16).symm), N14, rfl⟩
      · obtain ⟨fs, hr, hrun, hended, hW, hsame⟩ := X8.leave (v := some (.int (0 : Int32))) (fun h => by rw [Bd.returns] at h; cases h)
        refine ⟨_, _, pre9 _ ?_, hrun, hended, _, _, rfl, ?_, ⟨_, rfl⟩, hW, hsame.mono (by decide) (by decide)⟩
        · show SS p e below m T8 28 #[vi p1, vi p2, vi (own_n p1)] [(.int (own_c0 p2)), (.int (own_c0 p1))] _
          refine XS.icmpNo X8.here hx rfl (hb hby d14_28) rfl (feq hc28_10).1 ?_
          show SS p e below m T8 31 #[vi p1, vi p2, vi (own_n p1)] [] _
          refine XS.iconst X8.here hx rfl (hb hby d14_31) ?_
          show SS p e below m T8 32 #[vi p1, vi p2, vi (own_n p1)] [(.int (0 : Int32))] _
          exact retN X8 hx (t := .boolean) Bd.returns (by simp) (hb hby d14_32) hr
        · show Q_rmSm Z p1 p2 h0 n0 _ T8.heap _
          rw [e8]
          exact ⟨(congrArg (fun z => some (Value.int z)) (own_s3 hc10_4 hc17_6 hc28_10).symm), N8, rfl⟩
  · obtain ⟨fs, hr, hrun, hended, hW, hsame⟩ := X2.leave (v := some (.int (0 : Int32))) (fun h => by rw [Bd.returns] at h; cases h)
    refine ⟨_, _, pre3 _ ?_, hrun, hended, _, _, rfl, ?_, ⟨_, rfl⟩, hW, hsame.mono (by decide) (by decide)⟩
    · show SS p e below m T2 10 #[vi p1, vi p2, vi (own_n p1)] [(.int (own_n p2)), (.int (own_n p1))] _
      refine XS.icmpNo X2.here hx rfl (hb hby d14_10) rfl (feq hc10_4).1 ?_
      show SS p e below m T2 13 #[vi p1, vi p2, vi (own_n p1)] [] _
      refine XS.iconst X2.here hx rfl (hb hby d14_13) ?_
      show SS p e below m T2 14 #[vi p1, vi p2, vi (own_n p1)] [(.int (0 : Int32))] _
      exact retN X2 hx (t := .boolean) Bd.returns (by simp) (hb hby d14_14) hr
    · show Q_rmSm Z p1 p2 h0 n0 _ T2.heap _
      rw [e2]
      exact ⟨(congrArg (fun z => some (Value.int z)) (own_s1 hc10_4).symm), N2, rfl⟩
theorem d13_0 : decode jdk_30_method_1_code 0 = .ok (.aload_n 0, 1) := by decide +kernel
theorem d13_1 : decode jdk_30_method_1_code 1 = .ok (.invokespecial 1, 3) := by decide +kernel
theorem d13_4 : decode jdk_30_method_1_code 4 = .ok (.return_, 1) := by decide +kernel
theorem pn_1 : plainName "java/lang/Record" = true := by first | (simp [plainName, overriddenIn]; done) | decide +kernel
theorem ef_rmRe (m : MethodId) (x0 : Addr) : entryFrame m #[(.ref x0)] 1 = mkF m 0 #[vr x0] [] := by first | (simp [entryFrame, mkF, argsToLocals, Value.category]; done) | rfl
def Q_rmRe (Z : State) (a1 : Addr) (h0 : Heap) (n0 : Nat) (v : Option Value) (h : Heap) (L : List Loc) : Prop := (v = none) ∧ (Fr n0 L) ∧ (h = h0)
set_option maxRecDepth 65536 in
set_option maxHeartbeats 40000000 in
theorem rmRe (l : Launch) (Z : State) (a0 : Array Value) (hw : ∀ d ∈ tables_1, d.before a0 Z = true) (ws : List Jvm.Cond) (a1 : Addr) (h0 : Heap) (n0 : Nat) (Z0 : n0 ≤ h0.size) (O0 : Old Z n0 h0) :
    MetFree l y_5 (head1 (Jvm.Cond.code y_5 jdk_30_method_1_code 1 none :: ws) ({ frames := 1, cells := 0, slots := 0, locals := 12 } : Room)) (fun a U => a = #[(.ref a1)] ∧ Z.Warmed39 U.vm ∧ U.heap = h0) (fun _ _ _ _ _ => True) (fun _ U o U' => ∃ v L, o = .returned v ∧ Q_rmRe Z a1 h0 n0 v U'.heap L ∧ FrameEnd U o U' L ({ frames := 1, cells := 0, slots := 0, locals := 12 } : Room).cells ({ frames := 1, cells := 0, slots := 0, locals := 12 } : Room).slots) := by
  refine MetFree.of_bodySF (plainFor_of_name pn_1) hisR ?_
  intro p e s m args below meth c s₁ Bd hml0 hP hK
  obtain ⟨rfl, hZ, hh⟩ := hP
  have hx := Bd.exec
  have hby := Bd.bytes
  have hml : c.maxLocals = 1 := hml0
  have hown : s.vm.findClass "java/lang/Record" = some m.cls := findClass_of_methodNamed Bd.named
  have hnm := (name_of_methodNamed Bd.named Bd.method).1
  have X0 : Stand p l e ({ frames := 1, cells := 0, slots := 0, locals := 12 } : Room) s m #[(.ref a1)] below meth c s₁ [] 0 0 := Stand.of_body Bd
  have e0 : s₁.heap = h0 := by rw [← hh, Bd.state]; rfl
  have N0 := Fr.nil n0
  have KC : Keep h0 h0 [] := Keep.refl h0 _
  have pre0 : ∀ t, Steps p.tables e below (s₁.setTop (mkF m 0 #[vr a1] [])) t → Steps p.tables e below (s₁.setTop (entryFrame m #[(.ref a1)] 1)) t := fun t k => castTop (ef_rmRe m a1) k
  obtain ⟨T1, X1, e1, st1⟩ := initO X0 hx hZ hown (ww hw 61 rfl) (ww hw 26 rfl) (ww hw 27 rfl) e0 (g := (mkF m 1 #[vr a1] [(.ref a1)])) rfl (by rw [hml]; rfl) rfl (hb hby d13_1) (by decide) (W := 0) (by show 2 * 0 + _ ≤ _; exact Nat.le_of_eq rfl) (by decide)
  obtain ⟨fs, hr, hrun, hended, hW, hsame⟩ := X1.leave (v := none) (fun _ => rfl)
  refine ⟨_, _, pre0 _ ?_, hrun, hended, _, _, rfl, ?_, ⟨_, rfl⟩, hW, hsame.mono (by decide) (by decide)⟩
  · show SS p e below m s₁ 0 #[vr a1] [] _
    refine XS.aloadN X0.here hx rfl (hb hby d13_0) rfl rfl ?_
    show SS p e below m s₁ 1 #[vr a1] [(.ref a1)] _
    refine st1 _ ?_
    show SS p e below m T1 4 #[vr a1] [] _
    exact X1.returnOut hx Bd.returns (hb hby d13_4) hr
  · show Q_rmRe Z a1 h0 n0 _ T1.heap _
    rw [e1]
    exact ⟨rfl, N0, rfl⟩
theorem pd_3 : parseMethodDescriptor "()V" = some ⟨[], none⟩ := by decide +kernel
theorem d12_0 : decode prog_37_method_1_code 0 = .ok (.aload_n 0, 1) := by decide +kernel
theorem d12_1 : decode prog_37_method_1_code 1 = .ok (.invokespecial 1, 3) := by decide +kernel
theorem d12_4 : decode prog_37_method_1_code 4 = .ok (.aload_n 0, 1) := by decide +kernel
theorem d12_5 : decode prog_37_method_1_code 5 = .ok (.aload_n 1, 1) := by decide +kernel
theorem d12_6 : decode prog_37_method_1_code 6 = .ok (.putfield 7, 3) := by decide +kernel
theorem d12_9 : decode prog_37_method_1_code 9 = .ok (.aload_n 0, 1) := by decide +kernel
theorem d12_10 : decode prog_37_method_1_code 10 = .ok (.aload_n 2, 1) := by decide +kernel
theorem d12_11 : decode prog_37_method_1_code 11 = .ok (.putfield 13, 3) := by decide +kernel
theorem d12_14 : decode prog_37_method_1_code 14 = .ok (.aload_n 0, 1) := by decide +kernel
theorem d12_15 : decode prog_37_method_1_code 15 = .ok (.aload_n 3, 1) := by decide +kernel
theorem d12_16 : decode prog_37_method_1_code 16 = .ok (.putfield 16, 3) := by decide +kernel
theorem d12_19 : decode prog_37_method_1_code 19 = .ok (.return_, 1) := by decide +kernel
theorem pn_2 : plainName "com/example/brisk_tableau/brisktableau/owl/FuzzyLabel" = true := by first | (simp [plainName, overriddenIn]; done) | decide +kernel
theorem ef_rmFi (m : MethodId) (x0 : Addr) (x1 : Addr) (x2 : Addr) : entryFrame m #[(.ref x0), (.ref x1), (.ref x2), .null] 4 = mkF m 0 #[vr x0, vr x1, vr x2, vN] [] := by first | (simp [entryFrame, mkF, argsToLocals, Value.category]; done) | rfl
def Q_rmFi (Z : State) (a1 : Addr) (a2 : Addr) (a3 : Addr) (h0 : Heap) (n0 : Nat) (v : Option Value) (h : Heap) (L : List Loc) : Prop := (v = none) ∧ (Fr n0 L) ∧ (Keep h0 h [a1]) ∧ (Fld Z h a1 "com/example/brisk_tableau/brisktableau/owl/FuzzyLabel" "type" "Ljava/lang/String;" (.ref a2)) ∧ (Fld Z h a1 "com/example/brisk_tableau/brisktableau/owl/FuzzyLabel" "element" "Ljava/lang/String;" (.ref a3)) ∧ (Fld Z h a1 "com/example/brisk_tableau/brisktableau/owl/FuzzyLabel" "attributes" "Ljava/util/Map;" .null)
set_option maxRecDepth 65536 in
set_option maxHeartbeats 40000000 in
theorem rmFi (l : Launch) (Z : State) (a0 : Array Value) (hw : ∀ d ∈ tables_1, d.before a0 Z = true) (ws : List Jvm.Cond) (a1 : Addr) (a2 : Addr) (a3 : Addr) (h0 : Heap) (n0 : Nat) (Z0 : n0 ≤ h0.size) (O0 : Old Z n0 h0) (F_type_a1 : Fld Z h0 a1 "com/example/brisk_tableau/brisktableau/owl/FuzzyLabel" "type" "Ljava/lang/String;" .null) (F_element_a1 : Fld Z h0 a1 "com/example/brisk_tableau/brisktableau/owl/FuzzyLabel" "element" "Ljava/lang/String;" .null) (F_attributes_a1 : Fld Z h0 a1 "com/example/brisk_tableau/brisktableau/owl/FuzzyLabel" "attributes" "Ljava/util/Map;" .null) (E_a1 : Exa Z h0 a1 "com/example/brisk_tableau/brisktableau/owl/FuzzyLabel") (g_a1 : n0 ≤ a1) :
    MetFree l y_6 (head1 (Jvm.Cond.code y_6 prog_37_method_1_code 4 none :: ws) ({ frames := 2, cells := 0, slots := 0, locals := 24 } : Room)) (fun a U => a = #[(.ref a1), (.ref a2), (.ref a3), .null] ∧ Z.Warmed39 U.vm ∧ U.heap = h0) (fun _ _ _ _ _ => True) (fun _ U o U' => ∃ v L, o = .returned v ∧ Q_rmFi Z a1 a2 a3 h0 n0 v U'.heap L ∧ FrameEnd U o U' L ({ frames := 2, cells := 0, slots := 0, locals := 24 } : Room).cells ({ frames := 2, cells := 0, slots := 0, locals := 24 } : Room).slots) := by
  refine MetFree.of_bodySF (plainFor_of_name pn_2) hisR ?_
  intro p e s m args below meth c s₁ Bd hml0 hP hK
  obtain ⟨rfl, hZ, hh⟩ := hP
  have hx := Bd.exec
  have hby := Bd.bytes
  have hml : c.maxLocals = 4 := hml0
  have hown : s.vm.findClass "com/example/brisk_tableau/brisktableau/owl/FuzzyLabel" = some m.cls := findClass_of_methodNamed Bd.named
  have hnm := (name_of_methodNamed Bd.named Bd.method).1
  have X0 : Stand p l e ({ frames := 2, cells := 0, slots := 0, locals := 24 } : Room) s m #[(.ref a1), (.ref a2), (.ref a3), .null] below meth c s₁ [] 0 0 := Stand.of_body Bd
  have e0 : s₁.heap = h0 := by rw [← hh, Bd.state]; rfl
  have N0 := Fr.nil n0
  have KC : Keep h0 h0 [a1] := Keep.refl h0 _
  have pre0 : ∀ t, Steps p.tables e below (s₁.setTop (mkF m 0 #[vr a1, vr a2, vr a3, vN] [])) t → Steps p.tables e below (s₁.setTop (entryFrame m #[(.ref a1), (.ref a2), (.ref a3), .null] 4)) t := fun t k => castTop (ef_rmFi m a1 a2 a3) k
  obtain ⟨_, _, ⟨T1, L1, k1, n1⟩, -, X1, ⟨Lc1, hQ1, l1, y1, z1⟩, st1⟩ := X0.specialBack hx (y := y_5) rfl hown (mvT hZ (ww hw 56 rfl)) (mvT hZ (ww hw 57 rfl)) (mvT hZ (ww hw 60 rfl)) (by decide) (backOf (W := 0) (rmRe l Z a0 hw [] a1 h0 n0 (Nat.le_trans Z0 KC.1) O0 ) hZ (ww hw 60 rfl) (ww hw 59 rfl) (by decide) (by decide)) (g := (mkF m 1 #[vr a1, vr a2, vr a3, vN] [(.ref a1)])) rfl (by rw [hml]; rfl) (Steps.refl _) (a := a1) (argsL := []) (rest := []) (lenOf pd_3 rfl) rfl (by show 2 * 0 + _ ≤ _; exact Nat.le_of_eq rfl) (hb hby d12_1) (fun _ _ => ⟨rfl, e0, (by decide : 0 + 0 ≤ _), (by decide : 0 + 0 ≤ _)⟩)
  dsimp only [Pt.U, Pt.locs, Pt.cells, Pt.slots] at X1 l1 y1 z1 st1 hQ1
  subst l1 y1 z1
  obtain ⟨rfl, N1q, e1⟩ := hQ1
  have N1 := Fr.app N0 N1q
  obtain ⟨T2, h2, X2, e2, W2, st2⟩ := putF X1 hx hZ hown (host := "") (Or.inl (ww hw 62 rfl)) Via.refl e1 F_type_a1 E_a1 (Or.inr ⟨(ww hw 63 rfl), rfl, hnm⟩) (ww hw 1 rfl) (ty := (.object "java/lang/String")) (by decide) rfl rfl (g := (mkF m 6 #[vr a1, vr a2, vr a3, vN] [(.ref a2), (.ref a1)])) rfl rfl (hb hby d12_6)
  have N2 := Fr.snoc X2 N1 g_a1
  replace F_type_a1 := F_type_a1.same W2
  replace F_element_a1 := F_element_a1.other W2 (Or.inr (slot_ne (Or.inr (ww hw 65 rfl)) (Or.inr (ww hw 63 rfl)) (by decide) (t := (.object "java/lang/String")) (t' := (.object "java/lang/String")) (by decide) (by decide)))
  replace F_attributes_a1 := F_attributes_a1.other W2 (Or.inr (slot_ne (Or.inr (ww hw 67 rfl)) (Or.inr (ww hw 63 rfl)) (by decide) (t := (.object "java/util/Map")) (t' := (.object "java/lang/String")) (by decide) (by decide)))
  replace E_a1 := E_a1.wr W2
  replace O0 := O0.wr W2 g_a1
  replace KC := KC.wr W2 (Or.inl (List.mem_of_getElem? (i := 0) rfl))
  obtain ⟨T3, h3, X3, e3, W3, st3⟩ := putF X2 hx hZ hown (host := "") (Or.inl (ww hw 64 rfl)) Via.refl e2 F_element_a1 E_a1 (Or.inr ⟨(ww hw 65 rfl), rfl, hnm⟩) (ww hw 1 rfl) (ty := (.object "java/lang/String")) (by decide) rfl rfl (g := (mkF m 11 #[vr a1, vr a2, vr a3, vN] [(.ref a3), (.ref a1)])) rfl rfl (hb hby d12_11)
  have N3 := Fr.snoc X3 N2 g_a1
  replace F_element_a1 := F_element_a1.same W3
  replace F_type_a1 := F_type_a1.other W3 (Or.inr (slot_ne (Or.inr (ww hw 63 rfl)) (Or.inr (ww hw 65 rfl)) (by decide) (t := (.object "java/lang/String")) (t' := (.object "java/lang/String")) (by decide) (by decide)))
  replace F_attributes_a1 := F_attributes_a1.other W3 (Or.inr (slot_ne (Or.inr (ww hw 67 rfl)) (Or.inr (ww hw 65 rfl)) (by decide) (t := (.object "java/util/Map")) (t' := (.object "java/lang/String")) (by decide) (by decide)))
  replace E_a1 := E_a1.wr W3
  replace O0 := O0.wr W3 g_a1
  replace KC := KC.wr W3 (Or.inl (List.mem_of_getElem? (i := 0) rfl))
  obtain ⟨T4, h4, X4, e4, W4, st4⟩ := putF X3 hx hZ hown (host := "") (Or.inl (ww hw 66 rfl)) Via.refl e3 F_attributes_a1 E_a1 (Or.inr ⟨(ww hw 67 rfl), rfl, hnm⟩) (ww hw 1 rfl) (ty := (.object "java/util/Map")) (by decide) rfl rfl (g := (mkF m 16 #[vr a1, vr a2, vr a3, vN] [.null, (.ref a1)])) rfl rfl (hb hby d12_16)
  have N4 := Fr.snoc X4 N3 g_a1
  replace F_attributes_a1 := F_attributes_a1.same W4
  replace F_type_a1 := F_type_a1.other W4 (Or.inr (slot_ne (Or.inr (ww hw 63 rfl)) (Or.inr (ww hw 67 rfl)) (by decide) (t := (.object "java/lang/String")) (t' := (.object "java/util/Map")) (by decide) (by decide)))
  replace F_element_a1 := F_element_a1.other W4 (Or.inr (slot_ne (Or.inr (ww hw 65 rfl)) (Or.inr (ww hw 67 rfl)) (by decide) (t := (.object "java/lang/String")) (t' := (.object "java/util/Map")) (by decide) (by decide)))
  replace E_a1 := E_a1.wr W4
  replace O0 := O0.wr W4 g_a1
  replace KC := KC.wr W4 (Or.inl (List.mem_of_getElem? (i := 0) rfl))
  obtain ⟨fs, hr, hrun, hended, hW, hsame⟩ := X4.leave (v := none) (fun _ => rfl)
  refine ⟨_, _, pre0 _ ?_, hrun, hended, _, _, rfl, ?_, ⟨_, rfl⟩, hW, hsame.mono (by decide) (by decide)⟩
  · show SS p e below m s₁ 0 #[vr a1, vr a2, vr a3, vN] [] _
    refine XS.aloadN X0.here hx rfl (hb hby d12_0) rfl rfl ?_
    show SS p e below m s₁ 1 #[vr a1, vr a2, vr a3, vN] [(.ref a1)] _
    refine st1.trans ?_
    show SS p e below m T1 4 #[vr a1, vr a2, vr a3, vN] [] _
    refine XS.aloadN X1.here hx rfl (hb hby d12_4) rfl rfl ?_
    show SS p e below m T1 5 #[vr a1, vr a2, vr a3, vN] [(.ref a1)] _
    refine XS.aloadN X1.here hx rfl (hb hby d12_5) rfl rfl ?_
    show SS p e below m T1 6 #[vr a1, vr a2, vr a3, vN] [(.ref a2), (.ref a1)] _
    refine st2 _ ?_
    show SS p e below m T2 9 #[vr a1, vr a2, vr a3, vN] [] _
    refine XS.aloadN X2.here hx rfl (hb hby d12_9) rfl rfl ?_
    show SS p e below m T2 10 #[vr a1, vr a2, vr a3, vN] [(.ref a1)] _
    refine XS.aloadN X2.here hx rfl (hb hby d12_10) rfl rfl ?_
    show SS p e below m T2 11 #[vr a1, vr a2, vr a3, vN] [(.ref a3), (.ref a1)] _
    refine st3 _ ?_
    show SS p e below m T3 14 #[vr a1, vr a2, vr a3, vN] [] _
    refine XS.aloadN X3.here hx rfl (hb hby d12_14) rfl rfl ?_
    show SS p e below m T3 15 #[vr a1, vr a2, vr a3, vN] [(.ref a1)] _
    refine XS.aloadN X3.here hx rfl (hb hby d12_15) rfl rfl ?_
    show SS p e below m T3 16 #[vr a1, vr a2, vr a3, vN] [.null, (.ref a1)] _
    refine st4 _ ?_
    show SS p e below m T4 19 #[vr a1, vr a2, vr a3, vN] [] _
    exact X4.returnOut hx Bd.returns (hb hby d12_19) hr
  · show Q_rmFi Z a1 a2 a3 h0 n0 _ T4.heap _
    rw [e4]
    exact ⟨rfl, N4, KC, F_type_a1, F_element_a1, F_attributes_a1⟩
theorem d19_0 : decode jdk_43_method_3_code 0 = .ok (.iload_n 0, 1) := by decide +kernel
theorem d19_1 : decode jdk_43_method_3_code 1 = .ok (.sipush 255, 3) := by decide +kernel
theorem d19_4 : decode jdk_43_method_3_code 4 = .ok (.if_icmp .gt 7, 3) := by decide +kernel
theorem d19_7 : decode jdk_43_method_3_code 7 = .ok (.iconst 1, 1) := by decide +kernel
theorem d19_8 : decode jdk_43_method_3_code 8 = .ok (.goto 4, 3) := by decide +kernel
theorem d19_12 : decode jdk_43_method_3_code 12 = .ok (.ireturn, 1) := by decide +kernel
theorem pn_3 : plainName "java/lang/StringLatin1" = true := by first | (simp [plainName, overriddenIn]; done) | decide +kernel
theorem ef_rmCe (m : MethodId) (x0 : Int32) : entryFrame m #[(.int x0)] 1 = mkF m 0 #[vi x0] [] := by first | (simp [entryFrame, mkF, argsToLocals, Value.category]; done) | rfl
def Q_rmCe (Z : State) (p1 : Int32) (h0 : Heap) (n0 : Nat) (v : Option Value) (h : Heap) (L : List Loc) : Prop := (v = some (.int (1 : Int32))) ∧ (Fr n0 L) ∧ (h = h0)
set_option maxRecDepth 65536 in
set_option maxHeartbeats 40000000 in
theorem rmCe (l : Launch) (Z : State) (a0 : Array Value) (hw : ∀ d ∈ tables_1, d.before a0 Z = true) (ws : List Jvm.Cond) (p1 : Int32) (h0 : Heap) (n0 : Nat) (Z0 : n0 ≤ h0.size) (O0 : Old Z n0 h0) (hx1 : ¬ (255 : Int32) < p1) :
    MetFree l y_7 (head1 (Jvm.Cond.code y_7 jdk_43_method_3_code 1 (some .boolean) :: ws) ({ frames := 0, cells := 0, slots := 0, locals := 0 } : Room)) (fun a U => a = #[(.int p1)] ∧ Z.Warmed39 U.vm ∧ U.heap = h0) (fun _ _ _ _ _ => True) (fun _ U o U' => ∃ v L, o = .returned v ∧ Q_rmCe Z p1 h0 n0 v U'.heap L ∧ FrameEnd U o U' L ({ frames := 0, cells := 0, slots := 0, locals := 0 } : Room).cells ({ frames := 0, cells := 0, slots := 0, locals := 0 } : Room).slots) := by
  refine MetFree.of_bodySF (plainFor_of_name pn_3) hisR ?_
  intro p e s m args below meth c s₁ Bd hml0 hP hK
  obtain ⟨rfl, hZ, hh⟩ := hP
  have hx := Bd.exec
  have hby := Bd.bytes
  have hml : c.maxLocals = 1 := hml0
  have hown : s.vm.findClass "java/lang/StringLatin1" = some m.cls := findClass_of_methodNamed Bd.named
  have hnm := (name_of_methodNamed Bd.named Bd.method).1
  have X0 : Stand p l e ({ frames := 0, cells := 0, slots := 0, locals := 0 } : Room) s m #[(.int p1)] below meth c s₁ [] 0 0 := Stand.of_body Bd
  have e0 : s₁.heap = h0 := by rw [← hh, Bd.state]; rfl
  have N0 := Fr.nil n0
  have KC : Keep h0 h0 [] := Keep.refl h0 _
  have pre0 : ∀ t, Steps p.tables e below (s₁.setTop (mkF m 0 #[vi p1] [])) t → Steps p.tables e below (s₁.setTop (entryFrame m #[(.int p1)] 1)) t := fun t k => castTop (ef_rmCe m p1) k
  obtain ⟨fs, hr, hrun, hended, hW, hsame⟩ := X0.leave (v := some (.int (1 : Int32))) (fun h => by rw [Bd.returns] at h; cases h)
  refine ⟨_, _, pre0 _ ?_, hrun, hended, _, _, rfl, ?_, ⟨_, rfl⟩, hW, hsame.mono (by decide) (by decide)⟩
  · show SS p e below m s₁ 0 #[vi p1] [] _
    refine XS.iloadN X0.here hx rfl (hb hby d19_0) rfl ?_
    show SS p e below m s₁ 1 #[vi p1] [(.int p1)] _
    refine XS.sipush X0.here hx rfl (hb hby d19_1) ?_
    show SS p e below m s₁ 4 #[vi p1] [(.int (255 : Int32)), (.int p1)] _
    refine XS.icmpNo X0.here hx rfl (hb hby d19_4) rfl (flt hx1).2.2.1 ?_
    show SS p e below m s₁ 7 #[vi p1] [] _
    refine XS.iconst X0.here hx rfl (hb hby d19_7) ?_
    show SS p e below m s₁ 8 #[vi p1] [(.int (1 : Int32))] _
    refine XS.goto X0.here hx rfl (pc0 := 8) (pc' := 12) rfl (hb hby d19_8) (by decide) (by decide) ?_
    show SS p e below m s₁ 12 #[vi p1] [(.int (1 : Int32))] _
    exact retN X0 hx (t := .boolean) Bd.returns (by simp) (hb hby d19_12) hr
  · show Q_rmCe Z p1 h0 n0 _ s₁.heap _
    rw [e0]
    exact ⟨rfl, N0, rfl⟩
theorem d20_0 : decode jdk_43_method_46_code 0 = .ok (.iconst 1, 1) := by decide +kernel
theorem d20_1 : decode jdk_43_method_46_code 1 = .ok (.newarray .byte, 2) := by decide +kernel
theorem d20_3 : decode jdk_43_method_46_code 3 = .ok (.dup, 1) := by decide +kernel
theorem d20_4 : decode jdk_43_method_46_code 4 = .ok (.iconst 0, 1) := by decide +kernel
theorem d20_5 : decode jdk_43_method_46_code 5 = .ok (.iload_n 0, 1) := by decide +kernel
theorem d20_6 : decode jdk_43_method_46_code 6 = .ok (.i2b, 1) := by decide +kernel
theorem d20_7 : decode jdk_43_method_46_code 7 = .ok (.bastore, 1) := by decide +kernel
theorem d20_8 : decode jdk_43_method_46_code 8 = .ok (.areturn, 1) := by decide +kernel
theorem ef_rmTb (m : MethodId) (x0 : Int32) : entryFrame m #[(.int x0)] 1 = mkF m 0 #[vi x0] [] := by first | (simp [entryFrame, mkF, argsToLocals, Value.category]; done) | rfl
def Q_rmTb (Z : State) (p1 : Int32) (h0 : Heap) (n0 : Nat) (v : Option Value) (h : Heap) (L : List Loc) : Prop := ∃ t : Addr, ∃ k : ClassId, (v = some (.ref t)) ∧ (Fr n0 L) ∧ (Keep h0 h []) ∧ (h0.size ≤ t) ∧ (Arv Z h t k .byte (1 : Int32) [(.int (own_b p1))] (.int (0 : Int32)))
set_option maxRecDepth 65536 in
set_option maxHeartbeats 40000000 in
theorem rmTb (l : Launch) (Z : State) (a0 : Array Value) (hw : ∀ d ∈ tables_1, d.before a0 Z = true) (ws : List Jvm.Cond) (p1 : Int32) (h0 : Heap) (n0 : Nat) (Z0 : n0 ≤ h0.size) (O0 : Old Z n0 h0) :
    MetFree l y_8 (head1 (Jvm.Cond.code y_8 jdk_43_method_46_code 1 (some (.array .byte)) :: ws) ({ frames := 0, cells := 1, slots := 1, locals := 0 } : Room)) (fun a U => a = #[(.int p1)] ∧ Z.Warmed39 U.vm ∧ U.heap = h0) (fun _ _ _ _ _ => True) (fun _ U o U' => ∃ v L, o = .returned v ∧ Q_rmTb Z p1 h0 n0 v U'.heap L ∧ FrameEnd U o U' L ({ frames := 0, cells := 1, slots := 1, locals := 0 } : Room).cells ({ frames := 0, cells := 1, slots := 1, locals := 0 } : Room).slots) := by
  refine MetFree.of_bodySF (plainFor_of_name pn_3) hisR ?_
  intro p e s m args below meth c s₁ Bd hml0 hP hK
  obtain ⟨rfl, hZ, hh⟩ := hP
  have hx := Bd.exec
  have hby := Bd.bytes
  have hml : c.maxLocals = 1 := hml0
  have hown : s.vm.findClass "java/lang/StringLatin1" = some m.cls := findClass_of_methodNamed Bd.named
  have hnm := (name_of_methodNamed Bd.named Bd.method).1
  have X0 : Stand p l e ({ frames := 0, cells := 1, slots := 1, locals := 0 } : Room) s m #[(.int p1)] below meth c s₁ [] 0 0 := Stand.of_body Bd
  have e0 : s₁.heap = h0 := by rw [← hh, Bd.state]; rfl
  have N0 := Fr.nil n0
  have KC : Keep h0 h0 [] := Keep.refl h0 _
  have pre0 : ∀ t, Steps p.tables e below (s₁.setTop (mkF m 0 #[vi p1] [])) t → Steps p.tables e below (s₁.setTop (entryFrame m #[(.int p1)] 1)) t := fun t k => castTop (ef_rmTb m p1) k
  obtain ⟨T1, h1, k1, X1, e1, E1, A1, st1⟩ := newP X0 hx hZ (ww hw 29 rfl) e0 (g := (mkF m 1 #[vi p1] [(.int (1 : Int32))])) rfl (hb hby d20_1) rfl (by decide) (cap := 1) (by decide) (by decide) (by decide) (by decide)
  obtain ⟨b1, g1⟩ : ∃ z, z = h0.size := ⟨_, rfl⟩
  rw [← g1] at A1 st1
  have g_b1 : n0 ≤ b1 := Nat.le_trans (Nat.le_trans Z0 KC.1) (Nat.le_of_eq g1.symm)
  have sz_b1 : h0.size ≤ b1 := Nat.le_trans KC.1 (Nat.le_of_eq g1.symm)
  replace O0 := O0.ext E1
  replace KC := KC.ext E1
  have V_b1 : Arv Z h1 b1 k1 .byte (1 : Int32) [(.int (0 : Int32))] (.int (0 : Int32)) := (Arv.new A1 (by decide)).pad (pad_rep [] (.int (0 : Int32)) 1)
  have Vo2 := V_b1
  obtain ⟨cl2, Ar2, q2, Sz2, Nn2, Hh2, Gg2⟩ := Vo2
  have hin2 : ¬ ((0 : Int32) < 0 ∨ cl2.slots.size ≤ ((0 : Int32)).toNatClampNeg) := inb_of Sz2 ⟨by decide, by decide⟩
  obtain ⟨T3, h3, X3, e3, W3, st3⟩ := stB X1 hx hZ e1 Ar2 (j := (0 : Int32)) hin2 (g := (mkF m 7 #[vi p1] [(.int (p1.toInt8.toInt32)), (.int (0 : Int32)), (.ref b1), (.ref b1)])) rfl rfl (hb hby d20_7)
  have Vn3 := Arv.set Ar2 q2 Sz2 Nn2 Hh2 Gg2 (fits_nar_byte _) W3 (0) rfl (Nat.le_of_ble_eq_true rfl)
  have N3 := Fr.snoc X3 N0 g_b1
  have Vm3 : Arv Z h3 b1 k1 .byte (1 : Int32) [(.int (own_b p1))] (.int (0 : Int32)) := by have hh := Vn3; rw [own_bb] at hh; exact hh
  replace O0 := O0.wr W3 g_b1
  replace KC := KC.wr W3 (Or.inr sz_b1)
  obtain ⟨fs, hr, hrun, hended, hW, hsame⟩ := X3.leave (v := some (.ref b1)) (fun h => by rw [Bd.returns] at h; cases h)
  refine ⟨_, _, pre0 _ ?_, hrun, hended, _, _, rfl, ?_, ⟨_, rfl⟩, hW, hsame.mono (by decide) (by decide)⟩
  · show SS p e below m s₁ 0 #[vi p1] [] _
    refine XS.iconst X0.here hx rfl (hb hby d20_0) ?_
    show SS p e below m s₁ 1 #[vi p1] [(.int (1 : Int32))] _
    refine st1 _ ?_
    show SS p e below m T1 3 #[vi p1] [(.ref b1)] _
    refine XS.dup X1.here hx rfl (hb hby d20_3) rfl rfl ?_
    show SS p e below m T1 4 #[vi p1] [(.ref b1), (.ref b1)] _
    refine XS.iconst X1.here hx rfl (hb hby d20_4) ?_
    show SS p e below m T1 5 #[vi p1] [(.int (0 : Int32)), (.ref b1), (.ref b1)] _
    refine XS.iloadN X1.here hx rfl (hb hby d20_5) rfl ?_
    show SS p e below m T1 6 #[vi p1] [(.int p1), (.int (0 : Int32)), (.ref b1), (.ref b1)] _
    refine XS.i2b X1.here hx rfl (hb hby d20_6) rfl ?_
    show SS p e below m T1 7 #[vi p1] [(.int (p1.toInt8.toInt32)), (.int (0 : Int32)), (.ref b1), (.ref b1)] _
    refine st3 _ ?_
    show SS p e below m T3 8 #[vi p1] [(.ref b1)] _
    jvm_step X3.here [X3.here.top, hx, (hb hby d20_8), X3.method', Bd.returns, Value.isRef, FieldType.isReference]
    first | (intro acts; rw [hr _ acts rfl rfl rfl]) | rw [hr _ _ rfl rfl rfl]
    exact Steps.refl _
  · show Q_rmTb Z p1 h0 n0 _ T3.heap _
    rw [e3]
    exact ⟨b1, k1, rfl, N3, KC, sz_b1, Vm3⟩
theorem d21_0 : decode jdk_42_method_151_code 0 = .ok (.aload_n 0, 1) := by decide +kernel
theorem d21_1 : decode jdk_42_method_151_code 1 = .ok (.invokespecial 1, 3) := by decide +kernel
theorem d21_4 : decode jdk_42_method_151_code 4 = .ok (.aload_n 0, 1) := by decide +kernel
theorem d21_5 : decode jdk_42_method_151_code 5 = .ok (.aload_n 1, 1) := by decide +kernel
theorem d21_6 : decode jdk_42_method_151_code 6 = .ok (.putfield 9, 3) := by decide +kernel
theorem d21_9 : decode jdk_42_method_151_code 9 = .ok (.aload_n 0, 1) := by decide +kernel
theorem d21_10 : decode jdk_42_method_151_code 10 = .ok (.iload_n 2, 1) := by decide +kernel
theorem d21_11 : decode jdk_42_method_151_code 11 = .ok (.putfield 15, 3) := by decide +kernel
theorem d21_14 : decode jdk_42_method_151_code 14 = .ok (.return_, 1) := by decide +kernel
theorem pn_4 : plainName "java/lang/String" = true := by first | (simp [plainName, overriddenIn]; done) | decide +kernel
theorem ef_rmIb (m : MethodId) (x0 : Addr) (x1 : Addr) (x2 : Int32) : entryFrame m #[(.ref x0), (.ref x1), (.int x2)] 3 = mkF m 0 #[vr x0, vr x1, vi x2] [] := by first | (simp [entryFrame, mkF, argsToLocals, Value.category]; done) | rfl
def Q_rmIb (Z : State) (a1 : Addr) (a2 : Addr) (h0 : Heap) (n0 : Nat) (v : Option Value) (h : Heap) (L : List Loc) : Prop := (v = none) ∧ (Fr n0 L) ∧ (Keep h0 h [a1]) ∧ (Fld Z h a1 "java/lang/String" "value" "[B" (.ref a2)) ∧ (Fld Z h a1 "java/lang/String" "coder" "B" (.int (0 : Int32)))
set_option maxRecDepth 65536 in
set_option maxHeartbeats 40000000 in
theorem rmIb (l : Launch) (Z : State) (a0 : Array Value) (hw : ∀ d ∈ tables_1, d.before a0 Z = true) (ws : List Jvm.Cond) (a1 : Addr) (a2 : Addr) (h0 : Heap) (n0 : Nat) (Z0 : n0 ≤ h0.size) (O0 : Old Z n0 h0) (F_value_a1 : Fld Z h0 a1 "java/lang/String" "value" "[B" .null) (F_coder_a1 : Fld Z h0 a1 "java/lang/String" "coder" "B" (.int (0 : Int32))) (E_a1 : Exa Z h0 a1 "java/lang/String") (g_a1 : n0 ≤ a1) :
    MetFree l y_9 (head1 (Jvm.Cond.code y_9 jdk_42_method_151_code 3 none :: ws) ({ frames := 1, cells := 0, slots := 0, locals := 12 } : Room)) (fun a U => a = #[(.ref a1), (.ref a2), (.int (0 : Int32))] ∧ Z.Warmed39 U.vm ∧ U.heap = h0) (fun _ _ _ _ _ => True) (fun _ U o U' => ∃ v L, o = .returned v ∧ Q_rmIb Z a1 a2 h0 n0 v U'.heap L ∧ FrameEnd U o U' L ({ frames := 1, cells := 0, slots := 0, locals := 12 } : Room).cells ({ frames := 1, cells := 0, slots := 0, locals := 12 } : Room).slots) := by
  refine MetFree.of_bodySF (plainFor_of_name pn_4) hisR ?_
  intro p e s m args below meth c s₁ Bd hml0 hP hK
  obtain ⟨rfl, hZ, hh⟩ := hP
  have hx := Bd.exec
  have hby := Bd.bytes
  have hml : c.maxLocals = 3 := hml0
  have hown : s.vm.findClass "java/lang/String" = some m.cls := findClass_of_methodNamed Bd.named
  have hnm := (name_of_methodNamed Bd.named Bd.method).1
  have X0 : Stand p l e ({ frames := 1, cells := 0, slots := 0, locals := 12 } : Room) s m #[(.ref a1), (.ref a2), (.int (0 : Int32))] below meth c s₁ [] 0 0 := Stand.of_body Bd
  have e0 : s₁.heap = h0 := by rw [← hh, Bd.state]; rfl
  have N0 := Fr.nil n0
  have KC : Keep h0 h0 [a1] := Keep.refl h0 _
  have pre0 : ∀ t, Steps p.tables e below (s₁.setTop (mkF m 0 #[vr a1, vr a2, vi (0 : Int32)] [])) t → Steps p.tables e below (s₁.setTop (entryFrame m #[(.ref a1), (.ref a2), (.int (0 : Int32))] 3)) t := fun t k => castTop (ef_rmIb m a1 a2 (0 : Int32)) k
  obtain ⟨T1, X1, e1, st1⟩ := initO X0 hx hZ hown (ww hw 25 rfl) (ww hw 26 rfl) (ww hw 27 rfl) e0 (g := (mkF m 1 #[vr a1, vr a2, vi (0 : Int32)] [(.ref a1)])) rfl (by rw [hml]; rfl) rfl (hb hby d21_1) (by decide) (W := 0) (by show 2 * 0 + _ ≤ _; exact Nat.le_of_eq rfl) (by decide)
  obtain ⟨T2, h2, X2, e2, W2, st2⟩ := putF X1 hx hZ hown (host := "") (Or.inl (ww hw 34 rfl)) Via.refl e1 F_value_a1 E_a1 (Or.inr ⟨(ww hw 30 rfl), rfl, hnm⟩) (ww hw 15 rfl) (ty := (.array .byte)) (by decide) rfl rfl (g := (mkF m 6 #[vr a1, vr a2, vi (0 : Int32)] [(.ref a2), (.ref a1)])) rfl rfl (hb hby d21_6)
  have N2 := Fr.snoc X2 N0 g_a1
  replace F_value_a1 := F_value_a1.same W2
  replace F_coder_a1 := F_coder_a1.other W2 (Or.inr (slot_ne (Or.inr (ww hw 31 rfl)) (Or.inr (ww hw 30 rfl)) (by decide) (t := .byte) (t' := (.array .byte)) (by decide) (by decide)))
  replace E_a1 := E_a1.wr W2
  replace O0 := O0.wr W2 g_a1
  replace KC := KC.wr W2 (Or.inl (List.mem_of_getElem? (i := 0) rfl))
  obtain ⟨T3, h3, X3, e3, W3, st3⟩ := putFN X2 hx hZ hown (ww hw 35 rfl) Via.refl e2 F_coder_a1 E_a1 (Or.inr ⟨(ww hw 31 rfl), rfl, hnm⟩) (ww hw 15 rfl) (ty := .byte) (v' := .int (0 : Int32)) (by decide) rfl rfl (g := (mkF m 11 #[vr a1, vr a2, vi (0 : Int32)] [(.int (0 : Int32)), (.ref a1)])) rfl rfl (hb hby d21_11)
  have N3 := Fr.snoc X3 N2 g_a1
  replace F_coder_a1 := F_coder_a1.same W3
  replace F_value_a1 := F_value_a1.other W3 (Or.inr (slot_ne (Or.inr (ww hw 30 rfl)) (Or.inr (ww hw 31 rfl)) (by decide) (t := (.array .byte)) (t' := .byte) (by decide) (by decide)))
  replace E_a1 := E_a1.wr W3
  replace O0 := O0.wr W3 g_a1
  replace KC := KC.wr W3 (Or.inl (List.mem_of_getElem? (i := 0) rfl))
  obtain ⟨fs, hr, hrun, hended, hW, hsame⟩ := X3.leave (v := none) (fun _ => rfl)
  refine ⟨_, _, pre0 _ ?_, hrun, hended, _, _, rfl, ?_, ⟨_, rfl⟩, hW, hsame.mono (by decide) (by decide)⟩
  · show SS p e below m s₁ 0 #[vr a1, vr a2, vi (0 : Int32)] [] _
    refine XS.aloadN X0.here hx rfl (hb hby d21_0) rfl rfl ?_
    show SS p e below m s₁ 1 #[vr a1, vr a2, vi (0 : Int32)] [(.ref a1)] _
    refine st1 _ ?_
    show SS p e below m T1 4 #[vr a1, vr a2, vi (0 : Int32)] [] _
    refine XS.aloadN X1.here hx rfl (hb hby d21_4) rfl rfl ?_
    show SS p e below m T1 5 #[vr a1, vr a2, vi (0 : Int32)] [(.ref a1)] _
    refine XS.aloadN X1.here hx rfl (hb hby d21_5) rfl rfl ?_
    show SS p e below m T1 6 #[vr a1, vr a2, vi (0 : Int32)] [(.ref a2), (.ref a1)] _
    refine st2 _ ?_
    show SS p e below m T2 9 #[vr a1, vr a2, vi (0 : Int32)] [] _
    refine XS.aloadN X2.here hx rfl (hb hby d21_9) rfl rfl ?_
    show SS p e below m T2 10 #[vr a1, vr a2, vi (0 : Int32)] [(.ref a1)] _
    refine XS.iloadN X2.here hx rfl (hb hby d21_10) rfl ?_
    show SS p e below m T2 11 #[vr a1, vr a2, vi (0 : Int32)] [(.int (0 : Int32)), (.ref a1)] _
    refine st3 _ ?_
    show SS p e below m T3 14 #[vr a1, vr a2, vi (0 : Int32)] [] _
    exact X3.returnOut hx Bd.returns (hb hby d21_14) hr
  · show Q_rmIb Z a1 a2 h0 n0 _ T3.heap _
    rw [e3]
    exact ⟨rfl, N3, KC, F_value_a1, F_coder_a1⟩
theorem pd_4 : parseMethodDescriptor "(C)Z" = some ⟨[.char], some .boolean⟩ := by decide +kernel
theorem pd_5 : parseMethodDescriptor "(C)[B" = some ⟨[.char], some (.array .byte)⟩ := by decide +kernel
theorem pd_6 : parseMethodDescriptor "([BB)V" = some ⟨[(.array .byte), .byte], none⟩ := by decide +kernel
theorem d18_0 : decode jdk_42_method_139_code 0 = .ok (.getstatic 38, 3) := by decide +kernel
theorem d18_3 : decode jdk_42_method_139_code 3 = .ok (.ifCond .eq 23, 3) := by decide +kernel
theorem d18_6 : decode jdk_42_method_139_code 6 = .ok (.iload_n 0, 1) := by decide +kernel
theorem d18_7 : decode jdk_42_method_139_code 7 = .ok (.invokestatic 1015, 3) := by decide +kernel
theorem d18_10 : decode jdk_42_method_139_code 10 = .ok (.ifCond .eq 16, 3) := by decide +kernel
theorem d18_13 : decode jdk_42_method_139_code 13 = .ok (.new 10, 3) := by decide +kernel
theorem d18_16 : decode jdk_42_method_139_code 16 = .ok (.dup, 1) := by decide +kernel
theorem d18_17 : decode jdk_42_method_139_code 17 = .ok (.iload_n 0, 1) := by decide +kernel
theorem d18_18 : decode jdk_42_method_139_code 18 = .ok (.invokestatic 1018, 3) := by decide +kernel
theorem d18_21 : decode jdk_42_method_139_code 21 = .ok (.iconst 0, 1) := by decide +kernel
theorem d18_22 : decode jdk_42_method_139_code 22 = .ok (.invokespecial 209, 3) := by decide +kernel
theorem d18_25 : decode jdk_42_method_139_code 25 = .ok (.areturn, 1) := by decide +kernel
theorem ef_rmVc (m : MethodId) (x0 : Int32) : entryFrame m #[(.int x0)] 1 = mkF m 0 #[vi x0] [] := by first | (simp [entryFrame, mkF, argsToLocals, Value.category]; done) | rfl
def Q_rmVc (Z : State) (p1 : Int32) (zc : Int32) (h0 : Heap) (n0 : Nat) (v : Option Value) (h : Heap) (L : List Loc) : Prop := ∃ b : Addr, ∃ t : Addr, ∃ k : ClassId, (v = some (.ref b)) ∧ (Fr n0 L) ∧ (Keep h0 h []) ∧ (h0.size ≤ b) ∧ (h0.size ≤ t) ∧ (Exa Z h b "java/lang/String") ∧ (Fld Z h b "java/lang/String" "value" "[B" (.ref t)) ∧ (Fld Z h b "java/lang/String" "coder" "B" (.int (0 : Int32))) ∧ (Arv Z h t k .byte (1 : Int32) [(.int (own_b p1))] (.int (0 : Int32)))
set_option maxRecDepth 65536 in
set_option maxHeartbeats 40000000 in
theorem rmVc (l : Launch) (Z : State) (a0 : Array Value) (hw : ∀ d ∈ tables_1, d.before a0 Z = true) (ws : List Jvm.Cond) (p1 : Int32) (zc : Int32) (h0 : Heap) (n0 : Nat) (Z0 : n0 ≤ h0.size) (O0 : Old Z n0 h0) (S_CS : Sta Z Z.heap "java/lang/String" "COMPACT_STRINGS" "Z" (.int zc)) (hz : ¬ zc = (0 : Int32)) (hx1 : ¬ (255 : Int32) < p1) :
    MetFree l y_10 (head1 (Jvm.Cond.code y_10 jdk_42_method_139_code 1 (some (.object "java/lang/String")) :: ws) ({ frames := 2, cells := 2, slots := 5, locals := 27 } : Room)) (fun a U => a = #[(.int p1)] ∧ Z.Warmed39 U.vm ∧ U.heap = h0) (fun _ _ _ _ _ => True) (fun _ U o U' => ∃ v L, o = .returned v ∧ Q_rmVc Z p1 zc h0 n0 v U'.heap L ∧ FrameEnd U o U' L ({ frames := 2, cells := 2, slots := 5, locals := 27 } : Room).cells ({ frames := 2, cells := 2, slots := 5, locals := 27 } : Room).slots) := by
  refine MetFree.of_bodySF (plainFor_of_name pn_4) hisR ?_
  intro p e s m args below meth c s₁ Bd hml0 hP hK
  obtain ⟨rfl, hZ, hh⟩ := hP
  have hx := Bd.exec
  have hby := Bd.bytes
  have hml : c.maxLocals = 1 := hml0
  have hown : s.vm.findClass "java/lang/String" = some m.cls := findClass_of_methodNamed Bd.named
  have hnm := (name_of_methodNamed Bd.named Bd.method).1
  have X0 : Stand p l e ({ frames := 2, cells := 2, slots := 5, locals := 27 } : Room) s m #[(.int p1)] below meth c s₁ [] 0 0 := Stand.of_body Bd
  have e0 : s₁.heap = h0 := by rw [← hh, Bd.state]; rfl
  have N0 := Fr.nil n0
  have KC : Keep h0 h0 [] := Keep.refl h0 _
  have pre0 : ∀ t, Steps p.tables e below (s₁.setTop (mkF m 0 #[vi p1] [])) t → Steps p.tables e below (s₁.setTop (entryFrame m #[(.int p1)] 1)) t := fun t k => castTop (ef_rmVc m p1) k
  obtain ⟨T1, X1, e1, st1⟩ := getS2 X0 hx hZ hown (host := "") (Or.inl (ww hw 42 rfl)) Via.refl e0 (S_CS.ext O0.2) (g := (mkF m 0 #[vi p1] [])) rfl (hb hby d18_0)
  obtain ⟨_, _, ⟨T2, L2, k2, n2⟩, -, X2, ⟨Lc2, hQ2, l2, y2, z2⟩, st2⟩ := Jvm.LawKit.callS X1 hx (y := y_7) hown (mvT hZ (ww hw 89 rfl)) (mvT hZ (ww hw 90 rfl)) (mvT hZ (ww hw 84 rfl)) (mvT hZ (ww hw 91 rfl)) (by decide) (backOf (W := 0) (rmCe l Z a0 hw [] p1 h0 n0 (Nat.le_trans Z0 KC.1) O0 (by first | assumption | decide | omega)) hZ (ww hw 91 rfl) (ww hw 84 rfl) (by decide) (by decide)) (g := (mkF m 7 #[vi p1] [(.int p1)])) rfl (by rw [hml]; rfl) (argsL := [(.int p1)]) (rest := []) (lenOf pd_4 rfl) rfl (by show 2 * 0 + _ ≤ _; exact Nat.le_of_eq rfl) (hb hby d18_7) (fun _ _ => ⟨rfl, e1, (by decide : 0 + 0 ≤ _), (by decide : 0 + 0 ≤ _)⟩)
  dsimp only [Pt.U, Pt.locs, Pt.cells, Pt.slots] at X2 l2 y2 z2 st2 hQ2
  subst l2 y2 z2
  obtain ⟨rfl, N2q, e2⟩ := hQ2
  have N2 := Fr.app N0 N2q
  obtain ⟨T3, h3, X3, e3, E3, A3, D3, -, st3⟩ := newO X2 hx hZ hown (ww hw 81 rfl) (ww hw 15 rfl) (ww hw 16 rfl) e2 (g := (mkF m 13 #[vi p1] [])) rfl (hb hby d18_13) (by decide) (by decide)
  obtain ⟨b3, g3⟩ : ∃ z, z = h0.size := ⟨_, rfl⟩
  rw [← g3] at A3 D3 st3
  have g_b3 : n0 ≤ b3 := Nat.le_trans (Nat.le_trans Z0 KC.1) (Nat.le_of_eq g3.symm)
  have sz_b3 : h0.size ≤ b3 := Nat.le_trans KC.1 (Nat.le_of_eq g3.symm)
  replace O0 := O0.ext E3
  replace KC := KC.ext E3
  have F_value_b3 : Fld Z h3 b3 "java/lang/String" "value" "[B" .null := D3 (Or.inr (ww hw 30 rfl)) (ty := (.array .byte)) (by decide)
  have F_coder_b3 : Fld Z h3 b3 "java/lang/String" "coder" "B" (.int (0 : Int32)) := D3 (Or.inr (ww hw 31 rfl)) (ty := .byte) (by decide)
  obtain ⟨_, _, ⟨T4, L4, k4, n4⟩, -, X4, ⟨Lc4, hQ4, l4, y4, z4⟩, st4⟩ := Jvm.LawKit.callS X3 hx (y := y_8) hown (mvT hZ (ww hw 92 rfl)) (mvT hZ (ww hw 93 rfl)) (mvT hZ (ww hw 84 rfl)) (mvT hZ (ww hw 94 rfl)) (by decide) (backOf (W := 2) (rmTb l Z a0 hw [] p1 h3 n0 (Nat.le_trans Z0 KC.1) O0 ) hZ (ww hw 94 rfl) (ww hw 84 rfl) (by decide) (by decide)) (g := (mkF m 18 #[vi p1] [(.int p1), (.ref b3), (.ref b3)])) rfl (by rw [hml]; rfl) (argsL := [(.int p1)]) (rest := [(.ref b3), (.ref b3)]) (lenOf pd_5 rfl) rfl (by show 2 * 0 + _ ≤ _; exact Nat.le_of_eq rfl) (hb hby d18_18) (fun _ _ => ⟨rfl, e3, (by decide : 1 + 1 ≤ _), (by decide : 4 + 1 ≤ _)⟩)
  dsimp only [Pt.U, Pt.locs, Pt.cells, Pt.slots] at X4 l4 y4 z4 st4 hQ4
  subst l4 y4 z4
  obtain ⟨b4_t, k_4, rfl, N4q, K4, sz_b4_t, V_t_4⟩ := hQ4
  have N4 := Fr.app N2 N4q
  have ne_b3_b4_t : b3 ≠ b4_t := Nat.ne_of_lt (Nat.lt_of_lt_of_le A3.lt sz_b4_t)
  have g_b4_t : n0 ≤ b4_t := Nat.le_trans (Nat.le_trans Z0 KC.1) sz_b4_t
  replace sz_b4_t : h0.size ≤ b4_t := Nat.le_trans KC.1 sz_b4_t
  replace A3 := A3.keep K4
  replace F_value_b3 := F_value_b3.keep K4 nin0
  replace F_coder_b3 := F_coder_b3.keep K4 nin0
  replace O0 := O0.keep K4 all0
  replace KC := KC.trans K4 all0
  obtain ⟨_, _, ⟨T5, L5, k5, n5⟩, -, X5, ⟨Lc5, hQ5, l5, y5, z5⟩, st5⟩ := X4.specialBack hx (y := y_9) rfl hown (mvT hZ (ww hw 95 rfl)) (mvT hZ (ww hw 96 rfl)) (mvT hZ (ww hw 97 rfl)) (by decide) (backOf (W := 1) (rmIb l Z a0 hw [] b3 b4_t T4.heap n0 (Nat.le_trans Z0 KC.1) O0 F_value_b3 F_coder_b3 A3 g_b3) hZ (ww hw 97 rfl) (ww hw 16 rfl) (by decide) (by decide)) (g := (mkF m 22 #[vi p1] [(.int (0 : Int32)), (.ref b4_t), (.ref b3), (.ref b3)])) rfl (by rw [hml]; rfl) (Steps.refl _) (a := b3) (argsL := [(.ref b4_t), (.int (0 : Int32))]) (rest := [(.ref b3)]) (lenOf pd_6 rfl) rfl (by show 2 * 0 + _ ≤ _; exact Nat.le_of_eq rfl) (hb hby d18_22) (fun _ _ => ⟨rfl, rfl, (by decide : 2 + 0 ≤ _), (by decide : 5 + 0 ≤ _)⟩)
  dsimp only [Pt.U, Pt.locs, Pt.cells, Pt.slots] at X5 l5 y5 z5 st5 hQ5
  subst l5 y5 z5
  obtain ⟨rfl, N5q, K5, F_value_a1_5, F_coder_a1_5⟩ := hQ5
  have N5 := Fr.app N4 N5q
  replace A3 := A3.keep K5
  replace V_t_4 := V_t_4.keep K5 (ninS (Ne.symm ne_b3_b4_t) nin0)
  replace O0 := O0.keep K5 (allS g_b3 all0)
  replace KC := KC.trans K5 (allS (Or.inr sz_b3) all0)
  obtain ⟨fs, hr, hrun, hended, hW, hsame⟩ := X5.leave (v := some (.ref b3)) (fun h => by rw [Bd.returns] at h; cases h)
  refine ⟨_, _, pre0 _ ?_, hrun, hended, _, _, rfl, ?_, ⟨_, rfl⟩, hW, hsame.mono (by decide) (by decide)⟩
  · show SS p e below m s₁ 0 #[vi p1] [] _
    refine st1 _ ?_
    show SS p e below m T1 3 #[vi p1] [(.int zc)] _
    refine XS.ifNo X1.here hx rfl (hb hby d18_3) rfl ((if0 _ _).trans (feq hz).1) ?_
    show SS p e below m T1 6 #[vi p1] [] _
    refine XS.iloadN X1.here hx rfl (hb hby d18_6) rfl ?_
    show SS p e below m T1 7 #[vi p1] [(.int p1)] _
    refine st2 _ ?_
    show SS p e below m T2 10 #[vi p1] [(.int (1 : Int32))] _
    refine XS.ifNo X2.here hx rfl (hb hby d18_10) rfl ((if0 _ _).trans (feq (by decide)).1) ?_
    show SS p e below m T2 13 #[vi p1] [] _
    refine st3 _ ?_
    show SS p e below m T3 16 #[vi p1] [(.ref b3)] _
    refine XS.dup X3.here hx rfl (hb hby d18_16) rfl rfl ?_
    show SS p e below m T3 17 #[vi p1] [(.ref b3), (.ref b3)] _
    refine XS.iloadN X3.here hx rfl (hb hby d18_17) rfl ?_
    show SS p e below m T3 18 #[vi p1] [(.int p1), (.ref b3), (.ref b3)] _
    refine st4 _ ?_
    show SS p e below m T4 21 #[vi p1] [(.ref b4_t), (.ref b3), (.ref b3)] _
    refine XS.iconst X4.here hx rfl (hb hby d18_21) ?_
    show SS p e below m T4 22 #[vi p1] [(.int (0 : Int32)), (.ref b4_t), (.ref b3), (.ref b3)] _
    refine st5.trans ?_
    show SS p e below m T5 25 #[vi p1] [(.ref b3)] _
    jvm_step X5.here [X5.here.top, hx, (hb hby d18_25), X5.method', Bd.returns, Value.isRef, FieldType.isReference]
    first | (intro acts; rw [hr _ acts rfl rfl rfl]) | rw [hr _ _ rfl rfl rfl]
    exact Steps.refl _
  · show Q_rmVc Z p1 zc h0 n0 _ T5.heap _
    exact ⟨b3, b4_t, k_4, rfl, N5, KC, sz_b3, sz_b4_t, A3, F_value_a1_5, F_coder_a1_5, V_t_4⟩
theorem d10_0 : decode jdk_52_method_21_code 0 = .ok (.iconst 0, 1) := by decide +kernel
theorem d10_1 : decode jdk_52_method_21_code 1 = .ok (.istore 5, 2) := by decide +kernel
theorem d10_3 : decode jdk_52_method_21_code 3 = .ok (.iload 5, 2) := by decide +kernel
theorem d10_5 : decode jdk_52_method_21_code 5 = .ok (.iload 4, 2) := by decide +kernel
theorem d10_7 : decode jdk_52_method_21_code 7 = .ok (.if_icmp .ge 37, 3) := by decide +kernel
theorem d10_10 : decode jdk_52_method_21_code 10 = .ok (.aload_n 0, 1) := by decide +kernel
theorem d10_11 : decode jdk_52_method_21_code 11 = .ok (.iload_n 1, 1) := by decide +kernel
theorem d10_12 : decode jdk_52_method_21_code 12 = .ok (.caload, 1) := by decide +kernel
theorem d10_13 : decode jdk_52_method_21_code 13 = .ok (.istore 6, 2) := by decide +kernel
theorem d10_15 : decode jdk_52_method_21_code 15 = .ok (.iload 6, 2) := by decide +kernel
theorem d10_17 : decode jdk_52_method_21_code 17 = .ok (.sipush 255, 3) := by decide +kernel
theorem d10_20 : decode jdk_52_method_21_code 20 = .ok (.if_icmp .le 6, 3) := by decide +kernel
theorem d10_26 : decode jdk_52_method_21_code 26 = .ok (.aload_n 2, 1) := by decide +kernel
theorem d10_27 : decode jdk_52_method_21_code 27 = .ok (.iload_n 3, 1) := by decide +kernel
theorem d10_28 : decode jdk_52_method_21_code 28 = .ok (.iload 6, 2) := by decide +kernel
theorem d10_30 : decode jdk_52_method_21_code 30 = .ok (.i2b, 1) := by decide +kernel
theorem d10_31 : decode jdk_52_method_21_code 31 = .ok (.bastore, 1) := by decide +kernel
theorem d10_32 : decode jdk_52_method_21_code 32 = .ok (.iinc 1 1, 3) := by decide +kernel
theorem d10_35 : decode jdk_52_method_21_code 35 = .ok (.iinc 3 1, 3) := by decide +kernel
theorem d10_38 : decode jdk_52_method_21_code 38 = .ok (.iinc 5 1, 3) := by decide +kernel
theorem d10_41 : decode jdk_52_method_21_code 41 = .ok (.goto (-38), 3) := by decide +kernel
theorem d10_44 : decode jdk_52_method_21_code 44 = .ok (.iload 4, 2) := by decide +kernel
theorem d10_46 : decode jdk_52_method_21_code 46 = .ok (.ireturn, 1) := by decide +kernel
theorem pn_5 : plainName "java/lang/StringUTF16" = true := by first | (simp [plainName, overriddenIn]; done) | decide +kernel
theorem ef_rmCm2 (m : MethodId) (x0 : Addr) (x1 : Int32) (x2 : Addr) (x3 : Int32) (x4 : Int32) : entryFrame m #[(.ref x0), (.int x1), (.ref x2), (.int x3), (.int x4)] 7 = mkF m 0 #[vr x0, vi x1, vr x2, vi x3, vi x4, .unset, .unset] [] := by first | (simp [entryFrame, mkF, argsToLocals, Value.category]; done) | rfl
def Q_rmCm2 (Z : State) (a1 : Addr) (a3 : Addr) (kc : ClassId) (kb : ClassId) (x0 : Int32) (x1 : Int32) (h0 : Heap) (n0 : Nat) (v : Option Value) (h : Heap) (L : List Loc) : Prop := (v = some (.int (2 : Int32))) ∧ (Fr n0 L) ∧ (Keep h0 h [a3]) ∧ (Arv Z h a3 kb .byte (2 : Int32) [(.int (own_b x0)), (.int (own_b x1))] (.int (0 : Int32)))
set_option maxRecDepth 65536 in
set_option maxHeartbeats 40000000 in
theorem rmCm2 (l : Launch) (Z : State) (a0 : Array Value) (hw : ∀ d ∈ tables_1, d.before a0 Z = true) (ws : List Jvm.Cond) (a1 : Addr) (a3 : Addr) (kc : ClassId) (kb : ClassId) (x0 : Int32) (x1 : Int32) (h0 : Heap) (n0 : Nat) (Z0 : n0 ≤ h0.size) (O0 : Old Z n0 h0) (V_a1 : Arv Z h0 a1 kc .char (2 : Int32) [(.int x0), (.int x1)] (.int (0 : Int32))) (V_a3 : Arv Z h0 a3 kb .byte (2 : Int32) [(.int (0 : Int32)), (.int (0 : Int32))] (.int (0 : Int32))) (g_a3 : n0 ≤ a3) (ne_13 : a1 ≠ a3) (hx0 : ¬ (255 : Int32) < x0) (hx1 : ¬ (255 : Int32) < x1) :
    MetFree l y_11 (head1 (Jvm.Cond.code y_11 jdk_52_method_21_code 7 (some .int) :: ws) ({ frames := 0, cells := 0, slots := 0, locals := 0 } : Room)) (fun a U => a = #[(.ref a1), (.int (0 : Int32)), (.ref a3), (.int (0 : Int32)), (.int (2 : Int32))] ∧ Z.Warmed39 U.vm ∧ U.heap = h0) (fun _ _ _ _ _ => True) (fun _ U o U' => ∃ v L, o = .returned v ∧ Q_rmCm2 Z a1 a3 kc kb x0 x1 h0 n0 v U'.heap L ∧ FrameEnd U o U' L ({ frames := 0, cells := 0, slots := 0, locals := 0 } : Room).cells ({ frames := 0, cells := 0, slots := 0, locals := 0 } : Room).slots) := by
  refine MetFree.of_bodySF (plainFor_of_name pn_5) hisR ?_
  intro p e s m args below meth c s₁ Bd hml0 hP hK
  obtain ⟨rfl, hZ, hh⟩ := hP
  have hx := Bd.exec
  have hby := Bd.bytes
  have hml : c.maxLocals = 7 := hml0
  have hown : s.vm.findClass "java/lang/StringUTF16" = some m.cls := findClass_of_methodNamed Bd.named
  have hnm := (name_of_methodNamed Bd.named Bd.method).1
  have X0 : Stand p l e ({ frames := 0, cells := 0, slots := 0, locals := 0 } : Room) s m #[(.ref a1), (.int (0 : Int32)), (.ref a3), (.int (0 : Int32)), (.int (2 : Int32))] below meth c s₁ [] 0 0 := Stand.of_body Bd
  have e0 : s₁.heap = h0 := by rw [← hh, Bd.state]; rfl
  have N0 := Fr.nil n0
  have KC : Keep h0 h0 [a3] := Keep.refl h0 _
  have pre0 : ∀ t, Steps p.tables e below (s₁.setTop (mkF m 0 #[vr a1, vi (0 : Int32), vr a3, vi (0 : Int32), vi (2 : Int32), un, un] [])) t → Steps p.tables e below (s₁.setTop (entryFrame m #[(.ref a1), (.int (0 : Int32)), (.ref a3), (.int (0 : Int32)), (.int (2 : Int32))] 7)) t := fun t k => castTop (ef_rmCm2 m a1 (0 : Int32) a3 (0 : Int32) (2 : Int32)) k
  have Vo1 := V_a1
  obtain ⟨cl1, Ar1, q1, Sz1, Nn1, Hh1, Gg1⟩ := Vo1
  have hin1 : ¬ ((0 : Int32) < 0 ∨ cl1.slots.size ≤ ((0 : Int32)).toNatClampNeg) := inb_of Sz1 ⟨by decide, by decide⟩
  have hat1 : cl1.slots[((0 : Int32)).toNatClampNeg]? = some (.int x0) := Has.at Hh1 hin1 rfl
  have ia1 := State.isArrayOf_alike hZ.alike Ar1.2.1
  have Vo2 := V_a3
  obtain ⟨cl2, Ar2, q2, Sz2, Nn2, Hh2, Gg2⟩ := Vo2
  have hin2 : ¬ ((0 : Int32) < 0 ∨ cl2.slots.size ≤ ((0 : Int32)).toNatClampNeg) := inb_of Sz2 ⟨by decide, by decide⟩
  obtain ⟨T3, h3, X3, e3, W3, st3⟩ := stB X0 hx hZ e0 Ar2 (j := (0 : Int32)) hin2 (g := (mkF m 31 #[vr a1, vi (0 : Int32), vr a3, vi (0 : Int32), vi (2 : Int32), vi (0 : Int32), vi x0] [(.int (x0.toInt8.toInt32)), (.int (0 : Int32)), (.ref a3)])) rfl rfl (hb hby d10_31)
  have Vn3 := Arv.set Ar2 q2 Sz2 Nn2 Hh2 Gg2 (fits_nar_byte _) W3 (0) rfl (Nat.le_of_ble_eq_true rfl)
  have N3 := Fr.snoc X3 N0 g_a3
  have Vm3 : Arv Z h3 a3 kb .byte (2 : Int32) [(.int (own_b x0)), (.int (0 : Int32))] (.int (0 : Int32)) := by have hh := Vn3; rw [own_bb] at hh; exact hh
  replace V_a1 := V_a1.other W3 ne_13
  replace O0 := O0.wr W3 g_a3
  replace KC := KC.wr W3 (Or.inl (List.mem_of_getElem? (i := 0) rfl))
  have Vo4 := V_a1
  obtain ⟨cl4, Ar4, q4, Sz4, Nn4, Hh4, Gg4⟩ := Vo4
  have hin4 : ¬ ((1 : Int32) < 0 ∨ cl4.slots.size ≤ ((1 : Int32)).toNatClampNeg) := inb_of Sz4 ⟨by decide, by decide⟩
  have hat4 : cl4.slots[((1 : Int32)).toNatClampNeg]? = some (.int x1) := Has.at Hh4 hin4 rfl
  have ia4 := State.isArrayOf_alike hZ.alike Ar4.2.1
  have Vo5 := Vm3
  obtain ⟨cl5, Ar5, q5, Sz5, Nn5, Hh5, Gg5⟩ := Vo5
  have hin5 : ¬ ((1 : Int32) < 0 ∨ cl5.slots.size ≤ ((1 : Int32)).toNatClampNeg) := inb_of Sz5 ⟨by decide, by decide⟩
  obtain ⟨T6, h6, X6, e6, W6, st6⟩ := stB X3 hx hZ e3 Ar5 (j := (1 : Int32)) hin5 (g := (mkF m 31 #[vr a1, vi (1 : Int32), vr a3, vi (1 : Int32), vi (2 : Int32), vi (1 : Int32), vi x1] [(.int (x1.toInt8.toInt32)), (.int (1 : Int32)), (.ref a3)])) rfl rfl (hb hby d10_31)
  have Vn6 := Arv.set Ar5 q5 Sz5 Nn5 Hh5 Gg5 (fits_nar_byte _) W6 (1) rfl (Nat.le_of_ble_eq_true rfl)
  have N6 := Fr.snoc X6 N3 g_a3
  have Vm6 : Arv Z h6 a3 kb .byte (2 : Int32) [(.int (own_b x0)), (.int (own_b x1))] (.int (0 : Int32)) := by have hh := Vn6; rw [own_bb] at hh; exact hh
  replace V_a1 := V_a1.other W6 ne_13
  replace O0 := O0.wr W6 g_a3
  replace KC := KC.wr W6 (Or.inl (List.mem_of_getElem? (i := 0) rfl))
  obtain ⟨fs, hr, hrun, hended, hW, hsame⟩ := X6.leave (v := some (.int (2 : Int32))) (fun h => by rw [Bd.returns] at h; cases h)
  refine ⟨_, _, pre0 _ ?_, hrun, hended, _, _, rfl, ?_, ⟨_, rfl⟩, hW, hsame.mono (by decide) (by decide)⟩
  · show SS p e below m s₁ 0 #[vr a1, vi (0 : Int32), vr a3, vi (0 : Int32), vi (2 : Int32), un, un] [] _
    refine XS.iconst X0.here hx rfl (hb hby d10_0) ?_
    show SS p e below m s₁ 1 #[vr a1, vi (0 : Int32), vr a3, vi (0 : Int32), vi (2 : Int32), un, un] [(.int (0 : Int32))] _
    refine XS.istore X0.here hx rfl (hb hby d10_1) rfl (l' := #[vr a1, vi (0 : Int32), vr a3, vi (0 : Int32), vi (2 : Int32), vi (0 : Int32), un]) rfl ?_
    show SS p e below m s₁ 3 #[vr a1, vi (0 : Int32), vr a3, vi (0 : Int32), vi (2 : Int32), vi (0 : Int32), un] [] _
    refine XS.iload X0.here hx rfl (hb hby d10_3) rfl ?_
    show SS p e below m s₁ 5 #[vr a1, vi (0 : Int32), vr a3, vi (0 : Int32), vi (2 : Int32), vi (0 : Int32), un] [(.int (0 : Int32))] _
    refine XS.iload X0.here hx rfl (hb hby d10_5) rfl ?_
    show SS p e below m s₁ 7 #[vr a1, vi (0 : Int32), vr a3, vi (0 : Int32), vi (2 : Int32), vi (0 : Int32), un] [(.int (2 : Int32)), (.int (0 : Int32))] _
    refine XS.icmpNo X0.here hx rfl (hb hby d10_7) rfl (tlt (by decide)).2.1 ?_
    show SS p e below m s₁ 10 #[vr a1, vi (0 : Int32), vr a3, vi (0 : Int32), vi (2 : Int32), vi (0 : Int32), un] [] _
    refine XS.aloadN X0.here hx rfl (hb hby d10_10) rfl rfl ?_
    show SS p e below m s₁ 11 #[vr a1, vi (0 : Int32), vr a3, vi (0 : Int32), vi (2 : Int32), vi (0 : Int32), un] [(.ref a1)] _
    refine XS.iloadN X0.here hx rfl (hb hby d10_11) rfl ?_
    show SS p e below m s₁ 12 #[vr a1, vi (0 : Int32), vr a3, vi (0 : Int32), vi (2 : Int32), vi (0 : Int32), un] [(.int (0 : Int32)), (.ref a1)] _
    refine X0.caload hx (j := (0 : Int32)) (v := (.int x0)) (by rw [e0]; exact Ar1.1) ia1 Ar1.2.2 hin1 hat1 (g := (mkF m 12 #[vr a1, vi (0 : Int32), vr a3, vi (0 : Int32), vi (2 : Int32), vi (0 : Int32), un] [(.int (0 : Int32)), (.ref a1)])) rfl rfl (hb hby d10_12) _ ?_
    show SS p e below m s₁ 13 #[vr a1, vi (0 : Int32), vr a3, vi (0 : Int32), vi (2 : Int32), vi (0 : Int32), un] [(.int x0)] _
    refine XS.istore X0.here hx rfl (hb hby d10_13) rfl (l' := #[vr a1, vi (0 : Int32), vr a3, vi (0 : Int32), vi (2 : Int32), vi (0 : Int32), vi x0]) rfl ?_
    show SS p e below m s₁ 15 #[vr a1, vi (0 : Int32), vr a3, vi (0 : Int32), vi (2 : Int32), vi (0 : Int32), vi x0] [] _
    refine XS.iload X0.here hx rfl (hb hby d10_15) rfl ?_
    show SS p e below m s₁ 17 #[vr a1, vi (0 : Int32), vr a3, vi (0 : Int32), vi (2 : Int32), vi (0 : Int32), vi x0] [(.int x0)] _
    refine XS.sipush X0.here hx rfl (hb hby d10_17) ?_
    show SS p e below m s₁ 20 #[vr a1, vi (0 : Int32), vr a3, vi (0 : Int32), vi (2 : Int32), vi (0 : Int32), vi x0] [(.int (255 : Int32)), (.int x0)] _
    refine XS.icmpYes X0.here hx rfl (pc0 := 20) (pc' := 26) rfl (hb hby d10_20) rfl (flt hx0).2.2.2 (by decide) (by decide) ?_
    show SS p e below m s₁ 26 #[vr a1, vi (0 : Int32), vr a3, vi (0 : Int32), vi (2 : Int32), vi (0 : Int32), vi x0] [] _
    refine XS.aloadN X0.here hx rfl (hb hby d10_26) rfl rfl ?_
    show SS p e below m s₁ 27 #[vr a1, vi (0 : Int32), vr a3, vi (0 : Int32), vi (2 : Int32), vi (0 : Int32), vi x0] [(.ref a3)] _
    refine XS.iloadN X0.here hx rfl (hb hby d10_27) rfl ?_
    show SS p e below m s₁ 28 #[vr a1, vi (0 : Int32), vr a3, vi (0 : Int32), vi (2 : Int32), vi (0 : Int32), vi x0] [(.int (0 : Int32)), (.ref a3)] _
    refine XS.iload X0.here hx rfl (hb hby d10_28) rfl ?_
    show SS p e below m s₁ 30 #[vr a1, vi (0 : Int32), vr a3, vi (0 : Int32), vi (2 : Int32), vi (0 : Int32), vi x0] [(.int x0), (.int (0 : Int32)), (.ref a3)] _
    refine XS.i2b X0.here hx rfl (hb hby d10_30) rfl ?_
    show SS p e below m s₁ 31 #[vr a1, vi (0 : Int32), vr a3, vi (0 : Int32), vi (2 : Int32), vi (0 : Int32), vi x0] [(.int (x0.toInt8.toInt32)), (.int (0 : Int32)), (.ref a3)] _
    refine st3 _ ?_
    show SS p e below m T3 32 #[vr a1, vi (0 : Int32), vr a3, vi (0 : Int32), vi (2 : Int32), vi (0 : Int32), vi x0] [] _
    refine XS.iinc X3.here hx rfl (hb hby d10_32) rfl (l' := #[vr a1, vi (1 : Int32), vr a3, vi (0 : Int32), vi (2 : Int32), vi (0 : Int32), vi x0]) rfl ?_
    show SS p e below m T3 35 #[vr a1, vi (1 : Int32), vr a3, vi (0 : Int32), vi (2 : Int32), vi (0 : Int32), vi x0] [] _
    refine XS.iinc X3.here hx rfl (hb hby d10_35) rfl (l' := #[vr a1, vi (1 : Int32), vr a3, vi (1 : Int32), vi (2 : Int32), vi (0 : Int32), vi x0]) rfl ?_
    show SS p e below m T3 38 #[vr a1, vi (1 : Int32), vr a3, vi (1 : Int32), vi (2 : Int32), vi (0 : Int32), vi x0] [] _
    refine XS.iinc X3.here hx rfl (hb hby d10_38) rfl (l' := #[vr a1, vi (1 : Int32), vr a3, vi (1 : Int32), vi (2 : Int32), vi (1 : Int32), vi x0]) rfl ?_
    show SS p e below m T3 41 #[vr a1, vi (1 : Int32), vr a3, vi (1 : Int32), vi (2 : Int32), vi (1 : Int32), vi x0] [] _
    refine XS.goto X3.here hx rfl (pc0 := 41) (pc' := 3) rfl (hb hby d10_41) (by decide) (by decide) ?_
    show SS p e below m T3 3 #[vr a1, vi (1 : Int32), vr a3, vi (1 : Int32), vi (2 : Int32), vi (1 : Int32), vi x0] [] _
    refine XS.iload X3.here hx rfl (hb hby d10_3) rfl ?_
    show SS p e below m T3 5 #[vr a1, vi (1 : Int32), vr a3, vi (1 : Int32), vi (2 : Int32), vi (1 : Int32), vi x0] [(.int (1 : Int32))] _
    refine XS.iload X3.here hx rfl (hb hby d10_5) rfl ?_
    show SS p e below m T3 7 #[vr a1, vi (1 : Int32), vr a3, vi (1 : Int32), vi (2 : Int32), vi (1 : Int32), vi x0] [(.int (2 : Int32)), (.int (1 : Int32))] _
    refine XS.icmpNo X3.here hx rfl (hb hby d10_7) rfl (tlt (by decide)).2.1 ?_
    show SS p e below m T3 10 #[vr a1, vi (1 : Int32), vr a3, vi (1 : Int32), vi (2 : Int32), vi (1 : Int32), vi x0] [] _
    refine XS.aloadN X3.here hx rfl (hb hby d10_10) rfl rfl ?_
    show SS p e below m T3 11 #[vr a1, vi (1 : Int32), vr a3, vi (1 : Int32), vi (2 : Int32), vi (1 : Int32), vi x0] [(.ref a1)] _
    refine XS.iloadN X3.here hx rfl (hb hby d10_11) rfl ?_
    show SS p e below m T3 12 #[vr a1, vi (1 : Int32), vr a3, vi (1 : Int32), vi (2 : Int32), vi (1 : Int32), vi x0] [(.int (1 : Int32)), (.ref a1)] _
    refine X3.caload hx (j := (1 : Int32)) (v := (.int x1)) (by rw [e3]; exact Ar4.1) ia4 Ar4.2.2 hin4 hat4 (g := (mkF m 12 #[vr a1, vi (1 : Int32), vr a3, vi (1 : Int32), vi (2 : Int32), vi (1 : Int32), vi x0] [(.int (1 : Int32)), (.ref a1)])) rfl rfl (hb hby d10_12) _ ?_
    show SS p e below m T3 13 #[vr a1, vi (1 : Int32), vr a3, vi (1 : Int32), vi (2 : Int32), vi (1 : Int32), vi x0] [(.int x1)] _
    refine XS.istore X3.here hx rfl (hb hby d10_13) rfl (l' := #[vr a1, vi (1 : Int32), vr a3, vi (1 : Int32), vi (2 : Int32), vi (1 : Int32), vi x1]) rfl ?_
    show SS p e below m T3 15 #[vr a1, vi (1 : Int32), vr a3, vi (1 : Int32), vi (2 : Int32), vi (1 : Int32), vi x1] [] _
    refine XS.iload X3.here hx rfl (hb hby d10_15) rfl ?_
    show SS p e below m T3 17 #[vr a1, vi (1 : Int32), vr a3, vi (1 : Int32), vi (2 : Int32), vi (1 : Int32), vi x1] [(.int x1)] _
    refine XS.sipush X3.here hx rfl (hb hby d10_17) ?_
    show SS p e below m T3 20 #[vr a1, vi (1 : Int32), vr a3, vi (1 : Int32), vi (2 : Int32), vi (1 : Int32), vi x1] [(.int (255 : Int32)), (.int x1)] _
    refine XS.icmpYes X3.here hx rfl (pc0 := 20) (pc' := 26) rfl (hb hby d10_20) rfl (flt hx1).2.2.2 (by decide) (by decide) ?_
    show SS p e below m T3 26 #[vr a1, vi (1 : Int32), vr a3, vi (1 : Int32), vi (2 : Int32), vi (1 : Int32), vi x1] [] _
    refine XS.aloadN X3.here hx rfl (hb hby d10_26) rfl rfl ?_
    show SS p e below m T3 27 #[vr a1, vi (1 : Int32), vr a3, vi (1 : Int32), vi (2 : Int32), vi (1 : Int32), vi x1] [(.ref a3)] _
    refine XS.iloadN X3.here hx rfl (hb hby d10_27) rfl ?_
    show SS p e below m T3 28 #[vr a1, vi (1 : Int32), vr a3, vi (1 : Int32), vi (2 : Int32), vi (1 : Int32), vi x1] [(.int (1 : Int32)), (.ref a3)] _
    refine XS.iload X3.here hx rfl (hb hby d10_28) rfl ?_
    show SS p e below m T3 30 #[vr a1, vi (1 : Int32), vr a3, vi (1 : Int32), vi (2 : Int32), vi (1 : Int32), vi x1] [(.int x1), (.int (1 : Int32)), (.ref a3)] _
    refine XS.i2b X3.here hx rfl (hb hby d10_30) rfl ?_
    show SS p e below m T3 31 #[vr a1, vi (1 : Int32), vr a3, vi (1 : Int32), vi (2 : Int32), vi (1 : Int32), vi x1] [(.int (x1.toInt8.toInt32)), (.int (1 : Int32)), (.ref a3)] _
    refine st6 _ ?_
    show SS p e below m T6 32 #[vr a1, vi (1 : Int32), vr a3, vi (1 : Int32), vi (2 : Int32), vi (1 : Int32), vi x1] [] _
    refine XS.iinc X6.here hx rfl (hb hby d10_32) rfl (l' := #[vr a1, vi (2 : Int32), vr a3, vi (1 : Int32), vi (2 : Int32), vi (1 : Int32), vi x1]) rfl ?_
    show SS p e below m T6 35 #[vr a1, vi (2 : Int32), vr a3, vi (1 : Int32), vi (2 : Int32), vi (1 : Int32), vi x1] [] _
    refine XS.iinc X6.here hx rfl (hb hby d10_35) rfl (l' := #[vr a1, vi (2 : Int32), vr a3, vi (2 : Int32), vi (2 : Int32), vi (1 : Int32), vi x1]) rfl ?_
    show SS p e below m T6 38 #[vr a1, vi (2 : Int32), vr a3, vi (2 : Int32), vi (2 : Int32), vi (1 : Int32), vi x1] [] _
    refine XS.iinc X6.here hx rfl (hb hby d10_38) rfl (l' := #[vr a1, vi (2 : Int32), vr a3, vi (2 : Int32), vi (2 : Int32), vi (2 : Int32), vi x1]) rfl ?_
    show SS p e below m T6 41 #[vr a1, vi (2 : Int32), vr a3, vi (2 : Int32), vi (2 : Int32), vi (2 : Int32), vi x1] [] _
    refine XS.goto X6.here hx rfl (pc0 := 41) (pc' := 3) rfl (hb hby d10_41) (by decide) (by decide) ?_
    show SS p e below m T6 3 #[vr a1, vi (2 : Int32), vr a3, vi (2 : Int32), vi (2 : Int32), vi (2 : Int32), vi x1] [] _
    refine XS.iload X6.here hx rfl (hb hby d10_3) rfl ?_
    show SS p e below m T6 5 #[vr a1, vi (2 : Int32), vr a3, vi (2 : Int32), vi (2 : Int32), vi (2 : Int32), vi x1] [(.int (2 : Int32))] _
    refine XS.iload X6.here hx rfl (hb hby d10_5) rfl ?_
    show SS p e below m T6 7 #[vr a1, vi (2 : Int32), vr a3, vi (2 : Int32), vi (2 : Int32), vi (2 : Int32), vi x1] [(.int (2 : Int32)), (.int (2 : Int32))] _
    refine XS.icmpYes X6.here hx rfl (pc0 := 7) (pc' := 44) rfl (hb hby d10_7) rfl (flt (by decide)).2.1 (by decide) (by decide) ?_
    show SS p e below m T6 44 #[vr a1, vi (2 : Int32), vr a3, vi (2 : Int32), vi (2 : Int32), vi (2 : Int32), vi x1] [] _
    refine XS.iload X6.here hx rfl (hb hby d10_44) rfl ?_
    show SS p e below m T6 46 #[vr a1, vi (2 : Int32), vr a3, vi (2 : Int32), vi (2 : Int32), vi (2 : Int32), vi x1] [(.int (2 : Int32))] _
    exact retI X6 hx Bd.returns (hb hby d10_46) hr
  · show Q_rmCm2 Z a1 a3 kc kb x0 x1 h0 n0 _ T6.heap _
    rw [e6]
    exact ⟨rfl, N6, KC, Vm6⟩
theorem pd_7 : parseMethodDescriptor "([CI[BII)I" = some ⟨[(.array .char), .int, (.array .byte), .int, .int], some .int⟩ := by decide +kernel
theorem d9_0 : decode jdk_52_method_16_code 0 = .ok (.iload_n 2, 1) := by decide +kernel
theorem d9_1 : decode jdk_52_method_16_code 1 = .ok (.newarray .byte, 2) := by decide +kernel
theorem d9_3 : decode jdk_52_method_16_code 3 = .ok (.astore_n 3, 1) := by decide +kernel
theorem d9_4 : decode jdk_52_method_16_code 4 = .ok (.aload_n 0, 1) := by decide +kernel
theorem d9_5 : decode jdk_52_method_16_code 5 = .ok (.iload_n 1, 1) := by decide +kernel
theorem d9_6 : decode jdk_52_method_16_code 6 = .ok (.aload_n 3, 1) := by decide +kernel
theorem d9_7 : decode jdk_52_method_16_code 7 = .ok (.iconst 0, 1) := by decide +kernel
theorem d9_8 : decode jdk_52_method_16_code 8 = .ok (.iload_n 2, 1) := by decide +kernel
theorem d9_9 : decode jdk_52_method_16_code 9 = .ok (.invokestatic 115, 3) := by decide +kernel
theorem d9_12 : decode jdk_52_method_16_code 12 = .ok (.istore 4, 2) := by decide +kernel
theorem d9_14 : decode jdk_52_method_16_code 14 = .ok (.iload 4, 2) := by decide +kernel
theorem d9_16 : decode jdk_52_method_16_code 16 = .ok (.iload_n 2, 1) := by decide +kernel
theorem d9_17 : decode jdk_52_method_16_code 17 = .ok (.if_icmp .eq 40, 3) := by decide +kernel
theorem d9_57 : decode jdk_52_method_16_code 57 = .ok (.aload_n 3, 1) := by decide +kernel
theorem d9_58 : decode jdk_52_method_16_code 58 = .ok (.areturn, 1) := by decide +kernel
theorem ef_rmCm (m : MethodId) (x0 : Addr) (x1 : Int32) (x2 : Int32) : entryFrame m #[(.ref x0), (.int x1), (.int x2)] 6 = mkF m 0 #[vr x0, vi x1, vi x2, .unset, .unset, .unset] [] := by first | (simp [entryFrame, mkF, argsToLocals, Value.category]; done) | rfl
def Q_rmCm (Z : State) (a1 : Addr) (kc : ClassId) (x0 : Int32) (x1 : Int32) (h0 : Heap) (n0 : Nat) (v : Option Value) (h : Heap) (L : List Loc) : Prop := ∃ t : Addr, ∃ kb : ClassId, (v = some (.ref t)) ∧ (Fr n0 L) ∧ (Keep h0 h []) ∧ (h0.size ≤ t) ∧ (Arv Z h t kb .byte (2 : Int32) [(.int (own_b x0)), (.int (own_b x1))] (.int (0 : Int32)))
set_option maxRecDepth 65536 in
set_option maxHeartbeats 40000000 in
theorem rmCm (l : Launch) (Z : State) (a0 : Array Value) (hw : ∀ d ∈ tables_1, d.before a0 Z = true) (ws : List Jvm.Cond) (a1 : Addr) (kc : ClassId) (x0 : Int32) (x1 : Int32) (h0 : Heap) (n0 : Nat) (Z0 : n0 ≤ h0.size) (O0 : Old Z n0 h0) (V_a1 : Arv Z h0 a1 kc .char (2 : Int32) [(.int x0), (.int x1)] (.int (0 : Int32))) (hx0 : ¬ (255 : Int32) < x0) (hx1 : ¬ (255 : Int32) < x1) :
    MetFree l y_12 (head1 (Jvm.Cond.code y_12 jdk_52_method_16_code 6 (some (.array .byte)) :: ws) ({ frames := 1, cells := 1, slots := 2, locals := 18 } : Room)) (fun a U => a = #[(.ref a1), (.int (0 : Int32)), (.int (2 : Int32))] ∧ Z.Warmed39 U.vm ∧ U.heap = h0) (fun _ _ _ _ _ => True) (fun _ U o U' => ∃ v L, o = .returned v ∧ Q_rmCm Z a1 kc x0 x1 h0 n0 v U'.heap L ∧ FrameEnd U o U' L ({ frames := 1, cells := 1, slots := 2, locals := 18 } : Room).cells ({ frames := 1, cells := 1, slots := 2, locals := 18 } : Room).slots) := by
  refine MetFree.of_bodySF (plainFor_of_name pn_5) hisR ?_
  intro p e s m args below meth c s₁ Bd hml0 hP hK
  obtain ⟨rfl, hZ, hh⟩ := hP
  have hx := Bd.exec
  have hby := Bd.bytes
  have hml : c.maxLocals = 6 := hml0
  have hown : s.vm.findClass "java/lang/StringUTF16" = some m.cls := findClass_of_methodNamed Bd.named
  have hnm := (name_of_methodNamed Bd.named Bd.method).1
  have X0 : Stand p l e ({ frames := 1, cells := 1, slots := 2, locals := 18 } : Room) s m #[(.ref a1), (.int (0 : Int32)), (.int (2 : Int32))] below meth c s₁ [] 0 0 := Stand.of_body Bd
  have e0 : s₁.heap = h0 := by rw [← hh, Bd.state]; rfl
  have N0 := Fr.nil n0
  have KC : Keep h0 h0 [] := Keep.refl h0 _
  have pre0 : ∀ t, Steps p.tables e below (s₁.setTop (mkF m 0 #[vr a1, vi (0 : Int32), vi (2 : Int32), un, un, un] [])) t → Steps p.tables e below (s₁.setTop (entryFrame m #[(.ref a1), (.int (0 : Int32)), (.int (2 : Int32))] 6)) t := fun t k => castTop (ef_rmCm m a1 (0 : Int32) (2 : Int32)) k
  obtain ⟨T1, h1, k1, X1, e1, E1, A1, st1⟩ := newP X0 hx hZ (ww hw 29 rfl) e0 (g := (mkF m 1 #[vr a1, vi (0 : Int32), vi (2 : Int32), un, un, un] [(.int (2 : Int32))])) rfl (hb hby d9_1) rfl (by decide) (cap := 2) (by decide) (by decide) (by decide) (by decide)
  obtain ⟨b1, g1⟩ : ∃ z, z = h0.size := ⟨_, rfl⟩
  rw [← g1] at A1 st1
  have ne_a1_b1 : a1 ≠ b1 := Nat.ne_of_lt (Nat.lt_of_lt_of_le V_a1.lt (Nat.le_of_eq g1.symm))
  have g_b1 : n0 ≤ b1 := Nat.le_trans (Nat.le_trans Z0 KC.1) (Nat.le_of_eq g1.symm)
  have sz_b1 : h0.size ≤ b1 := Nat.le_trans KC.1 (Nat.le_of_eq g1.symm)
  replace V_a1 := V_a1.ext E1
  replace O0 := O0.ext E1
  replace KC := KC.ext E1
  have V_b1 : Arv Z h1 b1 k1 .byte (2 : Int32) [(.int (0 : Int32)), (.int (0 : Int32))] (.int (0 : Int32)) := (Arv.new A1 (by decide)).pad (pad_rep [] (.int (0 : Int32)) 2)
  obtain ⟨_, _, ⟨T2, L2, k2, n2⟩, -, X2, ⟨Lc2, hQ2, l2, y2, z2⟩, st2⟩ := Jvm.LawKit.callS X1 hx (y := y_11) hown (mvT hZ (ww hw 47 rfl)) (mvT hZ (ww hw 48 rfl)) (mvT hZ (ww hw 45 rfl)) (mvT hZ (ww hw 49 rfl)) (by decide) (backOf (W := 0) (rmCm2 l Z a0 hw [] a1 b1 kc k1 x0 x1 h1 n0 (Nat.le_trans Z0 KC.1) O0 V_a1 V_b1 g_b1 ne_a1_b1 (by first | assumption | decide | omega) (by first | assumption | decide | omega)) hZ (ww hw 49 rfl) (ww hw 45 rfl) (by decide) (by decide)) (g := (mkF m 9 #[vr a1, vi (0 : Int32), vi (2 : Int32), vr b1, un, un] [(.int (2 : Int32)), (.int (0 : Int32)), (.ref b1), (.int (0 : Int32)), (.ref a1)])) rfl (by rw [hml]; rfl) (argsL := [(.ref a1), (.int (0 : Int32)), (.ref b1), (.int (0 : Int32)), (.int (2 : Int32))]) (rest := []) (lenOf pd_7 rfl) rfl (by show 2 * 0 + _ ≤ _; exact Nat.le_of_eq rfl) (hb hby d9_9) (fun _ _ => ⟨rfl, e1, (by decide : 1 + 0 ≤ _), (by decide : 2 + 0 ≤ _)⟩)
  dsimp only [Pt.U, Pt.locs, Pt.cells, Pt.slots] at X2 l2 y2 z2 st2 hQ2
  subst l2 y2 z2
  obtain ⟨rfl, N2q, K2, V_a3_2⟩ := hQ2
  have N2 := Fr.app N0 N2q
  replace V_a1 := V_a1.keep K2 (ninS ne_a1_b1 nin0)
  replace O0 := O0.keep K2 (allS g_b1 all0)
  replace KC := KC.trans K2 (allS (Or.inr sz_b1) all0)
  obtain ⟨fs, hr, hrun, hended, hW, hsame⟩ := X2.leave (v := some (.ref b1)) (fun h => by rw [Bd.returns] at h; cases h)
  refine ⟨_, _, pre0 _ ?_, hrun, hended, _, _, rfl, ?_, ⟨_, rfl⟩, hW, hsame.mono (by decide) (by decide)⟩
  · show SS p e below m s₁ 0 #[vr a1, vi (0 : Int32), vi (2 : Int32), un, un, un] [] _
    refine XS.iloadN X0.here hx rfl (hb hby d9_0) rfl ?_
    show SS p e below m s₁ 1 #[vr a1, vi (0 : Int32), vi (2 : Int32), un, un, un] [(.int (2 : Int32))] _
    refine st1 _ ?_
    show SS p e below m T1 3 #[vr a1, vi (0 : Int32), vi (2 : Int32), un, un, un] [(.ref b1)] _
    refine XS.astoreN X1.here hx rfl (hb hby d9_3) rfl rfl (l' := #[vr a1, vi (0 : Int32), vi (2 : Int32), vr b1, un, un]) rfl ?_
    show SS p e below m T1 4 #[vr a1, vi (0 : Int32), vi (2 : Int32), vr b1, un, un] [] _
    refine XS.aloadN X1.here hx rfl (hb hby d9_4) rfl rfl ?_
    show SS p e below m T1 5 #[vr a1, vi (0 : Int32), vi (2 : Int32), vr b1, un, un] [(.ref a1)] _
    refine XS.iloadN X1.here hx rfl (hb hby d9_5) rfl ?_
    show SS p e below m T1 6 #[vr a1, vi (0 : Int32), vi (2 : Int32), vr b1, un, un] [(.int (0 : Int32)), (.ref a1)] _
    refine XS.aloadN X1.here hx rfl (hb hby d9_6) rfl rfl ?_
    show SS p e below m T1 7 #[vr a1, vi (0 : Int32), vi (2 : Int32), vr b1, un, un] [(.ref b1), (.int (0 : Int32)), (.ref a1)] _
    refine XS.iconst X1.here hx rfl (hb hby d9_7) ?_
    show SS p e below m T1 8 #[vr a1, vi (0 : Int32), vi (2 : Int32), vr b1, un, un] [(.int (0 : Int32)), (.ref b1), (.int (0 : Int32)), (.ref a1)] _
    refine XS.iloadN X1.here hx rfl (hb hby d9_8) rfl ?_
    show SS p e below m T1 9 #[vr a1, vi (0 : Int32), vi (2 : Int32), vr b1, un, un] [(.int (2 : Int32)), (.int (0 : Int32)), (.ref b1), (.int (0 : Int32)), (.ref a1)] _
    refine st2 _ ?_
    show SS p e below m T2 12 #[vr a1, vi (0 : Int32), vi (2 : Int32), vr b1, un, un] [(.int (2 : Int32))] _
    refine XS.istore X2.here hx rfl (hb hby d9_12) rfl (l' := #[vr a1, vi (0 : Int32), vi (2 : Int32), vr b1, vi (2 : Int32), un]) rfl ?_
    show SS p e below m T2 14 #[vr a1, vi (0 : Int32), vi (2 : Int32), vr b1, vi (2 : Int32), un] [] _
    refine XS.iload X2.here hx rfl (hb hby d9_14) rfl ?_
    show SS p e below m T2 16 #[vr a1, vi (0 : Int32), vi (2 : Int32), vr b1, vi (2 : Int32), un] [(.int (2 : Int32))] _
    refine XS.iloadN X2.here hx rfl (hb hby d9_16) rfl ?_
    show SS p e below m T2 17 #[vr a1, vi (0 : Int32), vi (2 : Int32), vr b1, vi (2 : Int32), un] [(.int (2 : Int32)), (.int (2 : Int32))] _
    refine XS.icmpYes X2.here hx rfl (pc0 := 17) (pc' := 57) rfl (hb hby d9_17) rfl (teq (by decide)).1 (by decide) (by decide) ?_
    show SS p e below m T2 57 #[vr a1, vi (0 : Int32), vi (2 : Int32), vr b1, vi (2 : Int32), un] [] _
    refine XS.aloadN X2.here hx rfl (hb hby d9_57) rfl rfl ?_
    show SS p e below m T2 58 #[vr a1, vi (0 : Int32), vi (2 : Int32), vr b1, vi (2 : Int32), un] [(.ref b1)] _
    jvm_step X2.here [X2.here.top, hx, (hb hby d9_58), X2.method', Bd.returns, Value.isRef, FieldType.isReference]
    first | (intro acts; rw [hr _ acts rfl rfl rfl]) | rw [hr _ _ rfl rfl rfl]
    exact Steps.refl _
  · show Q_rmCm Z a1 kc x0 x1 h0 n0 _ T2.heap _
    exact ⟨b1, k1, rfl, N2, KC, sz_b1, V_a3_2⟩
theorem d11_0 : decode jdk_52_method_15_code 0 = .ok (.iload_n 1, 1) := by decide +kernel
theorem d11_1 : decode jdk_52_method_15_code 1 = .ok (.aload_n 0, 1) := by decide +kernel
theorem d11_2 : decode jdk_52_method_15_code 2 = .ok (.arraylength, 1) := by decide +kernel
theorem d11_3 : decode jdk_52_method_15_code 3 = .ok (.isub, 1) := by decide +kernel
theorem d11_4 : decode jdk_52_method_15_code 4 = .ok (.bipush 31, 2) := by decide +kernel
theorem d11_6 : decode jdk_52_method_15_code 6 = .ok (.iushr, 1) := by decide +kernel
theorem d11_7 : decode jdk_52_method_15_code 7 = .ok (.i2b, 1) := by decide +kernel
theorem d11_8 : decode jdk_52_method_15_code 8 = .ok (.ireturn, 1) := by decide +kernel
theorem ef_rmCf (m : MethodId) (x0 : Addr) (x1 : Int32) : entryFrame m #[(.ref x0), (.int x1)] 2 = mkF m 0 #[vr x0, vi x1] [] := by first | (simp [entryFrame, mkF, argsToLocals, Value.category]; done) | rfl
def Q_rmCf (Z : State) (a1 : Addr) (kb : ClassId) (vs : List Value) (h0 : Heap) (n0 : Nat) (v : Option Value) (h : Heap) (L : List Loc) : Prop := (v = some (.int (0 : Int32))) ∧ (Fr n0 L) ∧ (h = h0)
set_option maxRecDepth 65536 in
set_option maxHeartbeats 40000000 in
theorem rmCf (l : Launch) (Z : State) (a0 : Array Value) (hw : ∀ d ∈ tables_1, d.before a0 Z = true) (ws : List Jvm.Cond) (a1 : Addr) (kb : ClassId) (vs : List Value) (h0 : Heap) (n0 : Nat) (Z0 : n0 ≤ h0.size) (O0 : Old Z n0 h0) (V_a1 : Arv Z h0 a1 kb .byte (2 : Int32) vs (.int (0 : Int32))) :
    MetFree l y_13 (head1 (Jvm.Cond.code y_13 jdk_52_method_15_code 2 (some .byte) :: ws) ({ frames := 0, cells := 0, slots := 0, locals := 0 } : Room)) (fun a U => a = #[(.ref a1), (.int (2 : Int32))] ∧ Z.Warmed39 U.vm ∧ U.heap = h0) (fun _ _ _ _ _ => True) (fun _ U o U' => ∃ v L, o = .returned v ∧ Q_rmCf Z a1 kb vs h0 n0 v U'.heap L ∧ FrameEnd U o U' L ({ frames := 0, cells := 0, slots := 0, locals := 0 } : Room).cells ({ frames := 0, cells := 0, slots := 0, locals := 0 } : Room).slots) := by
  refine MetFree.of_bodySF (plainFor_of_name pn_5) hisR ?_
  intro p e s m args below meth c s₁ Bd hml0 hP hK
  obtain ⟨rfl, hZ, hh⟩ := hP
  have hx := Bd.exec
  have hby := Bd.bytes
  have hml : c.maxLocals = 2 := hml0
  have hown : s.vm.findClass "java/lang/StringUTF16" = some m.cls := findClass_of_methodNamed Bd.named
  have hnm := (name_of_methodNamed Bd.named Bd.method).1
  have X0 : Stand p l e ({ frames := 0, cells := 0, slots := 0, locals := 0 } : Room) s m #[(.ref a1), (.int (2 : Int32))] below meth c s₁ [] 0 0 := Stand.of_body Bd
  have e0 : s₁.heap = h0 := by rw [← hh, Bd.state]; rfl
  have N0 := Fr.nil n0
  have KC : Keep h0 h0 [] := Keep.refl h0 _
  have pre0 : ∀ t, Steps p.tables e below (s₁.setTop (mkF m 0 #[vr a1, vi (2 : Int32)] [])) t → Steps p.tables e below (s₁.setTop (entryFrame m #[(.ref a1), (.int (2 : Int32))] 2)) t := fun t k => castTop (ef_rmCf m a1 (2 : Int32)) k
  have Vo1 := V_a1
  obtain ⟨cl1, Ar1, -, Sz1, Nn1, -, -⟩ := Vo1
  have ia1 := State.isArrayOf_alike hZ.alike Ar1.2.1
  obtain ⟨fs, hr, hrun, hended, hW, hsame⟩ := X0.leave (v := some (.int (nar .byte ((((0 : Int32).toUInt32 >>> ((31 : Int32) &&& 31).toUInt32).toInt32).toInt8.toInt32)))) (fun h => by rw [Bd.returns] at h; cases h)
  refine ⟨_, _, pre0 _ ?_, hrun, hended, _, _, rfl, ?_, ⟨_, rfl⟩, hW, hsame.mono (by decide) (by decide)⟩
  · show SS p e below m s₁ 0 #[vr a1, vi (2 : Int32)] [] _
    refine XS.iloadN X0.here hx rfl (hb hby d11_0) rfl ?_
    show SS p e below m s₁ 1 #[vr a1, vi (2 : Int32)] [(.int (2 : Int32))] _
    refine XS.aloadN X0.here hx rfl (hb hby d11_1) rfl rfl ?_
    show SS p e below m s₁ 2 #[vr a1, vi (2 : Int32)] [(.ref a1), (.int (2 : Int32))] _
    refine X0.arraylength hx (by rw [e0]; exact Ar1.1) ia1 (g := (mkF m 2 #[vr a1, vi (2 : Int32)] [(.ref a1), (.int (2 : Int32))])) rfl rfl (hb hby d11_2) _ ?_
    rw [len_of Sz1 Nn1]
    show SS p e below m s₁ 3 #[vr a1, vi (2 : Int32)] [(.int (2 : Int32)), (.int (2 : Int32))] _
    refine XS.isub X0.here hx rfl (hb hby d11_3) rfl ?_
    show SS p e below m s₁ 4 #[vr a1, vi (2 : Int32)] [(.int (0 : Int32))] _
    refine XS.bipush X0.here hx rfl (hb hby d11_4) ?_
    show SS p e below m s₁ 6 #[vr a1, vi (2 : Int32)] [(.int (31 : Int32)), (.int (0 : Int32))] _
    refine XS.iushr X0.here hx rfl (hb hby d11_6) rfl ?_
    show SS p e below m s₁ 7 #[vr a1, vi (2 : Int32)] [(.int (((0 : Int32).toUInt32 >>> ((31 : Int32) &&& 31).toUInt32).toInt32))] _
    refine XS.i2b X0.here hx rfl (hb hby d11_7) rfl ?_
    show SS p e below m s₁ 8 #[vr a1, vi (2 : Int32)] [(.int ((((0 : Int32).toUInt32 >>> ((31 : Int32) &&& 31).toUInt32).toInt32).toInt8.toInt32))] _
    exact retN X0 hx (t := .byte) Bd.returns (by simp) (hb hby d11_8) hr
  · show Q_rmCf Z a1 kb vs h0 n0 _ s₁.heap _
    rw [e0]
    exact ⟨(by decide), N0, rfl⟩
theorem pd_8 : parseMethodDescriptor "([CII)[B" = some ⟨[(.array .char), .int, .int], some (.array .byte)⟩ := by decide +kernel
theorem pd_9 : parseMethodDescriptor "([BI)B" = some ⟨[(.array .byte), .int], some .byte⟩ := by decide +kernel
theorem d5_0 : decode jdk_42_method_149_code 0 = .ok (.aload_n 0, 1) := by decide +kernel
theorem d5_1 : decode jdk_42_method_149_code 1 = .ok (.invokespecial 1, 3) := by decide +kernel
theorem d5_4 : decode jdk_42_method_149_code 4 = .ok (.iload_n 3, 1) := by decide +kernel
theorem d5_5 : decode jdk_42_method_149_code 5 = .ok (.ifCond .ne 22, 3) := by decide +kernel
theorem d5_27 : decode jdk_42_method_149_code 27 = .ok (.getstatic 38, 3) := by decide +kernel
theorem d5_30 : decode jdk_42_method_149_code 30 = .ok (.ifCond .eq 28, 3) := by decide +kernel
theorem d5_33 : decode jdk_42_method_149_code 33 = .ok (.aload_n 1, 1) := by decide +kernel
theorem d5_34 : decode jdk_42_method_149_code 34 = .ok (.iload_n 2, 1) := by decide +kernel
theorem d5_35 : decode jdk_42_method_149_code 35 = .ok (.iload_n 3, 1) := by decide +kernel
theorem d5_36 : decode jdk_42_method_149_code 36 = .ok (.invokestatic 177, 3) := by decide +kernel
theorem d5_39 : decode jdk_42_method_149_code 39 = .ok (.astore 5, 2) := by decide +kernel
theorem d5_41 : decode jdk_42_method_149_code 41 = .ok (.aload_n 0, 1) := by decide +kernel
theorem d5_42 : decode jdk_42_method_149_code 42 = .ok (.aload 5, 2) := by decide +kernel
theorem d5_44 : decode jdk_42_method_149_code 44 = .ok (.iload_n 3, 1) := by decide +kernel
theorem d5_45 : decode jdk_42_method_149_code 45 = .ok (.invokestatic 47, 3) := by decide +kernel
theorem d5_48 : decode jdk_42_method_149_code 48 = .ok (.putfield 15, 3) := by decide +kernel
theorem d5_51 : decode jdk_42_method_149_code 51 = .ok (.aload_n 0, 1) := by decide +kernel
theorem d5_52 : decode jdk_42_method_149_code 52 = .ok (.aload 5, 2) := by decide +kernel
theorem d5_54 : decode jdk_42_method_149_code 54 = .ok (.putfield 9, 3) := by decide +kernel
theorem d5_57 : decode jdk_42_method_149_code 57 = .ok (.return_, 1) := by decide +kernel
theorem ef_rmI42 (m : MethodId) (x0 : Addr) (x1 : Addr) (x2 : Int32) (x3 : Int32) : entryFrame m #[(.ref x0), (.ref x1), (.int x2), (.int x3), .null] 6 = mkF m 0 #[vr x0, vr x1, vi x2, vi x3, vN, .unset] [] := by first | (simp [entryFrame, mkF, argsToLocals, Value.category]; done) | rfl
def Q_rmI42 (Z : State) (a1 : Addr) (a2 : Addr) (kc : ClassId) (x0 : Int32) (x1 : Int32) (zc : Int32) (h0 : Heap) (n0 : Nat) (v : Option Value) (h : Heap) (L : List Loc) : Prop := ∃ t : Addr, ∃ kb : ClassId, (v = none) ∧ (Fr n0 L) ∧ (Keep h0 h [a1]) ∧ (h0.size ≤ t) ∧ (Fld Z h a1 "java/lang/String" "value" "[B" (.ref t)) ∧ (Fld Z h a1 "java/lang/String" "coder" "B" (.int (0 : Int32))) ∧ (Arv Z h t kb .byte (2 : Int32) [(.int (own_b x0)), (.int (own_b x1))] (.int (0 : Int32)))
set_option maxRecDepth 65536 in
set_option maxHeartbeats 40000000 in
theorem rmI42 (l : Launch) (Z : State) (a0 : Array Value) (hw : ∀ d ∈ tables_1, d.before a0 Z = true) (ws : List Jvm.Cond) (a1 : Addr) (a2 : Addr) (kc : ClassId) (x0 : Int32) (x1 : Int32) (zc : Int32) (h0 : Heap) (n0 : Nat) (Z0 : n0 ≤ h0.size) (O0 : Old Z n0 h0) (F_value_a1 : Fld Z h0 a1 "java/lang/String" "value" "[B" .null) (F_coder_a1 : Fld Z h0 a1 "java/lang/String" "coder" "B" (.int (0 : Int32))) (E_a1 : Exa Z h0 a1 "java/lang/String") (g_a1 : n0 ≤ a1) (V_a2 : Arv Z h0 a2 kc .char (2 : Int32) [(.int x0), (.int x1)] (.int (0 : Int32))) (S_CS : Sta Z Z.heap "java/lang/String" "COMPACT_STRINGS" "Z" (.int zc)) (hz : ¬ zc = (0 : Int32)) (hx0 : ¬ (255 : Int32) < x0) (hx1 : ¬ (255 : Int32) < x1) :
    MetFree l y_14 (head1 (Jvm.Cond.code y_14 jdk_42_method_149_code 6 none :: ws) ({ frames := 2, cells := 1, slots := 2, locals := 35 } : Room)) (fun a U => a = #[(.ref a1), (.ref a2), (.int (0 : Int32)), (.int (2 : Int32)), .null] ∧ Z.Warmed39 U.vm ∧ U.heap = h0) (fun _ _ _ _ _ => True) (fun _ U o U' => ∃ v L, o = .returned v ∧ Q_rmI42 Z a1 a2 kc x0 x1 zc h0 n0 v U'.heap L ∧ FrameEnd U o U' L ({ frames := 2, cells := 1, slots := 2, locals := 35 } : Room).cells ({ frames := 2, cells := 1, slots := 2, locals := 35 } : Room).slots) := by
  refine MetFree.of_bodySF (plainFor_of_name pn_4) hisR ?_
  intro p e s m args below meth c s₁ Bd hml0 hP hK
  obtain ⟨rfl, hZ, hh⟩ := hP
  have hx := Bd.exec
  have hby := Bd.bytes
  have hml : c.maxLocals = 6 := hml0
  have hown : s.vm.findClass "java/lang/String" = some m.cls := findClass_of_methodNamed Bd.named
  have hnm := (name_of_methodNamed Bd.named Bd.method).1
  have X0 : Stand p l e ({ frames := 2, cells := 1, slots := 2, locals := 35 } : Room) s m #[(.ref a1), (.ref a2), (.int (0 : Int32)), (.int (2 : Int32)), .null] below meth c s₁ [] 0 0 := Stand.of_body Bd
  have e0 : s₁.heap = h0 := by rw [← hh, Bd.state]; rfl
  have N0 := Fr.nil n0
  have KC : Keep h0 h0 [a1] := Keep.refl h0 _
  have pre0 : ∀ t, Steps p.tables e below (s₁.setTop (mkF m 0 #[vr a1, vr a2, vi (0 : Int32), vi (2 : Int32), vN, un] [])) t → Steps p.tables e below (s₁.setTop (entryFrame m #[(.ref a1), (.ref a2), (.int (0 : Int32)), (.int (2 : Int32)), .null] 6)) t := fun t k => castTop (ef_rmI42 m a1 a2 (0 : Int32) (2 : Int32)) k
  obtain ⟨T1, X1, e1, st1⟩ := initO X0 hx hZ hown (ww hw 25 rfl) (ww hw 26 rfl) (ww hw 27 rfl) e0 (g := (mkF m 1 #[vr a1, vr a2, vi (0 : Int32), vi (2 : Int32), vN, un] [(.ref a1)])) rfl (by rw [hml]; rfl) rfl (hb hby d5_1) (by decide) (W := 0) (by show 2 * 0 + _ ≤ _; exact Nat.le_of_eq rfl) (by decide)
  obtain ⟨T2, X2, e2, st2⟩ := getS2 X1 hx hZ hown (host := "") (Or.inl (ww hw 42 rfl)) Via.refl e1 (S_CS.ext O0.2) (g := (mkF m 27 #[vr a1, vr a2, vi (0 : Int32), vi (2 : Int32), vN, un] [])) rfl (hb hby d5_27)
  obtain ⟨_, _, ⟨T3, L3, k3, n3⟩, -, X3, ⟨Lc3, hQ3, l3, y3, z3⟩, st3⟩ := Jvm.LawKit.callS X2 hx (y := y_12) hown (mvT hZ (ww hw 43 rfl)) (mvT hZ (ww hw 44 rfl)) (mvT hZ (ww hw 45 rfl)) (mvT hZ (ww hw 46 rfl)) (by decide) (backOf (W := 0) (rmCm l Z a0 hw [] a2 kc x0 x1 h0 n0 (Nat.le_trans Z0 KC.1) O0 V_a2 (by first | assumption | decide | omega) (by first | assumption | decide | omega)) hZ (ww hw 46 rfl) (ww hw 45 rfl) (by decide) (by decide)) (g := (mkF m 36 #[vr a1, vr a2, vi (0 : Int32), vi (2 : Int32), vN, un] [(.int (2 : Int32)), (.int (0 : Int32)), (.ref a2)])) rfl (by rw [hml]; rfl) (argsL := [(.ref a2), (.int (0 : Int32)), (.int (2 : Int32))]) (rest := []) (lenOf pd_8 rfl) rfl (by show 2 * 0 + _ ≤ _; exact Nat.le_of_eq rfl) (hb hby d5_36) (fun _ _ => ⟨rfl, e2, (by decide : 0 + 1 ≤ _), (by decide : 0 + 2 ≤ _)⟩)
  dsimp only [Pt.U, Pt.locs, Pt.cells, Pt.slots] at X3 l3 y3 z3 st3 hQ3
  subst l3 y3 z3
  obtain ⟨b3_t, kb_3, rfl, N3q, K3, sz_b3_t, V_t_3⟩ := hQ3
  have N3 := Fr.app N0 N3q
  have ne_a1_b3_t : a1 ≠ b3_t := Nat.ne_of_lt (Nat.lt_of_lt_of_le F_value_a1.lt sz_b3_t)
  have ne_a2_b3_t : a2 ≠ b3_t := Nat.ne_of_lt (Nat.lt_of_lt_of_le V_a2.lt sz_b3_t)
  have g_b3_t : n0 ≤ b3_t := Nat.le_trans (Nat.le_trans Z0 KC.1) sz_b3_t
  replace sz_b3_t : h0.size ≤ b3_t := Nat.le_trans KC.1 sz_b3_t
  replace F_value_a1 := F_value_a1.keep K3 nin0
  replace F_coder_a1 := F_coder_a1.keep K3 nin0
  replace E_a1 := E_a1.keep K3
  replace V_a2 := V_a2.keep K3 nin0
  replace O0 := O0.keep K3 all0
  replace KC := KC.trans K3 all0
  obtain ⟨_, _, ⟨T4, L4, k4, n4⟩, -, X4, ⟨Lc4, hQ4, l4, y4, z4⟩, st4⟩ := Jvm.LawKit.callS X3 hx (y := y_13) hown (mvT hZ (ww hw 50 rfl)) (mvT hZ (ww hw 51 rfl)) (mvT hZ (ww hw 45 rfl)) (mvT hZ (ww hw 52 rfl)) (by decide) (backOf (W := 1) (rmCf l Z a0 hw [] b3_t kb_3 [(.int (own_b x0)), (.int (own_b x1))] T3.heap n0 (Nat.le_trans Z0 KC.1) O0 V_t_3) hZ (ww hw 52 rfl) (ww hw 45 rfl) (by decide) (by decide)) (g := (mkF m 45 #[vr a1, vr a2, vi (0 : Int32), vi (2 : Int32), vN, vr b3_t] [(.int (2 : Int32)), (.ref b3_t), (.ref a1)])) rfl (by rw [hml]; rfl) (argsL := [(.ref b3_t), (.int (2 : Int32))]) (rest := [(.ref a1)]) (lenOf pd_9 rfl) rfl (by show 2 * 0 + _ ≤ _; exact Nat.le_of_eq rfl) (hb hby d5_45) (fun _ _ => ⟨rfl, rfl, (by decide : 1 + 0 ≤ _), (by decide : 2 + 0 ≤ _)⟩)
  dsimp only [Pt.U, Pt.locs, Pt.cells, Pt.slots] at X4 l4 y4 z4 st4 hQ4
  subst l4 y4 z4
  obtain ⟨rfl, N4q, e4⟩ := hQ4
  have N4 := Fr.app N3 N4q
  obtain ⟨T5, h5, X5, e5, W5, st5⟩ := putFN X4 hx hZ hown (ww hw 35 rfl) Via.refl e4 F_coder_a1 E_a1 (Or.inr ⟨(ww hw 31 rfl), rfl, hnm⟩) (ww hw 15 rfl) (ty := .byte) (v' := .int (0 : Int32)) (by decide) rfl rfl (g := (mkF m 48 #[vr a1, vr a2, vi (0 : Int32), vi (2 : Int32), vN, vr b3_t] [(.int (0 : Int32)), (.ref a1)])) rfl rfl (hb hby d5_48)
  have N5 := Fr.snoc X5 N4 g_a1
  replace F_coder_a1 := F_coder_a1.same W5
  have nev_a1_a2 : a1 ≠ a2 := Exa.neArv E_a1 V_a2 (ww hw 15 rfl)
  replace F_value_a1 := F_value_a1.other W5 (Or.inr (slot_ne (Or.inr (ww hw 30 rfl)) (Or.inr (ww hw 31 rfl)) (by decide) (t := (.array .byte)) (t' := .byte) (by decide) (by decide)))
  replace E_a1 := E_a1.wr W5
  replace V_a2 := V_a2.other W5 (Ne.symm nev_a1_a2)
  replace V_t_3 := V_t_3.other W5 (Ne.symm ne_a1_b3_t)
  replace O0 := O0.wr W5 g_a1
  replace KC := KC.wr W5 (Or.inl (List.mem_of_getElem? (i := 0) rfl))
  obtain ⟨T6, h6, X6, e6, W6, st6⟩ := putF X5 hx hZ hown (host := "") (Or.inl (ww hw 34 rfl)) Via.refl e5 F_value_a1 E_a1 (Or.inr ⟨(ww hw 30 rfl), rfl, hnm⟩) (ww hw 15 rfl) (ty := (.array .byte)) (by decide) rfl rfl (g := (mkF m 54 #[vr a1, vr a2, vi (0 : Int32), vi (2 : Int32), vN, vr b3_t] [(.ref b3_t), (.ref a1)])) rfl rfl (hb hby d5_54)
  have N6 := Fr.snoc X6 N5 g_a1
  replace F_value_a1 := F_value_a1.same W6
  replace F_coder_a1 := F_coder_a1.other W6 (Or.inr (slot_ne (Or.inr (ww hw 31 rfl)) (Or.inr (ww hw 30 rfl)) (by decide) (t := .byte) (t' := (.array .byte)) (by decide) (by decide)))
  replace E_a1 := E_a1.wr W6
  replace V_a2 := V_a2.other W6 (Ne.symm nev_a1_a2)
  replace V_t_3 := V_t_3.other W6 (Ne.symm ne_a1_b3_t)
  replace O0 := O0.wr W6 g_a1
  replace KC := KC.wr W6 (Or.inl (List.mem_of_getElem? (i := 0) rfl))
  obtain ⟨fs, hr, hrun, hended, hW, hsame⟩ := X6.leave (v := none) (fun _ => rfl)
  refine ⟨_, _, pre0 _ ?_, hrun, hended, _, _, rfl, ?_, ⟨_, rfl⟩, hW, hsame.mono (by decide) (by decide)⟩
  · show SS p e below m s₁ 0 #[vr a1, vr a2, vi (0 : Int32), vi (2 : Int32), vN, un] [] _
    refine XS.aloadN X0.here hx rfl (hb hby d5_0) rfl rfl ?_
    show SS p e below m s₁ 1 #[vr a1, vr a2, vi (0 : Int32), vi (2 : Int32), vN, un] [(.ref a1)] _
    refine st1 _ ?_
    show SS p e below m T1 4 #[vr a1, vr a2, vi (0 : Int32), vi (2 : Int32), vN, un] [] _
    refine XS.iloadN X1.here hx rfl (hb hby d5_4) rfl ?_
    show SS p e below m T1 5 #[vr a1, vr a2, vi (0 : Int32), vi (2 : Int32), vN, un] [(.int (2 : Int32))] _
    refine XS.ifYes X1.here hx rfl (pc0 := 5) (pc' := 27) rfl (hb hby d5_5) rfl ((if0 _ _).trans (feq (by decide)).2) (by decide) (by decide) ?_
    show SS p e below m T1 27 #[vr a1, vr a2, vi (0 : Int32), vi (2 : Int32), vN, un] [] _
    refine st2 _ ?_
    show SS p e below m T2 30 #[vr a1, vr a2, vi (0 : Int32), vi (2 : Int32), vN, un] [(.int zc)] _
    refine XS.ifNo X2.here hx rfl (hb hby d5_30) rfl ((if0 _ _).trans (feq hz).1) ?_
    show SS p e below m T2 33 #[vr a1, vr a2, vi (0 : Int32), vi (2 : Int32), vN, un] [] _
    refine XS.aloadN X2.here hx rfl (hb hby d5_33) rfl rfl ?_
    show SS p e below m T2 34 #[vr a1, vr a2, vi (0 : Int32), vi (2 : Int32), vN, un] [(.ref a2)] _
    refine XS.iloadN X2.here hx rfl (hb hby d5_34) rfl ?_
    show SS p e below m T2 35 #[vr a1, vr a2, vi (0 : Int32), vi (2 : Int32), vN, un] [(.int (0 : Int32)), (.ref a2)] _
    refine XS.iloadN X2.here hx rfl (hb hby d5_35) rfl ?_
    show SS p e below m T2 36 #[vr a1, vr a2, vi (0 : Int32), vi (2 : Int32), vN, un] [(.int (2 : Int32)), (.int (0 : Int32)), (.ref a2)] _
    refine st3 _ ?_
    show SS p e below m T3 39 #[vr a1, vr a2, vi (0 : Int32), vi (2 : Int32), vN, un] [(.ref b3_t)] _
    refine XS.astore X3.here hx rfl (hb hby d5_39) rfl rfl (l' := #[vr a1, vr a2, vi (0 : Int32), vi (2 : Int32), vN, vr b3_t]) rfl ?_
    show SS p e below m T3 41 #[vr a1, vr a2, vi (0 : Int32), vi (2 : Int32), vN, vr b3_t] [] _
    refine XS.aloadN X3.here hx rfl (hb hby d5_41) rfl rfl ?_
    show SS p e below m T3 42 #[vr a1, vr a2, vi (0 : Int32), vi (2 : Int32), vN, vr b3_t] [(.ref a1)] _
    refine XS.aload X3.here hx rfl (hb hby d5_42) rfl rfl ?_
    show SS p e below m T3 44 #[vr a1, vr a2, vi (0 : Int32), vi (2 : Int32), vN, vr b3_t] [(.ref b3_t), (.ref a1)] _
    refine XS.iloadN X3.here hx rfl (hb hby d5_44) rfl ?_
    show SS p e below m T3 45 #[vr a1, vr a2, vi (0 : Int32), vi (2 : Int32), vN, vr b3_t] [(.int (2 : Int32)), (.ref b3_t), (.ref a1)] _
    refine st4 _ ?_
    show SS p e below m T4 48 #[vr a1, vr a2, vi (0 : Int32), vi (2 : Int32), vN, vr b3_t] [(.int (0 : Int32)), (.ref a1)] _
    refine st5 _ ?_
    show SS p e below m T5 51 #[vr a1, vr a2, vi (0 : Int32), vi (2 : Int32), vN, vr b3_t] [] _
    refine XS.aloadN X5.here hx rfl (hb hby d5_51) rfl rfl ?_
    show SS p e below m T5 52 #[vr a1, vr a2, vi (0 : Int32), vi (2 : Int32), vN, vr b3_t] [(.ref a1)] _
    refine XS.aload X5.here hx rfl (hb hby d5_52) rfl rfl ?_
    show SS p e below m T5 54 #[vr a1, vr a2, vi (0 : Int32), vi (2 : Int32), vN, vr b3_t] [(.ref b3_t), (.ref a1)] _
    refine st6 _ ?_
    show SS p e below m T6 57 #[vr a1, vr a2, vi (0 : Int32), vi (2 : Int32), vN, vr b3_t] [] _
    exact X6.returnOut hx Bd.returns (hb hby d5_57) hr
  · show Q_rmI42 Z a1 a2 kc x0 x1 zc h0 n0 _ T6.heap _
    rw [e6]
    exact ⟨b3_t, kb_3, rfl, N6, KC, sz_b3_t, F_value_a1, F_coder_a1, V_t_3⟩
theorem pd_10 : parseMethodDescriptor "([CIILjava/lang/Void;)V" = some ⟨[(.array .char), .int, .int, (.object "java/lang/Void")], none⟩ := by decide +kernel
theorem d4_0 : decode jdk_42_method_3_code 0 = .ok (.aload_n 0, 1) := by decide +kernel
theorem d4_1 : decode jdk_42_method_3_code 1 = .ok (.aload_n 1, 1) := by decide +kernel
theorem d4_2 : decode jdk_42_method_3_code 2 = .ok (.iconst 0, 1) := by decide +kernel
theorem d4_3 : decode jdk_42_method_3_code 3 = .ok (.aload_n 1, 1) := by decide +kernel
theorem d4_4 : decode jdk_42_method_3_code 4 = .ok (.arraylength, 1) := by decide +kernel
theorem d4_5 : decode jdk_42_method_3_code 5 = .ok (.aconst_null, 1) := by decide +kernel
theorem d4_6 : decode jdk_42_method_3_code 6 = .ok (.invokespecial 27, 3) := by decide +kernel
theorem d4_9 : decode jdk_42_method_3_code 9 = .ok (.return_, 1) := by decide +kernel
theorem ef_rmI12 (m : MethodId) (x0 : Addr) (x1 : Addr) : entryFrame m #[(.ref x0), (.ref x1)] 2 = mkF m 0 #[vr x0, vr x1] [] := by first | (simp [entryFrame, mkF, argsToLocals, Value.category]; done) | rfl
def Q_rmI12 (Z : State) (a1 : Addr) (a2 : Addr) (kc : ClassId) (x0 : Int32) (x1 : Int32) (zc : Int32) (h0 : Heap) (n0 : Nat) (v : Option Value) (h : Heap) (L : List Loc) : Prop := ∃ t : Addr, ∃ kb : ClassId, (v = none) ∧ (Fr n0 L) ∧ (Keep h0 h [a1]) ∧ (h0.size ≤ t) ∧ (Fld Z h a1 "java/lang/String" "value" "[B" (.ref t)) ∧ (Fld Z h a1 "java/lang/String" "coder" "B" (.int (0 : Int32))) ∧ (Arv Z h t kb .byte (2 : Int32) [(.int (own_b x0)), (.int (own_b x1))] (.int (0 : Int32)))
set_option maxRecDepth 65536 in
set_option maxHeartbeats 40000000 in
theorem rmI12 (l : Launch) (Z : State) (a0 : Array Value) (hw : ∀ d ∈ tables_1, d.before a0 Z = true) (ws : List Jvm.Cond) (a1 : Addr) (a2 : Addr) (kc : ClassId) (x0 : Int32) (x1 : Int32) (zc : Int32) (h0 : Heap) (n0 : Nat) (Z0 : n0 ≤ h0.size) (O0 : Old Z n0 h0) (F_value_a1 : Fld Z h0 a1 "java/lang/String" "value" "[B" .null) (F_coder_a1 : Fld Z h0 a1 "java/lang/String" "coder" "B" (.int (0 : Int32))) (E_a1 : Exa Z h0 a1 "java/lang/String") (g_a1 : n0 ≤ a1) (V_a2 : Arv Z h0 a2 kc .char (2 : Int32) [(.int x0), (.int x1)] (.int (0 : Int32))) (S_CS : Sta Z Z.heap "java/lang/String" "COMPACT_STRINGS" "Z" (.int zc)) (hz : ¬ zc = (0 : Int32)) (hx0 : ¬ (255 : Int32) < x0) (hx1 : ¬ (255 : Int32) < x1) :
    MetFree l y_15 (head1 (Jvm.Cond.code y_15 jdk_42_method_3_code 2 none :: ws) ({ frames := 3, cells := 1, slots := 2, locals := 52 } : Room)) (fun a U => a = #[(.ref a1), (.ref a2)] ∧ Z.Warmed39 U.vm ∧ U.heap = h0) (fun _ _ _ _ _ => True) (fun _ U o U' => ∃ v L, o = .returned v ∧ Q_rmI12 Z a1 a2 kc x0 x1 zc h0 n0 v U'.heap L ∧ FrameEnd U o U' L ({ frames := 3, cells := 1, slots := 2, locals := 52 } : Room).cells ({ frames := 3, cells := 1, slots := 2, locals := 52 } : Room).slots) := by
  refine MetFree.of_bodySF (plainFor_of_name pn_4) hisR ?_
  intro p e s m args below meth c s₁ Bd hml0 hP hK
  obtain ⟨rfl, hZ, hh⟩ := hP
  have hx := Bd.exec
  have hby := Bd.bytes
  have hml : c.maxLocals = 2 := hml0
  have hown : s.vm.findClass "java/lang/String" = some m.cls := findClass_of_methodNamed Bd.named
  have hnm := (name_of_methodNamed Bd.named Bd.method).1
  have X0 : Stand p l e ({ frames := 3, cells := 1, slots := 2, locals := 52 } : Room) s m #[(.ref a1), (.ref a2)] below meth c s₁ [] 0 0 := Stand.of_body Bd
  have e0 : s₁.heap = h0 := by rw [← hh, Bd.state]; rfl
  have N0 := Fr.nil n0
  have KC : Keep h0 h0 [a1] := Keep.refl h0 _
  have pre0 : ∀ t, Steps p.tables e below (s₁.setTop (mkF m 0 #[vr a1, vr a2] [])) t → Steps p.tables e below (s₁.setTop (entryFrame m #[(.ref a1), (.ref a2)] 2)) t := fun t k => castTop (ef_rmI12 m a1 a2) k
  have Vo1 := V_a2
  obtain ⟨cl1, Ar1, -, Sz1, Nn1, -, -⟩ := Vo1
  have ia1 := State.isArrayOf_alike hZ.alike Ar1.2.1
  obtain ⟨_, _, ⟨T2, L2, k2, n2⟩, -, X2, ⟨Lc2, hQ2, l2, y2, z2⟩, st2⟩ := X0.specialBack hx (y := y_14) rfl hown (mvT hZ (ww hw 21 rfl)) (mvT hZ (ww hw 22 rfl)) (mvT hZ (ww hw 24 rfl)) (by decide) (backOf (W := 0) (rmI42 l Z a0 hw [] a1 a2 kc x0 x1 zc h0 n0 (Nat.le_trans Z0 KC.1) O0 F_value_a1 F_coder_a1 E_a1 g_a1 V_a2 S_CS (by first | assumption | decide | omega) (by first | assumption | decide | omega) (by first | assumption | decide | omega)) hZ (ww hw 24 rfl) (ww hw 16 rfl) (by decide) (by decide)) (g := (mkF m 6 #[vr a1, vr a2] [.null, (.int (2 : Int32)), (.int (0 : Int32)), (.ref a2), (.ref a1)])) rfl (by rw [hml]; rfl) (Steps.refl _) (a := a1) (argsL := [(.ref a2), (.int (0 : Int32)), (.int (2 : Int32)), .null]) (rest := []) (lenOf pd_10 rfl) rfl (by show 2 * 0 + _ ≤ _; exact Nat.le_of_eq rfl) (hb hby d4_6) (fun _ _ => ⟨rfl, e0, (by decide : 0 + 1 ≤ _), (by decide : 0 + 2 ≤ _)⟩)
  dsimp only [Pt.U, Pt.locs, Pt.cells, Pt.slots] at X2 l2 y2 z2 st2 hQ2
  subst l2 y2 z2
  obtain ⟨b2_t, kb_2, rfl, N2q, K2, sz_b2_t, F_value_a1_2, F_coder_a1_2, V_t_2⟩ := hQ2
  have N2 := Fr.app N0 N2q
  have ne_a1_b2_t : a1 ≠ b2_t := Nat.ne_of_lt (Nat.lt_of_lt_of_le F_value_a1.lt sz_b2_t)
  have ne_a2_b2_t : a2 ≠ b2_t := Nat.ne_of_lt (Nat.lt_of_lt_of_le V_a2.lt sz_b2_t)
  have g_b2_t : n0 ≤ b2_t := Nat.le_trans (Nat.le_trans Z0 KC.1) sz_b2_t
  replace sz_b2_t : h0.size ≤ b2_t := Nat.le_trans KC.1 sz_b2_t
  have nev_a1_a2 : a1 ≠ a2 := Exa.neArv E_a1 V_a2 (ww hw 15 rfl)
  replace E_a1 := E_a1.keep K2
  replace V_a2 := V_a2.keep K2 (ninS (Ne.symm nev_a1_a2) nin0)
  replace O0 := O0.keep K2 (allS g_a1 all0)
  replace KC := KC.trans K2 (allS (Or.inl (List.mem_of_getElem? (i := 0) rfl)) all0)
  obtain ⟨fs, hr, hrun, hended, hW, hsame⟩ := X2.leave (v := none) (fun _ => rfl)
  refine ⟨_, _, pre0 _ ?_, hrun, hended, _, _, rfl, ?_, ⟨_, rfl⟩, hW, hsame.mono (by decide) (by decide)⟩
  · show SS p e below m s₁ 0 #[vr a1, vr a2] [] _
    refine XS.aloadN X0.here hx rfl (hb hby d4_0) rfl rfl ?_
    show SS p e below m s₁ 1 #[vr a1, vr a2] [(.ref a1)] _
    refine XS.aloadN X0.here hx rfl (hb hby d4_1) rfl rfl ?_
    show SS p e below m s₁ 2 #[vr a1, vr a2] [(.ref a2), (.ref a1)] _
    refine XS.iconst X0.here hx rfl (hb hby d4_2) ?_
    show SS p e below m s₁ 3 #[vr a1, vr a2] [(.int (0 : Int32)), (.ref a2), (.ref a1)] _
    refine XS.aloadN X0.here hx rfl (hb hby d4_3) rfl rfl ?_
    show SS p e below m s₁ 4 #[vr a1, vr a2] [(.ref a2), (.int (0 : Int32)), (.ref a2), (.ref a1)] _
    refine X0.arraylength hx (by rw [e0]; exact Ar1.1) ia1 (g := (mkF m 4 #[vr a1, vr a2] [(.ref a2), (.int (0 : Int32)), (.ref a2), (.ref a1)])) rfl rfl (hb hby d4_4) _ ?_
    rw [len_of Sz1 Nn1]
    show SS p e below m s₁ 5 #[vr a1, vr a2] [(.int (2 : Int32)), (.int (0 : Int32)), (.ref a2), (.ref a1)] _
    refine XS.aconstNull X0.here hx rfl (hb hby d4_5) ?_
    show SS p e below m s₁ 6 #[vr a1, vr a2] [.null, (.int (2 : Int32)), (.int (0 : Int32)), (.ref a2), (.ref a1)] _
    refine st2.trans ?_
    show SS p e below m T2 9 #[vr a1, vr a2] [] _
    exact X2.returnOut hx Bd.returns (hb hby d4_9) hr
  · show Q_rmI12 Z a1 a2 kc x0 x1 zc h0 n0 _ T2.heap _
    exact ⟨b2_t, kb_2, rfl, N2, KC, sz_b2_t, F_value_a1_2, F_coder_a1_2, V_t_2⟩
theorem d5_8 : decode jdk_42_method_149_code 8 = .ok (.aload_n 0, 1) := by decide +kernel
theorem d5_9 : decode jdk_42_method_149_code 9 = .ok (.ldc 7, 2) := by decide +kernel
theorem d5_11 : decode jdk_42_method_149_code 11 = .ok (.getfield 9, 3) := by decide +kernel
theorem d5_14 : decode jdk_42_method_149_code 14 = .ok (.putfield 9, 3) := by decide +kernel
theorem d5_17 : decode jdk_42_method_149_code 17 = .ok (.aload_n 0, 1) := by decide +kernel
theorem d5_18 : decode jdk_42_method_149_code 18 = .ok (.ldc 7, 2) := by decide +kernel
theorem d5_20 : decode jdk_42_method_149_code 20 = .ok (.getfield 15, 3) := by decide +kernel
theorem d5_23 : decode jdk_42_method_149_code 23 = .ok (.putfield 15, 3) := by decide +kernel
theorem d5_26 : decode jdk_42_method_149_code 26 = .ok (.return_, 1) := by decide +kernel
theorem ef_rmI40 (m : MethodId) (x0 : Addr) (x1 : Addr) (x2 : Int32) (x3 : Int32) : entryFrame m #[(.ref x0), (.ref x1), (.int x2), (.int x3), .null] 6 = mkF m 0 #[vr x0, vr x1, vi x2, vi x3, vN, .unset] [] := by first | (simp [entryFrame, mkF, argsToLocals, Value.category]; done) | rfl
def Q_rmI40 (Z : State) (a1 : Addr) (a2 : Addr) (h0 : Heap) (n0 : Nat) (v : Option Value) (h : Heap) (L : List Loc) : Prop := ∃ t : Addr, ∃ kb : ClassId, (v = none) ∧ (Fr n0 L) ∧ (Keep h0 h [a1]) ∧ (Fld Z h a1 "java/lang/String" "value" "[B" (.ref t)) ∧ (Fld Z h a1 "java/lang/String" "coder" "B" (.int (0 : Int32))) ∧ (Arv Z h t kb .byte (0 : Int32) [] (.int (0 : Int32)))
set_option maxRecDepth 65536 in
set_option maxHeartbeats 40000000 in
theorem rmI40 (l : Launch) (Z : State) (a0 : Array Value) (hw : ∀ d ∈ tables_1, d.before a0 Z = true) (ws : List Jvm.Cond) (a1 : Addr) (a2 : Addr) (h0 : Heap) (n0 : Nat) (Z0 : n0 ≤ h0.size) (O0 : Old Z n0 h0) (F_value_a1 : Fld Z h0 a1 "java/lang/String" "value" "[B" .null) (F_coder_a1 : Fld Z h0 a1 "java/lang/String" "coder" "B" (.int (0 : Int32))) (E_a1 : Exa Z h0 a1 "java/lang/String") (g_a1 : n0 ≤ a1) :
    MetFree l y_14 (head1 (Jvm.Cond.code y_14 jdk_42_method_149_code 6 none :: ws) ({ frames := 1, cells := 4, slots := 8, locals := 12 } : Room)) (fun a U => a = #[(.ref a1), (.ref a2), (.int (0 : Int32)), (.int (0 : Int32)), .null] ∧ Z.Warmed39 U.vm ∧ U.heap = h0 ∧ CHv Z EL U.vm h0) (fun _ _ _ _ _ => True) (fun _ U o U' => ∃ v L, o = .returned v ∧ Q_rmI40 Z a1 a2 h0 n0 v U'.heap L ∧ CHr Z EL U.vm U.heap U'.vm U'.heap ∧ ReturnedEndW U o U' L ({ frames := 1, cells := 4, slots := 8, locals := 12 } : Room).cells ({ frames := 1, cells := 4, slots := 8, locals := 12 } : Room).slots) := by
  refine MetFree.of_bodySF (plainFor_of_name pn_4) hisR ?_
  intro p e s m args below meth c s₁ Bd hml0 hP hK
  obtain ⟨rfl, hZ0, hh, hC0⟩ := hP
  have hx := Bd.exec
  have hby := Bd.bytes
  have hml : c.maxLocals = 6 := hml0
  have hown : (s.setVm s.vm).vm.findClass "java/lang/String" = some m.cls := findClass_of_methodNamed Bd.named
  have hnm := (name_of_methodNamed Bd.named Bd.method).1
  have X0 : Stand p l e ({ frames := 1, cells := 4, slots := 8, locals := 12 } : Room) (s.setVm s.vm) m #[(.ref a1), (.ref a2), (.int (0 : Int32)), (.int (0 : Int32)), .null] below meth c s₁ [] 0 0 := Stand.of_body Bd
  have e0 : s₁.heap = h0 := by rw [← hh, Bd.state]; rfl
  have N0 := Fr.nil n0
  have KC : Keep h0 h0 [a1] := Keep.refl h0 _
  have pre0 : ∀ t, Steps p.tables e below (s₁.setTop (mkF m 0 #[vr a1, vr a2, vi (0 : Int32), vi (0 : Int32), vN, un] [])) t → Steps p.tables e below (s₁.setTop (entryFrame m #[(.ref a1), (.ref a2), (.int (0 : Int32)), (.int (0 : Int32)), .null] 6)) t := fun t k => castTop (ef_rmI40 m a1 a2 (0 : Int32) (0 : Int32)) k
  have hZ : Z.Warmed39 (s.setVm s.vm).vm := hZ0
  have hEL := own_hEL hw
  have wS := own_wS hw
  have hS : s.Since s.vm 0 := (State.WarmedH.refl s).since 0
  have hk : 0 ≤ h0.size := Nat.zero_le _
  have hC : CHr Z EL s.vm h0 s.vm h0 := CHr.refl hC0
  obtain ⟨T1, X1, e1, st1⟩ := initO X0 hx hZ hown (ww hw 25 rfl) (ww hw 26 rfl) (ww hw 27 rfl) e0 (g := (mkF m 1 #[vr a1, vr a2, vi (0 : Int32), vi (0 : Int32), vN, un] [(.ref a1)])) rfl (by rw [hml]; rfl) rfl (hb hby d5_1) (by decide) (W := 0) (by show 2 * 0 + _ ≤ _; exact Nat.le_of_eq rfl) (by decide)
  have Sf_a1 := (own_safe (EL := EL) hZ.alike E_a1 F_value_a1)
  obtain ⟨sa2, T2, h2, kx2, sb2, kc2, X2, e2, E2, hS2, hk2, hZ2, hown2, Ex2, Fc2, Fv2, Vv2, -, -, C2, -, nx2, st2⟩ := ldcCH X1 hx hZ hown (ww hw 28 rfl) wS e1 hS hk hEL (by decide) hC.1 (vs := []) (z := (0 : Int32)) ⟨by decide, by first | rfl | decide⟩ (by decide) (by first | rfl | decide) (g := (mkF m 9 #[vr a1, vr a2, vi (0 : Int32), vi (0 : Int32), vN, un] [(.ref a1)])) rfl (hb hby d5_9) (n := 0) (by decide) (by decide) (by decide) (by decide)
  replace Sf_a1 := C2.safe E_a1.lt Sf_a1
  replace F_value_a1 := F_value_a1.ext E2
  replace F_coder_a1 := F_coder_a1.ext E2
  replace E_a1 := E_a1.ext E2
  replace O0 := O0.ext E2
  replace KC := KC.ext E2
  replace hC := hC.trans C2
  replace hZ := hZ2
  replace hown := hown2
  replace hS := hS2
  replace hk := hk2
  have nx2_a1 := nx2 _ Sf_a1
  obtain ⟨T3, X3, e3, st3⟩ := getF X2 hx hZ hown (host := "") (Or.inl (ww hw 34 rfl)) Via.refl e2 Fv2 (g := (mkF m 11 #[vr a1, vr a2, vi (0 : Int32), vi (0 : Int32), vN, un] [(.ref sa2), (.ref a1)])) rfl rfl (hb hby d5_11)
  obtain ⟨T4, h4, X4, e4, W4, st4⟩ := putF X3 hx hZ hown (host := "") (Or.inl (ww hw 34 rfl)) Via.refl e3 F_value_a1 E_a1 (Or.inr ⟨(ww hw 30 rfl), rfl, hnm⟩) (ww hw 15 rfl) (ty := (.array .byte)) (by decide) rfl rfl (g := (mkF m 14 #[vr a1, vr a2, vi (0 : Int32), vi (0 : Int32), vN, un] [(.ref sb2), (.ref a1)])) rfl rfl (hb hby d5_14)
  have N4 := Fr.snoc X4 N0 g_a1
  replace F_value_a1 := F_value_a1.same W4
  have SfW4 := Sf_a1
  replace Sf_a1 := Safe.wr W4 Sf_a1 hC.1 Sf_a1
  replace hk := Nat.le_trans hk (Keep.of_wr W4).1
  replace hC := hC.trans (CHr.wr W4 SfW4 hC.1)
  replace F_coder_a1 := F_coder_a1.other W4 (Or.inr (slot_ne (Or.inr (ww hw 31 rfl)) (Or.inr (ww hw 30 rfl)) (by decide) (t := .byte) (t' := (.array .byte)) (by decide) (by decide)))
  replace E_a1 := E_a1.wr W4
  replace Ex2 := Ex2.wr W4
  replace Fc2 := Fc2.other W4 (Or.inl (Ne.symm nx2_a1.1))
  replace Fv2 := Fv2.other W4 (Or.inl (Ne.symm nx2_a1.1))
  replace Vv2 := Vv2.other W4 (Ne.symm nx2_a1.2)
  replace O0 := O0.wr W4 g_a1
  replace KC := KC.wr W4 (Or.inl (List.mem_of_getElem? (i := 0) rfl))
  obtain ⟨sa5, T5, h5, kx5, sb5, kc5, X5, e5, E5, hS5, hk5, hZ5, hown5, Ex5, Fc5, Fv5, Vv5, -, -, C5, -, nx5, st5⟩ := ldcCH X4 hx hZ hown (ww hw 28 rfl) wS e4 hS hk hEL (by decide) hC.1 (vs := []) (z := (0 : Int32)) ⟨by decide, by first | rfl | decide⟩ (by decide) (by first | rfl | decide) (g := (mkF m 18 #[vr a1, vr a2, vi (0 : Int32), vi (0 : Int32), vN, un] [(.ref a1)])) rfl (hb hby d5_18) (n := 0) (by decide) (by decide) (by decide) (by decide)
  replace Sf_a1 := C5.safe E_a1.lt Sf_a1
  replace F_value_a1 := F_value_a1.ext E5
  replace F_coder_a1 := F_coder_a1.ext E5
  replace E_a1 := E_a1.ext E5
  replace Ex2 := Ex2.ext E5
  replace Fc2 := Fc2.ext E5
  replace Fv2 := Fv2.ext E5
  replace Vv2 := Vv2.ext E5
  replace O0 := O0.ext E5
  replace KC := KC.ext E5
  replace hC := hC.trans C5
  replace hZ := hZ5
  replace hown := hown5
  replace hS := hS5
  replace hk := hk5
  have nx5_a1 := nx5 _ Sf_a1
  obtain ⟨T6, X6, e6, st6⟩ := getF X5 hx hZ hown (host := "") (Or.inl (ww hw 35 rfl)) Via.refl e5 Fc5 (g := (mkF m 20 #[vr a1, vr a2, vi (0 : Int32), vi (0 : Int32), vN, un] [(.ref sa5), (.ref a1)])) rfl rfl (hb hby d5_20)
  obtain ⟨T7, h7, X7, e7, W7, st7⟩ := putFN X6 hx hZ hown (ww hw 35 rfl) Via.refl e6 F_coder_a1 E_a1 (Or.inr ⟨(ww hw 31 rfl), rfl, hnm⟩) (ww hw 15 rfl) (ty := .byte) (v' := .int (0 : Int32)) (by decide) rfl rfl (g := (mkF m 23 #[vr a1, vr a2, vi (0 : Int32), vi (0 : Int32), vN, un] [(.int (0 : Int32)), (.ref a1)])) rfl rfl (hb hby d5_23)
  have N7 := Fr.snoc X7 N4 g_a1
  replace F_coder_a1 := F_coder_a1.same W7
  have SfW7 := Sf_a1
  replace Sf_a1 := Safe.wr W7 Sf_a1 hC.1 Sf_a1
  replace hk := Nat.le_trans hk (Keep.of_wr W7).1
  replace hC := hC.trans (CHr.wr W7 SfW7 hC.1)
  replace F_value_a1 := F_value_a1.other W7 (Or.inr (slot_ne (Or.inr (ww hw 30 rfl)) (Or.inr (ww hw 31 rfl)) (by decide) (t := (.array .byte)) (t' := .byte) (by decide) (by decide)))
  replace E_a1 := E_a1.wr W7
  replace Ex2 := Ex2.wr W7
  replace Fc2 := Fc2.other W7 (Or.inl (Ne.symm nx2_a1.1))
  replace Fv2 := Fv2.other W7 (Or.inl (Ne.symm nx2_a1.1))
  replace Vv2 := Vv2.other W7 (Ne.symm nx2_a1.2)
  replace Ex5 := Ex5.wr W7
  replace Fc5 := Fc5.other W7 (Or.inl (Ne.symm nx5_a1.1))
  replace Fv5 := Fv5.other W7 (Or.inl (Ne.symm nx5_a1.1))
  replace Vv5 := Vv5.other W7 (Ne.symm nx5_a1.2)
  replace O0 := O0.wr W7 g_a1
  replace KC := KC.wr W7 (Or.inl (List.mem_of_getElem? (i := 0) rfl))
  obtain ⟨fs, hr, hrun, hended, hRE⟩ := X7.leaveW hS (by rw [e7]; exact hk) (v := none) (fun _ => rfl)
  refine ⟨_, _, pre0 _ ?_, hrun, hended, _, _, rfl, ?_, ?_, hRE.1, hRE.2.1, hRE.2.2.1, hRE.2.2.2.mono (by decide) (by decide)⟩
  · show SS p e below m s₁ 0 #[vr a1, vr a2, vi (0 : Int32), vi (0 : Int32), vN, un] [] _
    refine XS.aloadN X0.here hx rfl (hb hby d5_0) rfl rfl ?_
    show SS p e below m s₁ 1 #[vr a1, vr a2, vi (0 : Int32), vi (0 : Int32), vN, un] [(.ref a1)] _
    refine st1 _ ?_
    show SS p e below m T1 4 #[vr a1, vr a2, vi (0 : Int32), vi (0 : Int32), vN, un] [] _
    refine XS.iloadN X1.here hx rfl (hb hby d5_4) rfl ?_
    show SS p e below m T1 5 #[vr a1, vr a2, vi (0 : Int32), vi (0 : Int32), vN, un] [(.int (0 : Int32))] _
    refine XS.ifNo X1.here hx rfl (hb hby d5_5) rfl ((if0 _ _).trans (teq (by decide)).2) ?_
    show SS p e below m T1 8 #[vr a1, vr a2, vi (0 : Int32), vi (0 : Int32), vN, un] [] _
    refine XS.aloadN X1.here hx rfl (hb hby d5_8) rfl rfl ?_
    show SS p e below m T1 9 #[vr a1, vr a2, vi (0 : Int32), vi (0 : Int32), vN, un] [(.ref a1)] _
    refine st2 _ ?_
    show SS p e below m T2 11 #[vr a1, vr a2, vi (0 : Int32), vi (0 : Int32), vN, un] [(.ref sa2), (.ref a1)] _
    refine st3 _ ?_
    show SS p e below m T3 14 #[vr a1, vr a2, vi (0 : Int32), vi (0 : Int32), vN, un] [(.ref sb2), (.ref a1)] _
    refine st4 _ ?_
    show SS p e below m T4 17 #[vr a1, vr a2, vi (0 : Int32), vi (0 : Int32), vN, un] [] _
    refine XS.aloadN X4.here hx rfl (hb hby d5_17) rfl rfl ?_
    show SS p e below m T4 18 #[vr a1, vr a2, vi (0 : Int32), vi (0 : Int32), vN, un] [(.ref a1)] _
    refine st5 _ ?_
    show SS p e below m T5 20 #[vr a1, vr a2, vi (0 : Int32), vi (0 : Int32), vN, un] [(.ref sa5), (.ref a1)] _
    refine st6 _ ?_
    show SS p e below m T6 23 #[vr a1, vr a2, vi (0 : Int32), vi (0 : Int32), vN, un] [(.int (0 : Int32)), (.ref a1)] _
    refine st7 _ ?_
    show SS p e below m T7 26 #[vr a1, vr a2, vi (0 : Int32), vi (0 : Int32), vN, un] [] _
    exact X7.returnOut hx Bd.returns (hb hby d5_26) hr
  · show Q_rmI40 Z a1 a2 h0 n0 _ T7.heap _
    rw [e7]
    exact ⟨sb2, kc2, rfl, N7, KC, F_value_a1, F_coder_a1, Vv2⟩
  · show CHr Z EL s.vm s.heap T7.vm T7.heap
    rw [hh, e7]
    exact hC.trans (CHv.at X7 hZ hEL hC.1)
theorem ef_rmI10 (m : MethodId) (x0 : Addr) (x1 : Addr) : entryFrame m #[(.ref x0), (.ref x1)] 2 = mkF m 0 #[vr x0, vr x1] [] := by first | (simp [entryFrame, mkF, argsToLocals, Value.category]; done) | rfl
def Q_rmI10 (Z : State) (a1 : Addr) (a2 : Addr) (kc : ClassId) (h0 : Heap) (n0 : Nat) (v : Option Value) (h : Heap) (L : List Loc) : Prop := ∃ t : Addr, ∃ kb : ClassId, (v = none) ∧ (Fr n0 L) ∧ (Keep h0 h [a1]) ∧ (Fld Z h a1 "java/lang/String" "value" "[B" (.ref t)) ∧ (Fld Z h a1 "java/lang/String" "coder" "B" (.int (0 : Int32))) ∧ (Arv Z h t kb .byte (0 : Int32) [] (.int (0 : Int32)))
set_option maxRecDepth 65536 in
set_option maxHeartbeats 40000000 in
theorem rmI10 (l : Launch) (Z : State) (a0 : Array Value) (hw : ∀ d ∈ tables_1, d.before a0 Z = true) (ws : List Jvm.Cond) (a1 : Addr) (a2 : Addr) (kc : ClassId) (h0 : Heap) (n0 : Nat) (Z0 : n0 ≤ h0.size) (O0 : Old Z n0 h0) (F_value_a1 : Fld Z h0 a1 "java/lang/String" "value" "[B" .null) (F_coder_a1 : Fld Z h0 a1 "java/lang/String" "coder" "B" (.int (0 : Int32))) (E_a1 : Exa Z h0 a1 "java/lang/String") (g_a1 : n0 ≤ a1) (V_a2 : Arv Z h0 a2 kc .char (0 : Int32) [] (.int (0 : Int32))) :
    MetFree l y_15 (head1 (Jvm.Cond.code y_15 jdk_42_method_3_code 2 none :: ws) ({ frames := 2, cells := 4, slots := 8, locals := 29 } : Room)) (fun a U => a = #[(.ref a1), (.ref a2)] ∧ Z.Warmed39 U.vm ∧ U.heap = h0 ∧ CHv Z EL U.vm h0) (fun _ _ _ _ _ => True) (fun _ U o U' => ∃ v L, o = .returned v ∧ Q_rmI10 Z a1 a2 kc h0 n0 v U'.heap L ∧ CHr Z EL U.vm U.heap U'.vm U'.heap ∧ ReturnedEndW U o U' L ({ frames := 2, cells := 4, slots := 8, locals := 29 } : Room).cells ({ frames := 2, cells := 4, slots := 8, locals := 29 } : Room).slots) := by
  refine MetFree.of_bodySF (plainFor_of_name pn_4) hisR ?_
  intro p e s m args below meth c s₁ Bd hml0 hP hK
  obtain ⟨rfl, hZ0, hh, hC0⟩ := hP
  have hx := Bd.exec
  have hby := Bd.bytes
  have hml : c.maxLocals = 2 := hml0
  have hown : (s.setVm s.vm).vm.findClass "java/lang/String" = some m.cls := findClass_of_methodNamed Bd.named
  have hnm := (name_of_methodNamed Bd.named Bd.method).1
  have X0 : Stand p l e ({ frames := 2, cells := 4, slots := 8, locals := 29 } : Room) (s.setVm s.vm) m #[(.ref a1), (.ref a2)] below meth c s₁ [] 0 0 := Stand.of_body Bd
  have e0 : s₁.heap = h0 := by rw [← hh, Bd.state]; rfl
  have N0 := Fr.nil n0
  have KC : Keep h0 h0 [a1] := Keep.refl h0 _
  have pre0 : ∀ t, Steps p.tables e below (s₁.setTop (mkF m 0 #[vr a1, vr a2] [])) t → Steps p.tables e below (s₁.setTop (entryFrame m #[(.ref a1), (.ref a2)] 2)) t := fun t k => castTop (ef_rmI10 m a1 a2) k
  have hZ : Z.Warmed39 (s.setVm s.vm).vm := hZ0
  have hEL := own_hEL hw
  have wS := own_wS hw
  have hS : s.Since s.vm 0 := (State.WarmedH.refl s).since 0
  have hk : 0 ≤ h0.size := Nat.zero_le _
  have hC : CHr Z EL s.vm h0 s.vm h0 := CHr.refl hC0
  have Vo1 := V_a2
  obtain ⟨cl1, Ar1, -, Sz1, Nn1, -, -⟩ := Vo1
  have ia1 := State.isArrayOf_alike hZ.alike Ar1.2.1
  obtain ⟨_, _, ⟨T2, L2, k2, n2⟩, -, X2, hS2, gr2, ⟨Lc2, hQ2, l2, y2, z2, C2⟩, st2⟩ := X0.specialBackS hx (y := y_14) rfl hown (mvT hZ (ww hw 21 rfl)) (mvT hZ (ww hw 22 rfl)) (mvT hZ (ww hw 24 rfl)) (by decide) (backOfSH (W := 0) (rmI40 l Z a0 hw [] a1 a2 h0 n0 (Nat.le_trans Z0 KC.1) O0 F_value_a1 F_coder_a1 E_a1 g_a1) hZ (ww hw 24 rfl) (ww hw 16 rfl) (by decide) (by decide) hEL hC.1) (g := (mkF m 6 #[vr a1, vr a2] [.null, (.int (0 : Int32)), (.int (0 : Int32)), (.ref a2), (.ref a1)])) rfl (by rw [hml]; rfl) (Steps.refl _) (a := a1) (argsL := [(.ref a2), (.int (0 : Int32)), (.int (0 : Int32)), .null]) (rest := []) (lenOf pd_10 rfl) rfl (by show 2 * 0 + _ ≤ _; exact Nat.le_of_eq rfl) (hb hby d4_6) (fun _ _ => ⟨rfl, e0, (by decide : 0 + 4 ≤ _), (by decide : 0 + 8 ≤ _)⟩)
  dsimp only [Pt.U, Pt.locs, Pt.cells, Pt.slots] at X2 l2 y2 z2 st2 hQ2 hS2 gr2 C2
  subst l2 y2 z2
  rw [e0] at gr2
  obtain ⟨Xr2, hSr2, hZr2, hownr2⟩ := rebS hS hk X2 hS2 gr2 hZ hown
  replace hC := hC.trans C2
  replace hZ := hZr2
  replace hown := hownr2
  replace hS := hSr2
  replace hk : T2.heap.size ≤ T2.heap.size := Nat.le_refl _
  replace X2 := Xr2
  obtain ⟨t_2, kb_2, rfl, N2q, K2, F_value_a1_2, F_coder_a1_2, V_t_2⟩ := hQ2
  have N2 := Fr.app N0 N2q
  have nev_a1_a2 : a1 ≠ a2 := Exa.neArv E_a1 V_a2 (ww hw 15 rfl)
  replace E_a1 := E_a1.keep K2
  replace V_a2 := V_a2.keep K2 (ninS (Ne.symm nev_a1_a2) nin0)
  replace O0 := O0.keep K2 (allS g_a1 all0)
  replace KC := KC.trans K2 (allS (Or.inl (List.mem_of_getElem? (i := 0) rfl)) all0)
  obtain ⟨fs, hr, hrun, hended, hRE⟩ := X2.leaveW hS hk (v := none) (fun _ => rfl)
  refine ⟨_, _, pre0 _ ?_, hrun, hended, _, _, rfl, ?_, ?_, hRE.1, hRE.2.1, hRE.2.2.1, hRE.2.2.2.mono (by decide) (by decide)⟩
  · show SS p e below m s₁ 0 #[vr a1, vr a2] [] _
    refine XS.aloadN X0.here hx rfl (hb hby d4_0) rfl rfl ?_
    show SS p e below m s₁ 1 #[vr a1, vr a2] [(.ref a1)] _
    refine XS.aloadN X0.here hx rfl (hb hby d4_1) rfl rfl ?_
    show SS p e below m s₁ 2 #[vr a1, vr a2] [(.ref a2), (.ref a1)] _
    refine XS.iconst X0.here hx rfl (hb hby d4_2) ?_
    show SS p e below m s₁ 3 #[vr a1, vr a2] [(.int (0 : Int32)), (.ref a2), (.ref a1)] _
    refine XS.aloadN X0.here hx rfl (hb hby d4_3) rfl rfl ?_
    show SS p e below m s₁ 4 #[vr a1, vr a2] [(.ref a2), (.int (0 : Int32)), (.ref a2), (.ref a1)] _
    refine X0.arraylength hx (by rw [e0]; exact Ar1.1) ia1 (g := (mkF m 4 #[vr a1, vr a2] [(.ref a2), (.int (0 : Int32)), (.ref a2), (.ref a1)])) rfl rfl (hb hby d4_4) _ ?_
    rw [len_of Sz1 Nn1]
    show SS p e below m s₁ 5 #[vr a1, vr a2] [(.int (0 : Int32)), (.int (0 : Int32)), (.ref a2), (.ref a1)] _
    refine XS.aconstNull X0.here hx rfl (hb hby d4_5) ?_
    show SS p e below m s₁ 6 #[vr a1, vr a2] [.null, (.int (0 : Int32)), (.int (0 : Int32)), (.ref a2), (.ref a1)] _
    refine st2.trans ?_
    show SS p e below m T2 9 #[vr a1, vr a2] [] _
    exact X2.returnOut hx Bd.returns (hb hby d4_9) hr
  · show Q_rmI10 Z a1 a2 kc h0 n0 _ T2.heap _
    exact ⟨t_2, kb_2, rfl, N2, KC, F_value_a1_2, F_coder_a1_2, V_t_2⟩
  · show CHr Z EL s.vm s.heap T2.vm T2.heap
    rw [hh]
    exact hC.trans (CHv.at X2 hZ hEL hC.1)
theorem pd_11 : parseMethodDescriptor "([C)V" = some ⟨[(.array .char)], none⟩ := by decide +kernel
theorem pd_12 : parseMethodDescriptor "(C)Ljava/lang/String;" = some ⟨[.char], some (.object "java/lang/String")⟩ := by decide +kernel
theorem d1_0 : decode method_5_code 0 = .ok (.iload_n 0, 1) := by decide +kernel
theorem d1_1 : decode method_5_code 1 = .ok (.invokestatic 13, 3) := by decide +kernel
theorem d1_4 : decode method_5_code 4 = .ok (.istore_n 1, 1) := by decide +kernel
theorem d1_5 : decode method_5_code 5 = .ok (.iload_n 1, 1) := by decide +kernel
theorem d1_6 : decode method_5_code 6 = .ok (.ifCond .ne 14, 3) := by decide +kernel
theorem d1_9 : decode method_5_code 9 = .ok (.new 19, 3) := by decide +kernel
theorem d1_12 : decode method_5_code 12 = .ok (.dup, 1) := by decide +kernel
theorem d1_13 : decode method_5_code 13 = .ok (.iconst 0, 1) := by decide +kernel
theorem d1_14 : decode method_5_code 14 = .ok (.newarray .char, 2) := by decide +kernel
theorem d1_16 : decode method_5_code 16 = .ok (.invokespecial 21, 3) := by decide +kernel
theorem d1_19 : decode method_5_code 19 = .ok (.areturn, 1) := by decide +kernel
theorem d1_20 : decode method_5_code 20 = .ok (.iload_n 1, 1) := by decide +kernel
theorem d1_21 : decode method_5_code 21 = .ok (.iconst 1, 1) := by decide +kernel
theorem d1_22 : decode method_5_code 22 = .ok (.if_icmp .ne 11, 3) := by decide +kernel
theorem d1_25 : decode method_5_code 25 = .ok (.iload_n 0, 1) := by decide +kernel
theorem d1_26 : decode method_5_code 26 = .ok (.invokestatic 24, 3) := by decide +kernel
theorem d1_29 : decode method_5_code 29 = .ok (.invokestatic 28, 3) := by decide +kernel
theorem d1_32 : decode method_5_code 32 = .ok (.areturn, 1) := by decide +kernel
theorem d1_33 : decode method_5_code 33 = .ok (.new 19, 3) := by decide +kernel
theorem d1_36 : decode method_5_code 36 = .ok (.dup, 1) := by decide +kernel
theorem d1_37 : decode method_5_code 37 = .ok (.iconst 2, 1) := by decide +kernel
theorem d1_38 : decode method_5_code 38 = .ok (.newarray .char, 2) := by decide +kernel
theorem d1_40 : decode method_5_code 40 = .ok (.dup, 1) := by decide +kernel
theorem d1_41 : decode method_5_code 41 = .ok (.iconst 0, 1) := by decide +kernel
theorem d1_42 : decode method_5_code 42 = .ok (.iload_n 0, 1) := by decide +kernel
theorem d1_43 : decode method_5_code 43 = .ok (.invokestatic 24, 3) := by decide +kernel
theorem d1_46 : decode method_5_code 46 = .ok (.castore, 1) := by decide +kernel
theorem d1_47 : decode method_5_code 47 = .ok (.dup, 1) := by decide +kernel
theorem d1_48 : decode method_5_code 48 = .ok (.iconst 1, 1) := by decide +kernel
theorem d1_49 : decode method_5_code 49 = .ok (.iload_n 0, 1) := by decide +kernel
theorem d1_50 : decode method_5_code 50 = .ok (.invokestatic 32, 3) := by decide +kernel
theorem d1_53 : decode method_5_code 53 = .ok (.castore, 1) := by decide +kernel
theorem d1_54 : decode method_5_code 54 = .ok (.invokespecial 21, 3) := by decide +kernel
theorem d1_57 : decode method_5_code 57 = .ok (.areturn, 1) := by decide +kernel
theorem ef_rmMk (m : MethodId) (x0 : Int32) : entryFrame m #[(.int x0)] 2 = mkF m 0 #[vi x0, .unset] [] := by first | (simp [entryFrame, mkF, argsToLocals, Value.category]; done) | rfl
def Q_rmMk (Z : State) (p1 : Int32) (zc : Int32) (h0 : Heap) (n0 : Nat) (v : Option Value) (h : Heap) (L : List Loc) : Prop := ∃ b : Addr, ∃ t : Addr, ∃ k : ClassId, (v = some (.ref b)) ∧ (Fr n0 L) ∧ (Keep h0 h []) ∧ (h0.size ≤ b) ∧ (Exa Z h b "java/lang/String") ∧ (Fld Z h b "java/lang/String" "value" "[B" (.ref t)) ∧ (Fld Z h b "java/lang/String" "coder" "B" (.int (0 : Int32))) ∧ (Arv Z h t k .byte (own_n p1) (own_bs p1) (.int (0 : Int32)))
set_option maxRecDepth 65536 in
set_option maxHeartbeats 40000000 in
theorem rmMk (l : Launch) (Z : State) (a0 : Array Value) (hw : ∀ d ∈ tables_1, d.before a0 Z = true) (ws : List Jvm.Cond) (p1 : Int32) (zc : Int32) (h0 : Heap) (n0 : Nat) (Z0 : n0 ≤ h0.size) (O0 : Old Z n0 h0) (S_CS : Sta Z Z.heap "java/lang/String" "COMPACT_STRINGS" "Z" (.int zc)) (hz : ¬ zc = (0 : Int32)) :
    MetFree l y_16 (head1 (Jvm.Cond.code y_16 method_5_code 2 (some (.object "java/lang/String")) :: ws) ({ frames := 4, cells := 6, slots := 12, locals := 66 } : Room)) (fun a U => a = #[(.int p1)] ∧ Z.Warmed39 U.vm ∧ U.heap = h0 ∧ CHv Z EL U.vm h0) (fun _ _ _ _ _ => True) (fun _ U o U' => ∃ v L, o = .returned v ∧ Q_rmMk Z p1 zc h0 n0 v U'.heap L ∧ CHr Z EL U.vm U.heap U'.vm U'.heap ∧ ReturnedEndW U o U' L ({ frames := 4, cells := 6, slots := 12, locals := 66 } : Room).cells ({ frames := 4, cells := 6, slots := 12, locals := 66 } : Room).slots) := by
  refine MetFree.of_bodySF (plainFor_of_name pn_0) hisR ?_
  intro p e s m args below meth c s₁ Bd hml0 hP hK
  obtain ⟨rfl, hZ0, hh, hC0⟩ := hP
  have hx := Bd.exec
  have hby := Bd.bytes
  have hml : c.maxLocals = 2 := hml0
  have hown : (s.setVm s.vm).vm.findClass "com/example/brisk_tableau/brisktableau/owl/FuzzyLabelIsPinLaw" = some m.cls := findClass_of_methodNamed Bd.named
  have hnm := (name_of_methodNamed Bd.named Bd.method).1
  have X0 : Stand p l e ({ frames := 4, cells := 6, slots := 12, locals := 66 } : Room) (s.setVm s.vm) m #[(.int p1)] below meth c s₁ [] 0 0 := Stand.of_body Bd
  have e0 : s₁.heap = h0 := by rw [← hh, Bd.state]; rfl
  have N0 := Fr.nil n0
  have KC : Keep h0 h0 [] := Keep.refl h0 _
  have pre0 : ∀ t, Steps p.tables e below (s₁.setTop (mkF m 0 #[vi p1, un] [])) t → Steps p.tables e below (s₁.setTop (entryFrame m #[(.int p1)] 2)) t := fun t k => castTop (ef_rmMk m p1) k
  have hZ : Z.Warmed39 (s.setVm s.vm).vm := hZ0
  have hEL := own_hEL hw
  have wS := own_wS hw
  have hS : s.Since s.vm 0 := (State.WarmedH.refl s).since 0
  have hk : 0 ≤ h0.size := Nat.zero_le _
  have hC : CHr Z EL s.vm h0 s.vm h0 := CHr.refl hC0
  obtain ⟨_, _, ⟨T1, L1, k1, n1⟩, -, X1, ⟨Lc1, hQ1, l1, y1, z1⟩, st1⟩ := Jvm.LawKit.callS X0 hx (y := y_1) hown (mvT hZ (ww hw 7 rfl)) (mvT hZ (ww hw 8 rfl)) (mvT hZ (ww hw 5 rfl)) (mvT hZ (ww hw 9 rfl)) (by decide) (backOf (W := 0) (rmLe l Z a0 hw [] p1 h0 n0 (Nat.le_trans Z0 KC.1) O0 ) hZ (ww hw 9 rfl) (ww hw 5 rfl) (by decide) (by decide)) (g := (mkF m 1 #[vi p1, un] [(.int p1)])) rfl (by rw [hml]; rfl) (argsL := [(.int p1)]) (rest := []) (lenOf pd_1 rfl) rfl (by show 2 * 0 + _ ≤ _; exact Nat.le_of_eq rfl) (hb hby d1_1) (fun _ _ => ⟨rfl, e0, (by decide : 0 + 0 ≤ _), (by decide : 0 + 0 ≤ _)⟩)
  dsimp only [Pt.U, Pt.locs, Pt.cells, Pt.slots] at X1 l1 y1 z1 st1 hQ1
  subst l1 y1 z1
  obtain ⟨rfl, N1q, e1⟩ := hQ1
  have N1 := Fr.app N0 N1q
  have pre2 : ∀ t, Steps p.tables e below (T1.setTop (mkF m 6 #[vi p1, vi (own_n p1)] [(.int (own_n p1))])) t → Steps p.tables e below (s₁.setTop (entryFrame m #[(.int p1)] 2)) t := by
    intro t kt
    refine pre0 t ?_
    show SS p e below m s₁ 0 #[vi p1, un] [] _
    refine XS.iloadN X0.here hx rfl (hb hby d1_0) rfl ?_
    show SS p e below m s₁ 1 #[vi p1, un] [(.int p1)] _
    refine st1 _ ?_
    show SS p e below m T1 4 #[vi p1, un] [(.int (own_n p1))] _
    refine XS.istoreN X1.here hx rfl (hb hby d1_4) rfl (l' := #[vi p1, vi (own_n p1)]) rfl ?_
    show SS p e below m T1 5 #[vi p1, vi (own_n p1)] [] _
    refine XS.iloadN X1.here hx rfl (hb hby d1_5) rfl ?_
    exact kt
  by_cases hc6_3 : (own_n p1) = (0 : Int32)
  · obtain ⟨T4, h4, X4, e4, E4, A4, D4, -, st4⟩ := newO X1 hx hZ hown (ww hw 14 rfl) (ww hw 15 rfl) (ww hw 16 rfl) e1 (g := (mkF m 9 #[vi p1, vi (own_n p1)] [])) rfl (hb hby d1_9) (by decide) (by decide)
    obtain ⟨b4, g4⟩ : ∃ z, z = h0.size := ⟨_, rfl⟩
    rw [← g4] at A4 D4 st4
    have g_b4 : n0 ≤ b4 := Nat.le_trans (Nat.le_trans Z0 KC.1) (Nat.le_of_eq g4.symm)
    have sz_b4 : h0.size ≤ b4 := Nat.le_trans KC.1 (Nat.le_of_eq g4.symm)
    replace hk := Nat.le_trans hk E4.1
    replace hC := hC.trans (CHr.ext E4 hC.1)
    replace O0 := O0.ext E4
    replace KC := KC.ext E4
    have F_value_b4 : Fld Z h4 b4 "java/lang/String" "value" "[B" .null := D4 (Or.inr (ww hw 30 rfl)) (ty := (.array .byte)) (by decide)
    have F_coder_b4 : Fld Z h4 b4 "java/lang/String" "coder" "B" (.int (0 : Int32)) := D4 (Or.inr (ww hw 31 rfl)) (ty := .byte) (by decide)
    obtain ⟨T5, h5, k5, X5, e5, E5, A5, st5⟩ := newP X4 hx hZ (ww hw 17 rfl) e4 (g := (mkF m 14 #[vi p1, vi (own_n p1)] [(.int (0 : Int32)), (.ref b4), (.ref b4)])) rfl (hb hby d1_14) rfl (by decide) (cap := 0) (by decide) (by decide) (by decide) (by decide)
    obtain ⟨b5, g5⟩ : ∃ z, z = h4.size := ⟨_, rfl⟩
    rw [← g5] at A5 st5
    have ne_b4_b5 : b4 ≠ b5 := Nat.ne_of_lt (Nat.lt_of_lt_of_le A4.lt (Nat.le_of_eq g5.symm))
    have g_b5 : n0 ≤ b5 := Nat.le_trans (Nat.le_trans Z0 KC.1) (Nat.le_of_eq g5.symm)
    have sz_b5 : h0.size ≤ b5 := Nat.le_trans KC.1 (Nat.le_of_eq g5.symm)
    replace hk := Nat.le_trans hk E5.1
    replace hC := hC.trans (CHr.ext E5 hC.1)
    replace A4 := A4.ext E5
    replace F_value_b4 := F_value_b4.ext E5
    replace F_coder_b4 := F_coder_b4.ext E5
    replace O0 := O0.ext E5
    replace KC := KC.ext E5
    have V_b5 : Arv Z h5 b5 k5 .char (0 : Int32) [] (.int (0 : Int32)) := Arv.new A5 (by decide)
    obtain ⟨_, _, ⟨T6, L6, k6, n6⟩, -, X6, hS6, gr6, ⟨Lc6, hQ6, l6, y6, z6, C6⟩, st6⟩ := X5.specialBackS hx (y := y_15) rfl hown (mvT hZ (ww hw 18 rfl)) (mvT hZ (ww hw 19 rfl)) (mvT hZ (ww hw 20 rfl)) (by decide) (backOfSH (W := 1) (rmI10 l Z a0 hw [] b4 b5 k5 h5 n0 (Nat.le_trans Z0 KC.1) O0 F_value_b4 F_coder_b4 A4 g_b4 V_b5) hZ (ww hw 20 rfl) (ww hw 16 rfl) (by decide) (by decide) hEL hC.1) (g := (mkF m 16 #[vi p1, vi (own_n p1)] [(.ref b5), (.ref b4), (.ref b4)])) rfl (by rw [hml]; rfl) (Steps.refl _) (a := b4) (argsL := [(.ref b5)]) (rest := [(.ref b4)]) (lenOf pd_11 rfl) rfl (by show 2 * 0 + _ ≤ _; exact Nat.le_of_eq rfl) (hb hby d1_16) (fun _ _ => ⟨rfl, e5, (by decide : 2 + 4 ≤ _), (by decide : 4 + 8 ≤ _)⟩)
    dsimp only [Pt.U, Pt.locs, Pt.cells, Pt.slots] at X6 l6 y6 z6 st6 hQ6 hS6 gr6 C6
    subst l6 y6 z6
    rw [e5] at gr6
    obtain ⟨Xr6, hSr6, hZr6, hownr6⟩ := rebS hS hk X6 hS6 gr6 hZ hown
    replace hC := hC.trans C6
    replace hZ := hZr6
    replace hown := hownr6
    replace hS := hSr6
    replace hk : T6.heap.size ≤ T6.heap.size := Nat.le_refl _
    replace X6 := Xr6
    obtain ⟨t_6, kb_6, rfl, N6q, K6, F_value_a1_6, F_coder_a1_6, V_t_6⟩ := hQ6
    have N6 := Fr.app N1 N6q
    replace A4 := A4.keep K6
    replace V_b5 := V_b5.keep K6 (ninS (Ne.symm ne_b4_b5) nin0)
    replace O0 := O0.keep K6 (allS g_b4 all0)
    replace KC := KC.trans K6 (allS (Or.inr sz_b4) all0)
    obtain ⟨fs, hr, hrun, hended, hRE⟩ := X6.leaveW hS hk (v := some (.ref b4)) (fun h => by rw [Bd.returns] at h; cases h)
    refine ⟨_, _, pre2 _ ?_, hrun, hended, _, _, rfl, ?_, ?_, hRE.1, hRE.2.1, hRE.2.2.1, hRE.2.2.2.mono (by decide) (by decide)⟩
    · show SS p e below m T1 6 #[vi p1, vi (own_n p1)] [(.int (own_n p1))] _
      refine XS.ifNo X1.here hx rfl (hb hby d1_6) rfl ((if0 _ _).trans (teq hc6_3).2) ?_
      show SS p e below m T1 9 #[vi p1, vi (own_n p1)] [] _
      refine st4 _ ?_
      show SS p e below m T4 12 #[vi p1, vi (own_n p1)] [(.ref b4)] _
      refine XS.dup X4.here hx rfl (hb hby d1_12) rfl rfl ?_
      show SS p e below m T4 13 #[vi p1, vi (own_n p1)] [(.ref b4), (.ref b4)] _
      refine XS.iconst X4.here hx rfl (hb hby d1_13) ?_
      show SS p e below m T4 14 #[vi p1, vi (own_n p1)] [(.int (0 : Int32)), (.ref b4), (.ref b4)] _
      refine st5 _ ?_
      show SS p e below m T5 16 #[vi p1, vi (own_n p1)] [(.ref b5), (.ref b4), (.ref b4)] _
      refine st6.trans ?_
      show SS p e below m T6 19 #[vi p1, vi (own_n p1)] [(.ref b4)] _
      jvm_step X6.here [X6.here.top, hx, (hb hby d1_19), X6.method', Bd.returns, Value.isRef, FieldType.isReference]
      first | (intro acts; rw [hr _ acts rfl rfl rfl]) | rw [hr _ _ rfl rfl rfl]
      exact Steps.refl _
    · show Q_rmMk Z p1 zc h0 n0 _ T6.heap _
      exact ⟨b4, t_6, kb_6, rfl, N6, KC, sz_b4, A4, F_value_a1_6, F_coder_a1_6, (own_v0 hc6_3 V_t_6)⟩
    · show CHr Z EL s.vm s.heap T6.vm T6.heap
      rw [hh]
      exact hC.trans (CHv.at X6 hZ hEL hC.1)
  · have pre7 : ∀ t, Steps p.tables e below (T1.setTop (mkF m 22 #[vi p1, vi (own_n p1)] [(.int (1 : Int32)), (.int (own_n p1))])) t → Steps p.tables e below (s₁.setTop (entryFrame m #[(.int p1)] 2)) t := by
      intro t kt
      refine pre2 t ?_
      show SS p e below m T1 6 #[vi p1, vi (own_n p1)] [(.int (own_n p1))] _
      refine XS.ifYes X1.here hx rfl (pc0 := 6) (pc' := 20) rfl (hb hby d1_6) rfl ((if0 _ _).trans (feq hc6_3).2) (by decide) (by decide) ?_
      show SS p e below m T1 20 #[vi p1, vi (own_n p1)] [] _
      refine XS.iloadN X1.here hx rfl (hb hby d1_20) rfl ?_
      show SS p e below m T1 21 #[vi p1, vi (own_n p1)] [(.int (own_n p1))] _
      refine XS.iconst X1.here hx rfl (hb hby d1_21) ?_
      exact kt
    by_cases hc22_8 : (own_n p1) = (1 : Int32)
    · obtain ⟨_, _, ⟨T9, L9, k9, n9⟩, -, X9, ⟨Lc9, hQ9, l9, y9, z9⟩, st9⟩ := Jvm.LawKit.callS X1 hx (y := y_2) hown (mvT hZ (ww hw 36 rfl)) (mvT hZ (ww hw 37 rfl)) (mvT hZ (ww hw 5 rfl)) (mvT hZ (ww hw 38 rfl)) (by decide) (backOf (W := 0) (rmC0 l Z a0 hw [] p1 h0 n0 (Nat.le_trans Z0 KC.1) O0 ) hZ (ww hw 38 rfl) (ww hw 5 rfl) (by decide) (by decide)) (g := (mkF m 26 #[vi p1, vi (own_n p1)] [(.int p1)])) rfl (by rw [hml]; rfl) (argsL := [(.int p1)]) (rest := []) (lenOf pd_2 rfl) rfl (by show 2 * 0 + _ ≤ _; exact Nat.le_of_eq rfl) (hb hby d1_26) (fun _ _ => ⟨rfl, e1, (by decide : 0 + 0 ≤ _), (by decide : 0 + 0 ≤ _)⟩)
      dsimp only [Pt.U, Pt.locs, Pt.cells, Pt.slots] at X9 l9 y9 z9 st9 hQ9
      subst l9 y9 z9
      obtain ⟨rfl, N9q, e9⟩ := hQ9
      have N9 := Fr.app N1 N9q
      obtain ⟨_, _, ⟨T10, L10, k10, n10⟩, -, X10, ⟨Lc10, hQ10, l10, y10, z10⟩, st10⟩ := Jvm.LawKit.callS X9 hx (y := y_10) hown (mvT hZ (ww hw 86 rfl)) (mvT hZ (ww hw 87 rfl)) (mvT hZ (ww hw 16 rfl)) (mvT hZ (ww hw 88 rfl)) (by decide) (backOf (W := 0) (rmVc l Z a0 hw [] (own_c0 p1) zc h0 n0 (Nat.le_trans Z0 KC.1) O0 S_CS hz (own_le0 p1)) hZ (ww hw 88 rfl) (ww hw 16 rfl) (by decide) (by decide)) (g := (mkF m 29 #[vi p1, vi (own_n p1)] [(.int (own_c0 p1))])) rfl (by rw [hml]; rfl) (argsL := [(.int (own_c0 p1))]) (rest := []) (lenOf pd_12 rfl) rfl (by show 2 * 0 + _ ≤ _; exact Nat.le_of_eq rfl) (hb hby d1_29) (fun _ _ => ⟨rfl, e9, (by decide : 0 + 2 ≤ _), (by decide : 0 + 5 ≤ _)⟩)
      dsimp only [Pt.U, Pt.locs, Pt.cells, Pt.slots] at X10 l10 y10 z10 st10 hQ10
      subst l10 y10 z10
      obtain ⟨b10_b, b10_t, k_10, rfl, N10q, K10, sz_b10_b, sz_b10_t, E_b_10, F_value_b_10, F_coder_b_10, V_t_10⟩ := hQ10
      have N10 := Fr.app N9 N10q
      have g_b10_b : n0 ≤ b10_b := Nat.le_trans (Nat.le_trans Z0 KC.1) sz_b10_b
      replace sz_b10_b : h0.size ≤ b10_b := Nat.le_trans KC.1 sz_b10_b
      have g_b10_t : n0 ≤ b10_t := Nat.le_trans (Nat.le_trans Z0 KC.1) sz_b10_t
      replace sz_b10_t : h0.size ≤ b10_t := Nat.le_trans KC.1 sz_b10_t
      replace hk := Nat.le_trans hk K10.1
      replace hC := hC.trans (CHr.keep K10 sf0 hC.1)
      replace O0 := O0.keep K10 all0
      replace KC := KC.trans K10 all0
      obtain ⟨fs, hr, hrun, hended, hRE⟩ := X10.leaveW hS hk (v := some (.ref b10_b)) (fun h => by rw [Bd.returns] at h; cases h)
      refine ⟨_, _, pre7 _ ?_, hrun, hended, _, _, rfl, ?_, ?_, hRE.1, hRE.2.1, hRE.2.2.1, hRE.2.2.2.mono (by decide) (by decide)⟩
      · show SS p e below m T1 22 #[vi p1, vi (own_n p1)] [(.int (1 : Int32)), (.int (own_n p1))] _
        refine XS.icmpNo X1.here hx rfl (hb hby d1_22) rfl (teq hc22_8).2 ?_
        show SS p e below m T1 25 #[vi p1, vi (own_n p1)] [] _
        refine XS.iloadN X1.here hx rfl (hb hby d1_25) rfl ?_
        show SS p e below m T1 26 #[vi p1, vi (own_n p1)] [(.int p1)] _
        refine st9 _ ?_
        show SS p e below m T9 29 #[vi p1, vi (own_n p1)] [(.int (own_c0 p1))] _
        refine st10 _ ?_
        show SS p e below m T10 32 #[vi p1, vi (own_n p1)] [(.ref b10_b)] _
        jvm_step X10.here [X10.here.top, hx, (hb hby d1_32), X10.method', Bd.returns, Value.isRef, FieldType.isReference]
        first | (intro acts; rw [hr _ acts rfl rfl rfl]) | rw [hr _ _ rfl rfl rfl]
        exact Steps.refl _
      · show Q_rmMk Z p1 zc h0 n0 _ T10.heap _
        exact ⟨b10_b, b10_t, k_10, rfl, N10, KC, sz_b10_b, E_b_10, F_value_b_10, F_coder_b_10, (own_v1 hc22_8 V_t_10)⟩
      · show CHr Z EL s.vm s.heap T10.vm T10.heap
        rw [hh]
        exact hC.trans (CHv.at X10 hZ hEL hC.1)
    · obtain ⟨T11, h11, X11, e11, E11, A11, D11, -, st11⟩ := newO X1 hx hZ hown (ww hw 14 rfl) (ww hw 15 rfl) (ww hw 16 rfl) e1 (g := (mkF m 33 #[vi p1, vi (own_n p1)] [])) rfl (hb hby d1_33) (by decide) (by decide)
      obtain ⟨b11, g11⟩ : ∃ z, z = h0.size := ⟨_, rfl⟩
      rw [← g11] at A11 D11 st11
      have g_b11 : n0 ≤ b11 := Nat.le_trans (Nat.le_trans Z0 KC.1) (Nat.le_of_eq g11.symm)
      have sz_b11 : h0.size ≤ b11 := Nat.le_trans KC.1 (Nat.le_of_eq g11.symm)
      replace hk := Nat.le_trans hk E11.1
      replace hC := hC.trans (CHr.ext E11 hC.1)
      replace O0 := O0.ext E11
      replace KC := KC.ext E11
      have F_value_b11 : Fld Z h11 b11 "java/lang/String" "value" "[B" .null := D11 (Or.inr (ww hw 30 rfl)) (ty := (.array .byte)) (by decide)
      have F_coder_b11 : Fld Z h11 b11 "java/lang/String" "coder" "B" (.int (0 : Int32)) := D11 (Or.inr (ww hw 31 rfl)) (ty := .byte) (by decide)
      obtain ⟨T12, h12, k12, X12, e12, E12, A12, st12⟩ := newP X11 hx hZ (ww hw 17 rfl) e11 (g := (mkF m 38 #[vi p1, vi (own_n p1)] [(.int (2 : Int32)), (.ref b11), (.ref b11)])) rfl (hb hby d1_38) rfl (by decide) (cap := 2) (by decide) (by decide) (by decide) (by decide)
      obtain ⟨b12, g12⟩ : ∃ z, z = h11.size := ⟨_, rfl⟩
      rw [← g12] at A12 st12
      have ne_b11_b12 : b11 ≠ b12 := Nat.ne_of_lt (Nat.lt_of_lt_of_le A11.lt (Nat.le_of_eq g12.symm))
      have g_b12 : n0 ≤ b12 := Nat.le_trans (Nat.le_trans Z0 KC.1) (Nat.le_of_eq g12.symm)
      have sz_b12 : h0.size ≤ b12 := Nat.le_trans KC.1 (Nat.le_of_eq g12.symm)
      replace hk := Nat.le_trans hk E12.1
      replace hC := hC.trans (CHr.ext E12 hC.1)
      replace A11 := A11.ext E12
      replace F_value_b11 := F_value_b11.ext E12
      replace F_coder_b11 := F_coder_b11.ext E12
      replace O0 := O0.ext E12
      replace KC := KC.ext E12
      have V_b12 : Arv Z h12 b12 k12 .char (2 : Int32) [(.int (0 : Int32)), (.int (0 : Int32))] (.int (0 : Int32)) := (Arv.new A12 (by decide)).pad (pad_rep [] (.int (0 : Int32)) 2)
      obtain ⟨_, _, ⟨T13, L13, k13, n13⟩, -, X13, ⟨Lc13, hQ13, l13, y13, z13⟩, st13⟩ := Jvm.LawKit.callS X12 hx (y := y_2) hown (mvT hZ (ww hw 36 rfl)) (mvT hZ (ww hw 37 rfl)) (mvT hZ (ww hw 5 rfl)) (mvT hZ (ww hw 38 rfl)) (by decide) (backOf (W := 5) (rmC0 l Z a0 hw [] p1 h12 n0 (Nat.le_trans Z0 KC.1) O0 ) hZ (ww hw 38 rfl) (ww hw 5 rfl) (by decide) (by decide)) (g := (mkF m 43 #[vi p1, vi (own_n p1)] [(.int p1), (.int (0 : Int32)), (.ref b12), (.ref b12), (.ref b11), (.ref b11)])) rfl (by rw [hml]; rfl) (argsL := [(.int p1)]) (rest := [(.int (0 : Int32)), (.ref b12), (.ref b12), (.ref b11), (.ref b11)]) (lenOf pd_2 rfl) rfl (by show 2 * 0 + _ ≤ _; exact Nat.le_of_eq rfl) (hb hby d1_43) (fun _ _ => ⟨rfl, e12, (by decide : 2 + 0 ≤ _), (by decide : 6 + 0 ≤ _)⟩)
      dsimp only [Pt.U, Pt.locs, Pt.cells, Pt.slots] at X13 l13 y13 z13 st13 hQ13
      subst l13 y13 z13
      obtain ⟨rfl, N13q, e13⟩ := hQ13
      have N13 := Fr.app N1 N13q
      have Vo14 := V_b12
      obtain ⟨cl14, Ar14, q14, Sz14, Nn14, Hh14, Gg14⟩ := Vo14
      have hin14 : ¬ ((0 : Int32) < 0 ∨ cl14.slots.size ≤ ((0 : Int32)).toNatClampNeg) := inb_of Sz14 ⟨by decide, by decide⟩
      obtain ⟨T15, h15, X15, e15, W15, st15⟩ := stC X13 hx hZ e13 Ar14 (j := (0 : Int32)) hin14 (g := (mkF m 46 #[vi p1, vi (own_n p1)] [(.int (own_c0 p1)), (.int (0 : Int32)), (.ref b12), (.ref b12), (.ref b11), (.ref b11)])) rfl rfl (hb hby d1_46)
      have Vn15 := Arv.set Ar14 q14 Sz14 Nn14 Hh14 Gg14 (fits_nar_char _) W15 (0) rfl (Nat.le_of_ble_eq_true rfl)
      have N15 := Fr.snoc X15 N13 g_b12
      have Vm15 : Arv Z h15 b12 k12 .char (2 : Int32) [(.int (own_c0 p1)), (.int (0 : Int32))] (.int (0 : Int32)) := by have hh := Vn15; rw [own_nar0] at hh; exact hh
      have SfA15 := (Safe.arv (EL := EL) hZ.alike V_b12 (by decide))
      replace hk := Nat.le_trans hk (Keep.of_wr W15).1
      replace hC := hC.trans (CHr.wr W15 SfA15 hC.1)
      replace A11 := A11.wr W15
      replace F_value_b11 := F_value_b11.other W15 (Or.inl ne_b11_b12)
      replace F_coder_b11 := F_coder_b11.other W15 (Or.inl ne_b11_b12)
      replace O0 := O0.wr W15 g_b12
      replace KC := KC.wr W15 (Or.inr sz_b12)
      obtain ⟨_, _, ⟨T16, L16, k16, n16⟩, -, X16, ⟨Lc16, hQ16, l16, y16, z16⟩, st16⟩ := Jvm.LawKit.callS X15 hx (y := y_3) hown (mvT hZ (ww hw 39 rfl)) (mvT hZ (ww hw 40 rfl)) (mvT hZ (ww hw 5 rfl)) (mvT hZ (ww hw 41 rfl)) (by decide) (backOf (W := 5) (rmC1 l Z a0 hw [] p1 h15 n0 (Nat.le_trans Z0 KC.1) O0 ) hZ (ww hw 41 rfl) (ww hw 5 rfl) (by decide) (by decide)) (g := (mkF m 50 #[vi p1, vi (own_n p1)] [(.int p1), (.int (1 : Int32)), (.ref b12), (.ref b12), (.ref b11), (.ref b11)])) rfl (by rw [hml]; rfl) (argsL := [(.int p1)]) (rest := [(.int (1 : Int32)), (.ref b12), (.ref b12), (.ref b11), (.ref b11)]) (lenOf pd_2 rfl) rfl (by show 2 * 0 + _ ≤ _; exact Nat.le_of_eq rfl) (hb hby d1_50) (fun _ _ => ⟨rfl, e15, (by decide : 2 + 0 ≤ _), (by decide : 6 + 0 ≤ _)⟩)
      dsimp only [Pt.U, Pt.locs, Pt.cells, Pt.slots] at X16 l16 y16 z16 st16 hQ16
      subst l16 y16 z16
      obtain ⟨rfl, N16q, e16⟩ := hQ16
      have N16 := Fr.app N15 N16q
      have Vo17 := Vm15
      obtain ⟨cl17, Ar17, q17, Sz17, Nn17, Hh17, Gg17⟩ := Vo17
      have hin17 : ¬ ((1 : Int32) < 0 ∨ cl17.slots.size ≤ ((1 : Int32)).toNatClampNeg) := inb_of Sz17 ⟨by decide, by decide⟩
      obtain ⟨T18, h18, X18, e18, W18, st18⟩ := stC X16 hx hZ e16 Ar17 (j := (1 : Int32)) hin17 (g := (mkF m 53 #[vi p1, vi (own_n p1)] [(.int (own_c1 p1)), (.int (1 : Int32)), (.ref b12), (.ref b12), (.ref b11), (.ref b11)])) rfl rfl (hb hby d1_53)
      have Vn18 := Arv.set Ar17 q17 Sz17 Nn17 Hh17 Gg17 (fits_nar_char _) W18 (1) rfl (Nat.le_of_ble_eq_true rfl)
      have N18 := Fr.snoc X18 N16 g_b12
      have Vm18 : Arv Z h18 b12 k12 .char (2 : Int32) [(.int (own_c0 p1)), (.int (own_c1 p1))] (.int (0 : Int32)) := by have hh := Vn18; rw [own_nar1] at hh; exact hh
      have SfA18 := (Safe.arv (EL := EL) hZ.alike Vm15 (by decide))
      replace hk := Nat.le_trans hk (Keep.of_wr W18).1
      replace hC := hC.trans (CHr.wr W18 SfA18 hC.1)
      replace A11 := A11.wr W18
      replace F_value_b11 := F_value_b11.other W18 (Or.inl ne_b11_b12)
      replace F_coder_b11 := F_coder_b11.other W18 (Or.inl ne_b11_b12)
      replace O0 := O0.wr W18 g_b12
      replace KC := KC.wr W18 (Or.inr sz_b12)
      obtain ⟨_, _, ⟨T19, L19, k19, n19⟩, -, X19, ⟨Lc19, hQ19, l19, y19, z19⟩, st19⟩ := X18.specialBack hx (y := y_15) rfl hown (mvT hZ (ww hw 18 rfl)) (mvT hZ (ww hw 19 rfl)) (mvT hZ (ww hw 20 rfl)) (by decide) (backOf (W := 1) (rmI12 l Z a0 hw [] b11 b12 k12 (own_c0 p1) (own_c1 p1) zc h18 n0 (Nat.le_trans Z0 KC.1) O0 F_value_b11 F_coder_b11 A11 g_b11 Vm18 S_CS hz (own_le0 p1) (own_le1 p1)) hZ (ww hw 20 rfl) (ww hw 16 rfl) (by decide) (by decide)) (g := (mkF m 54 #[vi p1, vi (own_n p1)] [(.ref b12), (.ref b11), (.ref b11)])) rfl (by rw [hml]; rfl) (Steps.refl _) (a := b11) (argsL := [(.ref b12)]) (rest := [(.ref b11)]) (lenOf pd_11 rfl) rfl (by show 2 * 0 + _ ≤ _; exact Nat.le_of_eq rfl) (hb hby d1_54) (fun _ _ => ⟨rfl, e18, (by decide : 2 + 1 ≤ _), (by decide : 6 + 2 ≤ _)⟩)
      dsimp only [Pt.U, Pt.locs, Pt.cells, Pt.slots] at X19 l19 y19 z19 st19 hQ19
      subst l19 y19 z19
      obtain ⟨b19_t, kb_19, rfl, N19q, K19, sz_b19_t, F_value_a1_19, F_coder_a1_19, V_t_19⟩ := hQ19
      have N19 := Fr.app N18 N19q
      have ne_b11_b19_t : b11 ≠ b19_t := Nat.ne_of_lt (Nat.lt_of_lt_of_le A11.lt sz_b19_t)
      have ne_b12_b19_t : b12 ≠ b19_t := Nat.ne_of_lt (Nat.lt_of_lt_of_le Vm18.lt sz_b19_t)
      have g_b19_t : n0 ≤ b19_t := Nat.le_trans (Nat.le_trans Z0 KC.1) sz_b19_t
      replace sz_b19_t : h0.size ≤ b19_t := Nat.le_trans KC.1 sz_b19_t
      replace hk := Nat.le_trans hk K19.1
      replace hC := hC.trans (CHr.keep K19 (sfS (own_safe (EL := EL) hZ.alike A11 F_value_b11) sf0) hC.1)
      replace A11 := A11.keep K19
      replace Vm18 := Vm18.keep K19 (ninS (Ne.symm ne_b11_b12) nin0)
      replace O0 := O0.keep K19 (allS g_b11 all0)
      replace KC := KC.trans K19 (allS (Or.inr sz_b11) all0)
      obtain ⟨fs, hr, hrun, hended, hRE⟩ := X19.leaveW hS hk (v := some (.ref b11)) (fun h => by rw [Bd.returns] at h; cases h)
      refine ⟨_, _, pre7 _ ?_, hrun, hended, _, _, rfl, ?_, ?_, hRE.1, hRE.2.1, hRE.2.2.1, hRE.2.2.2.mono (by decide) (by decide)⟩
      · show SS p e below m T1 22 #[vi p1, vi (own_n p1)] [(.int (1 : Int32)), (.int (own_n p1))] _
        refine XS.icmpYes X1.here hx rfl (pc0 := 22) (pc' := 33) rfl (hb hby d1_22) rfl (feq hc22_8).2 (by decide) (by decide) ?_
        show SS p e below m T1 33 #[vi p1, vi (own_n p1)] [] _
        refine st11 _ ?_
        show SS p e below m T11 36 #[vi p1, vi (own_n p1)] [(.ref b11)] _
        refine XS.dup X11.here hx rfl (hb hby d1_36) rfl rfl ?_
        show SS p e below m T11 37 #[vi p1, vi (own_n p1)] [(.ref b11), (.ref b11)] _
        refine XS.iconst X11.here hx rfl (hb hby d1_37) ?_
        show SS p e below m T11 38 #[vi p1, vi (own_n p1)] [(.int (2 : Int32)), (.ref b11), (.ref b11)] _
        refine st12 _ ?_
        show SS p e below m T12 40 #[vi p1, vi (own_n p1)] [(.ref b12), (.ref b11), (.ref b11)] _
        refine XS.dup X12.here hx rfl (hb hby d1_40) rfl rfl ?_
        show SS p e below m T12 41 #[vi p1, vi (own_n p1)] [(.ref b12), (.ref b12), (.ref b11), (.ref b11)] _
        refine XS.iconst X12.here hx rfl (hb hby d1_41) ?_
        show SS p e below m T12 42 #[vi p1, vi (own_n p1)] [(.int (0 : Int32)), (.ref b12), (.ref b12), (.ref b11), (.ref b11)] _
        refine XS.iloadN X12.here hx rfl (hb hby d1_42) rfl ?_
        show SS p e below m T12 43 #[vi p1, vi (own_n p1)] [(.int p1), (.int (0 : Int32)), (.ref b12), (.ref b12), (.ref b11), (.ref b11)] _
        refine st13 _ ?_
        show SS p e below m T13 46 #[vi p1, vi (own_n p1)] [(.int (own_c0 p1)), (.int (0 : Int32)), (.ref b12), (.ref b12), (.ref b11), (.ref b11)] _
        refine st15 _ ?_
        show SS p e below m T15 47 #[vi p1, vi (own_n p1)] [(.ref b12), (.ref b11), (.ref b11)] _
        refine XS.dup X15.here hx rfl (hb hby d1_47) rfl rfl ?_
        show SS p e below m T15 48 #[vi p1, vi (own_n p1)] [(.ref b12), (.ref b12), (.ref b11), (.ref b11)] _
        refine XS.iconst X15.here hx rfl (hb hby d1_48) ?_
        show SS p e below m T15 49 #[vi p1, vi (own_n p1)] [(.int (1 : Int32)), (.ref b12), (.ref b12), (.ref b11), (.ref b11)] _
        refine XS.iloadN X15.here hx rfl (hb hby d1_49) rfl ?_
        show SS p e below m T15 50 #[vi p1, vi (own_n p1)] [(.int p1), (.int (1 : Int32)), (.ref b12), (.ref b12), (.ref b11), (.ref b11)] _
        refine st16 _ ?_
        show SS p e below m T16 53 #[vi p1, vi (own_n p1)] [(.int (own_c1 p1)), (.int (1 : Int32)), (.ref b12), (.ref b12), (.ref b11), (.ref b11)] _
        refine st18 _ ?_
        show SS p e below m T18 54 #[vi p1, vi (own_n p1)] [(.ref b12), (.ref b11), (.ref b11)] _
        refine st19.trans ?_
        show SS p e below m T19 57 #[vi p1, vi (own_n p1)] [(.ref b11)] _
        jvm_step X19.here [X19.here.top, hx, (hb hby d1_57), X19.method', Bd.returns, Value.isRef, FieldType.isReference]
        first | (intro acts; rw [hr _ acts rfl rfl rfl]) | rw [hr _ _ rfl rfl rfl]
        exact Steps.refl _
      · show Q_rmMk Z p1 zc h0 n0 _ T19.heap _
        exact ⟨b11, b19_t, kb_19, rfl, N19, KC, sz_b11, A11, F_value_a1_19, F_coder_a1_19, (own_v2 hc6_3 hc22_8 V_t_19)⟩
      · show CHr Z EL s.vm s.heap T19.vm T19.heap
        rw [hh]
        exact hC.trans (CHv.at X19 hZ hEL hC.1)
theorem d17_0 : decode jdk_43_method_13_code 0 = .ok (.aload_n 0, 1) := by decide +kernel
theorem d17_1 : decode jdk_43_method_13_code 1 = .ok (.arraylength, 1) := by decide +kernel
theorem d17_2 : decode jdk_43_method_13_code 2 = .ok (.aload_n 1, 1) := by decide +kernel
theorem d17_3 : decode jdk_43_method_13_code 3 = .ok (.arraylength, 1) := by decide +kernel
theorem d17_4 : decode jdk_43_method_13_code 4 = .ok (.if_icmp .ne 30, 3) := by decide +kernel
theorem d17_7 : decode jdk_43_method_13_code 7 = .ok (.iconst 0, 1) := by decide +kernel
theorem d17_8 : decode jdk_43_method_13_code 8 = .ok (.istore_n 2, 1) := by decide +kernel
theorem d17_9 : decode jdk_43_method_13_code 9 = .ok (.iload_n 2, 1) := by decide +kernel
theorem d17_10 : decode jdk_43_method_13_code 10 = .ok (.aload_n 0, 1) := by decide +kernel
theorem d17_11 : decode jdk_43_method_13_code 11 = .ok (.arraylength, 1) := by decide +kernel
theorem d17_12 : decode jdk_43_method_13_code 12 = .ok (.if_icmp .ge 20, 3) := by decide +kernel
theorem d17_15 : decode jdk_43_method_13_code 15 = .ok (.aload_n 0, 1) := by decide +kernel
theorem d17_16 : decode jdk_43_method_13_code 16 = .ok (.iload_n 2, 1) := by decide +kernel
theorem d17_17 : decode jdk_43_method_13_code 17 = .ok (.baload, 1) := by decide +kernel
theorem d17_18 : decode jdk_43_method_13_code 18 = .ok (.aload_n 1, 1) := by decide +kernel
theorem d17_19 : decode jdk_43_method_13_code 19 = .ok (.iload_n 2, 1) := by decide +kernel
theorem d17_20 : decode jdk_43_method_13_code 20 = .ok (.baload, 1) := by decide +kernel
theorem d17_21 : decode jdk_43_method_13_code 21 = .ok (.if_icmp .eq 5, 3) := by decide +kernel
theorem d17_24 : decode jdk_43_method_13_code 24 = .ok (.iconst 0, 1) := by decide +kernel
theorem d17_25 : decode jdk_43_method_13_code 25 = .ok (.ireturn, 1) := by decide +kernel
theorem d17_26 : decode jdk_43_method_13_code 26 = .ok (.iinc 2 1, 3) := by decide +kernel
theorem d17_29 : decode jdk_43_method_13_code 29 = .ok (.goto (-20), 3) := by decide +kernel
theorem d17_32 : decode jdk_43_method_13_code 32 = .ok (.iconst 1, 1) := by decide +kernel
theorem d17_33 : decode jdk_43_method_13_code 33 = .ok (.ireturn, 1) := by decide +kernel
theorem d17_34 : decode jdk_43_method_13_code 34 = .ok (.iconst 0, 1) := by decide +kernel
theorem d17_35 : decode jdk_43_method_13_code 35 = .ok (.ireturn, 1) := by decide +kernel
theorem ef_rmLq (m : MethodId) (x0 : Addr) (x1 : Addr) : entryFrame m #[(.ref x0), (.ref x1)] 3 = mkF m 0 #[vr x0, vr x1, .unset] [] := by first | (simp [entryFrame, mkF, argsToLocals, Value.category]; done) | rfl
def Q_rmLq (Z : State) (a1 : Addr) (a2 : Addr) (k1 : ClassId) (cc : Int32) (k2 : ClassId) (dd : Int32) (h0 : Heap) (n0 : Nat) (v : Option Value) (h : Heap) (L : List Loc) : Prop := (v = some (.int (own_eq cc dd))) ∧ (Fr n0 L) ∧ (h = h0)
set_option maxRecDepth 65536 in
set_option maxHeartbeats 40000000 in
theorem rmLq (l : Launch) (Z : State) (a0 : Array Value) (hw : ∀ d ∈ tables_1, d.before a0 Z = true) (ws : List Jvm.Cond) (a1 : Addr) (a2 : Addr) (k1 : ClassId) (cc : Int32) (k2 : ClassId) (dd : Int32) (h0 : Heap) (n0 : Nat) (Z0 : n0 ≤ h0.size) (O0 : Old Z n0 h0) (V_a1 : Arv Z h0 a1 k1 .byte (own_n cc) (own_bs cc) (.int (0 : Int32))) (V_a2 : Arv Z h0 a2 k2 .byte (own_n dd) (own_bs dd) (.int (0 : Int32))) :
    MetFree l y_17 (head1 (Jvm.Cond.code y_17 jdk_43_method_13_code 3 (some .boolean) :: ws) ({ frames := 0, cells := 0, slots := 0, locals := 0 } : Room)) (fun a U => a = #[(.ref a1), (.ref a2)] ∧ Z.Warmed39 U.vm ∧ U.heap = h0) (fun _ _ _ _ _ => True) (fun _ U o U' => ∃ v L, o = .returned v ∧ Q_rmLq Z a1 a2 k1 cc k2 dd h0 n0 v U'.heap L ∧ FrameEnd U o U' L ({ frames := 0, cells := 0, slots := 0, locals := 0 } : Room).cells ({ frames := 0, cells := 0, slots := 0, locals := 0 } : Room).slots) := by
  refine MetFree.of_bodySF (plainFor_of_name pn_3) hisR ?_
  intro p e s m args below meth c s₁ Bd hml0 hP hK
  obtain ⟨rfl, hZ, hh⟩ := hP
  have hx := Bd.exec
  have hby := Bd.bytes
  have hml : c.maxLocals = 3 := hml0
  have hown : s.vm.findClass "java/lang/StringLatin1" = some m.cls := findClass_of_methodNamed Bd.named
  have hnm := (name_of_methodNamed Bd.named Bd.method).1
  have X0 : Stand p l e ({ frames := 0, cells := 0, slots := 0, locals := 0 } : Room) s m #[(.ref a1), (.ref a2)] below meth c s₁ [] 0 0 := Stand.of_body Bd
  have e0 : s₁.heap = h0 := by rw [← hh, Bd.state]; rfl
  have N0 := Fr.nil n0
  have KC : Keep h0 h0 [] := Keep.refl h0 _
  have pre0 : ∀ t, Steps p.tables e below (s₁.setTop (mkF m 0 #[vr a1, vr a2, un] [])) t → Steps p.tables e below (s₁.setTop (entryFrame m #[(.ref a1), (.ref a2)] 3)) t := fun t k => castTop (ef_rmLq m a1 a2) k
  rcases own_n9 cc dd with ⟨hc, hd⟩ | ⟨hc, hd⟩ | ⟨hc, hd⟩ | ⟨hc, hd⟩ | ⟨hc, hd⟩ | ⟨hc, hd⟩ | ⟨hc, hd⟩ | ⟨hc, hd⟩ | ⟨hc, hd⟩
  · replace V_a1 := own_e0 hc V_a1
    replace V_a2 := own_e0 hd V_a2
    have Vo1 := V_a1
    obtain ⟨cl1, Ar1, -, Sz1, Nn1, -, -⟩ := Vo1
    have ia1 := State.isArrayOf_alike hZ.alike Ar1.2.1
    have Vo2 := V_a2
    obtain ⟨cl2, Ar2, -, Sz2, Nn2, -, -⟩ := Vo2
    have ia2 := State.isArrayOf_alike hZ.alike Ar2.2.1
    have Vo3 := V_a1
    obtain ⟨cl3, Ar3, -, Sz3, Nn3, -, -⟩ := Vo3
    have ia3 := State.isArrayOf_alike hZ.alike Ar3.2.1
    obtain ⟨fs, hr, hrun, hended, hW, hsame⟩ := X0.leave (v := some (.int (1 : Int32))) (fun h => by rw [Bd.returns] at h; cases h)
    refine ⟨_, _, pre0 _ ?_, hrun, hended, _, _, rfl, ?_, ⟨_, rfl⟩, hW, hsame.mono (by decide) (by decide)⟩
    · show SS p e below m s₁ 0 #[vr a1, vr a2, un] [] _
      refine XS.aloadN X0.here hx rfl (hb hby d17_0) rfl rfl ?_
      show SS p e below m s₁ 1 #[vr a1, vr a2, un] [(.ref a1)] _
      refine X0.arraylength hx (by rw [e0]; exact Ar1.1) ia1 (g := (mkF m 1 #[vr a1, vr a2, un] [(.ref a1)])) rfl rfl (hb hby d17_1) _ ?_
      rw [len_of Sz1 Nn1]
      show SS p e below m s₁ 2 #[vr a1, vr a2, un] [(.int (0 : Int32))] _
      refine XS.aloadN X0.here hx rfl (hb hby d17_2) rfl rfl ?_
      show SS p e below m s₁ 3 #[vr a1, vr a2, un] [(.ref a2), (.int (0 : Int32))] _
      refine X0.arraylength hx (by rw [e0]; exact Ar2.1) ia2 (g := (mkF m 3 #[vr a1, vr a2, un] [(.ref a2), (.int (0 : Int32))])) rfl rfl (hb hby d17_3) _ ?_
      rw [len_of Sz2 Nn2]
      show SS p e below m s₁ 4 #[vr a1, vr a2, un] [(.int (0 : Int32)), (.int (0 : Int32))] _
      refine XS.icmpNo X0.here hx rfl (hb hby d17_4) rfl (teq (by decide)).2 ?_
      show SS p e below m s₁ 7 #[vr a1, vr a2, un] [] _
      refine XS.iconst X0.here hx rfl (hb hby d17_7) ?_
      show SS p e below m s₁ 8 #[vr a1, vr a2, un] [(.int (0 : Int32))] _
      refine XS.istoreN X0.here hx rfl (hb hby d17_8) rfl (l' := #[vr a1, vr a2, vi (0 : Int32)]) rfl ?_
      show SS p e below m s₁ 9 #[vr a1, vr a2, vi (0 : Int32)] [] _
      refine XS.iloadN X0.here hx rfl (hb hby d17_9) rfl ?_
      show SS p e below m s₁ 10 #[vr a1, vr a2, vi (0 : Int32)] [(.int (0 : Int32))] _
      refine XS.aloadN X0.here hx rfl (hb hby d17_10) rfl rfl ?_
      show SS p e below m s₁ 11 #[vr a1, vr a2, vi (0 : Int32)] [(.ref a1), (.int (0 : Int32))] _
      refine X0.arraylength hx (by rw [e0]; exact Ar3.1) ia3 (g := (mkF m 11 #[vr a1, vr a2, vi (0 : Int32)] [(.ref a1), (.int (0 : Int32))])) rfl rfl (hb hby d17_11) _ ?_
      rw [len_of Sz3 Nn3]
      show SS p e below m s₁ 12 #[vr a1, vr a2, vi (0 : Int32)] [(.int (0 : Int32)), (.int (0 : Int32))] _
      refine XS.icmpYes X0.here hx rfl (pc0 := 12) (pc' := 32) rfl (hb hby d17_12) rfl (flt (by decide)).2.1 (by decide) (by decide) ?_
      show SS p e below m s₁ 32 #[vr a1, vr a2, vi (0 : Int32)] [] _
      refine XS.iconst X0.here hx rfl (hb hby d17_32) ?_
      show SS p e below m s₁ 33 #[vr a1, vr a2, vi (0 : Int32)] [(.int (1 : Int32))] _
      exact retN X0 hx (t := .boolean) Bd.returns (by simp) (hb hby d17_33) hr
    · show Q_rmLq Z a1 a2 k1 cc k2 dd h0 n0 _ s₁.heap _
      rw [e0]
      exact ⟨(by simp [own_eq, hc, hd]), N0, rfl⟩
  · replace V_a1 := own_e0 hc V_a1
    replace V_a2 := own_e1 hd V_a2
    have Vo4 := V_a1
    obtain ⟨cl4, Ar4, -, Sz4, Nn4, -, -⟩ := Vo4
    have ia4 := State.isArrayOf_alike hZ.alike Ar4.2.1
    have Vo5 := V_a2
    obtain ⟨cl5, Ar5, -, Sz5, Nn5, -, -⟩ := Vo5
    have ia5 := State.isArrayOf_alike hZ.alike Ar5.2.1
    obtain ⟨fs, hr, hrun, hended, hW, hsame⟩ := X0.leave (v := some (.int (0 : Int32))) (fun h => by rw [Bd.returns] at h; cases h)
    refine ⟨_, _, pre0 _ ?_, hrun, hended, _, _, rfl, ?_, ⟨_, rfl⟩, hW, hsame.mono (by decide) (by decide)⟩
    · show SS p e below m s₁ 0 #[vr a1, vr a2, un] [] _
      refine XS.aloadN X0.here hx rfl (hb hby d17_0) rfl rfl ?_
      show SS p e below m s₁ 1 #[vr a1, vr a2, un] [(.ref a1)] _
      refine X0.arraylength hx (by rw [e0]; exact Ar4.1) ia4 (g := (mkF m 1 #[vr a1, vr a2, un] [(.ref a1)])) rfl rfl (hb hby d17_1) _ ?_
      rw [len_of Sz4 Nn4]
      show SS p e below m s₁ 2 #[vr a1, vr a2, un] [(.int (0 : Int32))] _
      refine XS.aloadN X0.here hx rfl (hb hby d17_2) rfl rfl ?_
      show SS p e below m s₁ 3 #[vr a1, vr a2, un] [(.ref a2), (.int (0 : Int32))] _
      refine X0.arraylength hx (by rw [e0]; exact Ar5.1) ia5 (g := (mkF m 3 #[vr a1, vr a2, un] [(.ref a2), (.int (0 : Int32))])) rfl rfl (hb hby d17_3) _ ?_
      rw [len_of Sz5 Nn5]
      show SS p e below m s₁ 4 #[vr a1, vr a2, un] [(.int (1 : Int32)), (.int (0 : Int32))] _
      refine XS.icmpYes X0.here hx rfl (pc0 := 4) (pc' := 34) rfl (hb hby d17_4) rfl (feq (by decide)).2 (by decide) (by decide) ?_
      show SS p e below m s₁ 34 #[vr a1, vr a2, un] [] _
      refine XS.iconst X0.here hx rfl (hb hby d17_34) ?_
      show SS p e below m s₁ 35 #[vr a1, vr a2, un] [(.int (0 : Int32))] _
      exact retN X0 hx (t := .boolean) Bd.returns (by simp) (hb hby d17_35) hr
    · show Q_rmLq Z a1 a2 k1 cc k2 dd h0 n0 _ s₁.heap _
      rw [e0]
      exact ⟨(by simp [own_eq, hc, hd]), N0, rfl⟩
  · replace V_a1 := own_e0 hc V_a1
    replace V_a2 := own_e2 hd V_a2
    have Vo6 := V_a1
    obtain ⟨cl6, Ar6, -, Sz6, Nn6, -, -⟩ := Vo6
    have ia6 := State.isArrayOf_alike hZ.alike Ar6.2.1
    have Vo7 := V_a2
    obtain ⟨cl7, Ar7, -, Sz7, Nn7, -, -⟩ := Vo7
    have ia7 := State.isArrayOf_alike hZ.alike Ar7.2.1
    obtain ⟨fs, hr, hrun, hended, hW, hsame⟩ := X0.leave (v := some (.int (0 : Int32))) (fun h => by rw [Bd.returns] at h; cases h)
    refine ⟨_, _, pre0 _ ?_, hrun, hended, _, _, rfl, ?_, ⟨_, rfl⟩, hW, hsame.mono (by decide) (by decide)⟩
    · show SS p e below m s₁ 0 #[vr a1, vr a2, un] [] _
      refine XS.aloadN X0.here hx rfl (hb hby d17_0) rfl rfl ?_
      show SS p e below m s₁ 1 #[vr a1, vr a2, un] [(.ref a1)] _
      refine X0.arraylength hx (by rw [e0]; exact Ar6.1) ia6 (g := (mkF m 1 #[vr a1, vr a2, un] [(.ref a1)])) rfl rfl (hb hby d17_1) _ ?_
      rw [len_of Sz6 Nn6]
      show SS p e below m s₁ 2 #[vr a1, vr a2, un] [(.int (0 : Int32))] _
      refine XS.aloadN X0.here hx rfl (hb hby d17_2) rfl rfl ?_
      show SS p e below m s₁ 3 #[vr a1, vr a2, un] [(.ref a2), (.int (0 : Int32))] _
      refine X0.arraylength hx (by rw [e0]; exact Ar7.1) ia7 (g := (mkF m 3 #[vr a1, vr a2, un] [(.ref a2), (.int (0 : Int32))])) rfl rfl (hb hby d17_3) _ ?_
      rw [len_of Sz7 Nn7]
      show SS p e below m s₁ 4 #[vr a1, vr a2, un] [(.int (2 : Int32)), (.int (0 : Int32))] _
      refine XS.icmpYes X0.here hx rfl (pc0 := 4) (pc' := 34) rfl (hb hby d17_4) rfl (feq (by decide)).2 (by decide) (by decide) ?_
      show SS p e below m s₁ 34 #[vr a1, vr a2, un] [] _
      refine XS.iconst X0.here hx rfl (hb hby d17_34) ?_
      show SS p e below m s₁ 35 #[vr a1, vr a2, un] [(.int (0 : Int32))] _
      exact retN X0 hx (t := .boolean) Bd.returns (by simp) (hb hby d17_35) hr
    · show Q_rmLq Z a1 a2 k1 cc k2 dd h0 n0 _ s₁.heap _
      rw [e0]
      exact ⟨(by simp [own_eq, hc, hd]), N0, rfl⟩
  · replace V_a1 := own_e1 hc V_a1
    replace V_a2 := own_e0 hd V_a2
    have Vo8 := V_a1
    obtain ⟨cl8, Ar8, -, Sz8, Nn8, -, -⟩ := Vo8
    have ia8 := State.isArrayOf_alike hZ.alike Ar8.2.1
    have Vo9 := V_a2
    obtain ⟨cl9, Ar9, -, Sz9, Nn9, -, -⟩ := Vo9
    have ia9 := State.isArrayOf_alike hZ.alike Ar9.2.1
    obtain ⟨fs, hr, hrun, hended, hW, hsame⟩ := X0.leave (v := some (.int (0 : Int32))) (fun h => by rw [Bd.returns] at h; cases h)
    refine ⟨_, _, pre0 _ ?_, hrun, hended, _, _, rfl, ?_, ⟨_, rfl⟩, hW, hsame.mono (by decide) (by decide)⟩
    · show SS p e below m s₁ 0 #[vr a1, vr a2, un] [] _
      refine XS.aloadN X0.here hx rfl (hb hby d17_0) rfl rfl ?_
      show SS p e below m s₁ 1 #[vr a1, vr a2, un] [(.ref a1)] _
      refine X0.arraylength hx (by rw [e0]; exact Ar8.1) ia8 (g := (mkF m 1 #[vr a1, vr a2, un] [(.ref a1)])) rfl rfl (hb hby d17_1) _ ?_
      rw [len_of Sz8 Nn8]
      show SS p e below m s₁ 2 #[vr a1, vr a2, un] [(.int (1 : Int32))] _
      refine XS.aloadN X0.here hx rfl (hb hby d17_2) rfl rfl ?_
      show SS p e below m s₁ 3 #[vr a1, vr a2, un] [(.ref a2), (.int (1 : Int32))] _
      refine X0.arraylength hx (by rw [e0]; exact Ar9.1) ia9 (g := (mkF m 3 #[vr a1, vr a2, un] [(.ref a2), (.int (1 : Int32))])) rfl rfl (hb hby d17_3) _ ?_
      rw [len_of Sz9 Nn9]
      show SS p e below m s₁ 4 #[vr a1, vr a2, un] [(.int (0 : Int32)), (.int (1 : Int32))] _
      refine XS.icmpYes X0.here hx rfl (pc0 := 4) (pc' := 34) rfl (hb hby d17_4) rfl (feq (by decide)).2 (by decide) (by decide) ?_
      show SS p e below m s₁ 34 #[vr a1, vr a2, un] [] _
      refine XS.iconst X0.here hx rfl (hb hby d17_34) ?_
      show SS p e below m s₁ 35 #[vr a1, vr a2, un] [(.int (0 : Int32))] _
      exact retN X0 hx (t := .boolean) Bd.returns (by simp) (hb hby d17_35) hr
    · show Q_rmLq Z a1 a2 k1 cc k2 dd h0 n0 _ s₁.heap _
      rw [e0]
      exact ⟨(by simp [own_eq, hc, hd]), N0, rfl⟩
  · replace V_a1 := own_e1 hc V_a1
    replace V_a2 := own_e1 hd V_a2
    have Vo10 := V_a1
    obtain ⟨cl10, Ar10, -, Sz10, Nn10, -, -⟩ := Vo10
    have ia10 := State.isArrayOf_alike hZ.alike Ar10.2.1
    have Vo11 := V_a2
    obtain ⟨cl11, Ar11, -, Sz11, Nn11, -, -⟩ := Vo11
    have ia11 := State.isArrayOf_alike hZ.alike Ar11.2.1
    have Vo12 := V_a1
    obtain ⟨cl12, Ar12, -, Sz12, Nn12, -, -⟩ := Vo12
    have ia12 := State.isArrayOf_alike hZ.alike Ar12.2.1
    have Vo13 := V_a1
    obtain ⟨cl13, Ar13, q13, Sz13, Nn13, Hh13, Gg13⟩ := Vo13
    have hin13 : ¬ ((0 : Int32) < 0 ∨ cl13.slots.size ≤ ((0 : Int32)).toNatClampNeg) := inb_of Sz13 ⟨by decide, by decide⟩
    have hat13 : cl13.slots[((0 : Int32)).toNatClampNeg]? = some (.int (own_b (own_c0 cc))) := Has.at Hh13 hin13 rfl
    have ia13 := State.isArrayOf_alike hZ.alike Ar13.2.1
    have Vo14 := V_a2
    obtain ⟨cl14, Ar14, q14, Sz14, Nn14, Hh14, Gg14⟩ := Vo14
    have hin14 : ¬ ((0 : Int32) < 0 ∨ cl14.slots.size ≤ ((0 : Int32)).toNatClampNeg) := inb_of Sz14 ⟨by decide, by decide⟩
    have hat14 : cl14.slots[((0 : Int32)).toNatClampNeg]? = some (.int (own_b (own_c0 dd))) := Has.at Hh14 hin14 rfl
    have ia14 := State.isArrayOf_alike hZ.alike Ar14.2.1
    have pre15 : ∀ t, Steps p.tables e below (s₁.setTop (mkF m 21 #[vr a1, vr a2, vi (0 : Int32)] [(.int (own_b (own_c0 dd))), (.int (own_b (own_c0 cc)))])) t → Steps p.tables e below (s₁.setTop (entryFrame m #[(.ref a1), (.ref a2)] 3)) t := by
      intro t kt
      refine pre0 t ?_
      show SS p e below m s₁ 0 #[vr a1, vr a2, un] [] _
      refine XS.aloadN X0.here hx rfl (hb hby d17_0) rfl rfl ?_
      show SS p e below m s₁ 1 #[vr a1, vr a2, un] [(.ref a1)] _
      refine X0.arraylength hx (by rw [e0]; exact Ar10.1) ia10 (g := (mkF m 1 #[vr a1, vr a2, un] [(.ref a1)])) rfl rfl (hb hby d17_1) _ ?_
      rw [len_of Sz10 Nn10]
      show SS p e below m s₁ 2 #[vr a1, vr a2, un] [(.int (1 : Int32))] _
      refine XS.aloadN X0.here hx rfl (hb hby d17_2) rfl rfl ?_
      show SS p e below m s₁ 3 #[vr a1, vr a2, un] [(.ref a2), (.int (1 : Int32))] _
      refine X0.arraylength hx (by rw [e0]; exact Ar11.1) ia11 (g := (mkF m 3 #[vr a1, vr a2, un] [(.ref a2), (.int (1 : Int32))])) rfl rfl (hb hby d17_3) _ ?_
      rw [len_of Sz11 Nn11]
      show SS p e below m s₁ 4 #[vr a1, vr a2, un] [(.int (1 : Int32)), (.int (1 : Int32))] _
      refine XS.icmpNo X0.here hx rfl (hb hby d17_4) rfl (teq (by decide)).2 ?_
      show SS p e below m s₁ 7 #[vr a1, vr a2, un] [] _
      refine XS.iconst X0.here hx rfl (hb hby d17_7) ?_
      show SS p e below m s₁ 8 #[vr a1, vr a2, un] [(.int (0 : Int32))] _
      refine XS.istoreN X0.here hx rfl (hb hby d17_8) rfl (l' := #[vr a1, vr a2, vi (0 : Int32)]) rfl ?_
      show SS p e below m s₁ 9 #[vr a1, vr a2, vi (0 : Int32)] [] _
      refine XS.iloadN X0.here hx rfl (hb hby d17_9) rfl ?_
      show SS p e below m s₁ 10 #[vr a1, vr a2, vi (0 : Int32)] [(.int (0 : Int32))] _
      refine XS.aloadN X0.here hx rfl (hb hby d17_10) rfl rfl ?_
      show SS p e below m s₁ 11 #[vr a1, vr a2, vi (0 : Int32)] [(.ref a1), (.int (0 : Int32))] _
      refine X0.arraylength hx (by rw [e0]; exact Ar12.1) ia12 (g := (mkF m 11 #[vr a1, vr a2, vi (0 : Int32)] [(.ref a1), (.int (0 : Int32))])) rfl rfl (hb hby d17_11) _ ?_
      rw [len_of Sz12 Nn12]
      show SS p e below m s₁ 12 #[vr a1, vr a2, vi (0 : Int32)] [(.int (1 : Int32)), (.int (0 : Int32))] _
      refine XS.icmpNo X0.here hx rfl (hb hby d17_12) rfl (tlt (by decide)).2.1 ?_
      show SS p e below m s₁ 15 #[vr a1, vr a2, vi (0 : Int32)] [] _
      refine XS.aloadN X0.here hx rfl (hb hby d17_15) rfl rfl ?_
      show SS p e below m s₁ 16 #[vr a1, vr a2, vi (0 : Int32)] [(.ref a1)] _
      refine XS.iloadN X0.here hx rfl (hb hby d17_16) rfl ?_
      show SS p e below m s₁ 17 #[vr a1, vr a2, vi (0 : Int32)] [(.int (0 : Int32)), (.ref a1)] _
      refine X0.baloadBytes hx (j := (0 : Int32)) (v := (.int (own_b (own_c0 cc)))) (by rw [e0]; exact Ar13.1) ia13 Ar13.2.2 hin13 hat13 (g := (mkF m 17 #[vr a1, vr a2, vi (0 : Int32)] [(.int (0 : Int32)), (.ref a1)])) rfl rfl (hb hby d17_17) _ ?_
      show SS p e below m s₁ 18 #[vr a1, vr a2, vi (0 : Int32)] [(.int (own_b (own_c0 cc)))] _
      refine XS.aloadN X0.here hx rfl (hb hby d17_18) rfl rfl ?_
      show SS p e below m s₁ 19 #[vr a1, vr a2, vi (0 : Int32)] [(.ref a2), (.int (own_b (own_c0 cc)))] _
      refine XS.iloadN X0.here hx rfl (hb hby d17_19) rfl ?_
      show SS p e below m s₁ 20 #[vr a1, vr a2, vi (0 : Int32)] [(.int (0 : Int32)), (.ref a2), (.int (own_b (own_c0 cc)))] _
      refine X0.baloadBytes hx (j := (0 : Int32)) (v := (.int (own_b (own_c0 dd)))) (by rw [e0]; exact Ar14.1) ia14 Ar14.2.2 hin14 hat14 (g := (mkF m 20 #[vr a1, vr a2, vi (0 : Int32)] [(.int (0 : Int32)), (.ref a2), (.int (own_b (own_c0 cc)))])) rfl rfl (hb hby d17_20) _ ?_
      exact kt
    by_cases hc21_16 : (own_b (own_c0 cc)) = (own_b (own_c0 dd))
    · have Vo17 := V_a1
      obtain ⟨cl17, Ar17, -, Sz17, Nn17, -, -⟩ := Vo17
      have ia17 := State.isArrayOf_alike hZ.alike Ar17.2.1
      obtain ⟨fs, hr, hrun, hended, hW, hsame⟩ := X0.leave (v := some (.int (1 : Int32))) (fun h => by rw [Bd.returns] at h; cases h)
      refine ⟨_, _, pre15 _ ?_, hrun, hended, _, _, rfl, ?_, ⟨_, rfl⟩, hW, hsame.mono (by decide) (by decide)⟩
      · show SS p e below m s₁ 21 #[vr a1, vr a2, vi (0 : Int32)] [(.int (own_b (own_c0 dd))), (.int (own_b (own_c0 cc)))] _
        refine XS.icmpYes X0.here hx rfl (pc0 := 21) (pc' := 26) rfl (hb hby d17_21) rfl (teq hc21_16).1 (by decide) (by decide) ?_
        show SS p e below m s₁ 26 #[vr a1, vr a2, vi (0 : Int32)] [] _
        refine XS.iinc X0.here hx rfl (hb hby d17_26) rfl (l' := #[vr a1, vr a2, vi (1 : Int32)]) rfl ?_
        show SS p e below m s₁ 29 #[vr a1, vr a2, vi (1 : Int32)] [] _
        refine XS.goto X0.here hx rfl (pc0 := 29) (pc' := 9) rfl (hb hby d17_29) (by decide) (by decide) ?_
        show SS p e below m s₁ 9 #[vr a1, vr a2, vi (1 : Int32)] [] _
        refine XS.iloadN X0.here hx rfl (hb hby d17_9) rfl ?_
        show SS p e below m s₁ 10 #[vr a1, vr a2, vi (1 : Int32)] [(.int (1 : Int32))] _
        refine XS.aloadN X0.here hx rfl (hb hby d17_10) rfl rfl ?_
        show SS p e below m s₁ 11 #[vr a1, vr a2, vi (1 : Int32)] [(.ref a1), (.int (1 : Int32))] _
        refine X0.arraylength hx (by rw [e0]; exact Ar17.1) ia17 (g := (mkF m 11 #[vr a1, vr a2, vi (1 : Int32)] [(.ref a1), (.int (1 : Int32))])) rfl rfl (hb hby d17_11) _ ?_
        rw [len_of Sz17 Nn17]
        show SS p e below m s₁ 12 #[vr a1, vr a2, vi (1 : Int32)] [(.int (1 : Int32)), (.int (1 : Int32))] _
        refine XS.icmpYes X0.here hx rfl (pc0 := 12) (pc' := 32) rfl (hb hby d17_12) rfl (flt (by decide)).2.1 (by decide) (by decide) ?_
        show SS p e below m s₁ 32 #[vr a1, vr a2, vi (1 : Int32)] [] _
        refine XS.iconst X0.here hx rfl (hb hby d17_32) ?_
        show SS p e below m s₁ 33 #[vr a1, vr a2, vi (1 : Int32)] [(.int (1 : Int32))] _
        exact retN X0 hx (t := .boolean) Bd.returns (by simp) (hb hby d17_33) hr
      · show Q_rmLq Z a1 a2 k1 cc k2 dd h0 n0 _ s₁.heap _
        rw [e0]
        exact ⟨(by simp [own_eq, hc, hd, own_i0.mp hc21_16]), N0, rfl⟩
    · obtain ⟨fs, hr, hrun, hended, hW, hsame⟩ := X0.leave (v := some (.int (0 : Int32))) (fun h => by rw [Bd.returns] at h; cases h)
      refine ⟨_, _, pre15 _ ?_, hrun, hended, _, _, rfl, ?_, ⟨_, rfl⟩, hW, hsame.mono (by decide) (by decide)⟩
      · show SS p e below m s₁ 21 #[vr a1, vr a2, vi (0 : Int32)] [(.int (own_b (own_c0 dd))), (.int (own_b (own_c0 cc)))] _
        refine XS.icmpNo X0.here hx rfl (hb hby d17_21) rfl (feq hc21_16).1 ?_
        show SS p e below m s₁ 24 #[vr a1, vr a2, vi (0 : Int32)] [] _
        refine XS.iconst X0.here hx rfl (hb hby d17_24) ?_
        show SS p e below m s₁ 25 #[vr a1, vr a2, vi (0 : Int32)] [(.int (0 : Int32))] _
        exact retN X0 hx (t := .boolean) Bd.returns (by simp) (hb hby d17_25) hr
      · show Q_rmLq Z a1 a2 k1 cc k2 dd h0 n0 _ s₁.heap _
        rw [e0]
        exact ⟨(by simp [own_eq, hc, hd, mt own_i0.mpr hc21_16]), N0, rfl⟩
  · replace V_a1 := own_e1 hc V_a1
    replace V_a2 := own_e2 hd V_a2
    have Vo18 := V_a1
    obtain ⟨cl18, Ar18, -, Sz18, Nn18, -, -⟩ := Vo18
    have ia18 := State.isArrayOf_alike hZ.alike Ar18.2.1
    have Vo19 := V_a2
    obtain ⟨cl19, Ar19, -, Sz19, Nn19, -, -⟩ := Vo19
    have ia19 := State.isArrayOf_alike hZ.alike Ar19.2.1
    obtain ⟨fs, hr, hrun, hended, hW, hsame⟩ := X0.leave (v := some (.int (0 : Int32))) (fun h => by rw [Bd.returns] at h; cases h)
    refine ⟨_, _, pre0 _ ?_, hrun, hended, _, _, rfl, ?_, ⟨_, rfl⟩, hW, hsame.mono (by decide) (by decide)⟩
    · show SS p e below m s₁ 0 #[vr a1, vr a2, un] [] _
      refine XS.aloadN X0.here hx rfl (hb hby d17_0) rfl rfl ?_
      show SS p e below m s₁ 1 #[vr a1, vr a2, un] [(.ref a1)] _
      refine X0.arraylength hx (by rw [e0]; exact Ar18.1) ia18 (g := (mkF m 1 #[vr a1, vr a2, un] [(.ref a1)])) rfl rfl (hb hby d17_1) _ ?_
      rw [len_of Sz18 Nn18]
      show SS p e below m s₁ 2 #[vr a1, vr a2, un] [(.int (1 : Int32))] _
      refine XS.aloadN X0.here hx rfl (hb hby d17_2) rfl rfl ?_
      show SS p e below m s₁ 3 #[vr a1, vr a2, un] [(.ref a2), (.int (1 : Int32))] _
      refine X0.arraylength hx (by rw [e0]; exact Ar19.1) ia19 (g := (mkF m 3 #[vr a1, vr a2, un] [(.ref a2), (.int (1 : Int32))])) rfl rfl (hb hby d17_3) _ ?_
      rw [len_of Sz19 Nn19]
      show SS p e below m s₁ 4 #[vr a1, vr a2, un] [(.int (2 : Int32)), (.int (1 : Int32))] _
      refine XS.icmpYes X0.here hx rfl (pc0 := 4) (pc' := 34) rfl (hb hby d17_4) rfl (feq (by decide)).2 (by decide) (by decide) ?_
      show SS p e below m s₁ 34 #[vr a1, vr a2, un] [] _
      refine XS.iconst X0.here hx rfl (hb hby d17_34) ?_
      show SS p e below m s₁ 35 #[vr a1, vr a2, un] [(.int (0 : Int32))] _
      exact retN X0 hx (t := .boolean) Bd.returns (by simp) (hb hby d17_35) hr
    · show Q_rmLq Z a1 a2 k1 cc k2 dd h0 n0 _ s₁.heap _
      rw [e0]
      exact ⟨(by simp [own_eq, hc, hd]), N0, rfl⟩
  · replace V_a1 := own_e2 hc V_a1
    replace V_a2 := own_e0 hd V_a2
    have Vo20 := V_a1
    obtain ⟨cl20, Ar20, -, Sz20, Nn20, -, -⟩ := Vo20
    have ia20 := State.isArrayOf_alike hZ.alike Ar20.2.1
    have Vo21 := V_a2
    obtain ⟨cl21, Ar21, -, Sz21, Nn21, -, -⟩ := Vo21
    have ia21 := State.isArrayOf_alike hZ.alike Ar21.2.1
    obtain ⟨fs, hr, hrun, hended, hW, hsame⟩ := X0.leave (v := some (.int (0 : Int32))) (fun h => by rw [Bd.returns] at h; cases h)
    refine ⟨_, _, pre0 _ ?_, hrun, hended, _, _, rfl, ?_, ⟨_, rfl⟩, hW, hsame.mono (by decide) (by decide)⟩
    · show SS p e below m s₁ 0 #[vr a1, vr a2, un] [] _
      refine XS.aloadN X0.here hx rfl (hb hby d17_0) rfl rfl ?_
      show SS p e below m s₁ 1 #[vr a1, vr a2, un] [(.ref a1)] _
      refine X0.arraylength hx (by rw [e0]; exact Ar20.1) ia20 (g := (mkF m 1 #[vr a1, vr a2, un] [(.ref a1)])) rfl rfl (hb hby d17_1) _ ?_
      rw [len_of Sz20 Nn20]
      show SS p e below m s₁ 2 #[vr a1, vr a2, un] [(.int (2 : Int32))] _
      refine XS.aloadN X0.here hx rfl (hb hby d17_2) rfl rfl ?_
      show SS p e below m s₁ 3 #[vr a1, vr a2, un] [(.ref a2), (.int (2 : Int32))] _
      refine X0.arraylength hx (by rw [e0]; exact Ar21.1) ia21 (g := (mkF m 3 #[vr a1, vr a2, un] [(.ref a2), (.int (2 : Int32))])) rfl rfl (hb hby d17_3) _ ?_
      rw [len_of Sz21 Nn21]
      show SS p e below m s₁ 4 #[vr a1, vr a2, un] [(.int (0 : Int32)), (.int (2 : Int32))] _
      refine XS.icmpYes X0.here hx rfl (pc0 := 4) (pc' := 34) rfl (hb hby d17_4) rfl (feq (by decide)).2 (by decide) (by decide) ?_
      show SS p e below m s₁ 34 #[vr a1, vr a2, un] [] _
      refine XS.iconst X0.here hx rfl (hb hby d17_34) ?_
      show SS p e below m s₁ 35 #[vr a1, vr a2, un] [(.int (0 : Int32))] _
      exact retN X0 hx (t := .boolean) Bd.returns (by simp) (hb hby d17_35) hr
    · show Q_rmLq Z a1 a2 k1 cc k2 dd h0 n0 _ s₁.heap _
      rw [e0]
      exact ⟨(by simp [own_eq, hc, hd]), N0, rfl⟩
  · replace V_a1 := own_e2 hc V_a1
    replace V_a2 := own_e1 hd V_a2
    have Vo22 := V_a1
    obtain ⟨cl22, Ar22, -, Sz22, Nn22, -, -⟩ := Vo22
    have ia22 := State.isArrayOf_alike hZ.alike Ar22.2.1
    have Vo23 := V_a2
    obtain ⟨cl23, Ar23, -, Sz23, Nn23, -, -⟩ := Vo23
    have ia23 := State.isArrayOf_alike hZ.alike Ar23.2.1
    obtain ⟨fs, hr, hrun, hended, hW, hsame⟩ := X0.leave (v := some (.int (0 : Int32))) (fun h => by rw [Bd.returns] at h; cases h)
    refine ⟨_, _, pre0 _ ?_, hrun, hended, _, _, rfl, ?_, ⟨_, rfl⟩, hW, hsame.mono (by decide) (by decide)⟩
    · show SS p e below m s₁ 0 #[vr a1, vr a2, un] [] _
      refine XS.aloadN X0.here hx rfl (hb hby d17_0) rfl rfl ?_
      show SS p e below m s₁ 1 #[vr a1, vr a2, un] [(.ref a1)] _
      refine X0.arraylength hx (by rw [e0]; exact Ar22.1) ia22 (g := (mkF m 1 #[vr a1, vr a2, un] [(.ref a1)])) rfl rfl (hb hby d17_1) _ ?_
      rw [len_of Sz22 Nn22]
      show SS p e below m s₁ 2 #[vr a1, vr a2, un] [(.int (2 : Int32))] _
      refine XS.aloadN X0.here hx rfl (hb hby d17_2) rfl rfl ?_
      show SS p e below m s₁ 3 #[vr a1, vr a2, un] [(.ref a2), (.int (2 : Int32))] _
      refine X0.arraylength hx (by rw [e0]; exact Ar23.1) ia23 (g := (mkF m 3 #[vr a1, vr a2, un] [(.ref a2), (.int (2 : Int32))])) rfl rfl (hb hby d17_3) _ ?_
      rw [len_of Sz23 Nn23]
      show SS p e below m s₁ 4 #[vr a1, vr a2, un] [(.int (1 : Int32)), (.int (2 : Int32))] _
      refine XS.icmpYes X0.here hx rfl (pc0 := 4) (pc' := 34) rfl (hb hby d17_4) rfl (feq (by decide)).2 (by decide) (by decide) ?_
      show SS p e below m s₁ 34 #[vr a1, vr a2, un] [] _
      refine XS.iconst X0.here hx rfl (hb hby d17_34) ?_
      show SS p e below m s₁ 35 #[vr a1, vr a2, un] [(.int (0 : Int32))] _
      exact retN X0 hx (t := .boolean) Bd.returns (by simp) (hb hby d17_35) hr
    · show Q_rmLq Z a1 a2 k1 cc k2 dd h0 n0 _ s₁.heap _
      rw [e0]
      exact ⟨(by simp [own_eq, hc, hd]), N0, rfl⟩
  · replace V_a1 := own_e2 hc V_a1
    replace V_a2 := own_e2 hd V_a2
    have Vo24 := V_a1
    obtain ⟨cl24, Ar24, -, Sz24, Nn24, -, -⟩ := Vo24
    have ia24 := State.isArrayOf_alike hZ.alike Ar24.2.1
    have Vo25 := V_a2
    obtain ⟨cl25, Ar25, -, Sz25, Nn25, -, -⟩ := Vo25
    have ia25 := State.isArrayOf_alike hZ.alike Ar25.2.1
    have Vo26 := V_a1
    obtain ⟨cl26, Ar26, -, Sz26, Nn26, -, -⟩ := Vo26
    have ia26 := State.isArrayOf_alike hZ.alike Ar26.2.1
    have Vo27 := V_a1
    obtain ⟨cl27, Ar27, q27, Sz27, Nn27, Hh27, Gg27⟩ := Vo27
    have hin27 : ¬ ((0 : Int32) < 0 ∨ cl27.slots.size ≤ ((0 : Int32)).toNatClampNeg) := inb_of Sz27 ⟨by decide, by decide⟩
    have hat27 : cl27.slots[((0 : Int32)).toNatClampNeg]? = some (.int (own_b (own_c0 cc))) := Has.at Hh27 hin27 rfl
    have ia27 := State.isArrayOf_alike hZ.alike Ar27.2.1
    have Vo28 := V_a2
    obtain ⟨cl28, Ar28, q28, Sz28, Nn28, Hh28, Gg28⟩ := Vo28
    have hin28 : ¬ ((0 : Int32) < 0 ∨ cl28.slots.size ≤ ((0 : Int32)).toNatClampNeg) := inb_of Sz28 ⟨by decide, by decide⟩
    have hat28 : cl28.slots[((0 : Int32)).toNatClampNeg]? = some (.int (own_b (own_c0 dd))) := Has.at Hh28 hin28 rfl
    have ia28 := State.isArrayOf_alike hZ.alike Ar28.2.1
    have pre29 : ∀ t, Steps p.tables e below (s₁.setTop (mkF m 21 #[vr a1, vr a2, vi (0 : Int32)] [(.int (own_b (own_c0 dd))), (.int (own_b (own_c0 cc)))])) t → Steps p.tables e below (s₁.setTop (entryFrame m #[(.ref a1), (.ref a2)] 3)) t := by
      intro t kt
      refine pre0 t ?_
      show SS p e below m s₁ 0 #[vr a1, vr a2, un] [] _
      refine XS.aloadN X0.here hx rfl (hb hby d17_0) rfl rfl ?_
      show SS p e below m s₁ 1 #[vr a1, vr a2, un] [(.ref a1)] _
      refine X0.arraylength hx (by rw [e0]; exact Ar24.1) ia24 (g := (mkF m 1 #[vr a1, vr a2, un] [(.ref a1)])) rfl rfl (hb hby d17_1) _ ?_
      rw [len_of Sz24 Nn24]
      show SS p e below m s₁ 2 #[vr a1, vr a2, un] [(.int (2 : Int32))] _
      refine XS.aloadN X0.here hx rfl (hb hby d17_2) rfl rfl ?_
      show SS p e below m s₁ 3 #[vr a1, vr a2, un] [(.ref a2), (.int (2 : Int32))] _
      refine X0.arraylength hx (by rw [e0]; exact Ar25.1) ia25 (g := (mkF m 3 #[vr a1, vr a2, un] [(.ref a2), (.int (2 : Int32))])) rfl rfl (hb hby d17_3) _ ?_
      rw [len_of Sz25 Nn25]
      show SS p e below m s₁ 4 #[vr a1, vr a2, un] [(.int (2 : Int32)), (.int (2 : Int32))] _
      refine XS.icmpNo X0.here hx rfl (hb hby d17_4) rfl (teq (by decide)).2 ?_
      show SS p e below m s₁ 7 #[vr a1, vr a2, un] [] _
      refine XS.iconst X0.here hx rfl (hb hby d17_7) ?_
      show SS p e below m s₁ 8 #[vr a1, vr a2, un] [(.int (0 : Int32))] _
      refine XS.istoreN X0.here hx rfl (hb hby d17_8) rfl (l' := #[vr a1, vr a2, vi (0 : Int32)]) rfl ?_
      show SS p e below m s₁ 9 #[vr a1, vr a2, vi (0 : Int32)] [] _
      refine XS.iloadN X0.here hx rfl (hb hby d17_9) rfl ?_
      show SS p e below m s₁ 10 #[vr a1, vr a2, vi (0 : Int32)] [(.int (0 : Int32))] _
      refine XS.aloadN X0.here hx rfl (hb hby d17_10) rfl rfl ?_
      show SS p e below m s₁ 11 #[vr a1, vr a2, vi (0 : Int32)] [(.ref a1), (.int (0 : Int32))] _
      refine X0.arraylength hx (by rw [e0]; exact Ar26.1) ia26 (g := (mkF m 11 #[vr a1, vr a2, vi (0 : Int32)] [(.ref a1), (.int (0 : Int32))])) rfl rfl (hb hby d17_11) _ ?_
      rw [len_of Sz26 Nn26]
      show SS p e below m s₁ 12 #[vr a1, vr a2, vi (0 : Int32)] [(.int (2 : Int32)), (.int (0 : Int32))] _
      refine XS.icmpNo X0.here hx rfl (hb hby d17_12) rfl (tlt (by decide)).2.1 ?_
      show SS p e below m s₁ 15 #[vr a1, vr a2, vi (0 : Int32)] [] _
      refine XS.aloadN X0.here hx rfl (hb hby d17_15) rfl rfl ?_
      show SS p e below m s₁ 16 #[vr a1, vr a2, vi (0 : Int32)] [(.ref a1)] _
      refine XS.iloadN X0.here hx rfl (hb hby d17_16) rfl ?_
      show SS p e below m s₁ 17 #[vr a1, vr a2, vi (0 : Int32)] [(.int (0 : Int32)), (.ref a1)] _
      refine X0.baloadBytes hx (j := (0 : Int32)) (v := (.int (own_b (own_c0 cc)))) (by rw [e0]; exact Ar27.1) ia27 Ar27.2.2 hin27 hat27 (g := (mkF m 17 #[vr a1, vr a2, vi (0 : Int32)] [(.int (0 : Int32)), (.ref a1)])) rfl rfl (hb hby d17_17) _ ?_
      show SS p e below m s₁ 18 #[vr a1, vr a2, vi (0 : Int32)] [(.int (own_b (own_c0 cc)))] _
      refine XS.aloadN X0.here hx rfl (hb hby d17_18) rfl rfl ?_
      show SS p e below m s₁ 19 #[vr a1, vr a2, vi (0 : Int32)] [(.ref a2), (.int (own_b (own_c0 cc)))] _
      refine XS.iloadN X0.here hx rfl (hb hby d17_19) rfl ?_
      show SS p e below m s₁ 20 #[vr a1, vr a2, vi (0 : Int32)] [(.int (0 : Int32)), (.ref a2), (.int (own_b (own_c0 cc)))] _
      refine X0.baloadBytes hx (j := (0 : Int32)) (v := (.int (own_b (own_c0 dd)))) (by rw [e0]; exact Ar28.1) ia28 Ar28.2.2 hin28 hat28 (g := (mkF m 20 #[vr a1, vr a2, vi (0 : Int32)] [(.int (0 : Int32)), (.ref a2), (.int (own_b (own_c0 cc)))])) rfl rfl (hb hby d17_20) _ ?_
      exact kt
    by_cases hc21_30 : (own_b (own_c0 cc)) = (own_b (own_c0 dd))
    · have Vo31 := V_a1
      obtain ⟨cl31, Ar31, -, Sz31, Nn31, -, -⟩ := Vo31
      have ia31 := State.isArrayOf_alike hZ.alike Ar31.2.1
      have Vo32 := V_a1
      obtain ⟨cl32, Ar32, q32, Sz32, Nn32, Hh32, Gg32⟩ := Vo32
      have hin32 : ¬ ((1 : Int32) < 0 ∨ cl32.slots.size ≤ ((1 : Int32)).toNatClampNeg) := inb_of Sz32 ⟨by decide, by decide⟩
      have hat32 : cl32.slots[((1 : Int32)).toNatClampNeg]? = some (.int (own_b (own_c1 cc))) := Has.at Hh32 hin32 rfl
      have ia32 := State.isArrayOf_alike hZ.alike Ar32.2.1
      have Vo33 := V_a2
      obtain ⟨cl33, Ar33, q33, Sz33, Nn33, Hh33, Gg33⟩ := Vo33
      have hin33 : ¬ ((1 : Int32) < 0 ∨ cl33.slots.size ≤ ((1 : Int32)).toNatClampNeg) := inb_of Sz33 ⟨by decide, by decide⟩
      have hat33 : cl33.slots[((1 : Int32)).toNatClampNeg]? = some (.int (own_b (own_c1 dd))) := Has.at Hh33 hin33 rfl
      have ia33 := State.isArrayOf_alike hZ.alike Ar33.2.1
      have pre34 : ∀ t, Steps p.tables e below (s₁.setTop (mkF m 21 #[vr a1, vr a2, vi (1 : Int32)] [(.int (own_b (own_c1 dd))), (.int (own_b (own_c1 cc)))])) t → Steps p.tables e below (s₁.setTop (entryFrame m #[(.ref a1), (.ref a2)] 3)) t := by
        intro t kt
        refine pre29 t ?_
        show SS p e below m s₁ 21 #[vr a1, vr a2, vi (0 : Int32)] [(.int (own_b (own_c0 dd))), (.int (own_b (own_c0 cc)))] _
        refine XS.icmpYes X0.here hx rfl (pc0 := 21) (pc' := 26) rfl (hb hby d17_21) rfl (teq hc21_30).1 (by decide) (by decide) ?_
        show SS p e below m s₁ 26 #[vr a1, vr a2, vi (0 : Int32)] [] _
        refine XS.iinc X0.here hx rfl (hb hby d17_26) rfl (l' := #[vr a1, vr a2, vi (1 : Int32)]) rfl ?_
        show SS p e below m s₁ 29 #[vr a1, vr a2, vi (1 : Int32)] [] _
        refine XS.goto X0.here hx rfl (pc0 := 29) (pc' := 9) rfl (hb hby d17_29) (by decide) (by decide) ?_
        show SS p e below m s₁ 9 #[vr a1, vr a2, vi (1 : Int32)] [] _
        refine XS.iloadN X0.here hx rfl (hb hby d17_9) rfl ?_
        show SS p e below m s₁ 10 #[vr a1, vr a2, vi (1 : Int32)] [(.int (1 : Int32))] _
        refine XS.aloadN X0.here hx rfl (hb hby d17_10) rfl rfl ?_
        show SS p e below m s₁ 11 #[vr a1, vr a2, vi (1 : Int32)] [(.ref a1), (.int (1 : Int32))] _
        refine X0.arraylength hx (by rw [e0]; exact Ar31.1) ia31 (g := (mkF m 11 #[vr a1, vr a2, vi (1 : Int32)] [(.ref a1), (.int (1 : Int32))])) rfl rfl (hb hby d17_11) _ ?_
        rw [len_of Sz31 Nn31]
        show SS p e below m s₁ 12 #[vr a1, vr a2, vi (1 : Int32)] [(.int (2 : Int32)), (.int (1 : Int32))] _
        refine XS.icmpNo X0.here hx rfl (hb hby d17_12) rfl (tlt (by decide)).2.1 ?_
        show SS p e below m s₁ 15 #[vr a1, vr a2, vi (1 : Int32)] [] _
        refine XS.aloadN X0.here hx rfl (hb hby d17_15) rfl rfl ?_
        show SS p e below m s₁ 16 #[vr a1, vr a2, vi (1 : Int32)] [(.ref a1)] _
        refine XS.iloadN X0.here hx rfl (hb hby d17_16) rfl ?_
        show SS p e below m s₁ 17 #[vr a1, vr a2, vi (1 : Int32)] [(.int (1 : Int32)), (.ref a1)] _
        refine X0.baloadBytes hx (j := (1 : Int32)) (v := (.int (own_b (own_c1 cc)))) (by rw [e0]; exact Ar32.1) ia32 Ar32.2.2 hin32 hat32 (g := (mkF m 17 #[vr a1, vr a2, vi (1 : Int32)] [(.int (1 : Int32)), (.ref a1)])) rfl rfl (hb hby d17_17) _ ?_
        show SS p e below m s₁ 18 #[vr a1, vr a2, vi (1 : Int32)] [(.int (own_b (own_c1 cc)))] _
        refine XS.aloadN X0.here hx rfl (hb hby d17_18) rfl rfl ?_
        show SS p e below m s₁ 19 #[vr a1, vr a2, vi (1 : Int32)] [(.ref a2), (.int (own_b (own_c1 cc)))] _
        refine XS.iloadN X0.here hx rfl (hb hby d17_19) rfl ?_
        show SS p e below m s₁ 20 #[vr a1, vr a2, vi (1 : Int32)] [(.int (1 : Int32)), (.ref a2), (.int (own_b (own_c1 cc)))] _
        refine X0.baloadBytes hx (j := (1 : Int32)) (v := (.int (own_b (own_c1 dd)))) (by rw [e0]; exact Ar33.1) ia33 Ar33.2.2 hin33 hat33 (g := (mkF m 20 #[vr a1, vr a2, vi (1 : Int32)] [(.int (1 : Int32)), (.ref a2), (.int (own_b (own_c1 cc)))])) rfl rfl (hb hby d17_20) _ ?_
        exact kt
      by_cases hc21_35 : (own_b (own_c1 cc)) = (own_b (own_c1 dd))
      · have Vo36 := V_a1
        obtain ⟨cl36, Ar36, -, Sz36, Nn36, -, -⟩ := Vo36
        have ia36 := State.isArrayOf_alike hZ.alike Ar36.2.1
        obtain ⟨fs, hr, hrun, hended, hW, hsame⟩ := X0.leave (v := some (.int (1 : Int32))) (fun h => by rw [Bd.returns] at h; cases h)
        refine ⟨_, _, pre34 _ ?_, hrun, hended, _, _, rfl, ?_, ⟨_, rfl⟩, hW, hsame.mono (by decide) (by decide)⟩
        · show SS p e below m s₁ 21 #[vr a1, vr a2, vi (1 : Int32)] [(.int (own_b (own_c1 dd))), (.int (own_b (own_c1 cc)))] _
          refine XS.icmpYes X0.here hx rfl (pc0 := 21) (pc' := 26) rfl (hb hby d17_21) rfl (teq hc21_35).1 (by decide) (by decide) ?_
          show SS p e below m s₁ 26 #[vr a1, vr a2, vi (1 : Int32)] [] _
          refine XS.iinc X0.here hx rfl (hb hby d17_26) rfl (l' := #[vr a1, vr a2, vi (2 : Int32)]) rfl ?_
          show SS p e below m s₁ 29 #[vr a1, vr a2, vi (2 : Int32)] [] _
          refine XS.goto X0.here hx rfl (pc0 := 29) (pc' := 9) rfl (hb hby d17_29) (by decide) (by decide) ?_
          show SS p e below m s₁ 9 #[vr a1, vr a2, vi (2 : Int32)] [] _
          refine XS.iloadN X0.here hx rfl (hb hby d17_9) rfl ?_
          show SS p e below m s₁ 10 #[vr a1, vr a2, vi (2 : Int32)] [(.int (2 : Int32))] _
          refine XS.aloadN X0.here hx rfl (hb hby d17_10) rfl rfl ?_
          show SS p e below m s₁ 11 #[vr a1, vr a2, vi (2 : Int32)] [(.ref a1), (.int (2 : Int32))] _
          refine X0.arraylength hx (by rw [e0]; exact Ar36.1) ia36 (g := (mkF m 11 #[vr a1, vr a2, vi (2 : Int32)] [(.ref a1), (.int (2 : Int32))])) rfl rfl (hb hby d17_11) _ ?_
          rw [len_of Sz36 Nn36]
          show SS p e below m s₁ 12 #[vr a1, vr a2, vi (2 : Int32)] [(.int (2 : Int32)), (.int (2 : Int32))] _
          refine XS.icmpYes X0.here hx rfl (pc0 := 12) (pc' := 32) rfl (hb hby d17_12) rfl (flt (by decide)).2.1 (by decide) (by decide) ?_
          show SS p e below m s₁ 32 #[vr a1, vr a2, vi (2 : Int32)] [] _
          refine XS.iconst X0.here hx rfl (hb hby d17_32) ?_
          show SS p e below m s₁ 33 #[vr a1, vr a2, vi (2 : Int32)] [(.int (1 : Int32))] _
          exact retN X0 hx (t := .boolean) Bd.returns (by simp) (hb hby d17_33) hr
        · show Q_rmLq Z a1 a2 k1 cc k2 dd h0 n0 _ s₁.heap _
          rw [e0]
          exact ⟨(by simp [own_eq, hc, hd, own_i0.mp hc21_30, own_i1.mp hc21_35]), N0, rfl⟩
      · obtain ⟨fs, hr, hrun, hended, hW, hsame⟩ := X0.leave (v := some (.int (0 : Int32))) (fun h => by rw [Bd.returns] at h; cases h)
        refine ⟨_, _, pre34 _ ?_, hrun, hended, _, _, rfl, ?_, ⟨_, rfl⟩, hW, hsame.mono (by decide) (by decide)⟩
        · show SS p e below m s₁ 21 #[vr a1, vr a2, vi (1 : Int32)] [(.int (own_b (own_c1 dd))), (.int (own_b (own_c1 cc)))] _
          refine XS.icmpNo X0.here hx rfl (hb hby d17_21) rfl (feq hc21_35).1 ?_
          show SS p e below m s₁ 24 #[vr a1, vr a2, vi (1 : Int32)] [] _
          refine XS.iconst X0.here hx rfl (hb hby d17_24) ?_
          show SS p e below m s₁ 25 #[vr a1, vr a2, vi (1 : Int32)] [(.int (0 : Int32))] _
          exact retN X0 hx (t := .boolean) Bd.returns (by simp) (hb hby d17_25) hr
        · show Q_rmLq Z a1 a2 k1 cc k2 dd h0 n0 _ s₁.heap _
          rw [e0]
          exact ⟨(by simp [own_eq, hc, hd, own_i0.mp hc21_30, mt own_i1.mpr hc21_35]), N0, rfl⟩
    · obtain ⟨fs, hr, hrun, hended, hW, hsame⟩ := X0.leave (v := some (.int (0 : Int32))) (fun h => by rw [Bd.returns] at h; cases h)
      refine ⟨_, _, pre29 _ ?_, hrun, hended, _, _, rfl, ?_, ⟨_, rfl⟩, hW, hsame.mono (by decide) (by decide)⟩
      · show SS p e below m s₁ 21 #[vr a1, vr a2, vi (0 : Int32)] [(.int (own_b (own_c0 dd))), (.int (own_b (own_c0 cc)))] _
        refine XS.icmpNo X0.here hx rfl (hb hby d17_21) rfl (feq hc21_30).1 ?_
        show SS p e below m s₁ 24 #[vr a1, vr a2, vi (0 : Int32)] [] _
        refine XS.iconst X0.here hx rfl (hb hby d17_24) ?_
        show SS p e below m s₁ 25 #[vr a1, vr a2, vi (0 : Int32)] [(.int (0 : Int32))] _
        exact retN X0 hx (t := .boolean) Bd.returns (by simp) (hb hby d17_25) hr
      · show Q_rmLq Z a1 a2 k1 cc k2 dd h0 n0 _ s₁.heap _
        rw [e0]
        exact ⟨(by simp [own_eq, hc, hd, mt own_i0.mpr hc21_30]), N0, rfl⟩
theorem pd_13 : parseMethodDescriptor "([B[B)Z" = some ⟨[(.array .byte), (.array .byte)], some .boolean⟩ := by decide +kernel
theorem d16_0 : decode jdk_42_method_66_code 0 = .ok (.aload_n 0, 1) := by decide +kernel
theorem d16_1 : decode jdk_42_method_66_code 1 = .ok (.aload_n 1, 1) := by decide +kernel
theorem d16_2 : decode jdk_42_method_66_code 2 = .ok (.if_acmp .ne 5, 3) := by decide +kernel
theorem d16_7 : decode jdk_42_method_66_code 7 = .ok (.aload_n 1, 1) := by decide +kernel
theorem d16_8 : decode jdk_42_method_66_code 8 = .ok (.instanceof 10, 3) := by decide +kernel
theorem d16_11 : decode jdk_42_method_66_code 11 = .ok (.ifCond .eq 43, 3) := by decide +kernel
theorem d16_14 : decode jdk_42_method_66_code 14 = .ok (.aload_n 1, 1) := by decide +kernel
theorem d16_15 : decode jdk_42_method_66_code 15 = .ok (.checkcast 10, 3) := by decide +kernel
theorem d16_18 : decode jdk_42_method_66_code 18 = .ok (.astore_n 2, 1) := by decide +kernel
theorem d16_19 : decode jdk_42_method_66_code 19 = .ok (.getstatic 38, 3) := by decide +kernel
theorem d16_22 : decode jdk_42_method_66_code 22 = .ok (.ifCond .eq 14, 3) := by decide +kernel
theorem d16_25 : decode jdk_42_method_66_code 25 = .ok (.aload_n 0, 1) := by decide +kernel
theorem d16_26 : decode jdk_42_method_66_code 26 = .ok (.getfield 15, 3) := by decide +kernel
theorem d16_29 : decode jdk_42_method_66_code 29 = .ok (.aload_n 2, 1) := by decide +kernel
theorem d16_30 : decode jdk_42_method_66_code 30 = .ok (.getfield 15, 3) := by decide +kernel
theorem d16_33 : decode jdk_42_method_66_code 33 = .ok (.if_icmp .ne 21, 3) := by decide +kernel
theorem d16_36 : decode jdk_42_method_66_code 36 = .ok (.aload_n 0, 1) := by decide +kernel
theorem d16_37 : decode jdk_42_method_66_code 37 = .ok (.getfield 9, 3) := by decide +kernel
theorem d16_40 : decode jdk_42_method_66_code 40 = .ok (.aload_n 2, 1) := by decide +kernel
theorem d16_41 : decode jdk_42_method_66_code 41 = .ok (.getfield 9, 3) := by decide +kernel
theorem d16_44 : decode jdk_42_method_66_code 44 = .ok (.invokestatic 541, 3) := by decide +kernel
theorem d16_47 : decode jdk_42_method_66_code 47 = .ok (.ifCond .eq 7, 3) := by decide +kernel
theorem d16_50 : decode jdk_42_method_66_code 50 = .ok (.iconst 1, 1) := by decide +kernel
theorem d16_51 : decode jdk_42_method_66_code 51 = .ok (.goto 4, 3) := by decide +kernel
theorem d16_54 : decode jdk_42_method_66_code 54 = .ok (.iconst 0, 1) := by decide +kernel
theorem d16_55 : decode jdk_42_method_66_code 55 = .ok (.ireturn, 1) := by decide +kernel
theorem ef_rmEq (m : MethodId) (x0 : Addr) (x1 : Addr) : entryFrame m #[(.ref x0), (.ref x1)] 3 = mkF m 0 #[vr x0, vr x1, .unset] [] := by first | (simp [entryFrame, mkF, argsToLocals, Value.category]; done) | rfl
def Q_rmEq (Z : State) (a1 : Addr) (a2 : Addr) (t1 : Addr) (k1 : ClassId) (cc : Int32) (t2 : Addr) (k2 : ClassId) (dd : Int32) (zc : Int32) (h0 : Heap) (n0 : Nat) (v : Option Value) (h : Heap) (L : List Loc) : Prop := (v = some (.int (own_eq cc dd))) ∧ (Fr n0 L) ∧ (h = h0)
set_option maxRecDepth 65536 in
set_option maxHeartbeats 40000000 in
theorem rmEq (l : Launch) (Z : State) (a0 : Array Value) (hw : ∀ d ∈ tables_1, d.before a0 Z = true) (ws : List Jvm.Cond) (a1 : Addr) (a2 : Addr) (t1 : Addr) (k1 : ClassId) (cc : Int32) (t2 : Addr) (k2 : ClassId) (dd : Int32) (zc : Int32) (h0 : Heap) (n0 : Nat) (Z0 : n0 ≤ h0.size) (O0 : Old Z n0 h0) (E_a1 : Exa Z h0 a1 "java/lang/String") (F_value_a1 : Fld Z h0 a1 "java/lang/String" "value" "[B" (.ref t1)) (F_coder_a1 : Fld Z h0 a1 "java/lang/String" "coder" "B" (.int (0 : Int32))) (V_t1 : Arv Z h0 t1 k1 .byte (own_n cc) (own_bs cc) (.int (0 : Int32))) (E_a2 : Exa Z h0 a2 "java/lang/String") (F_value_a2 : Fld Z h0 a2 "java/lang/String" "value" "[B" (.ref t2)) (F_coder_a2 : Fld Z h0 a2 "java/lang/String" "coder" "B" (.int (0 : Int32))) (V_t2 : Arv Z h0 t2 k2 .byte (own_n dd) (own_bs dd) (.int (0 : Int32))) (ne_12 : a1 ≠ a2) (S_CS : Sta Z Z.heap "java/lang/String" "COMPACT_STRINGS" "Z" (.int zc)) (hz : ¬ zc = (0 : Int32)) :
    MetFree l y_18 (head1 (Jvm.Cond.code y_18 jdk_42_method_66_code 3 (some .boolean) :: ws) ({ frames := 1, cells := 0, slots := 0, locals := 14 } : Room)) (fun a U => a = #[(.ref a1), (.ref a2)] ∧ Z.Warmed39 U.vm ∧ U.heap = h0) (fun _ _ _ _ _ => True) (fun _ U o U' => ∃ v L, o = .returned v ∧ Q_rmEq Z a1 a2 t1 k1 cc t2 k2 dd zc h0 n0 v U'.heap L ∧ FrameEnd U o U' L ({ frames := 1, cells := 0, slots := 0, locals := 14 } : Room).cells ({ frames := 1, cells := 0, slots := 0, locals := 14 } : Room).slots) := by
  refine MetFree.of_bodySF (plainFor_of_name pn_4) hisR ?_
  intro p e s m args below meth c s₁ Bd hml0 hP hK
  obtain ⟨rfl, hZ, hh⟩ := hP
  have hx := Bd.exec
  have hby := Bd.bytes
  have hml : c.maxLocals = 3 := hml0
  have hown : s.vm.findClass "java/lang/String" = some m.cls := findClass_of_methodNamed Bd.named
  have hnm := (name_of_methodNamed Bd.named Bd.method).1
  have X0 : Stand p l e ({ frames := 1, cells := 0, slots := 0, locals := 14 } : Room) s m #[(.ref a1), (.ref a2)] below meth c s₁ [] 0 0 := Stand.of_body Bd
  have e0 : s₁.heap = h0 := by rw [← hh, Bd.state]; rfl
  have N0 := Fr.nil n0
  have KC : Keep h0 h0 [] := Keep.refl h0 _
  have pre0 : ∀ t, Steps p.tables e below (s₁.setTop (mkF m 0 #[vr a1, vr a2, un] [])) t → Steps p.tables e below (s₁.setTop (entryFrame m #[(.ref a1), (.ref a2)] 3)) t := fun t k => castTop (ef_rmEq m a1 a2) k
  obtain ⟨T1, X1, e1, st1⟩ := instY X0 hx hZ hown (ww hw 81 rfl) e0 (Ins.self E_a2) (g := (mkF m 8 #[vr a1, vr a2, un] [(.ref a2)])) rfl rfl (hb hby d16_8)
  obtain ⟨T2, X2, e2, st2⟩ := castY X1 hx hZ hown (ww hw 81 rfl) e1 (Ins.self E_a2) (g := (mkF m 15 #[vr a1, vr a2, un] [(.ref a2)])) rfl rfl (hb hby d16_15)
  obtain ⟨T3, X3, e3, st3⟩ := getS2 X2 hx hZ hown (host := "") (Or.inl (ww hw 42 rfl)) Via.refl e2 (S_CS.ext O0.2) (g := (mkF m 19 #[vr a1, vr a2, vr a2] [])) rfl (hb hby d16_19)
  obtain ⟨T4, X4, e4, st4⟩ := getF X3 hx hZ hown (host := "") (Or.inl (ww hw 35 rfl)) Via.refl e3 F_coder_a1 (g := (mkF m 26 #[vr a1, vr a2, vr a2] [(.ref a1)])) rfl rfl (hb hby d16_26)
  obtain ⟨T5, X5, e5, st5⟩ := getF X4 hx hZ hown (host := "") (Or.inl (ww hw 35 rfl)) Via.refl e4 F_coder_a2 (g := (mkF m 30 #[vr a1, vr a2, vr a2] [(.ref a2), (.int (0 : Int32))])) rfl rfl (hb hby d16_30)
  obtain ⟨T6, X6, e6, st6⟩ := getF X5 hx hZ hown (host := "") (Or.inl (ww hw 34 rfl)) Via.refl e5 F_value_a1 (g := (mkF m 37 #[vr a1, vr a2, vr a2] [(.ref a1)])) rfl rfl (hb hby d16_37)
  obtain ⟨T7, X7, e7, st7⟩ := getF X6 hx hZ hown (host := "") (Or.inl (ww hw 34 rfl)) Via.refl e6 F_value_a2 (g := (mkF m 41 #[vr a1, vr a2, vr a2] [(.ref a2), (.ref t1)])) rfl rfl (hb hby d16_41)
  obtain ⟨_, _, ⟨T8, L8, k8, n8⟩, -, X8, ⟨Lc8, hQ8, l8, y8, z8⟩, st8⟩ := Jvm.LawKit.callS X7 hx (y := y_17) hown (mvT hZ (ww hw 82 rfl)) (mvT hZ (ww hw 83 rfl)) (mvT hZ (ww hw 84 rfl)) (mvT hZ (ww hw 85 rfl)) (by decide) (backOf (W := 0) (rmLq l Z a0 hw [] t1 t2 k1 cc k2 dd h0 n0 (Nat.le_trans Z0 KC.1) O0 V_t1 V_t2) hZ (ww hw 85 rfl) (ww hw 84 rfl) (by decide) (by decide)) (g := (mkF m 44 #[vr a1, vr a2, vr a2] [(.ref t2), (.ref t1)])) rfl (by rw [hml]; rfl) (argsL := [(.ref t1), (.ref t2)]) (rest := []) (lenOf pd_13 rfl) rfl (by show 2 * 0 + _ ≤ _; exact Nat.le_of_eq rfl) (hb hby d16_44) (fun _ _ => ⟨rfl, e7, (by decide : 0 + 0 ≤ _), (by decide : 0 + 0 ≤ _)⟩)
  dsimp only [Pt.U, Pt.locs, Pt.cells, Pt.slots] at X8 l8 y8 z8 st8 hQ8
  subst l8 y8 z8
  obtain ⟨rfl, N8q, e8⟩ := hQ8
  have N8 := Fr.app N0 N8q
  have pre9 : ∀ t, Steps p.tables e below (T8.setTop (mkF m 47 #[vr a1, vr a2, vr a2] [(.int (own_eq cc dd))])) t → Steps p.tables e below (s₁.setTop (entryFrame m #[(.ref a1), (.ref a2)] 3)) t := by
    intro t kt
    refine pre0 t ?_
    show SS p e below m s₁ 0 #[vr a1, vr a2, un] [] _
    refine XS.aloadN X0.here hx rfl (hb hby d16_0) rfl rfl ?_
    show SS p e below m s₁ 1 #[vr a1, vr a2, un] [(.ref a1)] _
    refine XS.aloadN X0.here hx rfl (hb hby d16_1) rfl rfl ?_
    show SS p e below m s₁ 2 #[vr a1, vr a2, un] [(.ref a2), (.ref a1)] _
    refine Jvm.RoadKit.acmp (g := (mkF m 2 #[vr a1, vr a2, un] [(.ref a2), (.ref a1)])) X0 hx rfl rfl rfl (pc0 := 2) (pc' := 7) (same := false) rfl (hb hby d16_2) rfl (decide_eq_false fun q => ne_12 (Value.ref.inj q)) (by decide) (by decide) ?_
    show SS p e below m s₁ 7 #[vr a1, vr a2, un] [] _
    refine XS.aloadN X0.here hx rfl (hb hby d16_7) rfl rfl ?_
    show SS p e below m s₁ 8 #[vr a1, vr a2, un] [(.ref a2)] _
    refine st1 _ ?_
    show SS p e below m T1 11 #[vr a1, vr a2, un] [(.int (1 : Int32))] _
    refine XS.ifNo X1.here hx rfl (hb hby d16_11) rfl ((if0 _ _).trans (feq (by decide)).1) ?_
    show SS p e below m T1 14 #[vr a1, vr a2, un] [] _
    refine XS.aloadN X1.here hx rfl (hb hby d16_14) rfl rfl ?_
    show SS p e below m T1 15 #[vr a1, vr a2, un] [(.ref a2)] _
    refine st2 _ ?_
    show SS p e below m T2 18 #[vr a1, vr a2, un] [(.ref a2)] _
    refine XS.astoreN X2.here hx rfl (hb hby d16_18) rfl rfl (l' := #[vr a1, vr a2, vr a2]) rfl ?_
    show SS p e below m T2 19 #[vr a1, vr a2, vr a2] [] _
    refine st3 _ ?_
    show SS p e below m T3 22 #[vr a1, vr a2, vr a2] [(.int zc)] _
    refine XS.ifNo X3.here hx rfl (hb hby d16_22) rfl ((if0 _ _).trans (feq hz).1) ?_
    show SS p e below m T3 25 #[vr a1, vr a2, vr a2] [] _
    refine XS.aloadN X3.here hx rfl (hb hby d16_25) rfl rfl ?_
    show SS p e below m T3 26 #[vr a1, vr a2, vr a2] [(.ref a1)] _
    refine st4 _ ?_
    show SS p e below m T4 29 #[vr a1, vr a2, vr a2] [(.int (0 : Int32))] _
    refine XS.aloadN X4.here hx rfl (hb hby d16_29) rfl rfl ?_
    show SS p e below m T4 30 #[vr a1, vr a2, vr a2] [(.ref a2), (.int (0 : Int32))] _
    refine st5 _ ?_
    show SS p e below m T5 33 #[vr a1, vr a2, vr a2] [(.int (0 : Int32)), (.int (0 : Int32))] _
    refine XS.icmpNo X5.here hx rfl (hb hby d16_33) rfl (teq (by decide)).2 ?_
    show SS p e below m T5 36 #[vr a1, vr a2, vr a2] [] _
    refine XS.aloadN X5.here hx rfl (hb hby d16_36) rfl rfl ?_
    show SS p e below m T5 37 #[vr a1, vr a2, vr a2] [(.ref a1)] _
    refine st6 _ ?_
    show SS p e below m T6 40 #[vr a1, vr a2, vr a2] [(.ref t1)] _
    refine XS.aloadN X6.here hx rfl (hb hby d16_40) rfl rfl ?_
    show SS p e below m T6 41 #[vr a1, vr a2, vr a2] [(.ref a2), (.ref t1)] _
    refine st7 _ ?_
    show SS p e below m T7 44 #[vr a1, vr a2, vr a2] [(.ref t2), (.ref t1)] _
    refine st8 _ ?_
    exact kt
  by_cases hc47_10 : (own_eq cc dd) = (0 : Int32)
  · obtain ⟨fs, hr, hrun, hended, hW, hsame⟩ := X8.leave (v := some (.int (0 : Int32))) (fun h => by rw [Bd.returns] at h; cases h)
    refine ⟨_, _, pre9 _ ?_, hrun, hended, _, _, rfl, ?_, ⟨_, rfl⟩, hW, hsame.mono (by decide) (by decide)⟩
    · show SS p e below m T8 47 #[vr a1, vr a2, vr a2] [(.int (own_eq cc dd))] _
      refine XS.ifYes X8.here hx rfl (pc0 := 47) (pc' := 54) rfl (hb hby d16_47) rfl ((if0 _ _).trans (teq hc47_10).1) (by decide) (by decide) ?_
      show SS p e below m T8 54 #[vr a1, vr a2, vr a2] [] _
      refine XS.iconst X8.here hx rfl (hb hby d16_54) ?_
      show SS p e below m T8 55 #[vr a1, vr a2, vr a2] [(.int (0 : Int32))] _
      exact retN X8 hx (t := .boolean) Bd.returns (by simp) (hb hby d16_55) hr
    · show Q_rmEq Z a1 a2 t1 k1 cc t2 k2 dd zc h0 n0 _ T8.heap _
      rw [e8]
      exact ⟨(congrArg (fun z => some (Value.int z)) hc47_10.symm), N8, rfl⟩
  · obtain ⟨fs, hr, hrun, hended, hW, hsame⟩ := X8.leave (v := some (.int (1 : Int32))) (fun h => by rw [Bd.returns] at h; cases h)
    refine ⟨_, _, pre9 _ ?_, hrun, hended, _, _, rfl, ?_, ⟨_, rfl⟩, hW, hsame.mono (by decide) (by decide)⟩
    · show SS p e below m T8 47 #[vr a1, vr a2, vr a2] [(.int (own_eq cc dd))] _
      refine XS.ifNo X8.here hx rfl (hb hby d16_47) rfl ((if0 _ _).trans (feq hc47_10).1) ?_
      show SS p e below m T8 50 #[vr a1, vr a2, vr a2] [] _
      refine XS.iconst X8.here hx rfl (hb hby d16_50) ?_
      show SS p e below m T8 51 #[vr a1, vr a2, vr a2] [(.int (1 : Int32))] _
      refine XS.goto X8.here hx rfl (pc0 := 51) (pc' := 55) rfl (hb hby d16_51) (by decide) (by decide) ?_
      show SS p e below m T8 55 #[vr a1, vr a2, vr a2] [(.int (1 : Int32))] _
      exact retN X8 hx (t := .boolean) Bd.returns (by simp) (hb hby d16_55) hr
    · show Q_rmEq Z a1 a2 t1 k1 cc t2 k2 dd zc h0 n0 _ T8.heap _
      rw [e8]
      exact ⟨(congrArg (fun z => some (Value.int z)) (own_eq1 hc47_10).symm), N8, rfl⟩
theorem ef_rmEn (m : MethodId) (x0 : Addr) : entryFrame m #[(.ref x0), .null] 3 = mkF m 0 #[vr x0, vN, .unset] [] := by first | (simp [entryFrame, mkF, argsToLocals, Value.category]; done) | rfl
def Q_rmEn (Z : State) (a1 : Addr) (h0 : Heap) (n0 : Nat) (v : Option Value) (h : Heap) (L : List Loc) : Prop := (v = some (.int (0 : Int32))) ∧ (Fr n0 L) ∧ (h = h0)
set_option maxRecDepth 65536 in
set_option maxHeartbeats 40000000 in
theorem rmEn (l : Launch) (Z : State) (a0 : Array Value) (hw : ∀ d ∈ tables_1, d.before a0 Z = true) (ws : List Jvm.Cond) (a1 : Addr) (h0 : Heap) (n0 : Nat) (Z0 : n0 ≤ h0.size) (O0 : Old Z n0 h0) :
    MetFree l y_18 (head1 (Jvm.Cond.code y_18 jdk_42_method_66_code 3 (some .boolean) :: ws) ({ frames := 0, cells := 0, slots := 0, locals := 0 } : Room)) (fun a U => a = #[(.ref a1), .null] ∧ Z.Warmed39 U.vm ∧ U.heap = h0) (fun _ _ _ _ _ => True) (fun _ U o U' => ∃ v L, o = .returned v ∧ Q_rmEn Z a1 h0 n0 v U'.heap L ∧ FrameEnd U o U' L ({ frames := 0, cells := 0, slots := 0, locals := 0 } : Room).cells ({ frames := 0, cells := 0, slots := 0, locals := 0 } : Room).slots) := by
  refine MetFree.of_bodySF (plainFor_of_name pn_4) hisR ?_
  intro p e s m args below meth c s₁ Bd hml0 hP hK
  obtain ⟨rfl, hZ, hh⟩ := hP
  have hx := Bd.exec
  have hby := Bd.bytes
  have hml : c.maxLocals = 3 := hml0
  have hown : s.vm.findClass "java/lang/String" = some m.cls := findClass_of_methodNamed Bd.named
  have hnm := (name_of_methodNamed Bd.named Bd.method).1
  have X0 : Stand p l e ({ frames := 0, cells := 0, slots := 0, locals := 0 } : Room) s m #[(.ref a1), .null] below meth c s₁ [] 0 0 := Stand.of_body Bd
  have e0 : s₁.heap = h0 := by rw [← hh, Bd.state]; rfl
  have N0 := Fr.nil n0
  have KC : Keep h0 h0 [] := Keep.refl h0 _
  have pre0 : ∀ t, Steps p.tables e below (s₁.setTop (mkF m 0 #[vr a1, vN, un] [])) t → Steps p.tables e below (s₁.setTop (entryFrame m #[(.ref a1), .null] 3)) t := fun t k => castTop (ef_rmEn m a1) k
  obtain ⟨fs, hr, hrun, hended, hW, hsame⟩ := X0.leave (v := some (.int (0 : Int32))) (fun h => by rw [Bd.returns] at h; cases h)
  refine ⟨_, _, pre0 _ ?_, hrun, hended, _, _, rfl, ?_, ⟨_, rfl⟩, hW, hsame.mono (by decide) (by decide)⟩
  · show SS p e below m s₁ 0 #[vr a1, vN, un] [] _
    refine XS.aloadN X0.here hx rfl (hb hby d16_0) rfl rfl ?_
    show SS p e below m s₁ 1 #[vr a1, vN, un] [(.ref a1)] _
    refine XS.aloadN X0.here hx rfl (hb hby d16_1) rfl rfl ?_
    show SS p e below m s₁ 2 #[vr a1, vN, un] [.null, (.ref a1)] _
    refine Jvm.RoadKit.acmp (g := (mkF m 2 #[vr a1, vN, un] [.null, (.ref a1)])) X0 hx rfl rfl rfl (pc0 := 2) (pc' := 7) (same := false) rfl (hb hby d16_2) rfl (decide_eq_false nofun) (by decide) (by decide) ?_
    show SS p e below m s₁ 7 #[vr a1, vN, un] [] _
    refine XS.aloadN X0.here hx rfl (hb hby d16_7) rfl rfl ?_
    show SS p e below m s₁ 8 #[vr a1, vN, un] [.null] _
    refine X0.instanceofNull hx (g := (mkF m 8 #[vr a1, vN, un] [.null])) rfl rfl (hb hby d16_8) _ ?_
    show SS p e below m s₁ 11 #[vr a1, vN, un] [(.int (0 : Int32))] _
    refine XS.ifYes X0.here hx rfl (pc0 := 11) (pc' := 54) rfl (hb hby d16_11) rfl ((if0 _ _).trans (teq (by decide)).1) (by decide) (by decide) ?_
    show SS p e below m s₁ 54 #[vr a1, vN, un] [] _
    refine XS.iconst X0.here hx rfl (hb hby d16_54) ?_
    show SS p e below m s₁ 55 #[vr a1, vN, un] [(.int (0 : Int32))] _
    exact retN X0 hx (t := .boolean) Bd.returns (by simp) (hb hby d16_55) hr
  · show Q_rmEn Z a1 h0 n0 _ s₁.heap _
    rw [e0]
    exact ⟨rfl, N0, rfl⟩
theorem pd_14 : parseMethodDescriptor "(Ljava/lang/Object;)Z" = some ⟨[(.object "java/lang/Object")], some .boolean⟩ := by decide +kernel
theorem d15_0 : decode prog_37_method_2_code 0 = .ok (.aload_n 0, 1) := by decide +kernel
theorem d15_1 : decode prog_37_method_2_code 1 = .ok (.getfield 7, 3) := by decide +kernel
theorem d15_4 : decode prog_37_method_2_code 4 = .ok (.aload_n 1, 1) := by decide +kernel
theorem d15_5 : decode prog_37_method_2_code 5 = .ok (.invokevirtual 20, 3) := by decide +kernel
theorem d15_8 : decode prog_37_method_2_code 8 = .ok (.ifCond .eq 18, 3) := by decide +kernel
theorem d15_11 : decode prog_37_method_2_code 11 = .ok (.aload_n 0, 1) := by decide +kernel
theorem d15_12 : decode prog_37_method_2_code 12 = .ok (.getfield 13, 3) := by decide +kernel
theorem d15_15 : decode prog_37_method_2_code 15 = .ok (.aload_n 2, 1) := by decide +kernel
theorem d15_16 : decode prog_37_method_2_code 16 = .ok (.invokevirtual 20, 3) := by decide +kernel
theorem d15_19 : decode prog_37_method_2_code 19 = .ok (.ifCond .eq 7, 3) := by decide +kernel
theorem d15_22 : decode prog_37_method_2_code 22 = .ok (.iconst 1, 1) := by decide +kernel
theorem d15_23 : decode prog_37_method_2_code 23 = .ok (.goto 4, 3) := by decide +kernel
theorem d15_26 : decode prog_37_method_2_code 26 = .ok (.iconst 0, 1) := by decide +kernel
theorem d15_27 : decode prog_37_method_2_code 27 = .ok (.ireturn, 1) := by decide +kernel
theorem ef_rmIs (m : MethodId) (x0 : Addr) (x1 : Addr) (x2 : Addr) : entryFrame m #[(.ref x0), (.ref x1), (.ref x2)] 3 = mkF m 0 #[vr x0, vr x1, vr x2] [] := by first | (simp [entryFrame, mkF, argsToLocals, Value.category]; done) | rfl
def Q_rmIs (Z : State) (a1 : Addr) (a2 : Addr) (a3 : Addr) (s1 : Addr) (s2 : Addr) (t1 : Addr) (k1 : ClassId) (c1 : Int32) (t2 : Addr) (k2 : ClassId) (c2 : Int32) (t3 : Addr) (k3 : ClassId) (d1 : Int32) (t4 : Addr) (k4 : ClassId) (d2 : Int32) (zc : Int32) (h0 : Heap) (n0 : Nat) (v : Option Value) (h : Heap) (L : List Loc) : Prop := (v = some (.int (if (own_eq c1 d1) = 0 then (0 : Int32) else if (own_eq c2 d2) = 0 then 0 else 1))) ∧ (Fr n0 L) ∧ (h = h0)
set_option maxRecDepth 65536 in
set_option maxHeartbeats 40000000 in
theorem rmIs (l : Launch) (Z : State) (a0 : Array Value) (hw : ∀ d ∈ tables_1, d.before a0 Z = true) (ws : List Jvm.Cond) (a1 : Addr) (a2 : Addr) (a3 : Addr) (s1 : Addr) (s2 : Addr) (t1 : Addr) (k1 : ClassId) (c1 : Int32) (t2 : Addr) (k2 : ClassId) (c2 : Int32) (t3 : Addr) (k3 : ClassId) (d1 : Int32) (t4 : Addr) (k4 : ClassId) (d2 : Int32) (zc : Int32) (h0 : Heap) (n0 : Nat) (Z0 : n0 ≤ h0.size) (O0 : Old Z n0 h0) (F_type_a1 : Fld Z h0 a1 "com/example/brisk_tableau/brisktableau/owl/FuzzyLabel" "type" "Ljava/lang/String;" (.ref s1)) (F_element_a1 : Fld Z h0 a1 "com/example/brisk_tableau/brisktableau/owl/FuzzyLabel" "element" "Ljava/lang/String;" (.ref s2)) (E_s1 : Exa Z h0 s1 "java/lang/String") (F_value_s1 : Fld Z h0 s1 "java/lang/String" "value" "[B" (.ref t1)) (F_coder_s1 : Fld Z h0 s1 "java/lang/String" "coder" "B" (.int (0 : Int32))) (V_t1 : Arv Z h0 t1 k1 .byte (own_n c1) (own_bs c1) (.int (0 : Int32))) (E_s2 : Exa Z h0 s2 "java/lang/String") (F_value_s2 : Fld Z h0 s2 "java/lang/String" "value" "[B" (.ref t2)) (F_coder_s2 : Fld Z h0 s2 "java/lang/String" "coder" "B" (.int (0 : Int32))) (V_t2 : Arv Z h0 t2 k2 .byte (own_n c2) (own_bs c2) (.int (0 : Int32))) (E_a2 : Exa Z h0 a2 "java/lang/String") (F_value_a2 : Fld Z h0 a2 "java/lang/String" "value" "[B" (.ref t3)) (F_coder_a2 : Fld Z h0 a2 "java/lang/String" "coder" "B" (.int (0 : Int32))) (V_t3 : Arv Z h0 t3 k3 .byte (own_n d1) (own_bs d1) (.int (0 : Int32))) (E_a3 : Exa Z h0 a3 "java/lang/String") (F_value_a3 : Fld Z h0 a3 "java/lang/String" "value" "[B" (.ref t4)) (F_coder_a3 : Fld Z h0 a3 "java/lang/String" "coder" "B" (.int (0 : Int32))) (V_t4 : Arv Z h0 t4 k4 .byte (own_n d2) (own_bs d2) (.int (0 : Int32))) (ne_x : s1 ≠ a2) (ne_y : s2 ≠ a3) (S_CS : Sta Z Z.heap "java/lang/String" "COMPACT_STRINGS" "Z" (.int zc)) (hz : ¬ zc = (0 : Int32)) :
    MetFree l y_19 (head1 (Jvm.Cond.code y_19 prog_37_method_2_code 3 (some .boolean) :: ws) ({ frames := 2, cells := 0, slots := 0, locals := 28 } : Room)) (fun a U => a = #[(.ref a1), (.ref a2), (.ref a3)] ∧ Z.Warmed39 U.vm ∧ U.heap = h0) (fun _ _ _ _ _ => True) (fun _ U o U' => ∃ v L, o = .returned v ∧ Q_rmIs Z a1 a2 a3 s1 s2 t1 k1 c1 t2 k2 c2 t3 k3 d1 t4 k4 d2 zc h0 n0 v U'.heap L ∧ FrameEnd U o U' L ({ frames := 2, cells := 0, slots := 0, locals := 28 } : Room).cells ({ frames := 2, cells := 0, slots := 0, locals := 28 } : Room).slots) := by
  refine MetFree.of_bodySF (plainFor_of_name pn_2) hisR ?_
  intro p e s m args below meth c s₁ Bd hml0 hP hK
  obtain ⟨rfl, hZ, hh⟩ := hP
  have hx := Bd.exec
  have hby := Bd.bytes
  have hml : c.maxLocals = 3 := hml0
  have hown : s.vm.findClass "com/example/brisk_tableau/brisktableau/owl/FuzzyLabel" = some m.cls := findClass_of_methodNamed Bd.named
  have hnm := (name_of_methodNamed Bd.named Bd.method).1
  have X0 : Stand p l e ({ frames := 2, cells := 0, slots := 0, locals := 28 } : Room) s m #[(.ref a1), (.ref a2), (.ref a3)] below meth c s₁ [] 0 0 := Stand.of_body Bd
  have e0 : s₁.heap = h0 := by rw [← hh, Bd.state]; rfl
  have N0 := Fr.nil n0
  have KC : Keep h0 h0 [] := Keep.refl h0 _
  have pre0 : ∀ t, Steps p.tables e below (s₁.setTop (mkF m 0 #[vr a1, vr a2, vr a3] [])) t → Steps p.tables e below (s₁.setTop (entryFrame m #[(.ref a1), (.ref a2), (.ref a3)] 3)) t := fun t k => castTop (ef_rmIs m a1 a2 a3) k
  obtain ⟨T1, X1, e1, st1⟩ := getF X0 hx hZ hown (host := "") (Or.inl (ww hw 62 rfl)) Via.refl e0 F_type_a1 (g := (mkF m 1 #[vr a1, vr a2, vr a3] [(.ref a1)])) rfl rfl (hb hby d15_1)
  obtain ⟨cq2, kq2, q2a, q2b, q2c⟩ := isOf hZ e1 E_s1
  obtain ⟨_, _, ⟨T2, L2, k2, n2⟩, -, X2, ⟨Lc2, hQ2, l2, y2, z2⟩, st2⟩ := X1.virtualBack hx (y := y_18) (z := y_18) hown (mvT hZ (ww hw 76 rfl)) (mvT hZ (ww hw 77 rfl)) (notFace_of_selects (args := #[]) (mvT hZ (ww hw 79 rfl))) (mvT hZ (ww hw 79 rfl)) (mvT hZ (ww hw 78 rfl)) (by decide) (backOf (W := 0) (rmEq l Z a0 hw [] s1 a2 t1 k1 c1 t3 k3 d1 zc h0 n0 (Nat.le_trans Z0 KC.1) O0 E_s1 F_value_s1 F_coder_s1 V_t1 E_a2 F_value_a2 F_coder_a2 V_t3 ne_x S_CS (by first | assumption | decide | omega)) hZ (ww hw 80 rfl) (ww hw 16 rfl) (by decide) (by decide)) q2a q2c (g := (mkF m 5 #[vr a1, vr a2, vr a3] [(.ref a2), (.ref s1)])) rfl (by rw [hml]; rfl) (Steps.refl _) (argsL := [(.ref a2)]) (rest := []) (lenOf pd_14 rfl) rfl (by show 2 * 0 + _ ≤ _; exact Nat.le_of_eq rfl) (hb hby d15_5) (fun _ _ => ⟨rfl, e1, (by decide : 0 + 0 ≤ _), (by decide : 0 + 0 ≤ _)⟩)
  dsimp only [Pt.U, Pt.locs, Pt.cells, Pt.slots] at X2 l2 y2 z2 st2 hQ2
  subst l2 y2 z2
  obtain ⟨rfl, N2q, e2⟩ := hQ2
  have N2 := Fr.app N0 N2q
  have pre3 : ∀ t, Steps p.tables e below (T2.setTop (mkF m 8 #[vr a1, vr a2, vr a3] [(.int (own_eq c1 d1))])) t → Steps p.tables e below (s₁.setTop (entryFrame m #[(.ref a1), (.ref a2), (.ref a3)] 3)) t := by
    intro t kt
    refine pre0 t ?_
    show SS p e below m s₁ 0 #[vr a1, vr a2, vr a3] [] _
    refine XS.aloadN X0.here hx rfl (hb hby d15_0) rfl rfl ?_
    show SS p e below m s₁ 1 #[vr a1, vr a2, vr a3] [(.ref a1)] _
    refine st1 _ ?_
    show SS p e below m T1 4 #[vr a1, vr a2, vr a3] [(.ref s1)] _
    refine XS.aloadN X1.here hx rfl (hb hby d15_4) rfl rfl ?_
    show SS p e below m T1 5 #[vr a1, vr a2, vr a3] [(.ref a2), (.ref s1)] _
    refine st2.trans ?_
    exact kt
  by_cases hc8_4 : (own_eq c1 d1) = (0 : Int32)
  · obtain ⟨fs, hr, hrun, hended, hW, hsame⟩ := X2.leave (v := some (.int (0 : Int32))) (fun h => by rw [Bd.returns] at h; cases h)
    refine ⟨_, _, pre3 _ ?_, hrun, hended, _, _, rfl, ?_, ⟨_, rfl⟩, hW, hsame.mono (by decide) (by decide)⟩
    · show SS p e below m T2 8 #[vr a1, vr a2, vr a3] [(.int (own_eq c1 d1))] _
      refine XS.ifYes X2.here hx rfl (pc0 := 8) (pc' := 26) rfl (hb hby d15_8) rfl ((if0 _ _).trans (teq hc8_4).1) (by decide) (by decide) ?_
      show SS p e below m T2 26 #[vr a1, vr a2, vr a3] [] _
      refine XS.iconst X2.here hx rfl (hb hby d15_26) ?_
      show SS p e below m T2 27 #[vr a1, vr a2, vr a3] [(.int (0 : Int32))] _
      exact retN X2 hx (t := .boolean) Bd.returns (by simp) (hb hby d15_27) hr
    · show Q_rmIs Z a1 a2 a3 s1 s2 t1 k1 c1 t2 k2 c2 t3 k3 d1 t4 k4 d2 zc h0 n0 _ T2.heap _
      rw [e2]
      exact ⟨(by simp [hc8_4]), N2, rfl⟩
  · obtain ⟨T5, X5, e5, st5⟩ := getF X2 hx hZ hown (host := "") (Or.inl (ww hw 64 rfl)) Via.refl e2 F_element_a1 (g := (mkF m 12 #[vr a1, vr a2, vr a3] [(.ref a1)])) rfl rfl (hb hby d15_12)
    obtain ⟨cq6, kq6, q6a, q6b, q6c⟩ := isOf hZ e5 E_s2
    obtain ⟨_, _, ⟨T6, L6, k6, n6⟩, -, X6, ⟨Lc6, hQ6, l6, y6, z6⟩, st6⟩ := X5.virtualBack hx (y := y_18) (z := y_18) hown (mvT hZ (ww hw 76 rfl)) (mvT hZ (ww hw 77 rfl)) (notFace_of_selects (args := #[]) (mvT hZ (ww hw 79 rfl))) (mvT hZ (ww hw 79 rfl)) (mvT hZ (ww hw 78 rfl)) (by decide) (backOf (W := 0) (rmEq l Z a0 hw [] s2 a3 t2 k2 c2 t4 k4 d2 zc h0 n0 (Nat.le_trans Z0 KC.1) O0 E_s2 F_value_s2 F_coder_s2 V_t2 E_a3 F_value_a3 F_coder_a3 V_t4 ne_y S_CS (by first | assumption | decide | omega)) hZ (ww hw 80 rfl) (ww hw 16 rfl) (by decide) (by decide)) q6a q6c (g := (mkF m 16 #[vr a1, vr a2, vr a3] [(.ref a3), (.ref s2)])) rfl (by rw [hml]; rfl) (Steps.refl _) (argsL := [(.ref a3)]) (rest := []) (lenOf pd_14 rfl) rfl (by show 2 * 0 + _ ≤ _; exact Nat.le_of_eq rfl) (hb hby d15_16) (fun _ _ => ⟨rfl, e5, (by decide : 0 + 0 ≤ _), (by decide : 0 + 0 ≤ _)⟩)
    dsimp only [Pt.U, Pt.locs, Pt.cells, Pt.slots] at X6 l6 y6 z6 st6 hQ6
    subst l6 y6 z6
    obtain ⟨rfl, N6q, e6⟩ := hQ6
    have N6 := Fr.app N2 N6q
    have pre7 : ∀ t, Steps p.tables e below (T6.setTop (mkF m 19 #[vr a1, vr a2, vr a3] [(.int (own_eq c2 d2))])) t → Steps p.tables e below (s₁.setTop (entryFrame m #[(.ref a1), (.ref a2), (.ref a3)] 3)) t := by
      intro t kt
      refine pre3 t ?_
      show SS p e below m T2 8 #[vr a1, vr a2, vr a3] [(.int (own_eq c1 d1))] _
      refine XS.ifNo X2.here hx rfl (hb hby d15_8) rfl ((if0 _ _).trans (feq hc8_4).1) ?_
      show SS p e below m T2 11 #[vr a1, vr a2, vr a3] [] _
      refine XS.aloadN X2.here hx rfl (hb hby d15_11) rfl rfl ?_
      show SS p e below m T2 12 #[vr a1, vr a2, vr a3] [(.ref a1)] _
      refine st5 _ ?_
      show SS p e below m T5 15 #[vr a1, vr a2, vr a3] [(.ref s2)] _
      refine XS.aloadN X5.here hx rfl (hb hby d15_15) rfl rfl ?_
      show SS p e below m T5 16 #[vr a1, vr a2, vr a3] [(.ref a3), (.ref s2)] _
      refine st6.trans ?_
      exact kt
    by_cases hc19_8 : (own_eq c2 d2) = (0 : Int32)
    · obtain ⟨fs, hr, hrun, hended, hW, hsame⟩ := X6.leave (v := some (.int (0 : Int32))) (fun h => by rw [Bd.returns] at h; cases h)
      refine ⟨_, _, pre7 _ ?_, hrun, hended, _, _, rfl, ?_, ⟨_, rfl⟩, hW, hsame.mono (by decide) (by decide)⟩
      · show SS p e below m T6 19 #[vr a1, vr a2, vr a3] [(.int (own_eq c2 d2))] _
        refine XS.ifYes X6.here hx rfl (pc0 := 19) (pc' := 26) rfl (hb hby d15_19) rfl ((if0 _ _).trans (teq hc19_8).1) (by decide) (by decide) ?_
        show SS p e below m T6 26 #[vr a1, vr a2, vr a3] [] _
        refine XS.iconst X6.here hx rfl (hb hby d15_26) ?_
        show SS p e below m T6 27 #[vr a1, vr a2, vr a3] [(.int (0 : Int32))] _
        exact retN X6 hx (t := .boolean) Bd.returns (by simp) (hb hby d15_27) hr
      · show Q_rmIs Z a1 a2 a3 s1 s2 t1 k1 c1 t2 k2 c2 t3 k3 d1 t4 k4 d2 zc h0 n0 _ T6.heap _
        rw [e6]
        exact ⟨(by simp [hc8_4, hc19_8]), N6, rfl⟩
    · obtain ⟨fs, hr, hrun, hended, hW, hsame⟩ := X6.leave (v := some (.int (1 : Int32))) (fun h => by rw [Bd.returns] at h; cases h)
      refine ⟨_, _, pre7 _ ?_, hrun, hended, _, _, rfl, ?_, ⟨_, rfl⟩, hW, hsame.mono (by decide) (by decide)⟩
      · show SS p e below m T6 19 #[vr a1, vr a2, vr a3] [(.int (own_eq c2 d2))] _
        refine XS.ifNo X6.here hx rfl (hb hby d15_19) rfl ((if0 _ _).trans (feq hc19_8).1) ?_
        show SS p e below m T6 22 #[vr a1, vr a2, vr a3] [] _
        refine XS.iconst X6.here hx rfl (hb hby d15_22) ?_
        show SS p e below m T6 23 #[vr a1, vr a2, vr a3] [(.int (1 : Int32))] _
        refine XS.goto X6.here hx rfl (pc0 := 23) (pc' := 27) rfl (hb hby d15_23) (by decide) (by decide) ?_
        show SS p e below m T6 27 #[vr a1, vr a2, vr a3] [(.int (1 : Int32))] _
        exact retN X6 hx (t := .boolean) Bd.returns (by simp) (hb hby d15_27) hr
      · show Q_rmIs Z a1 a2 a3 s1 s2 t1 k1 c1 t2 k2 c2 t3 k3 d1 t4 k4 d2 zc h0 n0 _ T6.heap _
        rw [e6]
        exact ⟨(by simp [hc8_4, hc19_8]), N6, rfl⟩
theorem ef_rmisn (m : MethodId) (x0 : Addr) (x2 : Addr) : entryFrame m #[(.ref x0), .null, (.ref x2)] 3 = mkF m 0 #[vr x0, vN, vr x2] [] := by first | (simp [entryFrame, mkF, argsToLocals, Value.category]; done) | rfl
def Q_rmisn (Z : State) (a1 : Addr) (a3 : Addr) (s1 : Addr) (h0 : Heap) (n0 : Nat) (v : Option Value) (h : Heap) (L : List Loc) : Prop := (v = some (.int (0 : Int32))) ∧ (Fr n0 L) ∧ (h = h0)
set_option maxRecDepth 65536 in
set_option maxHeartbeats 40000000 in
theorem rmisn (l : Launch) (Z : State) (a0 : Array Value) (hw : ∀ d ∈ tables_1, d.before a0 Z = true) (ws : List Jvm.Cond) (a1 : Addr) (a3 : Addr) (s1 : Addr) (h0 : Heap) (n0 : Nat) (Z0 : n0 ≤ h0.size) (O0 : Old Z n0 h0) (F_type_a1 : Fld Z h0 a1 "com/example/brisk_tableau/brisktableau/owl/FuzzyLabel" "type" "Ljava/lang/String;" (.ref s1)) (E_s1 : Exa Z h0 s1 "java/lang/String") :
    MetFree l y_19 (head1 (Jvm.Cond.code y_19 prog_37_method_2_code 3 (some .boolean) :: ws) ({ frames := 1, cells := 0, slots := 0, locals := 14 } : Room)) (fun a U => a = #[(.ref a1), .null, (.ref a3)] ∧ Z.Warmed39 U.vm ∧ U.heap = h0) (fun _ _ _ _ _ => True) (fun _ U o U' => ∃ v L, o = .returned v ∧ Q_rmisn Z a1 a3 s1 h0 n0 v U'.heap L ∧ FrameEnd U o U' L ({ frames := 1, cells := 0, slots := 0, locals := 14 } : Room).cells ({ frames := 1, cells := 0, slots := 0, locals := 14 } : Room).slots) := by
  refine MetFree.of_bodySF (plainFor_of_name pn_2) hisR ?_
  intro p e s m args below meth c s₁ Bd hml0 hP hK
  obtain ⟨rfl, hZ, hh⟩ := hP
  have hx := Bd.exec
  have hby := Bd.bytes
  have hml : c.maxLocals = 3 := hml0
  have hown : s.vm.findClass "com/example/brisk_tableau/brisktableau/owl/FuzzyLabel" = some m.cls := findClass_of_methodNamed Bd.named
  have hnm := (name_of_methodNamed Bd.named Bd.method).1
  have X0 : Stand p l e ({ frames := 1, cells := 0, slots := 0, locals := 14 } : Room) s m #[(.ref a1), .null, (.ref a3)] below meth c s₁ [] 0 0 := Stand.of_body Bd
  have e0 : s₁.heap = h0 := by rw [← hh, Bd.state]; rfl
  have N0 := Fr.nil n0
  have KC : Keep h0 h0 [] := Keep.refl h0 _
  have pre0 : ∀ t, Steps p.tables e below (s₁.setTop (mkF m 0 #[vr a1, vN, vr a3] [])) t → Steps p.tables e below (s₁.setTop (entryFrame m #[(.ref a1), .null, (.ref a3)] 3)) t := fun t k => castTop (ef_rmisn m a1 a3) k
  obtain ⟨T1, X1, e1, st1⟩ := getF X0 hx hZ hown (host := "") (Or.inl (ww hw 62 rfl)) Via.refl e0 F_type_a1 (g := (mkF m 1 #[vr a1, vN, vr a3] [(.ref a1)])) rfl rfl (hb hby d15_1)
  obtain ⟨cq2, kq2, q2a, q2b, q2c⟩ := isOf hZ e1 E_s1
  obtain ⟨_, _, ⟨T2, L2, k2, n2⟩, -, X2, ⟨Lc2, hQ2, l2, y2, z2⟩, st2⟩ := X1.virtualBack hx (y := y_18) (z := y_18) hown (mvT hZ (ww hw 76 rfl)) (mvT hZ (ww hw 77 rfl)) (notFace_of_selects (args := #[]) (mvT hZ (ww hw 79 rfl))) (mvT hZ (ww hw 79 rfl)) (mvT hZ (ww hw 78 rfl)) (by decide) (backOf (W := 0) (rmEn l Z a0 hw [] s1 h0 n0 (Nat.le_trans Z0 KC.1) O0 ) hZ (ww hw 80 rfl) (ww hw 16 rfl) (by decide) (by decide)) q2a q2c (g := (mkF m 5 #[vr a1, vN, vr a3] [.null, (.ref s1)])) rfl (by rw [hml]; rfl) (Steps.refl _) (argsL := [.null]) (rest := []) (lenOf pd_14 rfl) rfl (by show 2 * 0 + _ ≤ _; exact Nat.le_of_eq rfl) (hb hby d15_5) (fun _ _ => ⟨rfl, e1, (by decide : 0 + 0 ≤ _), (by decide : 0 + 0 ≤ _)⟩)
  dsimp only [Pt.U, Pt.locs, Pt.cells, Pt.slots] at X2 l2 y2 z2 st2 hQ2
  subst l2 y2 z2
  obtain ⟨rfl, N2q, e2⟩ := hQ2
  have N2 := Fr.app N0 N2q
  obtain ⟨fs, hr, hrun, hended, hW, hsame⟩ := X2.leave (v := some (.int (0 : Int32))) (fun h => by rw [Bd.returns] at h; cases h)
  refine ⟨_, _, pre0 _ ?_, hrun, hended, _, _, rfl, ?_, ⟨_, rfl⟩, hW, hsame.mono (by decide) (by decide)⟩
  · show SS p e below m s₁ 0 #[vr a1, vN, vr a3] [] _
    refine XS.aloadN X0.here hx rfl (hb hby d15_0) rfl rfl ?_
    show SS p e below m s₁ 1 #[vr a1, vN, vr a3] [(.ref a1)] _
    refine st1 _ ?_
    show SS p e below m T1 4 #[vr a1, vN, vr a3] [(.ref s1)] _
    refine XS.aloadN X1.here hx rfl (hb hby d15_4) rfl rfl ?_
    show SS p e below m T1 5 #[vr a1, vN, vr a3] [.null, (.ref s1)] _
    refine st2.trans ?_
    show SS p e below m T2 8 #[vr a1, vN, vr a3] [(.int (0 : Int32))] _
    refine XS.ifYes X2.here hx rfl (pc0 := 8) (pc' := 26) rfl (hb hby d15_8) rfl ((if0 _ _).trans (teq (by decide)).1) (by decide) (by decide) ?_
    show SS p e below m T2 26 #[vr a1, vN, vr a3] [] _
    refine XS.iconst X2.here hx rfl (hb hby d15_26) ?_
    show SS p e below m T2 27 #[vr a1, vN, vr a3] [(.int (0 : Int32))] _
    exact retN X2 hx (t := .boolean) Bd.returns (by simp) (hb hby d15_27) hr
  · show Q_rmisn Z a1 a3 s1 h0 n0 _ T2.heap _
    rw [e2]
    exact ⟨rfl, N2, rfl⟩
theorem ef_rmisnn (m : MethodId) (x0 : Addr) : entryFrame m #[(.ref x0), .null, .null] 3 = mkF m 0 #[vr x0, vN, vN] [] := by first | (simp [entryFrame, mkF, argsToLocals, Value.category]; done) | rfl
def Q_rmisnn (Z : State) (a1 : Addr) (s1 : Addr) (h0 : Heap) (n0 : Nat) (v : Option Value) (h : Heap) (L : List Loc) : Prop := (v = some (.int (0 : Int32))) ∧ (Fr n0 L) ∧ (h = h0)
set_option maxRecDepth 65536 in
set_option maxHeartbeats 40000000 in
theorem rmisnn (l : Launch) (Z : State) (a0 : Array Value) (hw : ∀ d ∈ tables_1, d.before a0 Z = true) (ws : List Jvm.Cond) (a1 : Addr) (s1 : Addr) (h0 : Heap) (n0 : Nat) (Z0 : n0 ≤ h0.size) (O0 : Old Z n0 h0) (F_type_a1 : Fld Z h0 a1 "com/example/brisk_tableau/brisktableau/owl/FuzzyLabel" "type" "Ljava/lang/String;" (.ref s1)) (E_s1 : Exa Z h0 s1 "java/lang/String") :
    MetFree l y_19 (head1 (Jvm.Cond.code y_19 prog_37_method_2_code 3 (some .boolean) :: ws) ({ frames := 1, cells := 0, slots := 0, locals := 14 } : Room)) (fun a U => a = #[(.ref a1), .null, .null] ∧ Z.Warmed39 U.vm ∧ U.heap = h0) (fun _ _ _ _ _ => True) (fun _ U o U' => ∃ v L, o = .returned v ∧ Q_rmisnn Z a1 s1 h0 n0 v U'.heap L ∧ FrameEnd U o U' L ({ frames := 1, cells := 0, slots := 0, locals := 14 } : Room).cells ({ frames := 1, cells := 0, slots := 0, locals := 14 } : Room).slots) := by
  refine MetFree.of_bodySF (plainFor_of_name pn_2) hisR ?_
  intro p e s m args below meth c s₁ Bd hml0 hP hK
  obtain ⟨rfl, hZ, hh⟩ := hP
  have hx := Bd.exec
  have hby := Bd.bytes
  have hml : c.maxLocals = 3 := hml0
  have hown : s.vm.findClass "com/example/brisk_tableau/brisktableau/owl/FuzzyLabel" = some m.cls := findClass_of_methodNamed Bd.named
  have hnm := (name_of_methodNamed Bd.named Bd.method).1
  have X0 : Stand p l e ({ frames := 1, cells := 0, slots := 0, locals := 14 } : Room) s m #[(.ref a1), .null, .null] below meth c s₁ [] 0 0 := Stand.of_body Bd
  have e0 : s₁.heap = h0 := by rw [← hh, Bd.state]; rfl
  have N0 := Fr.nil n0
  have KC : Keep h0 h0 [] := Keep.refl h0 _
  have pre0 : ∀ t, Steps p.tables e below (s₁.setTop (mkF m 0 #[vr a1, vN, vN] [])) t → Steps p.tables e below (s₁.setTop (entryFrame m #[(.ref a1), .null, .null] 3)) t := fun t k => castTop (ef_rmisnn m a1) k
  obtain ⟨T1, X1, e1, st1⟩ := getF X0 hx hZ hown (host := "") (Or.inl (ww hw 62 rfl)) Via.refl e0 F_type_a1 (g := (mkF m 1 #[vr a1, vN, vN] [(.ref a1)])) rfl rfl (hb hby d15_1)
  obtain ⟨cq2, kq2, q2a, q2b, q2c⟩ := isOf hZ e1 E_s1
  obtain ⟨_, _, ⟨T2, L2, k2, n2⟩, -, X2, ⟨Lc2, hQ2, l2, y2, z2⟩, st2⟩ := X1.virtualBack hx (y := y_18) (z := y_18) hown (mvT hZ (ww hw 76 rfl)) (mvT hZ (ww hw 77 rfl)) (notFace_of_selects (args := #[]) (mvT hZ (ww hw 79 rfl))) (mvT hZ (ww hw 79 rfl)) (mvT hZ (ww hw 78 rfl)) (by decide) (backOf (W := 0) (rmEn l Z a0 hw [] s1 h0 n0 (Nat.le_trans Z0 KC.1) O0 ) hZ (ww hw 80 rfl) (ww hw 16 rfl) (by decide) (by decide)) q2a q2c (g := (mkF m 5 #[vr a1, vN, vN] [.null, (.ref s1)])) rfl (by rw [hml]; rfl) (Steps.refl _) (argsL := [.null]) (rest := []) (lenOf pd_14 rfl) rfl (by show 2 * 0 + _ ≤ _; exact Nat.le_of_eq rfl) (hb hby d15_5) (fun _ _ => ⟨rfl, e1, (by decide : 0 + 0 ≤ _), (by decide : 0 + 0 ≤ _)⟩)
  dsimp only [Pt.U, Pt.locs, Pt.cells, Pt.slots] at X2 l2 y2 z2 st2 hQ2
  subst l2 y2 z2
  obtain ⟨rfl, N2q, e2⟩ := hQ2
  have N2 := Fr.app N0 N2q
  obtain ⟨fs, hr, hrun, hended, hW, hsame⟩ := X2.leave (v := some (.int (0 : Int32))) (fun h => by rw [Bd.returns] at h; cases h)
  refine ⟨_, _, pre0 _ ?_, hrun, hended, _, _, rfl, ?_, ⟨_, rfl⟩, hW, hsame.mono (by decide) (by decide)⟩
  · show SS p e below m s₁ 0 #[vr a1, vN, vN] [] _
    refine XS.aloadN X0.here hx rfl (hb hby d15_0) rfl rfl ?_
    show SS p e below m s₁ 1 #[vr a1, vN, vN] [(.ref a1)] _
    refine st1 _ ?_
    show SS p e below m T1 4 #[vr a1, vN, vN] [(.ref s1)] _
    refine XS.aloadN X1.here hx rfl (hb hby d15_4) rfl rfl ?_
    show SS p e below m T1 5 #[vr a1, vN, vN] [.null, (.ref s1)] _
    refine st2.trans ?_
    show SS p e below m T2 8 #[vr a1, vN, vN] [(.int (0 : Int32))] _
    refine XS.ifYes X2.here hx rfl (pc0 := 8) (pc' := 26) rfl (hb hby d15_8) rfl ((if0 _ _).trans (teq (by decide)).1) (by decide) (by decide) ?_
    show SS p e below m T2 26 #[vr a1, vN, vN] [] _
    refine XS.iconst X2.here hx rfl (hb hby d15_26) ?_
    show SS p e below m T2 27 #[vr a1, vN, vN] [(.int (0 : Int32))] _
    exact retN X2 hx (t := .boolean) Bd.returns (by simp) (hb hby d15_27) hr
  · show Q_rmisnn Z a1 s1 h0 n0 _ T2.heap _
    rw [e2]
    exact ⟨rfl, N2, rfl⟩
theorem ef_rmisx (m : MethodId) (x0 : Addr) (x1 : Addr) : entryFrame m #[(.ref x0), (.ref x1), .null] 3 = mkF m 0 #[vr x0, vr x1, vN] [] := by first | (simp [entryFrame, mkF, argsToLocals, Value.category]; done) | rfl
def Q_rmisx (Z : State) (a1 : Addr) (a2 : Addr) (s1 : Addr) (s2 : Addr) (t1 : Addr) (k1 : ClassId) (c1 : Int32) (t3 : Addr) (k3 : ClassId) (d1 : Int32) (zc : Int32) (h0 : Heap) (n0 : Nat) (v : Option Value) (h : Heap) (L : List Loc) : Prop := (v = some (.int (0 : Int32))) ∧ (Fr n0 L) ∧ (h = h0)
set_option maxRecDepth 65536 in
set_option maxHeartbeats 40000000 in
theorem rmisx (l : Launch) (Z : State) (a0 : Array Value) (hw : ∀ d ∈ tables_1, d.before a0 Z = true) (ws : List Jvm.Cond) (a1 : Addr) (a2 : Addr) (s1 : Addr) (s2 : Addr) (t1 : Addr) (k1 : ClassId) (c1 : Int32) (t3 : Addr) (k3 : ClassId) (d1 : Int32) (zc : Int32) (h0 : Heap) (n0 : Nat) (Z0 : n0 ≤ h0.size) (O0 : Old Z n0 h0) (F_type_a1 : Fld Z h0 a1 "com/example/brisk_tableau/brisktableau/owl/FuzzyLabel" "type" "Ljava/lang/String;" (.ref s1)) (F_element_a1 : Fld Z h0 a1 "com/example/brisk_tableau/brisktableau/owl/FuzzyLabel" "element" "Ljava/lang/String;" (.ref s2)) (E_s1 : Exa Z h0 s1 "java/lang/String") (F_value_s1 : Fld Z h0 s1 "java/lang/String" "value" "[B" (.ref t1)) (F_coder_s1 : Fld Z h0 s1 "java/lang/String" "coder" "B" (.int (0 : Int32))) (V_t1 : Arv Z h0 t1 k1 .byte (own_n c1) (own_bs c1) (.int (0 : Int32))) (E_s2 : Exa Z h0 s2 "java/lang/String") (E_a2 : Exa Z h0 a2 "java/lang/String") (F_value_a2 : Fld Z h0 a2 "java/lang/String" "value" "[B" (.ref t3)) (F_coder_a2 : Fld Z h0 a2 "java/lang/String" "coder" "B" (.int (0 : Int32))) (V_t3 : Arv Z h0 t3 k3 .byte (own_n d1) (own_bs d1) (.int (0 : Int32))) (ne_x : s1 ≠ a2) (S_CS : Sta Z Z.heap "java/lang/String" "COMPACT_STRINGS" "Z" (.int zc)) (hz : ¬ zc = (0 : Int32)) :
    MetFree l y_19 (head1 (Jvm.Cond.code y_19 prog_37_method_2_code 3 (some .boolean) :: ws) ({ frames := 2, cells := 0, slots := 0, locals := 28 } : Room)) (fun a U => a = #[(.ref a1), (.ref a2), .null] ∧ Z.Warmed39 U.vm ∧ U.heap = h0) (fun _ _ _ _ _ => True) (fun _ U o U' => ∃ v L, o = .returned v ∧ Q_rmisx Z a1 a2 s1 s2 t1 k1 c1 t3 k3 d1 zc h0 n0 v U'.heap L ∧ FrameEnd U o U' L ({ frames := 2, cells := 0, slots := 0, locals := 28 } : Room).cells ({ frames := 2, cells := 0, slots := 0, locals := 28 } : Room).slots) := by
  refine MetFree.of_bodySF (plainFor_of_name pn_2) hisR ?_
  intro p e s m args below meth c s₁ Bd hml0 hP hK
  obtain ⟨rfl, hZ, hh⟩ := hP
  have hx := Bd.exec
  have hby := Bd.bytes
  have hml : c.maxLocals = 3 := hml0
  have hown : s.vm.findClass "com/example/brisk_tableau/brisktableau/owl/FuzzyLabel" = some m.cls := findClass_of_methodNamed Bd.named
  have hnm := (name_of_methodNamed Bd.named Bd.method).1
  have X0 : Stand p l e ({ frames := 2, cells := 0, slots := 0, locals := 28 } : Room) s m #[(.ref a1), (.ref a2), .null] below meth c s₁ [] 0 0 := Stand.of_body Bd
  have e0 : s₁.heap = h0 := by rw [← hh, Bd.state]; rfl
  have N0 := Fr.nil n0
  have KC : Keep h0 h0 [] := Keep.refl h0 _
  have pre0 : ∀ t, Steps p.tables e below (s₁.setTop (mkF m 0 #[vr a1, vr a2, vN] [])) t → Steps p.tables e below (s₁.setTop (entryFrame m #[(.ref a1), (.ref a2), .null] 3)) t := fun t k => castTop (ef_rmisx m a1 a2) k
  obtain ⟨T1, X1, e1, st1⟩ := getF X0 hx hZ hown (host := "") (Or.inl (ww hw 62 rfl)) Via.refl e0 F_type_a1 (g := (mkF m 1 #[vr a1, vr a2, vN] [(.ref a1)])) rfl rfl (hb hby d15_1)
  obtain ⟨cq2, kq2, q2a, q2b, q2c⟩ := isOf hZ e1 E_s1
  obtain ⟨_, _, ⟨T2, L2, k2, n2⟩, -, X2, ⟨Lc2, hQ2, l2, y2, z2⟩, st2⟩ := X1.virtualBack hx (y := y_18) (z := y_18) hown (mvT hZ (ww hw 76 rfl)) (mvT hZ (ww hw 77 rfl)) (notFace_of_selects (args := #[]) (mvT hZ (ww hw 79 rfl))) (mvT hZ (ww hw 79 rfl)) (mvT hZ (ww hw 78 rfl)) (by decide) (backOf (W := 0) (rmEq l Z a0 hw [] s1 a2 t1 k1 c1 t3 k3 d1 zc h0 n0 (Nat.le_trans Z0 KC.1) O0 E_s1 F_value_s1 F_coder_s1 V_t1 E_a2 F_value_a2 F_coder_a2 V_t3 ne_x S_CS (by first | assumption | decide | omega)) hZ (ww hw 80 rfl) (ww hw 16 rfl) (by decide) (by decide)) q2a q2c (g := (mkF m 5 #[vr a1, vr a2, vN] [(.ref a2), (.ref s1)])) rfl (by rw [hml]; rfl) (Steps.refl _) (argsL := [(.ref a2)]) (rest := []) (lenOf pd_14 rfl) rfl (by show 2 * 0 + _ ≤ _; exact Nat.le_of_eq rfl) (hb hby d15_5) (fun _ _ => ⟨rfl, e1, (by decide : 0 + 0 ≤ _), (by decide : 0 + 0 ≤ _)⟩)
  dsimp only [Pt.U, Pt.locs, Pt.cells, Pt.slots] at X2 l2 y2 z2 st2 hQ2
  subst l2 y2 z2
  obtain ⟨rfl, N2q, e2⟩ := hQ2
  have N2 := Fr.app N0 N2q
  have pre3 : ∀ t, Steps p.tables e below (T2.setTop (mkF m 8 #[vr a1, vr a2, vN] [(.int (own_eq c1 d1))])) t → Steps p.tables e below (s₁.setTop (entryFrame m #[(.ref a1), (.ref a2), .null] 3)) t := by
    intro t kt
    refine pre0 t ?_
    show SS p e below m s₁ 0 #[vr a1, vr a2, vN] [] _
    refine XS.aloadN X0.here hx rfl (hb hby d15_0) rfl rfl ?_
    show SS p e below m s₁ 1 #[vr a1, vr a2, vN] [(.ref a1)] _
    refine st1 _ ?_
    show SS p e below m T1 4 #[vr a1, vr a2, vN] [(.ref s1)] _
    refine XS.aloadN X1.here hx rfl (hb hby d15_4) rfl rfl ?_
    show SS p e below m T1 5 #[vr a1, vr a2, vN] [(.ref a2), (.ref s1)] _
    refine st2.trans ?_
    exact kt
  by_cases hc8_4 : (own_eq c1 d1) = (0 : Int32)
  · obtain ⟨fs, hr, hrun, hended, hW, hsame⟩ := X2.leave (v := some (.int (0 : Int32))) (fun h => by rw [Bd.returns] at h; cases h)
    refine ⟨_, _, pre3 _ ?_, hrun, hended, _, _, rfl, ?_, ⟨_, rfl⟩, hW, hsame.mono (by decide) (by decide)⟩
    · show SS p e below m T2 8 #[vr a1, vr a2, vN] [(.int (own_eq c1 d1))] _
      refine XS.ifYes X2.here hx rfl (pc0 := 8) (pc' := 26) rfl (hb hby d15_8) rfl ((if0 _ _).trans (teq hc8_4).1) (by decide) (by decide) ?_
      show SS p e below m T2 26 #[vr a1, vr a2, vN] [] _
      refine XS.iconst X2.here hx rfl (hb hby d15_26) ?_
      show SS p e below m T2 27 #[vr a1, vr a2, vN] [(.int (0 : Int32))] _
      exact retN X2 hx (t := .boolean) Bd.returns (by simp) (hb hby d15_27) hr
    · show Q_rmisx Z a1 a2 s1 s2 t1 k1 c1 t3 k3 d1 zc h0 n0 _ T2.heap _
      rw [e2]
      exact ⟨rfl, N2, rfl⟩
  · obtain ⟨T5, X5, e5, st5⟩ := getF X2 hx hZ hown (host := "") (Or.inl (ww hw 64 rfl)) Via.refl e2 F_element_a1 (g := (mkF m 12 #[vr a1, vr a2, vN] [(.ref a1)])) rfl rfl (hb hby d15_12)
    obtain ⟨cq6, kq6, q6a, q6b, q6c⟩ := isOf hZ e5 E_s2
    obtain ⟨_, _, ⟨T6, L6, k6, n6⟩, -, X6, ⟨Lc6, hQ6, l6, y6, z6⟩, st6⟩ := X5.virtualBack hx (y := y_18) (z := y_18) hown (mvT hZ (ww hw 76 rfl)) (mvT hZ (ww hw 77 rfl)) (notFace_of_selects (args := #[]) (mvT hZ (ww hw 79 rfl))) (mvT hZ (ww hw 79 rfl)) (mvT hZ (ww hw 78 rfl)) (by decide) (backOf (W := 0) (rmEn l Z a0 hw [] s2 h0 n0 (Nat.le_trans Z0 KC.1) O0 ) hZ (ww hw 80 rfl) (ww hw 16 rfl) (by decide) (by decide)) q6a q6c (g := (mkF m 16 #[vr a1, vr a2, vN] [.null, (.ref s2)])) rfl (by rw [hml]; rfl) (Steps.refl _) (argsL := [.null]) (rest := []) (lenOf pd_14 rfl) rfl (by show 2 * 0 + _ ≤ _; exact Nat.le_of_eq rfl) (hb hby d15_16) (fun _ _ => ⟨rfl, e5, (by decide : 0 + 0 ≤ _), (by decide : 0 + 0 ≤ _)⟩)
    dsimp only [Pt.U, Pt.locs, Pt.cells, Pt.slots] at X6 l6 y6 z6 st6 hQ6
    subst l6 y6 z6
    obtain ⟨rfl, N6q, e6⟩ := hQ6
    have N6 := Fr.app N2 N6q
    obtain ⟨fs, hr, hrun, hended, hW, hsame⟩ := X6.leave (v := some (.int (0 : Int32))) (fun h => by rw [Bd.returns] at h; cases h)
    refine ⟨_, _, pre3 _ ?_, hrun, hended, _, _, rfl, ?_, ⟨_, rfl⟩, hW, hsame.mono (by decide) (by decide)⟩
    · show SS p e below m T2 8 #[vr a1, vr a2, vN] [(.int (own_eq c1 d1))] _
      refine XS.ifNo X2.here hx rfl (hb hby d15_8) rfl ((if0 _ _).trans (feq hc8_4).1) ?_
      show SS p e below m T2 11 #[vr a1, vr a2, vN] [] _
      refine XS.aloadN X2.here hx rfl (hb hby d15_11) rfl rfl ?_
      show SS p e below m T2 12 #[vr a1, vr a2, vN] [(.ref a1)] _
      refine st5 _ ?_
      show SS p e below m T5 15 #[vr a1, vr a2, vN] [(.ref s2)] _
      refine XS.aloadN X5.here hx rfl (hb hby d15_15) rfl rfl ?_
      show SS p e below m T5 16 #[vr a1, vr a2, vN] [.null, (.ref s2)] _
      refine st6.trans ?_
      show SS p e below m T6 19 #[vr a1, vr a2, vN] [(.int (0 : Int32))] _
      refine XS.ifYes X6.here hx rfl (pc0 := 19) (pc' := 26) rfl (hb hby d15_19) rfl ((if0 _ _).trans (teq (by decide)).1) (by decide) (by decide) ?_
      show SS p e below m T6 26 #[vr a1, vr a2, vN] [] _
      refine XS.iconst X6.here hx rfl (hb hby d15_26) ?_
      show SS p e below m T6 27 #[vr a1, vr a2, vN] [(.int (0 : Int32))] _
      exact retN X6 hx (t := .boolean) Bd.returns (by simp) (hb hby d15_27) hr
    · show Q_rmisx Z a1 a2 s1 s2 t1 k1 c1 t3 k3 d1 zc h0 n0 _ T6.heap _
      rw [e6]
      exact ⟨rfl, N6, rfl⟩
theorem pd_15 : parseMethodDescriptor "(I)Ljava/lang/String;" = some ⟨[.int], some (.object "java/lang/String")⟩ := by decide +kernel
theorem pd_16 : parseMethodDescriptor "(Ljava/lang/String;Ljava/lang/String;Ljava/util/Map;)V" = some ⟨[(.object "java/lang/String"), (.object "java/lang/String"), (.object "java/util/Map")], none⟩ := by decide +kernel
theorem pd_17 : parseMethodDescriptor "(Ljava/lang/String;Ljava/lang/String;)Z" = some ⟨[(.object "java/lang/String"), (.object "java/lang/String")], some .boolean⟩ := by decide +kernel
theorem pd_18 : parseMethodDescriptor "(II)Z" = some ⟨[.int, .int], some .boolean⟩ := by decide +kernel
theorem ef_rm0 (m : MethodId) (x0 : Int32) (x1 : Int32) (x2 : Int32) (x3 : Int32) : entryFrame m #[(.int x0), (.int x1), (.int x2), (.int x3)] maxLocals = mkF m 0 #[vi x0, vi x1, vi x2, vi x3, .unset, .unset, .unset, .unset, .unset, .unset, .unset, .unset] [] := by first | (simp [entryFrame, mkF, argsToLocals, Value.category, maxLocals]; done) | rfl
def Q_rm0 (Z : State) (p1 : Int32) (p2 : Int32) (p3 : Int32) (p4 : Int32) (zc : Int32) (h0 : Heap) (n0 : Nat) (v : Option Value) (h : Heap) (L : List Loc) : Prop := (v = some (.int (1 : Int32))) ∧ (Fr n0 L) ∧ (Keep h0 h [])
set_option maxRecDepth 65536 in
set_option maxHeartbeats 40000000 in
theorem rm0 (l : Launch) (Z : State) (a0 : Array Value) (hw : ∀ d ∈ tables_1, d.before a0 Z = true) (ws : List Jvm.Cond) (p1 : Int32) (p2 : Int32) (p3 : Int32) (p4 : Int32) (zc : Int32) (h0 : Heap) (n0 : Nat) (Z0 : n0 ≤ h0.size) (O0 : Old Z n0 h0) (S_CS : Sta Z Z.heap "java/lang/String" "COMPACT_STRINGS" "Z" (.int zc)) (hz : ¬ zc = (0 : Int32)) :
    MetFree l x (head1 (Jvm.Cond.code x code maxLocals ret :: ws) room_1) (fun a U => a = #[(.int p1), (.int p2), (.int p3), (.int p4)] ∧ Z.Warmed39 U.vm ∧ U.heap = h0 ∧ CHv Z EL U.vm h0) (fun _ _ _ _ _ => True) (fun _ U o U' => ∃ v L, o = .returned v ∧ Q_rm0 Z p1 p2 p3 p4 zc h0 n0 v U'.heap L ∧ CHr Z EL U.vm U.heap U'.vm U'.heap ∧ ReturnedEndW U o U' L room_1.cells room_1.slots) := by
  refine MetFree.of_bodySF (plainFor_of_name pn_0) hisR ?_
  intro p e s m args below meth c s₁ Bd hml0 hP hK
  obtain ⟨rfl, hZ0, hh, hC0⟩ := hP
  have hx := Bd.exec
  have hby := Bd.bytes
  have hml : c.maxLocals = 12 := hml0
  have hown : (s.setVm s.vm).vm.findClass "com/example/brisk_tableau/brisktableau/owl/FuzzyLabelIsPinLaw" = some m.cls := findClass_of_methodNamed Bd.named
  have hnm := (name_of_methodNamed Bd.named Bd.method).1
  have X0 : Stand p l e room_1 (s.setVm s.vm) m #[(.int p1), (.int p2), (.int p3), (.int p4)] below meth c s₁ [] 0 0 := Stand.of_body Bd
  have e0 : s₁.heap = h0 := by rw [← hh, Bd.state]; rfl
  have N0 := Fr.nil n0
  have KC : Keep h0 h0 [] := Keep.refl h0 _
  have pre0 : ∀ t, Steps p.tables e below (s₁.setTop (mkF m 0 #[vi p1, vi p2, vi p3, vi p4, un, un, un, un, un, un, un, un] [])) t → Steps p.tables e below (s₁.setTop (entryFrame m #[(.int p1), (.int p2), (.int p3), (.int p4)] maxLocals)) t := fun t k => castTop (ef_rm0 m p1 p2 p3 p4) k
  have hZ : Z.Warmed39 (s.setVm s.vm).vm := hZ0
  have hEL := own_hEL hw
  have wS := own_wS hw
  have hS : s.Since s.vm 0 := (State.WarmedH.refl s).since 0
  have hk : 0 ≤ h0.size := Nat.zero_le _
  have hC : CHr Z EL s.vm h0 s.vm h0 := CHr.refl hC0
  have pre1 : ∀ t, Steps p.tables e below (s₁.setTop (mkF m 18 #[vi p1, vi p2, vi p3, vi p4, vi (((p3.toUInt32 >>> ((18 : Int32) &&& 31).toUInt32).toInt32) &&& (3 : Int32)), vi (((p4.toUInt32 >>> ((18 : Int32) &&& 31).toUInt32).toInt32) &&& (3 : Int32)), un, un, un, un, un, un] [(.int (((p3.toUInt32 >>> ((18 : Int32) &&& 31).toUInt32).toInt32) &&& (3 : Int32)))])) t → Steps p.tables e below (s₁.setTop (entryFrame m #[(.int p1), (.int p2), (.int p3), (.int p4)] maxLocals)) t := by
    intro t kt
    refine pre0 t ?_
    show SS p e below m s₁ 0 #[vi p1, vi p2, vi p3, vi p4, un, un, un, un, un, un, un, un] [] _
    refine XS.iloadN X0.here hx rfl (hb hby at_0) rfl ?_
    show SS p e below m s₁ 1 #[vi p1, vi p2, vi p3, vi p4, un, un, un, un, un, un, un, un] [(.int p3)] _
    refine XS.bipush X0.here hx rfl (hb hby at_1) ?_
    show SS p e below m s₁ 3 #[vi p1, vi p2, vi p3, vi p4, un, un, un, un, un, un, un, un] [(.int (18 : Int32)), (.int p3)] _
    refine XS.iushr X0.here hx rfl (hb hby at_3) rfl ?_
    show SS p e below m s₁ 4 #[vi p1, vi p2, vi p3, vi p4, un, un, un, un, un, un, un, un] [(.int ((p3.toUInt32 >>> ((18 : Int32) &&& 31).toUInt32).toInt32))] _
    refine XS.iconst X0.here hx rfl (hb hby at_4) ?_
    show SS p e below m s₁ 5 #[vi p1, vi p2, vi p3, vi p4, un, un, un, un, un, un, un, un] [(.int (3 : Int32)), (.int ((p3.toUInt32 >>> ((18 : Int32) &&& 31).toUInt32).toInt32))] _
    refine XS.iand X0.here hx rfl (hb hby at_5) rfl ?_
    show SS p e below m s₁ 6 #[vi p1, vi p2, vi p3, vi p4, un, un, un, un, un, un, un, un] [(.int (((p3.toUInt32 >>> ((18 : Int32) &&& 31).toUInt32).toInt32) &&& (3 : Int32)))] _
    refine XS.istore X0.here hx rfl (hb hby at_6) rfl (l' := #[vi p1, vi p2, vi p3, vi p4, vi (((p3.toUInt32 >>> ((18 : Int32) &&& 31).toUInt32).toInt32) &&& (3 : Int32)), un, un, un, un, un, un, un]) rfl ?_
    show SS p e below m s₁ 8 #[vi p1, vi p2, vi p3, vi p4, vi (((p3.toUInt32 >>> ((18 : Int32) &&& 31).toUInt32).toInt32) &&& (3 : Int32)), un, un, un, un, un, un, un] [] _
    refine XS.iloadN X0.here hx rfl (hb hby at_8) rfl ?_
    show SS p e below m s₁ 9 #[vi p1, vi p2, vi p3, vi p4, vi (((p3.toUInt32 >>> ((18 : Int32) &&& 31).toUInt32).toInt32) &&& (3 : Int32)), un, un, un, un, un, un, un] [(.int p4)] _
    refine XS.bipush X0.here hx rfl (hb hby at_9) ?_
    show SS p e below m s₁ 11 #[vi p1, vi p2, vi p3, vi p4, vi (((p3.toUInt32 >>> ((18 : Int32) &&& 31).toUInt32).toInt32) &&& (3 : Int32)), un, un, un, un, un, un, un] [(.int (18 : Int32)), (.int p4)] _
    refine XS.iushr X0.here hx rfl (hb hby at_11) rfl ?_
    show SS p e below m s₁ 12 #[vi p1, vi p2, vi p3, vi p4, vi (((p3.toUInt32 >>> ((18 : Int32) &&& 31).toUInt32).toInt32) &&& (3 : Int32)), un, un, un, un, un, un, un] [(.int ((p4.toUInt32 >>> ((18 : Int32) &&& 31).toUInt32).toInt32))] _
    refine XS.iconst X0.here hx rfl (hb hby at_12) ?_
    show SS p e below m s₁ 13 #[vi p1, vi p2, vi p3, vi p4, vi (((p3.toUInt32 >>> ((18 : Int32) &&& 31).toUInt32).toInt32) &&& (3 : Int32)), un, un, un, un, un, un, un] [(.int (3 : Int32)), (.int ((p4.toUInt32 >>> ((18 : Int32) &&& 31).toUInt32).toInt32))] _
    refine XS.iand X0.here hx rfl (hb hby at_13) rfl ?_
    show SS p e below m s₁ 14 #[vi p1, vi p2, vi p3, vi p4, vi (((p3.toUInt32 >>> ((18 : Int32) &&& 31).toUInt32).toInt32) &&& (3 : Int32)), un, un, un, un, un, un, un] [(.int (((p4.toUInt32 >>> ((18 : Int32) &&& 31).toUInt32).toInt32) &&& (3 : Int32)))] _
    refine XS.istore X0.here hx rfl (hb hby at_14) rfl (l' := #[vi p1, vi p2, vi p3, vi p4, vi (((p3.toUInt32 >>> ((18 : Int32) &&& 31).toUInt32).toInt32) &&& (3 : Int32)), vi (((p4.toUInt32 >>> ((18 : Int32) &&& 31).toUInt32).toInt32) &&& (3 : Int32)), un, un, un, un, un, un]) rfl ?_
    show SS p e below m s₁ 16 #[vi p1, vi p2, vi p3, vi p4, vi (((p3.toUInt32 >>> ((18 : Int32) &&& 31).toUInt32).toInt32) &&& (3 : Int32)), vi (((p4.toUInt32 >>> ((18 : Int32) &&& 31).toUInt32).toInt32) &&& (3 : Int32)), un, un, un, un, un, un] [] _
    refine XS.iload X0.here hx rfl (hb hby at_16) rfl ?_
    exact kt
  obtain ⟨qc, pre2⟩ : ∃ qc : Int32, ∀ t, Steps p.tables e below (s₁.setTop (mkF m 36 #[vi p1, vi p2, vi p3, vi p4, vi (((p3.toUInt32 >>> ((18 : Int32) &&& 31).toUInt32).toInt32) &&& (3 : Int32)), vi (((p4.toUInt32 >>> ((18 : Int32) &&& 31).toUInt32).toInt32) &&& (3 : Int32)), un, un, un, un, un, un] [(.int qc)])) t → Steps p.tables e below (s₁.setTop (entryFrame m #[(.int p1), (.int p2), (.int p3), (.int p4)] maxLocals)) t := by
    by_cases hj3 : (((p3.toUInt32 >>> ((18 : Int32) &&& 31).toUInt32).toInt32) &&& (3 : Int32)) = (0 : Int32)
    · refine ⟨p1, fun t kt => pre1 t ?_⟩
      show SS p e below m s₁ 18 #[vi p1, vi p2, vi p3, vi p4, vi (((p3.toUInt32 >>> ((18 : Int32) &&& 31).toUInt32).toInt32) &&& (3 : Int32)), vi (((p4.toUInt32 >>> ((18 : Int32) &&& 31).toUInt32).toInt32) &&& (3 : Int32)), un, un, un, un, un, un] [(.int (((p3.toUInt32 >>> ((18 : Int32) &&& 31).toUInt32).toInt32) &&& (3 : Int32)))] _
      refine XS.ifNo X0.here hx rfl (hb hby at_18) rfl ((if0 _ _).trans (teq hj3).2) ?_
      show SS p e below m s₁ 21 #[vi p1, vi p2, vi p3, vi p4, vi (((p3.toUInt32 >>> ((18 : Int32) &&& 31).toUInt32).toInt32) &&& (3 : Int32)), vi (((p4.toUInt32 >>> ((18 : Int32) &&& 31).toUInt32).toInt32) &&& (3 : Int32)), un, un, un, un, un, un] [] _
      refine XS.iloadN X0.here hx rfl (hb hby at_21) rfl ?_
      show SS p e below m s₁ 22 #[vi p1, vi p2, vi p3, vi p4, vi (((p3.toUInt32 >>> ((18 : Int32) &&& 31).toUInt32).toInt32) &&& (3 : Int32)), vi (((p4.toUInt32 >>> ((18 : Int32) &&& 31).toUInt32).toInt32) &&& (3 : Int32)), un, un, un, un, un, un] [(.int p1)] _
      refine XS.goto X0.here hx rfl (pc0 := 22) (pc' := 36) rfl (hb hby at_22) (by decide) (by decide) ?_
      exact kt
    · by_cases hj4 : (((p3.toUInt32 >>> ((18 : Int32) &&& 31).toUInt32).toInt32) &&& (3 : Int32)) = (1 : Int32)
      · refine ⟨p2, fun t kt => pre1 t ?_⟩
        show SS p e below m s₁ 18 #[vi p1, vi p2, vi p3, vi p4, vi (((p3.toUInt32 >>> ((18 : Int32) &&& 31).toUInt32).toInt32) &&& (3 : Int32)), vi (((p4.toUInt32 >>> ((18 : Int32) &&& 31).toUInt32).toInt32) &&& (3 : Int32)), un, un, un, un, un, un] [(.int (((p3.toUInt32 >>> ((18 : Int32) &&& 31).toUInt32).toInt32) &&& (3 : Int32)))] _
        refine XS.ifYes X0.here hx rfl (pc0 := 18) (pc' := 25) rfl (hb hby at_18) rfl ((if0 _ _).trans (feq hj3).2) (by decide) (by decide) ?_
        show SS p e below m s₁ 25 #[vi p1, vi p2, vi p3, vi p4, vi (((p3.toUInt32 >>> ((18 : Int32) &&& 31).toUInt32).toInt32) &&& (3 : Int32)), vi (((p4.toUInt32 >>> ((18 : Int32) &&& 31).toUInt32).toInt32) &&& (3 : Int32)), un, un, un, un, un, un] [] _
        refine XS.iload X0.here hx rfl (hb hby at_25) rfl ?_
        show SS p e below m s₁ 27 #[vi p1, vi p2, vi p3, vi p4, vi (((p3.toUInt32 >>> ((18 : Int32) &&& 31).toUInt32).toInt32) &&& (3 : Int32)), vi (((p4.toUInt32 >>> ((18 : Int32) &&& 31).toUInt32).toInt32) &&& (3 : Int32)), un, un, un, un, un, un] [(.int (((p3.toUInt32 >>> ((18 : Int32) &&& 31).toUInt32).toInt32) &&& (3 : Int32)))] _
        refine XS.iconst X0.here hx rfl (hb hby at_27) ?_
        show SS p e below m s₁ 28 #[vi p1, vi p2, vi p3, vi p4, vi (((p3.toUInt32 >>> ((18 : Int32) &&& 31).toUInt32).toInt32) &&& (3 : Int32)), vi (((p4.toUInt32 >>> ((18 : Int32) &&& 31).toUInt32).toInt32) &&& (3 : Int32)), un, un, un, un, un, un] [(.int (1 : Int32)), (.int (((p3.toUInt32 >>> ((18 : Int32) &&& 31).toUInt32).toInt32) &&& (3 : Int32)))] _
        refine XS.icmpNo X0.here hx rfl (hb hby at_28) rfl (teq hj4).2 ?_
        show SS p e below m s₁ 31 #[vi p1, vi p2, vi p3, vi p4, vi (((p3.toUInt32 >>> ((18 : Int32) &&& 31).toUInt32).toInt32) &&& (3 : Int32)), vi (((p4.toUInt32 >>> ((18 : Int32) &&& 31).toUInt32).toInt32) &&& (3 : Int32)), un, un, un, un, un, un] [] _
        refine XS.iloadN X0.here hx rfl (hb hby at_31) rfl ?_
        show SS p e below m s₁ 32 #[vi p1, vi p2, vi p3, vi p4, vi (((p3.toUInt32 >>> ((18 : Int32) &&& 31).toUInt32).toInt32) &&& (3 : Int32)), vi (((p4.toUInt32 >>> ((18 : Int32) &&& 31).toUInt32).toInt32) &&& (3 : Int32)), un, un, un, un, un, un] [(.int p2)] _
        refine XS.goto X0.here hx rfl (pc0 := 32) (pc' := 36) rfl (hb hby at_32) (by decide) (by decide) ?_
        exact kt
      · refine ⟨p3, fun t kt => pre1 t ?_⟩
        show SS p e below m s₁ 18 #[vi p1, vi p2, vi p3, vi p4, vi (((p3.toUInt32 >>> ((18 : Int32) &&& 31).toUInt32).toInt32) &&& (3 : Int32)), vi (((p4.toUInt32 >>> ((18 : Int32) &&& 31).toUInt32).toInt32) &&& (3 : Int32)), un, un, un, un, un, un] [(.int (((p3.toUInt32 >>> ((18 : Int32) &&& 31).toUInt32).toInt32) &&& (3 : Int32)))] _
        refine XS.ifYes X0.here hx rfl (pc0 := 18) (pc' := 25) rfl (hb hby at_18) rfl ((if0 _ _).trans (feq hj3).2) (by decide) (by decide) ?_
        show SS p e below m s₁ 25 #[vi p1, vi p2, vi p3, vi p4, vi (((p3.toUInt32 >>> ((18 : Int32) &&& 31).toUInt32).toInt32) &&& (3 : Int32)), vi (((p4.toUInt32 >>> ((18 : Int32) &&& 31).toUInt32).toInt32) &&& (3 : Int32)), un, un, un, un, un, un] [] _
        refine XS.iload X0.here hx rfl (hb hby at_25) rfl ?_
        show SS p e below m s₁ 27 #[vi p1, vi p2, vi p3, vi p4, vi (((p3.toUInt32 >>> ((18 : Int32) &&& 31).toUInt32).toInt32) &&& (3 : Int32)), vi (((p4.toUInt32 >>> ((18 : Int32) &&& 31).toUInt32).toInt32) &&& (3 : Int32)), un, un, un, un, un, un] [(.int (((p3.toUInt32 >>> ((18 : Int32) &&& 31).toUInt32).toInt32) &&& (3 : Int32)))] _
        refine XS.iconst X0.here hx rfl (hb hby at_27) ?_
        show SS p e below m s₁ 28 #[vi p1, vi p2, vi p3, vi p4, vi (((p3.toUInt32 >>> ((18 : Int32) &&& 31).toUInt32).toInt32) &&& (3 : Int32)), vi (((p4.toUInt32 >>> ((18 : Int32) &&& 31).toUInt32).toInt32) &&& (3 : Int32)), un, un, un, un, un, un] [(.int (1 : Int32)), (.int (((p3.toUInt32 >>> ((18 : Int32) &&& 31).toUInt32).toInt32) &&& (3 : Int32)))] _
        refine XS.icmpYes X0.here hx rfl (pc0 := 28) (pc' := 35) rfl (hb hby at_28) rfl (feq hj4).2 (by decide) (by decide) ?_
        show SS p e below m s₁ 35 #[vi p1, vi p2, vi p3, vi p4, vi (((p3.toUInt32 >>> ((18 : Int32) &&& 31).toUInt32).toInt32) &&& (3 : Int32)), vi (((p4.toUInt32 >>> ((18 : Int32) &&& 31).toUInt32).toInt32) &&& (3 : Int32)), un, un, un, un, un, un] [] _
        refine XS.iloadN X0.here hx rfl (hb hby at_35) rfl ?_
        exact kt
  have pre5 : ∀ t, Steps p.tables e below (s₁.setTop (mkF m 40 #[vi p1, vi p2, vi p3, vi p4, vi (((p3.toUInt32 >>> ((18 : Int32) &&& 31).toUInt32).toInt32) &&& (3 : Int32)), vi (((p4.toUInt32 >>> ((18 : Int32) &&& 31).toUInt32).toInt32) &&& (3 : Int32)), vi qc, un, un, un, un, un] [(.int (((p4.toUInt32 >>> ((18 : Int32) &&& 31).toUInt32).toInt32) &&& (3 : Int32)))])) t → Steps p.tables e below (s₁.setTop (entryFrame m #[(.int p1), (.int p2), (.int p3), (.int p4)] maxLocals)) t := by
    intro t kt
    refine pre2 t ?_
    show SS p e below m s₁ 36 #[vi p1, vi p2, vi p3, vi p4, vi (((p3.toUInt32 >>> ((18 : Int32) &&& 31).toUInt32).toInt32) &&& (3 : Int32)), vi (((p4.toUInt32 >>> ((18 : Int32) &&& 31).toUInt32).toInt32) &&& (3 : Int32)), un, un, un, un, un, un] [(.int qc)] _
    refine XS.istore X0.here hx rfl (hb hby at_36) rfl (l' := #[vi p1, vi p2, vi p3, vi p4, vi (((p3.toUInt32 >>> ((18 : Int32) &&& 31).toUInt32).toInt32) &&& (3 : Int32)), vi (((p4.toUInt32 >>> ((18 : Int32) &&& 31).toUInt32).toInt32) &&& (3 : Int32)), vi qc, un, un, un, un, un]) rfl ?_
    show SS p e below m s₁ 38 #[vi p1, vi p2, vi p3, vi p4, vi (((p3.toUInt32 >>> ((18 : Int32) &&& 31).toUInt32).toInt32) &&& (3 : Int32)), vi (((p4.toUInt32 >>> ((18 : Int32) &&& 31).toUInt32).toInt32) &&& (3 : Int32)), vi qc, un, un, un, un, un] [] _
    refine XS.iload X0.here hx rfl (hb hby at_38) rfl ?_
    exact kt
  obtain ⟨rc, pre6⟩ : ∃ rc : Int32, ∀ t, Steps p.tables e below (s₁.setTop (mkF m 58 #[vi p1, vi p2, vi p3, vi p4, vi (((p3.toUInt32 >>> ((18 : Int32) &&& 31).toUInt32).toInt32) &&& (3 : Int32)), vi (((p4.toUInt32 >>> ((18 : Int32) &&& 31).toUInt32).toInt32) &&& (3 : Int32)), vi qc, un, un, un, un, un] [(.int rc)])) t → Steps p.tables e below (s₁.setTop (entryFrame m #[(.int p1), (.int p2), (.int p3), (.int p4)] maxLocals)) t := by
    by_cases hj7 : (((p4.toUInt32 >>> ((18 : Int32) &&& 31).toUInt32).toInt32) &&& (3 : Int32)) = (0 : Int32)
    · refine ⟨p2, fun t kt => pre5 t ?_⟩
      show SS p e below m s₁ 40 #[vi p1, vi p2, vi p3, vi p4, vi (((p3.toUInt32 >>> ((18 : Int32) &&& 31).toUInt32).toInt32) &&& (3 : Int32)), vi (((p4.toUInt32 >>> ((18 : Int32) &&& 31).toUInt32).toInt32) &&& (3 : Int32)), vi qc, un, un, un, un, un] [(.int (((p4.toUInt32 >>> ((18 : Int32) &&& 31).toUInt32).toInt32) &&& (3 : Int32)))] _
      refine XS.ifNo X0.here hx rfl (hb hby at_40) rfl ((if0 _ _).trans (teq hj7).2) ?_
      show SS p e below m s₁ 43 #[vi p1, vi p2, vi p3, vi p4, vi (((p3.toUInt32 >>> ((18 : Int32) &&& 31).toUInt32).toInt32) &&& (3 : Int32)), vi (((p4.toUInt32 >>> ((18 : Int32) &&& 31).toUInt32).toInt32) &&& (3 : Int32)), vi qc, un, un, un, un, un] [] _
      refine XS.iloadN X0.here hx rfl (hb hby at_43) rfl ?_
      show SS p e below m s₁ 44 #[vi p1, vi p2, vi p3, vi p4, vi (((p3.toUInt32 >>> ((18 : Int32) &&& 31).toUInt32).toInt32) &&& (3 : Int32)), vi (((p4.toUInt32 >>> ((18 : Int32) &&& 31).toUInt32).toInt32) &&& (3 : Int32)), vi qc, un, un, un, un, un] [(.int p2)] _
      refine XS.goto X0.here hx rfl (pc0 := 44) (pc' := 58) rfl (hb hby at_44) (by decide) (by decide) ?_
      exact kt
    · by_cases hj8 : (((p4.toUInt32 >>> ((18 : Int32) &&& 31).toUInt32).toInt32) &&& (3 : Int32)) = (1 : Int32)
      · refine ⟨p1, fun t kt => pre5 t ?_⟩
        show SS p e below m s₁ 40 #[vi p1, vi p2, vi p3, vi p4, vi (((p3.toUInt32 >>> ((18 : Int32) &&& 31).toUInt32).toInt32) &&& (3 : Int32)), vi (((p4.toUInt32 >>> ((18 : Int32) &&& 31).toUInt32).toInt32) &&& (3 : Int32)), vi qc, un, un, un, un, un] [(.int (((p4.toUInt32 >>> ((18 : Int32) &&& 31).toUInt32).toInt32) &&& (3 : Int32)))] _
        refine XS.ifYes X0.here hx rfl (pc0 := 40) (pc' := 47) rfl (hb hby at_40) rfl ((if0 _ _).trans (feq hj7).2) (by decide) (by decide) ?_
        show SS p e below m s₁ 47 #[vi p1, vi p2, vi p3, vi p4, vi (((p3.toUInt32 >>> ((18 : Int32) &&& 31).toUInt32).toInt32) &&& (3 : Int32)), vi (((p4.toUInt32 >>> ((18 : Int32) &&& 31).toUInt32).toInt32) &&& (3 : Int32)), vi qc, un, un, un, un, un] [] _
        refine XS.iload X0.here hx rfl (hb hby at_47) rfl ?_
        show SS p e below m s₁ 49 #[vi p1, vi p2, vi p3, vi p4, vi (((p3.toUInt32 >>> ((18 : Int32) &&& 31).toUInt32).toInt32) &&& (3 : Int32)), vi (((p4.toUInt32 >>> ((18 : Int32) &&& 31).toUInt32).toInt32) &&& (3 : Int32)), vi qc, un, un, un, un, un] [(.int (((p4.toUInt32 >>> ((18 : Int32) &&& 31).toUInt32).toInt32) &&& (3 : Int32)))] _
        refine XS.iconst X0.here hx rfl (hb hby at_49) ?_
        show SS p e below m s₁ 50 #[vi p1, vi p2, vi p3, vi p4, vi (((p3.toUInt32 >>> ((18 : Int32) &&& 31).toUInt32).toInt32) &&& (3 : Int32)), vi (((p4.toUInt32 >>> ((18 : Int32) &&& 31).toUInt32).toInt32) &&& (3 : Int32)), vi qc, un, un, un, un, un] [(.int (1 : Int32)), (.int (((p4.toUInt32 >>> ((18 : Int32) &&& 31).toUInt32).toInt32) &&& (3 : Int32)))] _
        refine XS.icmpNo X0.here hx rfl (hb hby at_50) rfl (teq hj8).2 ?_
        show SS p e below m s₁ 53 #[vi p1, vi p2, vi p3, vi p4, vi (((p3.toUInt32 >>> ((18 : Int32) &&& 31).toUInt32).toInt32) &&& (3 : Int32)), vi (((p4.toUInt32 >>> ((18 : Int32) &&& 31).toUInt32).toInt32) &&& (3 : Int32)), vi qc, un, un, un, un, un] [] _
        refine XS.iloadN X0.here hx rfl (hb hby at_53) rfl ?_
        show SS p e below m s₁ 54 #[vi p1, vi p2, vi p3, vi p4, vi (((p3.toUInt32 >>> ((18 : Int32) &&& 31).toUInt32).toInt32) &&& (3 : Int32)), vi (((p4.toUInt32 >>> ((18 : Int32) &&& 31).toUInt32).toInt32) &&& (3 : Int32)), vi qc, un, un, un, un, un] [(.int p1)] _
        refine XS.goto X0.here hx rfl (pc0 := 54) (pc' := 58) rfl (hb hby at_54) (by decide) (by decide) ?_
        exact kt
      · refine ⟨p4, fun t kt => pre5 t ?_⟩
        show SS p e below m s₁ 40 #[vi p1, vi p2, vi p3, vi p4, vi (((p3.toUInt32 >>> ((18 : Int32) &&& 31).toUInt32).toInt32) &&& (3 : Int32)), vi (((p4.toUInt32 >>> ((18 : Int32) &&& 31).toUInt32).toInt32) &&& (3 : Int32)), vi qc, un, un, un, un, un] [(.int (((p4.toUInt32 >>> ((18 : Int32) &&& 31).toUInt32).toInt32) &&& (3 : Int32)))] _
        refine XS.ifYes X0.here hx rfl (pc0 := 40) (pc' := 47) rfl (hb hby at_40) rfl ((if0 _ _).trans (feq hj7).2) (by decide) (by decide) ?_
        show SS p e below m s₁ 47 #[vi p1, vi p2, vi p3, vi p4, vi (((p3.toUInt32 >>> ((18 : Int32) &&& 31).toUInt32).toInt32) &&& (3 : Int32)), vi (((p4.toUInt32 >>> ((18 : Int32) &&& 31).toUInt32).toInt32) &&& (3 : Int32)), vi qc, un, un, un, un, un] [] _
        refine XS.iload X0.here hx rfl (hb hby at_47) rfl ?_
        show SS p e below m s₁ 49 #[vi p1, vi p2, vi p3, vi p4, vi (((p3.toUInt32 >>> ((18 : Int32) &&& 31).toUInt32).toInt32) &&& (3 : Int32)), vi (((p4.toUInt32 >>> ((18 : Int32) &&& 31).toUInt32).toInt32) &&& (3 : Int32)), vi qc, un, un, un, un, un] [(.int (((p4.toUInt32 >>> ((18 : Int32) &&& 31).toUInt32).toInt32) &&& (3 : Int32)))] _
        refine XS.iconst X0.here hx rfl (hb hby at_49) ?_
        show SS p e below m s₁ 50 #[vi p1, vi p2, vi p3, vi p4, vi (((p3.toUInt32 >>> ((18 : Int32) &&& 31).toUInt32).toInt32) &&& (3 : Int32)), vi (((p4.toUInt32 >>> ((18 : Int32) &&& 31).toUInt32).toInt32) &&& (3 : Int32)), vi qc, un, un, un, un, un] [(.int (1 : Int32)), (.int (((p4.toUInt32 >>> ((18 : Int32) &&& 31).toUInt32).toInt32) &&& (3 : Int32)))] _
        refine XS.icmpYes X0.here hx rfl (pc0 := 50) (pc' := 57) rfl (hb hby at_50) rfl (feq hj8).2 (by decide) (by decide) ?_
        show SS p e below m s₁ 57 #[vi p1, vi p2, vi p3, vi p4, vi (((p3.toUInt32 >>> ((18 : Int32) &&& 31).toUInt32).toInt32) &&& (3 : Int32)), vi (((p4.toUInt32 >>> ((18 : Int32) &&& 31).toUInt32).toInt32) &&& (3 : Int32)), vi qc, un, un, un, un, un] [] _
        refine XS.iloadN X0.here hx rfl (hb hby at_57) rfl ?_
        exact kt
  obtain ⟨T9, h9, X9, e9, E9, A9, D9, -, st9⟩ := newO X0 hx hZ hown (ww hw 0 rfl) (ww hw 1 rfl) (ww hw 2 rfl) e0 (g := (mkF m 60 #[vi p1, vi p2, vi p3, vi p4, vi (((p3.toUInt32 >>> ((18 : Int32) &&& 31).toUInt32).toInt32) &&& (3 : Int32)), vi (((p4.toUInt32 >>> ((18 : Int32) &&& 31).toUInt32).toInt32) &&& (3 : Int32)), vi qc, vi rc, un, un, un, un] [])) rfl (hb hby at_60) (by decide) (by decide)
  obtain ⟨b9, g9⟩ : ∃ z, z = h0.size := ⟨_, rfl⟩
  rw [← g9] at A9 D9 st9
  have g_b9 : n0 ≤ b9 := Nat.le_trans (Nat.le_trans Z0 KC.1) (Nat.le_of_eq g9.symm)
  have sz_b9 : h0.size ≤ b9 := Nat.le_trans KC.1 (Nat.le_of_eq g9.symm)
  replace hk := Nat.le_trans hk E9.1
  replace hC := hC.trans (CHr.ext E9 hC.1)
  replace O0 := O0.ext E9
  replace KC := KC.ext E9
  have F_type_b9 : Fld Z h9 b9 "com/example/brisk_tableau/brisktableau/owl/FuzzyLabel" "type" "Ljava/lang/String;" .null := D9 (Or.inr (ww hw 63 rfl)) (ty := (.object "java/lang/String")) (by decide)
  have F_element_b9 : Fld Z h9 b9 "com/example/brisk_tableau/brisktableau/owl/FuzzyLabel" "element" "Ljava/lang/String;" .null := D9 (Or.inr (ww hw 65 rfl)) (ty := (.object "java/lang/String")) (by decide)
  have F_attributes_b9 : Fld Z h9 b9 "com/example/brisk_tableau/brisktableau/owl/FuzzyLabel" "attributes" "Ljava/util/Map;" .null := D9 (Or.inr (ww hw 67 rfl)) (ty := (.object "java/util/Map")) (by decide)
  obtain ⟨_, _, ⟨T10, L10, k10, n10⟩, -, X10, hS10, gr10, ⟨Lc10, hQ10, l10, y10, z10, C10⟩, st10⟩ := callSS X9 hx (y := y_16) hown (mvT hZ (ww hw 3 rfl)) (mvT hZ (ww hw 4 rfl)) (mvT hZ (ww hw 5 rfl)) (mvT hZ (ww hw 6 rfl)) (by decide) (backOfSH (W := 2) (rmMk l Z a0 hw [] p1 zc h9 n0 (Nat.le_trans Z0 KC.1) O0 S_CS hz) hZ (ww hw 6 rfl) (ww hw 5 rfl) (by decide) (by decide) hEL hC.1) (g := (mkF m 65 #[vi p1, vi p2, vi p3, vi p4, vi (((p3.toUInt32 >>> ((18 : Int32) &&& 31).toUInt32).toInt32) &&& (3 : Int32)), vi (((p4.toUInt32 >>> ((18 : Int32) &&& 31).toUInt32).toInt32) &&& (3 : Int32)), vi qc, vi rc, un, un, un, un] [(.int p1), (.ref b9), (.ref b9)])) rfl (by rw [hml]; rfl) (argsL := [(.int p1)]) (rest := [(.ref b9), (.ref b9)]) (lenOf pd_15 rfl) rfl (by show 2 * 0 + _ ≤ _; exact Nat.le_of_eq rfl) (hb hby at_65) (fun _ _ => ⟨rfl, e9, (by decide : 1 + 6 ≤ _), (by decide : 3 + 12 ≤ _)⟩)
  dsimp only [Pt.U, Pt.locs, Pt.cells, Pt.slots] at X10 l10 y10 z10 st10 hQ10 hS10 gr10 C10
  subst l10 y10 z10
  rw [e9] at gr10
  obtain ⟨Xr10, hSr10, hZr10, hownr10⟩ := rebS hS hk X10 hS10 gr10 hZ hown
  replace hC := hC.trans C10
  replace hZ := hZr10
  replace hown := hownr10
  replace hS := hSr10
  replace hk : T10.heap.size ≤ T10.heap.size := Nat.le_refl _
  replace X10 := Xr10
  obtain ⟨b10_b, t_10, k_10, rfl, N10q, K10, sz_b10_b, E_b_10, F_value_b_10, F_coder_b_10, V_t_10⟩ := hQ10
  have N10 := Fr.app N0 N10q
  have ne_b9_b10_b : b9 ≠ b10_b := Nat.ne_of_lt (Nat.lt_of_lt_of_le A9.lt sz_b10_b)
  have g_b10_b : n0 ≤ b10_b := Nat.le_trans (Nat.le_trans Z0 KC.1) sz_b10_b
  replace sz_b10_b : h0.size ≤ b10_b := Nat.le_trans KC.1 sz_b10_b
  replace A9 := A9.keep K10
  replace F_type_b9 := F_type_b9.keep K10 nin0
  replace F_element_b9 := F_element_b9.keep K10 nin0
  replace F_attributes_b9 := F_attributes_b9.keep K10 nin0
  replace O0 := O0.keep K10 all0
  replace KC := KC.trans K10 all0
  obtain ⟨_, _, ⟨T11, L11, k11, n11⟩, -, X11, hS11, gr11, ⟨Lc11, hQ11, l11, y11, z11, C11⟩, st11⟩ := callSS X10 hx (y := y_16) hown (mvT hZ (ww hw 3 rfl)) (mvT hZ (ww hw 4 rfl)) (mvT hZ (ww hw 5 rfl)) (mvT hZ (ww hw 6 rfl)) (by decide) (backOfSH (W := 3) (rmMk l Z a0 hw [] p2 zc T10.heap n0 (Nat.le_trans Z0 KC.1) O0 S_CS hz) hZ (ww hw 6 rfl) (ww hw 5 rfl) (by decide) (by decide) hEL hC.1) (g := (mkF m 69 #[vi p1, vi p2, vi p3, vi p4, vi (((p3.toUInt32 >>> ((18 : Int32) &&& 31).toUInt32).toInt32) &&& (3 : Int32)), vi (((p4.toUInt32 >>> ((18 : Int32) &&& 31).toUInt32).toInt32) &&& (3 : Int32)), vi qc, vi rc, un, un, un, un] [(.int p2), (.ref b10_b), (.ref b9), (.ref b9)])) rfl (by rw [hml]; rfl) (argsL := [(.int p2)]) (rest := [(.ref b10_b), (.ref b9), (.ref b9)]) (lenOf pd_15 rfl) rfl (by show 2 * 0 + _ ≤ _; exact Nat.le_of_eq rfl) (hb hby at_69) (fun _ _ => ⟨rfl, rfl, (by decide : 7 + 6 ≤ _), (by decide : 15 + 12 ≤ _)⟩)
  dsimp only [Pt.U, Pt.locs, Pt.cells, Pt.slots] at X11 l11 y11 z11 st11 hQ11 hS11 gr11 C11
  subst l11 y11 z11
  obtain ⟨Xr11, hSr11, hZr11, hownr11⟩ := rebS hS hk X11 hS11 gr11 hZ hown
  replace hC := hC.trans C11
  replace hZ := hZr11
  replace hown := hownr11
  replace hS := hSr11
  replace hk : T11.heap.size ≤ T11.heap.size := Nat.le_refl _
  replace X11 := Xr11
  obtain ⟨b11_b, t_11, k_11, rfl, N11q, K11, sz_b11_b, E_b_11, F_value_b_11, F_coder_b_11, V_t_11⟩ := hQ11
  have N11 := Fr.app N10 N11q
  have ne_b9_b11_b : b9 ≠ b11_b := Nat.ne_of_lt (Nat.lt_of_lt_of_le A9.lt sz_b11_b)
  have ne_b10_b_b11_b : b10_b ≠ b11_b := Nat.ne_of_lt (Nat.lt_of_lt_of_le E_b_10.lt sz_b11_b)
  have ne_t_10_b11_b : t_10 ≠ b11_b := Nat.ne_of_lt (Nat.lt_of_lt_of_le V_t_10.lt sz_b11_b)
  have g_b11_b : n0 ≤ b11_b := Nat.le_trans (Nat.le_trans Z0 KC.1) sz_b11_b
  replace sz_b11_b : h0.size ≤ b11_b := Nat.le_trans KC.1 sz_b11_b
  replace A9 := A9.keep K11
  replace F_type_b9 := F_type_b9.keep K11 nin0
  replace F_element_b9 := F_element_b9.keep K11 nin0
  replace F_attributes_b9 := F_attributes_b9.keep K11 nin0
  replace E_b_10 := E_b_10.keep K11
  replace F_value_b_10 := F_value_b_10.keep K11 nin0
  replace F_coder_b_10 := F_coder_b_10.keep K11 nin0
  replace V_t_10 := V_t_10.keep K11 nin0
  replace O0 := O0.keep K11 all0
  replace KC := KC.trans K11 all0
  obtain ⟨_, _, ⟨T12, L12, k12, n12⟩, -, X12, ⟨Lc12, hQ12, l12, y12, z12⟩, st12⟩ := X11.specialBack hx (y := y_6) rfl hown (mvT hZ (ww hw 53 rfl)) (mvT hZ (ww hw 54 rfl)) (mvT hZ (ww hw 55 rfl)) (by decide) (backOf (W := 1) (rmFi l Z a0 hw [] b9 b10_b b11_b T11.heap n0 (Nat.le_trans Z0 KC.1) O0 F_type_b9 F_element_b9 F_attributes_b9 A9 g_b9) hZ (ww hw 55 rfl) (ww hw 2 rfl) (by decide) (by decide)) (g := (mkF m 73 #[vi p1, vi p2, vi p3, vi p4, vi (((p3.toUInt32 >>> ((18 : Int32) &&& 31).toUInt32).toInt32) &&& (3 : Int32)), vi (((p4.toUInt32 >>> ((18 : Int32) &&& 31).toUInt32).toInt32) &&& (3 : Int32)), vi qc, vi rc, un, un, un, un] [.null, (.ref b11_b), (.ref b10_b), (.ref b9), (.ref b9)])) rfl (by rw [hml]; rfl) (Steps.refl _) (a := b9) (argsL := [(.ref b10_b), (.ref b11_b), .null]) (rest := [(.ref b9)]) (lenOf pd_16 rfl) rfl (by show 2 * 0 + _ ≤ _; exact Nat.le_of_eq rfl) (hb hby at_73) (fun _ _ => ⟨rfl, rfl, (by decide : 13 + 0 ≤ _), (by decide : 27 + 0 ≤ _)⟩)
  dsimp only [Pt.U, Pt.locs, Pt.cells, Pt.slots] at X12 l12 y12 z12 st12 hQ12
  subst l12 y12 z12
  obtain ⟨rfl, N12q, K12, F_type_a1_12, F_element_a1_12, F_attributes_a1_12⟩ := hQ12
  have N12 := Fr.app N11 N12q
  have nev_b9_t_10 : b9 ≠ t_10 := Exa.neArv A9 V_t_10 (ww hw 1 rfl)
  have nev_b9_t_11 : b9 ≠ t_11 := Exa.neArv A9 V_t_11 (ww hw 1 rfl)
  replace hk := Nat.le_trans hk K12.1
  replace hC := hC.trans (CHr.keep K12 (sfS (Safe.exa (EL := EL) hZ.alike A9 (by decide) (by decide)) sf0) hC.1)
  replace A9 := A9.keep K12
  replace E_b_10 := E_b_10.keep K12
  replace F_value_b_10 := F_value_b_10.keep K12 (ninS (Ne.symm ne_b9_b10_b) nin0)
  replace F_coder_b_10 := F_coder_b_10.keep K12 (ninS (Ne.symm ne_b9_b10_b) nin0)
  replace V_t_10 := V_t_10.keep K12 (ninS (Ne.symm nev_b9_t_10) nin0)
  replace E_b_11 := E_b_11.keep K12
  replace F_value_b_11 := F_value_b_11.keep K12 (ninS (Ne.symm ne_b9_b11_b) nin0)
  replace F_coder_b_11 := F_coder_b_11.keep K12 (ninS (Ne.symm ne_b9_b11_b) nin0)
  replace V_t_11 := V_t_11.keep K12 (ninS (Ne.symm nev_b9_t_11) nin0)
  replace O0 := O0.keep K12 (allS g_b9 all0)
  replace KC := KC.trans K12 (allS (Or.inr sz_b9) all0)
  have pre13 : ∀ t, Steps p.tables e below (T12.setTop (mkF m 81 #[vi p1, vi p2, vi p3, vi p4, vi (((p3.toUInt32 >>> ((18 : Int32) &&& 31).toUInt32).toInt32) &&& (3 : Int32)), vi (((p4.toUInt32 >>> ((18 : Int32) &&& 31).toUInt32).toInt32) &&& (3 : Int32)), vi qc, vi rc, vr b9, un, un, un] [(.int (3 : Int32)), (.int (((p3.toUInt32 >>> ((18 : Int32) &&& 31).toUInt32).toInt32) &&& (3 : Int32)))])) t → Steps p.tables e below (s₁.setTop (entryFrame m #[(.int p1), (.int p2), (.int p3), (.int p4)] maxLocals)) t := by
    intro t kt
    refine pre6 t ?_
    show SS p e below m s₁ 58 #[vi p1, vi p2, vi p3, vi p4, vi (((p3.toUInt32 >>> ((18 : Int32) &&& 31).toUInt32).toInt32) &&& (3 : Int32)), vi (((p4.toUInt32 >>> ((18 : Int32) &&& 31).toUInt32).toInt32) &&& (3 : Int32)), vi qc, un, un, un, un, un] [(.int rc)] _
    refine XS.istore X0.here hx rfl (hb hby at_58) rfl (l' := #[vi p1, vi p2, vi p3, vi p4, vi (((p3.toUInt32 >>> ((18 : Int32) &&& 31).toUInt32).toInt32) &&& (3 : Int32)), vi (((p4.toUInt32 >>> ((18 : Int32) &&& 31).toUInt32).toInt32) &&& (3 : Int32)), vi qc, vi rc, un, un, un, un]) rfl ?_
    show SS p e below m s₁ 60 #[vi p1, vi p2, vi p3, vi p4, vi (((p3.toUInt32 >>> ((18 : Int32) &&& 31).toUInt32).toInt32) &&& (3 : Int32)), vi (((p4.toUInt32 >>> ((18 : Int32) &&& 31).toUInt32).toInt32) &&& (3 : Int32)), vi qc, vi rc, un, un, un, un] [] _
    refine st9 _ ?_
    show SS p e below m T9 63 #[vi p1, vi p2, vi p3, vi p4, vi (((p3.toUInt32 >>> ((18 : Int32) &&& 31).toUInt32).toInt32) &&& (3 : Int32)), vi (((p4.toUInt32 >>> ((18 : Int32) &&& 31).toUInt32).toInt32) &&& (3 : Int32)), vi qc, vi rc, un, un, un, un] [(.ref b9)] _
    refine XS.dup X9.here hx rfl (hb hby at_63) rfl rfl ?_
    show SS p e below m T9 64 #[vi p1, vi p2, vi p3, vi p4, vi (((p3.toUInt32 >>> ((18 : Int32) &&& 31).toUInt32).toInt32) &&& (3 : Int32)), vi (((p4.toUInt32 >>> ((18 : Int32) &&& 31).toUInt32).toInt32) &&& (3 : Int32)), vi qc, vi rc, un, un, un, un] [(.ref b9), (.ref b9)] _
    refine XS.iloadN X9.here hx rfl (hb hby at_64) rfl ?_
    show SS p e below m T9 65 #[vi p1, vi p2, vi p3, vi p4, vi (((p3.toUInt32 >>> ((18 : Int32) &&& 31).toUInt32).toInt32) &&& (3 : Int32)), vi (((p4.toUInt32 >>> ((18 : Int32) &&& 31).toUInt32).toInt32) &&& (3 : Int32)), vi qc, vi rc, un, un, un, un] [(.int p1), (.ref b9), (.ref b9)] _
    refine st10.trans ?_
    show SS p e below m T10 68 #[vi p1, vi p2, vi p3, vi p4, vi (((p3.toUInt32 >>> ((18 : Int32) &&& 31).toUInt32).toInt32) &&& (3 : Int32)), vi (((p4.toUInt32 >>> ((18 : Int32) &&& 31).toUInt32).toInt32) &&& (3 : Int32)), vi qc, vi rc, un, un, un, un] [(.ref b10_b), (.ref b9), (.ref b9)] _
    refine XS.iloadN X10.here hx rfl (hb hby at_68) rfl ?_
    show SS p e below m T10 69 #[vi p1, vi p2, vi p3, vi p4, vi (((p3.toUInt32 >>> ((18 : Int32) &&& 31).toUInt32).toInt32) &&& (3 : Int32)), vi (((p4.toUInt32 >>> ((18 : Int32) &&& 31).toUInt32).toInt32) &&& (3 : Int32)), vi qc, vi rc, un, un, un, un] [(.int p2), (.ref b10_b), (.ref b9), (.ref b9)] _
    refine st11.trans ?_
    show SS p e below m T11 72 #[vi p1, vi p2, vi p3, vi p4, vi (((p3.toUInt32 >>> ((18 : Int32) &&& 31).toUInt32).toInt32) &&& (3 : Int32)), vi (((p4.toUInt32 >>> ((18 : Int32) &&& 31).toUInt32).toInt32) &&& (3 : Int32)), vi qc, vi rc, un, un, un, un] [(.ref b11_b), (.ref b10_b), (.ref b9), (.ref b9)] _
    refine XS.aconstNull X11.here hx rfl (hb hby at_72) ?_
    show SS p e below m T11 73 #[vi p1, vi p2, vi p3, vi p4, vi (((p3.toUInt32 >>> ((18 : Int32) &&& 31).toUInt32).toInt32) &&& (3 : Int32)), vi (((p4.toUInt32 >>> ((18 : Int32) &&& 31).toUInt32).toInt32) &&& (3 : Int32)), vi qc, vi rc, un, un, un, un] [.null, (.ref b11_b), (.ref b10_b), (.ref b9), (.ref b9)] _
    refine st12.trans ?_
    show SS p e below m T12 76 #[vi p1, vi p2, vi p3, vi p4, vi (((p3.toUInt32 >>> ((18 : Int32) &&& 31).toUInt32).toInt32) &&& (3 : Int32)), vi (((p4.toUInt32 >>> ((18 : Int32) &&& 31).toUInt32).toInt32) &&& (3 : Int32)), vi qc, vi rc, un, un, un, un] [(.ref b9)] _
    refine XS.astore X12.here hx rfl (hb hby at_76) rfl rfl (l' := #[vi p1, vi p2, vi p3, vi p4, vi (((p3.toUInt32 >>> ((18 : Int32) &&& 31).toUInt32).toInt32) &&& (3 : Int32)), vi (((p4.toUInt32 >>> ((18 : Int32) &&& 31).toUInt32).toInt32) &&& (3 : Int32)), vi qc, vi rc, vr b9, un, un, un]) rfl ?_
    show SS p e below m T12 78 #[vi p1, vi p2, vi p3, vi p4, vi (((p3.toUInt32 >>> ((18 : Int32) &&& 31).toUInt32).toInt32) &&& (3 : Int32)), vi (((p4.toUInt32 >>> ((18 : Int32) &&& 31).toUInt32).toInt32) &&& (3 : Int32)), vi qc, vi rc, vr b9, un, un, un] [] _
    refine XS.iload X12.here hx rfl (hb hby at_78) rfl ?_
    show SS p e below m T12 80 #[vi p1, vi p2, vi p3, vi p4, vi (((p3.toUInt32 >>> ((18 : Int32) &&& 31).toUInt32).toInt32) &&& (3 : Int32)), vi (((p4.toUInt32 >>> ((18 : Int32) &&& 31).toUInt32).toInt32) &&& (3 : Int32)), vi qc, vi rc, vr b9, un, un, un] [(.int (((p3.toUInt32 >>> ((18 : Int32) &&& 31).toUInt32).toInt32) &&& (3 : Int32)))] _
    refine XS.iconst X12.here hx rfl (hb hby at_80) ?_
    exact kt
  by_cases hc81_14 : (((p3.toUInt32 >>> ((18 : Int32) &&& 31).toUInt32).toInt32) &&& (3 : Int32)) = (3 : Int32)
  · have pre15 : ∀ t, Steps p.tables e below (T12.setTop (mkF m 98 #[vi p1, vi p2, vi p3, vi p4, vi (((p3.toUInt32 >>> ((18 : Int32) &&& 31).toUInt32).toInt32) &&& (3 : Int32)), vi (((p4.toUInt32 >>> ((18 : Int32) &&& 31).toUInt32).toInt32) &&& (3 : Int32)), vi qc, vi rc, vr b9, vN, un, un] [(.int (3 : Int32)), (.int (((p4.toUInt32 >>> ((18 : Int32) &&& 31).toUInt32).toInt32) &&& (3 : Int32)))])) t → Steps p.tables e below (s₁.setTop (entryFrame m #[(.int p1), (.int p2), (.int p3), (.int p4)] maxLocals)) t := by
      intro t kt
      refine pre13 t ?_
      show SS p e below m T12 81 #[vi p1, vi p2, vi p3, vi p4, vi (((p3.toUInt32 >>> ((18 : Int32) &&& 31).toUInt32).toInt32) &&& (3 : Int32)), vi (((p4.toUInt32 >>> ((18 : Int32) &&& 31).toUInt32).toInt32) &&& (3 : Int32)), vi qc, vi rc, vr b9, un, un, un] [(.int (3 : Int32)), (.int (((p3.toUInt32 >>> ((18 : Int32) &&& 31).toUInt32).toInt32) &&& (3 : Int32)))] _
      refine XS.icmpNo X12.here hx rfl (hb hby at_81) rfl (teq hc81_14).2 ?_
      show SS p e below m T12 84 #[vi p1, vi p2, vi p3, vi p4, vi (((p3.toUInt32 >>> ((18 : Int32) &&& 31).toUInt32).toInt32) &&& (3 : Int32)), vi (((p4.toUInt32 >>> ((18 : Int32) &&& 31).toUInt32).toInt32) &&& (3 : Int32)), vi qc, vi rc, vr b9, un, un, un] [] _
      refine XS.aconstNull X12.here hx rfl (hb hby at_84) ?_
      show SS p e below m T12 85 #[vi p1, vi p2, vi p3, vi p4, vi (((p3.toUInt32 >>> ((18 : Int32) &&& 31).toUInt32).toInt32) &&& (3 : Int32)), vi (((p4.toUInt32 >>> ((18 : Int32) &&& 31).toUInt32).toInt32) &&& (3 : Int32)), vi qc, vi rc, vr b9, un, un, un] [.null] _
      refine XS.goto X12.here hx rfl (pc0 := 85) (pc' := 93) rfl (hb hby at_85) (by decide) (by decide) ?_
      show SS p e below m T12 93 #[vi p1, vi p2, vi p3, vi p4, vi (((p3.toUInt32 >>> ((18 : Int32) &&& 31).toUInt32).toInt32) &&& (3 : Int32)), vi (((p4.toUInt32 >>> ((18 : Int32) &&& 31).toUInt32).toInt32) &&& (3 : Int32)), vi qc, vi rc, vr b9, un, un, un] [.null] _
      refine XS.astore X12.here hx rfl (hb hby at_93) rfl rfl (l' := #[vi p1, vi p2, vi p3, vi p4, vi (((p3.toUInt32 >>> ((18 : Int32) &&& 31).toUInt32).toInt32) &&& (3 : Int32)), vi (((p4.toUInt32 >>> ((18 : Int32) &&& 31).toUInt32).toInt32) &&& (3 : Int32)), vi qc, vi rc, vr b9, vN, un, un]) rfl ?_
      show SS p e below m T12 95 #[vi p1, vi p2, vi p3, vi p4, vi (((p3.toUInt32 >>> ((18 : Int32) &&& 31).toUInt32).toInt32) &&& (3 : Int32)), vi (((p4.toUInt32 >>> ((18 : Int32) &&& 31).toUInt32).toInt32) &&& (3 : Int32)), vi qc, vi rc, vr b9, vN, un, un] [] _
      refine XS.iload X12.here hx rfl (hb hby at_95) rfl ?_
      show SS p e below m T12 97 #[vi p1, vi p2, vi p3, vi p4, vi (((p3.toUInt32 >>> ((18 : Int32) &&& 31).toUInt32).toInt32) &&& (3 : Int32)), vi (((p4.toUInt32 >>> ((18 : Int32) &&& 31).toUInt32).toInt32) &&& (3 : Int32)), vi qc, vi rc, vr b9, vN, un, un] [(.int (((p4.toUInt32 >>> ((18 : Int32) &&& 31).toUInt32).toInt32) &&& (3 : Int32)))] _
      refine XS.iconst X12.here hx rfl (hb hby at_97) ?_
      exact kt
    by_cases hc98_16 : (((p4.toUInt32 >>> ((18 : Int32) &&& 31).toUInt32).toInt32) &&& (3 : Int32)) = (3 : Int32)
    · obtain ⟨cq17, kq17, q17a, q17b, q17c⟩ := isOf hZ rfl A9
      obtain ⟨_, _, ⟨T17, L17, k17, n17⟩, -, X17, ⟨Lc17, hQ17, l17, y17, z17⟩, st17⟩ := X12.virtualBack hx (y := y_19) (z := y_19) hown (mvT hZ (ww hw 71 rfl)) (mvT hZ (ww hw 72 rfl)) (notFace_of_selects (args := #[]) (mvT hZ (ww hw 74 rfl))) (mvT hZ (ww hw 74 rfl)) (mvT hZ (ww hw 73 rfl)) (by decide) (backOf (W := 0) (rmisnn l Z a0 hw [] b9 b10_b T12.heap n0 (Nat.le_trans Z0 KC.1) O0 F_type_a1_12 E_b_10) hZ (ww hw 75 rfl) (ww hw 2 rfl) (by decide) (by decide)) q17a q17c (g := (mkF m 155 #[vi p1, vi p2, vi p3, vi p4, vi (((p3.toUInt32 >>> ((18 : Int32) &&& 31).toUInt32).toInt32) &&& (3 : Int32)), vi (((p4.toUInt32 >>> ((18 : Int32) &&& 31).toUInt32).toInt32) &&& (3 : Int32)), vi qc, vi rc, vr b9, vN, vN, vi (0 : Int32)] [.null, .null, (.ref b9)])) rfl (by rw [hml]; rfl) (Steps.refl _) (argsL := [.null, .null]) (rest := []) (lenOf pd_17 rfl) rfl (by show 2 * 0 + _ ≤ _; exact Nat.le_of_eq rfl) (hb hby at_155) (fun _ _ => ⟨rfl, rfl, (by decide : 13 + 0 ≤ _), (by decide : 27 + 0 ≤ _)⟩)
      dsimp only [Pt.U, Pt.locs, Pt.cells, Pt.slots] at X17 l17 y17 z17 st17 hQ17
      subst l17 y17 z17
      obtain ⟨rfl, N17q, e17⟩ := hQ17
      have N17 := Fr.app N12 N17q
      obtain ⟨fs, hr, hrun, hended, hRE⟩ := X17.leaveW hS (by rw [e17]; exact hk) (v := some (.int (1 : Int32))) (fun h => by rw [Bd.returns] at h; cases h)
      refine ⟨_, _, pre15 _ ?_, hrun, hended, _, _, rfl, ?_, ?_, hRE.1, hRE.2.1, hRE.2.2.1, hRE.2.2.2.mono (by decide) (by decide)⟩
      · show SS p e below m T12 98 #[vi p1, vi p2, vi p3, vi p4, vi (((p3.toUInt32 >>> ((18 : Int32) &&& 31).toUInt32).toInt32) &&& (3 : Int32)), vi (((p4.toUInt32 >>> ((18 : Int32) &&& 31).toUInt32).toInt32) &&& (3 : Int32)), vi qc, vi rc, vr b9, vN, un, un] [(.int (3 : Int32)), (.int (((p4.toUInt32 >>> ((18 : Int32) &&& 31).toUInt32).toInt32) &&& (3 : Int32)))] _
        refine XS.icmpNo X12.here hx rfl (hb hby at_98) rfl (teq hc98_16).2 ?_
        show SS p e below m T12 101 #[vi p1, vi p2, vi p3, vi p4, vi (((p3.toUInt32 >>> ((18 : Int32) &&& 31).toUInt32).toInt32) &&& (3 : Int32)), vi (((p4.toUInt32 >>> ((18 : Int32) &&& 31).toUInt32).toInt32) &&& (3 : Int32)), vi qc, vi rc, vr b9, vN, un, un] [] _
        refine XS.aconstNull X12.here hx rfl (hb hby at_101) ?_
        show SS p e below m T12 102 #[vi p1, vi p2, vi p3, vi p4, vi (((p3.toUInt32 >>> ((18 : Int32) &&& 31).toUInt32).toInt32) &&& (3 : Int32)), vi (((p4.toUInt32 >>> ((18 : Int32) &&& 31).toUInt32).toInt32) &&& (3 : Int32)), vi qc, vi rc, vr b9, vN, un, un] [.null] _
        refine XS.goto X12.here hx rfl (pc0 := 102) (pc' := 110) rfl (hb hby at_102) (by decide) (by decide) ?_
        show SS p e below m T12 110 #[vi p1, vi p2, vi p3, vi p4, vi (((p3.toUInt32 >>> ((18 : Int32) &&& 31).toUInt32).toInt32) &&& (3 : Int32)), vi (((p4.toUInt32 >>> ((18 : Int32) &&& 31).toUInt32).toInt32) &&& (3 : Int32)), vi qc, vi rc, vr b9, vN, un, un] [.null] _
        refine XS.astore X12.here hx rfl (hb hby at_110) rfl rfl (l' := #[vi p1, vi p2, vi p3, vi p4, vi (((p3.toUInt32 >>> ((18 : Int32) &&& 31).toUInt32).toInt32) &&& (3 : Int32)), vi (((p4.toUInt32 >>> ((18 : Int32) &&& 31).toUInt32).toInt32) &&& (3 : Int32)), vi qc, vi rc, vr b9, vN, vN, un]) rfl ?_
        show SS p e below m T12 112 #[vi p1, vi p2, vi p3, vi p4, vi (((p3.toUInt32 >>> ((18 : Int32) &&& 31).toUInt32).toInt32) &&& (3 : Int32)), vi (((p4.toUInt32 >>> ((18 : Int32) &&& 31).toUInt32).toInt32) &&& (3 : Int32)), vi qc, vi rc, vr b9, vN, vN, un] [] _
        refine XS.iload X12.here hx rfl (hb hby at_112) rfl ?_
        show SS p e below m T12 114 #[vi p1, vi p2, vi p3, vi p4, vi (((p3.toUInt32 >>> ((18 : Int32) &&& 31).toUInt32).toInt32) &&& (3 : Int32)), vi (((p4.toUInt32 >>> ((18 : Int32) &&& 31).toUInt32).toInt32) &&& (3 : Int32)), vi qc, vi rc, vr b9, vN, vN, un] [(.int (((p3.toUInt32 >>> ((18 : Int32) &&& 31).toUInt32).toInt32) &&& (3 : Int32)))] _
        refine XS.iconst X12.here hx rfl (hb hby at_114) ?_
        show SS p e below m T12 115 #[vi p1, vi p2, vi p3, vi p4, vi (((p3.toUInt32 >>> ((18 : Int32) &&& 31).toUInt32).toInt32) &&& (3 : Int32)), vi (((p4.toUInt32 >>> ((18 : Int32) &&& 31).toUInt32).toInt32) &&& (3 : Int32)), vi qc, vi rc, vr b9, vN, vN, un] [(.int (3 : Int32)), (.int (((p3.toUInt32 >>> ((18 : Int32) &&& 31).toUInt32).toInt32) &&& (3 : Int32)))] _
        refine XS.icmpYes X12.here hx rfl (pc0 := 115) (pc' := 146) rfl (hb hby at_115) rfl (teq hc81_14).1 (by decide) (by decide) ?_
        show SS p e below m T12 146 #[vi p1, vi p2, vi p3, vi p4, vi (((p3.toUInt32 >>> ((18 : Int32) &&& 31).toUInt32).toInt32) &&& (3 : Int32)), vi (((p4.toUInt32 >>> ((18 : Int32) &&& 31).toUInt32).toInt32) &&& (3 : Int32)), vi qc, vi rc, vr b9, vN, vN, un] [] _
        refine XS.iconst X12.here hx rfl (hb hby at_146) ?_
        show SS p e below m T12 147 #[vi p1, vi p2, vi p3, vi p4, vi (((p3.toUInt32 >>> ((18 : Int32) &&& 31).toUInt32).toInt32) &&& (3 : Int32)), vi (((p4.toUInt32 >>> ((18 : Int32) &&& 31).toUInt32).toInt32) &&& (3 : Int32)), vi qc, vi rc, vr b9, vN, vN, un] [(.int (0 : Int32))] _
        refine XS.istore X12.here hx rfl (hb hby at_147) rfl (l' := #[vi p1, vi p2, vi p3, vi p4, vi (((p3.toUInt32 >>> ((18 : Int32) &&& 31).toUInt32).toInt32) &&& (3 : Int32)), vi (((p4.toUInt32 >>> ((18 : Int32) &&& 31).toUInt32).toInt32) &&& (3 : Int32)), vi qc, vi rc, vr b9, vN, vN, vi (0 : Int32)]) rfl ?_
        show SS p e below m T12 149 #[vi p1, vi p2, vi p3, vi p4, vi (((p3.toUInt32 >>> ((18 : Int32) &&& 31).toUInt32).toInt32) &&& (3 : Int32)), vi (((p4.toUInt32 >>> ((18 : Int32) &&& 31).toUInt32).toInt32) &&& (3 : Int32)), vi qc, vi rc, vr b9, vN, vN, vi (0 : Int32)] [] _
        refine XS.aload X12.here hx rfl (hb hby at_149) rfl rfl ?_
        show SS p e below m T12 151 #[vi p1, vi p2, vi p3, vi p4, vi (((p3.toUInt32 >>> ((18 : Int32) &&& 31).toUInt32).toInt32) &&& (3 : Int32)), vi (((p4.toUInt32 >>> ((18 : Int32) &&& 31).toUInt32).toInt32) &&& (3 : Int32)), vi qc, vi rc, vr b9, vN, vN, vi (0 : Int32)] [(.ref b9)] _
        refine XS.aload X12.here hx rfl (hb hby at_151) rfl rfl ?_
        show SS p e below m T12 153 #[vi p1, vi p2, vi p3, vi p4, vi (((p3.toUInt32 >>> ((18 : Int32) &&& 31).toUInt32).toInt32) &&& (3 : Int32)), vi (((p4.toUInt32 >>> ((18 : Int32) &&& 31).toUInt32).toInt32) &&& (3 : Int32)), vi qc, vi rc, vr b9, vN, vN, vi (0 : Int32)] [.null, (.ref b9)] _
        refine XS.aload X12.here hx rfl (hb hby at_153) rfl rfl ?_
        show SS p e below m T12 155 #[vi p1, vi p2, vi p3, vi p4, vi (((p3.toUInt32 >>> ((18 : Int32) &&& 31).toUInt32).toInt32) &&& (3 : Int32)), vi (((p4.toUInt32 >>> ((18 : Int32) &&& 31).toUInt32).toInt32) &&& (3 : Int32)), vi qc, vi rc, vr b9, vN, vN, vi (0 : Int32)] [.null, .null, (.ref b9)] _
        refine st17.trans ?_
        show SS p e below m T17 158 #[vi p1, vi p2, vi p3, vi p4, vi (((p3.toUInt32 >>> ((18 : Int32) &&& 31).toUInt32).toInt32) &&& (3 : Int32)), vi (((p4.toUInt32 >>> ((18 : Int32) &&& 31).toUInt32).toInt32) &&& (3 : Int32)), vi qc, vi rc, vr b9, vN, vN, vi (0 : Int32)] [(.int (0 : Int32))] _
        refine XS.iload X17.here hx rfl (hb hby at_158) rfl ?_
        show SS p e below m T17 160 #[vi p1, vi p2, vi p3, vi p4, vi (((p3.toUInt32 >>> ((18 : Int32) &&& 31).toUInt32).toInt32) &&& (3 : Int32)), vi (((p4.toUInt32 >>> ((18 : Int32) &&& 31).toUInt32).toInt32) &&& (3 : Int32)), vi qc, vi rc, vr b9, vN, vN, vi (0 : Int32)] [(.int (0 : Int32)), (.int (0 : Int32))] _
        refine XS.icmpNo X17.here hx rfl (hb hby at_160) rfl (teq (by decide)).2 ?_
        show SS p e below m T17 163 #[vi p1, vi p2, vi p3, vi p4, vi (((p3.toUInt32 >>> ((18 : Int32) &&& 31).toUInt32).toInt32) &&& (3 : Int32)), vi (((p4.toUInt32 >>> ((18 : Int32) &&& 31).toUInt32).toInt32) &&& (3 : Int32)), vi qc, vi rc, vr b9, vN, vN, vi (0 : Int32)] [] _
        refine XS.iconst X17.here hx rfl (hb hby at_163) ?_
        show SS p e below m T17 164 #[vi p1, vi p2, vi p3, vi p4, vi (((p3.toUInt32 >>> ((18 : Int32) &&& 31).toUInt32).toInt32) &&& (3 : Int32)), vi (((p4.toUInt32 >>> ((18 : Int32) &&& 31).toUInt32).toInt32) &&& (3 : Int32)), vi qc, vi rc, vr b9, vN, vN, vi (0 : Int32)] [(.int (1 : Int32))] _
        refine XS.goto X17.here hx rfl (pc0 := 164) (pc' := 168) rfl (hb hby at_164) (by decide) (by decide) ?_
        show SS p e below m T17 168 #[vi p1, vi p2, vi p3, vi p4, vi (((p3.toUInt32 >>> ((18 : Int32) &&& 31).toUInt32).toInt32) &&& (3 : Int32)), vi (((p4.toUInt32 >>> ((18 : Int32) &&& 31).toUInt32).toInt32) &&& (3 : Int32)), vi qc, vi rc, vr b9, vN, vN, vi (0 : Int32)] [(.int (1 : Int32))] _
        exact retN X17 hx (t := .boolean) Bd.returns (by simp) (hb hby at_168) hr
      · show Q_rm0 Z p1 p2 p3 p4 zc h0 n0 _ T17.heap _
        rw [e17]
        exact ⟨rfl, N17, KC⟩
      · show CHr Z EL s.vm s.heap T17.vm T17.heap
        rw [hh, e17]
        exact hC.trans (CHv.at X17 hZ hEL hC.1)
    · obtain ⟨_, _, ⟨T18, L18, k18, n18⟩, -, X18, hS18, gr18, ⟨Lc18, hQ18, l18, y18, z18, C18⟩, st18⟩ := callSS X12 hx (y := y_16) hown (mvT hZ (ww hw 3 rfl)) (mvT hZ (ww hw 4 rfl)) (mvT hZ (ww hw 5 rfl)) (mvT hZ (ww hw 6 rfl)) (by decide) (backOfSH (W := 0) (rmMk l Z a0 hw [] rc zc T12.heap n0 (Nat.le_trans Z0 KC.1) O0 S_CS hz) hZ (ww hw 6 rfl) (ww hw 5 rfl) (by decide) (by decide) hEL hC.1) (g := (mkF m 107 #[vi p1, vi p2, vi p3, vi p4, vi (((p3.toUInt32 >>> ((18 : Int32) &&& 31).toUInt32).toInt32) &&& (3 : Int32)), vi (((p4.toUInt32 >>> ((18 : Int32) &&& 31).toUInt32).toInt32) &&& (3 : Int32)), vi qc, vi rc, vr b9, vN, un, un] [(.int rc)])) rfl (by rw [hml]; rfl) (argsL := [(.int rc)]) (rest := []) (lenOf pd_15 rfl) rfl (by show 2 * 0 + _ ≤ _; exact Nat.le_of_eq rfl) (hb hby at_107) (fun _ _ => ⟨rfl, rfl, (by decide : 13 + 6 ≤ _), (by decide : 27 + 12 ≤ _)⟩)
      dsimp only [Pt.U, Pt.locs, Pt.cells, Pt.slots] at X18 l18 y18 z18 st18 hQ18 hS18 gr18 C18
      subst l18 y18 z18
      obtain ⟨Xr18, hSr18, hZr18, hownr18⟩ := rebS hS hk X18 hS18 gr18 hZ hown
      replace hC := hC.trans C18
      replace hZ := hZr18
      replace hown := hownr18
      replace hS := hSr18
      replace hk : T18.heap.size ≤ T18.heap.size := Nat.le_refl _
      replace X18 := Xr18
      obtain ⟨b18_b, t_18, k_18, rfl, N18q, K18, sz_b18_b, E_b_18, F_value_b_18, F_coder_b_18, V_t_18⟩ := hQ18
      have N18 := Fr.app N12 N18q
      have ne_b9_b18_b : b9 ≠ b18_b := Nat.ne_of_lt (Nat.lt_of_lt_of_le A9.lt sz_b18_b)
      have ne_b10_b_b18_b : b10_b ≠ b18_b := Nat.ne_of_lt (Nat.lt_of_lt_of_le E_b_10.lt sz_b18_b)
      have ne_t_10_b18_b : t_10 ≠ b18_b := Nat.ne_of_lt (Nat.lt_of_lt_of_le V_t_10.lt sz_b18_b)
      have ne_b11_b_b18_b : b11_b ≠ b18_b := Nat.ne_of_lt (Nat.lt_of_lt_of_le E_b_11.lt sz_b18_b)
      have ne_t_11_b18_b : t_11 ≠ b18_b := Nat.ne_of_lt (Nat.lt_of_lt_of_le V_t_11.lt sz_b18_b)
      have g_b18_b : n0 ≤ b18_b := Nat.le_trans (Nat.le_trans Z0 KC.1) sz_b18_b
      replace sz_b18_b : h0.size ≤ b18_b := Nat.le_trans KC.1 sz_b18_b
      replace A9 := A9.keep K18
      replace E_b_10 := E_b_10.keep K18
      replace F_value_b_10 := F_value_b_10.keep K18 nin0
      replace F_coder_b_10 := F_coder_b_10.keep K18 nin0
      replace V_t_10 := V_t_10.keep K18 nin0
      replace E_b_11 := E_b_11.keep K18
      replace F_value_b_11 := F_value_b_11.keep K18 nin0
      replace F_coder_b_11 := F_coder_b_11.keep K18 nin0
      replace V_t_11 := V_t_11.keep K18 nin0
      replace F_type_a1_12 := F_type_a1_12.keep K18 nin0
      replace F_element_a1_12 := F_element_a1_12.keep K18 nin0
      replace F_attributes_a1_12 := F_attributes_a1_12.keep K18 nin0
      replace O0 := O0.keep K18 all0
      replace KC := KC.trans K18 all0
      obtain ⟨cq19, kq19, q19a, q19b, q19c⟩ := isOf hZ rfl A9
      obtain ⟨_, _, ⟨T19, L19, k19, n19⟩, -, X19, ⟨Lc19, hQ19, l19, y19, z19⟩, st19⟩ := X18.virtualBack hx (y := y_19) (z := y_19) hown (mvT hZ (ww hw 71 rfl)) (mvT hZ (ww hw 72 rfl)) (notFace_of_selects (args := #[]) (mvT hZ (ww hw 74 rfl))) (mvT hZ (ww hw 74 rfl)) (mvT hZ (ww hw 73 rfl)) (by decide) (backOf (W := 0) (rmisn l Z a0 hw [] b9 b18_b b10_b T18.heap n0 (Nat.le_trans Z0 KC.1) O0 F_type_a1_12 E_b_10) hZ (ww hw 75 rfl) (ww hw 2 rfl) (by decide) (by decide)) q19a q19c (g := (mkF m 155 #[vi p1, vi p2, vi p3, vi p4, vi (((p3.toUInt32 >>> ((18 : Int32) &&& 31).toUInt32).toInt32) &&& (3 : Int32)), vi (((p4.toUInt32 >>> ((18 : Int32) &&& 31).toUInt32).toInt32) &&& (3 : Int32)), vi qc, vi rc, vr b9, vN, vr b18_b, vi (0 : Int32)] [(.ref b18_b), .null, (.ref b9)])) rfl (by rw [hml]; rfl) (Steps.refl _) (argsL := [.null, (.ref b18_b)]) (rest := []) (lenOf pd_17 rfl) rfl (by show 2 * 0 + _ ≤ _; exact Nat.le_of_eq rfl) (hb hby at_155) (fun _ _ => ⟨rfl, rfl, (by decide : 19 + 0 ≤ _), (by decide : 39 + 0 ≤ _)⟩)
      dsimp only [Pt.U, Pt.locs, Pt.cells, Pt.slots] at X19 l19 y19 z19 st19 hQ19
      subst l19 y19 z19
      obtain ⟨rfl, N19q, e19⟩ := hQ19
      have N19 := Fr.app N18 N19q
      obtain ⟨fs, hr, hrun, hended, hRE⟩ := X19.leaveW hS (by rw [e19]; exact hk) (v := some (.int (1 : Int32))) (fun h => by rw [Bd.returns] at h; cases h)
      refine ⟨_, _, pre15 _ ?_, hrun, hended, _, _, rfl, ?_, ?_, hRE.1, hRE.2.1, hRE.2.2.1, hRE.2.2.2.mono (by decide) (by decide)⟩
      · show SS p e below m T12 98 #[vi p1, vi p2, vi p3, vi p4, vi (((p3.toUInt32 >>> ((18 : Int32) &&& 31).toUInt32).toInt32) &&& (3 : Int32)), vi (((p4.toUInt32 >>> ((18 : Int32) &&& 31).toUInt32).toInt32) &&& (3 : Int32)), vi qc, vi rc, vr b9, vN, un, un] [(.int (3 : Int32)), (.int (((p4.toUInt32 >>> ((18 : Int32) &&& 31).toUInt32).toInt32) &&& (3 : Int32)))] _
        refine XS.icmpYes X12.here hx rfl (pc0 := 98) (pc' := 105) rfl (hb hby at_98) rfl (feq hc98_16).2 (by decide) (by decide) ?_
        show SS p e below m T12 105 #[vi p1, vi p2, vi p3, vi p4, vi (((p3.toUInt32 >>> ((18 : Int32) &&& 31).toUInt32).toInt32) &&& (3 : Int32)), vi (((p4.toUInt32 >>> ((18 : Int32) &&& 31).toUInt32).toInt32) &&& (3 : Int32)), vi qc, vi rc, vr b9, vN, un, un] [] _
        refine XS.iload X12.here hx rfl (hb hby at_105) rfl ?_
        show SS p e below m T12 107 #[vi p1, vi p2, vi p3, vi p4, vi (((p3.toUInt32 >>> ((18 : Int32) &&& 31).toUInt32).toInt32) &&& (3 : Int32)), vi (((p4.toUInt32 >>> ((18 : Int32) &&& 31).toUInt32).toInt32) &&& (3 : Int32)), vi qc, vi rc, vr b9, vN, un, un] [(.int rc)] _
        refine st18.trans ?_
        show SS p e below m T18 110 #[vi p1, vi p2, vi p3, vi p4, vi (((p3.toUInt32 >>> ((18 : Int32) &&& 31).toUInt32).toInt32) &&& (3 : Int32)), vi (((p4.toUInt32 >>> ((18 : Int32) &&& 31).toUInt32).toInt32) &&& (3 : Int32)), vi qc, vi rc, vr b9, vN, un, un] [(.ref b18_b)] _
        refine XS.astore X18.here hx rfl (hb hby at_110) rfl rfl (l' := #[vi p1, vi p2, vi p3, vi p4, vi (((p3.toUInt32 >>> ((18 : Int32) &&& 31).toUInt32).toInt32) &&& (3 : Int32)), vi (((p4.toUInt32 >>> ((18 : Int32) &&& 31).toUInt32).toInt32) &&& (3 : Int32)), vi qc, vi rc, vr b9, vN, vr b18_b, un]) rfl ?_
        show SS p e below m T18 112 #[vi p1, vi p2, vi p3, vi p4, vi (((p3.toUInt32 >>> ((18 : Int32) &&& 31).toUInt32).toInt32) &&& (3 : Int32)), vi (((p4.toUInt32 >>> ((18 : Int32) &&& 31).toUInt32).toInt32) &&& (3 : Int32)), vi qc, vi rc, vr b9, vN, vr b18_b, un] [] _
        refine XS.iload X18.here hx rfl (hb hby at_112) rfl ?_
        show SS p e below m T18 114 #[vi p1, vi p2, vi p3, vi p4, vi (((p3.toUInt32 >>> ((18 : Int32) &&& 31).toUInt32).toInt32) &&& (3 : Int32)), vi (((p4.toUInt32 >>> ((18 : Int32) &&& 31).toUInt32).toInt32) &&& (3 : Int32)), vi qc, vi rc, vr b9, vN, vr b18_b, un] [(.int (((p3.toUInt32 >>> ((18 : Int32) &&& 31).toUInt32).toInt32) &&& (3 : Int32)))] _
        refine XS.iconst X18.here hx rfl (hb hby at_114) ?_
        show SS p e below m T18 115 #[vi p1, vi p2, vi p3, vi p4, vi (((p3.toUInt32 >>> ((18 : Int32) &&& 31).toUInt32).toInt32) &&& (3 : Int32)), vi (((p4.toUInt32 >>> ((18 : Int32) &&& 31).toUInt32).toInt32) &&& (3 : Int32)), vi qc, vi rc, vr b9, vN, vr b18_b, un] [(.int (3 : Int32)), (.int (((p3.toUInt32 >>> ((18 : Int32) &&& 31).toUInt32).toInt32) &&& (3 : Int32)))] _
        refine XS.icmpYes X18.here hx rfl (pc0 := 115) (pc' := 146) rfl (hb hby at_115) rfl (teq hc81_14).1 (by decide) (by decide) ?_
        show SS p e below m T18 146 #[vi p1, vi p2, vi p3, vi p4, vi (((p3.toUInt32 >>> ((18 : Int32) &&& 31).toUInt32).toInt32) &&& (3 : Int32)), vi (((p4.toUInt32 >>> ((18 : Int32) &&& 31).toUInt32).toInt32) &&& (3 : Int32)), vi qc, vi rc, vr b9, vN, vr b18_b, un] [] _
        refine XS.iconst X18.here hx rfl (hb hby at_146) ?_
        show SS p e below m T18 147 #[vi p1, vi p2, vi p3, vi p4, vi (((p3.toUInt32 >>> ((18 : Int32) &&& 31).toUInt32).toInt32) &&& (3 : Int32)), vi (((p4.toUInt32 >>> ((18 : Int32) &&& 31).toUInt32).toInt32) &&& (3 : Int32)), vi qc, vi rc, vr b9, vN, vr b18_b, un] [(.int (0 : Int32))] _
        refine XS.istore X18.here hx rfl (hb hby at_147) rfl (l' := #[vi p1, vi p2, vi p3, vi p4, vi (((p3.toUInt32 >>> ((18 : Int32) &&& 31).toUInt32).toInt32) &&& (3 : Int32)), vi (((p4.toUInt32 >>> ((18 : Int32) &&& 31).toUInt32).toInt32) &&& (3 : Int32)), vi qc, vi rc, vr b9, vN, vr b18_b, vi (0 : Int32)]) rfl ?_
        show SS p e below m T18 149 #[vi p1, vi p2, vi p3, vi p4, vi (((p3.toUInt32 >>> ((18 : Int32) &&& 31).toUInt32).toInt32) &&& (3 : Int32)), vi (((p4.toUInt32 >>> ((18 : Int32) &&& 31).toUInt32).toInt32) &&& (3 : Int32)), vi qc, vi rc, vr b9, vN, vr b18_b, vi (0 : Int32)] [] _
        refine XS.aload X18.here hx rfl (hb hby at_149) rfl rfl ?_
        show SS p e below m T18 151 #[vi p1, vi p2, vi p3, vi p4, vi (((p3.toUInt32 >>> ((18 : Int32) &&& 31).toUInt32).toInt32) &&& (3 : Int32)), vi (((p4.toUInt32 >>> ((18 : Int32) &&& 31).toUInt32).toInt32) &&& (3 : Int32)), vi qc, vi rc, vr b9, vN, vr b18_b, vi (0 : Int32)] [(.ref b9)] _
        refine XS.aload X18.here hx rfl (hb hby at_151) rfl rfl ?_
        show SS p e below m T18 153 #[vi p1, vi p2, vi p3, vi p4, vi (((p3.toUInt32 >>> ((18 : Int32) &&& 31).toUInt32).toInt32) &&& (3 : Int32)), vi (((p4.toUInt32 >>> ((18 : Int32) &&& 31).toUInt32).toInt32) &&& (3 : Int32)), vi qc, vi rc, vr b9, vN, vr b18_b, vi (0 : Int32)] [.null, (.ref b9)] _
        refine XS.aload X18.here hx rfl (hb hby at_153) rfl rfl ?_
        show SS p e below m T18 155 #[vi p1, vi p2, vi p3, vi p4, vi (((p3.toUInt32 >>> ((18 : Int32) &&& 31).toUInt32).toInt32) &&& (3 : Int32)), vi (((p4.toUInt32 >>> ((18 : Int32) &&& 31).toUInt32).toInt32) &&& (3 : Int32)), vi qc, vi rc, vr b9, vN, vr b18_b, vi (0 : Int32)] [(.ref b18_b), .null, (.ref b9)] _
        refine st19.trans ?_
        show SS p e below m T19 158 #[vi p1, vi p2, vi p3, vi p4, vi (((p3.toUInt32 >>> ((18 : Int32) &&& 31).toUInt32).toInt32) &&& (3 : Int32)), vi (((p4.toUInt32 >>> ((18 : Int32) &&& 31).toUInt32).toInt32) &&& (3 : Int32)), vi qc, vi rc, vr b9, vN, vr b18_b, vi (0 : Int32)] [(.int (0 : Int32))] _
        refine XS.iload X19.here hx rfl (hb hby at_158) rfl ?_
        show SS p e below m T19 160 #[vi p1, vi p2, vi p3, vi p4, vi (((p3.toUInt32 >>> ((18 : Int32) &&& 31).toUInt32).toInt32) &&& (3 : Int32)), vi (((p4.toUInt32 >>> ((18 : Int32) &&& 31).toUInt32).toInt32) &&& (3 : Int32)), vi qc, vi rc, vr b9, vN, vr b18_b, vi (0 : Int32)] [(.int (0 : Int32)), (.int (0 : Int32))] _
        refine XS.icmpNo X19.here hx rfl (hb hby at_160) rfl (teq (by decide)).2 ?_
        show SS p e below m T19 163 #[vi p1, vi p2, vi p3, vi p4, vi (((p3.toUInt32 >>> ((18 : Int32) &&& 31).toUInt32).toInt32) &&& (3 : Int32)), vi (((p4.toUInt32 >>> ((18 : Int32) &&& 31).toUInt32).toInt32) &&& (3 : Int32)), vi qc, vi rc, vr b9, vN, vr b18_b, vi (0 : Int32)] [] _
        refine XS.iconst X19.here hx rfl (hb hby at_163) ?_
        show SS p e below m T19 164 #[vi p1, vi p2, vi p3, vi p4, vi (((p3.toUInt32 >>> ((18 : Int32) &&& 31).toUInt32).toInt32) &&& (3 : Int32)), vi (((p4.toUInt32 >>> ((18 : Int32) &&& 31).toUInt32).toInt32) &&& (3 : Int32)), vi qc, vi rc, vr b9, vN, vr b18_b, vi (0 : Int32)] [(.int (1 : Int32))] _
        refine XS.goto X19.here hx rfl (pc0 := 164) (pc' := 168) rfl (hb hby at_164) (by decide) (by decide) ?_
        show SS p e below m T19 168 #[vi p1, vi p2, vi p3, vi p4, vi (((p3.toUInt32 >>> ((18 : Int32) &&& 31).toUInt32).toInt32) &&& (3 : Int32)), vi (((p4.toUInt32 >>> ((18 : Int32) &&& 31).toUInt32).toInt32) &&& (3 : Int32)), vi qc, vi rc, vr b9, vN, vr b18_b, vi (0 : Int32)] [(.int (1 : Int32))] _
        exact retN X19 hx (t := .boolean) Bd.returns (by simp) (hb hby at_168) hr
      · show Q_rm0 Z p1 p2 p3 p4 zc h0 n0 _ T19.heap _
        rw [e19]
        exact ⟨rfl, N19, KC⟩
      · show CHr Z EL s.vm s.heap T19.vm T19.heap
        rw [hh, e19]
        exact hC.trans (CHv.at X19 hZ hEL hC.1)
  · obtain ⟨_, _, ⟨T20, L20, k20, n20⟩, -, X20, hS20, gr20, ⟨Lc20, hQ20, l20, y20, z20, C20⟩, st20⟩ := callSS X12 hx (y := y_16) hown (mvT hZ (ww hw 3 rfl)) (mvT hZ (ww hw 4 rfl)) (mvT hZ (ww hw 5 rfl)) (mvT hZ (ww hw 6 rfl)) (by decide) (backOfSH (W := 0) (rmMk l Z a0 hw [] qc zc T12.heap n0 (Nat.le_trans Z0 KC.1) O0 S_CS hz) hZ (ww hw 6 rfl) (ww hw 5 rfl) (by decide) (by decide) hEL hC.1) (g := (mkF m 90 #[vi p1, vi p2, vi p3, vi p4, vi (((p3.toUInt32 >>> ((18 : Int32) &&& 31).toUInt32).toInt32) &&& (3 : Int32)), vi (((p4.toUInt32 >>> ((18 : Int32) &&& 31).toUInt32).toInt32) &&& (3 : Int32)), vi qc, vi rc, vr b9, un, un, un] [(.int qc)])) rfl (by rw [hml]; rfl) (argsL := [(.int qc)]) (rest := []) (lenOf pd_15 rfl) rfl (by show 2 * 0 + _ ≤ _; exact Nat.le_of_eq rfl) (hb hby at_90) (fun _ _ => ⟨rfl, rfl, (by decide : 13 + 6 ≤ _), (by decide : 27 + 12 ≤ _)⟩)
    dsimp only [Pt.U, Pt.locs, Pt.cells, Pt.slots] at X20 l20 y20 z20 st20 hQ20 hS20 gr20 C20
    subst l20 y20 z20
    obtain ⟨Xr20, hSr20, hZr20, hownr20⟩ := rebS hS hk X20 hS20 gr20 hZ hown
    replace hC := hC.trans C20
    replace hZ := hZr20
    replace hown := hownr20
    replace hS := hSr20
    replace hk : T20.heap.size ≤ T20.heap.size := Nat.le_refl _
    replace X20 := Xr20
    obtain ⟨b20_b, t_20, k_20, rfl, N20q, K20, sz_b20_b, E_b_20, F_value_b_20, F_coder_b_20, V_t_20⟩ := hQ20
    have N20 := Fr.app N12 N20q
    have ne_b9_b20_b : b9 ≠ b20_b := Nat.ne_of_lt (Nat.lt_of_lt_of_le A9.lt sz_b20_b)
    have ne_b10_b_b20_b : b10_b ≠ b20_b := Nat.ne_of_lt (Nat.lt_of_lt_of_le E_b_10.lt sz_b20_b)
    have ne_t_10_b20_b : t_10 ≠ b20_b := Nat.ne_of_lt (Nat.lt_of_lt_of_le V_t_10.lt sz_b20_b)
    have ne_b11_b_b20_b : b11_b ≠ b20_b := Nat.ne_of_lt (Nat.lt_of_lt_of_le E_b_11.lt sz_b20_b)
    have ne_t_11_b20_b : t_11 ≠ b20_b := Nat.ne_of_lt (Nat.lt_of_lt_of_le V_t_11.lt sz_b20_b)
    have g_b20_b : n0 ≤ b20_b := Nat.le_trans (Nat.le_trans Z0 KC.1) sz_b20_b
    replace sz_b20_b : h0.size ≤ b20_b := Nat.le_trans KC.1 sz_b20_b
    replace A9 := A9.keep K20
    replace E_b_10 := E_b_10.keep K20
    replace F_value_b_10 := F_value_b_10.keep K20 nin0
    replace F_coder_b_10 := F_coder_b_10.keep K20 nin0
    replace V_t_10 := V_t_10.keep K20 nin0
    replace E_b_11 := E_b_11.keep K20
    replace F_value_b_11 := F_value_b_11.keep K20 nin0
    replace F_coder_b_11 := F_coder_b_11.keep K20 nin0
    replace V_t_11 := V_t_11.keep K20 nin0
    replace F_type_a1_12 := F_type_a1_12.keep K20 nin0
    replace F_element_a1_12 := F_element_a1_12.keep K20 nin0
    replace F_attributes_a1_12 := F_attributes_a1_12.keep K20 nin0
    replace O0 := O0.keep K20 all0
    replace KC := KC.trans K20 all0
    have pre21 : ∀ t, Steps p.tables e below (T20.setTop (mkF m 98 #[vi p1, vi p2, vi p3, vi p4, vi (((p3.toUInt32 >>> ((18 : Int32) &&& 31).toUInt32).toInt32) &&& (3 : Int32)), vi (((p4.toUInt32 >>> ((18 : Int32) &&& 31).toUInt32).toInt32) &&& (3 : Int32)), vi qc, vi rc, vr b9, vr b20_b, un, un] [(.int (3 : Int32)), (.int (((p4.toUInt32 >>> ((18 : Int32) &&& 31).toUInt32).toInt32) &&& (3 : Int32)))])) t → Steps p.tables e below (s₁.setTop (entryFrame m #[(.int p1), (.int p2), (.int p3), (.int p4)] maxLocals)) t := by
      intro t kt
      refine pre13 t ?_
      show SS p e below m T12 81 #[vi p1, vi p2, vi p3, vi p4, vi (((p3.toUInt32 >>> ((18 : Int32) &&& 31).toUInt32).toInt32) &&& (3 : Int32)), vi (((p4.toUInt32 >>> ((18 : Int32) &&& 31).toUInt32).toInt32) &&& (3 : Int32)), vi qc, vi rc, vr b9, un, un, un] [(.int (3 : Int32)), (.int (((p3.toUInt32 >>> ((18 : Int32) &&& 31).toUInt32).toInt32) &&& (3 : Int32)))] _
      refine XS.icmpYes X12.here hx rfl (pc0 := 81) (pc' := 88) rfl (hb hby at_81) rfl (feq hc81_14).2 (by decide) (by decide) ?_
      show SS p e below m T12 88 #[vi p1, vi p2, vi p3, vi p4, vi (((p3.toUInt32 >>> ((18 : Int32) &&& 31).toUInt32).toInt32) &&& (3 : Int32)), vi (((p4.toUInt32 >>> ((18 : Int32) &&& 31).toUInt32).toInt32) &&& (3 : Int32)), vi qc, vi rc, vr b9, un, un, un] [] _
      refine XS.iload X12.here hx rfl (hb hby at_88) rfl ?_
      show SS p e below m T12 90 #[vi p1, vi p2, vi p3, vi p4, vi (((p3.toUInt32 >>> ((18 : Int32) &&& 31).toUInt32).toInt32) &&& (3 : Int32)), vi (((p4.toUInt32 >>> ((18 : Int32) &&& 31).toUInt32).toInt32) &&& (3 : Int32)), vi qc, vi rc, vr b9, un, un, un] [(.int qc)] _
      refine st20.trans ?_
      show SS p e below m T20 93 #[vi p1, vi p2, vi p3, vi p4, vi (((p3.toUInt32 >>> ((18 : Int32) &&& 31).toUInt32).toInt32) &&& (3 : Int32)), vi (((p4.toUInt32 >>> ((18 : Int32) &&& 31).toUInt32).toInt32) &&& (3 : Int32)), vi qc, vi rc, vr b9, un, un, un] [(.ref b20_b)] _
      refine XS.astore X20.here hx rfl (hb hby at_93) rfl rfl (l' := #[vi p1, vi p2, vi p3, vi p4, vi (((p3.toUInt32 >>> ((18 : Int32) &&& 31).toUInt32).toInt32) &&& (3 : Int32)), vi (((p4.toUInt32 >>> ((18 : Int32) &&& 31).toUInt32).toInt32) &&& (3 : Int32)), vi qc, vi rc, vr b9, vr b20_b, un, un]) rfl ?_
      show SS p e below m T20 95 #[vi p1, vi p2, vi p3, vi p4, vi (((p3.toUInt32 >>> ((18 : Int32) &&& 31).toUInt32).toInt32) &&& (3 : Int32)), vi (((p4.toUInt32 >>> ((18 : Int32) &&& 31).toUInt32).toInt32) &&& (3 : Int32)), vi qc, vi rc, vr b9, vr b20_b, un, un] [] _
      refine XS.iload X20.here hx rfl (hb hby at_95) rfl ?_
      show SS p e below m T20 97 #[vi p1, vi p2, vi p3, vi p4, vi (((p3.toUInt32 >>> ((18 : Int32) &&& 31).toUInt32).toInt32) &&& (3 : Int32)), vi (((p4.toUInt32 >>> ((18 : Int32) &&& 31).toUInt32).toInt32) &&& (3 : Int32)), vi qc, vi rc, vr b9, vr b20_b, un, un] [(.int (((p4.toUInt32 >>> ((18 : Int32) &&& 31).toUInt32).toInt32) &&& (3 : Int32)))] _
      refine XS.iconst X20.here hx rfl (hb hby at_97) ?_
      exact kt
    by_cases hc98_22 : (((p4.toUInt32 >>> ((18 : Int32) &&& 31).toUInt32).toInt32) &&& (3 : Int32)) = (3 : Int32)
    · obtain ⟨cq23, kq23, q23a, q23b, q23c⟩ := isOf hZ rfl A9
      obtain ⟨_, _, ⟨T23, L23, k23, n23⟩, -, X23, ⟨Lc23, hQ23, l23, y23, z23⟩, st23⟩ := X20.virtualBack hx (y := y_19) (z := y_19) hown (mvT hZ (ww hw 71 rfl)) (mvT hZ (ww hw 72 rfl)) (notFace_of_selects (args := #[]) (mvT hZ (ww hw 74 rfl))) (mvT hZ (ww hw 74 rfl)) (mvT hZ (ww hw 73 rfl)) (by decide) (backOf (W := 0) (rmisx l Z a0 hw [] b9 b20_b b10_b b11_b t_10 k_10 p1 t_20 k_20 qc zc T20.heap n0 (Nat.le_trans Z0 KC.1) O0 F_type_a1_12 F_element_a1_12 E_b_10 F_value_b_10 F_coder_b_10 V_t_10 E_b_11 E_b_20 F_value_b_20 F_coder_b_20 V_t_20 ne_b10_b_b20_b S_CS hz) hZ (ww hw 75 rfl) (ww hw 2 rfl) (by decide) (by decide)) q23a q23c (g := (mkF m 155 #[vi p1, vi p2, vi p3, vi p4, vi (((p3.toUInt32 >>> ((18 : Int32) &&& 31).toUInt32).toInt32) &&& (3 : Int32)), vi (((p4.toUInt32 >>> ((18 : Int32) &&& 31).toUInt32).toInt32) &&& (3 : Int32)), vi qc, vi rc, vr b9, vr b20_b, vN, vi (0 : Int32)] [.null, (.ref b20_b), (.ref b9)])) rfl (by rw [hml]; rfl) (Steps.refl _) (argsL := [(.ref b20_b), .null]) (rest := []) (lenOf pd_17 rfl) rfl (by show 2 * 0 + _ ≤ _; exact Nat.le_of_eq rfl) (hb hby at_155) (fun _ _ => ⟨rfl, rfl, (by decide : 19 + 0 ≤ _), (by decide : 39 + 0 ≤ _)⟩)
      dsimp only [Pt.U, Pt.locs, Pt.cells, Pt.slots] at X23 l23 y23 z23 st23 hQ23
      subst l23 y23 z23
      obtain ⟨rfl, N23q, e23⟩ := hQ23
      have N23 := Fr.app N20 N23q
      obtain ⟨fs, hr, hrun, hended, hRE⟩ := X23.leaveW hS (by rw [e23]; exact hk) (v := some (.int (1 : Int32))) (fun h => by rw [Bd.returns] at h; cases h)
      refine ⟨_, _, pre21 _ ?_, hrun, hended, _, _, rfl, ?_, ?_, hRE.1, hRE.2.1, hRE.2.2.1, hRE.2.2.2.mono (by decide) (by decide)⟩
      · show SS p e below m T20 98 #[vi p1, vi p2, vi p3, vi p4, vi (((p3.toUInt32 >>> ((18 : Int32) &&& 31).toUInt32).toInt32) &&& (3 : Int32)), vi (((p4.toUInt32 >>> ((18 : Int32) &&& 31).toUInt32).toInt32) &&& (3 : Int32)), vi qc, vi rc, vr b9, vr b20_b, un, un] [(.int (3 : Int32)), (.int (((p4.toUInt32 >>> ((18 : Int32) &&& 31).toUInt32).toInt32) &&& (3 : Int32)))] _
        refine XS.icmpNo X20.here hx rfl (hb hby at_98) rfl (teq hc98_22).2 ?_
        show SS p e below m T20 101 #[vi p1, vi p2, vi p3, vi p4, vi (((p3.toUInt32 >>> ((18 : Int32) &&& 31).toUInt32).toInt32) &&& (3 : Int32)), vi (((p4.toUInt32 >>> ((18 : Int32) &&& 31).toUInt32).toInt32) &&& (3 : Int32)), vi qc, vi rc, vr b9, vr b20_b, un, un] [] _
        refine XS.aconstNull X20.here hx rfl (hb hby at_101) ?_
        show SS p e below m T20 102 #[vi p1, vi p2, vi p3, vi p4, vi (((p3.toUInt32 >>> ((18 : Int32) &&& 31).toUInt32).toInt32) &&& (3 : Int32)), vi (((p4.toUInt32 >>> ((18 : Int32) &&& 31).toUInt32).toInt32) &&& (3 : Int32)), vi qc, vi rc, vr b9, vr b20_b, un, un] [.null] _
        refine XS.goto X20.here hx rfl (pc0 := 102) (pc' := 110) rfl (hb hby at_102) (by decide) (by decide) ?_
        show SS p e below m T20 110 #[vi p1, vi p2, vi p3, vi p4, vi (((p3.toUInt32 >>> ((18 : Int32) &&& 31).toUInt32).toInt32) &&& (3 : Int32)), vi (((p4.toUInt32 >>> ((18 : Int32) &&& 31).toUInt32).toInt32) &&& (3 : Int32)), vi qc, vi rc, vr b9, vr b20_b, un, un] [.null] _
        refine XS.astore X20.here hx rfl (hb hby at_110) rfl rfl (l' := #[vi p1, vi p2, vi p3, vi p4, vi (((p3.toUInt32 >>> ((18 : Int32) &&& 31).toUInt32).toInt32) &&& (3 : Int32)), vi (((p4.toUInt32 >>> ((18 : Int32) &&& 31).toUInt32).toInt32) &&& (3 : Int32)), vi qc, vi rc, vr b9, vr b20_b, vN, un]) rfl ?_
        show SS p e below m T20 112 #[vi p1, vi p2, vi p3, vi p4, vi (((p3.toUInt32 >>> ((18 : Int32) &&& 31).toUInt32).toInt32) &&& (3 : Int32)), vi (((p4.toUInt32 >>> ((18 : Int32) &&& 31).toUInt32).toInt32) &&& (3 : Int32)), vi qc, vi rc, vr b9, vr b20_b, vN, un] [] _
        refine XS.iload X20.here hx rfl (hb hby at_112) rfl ?_
        show SS p e below m T20 114 #[vi p1, vi p2, vi p3, vi p4, vi (((p3.toUInt32 >>> ((18 : Int32) &&& 31).toUInt32).toInt32) &&& (3 : Int32)), vi (((p4.toUInt32 >>> ((18 : Int32) &&& 31).toUInt32).toInt32) &&& (3 : Int32)), vi qc, vi rc, vr b9, vr b20_b, vN, un] [(.int (((p3.toUInt32 >>> ((18 : Int32) &&& 31).toUInt32).toInt32) &&& (3 : Int32)))] _
        refine XS.iconst X20.here hx rfl (hb hby at_114) ?_
        show SS p e below m T20 115 #[vi p1, vi p2, vi p3, vi p4, vi (((p3.toUInt32 >>> ((18 : Int32) &&& 31).toUInt32).toInt32) &&& (3 : Int32)), vi (((p4.toUInt32 >>> ((18 : Int32) &&& 31).toUInt32).toInt32) &&& (3 : Int32)), vi qc, vi rc, vr b9, vr b20_b, vN, un] [(.int (3 : Int32)), (.int (((p3.toUInt32 >>> ((18 : Int32) &&& 31).toUInt32).toInt32) &&& (3 : Int32)))] _
        refine XS.icmpNo X20.here hx rfl (hb hby at_115) rfl (feq hc81_14).1 ?_
        show SS p e below m T20 118 #[vi p1, vi p2, vi p3, vi p4, vi (((p3.toUInt32 >>> ((18 : Int32) &&& 31).toUInt32).toInt32) &&& (3 : Int32)), vi (((p4.toUInt32 >>> ((18 : Int32) &&& 31).toUInt32).toInt32) &&& (3 : Int32)), vi qc, vi rc, vr b9, vr b20_b, vN, un] [] _
        refine XS.iload X20.here hx rfl (hb hby at_118) rfl ?_
        show SS p e below m T20 120 #[vi p1, vi p2, vi p3, vi p4, vi (((p3.toUInt32 >>> ((18 : Int32) &&& 31).toUInt32).toInt32) &&& (3 : Int32)), vi (((p4.toUInt32 >>> ((18 : Int32) &&& 31).toUInt32).toInt32) &&& (3 : Int32)), vi qc, vi rc, vr b9, vr b20_b, vN, un] [(.int (((p4.toUInt32 >>> ((18 : Int32) &&& 31).toUInt32).toInt32) &&& (3 : Int32)))] _
        refine XS.iconst X20.here hx rfl (hb hby at_120) ?_
        show SS p e below m T20 121 #[vi p1, vi p2, vi p3, vi p4, vi (((p3.toUInt32 >>> ((18 : Int32) &&& 31).toUInt32).toInt32) &&& (3 : Int32)), vi (((p4.toUInt32 >>> ((18 : Int32) &&& 31).toUInt32).toInt32) &&& (3 : Int32)), vi qc, vi rc, vr b9, vr b20_b, vN, un] [(.int (3 : Int32)), (.int (((p4.toUInt32 >>> ((18 : Int32) &&& 31).toUInt32).toInt32) &&& (3 : Int32)))] _
        refine XS.icmpYes X20.here hx rfl (pc0 := 121) (pc' := 146) rfl (hb hby at_121) rfl (teq hc98_22).1 (by decide) (by decide) ?_
        show SS p e below m T20 146 #[vi p1, vi p2, vi p3, vi p4, vi (((p3.toUInt32 >>> ((18 : Int32) &&& 31).toUInt32).toInt32) &&& (3 : Int32)), vi (((p4.toUInt32 >>> ((18 : Int32) &&& 31).toUInt32).toInt32) &&& (3 : Int32)), vi qc, vi rc, vr b9, vr b20_b, vN, un] [] _
        refine XS.iconst X20.here hx rfl (hb hby at_146) ?_
        show SS p e below m T20 147 #[vi p1, vi p2, vi p3, vi p4, vi (((p3.toUInt32 >>> ((18 : Int32) &&& 31).toUInt32).toInt32) &&& (3 : Int32)), vi (((p4.toUInt32 >>> ((18 : Int32) &&& 31).toUInt32).toInt32) &&& (3 : Int32)), vi qc, vi rc, vr b9, vr b20_b, vN, un] [(.int (0 : Int32))] _
        refine XS.istore X20.here hx rfl (hb hby at_147) rfl (l' := #[vi p1, vi p2, vi p3, vi p4, vi (((p3.toUInt32 >>> ((18 : Int32) &&& 31).toUInt32).toInt32) &&& (3 : Int32)), vi (((p4.toUInt32 >>> ((18 : Int32) &&& 31).toUInt32).toInt32) &&& (3 : Int32)), vi qc, vi rc, vr b9, vr b20_b, vN, vi (0 : Int32)]) rfl ?_
        show SS p e below m T20 149 #[vi p1, vi p2, vi p3, vi p4, vi (((p3.toUInt32 >>> ((18 : Int32) &&& 31).toUInt32).toInt32) &&& (3 : Int32)), vi (((p4.toUInt32 >>> ((18 : Int32) &&& 31).toUInt32).toInt32) &&& (3 : Int32)), vi qc, vi rc, vr b9, vr b20_b, vN, vi (0 : Int32)] [] _
        refine XS.aload X20.here hx rfl (hb hby at_149) rfl rfl ?_
        show SS p e below m T20 151 #[vi p1, vi p2, vi p3, vi p4, vi (((p3.toUInt32 >>> ((18 : Int32) &&& 31).toUInt32).toInt32) &&& (3 : Int32)), vi (((p4.toUInt32 >>> ((18 : Int32) &&& 31).toUInt32).toInt32) &&& (3 : Int32)), vi qc, vi rc, vr b9, vr b20_b, vN, vi (0 : Int32)] [(.ref b9)] _
        refine XS.aload X20.here hx rfl (hb hby at_151) rfl rfl ?_
        show SS p e below m T20 153 #[vi p1, vi p2, vi p3, vi p4, vi (((p3.toUInt32 >>> ((18 : Int32) &&& 31).toUInt32).toInt32) &&& (3 : Int32)), vi (((p4.toUInt32 >>> ((18 : Int32) &&& 31).toUInt32).toInt32) &&& (3 : Int32)), vi qc, vi rc, vr b9, vr b20_b, vN, vi (0 : Int32)] [(.ref b20_b), (.ref b9)] _
        refine XS.aload X20.here hx rfl (hb hby at_153) rfl rfl ?_
        show SS p e below m T20 155 #[vi p1, vi p2, vi p3, vi p4, vi (((p3.toUInt32 >>> ((18 : Int32) &&& 31).toUInt32).toInt32) &&& (3 : Int32)), vi (((p4.toUInt32 >>> ((18 : Int32) &&& 31).toUInt32).toInt32) &&& (3 : Int32)), vi qc, vi rc, vr b9, vr b20_b, vN, vi (0 : Int32)] [.null, (.ref b20_b), (.ref b9)] _
        refine st23.trans ?_
        show SS p e below m T23 158 #[vi p1, vi p2, vi p3, vi p4, vi (((p3.toUInt32 >>> ((18 : Int32) &&& 31).toUInt32).toInt32) &&& (3 : Int32)), vi (((p4.toUInt32 >>> ((18 : Int32) &&& 31).toUInt32).toInt32) &&& (3 : Int32)), vi qc, vi rc, vr b9, vr b20_b, vN, vi (0 : Int32)] [(.int (0 : Int32))] _
        refine XS.iload X23.here hx rfl (hb hby at_158) rfl ?_
        show SS p e below m T23 160 #[vi p1, vi p2, vi p3, vi p4, vi (((p3.toUInt32 >>> ((18 : Int32) &&& 31).toUInt32).toInt32) &&& (3 : Int32)), vi (((p4.toUInt32 >>> ((18 : Int32) &&& 31).toUInt32).toInt32) &&& (3 : Int32)), vi qc, vi rc, vr b9, vr b20_b, vN, vi (0 : Int32)] [(.int (0 : Int32)), (.int (0 : Int32))] _
        refine XS.icmpNo X23.here hx rfl (hb hby at_160) rfl (teq (by decide)).2 ?_
        show SS p e below m T23 163 #[vi p1, vi p2, vi p3, vi p4, vi (((p3.toUInt32 >>> ((18 : Int32) &&& 31).toUInt32).toInt32) &&& (3 : Int32)), vi (((p4.toUInt32 >>> ((18 : Int32) &&& 31).toUInt32).toInt32) &&& (3 : Int32)), vi qc, vi rc, vr b9, vr b20_b, vN, vi (0 : Int32)] [] _
        refine XS.iconst X23.here hx rfl (hb hby at_163) ?_
        show SS p e below m T23 164 #[vi p1, vi p2, vi p3, vi p4, vi (((p3.toUInt32 >>> ((18 : Int32) &&& 31).toUInt32).toInt32) &&& (3 : Int32)), vi (((p4.toUInt32 >>> ((18 : Int32) &&& 31).toUInt32).toInt32) &&& (3 : Int32)), vi qc, vi rc, vr b9, vr b20_b, vN, vi (0 : Int32)] [(.int (1 : Int32))] _
        refine XS.goto X23.here hx rfl (pc0 := 164) (pc' := 168) rfl (hb hby at_164) (by decide) (by decide) ?_
        show SS p e below m T23 168 #[vi p1, vi p2, vi p3, vi p4, vi (((p3.toUInt32 >>> ((18 : Int32) &&& 31).toUInt32).toInt32) &&& (3 : Int32)), vi (((p4.toUInt32 >>> ((18 : Int32) &&& 31).toUInt32).toInt32) &&& (3 : Int32)), vi qc, vi rc, vr b9, vr b20_b, vN, vi (0 : Int32)] [(.int (1 : Int32))] _
        exact retN X23 hx (t := .boolean) Bd.returns (by simp) (hb hby at_168) hr
      · show Q_rm0 Z p1 p2 p3 p4 zc h0 n0 _ T23.heap _
        rw [e23]
        exact ⟨rfl, N23, KC⟩
      · show CHr Z EL s.vm s.heap T23.vm T23.heap
        rw [hh, e23]
        exact hC.trans (CHv.at X23 hZ hEL hC.1)
    · obtain ⟨_, _, ⟨T24, L24, k24, n24⟩, -, X24, hS24, gr24, ⟨Lc24, hQ24, l24, y24, z24, C24⟩, st24⟩ := callSS X20 hx (y := y_16) hown (mvT hZ (ww hw 3 rfl)) (mvT hZ (ww hw 4 rfl)) (mvT hZ (ww hw 5 rfl)) (mvT hZ (ww hw 6 rfl)) (by decide) (backOfSH (W := 0) (rmMk l Z a0 hw [] rc zc T20.heap n0 (Nat.le_trans Z0 KC.1) O0 S_CS hz) hZ (ww hw 6 rfl) (ww hw 5 rfl) (by decide) (by decide) hEL hC.1) (g := (mkF m 107 #[vi p1, vi p2, vi p3, vi p4, vi (((p3.toUInt32 >>> ((18 : Int32) &&& 31).toUInt32).toInt32) &&& (3 : Int32)), vi (((p4.toUInt32 >>> ((18 : Int32) &&& 31).toUInt32).toInt32) &&& (3 : Int32)), vi qc, vi rc, vr b9, vr b20_b, un, un] [(.int rc)])) rfl (by rw [hml]; rfl) (argsL := [(.int rc)]) (rest := []) (lenOf pd_15 rfl) rfl (by show 2 * 0 + _ ≤ _; exact Nat.le_of_eq rfl) (hb hby at_107) (fun _ _ => ⟨rfl, rfl, (by decide : 19 + 6 ≤ _), (by decide : 39 + 12 ≤ _)⟩)
      dsimp only [Pt.U, Pt.locs, Pt.cells, Pt.slots] at X24 l24 y24 z24 st24 hQ24 hS24 gr24 C24
      subst l24 y24 z24
      obtain ⟨Xr24, hSr24, hZr24, hownr24⟩ := rebS hS hk X24 hS24 gr24 hZ hown
      replace hC := hC.trans C24
      replace hZ := hZr24
      replace hown := hownr24
      replace hS := hSr24
      replace hk : T24.heap.size ≤ T24.heap.size := Nat.le_refl _
      replace X24 := Xr24
      obtain ⟨b24_b, t_24, k_24, rfl, N24q, K24, sz_b24_b, E_b_24, F_value_b_24, F_coder_b_24, V_t_24⟩ := hQ24
      have N24 := Fr.app N20 N24q
      have ne_b9_b24_b : b9 ≠ b24_b := Nat.ne_of_lt (Nat.lt_of_lt_of_le A9.lt sz_b24_b)
      have ne_b10_b_b24_b : b10_b ≠ b24_b := Nat.ne_of_lt (Nat.lt_of_lt_of_le E_b_10.lt sz_b24_b)
      have ne_t_10_b24_b : t_10 ≠ b24_b := Nat.ne_of_lt (Nat.lt_of_lt_of_le V_t_10.lt sz_b24_b)
      have ne_b11_b_b24_b : b11_b ≠ b24_b := Nat.ne_of_lt (Nat.lt_of_lt_of_le E_b_11.lt sz_b24_b)
      have ne_t_11_b24_b : t_11 ≠ b24_b := Nat.ne_of_lt (Nat.lt_of_lt_of_le V_t_11.lt sz_b24_b)
      have ne_b20_b_b24_b : b20_b ≠ b24_b := Nat.ne_of_lt (Nat.lt_of_lt_of_le E_b_20.lt sz_b24_b)
      have ne_t_20_b24_b : t_20 ≠ b24_b := Nat.ne_of_lt (Nat.lt_of_lt_of_le V_t_20.lt sz_b24_b)
      have g_b24_b : n0 ≤ b24_b := Nat.le_trans (Nat.le_trans Z0 KC.1) sz_b24_b
      replace sz_b24_b : h0.size ≤ b24_b := Nat.le_trans KC.1 sz_b24_b
      replace A9 := A9.keep K24
      replace E_b_10 := E_b_10.keep K24
      replace F_value_b_10 := F_value_b_10.keep K24 nin0
      replace F_coder_b_10 := F_coder_b_10.keep K24 nin0
      replace V_t_10 := V_t_10.keep K24 nin0
      replace E_b_11 := E_b_11.keep K24
      replace F_value_b_11 := F_value_b_11.keep K24 nin0
      replace F_coder_b_11 := F_coder_b_11.keep K24 nin0
      replace V_t_11 := V_t_11.keep K24 nin0
      replace F_type_a1_12 := F_type_a1_12.keep K24 nin0
      replace F_element_a1_12 := F_element_a1_12.keep K24 nin0
      replace F_attributes_a1_12 := F_attributes_a1_12.keep K24 nin0
      replace E_b_20 := E_b_20.keep K24
      replace F_value_b_20 := F_value_b_20.keep K24 nin0
      replace F_coder_b_20 := F_coder_b_20.keep K24 nin0
      replace V_t_20 := V_t_20.keep K24 nin0
      replace O0 := O0.keep K24 all0
      replace KC := KC.trans K24 all0
      obtain ⟨_, _, ⟨T25, L25, k25, n25⟩, -, X25, ⟨Lc25, hQ25, l25, y25, z25⟩, st25⟩ := Jvm.LawKit.callS X24 hx (y := y_4) hown (mvT hZ (ww hw 68 rfl)) (mvT hZ (ww hw 69 rfl)) (mvT hZ (ww hw 5 rfl)) (mvT hZ (ww hw 70 rfl)) (by decide) (backOf (W := 0) (rmSm l Z a0 hw [] p1 qc T24.heap n0 (Nat.le_trans Z0 KC.1) O0 ) hZ (ww hw 70 rfl) (ww hw 5 rfl) (by decide) (by decide)) (g := (mkF m 127 #[vi p1, vi p2, vi p3, vi p4, vi (((p3.toUInt32 >>> ((18 : Int32) &&& 31).toUInt32).toInt32) &&& (3 : Int32)), vi (((p4.toUInt32 >>> ((18 : Int32) &&& 31).toUInt32).toInt32) &&& (3 : Int32)), vi qc, vi rc, vr b9, vr b20_b, vr b24_b, un] [(.int qc), (.int p1)])) rfl (by rw [hml]; rfl) (argsL := [(.int p1), (.int qc)]) (rest := []) (lenOf pd_18 rfl) rfl (by show 2 * 0 + _ ≤ _; exact Nat.le_of_eq rfl) (hb hby at_127) (fun _ _ => ⟨rfl, rfl, (by decide : 25 + 0 ≤ _), (by decide : 51 + 0 ≤ _)⟩)
      dsimp only [Pt.U, Pt.locs, Pt.cells, Pt.slots] at X25 l25 y25 z25 st25 hQ25
      subst l25 y25 z25
      obtain ⟨rfl, N25q, e25⟩ := hQ25
      have N25 := Fr.app N24 N25q
      have pre26 : ∀ t, Steps p.tables e below (T25.setTop (mkF m 130 #[vi p1, vi p2, vi p3, vi p4, vi (((p3.toUInt32 >>> ((18 : Int32) &&& 31).toUInt32).toInt32) &&& (3 : Int32)), vi (((p4.toUInt32 >>> ((18 : Int32) &&& 31).toUInt32).toInt32) &&& (3 : Int32)), vi qc, vi rc, vr b9, vr b20_b, vr b24_b, un] [(.int (own_eq p1 qc))])) t → Steps p.tables e below (s₁.setTop (entryFrame m #[(.int p1), (.int p2), (.int p3), (.int p4)] maxLocals)) t := by
        intro t kt
        refine pre21 t ?_
        show SS p e below m T20 98 #[vi p1, vi p2, vi p3, vi p4, vi (((p3.toUInt32 >>> ((18 : Int32) &&& 31).toUInt32).toInt32) &&& (3 : Int32)), vi (((p4.toUInt32 >>> ((18 : Int32) &&& 31).toUInt32).toInt32) &&& (3 : Int32)), vi qc, vi rc, vr b9, vr b20_b, un, un] [(.int (3 : Int32)), (.int (((p4.toUInt32 >>> ((18 : Int32) &&& 31).toUInt32).toInt32) &&& (3 : Int32)))] _
        refine XS.icmpYes X20.here hx rfl (pc0 := 98) (pc' := 105) rfl (hb hby at_98) rfl (feq hc98_22).2 (by decide) (by decide) ?_
        show SS p e below m T20 105 #[vi p1, vi p2, vi p3, vi p4, vi (((p3.toUInt32 >>> ((18 : Int32) &&& 31).toUInt32).toInt32) &&& (3 : Int32)), vi (((p4.toUInt32 >>> ((18 : Int32) &&& 31).toUInt32).toInt32) &&& (3 : Int32)), vi qc, vi rc, vr b9, vr b20_b, un, un] [] _
        refine XS.iload X20.here hx rfl (hb hby at_105) rfl ?_
        show SS p e below m T20 107 #[vi p1, vi p2, vi p3, vi p4, vi (((p3.toUInt32 >>> ((18 : Int32) &&& 31).toUInt32).toInt32) &&& (3 : Int32)), vi (((p4.toUInt32 >>> ((18 : Int32) &&& 31).toUInt32).toInt32) &&& (3 : Int32)), vi qc, vi rc, vr b9, vr b20_b, un, un] [(.int rc)] _
        refine st24.trans ?_
        show SS p e below m T24 110 #[vi p1, vi p2, vi p3, vi p4, vi (((p3.toUInt32 >>> ((18 : Int32) &&& 31).toUInt32).toInt32) &&& (3 : Int32)), vi (((p4.toUInt32 >>> ((18 : Int32) &&& 31).toUInt32).toInt32) &&& (3 : Int32)), vi qc, vi rc, vr b9, vr b20_b, un, un] [(.ref b24_b)] _
        refine XS.astore X24.here hx rfl (hb hby at_110) rfl rfl (l' := #[vi p1, vi p2, vi p3, vi p4, vi (((p3.toUInt32 >>> ((18 : Int32) &&& 31).toUInt32).toInt32) &&& (3 : Int32)), vi (((p4.toUInt32 >>> ((18 : Int32) &&& 31).toUInt32).toInt32) &&& (3 : Int32)), vi qc, vi rc, vr b9, vr b20_b, vr b24_b, un]) rfl ?_
        show SS p e below m T24 112 #[vi p1, vi p2, vi p3, vi p4, vi (((p3.toUInt32 >>> ((18 : Int32) &&& 31).toUInt32).toInt32) &&& (3 : Int32)), vi (((p4.toUInt32 >>> ((18 : Int32) &&& 31).toUInt32).toInt32) &&& (3 : Int32)), vi qc, vi rc, vr b9, vr b20_b, vr b24_b, un] [] _
        refine XS.iload X24.here hx rfl (hb hby at_112) rfl ?_
        show SS p e below m T24 114 #[vi p1, vi p2, vi p3, vi p4, vi (((p3.toUInt32 >>> ((18 : Int32) &&& 31).toUInt32).toInt32) &&& (3 : Int32)), vi (((p4.toUInt32 >>> ((18 : Int32) &&& 31).toUInt32).toInt32) &&& (3 : Int32)), vi qc, vi rc, vr b9, vr b20_b, vr b24_b, un] [(.int (((p3.toUInt32 >>> ((18 : Int32) &&& 31).toUInt32).toInt32) &&& (3 : Int32)))] _
        refine XS.iconst X24.here hx rfl (hb hby at_114) ?_
        show SS p e below m T24 115 #[vi p1, vi p2, vi p3, vi p4, vi (((p3.toUInt32 >>> ((18 : Int32) &&& 31).toUInt32).toInt32) &&& (3 : Int32)), vi (((p4.toUInt32 >>> ((18 : Int32) &&& 31).toUInt32).toInt32) &&& (3 : Int32)), vi qc, vi rc, vr b9, vr b20_b, vr b24_b, un] [(.int (3 : Int32)), (.int (((p3.toUInt32 >>> ((18 : Int32) &&& 31).toUInt32).toInt32) &&& (3 : Int32)))] _
        refine XS.icmpNo X24.here hx rfl (hb hby at_115) rfl (feq hc81_14).1 ?_
        show SS p e below m T24 118 #[vi p1, vi p2, vi p3, vi p4, vi (((p3.toUInt32 >>> ((18 : Int32) &&& 31).toUInt32).toInt32) &&& (3 : Int32)), vi (((p4.toUInt32 >>> ((18 : Int32) &&& 31).toUInt32).toInt32) &&& (3 : Int32)), vi qc, vi rc, vr b9, vr b20_b, vr b24_b, un] [] _
        refine XS.iload X24.here hx rfl (hb hby at_118) rfl ?_
        show SS p e below m T24 120 #[vi p1, vi p2, vi p3, vi p4, vi (((p3.toUInt32 >>> ((18 : Int32) &&& 31).toUInt32).toInt32) &&& (3 : Int32)), vi (((p4.toUInt32 >>> ((18 : Int32) &&& 31).toUInt32).toInt32) &&& (3 : Int32)), vi qc, vi rc, vr b9, vr b20_b, vr b24_b, un] [(.int (((p4.toUInt32 >>> ((18 : Int32) &&& 31).toUInt32).toInt32) &&& (3 : Int32)))] _
        refine XS.iconst X24.here hx rfl (hb hby at_120) ?_
        show SS p e below m T24 121 #[vi p1, vi p2, vi p3, vi p4, vi (((p3.toUInt32 >>> ((18 : Int32) &&& 31).toUInt32).toInt32) &&& (3 : Int32)), vi (((p4.toUInt32 >>> ((18 : Int32) &&& 31).toUInt32).toInt32) &&& (3 : Int32)), vi qc, vi rc, vr b9, vr b20_b, vr b24_b, un] [(.int (3 : Int32)), (.int (((p4.toUInt32 >>> ((18 : Int32) &&& 31).toUInt32).toInt32) &&& (3 : Int32)))] _
        refine XS.icmpNo X24.here hx rfl (hb hby at_121) rfl (feq hc98_22).1 ?_
        show SS p e below m T24 124 #[vi p1, vi p2, vi p3, vi p4, vi (((p3.toUInt32 >>> ((18 : Int32) &&& 31).toUInt32).toInt32) &&& (3 : Int32)), vi (((p4.toUInt32 >>> ((18 : Int32) &&& 31).toUInt32).toInt32) &&& (3 : Int32)), vi qc, vi rc, vr b9, vr b20_b, vr b24_b, un] [] _
        refine XS.iloadN X24.here hx rfl (hb hby at_124) rfl ?_
        show SS p e below m T24 125 #[vi p1, vi p2, vi p3, vi p4, vi (((p3.toUInt32 >>> ((18 : Int32) &&& 31).toUInt32).toInt32) &&& (3 : Int32)), vi (((p4.toUInt32 >>> ((18 : Int32) &&& 31).toUInt32).toInt32) &&& (3 : Int32)), vi qc, vi rc, vr b9, vr b20_b, vr b24_b, un] [(.int p1)] _
        refine XS.iload X24.here hx rfl (hb hby at_125) rfl ?_
        show SS p e below m T24 127 #[vi p1, vi p2, vi p3, vi p4, vi (((p3.toUInt32 >>> ((18 : Int32) &&& 31).toUInt32).toInt32) &&& (3 : Int32)), vi (((p4.toUInt32 >>> ((18 : Int32) &&& 31).toUInt32).toInt32) &&& (3 : Int32)), vi qc, vi rc, vr b9, vr b20_b, vr b24_b, un] [(.int qc), (.int p1)] _
        refine st25 _ ?_
        exact kt
      by_cases hc130_27 : (own_eq p1 qc) = (0 : Int32)
      · obtain ⟨cq28, kq28, q28a, q28b, q28c⟩ := isOf hZ e25 A9
        obtain ⟨_, _, ⟨T28, L28, k28, n28⟩, -, X28, ⟨Lc28, hQ28, l28, y28, z28⟩, st28⟩ := X25.virtualBack hx (y := y_19) (z := y_19) hown (mvT hZ (ww hw 71 rfl)) (mvT hZ (ww hw 72 rfl)) (notFace_of_selects (args := #[]) (mvT hZ (ww hw 74 rfl))) (mvT hZ (ww hw 74 rfl)) (mvT hZ (ww hw 73 rfl)) (by decide) (backOf (W := 0) (rmIs l Z a0 hw [] b9 b20_b b24_b b10_b b11_b t_10 k_10 p1 t_11 k_11 p2 t_20 k_20 qc t_24 k_24 rc zc T24.heap n0 (Nat.le_trans Z0 KC.1) O0 F_type_a1_12 F_element_a1_12 E_b_10 F_value_b_10 F_coder_b_10 V_t_10 E_b_11 F_value_b_11 F_coder_b_11 V_t_11 E_b_20 F_value_b_20 F_coder_b_20 V_t_20 E_b_24 F_value_b_24 F_coder_b_24 V_t_24 ne_b10_b_b20_b ne_b11_b_b24_b S_CS hz) hZ (ww hw 75 rfl) (ww hw 2 rfl) (by decide) (by decide)) q28a q28c (g := (mkF m 155 #[vi p1, vi p2, vi p3, vi p4, vi (((p3.toUInt32 >>> ((18 : Int32) &&& 31).toUInt32).toInt32) &&& (3 : Int32)), vi (((p4.toUInt32 >>> ((18 : Int32) &&& 31).toUInt32).toInt32) &&& (3 : Int32)), vi qc, vi rc, vr b9, vr b20_b, vr b24_b, vi (0 : Int32)] [(.ref b24_b), (.ref b20_b), (.ref b9)])) rfl (by rw [hml]; rfl) (Steps.refl _) (argsL := [(.ref b20_b), (.ref b24_b)]) (rest := []) (lenOf pd_17 rfl) rfl (by show 2 * 0 + _ ≤ _; exact Nat.le_of_eq rfl) (hb hby at_155) (fun _ _ => ⟨rfl, e25, (by decide : 25 + 0 ≤ _), (by decide : 51 + 0 ≤ _)⟩)
        dsimp only [Pt.U, Pt.locs, Pt.cells, Pt.slots] at X28 l28 y28 z28 st28 hQ28
        subst l28 y28 z28
        obtain ⟨rfl, N28q, e28⟩ := hQ28
        have N28 := Fr.app N25 N28q
        obtain ⟨fs, hr, hrun, hended, hRE⟩ := X28.leaveW hS (by rw [e28]; exact hk) (v := some (.int (1 : Int32))) (fun h => by rw [Bd.returns] at h; cases h)
        refine ⟨_, _, pre26 _ ?_, hrun, hended, _, _, rfl, ?_, ?_, hRE.1, hRE.2.1, hRE.2.2.1, hRE.2.2.2.mono (by decide) (by decide)⟩
        · show SS p e below m T25 130 #[vi p1, vi p2, vi p3, vi p4, vi (((p3.toUInt32 >>> ((18 : Int32) &&& 31).toUInt32).toInt32) &&& (3 : Int32)), vi (((p4.toUInt32 >>> ((18 : Int32) &&& 31).toUInt32).toInt32) &&& (3 : Int32)), vi qc, vi rc, vr b9, vr b20_b, vr b24_b, un] [(.int (own_eq p1 qc))] _
          refine XS.ifYes X25.here hx rfl (pc0 := 130) (pc' := 146) rfl (hb hby at_130) rfl ((if0 _ _).trans (teq hc130_27).1) (by decide) (by decide) ?_
          show SS p e below m T25 146 #[vi p1, vi p2, vi p3, vi p4, vi (((p3.toUInt32 >>> ((18 : Int32) &&& 31).toUInt32).toInt32) &&& (3 : Int32)), vi (((p4.toUInt32 >>> ((18 : Int32) &&& 31).toUInt32).toInt32) &&& (3 : Int32)), vi qc, vi rc, vr b9, vr b20_b, vr b24_b, un] [] _
          refine XS.iconst X25.here hx rfl (hb hby at_146) ?_
          show SS p e below m T25 147 #[vi p1, vi p2, vi p3, vi p4, vi (((p3.toUInt32 >>> ((18 : Int32) &&& 31).toUInt32).toInt32) &&& (3 : Int32)), vi (((p4.toUInt32 >>> ((18 : Int32) &&& 31).toUInt32).toInt32) &&& (3 : Int32)), vi qc, vi rc, vr b9, vr b20_b, vr b24_b, un] [(.int (0 : Int32))] _
          refine XS.istore X25.here hx rfl (hb hby at_147) rfl (l' := #[vi p1, vi p2, vi p3, vi p4, vi (((p3.toUInt32 >>> ((18 : Int32) &&& 31).toUInt32).toInt32) &&& (3 : Int32)), vi (((p4.toUInt32 >>> ((18 : Int32) &&& 31).toUInt32).toInt32) &&& (3 : Int32)), vi qc, vi rc, vr b9, vr b20_b, vr b24_b, vi (0 : Int32)]) rfl ?_
          show SS p e below m T25 149 #[vi p1, vi p2, vi p3, vi p4, vi (((p3.toUInt32 >>> ((18 : Int32) &&& 31).toUInt32).toInt32) &&& (3 : Int32)), vi (((p4.toUInt32 >>> ((18 : Int32) &&& 31).toUInt32).toInt32) &&& (3 : Int32)), vi qc, vi rc, vr b9, vr b20_b, vr b24_b, vi (0 : Int32)] [] _
          refine XS.aload X25.here hx rfl (hb hby at_149) rfl rfl ?_
          show SS p e below m T25 151 #[vi p1, vi p2, vi p3, vi p4, vi (((p3.toUInt32 >>> ((18 : Int32) &&& 31).toUInt32).toInt32) &&& (3 : Int32)), vi (((p4.toUInt32 >>> ((18 : Int32) &&& 31).toUInt32).toInt32) &&& (3 : Int32)), vi qc, vi rc, vr b9, vr b20_b, vr b24_b, vi (0 : Int32)] [(.ref b9)] _
          refine XS.aload X25.here hx rfl (hb hby at_151) rfl rfl ?_
          show SS p e below m T25 153 #[vi p1, vi p2, vi p3, vi p4, vi (((p3.toUInt32 >>> ((18 : Int32) &&& 31).toUInt32).toInt32) &&& (3 : Int32)), vi (((p4.toUInt32 >>> ((18 : Int32) &&& 31).toUInt32).toInt32) &&& (3 : Int32)), vi qc, vi rc, vr b9, vr b20_b, vr b24_b, vi (0 : Int32)] [(.ref b20_b), (.ref b9)] _
          refine XS.aload X25.here hx rfl (hb hby at_153) rfl rfl ?_
          show SS p e below m T25 155 #[vi p1, vi p2, vi p3, vi p4, vi (((p3.toUInt32 >>> ((18 : Int32) &&& 31).toUInt32).toInt32) &&& (3 : Int32)), vi (((p4.toUInt32 >>> ((18 : Int32) &&& 31).toUInt32).toInt32) &&& (3 : Int32)), vi qc, vi rc, vr b9, vr b20_b, vr b24_b, vi (0 : Int32)] [(.ref b24_b), (.ref b20_b), (.ref b9)] _
          refine st28.trans ?_
          show SS p e below m T28 158 #[vi p1, vi p2, vi p3, vi p4, vi (((p3.toUInt32 >>> ((18 : Int32) &&& 31).toUInt32).toInt32) &&& (3 : Int32)), vi (((p4.toUInt32 >>> ((18 : Int32) &&& 31).toUInt32).toInt32) &&& (3 : Int32)), vi qc, vi rc, vr b9, vr b20_b, vr b24_b, vi (0 : Int32)] [(.int (if (own_eq p1 qc) = 0 then (0 : Int32) else if (own_eq p2 rc) = 0 then 0 else 1))] _
          refine XS.iload X28.here hx rfl (hb hby at_158) rfl ?_
          show SS p e below m T28 160 #[vi p1, vi p2, vi p3, vi p4, vi (((p3.toUInt32 >>> ((18 : Int32) &&& 31).toUInt32).toInt32) &&& (3 : Int32)), vi (((p4.toUInt32 >>> ((18 : Int32) &&& 31).toUInt32).toInt32) &&& (3 : Int32)), vi qc, vi rc, vr b9, vr b20_b, vr b24_b, vi (0 : Int32)] [(.int (0 : Int32)), (.int (if (own_eq p1 qc) = 0 then (0 : Int32) else if (own_eq p2 rc) = 0 then 0 else 1))] _
          refine XS.icmpNo X28.here hx rfl (hb hby at_160) rfl (teq (by simp [hc130_27])).2 ?_
          show SS p e below m T28 163 #[vi p1, vi p2, vi p3, vi p4, vi (((p3.toUInt32 >>> ((18 : Int32) &&& 31).toUInt32).toInt32) &&& (3 : Int32)), vi (((p4.toUInt32 >>> ((18 : Int32) &&& 31).toUInt32).toInt32) &&& (3 : Int32)), vi qc, vi rc, vr b9, vr b20_b, vr b24_b, vi (0 : Int32)] [] _
          refine XS.iconst X28.here hx rfl (hb hby at_163) ?_
          show SS p e below m T28 164 #[vi p1, vi p2, vi p3, vi p4, vi (((p3.toUInt32 >>> ((18 : Int32) &&& 31).toUInt32).toInt32) &&& (3 : Int32)), vi (((p4.toUInt32 >>> ((18 : Int32) &&& 31).toUInt32).toInt32) &&& (3 : Int32)), vi qc, vi rc, vr b9, vr b20_b, vr b24_b, vi (0 : Int32)] [(.int (1 : Int32))] _
          refine XS.goto X28.here hx rfl (pc0 := 164) (pc' := 168) rfl (hb hby at_164) (by decide) (by decide) ?_
          show SS p e below m T28 168 #[vi p1, vi p2, vi p3, vi p4, vi (((p3.toUInt32 >>> ((18 : Int32) &&& 31).toUInt32).toInt32) &&& (3 : Int32)), vi (((p4.toUInt32 >>> ((18 : Int32) &&& 31).toUInt32).toInt32) &&& (3 : Int32)), vi qc, vi rc, vr b9, vr b20_b, vr b24_b, vi (0 : Int32)] [(.int (1 : Int32))] _
          exact retN X28 hx (t := .boolean) Bd.returns (by simp) (hb hby at_168) hr
        · show Q_rm0 Z p1 p2 p3 p4 zc h0 n0 _ T28.heap _
          rw [e28]
          exact ⟨rfl, N28, KC⟩
        · show CHr Z EL s.vm s.heap T28.vm T28.heap
          rw [hh, e28]
          exact hC.trans (CHv.at X28 hZ hEL hC.1)
      · obtain ⟨_, _, ⟨T29, L29, k29, n29⟩, -, X29, ⟨Lc29, hQ29, l29, y29, z29⟩, st29⟩ := Jvm.LawKit.callS X25 hx (y := y_4) hown (mvT hZ (ww hw 68 rfl)) (mvT hZ (ww hw 69 rfl)) (mvT hZ (ww hw 5 rfl)) (mvT hZ (ww hw 70 rfl)) (by decide) (backOf (W := 0) (rmSm l Z a0 hw [] p2 rc T24.heap n0 (Nat.le_trans Z0 KC.1) O0 ) hZ (ww hw 70 rfl) (ww hw 5 rfl) (by decide) (by decide)) (g := (mkF m 136 #[vi p1, vi p2, vi p3, vi p4, vi (((p3.toUInt32 >>> ((18 : Int32) &&& 31).toUInt32).toInt32) &&& (3 : Int32)), vi (((p4.toUInt32 >>> ((18 : Int32) &&& 31).toUInt32).toInt32) &&& (3 : Int32)), vi qc, vi rc, vr b9, vr b20_b, vr b24_b, un] [(.int rc), (.int p2)])) rfl (by rw [hml]; rfl) (argsL := [(.int p2), (.int rc)]) (rest := []) (lenOf pd_18 rfl) rfl (by show 2 * 0 + _ ≤ _; exact Nat.le_of_eq rfl) (hb hby at_136) (fun _ _ => ⟨rfl, e25, (by decide : 25 + 0 ≤ _), (by decide : 51 + 0 ≤ _)⟩)
        dsimp only [Pt.U, Pt.locs, Pt.cells, Pt.slots] at X29 l29 y29 z29 st29 hQ29
        subst l29 y29 z29
        obtain ⟨rfl, N29q, e29⟩ := hQ29
        have N29 := Fr.app N25 N29q
        have pre30 : ∀ t, Steps p.tables e below (T29.setTop (mkF m 139 #[vi p1, vi p2, vi p3, vi p4, vi (((p3.toUInt32 >>> ((18 : Int32) &&& 31).toUInt32).toInt32) &&& (3 : Int32)), vi (((p4.toUInt32 >>> ((18 : Int32) &&& 31).toUInt32).toInt32) &&& (3 : Int32)), vi qc, vi rc, vr b9, vr b20_b, vr b24_b, un] [(.int (own_eq p2 rc))])) t → Steps p.tables e below (s₁.setTop (entryFrame m #[(.int p1), (.int p2), (.int p3), (.int p4)] maxLocals)) t := by
          intro t kt
          refine pre26 t ?_
          show SS p e below m T25 130 #[vi p1, vi p2, vi p3, vi p4, vi (((p3.toUInt32 >>> ((18 : Int32) &&& 31).toUInt32).toInt32) &&& (3 : Int32)), vi (((p4.toUInt32 >>> ((18 : Int32) &&& 31).toUInt32).toInt32) &&& (3 : Int32)), vi qc, vi rc, vr b9, vr b20_b, vr b24_b, un] [(.int (own_eq p1 qc))] _
          refine XS.ifNo X25.here hx rfl (hb hby at_130) rfl ((if0 _ _).trans (feq hc130_27).1) ?_
          show SS p e below m T25 133 #[vi p1, vi p2, vi p3, vi p4, vi (((p3.toUInt32 >>> ((18 : Int32) &&& 31).toUInt32).toInt32) &&& (3 : Int32)), vi (((p4.toUInt32 >>> ((18 : Int32) &&& 31).toUInt32).toInt32) &&& (3 : Int32)), vi qc, vi rc, vr b9, vr b20_b, vr b24_b, un] [] _
          refine XS.iloadN X25.here hx rfl (hb hby at_133) rfl ?_
          show SS p e below m T25 134 #[vi p1, vi p2, vi p3, vi p4, vi (((p3.toUInt32 >>> ((18 : Int32) &&& 31).toUInt32).toInt32) &&& (3 : Int32)), vi (((p4.toUInt32 >>> ((18 : Int32) &&& 31).toUInt32).toInt32) &&& (3 : Int32)), vi qc, vi rc, vr b9, vr b20_b, vr b24_b, un] [(.int p2)] _
          refine XS.iload X25.here hx rfl (hb hby at_134) rfl ?_
          show SS p e below m T25 136 #[vi p1, vi p2, vi p3, vi p4, vi (((p3.toUInt32 >>> ((18 : Int32) &&& 31).toUInt32).toInt32) &&& (3 : Int32)), vi (((p4.toUInt32 >>> ((18 : Int32) &&& 31).toUInt32).toInt32) &&& (3 : Int32)), vi qc, vi rc, vr b9, vr b20_b, vr b24_b, un] [(.int rc), (.int p2)] _
          refine st29 _ ?_
          exact kt
        by_cases hc139_31 : (own_eq p2 rc) = (0 : Int32)
        · obtain ⟨cq32, kq32, q32a, q32b, q32c⟩ := isOf hZ e29 A9
          obtain ⟨_, _, ⟨T32, L32, k32, n32⟩, -, X32, ⟨Lc32, hQ32, l32, y32, z32⟩, st32⟩ := X29.virtualBack hx (y := y_19) (z := y_19) hown (mvT hZ (ww hw 71 rfl)) (mvT hZ (ww hw 72 rfl)) (notFace_of_selects (args := #[]) (mvT hZ (ww hw 74 rfl))) (mvT hZ (ww hw 74 rfl)) (mvT hZ (ww hw 73 rfl)) (by decide) (backOf (W := 0) (rmIs l Z a0 hw [] b9 b20_b b24_b b10_b b11_b t_10 k_10 p1 t_11 k_11 p2 t_20 k_20 qc t_24 k_24 rc zc T24.heap n0 (Nat.le_trans Z0 KC.1) O0 F_type_a1_12 F_element_a1_12 E_b_10 F_value_b_10 F_coder_b_10 V_t_10 E_b_11 F_value_b_11 F_coder_b_11 V_t_11 E_b_20 F_value_b_20 F_coder_b_20 V_t_20 E_b_24 F_value_b_24 F_coder_b_24 V_t_24 ne_b10_b_b20_b ne_b11_b_b24_b S_CS hz) hZ (ww hw 75 rfl) (ww hw 2 rfl) (by decide) (by decide)) q32a q32c (g := (mkF m 155 #[vi p1, vi p2, vi p3, vi p4, vi (((p3.toUInt32 >>> ((18 : Int32) &&& 31).toUInt32).toInt32) &&& (3 : Int32)), vi (((p4.toUInt32 >>> ((18 : Int32) &&& 31).toUInt32).toInt32) &&& (3 : Int32)), vi qc, vi rc, vr b9, vr b20_b, vr b24_b, vi (0 : Int32)] [(.ref b24_b), (.ref b20_b), (.ref b9)])) rfl (by rw [hml]; rfl) (Steps.refl _) (argsL := [(.ref b20_b), (.ref b24_b)]) (rest := []) (lenOf pd_17 rfl) rfl (by show 2 * 0 + _ ≤ _; exact Nat.le_of_eq rfl) (hb hby at_155) (fun _ _ => ⟨rfl, e29, (by decide : 25 + 0 ≤ _), (by decide : 51 + 0 ≤ _)⟩)
          dsimp only [Pt.U, Pt.locs, Pt.cells, Pt.slots] at X32 l32 y32 z32 st32 hQ32
          subst l32 y32 z32
          obtain ⟨rfl, N32q, e32⟩ := hQ32
          have N32 := Fr.app N29 N32q
          obtain ⟨fs, hr, hrun, hended, hRE⟩ := X32.leaveW hS (by rw [e32]; exact hk) (v := some (.int (1 : Int32))) (fun h => by rw [Bd.returns] at h; cases h)
          refine ⟨_, _, pre30 _ ?_, hrun, hended, _, _, rfl, ?_, ?_, hRE.1, hRE.2.1, hRE.2.2.1, hRE.2.2.2.mono (by decide) (by decide)⟩
          · show SS p e below m T29 139 #[vi p1, vi p2, vi p3, vi p4, vi (((p3.toUInt32 >>> ((18 : Int32) &&& 31).toUInt32).toInt32) &&& (3 : Int32)), vi (((p4.toUInt32 >>> ((18 : Int32) &&& 31).toUInt32).toInt32) &&& (3 : Int32)), vi qc, vi rc, vr b9, vr b20_b, vr b24_b, un] [(.int (own_eq p2 rc))] _
            refine XS.ifYes X29.here hx rfl (pc0 := 139) (pc' := 146) rfl (hb hby at_139) rfl ((if0 _ _).trans (teq hc139_31).1) (by decide) (by decide) ?_
            show SS p e below m T29 146 #[vi p1, vi p2, vi p3, vi p4, vi (((p3.toUInt32 >>> ((18 : Int32) &&& 31).toUInt32).toInt32) &&& (3 : Int32)), vi (((p4.toUInt32 >>> ((18 : Int32) &&& 31).toUInt32).toInt32) &&& (3 : Int32)), vi qc, vi rc, vr b9, vr b20_b, vr b24_b, un] [] _
            refine XS.iconst X29.here hx rfl (hb hby at_146) ?_
            show SS p e below m T29 147 #[vi p1, vi p2, vi p3, vi p4, vi (((p3.toUInt32 >>> ((18 : Int32) &&& 31).toUInt32).toInt32) &&& (3 : Int32)), vi (((p4.toUInt32 >>> ((18 : Int32) &&& 31).toUInt32).toInt32) &&& (3 : Int32)), vi qc, vi rc, vr b9, vr b20_b, vr b24_b, un] [(.int (0 : Int32))] _
            refine XS.istore X29.here hx rfl (hb hby at_147) rfl (l' := #[vi p1, vi p2, vi p3, vi p4, vi (((p3.toUInt32 >>> ((18 : Int32) &&& 31).toUInt32).toInt32) &&& (3 : Int32)), vi (((p4.toUInt32 >>> ((18 : Int32) &&& 31).toUInt32).toInt32) &&& (3 : Int32)), vi qc, vi rc, vr b9, vr b20_b, vr b24_b, vi (0 : Int32)]) rfl ?_
            show SS p e below m T29 149 #[vi p1, vi p2, vi p3, vi p4, vi (((p3.toUInt32 >>> ((18 : Int32) &&& 31).toUInt32).toInt32) &&& (3 : Int32)), vi (((p4.toUInt32 >>> ((18 : Int32) &&& 31).toUInt32).toInt32) &&& (3 : Int32)), vi qc, vi rc, vr b9, vr b20_b, vr b24_b, vi (0 : Int32)] [] _
            refine XS.aload X29.here hx rfl (hb hby at_149) rfl rfl ?_
            show SS p e below m T29 151 #[vi p1, vi p2, vi p3, vi p4, vi (((p3.toUInt32 >>> ((18 : Int32) &&& 31).toUInt32).toInt32) &&& (3 : Int32)), vi (((p4.toUInt32 >>> ((18 : Int32) &&& 31).toUInt32).toInt32) &&& (3 : Int32)), vi qc, vi rc, vr b9, vr b20_b, vr b24_b, vi (0 : Int32)] [(.ref b9)] _
            refine XS.aload X29.here hx rfl (hb hby at_151) rfl rfl ?_
            show SS p e below m T29 153 #[vi p1, vi p2, vi p3, vi p4, vi (((p3.toUInt32 >>> ((18 : Int32) &&& 31).toUInt32).toInt32) &&& (3 : Int32)), vi (((p4.toUInt32 >>> ((18 : Int32) &&& 31).toUInt32).toInt32) &&& (3 : Int32)), vi qc, vi rc, vr b9, vr b20_b, vr b24_b, vi (0 : Int32)] [(.ref b20_b), (.ref b9)] _
            refine XS.aload X29.here hx rfl (hb hby at_153) rfl rfl ?_
            show SS p e below m T29 155 #[vi p1, vi p2, vi p3, vi p4, vi (((p3.toUInt32 >>> ((18 : Int32) &&& 31).toUInt32).toInt32) &&& (3 : Int32)), vi (((p4.toUInt32 >>> ((18 : Int32) &&& 31).toUInt32).toInt32) &&& (3 : Int32)), vi qc, vi rc, vr b9, vr b20_b, vr b24_b, vi (0 : Int32)] [(.ref b24_b), (.ref b20_b), (.ref b9)] _
            refine st32.trans ?_
            show SS p e below m T32 158 #[vi p1, vi p2, vi p3, vi p4, vi (((p3.toUInt32 >>> ((18 : Int32) &&& 31).toUInt32).toInt32) &&& (3 : Int32)), vi (((p4.toUInt32 >>> ((18 : Int32) &&& 31).toUInt32).toInt32) &&& (3 : Int32)), vi qc, vi rc, vr b9, vr b20_b, vr b24_b, vi (0 : Int32)] [(.int (if (own_eq p1 qc) = 0 then (0 : Int32) else if (own_eq p2 rc) = 0 then 0 else 1))] _
            refine XS.iload X32.here hx rfl (hb hby at_158) rfl ?_
            show SS p e below m T32 160 #[vi p1, vi p2, vi p3, vi p4, vi (((p3.toUInt32 >>> ((18 : Int32) &&& 31).toUInt32).toInt32) &&& (3 : Int32)), vi (((p4.toUInt32 >>> ((18 : Int32) &&& 31).toUInt32).toInt32) &&& (3 : Int32)), vi qc, vi rc, vr b9, vr b20_b, vr b24_b, vi (0 : Int32)] [(.int (0 : Int32)), (.int (if (own_eq p1 qc) = 0 then (0 : Int32) else if (own_eq p2 rc) = 0 then 0 else 1))] _
            refine XS.icmpNo X32.here hx rfl (hb hby at_160) rfl (teq (by simp [hc130_27, hc139_31])).2 ?_
            show SS p e below m T32 163 #[vi p1, vi p2, vi p3, vi p4, vi (((p3.toUInt32 >>> ((18 : Int32) &&& 31).toUInt32).toInt32) &&& (3 : Int32)), vi (((p4.toUInt32 >>> ((18 : Int32) &&& 31).toUInt32).toInt32) &&& (3 : Int32)), vi qc, vi rc, vr b9, vr b20_b, vr b24_b, vi (0 : Int32)] [] _
            refine XS.iconst X32.here hx rfl (hb hby at_163) ?_
            show SS p e below m T32 164 #[vi p1, vi p2, vi p3, vi p4, vi (((p3.toUInt32 >>> ((18 : Int32) &&& 31).toUInt32).toInt32) &&& (3 : Int32)), vi (((p4.toUInt32 >>> ((18 : Int32) &&& 31).toUInt32).toInt32) &&& (3 : Int32)), vi qc, vi rc, vr b9, vr b20_b, vr b24_b, vi (0 : Int32)] [(.int (1 : Int32))] _
            refine XS.goto X32.here hx rfl (pc0 := 164) (pc' := 168) rfl (hb hby at_164) (by decide) (by decide) ?_
            show SS p e below m T32 168 #[vi p1, vi p2, vi p3, vi p4, vi (((p3.toUInt32 >>> ((18 : Int32) &&& 31).toUInt32).toInt32) &&& (3 : Int32)), vi (((p4.toUInt32 >>> ((18 : Int32) &&& 31).toUInt32).toInt32) &&& (3 : Int32)), vi qc, vi rc, vr b9, vr b20_b, vr b24_b, vi (0 : Int32)] [(.int (1 : Int32))] _
            exact retN X32 hx (t := .boolean) Bd.returns (by simp) (hb hby at_168) hr
          · show Q_rm0 Z p1 p2 p3 p4 zc h0 n0 _ T32.heap _
            rw [e32]
            exact ⟨rfl, N32, KC⟩
          · show CHr Z EL s.vm s.heap T32.vm T32.heap
            rw [hh, e32]
            exact hC.trans (CHv.at X32 hZ hEL hC.1)
        · obtain ⟨cq33, kq33, q33a, q33b, q33c⟩ := isOf hZ e29 A9
          obtain ⟨_, _, ⟨T33, L33, k33, n33⟩, -, X33, ⟨Lc33, hQ33, l33, y33, z33⟩, st33⟩ := X29.virtualBack hx (y := y_19) (z := y_19) hown (mvT hZ (ww hw 71 rfl)) (mvT hZ (ww hw 72 rfl)) (notFace_of_selects (args := #[]) (mvT hZ (ww hw 74 rfl))) (mvT hZ (ww hw 74 rfl)) (mvT hZ (ww hw 73 rfl)) (by decide) (backOf (W := 0) (rmIs l Z a0 hw [] b9 b20_b b24_b b10_b b11_b t_10 k_10 p1 t_11 k_11 p2 t_20 k_20 qc t_24 k_24 rc zc T24.heap n0 (Nat.le_trans Z0 KC.1) O0 F_type_a1_12 F_element_a1_12 E_b_10 F_value_b_10 F_coder_b_10 V_t_10 E_b_11 F_value_b_11 F_coder_b_11 V_t_11 E_b_20 F_value_b_20 F_coder_b_20 V_t_20 E_b_24 F_value_b_24 F_coder_b_24 V_t_24 ne_b10_b_b20_b ne_b11_b_b24_b S_CS hz) hZ (ww hw 75 rfl) (ww hw 2 rfl) (by decide) (by decide)) q33a q33c (g := (mkF m 155 #[vi p1, vi p2, vi p3, vi p4, vi (((p3.toUInt32 >>> ((18 : Int32) &&& 31).toUInt32).toInt32) &&& (3 : Int32)), vi (((p4.toUInt32 >>> ((18 : Int32) &&& 31).toUInt32).toInt32) &&& (3 : Int32)), vi qc, vi rc, vr b9, vr b20_b, vr b24_b, vi (1 : Int32)] [(.ref b24_b), (.ref b20_b), (.ref b9)])) rfl (by rw [hml]; rfl) (Steps.refl _) (argsL := [(.ref b20_b), (.ref b24_b)]) (rest := []) (lenOf pd_17 rfl) rfl (by show 2 * 0 + _ ≤ _; exact Nat.le_of_eq rfl) (hb hby at_155) (fun _ _ => ⟨rfl, e29, (by decide : 25 + 0 ≤ _), (by decide : 51 + 0 ≤ _)⟩)
          dsimp only [Pt.U, Pt.locs, Pt.cells, Pt.slots] at X33 l33 y33 z33 st33 hQ33
          subst l33 y33 z33
          obtain ⟨rfl, N33q, e33⟩ := hQ33
          have N33 := Fr.app N29 N33q
          obtain ⟨fs, hr, hrun, hended, hRE⟩ := X33.leaveW hS (by rw [e33]; exact hk) (v := some (.int (1 : Int32))) (fun h => by rw [Bd.returns] at h; cases h)
          refine ⟨_, _, pre30 _ ?_, hrun, hended, _, _, rfl, ?_, ?_, hRE.1, hRE.2.1, hRE.2.2.1, hRE.2.2.2.mono (by decide) (by decide)⟩
          · show SS p e below m T29 139 #[vi p1, vi p2, vi p3, vi p4, vi (((p3.toUInt32 >>> ((18 : Int32) &&& 31).toUInt32).toInt32) &&& (3 : Int32)), vi (((p4.toUInt32 >>> ((18 : Int32) &&& 31).toUInt32).toInt32) &&& (3 : Int32)), vi qc, vi rc, vr b9, vr b20_b, vr b24_b, un] [(.int (own_eq p2 rc))] _
            refine XS.ifNo X29.here hx rfl (hb hby at_139) rfl ((if0 _ _).trans (feq hc139_31).1) ?_
            show SS p e below m T29 142 #[vi p1, vi p2, vi p3, vi p4, vi (((p3.toUInt32 >>> ((18 : Int32) &&& 31).toUInt32).toInt32) &&& (3 : Int32)), vi (((p4.toUInt32 >>> ((18 : Int32) &&& 31).toUInt32).toInt32) &&& (3 : Int32)), vi qc, vi rc, vr b9, vr b20_b, vr b24_b, un] [] _
            refine XS.iconst X29.here hx rfl (hb hby at_142) ?_
            show SS p e below m T29 143 #[vi p1, vi p2, vi p3, vi p4, vi (((p3.toUInt32 >>> ((18 : Int32) &&& 31).toUInt32).toInt32) &&& (3 : Int32)), vi (((p4.toUInt32 >>> ((18 : Int32) &&& 31).toUInt32).toInt32) &&& (3 : Int32)), vi qc, vi rc, vr b9, vr b20_b, vr b24_b, un] [(.int (1 : Int32))] _
            refine XS.goto X29.here hx rfl (pc0 := 143) (pc' := 147) rfl (hb hby at_143) (by decide) (by decide) ?_
            show SS p e below m T29 147 #[vi p1, vi p2, vi p3, vi p4, vi (((p3.toUInt32 >>> ((18 : Int32) &&& 31).toUInt32).toInt32) &&& (3 : Int32)), vi (((p4.toUInt32 >>> ((18 : Int32) &&& 31).toUInt32).toInt32) &&& (3 : Int32)), vi qc, vi rc, vr b9, vr b20_b, vr b24_b, un] [(.int (1 : Int32))] _
            refine XS.istore X29.here hx rfl (hb hby at_147) rfl (l' := #[vi p1, vi p2, vi p3, vi p4, vi (((p3.toUInt32 >>> ((18 : Int32) &&& 31).toUInt32).toInt32) &&& (3 : Int32)), vi (((p4.toUInt32 >>> ((18 : Int32) &&& 31).toUInt32).toInt32) &&& (3 : Int32)), vi qc, vi rc, vr b9, vr b20_b, vr b24_b, vi (1 : Int32)]) rfl ?_
            show SS p e below m T29 149 #[vi p1, vi p2, vi p3, vi p4, vi (((p3.toUInt32 >>> ((18 : Int32) &&& 31).toUInt32).toInt32) &&& (3 : Int32)), vi (((p4.toUInt32 >>> ((18 : Int32) &&& 31).toUInt32).toInt32) &&& (3 : Int32)), vi qc, vi rc, vr b9, vr b20_b, vr b24_b, vi (1 : Int32)] [] _
            refine XS.aload X29.here hx rfl (hb hby at_149) rfl rfl ?_
            show SS p e below m T29 151 #[vi p1, vi p2, vi p3, vi p4, vi (((p3.toUInt32 >>> ((18 : Int32) &&& 31).toUInt32).toInt32) &&& (3 : Int32)), vi (((p4.toUInt32 >>> ((18 : Int32) &&& 31).toUInt32).toInt32) &&& (3 : Int32)), vi qc, vi rc, vr b9, vr b20_b, vr b24_b, vi (1 : Int32)] [(.ref b9)] _
            refine XS.aload X29.here hx rfl (hb hby at_151) rfl rfl ?_
            show SS p e below m T29 153 #[vi p1, vi p2, vi p3, vi p4, vi (((p3.toUInt32 >>> ((18 : Int32) &&& 31).toUInt32).toInt32) &&& (3 : Int32)), vi (((p4.toUInt32 >>> ((18 : Int32) &&& 31).toUInt32).toInt32) &&& (3 : Int32)), vi qc, vi rc, vr b9, vr b20_b, vr b24_b, vi (1 : Int32)] [(.ref b20_b), (.ref b9)] _
            refine XS.aload X29.here hx rfl (hb hby at_153) rfl rfl ?_
            show SS p e below m T29 155 #[vi p1, vi p2, vi p3, vi p4, vi (((p3.toUInt32 >>> ((18 : Int32) &&& 31).toUInt32).toInt32) &&& (3 : Int32)), vi (((p4.toUInt32 >>> ((18 : Int32) &&& 31).toUInt32).toInt32) &&& (3 : Int32)), vi qc, vi rc, vr b9, vr b20_b, vr b24_b, vi (1 : Int32)] [(.ref b24_b), (.ref b20_b), (.ref b9)] _
            refine st33.trans ?_
            show SS p e below m T33 158 #[vi p1, vi p2, vi p3, vi p4, vi (((p3.toUInt32 >>> ((18 : Int32) &&& 31).toUInt32).toInt32) &&& (3 : Int32)), vi (((p4.toUInt32 >>> ((18 : Int32) &&& 31).toUInt32).toInt32) &&& (3 : Int32)), vi qc, vi rc, vr b9, vr b20_b, vr b24_b, vi (1 : Int32)] [(.int (if (own_eq p1 qc) = 0 then (0 : Int32) else if (own_eq p2 rc) = 0 then 0 else 1))] _
            refine XS.iload X33.here hx rfl (hb hby at_158) rfl ?_
            show SS p e below m T33 160 #[vi p1, vi p2, vi p3, vi p4, vi (((p3.toUInt32 >>> ((18 : Int32) &&& 31).toUInt32).toInt32) &&& (3 : Int32)), vi (((p4.toUInt32 >>> ((18 : Int32) &&& 31).toUInt32).toInt32) &&& (3 : Int32)), vi qc, vi rc, vr b9, vr b20_b, vr b24_b, vi (1 : Int32)] [(.int (1 : Int32)), (.int (if (own_eq p1 qc) = 0 then (0 : Int32) else if (own_eq p2 rc) = 0 then 0 else 1))] _
            refine XS.icmpNo X33.here hx rfl (hb hby at_160) rfl (teq (by simp [hc130_27, hc139_31])).2 ?_
            show SS p e below m T33 163 #[vi p1, vi p2, vi p3, vi p4, vi (((p3.toUInt32 >>> ((18 : Int32) &&& 31).toUInt32).toInt32) &&& (3 : Int32)), vi (((p4.toUInt32 >>> ((18 : Int32) &&& 31).toUInt32).toInt32) &&& (3 : Int32)), vi qc, vi rc, vr b9, vr b20_b, vr b24_b, vi (1 : Int32)] [] _
            refine XS.iconst X33.here hx rfl (hb hby at_163) ?_
            show SS p e below m T33 164 #[vi p1, vi p2, vi p3, vi p4, vi (((p3.toUInt32 >>> ((18 : Int32) &&& 31).toUInt32).toInt32) &&& (3 : Int32)), vi (((p4.toUInt32 >>> ((18 : Int32) &&& 31).toUInt32).toInt32) &&& (3 : Int32)), vi qc, vi rc, vr b9, vr b20_b, vr b24_b, vi (1 : Int32)] [(.int (1 : Int32))] _
            refine XS.goto X33.here hx rfl (pc0 := 164) (pc' := 168) rfl (hb hby at_164) (by decide) (by decide) ?_
            show SS p e below m T33 168 #[vi p1, vi p2, vi p3, vi p4, vi (((p3.toUInt32 >>> ((18 : Int32) &&& 31).toUInt32).toInt32) &&& (3 : Int32)), vi (((p4.toUInt32 >>> ((18 : Int32) &&& 31).toUInt32).toInt32) &&& (3 : Int32)), vi qc, vi rc, vr b9, vr b20_b, vr b24_b, vi (1 : Int32)] [(.int (1 : Int32))] _
            exact retN X33 hx (t := .boolean) Bd.returns (by simp) (hb hby at_168) hr
          · show Q_rm0 Z p1 p2 p3 p4 zc h0 n0 _ T33.heap _
            rw [e33]
            exact ⟨rfl, N33, KC⟩
          · show CHr Z EL s.vm s.heap T33.vm T33.heap
            rw [hh, e33]
            exact hC.trans (CHv.at X33 hZ hEL hC.1)
set_option maxRecDepth 65536 in
set_option maxHeartbeats 40000000 in
theorem comes_1 {Post : Tables → Env → Array Value → State → Outcome → State → Prop} (hpost : ∀ tb e args s v u, (limb_1_1.after args s (.returned v) u = true ∧ limb_1_2.after args s (.returned v) u = true ∧ True) → ReturnedEndW s (.returned v) u (Jvm.fieldLocs frame_1_writes args s ++ Jvm.arrayLocs frame_1_arrays args s ++ Jvm.staticLocs frame_1_statics s) 40 1216 → Post tb e args s (.returned v) u) :
    ArmFor flags0 classFile x code maxLocals ret World_1 tables_1 room_1 Calls_1 rest_1 Pre_1 Post := by
  intro l hfl _ _ p e ha hc hk s m args below hf hA hF happ hP
  obtain ⟨hcalls, hrest, hpre⟩ := hP
  obtain ⟨-, -, -, hnamed, -, -, -, hat⟩ := (Spec.applies_iff hf).mp happ
  obtain ⟨hg, hn⟩ := and_e (Cond.before_iff.mp (show (Jvm.Cond.and given_1 narrow_1).before args s = true from hpre))
  obtain ⟨nw1, nv1⟩ := and_e hg
  obtain ⟨nw2, nv2⟩ := and_e nv1
  obtain ⟨nw3, nv3⟩ := and_e nv2
  obtain ⟨nw4, nv4⟩ := and_e nv3
  obtain ⟨w0, w1, w2, w3, rfl⟩ : ∃ w0 w1 w2 w3 : Value, args = #[w0, w1, w2, w3] := by
    have hs : args.size = 4 := by simpa [Cond.value, given_1] using nw1
    obtain ⟨L⟩ := args
    match L, hs with
    | [w0, w1, w2, w3], _ => exact ⟨w0, w1, w2, w3, rfl⟩
  have hw := fun d (hd : d ∈ tables_1) => atoms_spec (ws := Jvm.Cond.code x code maxLocals ret :: tables_1) hat d (List.mem_cons_of_mem _ hd)
  have hfit : Fit s := fun {y c} hc i hi => by
    obtain ⟨ha, rfl⟩ := Array.getElem?_eq_some_iff.mp hc
    have q := List.all_eq_true.mp ((Array.all_eq_true_iff_forall_mem.mp hF) _ (Array.getElem_mem ha)) i (List.mem_range.mpr hi)
    simpa [Array.getElem?_eq_getElem hi] using q
  obtain ⟨hsets, hown0⟩ := atoms_of _ (rest_1_c_eq ▸ (show rest_1_c.before _ s = true from hrest))
  have hr0 := Cond.before_iff.mp hown0
  obtain ⟨i0, ei0⟩ := is_v nw2
  obtain rfl : w0 = (.int i0) := Option.some.inj ei0
  obtain ⟨i1, ei1⟩ := is_v nw3
  obtain rfl : w1 = (.int i1) := Option.some.inj ei1
  obtain ⟨i2, ei2⟩ := is_v nw4
  obtain rfl : w2 = (.int i2) := Option.some.inj ei2
  obtain ⟨i3, ei3⟩ := is_v nv4
  obtain rfl : w3 = (.int i3) := Option.some.inj ei3
  obtain ⟨zc, evz⟩ := is_v (Cond.before_iff.mp (hsets _ (List.mem_of_getElem? (i := 1) rfl)))
  have S_CS := Sta.start evz (Or.inl (hsets _ (List.mem_of_getElem? (i := 0) rfl)))
  have hz : ¬ zc = (0 : Int32) := fun q => by
    have r := not_v (Cond.before_iff.mp (hsets _ (List.mem_of_getElem? (i := 2) rfl)))
    rw [Cond.eq_ints evz (Term.int_eval (0 : Int32)), q] at r; simp at r
  have hCH : CHv s EL s.vm s.heap := CHv.start (own_hEL hw) hcalls.1 (hsets _ (List.mem_of_getElem? (i := 2) rfl)) (ww hw 29 rfl) (ww hw 15 rfl)
  obtain ⟨n, o, h1, h2, h3, _, L, rfl, ⟨rfl, N, -⟩, -, hq⟩ := rm0 l s _ hw tables_1 i0 i1 i2 i3 zc s.heap s.heap.size (Nat.le_refl _) (Old.start s) S_CS hz p e ha hc hk s m _ below hf ((Spec.applies_iff_loose hf).mp happ).1 ⟨rfl, State.Warmed39.refl s, rfl, hCH⟩ trivial
  refine ⟨n, _, h1, h2, h3, hpost _ _ _ _ _ _ ⟨Cond.after_iff.mpr rfl, Cond.after_iff.mpr (eq_i res_at (Term.int_eval (1)) rfl), trivial⟩ ⟨hq.1, hq.2.1, hq.2.2.1, (hq.2.2.2.sift fun y hy => Or.inr (N y hy)).mono (by decide) (by decide)⟩⟩
theorem main_1_1 : Claimed_1_1 := comes_1 fun _ _ _ _ _ _ h hF => ⟨h.1, hF⟩
theorem main_1_2 : Claimed_1_2 := comes_1 fun _ _ _ _ _ _ h hF => ⟨h.2.1, hF⟩
end Jvm.Pilot.@@N@@
namespace Jvm.Pilot.@@N@@
open Jvm Jvm.ClassFile Sem Op Lib Jvm.Free Jvm.Stand Jvm.Pilot.@@N@@.Jvm.D
/-! MADE BY PROGRAM (witnessworld.py) out of the Statement's table words and the real class files: 22 classes; the members and pool entries that the words name. The judged class is class 1, her method 6. -/
namespace start1
open Jvm.ClassFile
def u (s : String) : CpInfo := .utf8 (stringToUtf16 s)
/-- a pool by its gaps: so many unusable entries, then the entry; so many at the end -/
def gap : Nat → List CpInfo → List CpInfo
  | 0, r => r
  | n + 1, r => .unusable :: gap n r
def poolList (es : List (Nat × CpInfo)) (last : Nat) : List CpInfo := es.foldr (fun e r => gap e.1 (e.2 :: r)) (gap last [])
def pool (es : List (Nat × CpInfo)) (last : Nat) : Array CpInfo := ⟨poolList es last⟩
def fileOf (pool : Array CpInfo) (this : Nat) (attrs : Array Attribute := #[]) (ms : Array MethodInfo := #[]) (fl : Nat := 33) (sup : Nat := 0) (ifs : Array Nat := #[]) (fds : Array FieldInfo := #[]) : ClassFile where
  minorVersion := 0
  majorVersion := 65
  constantPool := pool
  accessFlags := fl
  thisClass := this
  superClass := sup
  interfaces := ifs
  fields := fds
  methods := ms
  attributes := attrs
def plain (name : String) (sup : Option ClassId) : Class where
  name := name
  kind := .ordinary
  loader := none
  accessFlags := 33
  super := sup
  interfaces := #[]
  cf := none
  fields := #[]
  methods := #[]
  instanceTypes := #[]
  staticTypes := #[]
  resolved := #[]
  callSites := []
  init := .initialized
  statics := none
  mirror := none

def pool0 : Array CpInfo := pool [(5, u "<init>"), (0, u "()V"), (1, .class_ 10), (1, u "java/lang/Object")] 113

def k0c0 : Code := { maxStack := 0, maxLocals := 1, code := object_method_1_code, exceptionTable := #[], attributes := #[] }
def k0m0 : Method := { name := "<init>", desc := "()V", sig := { parameters := [], returnType := none }, accessFlags := 1, code := some k0c0 }
/-- java/lang/Object -/
def k0 : Class := { plain "java/lang/Object" none with
  accessFlags := 33
  interfaces := #[]
  cf := some (fileOf pool0 8 #[] #[{ accessFlags := 1, nameIndex := 5, descriptorIndex := 6, attributes := #[] }] 33 0 #[] #[])
  fields := #[]
  methods := #[k0m0]
  instanceTypes := #[]
  staticTypes := #[]
  resolved := Array.replicate 124 none
  statics := none }

def pool1 : Array CpInfo := pool [(2, .class_ 4), (1, u "java/lang/Object"), (0, u "<init>"), (0, u "()V"), (0, .methodref 8 9), (0, .class_ 10), (0, .nameAndType 11 12), (0, u "java/lang/Math"), (0, u "min"), (0, u "(II)I"), (0, .methodref 14 15), (0, .class_ 16), (0, .nameAndType 17 18), (0, u "com/example/brisk_tableau/brisktableau/owl/FuzzyLabelIsPinLaw"), (0, u "len"), (0, u "(I)I"), (0, .class_ 20), (0, u "java/lang/String"), (0, .methodref 19 22), (0, .nameAndType 5 23), (0, u "([C)V"), (0, .methodref 14 25), (0, .nameAndType 26 27), (0, u "c0"), (0, u "(I)C"), (0, .methodref 19 29), (0, .nameAndType 30 31), (0, u "valueOf"), (0, u "(C)Ljava/lang/String;"), (0, .methodref 14 33), (0, .nameAndType 34 27), (0, u "c1"), (0, .class_ 36), (0, u "com/example/brisk_tableau/brisktableau/owl/FuzzyLabel"), (0, .methodref 14 38), (0, .nameAndType 39 40), (0, u "mk"), (0, u "(I)Ljava/lang/String;"), (0, .methodref 35 42), (0, .nameAndType 5 43), (0, u "(Ljava/lang/String;Ljava/lang/String;Ljava/util/Map;)V"), (0, .methodref 14 45), (0, .nameAndType 46 47), (0, u "same"), (0, u "(II)Z"), (0, .methodref 35 49), (0, .nameAndType 50 51), (0, u "is"), (0, u "(Ljava/lang/String;Ljava/lang/String;)Z"), (3, u "law"), (0, u "(IIII)Z")] 2

def k1m0 : Method := { name := "<init>", desc := "()V", sig := { parameters := [], returnType := none }, accessFlags := 1, code := none }
def k1c1 : Code := { maxStack := 2, maxLocals := 1, code := method_2_code, exceptionTable := #[], attributes := #[] }
def k1m1 : Method := { name := "len", desc := "(I)I", sig := { parameters := [.int], returnType := some .int }, accessFlags := 10, code := some k1c1 }
def k1c2 : Code := { maxStack := 2, maxLocals := 1, code := method_3_code, exceptionTable := #[], attributes := #[] }
def k1m2 : Method := { name := "c0", desc := "(I)C", sig := { parameters := [.int], returnType := some .char }, accessFlags := 10, code := some k1c2 }
def k1c3 : Code := { maxStack := 2, maxLocals := 1, code := method_4_code, exceptionTable := #[], attributes := #[] }
def k1m3 : Method := { name := "c1", desc := "(I)C", sig := { parameters := [.int], returnType := some .char }, accessFlags := 10, code := some k1c3 }
def k1c4 : Code := { maxStack := 6, maxLocals := 2, code := method_5_code, exceptionTable := #[], attributes := #[] }
def k1m4 : Method := { name := "mk", desc := "(I)Ljava/lang/String;", sig := { parameters := [.int], returnType := some (.object "java/lang/String") }, accessFlags := 10, code := some k1c4 }
def k1c5 : Code := { maxStack := 2, maxLocals := 3, code := method_6_code, exceptionTable := #[], attributes := #[] }
def k1m5 : Method := { name := "same", desc := "(II)Z", sig := { parameters := [.int, .int], returnType := some .boolean }, accessFlags := 10, code := some k1c5 }
def k1c6 : Code := { maxStack := 5, maxLocals := 12, code := code, exceptionTable := #[], attributes := #[] }
def k1m6 : Method := { name := "law", desc := "(IIII)Z", sig := { parameters := [.int, .int, .int, .int], returnType := some .boolean }, accessFlags := 9, code := some k1c6 }
/-- com/example/brisk_tableau/brisktableau/owl/FuzzyLabelIsPinLaw -/
def k1 : Class := { plain "com/example/brisk_tableau/brisktableau/owl/FuzzyLabelIsPinLaw" (some 0) with
  accessFlags := 49
  interfaces := #[]
  cf := some (fileOf pool1 14 #[] #[{ accessFlags := 1, nameIndex := 5, descriptorIndex := 6, attributes := #[] }, { accessFlags := 10, nameIndex := 17, descriptorIndex := 18, attributes := #[] }, { accessFlags := 10, nameIndex := 26, descriptorIndex := 27, attributes := #[] }, { accessFlags := 10, nameIndex := 34, descriptorIndex := 27, attributes := #[] }, { accessFlags := 10, nameIndex := 39, descriptorIndex := 40, attributes := #[] }, { accessFlags := 10, nameIndex := 46, descriptorIndex := 47, attributes := #[] }, { accessFlags := 9, nameIndex := 55, descriptorIndex := 56, attributes := #[] }] 49 2 #[] #[])
  fields := #[]
  methods := #[k1m0, k1m1, k1m2, k1m3, k1m4, k1m5, k1m6]
  instanceTypes := #[]
  staticTypes := #[]
  resolved := Array.replicate 59 none
  statics := none }

def pool2 : Array CpInfo := pool [(1, .methodref 2 3), (0, .class_ 4), (0, .nameAndType 5 6), (0, u "java/lang/Object"), (0, u "<init>"), (0, u "()V"), (0, .class_ 8), (0, u "java/lang/Record")] 13

def k2c0 : Code := { maxStack := 1, maxLocals := 1, code := jdk_30_method_1_code, exceptionTable := #[], attributes := #[] }
def k2m0 : Method := { name := "<init>", desc := "()V", sig := { parameters := [], returnType := none }, accessFlags := 4, code := some k2c0 }
/-- java/lang/Record -/
def k2 : Class := { plain "java/lang/Record" (some 0) with
  accessFlags := 1057
  interfaces := #[]
  cf := some (fileOf pool2 7 #[] #[{ accessFlags := 4, nameIndex := 5, descriptorIndex := 6, attributes := #[] }] 1057 2 #[] #[])
  fields := #[]
  methods := #[k2m0]
  instanceTypes := #[]
  staticTypes := #[]
  resolved := Array.replicate 22 none
  statics := none }

def pool3 : Array CpInfo := pool [(1, .methodref 2 3), (0, .class_ 4), (0, .nameAndType 5 6), (0, u "java/lang/Record"), (0, u "<init>"), (0, u "()V"), (0, .fieldref 8 9), (0, .class_ 10), (0, .nameAndType 11 12), (0, u "com/example/brisk_tableau/brisktableau/owl/FuzzyLabel"), (0, u "type"), (0, u "Ljava/lang/String;"), (0, .fieldref 8 14), (0, .nameAndType 15 12), (0, u "element"), (0, .fieldref 8 17), (0, .nameAndType 18 19), (0, u "attributes"), (0, u "Ljava/util/Map;"), (0, .methodref 21 22), (0, .class_ 23), (0, .nameAndType 24 25), (0, u "java/lang/String"), (0, u "equals"), (0, u "(Ljava/lang/Object;)Z"), (124, u "(Ljava/lang/String;Ljava/lang/String;Ljava/util/Map;)V"), (28, u "QUIET"), (0, u "Lorg/xml/sax/ErrorHandler;"), (22, .class_ 204), (0, u "com/example/brisk_tableau/brisktableau/owl/FuzzyLabel$1"), (3, u "ROOT"), (5, u "is"), (0, u "(Ljava/lang/String;Ljava/lang/String;)Z")] 39

def k3c0 : Code := { maxStack := 2, maxLocals := 4, code := prog_37_method_1_code, exceptionTable := #[], attributes := #[] }
def k3m0 : Method := { name := "<init>", desc := "(Ljava/lang/String;Ljava/lang/String;Ljava/util/Map;)V", sig := { parameters := [(.object "java/lang/String"), (.object "java/lang/String"), (.object "java/util/Map")], returnType := none }, accessFlags := 0, code := some k3c0 }
def k3c1 : Code := { maxStack := 2, maxLocals := 3, code := prog_37_method_2_code, exceptionTable := #[], attributes := #[] }
def k3m1 : Method := { name := "is", desc := "(Ljava/lang/String;Ljava/lang/String;)Z", sig := { parameters := [(.object "java/lang/String"), (.object "java/lang/String")], returnType := some .boolean }, accessFlags := 0, code := some k3c1 }
/-- com/example/brisk_tableau/brisktableau/owl/FuzzyLabel -/
def k3 : Class := { plain "com/example/brisk_tableau/brisktableau/owl/FuzzyLabel" (some 2) with
  accessFlags := 48
  interfaces := #[]
  cf := some (fileOf pool3 8 #[.nestMembers #[203]] #[{ accessFlags := 0, nameIndex := 5, descriptorIndex := 150, attributes := #[] }, { accessFlags := 0, nameIndex := 214, descriptorIndex := 215, attributes := #[] }] 48 2 #[] #[{ accessFlags := 18, nameIndex := 11, descriptorIndex := 12, attributes := #[] }, { accessFlags := 18, nameIndex := 15, descriptorIndex := 12, attributes := #[] }, { accessFlags := 18, nameIndex := 18, descriptorIndex := 19, attributes := #[] }, { accessFlags := 26, nameIndex := 208, descriptorIndex := 12, attributes := #[] }, { accessFlags := 26, nameIndex := 179, descriptorIndex := 180, attributes := #[] }])
  fields := #[{ name := "type", type := (.object "java/lang/String"), accessFlags := 18, slot := 0, constantValue := 0 }, { name := "element", type := (.object "java/lang/String"), accessFlags := 18, slot := 1, constantValue := 0 }, { name := "attributes", type := (.object "java/util/Map"), accessFlags := 18, slot := 2, constantValue := 0 }, { name := "ROOT", type := (.object "java/lang/String"), accessFlags := 26, slot := 0, constantValue := 0 }, { name := "QUIET", type := (.object "org/xml/sax/ErrorHandler"), accessFlags := 26, slot := 1, constantValue := 0 }]
  methods := #[k3m0, k3m1]
  instanceTypes := #[(.object "java/lang/String"), (.object "java/lang/String"), (.object "java/util/Map")]
  staticTypes := #[(.object "java/lang/String"), (.object "org/xml/sax/ErrorHandler")]
  resolved := Array.replicate 255 none
  statics := none }

def pool4 : Array CpInfo := pool [(1, .class_ 2), (0, u "java/lang/Math"), (1, .class_ 6), (1, u "java/lang/Object"), (0, u "<init>"), (0, u "()V"), (89, .class_ 100), (1, u "java/lang/Math$RandomNumberGeneratorHolder"), (71, u "negativeZeroFloatBits"), (0, u "J"), (2, u "negativeZeroDoubleBits"), (24, u "min"), (43, u "$assertionsDisabled"), (0, u "Z"), (88, u "(II)I"), (2, u "twoToTheDoubleScaleDown"), (0, u "D"), (4, u "twoToTheDoubleScaleUp"), (9, u "E"), (3, u "PI"), (2, u "TAU"), (2, u "DEGREES_TO_RADIANS"), (0, u "RADIANS_TO_DEGREES")] 94

def k4m0 : Method := { name := "<init>", desc := "()V", sig := { parameters := [], returnType := none }, accessFlags := 2, code := none }
def k4c1 : Code := { maxStack := 2, maxLocals := 2, code := jdk_29_method_69_code, exceptionTable := #[], attributes := #[] }
def k4m1 : Method := { name := "min", desc := "(II)I", sig := { parameters := [.int, .int], returnType := some .int }, accessFlags := 9, code := some k4c1 }
/-- java/lang/Math -/
def k4 : Class := { plain "java/lang/Math" (some 0) with
  accessFlags := 49
  interfaces := #[]
  cf := some (fileOf pool4 1 #[.nestMembers #[98]] #[{ accessFlags := 2, nameIndex := 7, descriptorIndex := 8, attributes := #[] }, { accessFlags := 9, nameIndex := 201, descriptorIndex := 335, attributes := #[] }] 49 4 #[] #[{ accessFlags := 25, nameIndex := 354, descriptorIndex := 339, attributes := #[] }, { accessFlags := 25, nameIndex := 358, descriptorIndex := 339, attributes := #[] }, { accessFlags := 25, nameIndex := 361, descriptorIndex := 339, attributes := #[] }, { accessFlags := 26, nameIndex := 364, descriptorIndex := 339, attributes := #[] }, { accessFlags := 26, nameIndex := 365, descriptorIndex := 339, attributes := #[] }, { accessFlags := 26, nameIndex := 172, descriptorIndex := 173, attributes := #[] }, { accessFlags := 26, nameIndex := 176, descriptorIndex := 173, attributes := #[] }, { accessFlags := 8, nameIndex := 344, descriptorIndex := 339, attributes := #[] }, { accessFlags := 8, nameIndex := 338, descriptorIndex := 339, attributes := #[] }, { accessFlags := 4120, nameIndex := 245, descriptorIndex := 246, attributes := #[] }])
  fields := #[{ name := "E", type := .double, accessFlags := 25, slot := 0, constantValue := 0 }, { name := "PI", type := .double, accessFlags := 25, slot := 1, constantValue := 0 }, { name := "TAU", type := .double, accessFlags := 25, slot := 2, constantValue := 0 }, { name := "DEGREES_TO_RADIANS", type := .double, accessFlags := 26, slot := 3, constantValue := 0 }, { name := "RADIANS_TO_DEGREES", type := .double, accessFlags := 26, slot := 4, constantValue := 0 }, { name := "negativeZeroFloatBits", type := .long, accessFlags := 26, slot := 5, constantValue := 0 }, { name := "negativeZeroDoubleBits", type := .long, accessFlags := 26, slot := 6, constantValue := 0 }, { name := "twoToTheDoubleScaleUp", type := .double, accessFlags := 8, slot := 7, constantValue := 0 }, { name := "twoToTheDoubleScaleDown", type := .double, accessFlags := 8, slot := 8, constantValue := 0 }, { name := "$assertionsDisabled", type := .boolean, accessFlags := 4120, slot := 9, constantValue := 0 }]
  methods := #[k4m0, k4m1]
  instanceTypes := #[]
  staticTypes := #[.double, .double, .double, .double, .double, .long, .long, .double, .double, .boolean]
  resolved := Array.replicate 460 none
  statics := none }

def pool5 : Array CpInfo := pool [(1, .class_ 2), (0, u "java/io/Serializable"), (0, .class_ 4), (0, u "java/lang/Object")] 2

/-- java/io/Serializable -/
def k5 : Class := { plain "java/io/Serializable" (some 0) with
  accessFlags := 1537
  interfaces := #[]
  cf := some (fileOf pool5 1 #[] #[] 1537 3 #[] #[])
  fields := #[]
  methods := #[]
  instanceTypes := #[]
  staticTypes := #[]
  resolved := Array.replicate 7 none
  statics := none }

def pool6 : Array CpInfo := pool [(1, .class_ 2), (0, u "java/lang/Comparable"), (0, .class_ 4), (0, u "java/lang/Object")] 7

/-- java/lang/Comparable -/
def k6 : Class := { plain "java/lang/Comparable" (some 0) with
  accessFlags := 1537
  interfaces := #[]
  cf := some (fileOf pool6 1 #[] #[] 1537 3 #[] #[])
  fields := #[]
  methods := #[]
  instanceTypes := #[]
  staticTypes := #[]
  resolved := Array.replicate 12 none
  statics := none }

def pool7 : Array CpInfo := pool [(2, .class_ 4), (1, u "java/lang/CharSequence"), (42, .class_ 48), (0, u "java/lang/CharSequence$1CodePointIterator"), (10, .class_ 60), (0, u "java/lang/CharSequence$1CharIterator"), (5, .class_ 67), (0, u "java/lang/Object")] 63

/-- java/lang/CharSequence -/
def k7 : Class := { plain "java/lang/CharSequence" (some 0) with
  accessFlags := 1537
  interfaces := #[]
  cf := some (fileOf pool7 2 #[.nestMembers #[47, 59]] #[] 1537 66 #[] #[])
  fields := #[]
  methods := #[]
  instanceTypes := #[]
  staticTypes := #[]
  resolved := Array.replicate 131 none
  statics := none }

def pool8 : Array CpInfo := pool [(1, .class_ 2), (0, u "java/lang/constant/Constable"), (0, .class_ 4), (0, u "java/lang/Object")] 6

/-- java/lang/constant/Constable -/
def k8 : Class := { plain "java/lang/constant/Constable" (some 0) with
  accessFlags := 1537
  interfaces := #[]
  cf := some (fileOf pool8 1 #[] #[] 1537 3 #[] #[])
  fields := #[]
  methods := #[]
  instanceTypes := #[]
  staticTypes := #[]
  resolved := Array.replicate 11 none
  statics := none }

def pool9 : Array CpInfo := pool [(1, .class_ 2), (0, u "java/lang/constant/ConstantDesc"), (0, .class_ 4), (0, u "java/lang/Object")] 32

/-- java/lang/constant/ConstantDesc -/
def k9 : Class := { plain "java/lang/constant/ConstantDesc" (some 0) with
  accessFlags := 1537
  interfaces := #[]
  cf := some (fileOf pool9 1 #[] #[] 1537 3 #[] #[])
  fields := #[]
  methods := #[]
  instanceTypes := #[]
  staticTypes := #[]
  resolved := Array.replicate 37 none
  statics := none }

def pool10 : Array CpInfo := pool [(1, .methodref 2 3), (0, .class_ 4), (0, .nameAndType 5 6), (0, u "java/lang/Object"), (0, u "<init>"), (0, u "()V"), (0, .string 8), (0, u ""), (0, .fieldref 10 11), (0, .class_ 12), (0, .nameAndType 13 14), (0, u "java/lang/String"), (0, u "value"), (0, u "[B"), (0, .fieldref 10 16), (0, .nameAndType 17 18), (0, u "coder"), (0, u "B"), (2, u "hash"), (0, u "I"), (2, u "hashIsZero"), (0, u "Z"), (0, .methodref 10 28), (0, .nameAndType 5 29), (0, u "([CIILjava/lang/Void;)V"), (8, .fieldref 10 39), (0, .nameAndType 40 26), (0, u "COMPACT_STRINGS"), (1, .class_ 44), (1, u "java/lang/StringUTF16"), (0, u "compress"), (1, .methodref 42 48), (0, .nameAndType 49 50), (0, u "coderFromArrayLen"), (0, u "([BI)B"), (2, u "toBytes"), (53, .class_ 109), (1, u "java/lang/StringLatin1"), (67, .methodref 42 178), (0, .nameAndType 45 179), (0, u "([CII)[B"), (29, .methodref 10 210), (0, .nameAndType 5 211), (0, u "([BB)V"), (157, u "(C)Z"), (171, .methodref 107 542), (0, .nameAndType 543 544), (0, u "equals"), (0, u "([B[B)Z"), (28, u "(Ljava/lang/Object;)Z"), (1, .class_ 576), (0, u "java/lang/CharSequence"), (22, u "CASE_INSENSITIVE_ORDER"), (0, u "Ljava/util/Comparator;"), (181, u "valueOf"), (0, u "(C)Ljava/lang/String;"), (226, u "([C)V"), (4, .methodref 107 1016), (0, .nameAndType 1017 369), (0, u "canEncode"), (0, .methodref 107 1019), (0, .nameAndType 53 1020), (0, u "(C)[B"), (80, u "serialPersistentFields"), (0, u "[Ljava/io/ObjectStreamField;"), (0, .class_ 1104), (0, u "java/lang/String$CaseInsensitiveComparator"), (1, .class_ 1107), (0, u "java/io/Serializable"), (0, .class_ 1109), (0, u "java/lang/Comparable"), (0, .class_ 1111), (0, u "java/lang/constant/Constable"), (0, .class_ 1113), (0, u "java/lang/constant/ConstantDesc"), (2, u "serialVersionUID"), (0, u "J"), (3, u "REPL"), (0, u "C"), (2, u "LATIN1"), (1, u "UTF16")] 323

def k10m0 : Method := { name := "<init>", desc := "()V", sig := { parameters := [], returnType := none }, accessFlags := 1, code := none }
def k10c1 : Code := { maxStack := 5, maxLocals := 2, code := jdk_42_method_3_code, exceptionTable := #[], attributes := #[] }
def k10m1 : Method := { name := "<init>", desc := "([C)V", sig := { parameters := [(.array .char)], returnType := none }, accessFlags := 1, code := some k10c1 }
def k10c2 : Code := { maxStack := 2, maxLocals := 3, code := jdk_42_method_66_code, exceptionTable := #[], attributes := #[] }
def k10m2 : Method := { name := "equals", desc := "(Ljava/lang/Object;)Z", sig := { parameters := [(.object "java/lang/Object")], returnType := some .boolean }, accessFlags := 1, code := some k10c2 }
def k10c3 : Code := { maxStack := 4, maxLocals := 1, code := jdk_42_method_139_code, exceptionTable := #[], attributes := #[] }
def k10m3 : Method := { name := "valueOf", desc := "(C)Ljava/lang/String;", sig := { parameters := [.char], returnType := some (.object "java/lang/String") }, accessFlags := 9, code := some k10c3 }
def k10c4 : Code := { maxStack := 4, maxLocals := 6, code := jdk_42_method_149_code, exceptionTable := #[], attributes := #[] }
def k10m4 : Method := { name := "<init>", desc := "([CIILjava/lang/Void;)V", sig := { parameters := [(.array .char), .int, .int, (.object "java/lang/Void")], returnType := none }, accessFlags := 2, code := some k10c4 }
def k10c5 : Code := { maxStack := 2, maxLocals := 3, code := jdk_42_method_151_code, exceptionTable := #[], attributes := #[] }
def k10m5 : Method := { name := "<init>", desc := "([BB)V", sig := { parameters := [(.array .byte), .byte], returnType := none }, accessFlags := 0, code := some k10c5 }
/-- java/lang/String -/
def k10 : Class := { plain "java/lang/String" (some 0) with
  accessFlags := 49
  interfaces := #[5, 6, 7, 8, 9]
  cf := some (fileOf pool10 10 #[.nestMembers #[1103]] #[{ accessFlags := 1, nameIndex := 5, descriptorIndex := 6, attributes := #[] }, { accessFlags := 1, nameIndex := 5, descriptorIndex := 1010, attributes := #[] }, { accessFlags := 1, nameIndex := 543, descriptorIndex := 573, attributes := #[] }, { accessFlags := 9, nameIndex := 782, descriptorIndex := 783, attributes := #[] }, { accessFlags := 2, nameIndex := 5, descriptorIndex := 29, attributes := #[] }, { accessFlags := 0, nameIndex := 5, descriptorIndex := 211, attributes := #[] }] 49 2 #[1106, 1108, 575, 1110, 1112] #[{ accessFlags := 18, nameIndex := 13, descriptorIndex := 14, attributes := #[] }, { accessFlags := 18, nameIndex := 17, descriptorIndex := 18, attributes := #[] }, { accessFlags := 2, nameIndex := 21, descriptorIndex := 22, attributes := #[] }, { accessFlags := 2, nameIndex := 25, descriptorIndex := 26, attributes := #[] }, { accessFlags := 26, nameIndex := 1116, descriptorIndex := 1117, attributes := #[] }, { accessFlags := 24, nameIndex := 40, descriptorIndex := 26, attributes := #[] }, { accessFlags := 26, nameIndex := 1101, descriptorIndex := 1102, attributes := #[] }, { accessFlags := 26, nameIndex := 1121, descriptorIndex := 1122, attributes := #[] }, { accessFlags := 25, nameIndex := 599, descriptorIndex := 600, attributes := #[] }, { accessFlags := 24, nameIndex := 1125, descriptorIndex := 18, attributes := #[] }, { accessFlags := 24, nameIndex := 1127, descriptorIndex := 18, attributes := #[] }])
  fields := #[{ name := "value", type := (.array .byte), accessFlags := 18, slot := 0, constantValue := 0 }, { name := "coder", type := .byte, accessFlags := 18, slot := 1, constantValue := 0 }, { name := "hash", type := .int, accessFlags := 2, slot := 2, constantValue := 0 }, { name := "hashIsZero", type := .boolean, accessFlags := 2, slot := 3, constantValue := 0 }, { name := "serialVersionUID", type := .long, accessFlags := 26, slot := 0, constantValue := 0 }, { name := "COMPACT_STRINGS", type := .boolean, accessFlags := 24, slot := 1, constantValue := 0 }, { name := "serialPersistentFields", type := (.array (.object "java/io/ObjectStreamField")), accessFlags := 26, slot := 2, constantValue := 0 }, { name := "REPL", type := .char, accessFlags := 26, slot := 3, constantValue := 0 }, { name := "CASE_INSENSITIVE_ORDER", type := (.object "java/util/Comparator"), accessFlags := 25, slot := 4, constantValue := 0 }, { name := "LATIN1", type := .byte, accessFlags := 24, slot := 5, constantValue := 0 }, { name := "UTF16", type := .byte, accessFlags := 24, slot := 6, constantValue := 0 }]
  methods := #[k10m0, k10m1, k10m2, k10m3, k10m4, k10m5]
  instanceTypes := #[(.array .byte), .byte, .int, .boolean]
  staticTypes := #[.long, .boolean, (.array (.object "java/io/ObjectStreamField")), .char, (.object "java/util/Comparator"), .byte, .byte]
  resolved := Array.replicate 1451 none
  statics := some 0 }

def pool11 : Array CpInfo := pool [(6, .class_ 8), (1, u "java/lang/Object"), (0, u "<init>"), (0, u "()V"), (1, .class_ 14), (1, u "java/lang/StringUTF16"), (31, u "$assertionsDisabled"), (0, u "Z"), (13, u "HI_BYTE_SHIFT"), (0, u "I"), (2, u "LO_BYTE_SHIFT"), (49, .methodref 12 116), (0, .nameAndType 117 118), (0, u "compress"), (0, u "([CI[BII)I"), (3, u "([CII)[B"), (138, u "coderFromArrayLen"), (0, u "([BI)B"), (106, .class_ 371), (1, u "java/lang/StringUTF16$LinesSpliterator"), (58, u "MAX_LENGTH"), (196, .class_ 628), (0, u "java/lang/StringUTF16$CodePointsSpliterator"), (0, .class_ 630), (0, u "java/lang/StringUTF16$CharsSpliterator")] 4

def k11m0 : Method := { name := "<init>", desc := "()V", sig := { parameters := [], returnType := none }, accessFlags := 0, code := none }
def k11c1 : Code := { maxStack := 2, maxLocals := 2, code := jdk_52_method_15_code, exceptionTable := #[], attributes := #[] }
def k11m1 : Method := { name := "coderFromArrayLen", desc := "([BI)B", sig := { parameters := [(.array .byte), .int], returnType := some .byte }, accessFlags := 8, code := some k11c1 }
def k11c2 : Code := { maxStack := 5, maxLocals := 6, code := jdk_52_method_16_code, exceptionTable := #[], attributes := #[] }
def k11m2 : Method := { name := "compress", desc := "([CII)[B", sig := { parameters := [(.array .char), .int, .int], returnType := some (.array .byte) }, accessFlags := 9, code := some k11c2 }
def k11c3 : Code := { maxStack := 3, maxLocals := 7, code := jdk_52_method_21_code, exceptionTable := #[], attributes := #[] }
def k11m3 : Method := { name := "compress", desc := "([CI[BII)I", sig := { parameters := [(.array .char), .int, (.array .byte), .int, .int], returnType := some .int }, accessFlags := 9, code := some k11c3 }
/-- java/lang/StringUTF16 -/
def k11 : Class := { plain "java/lang/StringUTF16" (some 0) with
  accessFlags := 48
  interfaces := #[]
  cf := some (fileOf pool11 12 #[.nestMembers #[627, 629, 369]] #[{ accessFlags := 0, nameIndex := 9, descriptorIndex := 10, attributes := #[] }, { accessFlags := 8, nameIndex := 261, descriptorIndex := 262, attributes := #[] }, { accessFlags := 9, nameIndex := 117, descriptorIndex := 122, attributes := #[] }, { accessFlags := 9, nameIndex := 117, descriptorIndex := 118, attributes := #[] }] 48 6 #[] #[{ accessFlags := 26, nameIndex := 61, descriptorIndex := 62, attributes := #[] }, { accessFlags := 26, nameIndex := 65, descriptorIndex := 62, attributes := #[] }, { accessFlags := 24, nameIndex := 430, descriptorIndex := 62, attributes := #[] }, { accessFlags := 4120, nameIndex := 46, descriptorIndex := 47, attributes := #[] }])
  fields := #[{ name := "HI_BYTE_SHIFT", type := .int, accessFlags := 26, slot := 0, constantValue := 0 }, { name := "LO_BYTE_SHIFT", type := .int, accessFlags := 26, slot := 1, constantValue := 0 }, { name := "MAX_LENGTH", type := .int, accessFlags := 24, slot := 2, constantValue := 0 }, { name := "$assertionsDisabled", type := .boolean, accessFlags := 4120, slot := 3, constantValue := 0 }]
  methods := #[k11m0, k11m1, k11m2, k11m3]
  instanceTypes := #[]
  staticTypes := #[.int, .int, .int, .boolean]
  resolved := Array.replicate 635 none
  statics := none }

def pool12 : Array CpInfo := pool [(4, .class_ 6), (1, u "java/lang/Object"), (0, u "<init>"), (0, u "()V"), (5, .class_ 16), (1, u "java/lang/StringLatin1"), (73, u "canEncode"), (14, u "(C)Z"), (15, u "$assertionsDisabled"), (0, u "Z"), (98, .class_ 223), (1, u "java/lang/StringLatin1$LinesSpliterator"), (57, u "equals"), (0, u "([B[B)Z"), (97, u "toBytes"), (1, u "(C)[B"), (7, .class_ 391), (0, u "java/lang/StringLatin1$CharsSpliterator")] 3

def k12m0 : Method := { name := "<init>", desc := "()V", sig := { parameters := [], returnType := none }, accessFlags := 0, code := none }
def k12c1 : Code := { maxStack := 2, maxLocals := 1, code := jdk_43_method_3_code, exceptionTable := #[], attributes := #[] }
def k12m1 : Method := { name := "canEncode", desc := "(C)Z", sig := { parameters := [.char], returnType := some .boolean }, accessFlags := 9, code := some k12c1 }
def k12c2 : Code := { maxStack := 3, maxLocals := 3, code := jdk_43_method_13_code, exceptionTable := #[], attributes := #[] }
def k12m2 : Method := { name := "equals", desc := "([B[B)Z", sig := { parameters := [(.array .byte), (.array .byte)], returnType := some .boolean }, accessFlags := 9, code := some k12c2 }
def k12c3 : Code := { maxStack := 4, maxLocals := 1, code := jdk_43_method_46_code, exceptionTable := #[], attributes := #[] }
def k12m3 : Method := { name := "toBytes", desc := "(C)[B", sig := { parameters := [.char], returnType := some (.array .byte) }, accessFlags := 9, code := some k12c3 }
/-- java/lang/StringLatin1 -/
def k12 : Class := { plain "java/lang/StringLatin1" (some 0) with
  accessFlags := 48
  interfaces := #[]
  cf := some (fileOf pool12 14 #[.nestMembers #[390, 221]] #[{ accessFlags := 0, nameIndex := 7, descriptorIndex := 8, attributes := #[] }, { accessFlags := 9, nameIndex := 90, descriptorIndex := 105, attributes := #[] }, { accessFlags := 9, nameIndex := 281, descriptorIndex := 282, attributes := #[] }, { accessFlags := 9, nameIndex := 380, descriptorIndex := 382, attributes := #[] }] 48 4 #[] #[{ accessFlags := 4120, nameIndex := 121, descriptorIndex := 122, attributes := #[] }])
  fields := #[{ name := "$assertionsDisabled", type := .boolean, accessFlags := 4120, slot := 0, constantValue := 0 }]
  methods := #[k12m0, k12m1, k12m2, k12m3]
  instanceTypes := #[]
  staticTypes := #[.boolean]
  resolved := Array.replicate 395 none
  statics := none }

def pool13 : Array CpInfo := pool [(2, .class_ 4), (1, u "java/lang/Object"), (0, u "<init>"), (0, u "()V"), (17, .class_ 26), (1, u "jdk/internal/util/Preconditions"), (28, .class_ 56), (0, u "jdk/internal/util/Preconditions$4"), (57, .class_ 115), (0, u "jdk/internal/util/Preconditions$1"), (7, u "SIOOBE_FORMATTER"), (0, u "Ljava/util/function/BiFunction;"), (0, .class_ 126), (0, u "jdk/internal/util/Preconditions$2"), (3, u "AIOOBE_FORMATTER"), (0, .class_ 132), (0, u "jdk/internal/util/Preconditions$3"), (3, u "IOOBE_FORMATTER")] 57

def k13m0 : Method := { name := "<init>", desc := "()V", sig := { parameters := [], returnType := none }, accessFlags := 1, code := none }
/-- jdk/internal/util/Preconditions -/
def k13 : Class := { plain "jdk/internal/util/Preconditions" (some 0) with
  accessFlags := 33
  interfaces := #[]
  cf := some (fileOf pool13 24 #[.nestMembers #[55, 131, 125, 114]] #[{ accessFlags := 1, nameIndex := 5, descriptorIndex := 6, attributes := #[] }] 33 2 #[] #[{ accessFlags := 25, nameIndex := 123, descriptorIndex := 124, attributes := #[] }, { accessFlags := 25, nameIndex := 130, descriptorIndex := 124, attributes := #[] }, { accessFlags := 25, nameIndex := 136, descriptorIndex := 124, attributes := #[] }])
  fields := #[{ name := "SIOOBE_FORMATTER", type := (.object "java/util/function/BiFunction"), accessFlags := 25, slot := 0, constantValue := 0 }, { name := "AIOOBE_FORMATTER", type := (.object "java/util/function/BiFunction"), accessFlags := 25, slot := 1, constantValue := 0 }, { name := "IOOBE_FORMATTER", type := (.object "java/util/function/BiFunction"), accessFlags := 25, slot := 2, constantValue := 0 }]
  methods := #[k13m0]
  instanceTypes := #[]
  staticTypes := #[(.object "java/util/function/BiFunction"), (.object "java/util/function/BiFunction"), (.object "java/util/function/BiFunction")]
  resolved := Array.replicate 194 none
  statics := some 1 }

def pool14 : Array CpInfo := pool [(9, u "<init>"), (6, .class_ 18), (1, u "java/lang/Object"), (0, u "()V"), (1, .class_ 23), (1, u "jdk/internal/util/ArraysSupport"), (0, u "LOG2_ARRAY_LONG_INDEX_SCALE"), (0, u "I"), (2, u "U"), (0, u "Ljdk/internal/misc/Unsafe;"), (8, u "BIG_ENDIAN"), (0, u "Z"), (8, u "LOG2_BYTE_BIT_SIZE"), (4, u "LOG2_ARRAY_INT_INDEX_SCALE"), (54, u "JLA"), (0, u "Ljdk/internal/access/JavaLangAccess;"), (11, u "LOG2_ARRAY_BOOLEAN_INDEX_SCALE"), (9, u "LOG2_ARRAY_BYTE_INDEX_SCALE"), (5, u "LOG2_ARRAY_CHAR_INDEX_SCALE"), (5, u "LOG2_ARRAY_SHORT_INDEX_SCALE"), (18, u "LOG2_ARRAY_FLOAT_INDEX_SCALE"), (24, u "LOG2_ARRAY_DOUBLE_INDEX_SCALE"), (89, u "T_BOOLEAN"), (2, u "T_CHAR"), (1, u "T_FLOAT"), (1, u "T_DOUBLE"), (1, u "T_BYTE"), (1, u "T_SHORT"), (1, u "T_INT"), (1, u "T_LONG"), (1, u "SOFT_MAX_ARRAY_LENGTH")] 83

def k14m0 : Method := { name := "<init>", desc := "()V", sig := { parameters := [], returnType := none }, accessFlags := 2, code := none }
/-- jdk/internal/util/ArraysSupport -/
def k14 : Class := { plain "jdk/internal/util/ArraysSupport" (some 0) with
  accessFlags := 33
  interfaces := #[]
  cf := some (fileOf pool14 21 #[] #[{ accessFlags := 2, nameIndex := 9, descriptorIndex := 19, attributes := #[] }] 33 16 #[] #[{ accessFlags := 24, nameIndex := 28, descriptorIndex := 29, attributes := #[] }, { accessFlags := 26, nameIndex := 38, descriptorIndex := 39, attributes := #[] }, { accessFlags := 25, nameIndex := 121, descriptorIndex := 25, attributes := #[] }, { accessFlags := 25, nameIndex := 131, descriptorIndex := 25, attributes := #[] }, { accessFlags := 25, nameIndex := 137, descriptorIndex := 25, attributes := #[] }, { accessFlags := 25, nameIndex := 143, descriptorIndex := 25, attributes := #[] }, { accessFlags := 25, nameIndex := 53, descriptorIndex := 25, attributes := #[] }, { accessFlags := 25, nameIndex := 24, descriptorIndex := 25, attributes := #[] }, { accessFlags := 25, nameIndex := 162, descriptorIndex := 25, attributes := #[] }, { accessFlags := 25, nameIndex := 187, descriptorIndex := 25, attributes := #[] }, { accessFlags := 26, nameIndex := 48, descriptorIndex := 25, attributes := #[] }, { accessFlags := 25, nameIndex := 277, descriptorIndex := 25, attributes := #[] }, { accessFlags := 25, nameIndex := 280, descriptorIndex := 25, attributes := #[] }, { accessFlags := 25, nameIndex := 282, descriptorIndex := 25, attributes := #[] }, { accessFlags := 25, nameIndex := 284, descriptorIndex := 25, attributes := #[] }, { accessFlags := 25, nameIndex := 286, descriptorIndex := 25, attributes := #[] }, { accessFlags := 25, nameIndex := 288, descriptorIndex := 25, attributes := #[] }, { accessFlags := 25, nameIndex := 290, descriptorIndex := 25, attributes := #[] }, { accessFlags := 25, nameIndex := 292, descriptorIndex := 25, attributes := #[] }, { accessFlags := 26, nameIndex := 108, descriptorIndex := 109, attributes := #[] }, { accessFlags := 25, nameIndex := 294, descriptorIndex := 25, attributes := #[] }])
  fields := #[{ name := "U", type := (.object "jdk/internal/misc/Unsafe"), accessFlags := 24, slot := 0, constantValue := 0 }, { name := "BIG_ENDIAN", type := .boolean, accessFlags := 26, slot := 1, constantValue := 0 }, { name := "LOG2_ARRAY_BOOLEAN_INDEX_SCALE", type := .int, accessFlags := 25, slot := 2, constantValue := 0 }, { name := "LOG2_ARRAY_BYTE_INDEX_SCALE", type := .int, accessFlags := 25, slot := 3, constantValue := 0 }, { name := "LOG2_ARRAY_CHAR_INDEX_SCALE", type := .int, accessFlags := 25, slot := 4, constantValue := 0 }, { name := "LOG2_ARRAY_SHORT_INDEX_SCALE", type := .int, accessFlags := 25, slot := 5, constantValue := 0 }, { name := "LOG2_ARRAY_INT_INDEX_SCALE", type := .int, accessFlags := 25, slot := 6, constantValue := 0 }, { name := "LOG2_ARRAY_LONG_INDEX_SCALE", type := .int, accessFlags := 25, slot := 7, constantValue := 0 }, { name := "LOG2_ARRAY_FLOAT_INDEX_SCALE", type := .int, accessFlags := 25, slot := 8, constantValue := 0 }, { name := "LOG2_ARRAY_DOUBLE_INDEX_SCALE", type := .int, accessFlags := 25, slot := 9, constantValue := 0 }, { name := "LOG2_BYTE_BIT_SIZE", type := .int, accessFlags := 26, slot := 10, constantValue := 0 }, { name := "T_BOOLEAN", type := .int, accessFlags := 25, slot := 11, constantValue := 0 }, { name := "T_CHAR", type := .int, accessFlags := 25, slot := 12, constantValue := 0 }, { name := "T_FLOAT", type := .int, accessFlags := 25, slot := 13, constantValue := 0 }, { name := "T_DOUBLE", type := .int, accessFlags := 25, slot := 14, constantValue := 0 }, { name := "T_BYTE", type := .int, accessFlags := 25, slot := 15, constantValue := 0 }, { name := "T_SHORT", type := .int, accessFlags := 25, slot := 16, constantValue := 0 }, { name := "T_INT", type := .int, accessFlags := 25, slot := 17, constantValue := 0 }, { name := "T_LONG", type := .int, accessFlags := 25, slot := 18, constantValue := 0 }, { name := "JLA", type := (.object "jdk/internal/access/JavaLangAccess"), accessFlags := 26, slot := 19, constantValue := 0 }, { name := "SOFT_MAX_ARRAY_LENGTH", type := .int, accessFlags := 25, slot := 20, constantValue := 0 }]
  methods := #[k14m0]
  instanceTypes := #[]
  staticTypes := #[(.object "jdk/internal/misc/Unsafe"), .boolean, .int, .int, .int, .int, .int, .int, .int, .int, .int, .int, .int, .int, .int, .int, .int, .int, .int, (.object "jdk/internal/access/JavaLangAccess"), .int]
  resolved := Array.replicate 378 none
  statics := none }

def pool15 : Array CpInfo := pool [(1, u "java/lang/Cloneable"), (0, .class_ 1), (0, u "java/lang/Object"), (0, .class_ 3)] 3

/-- java/lang/Cloneable -/
def k15 : Class := { plain "java/lang/Cloneable" (some 0) with
  accessFlags := 1537
  interfaces := #[]
  cf := some (fileOf pool15 2 #[] #[] 1537 4 #[] #[])
  fields := #[]
  methods := #[]
  instanceTypes := #[]
  staticTypes := #[]
  resolved := Array.replicate 8 none
  statics := none }

/-- the primitive byte -/
def k16 : Class := { plain "byte" none with kind := .primitive 'B', accessFlags := 0x411 }
/-- [B -/
def k17 : Class := { plain "[B" (some 0) with kind := .array 16 .byte, interfaces := #[15, 5], accessFlags := 1041 }

/-- the primitive char -/
def k18 : Class := { plain "char" none with kind := .primitive 'C', accessFlags := 0x411 }
/-- [C -/
def k19 : Class := { plain "[C" (some 0) with kind := .array 18 .char, interfaces := #[15, 5], accessFlags := 1041 }

/-- the primitive int -/
def k20 : Class := { plain "int" none with kind := .primitive 'I', accessFlags := 0x411 }
/-- [I -/
def k21 : Class := { plain "[I" (some 0) with kind := .array 20 .int, interfaces := #[15, 5], accessFlags := 1041 }

def heap : Heap := #[{ cls := 10, slots := #[.long 0, .int 1, .null, .int 0, .null, .int 0, .int 0], vm := .statics 10 },
  { cls := 13, slots := #[.null, .null, .null], vm := .statics 13 }]
def classes : Array Class := #[k0, k1, k2, k3, k4, k5, k6, k7, k8, k9, k10, k11, k12, k13, k14, k15, k16, k17, k18, k19, k20, k21]
def interned : List (Array UInt16 × Addr) := []
def slotsUsed : Nat := 10
def theMethod : MethodId := ⟨1, 6⟩
def args0 : Array Value := #[.int 5, .int 6, .int 7, .int 8]
def aboutOver (below : List Frame) : State where
  vm := { classes := classes, interned := interned.toArray }
  heap := heap
  slotsUsed := slotsUsed
  threads := #[{ frames := .invoking theMethod args0 :: below }]
def below0 : List Frame := [.native { method := ⟨0, 0⟩, args := #[] }]
def about1 : State := aboutOver below0
def p0 : Program := .bare "" "" ""
def e0 : Env := launch0.env 0 0 0
theorem w_frames : about1.frames = Frame.invoking theMethod args0 :: below0 := rfl
set_option maxRecDepth 65536 in
theorem w_args : argsFit about1.vm theMethod args0 = true := by decide +kernel
set_option maxRecDepth 65536 in
theorem w_heap : heapFits about1 = true := by decide +kernel
set_option maxRecDepth 65536 in
theorem w_runnable : about1.curStatus? = some .runnable := by decide +kernel
set_option maxRecDepth 65536 in
theorem w_alone : about1.alone = true := by decide +kernel
set_option maxRecDepth 65536 in
theorem w_named : about1.methodNamed? x = some theMethod := by decide +kernel
set_option maxRecDepth 65536 in
theorem w_hears : about1.hears theMethod below0 = true := by decide +kernel
set_option maxRecDepth 65536 in
theorem w_ripe : about1.ripe theMethod args0 below0 = true := by decide +kernel
theorem w_running : about1.status = .running := rfl
set_option maxRecDepth 65536 in
theorem w_room : about1.hasRoom e0.platform room_1 = true :=
  launch0.hasRoom_least _ room_1 (by decide +kernel) (by decide +kernel) (by decide +kernel) (by decide +kernel) (by decide +kernel) (by decide +kernel)
theorem allAtoms_all (ts : List Jvm.Cond) (a : Array Jvm.Value) (st : Jvm.State) : (allAtoms ts).before a st = ts.all (fun c => c.before a st) := by
  induction ts with
  | nil => rfl
  | cons c t ih =>
    show (Jvm.Cond.and c (allAtoms t)).before a st = _
    rw [Jvm.Cond.before_and, ih, List.all_cons]
def words1 : List Jvm.Cond := Jvm.Cond.code x code maxLocals ret :: tables_1
/-- a 'code' word, met by the world's own term for the bytes: nothing is compared byte by byte -/
theorem code_word {y : MethodName} {bytes : ByteArray} {mx : Nat} {rt : Option FieldType} {a : Array Value} {s : State} {m : MethodId} {meth : Method} {c : Code} (h1 : s.methodNamed? y = some m) (h2 : s.vm.method? m = some meth) (h3 : meth.code = some c) (h4 : c.code = bytes)
    (h5 : (c.maxLocals == mx && c.exceptionTable.isEmpty && decide (c.maxStack ≤ mostOperands) && decide (meth.sig.returnType = rt) && !meth.locks && decide (parseMethodDescriptor y.desc = some meth.sig)) = true) : (Jvm.Cond.code y bytes mx rt).before a s = true := by
  simp only [Bool.and_eq_true, beq_iff_eq, Bool.not_eq_true', decide_eq_true_eq] at h5
  obtain ⟨⟨⟨⟨⟨g1, g2⟩, g3⟩, g4⟩, g5⟩, g6⟩ := h5
  simp [Cond.before, Cond.holds, Cond.value, h1, h2, h3, h4, g1, g2, g3, g4, g5, g6]
def isCode : Jvm.Cond → Bool
  | .code _ _ _ _ => true
  | _ => false
theorem all_split {L : List Jvm.Cond} {P : Jvm.Cond → Bool} (h1 : L.all (fun c => isCode c || P c) = true) (h2 : ∀ c ∈ L.filter isCode, P c = true) : L.all P = true := by
  refine List.all_eq_true.mpr fun c hc => ?_
  have h := List.all_eq_true.mp h1 c hc
  rcases Bool.eq_false_or_eq_true (isCode c) with hi | hi
  · exact h2 c (List.mem_filter.mpr ⟨hc, hi⟩)
  · simpa [hi] using h
set_option maxRecDepth 65536 in
theorem w_c0 : (Jvm.Cond.code x code maxLocals ret).before args0 about1 = true := code_word (m := ⟨1, 6⟩) (meth := k1m6) (c := k1c6) (by decide +kernel) rfl rfl rfl (by decide +kernel)
set_option maxRecDepth 65536 in
theorem w_c1 : (Jvm.Cond.code ({ cls := "com/example/brisk_tableau/brisktableau/owl/FuzzyLabelIsPinLaw", name := "mk", desc := "(I)Ljava/lang/String;" } : Jvm.MethodName) method_5_code (2 : Nat) (Option.some (Jvm.ClassFile.FieldType.object "java/lang/String"))).before args0 about1 = true := code_word (m := ⟨1, 4⟩) (meth := k1m4) (c := k1c4) (by decide +kernel) rfl rfl rfl (by decide +kernel)
set_option maxRecDepth 65536 in
theorem w_c2 : (Jvm.Cond.code ({ cls := "com/example/brisk_tableau/brisktableau/owl/FuzzyLabelIsPinLaw", name := "len", desc := "(I)I" } : Jvm.MethodName) method_2_code (1 : Nat) (Option.some Jvm.ClassFile.FieldType.int)).before args0 about1 = true := code_word (m := ⟨1, 1⟩) (meth := k1m1) (c := k1c1) (by decide +kernel) rfl rfl rfl (by decide +kernel)
set_option maxRecDepth 65536 in
theorem w_c3 : (Jvm.Cond.code ({ cls := "java/lang/Math", name := "min", desc := "(II)I" } : Jvm.MethodName) jdk_29_method_69_code (2 : Nat) (Option.some Jvm.ClassFile.FieldType.int)).before args0 about1 = true := code_word (m := ⟨4, 1⟩) (meth := k4m1) (c := k4c1) (by decide +kernel) rfl rfl rfl (by decide +kernel)
set_option maxRecDepth 65536 in
theorem w_c4 : (Jvm.Cond.code ({ cls := "java/lang/String", name := "<init>", desc := "([C)V" } : Jvm.MethodName) jdk_42_method_3_code (2 : Nat) (Option.none : Option Jvm.ClassFile.FieldType)).before args0 about1 = true := code_word (m := ⟨10, 1⟩) (meth := k10m1) (c := k10c1) (by decide +kernel) rfl rfl rfl (by decide +kernel)
set_option maxRecDepth 65536 in
theorem w_c5 : (Jvm.Cond.code ({ cls := "java/lang/String", name := "<init>", desc := "([CIILjava/lang/Void;)V" } : Jvm.MethodName) jdk_42_method_149_code (6 : Nat) (Option.none : Option Jvm.ClassFile.FieldType)).before args0 about1 = true := code_word (m := ⟨10, 4⟩) (meth := k10m4) (c := k10c4) (by decide +kernel) rfl rfl rfl (by decide +kernel)
set_option maxRecDepth 65536 in
theorem w_c6 : (Jvm.Cond.code ({ cls := "java/lang/Object", name := "<init>", desc := "()V" } : Jvm.MethodName) object_method_1_code (1 : Nat) (Option.none : Option Jvm.ClassFile.FieldType)).before args0 about1 = true := code_word (m := ⟨0, 0⟩) (meth := k0m0) (c := k0c0) (by decide +kernel) rfl rfl rfl (by decide +kernel)
set_option maxRecDepth 65536 in
theorem w_c7 : (Jvm.Cond.code ({ cls := "com/example/brisk_tableau/brisktableau/owl/FuzzyLabelIsPinLaw", name := "c0", desc := "(I)C" } : Jvm.MethodName) method_3_code (1 : Nat) (Option.some Jvm.ClassFile.FieldType.char)).before args0 about1 = true := code_word (m := ⟨1, 2⟩) (meth := k1m2) (c := k1c2) (by decide +kernel) rfl rfl rfl (by decide +kernel)
set_option maxRecDepth 65536 in
theorem w_c8 : (Jvm.Cond.code ({ cls := "com/example/brisk_tableau/brisktableau/owl/FuzzyLabelIsPinLaw", name := "c1", desc := "(I)C" } : Jvm.MethodName) method_4_code (1 : Nat) (Option.some Jvm.ClassFile.FieldType.char)).before args0 about1 = true := code_word (m := ⟨1, 3⟩) (meth := k1m3) (c := k1c3) (by decide +kernel) rfl rfl rfl (by decide +kernel)
set_option maxRecDepth 65536 in
theorem w_c9 : (Jvm.Cond.code ({ cls := "java/lang/StringUTF16", name := "compress", desc := "([CII)[B" } : Jvm.MethodName) jdk_52_method_16_code (6 : Nat) (Option.some (Jvm.ClassFile.FieldType.array Jvm.ClassFile.FieldType.byte))).before args0 about1 = true := code_word (m := ⟨11, 2⟩) (meth := k11m2) (c := k11c2) (by decide +kernel) rfl rfl rfl (by decide +kernel)
set_option maxRecDepth 65536 in
theorem w_c10 : (Jvm.Cond.code ({ cls := "java/lang/StringUTF16", name := "compress", desc := "([CI[BII)I" } : Jvm.MethodName) jdk_52_method_21_code (7 : Nat) (Option.some Jvm.ClassFile.FieldType.int)).before args0 about1 = true := code_word (m := ⟨11, 3⟩) (meth := k11m3) (c := k11c3) (by decide +kernel) rfl rfl rfl (by decide +kernel)
set_option maxRecDepth 65536 in
theorem w_c11 : (Jvm.Cond.code ({ cls := "java/lang/StringUTF16", name := "coderFromArrayLen", desc := "([BI)B" } : Jvm.MethodName) jdk_52_method_15_code (2 : Nat) (Option.some Jvm.ClassFile.FieldType.byte)).before args0 about1 = true := code_word (m := ⟨11, 1⟩) (meth := k11m1) (c := k11c1) (by decide +kernel) rfl rfl rfl (by decide +kernel)
set_option maxRecDepth 65536 in
theorem w_c12 : (Jvm.Cond.code ({ cls := "com/example/brisk_tableau/brisktableau/owl/FuzzyLabel", name := "<init>", desc := "(Ljava/lang/String;Ljava/lang/String;Ljava/util/Map;)V" } : Jvm.MethodName) prog_37_method_1_code (4 : Nat) (Option.none : Option Jvm.ClassFile.FieldType)).before args0 about1 = true := code_word (m := ⟨3, 0⟩) (meth := k3m0) (c := k3c0) (by decide +kernel) rfl rfl rfl (by decide +kernel)
set_option maxRecDepth 65536 in
theorem w_c13 : (Jvm.Cond.code ({ cls := "java/lang/Record", name := "<init>", desc := "()V" } : Jvm.MethodName) jdk_30_method_1_code (1 : Nat) (Option.none : Option Jvm.ClassFile.FieldType)).before args0 about1 = true := code_word (m := ⟨2, 0⟩) (meth := k2m0) (c := k2c0) (by decide +kernel) rfl rfl rfl (by decide +kernel)
set_option maxRecDepth 65536 in
theorem w_c14 : (Jvm.Cond.code ({ cls := "com/example/brisk_tableau/brisktableau/owl/FuzzyLabelIsPinLaw", name := "same", desc := "(II)Z" } : Jvm.MethodName) method_6_code (3 : Nat) (Option.some Jvm.ClassFile.FieldType.boolean)).before args0 about1 = true := code_word (m := ⟨1, 5⟩) (meth := k1m5) (c := k1c5) (by decide +kernel) rfl rfl rfl (by decide +kernel)
set_option maxRecDepth 65536 in
theorem w_c15 : (Jvm.Cond.code ({ cls := "com/example/brisk_tableau/brisktableau/owl/FuzzyLabel", name := "is", desc := "(Ljava/lang/String;Ljava/lang/String;)Z" } : Jvm.MethodName) prog_37_method_2_code (3 : Nat) (Option.some Jvm.ClassFile.FieldType.boolean)).before args0 about1 = true := code_word (m := ⟨3, 1⟩) (meth := k3m1) (c := k3c1) (by decide +kernel) rfl rfl rfl (by decide +kernel)
set_option maxRecDepth 65536 in
theorem w_c16 : (Jvm.Cond.code ({ cls := "java/lang/String", name := "equals", desc := "(Ljava/lang/Object;)Z" } : Jvm.MethodName) jdk_42_method_66_code (3 : Nat) (Option.some Jvm.ClassFile.FieldType.boolean)).before args0 about1 = true := code_word (m := ⟨10, 2⟩) (meth := k10m2) (c := k10c2) (by decide +kernel) rfl rfl rfl (by decide +kernel)
set_option maxRecDepth 65536 in
theorem w_c17 : (Jvm.Cond.code ({ cls := "java/lang/StringLatin1", name := "equals", desc := "([B[B)Z" } : Jvm.MethodName) jdk_43_method_13_code (3 : Nat) (Option.some Jvm.ClassFile.FieldType.boolean)).before args0 about1 = true := code_word (m := ⟨12, 2⟩) (meth := k12m2) (c := k12c2) (by decide +kernel) rfl rfl rfl (by decide +kernel)
set_option maxRecDepth 65536 in
theorem w_c18 : (Jvm.Cond.code ({ cls := "java/lang/String", name := "valueOf", desc := "(C)Ljava/lang/String;" } : Jvm.MethodName) jdk_42_method_139_code (1 : Nat) (Option.some (Jvm.ClassFile.FieldType.object "java/lang/String"))).before args0 about1 = true := code_word (m := ⟨10, 3⟩) (meth := k10m3) (c := k10c3) (by decide +kernel) rfl rfl rfl (by decide +kernel)
set_option maxRecDepth 65536 in
theorem w_c19 : (Jvm.Cond.code ({ cls := "java/lang/StringLatin1", name := "canEncode", desc := "(C)Z" } : Jvm.MethodName) jdk_43_method_3_code (1 : Nat) (Option.some Jvm.ClassFile.FieldType.boolean)).before args0 about1 = true := code_word (m := ⟨12, 1⟩) (meth := k12m1) (c := k12c1) (by decide +kernel) rfl rfl rfl (by decide +kernel)
set_option maxRecDepth 65536 in
theorem w_c20 : (Jvm.Cond.code ({ cls := "java/lang/StringLatin1", name := "toBytes", desc := "(C)[B" } : Jvm.MethodName) jdk_43_method_46_code (1 : Nat) (Option.some (Jvm.ClassFile.FieldType.array Jvm.ClassFile.FieldType.byte))).before args0 about1 = true := code_word (m := ⟨12, 3⟩) (meth := k12m3) (c := k12c3) (by decide +kernel) rfl rfl rfl (by decide +kernel)
set_option maxRecDepth 65536 in
theorem w_c21 : (Jvm.Cond.code ({ cls := "java/lang/String", name := "<init>", desc := "([BB)V" } : Jvm.MethodName) jdk_42_method_151_code (3 : Nat) (Option.none : Option Jvm.ClassFile.FieldType)).before args0 about1 = true := code_word (m := ⟨10, 5⟩) (meth := k10m5) (c := k10c5) (by decide +kernel) rfl rfl rfl (by decide +kernel)
def codes1 : List Jvm.Cond := [Jvm.Cond.code x code maxLocals ret, Jvm.Cond.code ({ cls := "com/example/brisk_tableau/brisktableau/owl/FuzzyLabelIsPinLaw", name := "mk", desc := "(I)Ljava/lang/String;" } : Jvm.MethodName) method_5_code (2 : Nat) (Option.some (Jvm.ClassFile.FieldType.object "java/lang/String")), Jvm.Cond.code ({ cls := "com/example/brisk_tableau/brisktableau/owl/FuzzyLabelIsPinLaw", name := "len", desc := "(I)I" } : Jvm.MethodName) method_2_code (1 : Nat) (Option.some Jvm.ClassFile.FieldType.int), Jvm.Cond.code ({ cls := "java/lang/Math", name := "min", desc := "(II)I" } : Jvm.MethodName) jdk_29_method_69_code (2 : Nat) (Option.some Jvm.ClassFile.FieldType.int), Jvm.Cond.code ({ cls := "java/lang/String", name := "<init>", desc := "([C)V" } : Jvm.MethodName) jdk_42_method_3_code (2 : Nat) (Option.none : Option Jvm.ClassFile.FieldType), Jvm.Cond.code ({ cls := "java/lang/String", name := "<init>", desc := "([CIILjava/lang/Void;)V" } : Jvm.MethodName) jdk_42_method_149_code (6 : Nat) (Option.none : Option Jvm.ClassFile.FieldType), Jvm.Cond.code ({ cls := "java/lang/Object", name := "<init>", desc := "()V" } : Jvm.MethodName) object_method_1_code (1 : Nat) (Option.none : Option Jvm.ClassFile.FieldType), Jvm.Cond.code ({ cls := "com/example/brisk_tableau/brisktableau/owl/FuzzyLabelIsPinLaw", name := "c0", desc := "(I)C" } : Jvm.MethodName) method_3_code (1 : Nat) (Option.some Jvm.ClassFile.FieldType.char), Jvm.Cond.code ({ cls := "com/example/brisk_tableau/brisktableau/owl/FuzzyLabelIsPinLaw", name := "c1", desc := "(I)C" } : Jvm.MethodName) method_4_code (1 : Nat) (Option.some Jvm.ClassFile.FieldType.char), Jvm.Cond.code ({ cls := "java/lang/StringUTF16", name := "compress", desc := "([CII)[B" } : Jvm.MethodName) jdk_52_method_16_code (6 : Nat) (Option.some (Jvm.ClassFile.FieldType.array Jvm.ClassFile.FieldType.byte)), Jvm.Cond.code ({ cls := "java/lang/StringUTF16", name := "compress", desc := "([CI[BII)I" } : Jvm.MethodName) jdk_52_method_21_code (7 : Nat) (Option.some Jvm.ClassFile.FieldType.int), Jvm.Cond.code ({ cls := "java/lang/StringUTF16", name := "coderFromArrayLen", desc := "([BI)B" } : Jvm.MethodName) jdk_52_method_15_code (2 : Nat) (Option.some Jvm.ClassFile.FieldType.byte), Jvm.Cond.code ({ cls := "com/example/brisk_tableau/brisktableau/owl/FuzzyLabel", name := "<init>", desc := "(Ljava/lang/String;Ljava/lang/String;Ljava/util/Map;)V" } : Jvm.MethodName) prog_37_method_1_code (4 : Nat) (Option.none : Option Jvm.ClassFile.FieldType), Jvm.Cond.code ({ cls := "java/lang/Record", name := "<init>", desc := "()V" } : Jvm.MethodName) jdk_30_method_1_code (1 : Nat) (Option.none : Option Jvm.ClassFile.FieldType), Jvm.Cond.code ({ cls := "com/example/brisk_tableau/brisktableau/owl/FuzzyLabelIsPinLaw", name := "same", desc := "(II)Z" } : Jvm.MethodName) method_6_code (3 : Nat) (Option.some Jvm.ClassFile.FieldType.boolean), Jvm.Cond.code ({ cls := "com/example/brisk_tableau/brisktableau/owl/FuzzyLabel", name := "is", desc := "(Ljava/lang/String;Ljava/lang/String;)Z" } : Jvm.MethodName) prog_37_method_2_code (3 : Nat) (Option.some Jvm.ClassFile.FieldType.boolean), Jvm.Cond.code ({ cls := "java/lang/String", name := "equals", desc := "(Ljava/lang/Object;)Z" } : Jvm.MethodName) jdk_42_method_66_code (3 : Nat) (Option.some Jvm.ClassFile.FieldType.boolean), Jvm.Cond.code ({ cls := "java/lang/StringLatin1", name := "equals", desc := "([B[B)Z" } : Jvm.MethodName) jdk_43_method_13_code (3 : Nat) (Option.some Jvm.ClassFile.FieldType.boolean), Jvm.Cond.code ({ cls := "java/lang/String", name := "valueOf", desc := "(C)Ljava/lang/String;" } : Jvm.MethodName) jdk_42_method_139_code (1 : Nat) (Option.some (Jvm.ClassFile.FieldType.object "java/lang/String")), Jvm.Cond.code ({ cls := "java/lang/StringLatin1", name := "canEncode", desc := "(C)Z" } : Jvm.MethodName) jdk_43_method_3_code (1 : Nat) (Option.some Jvm.ClassFile.FieldType.boolean), Jvm.Cond.code ({ cls := "java/lang/StringLatin1", name := "toBytes", desc := "(C)[B" } : Jvm.MethodName) jdk_43_method_46_code (1 : Nat) (Option.some (Jvm.ClassFile.FieldType.array Jvm.ClassFile.FieldType.byte)), Jvm.Cond.code ({ cls := "java/lang/String", name := "<init>", desc := "([BB)V" } : Jvm.MethodName) jdk_42_method_151_code (3 : Nat) (Option.none : Option Jvm.ClassFile.FieldType)]
set_option maxRecDepth 65536 in
theorem codes_eq : words1.filter isCode = codes1 := rfl
theorem w_codes : ∀ c ∈ words1.filter isCode, c.before args0 about1 = true := by
  rw [codes_eq]
  intro c hc
  simp only [codes1, List.mem_cons, List.not_mem_nil, or_false] at hc
  rcases hc with rfl | rfl | rfl | rfl | rfl | rfl | rfl | rfl | rfl | rfl | rfl | rfl | rfl | rfl | rfl | rfl | rfl | rfl | rfl | rfl | rfl | rfl
  · exact w_c0
  · exact w_c1
  · exact w_c2
  · exact w_c3
  · exact w_c4
  · exact w_c5
  · exact w_c6
  · exact w_c7
  · exact w_c8
  · exact w_c9
  · exact w_c10
  · exact w_c11
  · exact w_c12
  · exact w_c13
  · exact w_c14
  · exact w_c15
  · exact w_c16
  · exact w_c17
  · exact w_c18
  · exact w_c19
  · exact w_c20
  · exact w_c21
set_option maxRecDepth 65536 in
theorem w_t1 : (words1.take 24).all (fun c => isCode c || c.before args0 about1) = true := by decide +kernel
set_option maxRecDepth 65536 in
theorem w_t2 : ((words1.drop 24).take 24).all (fun c => isCode c || c.before args0 about1) = true := by decide +kernel
set_option maxRecDepth 65536 in
theorem w_t3 : (((words1.drop 24).drop 24).take 24).all (fun c => isCode c || c.before args0 about1) = true := by decide +kernel
set_option maxRecDepth 65536 in
theorem w_t4 : ((((words1.drop 24).drop 24).drop 24).take 24).all (fun c => isCode c || c.before args0 about1) = true := by decide +kernel
set_option maxRecDepth 65536 in
theorem w_t5 : ((((words1.drop 24).drop 24).drop 24).drop 24).all (fun c => isCode c || c.before args0 about1) = true := by decide +kernel
theorem w_tables : (allAtoms (Jvm.Cond.code x code maxLocals ret :: tables_1)).before args0 about1 = true := by
  rw [allAtoms_all]
  show words1.all (fun c => c.before args0 about1) = true
  refine all_split ?_ w_codes
  rw [← List.take_append_drop 24 words1, List.all_append, w_t1, ← List.take_append_drop 24 (words1.drop 24), List.all_append, w_t2, ← List.take_append_drop 24 ((words1.drop 24).drop 24), List.all_append, w_t3, ← List.take_append_drop 24 (((words1.drop 24).drop 24).drop 24), List.all_append, w_t4, w_t5]
  rfl
set_option maxRecDepth 65536 in
theorem w_rest : rest_1_c.before args0 about1 = true := by decide +kernel
set_option maxRecDepth 65536 in
theorem w_case : (Jvm.Cond.and given_1 narrow_1).before args0 about1 = true := by decide +kernel
set_option maxRecDepth 65536 in
theorem w_consts : constsHeld consts_1 about1 := Jvm.Lit.constsHeldB_iff.mp (by decide +kernel)
theorem w_applies : (headSpec (Jvm.Cond.code x code maxLocals ret :: tables_1) room_1).applies x e0.platform about1 = true :=
  (Spec.applies_iff w_frames).mpr ⟨w_running, w_runnable, w_alone, w_named, w_hears, w_ripe, w_room, w_tables⟩
theorem atStart : AtStart classFile x code maxLocals ret World_1 tables_1 room_1 Calls_1 rest_1 Pre_1 launch0 p0 e0 about1 theMethod args0 below0 :=
  ⟨lists_1, trivial, launch0.admits_env _ _ _, launch0.least_env, fairChoices_fair.cas, fairChoices_fair.clock, w_frames, w_args, w_heap, w_applies, ⟨w_consts, trivial⟩, w_rest, w_case⟩
end start1
theorem witness_1 : WitnessClaimed_1 := ⟨start1.p0, start1.e0, start1.about1, start1.theMethod, start1.args0, start1.below0, start1.atStart⟩
end Jvm.Pilot.@@N@@
