import JvmDerived
import JvmDerived.Pilot.@@N@@Statement
import JvmDerived.Pilot.@@N@@Code
set_option linter.unusedVariables false
set_option linter.unusedSimpArgs false
namespace Jvm.RoadKit
open Sem ClassFile Op Lib Jvm.Stand Jvm.Free Jvm.LawKit
section New
variable {p : Program} {l : Launch} {e : Env} {R : Room} {s : State} {m : MethodId} {args : Array Value} {below : List Frame} {meth : Method} {c : Code} {T : State} {locs : List Loc} {cells slots : Nat}
theorem retI (X : Stand p l e R s m args below meth c T locs cells slots) (hx : p.tables.exec = Jvm.exec) {pc : Nat} {Ls : Array Slot} {z : Int32} {rest : List Value} (hret : meth.sig.returnType = some .int) (hd : decode c.code pc = .ok (.ireturn, 1)) {fs : List Frame}
    (hl : ∀ (f : JFrame) (acts : List Action), f.method = m → f.locked = none → f.entered = [] → (doReturn e (T.setTop f) acts (some (.int z))).1 = T.setFrames fs) : Steps p.tables e below (T.setTop (mkF m pc Ls (.int z :: rest))) (T.setFrames fs) := by
  have hm' : T.vm.method? m = some meth := X.method'
  have hn : narrow .int (.int z) = .int z := rfl
  show Steps p.tables e below (T.setTop { method := m, pc := pc, locals := Ls, stack := _ :: rest, locked := none }) _
  jvm_step X.here [X.here.top, hx, hd, hm', hret, hn]
  first | (intro acts; rw [hl _ acts rfl rfl rfl]) | rw [hl _ _ rfl rfl rfl]
  exact Steps.refl _
end New
end Jvm.RoadKit
namespace Jvm.Pilot.@@N@@
open Jvm Jvm.ClassFile Sem Op Lib Jvm.Free Jvm.Stand Jvm.LawKit Jvm.RoadKit Bundle Jvm.Pilot.@@N@@.Jvm.D
abbrev vi (x : Int32) : Slot := .val (.int x)
abbrev vj (x : Int64) : Slot := .val (.long x)
abbrev vr (x : Addr) : Slot := .val (.ref x)
abbrev vN : Slot := .val .null
abbrev un : Slot := .unset
abbrev SS (p : Program) (e : Env) (below : List Frame) (m : MethodId) (T : State) (pc : Nat) (L : Array Slot) (S : List Value) (t : State) : Prop := Steps p.tables e below (T.setTop (mkF m pc L S)) t
theorem ww {a0 : Array Value} {Z : State} (hw : ∀ d ∈ tables_1, d.before a0 Z = true) (i : Nat) {d : Jvm.Cond} (h : tables_1[i]? = some d) : d.before a0 Z = true := hw _ (List.mem_of_getElem? h)
abbrev y_0 : MethodName := ⟨"com/example/brisk_tableau/brisktableau/tableau/SharedList$Store", "<init>", "([Ljava/lang/Object;I)V"⟩
abbrev y_1 : MethodName := ⟨"com/example/brisk_tableau/brisktableau/tableau/SharedList", "<init>", "(Lcom/example/brisk_tableau/brisktableau/tableau/SharedList$Store;I)V"⟩
abbrev y_2 : MethodName := ⟨"com/example/brisk_tableau/brisktableau/tableau/SharedList", "<init>", "()V"⟩
abbrev y_3 : MethodName := ⟨"java/lang/Number", "<init>", "()V"⟩
abbrev y_4 : MethodName := ⟨"java/lang/Integer", "<init>", "(I)V"⟩
abbrev y_5 : MethodName := ⟨"java/lang/Integer", "valueOf", "(I)Ljava/lang/Integer;"⟩
abbrev y_6 : MethodName := ⟨"java/lang/Integer", "intValue", "()I"⟩
abbrev y_7 : MethodName := ⟨"java/util/Objects", "requireNonNull", "(Ljava/lang/Object;)Ljava/lang/Object;"⟩
abbrev y_8 : MethodName := ⟨"java/lang/Math", "max", "(II)I"⟩
abbrev y_9 : MethodName := ⟨"java/lang/Math", "min", "(II)I"⟩
abbrev y_10 : MethodName := ⟨"java/util/Arrays", "copyOf", "([Ljava/lang/Object;ILjava/lang/Class;)[Ljava/lang/Object;"⟩
abbrev y_11 : MethodName := ⟨"java/util/Arrays", "copyOf", "([Ljava/lang/Object;I)[Ljava/lang/Object;"⟩
abbrev y_12 : MethodName := ⟨"com/example/brisk_tableau/brisktableau/tableau/SharedList", "add", "(Ljava/lang/Object;)V"⟩
abbrev y_13 : MethodName := ⟨"com/example/brisk_tableau/brisktableau/tableau/SharedList", "copy", "()Lcom/example/brisk_tableau/brisktableau/tableau/SharedList;"⟩
abbrev y_14 : MethodName := ⟨"com/example/brisk_tableau/brisktableau/tableau/SharedList$1", "<init>", "(Lcom/example/brisk_tableau/brisktableau/tableau/SharedList;I[Ljava/lang/Object;)V"⟩
abbrev y_15 : MethodName := ⟨"com/example/brisk_tableau/brisktableau/tableau/SharedList", "iterator", "()Ljava/util/Iterator;"⟩
abbrev y_16 : MethodName := ⟨"com/example/brisk_tableau/brisktableau/tableau/SharedList$1", "hasNext", "()Z"⟩
abbrev y_17 : MethodName := ⟨"com/example/brisk_tableau/brisktableau/tableau/SharedList$1", "next", "()Ljava/lang/Object;"⟩
abbrev y_18 : MethodName := ⟨"java/util/Iterator", "hasNext", "()Z"⟩
abbrev y_19 : MethodName := ⟨"java/util/Iterator", "next", "()Ljava/lang/Object;"⟩
abbrev y_20 : MethodName := ⟨"com/example/brisk_tableau/brisktableau/tableau/SharedListIteratorPinLaw", "step", "(Ljava/util/Iterator;II[I)Z"⟩
theorem own_fld {args : Array Value} {s : State} {t : Term} {C f d : String} {k : Int32} {w : Addr} (ev : t.eval args s none [] s = some (.ref w)) (h : (Jvm.Cond.eq (Term.field t C f d) (Term.int k)).value args s none s [] = some true) : Fld s s.heap w C f d (.int k) := Fld.start ((fld_at ev).symm.trans (eqv_i (Term.int_eval k) h))
section OwnLib
variable {p : Program} {l : Launch} {e : Env} {R : Room} {s : State} {m : MethodId} {args : Array Value} {below : List Frame} {meth : Method} {c : Code} {T : State} {locs : List Loc} {cells slots : Nat} {Z : State} {a0 : Array Value} {h : Heap}
theorem own_ready (X : Stand p l e R s m args below meth c T locs cells slots) {index cf : Nat} {f : Field} (h : s.vm.fieldReady m.cls index cf f) : T.vm.fieldReady m.cls index cf f := by
  obtain ⟨k, i, kc, h1, h2, h3, h4⟩ := h
  obtain ⟨k', hk', he⟩ := X.warmed.alike.2.2 _ _ h1
  obtain ⟨kc', hkc', hec⟩ := X.warmed.alike.2.2 _ _ h3
  refine ⟨k', i, kc', hk', ?_, hkc', by rw [hec]; exact h4⟩
  rcases X.warmed.entry h1 hk' index with q | ⟨q, -⟩
  · rw [q]; exact h2
  · rw [h2] at q; cases q
theorem own_ref {own O n d : String} {index : Nat} (hZ : Z.Warmed39 s.vm) (w : (Jvm.Cond.fieldRef own index O n d).before a0 Z = true) : (Jvm.Cond.fieldRef own index O n d).before args s = true := by
  have h1 : (Jvm.Cond.fieldRef own index O n d).before a0 (Z.setVm s.vm) = true := Cond.fieldRef_warmed39 hZ w
  exact h1
theorem getFR (X : Stand p l e R s m args below meth c T locs cells slots) (hx : p.tables.exec = Jvm.exec) (hZ : Z.Warmed39 s.vm) {own O n d : String} {index : Nat} (hown : s.vm.findClass own = some m.cls) (w : (Jvm.Cond.fieldRef own index O n d).before a0 Z = true)
    (eT : T.heap = h) {a : Addr} {v : Value} (F : Fld Z h a O n d v) {g : JFrame} (hg : g.method = m) {rest : List Value} (hs : g.stack = .ref a :: rest) (hd : decode c.code g.pc = .ok (.getfield index, 3)) : ∀ target, Steps p.tables e below (T.setTop { g with pc := g.pc + 3, stack := v :: rest }) target → Steps p.tables e below (T.setTop g) target := by
  obtain ⟨cf, k, i, f, hi, hr⟩ := Cond.fieldRef_spec hown (own_ref (args := args) hZ w)
  obtain ⟨cell, cf', k2, i2, f2, h1, h2, h3, h4, h5, h6, h7⟩ := F
  obtain ⟨k', hi', -⟩ := State.fieldFound?_setVm (s := Z) hZ.alike h2
  have hi2 : s.fieldFound? O n d = some (cf', k', i2, f2) := hi'
  cases hi.symm.trans hi2
  intro target kt
  exact (X.getfieldR hx hg (own_ready X hr) h3 hs (by rw [eT]; exact h1) h4 h7 hd (Steps.refl _)).trans kt
theorem putFR (X : Stand p l e R s m args below meth c T locs cells slots) (hx : p.tables.exec = Jvm.exec) (hZ : Z.Warmed39 s.vm) {own O n d C : String} {index kk : Nat} {ty : FieldType} (hown : s.vm.findClass own = some m.cls) (w : (Jvm.Cond.fieldRef own index O n d).before a0 Z = true)
    (eT : T.heap = h) {a : Addr} {v old : Value} (F : Fld Z h a O n d old) (E : Exa Z h a C) (L : (Jvm.Cond.lays C O n d).before a0 Z = true) (wi : (Jvm.Cond.instantiable C kk).before a0 Z = true)
    (hty : parseFieldDescriptor d = some ty) (hn : narrow ty v = v) (hf : fits ty v = true) {g : JFrame} (hg : g.method = m) {rest : List Value} (hs : g.stack = v :: .ref a :: rest) (hd : decode c.code g.pc = .ok (.putfield index, 3)) :
    ∃ T' h', Stand p l e R s m args below meth c T' (locs ++ [⟨a, Jvm.RoadKit.slotOf Z O n d⟩]) cells slots ∧ T'.heap = h' ∧ Wr h h' a (Jvm.RoadKit.slotOf Z O n d) v ∧ ∀ target, Steps p.tables e below (T'.setTop { g with pc := g.pc + 3, stack := rest }) target → Steps p.tables e below (T.setTop g) target := by
  obtain ⟨cf, k, i, f, hi, hr⟩ := Cond.fieldRef_spec hown (own_ref (args := args) hZ w)
  obtain ⟨cell, cf', k2, i2, f2, h1, h2, h3, h4, h5, h6, h7⟩ := F
  obtain ⟨k', hi', -⟩ := State.fieldFound?_setVm (s := Z) hZ.alike h2
  have hi2 : s.fieldFound? O n d = some (cf', k', i2, f2) := hi'
  cases hi.symm.trans hi2
  obtain ⟨cell', kc, e1, e2, e3, -, e5⟩ := E
  cases h1.symm.trans e1
  obtain ⟨c1, k1, cf1, kf1, i1, f1, u1, u2, u3, -, u5, -, u7, -⟩ := Cond.lays_spec L
  cases h2.symm.trans u3
  cases e2.symm.trans u1
  cases e3.symm.trans u2
  obtain ⟨c2, kI, j1, j2, j3, -⟩ := Cond.instantiable_spec wi
  cases e2.symm.trans j1
  cases e3.symm.trans j2
  have hT := (State.fieldFound?_type h2 hty).2
  have hlt := (Array.getElem?_eq_some_iff.mp h7).1
  have qs : Z.slotType? cell.cls cell.vm f.slot = some ty := by
    cases hv : cell.vm <;> simp [State.slotType?, e3, j3, u7, hT] <;> simp [hv, VmData.isStatics] at h5
  have fZ : Z.fitsSlot cell.cls cell.vm f.slot v = true := by simp [State.fitsSlot, qs, hf]
  have fT : T.fitsSlot cell.cls cell.vm f.slot v = true := by
    have hal : Z.vm.Alike T.vm := (wtrans hZ X.warmed).alike
    rw [← State.fitsSlot_setVm hal] at fZ; exact fZ
  have es : Jvm.RoadKit.slotOf Z O n d = f.slot := by simp [Jvm.RoadKit.slotOf, h2]
  rw [es]
  obtain ⟨X', st⟩ := X.putfieldReady hx (own_ready X hr) h3 (Or.inl u5) (by rw [eT]; exact h1) h4 hlt (by rw [hT]; exact hn) fT hg hs hd
  exact ⟨_, _, X', rfl, ⟨cell, h1, h5, hlt, by rw [← eT]; rfl⟩, st⟩
def own_Mir (Z : State) (C : String) (mr : Addr) : Prop := ∃ (c : ClassId) (k : Class), Z.vm.findClass C = some c ∧ Z.vm.classes[c]? = some k ∧ k.mirror = some mr
theorem own_ldcM (X : Stand p l e R s m args below meth c T locs cells slots) (hx : p.tables.exec = Jvm.exec) (hZ : Z.Warmed39 s.vm) {own C : String} {index : Nat} (hown : s.vm.findClass own = some m.cls) (w : (Jvm.Cond.classLink own index C).before a0 Z = true) (eT : T.heap = h) {mr : Addr} (M : own_Mir Z C mr)
    {g : JFrame} (hg : g.method = m) (hd : decode c.code g.pc = .ok (.ldc index, 2)) :
    ∃ T', Stand p l e R s m args below meth c T' locs cells slots ∧ T'.heap = h ∧ ∀ target, Steps p.tables e below (T'.setTop { g with pc := g.pc + 2, stack := .ref mr :: g.stack }) target → Steps p.tables e below (T.setTop g) target := by
  obtain ⟨cc, kc, m1, m2, m3⟩ := M
  obtain ⟨k', q, ek⟩ := hZ.alike.2.2 _ _ m2
  have f1 : s.vm.findClass C = some cc := by rw [hZ.alike.findClass]; exact m1
  have f2 : k'.mirror = some mr := by rw [ek]; exact m3
  obtain ⟨vm', X', st⟩ := X.ldcMirror hx hown (mvT hZ w) (a := mr) (by simp [Term.eval, f1, q, f2]) hg hd
  exact ⟨_, X', eT, st⟩
theorem own_gcls (X : Stand p l e R s m args below meth c T locs cells slots) (hx : p.tables.exec = Jvm.exec) (hZ : Z.Warmed39 s.vm) {own C : String} {index : Nat} (hown : s.vm.findClass own = some m.cls)
    (w1 : (Jvm.Cond.methodLink own index ⟨"java/lang/Object", "getClass", "()Ljava/lang/Class;"⟩).before a0 Z = true) (w2 : (Jvm.Cond.declares ⟨"java/lang/Object", "getClass", "()Ljava/lang/Class;"⟩).before a0 Z = true) (w4 : (Jvm.Cond.selects C ⟨"java/lang/Object", "getClass", "()Ljava/lang/Class;"⟩ ⟨"java/lang/Object", "getClass", "()Ljava/lang/Class;"⟩).before a0 Z = true)
    (w5 : (Jvm.Cond.instanceMethod ⟨"java/lang/Object", "getClass", "()Ljava/lang/Class;"⟩).before a0 Z = true) (w6 : (Jvm.Cond.native ⟨"java/lang/Object", "getClass", "()Ljava/lang/Class;"⟩).before a0 Z = true) (eT : T.heap = h) {a : Addr} (E : Exa Z h a C) {mr : Addr} (M : own_Mir Z C mr)
    {g : JFrame} (hg : g.method = m) (hsize : g.locals.size = c.maxLocals) {rest : List Value} (hs : g.stack = .ref a :: rest) (hd : decode c.code g.pc = .ok (.invokevirtual index, 3)) (hf : 1 ≤ R.frames) {W : Nat} (hW : 2 * g.monitorRoom + (rest.map fun v => v.category).sum ≤ W) (hl : W + (nativeFrameWords "java/lang/Object" "getClass" 1 + 11) ≤ R.locals) :
    ∃ T', Stand p l e R s m args below meth c T' locs cells slots ∧ T'.heap = h ∧ ∀ target, Steps p.tables e below (T'.setTop { g with pc := g.pc + 3, stack := .ref mr :: rest }) target → Steps p.tables e below (T.setTop g) target := by
  obtain ⟨cB, kB, i1, i2, i3⟩ := isOf hZ eT E
  obtain ⟨cc, kc, m1, m2, m3⟩ := M
  have f1 : s.vm.findClass C = some cc := by rw [hZ.alike.findClass]; exact m1
  cases i1.symm.trans f1
  obtain ⟨k', q, ek⟩ := hZ.alike.2.2 _ _ m2
  obtain ⟨vm', X', st⟩ := X.getClassOf hx hown (mvT hZ w1) (mvT hZ w2) (notFace_of_selects (args := #[]) (mvT hZ w4)) (mvT hZ w4) (mvT hZ w5) (mvT hZ w6) f1 i3 q (by rw [ek]; exact m3) hg hsize hs hd hf (by omega)
  exact ⟨_, X', eT, st⟩
def own_Els (Z : State) (h : Heap) (vs : List Value) : Prop := ∀ v ∈ vs, v = .null ∨ ∃ x, v = .ref x ∧ Exa Z h x "java/lang/Integer"
theorem own_els_nil : own_Els Z h [] := fun _ q => nomatch q
theorem own_els_cons {v : Value} {vs : List Value} (q : v = .null ∨ ∃ x, v = .ref x ∧ Exa Z h x "java/lang/Integer") (r : own_Els Z h vs) : own_Els Z h (v :: vs) := fun u hu => (List.mem_cons.mp hu).elim (fun e => e ▸ q) (r u)
theorem own_els_ext {h' : Heap} {vs : List Value} (H : own_Els Z h vs) (E : Ext h h') : own_Els Z h' vs := fun v hv => (H v hv).imp id fun ⟨x, q, r⟩ => ⟨x, q, r.ext E⟩
theorem own_stoL_of {b : Addr} : ∀ us : List Value, (∀ v ∈ us, Sto Z h b v) → StoL Z h b us
  | [], _ => trivial
  | v :: r, H => ⟨H v (List.mem_cons_self ..), own_stoL_of r fun u hu => H u (List.mem_cons_of_mem _ hu)⟩
theorem own_stoL {b : Addr} {k : ClassId} {z : Int32} {vd vs : List Value} {dd : Value} (A : Arv Z h b k (.object "java/lang/Object") z vd dd) (O : Ovr Z k "java/lang/Object") (w : (Jvm.Cond.castable "java/lang/Integer" "java/lang/Object").before a0 Z = true) (H : own_Els Z h vs) (L : List Nat) (j : Nat) : StoL Z h b (L.map fun i => vs.getD (j + i) .null) := by
  obtain ⟨cl, Ar, q, -⟩ := A
  refine own_stoL_of _ fun v hv => ?_
  obtain ⟨i, -, rfl⟩ := List.mem_map.mp hv
  by_cases hi : j + i < vs.length
  · have e1 : vs.getD (j + i) .null = vs[j + i] := by simp [List.getD, hi]
    rw [e1]
    rcases H _ (List.getElem_mem hi) with e | ⟨x, e, E⟩
    · exact Or.inl e
    · rw [e]; exact Sto.ofV Ar q O (Ins.of_exa E w)
  · have e1 : vs.getD (j + i) .null = .null := by simp [List.getD, hi]
    rw [e1]; exact Or.inl rfl
theorem own_len {t : Term} {a : Addr} {cl : Cell} {ty : FieldType} {z : Int32} {s : State} {args : Array Value} (ev : t.eval args s none [] s = some (.ref a)) (A : Arr s s.heap a cl ty) (h : (Term.length t).eval args s none [] s = some (.int z)) : cl.slots.size < 2 ^ 31 ∧ cl.slots.size.toInt32 = z := by
  have q := A.fin (U := s) (Vm.Alike.refl _)
  simp only [Term.eval, ev, q, Option.bind_eq_bind, Option.bind_some] at h
  split at h
  · rename_i hl
    exact ⟨hl, by simpa using h⟩
  · cases h
theorem own_idx {s : State} {args : Array Value} {j : Int32} (hj : ¬ j < 0) : (Term.sub (Term.index 0) (Term.int (128 : Int32))).eval args s none [j.toNatClampNeg] s = some (.int (j - (128 : Int32))) := by
  have q := idx_at (args := args) (s := s) (first := s) (o := none) hj
  simp only [Term.eval] at q ⊢
  simp [(back32 hj).1]
end OwnLib
theorem own_cin {p : Int32} (h1 : ¬ p < (-128 : Int32)) (h2 : ¬ (127 : Int32) < p) : ¬ (p + (128 : Int32)) < 0 ∧ (p + (128 : Int32)) < (256 : Int32) := by
  rw [Int32.lt_iff_toInt_lt] at *
  have q := c_iadd p 128
  have e0 : (0 : Int32).toInt = 0 := by decide
  have e1 : (-128 : Int32).toInt = -128 := by decide
  have e2 : (127 : Int32).toInt = 127 := by decide
  have e3 : (128 : Int32).toInt = 128 := by decide
  have e4 : (256 : Int32).toInt = 256 := by decide
  have r := rng32 (p + 128)
  have r2 := rng32 p
  rw [Int32.lt_iff_toInt_lt]
  omega
theorem own_cval {p : Int32} : p + (128 : Int32) - (128 : Int32) = p := by simp [Int32.add_sub_cancel]
theorem own_nelt {i n : Int32} (h : i < n) : ¬ i = n := fun e => by subst e; exact absurd h (by simp [Int32.lt_irrefl])
theorem own_k (p : Int32) : (p &&& (7 : Int32)) % (6 : Int32) = 0 ∨ (p &&& (7 : Int32)) % (6 : Int32) = 1 ∨ (p &&& (7 : Int32)) % (6 : Int32) = 2 ∨ (p &&& (7 : Int32)) % (6 : Int32) = 3 ∨ (p &&& (7 : Int32)) % (6 : Int32) = 4 ∨ (p &&& (7 : Int32)) % (6 : Int32) = 5 := by
  have h := c_mask p 7 3 (by decide) (by decide)
  have q := (c_irem (p &&& 7) 6 6 (by decide)).1
  have e0 : (0 : Int32).toInt = 0 := by decide
  have e1 : (1 : Int32).toInt = 1 := by decide
  have e2 : (2 : Int32).toInt = 2 := by decide
  have e3 : (3 : Int32).toInt = 3 := by decide
  have e4 : (4 : Int32).toInt = 4 := by decide
  have e5 : (5 : Int32).toInt = 5 := by decide
  simp only [← Int32.toInt_inj, e0, e1, e2, e3, e4, e5]
  omega
theorem d2_0 : decode prog_114_method_1_code 0 = .ok (.aload_n 0, 1) := by decide +kernel
theorem d2_1 : decode prog_114_method_1_code 1 = .ok (.invokespecial 1, 3) := by decide +kernel
theorem d2_4 : decode prog_114_method_1_code 4 = .ok (.aload_n 0, 1) := by decide +kernel
theorem d2_5 : decode prog_114_method_1_code 5 = .ok (.aload_n 1, 1) := by decide +kernel
theorem d2_6 : decode prog_114_method_1_code 6 = .ok (.putfield 7, 3) := by decide +kernel
theorem d2_9 : decode prog_114_method_1_code 9 = .ok (.aload_n 0, 1) := by decide +kernel
theorem d2_10 : decode prog_114_method_1_code 10 = .ok (.iload_n 2, 1) := by decide +kernel
theorem d2_11 : decode prog_114_method_1_code 11 = .ok (.putfield 13, 3) := by decide +kernel
theorem d2_14 : decode prog_114_method_1_code 14 = .ok (.return_, 1) := by decide +kernel
theorem pn_0 : plainName "com/example/brisk_tableau/brisktableau/tableau/SharedList$Store" = true := by first | (simp [plainName, overriddenIn]; done) | decide +kernel
theorem ef_rmSt (m : MethodId) (x0 : Addr) (x1 : Addr) (x2 : Int32) : entryFrame m #[(.ref x0), (.ref x1), (.int x2)] 3 = mkF m 0 #[vr x0, vr x1, vi x2] [] := by first | (simp [entryFrame, mkF, argsToLocals, Value.category]; done) | rfl
def Q_rmSt (Z : State) (a1 : Addr) (a2 : Addr) (p3 : Int32) (h0 : Heap) (n0 : Nat) (v : Option Value) (h : Heap) (L : List Loc) : Prop := (v = none) ∧ (Fr n0 L) ∧ (Keep h0 h [a1]) ∧ (Fld Z h a1 "com/example/brisk_tableau/brisktableau/tableau/SharedList$Store" "items" "[Ljava/lang/Object;" (.ref a2)) ∧ (Fld Z h a1 "com/example/brisk_tableau/brisktableau/tableau/SharedList$Store" "filled" "I" (.int p3))
set_option maxRecDepth 65536 in
set_option maxHeartbeats 40000000 in
theorem rmSt (l : Launch) (Z : State) (a0 : Array Value) (hw : ∀ d ∈ tables_1, d.before a0 Z = true) (ws : List Jvm.Cond) (a1 : Addr) (a2 : Addr) (p3 : Int32) (h0 : Heap) (n0 : Nat) (Z0 : n0 ≤ h0.size) (O0 : Old Z n0 h0) (F_items_a1 : Fld Z h0 a1 "com/example/brisk_tableau/brisktableau/tableau/SharedList$Store" "items" "[Ljava/lang/Object;" .null) (F_filled_a1 : Fld Z h0 a1 "com/example/brisk_tableau/brisktableau/tableau/SharedList$Store" "filled" "I" (.int (0 : Int32))) (E_a1 : Exa Z h0 a1 "com/example/brisk_tableau/brisktableau/tableau/SharedList$Store") (g_a1 : n0 ≤ a1) :
    MetFree l y_0 (head1 (Jvm.Cond.code y_0 prog_114_method_1_code 3 none :: ws) ({ frames := 1, cells := 0, slots := 0, locals := 12 } : Room)) (fun a U => a = #[(.ref a1), (.ref a2), (.int p3)] ∧ Z.Warmed39 U.vm ∧ U.heap = h0) (fun _ _ _ _ _ => True) (fun _ U o U' => ∃ v L, o = .returned v ∧ Q_rmSt Z a1 a2 p3 h0 n0 v U'.heap L ∧ FrameEnd U o U' L ({ frames := 1, cells := 0, slots := 0, locals := 12 } : Room).cells ({ frames := 1, cells := 0, slots := 0, locals := 12 } : Room).slots) := by
  refine MetFree.of_bodySF (plainFor_of_name pn_0) hisR ?_
  intro p e s m args below meth c s₁ Bd hml0 hP hK
  obtain ⟨rfl, hZ, hh⟩ := hP
  have hx := Bd.exec
  have hby := Bd.bytes
  have hml : c.maxLocals = 3 := hml0
  have hown : s.vm.findClass "com/example/brisk_tableau/brisktableau/tableau/SharedList$Store" = some m.cls := findClass_of_methodNamed Bd.named
  have hnm := (name_of_methodNamed Bd.named Bd.method).1
  have X0 : Stand p l e ({ frames := 1, cells := 0, slots := 0, locals := 12 } : Room) s m #[(.ref a1), (.ref a2), (.int p3)] below meth c s₁ [] 0 0 := Stand.of_body Bd
  have e0 : s₁.heap = h0 := by rw [← hh, Bd.state]; rfl
  have N0 := Fr.nil n0
  have KC : Keep h0 h0 [a1] := Keep.refl h0 _
  have pre0 : ∀ t, Steps p.tables e below (s₁.setTop (mkF m 0 #[vr a1, vr a2, vi p3] [])) t → Steps p.tables e below (s₁.setTop (entryFrame m #[(.ref a1), (.ref a2), (.int p3)] 3)) t := fun t k => castTop (ef_rmSt m a1 a2 p3) k
  obtain ⟨T1, X1, e1, st1⟩ := initO X0 hx hZ hown (ww hw 15 rfl) (ww hw 16 rfl) (ww hw 17 rfl) e0 (g := (mkF m 1 #[vr a1, vr a2, vi p3] [(.ref a1)])) rfl (by rw [hml]; rfl) rfl (hb hby d2_1) (by decide) (W := 0) (by show 2 * 0 + _ ≤ _; exact Nat.le_of_eq rfl) (by decide)
  obtain ⟨T2, h2, X2, e2, W2, st2⟩ := putF X1 hx hZ hown (host := "") (Or.inl (ww hw 18 rfl)) Via.refl e1 F_items_a1 E_a1 (Or.inr ⟨(ww hw 19 rfl), rfl, hnm⟩) (ww hw 8 rfl) (ty := (.array (.object "java/lang/Object"))) (by decide) rfl rfl (g := (mkF m 6 #[vr a1, vr a2, vi p3] [(.ref a2), (.ref a1)])) rfl rfl (hb hby d2_6)
  have N2 := Fr.snoc X2 N0 g_a1
  replace F_items_a1 := F_items_a1.same W2
  replace F_filled_a1 := F_filled_a1.other W2 (Or.inr (slot_ne (Or.inl (ww hw 21 rfl)) (Or.inr (ww hw 19 rfl)) (by decide) (t := .int) (t' := (.array (.object "java/lang/Object"))) (by decide) (by decide)))
  replace E_a1 := E_a1.wr W2
  replace O0 := O0.wr W2 g_a1
  replace KC := KC.wr W2 (Or.inl (List.mem_of_getElem? (i := 0) rfl))
  obtain ⟨T3, h3, X3, e3, W3, st3⟩ := putF X2 hx hZ hown (host := "") (Or.inl (ww hw 20 rfl)) Via.refl e2 F_filled_a1 E_a1 (Or.inl (ww hw 21 rfl)) (ww hw 8 rfl) (ty := .int) (by decide) rfl rfl (g := (mkF m 11 #[vr a1, vr a2, vi p3] [(.int p3), (.ref a1)])) rfl rfl (hb hby d2_11)
  have N3 := Fr.snoc X3 N2 g_a1
  replace F_filled_a1 := F_filled_a1.same W3
  replace F_items_a1 := F_items_a1.other W3 (Or.inr (slot_ne (Or.inr (ww hw 19 rfl)) (Or.inl (ww hw 21 rfl)) (by decide) (t := (.array (.object "java/lang/Object"))) (t' := .int) (by decide) (by decide)))
  replace E_a1 := E_a1.wr W3
  replace O0 := O0.wr W3 g_a1
  replace KC := KC.wr W3 (Or.inl (List.mem_of_getElem? (i := 0) rfl))
  obtain ⟨fs, hr, hrun, hended, hW, hsame⟩ := X3.leave (v := none) (fun _ => rfl)
  refine ⟨_, _, pre0 _ ?_, hrun, hended, _, _, rfl, ?_, ⟨_, rfl⟩, hW, hsame.mono (by decide) (by decide)⟩
  · show SS p e below m s₁ 0 #[vr a1, vr a2, vi p3] [] _
    refine XS.aloadN X0.here hx rfl (hb hby d2_0) rfl rfl ?_
    show SS p e below m s₁ 1 #[vr a1, vr a2, vi p3] [(.ref a1)] _
    refine st1 _ ?_
    show SS p e below m T1 4 #[vr a1, vr a2, vi p3] [] _
    refine XS.aloadN X1.here hx rfl (hb hby d2_4) rfl rfl ?_
    show SS p e below m T1 5 #[vr a1, vr a2, vi p3] [(.ref a1)] _
    refine XS.aloadN X1.here hx rfl (hb hby d2_5) rfl rfl ?_
    show SS p e below m T1 6 #[vr a1, vr a2, vi p3] [(.ref a2), (.ref a1)] _
    refine st2 _ ?_
    show SS p e below m T2 9 #[vr a1, vr a2, vi p3] [] _
    refine XS.aloadN X2.here hx rfl (hb hby d2_9) rfl rfl ?_
    show SS p e below m T2 10 #[vr a1, vr a2, vi p3] [(.ref a1)] _
    refine XS.iloadN X2.here hx rfl (hb hby d2_10) rfl ?_
    show SS p e below m T2 11 #[vr a1, vr a2, vi p3] [(.int p3), (.ref a1)] _
    refine st3 _ ?_
    show SS p e below m T3 14 #[vr a1, vr a2, vi p3] [] _
    exact X3.returnOut hx Bd.returns (hb hby d2_14) hr
  · show Q_rmSt Z a1 a2 p3 h0 n0 _ T3.heap _
    rw [e3]
    exact ⟨rfl, N3, KC, F_items_a1, F_filled_a1⟩
theorem d4_0 : decode prog_112_method_2_code 0 = .ok (.aload_n 0, 1) := by decide +kernel
theorem d4_1 : decode prog_112_method_2_code 1 = .ok (.invokespecial 14, 3) := by decide +kernel
theorem d4_4 : decode prog_112_method_2_code 4 = .ok (.aload_n 0, 1) := by decide +kernel
theorem d4_5 : decode prog_112_method_2_code 5 = .ok (.aload_n 1, 1) := by decide +kernel
theorem d4_6 : decode prog_112_method_2_code 6 = .ok (.putfield 17, 3) := by decide +kernel
theorem d4_9 : decode prog_112_method_2_code 9 = .ok (.aload_n 0, 1) := by decide +kernel
theorem d4_10 : decode prog_112_method_2_code 10 = .ok (.iload_n 2, 1) := by decide +kernel
theorem d4_11 : decode prog_112_method_2_code 11 = .ok (.putfield 21, 3) := by decide +kernel
theorem d4_14 : decode prog_112_method_2_code 14 = .ok (.return_, 1) := by decide +kernel
theorem pn_1 : plainName "com/example/brisk_tableau/brisktableau/tableau/SharedList" = true := by first | (simp [plainName, overriddenIn]; done) | decide +kernel
theorem ef_rmLi (m : MethodId) (x0 : Addr) (x1 : Addr) (x2 : Int32) : entryFrame m #[(.ref x0), (.ref x1), (.int x2)] 3 = mkF m 0 #[vr x0, vr x1, vi x2] [] := by first | (simp [entryFrame, mkF, argsToLocals, Value.category]; done) | rfl
def Q_rmLi (Z : State) (a1 : Addr) (a2 : Addr) (p3 : Int32) (h0 : Heap) (n0 : Nat) (v : Option Value) (h : Heap) (L : List Loc) : Prop := (v = none) ∧ (Fr n0 L) ∧ (Keep h0 h [a1]) ∧ (Fld Z h a1 "com/example/brisk_tableau/brisktableau/tableau/SharedList" "store" "Lcom/example/brisk_tableau/brisktableau/tableau/SharedList$Store;" (.ref a2)) ∧ (Fld Z h a1 "com/example/brisk_tableau/brisktableau/tableau/SharedList" "size" "I" (.int p3))
set_option maxRecDepth 65536 in
set_option maxHeartbeats 40000000 in
theorem rmLi (l : Launch) (Z : State) (a0 : Array Value) (hw : ∀ d ∈ tables_1, d.before a0 Z = true) (ws : List Jvm.Cond) (a1 : Addr) (a2 : Addr) (p3 : Int32) (h0 : Heap) (n0 : Nat) (Z0 : n0 ≤ h0.size) (O0 : Old Z n0 h0) (F_store_a1 : Fld Z h0 a1 "com/example/brisk_tableau/brisktableau/tableau/SharedList" "store" "Lcom/example/brisk_tableau/brisktableau/tableau/SharedList$Store;" .null) (F_size_a1 : Fld Z h0 a1 "com/example/brisk_tableau/brisktableau/tableau/SharedList" "size" "I" (.int (0 : Int32))) (E_a1 : Exa Z h0 a1 "com/example/brisk_tableau/brisktableau/tableau/SharedList") (g_a1 : n0 ≤ a1) :
    MetFree l y_1 (head1 (Jvm.Cond.code y_1 prog_112_method_2_code 3 none :: ws) ({ frames := 1, cells := 0, slots := 0, locals := 12 } : Room)) (fun a U => a = #[(.ref a1), (.ref a2), (.int p3)] ∧ Z.Warmed39 U.vm ∧ U.heap = h0) (fun _ _ _ _ _ => True) (fun _ U o U' => ∃ v L, o = .returned v ∧ Q_rmLi Z a1 a2 p3 h0 n0 v U'.heap L ∧ FrameEnd U o U' L ({ frames := 1, cells := 0, slots := 0, locals := 12 } : Room).cells ({ frames := 1, cells := 0, slots := 0, locals := 12 } : Room).slots) := by
  refine MetFree.of_bodySF (plainFor_of_name pn_1) hisR ?_
  intro p e s m args below meth c s₁ Bd hml0 hP hK
  obtain ⟨rfl, hZ, hh⟩ := hP
  have hx := Bd.exec
  have hby := Bd.bytes
  have hml : c.maxLocals = 3 := hml0
  have hown : s.vm.findClass "com/example/brisk_tableau/brisktableau/tableau/SharedList" = some m.cls := findClass_of_methodNamed Bd.named
  have hnm := (name_of_methodNamed Bd.named Bd.method).1
  have X0 : Stand p l e ({ frames := 1, cells := 0, slots := 0, locals := 12 } : Room) s m #[(.ref a1), (.ref a2), (.int p3)] below meth c s₁ [] 0 0 := Stand.of_body Bd
  have e0 : s₁.heap = h0 := by rw [← hh, Bd.state]; rfl
  have N0 := Fr.nil n0
  have KC : Keep h0 h0 [a1] := Keep.refl h0 _
  have pre0 : ∀ t, Steps p.tables e below (s₁.setTop (mkF m 0 #[vr a1, vr a2, vi p3] [])) t → Steps p.tables e below (s₁.setTop (entryFrame m #[(.ref a1), (.ref a2), (.int p3)] 3)) t := fun t k => castTop (ef_rmLi m a1 a2 p3) k
  obtain ⟨T1, X1, e1, st1⟩ := initO X0 hx hZ hown (ww hw 25 rfl) (ww hw 16 rfl) (ww hw 17 rfl) e0 (g := (mkF m 1 #[vr a1, vr a2, vi p3] [(.ref a1)])) rfl (by rw [hml]; rfl) rfl (hb hby d4_1) (by decide) (W := 0) (by show 2 * 0 + _ ≤ _; exact Nat.le_of_eq rfl) (by decide)
  obtain ⟨T2, h2, X2, e2, W2, st2⟩ := putF X1 hx hZ hown (host := "") (Or.inl (ww hw 26 rfl)) Via.refl e1 F_store_a1 E_a1 (Or.inl (ww hw 27 rfl)) (ww hw 2 rfl) (ty := (.object "com/example/brisk_tableau/brisktableau/tableau/SharedList$Store")) (by decide) rfl rfl (g := (mkF m 6 #[vr a1, vr a2, vi p3] [(.ref a2), (.ref a1)])) rfl rfl (hb hby d4_6)
  have N2 := Fr.snoc X2 N0 g_a1
  replace F_store_a1 := F_store_a1.same W2
  replace F_size_a1 := F_size_a1.other W2 (Or.inr (slot_ne (Or.inl (ww hw 29 rfl)) (Or.inl (ww hw 27 rfl)) (by decide) (t := .int) (t' := (.object "com/example/brisk_tableau/brisktableau/tableau/SharedList$Store")) (by decide) (by decide)))
  replace E_a1 := E_a1.wr W2
  replace O0 := O0.wr W2 g_a1
  replace KC := KC.wr W2 (Or.inl (List.mem_of_getElem? (i := 0) rfl))
  obtain ⟨T3, h3, X3, e3, W3, st3⟩ := putF X2 hx hZ hown (host := "") (Or.inl (ww hw 28 rfl)) Via.refl e2 F_size_a1 E_a1 (Or.inl (ww hw 29 rfl)) (ww hw 2 rfl) (ty := .int) (by decide) rfl rfl (g := (mkF m 11 #[vr a1, vr a2, vi p3] [(.int p3), (.ref a1)])) rfl rfl (hb hby d4_11)
  have N3 := Fr.snoc X3 N2 g_a1
  replace F_size_a1 := F_size_a1.same W3
  replace F_store_a1 := F_store_a1.other W3 (Or.inr (slot_ne (Or.inl (ww hw 27 rfl)) (Or.inl (ww hw 29 rfl)) (by decide) (t := (.object "com/example/brisk_tableau/brisktableau/tableau/SharedList$Store")) (t' := .int) (by decide) (by decide)))
  replace E_a1 := E_a1.wr W3
  replace O0 := O0.wr W3 g_a1
  replace KC := KC.wr W3 (Or.inl (List.mem_of_getElem? (i := 0) rfl))
  obtain ⟨fs, hr, hrun, hended, hW, hsame⟩ := X3.leave (v := none) (fun _ => rfl)
  refine ⟨_, _, pre0 _ ?_, hrun, hended, _, _, rfl, ?_, ⟨_, rfl⟩, hW, hsame.mono (by decide) (by decide)⟩
  · show SS p e below m s₁ 0 #[vr a1, vr a2, vi p3] [] _
    refine XS.aloadN X0.here hx rfl (hb hby d4_0) rfl rfl ?_
    show SS p e below m s₁ 1 #[vr a1, vr a2, vi p3] [(.ref a1)] _
    refine st1 _ ?_
    show SS p e below m T1 4 #[vr a1, vr a2, vi p3] [] _
    refine XS.aloadN X1.here hx rfl (hb hby d4_4) rfl rfl ?_
    show SS p e below m T1 5 #[vr a1, vr a2, vi p3] [(.ref a1)] _
    refine XS.aloadN X1.here hx rfl (hb hby d4_5) rfl rfl ?_
    show SS p e below m T1 6 #[vr a1, vr a2, vi p3] [(.ref a2), (.ref a1)] _
    refine st2 _ ?_
    show SS p e below m T2 9 #[vr a1, vr a2, vi p3] [] _
    refine XS.aloadN X2.here hx rfl (hb hby d4_9) rfl rfl ?_
    show SS p e below m T2 10 #[vr a1, vr a2, vi p3] [(.ref a1)] _
    refine XS.iloadN X2.here hx rfl (hb hby d4_10) rfl ?_
    show SS p e below m T2 11 #[vr a1, vr a2, vi p3] [(.int p3), (.ref a1)] _
    refine st3 _ ?_
    show SS p e below m T3 14 #[vr a1, vr a2, vi p3] [] _
    exact X3.returnOut hx Bd.returns (hb hby d4_14) hr
  · show Q_rmLi Z a1 a2 p3 h0 n0 _ T3.heap _
    rw [e3]
    exact ⟨rfl, N3, KC, F_store_a1, F_size_a1⟩
theorem pd_0 : parseMethodDescriptor "([Ljava/lang/Object;I)V" = some ⟨[(.array (.object "java/lang/Object")), .int], none⟩ := by decide +kernel
theorem pd_1 : parseMethodDescriptor "(Lcom/example/brisk_tableau/brisktableau/tableau/SharedList$Store;I)V" = some ⟨[(.object "com/example/brisk_tableau/brisktableau/tableau/SharedList$Store"), .int], none⟩ := by decide +kernel
theorem d1_0 : decode prog_112_method_1_code 0 = .ok (.aload_n 0, 1) := by decide +kernel
theorem d1_1 : decode prog_112_method_1_code 1 = .ok (.new 1, 3) := by decide +kernel
theorem d1_4 : decode prog_112_method_1_code 4 = .ok (.dup, 1) := by decide +kernel
theorem d1_5 : decode prog_112_method_1_code 5 = .ok (.iconst 4, 1) := by decide +kernel
theorem d1_6 : decode prog_112_method_1_code 6 = .ok (.anewarray 5, 3) := by decide +kernel
theorem d1_9 : decode prog_112_method_1_code 9 = .ok (.iconst 0, 1) := by decide +kernel
theorem d1_10 : decode prog_112_method_1_code 10 = .ok (.invokespecial 7, 3) := by decide +kernel
theorem d1_13 : decode prog_112_method_1_code 13 = .ok (.iconst 0, 1) := by decide +kernel
theorem d1_14 : decode prog_112_method_1_code 14 = .ok (.invokespecial 11, 3) := by decide +kernel
theorem d1_17 : decode prog_112_method_1_code 17 = .ok (.return_, 1) := by decide +kernel
theorem ef_rmL0 (m : MethodId) (x0 : Addr) : entryFrame m #[(.ref x0)] 1 = mkF m 0 #[vr x0] [] := by first | (simp [entryFrame, mkF, argsToLocals, Value.category]; done) | rfl
def Q_rmL0 (Z : State) (a1 : Addr) (h0 : Heap) (n0 : Nat) (v : Option Value) (h : Heap) (L : List Loc) : Prop := ∃ b : Addr, ∃ c : Addr, ∃ k : ClassId, (v = none) ∧ (Fr n0 L) ∧ (Keep h0 h [a1]) ∧ (h0.size ≤ b) ∧ (h0.size ≤ c) ∧ (Fld Z h a1 "com/example/brisk_tableau/brisktableau/tableau/SharedList" "store" "Lcom/example/brisk_tableau/brisktableau/tableau/SharedList$Store;" (.ref b)) ∧ (Fld Z h a1 "com/example/brisk_tableau/brisktableau/tableau/SharedList" "size" "I" (.int (0 : Int32))) ∧ (Exa Z h b "com/example/brisk_tableau/brisktableau/tableau/SharedList$Store") ∧ (Fld Z h b "com/example/brisk_tableau/brisktableau/tableau/SharedList$Store" "items" "[Ljava/lang/Object;" (.ref c)) ∧ (Fld Z h b "com/example/brisk_tableau/brisktableau/tableau/SharedList$Store" "filled" "I" (.int (0 : Int32))) ∧ (Exa Z h c "[Ljava/lang/Object;") ∧ (Arv Z h c k (.object "java/lang/Object") (4 : Int32) [.null, .null, .null, .null] .null) ∧ (Ovr Z k "java/lang/Object")
set_option maxRecDepth 65536 in
set_option maxHeartbeats 40000000 in
theorem rmL0 (l : Launch) (Z : State) (a0 : Array Value) (hw : ∀ d ∈ tables_1, d.before a0 Z = true) (ws : List Jvm.Cond) (a1 : Addr) (h0 : Heap) (n0 : Nat) (Z0 : n0 ≤ h0.size) (O0 : Old Z n0 h0) (F_store_a1 : Fld Z h0 a1 "com/example/brisk_tableau/brisktableau/tableau/SharedList" "store" "Lcom/example/brisk_tableau/brisktableau/tableau/SharedList$Store;" .null) (F_size_a1 : Fld Z h0 a1 "com/example/brisk_tableau/brisktableau/tableau/SharedList" "size" "I" (.int (0 : Int32))) (E_a1 : Exa Z h0 a1 "com/example/brisk_tableau/brisktableau/tableau/SharedList") (g_a1 : n0 ≤ a1) :
    MetFree l y_2 (head1 (Jvm.Cond.code y_2 prog_112_method_1_code 1 none :: ws) ({ frames := 2, cells := 2, slots := 6, locals := 28 } : Room)) (fun a U => a = #[(.ref a1)] ∧ Z.Warmed39 U.vm ∧ U.heap = h0) (fun _ _ _ _ _ => True) (fun _ U o U' => ∃ v L, o = .returned v ∧ Q_rmL0 Z a1 h0 n0 v U'.heap L ∧ FrameEnd U o U' L ({ frames := 2, cells := 2, slots := 6, locals := 28 } : Room).cells ({ frames := 2, cells := 2, slots := 6, locals := 28 } : Room).slots) := by
  refine MetFree.of_bodySF (plainFor_of_name pn_1) hisR ?_
  intro p e s m args below meth c s₁ Bd hml0 hP hK
  obtain ⟨rfl, hZ, hh⟩ := hP
  have hx := Bd.exec
  have hby := Bd.bytes
  have hml : c.maxLocals = 1 := hml0
  have hown : s.vm.findClass "com/example/brisk_tableau/brisktableau/tableau/SharedList" = some m.cls := findClass_of_methodNamed Bd.named
  have hnm := (name_of_methodNamed Bd.named Bd.method).1
  have X0 : Stand p l e ({ frames := 2, cells := 2, slots := 6, locals := 28 } : Room) s m #[(.ref a1)] below meth c s₁ [] 0 0 := Stand.of_body Bd
  have e0 : s₁.heap = h0 := by rw [← hh, Bd.state]; rfl
  have N0 := Fr.nil n0
  have KC : Keep h0 h0 [a1] := Keep.refl h0 _
  have pre0 : ∀ t, Steps p.tables e below (s₁.setTop (mkF m 0 #[vr a1] [])) t → Steps p.tables e below (s₁.setTop (entryFrame m #[(.ref a1)] 1)) t := fun t k => castTop (ef_rmL0 m a1) k
  obtain ⟨T1, h1, X1, e1, E1, A1, D1, -, st1⟩ := newO X0 hx hZ hown (ww hw 7 rfl) (ww hw 8 rfl) (ww hw 9 rfl) e0 (g := (mkF m 1 #[vr a1] [(.ref a1)])) rfl (hb hby d1_1) (by decide) (by decide)
  obtain ⟨b1, g1⟩ : ∃ z, z = h0.size := ⟨_, rfl⟩
  rw [← g1] at A1 D1 st1
  have ne_a1_b1 : a1 ≠ b1 := Nat.ne_of_lt (Nat.lt_of_lt_of_le F_store_a1.lt (Nat.le_of_eq g1.symm))
  have g_b1 : n0 ≤ b1 := Nat.le_trans (Nat.le_trans Z0 KC.1) (Nat.le_of_eq g1.symm)
  have sz_b1 : h0.size ≤ b1 := Nat.le_trans KC.1 (Nat.le_of_eq g1.symm)
  replace F_store_a1 := F_store_a1.ext E1
  replace F_size_a1 := F_size_a1.ext E1
  replace E_a1 := E_a1.ext E1
  replace O0 := O0.ext E1
  replace KC := KC.ext E1
  have F_items_b1 : Fld Z h1 b1 "com/example/brisk_tableau/brisktableau/tableau/SharedList$Store" "items" "[Ljava/lang/Object;" .null := D1 (Or.inr (ww hw 19 rfl)) (ty := (.array (.object "java/lang/Object"))) (by decide)
  have F_filled_b1 : Fld Z h1 b1 "com/example/brisk_tableau/brisktableau/tableau/SharedList$Store" "filled" "I" (.int (0 : Int32)) := D1 (Or.inl (ww hw 21 rfl)) (ty := .int) (by decide)
  obtain ⟨T2, h2, k2, X2, e2, E2, A2, Ea2, Ov2, st2⟩ := newRE X1 hx hZ hown (ww hw 10 rfl) (ww hw 11 rfl) e1 (g := (mkF m 6 #[vr a1] [(.int (4 : Int32)), (.ref b1), (.ref b1), (.ref a1)])) rfl (hb hby d1_6) rfl (by decide) (cap := 4) (by decide) (by decide) (by decide) (by decide) (ad := "[Ljava/lang/Object;") (by decide)
  obtain ⟨b2, g2⟩ : ∃ z, z = h1.size := ⟨_, rfl⟩
  rw [← g2] at A2 st2 Ea2
  have ne_a1_b2 : a1 ≠ b2 := Nat.ne_of_lt (Nat.lt_of_lt_of_le F_store_a1.lt (Nat.le_of_eq g2.symm))
  have ne_b1_b2 : b1 ≠ b2 := Nat.ne_of_lt (Nat.lt_of_lt_of_le A1.lt (Nat.le_of_eq g2.symm))
  have g_b2 : n0 ≤ b2 := Nat.le_trans (Nat.le_trans Z0 KC.1) (Nat.le_of_eq g2.symm)
  have sz_b2 : h0.size ≤ b2 := Nat.le_trans KC.1 (Nat.le_of_eq g2.symm)
  replace F_store_a1 := F_store_a1.ext E2
  replace F_size_a1 := F_size_a1.ext E2
  replace E_a1 := E_a1.ext E2
  replace A1 := A1.ext E2
  replace F_items_b1 := F_items_b1.ext E2
  replace F_filled_b1 := F_filled_b1.ext E2
  replace O0 := O0.ext E2
  replace KC := KC.ext E2
  have V_b2 : Arv Z h2 b2 k2 (.object "java/lang/Object") (4 : Int32) [.null, .null, .null, .null] .null := (Arv.new A2 (by decide)).pad (pad_rep [] .null 4)
  obtain ⟨_, _, ⟨T3, L3, kz3, nz3⟩, -, X3, ⟨Lc3, hQ3, l3, y3, z3⟩, st3⟩ := X2.specialBack hx (y := y_0) rfl hown (mvT hZ (ww hw 12 rfl)) (mvT hZ (ww hw 13 rfl)) (mvT hZ (ww hw 14 rfl)) (by decide) (backOf (W := 2) (rmSt l Z a0 hw [] b1 b2 (0 : Int32) h2 n0 (Nat.le_trans Z0 KC.1) O0 F_items_b1 F_filled_b1 A1 g_b1) hZ (ww hw 14 rfl) (ww hw 9 rfl) (by decide) (by decide)) (g := (mkF m 10 #[vr a1] [(.int (0 : Int32)), (.ref b2), (.ref b1), (.ref b1), (.ref a1)])) rfl (by rw [hml]; rfl) (Steps.refl _) (a := b1) (argsL := [(.ref b2), (.int (0 : Int32))]) (rest := [(.ref b1), (.ref a1)]) (lenOf pd_0 rfl) rfl (by show 2 * 0 + _ ≤ _; exact Nat.le_of_eq rfl) (hb hby d1_10) (fun _ _ => ⟨rfl, e2, (by decide : 2 + 0 ≤ _), (by decide : 6 + 0 ≤ _)⟩)
  dsimp only [Pt.U, Pt.locs, Pt.cells, Pt.slots] at X3 l3 y3 z3 st3 hQ3
  subst l3 y3 z3
  obtain ⟨rfl, N3q, K3, F_items_a1_3, F_filled_a1_3⟩ := hQ3
  have N3 := Fr.app N0 N3q
  replace F_store_a1 := F_store_a1.keep K3 (ninS ne_a1_b1 nin0)
  replace F_size_a1 := F_size_a1.keep K3 (ninS ne_a1_b1 nin0)
  replace E_a1 := E_a1.keep K3
  replace A1 := A1.keep K3
  replace Ea2 := Ea2.keep K3
  replace V_b2 := V_b2.keep K3 (ninS (Ne.symm ne_b1_b2) nin0)
  replace O0 := O0.keep K3 (allS g_b1 all0)
  replace KC := KC.trans K3 (allS (Or.inr sz_b1) all0)
  obtain ⟨_, _, ⟨T4, L4, kz4, nz4⟩, -, X4, ⟨Lc4, hQ4, l4, y4, z4⟩, st4⟩ := X3.specialBack hx (y := y_1) rfl hown (mvT hZ (ww hw 22 rfl)) (mvT hZ (ww hw 23 rfl)) (mvT hZ (ww hw 24 rfl)) (by decide) (backOf (W := 0) (rmLi l Z a0 hw [] a1 b1 (0 : Int32) T3.heap n0 (Nat.le_trans Z0 KC.1) O0 F_store_a1 F_size_a1 E_a1 g_a1) hZ (ww hw 24 rfl) (ww hw 3 rfl) (by decide) (by decide)) (g := (mkF m 14 #[vr a1] [(.int (0 : Int32)), (.ref b1), (.ref a1)])) rfl (by rw [hml]; rfl) (Steps.refl _) (a := a1) (argsL := [(.ref b1), (.int (0 : Int32))]) (rest := []) (lenOf pd_1 rfl) rfl (by show 2 * 0 + _ ≤ _; exact Nat.le_of_eq rfl) (hb hby d1_14) (fun _ _ => ⟨rfl, rfl, (by decide : 2 + 0 ≤ _), (by decide : 6 + 0 ≤ _)⟩)
  dsimp only [Pt.U, Pt.locs, Pt.cells, Pt.slots] at X4 l4 y4 z4 st4 hQ4
  subst l4 y4 z4
  obtain ⟨rfl, N4q, K4, F_store_a1_4, F_size_a1_4⟩ := hQ4
  have N4 := Fr.app N3 N4q
  replace E_a1 := E_a1.keep K4
  replace A1 := A1.keep K4
  replace Ea2 := Ea2.keep K4
  replace V_b2 := V_b2.keep K4 (ninS (Ne.symm ne_a1_b2) nin0)
  replace F_items_a1_3 := F_items_a1_3.keep K4 (ninS (Ne.symm ne_a1_b1) nin0)
  replace F_filled_a1_3 := F_filled_a1_3.keep K4 (ninS (Ne.symm ne_a1_b1) nin0)
  replace O0 := O0.keep K4 (allS g_a1 all0)
  replace KC := KC.trans K4 (allS (Or.inl (List.mem_of_getElem? (i := 0) rfl)) all0)
  obtain ⟨fs, hr, hrun, hended, hW, hsame⟩ := X4.leave (v := none) (fun _ => rfl)
  refine ⟨_, _, pre0 _ ?_, hrun, hended, _, _, rfl, ?_, ⟨_, rfl⟩, hW, hsame.mono (by decide) (by decide)⟩
  · show SS p e below m s₁ 0 #[vr a1] [] _
    refine XS.aloadN X0.here hx rfl (hb hby d1_0) rfl rfl ?_
    show SS p e below m s₁ 1 #[vr a1] [(.ref a1)] _
    refine st1 _ ?_
    show SS p e below m T1 4 #[vr a1] [(.ref b1), (.ref a1)] _
    refine XS.dup X1.here hx rfl (hb hby d1_4) rfl rfl ?_
    show SS p e below m T1 5 #[vr a1] [(.ref b1), (.ref b1), (.ref a1)] _
    refine XS.iconst X1.here hx rfl (hb hby d1_5) ?_
    show SS p e below m T1 6 #[vr a1] [(.int (4 : Int32)), (.ref b1), (.ref b1), (.ref a1)] _
    refine st2 _ ?_
    show SS p e below m T2 9 #[vr a1] [(.ref b2), (.ref b1), (.ref b1), (.ref a1)] _
    refine XS.iconst X2.here hx rfl (hb hby d1_9) ?_
    show SS p e below m T2 10 #[vr a1] [(.int (0 : Int32)), (.ref b2), (.ref b1), (.ref b1), (.ref a1)] _
    refine st3.trans ?_
    show SS p e below m T3 13 #[vr a1] [(.ref b1), (.ref a1)] _
    refine XS.iconst X3.here hx rfl (hb hby d1_13) ?_
    show SS p e below m T3 14 #[vr a1] [(.int (0 : Int32)), (.ref b1), (.ref a1)] _
    refine st4.trans ?_
    show SS p e below m T4 17 #[vr a1] [] _
    exact X4.returnOut hx Bd.returns (hb hby d1_17) hr
  · show Q_rmL0 Z a1 h0 n0 _ T4.heap _
    exact ⟨b1, b2, k2, rfl, N4, KC, sz_b1, sz_b2, F_store_a1_4, F_size_a1_4, A1, F_items_a1_3, F_filled_a1_3, Ea2, V_b2, Ov2⟩
theorem d15_0 : decode jdk_18_method_1_code 0 = .ok (.aload_n 0, 1) := by decide +kernel
theorem d15_1 : decode jdk_18_method_1_code 1 = .ok (.invokespecial 1, 3) := by decide +kernel
theorem d15_4 : decode jdk_18_method_1_code 4 = .ok (.return_, 1) := by decide +kernel
theorem pn_2 : plainName "java/lang/Number" = true := by first | (simp [plainName, overriddenIn]; done) | decide +kernel
theorem ef_rmNu (m : MethodId) (x0 : Addr) : entryFrame m #[(.ref x0)] 1 = mkF m 0 #[vr x0] [] := by first | (simp [entryFrame, mkF, argsToLocals, Value.category]; done) | rfl
def Q_rmNu (Z : State) (a1 : Addr) (h0 : Heap) (n0 : Nat) (v : Option Value) (h : Heap) (L : List Loc) : Prop := (v = none) ∧ (Fr n0 L) ∧ (h = h0)
set_option maxRecDepth 65536 in
set_option maxHeartbeats 40000000 in
theorem rmNu (l : Launch) (Z : State) (a0 : Array Value) (hw : ∀ d ∈ tables_1, d.before a0 Z = true) (ws : List Jvm.Cond) (a1 : Addr) (h0 : Heap) (n0 : Nat) (Z0 : n0 ≤ h0.size) (O0 : Old Z n0 h0) :
    MetFree l y_3 (head1 (Jvm.Cond.code y_3 jdk_18_method_1_code 1 none :: ws) ({ frames := 1, cells := 0, slots := 0, locals := 12 } : Room)) (fun a U => a = #[(.ref a1)] ∧ Z.Warmed39 U.vm ∧ U.heap = h0) (fun _ _ _ _ _ => True) (fun _ U o U' => ∃ v L, o = .returned v ∧ Q_rmNu Z a1 h0 n0 v U'.heap L ∧ FrameEnd U o U' L ({ frames := 1, cells := 0, slots := 0, locals := 12 } : Room).cells ({ frames := 1, cells := 0, slots := 0, locals := 12 } : Room).slots) := by
  refine MetFree.of_bodySF (plainFor_of_name pn_2) hisR ?_
  intro p e s m args below meth c s₁ Bd hml0 hP hK
  obtain ⟨rfl, hZ, hh⟩ := hP
  have hx := Bd.exec
  have hby := Bd.bytes
  have hml : c.maxLocals = 1 := hml0
  have hown : s.vm.findClass "java/lang/Number" = some m.cls := findClass_of_methodNamed Bd.named
  have hnm := (name_of_methodNamed Bd.named Bd.method).1
  have X0 : Stand p l e ({ frames := 1, cells := 0, slots := 0, locals := 12 } : Room) s m #[(.ref a1)] below meth c s₁ [] 0 0 := Stand.of_body Bd
  have e0 : s₁.heap = h0 := by rw [← hh, Bd.state]; rfl
  have N0 := Fr.nil n0
  have KC : Keep h0 h0 [] := Keep.refl h0 _
  have pre0 : ∀ t, Steps p.tables e below (s₁.setTop (mkF m 0 #[vr a1] [])) t → Steps p.tables e below (s₁.setTop (entryFrame m #[(.ref a1)] 1)) t := fun t k => castTop (ef_rmNu m a1) k
  obtain ⟨T1, X1, e1, st1⟩ := initO X0 hx hZ hown (ww hw 108 rfl) (ww hw 16 rfl) (ww hw 17 rfl) e0 (g := (mkF m 1 #[vr a1] [(.ref a1)])) rfl (by rw [hml]; rfl) rfl (hb hby d15_1) (by decide) (W := 0) (by show 2 * 0 + _ ≤ _; exact Nat.le_of_eq rfl) (by decide)
  obtain ⟨fs, hr, hrun, hended, hW, hsame⟩ := X1.leave (v := none) (fun _ => rfl)
  refine ⟨_, _, pre0 _ ?_, hrun, hended, _, _, rfl, ?_, ⟨_, rfl⟩, hW, hsame.mono (by decide) (by decide)⟩
  · show SS p e below m s₁ 0 #[vr a1] [] _
    refine XS.aloadN X0.here hx rfl (hb hby d15_0) rfl rfl ?_
    show SS p e below m s₁ 1 #[vr a1] [(.ref a1)] _
    refine st1 _ ?_
    show SS p e below m T1 4 #[vr a1] [] _
    exact X1.returnOut hx Bd.returns (hb hby d15_4) hr
  · show Q_rmNu Z a1 h0 n0 _ T1.heap _
    rw [e1]
    exact ⟨rfl, N0, rfl⟩
theorem pd_2 : parseMethodDescriptor "()V" = some ⟨[], none⟩ := by decide +kernel
theorem d14_0 : decode jdk_33_method_23_code 0 = .ok (.aload_n 0, 1) := by decide +kernel
theorem d14_1 : decode jdk_33_method_23_code 1 = .ok (.invokespecial 202, 3) := by decide +kernel
theorem d14_4 : decode jdk_33_method_23_code 4 = .ok (.aload_n 0, 1) := by decide +kernel
theorem d14_5 : decode jdk_33_method_23_code 5 = .ok (.iload_n 1, 1) := by decide +kernel
theorem d14_6 : decode jdk_33_method_23_code 6 = .ok (.putfield 205, 3) := by decide +kernel
theorem d14_9 : decode jdk_33_method_23_code 9 = .ok (.return_, 1) := by decide +kernel
theorem pn_3 : plainName "java/lang/Integer" = true := by first | (simp [plainName, overriddenIn]; done) | decide +kernel
theorem ef_rmIn (m : MethodId) (x0 : Addr) (x1 : Int32) : entryFrame m #[(.ref x0), (.int x1)] 2 = mkF m 0 #[vr x0, vi x1] [] := by first | (simp [entryFrame, mkF, argsToLocals, Value.category]; done) | rfl
def Q_rmIn (Z : State) (a1 : Addr) (p2 : Int32) (h0 : Heap) (n0 : Nat) (v : Option Value) (h : Heap) (L : List Loc) : Prop := (v = none) ∧ (Fr n0 L) ∧ (Keep h0 h [a1]) ∧ (Fld Z h a1 "java/lang/Integer" "value" "I" (.int p2))
set_option maxRecDepth 65536 in
set_option maxHeartbeats 40000000 in
theorem rmIn (l : Launch) (Z : State) (a0 : Array Value) (hw : ∀ d ∈ tables_1, d.before a0 Z = true) (ws : List Jvm.Cond) (a1 : Addr) (p2 : Int32) (h0 : Heap) (n0 : Nat) (Z0 : n0 ≤ h0.size) (O0 : Old Z n0 h0) (F_value_a1 : Fld Z h0 a1 "java/lang/Integer" "value" "I" (.int (0 : Int32))) (E_a1 : Exa Z h0 a1 "java/lang/Integer") (g_a1 : n0 ≤ a1) :
    MetFree l y_4 (head1 (Jvm.Cond.code y_4 jdk_33_method_23_code 2 none :: ws) ({ frames := 2, cells := 0, slots := 0, locals := 24 } : Room)) (fun a U => a = #[(.ref a1), (.int p2)] ∧ Z.Warmed39 U.vm ∧ U.heap = h0) (fun _ _ _ _ _ => True) (fun _ U o U' => ∃ v L, o = .returned v ∧ Q_rmIn Z a1 p2 h0 n0 v U'.heap L ∧ FrameEnd U o U' L ({ frames := 2, cells := 0, slots := 0, locals := 24 } : Room).cells ({ frames := 2, cells := 0, slots := 0, locals := 24 } : Room).slots) := by
  refine MetFree.of_bodySF (plainFor_of_name pn_3) hisR ?_
  intro p e s m args below meth c s₁ Bd hml0 hP hK
  obtain ⟨rfl, hZ, hh⟩ := hP
  have hx := Bd.exec
  have hby := Bd.bytes
  have hml : c.maxLocals = 2 := hml0
  have hown : s.vm.findClass "java/lang/Integer" = some m.cls := findClass_of_methodNamed Bd.named
  have hnm := (name_of_methodNamed Bd.named Bd.method).1
  have X0 : Stand p l e ({ frames := 2, cells := 0, slots := 0, locals := 24 } : Room) s m #[(.ref a1), (.int p2)] below meth c s₁ [] 0 0 := Stand.of_body Bd
  have e0 : s₁.heap = h0 := by rw [← hh, Bd.state]; rfl
  have N0 := Fr.nil n0
  have KC : Keep h0 h0 [a1] := Keep.refl h0 _
  have pre0 : ∀ t, Steps p.tables e below (s₁.setTop (mkF m 0 #[vr a1, vi p2] [])) t → Steps p.tables e below (s₁.setTop (entryFrame m #[(.ref a1), (.int p2)] 2)) t := fun t k => castTop (ef_rmIn m a1 p2) k
  obtain ⟨_, _, ⟨T1, L1, kz1, nz1⟩, -, X1, ⟨Lc1, hQ1, l1, y1, z1⟩, st1⟩ := X0.specialBack hx (y := y_3) rfl hown (mvT hZ (ww hw 102 rfl)) (mvT hZ (ww hw 103 rfl)) (mvT hZ (ww hw 107 rfl)) (by decide) (backOf (W := 0) (rmNu l Z a0 hw [] a1 h0 n0 (Nat.le_trans Z0 KC.1) O0 ) hZ (ww hw 107 rfl) (ww hw 106 rfl) (by decide) (by decide)) (g := (mkF m 1 #[vr a1, vi p2] [(.ref a1)])) rfl (by rw [hml]; rfl) (Steps.refl _) (a := a1) (argsL := []) (rest := []) (lenOf pd_2 rfl) rfl (by show 2 * 0 + _ ≤ _; exact Nat.le_of_eq rfl) (hb hby d14_1) (fun _ _ => ⟨rfl, e0, (by decide : 0 + 0 ≤ _), (by decide : 0 + 0 ≤ _)⟩)
  dsimp only [Pt.U, Pt.locs, Pt.cells, Pt.slots] at X1 l1 y1 z1 st1 hQ1
  subst l1 y1 z1
  obtain ⟨rfl, N1q, e1⟩ := hQ1
  have N1 := Fr.app N0 N1q
  obtain ⟨T2, h2, X2, e2, W2, st2⟩ := putF X1 hx hZ hown (host := "") (Or.inl (ww hw 95 rfl)) Via.refl e1 F_value_a1 E_a1 (Or.inr ⟨(ww hw 96 rfl), rfl, hnm⟩) (ww hw 98 rfl) (ty := .int) (by decide) rfl rfl (g := (mkF m 6 #[vr a1, vi p2] [(.int p2), (.ref a1)])) rfl rfl (hb hby d14_6)
  have N2 := Fr.snoc X2 N1 g_a1
  replace F_value_a1 := F_value_a1.same W2
  replace E_a1 := E_a1.wr W2
  replace O0 := O0.wr W2 g_a1
  replace KC := KC.wr W2 (Or.inl (List.mem_of_getElem? (i := 0) rfl))
  obtain ⟨fs, hr, hrun, hended, hW, hsame⟩ := X2.leave (v := none) (fun _ => rfl)
  refine ⟨_, _, pre0 _ ?_, hrun, hended, _, _, rfl, ?_, ⟨_, rfl⟩, hW, hsame.mono (by decide) (by decide)⟩
  · show SS p e below m s₁ 0 #[vr a1, vi p2] [] _
    refine XS.aloadN X0.here hx rfl (hb hby d14_0) rfl rfl ?_
    show SS p e below m s₁ 1 #[vr a1, vi p2] [(.ref a1)] _
    refine st1.trans ?_
    show SS p e below m T1 4 #[vr a1, vi p2] [] _
    refine XS.aloadN X1.here hx rfl (hb hby d14_4) rfl rfl ?_
    show SS p e below m T1 5 #[vr a1, vi p2] [(.ref a1)] _
    refine XS.iloadN X1.here hx rfl (hb hby d14_5) rfl ?_
    show SS p e below m T1 6 #[vr a1, vi p2] [(.int p2), (.ref a1)] _
    refine st2 _ ?_
    show SS p e below m T2 9 #[vr a1, vi p2] [] _
    exact X2.returnOut hx Bd.returns (hb hby d14_9) hr
  · show Q_rmIn Z a1 p2 h0 n0 _ T2.heap _
    rw [e2]
    exact ⟨rfl, N2, KC, F_value_a1⟩
theorem pd_3 : parseMethodDescriptor "(I)V" = some ⟨[.int], none⟩ := by decide +kernel
theorem d5_0 : decode jdk_33_method_22_code 0 = .ok (.iload_n 0, 1) := by decide +kernel
theorem d5_1 : decode jdk_33_method_22_code 1 = .ok (.bipush (-128), 2) := by decide +kernel
theorem d5_3 : decode jdk_33_method_22_code 3 = .ok (.if_icmp .lt 20, 3) := by decide +kernel
theorem d5_6 : decode jdk_33_method_22_code 6 = .ok (.iload_n 0, 1) := by decide +kernel
theorem d5_7 : decode jdk_33_method_22_code 7 = .ok (.getstatic 191, 3) := by decide +kernel
theorem d5_10 : decode jdk_33_method_22_code 10 = .ok (.if_icmp .gt 13, 3) := by decide +kernel
theorem d5_13 : decode jdk_33_method_22_code 13 = .ok (.getstatic 195, 3) := by decide +kernel
theorem d5_16 : decode jdk_33_method_22_code 16 = .ok (.iload_n 0, 1) := by decide +kernel
theorem d5_17 : decode jdk_33_method_22_code 17 = .ok (.sipush 128, 3) := by decide +kernel
theorem d5_20 : decode jdk_33_method_22_code 20 = .ok (.iadd, 1) := by decide +kernel
theorem d5_21 : decode jdk_33_method_22_code 21 = .ok (.aaload, 1) := by decide +kernel
theorem d5_22 : decode jdk_33_method_22_code 22 = .ok (.areturn, 1) := by decide +kernel
theorem d5_23 : decode jdk_33_method_22_code 23 = .ok (.new 1, 3) := by decide +kernel
theorem d5_26 : decode jdk_33_method_22_code 26 = .ok (.dup, 1) := by decide +kernel
theorem d5_27 : decode jdk_33_method_22_code 27 = .ok (.iload_n 0, 1) := by decide +kernel
theorem d5_28 : decode jdk_33_method_22_code 28 = .ok (.invokespecial 199, 3) := by decide +kernel
theorem d5_31 : decode jdk_33_method_22_code 31 = .ok (.areturn, 1) := by decide +kernel
theorem ef_rmVo (m : MethodId) (x0 : Int32) : entryFrame m #[(.int x0)] 1 = mkF m 0 #[vi x0] [] := by first | (simp [entryFrame, mkF, argsToLocals, Value.category]; done) | rfl
def Q_rmVo (Z : State) (p1 : Int32) (cA : Addr) (cl : Cell) (h0 : Heap) (n0 : Nat) (v : Option Value) (h : Heap) (L : List Loc) : Prop := ∃ b : Addr, (v = some (.ref b)) ∧ (Fr n0 L) ∧ (Keep h0 h []) ∧ (Exa Z h b "java/lang/Integer") ∧ (Fld Z h b "java/lang/Integer" "value" "I" (.int p1))
set_option maxRecDepth 65536 in
set_option maxHeartbeats 40000000 in
theorem rmVo (l : Launch) (Z : State) (a0 : Array Value) (hw : ∀ d ∈ tables_1, d.before a0 Z = true) (ws : List Jvm.Cond) (p1 : Int32) (cA : Addr) (cl : Cell) (h0 : Heap) (n0 : Nat) (Z0 : n0 ≤ h0.size) (O0 : Old Z n0 h0) (S_high : Sta Z Z.heap "java/lang/Integer$IntegerCache" "high" "I" (.int (127 : Int32))) (S_cache : Sta Z Z.heap "java/lang/Integer$IntegerCache" "cache" "[Ljava/lang/Integer;" (.ref cA)) (BX : Bxs Z cA cl "java/lang/Integer" "I" (256 : Int32) (fun j => .int (j - (128 : Int32)))) :
    MetFree l y_5 (head1 (Jvm.Cond.code y_5 jdk_33_method_22_code 1 (some (.object "java/lang/Integer")) :: ws) ({ frames := 3, cells := 1, slots := 1, locals := 38 } : Room)) (fun a U => a = #[(.int p1)] ∧ Z.Warmed39 U.vm ∧ U.heap = h0) (fun _ _ _ _ _ => True) (fun _ U o U' => ∃ v L, o = .returned v ∧ Q_rmVo Z p1 cA cl h0 n0 v U'.heap L ∧ FrameEnd U o U' L ({ frames := 3, cells := 1, slots := 1, locals := 38 } : Room).cells ({ frames := 3, cells := 1, slots := 1, locals := 38 } : Room).slots) := by
  refine MetFree.of_bodySF (plainFor_of_name pn_3) hisR ?_
  intro p e s m args below meth c s₁ Bd hml0 hP hK
  obtain ⟨rfl, hZ, hh⟩ := hP
  have hx := Bd.exec
  have hby := Bd.bytes
  have hml : c.maxLocals = 1 := hml0
  have hown : s.vm.findClass "java/lang/Integer" = some m.cls := findClass_of_methodNamed Bd.named
  have hnm := (name_of_methodNamed Bd.named Bd.method).1
  have X0 : Stand p l e ({ frames := 3, cells := 1, slots := 1, locals := 38 } : Room) s m #[(.int p1)] below meth c s₁ [] 0 0 := Stand.of_body Bd
  have e0 : s₁.heap = h0 := by rw [← hh, Bd.state]; rfl
  have N0 := Fr.nil n0
  have KC : Keep h0 h0 [] := Keep.refl h0 _
  have pre0 : ∀ t, Steps p.tables e below (s₁.setTop (mkF m 0 #[vi p1] [])) t → Steps p.tables e below (s₁.setTop (entryFrame m #[(.int p1)] 1)) t := fun t k => castTop (ef_rmVo m p1) k
  have pre1 : ∀ t, Steps p.tables e below (s₁.setTop (mkF m 3 #[vi p1] [(.int (-128 : Int32)), (.int p1)])) t → Steps p.tables e below (s₁.setTop (entryFrame m #[(.int p1)] 1)) t := by
    intro t kt
    refine pre0 t ?_
    show SS p e below m s₁ 0 #[vi p1] [] _
    refine XS.iloadN X0.here hx rfl (hb hby d5_0) rfl ?_
    show SS p e below m s₁ 1 #[vi p1] [(.int p1)] _
    refine XS.bipush X0.here hx rfl (hb hby d5_1) ?_
    exact kt
  by_cases hc3_2 : p1 < (-128 : Int32)
  · obtain ⟨T3, h3, X3, e3, E3, A3, D3, -, st3⟩ := newO X0 hx hZ hown (ww hw 97 rfl) (ww hw 98 rfl) (ww hw 32 rfl) e0 (g := (mkF m 23 #[vi p1] [])) rfl (hb hby d5_23) (by decide) (by decide)
    obtain ⟨b3, g3⟩ : ∃ z, z = h0.size := ⟨_, rfl⟩
    rw [← g3] at A3 D3 st3
    have g_b3 : n0 ≤ b3 := Nat.le_trans (Nat.le_trans Z0 KC.1) (Nat.le_of_eq g3.symm)
    have sz_b3 : h0.size ≤ b3 := Nat.le_trans KC.1 (Nat.le_of_eq g3.symm)
    replace O0 := O0.ext E3
    replace KC := KC.ext E3
    have F_value_b3 : Fld Z h3 b3 "java/lang/Integer" "value" "I" (.int (0 : Int32)) := D3 (Or.inr (ww hw 96 rfl)) (ty := .int) (by decide)
    obtain ⟨_, _, ⟨T4, L4, kz4, nz4⟩, -, X4, ⟨Lc4, hQ4, l4, y4, z4⟩, st4⟩ := X3.specialBack hx (y := y_4) rfl hown (mvT hZ (ww hw 99 rfl)) (mvT hZ (ww hw 100 rfl)) (mvT hZ (ww hw 101 rfl)) (by decide) (backOf (W := 1) (rmIn l Z a0 hw [] b3 p1 h3 n0 (Nat.le_trans Z0 KC.1) O0 F_value_b3 A3 g_b3) hZ (ww hw 101 rfl) (ww hw 32 rfl) (by decide) (by decide)) (g := (mkF m 28 #[vi p1] [(.int p1), (.ref b3), (.ref b3)])) rfl (by rw [hml]; rfl) (Steps.refl _) (a := b3) (argsL := [(.int p1)]) (rest := [(.ref b3)]) (lenOf pd_3 rfl) rfl (by show 2 * 0 + _ ≤ _; exact Nat.le_of_eq rfl) (hb hby d5_28) (fun _ _ => ⟨rfl, e3, (by decide : 1 + 0 ≤ _), (by decide : 1 + 0 ≤ _)⟩)
    dsimp only [Pt.U, Pt.locs, Pt.cells, Pt.slots] at X4 l4 y4 z4 st4 hQ4
    subst l4 y4 z4
    obtain ⟨rfl, N4q, K4, F_value_a1_4⟩ := hQ4
    have N4 := Fr.app N0 N4q
    replace A3 := A3.keep K4
    replace O0 := O0.keep K4 (allS g_b3 all0)
    replace KC := KC.trans K4 (allS (Or.inr sz_b3) all0)
    obtain ⟨fs, hr, hrun, hended, hW, hsame⟩ := X4.leave (v := some (.ref b3)) (fun h => by rw [Bd.returns] at h; cases h)
    refine ⟨_, _, pre1 _ ?_, hrun, hended, _, _, rfl, ?_, ⟨_, rfl⟩, hW, hsame.mono (by decide) (by decide)⟩
    · show SS p e below m s₁ 3 #[vi p1] [(.int (-128 : Int32)), (.int p1)] _
      refine XS.icmpYes X0.here hx rfl (pc0 := 3) (pc' := 23) rfl (hb hby d5_3) rfl (tlt hc3_2).1 (by decide) (by decide) ?_
      show SS p e below m s₁ 23 #[vi p1] [] _
      refine st3 _ ?_
      show SS p e below m T3 26 #[vi p1] [(.ref b3)] _
      refine XS.dup X3.here hx rfl (hb hby d5_26) rfl rfl ?_
      show SS p e below m T3 27 #[vi p1] [(.ref b3), (.ref b3)] _
      refine XS.iloadN X3.here hx rfl (hb hby d5_27) rfl ?_
      show SS p e below m T3 28 #[vi p1] [(.int p1), (.ref b3), (.ref b3)] _
      refine st4.trans ?_
      show SS p e below m T4 31 #[vi p1] [(.ref b3)] _
      jvm_step X4.here [X4.here.top, hx, (hb hby d5_31), X4.method', Bd.returns, Value.isRef, FieldType.isReference]
      first | (intro acts; rw [hr _ acts rfl rfl rfl]) | rw [hr _ _ rfl rfl rfl]
      exact Steps.refl _
    · show Q_rmVo Z p1 cA cl h0 n0 _ T4.heap _
      exact ⟨b3, rfl, N4, KC, A3, F_value_a1_4⟩
  · obtain ⟨T5, X5, e5, st5⟩ := getS2 X0 hx hZ hown (host := "") (Or.inl (ww hw 34 rfl)) Via.refl e0 (S_high.ext O0.2) (g := (mkF m 7 #[vi p1] [(.int p1)])) rfl (hb hby d5_7)
    have pre6 : ∀ t, Steps p.tables e below (T5.setTop (mkF m 10 #[vi p1] [(.int (127 : Int32)), (.int p1)])) t → Steps p.tables e below (s₁.setTop (entryFrame m #[(.int p1)] 1)) t := by
      intro t kt
      refine pre1 t ?_
      show SS p e below m s₁ 3 #[vi p1] [(.int (-128 : Int32)), (.int p1)] _
      refine XS.icmpNo X0.here hx rfl (hb hby d5_3) rfl (flt hc3_2).1 ?_
      show SS p e below m s₁ 6 #[vi p1] [] _
      refine XS.iloadN X0.here hx rfl (hb hby d5_6) rfl ?_
      show SS p e below m s₁ 7 #[vi p1] [(.int p1)] _
      refine st5 _ ?_
      exact kt
    by_cases hc10_7 : (127 : Int32) < p1
    · obtain ⟨T8, h8, X8, e8, E8, A8, D8, -, st8⟩ := newO X5 hx hZ hown (ww hw 97 rfl) (ww hw 98 rfl) (ww hw 32 rfl) e5 (g := (mkF m 23 #[vi p1] [])) rfl (hb hby d5_23) (by decide) (by decide)
      obtain ⟨b8, g8⟩ : ∃ z, z = h0.size := ⟨_, rfl⟩
      rw [← g8] at A8 D8 st8
      have g_b8 : n0 ≤ b8 := Nat.le_trans (Nat.le_trans Z0 KC.1) (Nat.le_of_eq g8.symm)
      have sz_b8 : h0.size ≤ b8 := Nat.le_trans KC.1 (Nat.le_of_eq g8.symm)
      replace O0 := O0.ext E8
      replace KC := KC.ext E8
      have F_value_b8 : Fld Z h8 b8 "java/lang/Integer" "value" "I" (.int (0 : Int32)) := D8 (Or.inr (ww hw 96 rfl)) (ty := .int) (by decide)
      obtain ⟨_, _, ⟨T9, L9, kz9, nz9⟩, -, X9, ⟨Lc9, hQ9, l9, y9, z9⟩, st9⟩ := X8.specialBack hx (y := y_4) rfl hown (mvT hZ (ww hw 99 rfl)) (mvT hZ (ww hw 100 rfl)) (mvT hZ (ww hw 101 rfl)) (by decide) (backOf (W := 1) (rmIn l Z a0 hw [] b8 p1 h8 n0 (Nat.le_trans Z0 KC.1) O0 F_value_b8 A8 g_b8) hZ (ww hw 101 rfl) (ww hw 32 rfl) (by decide) (by decide)) (g := (mkF m 28 #[vi p1] [(.int p1), (.ref b8), (.ref b8)])) rfl (by rw [hml]; rfl) (Steps.refl _) (a := b8) (argsL := [(.int p1)]) (rest := [(.ref b8)]) (lenOf pd_3 rfl) rfl (by show 2 * 0 + _ ≤ _; exact Nat.le_of_eq rfl) (hb hby d5_28) (fun _ _ => ⟨rfl, e8, (by decide : 1 + 0 ≤ _), (by decide : 1 + 0 ≤ _)⟩)
      dsimp only [Pt.U, Pt.locs, Pt.cells, Pt.slots] at X9 l9 y9 z9 st9 hQ9
      subst l9 y9 z9
      obtain ⟨rfl, N9q, K9, F_value_a1_9⟩ := hQ9
      have N9 := Fr.app N0 N9q
      replace A8 := A8.keep K9
      replace O0 := O0.keep K9 (allS g_b8 all0)
      replace KC := KC.trans K9 (allS (Or.inr sz_b8) all0)
      obtain ⟨fs, hr, hrun, hended, hW, hsame⟩ := X9.leave (v := some (.ref b8)) (fun h => by rw [Bd.returns] at h; cases h)
      refine ⟨_, _, pre6 _ ?_, hrun, hended, _, _, rfl, ?_, ⟨_, rfl⟩, hW, hsame.mono (by decide) (by decide)⟩
      · show SS p e below m T5 10 #[vi p1] [(.int (127 : Int32)), (.int p1)] _
        refine XS.icmpYes X5.here hx rfl (pc0 := 10) (pc' := 23) rfl (hb hby d5_10) rfl (tlt hc10_7).2.2.1 (by decide) (by decide) ?_
        show SS p e below m T5 23 #[vi p1] [] _
        refine st8 _ ?_
        show SS p e below m T8 26 #[vi p1] [(.ref b8)] _
        refine XS.dup X8.here hx rfl (hb hby d5_26) rfl rfl ?_
        show SS p e below m T8 27 #[vi p1] [(.ref b8), (.ref b8)] _
        refine XS.iloadN X8.here hx rfl (hb hby d5_27) rfl ?_
        show SS p e below m T8 28 #[vi p1] [(.int p1), (.ref b8), (.ref b8)] _
        refine st9.trans ?_
        show SS p e below m T9 31 #[vi p1] [(.ref b8)] _
        jvm_step X9.here [X9.here.top, hx, (hb hby d5_31), X9.method', Bd.returns, Value.isRef, FieldType.isReference]
        first | (intro acts; rw [hr _ acts rfl rfl rfl]) | rw [hr _ _ rfl rfl rfl]
        exact Steps.refl _
      · show Q_rmVo Z p1 cA cl h0 n0 _ T9.heap _
        exact ⟨b8, rfl, N9, KC, A8, F_value_a1_9⟩
    · obtain ⟨T10, X10, e10, st10⟩ := getS2 X5 hx hZ hown (host := "") (Or.inl (ww hw 36 rfl)) Via.refl e5 (S_cache.ext O0.2) (g := (mkF m 13 #[vi p1] [])) rfl (hb hby d5_13)
      have ArC := BX.1.ext O0.2
      have hinC : ¬ ((p1 + (128 : Int32)) < 0 ∨ cl.slots.size ≤ ((p1 + (128 : Int32))).toNatClampNeg) := inb_of BX.2.1 (own_cin hc3_2 hc10_7)
      obtain ⟨bx, hatC, E_bx, F_bx0⟩ := BX.2.2.2 _ hinC
      have F_bx : Fld Z Z.heap bx "java/lang/Integer" "value" "I" (.int p1) := by have e : Value.int (p1 + (128 : Int32) - (128 : Int32)) = .int p1 := congrArg Value.int own_cval; rw [← e]; exact F_bx0
      obtain ⟨fs, hr, hrun, hended, hW, hsame⟩ := X10.leave (v := some (.ref bx)) (fun h => by rw [Bd.returns] at h; cases h)
      refine ⟨_, _, pre6 _ ?_, hrun, hended, _, _, rfl, ?_, ⟨_, rfl⟩, hW, hsame.mono (by decide) (by decide)⟩
      · show SS p e below m T5 10 #[vi p1] [(.int (127 : Int32)), (.int p1)] _
        refine XS.icmpNo X5.here hx rfl (hb hby d5_10) rfl (flt hc10_7).2.2.1 ?_
        show SS p e below m T5 13 #[vi p1] [] _
        refine st10 _ ?_
        show SS p e below m T10 16 #[vi p1] [(.ref cA)] _
        refine XS.iloadN X10.here hx rfl (hb hby d5_16) rfl ?_
        show SS p e below m T10 17 #[vi p1] [(.int p1), (.ref cA)] _
        refine XS.sipush X10.here hx rfl (hb hby d5_17) ?_
        show SS p e below m T10 20 #[vi p1] [(.int (128 : Int32)), (.int p1), (.ref cA)] _
        refine XS.iadd X10.here hx rfl (hb hby d5_20) rfl ?_
        show SS p e below m T10 21 #[vi p1] [(.int (p1 + (128 : Int32))), (.ref cA)] _
        refine X10.aaload hx (j := (p1 + (128 : Int32))) (v := (.ref bx)) (by rw [e10]; exact ArC.1) (State.isArrayOf_alike hZ.alike ArC.2.1) rfl ArC.2.2 hinC hatC (g := (mkF m 21 #[vi p1] [(.int (p1 + (128 : Int32))), (.ref cA)])) rfl rfl (hb hby d5_21) _ ?_
        show SS p e below m T10 22 #[vi p1] [(.ref bx)] _
        jvm_step X10.here [X10.here.top, hx, (hb hby d5_22), X10.method', Bd.returns, Value.isRef, FieldType.isReference]
        first | (intro acts; rw [hr _ acts rfl rfl rfl]) | rw [hr _ _ rfl rfl rfl]
        exact Steps.refl _
      · show Q_rmVo Z p1 cA cl h0 n0 _ T10.heap _
        rw [e10]
        exact ⟨bx, rfl, N0, KC, (E_bx.ext O0.2), (F_bx.ext O0.2)⟩
theorem d13_0 : decode jdk_33_method_27_code 0 = .ok (.aload_n 0, 1) := by decide +kernel
theorem d13_1 : decode jdk_33_method_27_code 1 = .ok (.getfield 205, 3) := by decide +kernel
theorem d13_4 : decode jdk_33_method_27_code 4 = .ok (.ireturn, 1) := by decide +kernel
theorem ef_rmIv (m : MethodId) (x0 : Addr) : entryFrame m #[(.ref x0)] 1 = mkF m 0 #[vr x0] [] := by first | (simp [entryFrame, mkF, argsToLocals, Value.category]; done) | rfl
def Q_rmIv (Z : State) (a1 : Addr) (w : Int32) (h0 : Heap) (n0 : Nat) (v : Option Value) (h : Heap) (L : List Loc) : Prop := (v = some (.int w)) ∧ (Fr n0 L) ∧ (h = h0)
set_option maxRecDepth 65536 in
set_option maxHeartbeats 40000000 in
theorem rmIv (l : Launch) (Z : State) (a0 : Array Value) (hw : ∀ d ∈ tables_1, d.before a0 Z = true) (ws : List Jvm.Cond) (a1 : Addr) (w : Int32) (h0 : Heap) (n0 : Nat) (Z0 : n0 ≤ h0.size) (O0 : Old Z n0 h0) (F_value_a1 : Fld Z h0 a1 "java/lang/Integer" "value" "I" (.int w)) :
    MetFree l y_6 (head1 (Jvm.Cond.code y_6 jdk_33_method_27_code 1 (some .int) :: ws) ({ frames := 0, cells := 0, slots := 0, locals := 0 } : Room)) (fun a U => a = #[(.ref a1)] ∧ Z.Warmed39 U.vm ∧ U.heap = h0) (fun _ _ _ _ _ => True) (fun _ U o U' => ∃ v L, o = .returned v ∧ Q_rmIv Z a1 w h0 n0 v U'.heap L ∧ FrameEnd U o U' L ({ frames := 0, cells := 0, slots := 0, locals := 0 } : Room).cells ({ frames := 0, cells := 0, slots := 0, locals := 0 } : Room).slots) := by
  refine MetFree.of_bodySF (plainFor_of_name pn_3) hisR ?_
  intro p e s m args below meth c s₁ Bd hml0 hP hK
  obtain ⟨rfl, hZ, hh⟩ := hP
  have hx := Bd.exec
  have hby := Bd.bytes
  have hml : c.maxLocals = 1 := hml0
  have hown : s.vm.findClass "java/lang/Integer" = some m.cls := findClass_of_methodNamed Bd.named
  have hnm := (name_of_methodNamed Bd.named Bd.method).1
  have X0 : Stand p l e ({ frames := 0, cells := 0, slots := 0, locals := 0 } : Room) s m #[(.ref a1)] below meth c s₁ [] 0 0 := Stand.of_body Bd
  have e0 : s₁.heap = h0 := by rw [← hh, Bd.state]; rfl
  have N0 := Fr.nil n0
  have KC : Keep h0 h0 [] := Keep.refl h0 _
  have pre0 : ∀ t, Steps p.tables e below (s₁.setTop (mkF m 0 #[vr a1] [])) t → Steps p.tables e below (s₁.setTop (entryFrame m #[(.ref a1)] 1)) t := fun t k => castTop (ef_rmIv m a1) k
  obtain ⟨T1, X1, e1, st1⟩ := getF X0 hx hZ hown (host := "") (Or.inl (ww hw 95 rfl)) Via.refl e0 F_value_a1 (g := (mkF m 1 #[vr a1] [(.ref a1)])) rfl rfl (hb hby d13_1)
  obtain ⟨fs, hr, hrun, hended, hW, hsame⟩ := X1.leave (v := some (.int w)) (fun h => by rw [Bd.returns] at h; cases h)
  refine ⟨_, _, pre0 _ ?_, hrun, hended, _, _, rfl, ?_, ⟨_, rfl⟩, hW, hsame.mono (by decide) (by decide)⟩
  · show SS p e below m s₁ 0 #[vr a1] [] _
    refine XS.aloadN X0.here hx rfl (hb hby d13_0) rfl rfl ?_
    show SS p e below m s₁ 1 #[vr a1] [(.ref a1)] _
    refine st1 _ ?_
    show SS p e below m T1 4 #[vr a1] [(.int w)] _
    exact retI X1 hx Bd.returns (hb hby d13_4) hr
  · show Q_rmIv Z a1 w h0 n0 _ T1.heap _
    rw [e1]
    exact ⟨rfl, N0, rfl⟩
theorem d7_0 : decode jdk_31_method_10_code 0 = .ok (.aload_n 0, 1) := by decide +kernel
theorem d7_1 : decode jdk_31_method_10_code 1 = .ok (.ifnonnull 11, 3) := by decide +kernel
theorem d7_12 : decode jdk_31_method_10_code 12 = .ok (.aload_n 0, 1) := by decide +kernel
theorem d7_13 : decode jdk_31_method_10_code 13 = .ok (.areturn, 1) := by decide +kernel
theorem pn_4 : plainName "java/util/Objects" = true := by first | (simp [plainName, overriddenIn]; done) | decide +kernel
theorem ef_rmRn (m : MethodId) (x0 : Addr) : entryFrame m #[(.ref x0)] 1 = mkF m 0 #[vr x0] [] := by first | (simp [entryFrame, mkF, argsToLocals, Value.category]; done) | rfl
def Q_rmRn (Z : State) (a1 : Addr) (h0 : Heap) (n0 : Nat) (v : Option Value) (h : Heap) (L : List Loc) : Prop := (v = some (.ref a1)) ∧ (Fr n0 L) ∧ (h = h0)
set_option maxRecDepth 65536 in
set_option maxHeartbeats 40000000 in
theorem rmRn (l : Launch) (Z : State) (a0 : Array Value) (hw : ∀ d ∈ tables_1, d.before a0 Z = true) (ws : List Jvm.Cond) (a1 : Addr) (h0 : Heap) (n0 : Nat) (Z0 : n0 ≤ h0.size) (O0 : Old Z n0 h0) :
    MetFree l y_7 (head1 (Jvm.Cond.code y_7 jdk_31_method_10_code 1 (some (.object "java/lang/Object")) :: ws) ({ frames := 0, cells := 0, slots := 0, locals := 0 } : Room)) (fun a U => a = #[(.ref a1)] ∧ Z.Warmed39 U.vm ∧ U.heap = h0) (fun _ _ _ _ _ => True) (fun _ U o U' => ∃ v L, o = .returned v ∧ Q_rmRn Z a1 h0 n0 v U'.heap L ∧ FrameEnd U o U' L ({ frames := 0, cells := 0, slots := 0, locals := 0 } : Room).cells ({ frames := 0, cells := 0, slots := 0, locals := 0 } : Room).slots) := by
  refine MetFree.of_bodySF (plainFor_of_name pn_4) hisR ?_
  intro p e s m args below meth c s₁ Bd hml0 hP hK
  obtain ⟨rfl, hZ, hh⟩ := hP
  have hx := Bd.exec
  have hby := Bd.bytes
  have hml : c.maxLocals = 1 := hml0
  have hown : s.vm.findClass "java/util/Objects" = some m.cls := findClass_of_methodNamed Bd.named
  have hnm := (name_of_methodNamed Bd.named Bd.method).1
  have X0 : Stand p l e ({ frames := 0, cells := 0, slots := 0, locals := 0 } : Room) s m #[(.ref a1)] below meth c s₁ [] 0 0 := Stand.of_body Bd
  have e0 : s₁.heap = h0 := by rw [← hh, Bd.state]; rfl
  have N0 := Fr.nil n0
  have KC : Keep h0 h0 [] := Keep.refl h0 _
  have pre0 : ∀ t, Steps p.tables e below (s₁.setTop (mkF m 0 #[vr a1] [])) t → Steps p.tables e below (s₁.setTop (entryFrame m #[(.ref a1)] 1)) t := fun t k => castTop (ef_rmRn m a1) k
  obtain ⟨fs, hr, hrun, hended, hW, hsame⟩ := X0.leave (v := some (.ref a1)) (fun h => by rw [Bd.returns] at h; cases h)
  refine ⟨_, _, pre0 _ ?_, hrun, hended, _, _, rfl, ?_, ⟨_, rfl⟩, hW, hsame.mono (by decide) (by decide)⟩
  · show SS p e below m s₁ 0 #[vr a1] [] _
    refine XS.aloadN X0.here hx rfl (hb hby d7_0) rfl rfl ?_
    show SS p e below m s₁ 1 #[vr a1] [(.ref a1)] _
    refine XS.ifnonnullYes X0.here hx rfl (pc0 := 1) (pc' := 12) rfl (hb hby d7_1) rfl (by decide) (by decide) ?_
    show SS p e below m s₁ 12 #[vr a1] [] _
    refine XS.aloadN X0.here hx rfl (hb hby d7_12) rfl rfl ?_
    show SS p e below m s₁ 13 #[vr a1] [(.ref a1)] _
    jvm_step X0.here [X0.here.top, hx, (hb hby d7_13), X0.method', Bd.returns, Value.isRef, FieldType.isReference]
    first | (intro acts; rw [hr _ acts rfl rfl rfl]) | rw [hr _ _ rfl rfl rfl]
    exact Steps.refl _
  · show Q_rmRn Z a1 h0 n0 _ s₁.heap _
    rw [e0]
    exact ⟨rfl, N0, rfl⟩
theorem d16_0 : decode jdk_29_method_65_code 0 = .ok (.iload_n 0, 1) := by decide +kernel
theorem d16_1 : decode jdk_29_method_65_code 1 = .ok (.iload_n 1, 1) := by decide +kernel
theorem d16_2 : decode jdk_29_method_65_code 2 = .ok (.if_icmp .lt 7, 3) := by decide +kernel
theorem d16_5 : decode jdk_29_method_65_code 5 = .ok (.iload_n 0, 1) := by decide +kernel
theorem d16_6 : decode jdk_29_method_65_code 6 = .ok (.goto 4, 3) := by decide +kernel
theorem d16_9 : decode jdk_29_method_65_code 9 = .ok (.iload_n 1, 1) := by decide +kernel
theorem d16_10 : decode jdk_29_method_65_code 10 = .ok (.ireturn, 1) := by decide +kernel
theorem ef_rmMx (m : MethodId) (x0 : Int32) (x1 : Int32) : entryFrame m #[(.int x0), (.int x1)] 2 = mkF m 0 #[vi x0, vi x1] [] := by first | (simp [entryFrame, mkF, argsToLocals, Value.category]; done) | rfl
def Q_rmMx (Z : State) (p1 : Int32) (p2 : Int32) (h0 : Heap) (n0 : Nat) (v : Option Value) (h : Heap) (L : List Loc) : Prop := (v = some (.int (if p1 < p2 then p2 else p1))) ∧ (Fr n0 L) ∧ (h = h0)
set_option maxRecDepth 65536 in
set_option maxHeartbeats 40000000 in
theorem rmMx (l : Launch) (Z : State) (a0 : Array Value) (hw : ∀ d ∈ tables_1, d.before a0 Z = true) (ws : List Jvm.Cond) (p1 : Int32) (p2 : Int32) (h0 : Heap) (n0 : Nat) (Z0 : n0 ≤ h0.size) (O0 : Old Z n0 h0) :
    MetFree l y_8 (head1 (Jvm.Cond.code y_8 jdk_29_method_65_code 2 (some .int) :: ws) ({ frames := 0, cells := 0, slots := 0, locals := 0 } : Room)) (fun a U => a = #[(.int p1), (.int p2)] ∧ Z.Warmed39 U.vm ∧ U.heap = h0) (fun _ _ _ _ _ => True) (fun _ U o U' => ∃ v L, o = .returned v ∧ Q_rmMx Z p1 p2 h0 n0 v U'.heap L ∧ FrameEnd U o U' L ({ frames := 0, cells := 0, slots := 0, locals := 0 } : Room).cells ({ frames := 0, cells := 0, slots := 0, locals := 0 } : Room).slots) := by
  refine MetFree.of_bodySF (Jvm.Free.JP.mathPlain rfl (by decide +kernel)) hisR ?_
  intro p e s m args below meth c s₁ Bd hml0 hP hK
  obtain ⟨rfl, hZ, hh⟩ := hP
  have hx := Bd.exec
  have hby := Bd.bytes
  have hml : c.maxLocals = 2 := hml0
  have hown : s.vm.findClass "java/lang/Math" = some m.cls := findClass_of_methodNamed Bd.named
  have hnm := (name_of_methodNamed Bd.named Bd.method).1
  have X0 : Stand p l e ({ frames := 0, cells := 0, slots := 0, locals := 0 } : Room) s m #[(.int p1), (.int p2)] below meth c s₁ [] 0 0 := Stand.of_body Bd
  have e0 : s₁.heap = h0 := by rw [← hh, Bd.state]; rfl
  have N0 := Fr.nil n0
  have KC : Keep h0 h0 [] := Keep.refl h0 _
  have pre0 : ∀ t, Steps p.tables e below (s₁.setTop (mkF m 0 #[vi p1, vi p2] [])) t → Steps p.tables e below (s₁.setTop (entryFrame m #[(.int p1), (.int p2)] 2)) t := fun t k => castTop (ef_rmMx m p1 p2) k
  have pre1 : ∀ t, Steps p.tables e below (s₁.setTop (mkF m 2 #[vi p1, vi p2] [(.int p2), (.int p1)])) t → Steps p.tables e below (s₁.setTop (entryFrame m #[(.int p1), (.int p2)] 2)) t := by
    intro t kt
    refine pre0 t ?_
    show SS p e below m s₁ 0 #[vi p1, vi p2] [] _
    refine XS.iloadN X0.here hx rfl (hb hby d16_0) rfl ?_
    show SS p e below m s₁ 1 #[vi p1, vi p2] [(.int p1)] _
    refine XS.iloadN X0.here hx rfl (hb hby d16_1) rfl ?_
    exact kt
  by_cases hc2_2 : p1 < p2
  · obtain ⟨fs, hr, hrun, hended, hW, hsame⟩ := X0.leave (v := some (.int p2)) (fun h => by rw [Bd.returns] at h; cases h)
    refine ⟨_, _, pre1 _ ?_, hrun, hended, _, _, rfl, ?_, ⟨_, rfl⟩, hW, hsame.mono (by decide) (by decide)⟩
    · show SS p e below m s₁ 2 #[vi p1, vi p2] [(.int p2), (.int p1)] _
      refine XS.icmpYes X0.here hx rfl (pc0 := 2) (pc' := 9) rfl (hb hby d16_2) rfl (tlt hc2_2).1 (by decide) (by decide) ?_
      show SS p e below m s₁ 9 #[vi p1, vi p2] [] _
      refine XS.iloadN X0.here hx rfl (hb hby d16_9) rfl ?_
      show SS p e below m s₁ 10 #[vi p1, vi p2] [(.int p2)] _
      exact retI X0 hx Bd.returns (hb hby d16_10) hr
    · show Q_rmMx Z p1 p2 h0 n0 _ s₁.heap _
      rw [e0]
      exact ⟨(by simp [hc2_2]), N0, rfl⟩
  · obtain ⟨fs, hr, hrun, hended, hW, hsame⟩ := X0.leave (v := some (.int p1)) (fun h => by rw [Bd.returns] at h; cases h)
    refine ⟨_, _, pre1 _ ?_, hrun, hended, _, _, rfl, ?_, ⟨_, rfl⟩, hW, hsame.mono (by decide) (by decide)⟩
    · show SS p e below m s₁ 2 #[vi p1, vi p2] [(.int p2), (.int p1)] _
      refine XS.icmpNo X0.here hx rfl (hb hby d16_2) rfl (flt hc2_2).1 ?_
      show SS p e below m s₁ 5 #[vi p1, vi p2] [] _
      refine XS.iloadN X0.here hx rfl (hb hby d16_5) rfl ?_
      show SS p e below m s₁ 6 #[vi p1, vi p2] [(.int p1)] _
      refine XS.goto X0.here hx rfl (pc0 := 6) (pc' := 10) rfl (hb hby d16_6) (by decide) (by decide) ?_
      show SS p e below m s₁ 10 #[vi p1, vi p2] [(.int p1)] _
      exact retI X0 hx Bd.returns (hb hby d16_10) hr
    · show Q_rmMx Z p1 p2 h0 n0 _ s₁.heap _
      rw [e0]
      exact ⟨(by simp [hc2_2]), N0, rfl⟩
theorem d19_0 : decode jdk_29_method_69_code 0 = .ok (.iload_n 0, 1) := by decide +kernel
theorem d19_1 : decode jdk_29_method_69_code 1 = .ok (.iload_n 1, 1) := by decide +kernel
theorem d19_2 : decode jdk_29_method_69_code 2 = .ok (.if_icmp .gt 7, 3) := by decide +kernel
theorem d19_5 : decode jdk_29_method_69_code 5 = .ok (.iload_n 0, 1) := by decide +kernel
theorem d19_6 : decode jdk_29_method_69_code 6 = .ok (.goto 4, 3) := by decide +kernel
theorem d19_9 : decode jdk_29_method_69_code 9 = .ok (.iload_n 1, 1) := by decide +kernel
theorem d19_10 : decode jdk_29_method_69_code 10 = .ok (.ireturn, 1) := by decide +kernel
theorem ef_rmMi (m : MethodId) (x0 : Int32) (x1 : Int32) : entryFrame m #[(.int x0), (.int x1)] 2 = mkF m 0 #[vi x0, vi x1] [] := by first | (simp [entryFrame, mkF, argsToLocals, Value.category]; done) | rfl
def Q_rmMi (Z : State) (p1 : Int32) (p2 : Int32) (h0 : Heap) (n0 : Nat) (v : Option Value) (h : Heap) (L : List Loc) : Prop := (v = some (.int (if p2 < p1 then p2 else p1))) ∧ (Fr n0 L) ∧ (h = h0)
set_option maxRecDepth 65536 in
set_option maxHeartbeats 40000000 in
theorem rmMi (l : Launch) (Z : State) (a0 : Array Value) (hw : ∀ d ∈ tables_1, d.before a0 Z = true) (ws : List Jvm.Cond) (p1 : Int32) (p2 : Int32) (h0 : Heap) (n0 : Nat) (Z0 : n0 ≤ h0.size) (O0 : Old Z n0 h0) :
    MetFree l y_9 (head1 (Jvm.Cond.code y_9 jdk_29_method_69_code 2 (some .int) :: ws) ({ frames := 0, cells := 0, slots := 0, locals := 0 } : Room)) (fun a U => a = #[(.int p1), (.int p2)] ∧ Z.Warmed39 U.vm ∧ U.heap = h0) (fun _ _ _ _ _ => True) (fun _ U o U' => ∃ v L, o = .returned v ∧ Q_rmMi Z p1 p2 h0 n0 v U'.heap L ∧ FrameEnd U o U' L ({ frames := 0, cells := 0, slots := 0, locals := 0 } : Room).cells ({ frames := 0, cells := 0, slots := 0, locals := 0 } : Room).slots) := by
  refine MetFree.of_bodySF (Jvm.Free.JP.mathPlain rfl (by decide +kernel)) hisR ?_
  intro p e s m args below meth c s₁ Bd hml0 hP hK
  obtain ⟨rfl, hZ, hh⟩ := hP
  have hx := Bd.exec
  have hby := Bd.bytes
  have hml : c.maxLocals = 2 := hml0
  have hown : s.vm.findClass "java/lang/Math" = some m.cls := findClass_of_methodNamed Bd.named
  have hnm := (name_of_methodNamed Bd.named Bd.method).1
  have X0 : Stand p l e ({ frames := 0, cells := 0, slots := 0, locals := 0 } : Room) s m #[(.int p1), (.int p2)] below meth c s₁ [] 0 0 := Stand.of_body Bd
  have e0 : s₁.heap = h0 := by rw [← hh, Bd.state]; rfl
  have N0 := Fr.nil n0
  have KC : Keep h0 h0 [] := Keep.refl h0 _
  have pre0 : ∀ t, Steps p.tables e below (s₁.setTop (mkF m 0 #[vi p1, vi p2] [])) t → Steps p.tables e below (s₁.setTop (entryFrame m #[(.int p1), (.int p2)] 2)) t := fun t k => castTop (ef_rmMi m p1 p2) k
  have pre1 : ∀ t, Steps p.tables e below (s₁.setTop (mkF m 2 #[vi p1, vi p2] [(.int p2), (.int p1)])) t → Steps p.tables e below (s₁.setTop (entryFrame m #[(.int p1), (.int p2)] 2)) t := by
    intro t kt
    refine pre0 t ?_
    show SS p e below m s₁ 0 #[vi p1, vi p2] [] _
    refine XS.iloadN X0.here hx rfl (hb hby d19_0) rfl ?_
    show SS p e below m s₁ 1 #[vi p1, vi p2] [(.int p1)] _
    refine XS.iloadN X0.here hx rfl (hb hby d19_1) rfl ?_
    exact kt
  by_cases hc2_2 : p2 < p1
  · obtain ⟨fs, hr, hrun, hended, hW, hsame⟩ := X0.leave (v := some (.int p2)) (fun h => by rw [Bd.returns] at h; cases h)
    refine ⟨_, _, pre1 _ ?_, hrun, hended, _, _, rfl, ?_, ⟨_, rfl⟩, hW, hsame.mono (by decide) (by decide)⟩
    · show SS p e below m s₁ 2 #[vi p1, vi p2] [(.int p2), (.int p1)] _
      refine XS.icmpYes X0.here hx rfl (pc0 := 2) (pc' := 9) rfl (hb hby d19_2) rfl (tlt hc2_2).2.2.1 (by decide) (by decide) ?_
      show SS p e below m s₁ 9 #[vi p1, vi p2] [] _
      refine XS.iloadN X0.here hx rfl (hb hby d19_9) rfl ?_
      show SS p e below m s₁ 10 #[vi p1, vi p2] [(.int p2)] _
      exact retI X0 hx Bd.returns (hb hby d19_10) hr
    · show Q_rmMi Z p1 p2 h0 n0 _ s₁.heap _
      rw [e0]
      exact ⟨(by simp [hc2_2]), N0, rfl⟩
  · obtain ⟨fs, hr, hrun, hended, hW, hsame⟩ := X0.leave (v := some (.int p1)) (fun h => by rw [Bd.returns] at h; cases h)
    refine ⟨_, _, pre1 _ ?_, hrun, hended, _, _, rfl, ?_, ⟨_, rfl⟩, hW, hsame.mono (by decide) (by decide)⟩
    · show SS p e below m s₁ 2 #[vi p1, vi p2] [(.int p2), (.int p1)] _
      refine XS.icmpNo X0.here hx rfl (hb hby d19_2) rfl (flt hc2_2).2.2.1 ?_
      show SS p e below m s₁ 5 #[vi p1, vi p2] [] _
      refine XS.iloadN X0.here hx rfl (hb hby d19_5) rfl ?_
      show SS p e below m s₁ 6 #[vi p1, vi p2] [(.int p1)] _
      refine XS.goto X0.here hx rfl (pc0 := 6) (pc' := 10) rfl (hb hby d19_6) (by decide) (by decide) ?_
      show SS p e below m s₁ 10 #[vi p1, vi p2] [(.int p1)] _
      exact retI X0 hx Bd.returns (hb hby d19_10) hr
    · show Q_rmMi Z p1 p2 h0 n0 _ s₁.heap _
      rw [e0]
      exact ⟨(by simp [hc2_2]), N0, rfl⟩
theorem pd_4 : parseMethodDescriptor "(II)I" = some ⟨[.int, .int], some .int⟩ := by decide +kernel
theorem d18_0 : decode jdk_65_method_120_code 0 = .ok (.aload_n 2, 1) := by decide +kernel
theorem d18_1 : decode jdk_65_method_120_code 1 = .ok (.ldc 110, 2) := by decide +kernel
theorem d18_3 : decode jdk_65_method_120_code 3 = .ok (.if_acmp .ne 10, 3) := by decide +kernel
theorem d18_6 : decode jdk_65_method_120_code 6 = .ok (.iload_n 1, 1) := by decide +kernel
theorem d18_7 : decode jdk_65_method_120_code 7 = .ok (.anewarray 2, 3) := by decide +kernel
theorem d18_10 : decode jdk_65_method_120_code 10 = .ok (.goto 14, 3) := by decide +kernel
theorem d18_24 : decode jdk_65_method_120_code 24 = .ok (.astore_n 3, 1) := by decide +kernel
theorem d18_25 : decode jdk_65_method_120_code 25 = .ok (.aload_n 0, 1) := by decide +kernel
theorem d18_26 : decode jdk_65_method_120_code 26 = .ok (.iconst 0, 1) := by decide +kernel
theorem d18_27 : decode jdk_65_method_120_code 27 = .ok (.aload_n 3, 1) := by decide +kernel
theorem d18_28 : decode jdk_65_method_120_code 28 = .ok (.iconst 0, 1) := by decide +kernel
theorem d18_29 : decode jdk_65_method_120_code 29 = .ok (.aload_n 0, 1) := by decide +kernel
theorem d18_30 : decode jdk_65_method_120_code 30 = .ok (.arraylength, 1) := by decide +kernel
theorem d18_31 : decode jdk_65_method_120_code 31 = .ok (.iload_n 1, 1) := by decide +kernel
theorem d18_32 : decode jdk_65_method_120_code 32 = .ok (.invokestatic 304, 3) := by decide +kernel
theorem d18_35 : decode jdk_65_method_120_code 35 = .ok (.invokestatic 150, 3) := by decide +kernel
theorem d18_38 : decode jdk_65_method_120_code 38 = .ok (.aload_n 3, 1) := by decide +kernel
theorem d18_39 : decode jdk_65_method_120_code 39 = .ok (.areturn, 1) := by decide +kernel
theorem pn_5 : plainName "java/util/Arrays" = true := by first | (simp [plainName, overriddenIn]; done) | decide +kernel
theorem ef_rmC3 (m : MethodId) (x0 : Addr) (x1 : Int32) (x2 : Addr) : entryFrame m #[(.ref x0), (.int x1), (.ref x2)] 4 = mkF m 0 #[vr x0, vi x1, vr x2, .unset] [] := by first | (simp [entryFrame, mkF, argsToLocals, Value.category]; done) | rfl
def Q_rmC3 (Z : State) (a1 : Addr) (p2 : Int32) (mr : Addr) (k : ClassId) (z : Int32) (vs : List Value) (nn : Int32) (vs' : List Value) (h0 : Heap) (n0 : Nat) (v : Option Value) (h : Heap) (L : List Loc) : Prop := ∃ b : Addr, ∃ k2 : ClassId, (v = some (.ref b)) ∧ (Fr n0 L) ∧ (Keep h0 h []) ∧ (h0.size ≤ b) ∧ (Exa Z h b "[Ljava/lang/Object;") ∧ (Arv Z h b k2 (.object "java/lang/Object") p2 vs' .null) ∧ (Ovr Z k2 "java/lang/Object")
set_option maxRecDepth 65536 in
set_option maxHeartbeats 40000000 in
theorem rmC3 (l : Launch) (Z : State) (a0 : Array Value) (hw : ∀ d ∈ tables_1, d.before a0 Z = true) (ws : List Jvm.Cond) (a1 : Addr) (p2 : Int32) (mr : Addr) (k : ClassId) (z : Int32) (vs : List Value) (nn : Int32) (vs' : List Value) (h0 : Heap) (n0 : Nat) (Z0 : n0 ≤ h0.size) (O0 : Old Z n0 h0) (E_a1 : Exa Z h0 a1 "[Ljava/lang/Object;") (V_a1 : Arv Z h0 a1 k (.object "java/lang/Object") z vs .null) (MIR : own_Mir Z "[Ljava/lang/Object;" mr) (hp1 : ¬ p2 < 0) (hp2 : p2.toNatClampNeg ≤ 10) (hp3 : (if p2 < z then p2 else z) = nn) (hp4 : ¬ nn < 0) (hp5 : nn.toNatClampNeg ≤ z.toNatClampNeg) (hp6 : nn.toNatClampNeg ≤ p2.toNatClampNeg) (hp7 : ((List.replicate 10 Value.null).take (0 : Int32).toNatClampNeg ++ ((List.range nn.toNatClampNeg).map fun i => vs.getD ((0 : Int32).toNatClampNeg + i) .null) ++ (List.replicate 10 Value.null).drop ((0 : Int32).toNatClampNeg + nn.toNatClampNeg)) = vs') (EL : own_Els Z h0 vs) :
    MetFree l y_10 (head1 (Jvm.Cond.code y_10 jdk_65_method_120_code 4 (some (.array (.object "java/lang/Object"))) :: ws) ({ frames := 1, cells := 1, slots := 10, locals := 18 } : Room)) (fun a U => a = #[(.ref a1), (.int p2), (.ref mr)] ∧ Z.Warmed39 U.vm ∧ U.heap = h0) (fun _ _ _ _ _ => True) (fun _ U o U' => ∃ v L, o = .returned v ∧ Q_rmC3 Z a1 p2 mr k z vs nn vs' h0 n0 v U'.heap L ∧ FrameEnd U o U' L ({ frames := 1, cells := 1, slots := 10, locals := 18 } : Room).cells ({ frames := 1, cells := 1, slots := 10, locals := 18 } : Room).slots) := by
  refine MetFree.of_bodySF (plainFor_of_name pn_5) hisR ?_
  intro p e s m args below meth c s₁ Bd hml0 hP hK
  obtain ⟨rfl, hZ, hh⟩ := hP
  have hx := Bd.exec
  have hby := Bd.bytes
  have hml : c.maxLocals = 4 := hml0
  have hown : s.vm.findClass "java/util/Arrays" = some m.cls := findClass_of_methodNamed Bd.named
  have hnm := (name_of_methodNamed Bd.named Bd.method).1
  have X0 : Stand p l e ({ frames := 1, cells := 1, slots := 10, locals := 18 } : Room) s m #[(.ref a1), (.int p2), (.ref mr)] below meth c s₁ [] 0 0 := Stand.of_body Bd
  have e0 : s₁.heap = h0 := by rw [← hh, Bd.state]; rfl
  have N0 := Fr.nil n0
  have KC : Keep h0 h0 [] := Keep.refl h0 _
  have pre0 : ∀ t, Steps p.tables e below (s₁.setTop (mkF m 0 #[vr a1, vi p2, vr mr, un] [])) t → Steps p.tables e below (s₁.setTop (entryFrame m #[(.ref a1), (.int p2), (.ref mr)] 4)) t := fun t k => castTop (ef_rmC3 m a1 p2 mr) k
  obtain ⟨T1, X1, e1, st1⟩ := own_ldcM X0 hx hZ hown (ww hw 126 rfl) e0 MIR (g := (mkF m 1 #[vr a1, vi p2, vr mr, un] [(.ref mr)])) rfl (hb hby d18_1)
  have EL0 := EL
  obtain ⟨T2, h2, k2, X2, e2, E2, A2, Ea2, Ov2, st2⟩ := newRE X1 hx hZ hown (ww hw 127 rfl) (ww hw 11 rfl) e1 (g := (mkF m 7 #[vr a1, vi p2, vr mr, un] [(.int p2)])) rfl (hb hby d18_7) rfl hp1 (cap := 10) hp2 (by decide) (by decide) (by decide) (ad := "[Ljava/lang/Object;") (by decide)
  obtain ⟨b2, g2⟩ : ∃ z, z = h0.size := ⟨_, rfl⟩
  rw [← g2] at A2 st2 Ea2
  have ne_a1_b2 : a1 ≠ b2 := Nat.ne_of_lt (Nat.lt_of_lt_of_le E_a1.lt (Nat.le_of_eq g2.symm))
  have g_b2 : n0 ≤ b2 := Nat.le_trans (Nat.le_trans Z0 KC.1) (Nat.le_of_eq g2.symm)
  have sz_b2 : h0.size ≤ b2 := Nat.le_trans KC.1 (Nat.le_of_eq g2.symm)
  replace E_a1 := E_a1.ext E2
  replace V_a1 := V_a1.ext E2
  replace O0 := O0.ext E2
  replace KC := KC.ext E2
  have V_b2 : Arv Z h2 b2 k2 (.object "java/lang/Object") p2 [] .null := Arv.new A2 hp1
  have Vo3 := V_a1
  obtain ⟨cl3, Ar3, -, Sz3, Nn3, -, -⟩ := Vo3
  have ia3 := State.isArrayOf_alike hZ.alike Ar3.2.1
  obtain ⟨_, _, ⟨T4, L4, kz4, nz4⟩, -, X4, ⟨Lc4, hQ4, l4, y4, z4⟩, st4⟩ := Jvm.LawKit.callS X2 hx (y := y_9) hown (mvT hZ (ww hw 128 rfl)) (mvT hZ (ww hw 129 rfl)) (mvT hZ (ww hw 111 rfl)) (mvT hZ (ww hw 130 rfl)) (by decide) (backOf (W := 4) (rmMi l Z a0 hw [] z p2 h2 n0 (Nat.le_trans Z0 KC.1) O0 ) hZ (ww hw 130 rfl) (ww hw 111 rfl) (by decide) (by decide)) (g := (mkF m 32 #[vr a1, vi p2, vr mr, vr b2] [(.int p2), (.int z), (.int (0 : Int32)), (.ref b2), (.int (0 : Int32)), (.ref a1)])) rfl (by rw [hml]; rfl) (argsL := [(.int z), (.int p2)]) (rest := [(.int (0 : Int32)), (.ref b2), (.int (0 : Int32)), (.ref a1)]) (lenOf pd_4 rfl) rfl (by show 2 * 0 + _ ≤ _; exact Nat.le_of_eq rfl) (hb hby d18_32) (fun _ _ => ⟨rfl, e2, (by decide : 1 + 0 ≤ _), (by decide : 10 + 0 ≤ _)⟩)
  dsimp only [Pt.U, Pt.locs, Pt.cells, Pt.slots] at X4 l4 y4 z4 st4 hQ4
  subst l4 y4 z4
  obtain ⟨rfl, N4q, e4⟩ := hQ4
  have N4 := Fr.app N0 N4q
  have pre5 : ∀ t, Steps p.tables e below (T4.setTop (mkF m 35 #[vr a1, vi p2, vr mr, vr b2] [(.int (if p2 < z then p2 else z)), (.int (0 : Int32)), (.ref b2), (.int (0 : Int32)), (.ref a1)])) t → Steps p.tables e below (s₁.setTop (entryFrame m #[(.ref a1), (.int p2), (.ref mr)] 4)) t := by
    intro t kt
    refine pre0 t ?_
    show SS p e below m s₁ 0 #[vr a1, vi p2, vr mr, un] [] _
    refine XS.aloadN X0.here hx rfl (hb hby d18_0) rfl rfl ?_
    show SS p e below m s₁ 1 #[vr a1, vi p2, vr mr, un] [(.ref mr)] _
    refine st1 _ ?_
    show SS p e below m T1 3 #[vr a1, vi p2, vr mr, un] [(.ref mr), (.ref mr)] _
    refine Jvm.RoadKit.acmp (g := (mkF m 3 #[vr a1, vi p2, vr mr, un] [(.ref mr), (.ref mr)])) X1 hx rfl rfl rfl (pc0 := 3) (pc' := 6) (same := true) rfl (hb hby d18_3) rfl (decide_eq_true rfl) (by decide) (by decide) ?_
    show SS p e below m T1 6 #[vr a1, vi p2, vr mr, un] [] _
    refine XS.iloadN X1.here hx rfl (hb hby d18_6) rfl ?_
    show SS p e below m T1 7 #[vr a1, vi p2, vr mr, un] [(.int p2)] _
    refine st2 _ ?_
    show SS p e below m T2 10 #[vr a1, vi p2, vr mr, un] [(.ref b2)] _
    refine XS.goto X2.here hx rfl (pc0 := 10) (pc' := 24) rfl (hb hby d18_10) (by decide) (by decide) ?_
    show SS p e below m T2 24 #[vr a1, vi p2, vr mr, un] [(.ref b2)] _
    refine XS.astoreN X2.here hx rfl (hb hby d18_24) rfl rfl (l' := #[vr a1, vi p2, vr mr, vr b2]) rfl ?_
    show SS p e below m T2 25 #[vr a1, vi p2, vr mr, vr b2] [] _
    refine XS.aloadN X2.here hx rfl (hb hby d18_25) rfl rfl ?_
    show SS p e below m T2 26 #[vr a1, vi p2, vr mr, vr b2] [(.ref a1)] _
    refine XS.iconst X2.here hx rfl (hb hby d18_26) ?_
    show SS p e below m T2 27 #[vr a1, vi p2, vr mr, vr b2] [(.int (0 : Int32)), (.ref a1)] _
    refine XS.aloadN X2.here hx rfl (hb hby d18_27) rfl rfl ?_
    show SS p e below m T2 28 #[vr a1, vi p2, vr mr, vr b2] [(.ref b2), (.int (0 : Int32)), (.ref a1)] _
    refine XS.iconst X2.here hx rfl (hb hby d18_28) ?_
    show SS p e below m T2 29 #[vr a1, vi p2, vr mr, vr b2] [(.int (0 : Int32)), (.ref b2), (.int (0 : Int32)), (.ref a1)] _
    refine XS.aloadN X2.here hx rfl (hb hby d18_29) rfl rfl ?_
    show SS p e below m T2 30 #[vr a1, vi p2, vr mr, vr b2] [(.ref a1), (.int (0 : Int32)), (.ref b2), (.int (0 : Int32)), (.ref a1)] _
    refine X2.arraylength hx (by rw [e2]; exact Ar3.1) ia3 (g := (mkF m 30 #[vr a1, vi p2, vr mr, vr b2] [(.ref a1), (.int (0 : Int32)), (.ref b2), (.int (0 : Int32)), (.ref a1)])) rfl rfl (hb hby d18_30) _ ?_
    rw [len_of Sz3 Nn3]
    show SS p e below m T2 31 #[vr a1, vi p2, vr mr, vr b2] [(.int z), (.int (0 : Int32)), (.ref b2), (.int (0 : Int32)), (.ref a1)] _
    refine XS.iloadN X2.here hx rfl (hb hby d18_31) rfl ?_
    show SS p e below m T2 32 #[vr a1, vi p2, vr mr, vr b2] [(.int p2), (.int z), (.int (0 : Int32)), (.ref b2), (.int (0 : Int32)), (.ref a1)] _
    refine st4 _ ?_
    exact kt
  rw [hp3] at pre5
  replace EL0 := own_els_ext EL0 E2
  have Vp : Arv Z h2 b2 k2 (.object "java/lang/Object") p2 (List.replicate 10 .null) .null := V_b2.pad (pad_rep [] .null 10)
  have SL := own_stoL Vp Ov2 (ww hw 48 rfl) EL0 (List.range nn.toNatClampNeg) (0 : Int32).toNatClampNeg
  obtain ⟨T6, h6, L6, X6, e6, N6, K6, Vq6, st6⟩ := cpA X4 hx hZ hown (ww hw 131 rfl) (ww hw 134 rfl) (ww hw 132 rfl) (ww hw 133 rfl) e4 V_a1 Vp (us := (List.range nn.toNatClampNeg).map fun i => vs.getD ((0 : Int32).toNatClampNeg + i) .null) (Or.inr ⟨rfl, rfl, SL⟩) (by decide) (by decide) hp4 (by show 0 + _ ≤ _; omega) (by show 0 + _ ≤ _; omega) rfl (by simp only [List.length_replicate]; show 0 + _ ≤ _; omega) N4 g_b2 (g := (mkF m 35 #[vr a1, vi p2, vr mr, vr b2] [(.int nn), (.int (0 : Int32)), (.ref b2), (.int (0 : Int32)), (.ref a1)])) rfl (by rw [hml]; rfl) rfl (hb hby d18_35) (by decide) (W := 0) (by show 2 * 0 + _ ≤ _; exact Nat.le_of_eq rfl) (by decide)
  replace E_a1 := E_a1.keep K6
  replace V_a1 := V_a1.keep K6 (ninS ne_a1_b2 nin0)
  replace Ea2 := Ea2.keep K6
  replace O0 := O0.keep K6 (allS g_b2 all0)
  replace KC := KC.trans K6 (allS (Or.inr sz_b2) all0)
  rw [hp7] at Vq6
  obtain ⟨fs, hr, hrun, hended, hW, hsame⟩ := X6.leave (v := some (.ref b2)) (fun h => by rw [Bd.returns] at h; cases h)
  refine ⟨_, _, pre5 _ ?_, hrun, hended, _, _, rfl, ?_, ⟨_, rfl⟩, hW, hsame.mono (by decide) (by decide)⟩
  · show SS p e below m T4 35 #[vr a1, vi p2, vr mr, vr b2] [(.int nn), (.int (0 : Int32)), (.ref b2), (.int (0 : Int32)), (.ref a1)] _
    refine st6 _ ?_
    show SS p e below m T6 38 #[vr a1, vi p2, vr mr, vr b2] [] _
    refine XS.aloadN X6.here hx rfl (hb hby d18_38) rfl rfl ?_
    show SS p e below m T6 39 #[vr a1, vi p2, vr mr, vr b2] [(.ref b2)] _
    jvm_step X6.here [X6.here.top, hx, (hb hby d18_39), X6.method', Bd.returns, Value.isRef, FieldType.isReference]
    first | (intro acts; rw [hr _ acts rfl rfl rfl]) | rw [hr _ _ rfl rfl rfl]
    exact Steps.refl _
  · show Q_rmC3 Z a1 p2 mr k z vs nn vs' h0 n0 _ T6.heap _
    rw [e6]
    exact ⟨b2, k2, rfl, N6, KC, sz_b2, Ea2, Vq6, Ov2⟩
theorem pd_5 : parseMethodDescriptor "([Ljava/lang/Object;ILjava/lang/Class;)[Ljava/lang/Object;" = some ⟨[(.array (.object "java/lang/Object")), .int, (.object "java/lang/Class")], some (.array (.object "java/lang/Object"))⟩ := by decide +kernel
theorem d17_0 : decode jdk_65_method_119_code 0 = .ok (.aload_n 0, 1) := by decide +kernel
theorem d17_1 : decode jdk_65_method_119_code 1 = .ok (.iload_n 1, 1) := by decide +kernel
theorem d17_2 : decode jdk_65_method_119_code 2 = .ok (.aload_n 0, 1) := by decide +kernel
theorem d17_3 : decode jdk_65_method_119_code 3 = .ok (.invokevirtual 86, 3) := by decide +kernel
theorem d17_6 : decode jdk_65_method_119_code 6 = .ok (.invokestatic 300, 3) := by decide +kernel
theorem d17_9 : decode jdk_65_method_119_code 9 = .ok (.areturn, 1) := by decide +kernel
theorem ef_rmC2 (m : MethodId) (x0 : Addr) (x1 : Int32) : entryFrame m #[(.ref x0), (.int x1)] 2 = mkF m 0 #[vr x0, vi x1] [] := by first | (simp [entryFrame, mkF, argsToLocals, Value.category]; done) | rfl
def Q_rmC2 (Z : State) (a1 : Addr) (p2 : Int32) (mr : Addr) (k : ClassId) (z : Int32) (vs : List Value) (nn : Int32) (vs' : List Value) (h0 : Heap) (n0 : Nat) (v : Option Value) (h : Heap) (L : List Loc) : Prop := ∃ b : Addr, ∃ k2 : ClassId, (v = some (.ref b)) ∧ (Fr n0 L) ∧ (Keep h0 h []) ∧ (h0.size ≤ b) ∧ (Exa Z h b "[Ljava/lang/Object;") ∧ (Arv Z h b k2 (.object "java/lang/Object") p2 vs' .null) ∧ (Ovr Z k2 "java/lang/Object")
set_option maxRecDepth 65536 in
set_option maxHeartbeats 40000000 in
theorem rmC2 (l : Launch) (Z : State) (a0 : Array Value) (hw : ∀ d ∈ tables_1, d.before a0 Z = true) (ws : List Jvm.Cond) (a1 : Addr) (p2 : Int32) (mr : Addr) (k : ClassId) (z : Int32) (vs : List Value) (nn : Int32) (vs' : List Value) (h0 : Heap) (n0 : Nat) (Z0 : n0 ≤ h0.size) (O0 : Old Z n0 h0) (E_a1 : Exa Z h0 a1 "[Ljava/lang/Object;") (V_a1 : Arv Z h0 a1 k (.object "java/lang/Object") z vs .null) (MIR : own_Mir Z "[Ljava/lang/Object;" mr) (hp1 : ¬ p2 < 0) (hp2 : p2.toNatClampNeg ≤ 10) (hp3 : (if p2 < z then p2 else z) = nn) (hp4 : ¬ nn < 0) (hp5 : nn.toNatClampNeg ≤ z.toNatClampNeg) (hp6 : nn.toNatClampNeg ≤ p2.toNatClampNeg) (hp7 : ((List.replicate 10 Value.null).take (0 : Int32).toNatClampNeg ++ ((List.range nn.toNatClampNeg).map fun i => vs.getD ((0 : Int32).toNatClampNeg + i) .null) ++ (List.replicate 10 Value.null).drop ((0 : Int32).toNatClampNeg + nn.toNatClampNeg)) = vs') (EL : own_Els Z h0 vs) :
    MetFree l y_11 (head1 (Jvm.Cond.code y_11 jdk_65_method_119_code 2 (some (.array (.object "java/lang/Object"))) :: ws) ({ frames := 2, cells := 1, slots := 10, locals := 33 } : Room)) (fun a U => a = #[(.ref a1), (.int p2)] ∧ Z.Warmed39 U.vm ∧ U.heap = h0) (fun _ _ _ _ _ => True) (fun _ U o U' => ∃ v L, o = .returned v ∧ Q_rmC2 Z a1 p2 mr k z vs nn vs' h0 n0 v U'.heap L ∧ FrameEnd U o U' L ({ frames := 2, cells := 1, slots := 10, locals := 33 } : Room).cells ({ frames := 2, cells := 1, slots := 10, locals := 33 } : Room).slots) := by
  refine MetFree.of_bodySF (plainFor_of_name pn_5) hisR ?_
  intro p e s m args below meth c s₁ Bd hml0 hP hK
  obtain ⟨rfl, hZ, hh⟩ := hP
  have hx := Bd.exec
  have hby := Bd.bytes
  have hml : c.maxLocals = 2 := hml0
  have hown : s.vm.findClass "java/util/Arrays" = some m.cls := findClass_of_methodNamed Bd.named
  have hnm := (name_of_methodNamed Bd.named Bd.method).1
  have X0 : Stand p l e ({ frames := 2, cells := 1, slots := 10, locals := 33 } : Room) s m #[(.ref a1), (.int p2)] below meth c s₁ [] 0 0 := Stand.of_body Bd
  have e0 : s₁.heap = h0 := by rw [← hh, Bd.state]; rfl
  have N0 := Fr.nil n0
  have KC : Keep h0 h0 [] := Keep.refl h0 _
  have pre0 : ∀ t, Steps p.tables e below (s₁.setTop (mkF m 0 #[vr a1, vi p2] [])) t → Steps p.tables e below (s₁.setTop (entryFrame m #[(.ref a1), (.int p2)] 2)) t := fun t k => castTop (ef_rmC2 m a1 p2) k
  obtain ⟨T1, X1, e1, st1⟩ := own_gcls X0 hx hZ hown (ww hw 117 rfl) (ww hw 118 rfl) (ww hw 120 rfl) (ww hw 119 rfl) (ww hw 121 rfl) e0 E_a1 MIR (g := (mkF m 3 #[vr a1, vi p2] [(.ref a1), (.int p2), (.ref a1)])) rfl (by rw [hml]; rfl) rfl (hb hby d17_3) (by decide) (W := 2) (by show 2 * 0 + _ ≤ _; exact Nat.le_of_eq rfl) (by decide)
  obtain ⟨_, _, ⟨T2, L2, kz2, nz2⟩, -, X2, ⟨Lc2, hQ2, l2, y2, z2⟩, st2⟩ := Jvm.LawKit.callS X1 hx (y := y_10) hown (mvT hZ (ww hw 123 rfl)) (mvT hZ (ww hw 124 rfl)) (mvT hZ (ww hw 115 rfl)) (mvT hZ (ww hw 125 rfl)) (by decide) (backOf (W := 0) (rmC3 l Z a0 hw [] a1 p2 mr k z vs nn vs' h0 n0 (Nat.le_trans Z0 KC.1) O0 E_a1 V_a1 MIR hp1 hp2 hp3 hp4 hp5 hp6 hp7 EL) hZ (ww hw 125 rfl) (ww hw 115 rfl) (by decide) (by decide)) (g := (mkF m 6 #[vr a1, vi p2] [(.ref mr), (.int p2), (.ref a1)])) rfl (by rw [hml]; rfl) (argsL := [(.ref a1), (.int p2), (.ref mr)]) (rest := []) (lenOf pd_5 rfl) rfl (by show 2 * 0 + _ ≤ _; exact Nat.le_of_eq rfl) (hb hby d17_6) (fun _ _ => ⟨rfl, e1, (by decide : 0 + 1 ≤ _), (by decide : 0 + 10 ≤ _)⟩)
  dsimp only [Pt.U, Pt.locs, Pt.cells, Pt.slots] at X2 l2 y2 z2 st2 hQ2
  subst l2 y2 z2
  obtain ⟨b2_b, k2_2, rfl, N2q, K2, sz_b2_b, E_b_2, V_b_2, hq2_0⟩ := hQ2
  have N2 := Fr.app N0 N2q
  have ne_a1_b2_b : a1 ≠ b2_b := Nat.ne_of_lt (Nat.lt_of_lt_of_le E_a1.lt sz_b2_b)
  have g_b2_b : n0 ≤ b2_b := Nat.le_trans (Nat.le_trans Z0 KC.1) sz_b2_b
  replace sz_b2_b : h0.size ≤ b2_b := Nat.le_trans KC.1 sz_b2_b
  replace E_a1 := E_a1.keep K2
  replace V_a1 := V_a1.keep K2 nin0
  replace O0 := O0.keep K2 all0
  replace KC := KC.trans K2 all0
  obtain ⟨fs, hr, hrun, hended, hW, hsame⟩ := X2.leave (v := some (.ref b2_b)) (fun h => by rw [Bd.returns] at h; cases h)
  refine ⟨_, _, pre0 _ ?_, hrun, hended, _, _, rfl, ?_, ⟨_, rfl⟩, hW, hsame.mono (by decide) (by decide)⟩
  · show SS p e below m s₁ 0 #[vr a1, vi p2] [] _
    refine XS.aloadN X0.here hx rfl (hb hby d17_0) rfl rfl ?_
    show SS p e below m s₁ 1 #[vr a1, vi p2] [(.ref a1)] _
    refine XS.iloadN X0.here hx rfl (hb hby d17_1) rfl ?_
    show SS p e below m s₁ 2 #[vr a1, vi p2] [(.int p2), (.ref a1)] _
    refine XS.aloadN X0.here hx rfl (hb hby d17_2) rfl rfl ?_
    show SS p e below m s₁ 3 #[vr a1, vi p2] [(.ref a1), (.int p2), (.ref a1)] _
    refine st1 _ ?_
    show SS p e below m T1 6 #[vr a1, vi p2] [(.ref mr), (.int p2), (.ref a1)] _
    refine st2 _ ?_
    show SS p e below m T2 9 #[vr a1, vi p2] [(.ref b2_b)] _
    jvm_step X2.here [X2.here.top, hx, (hb hby d17_9), X2.method', Bd.returns, Value.isRef, FieldType.isReference]
    first | (intro acts; rw [hr _ acts rfl rfl rfl]) | rw [hr _ _ rfl rfl rfl]
    exact Steps.refl _
  · show Q_rmC2 Z a1 p2 mr k z vs nn vs' h0 n0 _ T2.heap _
    exact ⟨b2_b, k2_2, rfl, N2, KC, sz_b2_b, E_b_2, V_b_2, hq2_0⟩
theorem pd_6 : parseMethodDescriptor "(Ljava/lang/Object;)Ljava/lang/Object;" = some ⟨[(.object "java/lang/Object")], some (.object "java/lang/Object")⟩ := by decide +kernel
theorem d6_0 : decode prog_112_method_5_code 0 = .ok (.aload_n 0, 1) := by decide +kernel
theorem d6_1 : decode prog_112_method_5_code 1 = .ok (.getfield 21, 3) := by decide +kernel
theorem d6_4 : decode prog_112_method_5_code 4 = .ok (.aload_n 0, 1) := by decide +kernel
theorem d6_5 : decode prog_112_method_5_code 5 = .ok (.getfield 17, 3) := by decide +kernel
theorem d6_8 : decode prog_112_method_5_code 8 = .ok (.getfield 25, 3) := by decide +kernel
theorem d6_11 : decode prog_112_method_5_code 11 = .ok (.if_icmp .lt 18, 3) := by decide +kernel
theorem d6_14 : decode prog_112_method_5_code 14 = .ok (.aload_n 0, 1) := by decide +kernel
theorem d6_15 : decode prog_112_method_5_code 15 = .ok (.getfield 21, 3) := by decide +kernel
theorem d6_18 : decode prog_112_method_5_code 18 = .ok (.aload_n 0, 1) := by decide +kernel
theorem d6_19 : decode prog_112_method_5_code 19 = .ok (.getfield 17, 3) := by decide +kernel
theorem d6_22 : decode prog_112_method_5_code 22 = .ok (.getfield 28, 3) := by decide +kernel
theorem d6_25 : decode prog_112_method_5_code 25 = .ok (.arraylength, 1) := by decide +kernel
theorem d6_26 : decode prog_112_method_5_code 26 = .ok (.if_icmp .ne 38, 3) := by decide +kernel
theorem d6_64 : decode prog_112_method_5_code 64 = .ok (.aload_n 0, 1) := by decide +kernel
theorem d6_65 : decode prog_112_method_5_code 65 = .ok (.getfield 17, 3) := by decide +kernel
theorem d6_68 : decode prog_112_method_5_code 68 = .ok (.getfield 28, 3) := by decide +kernel
theorem d6_71 : decode prog_112_method_5_code 71 = .ok (.aload_n 0, 1) := by decide +kernel
theorem d6_72 : decode prog_112_method_5_code 72 = .ok (.getfield 21, 3) := by decide +kernel
theorem d6_75 : decode prog_112_method_5_code 75 = .ok (.aload_n 1, 1) := by decide +kernel
theorem d6_76 : decode prog_112_method_5_code 76 = .ok (.invokestatic 44, 3) := by decide +kernel
theorem d6_79 : decode prog_112_method_5_code 79 = .ok (.aastore, 1) := by decide +kernel
theorem d6_80 : decode prog_112_method_5_code 80 = .ok (.aload_n 0, 1) := by decide +kernel
theorem d6_81 : decode prog_112_method_5_code 81 = .ok (.getfield 17, 3) := by decide +kernel
theorem d6_84 : decode prog_112_method_5_code 84 = .ok (.aload_n 0, 1) := by decide +kernel
theorem d6_85 : decode prog_112_method_5_code 85 = .ok (.getfield 21, 3) := by decide +kernel
theorem d6_88 : decode prog_112_method_5_code 88 = .ok (.iconst 1, 1) := by decide +kernel
theorem d6_89 : decode prog_112_method_5_code 89 = .ok (.iadd, 1) := by decide +kernel
theorem d6_90 : decode prog_112_method_5_code 90 = .ok (.putfield 25, 3) := by decide +kernel
theorem d6_93 : decode prog_112_method_5_code 93 = .ok (.aload_n 0, 1) := by decide +kernel
theorem d6_94 : decode prog_112_method_5_code 94 = .ok (.dup, 1) := by decide +kernel
theorem d6_95 : decode prog_112_method_5_code 95 = .ok (.getfield 21, 3) := by decide +kernel
theorem d6_98 : decode prog_112_method_5_code 98 = .ok (.iconst 1, 1) := by decide +kernel
theorem d6_99 : decode prog_112_method_5_code 99 = .ok (.iadd, 1) := by decide +kernel
theorem d6_100 : decode prog_112_method_5_code 100 = .ok (.putfield 21, 3) := by decide +kernel
theorem d6_103 : decode prog_112_method_5_code 103 = .ok (.return_, 1) := by decide +kernel
theorem ef_rmAddA (m : MethodId) (x0 : Addr) (x1 : Addr) : entryFrame m #[(.ref x0), (.ref x1)] 2 = mkF m 0 #[vr x0, vr x1] [] := by first | (simp [entryFrame, mkF, argsToLocals, Value.category]; done) | rfl
def Q_rmAddA (Z : State) (a1 : Addr) (a2 : Addr) (sto : Addr) (n : Int32) (f : Int32) (arr : Addr) (k : ClassId) (cap : Int32) (vs : List Value) (m' : Int32) (vs' : List Value) (h0 : Heap) (n0 : Nat) (v : Option Value) (h : Heap) (L : List Loc) : Prop := (v = none) ∧ (Fr n0 L) ∧ (Keep h0 h [a1, sto, arr]) ∧ (Fld Z h a1 "com/example/brisk_tableau/brisktableau/tableau/SharedList" "store" "Lcom/example/brisk_tableau/brisktableau/tableau/SharedList$Store;" (.ref sto)) ∧ (Fld Z h a1 "com/example/brisk_tableau/brisktableau/tableau/SharedList" "size" "I" (.int m')) ∧ (Fld Z h sto "com/example/brisk_tableau/brisktableau/tableau/SharedList$Store" "filled" "I" (.int m')) ∧ (Fld Z h sto "com/example/brisk_tableau/brisktableau/tableau/SharedList$Store" "items" "[Ljava/lang/Object;" (.ref arr)) ∧ (Arv Z h arr k (.object "java/lang/Object") cap vs' .null)
set_option maxRecDepth 65536 in
set_option maxHeartbeats 40000000 in
theorem rmAddA (l : Launch) (Z : State) (a0 : Array Value) (hw : ∀ d ∈ tables_1, d.before a0 Z = true) (ws : List Jvm.Cond) (a1 : Addr) (a2 : Addr) (sto : Addr) (n : Int32) (f : Int32) (arr : Addr) (k : ClassId) (cap : Int32) (vs : List Value) (m' : Int32) (vs' : List Value) (h0 : Heap) (n0 : Nat) (Z0 : n0 ≤ h0.size) (O0 : Old Z n0 h0) (F_store_a1 : Fld Z h0 a1 "com/example/brisk_tableau/brisktableau/tableau/SharedList" "store" "Lcom/example/brisk_tableau/brisktableau/tableau/SharedList$Store;" (.ref sto)) (F_size_a1 : Fld Z h0 a1 "com/example/brisk_tableau/brisktableau/tableau/SharedList" "size" "I" (.int n)) (E_a1 : Exa Z h0 a1 "com/example/brisk_tableau/brisktableau/tableau/SharedList") (E_sto : Exa Z h0 sto "com/example/brisk_tableau/brisktableau/tableau/SharedList$Store") (F_filled_sto : Fld Z h0 sto "com/example/brisk_tableau/brisktableau/tableau/SharedList$Store" "filled" "I" (.int f)) (F_items_sto : Fld Z h0 sto "com/example/brisk_tableau/brisktableau/tableau/SharedList$Store" "items" "[Ljava/lang/Object;" (.ref arr)) (E_arr : Exa Z h0 arr "[Ljava/lang/Object;") (V_arr : Arv Z h0 arr k (.object "java/lang/Object") cap vs .null) (E_a2 : Exa Z h0 a2 "java/lang/Integer") (g_a1 : n0 ≤ a1) (g_sto : n0 ≤ sto) (g_arr : n0 ≤ arr) (OV : Ovr Z k "java/lang/Object") (hA : ¬ n < f) (hB : ¬ n = cap) (hC : ¬ n < 0) (hD : n < cap) (hM : n + (1 : Int32) = m') (hV : vs.set n.toNatClampNeg (.ref a2) = vs') (hL : n.toNatClampNeg < vs.length) :
    MetFree l y_12 (head1 (Jvm.Cond.code y_12 prog_112_method_5_code 2 none :: ws) ({ frames := 1, cells := 0, slots := 0, locals := 14 } : Room)) (fun a U => a = #[(.ref a1), (.ref a2)] ∧ Z.Warmed39 U.vm ∧ U.heap = h0) (fun _ _ _ _ _ => True) (fun _ U o U' => ∃ v L, o = .returned v ∧ Q_rmAddA Z a1 a2 sto n f arr k cap vs m' vs' h0 n0 v U'.heap L ∧ FrameEnd U o U' L ({ frames := 1, cells := 0, slots := 0, locals := 14 } : Room).cells ({ frames := 1, cells := 0, slots := 0, locals := 14 } : Room).slots) := by
  refine MetFree.of_bodySF (plainFor_of_name pn_1) hisR ?_
  intro p e s m args below meth c s₁ Bd hml0 hP hK
  obtain ⟨rfl, hZ, hh⟩ := hP
  have hx := Bd.exec
  have hby := Bd.bytes
  have hml : c.maxLocals = 2 := hml0
  have hown : s.vm.findClass "com/example/brisk_tableau/brisktableau/tableau/SharedList" = some m.cls := findClass_of_methodNamed Bd.named
  have hnm := (name_of_methodNamed Bd.named Bd.method).1
  have X0 : Stand p l e ({ frames := 1, cells := 0, slots := 0, locals := 14 } : Room) s m #[(.ref a1), (.ref a2)] below meth c s₁ [] 0 0 := Stand.of_body Bd
  have e0 : s₁.heap = h0 := by rw [← hh, Bd.state]; rfl
  have N0 := Fr.nil n0
  have KC : Keep h0 h0 [a1, sto, arr] := Keep.refl h0 _
  have pre0 : ∀ t, Steps p.tables e below (s₁.setTop (mkF m 0 #[vr a1, vr a2] [])) t → Steps p.tables e below (s₁.setTop (entryFrame m #[(.ref a1), (.ref a2)] 2)) t := fun t k => castTop (ef_rmAddA m a1 a2) k
  obtain ⟨T1, X1, e1, st1⟩ := getF X0 hx hZ hown (host := "") (Or.inl (ww hw 28 rfl)) Via.refl e0 F_size_a1 (g := (mkF m 1 #[vr a1, vr a2] [(.ref a1)])) rfl rfl (hb hby d6_1)
  obtain ⟨T2, X2, e2, st2⟩ := getF X1 hx hZ hown (host := "") (Or.inl (ww hw 26 rfl)) Via.refl e1 F_store_a1 (g := (mkF m 5 #[vr a1, vr a2] [(.ref a1), (.int n)])) rfl rfl (hb hby d6_5)
  have st3 := getFR X2 hx hZ hown (ww hw 42 rfl) e2 F_filled_sto (g := (mkF m 8 #[vr a1, vr a2] [(.ref sto), (.int n)])) rfl rfl (hb hby d6_8)
  obtain ⟨T4, X4, e4, st4⟩ := getF X2 hx hZ hown (host := "") (Or.inl (ww hw 28 rfl)) Via.refl e2 F_size_a1 (g := (mkF m 15 #[vr a1, vr a2] [(.ref a1)])) rfl rfl (hb hby d6_15)
  obtain ⟨T5, X5, e5, st5⟩ := getF X4 hx hZ hown (host := "") (Or.inl (ww hw 26 rfl)) Via.refl e4 F_store_a1 (g := (mkF m 19 #[vr a1, vr a2] [(.ref a1), (.int n)])) rfl rfl (hb hby d6_19)
  have st6 := getFR X5 hx hZ hown (ww hw 43 rfl) e5 F_items_sto (g := (mkF m 22 #[vr a1, vr a2] [(.ref sto), (.int n)])) rfl rfl (hb hby d6_22)
  have Vo7 := V_arr
  obtain ⟨cl7, Ar7, -, Sz7, Nn7, -, -⟩ := Vo7
  have ia7 := State.isArrayOf_alike hZ.alike Ar7.2.1
  obtain ⟨T8, X8, e8, st8⟩ := getF X5 hx hZ hown (host := "") (Or.inl (ww hw 26 rfl)) Via.refl e5 F_store_a1 (g := (mkF m 65 #[vr a1, vr a2] [(.ref a1)])) rfl rfl (hb hby d6_65)
  have st9 := getFR X8 hx hZ hown (ww hw 43 rfl) e8 F_items_sto (g := (mkF m 68 #[vr a1, vr a2] [(.ref sto)])) rfl rfl (hb hby d6_68)
  obtain ⟨T10, X10, e10, st10⟩ := getF X8 hx hZ hown (host := "") (Or.inl (ww hw 28 rfl)) Via.refl e8 F_size_a1 (g := (mkF m 72 #[vr a1, vr a2] [(.ref a1), (.ref arr)])) rfl rfl (hb hby d6_72)
  obtain ⟨_, _, ⟨T11, L11, kz11, nz11⟩, -, X11, ⟨Lc11, hQ11, l11, y11, z11⟩, st11⟩ := Jvm.LawKit.callS X10 hx (y := y_7) hown (mvT hZ (ww hw 44 rfl)) (mvT hZ (ww hw 45 rfl)) (mvT hZ (ww hw 46 rfl)) (mvT hZ (ww hw 47 rfl)) (by decide) (backOf (W := 2) (rmRn l Z a0 hw [] a2 h0 n0 (Nat.le_trans Z0 KC.1) O0 ) hZ (ww hw 47 rfl) (ww hw 46 rfl) (by decide) (by decide)) (g := (mkF m 76 #[vr a1, vr a2] [(.ref a2), (.int n), (.ref arr)])) rfl (by rw [hml]; rfl) (argsL := [(.ref a2)]) (rest := [(.int n), (.ref arr)]) (lenOf pd_6 rfl) rfl (by show 2 * 0 + _ ≤ _; exact Nat.le_of_eq rfl) (hb hby d6_76) (fun _ _ => ⟨rfl, e10, (by decide : 0 + 0 ≤ _), (by decide : 0 + 0 ≤ _)⟩)
  dsimp only [Pt.U, Pt.locs, Pt.cells, Pt.slots] at X11 l11 y11 z11 st11 hQ11
  subst l11 y11 z11
  obtain ⟨rfl, N11q, e11⟩ := hQ11
  have N11 := Fr.app N0 N11q
  have Vo12 := V_arr
  obtain ⟨cl12, Ar12, q12, Sz12, Nn12, Hh12, Gg12⟩ := Vo12
  have hin12 : ¬ (n < 0 ∨ cl12.slots.size ≤ (n).toNatClampNeg) := inb_of Sz12 ⟨hC, hD⟩
  obtain ⟨T13, h13, X13, e13, W13, st13⟩ := stR X11 hx hZ e11 Ar12 (j := n) hin12 rfl (Sto.ofV Ar12 q12 OV (Ins.of_exa E_a2 (ww hw 48 rfl))) (g := (mkF m 79 #[vr a1, vr a2] [(.ref a2), (.int n), (.ref arr)])) rfl rfl (hb hby d6_79)
  have Vn13 := Arv.set Ar12 q12 Sz12 Nn12 Hh12 Gg12 rfl W13 (n.toNatClampNeg) rfl hL
  have N13 := Fr.snoc X13 N11 g_arr
  have nec_a1_arr : a1 ≠ arr := Exa.ne E_a1 E_arr (by decide)
  have nec_sto_arr : sto ≠ arr := Exa.ne E_sto E_arr (by decide)
  replace F_store_a1 := F_store_a1.other W13 (Or.inl nec_a1_arr)
  replace F_size_a1 := F_size_a1.other W13 (Or.inl nec_a1_arr)
  replace E_a1 := E_a1.wr W13
  replace E_sto := E_sto.wr W13
  replace F_filled_sto := F_filled_sto.other W13 (Or.inl nec_sto_arr)
  replace F_items_sto := F_items_sto.other W13 (Or.inl nec_sto_arr)
  replace E_arr := E_arr.wr W13
  replace E_a2 := E_a2.wr W13
  replace O0 := O0.wr W13 g_arr
  replace KC := KC.wr W13 (Or.inl (List.mem_of_getElem? (i := 2) rfl))
  obtain ⟨T14, X14, e14, st14⟩ := getF X13 hx hZ hown (host := "") (Or.inl (ww hw 26 rfl)) Via.refl e13 F_store_a1 (g := (mkF m 81 #[vr a1, vr a2] [(.ref a1)])) rfl rfl (hb hby d6_81)
  obtain ⟨T15, X15, e15, st15⟩ := getF X14 hx hZ hown (host := "") (Or.inl (ww hw 28 rfl)) Via.refl e14 F_size_a1 (g := (mkF m 85 #[vr a1, vr a2] [(.ref a1), (.ref sto)])) rfl rfl (hb hby d6_85)
  obtain ⟨T16, h16, X16, e16, W16, st16⟩ := putFR X15 hx hZ hown (ww hw 42 rfl) e15 F_filled_sto E_sto (ww hw 21 rfl) (ww hw 8 rfl) (ty := .int) (by decide) rfl rfl (g := (mkF m 90 #[vr a1, vr a2] [(.int (n + (1 : Int32))), (.ref sto)])) rfl rfl (hb hby d6_90)
  have N16 := Fr.snoc X16 N13 g_sto
  replace F_filled_sto := F_filled_sto.same W16
  have nec_a1_sto : a1 ≠ sto := Exa.ne E_a1 E_sto (by decide)
  replace F_store_a1 := F_store_a1.other W16 (Or.inl nec_a1_sto)
  replace F_size_a1 := F_size_a1.other W16 (Or.inl nec_a1_sto)
  replace E_a1 := E_a1.wr W16
  replace E_sto := E_sto.wr W16
  replace F_items_sto := F_items_sto.other W16 (Or.inr (slot_ne (Or.inr (ww hw 19 rfl)) (Or.inl (ww hw 21 rfl)) (by decide) (t := (.array (.object "java/lang/Object"))) (t' := .int) (by decide) (by decide)))
  replace E_arr := E_arr.wr W16
  replace E_a2 := E_a2.wr W16
  replace Vn13 := Vn13.other W16 (Ne.symm nec_sto_arr)
  replace O0 := O0.wr W16 g_sto
  replace KC := KC.wr W16 (Or.inl (List.mem_of_getElem? (i := 1) rfl))
  obtain ⟨T17, X17, e17, st17⟩ := getF X16 hx hZ hown (host := "") (Or.inl (ww hw 28 rfl)) Via.refl e16 F_size_a1 (g := (mkF m 95 #[vr a1, vr a2] [(.ref a1), (.ref a1)])) rfl rfl (hb hby d6_95)
  obtain ⟨T18, h18, X18, e18, W18, st18⟩ := putF X17 hx hZ hown (host := "") (Or.inl (ww hw 28 rfl)) Via.refl e17 F_size_a1 E_a1 (Or.inl (ww hw 29 rfl)) (ww hw 2 rfl) (ty := .int) (by decide) rfl rfl (g := (mkF m 100 #[vr a1, vr a2] [(.int (n + (1 : Int32))), (.ref a1)])) rfl rfl (hb hby d6_100)
  have N18 := Fr.snoc X18 N16 g_a1
  replace F_size_a1 := F_size_a1.same W18
  replace F_store_a1 := F_store_a1.other W18 (Or.inr (slot_ne (Or.inl (ww hw 27 rfl)) (Or.inl (ww hw 29 rfl)) (by decide) (t := (.object "com/example/brisk_tableau/brisktableau/tableau/SharedList$Store")) (t' := .int) (by decide) (by decide)))
  replace E_a1 := E_a1.wr W18
  replace E_sto := E_sto.wr W18
  replace F_filled_sto := F_filled_sto.other W18 (Or.inl (Ne.symm nec_a1_sto))
  replace F_items_sto := F_items_sto.other W18 (Or.inl (Ne.symm nec_a1_sto))
  replace E_arr := E_arr.wr W18
  replace E_a2 := E_a2.wr W18
  replace Vn13 := Vn13.other W18 (Ne.symm nec_a1_arr)
  replace O0 := O0.wr W18 g_a1
  replace KC := KC.wr W18 (Or.inl (List.mem_of_getElem? (i := 0) rfl))
  rw [hM] at F_size_a1
  rw [hM] at F_filled_sto
  rw [hV] at Vn13
  obtain ⟨fs, hr, hrun, hended, hW, hsame⟩ := X18.leave (v := none) (fun _ => rfl)
  refine ⟨_, _, pre0 _ ?_, hrun, hended, _, _, rfl, ?_, ⟨_, rfl⟩, hW, hsame.mono (by decide) (by decide)⟩
  · show SS p e below m s₁ 0 #[vr a1, vr a2] [] _
    refine XS.aloadN X0.here hx rfl (hb hby d6_0) rfl rfl ?_
    show SS p e below m s₁ 1 #[vr a1, vr a2] [(.ref a1)] _
    refine st1 _ ?_
    show SS p e below m T1 4 #[vr a1, vr a2] [(.int n)] _
    refine XS.aloadN X1.here hx rfl (hb hby d6_4) rfl rfl ?_
    show SS p e below m T1 5 #[vr a1, vr a2] [(.ref a1), (.int n)] _
    refine st2 _ ?_
    show SS p e below m T2 8 #[vr a1, vr a2] [(.ref sto), (.int n)] _
    refine st3 _ ?_
    show SS p e below m T2 11 #[vr a1, vr a2] [(.int f), (.int n)] _
    refine XS.icmpNo X2.here hx rfl (hb hby d6_11) rfl (flt hA).1 ?_
    show SS p e below m T2 14 #[vr a1, vr a2] [] _
    refine XS.aloadN X2.here hx rfl (hb hby d6_14) rfl rfl ?_
    show SS p e below m T2 15 #[vr a1, vr a2] [(.ref a1)] _
    refine st4 _ ?_
    show SS p e below m T4 18 #[vr a1, vr a2] [(.int n)] _
    refine XS.aloadN X4.here hx rfl (hb hby d6_18) rfl rfl ?_
    show SS p e below m T4 19 #[vr a1, vr a2] [(.ref a1), (.int n)] _
    refine st5 _ ?_
    show SS p e below m T5 22 #[vr a1, vr a2] [(.ref sto), (.int n)] _
    refine st6 _ ?_
    show SS p e below m T5 25 #[vr a1, vr a2] [(.ref arr), (.int n)] _
    refine X5.arraylength hx (by rw [e5]; exact Ar7.1) ia7 (g := (mkF m 25 #[vr a1, vr a2] [(.ref arr), (.int n)])) rfl rfl (hb hby d6_25) _ ?_
    rw [len_of Sz7 Nn7]
    show SS p e below m T5 26 #[vr a1, vr a2] [(.int cap), (.int n)] _
    refine XS.icmpYes X5.here hx rfl (pc0 := 26) (pc' := 64) rfl (hb hby d6_26) rfl (feq hB).2 (by decide) (by decide) ?_
    show SS p e below m T5 64 #[vr a1, vr a2] [] _
    refine XS.aloadN X5.here hx rfl (hb hby d6_64) rfl rfl ?_
    show SS p e below m T5 65 #[vr a1, vr a2] [(.ref a1)] _
    refine st8 _ ?_
    show SS p e below m T8 68 #[vr a1, vr a2] [(.ref sto)] _
    refine st9 _ ?_
    show SS p e below m T8 71 #[vr a1, vr a2] [(.ref arr)] _
    refine XS.aloadN X8.here hx rfl (hb hby d6_71) rfl rfl ?_
    show SS p e below m T8 72 #[vr a1, vr a2] [(.ref a1), (.ref arr)] _
    refine st10 _ ?_
    show SS p e below m T10 75 #[vr a1, vr a2] [(.int n), (.ref arr)] _
    refine XS.aloadN X10.here hx rfl (hb hby d6_75) rfl rfl ?_
    show SS p e below m T10 76 #[vr a1, vr a2] [(.ref a2), (.int n), (.ref arr)] _
    refine st11 _ ?_
    show SS p e below m T11 79 #[vr a1, vr a2] [(.ref a2), (.int n), (.ref arr)] _
    refine st13 _ ?_
    show SS p e below m T13 80 #[vr a1, vr a2] [] _
    refine XS.aloadN X13.here hx rfl (hb hby d6_80) rfl rfl ?_
    show SS p e below m T13 81 #[vr a1, vr a2] [(.ref a1)] _
    refine st14 _ ?_
    show SS p e below m T14 84 #[vr a1, vr a2] [(.ref sto)] _
    refine XS.aloadN X14.here hx rfl (hb hby d6_84) rfl rfl ?_
    show SS p e below m T14 85 #[vr a1, vr a2] [(.ref a1), (.ref sto)] _
    refine st15 _ ?_
    show SS p e below m T15 88 #[vr a1, vr a2] [(.int n), (.ref sto)] _
    refine XS.iconst X15.here hx rfl (hb hby d6_88) ?_
    show SS p e below m T15 89 #[vr a1, vr a2] [(.int (1 : Int32)), (.int n), (.ref sto)] _
    refine XS.iadd X15.here hx rfl (hb hby d6_89) rfl ?_
    show SS p e below m T15 90 #[vr a1, vr a2] [(.int (n + (1 : Int32))), (.ref sto)] _
    refine st16 _ ?_
    show SS p e below m T16 93 #[vr a1, vr a2] [] _
    refine XS.aloadN X16.here hx rfl (hb hby d6_93) rfl rfl ?_
    show SS p e below m T16 94 #[vr a1, vr a2] [(.ref a1)] _
    refine XS.dup X16.here hx rfl (hb hby d6_94) rfl rfl ?_
    show SS p e below m T16 95 #[vr a1, vr a2] [(.ref a1), (.ref a1)] _
    refine st17 _ ?_
    show SS p e below m T17 98 #[vr a1, vr a2] [(.int n), (.ref a1)] _
    refine XS.iconst X17.here hx rfl (hb hby d6_98) ?_
    show SS p e below m T17 99 #[vr a1, vr a2] [(.int (1 : Int32)), (.int n), (.ref a1)] _
    refine XS.iadd X17.here hx rfl (hb hby d6_99) rfl ?_
    show SS p e below m T17 100 #[vr a1, vr a2] [(.int (n + (1 : Int32))), (.ref a1)] _
    refine st18 _ ?_
    show SS p e below m T18 103 #[vr a1, vr a2] [] _
    exact X18.returnOut hx Bd.returns (hb hby d6_103) hr
  · show Q_rmAddA Z a1 a2 sto n f arr k cap vs m' vs' h0 n0 _ T18.heap _
    rw [e18]
    exact ⟨rfl, N18, KC, F_store_a1, F_size_a1, F_filled_sto, F_items_sto, Vn13⟩
theorem pd_7 : parseMethodDescriptor "([Ljava/lang/Object;I)[Ljava/lang/Object;" = some ⟨[(.array (.object "java/lang/Object")), .int], some (.array (.object "java/lang/Object"))⟩ := by decide +kernel
theorem d6_29 : decode prog_112_method_5_code 29 = .ok (.aload_n 0, 1) := by decide +kernel
theorem d6_30 : decode prog_112_method_5_code 30 = .ok (.new 1, 3) := by decide +kernel
theorem d6_33 : decode prog_112_method_5_code 33 = .ok (.dup, 1) := by decide +kernel
theorem d6_34 : decode prog_112_method_5_code 34 = .ok (.aload_n 0, 1) := by decide +kernel
theorem d6_35 : decode prog_112_method_5_code 35 = .ok (.getfield 17, 3) := by decide +kernel
theorem d6_38 : decode prog_112_method_5_code 38 = .ok (.getfield 28, 3) := by decide +kernel
theorem d6_41 : decode prog_112_method_5_code 41 = .ok (.iconst 4, 1) := by decide +kernel
theorem d6_42 : decode prog_112_method_5_code 42 = .ok (.iconst 2, 1) := by decide +kernel
theorem d6_43 : decode prog_112_method_5_code 43 = .ok (.aload_n 0, 1) := by decide +kernel
theorem d6_44 : decode prog_112_method_5_code 44 = .ok (.getfield 21, 3) := by decide +kernel
theorem d6_47 : decode prog_112_method_5_code 47 = .ok (.imul, 1) := by decide +kernel
theorem d6_48 : decode prog_112_method_5_code 48 = .ok (.invokestatic 32, 3) := by decide +kernel
theorem d6_51 : decode prog_112_method_5_code 51 = .ok (.invokestatic 38, 3) := by decide +kernel
theorem d6_54 : decode prog_112_method_5_code 54 = .ok (.aload_n 0, 1) := by decide +kernel
theorem d6_55 : decode prog_112_method_5_code 55 = .ok (.getfield 21, 3) := by decide +kernel
theorem d6_58 : decode prog_112_method_5_code 58 = .ok (.invokespecial 7, 3) := by decide +kernel
theorem d6_61 : decode prog_112_method_5_code 61 = .ok (.putfield 17, 3) := by decide +kernel
theorem ef_rmAddB (m : MethodId) (x0 : Addr) (x1 : Addr) : entryFrame m #[(.ref x0), (.ref x1)] 2 = mkF m 0 #[vr x0, vr x1] [] := by first | (simp [entryFrame, mkF, argsToLocals, Value.category]; done) | rfl
def Q_rmAddB (Z : State) (a1 : Addr) (a2 : Addr) (sto : Addr) (n : Int32) (f : Int32) (arr : Addr) (k : ClassId) (cap : Int32) (vs : List Value) (mr : Addr) (pl : Int32) (nn : Int32) (vsc : List Value) (m' : Int32) (vs' : List Value) (h0 : Heap) (n0 : Nat) (v : Option Value) (h : Heap) (L : List Loc) : Prop := ∃ b : Addr, ∃ c : Addr, ∃ k2 : ClassId, (v = none) ∧ (Fr n0 L) ∧ (Keep h0 h [a1]) ∧ (h0.size ≤ b) ∧ (h0.size ≤ c) ∧ (Fld Z h a1 "com/example/brisk_tableau/brisktableau/tableau/SharedList" "store" "Lcom/example/brisk_tableau/brisktableau/tableau/SharedList$Store;" (.ref b)) ∧ (Fld Z h a1 "com/example/brisk_tableau/brisktableau/tableau/SharedList" "size" "I" (.int m')) ∧ (Exa Z h b "com/example/brisk_tableau/brisktableau/tableau/SharedList$Store") ∧ (Fld Z h b "com/example/brisk_tableau/brisktableau/tableau/SharedList$Store" "filled" "I" (.int m')) ∧ (Fld Z h b "com/example/brisk_tableau/brisktableau/tableau/SharedList$Store" "items" "[Ljava/lang/Object;" (.ref c)) ∧ (Exa Z h c "[Ljava/lang/Object;") ∧ (Arv Z h c k2 (.object "java/lang/Object") pl vs' .null) ∧ (Ovr Z k2 "java/lang/Object")
set_option maxRecDepth 65536 in
set_option maxHeartbeats 40000000 in
theorem rmAddB (l : Launch) (Z : State) (a0 : Array Value) (hw : ∀ d ∈ tables_1, d.before a0 Z = true) (ws : List Jvm.Cond) (a1 : Addr) (a2 : Addr) (sto : Addr) (n : Int32) (f : Int32) (arr : Addr) (k : ClassId) (cap : Int32) (vs : List Value) (mr : Addr) (pl : Int32) (nn : Int32) (vsc : List Value) (m' : Int32) (vs' : List Value) (h0 : Heap) (n0 : Nat) (Z0 : n0 ≤ h0.size) (O0 : Old Z n0 h0) (F_store_a1 : Fld Z h0 a1 "com/example/brisk_tableau/brisktableau/tableau/SharedList" "store" "Lcom/example/brisk_tableau/brisktableau/tableau/SharedList$Store;" (.ref sto)) (F_size_a1 : Fld Z h0 a1 "com/example/brisk_tableau/brisktableau/tableau/SharedList" "size" "I" (.int n)) (E_a1 : Exa Z h0 a1 "com/example/brisk_tableau/brisktableau/tableau/SharedList") (E_sto : Exa Z h0 sto "com/example/brisk_tableau/brisktableau/tableau/SharedList$Store") (F_filled_sto : Fld Z h0 sto "com/example/brisk_tableau/brisktableau/tableau/SharedList$Store" "filled" "I" (.int f)) (F_items_sto : Fld Z h0 sto "com/example/brisk_tableau/brisktableau/tableau/SharedList$Store" "items" "[Ljava/lang/Object;" (.ref arr)) (E_arr : Exa Z h0 arr "[Ljava/lang/Object;") (V_arr : Arv Z h0 arr k (.object "java/lang/Object") cap vs .null) (E_a2 : Exa Z h0 a2 "java/lang/Integer") (g_a1 : n0 ≤ a1) (MIR : own_Mir Z "[Ljava/lang/Object;" mr) (hcp : n < f ∨ n = cap) (hP : (if (4 : Int32) < ((2 : Int32) * n) then ((2 : Int32) * n) else (4 : Int32)) = pl) (hp1 : ¬ pl < 0) (hp2 : pl.toNatClampNeg ≤ 10) (hp3 : (if pl < cap then pl else cap) = nn) (hp4 : ¬ nn < 0) (hp5 : nn.toNatClampNeg ≤ cap.toNatClampNeg) (hp6 : nn.toNatClampNeg ≤ pl.toNatClampNeg) (hp7 : ((List.replicate 10 Value.null).take (0 : Int32).toNatClampNeg ++ ((List.range nn.toNatClampNeg).map fun i => vs.getD ((0 : Int32).toNatClampNeg + i) .null) ++ (List.replicate 10 Value.null).drop ((0 : Int32).toNatClampNeg + nn.toNatClampNeg)) = vsc) (EL : own_Els Z h0 vs) (hC : ¬ n < 0) (hD : n < pl) (hM : n + (1 : Int32) = m') (hV : vsc.set n.toNatClampNeg (.ref a2) = vs') (hL : n.toNatClampNeg < vsc.length) :
    MetFree l y_12 (head1 (Jvm.Cond.code y_12 prog_112_method_5_code 2 none :: ws) ({ frames := 3, cells := 2, slots := 12, locals := 49 } : Room)) (fun a U => a = #[(.ref a1), (.ref a2)] ∧ Z.Warmed39 U.vm ∧ U.heap = h0) (fun _ _ _ _ _ => True) (fun _ U o U' => ∃ v L, o = .returned v ∧ Q_rmAddB Z a1 a2 sto n f arr k cap vs mr pl nn vsc m' vs' h0 n0 v U'.heap L ∧ FrameEnd U o U' L ({ frames := 3, cells := 2, slots := 12, locals := 49 } : Room).cells ({ frames := 3, cells := 2, slots := 12, locals := 49 } : Room).slots) := by
  refine MetFree.of_bodySF (plainFor_of_name pn_1) hisR ?_
  intro p e s m args below meth c s₁ Bd hml0 hP hK
  obtain ⟨rfl, hZ, hh⟩ := hP
  have hx := Bd.exec
  have hby := Bd.bytes
  have hml : c.maxLocals = 2 := hml0
  have hown : s.vm.findClass "com/example/brisk_tableau/brisktableau/tableau/SharedList" = some m.cls := findClass_of_methodNamed Bd.named
  have hnm := (name_of_methodNamed Bd.named Bd.method).1
  have X0 : Stand p l e ({ frames := 3, cells := 2, slots := 12, locals := 49 } : Room) s m #[(.ref a1), (.ref a2)] below meth c s₁ [] 0 0 := Stand.of_body Bd
  have e0 : s₁.heap = h0 := by rw [← hh, Bd.state]; rfl
  have N0 := Fr.nil n0
  have KC : Keep h0 h0 [a1] := Keep.refl h0 _
  have pre0 : ∀ t, Steps p.tables e below (s₁.setTop (mkF m 0 #[vr a1, vr a2] [])) t → Steps p.tables e below (s₁.setTop (entryFrame m #[(.ref a1), (.ref a2)] 2)) t := fun t k => castTop (ef_rmAddB m a1 a2) k
  obtain ⟨T1, X1, e1, st1⟩ := getF X0 hx hZ hown (host := "") (Or.inl (ww hw 28 rfl)) Via.refl e0 F_size_a1 (g := (mkF m 1 #[vr a1, vr a2] [(.ref a1)])) rfl rfl (hb hby d6_1)
  obtain ⟨T2, X2, e2, st2⟩ := getF X1 hx hZ hown (host := "") (Or.inl (ww hw 26 rfl)) Via.refl e1 F_store_a1 (g := (mkF m 5 #[vr a1, vr a2] [(.ref a1), (.int n)])) rfl rfl (hb hby d6_5)
  have st3 := getFR X2 hx hZ hown (ww hw 42 rfl) e2 F_filled_sto (g := (mkF m 8 #[vr a1, vr a2] [(.ref sto), (.int n)])) rfl rfl (hb hby d6_8)
  have pre4 : ∀ t, Steps p.tables e below (T2.setTop (mkF m 11 #[vr a1, vr a2] [(.int f), (.int n)])) t → Steps p.tables e below (s₁.setTop (entryFrame m #[(.ref a1), (.ref a2)] 2)) t := by
    intro t kt
    refine pre0 t ?_
    show SS p e below m s₁ 0 #[vr a1, vr a2] [] _
    refine XS.aloadN X0.here hx rfl (hb hby d6_0) rfl rfl ?_
    show SS p e below m s₁ 1 #[vr a1, vr a2] [(.ref a1)] _
    refine st1 _ ?_
    show SS p e below m T1 4 #[vr a1, vr a2] [(.int n)] _
    refine XS.aloadN X1.here hx rfl (hb hby d6_4) rfl rfl ?_
    show SS p e below m T1 5 #[vr a1, vr a2] [(.ref a1), (.int n)] _
    refine st2 _ ?_
    show SS p e below m T2 8 #[vr a1, vr a2] [(.ref sto), (.int n)] _
    refine st3 _ ?_
    exact kt
  by_cases hc11_5 : n < f
  · obtain ⟨T6, h6, X6, e6, E6, A6, D6, -, st6⟩ := newO X2 hx hZ hown (ww hw 7 rfl) (ww hw 8 rfl) (ww hw 9 rfl) e2 (g := (mkF m 30 #[vr a1, vr a2] [(.ref a1)])) rfl (hb hby d6_30) (by decide) (by decide)
    obtain ⟨b6, g6⟩ : ∃ z, z = h0.size := ⟨_, rfl⟩
    rw [← g6] at A6 D6 st6
    have ne_a1_b6 : a1 ≠ b6 := Nat.ne_of_lt (Nat.lt_of_lt_of_le F_store_a1.lt (Nat.le_of_eq g6.symm))
    have ne_sto_b6 : sto ≠ b6 := Nat.ne_of_lt (Nat.lt_of_lt_of_le E_sto.lt (Nat.le_of_eq g6.symm))
    have ne_arr_b6 : arr ≠ b6 := Nat.ne_of_lt (Nat.lt_of_lt_of_le E_arr.lt (Nat.le_of_eq g6.symm))
    have ne_a2_b6 : a2 ≠ b6 := Nat.ne_of_lt (Nat.lt_of_lt_of_le E_a2.lt (Nat.le_of_eq g6.symm))
    have g_b6 : n0 ≤ b6 := Nat.le_trans (Nat.le_trans Z0 KC.1) (Nat.le_of_eq g6.symm)
    have sz_b6 : h0.size ≤ b6 := Nat.le_trans KC.1 (Nat.le_of_eq g6.symm)
    replace F_store_a1 := F_store_a1.ext E6
    replace F_size_a1 := F_size_a1.ext E6
    replace E_a1 := E_a1.ext E6
    replace E_sto := E_sto.ext E6
    replace F_filled_sto := F_filled_sto.ext E6
    replace F_items_sto := F_items_sto.ext E6
    replace E_arr := E_arr.ext E6
    replace V_arr := V_arr.ext E6
    replace E_a2 := E_a2.ext E6
    replace O0 := O0.ext E6
    replace KC := KC.ext E6
    have F_items_b6 : Fld Z h6 b6 "com/example/brisk_tableau/brisktableau/tableau/SharedList$Store" "items" "[Ljava/lang/Object;" .null := D6 (Or.inr (ww hw 19 rfl)) (ty := (.array (.object "java/lang/Object"))) (by decide)
    have F_filled_b6 : Fld Z h6 b6 "com/example/brisk_tableau/brisktableau/tableau/SharedList$Store" "filled" "I" (.int (0 : Int32)) := D6 (Or.inl (ww hw 21 rfl)) (ty := .int) (by decide)
    obtain ⟨T7, X7, e7, st7⟩ := getF X6 hx hZ hown (host := "") (Or.inl (ww hw 26 rfl)) Via.refl e6 F_store_a1 (g := (mkF m 35 #[vr a1, vr a2] [(.ref a1), (.ref b6), (.ref b6), (.ref a1)])) rfl rfl (hb hby d6_35)
    have st8 := getFR X7 hx hZ hown (ww hw 43 rfl) e7 F_items_sto (g := (mkF m 38 #[vr a1, vr a2] [(.ref sto), (.ref b6), (.ref b6), (.ref a1)])) rfl rfl (hb hby d6_38)
    obtain ⟨T9, X9, e9, st9⟩ := getF X7 hx hZ hown (host := "") (Or.inl (ww hw 28 rfl)) Via.refl e7 F_size_a1 (g := (mkF m 44 #[vr a1, vr a2] [(.ref a1), (.int (2 : Int32)), (.int (4 : Int32)), (.ref arr), (.ref b6), (.ref b6), (.ref a1)])) rfl rfl (hb hby d6_44)
    obtain ⟨_, _, ⟨T10, L10, kz10, nz10⟩, -, X10, ⟨Lc10, hQ10, l10, y10, z10⟩, st10⟩ := Jvm.LawKit.callS X9 hx (y := y_8) hown (mvT hZ (ww hw 109 rfl)) (mvT hZ (ww hw 110 rfl)) (mvT hZ (ww hw 111 rfl)) (mvT hZ (ww hw 112 rfl)) (by decide) (backOf (W := 4) (rmMx l Z a0 hw [] (4 : Int32) ((2 : Int32) * n) h6 n0 (Nat.le_trans Z0 KC.1) O0 ) hZ (ww hw 112 rfl) (ww hw 111 rfl) (by decide) (by decide)) (g := (mkF m 48 #[vr a1, vr a2] [(.int ((2 : Int32) * n)), (.int (4 : Int32)), (.ref arr), (.ref b6), (.ref b6), (.ref a1)])) rfl (by rw [hml]; rfl) (argsL := [(.int (4 : Int32)), (.int ((2 : Int32) * n))]) (rest := [(.ref arr), (.ref b6), (.ref b6), (.ref a1)]) (lenOf pd_4 rfl) rfl (by show 2 * 0 + _ ≤ _; exact Nat.le_of_eq rfl) (hb hby d6_48) (fun _ _ => ⟨rfl, e9, (by decide : 1 + 0 ≤ _), (by decide : 2 + 0 ≤ _)⟩)
    dsimp only [Pt.U, Pt.locs, Pt.cells, Pt.slots] at X10 l10 y10 z10 st10 hQ10
    subst l10 y10 z10
    obtain ⟨rfl, N10q, e10⟩ := hQ10
    have N10 := Fr.app N0 N10q
    have pre11 : ∀ t, Steps p.tables e below (T10.setTop (mkF m 51 #[vr a1, vr a2] [(.int (if (4 : Int32) < ((2 : Int32) * n) then ((2 : Int32) * n) else (4 : Int32))), (.ref arr), (.ref b6), (.ref b6), (.ref a1)])) t → Steps p.tables e below (s₁.setTop (entryFrame m #[(.ref a1), (.ref a2)] 2)) t := by
      intro t kt
      refine pre4 t ?_
      show SS p e below m T2 11 #[vr a1, vr a2] [(.int f), (.int n)] _
      refine XS.icmpYes X2.here hx rfl (pc0 := 11) (pc' := 29) rfl (hb hby d6_11) rfl (tlt hc11_5).1 (by decide) (by decide) ?_
      show SS p e below m T2 29 #[vr a1, vr a2] [] _
      refine XS.aloadN X2.here hx rfl (hb hby d6_29) rfl rfl ?_
      show SS p e below m T2 30 #[vr a1, vr a2] [(.ref a1)] _
      refine st6 _ ?_
      show SS p e below m T6 33 #[vr a1, vr a2] [(.ref b6), (.ref a1)] _
      refine XS.dup X6.here hx rfl (hb hby d6_33) rfl rfl ?_
      show SS p e below m T6 34 #[vr a1, vr a2] [(.ref b6), (.ref b6), (.ref a1)] _
      refine XS.aloadN X6.here hx rfl (hb hby d6_34) rfl rfl ?_
      show SS p e below m T6 35 #[vr a1, vr a2] [(.ref a1), (.ref b6), (.ref b6), (.ref a1)] _
      refine st7 _ ?_
      show SS p e below m T7 38 #[vr a1, vr a2] [(.ref sto), (.ref b6), (.ref b6), (.ref a1)] _
      refine st8 _ ?_
      show SS p e below m T7 41 #[vr a1, vr a2] [(.ref arr), (.ref b6), (.ref b6), (.ref a1)] _
      refine XS.iconst X7.here hx rfl (hb hby d6_41) ?_
      show SS p e below m T7 42 #[vr a1, vr a2] [(.int (4 : Int32)), (.ref arr), (.ref b6), (.ref b6), (.ref a1)] _
      refine XS.iconst X7.here hx rfl (hb hby d6_42) ?_
      show SS p e below m T7 43 #[vr a1, vr a2] [(.int (2 : Int32)), (.int (4 : Int32)), (.ref arr), (.ref b6), (.ref b6), (.ref a1)] _
      refine XS.aloadN X7.here hx rfl (hb hby d6_43) rfl rfl ?_
      show SS p e below m T7 44 #[vr a1, vr a2] [(.ref a1), (.int (2 : Int32)), (.int (4 : Int32)), (.ref arr), (.ref b6), (.ref b6), (.ref a1)] _
      refine st9 _ ?_
      show SS p e below m T9 47 #[vr a1, vr a2] [(.int n), (.int (2 : Int32)), (.int (4 : Int32)), (.ref arr), (.ref b6), (.ref b6), (.ref a1)] _
      refine XS.imul X9.here hx rfl (hb hby d6_47) rfl ?_
      show SS p e below m T9 48 #[vr a1, vr a2] [(.int ((2 : Int32) * n)), (.int (4 : Int32)), (.ref arr), (.ref b6), (.ref b6), (.ref a1)] _
      refine st10 _ ?_
      exact kt
    rw [hP] at pre11
    have EL1 := own_els_ext EL E6
    obtain ⟨_, _, ⟨T12, L12, kz12, nz12⟩, -, X12, ⟨Lc12, hQ12, l12, y12, z12⟩, st12⟩ := Jvm.LawKit.callS X10 hx (y := y_11) hown (mvT hZ (ww hw 113 rfl)) (mvT hZ (ww hw 114 rfl)) (mvT hZ (ww hw 115 rfl)) (mvT hZ (ww hw 116 rfl)) (by decide) (backOf (W := 3) (rmC2 l Z a0 hw [] arr pl mr k cap vs nn vsc h6 n0 (Nat.le_trans Z0 KC.1) O0 E_arr V_arr MIR hp1 hp2 hp3 hp4 hp5 hp6 hp7 EL1) hZ (ww hw 116 rfl) (ww hw 115 rfl) (by decide) (by decide)) (g := (mkF m 51 #[vr a1, vr a2] [(.int pl), (.ref arr), (.ref b6), (.ref b6), (.ref a1)])) rfl (by rw [hml]; rfl) (argsL := [(.ref arr), (.int pl)]) (rest := [(.ref b6), (.ref b6), (.ref a1)]) (lenOf pd_7 rfl) rfl (by show 2 * 0 + _ ≤ _; exact Nat.le_of_eq rfl) (hb hby d6_51) (fun _ _ => ⟨rfl, e10, (by decide : 1 + 1 ≤ _), (by decide : 2 + 10 ≤ _)⟩)
    dsimp only [Pt.U, Pt.locs, Pt.cells, Pt.slots] at X12 l12 y12 z12 st12 hQ12
    subst l12 y12 z12
    obtain ⟨b12_b, k2_12, rfl, N12q, K12, sz_b12_b, E_b_12, V_b_12, hq12_0⟩ := hQ12
    have N12 := Fr.app N10 N12q
    have ne_a1_b12_b : a1 ≠ b12_b := Nat.ne_of_lt (Nat.lt_of_lt_of_le F_store_a1.lt sz_b12_b)
    have ne_sto_b12_b : sto ≠ b12_b := Nat.ne_of_lt (Nat.lt_of_lt_of_le E_sto.lt sz_b12_b)
    have ne_arr_b12_b : arr ≠ b12_b := Nat.ne_of_lt (Nat.lt_of_lt_of_le E_arr.lt sz_b12_b)
    have ne_a2_b12_b : a2 ≠ b12_b := Nat.ne_of_lt (Nat.lt_of_lt_of_le E_a2.lt sz_b12_b)
    have ne_b6_b12_b : b6 ≠ b12_b := Nat.ne_of_lt (Nat.lt_of_lt_of_le A6.lt sz_b12_b)
    have g_b12_b : n0 ≤ b12_b := Nat.le_trans (Nat.le_trans Z0 KC.1) sz_b12_b
    replace sz_b12_b : h0.size ≤ b12_b := Nat.le_trans KC.1 sz_b12_b
    replace F_store_a1 := F_store_a1.keep K12 nin0
    replace F_size_a1 := F_size_a1.keep K12 nin0
    replace E_a1 := E_a1.keep K12
    replace E_sto := E_sto.keep K12
    replace F_filled_sto := F_filled_sto.keep K12 nin0
    replace F_items_sto := F_items_sto.keep K12 nin0
    replace E_arr := E_arr.keep K12
    replace V_arr := V_arr.keep K12 nin0
    replace E_a2 := E_a2.keep K12
    replace A6 := A6.keep K12
    replace F_items_b6 := F_items_b6.keep K12 nin0
    replace F_filled_b6 := F_filled_b6.keep K12 nin0
    replace O0 := O0.keep K12 all0
    replace KC := KC.trans K12 all0
    obtain ⟨T13, X13, e13, st13⟩ := getF X12 hx hZ hown (host := "") (Or.inl (ww hw 28 rfl)) Via.refl rfl F_size_a1 (g := (mkF m 55 #[vr a1, vr a2] [(.ref a1), (.ref b12_b), (.ref b6), (.ref b6), (.ref a1)])) rfl rfl (hb hby d6_55)
    obtain ⟨_, _, ⟨T14, L14, kz14, nz14⟩, -, X14, ⟨Lc14, hQ14, l14, y14, z14⟩, st14⟩ := X13.specialBack hx (y := y_0) rfl hown (mvT hZ (ww hw 12 rfl)) (mvT hZ (ww hw 13 rfl)) (mvT hZ (ww hw 14 rfl)) (by decide) (backOf (W := 2) (rmSt l Z a0 hw [] b6 b12_b n T12.heap n0 (Nat.le_trans Z0 KC.1) O0 F_items_b6 F_filled_b6 A6 g_b6) hZ (ww hw 14 rfl) (ww hw 9 rfl) (by decide) (by decide)) (g := (mkF m 58 #[vr a1, vr a2] [(.int n), (.ref b12_b), (.ref b6), (.ref b6), (.ref a1)])) rfl (by rw [hml]; rfl) (Steps.refl _) (a := b6) (argsL := [(.ref b12_b), (.int n)]) (rest := [(.ref b6), (.ref a1)]) (lenOf pd_0 rfl) rfl (by show 2 * 0 + _ ≤ _; exact Nat.le_of_eq rfl) (hb hby d6_58) (fun _ _ => ⟨rfl, e13, (by decide : 2 + 0 ≤ _), (by decide : 12 + 0 ≤ _)⟩)
    dsimp only [Pt.U, Pt.locs, Pt.cells, Pt.slots] at X14 l14 y14 z14 st14 hQ14
    subst l14 y14 z14
    obtain ⟨rfl, N14q, K14, F_items_a1_14, F_filled_a1_14⟩ := hQ14
    have N14 := Fr.app N12 N14q
    replace F_store_a1 := F_store_a1.keep K14 (ninS ne_a1_b6 nin0)
    replace F_size_a1 := F_size_a1.keep K14 (ninS ne_a1_b6 nin0)
    replace E_a1 := E_a1.keep K14
    replace E_sto := E_sto.keep K14
    replace F_filled_sto := F_filled_sto.keep K14 (ninS ne_sto_b6 nin0)
    replace F_items_sto := F_items_sto.keep K14 (ninS ne_sto_b6 nin0)
    replace E_arr := E_arr.keep K14
    replace V_arr := V_arr.keep K14 (ninS ne_arr_b6 nin0)
    replace E_a2 := E_a2.keep K14
    replace A6 := A6.keep K14
    replace E_b_12 := E_b_12.keep K14
    replace V_b_12 := V_b_12.keep K14 (ninS (Ne.symm ne_b6_b12_b) nin0)
    replace O0 := O0.keep K14 (allS g_b6 all0)
    replace KC := KC.trans K14 (allS (Or.inr sz_b6) all0)
    obtain ⟨T15, h15, X15, e15, W15, st15⟩ := putF X14 hx hZ hown (host := "") (Or.inl (ww hw 26 rfl)) Via.refl rfl F_store_a1 E_a1 (Or.inl (ww hw 27 rfl)) (ww hw 2 rfl) (ty := (.object "com/example/brisk_tableau/brisktableau/tableau/SharedList$Store")) (by decide) rfl rfl (g := (mkF m 61 #[vr a1, vr a2] [(.ref b6), (.ref a1)])) rfl rfl (hb hby d6_61)
    have N15 := Fr.snoc X15 N14 g_a1
    replace F_store_a1 := F_store_a1.same W15
    have nec_sto_a1 : sto ≠ a1 := Exa.ne E_sto E_a1 (by decide)
    have nec_arr_a1 : arr ≠ a1 := Exa.ne E_arr E_a1 (by decide)
    replace F_size_a1 := F_size_a1.other W15 (Or.inr (slot_ne (Or.inl (ww hw 29 rfl)) (Or.inl (ww hw 27 rfl)) (by decide) (t := .int) (t' := (.object "com/example/brisk_tableau/brisktableau/tableau/SharedList$Store")) (by decide) (by decide)))
    replace E_a1 := E_a1.wr W15
    replace E_sto := E_sto.wr W15
    replace F_filled_sto := F_filled_sto.other W15 (Or.inl nec_sto_a1)
    replace F_items_sto := F_items_sto.other W15 (Or.inl nec_sto_a1)
    replace E_arr := E_arr.wr W15
    replace V_arr := V_arr.other W15 nec_arr_a1
    replace E_a2 := E_a2.wr W15
    replace A6 := A6.wr W15
    replace E_b_12 := E_b_12.wr W15
    replace V_b_12 := V_b_12.other W15 (Ne.symm ne_a1_b12_b)
    replace F_items_a1_14 := F_items_a1_14.other W15 (Or.inl (Ne.symm ne_a1_b6))
    replace F_filled_a1_14 := F_filled_a1_14.other W15 (Or.inl (Ne.symm ne_a1_b6))
    replace O0 := O0.wr W15 g_a1
    replace KC := KC.wr W15 (Or.inl (List.mem_of_getElem? (i := 0) rfl))
    obtain ⟨T16, X16, e16, st16⟩ := getF X15 hx hZ hown (host := "") (Or.inl (ww hw 26 rfl)) Via.refl e15 F_store_a1 (g := (mkF m 65 #[vr a1, vr a2] [(.ref a1)])) rfl rfl (hb hby d6_65)
    have st17 := getFR X16 hx hZ hown (ww hw 43 rfl) e16 F_items_a1_14 (g := (mkF m 68 #[vr a1, vr a2] [(.ref b6)])) rfl rfl (hb hby d6_68)
    obtain ⟨T18, X18, e18, st18⟩ := getF X16 hx hZ hown (host := "") (Or.inl (ww hw 28 rfl)) Via.refl e16 F_size_a1 (g := (mkF m 72 #[vr a1, vr a2] [(.ref a1), (.ref b12_b)])) rfl rfl (hb hby d6_72)
    obtain ⟨_, _, ⟨T19, L19, kz19, nz19⟩, -, X19, ⟨Lc19, hQ19, l19, y19, z19⟩, st19⟩ := Jvm.LawKit.callS X18 hx (y := y_7) hown (mvT hZ (ww hw 44 rfl)) (mvT hZ (ww hw 45 rfl)) (mvT hZ (ww hw 46 rfl)) (mvT hZ (ww hw 47 rfl)) (by decide) (backOf (W := 2) (rmRn l Z a0 hw [] a2 h15 n0 (Nat.le_trans Z0 KC.1) O0 ) hZ (ww hw 47 rfl) (ww hw 46 rfl) (by decide) (by decide)) (g := (mkF m 76 #[vr a1, vr a2] [(.ref a2), (.int n), (.ref b12_b)])) rfl (by rw [hml]; rfl) (argsL := [(.ref a2)]) (rest := [(.int n), (.ref b12_b)]) (lenOf pd_6 rfl) rfl (by show 2 * 0 + _ ≤ _; exact Nat.le_of_eq rfl) (hb hby d6_76) (fun _ _ => ⟨rfl, e18, (by decide : 2 + 0 ≤ _), (by decide : 12 + 0 ≤ _)⟩)
    dsimp only [Pt.U, Pt.locs, Pt.cells, Pt.slots] at X19 l19 y19 z19 st19 hQ19
    subst l19 y19 z19
    obtain ⟨rfl, N19q, e19⟩ := hQ19
    have N19 := Fr.app N15 N19q
    have Vo20 := V_b_12
    obtain ⟨cl20, Ar20, q20, Sz20, Nn20, Hh20, Gg20⟩ := Vo20
    have hin20 : ¬ (n < 0 ∨ cl20.slots.size ≤ (n).toNatClampNeg) := inb_of Sz20 ⟨hC, hD⟩
    obtain ⟨T21, h21, X21, e21, W21, st21⟩ := stR X19 hx hZ e19 Ar20 (j := n) hin20 rfl (Sto.ofV Ar20 q20 hq12_0 (Ins.of_exa E_a2 (ww hw 48 rfl))) (g := (mkF m 79 #[vr a1, vr a2] [(.ref a2), (.int n), (.ref b12_b)])) rfl rfl (hb hby d6_79)
    have Vn21 := Arv.set Ar20 q20 Sz20 Nn20 Hh20 Gg20 rfl W21 (n.toNatClampNeg) rfl hL
    have N21 := Fr.snoc X21 N19 g_b12_b
    replace F_store_a1 := F_store_a1.other W21 (Or.inl ne_a1_b12_b)
    replace F_size_a1 := F_size_a1.other W21 (Or.inl ne_a1_b12_b)
    replace E_a1 := E_a1.wr W21
    replace E_sto := E_sto.wr W21
    replace F_filled_sto := F_filled_sto.other W21 (Or.inl ne_sto_b12_b)
    replace F_items_sto := F_items_sto.other W21 (Or.inl ne_sto_b12_b)
    replace E_arr := E_arr.wr W21
    replace V_arr := V_arr.other W21 ne_arr_b12_b
    replace E_a2 := E_a2.wr W21
    replace A6 := A6.wr W21
    replace E_b_12 := E_b_12.wr W21
    replace F_items_a1_14 := F_items_a1_14.other W21 (Or.inl ne_b6_b12_b)
    replace F_filled_a1_14 := F_filled_a1_14.other W21 (Or.inl ne_b6_b12_b)
    replace O0 := O0.wr W21 g_b12_b
    replace KC := KC.wr W21 (Or.inr sz_b12_b)
    obtain ⟨T22, X22, e22, st22⟩ := getF X21 hx hZ hown (host := "") (Or.inl (ww hw 26 rfl)) Via.refl e21 F_store_a1 (g := (mkF m 81 #[vr a1, vr a2] [(.ref a1)])) rfl rfl (hb hby d6_81)
    obtain ⟨T23, X23, e23, st23⟩ := getF X22 hx hZ hown (host := "") (Or.inl (ww hw 28 rfl)) Via.refl e22 F_size_a1 (g := (mkF m 85 #[vr a1, vr a2] [(.ref a1), (.ref b6)])) rfl rfl (hb hby d6_85)
    obtain ⟨T24, h24, X24, e24, W24, st24⟩ := putFR X23 hx hZ hown (ww hw 42 rfl) e23 F_filled_a1_14 A6 (ww hw 21 rfl) (ww hw 8 rfl) (ty := .int) (by decide) rfl rfl (g := (mkF m 90 #[vr a1, vr a2] [(.int (n + (1 : Int32))), (.ref b6)])) rfl rfl (hb hby d6_90)
    have N24 := Fr.snoc X24 N21 g_b6
    replace F_filled_a1_14 := F_filled_a1_14.same W24
    replace F_store_a1 := F_store_a1.other W24 (Or.inl ne_a1_b6)
    replace F_size_a1 := F_size_a1.other W24 (Or.inl ne_a1_b6)
    replace E_a1 := E_a1.wr W24
    replace E_sto := E_sto.wr W24
    replace F_filled_sto := F_filled_sto.other W24 (Or.inl ne_sto_b6)
    replace F_items_sto := F_items_sto.other W24 (Or.inl ne_sto_b6)
    replace E_arr := E_arr.wr W24
    replace V_arr := V_arr.other W24 ne_arr_b6
    replace E_a2 := E_a2.wr W24
    replace A6 := A6.wr W24
    replace E_b_12 := E_b_12.wr W24
    replace F_items_a1_14 := F_items_a1_14.other W24 (Or.inr (slot_ne (Or.inr (ww hw 19 rfl)) (Or.inl (ww hw 21 rfl)) (by decide) (t := (.array (.object "java/lang/Object"))) (t' := .int) (by decide) (by decide)))
    replace Vn21 := Vn21.other W24 (Ne.symm ne_b6_b12_b)
    replace O0 := O0.wr W24 g_b6
    replace KC := KC.wr W24 (Or.inr sz_b6)
    obtain ⟨T25, X25, e25, st25⟩ := getF X24 hx hZ hown (host := "") (Or.inl (ww hw 28 rfl)) Via.refl e24 F_size_a1 (g := (mkF m 95 #[vr a1, vr a2] [(.ref a1), (.ref a1)])) rfl rfl (hb hby d6_95)
    obtain ⟨T26, h26, X26, e26, W26, st26⟩ := putF X25 hx hZ hown (host := "") (Or.inl (ww hw 28 rfl)) Via.refl e25 F_size_a1 E_a1 (Or.inl (ww hw 29 rfl)) (ww hw 2 rfl) (ty := .int) (by decide) rfl rfl (g := (mkF m 100 #[vr a1, vr a2] [(.int (n + (1 : Int32))), (.ref a1)])) rfl rfl (hb hby d6_100)
    have N26 := Fr.snoc X26 N24 g_a1
    replace F_size_a1 := F_size_a1.same W26
    replace F_store_a1 := F_store_a1.other W26 (Or.inr (slot_ne (Or.inl (ww hw 27 rfl)) (Or.inl (ww hw 29 rfl)) (by decide) (t := (.object "com/example/brisk_tableau/brisktableau/tableau/SharedList$Store")) (t' := .int) (by decide) (by decide)))
    replace E_a1 := E_a1.wr W26
    replace E_sto := E_sto.wr W26
    replace F_filled_sto := F_filled_sto.other W26 (Or.inl nec_sto_a1)
    replace F_items_sto := F_items_sto.other W26 (Or.inl nec_sto_a1)
    replace E_arr := E_arr.wr W26
    replace V_arr := V_arr.other W26 nec_arr_a1
    replace E_a2 := E_a2.wr W26
    replace A6 := A6.wr W26
    replace E_b_12 := E_b_12.wr W26
    replace F_items_a1_14 := F_items_a1_14.other W26 (Or.inl (Ne.symm ne_a1_b6))
    replace F_filled_a1_14 := F_filled_a1_14.other W26 (Or.inl (Ne.symm ne_a1_b6))
    replace Vn21 := Vn21.other W26 (Ne.symm ne_a1_b12_b)
    replace O0 := O0.wr W26 g_a1
    replace KC := KC.wr W26 (Or.inl (List.mem_of_getElem? (i := 0) rfl))
    rw [hM] at F_size_a1
    rw [hM] at F_filled_a1_14
    rw [hV] at Vn21
    obtain ⟨fs, hr, hrun, hended, hW, hsame⟩ := X26.leave (v := none) (fun _ => rfl)
    refine ⟨_, _, pre11 _ ?_, hrun, hended, _, _, rfl, ?_, ⟨_, rfl⟩, hW, hsame.mono (by decide) (by decide)⟩
    · show SS p e below m T10 51 #[vr a1, vr a2] [(.int pl), (.ref arr), (.ref b6), (.ref b6), (.ref a1)] _
      refine st12 _ ?_
      show SS p e below m T12 54 #[vr a1, vr a2] [(.ref b12_b), (.ref b6), (.ref b6), (.ref a1)] _
      refine XS.aloadN X12.here hx rfl (hb hby d6_54) rfl rfl ?_
      show SS p e below m T12 55 #[vr a1, vr a2] [(.ref a1), (.ref b12_b), (.ref b6), (.ref b6), (.ref a1)] _
      refine st13 _ ?_
      show SS p e below m T13 58 #[vr a1, vr a2] [(.int n), (.ref b12_b), (.ref b6), (.ref b6), (.ref a1)] _
      refine st14.trans ?_
      show SS p e below m T14 61 #[vr a1, vr a2] [(.ref b6), (.ref a1)] _
      refine st15 _ ?_
      show SS p e below m T15 64 #[vr a1, vr a2] [] _
      refine XS.aloadN X15.here hx rfl (hb hby d6_64) rfl rfl ?_
      show SS p e below m T15 65 #[vr a1, vr a2] [(.ref a1)] _
      refine st16 _ ?_
      show SS p e below m T16 68 #[vr a1, vr a2] [(.ref b6)] _
      refine st17 _ ?_
      show SS p e below m T16 71 #[vr a1, vr a2] [(.ref b12_b)] _
      refine XS.aloadN X16.here hx rfl (hb hby d6_71) rfl rfl ?_
      show SS p e below m T16 72 #[vr a1, vr a2] [(.ref a1), (.ref b12_b)] _
      refine st18 _ ?_
      show SS p e below m T18 75 #[vr a1, vr a2] [(.int n), (.ref b12_b)] _
      refine XS.aloadN X18.here hx rfl (hb hby d6_75) rfl rfl ?_
      show SS p e below m T18 76 #[vr a1, vr a2] [(.ref a2), (.int n), (.ref b12_b)] _
      refine st19 _ ?_
      show SS p e below m T19 79 #[vr a1, vr a2] [(.ref a2), (.int n), (.ref b12_b)] _
      refine st21 _ ?_
      show SS p e below m T21 80 #[vr a1, vr a2] [] _
      refine XS.aloadN X21.here hx rfl (hb hby d6_80) rfl rfl ?_
      show SS p e below m T21 81 #[vr a1, vr a2] [(.ref a1)] _
      refine st22 _ ?_
      show SS p e below m T22 84 #[vr a1, vr a2] [(.ref b6)] _
      refine XS.aloadN X22.here hx rfl (hb hby d6_84) rfl rfl ?_
      show SS p e below m T22 85 #[vr a1, vr a2] [(.ref a1), (.ref b6)] _
      refine st23 _ ?_
      show SS p e below m T23 88 #[vr a1, vr a2] [(.int n), (.ref b6)] _
      refine XS.iconst X23.here hx rfl (hb hby d6_88) ?_
      show SS p e below m T23 89 #[vr a1, vr a2] [(.int (1 : Int32)), (.int n), (.ref b6)] _
      refine XS.iadd X23.here hx rfl (hb hby d6_89) rfl ?_
      show SS p e below m T23 90 #[vr a1, vr a2] [(.int (n + (1 : Int32))), (.ref b6)] _
      refine st24 _ ?_
      show SS p e below m T24 93 #[vr a1, vr a2] [] _
      refine XS.aloadN X24.here hx rfl (hb hby d6_93) rfl rfl ?_
      show SS p e below m T24 94 #[vr a1, vr a2] [(.ref a1)] _
      refine XS.dup X24.here hx rfl (hb hby d6_94) rfl rfl ?_
      show SS p e below m T24 95 #[vr a1, vr a2] [(.ref a1), (.ref a1)] _
      refine st25 _ ?_
      show SS p e below m T25 98 #[vr a1, vr a2] [(.int n), (.ref a1)] _
      refine XS.iconst X25.here hx rfl (hb hby d6_98) ?_
      show SS p e below m T25 99 #[vr a1, vr a2] [(.int (1 : Int32)), (.int n), (.ref a1)] _
      refine XS.iadd X25.here hx rfl (hb hby d6_99) rfl ?_
      show SS p e below m T25 100 #[vr a1, vr a2] [(.int (n + (1 : Int32))), (.ref a1)] _
      refine st26 _ ?_
      show SS p e below m T26 103 #[vr a1, vr a2] [] _
      exact X26.returnOut hx Bd.returns (hb hby d6_103) hr
    · show Q_rmAddB Z a1 a2 sto n f arr k cap vs mr pl nn vsc m' vs' h0 n0 _ T26.heap _
      rw [e26]
      exact ⟨b6, b12_b, k2_12, rfl, N26, KC, sz_b6, sz_b12_b, F_store_a1, F_size_a1, A6, F_filled_a1_14, F_items_a1_14, E_b_12, Vn21, hq12_0⟩
  · obtain ⟨T27, X27, e27, st27⟩ := getF X2 hx hZ hown (host := "") (Or.inl (ww hw 28 rfl)) Via.refl e2 F_size_a1 (g := (mkF m 15 #[vr a1, vr a2] [(.ref a1)])) rfl rfl (hb hby d6_15)
    obtain ⟨T28, X28, e28, st28⟩ := getF X27 hx hZ hown (host := "") (Or.inl (ww hw 26 rfl)) Via.refl e27 F_store_a1 (g := (mkF m 19 #[vr a1, vr a2] [(.ref a1), (.int n)])) rfl rfl (hb hby d6_19)
    have st29 := getFR X28 hx hZ hown (ww hw 43 rfl) e28 F_items_sto (g := (mkF m 22 #[vr a1, vr a2] [(.ref sto), (.int n)])) rfl rfl (hb hby d6_22)
    have Vo30 := V_arr
    obtain ⟨cl30, Ar30, -, Sz30, Nn30, -, -⟩ := Vo30
    have ia30 := State.isArrayOf_alike hZ.alike Ar30.2.1
    obtain ⟨T31, h31, X31, e31, E31, A31, D31, -, st31⟩ := newO X28 hx hZ hown (ww hw 7 rfl) (ww hw 8 rfl) (ww hw 9 rfl) e28 (g := (mkF m 30 #[vr a1, vr a2] [(.ref a1)])) rfl (hb hby d6_30) (by decide) (by decide)
    obtain ⟨b31, g31⟩ : ∃ z, z = h0.size := ⟨_, rfl⟩
    rw [← g31] at A31 D31 st31
    have ne_a1_b31 : a1 ≠ b31 := Nat.ne_of_lt (Nat.lt_of_lt_of_le F_store_a1.lt (Nat.le_of_eq g31.symm))
    have ne_sto_b31 : sto ≠ b31 := Nat.ne_of_lt (Nat.lt_of_lt_of_le E_sto.lt (Nat.le_of_eq g31.symm))
    have ne_arr_b31 : arr ≠ b31 := Nat.ne_of_lt (Nat.lt_of_lt_of_le E_arr.lt (Nat.le_of_eq g31.symm))
    have ne_a2_b31 : a2 ≠ b31 := Nat.ne_of_lt (Nat.lt_of_lt_of_le E_a2.lt (Nat.le_of_eq g31.symm))
    have g_b31 : n0 ≤ b31 := Nat.le_trans (Nat.le_trans Z0 KC.1) (Nat.le_of_eq g31.symm)
    have sz_b31 : h0.size ≤ b31 := Nat.le_trans KC.1 (Nat.le_of_eq g31.symm)
    replace F_store_a1 := F_store_a1.ext E31
    replace F_size_a1 := F_size_a1.ext E31
    replace E_a1 := E_a1.ext E31
    replace E_sto := E_sto.ext E31
    replace F_filled_sto := F_filled_sto.ext E31
    replace F_items_sto := F_items_sto.ext E31
    replace E_arr := E_arr.ext E31
    replace V_arr := V_arr.ext E31
    replace E_a2 := E_a2.ext E31
    replace O0 := O0.ext E31
    replace KC := KC.ext E31
    have F_items_b31 : Fld Z h31 b31 "com/example/brisk_tableau/brisktableau/tableau/SharedList$Store" "items" "[Ljava/lang/Object;" .null := D31 (Or.inr (ww hw 19 rfl)) (ty := (.array (.object "java/lang/Object"))) (by decide)
    have F_filled_b31 : Fld Z h31 b31 "com/example/brisk_tableau/brisktableau/tableau/SharedList$Store" "filled" "I" (.int (0 : Int32)) := D31 (Or.inl (ww hw 21 rfl)) (ty := .int) (by decide)
    obtain ⟨T32, X32, e32, st32⟩ := getF X31 hx hZ hown (host := "") (Or.inl (ww hw 26 rfl)) Via.refl e31 F_store_a1 (g := (mkF m 35 #[vr a1, vr a2] [(.ref a1), (.ref b31), (.ref b31), (.ref a1)])) rfl rfl (hb hby d6_35)
    have st33 := getFR X32 hx hZ hown (ww hw 43 rfl) e32 F_items_sto (g := (mkF m 38 #[vr a1, vr a2] [(.ref sto), (.ref b31), (.ref b31), (.ref a1)])) rfl rfl (hb hby d6_38)
    obtain ⟨T34, X34, e34, st34⟩ := getF X32 hx hZ hown (host := "") (Or.inl (ww hw 28 rfl)) Via.refl e32 F_size_a1 (g := (mkF m 44 #[vr a1, vr a2] [(.ref a1), (.int (2 : Int32)), (.int (4 : Int32)), (.ref arr), (.ref b31), (.ref b31), (.ref a1)])) rfl rfl (hb hby d6_44)
    obtain ⟨_, _, ⟨T35, L35, kz35, nz35⟩, -, X35, ⟨Lc35, hQ35, l35, y35, z35⟩, st35⟩ := Jvm.LawKit.callS X34 hx (y := y_8) hown (mvT hZ (ww hw 109 rfl)) (mvT hZ (ww hw 110 rfl)) (mvT hZ (ww hw 111 rfl)) (mvT hZ (ww hw 112 rfl)) (by decide) (backOf (W := 4) (rmMx l Z a0 hw [] (4 : Int32) ((2 : Int32) * n) h31 n0 (Nat.le_trans Z0 KC.1) O0 ) hZ (ww hw 112 rfl) (ww hw 111 rfl) (by decide) (by decide)) (g := (mkF m 48 #[vr a1, vr a2] [(.int ((2 : Int32) * n)), (.int (4 : Int32)), (.ref arr), (.ref b31), (.ref b31), (.ref a1)])) rfl (by rw [hml]; rfl) (argsL := [(.int (4 : Int32)), (.int ((2 : Int32) * n))]) (rest := [(.ref arr), (.ref b31), (.ref b31), (.ref a1)]) (lenOf pd_4 rfl) rfl (by show 2 * 0 + _ ≤ _; exact Nat.le_of_eq rfl) (hb hby d6_48) (fun _ _ => ⟨rfl, e34, (by decide : 1 + 0 ≤ _), (by decide : 2 + 0 ≤ _)⟩)
    dsimp only [Pt.U, Pt.locs, Pt.cells, Pt.slots] at X35 l35 y35 z35 st35 hQ35
    subst l35 y35 z35
    obtain ⟨rfl, N35q, e35⟩ := hQ35
    have N35 := Fr.app N0 N35q
    have pre36 : ∀ t, Steps p.tables e below (T35.setTop (mkF m 51 #[vr a1, vr a2] [(.int (if (4 : Int32) < ((2 : Int32) * n) then ((2 : Int32) * n) else (4 : Int32))), (.ref arr), (.ref b31), (.ref b31), (.ref a1)])) t → Steps p.tables e below (s₁.setTop (entryFrame m #[(.ref a1), (.ref a2)] 2)) t := by
      intro t kt
      refine pre4 t ?_
      show SS p e below m T2 11 #[vr a1, vr a2] [(.int f), (.int n)] _
      refine XS.icmpNo X2.here hx rfl (hb hby d6_11) rfl (flt hc11_5).1 ?_
      show SS p e below m T2 14 #[vr a1, vr a2] [] _
      refine XS.aloadN X2.here hx rfl (hb hby d6_14) rfl rfl ?_
      show SS p e below m T2 15 #[vr a1, vr a2] [(.ref a1)] _
      refine st27 _ ?_
      show SS p e below m T27 18 #[vr a1, vr a2] [(.int n)] _
      refine XS.aloadN X27.here hx rfl (hb hby d6_18) rfl rfl ?_
      show SS p e below m T27 19 #[vr a1, vr a2] [(.ref a1), (.int n)] _
      refine st28 _ ?_
      show SS p e below m T28 22 #[vr a1, vr a2] [(.ref sto), (.int n)] _
      refine st29 _ ?_
      show SS p e below m T28 25 #[vr a1, vr a2] [(.ref arr), (.int n)] _
      refine X28.arraylength hx (by rw [e28]; exact Ar30.1) ia30 (g := (mkF m 25 #[vr a1, vr a2] [(.ref arr), (.int n)])) rfl rfl (hb hby d6_25) _ ?_
      rw [len_of Sz30 Nn30]
      show SS p e below m T28 26 #[vr a1, vr a2] [(.int cap), (.int n)] _
      refine XS.icmpNo X28.here hx rfl (hb hby d6_26) rfl (teq (hcp.resolve_left hc11_5)).2 ?_
      show SS p e below m T28 29 #[vr a1, vr a2] [] _
      refine XS.aloadN X28.here hx rfl (hb hby d6_29) rfl rfl ?_
      show SS p e below m T28 30 #[vr a1, vr a2] [(.ref a1)] _
      refine st31 _ ?_
      show SS p e below m T31 33 #[vr a1, vr a2] [(.ref b31), (.ref a1)] _
      refine XS.dup X31.here hx rfl (hb hby d6_33) rfl rfl ?_
      show SS p e below m T31 34 #[vr a1, vr a2] [(.ref b31), (.ref b31), (.ref a1)] _
      refine XS.aloadN X31.here hx rfl (hb hby d6_34) rfl rfl ?_
      show SS p e below m T31 35 #[vr a1, vr a2] [(.ref a1), (.ref b31), (.ref b31), (.ref a1)] _
      refine st32 _ ?_
      show SS p e below m T32 38 #[vr a1, vr a2] [(.ref sto), (.ref b31), (.ref b31), (.ref a1)] _
      refine st33 _ ?_
      show SS p e below m T32 41 #[vr a1, vr a2] [(.ref arr), (.ref b31), (.ref b31), (.ref a1)] _
      refine XS.iconst X32.here hx rfl (hb hby d6_41) ?_
      show SS p e below m T32 42 #[vr a1, vr a2] [(.int (4 : Int32)), (.ref arr), (.ref b31), (.ref b31), (.ref a1)] _
      refine XS.iconst X32.here hx rfl (hb hby d6_42) ?_
      show SS p e below m T32 43 #[vr a1, vr a2] [(.int (2 : Int32)), (.int (4 : Int32)), (.ref arr), (.ref b31), (.ref b31), (.ref a1)] _
      refine XS.aloadN X32.here hx rfl (hb hby d6_43) rfl rfl ?_
      show SS p e below m T32 44 #[vr a1, vr a2] [(.ref a1), (.int (2 : Int32)), (.int (4 : Int32)), (.ref arr), (.ref b31), (.ref b31), (.ref a1)] _
      refine st34 _ ?_
      show SS p e below m T34 47 #[vr a1, vr a2] [(.int n), (.int (2 : Int32)), (.int (4 : Int32)), (.ref arr), (.ref b31), (.ref b31), (.ref a1)] _
      refine XS.imul X34.here hx rfl (hb hby d6_47) rfl ?_
      show SS p e below m T34 48 #[vr a1, vr a2] [(.int ((2 : Int32) * n)), (.int (4 : Int32)), (.ref arr), (.ref b31), (.ref b31), (.ref a1)] _
      refine st35 _ ?_
      exact kt
    rw [hP] at pre36
    have EL1 := own_els_ext EL E31
    obtain ⟨_, _, ⟨T37, L37, kz37, nz37⟩, -, X37, ⟨Lc37, hQ37, l37, y37, z37⟩, st37⟩ := Jvm.LawKit.callS X35 hx (y := y_11) hown (mvT hZ (ww hw 113 rfl)) (mvT hZ (ww hw 114 rfl)) (mvT hZ (ww hw 115 rfl)) (mvT hZ (ww hw 116 rfl)) (by decide) (backOf (W := 3) (rmC2 l Z a0 hw [] arr pl mr k cap vs nn vsc h31 n0 (Nat.le_trans Z0 KC.1) O0 E_arr V_arr MIR hp1 hp2 hp3 hp4 hp5 hp6 hp7 EL1) hZ (ww hw 116 rfl) (ww hw 115 rfl) (by decide) (by decide)) (g := (mkF m 51 #[vr a1, vr a2] [(.int pl), (.ref arr), (.ref b31), (.ref b31), (.ref a1)])) rfl (by rw [hml]; rfl) (argsL := [(.ref arr), (.int pl)]) (rest := [(.ref b31), (.ref b31), (.ref a1)]) (lenOf pd_7 rfl) rfl (by show 2 * 0 + _ ≤ _; exact Nat.le_of_eq rfl) (hb hby d6_51) (fun _ _ => ⟨rfl, e35, (by decide : 1 + 1 ≤ _), (by decide : 2 + 10 ≤ _)⟩)
    dsimp only [Pt.U, Pt.locs, Pt.cells, Pt.slots] at X37 l37 y37 z37 st37 hQ37
    subst l37 y37 z37
    obtain ⟨b37_b, k2_37, rfl, N37q, K37, sz_b37_b, E_b_37, V_b_37, hq37_0⟩ := hQ37
    have N37 := Fr.app N35 N37q
    have ne_a1_b37_b : a1 ≠ b37_b := Nat.ne_of_lt (Nat.lt_of_lt_of_le F_store_a1.lt sz_b37_b)
    have ne_sto_b37_b : sto ≠ b37_b := Nat.ne_of_lt (Nat.lt_of_lt_of_le E_sto.lt sz_b37_b)
    have ne_arr_b37_b : arr ≠ b37_b := Nat.ne_of_lt (Nat.lt_of_lt_of_le E_arr.lt sz_b37_b)
    have ne_a2_b37_b : a2 ≠ b37_b := Nat.ne_of_lt (Nat.lt_of_lt_of_le E_a2.lt sz_b37_b)
    have ne_b31_b37_b : b31 ≠ b37_b := Nat.ne_of_lt (Nat.lt_of_lt_of_le A31.lt sz_b37_b)
    have g_b37_b : n0 ≤ b37_b := Nat.le_trans (Nat.le_trans Z0 KC.1) sz_b37_b
    replace sz_b37_b : h0.size ≤ b37_b := Nat.le_trans KC.1 sz_b37_b
    replace F_store_a1 := F_store_a1.keep K37 nin0
    replace F_size_a1 := F_size_a1.keep K37 nin0
    replace E_a1 := E_a1.keep K37
    replace E_sto := E_sto.keep K37
    replace F_filled_sto := F_filled_sto.keep K37 nin0
    replace F_items_sto := F_items_sto.keep K37 nin0
    replace E_arr := E_arr.keep K37
    replace V_arr := V_arr.keep K37 nin0
    replace E_a2 := E_a2.keep K37
    replace A31 := A31.keep K37
    replace F_items_b31 := F_items_b31.keep K37 nin0
    replace F_filled_b31 := F_filled_b31.keep K37 nin0
    replace O0 := O0.keep K37 all0
    replace KC := KC.trans K37 all0
    obtain ⟨T38, X38, e38, st38⟩ := getF X37 hx hZ hown (host := "") (Or.inl (ww hw 28 rfl)) Via.refl rfl F_size_a1 (g := (mkF m 55 #[vr a1, vr a2] [(.ref a1), (.ref b37_b), (.ref b31), (.ref b31), (.ref a1)])) rfl rfl (hb hby d6_55)
    obtain ⟨_, _, ⟨T39, L39, kz39, nz39⟩, -, X39, ⟨Lc39, hQ39, l39, y39, z39⟩, st39⟩ := X38.specialBack hx (y := y_0) rfl hown (mvT hZ (ww hw 12 rfl)) (mvT hZ (ww hw 13 rfl)) (mvT hZ (ww hw 14 rfl)) (by decide) (backOf (W := 2) (rmSt l Z a0 hw [] b31 b37_b n T37.heap n0 (Nat.le_trans Z0 KC.1) O0 F_items_b31 F_filled_b31 A31 g_b31) hZ (ww hw 14 rfl) (ww hw 9 rfl) (by decide) (by decide)) (g := (mkF m 58 #[vr a1, vr a2] [(.int n), (.ref b37_b), (.ref b31), (.ref b31), (.ref a1)])) rfl (by rw [hml]; rfl) (Steps.refl _) (a := b31) (argsL := [(.ref b37_b), (.int n)]) (rest := [(.ref b31), (.ref a1)]) (lenOf pd_0 rfl) rfl (by show 2 * 0 + _ ≤ _; exact Nat.le_of_eq rfl) (hb hby d6_58) (fun _ _ => ⟨rfl, e38, (by decide : 2 + 0 ≤ _), (by decide : 12 + 0 ≤ _)⟩)
    dsimp only [Pt.U, Pt.locs, Pt.cells, Pt.slots] at X39 l39 y39 z39 st39 hQ39
    subst l39 y39 z39
    obtain ⟨rfl, N39q, K39, F_items_a1_39, F_filled_a1_39⟩ := hQ39
    have N39 := Fr.app N37 N39q
    replace F_store_a1 := F_store_a1.keep K39 (ninS ne_a1_b31 nin0)
    replace F_size_a1 := F_size_a1.keep K39 (ninS ne_a1_b31 nin0)
    replace E_a1 := E_a1.keep K39
    replace E_sto := E_sto.keep K39
    replace F_filled_sto := F_filled_sto.keep K39 (ninS ne_sto_b31 nin0)
    replace F_items_sto := F_items_sto.keep K39 (ninS ne_sto_b31 nin0)
    replace E_arr := E_arr.keep K39
    replace V_arr := V_arr.keep K39 (ninS ne_arr_b31 nin0)
    replace E_a2 := E_a2.keep K39
    replace A31 := A31.keep K39
    replace E_b_37 := E_b_37.keep K39
    replace V_b_37 := V_b_37.keep K39 (ninS (Ne.symm ne_b31_b37_b) nin0)
    replace O0 := O0.keep K39 (allS g_b31 all0)
    replace KC := KC.trans K39 (allS (Or.inr sz_b31) all0)
    obtain ⟨T40, h40, X40, e40, W40, st40⟩ := putF X39 hx hZ hown (host := "") (Or.inl (ww hw 26 rfl)) Via.refl rfl F_store_a1 E_a1 (Or.inl (ww hw 27 rfl)) (ww hw 2 rfl) (ty := (.object "com/example/brisk_tableau/brisktableau/tableau/SharedList$Store")) (by decide) rfl rfl (g := (mkF m 61 #[vr a1, vr a2] [(.ref b31), (.ref a1)])) rfl rfl (hb hby d6_61)
    have N40 := Fr.snoc X40 N39 g_a1
    replace F_store_a1 := F_store_a1.same W40
    have nec_sto_a1 : sto ≠ a1 := Exa.ne E_sto E_a1 (by decide)
    have nec_arr_a1 : arr ≠ a1 := Exa.ne E_arr E_a1 (by decide)
    replace F_size_a1 := F_size_a1.other W40 (Or.inr (slot_ne (Or.inl (ww hw 29 rfl)) (Or.inl (ww hw 27 rfl)) (by decide) (t := .int) (t' := (.object "com/example/brisk_tableau/brisktableau/tableau/SharedList$Store")) (by decide) (by decide)))
    replace E_a1 := E_a1.wr W40
    replace E_sto := E_sto.wr W40
    replace F_filled_sto := F_filled_sto.other W40 (Or.inl nec_sto_a1)
    replace F_items_sto := F_items_sto.other W40 (Or.inl nec_sto_a1)
    replace E_arr := E_arr.wr W40
    replace V_arr := V_arr.other W40 nec_arr_a1
    replace E_a2 := E_a2.wr W40
    replace A31 := A31.wr W40
    replace E_b_37 := E_b_37.wr W40
    replace V_b_37 := V_b_37.other W40 (Ne.symm ne_a1_b37_b)
    replace F_items_a1_39 := F_items_a1_39.other W40 (Or.inl (Ne.symm ne_a1_b31))
    replace F_filled_a1_39 := F_filled_a1_39.other W40 (Or.inl (Ne.symm ne_a1_b31))
    replace O0 := O0.wr W40 g_a1
    replace KC := KC.wr W40 (Or.inl (List.mem_of_getElem? (i := 0) rfl))
    obtain ⟨T41, X41, e41, st41⟩ := getF X40 hx hZ hown (host := "") (Or.inl (ww hw 26 rfl)) Via.refl e40 F_store_a1 (g := (mkF m 65 #[vr a1, vr a2] [(.ref a1)])) rfl rfl (hb hby d6_65)
    have st42 := getFR X41 hx hZ hown (ww hw 43 rfl) e41 F_items_a1_39 (g := (mkF m 68 #[vr a1, vr a2] [(.ref b31)])) rfl rfl (hb hby d6_68)
    obtain ⟨T43, X43, e43, st43⟩ := getF X41 hx hZ hown (host := "") (Or.inl (ww hw 28 rfl)) Via.refl e41 F_size_a1 (g := (mkF m 72 #[vr a1, vr a2] [(.ref a1), (.ref b37_b)])) rfl rfl (hb hby d6_72)
    obtain ⟨_, _, ⟨T44, L44, kz44, nz44⟩, -, X44, ⟨Lc44, hQ44, l44, y44, z44⟩, st44⟩ := Jvm.LawKit.callS X43 hx (y := y_7) hown (mvT hZ (ww hw 44 rfl)) (mvT hZ (ww hw 45 rfl)) (mvT hZ (ww hw 46 rfl)) (mvT hZ (ww hw 47 rfl)) (by decide) (backOf (W := 2) (rmRn l Z a0 hw [] a2 h40 n0 (Nat.le_trans Z0 KC.1) O0 ) hZ (ww hw 47 rfl) (ww hw 46 rfl) (by decide) (by decide)) (g := (mkF m 76 #[vr a1, vr a2] [(.ref a2), (.int n), (.ref b37_b)])) rfl (by rw [hml]; rfl) (argsL := [(.ref a2)]) (rest := [(.int n), (.ref b37_b)]) (lenOf pd_6 rfl) rfl (by show 2 * 0 + _ ≤ _; exact Nat.le_of_eq rfl) (hb hby d6_76) (fun _ _ => ⟨rfl, e43, (by decide : 2 + 0 ≤ _), (by decide : 12 + 0 ≤ _)⟩)
    dsimp only [Pt.U, Pt.locs, Pt.cells, Pt.slots] at X44 l44 y44 z44 st44 hQ44
    subst l44 y44 z44
    obtain ⟨rfl, N44q, e44⟩ := hQ44
    have N44 := Fr.app N40 N44q
    have Vo45 := V_b_37
    obtain ⟨cl45, Ar45, q45, Sz45, Nn45, Hh45, Gg45⟩ := Vo45
    have hin45 : ¬ (n < 0 ∨ cl45.slots.size ≤ (n).toNatClampNeg) := inb_of Sz45 ⟨hC, hD⟩
    obtain ⟨T46, h46, X46, e46, W46, st46⟩ := stR X44 hx hZ e44 Ar45 (j := n) hin45 rfl (Sto.ofV Ar45 q45 hq37_0 (Ins.of_exa E_a2 (ww hw 48 rfl))) (g := (mkF m 79 #[vr a1, vr a2] [(.ref a2), (.int n), (.ref b37_b)])) rfl rfl (hb hby d6_79)
    have Vn46 := Arv.set Ar45 q45 Sz45 Nn45 Hh45 Gg45 rfl W46 (n.toNatClampNeg) rfl hL
    have N46 := Fr.snoc X46 N44 g_b37_b
    replace F_store_a1 := F_store_a1.other W46 (Or.inl ne_a1_b37_b)
    replace F_size_a1 := F_size_a1.other W46 (Or.inl ne_a1_b37_b)
    replace E_a1 := E_a1.wr W46
    replace E_sto := E_sto.wr W46
    replace F_filled_sto := F_filled_sto.other W46 (Or.inl ne_sto_b37_b)
    replace F_items_sto := F_items_sto.other W46 (Or.inl ne_sto_b37_b)
    replace E_arr := E_arr.wr W46
    replace V_arr := V_arr.other W46 ne_arr_b37_b
    replace E_a2 := E_a2.wr W46
    replace A31 := A31.wr W46
    replace E_b_37 := E_b_37.wr W46
    replace F_items_a1_39 := F_items_a1_39.other W46 (Or.inl ne_b31_b37_b)
    replace F_filled_a1_39 := F_filled_a1_39.other W46 (Or.inl ne_b31_b37_b)
    replace O0 := O0.wr W46 g_b37_b
    replace KC := KC.wr W46 (Or.inr sz_b37_b)
    obtain ⟨T47, X47, e47, st47⟩ := getF X46 hx hZ hown (host := "") (Or.inl (ww hw 26 rfl)) Via.refl e46 F_store_a1 (g := (mkF m 81 #[vr a1, vr a2] [(.ref a1)])) rfl rfl (hb hby d6_81)
    obtain ⟨T48, X48, e48, st48⟩ := getF X47 hx hZ hown (host := "") (Or.inl (ww hw 28 rfl)) Via.refl e47 F_size_a1 (g := (mkF m 85 #[vr a1, vr a2] [(.ref a1), (.ref b31)])) rfl rfl (hb hby d6_85)
    obtain ⟨T49, h49, X49, e49, W49, st49⟩ := putFR X48 hx hZ hown (ww hw 42 rfl) e48 F_filled_a1_39 A31 (ww hw 21 rfl) (ww hw 8 rfl) (ty := .int) (by decide) rfl rfl (g := (mkF m 90 #[vr a1, vr a2] [(.int (n + (1 : Int32))), (.ref b31)])) rfl rfl (hb hby d6_90)
    have N49 := Fr.snoc X49 N46 g_b31
    replace F_filled_a1_39 := F_filled_a1_39.same W49
    replace F_store_a1 := F_store_a1.other W49 (Or.inl ne_a1_b31)
    replace F_size_a1 := F_size_a1.other W49 (Or.inl ne_a1_b31)
    replace E_a1 := E_a1.wr W49
    replace E_sto := E_sto.wr W49
    replace F_filled_sto := F_filled_sto.other W49 (Or.inl ne_sto_b31)
    replace F_items_sto := F_items_sto.other W49 (Or.inl ne_sto_b31)
    replace E_arr := E_arr.wr W49
    replace V_arr := V_arr.other W49 ne_arr_b31
    replace E_a2 := E_a2.wr W49
    replace A31 := A31.wr W49
    replace E_b_37 := E_b_37.wr W49
    replace F_items_a1_39 := F_items_a1_39.other W49 (Or.inr (slot_ne (Or.inr (ww hw 19 rfl)) (Or.inl (ww hw 21 rfl)) (by decide) (t := (.array (.object "java/lang/Object"))) (t' := .int) (by decide) (by decide)))
    replace Vn46 := Vn46.other W49 (Ne.symm ne_b31_b37_b)
    replace O0 := O0.wr W49 g_b31
    replace KC := KC.wr W49 (Or.inr sz_b31)
    obtain ⟨T50, X50, e50, st50⟩ := getF X49 hx hZ hown (host := "") (Or.inl (ww hw 28 rfl)) Via.refl e49 F_size_a1 (g := (mkF m 95 #[vr a1, vr a2] [(.ref a1), (.ref a1)])) rfl rfl (hb hby d6_95)
    obtain ⟨T51, h51, X51, e51, W51, st51⟩ := putF X50 hx hZ hown (host := "") (Or.inl (ww hw 28 rfl)) Via.refl e50 F_size_a1 E_a1 (Or.inl (ww hw 29 rfl)) (ww hw 2 rfl) (ty := .int) (by decide) rfl rfl (g := (mkF m 100 #[vr a1, vr a2] [(.int (n + (1 : Int32))), (.ref a1)])) rfl rfl (hb hby d6_100)
    have N51 := Fr.snoc X51 N49 g_a1
    replace F_size_a1 := F_size_a1.same W51
    replace F_store_a1 := F_store_a1.other W51 (Or.inr (slot_ne (Or.inl (ww hw 27 rfl)) (Or.inl (ww hw 29 rfl)) (by decide) (t := (.object "com/example/brisk_tableau/brisktableau/tableau/SharedList$Store")) (t' := .int) (by decide) (by decide)))
    replace E_a1 := E_a1.wr W51
    replace E_sto := E_sto.wr W51
    replace F_filled_sto := F_filled_sto.other W51 (Or.inl nec_sto_a1)
    replace F_items_sto := F_items_sto.other W51 (Or.inl nec_sto_a1)
    replace E_arr := E_arr.wr W51
    replace V_arr := V_arr.other W51 nec_arr_a1
    replace E_a2 := E_a2.wr W51
    replace A31 := A31.wr W51
    replace E_b_37 := E_b_37.wr W51
    replace F_items_a1_39 := F_items_a1_39.other W51 (Or.inl (Ne.symm ne_a1_b31))
    replace F_filled_a1_39 := F_filled_a1_39.other W51 (Or.inl (Ne.symm ne_a1_b31))
    replace Vn46 := Vn46.other W51 (Ne.symm ne_a1_b37_b)
    replace O0 := O0.wr W51 g_a1
    replace KC := KC.wr W51 (Or.inl (List.mem_of_getElem? (i := 0) rfl))
    rw [hM] at F_size_a1
    rw [hM] at F_filled_a1_39
    rw [hV] at Vn46
    obtain ⟨fs, hr, hrun, hended, hW, hsame⟩ := X51.leave (v := none) (fun _ => rfl)
    refine ⟨_, _, pre36 _ ?_, hrun, hended, _, _, rfl, ?_, ⟨_, rfl⟩, hW, hsame.mono (by decide) (by decide)⟩
    · show SS p e below m T35 51 #[vr a1, vr a2] [(.int pl), (.ref arr), (.ref b31), (.ref b31), (.ref a1)] _
      refine st37 _ ?_
      show SS p e below m T37 54 #[vr a1, vr a2] [(.ref b37_b), (.ref b31), (.ref b31), (.ref a1)] _
      refine XS.aloadN X37.here hx rfl (hb hby d6_54) rfl rfl ?_
      show SS p e below m T37 55 #[vr a1, vr a2] [(.ref a1), (.ref b37_b), (.ref b31), (.ref b31), (.ref a1)] _
      refine st38 _ ?_
      show SS p e below m T38 58 #[vr a1, vr a2] [(.int n), (.ref b37_b), (.ref b31), (.ref b31), (.ref a1)] _
      refine st39.trans ?_
      show SS p e below m T39 61 #[vr a1, vr a2] [(.ref b31), (.ref a1)] _
      refine st40 _ ?_
      show SS p e below m T40 64 #[vr a1, vr a2] [] _
      refine XS.aloadN X40.here hx rfl (hb hby d6_64) rfl rfl ?_
      show SS p e below m T40 65 #[vr a1, vr a2] [(.ref a1)] _
      refine st41 _ ?_
      show SS p e below m T41 68 #[vr a1, vr a2] [(.ref b31)] _
      refine st42 _ ?_
      show SS p e below m T41 71 #[vr a1, vr a2] [(.ref b37_b)] _
      refine XS.aloadN X41.here hx rfl (hb hby d6_71) rfl rfl ?_
      show SS p e below m T41 72 #[vr a1, vr a2] [(.ref a1), (.ref b37_b)] _
      refine st43 _ ?_
      show SS p e below m T43 75 #[vr a1, vr a2] [(.int n), (.ref b37_b)] _
      refine XS.aloadN X43.here hx rfl (hb hby d6_75) rfl rfl ?_
      show SS p e below m T43 76 #[vr a1, vr a2] [(.ref a2), (.int n), (.ref b37_b)] _
      refine st44 _ ?_
      show SS p e below m T44 79 #[vr a1, vr a2] [(.ref a2), (.int n), (.ref b37_b)] _
      refine st46 _ ?_
      show SS p e below m T46 80 #[vr a1, vr a2] [] _
      refine XS.aloadN X46.here hx rfl (hb hby d6_80) rfl rfl ?_
      show SS p e below m T46 81 #[vr a1, vr a2] [(.ref a1)] _
      refine st47 _ ?_
      show SS p e below m T47 84 #[vr a1, vr a2] [(.ref b31)] _
      refine XS.aloadN X47.here hx rfl (hb hby d6_84) rfl rfl ?_
      show SS p e below m T47 85 #[vr a1, vr a2] [(.ref a1), (.ref b31)] _
      refine st48 _ ?_
      show SS p e below m T48 88 #[vr a1, vr a2] [(.int n), (.ref b31)] _
      refine XS.iconst X48.here hx rfl (hb hby d6_88) ?_
      show SS p e below m T48 89 #[vr a1, vr a2] [(.int (1 : Int32)), (.int n), (.ref b31)] _
      refine XS.iadd X48.here hx rfl (hb hby d6_89) rfl ?_
      show SS p e below m T48 90 #[vr a1, vr a2] [(.int (n + (1 : Int32))), (.ref b31)] _
      refine st49 _ ?_
      show SS p e below m T49 93 #[vr a1, vr a2] [] _
      refine XS.aloadN X49.here hx rfl (hb hby d6_93) rfl rfl ?_
      show SS p e below m T49 94 #[vr a1, vr a2] [(.ref a1)] _
      refine XS.dup X49.here hx rfl (hb hby d6_94) rfl rfl ?_
      show SS p e below m T49 95 #[vr a1, vr a2] [(.ref a1), (.ref a1)] _
      refine st50 _ ?_
      show SS p e below m T50 98 #[vr a1, vr a2] [(.int n), (.ref a1)] _
      refine XS.iconst X50.here hx rfl (hb hby d6_98) ?_
      show SS p e below m T50 99 #[vr a1, vr a2] [(.int (1 : Int32)), (.int n), (.ref a1)] _
      refine XS.iadd X50.here hx rfl (hb hby d6_99) rfl ?_
      show SS p e below m T50 100 #[vr a1, vr a2] [(.int (n + (1 : Int32))), (.ref a1)] _
      refine st51 _ ?_
      show SS p e below m T51 103 #[vr a1, vr a2] [] _
      exact X51.returnOut hx Bd.returns (hb hby d6_103) hr
    · show Q_rmAddB Z a1 a2 sto n f arr k cap vs mr pl nn vsc m' vs' h0 n0 _ T51.heap _
      rw [e51]
      exact ⟨b31, b37_b, k2_37, rfl, N51, KC, sz_b31, sz_b37_b, F_store_a1, F_size_a1, A31, F_filled_a1_39, F_items_a1_39, E_b_37, Vn46, hq37_0⟩
theorem d20_0 : decode prog_112_method_3_code 0 = .ok (.new 3, 3) := by decide +kernel
theorem d20_3 : decode prog_112_method_3_code 3 = .ok (.dup, 1) := by decide +kernel
theorem d20_4 : decode prog_112_method_3_code 4 = .ok (.aload_n 0, 1) := by decide +kernel
theorem d20_5 : decode prog_112_method_3_code 5 = .ok (.getfield 17, 3) := by decide +kernel
theorem d20_8 : decode prog_112_method_3_code 8 = .ok (.aload_n 0, 1) := by decide +kernel
theorem d20_9 : decode prog_112_method_3_code 9 = .ok (.getfield 21, 3) := by decide +kernel
theorem d20_12 : decode prog_112_method_3_code 12 = .ok (.invokespecial 11, 3) := by decide +kernel
theorem d20_15 : decode prog_112_method_3_code 15 = .ok (.areturn, 1) := by decide +kernel
theorem ef_rmCp (m : MethodId) (x0 : Addr) : entryFrame m #[(.ref x0)] 1 = mkF m 0 #[vr x0] [] := by first | (simp [entryFrame, mkF, argsToLocals, Value.category]; done) | rfl
def Q_rmCp (Z : State) (a1 : Addr) (sto : Addr) (n : Int32) (h0 : Heap) (n0 : Nat) (v : Option Value) (h : Heap) (L : List Loc) : Prop := ∃ b : Addr, (v = some (.ref b)) ∧ (Fr n0 L) ∧ (Keep h0 h []) ∧ (h0.size ≤ b) ∧ (Exa Z h b "com/example/brisk_tableau/brisktableau/tableau/SharedList") ∧ (Fld Z h b "com/example/brisk_tableau/brisktableau/tableau/SharedList" "store" "Lcom/example/brisk_tableau/brisktableau/tableau/SharedList$Store;" (.ref sto)) ∧ (Fld Z h b "com/example/brisk_tableau/brisktableau/tableau/SharedList" "size" "I" (.int n))
set_option maxRecDepth 65536 in
set_option maxHeartbeats 40000000 in
theorem rmCp (l : Launch) (Z : State) (a0 : Array Value) (hw : ∀ d ∈ tables_1, d.before a0 Z = true) (ws : List Jvm.Cond) (a1 : Addr) (sto : Addr) (n : Int32) (h0 : Heap) (n0 : Nat) (Z0 : n0 ≤ h0.size) (O0 : Old Z n0 h0) (F_store_a1 : Fld Z h0 a1 "com/example/brisk_tableau/brisktableau/tableau/SharedList" "store" "Lcom/example/brisk_tableau/brisktableau/tableau/SharedList$Store;" (.ref sto)) (F_size_a1 : Fld Z h0 a1 "com/example/brisk_tableau/brisktableau/tableau/SharedList" "size" "I" (.int n)) :
    MetFree l y_13 (head1 (Jvm.Cond.code y_13 prog_112_method_3_code 1 (some (.object "com/example/brisk_tableau/brisktableau/tableau/SharedList")) :: ws) ({ frames := 2, cells := 1, slots := 2, locals := 27 } : Room)) (fun a U => a = #[(.ref a1)] ∧ Z.Warmed39 U.vm ∧ U.heap = h0) (fun _ _ _ _ _ => True) (fun _ U o U' => ∃ v L, o = .returned v ∧ Q_rmCp Z a1 sto n h0 n0 v U'.heap L ∧ FrameEnd U o U' L ({ frames := 2, cells := 1, slots := 2, locals := 27 } : Room).cells ({ frames := 2, cells := 1, slots := 2, locals := 27 } : Room).slots) := by
  refine MetFree.of_bodySF (plainFor_of_name pn_1) hisR ?_
  intro p e s m args below meth c s₁ Bd hml0 hP hK
  obtain ⟨rfl, hZ, hh⟩ := hP
  have hx := Bd.exec
  have hby := Bd.bytes
  have hml : c.maxLocals = 1 := hml0
  have hown : s.vm.findClass "com/example/brisk_tableau/brisktableau/tableau/SharedList" = some m.cls := findClass_of_methodNamed Bd.named
  have hnm := (name_of_methodNamed Bd.named Bd.method).1
  have X0 : Stand p l e ({ frames := 2, cells := 1, slots := 2, locals := 27 } : Room) s m #[(.ref a1)] below meth c s₁ [] 0 0 := Stand.of_body Bd
  have e0 : s₁.heap = h0 := by rw [← hh, Bd.state]; rfl
  have N0 := Fr.nil n0
  have KC : Keep h0 h0 [] := Keep.refl h0 _
  have pre0 : ∀ t, Steps p.tables e below (s₁.setTop (mkF m 0 #[vr a1] [])) t → Steps p.tables e below (s₁.setTop (entryFrame m #[(.ref a1)] 1)) t := fun t k => castTop (ef_rmCp m a1) k
  obtain ⟨T1, h1, X1, e1, E1, A1, D1, -, st1⟩ := newO X0 hx hZ hown (ww hw 140 rfl) (ww hw 2 rfl) (ww hw 3 rfl) e0 (g := (mkF m 0 #[vr a1] [])) rfl (hb hby d20_0) (by decide) (by decide)
  obtain ⟨b1, g1⟩ : ∃ z, z = h0.size := ⟨_, rfl⟩
  rw [← g1] at A1 D1 st1
  have ne_a1_b1 : a1 ≠ b1 := Nat.ne_of_lt (Nat.lt_of_lt_of_le F_store_a1.lt (Nat.le_of_eq g1.symm))
  have g_b1 : n0 ≤ b1 := Nat.le_trans (Nat.le_trans Z0 KC.1) (Nat.le_of_eq g1.symm)
  have sz_b1 : h0.size ≤ b1 := Nat.le_trans KC.1 (Nat.le_of_eq g1.symm)
  replace F_store_a1 := F_store_a1.ext E1
  replace F_size_a1 := F_size_a1.ext E1
  replace O0 := O0.ext E1
  replace KC := KC.ext E1
  have F_store_b1 : Fld Z h1 b1 "com/example/brisk_tableau/brisktableau/tableau/SharedList" "store" "Lcom/example/brisk_tableau/brisktableau/tableau/SharedList$Store;" .null := D1 (Or.inl (ww hw 27 rfl)) (ty := (.object "com/example/brisk_tableau/brisktableau/tableau/SharedList$Store")) (by decide)
  have F_size_b1 : Fld Z h1 b1 "com/example/brisk_tableau/brisktableau/tableau/SharedList" "size" "I" (.int (0 : Int32)) := D1 (Or.inl (ww hw 29 rfl)) (ty := .int) (by decide)
  obtain ⟨T2, X2, e2, st2⟩ := getF X1 hx hZ hown (host := "") (Or.inl (ww hw 26 rfl)) Via.refl e1 F_store_a1 (g := (mkF m 5 #[vr a1] [(.ref a1), (.ref b1), (.ref b1)])) rfl rfl (hb hby d20_5)
  obtain ⟨T3, X3, e3, st3⟩ := getF X2 hx hZ hown (host := "") (Or.inl (ww hw 28 rfl)) Via.refl e2 F_size_a1 (g := (mkF m 9 #[vr a1] [(.ref a1), (.ref sto), (.ref b1), (.ref b1)])) rfl rfl (hb hby d20_9)
  obtain ⟨_, _, ⟨T4, L4, kz4, nz4⟩, -, X4, ⟨Lc4, hQ4, l4, y4, z4⟩, st4⟩ := X3.specialBack hx (y := y_1) rfl hown (mvT hZ (ww hw 22 rfl)) (mvT hZ (ww hw 23 rfl)) (mvT hZ (ww hw 24 rfl)) (by decide) (backOf (W := 1) (rmLi l Z a0 hw [] b1 sto n h1 n0 (Nat.le_trans Z0 KC.1) O0 F_store_b1 F_size_b1 A1 g_b1) hZ (ww hw 24 rfl) (ww hw 3 rfl) (by decide) (by decide)) (g := (mkF m 12 #[vr a1] [(.int n), (.ref sto), (.ref b1), (.ref b1)])) rfl (by rw [hml]; rfl) (Steps.refl _) (a := b1) (argsL := [(.ref sto), (.int n)]) (rest := [(.ref b1)]) (lenOf pd_1 rfl) rfl (by show 2 * 0 + _ ≤ _; exact Nat.le_of_eq rfl) (hb hby d20_12) (fun _ _ => ⟨rfl, e3, (by decide : 1 + 0 ≤ _), (by decide : 2 + 0 ≤ _)⟩)
  dsimp only [Pt.U, Pt.locs, Pt.cells, Pt.slots] at X4 l4 y4 z4 st4 hQ4
  subst l4 y4 z4
  obtain ⟨rfl, N4q, K4, F_store_a1_4, F_size_a1_4⟩ := hQ4
  have N4 := Fr.app N0 N4q
  replace F_store_a1 := F_store_a1.keep K4 (ninS ne_a1_b1 nin0)
  replace F_size_a1 := F_size_a1.keep K4 (ninS ne_a1_b1 nin0)
  replace A1 := A1.keep K4
  replace O0 := O0.keep K4 (allS g_b1 all0)
  replace KC := KC.trans K4 (allS (Or.inr sz_b1) all0)
  obtain ⟨fs, hr, hrun, hended, hW, hsame⟩ := X4.leave (v := some (.ref b1)) (fun h => by rw [Bd.returns] at h; cases h)
  refine ⟨_, _, pre0 _ ?_, hrun, hended, _, _, rfl, ?_, ⟨_, rfl⟩, hW, hsame.mono (by decide) (by decide)⟩
  · show SS p e below m s₁ 0 #[vr a1] [] _
    refine st1 _ ?_
    show SS p e below m T1 3 #[vr a1] [(.ref b1)] _
    refine XS.dup X1.here hx rfl (hb hby d20_3) rfl rfl ?_
    show SS p e below m T1 4 #[vr a1] [(.ref b1), (.ref b1)] _
    refine XS.aloadN X1.here hx rfl (hb hby d20_4) rfl rfl ?_
    show SS p e below m T1 5 #[vr a1] [(.ref a1), (.ref b1), (.ref b1)] _
    refine st2 _ ?_
    show SS p e below m T2 8 #[vr a1] [(.ref sto), (.ref b1), (.ref b1)] _
    refine XS.aloadN X2.here hx rfl (hb hby d20_8) rfl rfl ?_
    show SS p e below m T2 9 #[vr a1] [(.ref a1), (.ref sto), (.ref b1), (.ref b1)] _
    refine st3 _ ?_
    show SS p e below m T3 12 #[vr a1] [(.int n), (.ref sto), (.ref b1), (.ref b1)] _
    refine st4.trans ?_
    show SS p e below m T4 15 #[vr a1] [(.ref b1)] _
    jvm_step X4.here [X4.here.top, hx, (hb hby d20_15), X4.method', Bd.returns, Value.isRef, FieldType.isReference]
    first | (intro acts; rw [hr _ acts rfl rfl rfl]) | rw [hr _ _ rfl rfl rfl]
    exact Steps.refl _
  · show Q_rmCp Z a1 sto n h0 n0 _ T4.heap _
    exact ⟨b1, rfl, N4, KC, sz_b1, A1, F_store_a1_4, F_size_a1_4⟩
theorem d9_0 : decode prog_113_method_1_code 0 = .ok (.aload_n 0, 1) := by decide +kernel
theorem d9_1 : decode prog_113_method_1_code 1 = .ok (.iload_n 2, 1) := by decide +kernel
theorem d9_2 : decode prog_113_method_1_code 2 = .ok (.putfield 1, 3) := by decide +kernel
theorem d9_5 : decode prog_113_method_1_code 5 = .ok (.aload_n 0, 1) := by decide +kernel
theorem d9_6 : decode prog_113_method_1_code 6 = .ok (.aload_n 3, 1) := by decide +kernel
theorem d9_7 : decode prog_113_method_1_code 7 = .ok (.putfield 7, 3) := by decide +kernel
theorem d9_10 : decode prog_113_method_1_code 10 = .ok (.aload_n 0, 1) := by decide +kernel
theorem d9_11 : decode prog_113_method_1_code 11 = .ok (.invokespecial 11, 3) := by decide +kernel
theorem d9_14 : decode prog_113_method_1_code 14 = .ok (.return_, 1) := by decide +kernel
theorem pn_6 : plainName "com/example/brisk_tableau/brisktableau/tableau/SharedList$1" = true := by first | (simp [plainName, overriddenIn]; done) | decide +kernel
theorem ef_rmIi (m : MethodId) (x0 : Addr) (x1 : Addr) (x2 : Int32) (x3 : Addr) : entryFrame m #[(.ref x0), (.ref x1), (.int x2), (.ref x3)] 4 = mkF m 0 #[vr x0, vr x1, vi x2, vr x3] [] := by first | (simp [entryFrame, mkF, argsToLocals, Value.category]; done) | rfl
def Q_rmIi (Z : State) (a1 : Addr) (a2 : Addr) (p3 : Int32) (a4 : Addr) (h0 : Heap) (n0 : Nat) (v : Option Value) (h : Heap) (L : List Loc) : Prop := (v = none) ∧ (Fr n0 L) ∧ (Keep h0 h [a1]) ∧ (Fld Z h a1 "com/example/brisk_tableau/brisktableau/tableau/SharedList$1" "val$length" "I" (.int p3)) ∧ (Fld Z h a1 "com/example/brisk_tableau/brisktableau/tableau/SharedList$1" "val$items" "[Ljava/lang/Object;" (.ref a4)) ∧ (Fld Z h a1 "com/example/brisk_tableau/brisktableau/tableau/SharedList$1" "next" "I" (.int (0 : Int32)))
set_option maxRecDepth 65536 in
set_option maxHeartbeats 40000000 in
theorem rmIi (l : Launch) (Z : State) (a0 : Array Value) (hw : ∀ d ∈ tables_1, d.before a0 Z = true) (ws : List Jvm.Cond) (a1 : Addr) (a2 : Addr) (p3 : Int32) (a4 : Addr) (h0 : Heap) (n0 : Nat) (Z0 : n0 ≤ h0.size) (O0 : Old Z n0 h0) (F_val_length_a1 : Fld Z h0 a1 "com/example/brisk_tableau/brisktableau/tableau/SharedList$1" "val$length" "I" (.int (0 : Int32))) (F_val_items_a1 : Fld Z h0 a1 "com/example/brisk_tableau/brisktableau/tableau/SharedList$1" "val$items" "[Ljava/lang/Object;" .null) (F_next_a1 : Fld Z h0 a1 "com/example/brisk_tableau/brisktableau/tableau/SharedList$1" "next" "I" (.int (0 : Int32))) (E_a1 : Exa Z h0 a1 "com/example/brisk_tableau/brisktableau/tableau/SharedList$1") (g_a1 : n0 ≤ a1) :
    MetFree l y_14 (head1 (Jvm.Cond.code y_14 prog_113_method_1_code 4 none :: ws) ({ frames := 1, cells := 0, slots := 0, locals := 12 } : Room)) (fun a U => a = #[(.ref a1), (.ref a2), (.int p3), (.ref a4)] ∧ Z.Warmed39 U.vm ∧ U.heap = h0) (fun _ _ _ _ _ => True) (fun _ U o U' => ∃ v L, o = .returned v ∧ Q_rmIi Z a1 a2 p3 a4 h0 n0 v U'.heap L ∧ FrameEnd U o U' L ({ frames := 1, cells := 0, slots := 0, locals := 12 } : Room).cells ({ frames := 1, cells := 0, slots := 0, locals := 12 } : Room).slots) := by
  refine MetFree.of_bodySF (plainFor_of_name pn_6) hisR ?_
  intro p e s m args below meth c s₁ Bd hml0 hP hK
  obtain ⟨rfl, hZ, hh⟩ := hP
  have hx := Bd.exec
  have hby := Bd.bytes
  have hml : c.maxLocals = 4 := hml0
  have hown : s.vm.findClass "com/example/brisk_tableau/brisktableau/tableau/SharedList$1" = some m.cls := findClass_of_methodNamed Bd.named
  have hnm := (name_of_methodNamed Bd.named Bd.method).1
  have X0 : Stand p l e ({ frames := 1, cells := 0, slots := 0, locals := 12 } : Room) s m #[(.ref a1), (.ref a2), (.int p3), (.ref a4)] below meth c s₁ [] 0 0 := Stand.of_body Bd
  have e0 : s₁.heap = h0 := by rw [← hh, Bd.state]; rfl
  have N0 := Fr.nil n0
  have KC : Keep h0 h0 [a1] := Keep.refl h0 _
  have pre0 : ∀ t, Steps p.tables e below (s₁.setTop (mkF m 0 #[vr a1, vr a2, vi p3, vr a4] [])) t → Steps p.tables e below (s₁.setTop (entryFrame m #[(.ref a1), (.ref a2), (.int p3), (.ref a4)] 4)) t := fun t k => castTop (ef_rmIi m a1 a2 p3 a4) k
  obtain ⟨T1, h1, X1, e1, W1, st1⟩ := putF X0 hx hZ hown (host := "") (Or.inl (ww hw 60 rfl)) Via.refl e0 F_val_length_a1 E_a1 (Or.inr ⟨(ww hw 61 rfl), rfl, hnm⟩) (ww hw 55 rfl) (ty := .int) (by decide) rfl rfl (g := (mkF m 2 #[vr a1, vr a2, vi p3, vr a4] [(.int p3), (.ref a1)])) rfl rfl (hb hby d9_2)
  have N1 := Fr.snoc X1 N0 g_a1
  replace F_val_length_a1 := F_val_length_a1.same W1
  replace F_val_items_a1 := F_val_items_a1.other W1 (Or.inr (slot_ne (Or.inr (ww hw 63 rfl)) (Or.inr (ww hw 61 rfl)) (by decide) (t := (.array (.object "java/lang/Object"))) (t' := .int) (by decide) (by decide)))
  replace F_next_a1 := F_next_a1.other W1 (Or.inr (slot_ne (Or.inl (ww hw 79 rfl)) (Or.inr (ww hw 61 rfl)) (by decide) (t := .int) (t' := .int) (by decide) (by decide)))
  replace E_a1 := E_a1.wr W1
  replace O0 := O0.wr W1 g_a1
  replace KC := KC.wr W1 (Or.inl (List.mem_of_getElem? (i := 0) rfl))
  obtain ⟨T2, h2, X2, e2, W2, st2⟩ := putF X1 hx hZ hown (host := "") (Or.inl (ww hw 62 rfl)) Via.refl e1 F_val_items_a1 E_a1 (Or.inr ⟨(ww hw 63 rfl), rfl, hnm⟩) (ww hw 55 rfl) (ty := (.array (.object "java/lang/Object"))) (by decide) rfl rfl (g := (mkF m 7 #[vr a1, vr a2, vi p3, vr a4] [(.ref a4), (.ref a1)])) rfl rfl (hb hby d9_7)
  have N2 := Fr.snoc X2 N1 g_a1
  replace F_val_items_a1 := F_val_items_a1.same W2
  replace F_val_length_a1 := F_val_length_a1.other W2 (Or.inr (slot_ne (Or.inr (ww hw 61 rfl)) (Or.inr (ww hw 63 rfl)) (by decide) (t := .int) (t' := (.array (.object "java/lang/Object"))) (by decide) (by decide)))
  replace F_next_a1 := F_next_a1.other W2 (Or.inr (slot_ne (Or.inl (ww hw 79 rfl)) (Or.inr (ww hw 63 rfl)) (by decide) (t := .int) (t' := (.array (.object "java/lang/Object"))) (by decide) (by decide)))
  replace E_a1 := E_a1.wr W2
  replace O0 := O0.wr W2 g_a1
  replace KC := KC.wr W2 (Or.inl (List.mem_of_getElem? (i := 0) rfl))
  obtain ⟨T3, X3, e3, st3⟩ := initO X2 hx hZ hown (ww hw 64 rfl) (ww hw 16 rfl) (ww hw 17 rfl) e2 (g := (mkF m 11 #[vr a1, vr a2, vi p3, vr a4] [(.ref a1)])) rfl (by rw [hml]; rfl) rfl (hb hby d9_11) (by decide) (W := 0) (by show 2 * 0 + _ ≤ _; exact Nat.le_of_eq rfl) (by decide)
  obtain ⟨fs, hr, hrun, hended, hW, hsame⟩ := X3.leave (v := none) (fun _ => rfl)
  refine ⟨_, _, pre0 _ ?_, hrun, hended, _, _, rfl, ?_, ⟨_, rfl⟩, hW, hsame.mono (by decide) (by decide)⟩
  · show SS p e below m s₁ 0 #[vr a1, vr a2, vi p3, vr a4] [] _
    refine XS.aloadN X0.here hx rfl (hb hby d9_0) rfl rfl ?_
    show SS p e below m s₁ 1 #[vr a1, vr a2, vi p3, vr a4] [(.ref a1)] _
    refine XS.iloadN X0.here hx rfl (hb hby d9_1) rfl ?_
    show SS p e below m s₁ 2 #[vr a1, vr a2, vi p3, vr a4] [(.int p3), (.ref a1)] _
    refine st1 _ ?_
    show SS p e below m T1 5 #[vr a1, vr a2, vi p3, vr a4] [] _
    refine XS.aloadN X1.here hx rfl (hb hby d9_5) rfl rfl ?_
    show SS p e below m T1 6 #[vr a1, vr a2, vi p3, vr a4] [(.ref a1)] _
    refine XS.aloadN X1.here hx rfl (hb hby d9_6) rfl rfl ?_
    show SS p e below m T1 7 #[vr a1, vr a2, vi p3, vr a4] [(.ref a4), (.ref a1)] _
    refine st2 _ ?_
    show SS p e below m T2 10 #[vr a1, vr a2, vi p3, vr a4] [] _
    refine XS.aloadN X2.here hx rfl (hb hby d9_10) rfl rfl ?_
    show SS p e below m T2 11 #[vr a1, vr a2, vi p3, vr a4] [(.ref a1)] _
    refine st3 _ ?_
    show SS p e below m T3 14 #[vr a1, vr a2, vi p3, vr a4] [] _
    exact X3.returnOut hx Bd.returns (hb hby d9_14) hr
  · show Q_rmIi Z a1 a2 p3 a4 h0 n0 _ T3.heap _
    rw [e3]
    exact ⟨rfl, N2, KC, F_val_length_a1, F_val_items_a1, F_next_a1⟩
theorem pd_8 : parseMethodDescriptor "(Lcom/example/brisk_tableau/brisktableau/tableau/SharedList;I[Ljava/lang/Object;)V" = some ⟨[(.object "com/example/brisk_tableau/brisktableau/tableau/SharedList"), .int, (.array (.object "java/lang/Object"))], none⟩ := by decide +kernel
theorem d8_0 : decode prog_112_method_6_code 0 = .ok (.aload_n 0, 1) := by decide +kernel
theorem d8_1 : decode prog_112_method_6_code 1 = .ok (.getfield 17, 3) := by decide +kernel
theorem d8_4 : decode prog_112_method_6_code 4 = .ok (.getfield 28, 3) := by decide +kernel
theorem d8_7 : decode prog_112_method_6_code 7 = .ok (.astore_n 1, 1) := by decide +kernel
theorem d8_8 : decode prog_112_method_6_code 8 = .ok (.aload_n 0, 1) := by decide +kernel
theorem d8_9 : decode prog_112_method_6_code 9 = .ok (.getfield 21, 3) := by decide +kernel
theorem d8_12 : decode prog_112_method_6_code 12 = .ok (.istore_n 2, 1) := by decide +kernel
theorem d8_13 : decode prog_112_method_6_code 13 = .ok (.new 50, 3) := by decide +kernel
theorem d8_16 : decode prog_112_method_6_code 16 = .ok (.dup, 1) := by decide +kernel
theorem d8_17 : decode prog_112_method_6_code 17 = .ok (.aload_n 0, 1) := by decide +kernel
theorem d8_18 : decode prog_112_method_6_code 18 = .ok (.iload_n 2, 1) := by decide +kernel
theorem d8_19 : decode prog_112_method_6_code 19 = .ok (.aload_n 1, 1) := by decide +kernel
theorem d8_20 : decode prog_112_method_6_code 20 = .ok (.invokespecial 52, 3) := by decide +kernel
theorem d8_23 : decode prog_112_method_6_code 23 = .ok (.areturn, 1) := by decide +kernel
theorem ef_rmIt (m : MethodId) (x0 : Addr) : entryFrame m #[(.ref x0)] 3 = mkF m 0 #[vr x0, .unset, .unset] [] := by first | (simp [entryFrame, mkF, argsToLocals, Value.category]; done) | rfl
def Q_rmIt (Z : State) (a1 : Addr) (sto : Addr) (n : Int32) (arr : Addr) (h0 : Heap) (n0 : Nat) (v : Option Value) (h : Heap) (L : List Loc) : Prop := ∃ b : Addr, (v = some (.ref b)) ∧ (Fr n0 L) ∧ (Keep h0 h []) ∧ (h0.size ≤ b) ∧ (Exa Z h b "com/example/brisk_tableau/brisktableau/tableau/SharedList$1") ∧ (Fld Z h b "com/example/brisk_tableau/brisktableau/tableau/SharedList$1" "val$length" "I" (.int n)) ∧ (Fld Z h b "com/example/brisk_tableau/brisktableau/tableau/SharedList$1" "val$items" "[Ljava/lang/Object;" (.ref arr)) ∧ (Fld Z h b "com/example/brisk_tableau/brisktableau/tableau/SharedList$1" "next" "I" (.int (0 : Int32)))
set_option maxRecDepth 65536 in
set_option maxHeartbeats 40000000 in
theorem rmIt (l : Launch) (Z : State) (a0 : Array Value) (hw : ∀ d ∈ tables_1, d.before a0 Z = true) (ws : List Jvm.Cond) (a1 : Addr) (sto : Addr) (n : Int32) (arr : Addr) (h0 : Heap) (n0 : Nat) (Z0 : n0 ≤ h0.size) (O0 : Old Z n0 h0) (F_store_a1 : Fld Z h0 a1 "com/example/brisk_tableau/brisktableau/tableau/SharedList" "store" "Lcom/example/brisk_tableau/brisktableau/tableau/SharedList$Store;" (.ref sto)) (F_size_a1 : Fld Z h0 a1 "com/example/brisk_tableau/brisktableau/tableau/SharedList" "size" "I" (.int n)) (F_items_sto : Fld Z h0 sto "com/example/brisk_tableau/brisktableau/tableau/SharedList$Store" "items" "[Ljava/lang/Object;" (.ref arr)) :
    MetFree l y_15 (head1 (Jvm.Cond.code y_15 prog_112_method_6_code 3 (some (.object "java/util/Iterator")) :: ws) ({ frames := 2, cells := 1, slots := 3, locals := 28 } : Room)) (fun a U => a = #[(.ref a1)] ∧ Z.Warmed39 U.vm ∧ U.heap = h0) (fun _ _ _ _ _ => True) (fun _ U o U' => ∃ v L, o = .returned v ∧ Q_rmIt Z a1 sto n arr h0 n0 v U'.heap L ∧ FrameEnd U o U' L ({ frames := 2, cells := 1, slots := 3, locals := 28 } : Room).cells ({ frames := 2, cells := 1, slots := 3, locals := 28 } : Room).slots) := by
  refine MetFree.of_bodySF (plainFor_of_name pn_1) hisR ?_
  intro p e s m args below meth c s₁ Bd hml0 hP hK
  obtain ⟨rfl, hZ, hh⟩ := hP
  have hx := Bd.exec
  have hby := Bd.bytes
  have hml : c.maxLocals = 3 := hml0
  have hown : s.vm.findClass "com/example/brisk_tableau/brisktableau/tableau/SharedList" = some m.cls := findClass_of_methodNamed Bd.named
  have hnm := (name_of_methodNamed Bd.named Bd.method).1
  have X0 : Stand p l e ({ frames := 2, cells := 1, slots := 3, locals := 28 } : Room) s m #[(.ref a1)] below meth c s₁ [] 0 0 := Stand.of_body Bd
  have e0 : s₁.heap = h0 := by rw [← hh, Bd.state]; rfl
  have N0 := Fr.nil n0
  have KC : Keep h0 h0 [] := Keep.refl h0 _
  have pre0 : ∀ t, Steps p.tables e below (s₁.setTop (mkF m 0 #[vr a1, un, un] [])) t → Steps p.tables e below (s₁.setTop (entryFrame m #[(.ref a1)] 3)) t := fun t k => castTop (ef_rmIt m a1) k
  obtain ⟨T1, X1, e1, st1⟩ := getF X0 hx hZ hown (host := "") (Or.inl (ww hw 26 rfl)) Via.refl e0 F_store_a1 (g := (mkF m 1 #[vr a1, un, un] [(.ref a1)])) rfl rfl (hb hby d8_1)
  have st2 := getFR X1 hx hZ hown (ww hw 43 rfl) e1 F_items_sto (g := (mkF m 4 #[vr a1, un, un] [(.ref sto)])) rfl rfl (hb hby d8_4)
  obtain ⟨T3, X3, e3, st3⟩ := getF X1 hx hZ hown (host := "") (Or.inl (ww hw 28 rfl)) Via.refl e1 F_size_a1 (g := (mkF m 9 #[vr a1, vr arr, un] [(.ref a1)])) rfl rfl (hb hby d8_9)
  obtain ⟨T4, h4, X4, e4, E4, A4, D4, -, st4⟩ := newO X3 hx hZ hown (ww hw 54 rfl) (ww hw 55 rfl) (ww hw 56 rfl) e3 (g := (mkF m 13 #[vr a1, vr arr, vi n] [])) rfl (hb hby d8_13) (by decide) (by decide)
  obtain ⟨b4, g4⟩ : ∃ z, z = h0.size := ⟨_, rfl⟩
  rw [← g4] at A4 D4 st4
  have ne_a1_b4 : a1 ≠ b4 := Nat.ne_of_lt (Nat.lt_of_lt_of_le F_store_a1.lt (Nat.le_of_eq g4.symm))
  have ne_sto_b4 : sto ≠ b4 := Nat.ne_of_lt (Nat.lt_of_lt_of_le F_items_sto.lt (Nat.le_of_eq g4.symm))
  have g_b4 : n0 ≤ b4 := Nat.le_trans (Nat.le_trans Z0 KC.1) (Nat.le_of_eq g4.symm)
  have sz_b4 : h0.size ≤ b4 := Nat.le_trans KC.1 (Nat.le_of_eq g4.symm)
  replace F_store_a1 := F_store_a1.ext E4
  replace F_size_a1 := F_size_a1.ext E4
  replace F_items_sto := F_items_sto.ext E4
  replace O0 := O0.ext E4
  replace KC := KC.ext E4
  have F_val_length_b4 : Fld Z h4 b4 "com/example/brisk_tableau/brisktableau/tableau/SharedList$1" "val$length" "I" (.int (0 : Int32)) := D4 (Or.inr (ww hw 61 rfl)) (ty := .int) (by decide)
  have F_val_items_b4 : Fld Z h4 b4 "com/example/brisk_tableau/brisktableau/tableau/SharedList$1" "val$items" "[Ljava/lang/Object;" .null := D4 (Or.inr (ww hw 63 rfl)) (ty := (.array (.object "java/lang/Object"))) (by decide)
  have F_next_b4 : Fld Z h4 b4 "com/example/brisk_tableau/brisktableau/tableau/SharedList$1" "next" "I" (.int (0 : Int32)) := D4 (Or.inl (ww hw 79 rfl)) (ty := .int) (by decide)
  obtain ⟨_, _, ⟨T5, L5, kz5, nz5⟩, -, X5, ⟨Lc5, hQ5, l5, y5, z5⟩, st5⟩ := X4.specialBack hx (y := y_14) rfl hown (mvT hZ (ww hw 57 rfl)) (mvT hZ (ww hw 58 rfl)) (mvT hZ (ww hw 59 rfl)) (by decide) (backOf (W := 1) (rmIi l Z a0 hw [] b4 a1 n arr h4 n0 (Nat.le_trans Z0 KC.1) O0 F_val_length_b4 F_val_items_b4 F_next_b4 A4 g_b4) hZ (ww hw 59 rfl) (ww hw 56 rfl) (by decide) (by decide)) (g := (mkF m 20 #[vr a1, vr arr, vi n] [(.ref arr), (.int n), (.ref a1), (.ref b4), (.ref b4)])) rfl (by rw [hml]; rfl) (Steps.refl _) (a := b4) (argsL := [(.ref a1), (.int n), (.ref arr)]) (rest := [(.ref b4)]) (lenOf pd_8 rfl) rfl (by show 2 * 0 + _ ≤ _; exact Nat.le_of_eq rfl) (hb hby d8_20) (fun _ _ => ⟨rfl, e4, (by decide : 1 + 0 ≤ _), (by decide : 3 + 0 ≤ _)⟩)
  dsimp only [Pt.U, Pt.locs, Pt.cells, Pt.slots] at X5 l5 y5 z5 st5 hQ5
  subst l5 y5 z5
  obtain ⟨rfl, N5q, K5, F_val_length_a1_5, F_val_items_a1_5, F_next_a1_5⟩ := hQ5
  have N5 := Fr.app N0 N5q
  replace F_store_a1 := F_store_a1.keep K5 (ninS ne_a1_b4 nin0)
  replace F_size_a1 := F_size_a1.keep K5 (ninS ne_a1_b4 nin0)
  replace F_items_sto := F_items_sto.keep K5 (ninS ne_sto_b4 nin0)
  replace A4 := A4.keep K5
  replace O0 := O0.keep K5 (allS g_b4 all0)
  replace KC := KC.trans K5 (allS (Or.inr sz_b4) all0)
  obtain ⟨fs, hr, hrun, hended, hW, hsame⟩ := X5.leave (v := some (.ref b4)) (fun h => by rw [Bd.returns] at h; cases h)
  refine ⟨_, _, pre0 _ ?_, hrun, hended, _, _, rfl, ?_, ⟨_, rfl⟩, hW, hsame.mono (by decide) (by decide)⟩
  · show SS p e below m s₁ 0 #[vr a1, un, un] [] _
    refine XS.aloadN X0.here hx rfl (hb hby d8_0) rfl rfl ?_
    show SS p e below m s₁ 1 #[vr a1, un, un] [(.ref a1)] _
    refine st1 _ ?_
    show SS p e below m T1 4 #[vr a1, un, un] [(.ref sto)] _
    refine st2 _ ?_
    show SS p e below m T1 7 #[vr a1, un, un] [(.ref arr)] _
    refine XS.astoreN X1.here hx rfl (hb hby d8_7) rfl rfl (l' := #[vr a1, vr arr, un]) rfl ?_
    show SS p e below m T1 8 #[vr a1, vr arr, un] [] _
    refine XS.aloadN X1.here hx rfl (hb hby d8_8) rfl rfl ?_
    show SS p e below m T1 9 #[vr a1, vr arr, un] [(.ref a1)] _
    refine st3 _ ?_
    show SS p e below m T3 12 #[vr a1, vr arr, un] [(.int n)] _
    refine XS.istoreN X3.here hx rfl (hb hby d8_12) rfl (l' := #[vr a1, vr arr, vi n]) rfl ?_
    show SS p e below m T3 13 #[vr a1, vr arr, vi n] [] _
    refine st4 _ ?_
    show SS p e below m T4 16 #[vr a1, vr arr, vi n] [(.ref b4)] _
    refine XS.dup X4.here hx rfl (hb hby d8_16) rfl rfl ?_
    show SS p e below m T4 17 #[vr a1, vr arr, vi n] [(.ref b4), (.ref b4)] _
    refine XS.aloadN X4.here hx rfl (hb hby d8_17) rfl rfl ?_
    show SS p e below m T4 18 #[vr a1, vr arr, vi n] [(.ref a1), (.ref b4), (.ref b4)] _
    refine XS.iloadN X4.here hx rfl (hb hby d8_18) rfl ?_
    show SS p e below m T4 19 #[vr a1, vr arr, vi n] [(.int n), (.ref a1), (.ref b4), (.ref b4)] _
    refine XS.aloadN X4.here hx rfl (hb hby d8_19) rfl rfl ?_
    show SS p e below m T4 20 #[vr a1, vr arr, vi n] [(.ref arr), (.int n), (.ref a1), (.ref b4), (.ref b4)] _
    refine st5.trans ?_
    show SS p e below m T5 23 #[vr a1, vr arr, vi n] [(.ref b4)] _
    jvm_step X5.here [X5.here.top, hx, (hb hby d8_23), X5.method', Bd.returns, Value.isRef, FieldType.isReference]
    first | (intro acts; rw [hr _ acts rfl rfl rfl]) | rw [hr _ _ rfl rfl rfl]
    exact Steps.refl _
  · show Q_rmIt Z a1 sto n arr h0 n0 _ T5.heap _
    exact ⟨b4, rfl, N5, KC, sz_b4, A4, F_val_length_a1_5, F_val_items_a1_5, F_next_a1_5⟩
theorem d11_0 : decode prog_113_method_2_code 0 = .ok (.aload_n 0, 1) := by decide +kernel
theorem d11_1 : decode prog_113_method_2_code 1 = .ok (.getfield 17, 3) := by decide +kernel
theorem d11_4 : decode prog_113_method_2_code 4 = .ok (.aload_n 0, 1) := by decide +kernel
theorem d11_5 : decode prog_113_method_2_code 5 = .ok (.getfield 1, 3) := by decide +kernel
theorem d11_8 : decode prog_113_method_2_code 8 = .ok (.if_icmp .ge 7, 3) := by decide +kernel
theorem d11_11 : decode prog_113_method_2_code 11 = .ok (.iconst 1, 1) := by decide +kernel
theorem d11_12 : decode prog_113_method_2_code 12 = .ok (.goto 4, 3) := by decide +kernel
theorem d11_15 : decode prog_113_method_2_code 15 = .ok (.iconst 0, 1) := by decide +kernel
theorem d11_16 : decode prog_113_method_2_code 16 = .ok (.ireturn, 1) := by decide +kernel
theorem ef_rmHn (m : MethodId) (x0 : Addr) : entryFrame m #[(.ref x0)] 1 = mkF m 0 #[vr x0] [] := by first | (simp [entryFrame, mkF, argsToLocals, Value.category]; done) | rfl
def Q_rmHn (Z : State) (a1 : Addr) (i : Int32) (n : Int32) (r : Int32) (h0 : Heap) (n0 : Nat) (v : Option Value) (h : Heap) (L : List Loc) : Prop := (v = some (.int r)) ∧ (Fr n0 L) ∧ (h = h0)
set_option maxRecDepth 65536 in
set_option maxHeartbeats 40000000 in
theorem rmHn (l : Launch) (Z : State) (a0 : Array Value) (hw : ∀ d ∈ tables_1, d.before a0 Z = true) (ws : List Jvm.Cond) (a1 : Addr) (i : Int32) (n : Int32) (r : Int32) (h0 : Heap) (n0 : Nat) (Z0 : n0 ≤ h0.size) (O0 : Old Z n0 h0) (F_next_a1 : Fld Z h0 a1 "com/example/brisk_tableau/brisktableau/tableau/SharedList$1" "next" "I" (.int i)) (F_val_length_a1 : Fld Z h0 a1 "com/example/brisk_tableau/brisktableau/tableau/SharedList$1" "val$length" "I" (.int n)) (hR0 : (if i < n then (1 : Int32) else 0) = r) :
    MetFree l y_16 (head1 (Jvm.Cond.code y_16 prog_113_method_2_code 1 (some .boolean) :: ws) ({ frames := 0, cells := 0, slots := 0, locals := 0 } : Room)) (fun a U => a = #[(.ref a1)] ∧ Z.Warmed39 U.vm ∧ U.heap = h0) (fun _ _ _ _ _ => True) (fun _ U o U' => ∃ v L, o = .returned v ∧ Q_rmHn Z a1 i n r h0 n0 v U'.heap L ∧ FrameEnd U o U' L ({ frames := 0, cells := 0, slots := 0, locals := 0 } : Room).cells ({ frames := 0, cells := 0, slots := 0, locals := 0 } : Room).slots) := by
  refine MetFree.of_bodySF (plainFor_of_name pn_6) hisR ?_
  intro p e s m args below meth c s₁ Bd hml0 hP hK
  obtain ⟨rfl, hZ, hh⟩ := hP
  have hx := Bd.exec
  have hby := Bd.bytes
  have hml : c.maxLocals = 1 := hml0
  have hown : s.vm.findClass "com/example/brisk_tableau/brisktableau/tableau/SharedList$1" = some m.cls := findClass_of_methodNamed Bd.named
  have hnm := (name_of_methodNamed Bd.named Bd.method).1
  have X0 : Stand p l e ({ frames := 0, cells := 0, slots := 0, locals := 0 } : Room) s m #[(.ref a1)] below meth c s₁ [] 0 0 := Stand.of_body Bd
  have e0 : s₁.heap = h0 := by rw [← hh, Bd.state]; rfl
  have N0 := Fr.nil n0
  have KC : Keep h0 h0 [] := Keep.refl h0 _
  have pre0 : ∀ t, Steps p.tables e below (s₁.setTop (mkF m 0 #[vr a1] [])) t → Steps p.tables e below (s₁.setTop (entryFrame m #[(.ref a1)] 1)) t := fun t k => castTop (ef_rmHn m a1) k
  obtain ⟨T1, X1, e1, st1⟩ := getF X0 hx hZ hown (host := "") (Or.inl (ww hw 78 rfl)) Via.refl e0 F_next_a1 (g := (mkF m 1 #[vr a1] [(.ref a1)])) rfl rfl (hb hby d11_1)
  obtain ⟨T2, X2, e2, st2⟩ := getF X1 hx hZ hown (host := "") (Or.inl (ww hw 60 rfl)) Via.refl e1 F_val_length_a1 (g := (mkF m 5 #[vr a1] [(.ref a1), (.int i)])) rfl rfl (hb hby d11_5)
  have pre3 : ∀ t, Steps p.tables e below (T2.setTop (mkF m 8 #[vr a1] [(.int n), (.int i)])) t → Steps p.tables e below (s₁.setTop (entryFrame m #[(.ref a1)] 1)) t := by
    intro t kt
    refine pre0 t ?_
    show SS p e below m s₁ 0 #[vr a1] [] _
    refine XS.aloadN X0.here hx rfl (hb hby d11_0) rfl rfl ?_
    show SS p e below m s₁ 1 #[vr a1] [(.ref a1)] _
    refine st1 _ ?_
    show SS p e below m T1 4 #[vr a1] [(.int i)] _
    refine XS.aloadN X1.here hx rfl (hb hby d11_4) rfl rfl ?_
    show SS p e below m T1 5 #[vr a1] [(.ref a1), (.int i)] _
    refine st2 _ ?_
    exact kt
  by_cases hc8_4 : i < n
  · obtain ⟨fs, hr, hrun, hended, hW, hsame⟩ := X2.leave (v := some (.int (1 : Int32))) (fun h => by rw [Bd.returns] at h; cases h)
    refine ⟨_, _, pre3 _ ?_, hrun, hended, _, _, rfl, ?_, ⟨_, rfl⟩, hW, hsame.mono (by decide) (by decide)⟩
    · show SS p e below m T2 8 #[vr a1] [(.int n), (.int i)] _
      refine XS.icmpNo X2.here hx rfl (hb hby d11_8) rfl (tlt hc8_4).2.1 ?_
      show SS p e below m T2 11 #[vr a1] [] _
      refine XS.iconst X2.here hx rfl (hb hby d11_11) ?_
      show SS p e below m T2 12 #[vr a1] [(.int (1 : Int32))] _
      refine XS.goto X2.here hx rfl (pc0 := 12) (pc' := 16) rfl (hb hby d11_12) (by decide) (by decide) ?_
      show SS p e below m T2 16 #[vr a1] [(.int (1 : Int32))] _
      exact retN X2 hx (t := .boolean) Bd.returns (by simp) (hb hby d11_16) hr
    · show Q_rmHn Z a1 i n r h0 n0 _ T2.heap _
      rw [e2]
      exact ⟨(by rw [← hR0]; simp [hc8_4]), N0, rfl⟩
  · obtain ⟨fs, hr, hrun, hended, hW, hsame⟩ := X2.leave (v := some (.int (0 : Int32))) (fun h => by rw [Bd.returns] at h; cases h)
    refine ⟨_, _, pre3 _ ?_, hrun, hended, _, _, rfl, ?_, ⟨_, rfl⟩, hW, hsame.mono (by decide) (by decide)⟩
    · show SS p e below m T2 8 #[vr a1] [(.int n), (.int i)] _
      refine XS.icmpYes X2.here hx rfl (pc0 := 8) (pc' := 15) rfl (hb hby d11_8) rfl (flt hc8_4).2.1 (by decide) (by decide) ?_
      show SS p e below m T2 15 #[vr a1] [] _
      refine XS.iconst X2.here hx rfl (hb hby d11_15) ?_
      show SS p e below m T2 16 #[vr a1] [(.int (0 : Int32))] _
      exact retN X2 hx (t := .boolean) Bd.returns (by simp) (hb hby d11_16) hr
    · show Q_rmHn Z a1 i n r h0 n0 _ T2.heap _
      rw [e2]
      exact ⟨(by rw [← hR0]; simp [hc8_4]), N0, rfl⟩
theorem d12_0 : decode prog_113_method_3_code 0 = .ok (.aload_n 0, 1) := by decide +kernel
theorem d12_1 : decode prog_113_method_3_code 1 = .ok (.getfield 17, 3) := by decide +kernel
theorem d12_4 : decode prog_113_method_3_code 4 = .ok (.aload_n 0, 1) := by decide +kernel
theorem d12_5 : decode prog_113_method_3_code 5 = .ok (.getfield 1, 3) := by decide +kernel
theorem d12_8 : decode prog_113_method_3_code 8 = .ok (.if_icmp .ne 11, 3) := by decide +kernel
theorem d12_19 : decode prog_113_method_3_code 19 = .ok (.aload_n 0, 1) := by decide +kernel
theorem d12_20 : decode prog_113_method_3_code 20 = .ok (.getfield 7, 3) := by decide +kernel
theorem d12_23 : decode prog_113_method_3_code 23 = .ok (.aload_n 0, 1) := by decide +kernel
theorem d12_24 : decode prog_113_method_3_code 24 = .ok (.dup, 1) := by decide +kernel
theorem d12_25 : decode prog_113_method_3_code 25 = .ok (.getfield 17, 3) := by decide +kernel
theorem d12_28 : decode prog_113_method_3_code 28 = .ok (.dup_x1, 1) := by decide +kernel
theorem d12_29 : decode prog_113_method_3_code 29 = .ok (.iconst 1, 1) := by decide +kernel
theorem d12_30 : decode prog_113_method_3_code 30 = .ok (.iadd, 1) := by decide +kernel
theorem d12_31 : decode prog_113_method_3_code 31 = .ok (.putfield 17, 3) := by decide +kernel
theorem d12_34 : decode prog_113_method_3_code 34 = .ok (.aaload, 1) := by decide +kernel
theorem d12_35 : decode prog_113_method_3_code 35 = .ok (.areturn, 1) := by decide +kernel
theorem ef_rmNx (m : MethodId) (x0 : Addr) : entryFrame m #[(.ref x0)] 1 = mkF m 0 #[vr x0] [] := by first | (simp [entryFrame, mkF, argsToLocals, Value.category]; done) | rfl
def Q_rmNx (Z : State) (a1 : Addr) (i : Int32) (n : Int32) (arr : Addr) (k : ClassId) (cap : Int32) (vs : List Value) (x : Addr) (j : Int32) (h0 : Heap) (n0 : Nat) (v : Option Value) (h : Heap) (L : List Loc) : Prop := (v = some (.ref x)) ∧ (Fr n0 L) ∧ (Keep h0 h [a1]) ∧ (Fld Z h a1 "com/example/brisk_tableau/brisktableau/tableau/SharedList$1" "next" "I" (.int j)) ∧ (Fld Z h a1 "com/example/brisk_tableau/brisktableau/tableau/SharedList$1" "val$length" "I" (.int n)) ∧ (Fld Z h a1 "com/example/brisk_tableau/brisktableau/tableau/SharedList$1" "val$items" "[Ljava/lang/Object;" (.ref arr))
set_option maxRecDepth 65536 in
set_option maxHeartbeats 40000000 in
theorem rmNx (l : Launch) (Z : State) (a0 : Array Value) (hw : ∀ d ∈ tables_1, d.before a0 Z = true) (ws : List Jvm.Cond) (a1 : Addr) (i : Int32) (n : Int32) (arr : Addr) (k : ClassId) (cap : Int32) (vs : List Value) (x : Addr) (j : Int32) (h0 : Heap) (n0 : Nat) (Z0 : n0 ≤ h0.size) (O0 : Old Z n0 h0) (F_next_a1 : Fld Z h0 a1 "com/example/brisk_tableau/brisktableau/tableau/SharedList$1" "next" "I" (.int i)) (F_val_length_a1 : Fld Z h0 a1 "com/example/brisk_tableau/brisktableau/tableau/SharedList$1" "val$length" "I" (.int n)) (F_val_items_a1 : Fld Z h0 a1 "com/example/brisk_tableau/brisktableau/tableau/SharedList$1" "val$items" "[Ljava/lang/Object;" (.ref arr)) (E_a1 : Exa Z h0 a1 "com/example/brisk_tableau/brisktableau/tableau/SharedList$1") (E_arr : Exa Z h0 arr "[Ljava/lang/Object;") (V_arr : Arv Z h0 arr k (.object "java/lang/Object") cap vs .null) (g_a1 : n0 ≤ a1) (hN : ¬ i = n) (hC : ¬ i < 0) (hD : i < cap) (hX : vs.getD i.toNatClampNeg .null = .ref x) (hJ : i + (1 : Int32) = j) :
    MetFree l y_17 (head1 (Jvm.Cond.code y_17 prog_113_method_3_code 1 (some (.object "java/lang/Object")) :: ws) ({ frames := 0, cells := 0, slots := 0, locals := 0 } : Room)) (fun a U => a = #[(.ref a1)] ∧ Z.Warmed39 U.vm ∧ U.heap = h0) (fun _ _ _ _ _ => True) (fun _ U o U' => ∃ v L, o = .returned v ∧ Q_rmNx Z a1 i n arr k cap vs x j h0 n0 v U'.heap L ∧ FrameEnd U o U' L ({ frames := 0, cells := 0, slots := 0, locals := 0 } : Room).cells ({ frames := 0, cells := 0, slots := 0, locals := 0 } : Room).slots) := by
  refine MetFree.of_bodySF (plainFor_of_name pn_6) hisR ?_
  intro p e s m args below meth c s₁ Bd hml0 hP hK
  obtain ⟨rfl, hZ, hh⟩ := hP
  have hx := Bd.exec
  have hby := Bd.bytes
  have hml : c.maxLocals = 1 := hml0
  have hown : s.vm.findClass "com/example/brisk_tableau/brisktableau/tableau/SharedList$1" = some m.cls := findClass_of_methodNamed Bd.named
  have hnm := (name_of_methodNamed Bd.named Bd.method).1
  have X0 : Stand p l e ({ frames := 0, cells := 0, slots := 0, locals := 0 } : Room) s m #[(.ref a1)] below meth c s₁ [] 0 0 := Stand.of_body Bd
  have e0 : s₁.heap = h0 := by rw [← hh, Bd.state]; rfl
  have N0 := Fr.nil n0
  have KC : Keep h0 h0 [a1] := Keep.refl h0 _
  have pre0 : ∀ t, Steps p.tables e below (s₁.setTop (mkF m 0 #[vr a1] [])) t → Steps p.tables e below (s₁.setTop (entryFrame m #[(.ref a1)] 1)) t := fun t k => castTop (ef_rmNx m a1) k
  obtain ⟨T1, X1, e1, st1⟩ := getF X0 hx hZ hown (host := "") (Or.inl (ww hw 78 rfl)) Via.refl e0 F_next_a1 (g := (mkF m 1 #[vr a1] [(.ref a1)])) rfl rfl (hb hby d12_1)
  obtain ⟨T2, X2, e2, st2⟩ := getF X1 hx hZ hown (host := "") (Or.inl (ww hw 60 rfl)) Via.refl e1 F_val_length_a1 (g := (mkF m 5 #[vr a1] [(.ref a1), (.int i)])) rfl rfl (hb hby d12_5)
  obtain ⟨T3, X3, e3, st3⟩ := getF X2 hx hZ hown (host := "") (Or.inl (ww hw 62 rfl)) Via.refl e2 F_val_items_a1 (g := (mkF m 20 #[vr a1] [(.ref a1)])) rfl rfl (hb hby d12_20)
  obtain ⟨T4, X4, e4, st4⟩ := getF X3 hx hZ hown (host := "") (Or.inl (ww hw 78 rfl)) Via.refl e3 F_next_a1 (g := (mkF m 25 #[vr a1] [(.ref a1), (.ref a1), (.ref arr)])) rfl rfl (hb hby d12_25)
  obtain ⟨T5, h5, X5, e5, W5, st5⟩ := putF X4 hx hZ hown (host := "") (Or.inl (ww hw 78 rfl)) Via.refl e4 F_next_a1 E_a1 (Or.inl (ww hw 79 rfl)) (ww hw 55 rfl) (ty := .int) (by decide) rfl rfl (g := (mkF m 31 #[vr a1] [(.int (i + (1 : Int32))), (.ref a1), (.int i), (.ref arr)])) rfl rfl (hb hby d12_31)
  have N5 := Fr.snoc X5 N0 g_a1
  replace F_next_a1 := F_next_a1.same W5
  have nec_arr_a1 : arr ≠ a1 := Exa.ne E_arr E_a1 (by decide)
  replace F_val_length_a1 := F_val_length_a1.other W5 (Or.inr (slot_ne (Or.inr (ww hw 61 rfl)) (Or.inl (ww hw 79 rfl)) (by decide) (t := .int) (t' := .int) (by decide) (by decide)))
  replace F_val_items_a1 := F_val_items_a1.other W5 (Or.inr (slot_ne (Or.inr (ww hw 63 rfl)) (Or.inl (ww hw 79 rfl)) (by decide) (t := (.array (.object "java/lang/Object"))) (t' := .int) (by decide) (by decide)))
  replace E_a1 := E_a1.wr W5
  replace E_arr := E_arr.wr W5
  replace V_arr := V_arr.other W5 nec_arr_a1
  replace O0 := O0.wr W5 g_a1
  replace KC := KC.wr W5 (Or.inl (List.mem_of_getElem? (i := 0) rfl))
  have Vo6 := V_arr
  obtain ⟨cl6, Ar6, q6, Sz6, Nn6, Hh6, Gg6⟩ := Vo6
  have hin6 : ¬ (i < 0 ∨ cl6.slots.size ≤ (i).toNatClampNeg) := inb_of Sz6 ⟨hC, hD⟩
  have hat6 : cl6.slots[(i).toNatClampNeg]? = some (.ref x) := Has.at Hh6 hin6 hX
  have ia6 := State.isArrayOf_alike hZ.alike Ar6.2.1
  rw [hJ] at F_next_a1
  obtain ⟨fs, hr, hrun, hended, hW, hsame⟩ := X5.leave (v := some (.ref x)) (fun h => by rw [Bd.returns] at h; cases h)
  refine ⟨_, _, pre0 _ ?_, hrun, hended, _, _, rfl, ?_, ⟨_, rfl⟩, hW, hsame.mono (by decide) (by decide)⟩
  · show SS p e below m s₁ 0 #[vr a1] [] _
    refine XS.aloadN X0.here hx rfl (hb hby d12_0) rfl rfl ?_
    show SS p e below m s₁ 1 #[vr a1] [(.ref a1)] _
    refine st1 _ ?_
    show SS p e below m T1 4 #[vr a1] [(.int i)] _
    refine XS.aloadN X1.here hx rfl (hb hby d12_4) rfl rfl ?_
    show SS p e below m T1 5 #[vr a1] [(.ref a1), (.int i)] _
    refine st2 _ ?_
    show SS p e below m T2 8 #[vr a1] [(.int n), (.int i)] _
    refine XS.icmpYes X2.here hx rfl (pc0 := 8) (pc' := 19) rfl (hb hby d12_8) rfl (feq hN).2 (by decide) (by decide) ?_
    show SS p e below m T2 19 #[vr a1] [] _
    refine XS.aloadN X2.here hx rfl (hb hby d12_19) rfl rfl ?_
    show SS p e below m T2 20 #[vr a1] [(.ref a1)] _
    refine st3 _ ?_
    show SS p e below m T3 23 #[vr a1] [(.ref arr)] _
    refine XS.aloadN X3.here hx rfl (hb hby d12_23) rfl rfl ?_
    show SS p e below m T3 24 #[vr a1] [(.ref a1), (.ref arr)] _
    refine XS.dup X3.here hx rfl (hb hby d12_24) rfl rfl ?_
    show SS p e below m T3 25 #[vr a1] [(.ref a1), (.ref a1), (.ref arr)] _
    refine st4 _ ?_
    show SS p e below m T4 28 #[vr a1] [(.int i), (.ref a1), (.ref arr)] _
    refine XS.dupX1 X4.here hx rfl (hb hby d12_28) rfl rfl rfl ?_
    show SS p e below m T4 29 #[vr a1] [(.int i), (.ref a1), (.int i), (.ref arr)] _
    refine XS.iconst X4.here hx rfl (hb hby d12_29) ?_
    show SS p e below m T4 30 #[vr a1] [(.int (1 : Int32)), (.int i), (.ref a1), (.int i), (.ref arr)] _
    refine XS.iadd X4.here hx rfl (hb hby d12_30) rfl ?_
    show SS p e below m T4 31 #[vr a1] [(.int (i + (1 : Int32))), (.ref a1), (.int i), (.ref arr)] _
    refine st5 _ ?_
    show SS p e below m T5 34 #[vr a1] [(.int i), (.ref arr)] _
    refine X5.aaload hx (j := i) (v := (.ref x)) (by rw [e5]; exact Ar6.1) ia6 rfl Ar6.2.2 hin6 hat6 (g := (mkF m 34 #[vr a1] [(.int i), (.ref arr)])) rfl rfl (hb hby d12_34) _ ?_
    show SS p e below m T5 35 #[vr a1] [(.ref x)] _
    jvm_step X5.here [X5.here.top, hx, (hb hby d12_35), X5.method', Bd.returns, Value.isRef, FieldType.isReference]
    first | (intro acts; rw [hr _ acts rfl rfl rfl]) | rw [hr _ _ rfl rfl rfl]
    exact Steps.refl _
  · show Q_rmNx Z a1 i n arr k cap vs x j h0 n0 _ T5.heap _
    rw [e5]
    exact ⟨rfl, N5, KC, F_next_a1, F_val_length_a1, F_val_items_a1⟩
theorem pd_9 : parseMethodDescriptor "()Z" = some ⟨[], some .boolean⟩ := by decide +kernel
theorem pd_10 : parseMethodDescriptor "()Ljava/lang/Object;" = some ⟨[], some (.object "java/lang/Object")⟩ := by decide +kernel
theorem pd_11 : parseMethodDescriptor "()I" = some ⟨[], some .int⟩ := by decide +kernel
theorem d10_0 : decode method_2_code 0 = .ok (.iload_n 1, 1) := by decide +kernel
theorem d10_1 : decode method_2_code 1 = .ok (.iload_n 2, 1) := by decide +kernel
theorem d10_2 : decode method_2_code 2 = .ok (.if_icmp .ge 47, 3) := by decide +kernel
theorem d10_5 : decode method_2_code 5 = .ok (.aload_n 0, 1) := by decide +kernel
theorem d10_6 : decode method_2_code 6 = .ok (.invokeinterface 7 1, 5) := by decide +kernel
theorem d10_11 : decode method_2_code 11 = .ok (.ifCond .ne 5, 3) := by decide +kernel
theorem d10_16 : decode method_2_code 16 = .ok (.aload_n 0, 1) := by decide +kernel
theorem d10_17 : decode method_2_code 17 = .ok (.invokeinterface 13 1, 5) := by decide +kernel
theorem d10_22 : decode method_2_code 22 = .ok (.checkcast 17, 3) := by decide +kernel
theorem d10_25 : decode method_2_code 25 = .ok (.astore 4, 2) := by decide +kernel
theorem d10_27 : decode method_2_code 27 = .ok (.aload 4, 2) := by decide +kernel
theorem d10_29 : decode method_2_code 29 = .ok (.ifnull 18, 3) := by decide +kernel
theorem d10_32 : decode method_2_code 32 = .ok (.aload 4, 2) := by decide +kernel
theorem d10_34 : decode method_2_code 34 = .ok (.invokevirtual 19, 3) := by decide +kernel
theorem d10_37 : decode method_2_code 37 = .ok (.aload_n 3, 1) := by decide +kernel
theorem d10_38 : decode method_2_code 38 = .ok (.iload_n 1, 1) := by decide +kernel
theorem d10_39 : decode method_2_code 39 = .ok (.iaload, 1) := by decide +kernel
theorem d10_40 : decode method_2_code 40 = .ok (.if_icmp .ne 7, 3) := by decide +kernel
theorem d10_43 : decode method_2_code 43 = .ok (.iconst 1, 1) := by decide +kernel
theorem d10_44 : decode method_2_code 44 = .ok (.goto 4, 3) := by decide +kernel
theorem d10_48 : decode method_2_code 48 = .ok (.ireturn, 1) := by decide +kernel
theorem pn_7 : plainName "com/example/brisk_tableau/brisktableau/tableau/SharedListIteratorPinLaw" = true := by first | (simp [plainName, overriddenIn]; done) | decide +kernel
theorem ef_rmStA (m : MethodId) (x0 : Addr) (x1 : Int32) (x2 : Int32) (x3 : Addr) : entryFrame m #[(.ref x0), (.int x1), (.int x2), (.ref x3)] 5 = mkF m 0 #[vr x0, vi x1, vi x2, vr x3, .unset] [] := by first | (simp [entryFrame, mkF, argsToLocals, Value.category]; done) | rfl
def Q_rmStA (Z : State) (a1 : Addr) (p2 : Int32) (p3 : Int32) (a4 : Addr) (arr : Addr) (k : ClassId) (cap : Int32) (vs : List Value) (x : Addr) (q : Int32) (k4 : ClassId) (z4 : Int32) (vs4 : List Value) (j : Int32) (h0 : Heap) (n0 : Nat) (v : Option Value) (h : Heap) (L : List Loc) : Prop := (v = some (.int (1 : Int32))) ∧ (Fr n0 L) ∧ (Keep h0 h [a1]) ∧ (Fld Z h a1 "com/example/brisk_tableau/brisktableau/tableau/SharedList$1" "next" "I" (.int j)) ∧ (Fld Z h a1 "com/example/brisk_tableau/brisktableau/tableau/SharedList$1" "val$length" "I" (.int p3)) ∧ (Fld Z h a1 "com/example/brisk_tableau/brisktableau/tableau/SharedList$1" "val$items" "[Ljava/lang/Object;" (.ref arr))
set_option maxRecDepth 65536 in
set_option maxHeartbeats 40000000 in
theorem rmStA (l : Launch) (Z : State) (a0 : Array Value) (hw : ∀ d ∈ tables_1, d.before a0 Z = true) (ws : List Jvm.Cond) (a1 : Addr) (p2 : Int32) (p3 : Int32) (a4 : Addr) (arr : Addr) (k : ClassId) (cap : Int32) (vs : List Value) (x : Addr) (q : Int32) (k4 : ClassId) (z4 : Int32) (vs4 : List Value) (j : Int32) (h0 : Heap) (n0 : Nat) (Z0 : n0 ≤ h0.size) (O0 : Old Z n0 h0) (F_next_a1 : Fld Z h0 a1 "com/example/brisk_tableau/brisktableau/tableau/SharedList$1" "next" "I" (.int p2)) (F_val_length_a1 : Fld Z h0 a1 "com/example/brisk_tableau/brisktableau/tableau/SharedList$1" "val$length" "I" (.int p3)) (F_val_items_a1 : Fld Z h0 a1 "com/example/brisk_tableau/brisktableau/tableau/SharedList$1" "val$items" "[Ljava/lang/Object;" (.ref arr)) (E_a1 : Exa Z h0 a1 "com/example/brisk_tableau/brisktableau/tableau/SharedList$1") (E_arr : Exa Z h0 arr "[Ljava/lang/Object;") (V_arr : Arv Z h0 arr k (.object "java/lang/Object") cap vs .null) (E_x : Exa Z h0 x "java/lang/Integer") (F_value_x : Fld Z h0 x "java/lang/Integer" "value" "I" (.int q)) (V_a4 : Arv Z h0 a4 k4 .int z4 vs4 (.int (0 : Int32))) (g_a1 : n0 ≤ a1) (ne_a4 : a4 ≠ a1) (hI : p2 < p3) (hC : ¬ p2 < 0) (hD : p2 < cap) (hX : vs.getD p2.toNatClampNeg .null = .ref x) (hE : p2 < z4) (hQ : vs4.getD p2.toNatClampNeg (.int (0 : Int32)) = .int q) (hJ : p2 + (1 : Int32) = j) :
    MetFree l y_20 (head1 (Jvm.Cond.code y_20 method_2_code 5 (some .boolean) :: ws) ({ frames := 1, cells := 0, slots := 0, locals := 12 } : Room)) (fun a U => a = #[(.ref a1), (.int p2), (.int p3), (.ref a4)] ∧ Z.Warmed39 U.vm ∧ U.heap = h0) (fun _ _ _ _ _ => True) (fun _ U o U' => ∃ v L, o = .returned v ∧ Q_rmStA Z a1 p2 p3 a4 arr k cap vs x q k4 z4 vs4 j h0 n0 v U'.heap L ∧ FrameEnd U o U' L ({ frames := 1, cells := 0, slots := 0, locals := 12 } : Room).cells ({ frames := 1, cells := 0, slots := 0, locals := 12 } : Room).slots) := by
  refine MetFree.of_bodySF (plainFor_of_name pn_7) hisR ?_
  intro p e s m args below meth c s₁ Bd hml0 hP hK
  obtain ⟨rfl, hZ, hh⟩ := hP
  have hx := Bd.exec
  have hby := Bd.bytes
  have hml : c.maxLocals = 5 := hml0
  have hown : s.vm.findClass "com/example/brisk_tableau/brisktableau/tableau/SharedListIteratorPinLaw" = some m.cls := findClass_of_methodNamed Bd.named
  have hnm := (name_of_methodNamed Bd.named Bd.method).1
  have X0 : Stand p l e ({ frames := 1, cells := 0, slots := 0, locals := 12 } : Room) s m #[(.ref a1), (.int p2), (.int p3), (.ref a4)] below meth c s₁ [] 0 0 := Stand.of_body Bd
  have e0 : s₁.heap = h0 := by rw [← hh, Bd.state]; rfl
  have N0 := Fr.nil n0
  have KC : Keep h0 h0 [a1] := Keep.refl h0 _
  have pre0 : ∀ t, Steps p.tables e below (s₁.setTop (mkF m 0 #[vr a1, vi p2, vi p3, vr a4, un] [])) t → Steps p.tables e below (s₁.setTop (entryFrame m #[(.ref a1), (.int p2), (.int p3), (.ref a4)] 5)) t := fun t k => castTop (ef_rmStA m a1 p2 p3 a4) k
  obtain ⟨cq1, kq1, q1a, q1b, q1c⟩ := isOf hZ e0 E_a1
  obtain ⟨_, _, ⟨T1, L1, kz1, nz1⟩, -, X1, ⟨Lc1, hQ1, l1, y1, z1⟩, st1⟩ := X0.interfaceBack hx (xi := y_18) (y := y_16) hown (mvT hZ (ww hw 69 rfl)) (mvT hZ (ww hw 70 rfl)) (mvT hZ (ww hw 71 rfl)) (mvT hZ (ww hw 72 rfl)) (mvT hZ (ww hw 73 rfl)) (mvT hZ (ww hw 74 rfl)) (mvT hZ (ww hw 75 rfl)) (mvT hZ (ww hw 76 rfl)) (by decide) (backOf (W := 0) (rmHn l Z a0 hw [] a1 p2 p3 (1 : Int32) h0 n0 (Nat.le_trans Z0 KC.1) O0 F_next_a1 F_val_length_a1 (if_pos hI)) hZ (ww hw 77 rfl) (ww hw 56 rfl) (by decide) (by decide)) q1a q1b q1c (g := (mkF m 6 #[vr a1, vi p2, vi p3, vr a4, un] [(.ref a1)])) rfl (by rw [hml]; rfl) (Steps.refl _) (argsL := []) (rest := []) (lenOf pd_9 rfl) rfl (by show 2 * 0 + _ ≤ _; exact Nat.le_of_eq rfl) (hb hby d10_6) (fun _ _ => ⟨rfl, e0, (by decide : 0 + 0 ≤ _), (by decide : 0 + 0 ≤ _)⟩)
  dsimp only [Pt.U, Pt.locs, Pt.cells, Pt.slots] at X1 l1 y1 z1 st1 hQ1
  subst l1 y1 z1
  obtain ⟨rfl, N1q, e1⟩ := hQ1
  have N1 := Fr.app N0 N1q
  obtain ⟨cq2, kq2, q2a, q2b, q2c⟩ := isOf hZ e1 E_a1
  obtain ⟨_, _, ⟨T2, L2, kz2, nz2⟩, -, X2, ⟨Lc2, hQ2, l2, y2, z2⟩, st2⟩ := X1.interfaceBack hx (xi := y_19) (y := y_17) hown (mvT hZ (ww hw 80 rfl)) (mvT hZ (ww hw 81 rfl)) (mvT hZ (ww hw 82 rfl)) (mvT hZ (ww hw 83 rfl)) (mvT hZ (ww hw 84 rfl)) (mvT hZ (ww hw 85 rfl)) (mvT hZ (ww hw 86 rfl)) (mvT hZ (ww hw 76 rfl)) (by decide) (backOf (W := 0) (rmNx l Z a0 hw [] a1 p2 p3 arr k cap vs x j h0 n0 (Nat.le_trans Z0 KC.1) O0 F_next_a1 F_val_length_a1 F_val_items_a1 E_a1 E_arr V_arr g_a1 (own_nelt hI) hC hD hX hJ) hZ (ww hw 87 rfl) (ww hw 56 rfl) (by decide) (by decide)) q2a q2b q2c (g := (mkF m 17 #[vr a1, vi p2, vi p3, vr a4, un] [(.ref a1)])) rfl (by rw [hml]; rfl) (Steps.refl _) (argsL := []) (rest := []) (lenOf pd_10 rfl) rfl (by show 2 * 0 + _ ≤ _; exact Nat.le_of_eq rfl) (hb hby d10_17) (fun _ _ => ⟨rfl, e1, (by decide : 0 + 0 ≤ _), (by decide : 0 + 0 ≤ _)⟩)
  dsimp only [Pt.U, Pt.locs, Pt.cells, Pt.slots] at X2 l2 y2 z2 st2 hQ2
  subst l2 y2 z2
  obtain ⟨rfl, N2q, K2, F_next_a1_2, F_val_length_a1_2, F_val_items_a1_2⟩ := hQ2
  have N2 := Fr.app N1 N2q
  have nec_arr_a1 : arr ≠ a1 := Exa.ne E_arr E_a1 (by decide)
  have nec_x_a1 : x ≠ a1 := Exa.ne E_x E_a1 (by decide)
  replace E_a1 := E_a1.keep K2
  replace E_arr := E_arr.keep K2
  replace V_arr := V_arr.keep K2 (ninS nec_arr_a1 nin0)
  replace E_x := E_x.keep K2
  replace F_value_x := F_value_x.keep K2 (ninS nec_x_a1 nin0)
  replace V_a4 := V_a4.keep K2 (ninS ne_a4 nin0)
  replace O0 := O0.keep K2 (allS g_a1 all0)
  replace KC := KC.trans K2 (allS (Or.inl (List.mem_of_getElem? (i := 0) rfl)) all0)
  obtain ⟨T3, X3, e3, st3⟩ := castY X2 hx hZ hown (ww hw 88 rfl) rfl (Ins.self E_x) (g := (mkF m 22 #[vr a1, vi p2, vi p3, vr a4, un] [(.ref x)])) rfl rfl (hb hby d10_22)
  obtain ⟨cq4, kq4, q4a, q4b, q4c⟩ := isOf hZ e3 E_x
  obtain ⟨_, _, ⟨T4, L4, kz4, nz4⟩, -, X4, ⟨Lc4, hQ4, l4, y4, z4⟩, st4⟩ := X3.virtualBack hx (y := y_6) (z := y_6) hown (mvT hZ (ww hw 90 rfl)) (mvT hZ (ww hw 91 rfl)) (notFace_of_selects (args := #[]) (mvT hZ (ww hw 93 rfl))) (mvT hZ (ww hw 93 rfl)) (mvT hZ (ww hw 92 rfl)) (by decide) (backOf (W := 0) (rmIv l Z a0 hw [] x q T2.heap n0 (Nat.le_trans Z0 KC.1) O0 F_value_x) hZ (ww hw 94 rfl) (ww hw 32 rfl) (by decide) (by decide)) q4a q4c (g := (mkF m 34 #[vr a1, vi p2, vi p3, vr a4, vr x] [(.ref x)])) rfl (by rw [hml]; rfl) (Steps.refl _) (argsL := []) (rest := []) (lenOf pd_11 rfl) rfl (by show 2 * 0 + _ ≤ _; exact Nat.le_of_eq rfl) (hb hby d10_34) (fun _ _ => ⟨rfl, e3, (by decide : 0 + 0 ≤ _), (by decide : 0 + 0 ≤ _)⟩)
  dsimp only [Pt.U, Pt.locs, Pt.cells, Pt.slots] at X4 l4 y4 z4 st4 hQ4
  subst l4 y4 z4
  obtain ⟨rfl, N4q, e4⟩ := hQ4
  have N4 := Fr.app N2 N4q
  have Vo5 := V_a4
  obtain ⟨cl5, Ar5, q5, Sz5, Nn5, Hh5, Gg5⟩ := Vo5
  have hin5 : ¬ (p2 < 0 ∨ cl5.slots.size ≤ (p2).toNatClampNeg) := inb_of Sz5 ⟨hC, hE⟩
  have hat5 : cl5.slots[(p2).toNatClampNeg]? = some (.int q) := Has.at Hh5 hin5 hQ
  have ia5 := State.isArrayOf_alike hZ.alike Ar5.2.1
  obtain ⟨fs, hr, hrun, hended, hW, hsame⟩ := X4.leave (v := some (.int (1 : Int32))) (fun h => by rw [Bd.returns] at h; cases h)
  refine ⟨_, _, pre0 _ ?_, hrun, hended, _, _, rfl, ?_, ⟨_, rfl⟩, hW, hsame.mono (by decide) (by decide)⟩
  · show SS p e below m s₁ 0 #[vr a1, vi p2, vi p3, vr a4, un] [] _
    refine XS.iloadN X0.here hx rfl (hb hby d10_0) rfl ?_
    show SS p e below m s₁ 1 #[vr a1, vi p2, vi p3, vr a4, un] [(.int p2)] _
    refine XS.iloadN X0.here hx rfl (hb hby d10_1) rfl ?_
    show SS p e below m s₁ 2 #[vr a1, vi p2, vi p3, vr a4, un] [(.int p3), (.int p2)] _
    refine XS.icmpNo X0.here hx rfl (hb hby d10_2) rfl (tlt hI).2.1 ?_
    show SS p e below m s₁ 5 #[vr a1, vi p2, vi p3, vr a4, un] [] _
    refine XS.aloadN X0.here hx rfl (hb hby d10_5) rfl rfl ?_
    show SS p e below m s₁ 6 #[vr a1, vi p2, vi p3, vr a4, un] [(.ref a1)] _
    refine st1.trans ?_
    show SS p e below m T1 11 #[vr a1, vi p2, vi p3, vr a4, un] [(.int (1 : Int32))] _
    refine XS.ifYes X1.here hx rfl (pc0 := 11) (pc' := 16) rfl (hb hby d10_11) rfl ((if0 _ _).trans (feq (by decide)).2) (by decide) (by decide) ?_
    show SS p e below m T1 16 #[vr a1, vi p2, vi p3, vr a4, un] [] _
    refine XS.aloadN X1.here hx rfl (hb hby d10_16) rfl rfl ?_
    show SS p e below m T1 17 #[vr a1, vi p2, vi p3, vr a4, un] [(.ref a1)] _
    refine st2.trans ?_
    show SS p e below m T2 22 #[vr a1, vi p2, vi p3, vr a4, un] [(.ref x)] _
    refine st3 _ ?_
    show SS p e below m T3 25 #[vr a1, vi p2, vi p3, vr a4, un] [(.ref x)] _
    refine XS.astore X3.here hx rfl (hb hby d10_25) rfl rfl (l' := #[vr a1, vi p2, vi p3, vr a4, vr x]) rfl ?_
    show SS p e below m T3 27 #[vr a1, vi p2, vi p3, vr a4, vr x] [] _
    refine XS.aload X3.here hx rfl (hb hby d10_27) rfl rfl ?_
    show SS p e below m T3 29 #[vr a1, vi p2, vi p3, vr a4, vr x] [(.ref x)] _
    refine XS.ifnullNo X3.here hx rfl (hb hby d10_29) rfl ?_
    show SS p e below m T3 32 #[vr a1, vi p2, vi p3, vr a4, vr x] [] _
    refine XS.aload X3.here hx rfl (hb hby d10_32) rfl rfl ?_
    show SS p e below m T3 34 #[vr a1, vi p2, vi p3, vr a4, vr x] [(.ref x)] _
    refine st4.trans ?_
    show SS p e below m T4 37 #[vr a1, vi p2, vi p3, vr a4, vr x] [(.int q)] _
    refine XS.aloadN X4.here hx rfl (hb hby d10_37) rfl rfl ?_
    show SS p e below m T4 38 #[vr a1, vi p2, vi p3, vr a4, vr x] [(.ref a4), (.int q)] _
    refine XS.iloadN X4.here hx rfl (hb hby d10_38) rfl ?_
    show SS p e below m T4 39 #[vr a1, vi p2, vi p3, vr a4, vr x] [(.int p2), (.ref a4), (.int q)] _
    refine X4.iaload hx (j := p2) (v := (.int q)) (by rw [e4]; exact Ar5.1) ia5 Ar5.2.2 hin5 hat5 (g := (mkF m 39 #[vr a1, vi p2, vi p3, vr a4, vr x] [(.int p2), (.ref a4), (.int q)])) rfl rfl (hb hby d10_39) _ ?_
    show SS p e below m T4 40 #[vr a1, vi p2, vi p3, vr a4, vr x] [(.int q), (.int q)] _
    refine XS.icmpNo X4.here hx rfl (hb hby d10_40) rfl (teq rfl).2 ?_
    show SS p e below m T4 43 #[vr a1, vi p2, vi p3, vr a4, vr x] [] _
    refine XS.iconst X4.here hx rfl (hb hby d10_43) ?_
    show SS p e below m T4 44 #[vr a1, vi p2, vi p3, vr a4, vr x] [(.int (1 : Int32))] _
    refine XS.goto X4.here hx rfl (pc0 := 44) (pc' := 48) rfl (hb hby d10_44) (by decide) (by decide) ?_
    show SS p e below m T4 48 #[vr a1, vi p2, vi p3, vr a4, vr x] [(.int (1 : Int32))] _
    exact retN X4 hx (t := .boolean) Bd.returns (by simp) (hb hby d10_48) hr
  · show Q_rmStA Z a1 p2 p3 a4 arr k cap vs x q k4 z4 vs4 j h0 n0 _ T4.heap _
    rw [e4]
    exact ⟨rfl, N4, KC, F_next_a1_2, F_val_length_a1_2, F_val_items_a1_2⟩
theorem d10_49 : decode method_2_code 49 = .ok (.aload_n 0, 1) := by decide +kernel
theorem d10_50 : decode method_2_code 50 = .ok (.invokeinterface 7 1, 5) := by decide +kernel
theorem d10_55 : decode method_2_code 55 = .ok (.ifCond .ne 7, 3) := by decide +kernel
theorem d10_58 : decode method_2_code 58 = .ok (.iconst 1, 1) := by decide +kernel
theorem d10_59 : decode method_2_code 59 = .ok (.goto 4, 3) := by decide +kernel
theorem d10_63 : decode method_2_code 63 = .ok (.ireturn, 1) := by decide +kernel
theorem ef_rmStB (m : MethodId) (x0 : Addr) (x1 : Int32) (x2 : Int32) (x3 : Addr) : entryFrame m #[(.ref x0), (.int x1), (.int x2), (.ref x3)] 5 = mkF m 0 #[vr x0, vi x1, vi x2, vr x3, .unset] [] := by first | (simp [entryFrame, mkF, argsToLocals, Value.category]; done) | rfl
def Q_rmStB (Z : State) (a1 : Addr) (p2 : Int32) (p3 : Int32) (a4 : Addr) (i : Int32) (n : Int32) (h0 : Heap) (n0 : Nat) (v : Option Value) (h : Heap) (L : List Loc) : Prop := (v = some (.int (1 : Int32))) ∧ (Fr n0 L) ∧ (h = h0)
set_option maxRecDepth 65536 in
set_option maxHeartbeats 40000000 in
theorem rmStB (l : Launch) (Z : State) (a0 : Array Value) (hw : ∀ d ∈ tables_1, d.before a0 Z = true) (ws : List Jvm.Cond) (a1 : Addr) (p2 : Int32) (p3 : Int32) (a4 : Addr) (i : Int32) (n : Int32) (h0 : Heap) (n0 : Nat) (Z0 : n0 ≤ h0.size) (O0 : Old Z n0 h0) (F_next_a1 : Fld Z h0 a1 "com/example/brisk_tableau/brisktableau/tableau/SharedList$1" "next" "I" (.int i)) (F_val_length_a1 : Fld Z h0 a1 "com/example/brisk_tableau/brisktableau/tableau/SharedList$1" "val$length" "I" (.int n)) (E_a1 : Exa Z h0 a1 "com/example/brisk_tableau/brisktableau/tableau/SharedList$1") (hI : ¬ p2 < p3) (hH : (if i < n then (1 : Int32) else 0) = 0) :
    MetFree l y_20 (head1 (Jvm.Cond.code y_20 method_2_code 5 (some .boolean) :: ws) ({ frames := 1, cells := 0, slots := 0, locals := 12 } : Room)) (fun a U => a = #[(.ref a1), (.int p2), (.int p3), (.ref a4)] ∧ Z.Warmed39 U.vm ∧ U.heap = h0) (fun _ _ _ _ _ => True) (fun _ U o U' => ∃ v L, o = .returned v ∧ Q_rmStB Z a1 p2 p3 a4 i n h0 n0 v U'.heap L ∧ FrameEnd U o U' L ({ frames := 1, cells := 0, slots := 0, locals := 12 } : Room).cells ({ frames := 1, cells := 0, slots := 0, locals := 12 } : Room).slots) := by
  refine MetFree.of_bodySF (plainFor_of_name pn_7) hisR ?_
  intro p e s m args below meth c s₁ Bd hml0 hP hK
  obtain ⟨rfl, hZ, hh⟩ := hP
  have hx := Bd.exec
  have hby := Bd.bytes
  have hml : c.maxLocals = 5 := hml0
  have hown : s.vm.findClass "com/example/brisk_tableau/brisktableau/tableau/SharedListIteratorPinLaw" = some m.cls := findClass_of_methodNamed Bd.named
  have hnm := (name_of_methodNamed Bd.named Bd.method).1
  have X0 : Stand p l e ({ frames := 1, cells := 0, slots := 0, locals := 12 } : Room) s m #[(.ref a1), (.int p2), (.int p3), (.ref a4)] below meth c s₁ [] 0 0 := Stand.of_body Bd
  have e0 : s₁.heap = h0 := by rw [← hh, Bd.state]; rfl
  have N0 := Fr.nil n0
  have KC : Keep h0 h0 [] := Keep.refl h0 _
  have pre0 : ∀ t, Steps p.tables e below (s₁.setTop (mkF m 0 #[vr a1, vi p2, vi p3, vr a4, un] [])) t → Steps p.tables e below (s₁.setTop (entryFrame m #[(.ref a1), (.int p2), (.int p3), (.ref a4)] 5)) t := fun t k => castTop (ef_rmStB m a1 p2 p3 a4) k
  obtain ⟨cq1, kq1, q1a, q1b, q1c⟩ := isOf hZ e0 E_a1
  obtain ⟨_, _, ⟨T1, L1, kz1, nz1⟩, -, X1, ⟨Lc1, hQ1, l1, y1, z1⟩, st1⟩ := X0.interfaceBack hx (xi := y_18) (y := y_16) hown (mvT hZ (ww hw 69 rfl)) (mvT hZ (ww hw 70 rfl)) (mvT hZ (ww hw 71 rfl)) (mvT hZ (ww hw 72 rfl)) (mvT hZ (ww hw 73 rfl)) (mvT hZ (ww hw 74 rfl)) (mvT hZ (ww hw 75 rfl)) (mvT hZ (ww hw 76 rfl)) (by decide) (backOf (W := 0) (rmHn l Z a0 hw [] a1 i n (0 : Int32) h0 n0 (Nat.le_trans Z0 KC.1) O0 F_next_a1 F_val_length_a1 hH) hZ (ww hw 77 rfl) (ww hw 56 rfl) (by decide) (by decide)) q1a q1b q1c (g := (mkF m 50 #[vr a1, vi p2, vi p3, vr a4, un] [(.ref a1)])) rfl (by rw [hml]; rfl) (Steps.refl _) (argsL := []) (rest := []) (lenOf pd_9 rfl) rfl (by show 2 * 0 + _ ≤ _; exact Nat.le_of_eq rfl) (hb hby d10_50) (fun _ _ => ⟨rfl, e0, (by decide : 0 + 0 ≤ _), (by decide : 0 + 0 ≤ _)⟩)
  dsimp only [Pt.U, Pt.locs, Pt.cells, Pt.slots] at X1 l1 y1 z1 st1 hQ1
  subst l1 y1 z1
  obtain ⟨rfl, N1q, e1⟩ := hQ1
  have N1 := Fr.app N0 N1q
  obtain ⟨fs, hr, hrun, hended, hW, hsame⟩ := X1.leave (v := some (.int (1 : Int32))) (fun h => by rw [Bd.returns] at h; cases h)
  refine ⟨_, _, pre0 _ ?_, hrun, hended, _, _, rfl, ?_, ⟨_, rfl⟩, hW, hsame.mono (by decide) (by decide)⟩
  · show SS p e below m s₁ 0 #[vr a1, vi p2, vi p3, vr a4, un] [] _
    refine XS.iloadN X0.here hx rfl (hb hby d10_0) rfl ?_
    show SS p e below m s₁ 1 #[vr a1, vi p2, vi p3, vr a4, un] [(.int p2)] _
    refine XS.iloadN X0.here hx rfl (hb hby d10_1) rfl ?_
    show SS p e below m s₁ 2 #[vr a1, vi p2, vi p3, vr a4, un] [(.int p3), (.int p2)] _
    refine XS.icmpYes X0.here hx rfl (pc0 := 2) (pc' := 49) rfl (hb hby d10_2) rfl (flt hI).2.1 (by decide) (by decide) ?_
    show SS p e below m s₁ 49 #[vr a1, vi p2, vi p3, vr a4, un] [] _
    refine XS.aloadN X0.here hx rfl (hb hby d10_49) rfl rfl ?_
    show SS p e below m s₁ 50 #[vr a1, vi p2, vi p3, vr a4, un] [(.ref a1)] _
    refine st1.trans ?_
    show SS p e below m T1 55 #[vr a1, vi p2, vi p3, vr a4, un] [(.int (0 : Int32))] _
    refine XS.ifNo X1.here hx rfl (hb hby d10_55) rfl ((if0 _ _).trans (teq (by decide)).2) ?_
    show SS p e below m T1 58 #[vr a1, vi p2, vi p3, vr a4, un] [] _
    refine XS.iconst X1.here hx rfl (hb hby d10_58) ?_
    show SS p e below m T1 59 #[vr a1, vi p2, vi p3, vr a4, un] [(.int (1 : Int32))] _
    refine XS.goto X1.here hx rfl (pc0 := 59) (pc' := 63) rfl (hb hby d10_59) (by decide) (by decide) ?_
    show SS p e below m T1 63 #[vr a1, vi p2, vi p3, vr a4, un] [(.int (1 : Int32))] _
    exact retN X1 hx (t := .boolean) Bd.returns (by simp) (hb hby d10_63) hr
  · show Q_rmStB Z a1 p2 p3 a4 i n h0 n0 _ T1.heap _
    rw [e1]
    exact ⟨rfl, N1, rfl⟩
theorem pd_12 : parseMethodDescriptor "(Ljava/util/Iterator;II[I)Z" = some ⟨[(.object "java/util/Iterator"), .int, .int, (.array .int)], some .boolean⟩ := by decide +kernel
set_option maxRecDepth 65536 in
set_option maxHeartbeats 40000000 in
theorem tail0 {p : Program} {l : Launch} {e : Env} {R : Room} {s : State} {m : MethodId} {args : Array Value} {below : List Frame} {meth : Method} {c : Code} {T0 : State} {locs : List Loc} {cells slots : Nat} {Z : State} {a0 : Array Value} (hw : ∀ d ∈ tables_1, d.before a0 Z = true) (X0 : Stand p l e R s m args below meth c T0 locs cells slots) (hx : p.tables.exec = Jvm.exec) (hZ : Z.Warmed39 s.vm) (hby : c.code = code) (hml : c.maxLocals = 12) (hown : s.vm.findClass "com/example/brisk_tableau/brisktableau/tableau/SharedListIteratorPinLaw" = some m.cls) (p1 : Int32) (p2 : Int32) (p3 : Int32) (p4 : Int32) (p5 : Int32) (p6 : Int32) (c1 : Int32) (c2 : Int32) (va : Addr) (li : Addr) (it : Addr) (arr : Addr) (kk : ClassId) (cap : Int32) (vs : List Value) (k4 : ClassId) (h0 : Heap) (n0 : Nat) (e0 : T0.heap = h0) (Z0 : n0 ≤ h0.size) (O0 : Old Z n0 h0) (N0 : Fr n0 locs) (F_next_it : Fld Z h0 it "com/example/brisk_tableau/brisktableau/tableau/SharedList$1" "next" "I" (.int (0 : Int32))) (F_val_length_it : Fld Z h0 it "com/example/brisk_tableau/brisktableau/tableau/SharedList$1" "val$length" "I" (.int (0 : Int32))) (F_val_items_it : Fld Z h0 it "com/example/brisk_tableau/brisktableau/tableau/SharedList$1" "val$items" "[Ljava/lang/Object;" (.ref arr)) (E_it : Exa Z h0 it "com/example/brisk_tableau/brisktableau/tableau/SharedList$1") (E_arr : Exa Z h0 arr "[Ljava/lang/Object;") (V_arr : Arv Z h0 arr kk (.object "java/lang/Object") cap vs .null) (V_va : Arv Z h0 va k4 .int (5 : Int32) [(.int p1), (.int p2), (.int p3), (.int p4), (.int p5)] (.int (0 : Int32))) (g_it : n0 ≤ it) (ne_va : va ≠ it) (hRf : 2 ≤ R.frames) (hRl : 28 ≤ R.locals) (hRc : cells + 0 ≤ R.cells) (hRs : slots + 0 ≤ R.slots) :
    ∃ (T' : State) (h' : Heap) (L' : List Loc), (Stand p l e R s m args below meth c T' L' (cells + 0) (slots + 0)) ∧ (T'.heap = h') ∧ (Fr n0 L') ∧ (Keep h0 h' [it]) ∧ (∀ t, Steps p.tables e below (T'.setTop (mkF m 282 #[vi p1, vi p2, vi p3, vi p4, vi p5, vi p6, vi (0 : Int32), vi c1, vi c2, vr va, vr li, vr it] [(.int (0 : Int32))])) t → Steps p.tables e below (T0.setTop (mkF m 197 #[vi p1, vi p2, vi p3, vi p4, vi p5, vi p6, vi (0 : Int32), vi c1, vi c2, vr va, vr li, vr it] [])) t) := by
  have KC : Keep h0 h0 [it] := Keep.refl h0 _
  have pre0 : ∀ t, Steps p.tables e below (T0.setTop (mkF m 197 #[vi p1, vi p2, vi p3, vi p4, vi p5, vi p6, vi (0 : Int32), vi c1, vi c2, vr va, vr li, vr it] [])) t → Steps p.tables e below (T0.setTop (mkF m 197 #[vi p1, vi p2, vi p3, vi p4, vi p5, vi p6, vi (0 : Int32), vi c1, vi c2, vr va, vr li, vr it] [])) t := fun _ k => k
  obtain ⟨_, _, ⟨T1, L1, kz1, nz1⟩, -, X1, ⟨Lc1, hQ1, l1, y1, z1⟩, st1⟩ := Jvm.LawKit.callS X0 hx (y := y_20) hown (mvT hZ (ww hw 65 rfl)) (mvT hZ (ww hw 66 rfl)) (mvT hZ (ww hw 67 rfl)) (mvT hZ (ww hw 68 rfl)) (by decide) (backOf (W := 0) (rmStB l Z a0 hw [] it (0 : Int32) (0 : Int32) va (0 : Int32) (0 : Int32) h0 n0 (Nat.le_trans Z0 KC.1) O0 F_next_it F_val_length_it E_it (by decide) (by decide)) hZ (ww hw 68 rfl) (ww hw 67 rfl) (Nat.le_trans (by decide) hRf) (Nat.le_trans (by decide) hRl)) (g := (mkF m 204 #[vi p1, vi p2, vi p3, vi p4, vi p5, vi p6, vi (0 : Int32), vi c1, vi c2, vr va, vr li, vr it] [(.ref va), (.int (0 : Int32)), (.int (0 : Int32)), (.ref it)])) rfl (by rw [hml]; rfl) (argsL := [(.ref it), (.int (0 : Int32)), (.int (0 : Int32)), (.ref va)]) (rest := []) (lenOf pd_12 rfl) rfl (by show 2 * 0 + _ ≤ _; exact Nat.le_of_eq rfl) (hb hby at_204) (fun _ _ => ⟨rfl, e0, (Nat.le_trans (by omega : cells + 0 + 0 ≤ cells + 0) hRc), (Nat.le_trans (by omega : slots + 0 + 0 ≤ slots + 0) hRs)⟩)
  dsimp only [Pt.U, Pt.locs, Pt.cells, Pt.slots] at X1 l1 y1 z1 st1 hQ1
  subst l1; rw [y1, z1] at X1
  obtain ⟨rfl, N1q, e1⟩ := hQ1
  have N1 := Fr.app N0 N1q
  obtain ⟨_, _, ⟨T2, L2, kz2, nz2⟩, -, X2, ⟨Lc2, hQ2, l2, y2, z2⟩, st2⟩ := Jvm.LawKit.callS X1 hx (y := y_20) hown (mvT hZ (ww hw 65 rfl)) (mvT hZ (ww hw 66 rfl)) (mvT hZ (ww hw 67 rfl)) (mvT hZ (ww hw 68 rfl)) (by decide) (backOf (W := 0) (rmStB l Z a0 hw [] it (1 : Int32) (0 : Int32) va (0 : Int32) (0 : Int32) h0 n0 (Nat.le_trans Z0 KC.1) O0 F_next_it F_val_length_it E_it (by decide) (by decide)) hZ (ww hw 68 rfl) (ww hw 67 rfl) (Nat.le_trans (by decide) hRf) (Nat.le_trans (by decide) hRl)) (g := (mkF m 217 #[vi p1, vi p2, vi p3, vi p4, vi p5, vi p6, vi (0 : Int32), vi c1, vi c2, vr va, vr li, vr it] [(.ref va), (.int (0 : Int32)), (.int (1 : Int32)), (.ref it)])) rfl (by rw [hml]; rfl) (argsL := [(.ref it), (.int (1 : Int32)), (.int (0 : Int32)), (.ref va)]) (rest := []) (lenOf pd_12 rfl) rfl (by show 2 * 0 + _ ≤ _; exact Nat.le_of_eq rfl) (hb hby at_217) (fun _ _ => ⟨rfl, e1, (Nat.le_trans (by omega : cells + 0 + 0 ≤ cells + 0) hRc), (Nat.le_trans (by omega : slots + 0 + 0 ≤ slots + 0) hRs)⟩)
  dsimp only [Pt.U, Pt.locs, Pt.cells, Pt.slots] at X2 l2 y2 z2 st2 hQ2
  subst l2; rw [y2, z2] at X2
  obtain ⟨rfl, N2q, e2⟩ := hQ2
  have N2 := Fr.app N1 N2q
  obtain ⟨_, _, ⟨T3, L3, kz3, nz3⟩, -, X3, ⟨Lc3, hQ3, l3, y3, z3⟩, st3⟩ := Jvm.LawKit.callS X2 hx (y := y_20) hown (mvT hZ (ww hw 65 rfl)) (mvT hZ (ww hw 66 rfl)) (mvT hZ (ww hw 67 rfl)) (mvT hZ (ww hw 68 rfl)) (by decide) (backOf (W := 0) (rmStB l Z a0 hw [] it (2 : Int32) (0 : Int32) va (0 : Int32) (0 : Int32) h0 n0 (Nat.le_trans Z0 KC.1) O0 F_next_it F_val_length_it E_it (by decide) (by decide)) hZ (ww hw 68 rfl) (ww hw 67 rfl) (Nat.le_trans (by decide) hRf) (Nat.le_trans (by decide) hRl)) (g := (mkF m 230 #[vi p1, vi p2, vi p3, vi p4, vi p5, vi p6, vi (0 : Int32), vi c1, vi c2, vr va, vr li, vr it] [(.ref va), (.int (0 : Int32)), (.int (2 : Int32)), (.ref it)])) rfl (by rw [hml]; rfl) (argsL := [(.ref it), (.int (2 : Int32)), (.int (0 : Int32)), (.ref va)]) (rest := []) (lenOf pd_12 rfl) rfl (by show 2 * 0 + _ ≤ _; exact Nat.le_of_eq rfl) (hb hby at_230) (fun _ _ => ⟨rfl, e2, (Nat.le_trans (by omega : cells + 0 + 0 ≤ cells + 0) hRc), (Nat.le_trans (by omega : slots + 0 + 0 ≤ slots + 0) hRs)⟩)
  dsimp only [Pt.U, Pt.locs, Pt.cells, Pt.slots] at X3 l3 y3 z3 st3 hQ3
  subst l3; rw [y3, z3] at X3
  obtain ⟨rfl, N3q, e3⟩ := hQ3
  have N3 := Fr.app N2 N3q
  obtain ⟨_, _, ⟨T4, L4, kz4, nz4⟩, -, X4, ⟨Lc4, hQ4, l4, y4, z4⟩, st4⟩ := Jvm.LawKit.callS X3 hx (y := y_20) hown (mvT hZ (ww hw 65 rfl)) (mvT hZ (ww hw 66 rfl)) (mvT hZ (ww hw 67 rfl)) (mvT hZ (ww hw 68 rfl)) (by decide) (backOf (W := 0) (rmStB l Z a0 hw [] it (3 : Int32) (0 : Int32) va (0 : Int32) (0 : Int32) h0 n0 (Nat.le_trans Z0 KC.1) O0 F_next_it F_val_length_it E_it (by decide) (by decide)) hZ (ww hw 68 rfl) (ww hw 67 rfl) (Nat.le_trans (by decide) hRf) (Nat.le_trans (by decide) hRl)) (g := (mkF m 243 #[vi p1, vi p2, vi p3, vi p4, vi p5, vi p6, vi (0 : Int32), vi c1, vi c2, vr va, vr li, vr it] [(.ref va), (.int (0 : Int32)), (.int (3 : Int32)), (.ref it)])) rfl (by rw [hml]; rfl) (argsL := [(.ref it), (.int (3 : Int32)), (.int (0 : Int32)), (.ref va)]) (rest := []) (lenOf pd_12 rfl) rfl (by show 2 * 0 + _ ≤ _; exact Nat.le_of_eq rfl) (hb hby at_243) (fun _ _ => ⟨rfl, e3, (Nat.le_trans (by omega : cells + 0 + 0 ≤ cells + 0) hRc), (Nat.le_trans (by omega : slots + 0 + 0 ≤ slots + 0) hRs)⟩)
  dsimp only [Pt.U, Pt.locs, Pt.cells, Pt.slots] at X4 l4 y4 z4 st4 hQ4
  subst l4; rw [y4, z4] at X4
  obtain ⟨rfl, N4q, e4⟩ := hQ4
  have N4 := Fr.app N3 N4q
  obtain ⟨_, _, ⟨T5, L5, kz5, nz5⟩, -, X5, ⟨Lc5, hQ5, l5, y5, z5⟩, st5⟩ := Jvm.LawKit.callS X4 hx (y := y_20) hown (mvT hZ (ww hw 65 rfl)) (mvT hZ (ww hw 66 rfl)) (mvT hZ (ww hw 67 rfl)) (mvT hZ (ww hw 68 rfl)) (by decide) (backOf (W := 0) (rmStB l Z a0 hw [] it (4 : Int32) (0 : Int32) va (0 : Int32) (0 : Int32) h0 n0 (Nat.le_trans Z0 KC.1) O0 F_next_it F_val_length_it E_it (by decide) (by decide)) hZ (ww hw 68 rfl) (ww hw 67 rfl) (Nat.le_trans (by decide) hRf) (Nat.le_trans (by decide) hRl)) (g := (mkF m 256 #[vi p1, vi p2, vi p3, vi p4, vi p5, vi p6, vi (0 : Int32), vi c1, vi c2, vr va, vr li, vr it] [(.ref va), (.int (0 : Int32)), (.int (4 : Int32)), (.ref it)])) rfl (by rw [hml]; rfl) (argsL := [(.ref it), (.int (4 : Int32)), (.int (0 : Int32)), (.ref va)]) (rest := []) (lenOf pd_12 rfl) rfl (by show 2 * 0 + _ ≤ _; exact Nat.le_of_eq rfl) (hb hby at_256) (fun _ _ => ⟨rfl, e4, (Nat.le_trans (by omega : cells + 0 + 0 ≤ cells + 0) hRc), (Nat.le_trans (by omega : slots + 0 + 0 ≤ slots + 0) hRs)⟩)
  dsimp only [Pt.U, Pt.locs, Pt.cells, Pt.slots] at X5 l5 y5 z5 st5 hQ5
  subst l5; rw [y5, z5] at X5
  obtain ⟨rfl, N5q, e5⟩ := hQ5
  have N5 := Fr.app N4 N5q
  obtain ⟨_, _, ⟨T6, L6, kz6, nz6⟩, -, X6, ⟨Lc6, hQ6, l6, y6, z6⟩, st6⟩ := Jvm.LawKit.callS X5 hx (y := y_20) hown (mvT hZ (ww hw 65 rfl)) (mvT hZ (ww hw 66 rfl)) (mvT hZ (ww hw 67 rfl)) (mvT hZ (ww hw 68 rfl)) (by decide) (backOf (W := 0) (rmStB l Z a0 hw [] it (5 : Int32) (0 : Int32) va (0 : Int32) (0 : Int32) h0 n0 (Nat.le_trans Z0 KC.1) O0 F_next_it F_val_length_it E_it (by decide) (by decide)) hZ (ww hw 68 rfl) (ww hw 67 rfl) (Nat.le_trans (by decide) hRf) (Nat.le_trans (by decide) hRl)) (g := (mkF m 269 #[vi p1, vi p2, vi p3, vi p4, vi p5, vi p6, vi (0 : Int32), vi c1, vi c2, vr va, vr li, vr it] [(.ref va), (.int (0 : Int32)), (.int (5 : Int32)), (.ref it)])) rfl (by rw [hml]; rfl) (argsL := [(.ref it), (.int (5 : Int32)), (.int (0 : Int32)), (.ref va)]) (rest := []) (lenOf pd_12 rfl) rfl (by show 2 * 0 + _ ≤ _; exact Nat.le_of_eq rfl) (hb hby at_269) (fun _ _ => ⟨rfl, e5, (Nat.le_trans (by omega : cells + 0 + 0 ≤ cells + 0) hRc), (Nat.le_trans (by omega : slots + 0 + 0 ≤ slots + 0) hRs)⟩)
  dsimp only [Pt.U, Pt.locs, Pt.cells, Pt.slots] at X6 l6 y6 z6 st6 hQ6
  subst l6; rw [y6, z6] at X6
  obtain ⟨rfl, N6q, e6⟩ := hQ6
  have N6 := Fr.app N5 N6q
  obtain ⟨cq7, kq7, q7a, q7b, q7c⟩ := isOf hZ e6 E_it
  obtain ⟨_, _, ⟨T7, L7, kz7, nz7⟩, -, X7, ⟨Lc7, hQ7, l7, y7, z7⟩, st7⟩ := X6.interfaceBack hx (xi := y_18) (y := y_16) hown (mvT hZ (ww hw 69 rfl)) (mvT hZ (ww hw 70 rfl)) (mvT hZ (ww hw 71 rfl)) (mvT hZ (ww hw 72 rfl)) (mvT hZ (ww hw 73 rfl)) (mvT hZ (ww hw 74 rfl)) (mvT hZ (ww hw 75 rfl)) (mvT hZ (ww hw 76 rfl)) (by decide) (backOf (W := 0) (rmHn l Z a0 hw [] it (0 : Int32) (0 : Int32) (0 : Int32) h0 n0 (Nat.le_trans Z0 KC.1) O0 F_next_it F_val_length_it (by decide)) hZ (ww hw 77 rfl) (ww hw 56 rfl) (Nat.le_trans (by decide) hRf) (Nat.le_trans (by decide) hRl)) q7a q7b q7c (g := (mkF m 277 #[vi p1, vi p2, vi p3, vi p4, vi p5, vi p6, vi (0 : Int32), vi c1, vi c2, vr va, vr li, vr it] [(.ref it)])) rfl (by rw [hml]; rfl) (Steps.refl _) (argsL := []) (rest := []) (lenOf pd_9 rfl) rfl (by show 2 * 0 + _ ≤ _; exact Nat.le_of_eq rfl) (hb hby at_277) (fun _ _ => ⟨rfl, e6, (Nat.le_trans (by omega : cells + 0 + 0 ≤ cells + 0) hRc), (Nat.le_trans (by omega : slots + 0 + 0 ≤ slots + 0) hRs)⟩)
  dsimp only [Pt.U, Pt.locs, Pt.cells, Pt.slots] at X7 l7 y7 z7 st7 hQ7
  subst l7; rw [y7, z7] at X7
  obtain ⟨rfl, N7q, e7⟩ := hQ7
  have N7 := Fr.app N6 N7q
  have pre8 : ∀ t, Steps p.tables e below (T7.setTop (mkF m 282 #[vi p1, vi p2, vi p3, vi p4, vi p5, vi p6, vi (0 : Int32), vi c1, vi c2, vr va, vr li, vr it] [(.int (0 : Int32))])) t → Steps p.tables e below (T0.setTop (mkF m 197 #[vi p1, vi p2, vi p3, vi p4, vi p5, vi p6, vi (0 : Int32), vi c1, vi c2, vr va, vr li, vr it] [])) t := by
    intro t kt
    refine pre0 t ?_
    show SS p e below m T0 197 #[vi p1, vi p2, vi p3, vi p4, vi p5, vi p6, vi (0 : Int32), vi c1, vi c2, vr va, vr li, vr it] [] _
    refine XS.aload X0.here hx rfl (hb hby at_197) rfl rfl ?_
    show SS p e below m T0 199 #[vi p1, vi p2, vi p3, vi p4, vi p5, vi p6, vi (0 : Int32), vi c1, vi c2, vr va, vr li, vr it] [(.ref it)] _
    refine XS.iconst X0.here hx rfl (hb hby at_199) ?_
    show SS p e below m T0 200 #[vi p1, vi p2, vi p3, vi p4, vi p5, vi p6, vi (0 : Int32), vi c1, vi c2, vr va, vr li, vr it] [(.int (0 : Int32)), (.ref it)] _
    refine XS.iload X0.here hx rfl (hb hby at_200) rfl ?_
    show SS p e below m T0 202 #[vi p1, vi p2, vi p3, vi p4, vi p5, vi p6, vi (0 : Int32), vi c1, vi c2, vr va, vr li, vr it] [(.int (0 : Int32)), (.int (0 : Int32)), (.ref it)] _
    refine XS.aload X0.here hx rfl (hb hby at_202) rfl rfl ?_
    show SS p e below m T0 204 #[vi p1, vi p2, vi p3, vi p4, vi p5, vi p6, vi (0 : Int32), vi c1, vi c2, vr va, vr li, vr it] [(.ref va), (.int (0 : Int32)), (.int (0 : Int32)), (.ref it)] _
    refine st1 _ ?_
    show SS p e below m T1 207 #[vi p1, vi p2, vi p3, vi p4, vi p5, vi p6, vi (0 : Int32), vi c1, vi c2, vr va, vr li, vr it] [(.int (1 : Int32))] _
    refine XS.ifNo X1.here hx rfl (hb hby at_207) rfl ((if0 _ _).trans (feq (by decide)).1) ?_
    show SS p e below m T1 210 #[vi p1, vi p2, vi p3, vi p4, vi p5, vi p6, vi (0 : Int32), vi c1, vi c2, vr va, vr li, vr it] [] _
    refine XS.aload X1.here hx rfl (hb hby at_210) rfl rfl ?_
    show SS p e below m T1 212 #[vi p1, vi p2, vi p3, vi p4, vi p5, vi p6, vi (0 : Int32), vi c1, vi c2, vr va, vr li, vr it] [(.ref it)] _
    refine XS.iconst X1.here hx rfl (hb hby at_212) ?_
    show SS p e below m T1 213 #[vi p1, vi p2, vi p3, vi p4, vi p5, vi p6, vi (0 : Int32), vi c1, vi c2, vr va, vr li, vr it] [(.int (1 : Int32)), (.ref it)] _
    refine XS.iload X1.here hx rfl (hb hby at_213) rfl ?_
    show SS p e below m T1 215 #[vi p1, vi p2, vi p3, vi p4, vi p5, vi p6, vi (0 : Int32), vi c1, vi c2, vr va, vr li, vr it] [(.int (0 : Int32)), (.int (1 : Int32)), (.ref it)] _
    refine XS.aload X1.here hx rfl (hb hby at_215) rfl rfl ?_
    show SS p e below m T1 217 #[vi p1, vi p2, vi p3, vi p4, vi p5, vi p6, vi (0 : Int32), vi c1, vi c2, vr va, vr li, vr it] [(.ref va), (.int (0 : Int32)), (.int (1 : Int32)), (.ref it)] _
    refine st2 _ ?_
    show SS p e below m T2 220 #[vi p1, vi p2, vi p3, vi p4, vi p5, vi p6, vi (0 : Int32), vi c1, vi c2, vr va, vr li, vr it] [(.int (1 : Int32))] _
    refine XS.ifNo X2.here hx rfl (hb hby at_220) rfl ((if0 _ _).trans (feq (by decide)).1) ?_
    show SS p e below m T2 223 #[vi p1, vi p2, vi p3, vi p4, vi p5, vi p6, vi (0 : Int32), vi c1, vi c2, vr va, vr li, vr it] [] _
    refine XS.aload X2.here hx rfl (hb hby at_223) rfl rfl ?_
    show SS p e below m T2 225 #[vi p1, vi p2, vi p3, vi p4, vi p5, vi p6, vi (0 : Int32), vi c1, vi c2, vr va, vr li, vr it] [(.ref it)] _
    refine XS.iconst X2.here hx rfl (hb hby at_225) ?_
    show SS p e below m T2 226 #[vi p1, vi p2, vi p3, vi p4, vi p5, vi p6, vi (0 : Int32), vi c1, vi c2, vr va, vr li, vr it] [(.int (2 : Int32)), (.ref it)] _
    refine XS.iload X2.here hx rfl (hb hby at_226) rfl ?_
    show SS p e below m T2 228 #[vi p1, vi p2, vi p3, vi p4, vi p5, vi p6, vi (0 : Int32), vi c1, vi c2, vr va, vr li, vr it] [(.int (0 : Int32)), (.int (2 : Int32)), (.ref it)] _
    refine XS.aload X2.here hx rfl (hb hby at_228) rfl rfl ?_
    show SS p e below m T2 230 #[vi p1, vi p2, vi p3, vi p4, vi p5, vi p6, vi (0 : Int32), vi c1, vi c2, vr va, vr li, vr it] [(.ref va), (.int (0 : Int32)), (.int (2 : Int32)), (.ref it)] _
    refine st3 _ ?_
    show SS p e below m T3 233 #[vi p1, vi p2, vi p3, vi p4, vi p5, vi p6, vi (0 : Int32), vi c1, vi c2, vr va, vr li, vr it] [(.int (1 : Int32))] _
    refine XS.ifNo X3.here hx rfl (hb hby at_233) rfl ((if0 _ _).trans (feq (by decide)).1) ?_
    show SS p e below m T3 236 #[vi p1, vi p2, vi p3, vi p4, vi p5, vi p6, vi (0 : Int32), vi c1, vi c2, vr va, vr li, vr it] [] _
    refine XS.aload X3.here hx rfl (hb hby at_236) rfl rfl ?_
    show SS p e below m T3 238 #[vi p1, vi p2, vi p3, vi p4, vi p5, vi p6, vi (0 : Int32), vi c1, vi c2, vr va, vr li, vr it] [(.ref it)] _
    refine XS.iconst X3.here hx rfl (hb hby at_238) ?_
    show SS p e below m T3 239 #[vi p1, vi p2, vi p3, vi p4, vi p5, vi p6, vi (0 : Int32), vi c1, vi c2, vr va, vr li, vr it] [(.int (3 : Int32)), (.ref it)] _
    refine XS.iload X3.here hx rfl (hb hby at_239) rfl ?_
    show SS p e below m T3 241 #[vi p1, vi p2, vi p3, vi p4, vi p5, vi p6, vi (0 : Int32), vi c1, vi c2, vr va, vr li, vr it] [(.int (0 : Int32)), (.int (3 : Int32)), (.ref it)] _
    refine XS.aload X3.here hx rfl (hb hby at_241) rfl rfl ?_
    show SS p e below m T3 243 #[vi p1, vi p2, vi p3, vi p4, vi p5, vi p6, vi (0 : Int32), vi c1, vi c2, vr va, vr li, vr it] [(.ref va), (.int (0 : Int32)), (.int (3 : Int32)), (.ref it)] _
    refine st4 _ ?_
    show SS p e below m T4 246 #[vi p1, vi p2, vi p3, vi p4, vi p5, vi p6, vi (0 : Int32), vi c1, vi c2, vr va, vr li, vr it] [(.int (1 : Int32))] _
    refine XS.ifNo X4.here hx rfl (hb hby at_246) rfl ((if0 _ _).trans (feq (by decide)).1) ?_
    show SS p e below m T4 249 #[vi p1, vi p2, vi p3, vi p4, vi p5, vi p6, vi (0 : Int32), vi c1, vi c2, vr va, vr li, vr it] [] _
    refine XS.aload X4.here hx rfl (hb hby at_249) rfl rfl ?_
    show SS p e below m T4 251 #[vi p1, vi p2, vi p3, vi p4, vi p5, vi p6, vi (0 : Int32), vi c1, vi c2, vr va, vr li, vr it] [(.ref it)] _
    refine XS.iconst X4.here hx rfl (hb hby at_251) ?_
    show SS p e below m T4 252 #[vi p1, vi p2, vi p3, vi p4, vi p5, vi p6, vi (0 : Int32), vi c1, vi c2, vr va, vr li, vr it] [(.int (4 : Int32)), (.ref it)] _
    refine XS.iload X4.here hx rfl (hb hby at_252) rfl ?_
    show SS p e below m T4 254 #[vi p1, vi p2, vi p3, vi p4, vi p5, vi p6, vi (0 : Int32), vi c1, vi c2, vr va, vr li, vr it] [(.int (0 : Int32)), (.int (4 : Int32)), (.ref it)] _
    refine XS.aload X4.here hx rfl (hb hby at_254) rfl rfl ?_
    show SS p e below m T4 256 #[vi p1, vi p2, vi p3, vi p4, vi p5, vi p6, vi (0 : Int32), vi c1, vi c2, vr va, vr li, vr it] [(.ref va), (.int (0 : Int32)), (.int (4 : Int32)), (.ref it)] _
    refine st5 _ ?_
    show SS p e below m T5 259 #[vi p1, vi p2, vi p3, vi p4, vi p5, vi p6, vi (0 : Int32), vi c1, vi c2, vr va, vr li, vr it] [(.int (1 : Int32))] _
    refine XS.ifNo X5.here hx rfl (hb hby at_259) rfl ((if0 _ _).trans (feq (by decide)).1) ?_
    show SS p e below m T5 262 #[vi p1, vi p2, vi p3, vi p4, vi p5, vi p6, vi (0 : Int32), vi c1, vi c2, vr va, vr li, vr it] [] _
    refine XS.aload X5.here hx rfl (hb hby at_262) rfl rfl ?_
    show SS p e below m T5 264 #[vi p1, vi p2, vi p3, vi p4, vi p5, vi p6, vi (0 : Int32), vi c1, vi c2, vr va, vr li, vr it] [(.ref it)] _
    refine XS.iconst X5.here hx rfl (hb hby at_264) ?_
    show SS p e below m T5 265 #[vi p1, vi p2, vi p3, vi p4, vi p5, vi p6, vi (0 : Int32), vi c1, vi c2, vr va, vr li, vr it] [(.int (5 : Int32)), (.ref it)] _
    refine XS.iload X5.here hx rfl (hb hby at_265) rfl ?_
    show SS p e below m T5 267 #[vi p1, vi p2, vi p3, vi p4, vi p5, vi p6, vi (0 : Int32), vi c1, vi c2, vr va, vr li, vr it] [(.int (0 : Int32)), (.int (5 : Int32)), (.ref it)] _
    refine XS.aload X5.here hx rfl (hb hby at_267) rfl rfl ?_
    show SS p e below m T5 269 #[vi p1, vi p2, vi p3, vi p4, vi p5, vi p6, vi (0 : Int32), vi c1, vi c2, vr va, vr li, vr it] [(.ref va), (.int (0 : Int32)), (.int (5 : Int32)), (.ref it)] _
    refine st6 _ ?_
    show SS p e below m T6 272 #[vi p1, vi p2, vi p3, vi p4, vi p5, vi p6, vi (0 : Int32), vi c1, vi c2, vr va, vr li, vr it] [(.int (1 : Int32))] _
    refine XS.ifNo X6.here hx rfl (hb hby at_272) rfl ((if0 _ _).trans (feq (by decide)).1) ?_
    show SS p e below m T6 275 #[vi p1, vi p2, vi p3, vi p4, vi p5, vi p6, vi (0 : Int32), vi c1, vi c2, vr va, vr li, vr it] [] _
    refine XS.aload X6.here hx rfl (hb hby at_275) rfl rfl ?_
    show SS p e below m T6 277 #[vi p1, vi p2, vi p3, vi p4, vi p5, vi p6, vi (0 : Int32), vi c1, vi c2, vr va, vr li, vr it] [(.ref it)] _
    refine st7.trans ?_
    exact kt
  exact ⟨T7, _, _, X7.more (by omega) (by omega), e7, N7, KC, pre8⟩
set_option maxRecDepth 65536 in
set_option maxHeartbeats 40000000 in
theorem tail1 {p : Program} {l : Launch} {e : Env} {R : Room} {s : State} {m : MethodId} {args : Array Value} {below : List Frame} {meth : Method} {c : Code} {T0 : State} {locs : List Loc} {cells slots : Nat} {Z : State} {a0 : Array Value} (hw : ∀ d ∈ tables_1, d.before a0 Z = true) (X0 : Stand p l e R s m args below meth c T0 locs cells slots) (hx : p.tables.exec = Jvm.exec) (hZ : Z.Warmed39 s.vm) (hby : c.code = code) (hml : c.maxLocals = 12) (hown : s.vm.findClass "com/example/brisk_tableau/brisktableau/tableau/SharedListIteratorPinLaw" = some m.cls) (p1 : Int32) (p2 : Int32) (p3 : Int32) (p4 : Int32) (p5 : Int32) (p6 : Int32) (c1 : Int32) (c2 : Int32) (va : Addr) (li : Addr) (it : Addr) (arr : Addr) (kk : ClassId) (cap : Int32) (vs : List Value) (k4 : ClassId) (x0 : Addr) (h0 : Heap) (n0 : Nat) (e0 : T0.heap = h0) (Z0 : n0 ≤ h0.size) (O0 : Old Z n0 h0) (N0 : Fr n0 locs) (F_next_it : Fld Z h0 it "com/example/brisk_tableau/brisktableau/tableau/SharedList$1" "next" "I" (.int (0 : Int32))) (F_val_length_it : Fld Z h0 it "com/example/brisk_tableau/brisktableau/tableau/SharedList$1" "val$length" "I" (.int (1 : Int32))) (F_val_items_it : Fld Z h0 it "com/example/brisk_tableau/brisktableau/tableau/SharedList$1" "val$items" "[Ljava/lang/Object;" (.ref arr)) (E_it : Exa Z h0 it "com/example/brisk_tableau/brisktableau/tableau/SharedList$1") (E_arr : Exa Z h0 arr "[Ljava/lang/Object;") (V_arr : Arv Z h0 arr kk (.object "java/lang/Object") cap vs .null) (V_va : Arv Z h0 va k4 .int (5 : Int32) [(.int p1), (.int p2), (.int p3), (.int p4), (.int p5)] (.int (0 : Int32))) (g_it : n0 ≤ it) (ne_va : va ≠ it) (E_x0 : Exa Z h0 x0 "java/lang/Integer") (F_value_x0 : Fld Z h0 x0 "java/lang/Integer" "value" "I" (.int p1)) (hX0 : vs.getD (0 : Int32).toNatClampNeg .null = .ref x0) (hD0 : (0 : Int32) < cap) (hRf : 2 ≤ R.frames) (hRl : 28 ≤ R.locals) (hRc : cells + 0 ≤ R.cells) (hRs : slots + 0 ≤ R.slots) :
    ∃ (T' : State) (h' : Heap) (L' : List Loc), (Stand p l e R s m args below meth c T' L' (cells + 0) (slots + 0)) ∧ (T'.heap = h') ∧ (Fr n0 L') ∧ (Keep h0 h' [it]) ∧ (∀ t, Steps p.tables e below (T'.setTop (mkF m 282 #[vi p1, vi p2, vi p3, vi p4, vi p5, vi p6, vi (1 : Int32), vi c1, vi c2, vr va, vr li, vr it] [(.int (0 : Int32))])) t → Steps p.tables e below (T0.setTop (mkF m 197 #[vi p1, vi p2, vi p3, vi p4, vi p5, vi p6, vi (1 : Int32), vi c1, vi c2, vr va, vr li, vr it] [])) t) := by
  have KC : Keep h0 h0 [it] := Keep.refl h0 _
  have pre0 : ∀ t, Steps p.tables e below (T0.setTop (mkF m 197 #[vi p1, vi p2, vi p3, vi p4, vi p5, vi p6, vi (1 : Int32), vi c1, vi c2, vr va, vr li, vr it] [])) t → Steps p.tables e below (T0.setTop (mkF m 197 #[vi p1, vi p2, vi p3, vi p4, vi p5, vi p6, vi (1 : Int32), vi c1, vi c2, vr va, vr li, vr it] [])) t := fun _ k => k
  obtain ⟨_, _, ⟨T1, L1, kz1, nz1⟩, -, X1, ⟨Lc1, hQ1, l1, y1, z1⟩, st1⟩ := Jvm.LawKit.callS X0 hx (y := y_20) hown (mvT hZ (ww hw 65 rfl)) (mvT hZ (ww hw 66 rfl)) (mvT hZ (ww hw 67 rfl)) (mvT hZ (ww hw 68 rfl)) (by decide) (backOf (W := 0) (rmStA l Z a0 hw [] it (0 : Int32) (1 : Int32) va arr kk cap vs x0 p1 k4 (5 : Int32) [(.int p1), (.int p2), (.int p3), (.int p4), (.int p5)] (1 : Int32) h0 n0 (Nat.le_trans Z0 KC.1) O0 F_next_it F_val_length_it F_val_items_it E_it E_arr V_arr E_x0 F_value_x0 V_va g_it ne_va (by decide) (by decide) hD0 hX0 (by decide) rfl (by decide)) hZ (ww hw 68 rfl) (ww hw 67 rfl) (Nat.le_trans (by decide) hRf) (Nat.le_trans (by decide) hRl)) (g := (mkF m 204 #[vi p1, vi p2, vi p3, vi p4, vi p5, vi p6, vi (1 : Int32), vi c1, vi c2, vr va, vr li, vr it] [(.ref va), (.int (1 : Int32)), (.int (0 : Int32)), (.ref it)])) rfl (by rw [hml]; rfl) (argsL := [(.ref it), (.int (0 : Int32)), (.int (1 : Int32)), (.ref va)]) (rest := []) (lenOf pd_12 rfl) rfl (by show 2 * 0 + _ ≤ _; exact Nat.le_of_eq rfl) (hb hby at_204) (fun _ _ => ⟨rfl, e0, (Nat.le_trans (by omega : cells + 0 + 0 ≤ cells + 0) hRc), (Nat.le_trans (by omega : slots + 0 + 0 ≤ slots + 0) hRs)⟩)
  dsimp only [Pt.U, Pt.locs, Pt.cells, Pt.slots] at X1 l1 y1 z1 st1 hQ1
  subst l1; rw [y1, z1] at X1
  obtain ⟨rfl, N1q, K1, F_next_a1_1, F_val_length_a1_1, F_val_items_a1_1⟩ := hQ1
  have N1 := Fr.app N0 N1q
  have nec_arr_it : arr ≠ it := Exa.ne E_arr E_it (by decide)
  have nec_x0_it : x0 ≠ it := Exa.ne E_x0 E_it (by decide)
  replace E_it := E_it.keep K1
  replace E_arr := E_arr.keep K1
  replace V_arr := V_arr.keep K1 (ninS nec_arr_it nin0)
  replace V_va := V_va.keep K1 (ninS ne_va nin0)
  replace E_x0 := E_x0.keep K1
  replace F_value_x0 := F_value_x0.keep K1 (ninS nec_x0_it nin0)
  replace O0 := O0.keep K1 (allS g_it all0)
  replace KC := KC.trans K1 (allS (Or.inl (List.mem_of_getElem? (i := 0) rfl)) all0)
  obtain ⟨_, _, ⟨T2, L2, kz2, nz2⟩, -, X2, ⟨Lc2, hQ2, l2, y2, z2⟩, st2⟩ := Jvm.LawKit.callS X1 hx (y := y_20) hown (mvT hZ (ww hw 65 rfl)) (mvT hZ (ww hw 66 rfl)) (mvT hZ (ww hw 67 rfl)) (mvT hZ (ww hw 68 rfl)) (by decide) (backOf (W := 0) (rmStB l Z a0 hw [] it (1 : Int32) (1 : Int32) va (1 : Int32) (1 : Int32) T1.heap n0 (Nat.le_trans Z0 KC.1) O0 F_next_a1_1 F_val_length_a1_1 E_it (by decide) (by decide)) hZ (ww hw 68 rfl) (ww hw 67 rfl) (Nat.le_trans (by decide) hRf) (Nat.le_trans (by decide) hRl)) (g := (mkF m 217 #[vi p1, vi p2, vi p3, vi p4, vi p5, vi p6, vi (1 : Int32), vi c1, vi c2, vr va, vr li, vr it] [(.ref va), (.int (1 : Int32)), (.int (1 : Int32)), (.ref it)])) rfl (by rw [hml]; rfl) (argsL := [(.ref it), (.int (1 : Int32)), (.int (1 : Int32)), (.ref va)]) (rest := []) (lenOf pd_12 rfl) rfl (by show 2 * 0 + _ ≤ _; exact Nat.le_of_eq rfl) (hb hby at_217) (fun _ _ => ⟨rfl, rfl, (Nat.le_trans (by omega : cells + 0 + 0 ≤ cells + 0) hRc), (Nat.le_trans (by omega : slots + 0 + 0 ≤ slots + 0) hRs)⟩)
  dsimp only [Pt.U, Pt.locs, Pt.cells, Pt.slots] at X2 l2 y2 z2 st2 hQ2
  subst l2; rw [y2, z2] at X2
  obtain ⟨rfl, N2q, e2⟩ := hQ2
  have N2 := Fr.app N1 N2q
  obtain ⟨_, _, ⟨T3, L3, kz3, nz3⟩, -, X3, ⟨Lc3, hQ3, l3, y3, z3⟩, st3⟩ := Jvm.LawKit.callS X2 hx (y := y_20) hown (mvT hZ (ww hw 65 rfl)) (mvT hZ (ww hw 66 rfl)) (mvT hZ (ww hw 67 rfl)) (mvT hZ (ww hw 68 rfl)) (by decide) (backOf (W := 0) (rmStB l Z a0 hw [] it (2 : Int32) (1 : Int32) va (1 : Int32) (1 : Int32) T1.heap n0 (Nat.le_trans Z0 KC.1) O0 F_next_a1_1 F_val_length_a1_1 E_it (by decide) (by decide)) hZ (ww hw 68 rfl) (ww hw 67 rfl) (Nat.le_trans (by decide) hRf) (Nat.le_trans (by decide) hRl)) (g := (mkF m 230 #[vi p1, vi p2, vi p3, vi p4, vi p5, vi p6, vi (1 : Int32), vi c1, vi c2, vr va, vr li, vr it] [(.ref va), (.int (1 : Int32)), (.int (2 : Int32)), (.ref it)])) rfl (by rw [hml]; rfl) (argsL := [(.ref it), (.int (2 : Int32)), (.int (1 : Int32)), (.ref va)]) (rest := []) (lenOf pd_12 rfl) rfl (by show 2 * 0 + _ ≤ _; exact Nat.le_of_eq rfl) (hb hby at_230) (fun _ _ => ⟨rfl, e2, (Nat.le_trans (by omega : cells + 0 + 0 ≤ cells + 0) hRc), (Nat.le_trans (by omega : slots + 0 + 0 ≤ slots + 0) hRs)⟩)
  dsimp only [Pt.U, Pt.locs, Pt.cells, Pt.slots] at X3 l3 y3 z3 st3 hQ3
  subst l3; rw [y3, z3] at X3
  obtain ⟨rfl, N3q, e3⟩ := hQ3
  have N3 := Fr.app N2 N3q
  obtain ⟨_, _, ⟨T4, L4, kz4, nz4⟩, -, X4, ⟨Lc4, hQ4, l4, y4, z4⟩, st4⟩ := Jvm.LawKit.callS X3 hx (y := y_20) hown (mvT hZ (ww hw 65 rfl)) (mvT hZ (ww hw 66 rfl)) (mvT hZ (ww hw 67 rfl)) (mvT hZ (ww hw 68 rfl)) (by decide) (backOf (W := 0) (rmStB l Z a0 hw [] it (3 : Int32) (1 : Int32) va (1 : Int32) (1 : Int32) T1.heap n0 (Nat.le_trans Z0 KC.1) O0 F_next_a1_1 F_val_length_a1_1 E_it (by decide) (by decide)) hZ (ww hw 68 rfl) (ww hw 67 rfl) (Nat.le_trans (by decide) hRf) (Nat.le_trans (by decide) hRl)) (g := (mkF m 243 #[vi p1, vi p2, vi p3, vi p4, vi p5, vi p6, vi (1 : Int32), vi c1, vi c2, vr va, vr li, vr it] [(.ref va), (.int (1 : Int32)), (.int (3 : Int32)), (.ref it)])) rfl (by rw [hml]; rfl) (argsL := [(.ref it), (.int (3 : Int32)), (.int (1 : Int32)), (.ref va)]) (rest := []) (lenOf pd_12 rfl) rfl (by show 2 * 0 + _ ≤ _; exact Nat.le_of_eq rfl) (hb hby at_243) (fun _ _ => ⟨rfl, e3, (Nat.le_trans (by omega : cells + 0 + 0 ≤ cells + 0) hRc), (Nat.le_trans (by omega : slots + 0 + 0 ≤ slots + 0) hRs)⟩)
  dsimp only [Pt.U, Pt.locs, Pt.cells, Pt.slots] at X4 l4 y4 z4 st4 hQ4
  subst l4; rw [y4, z4] at X4
  obtain ⟨rfl, N4q, e4⟩ := hQ4
  have N4 := Fr.app N3 N4q
  obtain ⟨_, _, ⟨T5, L5, kz5, nz5⟩, -, X5, ⟨Lc5, hQ5, l5, y5, z5⟩, st5⟩ := Jvm.LawKit.callS X4 hx (y := y_20) hown (mvT hZ (ww hw 65 rfl)) (mvT hZ (ww hw 66 rfl)) (mvT hZ (ww hw 67 rfl)) (mvT hZ (ww hw 68 rfl)) (by decide) (backOf (W := 0) (rmStB l Z a0 hw [] it (4 : Int32) (1 : Int32) va (1 : Int32) (1 : Int32) T1.heap n0 (Nat.le_trans Z0 KC.1) O0 F_next_a1_1 F_val_length_a1_1 E_it (by decide) (by decide)) hZ (ww hw 68 rfl) (ww hw 67 rfl) (Nat.le_trans (by decide) hRf) (Nat.le_trans (by decide) hRl)) (g := (mkF m 256 #[vi p1, vi p2, vi p3, vi p4, vi p5, vi p6, vi (1 : Int32), vi c1, vi c2, vr va, vr li, vr it] [(.ref va), (.int (1 : Int32)), (.int (4 : Int32)), (.ref it)])) rfl (by rw [hml]; rfl) (argsL := [(.ref it), (.int (4 : Int32)), (.int (1 : Int32)), (.ref va)]) (rest := []) (lenOf pd_12 rfl) rfl (by show 2 * 0 + _ ≤ _; exact Nat.le_of_eq rfl) (hb hby at_256) (fun _ _ => ⟨rfl, e4, (Nat.le_trans (by omega : cells + 0 + 0 ≤ cells + 0) hRc), (Nat.le_trans (by omega : slots + 0 + 0 ≤ slots + 0) hRs)⟩)
  dsimp only [Pt.U, Pt.locs, Pt.cells, Pt.slots] at X5 l5 y5 z5 st5 hQ5
  subst l5; rw [y5, z5] at X5
  obtain ⟨rfl, N5q, e5⟩ := hQ5
  have N5 := Fr.app N4 N5q
  obtain ⟨_, _, ⟨T6, L6, kz6, nz6⟩, -, X6, ⟨Lc6, hQ6, l6, y6, z6⟩, st6⟩ := Jvm.LawKit.callS X5 hx (y := y_20) hown (mvT hZ (ww hw 65 rfl)) (mvT hZ (ww hw 66 rfl)) (mvT hZ (ww hw 67 rfl)) (mvT hZ (ww hw 68 rfl)) (by decide) (backOf (W := 0) (rmStB l Z a0 hw [] it (5 : Int32) (1 : Int32) va (1 : Int32) (1 : Int32) T1.heap n0 (Nat.le_trans Z0 KC.1) O0 F_next_a1_1 F_val_length_a1_1 E_it (by decide) (by decide)) hZ (ww hw 68 rfl) (ww hw 67 rfl) (Nat.le_trans (by decide) hRf) (Nat.le_trans (by decide) hRl)) (g := (mkF m 269 #[vi p1, vi p2, vi p3, vi p4, vi p5, vi p6, vi (1 : Int32), vi c1, vi c2, vr va, vr li, vr it] [(.ref va), (.int (1 : Int32)), (.int (5 : Int32)), (.ref it)])) rfl (by rw [hml]; rfl) (argsL := [(.ref it), (.int (5 : Int32)), (.int (1 : Int32)), (.ref va)]) (rest := []) (lenOf pd_12 rfl) rfl (by show 2 * 0 + _ ≤ _; exact Nat.le_of_eq rfl) (hb hby at_269) (fun _ _ => ⟨rfl, e5, (Nat.le_trans (by omega : cells + 0 + 0 ≤ cells + 0) hRc), (Nat.le_trans (by omega : slots + 0 + 0 ≤ slots + 0) hRs)⟩)
  dsimp only [Pt.U, Pt.locs, Pt.cells, Pt.slots] at X6 l6 y6 z6 st6 hQ6
  subst l6; rw [y6, z6] at X6
  obtain ⟨rfl, N6q, e6⟩ := hQ6
  have N6 := Fr.app N5 N6q
  obtain ⟨cq7, kq7, q7a, q7b, q7c⟩ := isOf hZ e6 E_it
  obtain ⟨_, _, ⟨T7, L7, kz7, nz7⟩, -, X7, ⟨Lc7, hQ7, l7, y7, z7⟩, st7⟩ := X6.interfaceBack hx (xi := y_18) (y := y_16) hown (mvT hZ (ww hw 69 rfl)) (mvT hZ (ww hw 70 rfl)) (mvT hZ (ww hw 71 rfl)) (mvT hZ (ww hw 72 rfl)) (mvT hZ (ww hw 73 rfl)) (mvT hZ (ww hw 74 rfl)) (mvT hZ (ww hw 75 rfl)) (mvT hZ (ww hw 76 rfl)) (by decide) (backOf (W := 0) (rmHn l Z a0 hw [] it (1 : Int32) (1 : Int32) (0 : Int32) T1.heap n0 (Nat.le_trans Z0 KC.1) O0 F_next_a1_1 F_val_length_a1_1 (by decide)) hZ (ww hw 77 rfl) (ww hw 56 rfl) (Nat.le_trans (by decide) hRf) (Nat.le_trans (by decide) hRl)) q7a q7b q7c (g := (mkF m 277 #[vi p1, vi p2, vi p3, vi p4, vi p5, vi p6, vi (1 : Int32), vi c1, vi c2, vr va, vr li, vr it] [(.ref it)])) rfl (by rw [hml]; rfl) (Steps.refl _) (argsL := []) (rest := []) (lenOf pd_9 rfl) rfl (by show 2 * 0 + _ ≤ _; exact Nat.le_of_eq rfl) (hb hby at_277) (fun _ _ => ⟨rfl, e6, (Nat.le_trans (by omega : cells + 0 + 0 ≤ cells + 0) hRc), (Nat.le_trans (by omega : slots + 0 + 0 ≤ slots + 0) hRs)⟩)
  dsimp only [Pt.U, Pt.locs, Pt.cells, Pt.slots] at X7 l7 y7 z7 st7 hQ7
  subst l7; rw [y7, z7] at X7
  obtain ⟨rfl, N7q, e7⟩ := hQ7
  have N7 := Fr.app N6 N7q
  have pre8 : ∀ t, Steps p.tables e below (T7.setTop (mkF m 282 #[vi p1, vi p2, vi p3, vi p4, vi p5, vi p6, vi (1 : Int32), vi c1, vi c2, vr va, vr li, vr it] [(.int (0 : Int32))])) t → Steps p.tables e below (T0.setTop (mkF m 197 #[vi p1, vi p2, vi p3, vi p4, vi p5, vi p6, vi (1 : Int32), vi c1, vi c2, vr va, vr li, vr it] [])) t := by
    intro t kt
    refine pre0 t ?_
    show SS p e below m T0 197 #[vi p1, vi p2, vi p3, vi p4, vi p5, vi p6, vi (1 : Int32), vi c1, vi c2, vr va, vr li, vr it] [] _
    refine XS.aload X0.here hx rfl (hb hby at_197) rfl rfl ?_
    show SS p e below m T0 199 #[vi p1, vi p2, vi p3, vi p4, vi p5, vi p6, vi (1 : Int32), vi c1, vi c2, vr va, vr li, vr it] [(.ref it)] _
    refine XS.iconst X0.here hx rfl (hb hby at_199) ?_
    show SS p e below m T0 200 #[vi p1, vi p2, vi p3, vi p4, vi p5, vi p6, vi (1 : Int32), vi c1, vi c2, vr va, vr li, vr it] [(.int (0 : Int32)), (.ref it)] _
    refine XS.iload X0.here hx rfl (hb hby at_200) rfl ?_
    show SS p e below m T0 202 #[vi p1, vi p2, vi p3, vi p4, vi p5, vi p6, vi (1 : Int32), vi c1, vi c2, vr va, vr li, vr it] [(.int (1 : Int32)), (.int (0 : Int32)), (.ref it)] _
    refine XS.aload X0.here hx rfl (hb hby at_202) rfl rfl ?_
    show SS p e below m T0 204 #[vi p1, vi p2, vi p3, vi p4, vi p5, vi p6, vi (1 : Int32), vi c1, vi c2, vr va, vr li, vr it] [(.ref va), (.int (1 : Int32)), (.int (0 : Int32)), (.ref it)] _
    refine st1 _ ?_
    show SS p e below m T1 207 #[vi p1, vi p2, vi p3, vi p4, vi p5, vi p6, vi (1 : Int32), vi c1, vi c2, vr va, vr li, vr it] [(.int (1 : Int32))] _
    refine XS.ifNo X1.here hx rfl (hb hby at_207) rfl ((if0 _ _).trans (feq (by decide)).1) ?_
    show SS p e below m T1 210 #[vi p1, vi p2, vi p3, vi p4, vi p5, vi p6, vi (1 : Int32), vi c1, vi c2, vr va, vr li, vr it] [] _
    refine XS.aload X1.here hx rfl (hb hby at_210) rfl rfl ?_
    show SS p e below m T1 212 #[vi p1, vi p2, vi p3, vi p4, vi p5, vi p6, vi (1 : Int32), vi c1, vi c2, vr va, vr li, vr it] [(.ref it)] _
    refine XS.iconst X1.here hx rfl (hb hby at_212) ?_
    show SS p e below m T1 213 #[vi p1, vi p2, vi p3, vi p4, vi p5, vi p6, vi (1 : Int32), vi c1, vi c2, vr va, vr li, vr it] [(.int (1 : Int32)), (.ref it)] _
    refine XS.iload X1.here hx rfl (hb hby at_213) rfl ?_
    show SS p e below m T1 215 #[vi p1, vi p2, vi p3, vi p4, vi p5, vi p6, vi (1 : Int32), vi c1, vi c2, vr va, vr li, vr it] [(.int (1 : Int32)), (.int (1 : Int32)), (.ref it)] _
    refine XS.aload X1.here hx rfl (hb hby at_215) rfl rfl ?_
    show SS p e below m T1 217 #[vi p1, vi p2, vi p3, vi p4, vi p5, vi p6, vi (1 : Int32), vi c1, vi c2, vr va, vr li, vr it] [(.ref va), (.int (1 : Int32)), (.int (1 : Int32)), (.ref it)] _
    refine st2 _ ?_
    show SS p e below m T2 220 #[vi p1, vi p2, vi p3, vi p4, vi p5, vi p6, vi (1 : Int32), vi c1, vi c2, vr va, vr li, vr it] [(.int (1 : Int32))] _
    refine XS.ifNo X2.here hx rfl (hb hby at_220) rfl ((if0 _ _).trans (feq (by decide)).1) ?_
    show SS p e below m T2 223 #[vi p1, vi p2, vi p3, vi p4, vi p5, vi p6, vi (1 : Int32), vi c1, vi c2, vr va, vr li, vr it] [] _
    refine XS.aload X2.here hx rfl (hb hby at_223) rfl rfl ?_
    show SS p e below m T2 225 #[vi p1, vi p2, vi p3, vi p4, vi p5, vi p6, vi (1 : Int32), vi c1, vi c2, vr va, vr li, vr it] [(.ref it)] _
    refine XS.iconst X2.here hx rfl (hb hby at_225) ?_
    show SS p e below m T2 226 #[vi p1, vi p2, vi p3, vi p4, vi p5, vi p6, vi (1 : Int32), vi c1, vi c2, vr va, vr li, vr it] [(.int (2 : Int32)), (.ref it)] _
    refine XS.iload X2.here hx rfl (hb hby at_226) rfl ?_
    show SS p e below m T2 228 #[vi p1, vi p2, vi p3, vi p4, vi p5, vi p6, vi (1 : Int32), vi c1, vi c2, vr va, vr li, vr it] [(.int (1 : Int32)), (.int (2 : Int32)), (.ref it)] _
    refine XS.aload X2.here hx rfl (hb hby at_228) rfl rfl ?_
    show SS p e below m T2 230 #[vi p1, vi p2, vi p3, vi p4, vi p5, vi p6, vi (1 : Int32), vi c1, vi c2, vr va, vr li, vr it] [(.ref va), (.int (1 : Int32)), (.int (2 : Int32)), (.ref it)] _
    refine st3 _ ?_
    show SS p e below m T3 233 #[vi p1, vi p2, vi p3, vi p4, vi p5, vi p6, vi (1 : Int32), vi c1, vi c2, vr va, vr li, vr it] [(.int (1 : Int32))] _
    refine XS.ifNo X3.here hx rfl (hb hby at_233) rfl ((if0 _ _).trans (feq (by decide)).1) ?_
    show SS p e below m T3 236 #[vi p1, vi p2, vi p3, vi p4, vi p5, vi p6, vi (1 : Int32), vi c1, vi c2, vr va, vr li, vr it] [] _
    refine XS.aload X3.here hx rfl (hb hby at_236) rfl rfl ?_
    show SS p e below m T3 238 #[vi p1, vi p2, vi p3, vi p4, vi p5, vi p6, vi (1 : Int32), vi c1, vi c2, vr va, vr li, vr it] [(.ref it)] _
    refine XS.iconst X3.here hx rfl (hb hby at_238) ?_
    show SS p e below m T3 239 #[vi p1, vi p2, vi p3, vi p4, vi p5, vi p6, vi (1 : Int32), vi c1, vi c2, vr va, vr li, vr it] [(.int (3 : Int32)), (.ref it)] _
    refine XS.iload X3.here hx rfl (hb hby at_239) rfl ?_
    show SS p e below m T3 241 #[vi p1, vi p2, vi p3, vi p4, vi p5, vi p6, vi (1 : Int32), vi c1, vi c2, vr va, vr li, vr it] [(.int (1 : Int32)), (.int (3 : Int32)), (.ref it)] _
    refine XS.aload X3.here hx rfl (hb hby at_241) rfl rfl ?_
    show SS p e below m T3 243 #[vi p1, vi p2, vi p3, vi p4, vi p5, vi p6, vi (1 : Int32), vi c1, vi c2, vr va, vr li, vr it] [(.ref va), (.int (1 : Int32)), (.int (3 : Int32)), (.ref it)] _
    refine st4 _ ?_
    show SS p e below m T4 246 #[vi p1, vi p2, vi p3, vi p4, vi p5, vi p6, vi (1 : Int32), vi c1, vi c2, vr va, vr li, vr it] [(.int (1 : Int32))] _
    refine XS.ifNo X4.here hx rfl (hb hby at_246) rfl ((if0 _ _).trans (feq (by decide)).1) ?_
    show SS p e below m T4 249 #[vi p1, vi p2, vi p3, vi p4, vi p5, vi p6, vi (1 : Int32), vi c1, vi c2, vr va, vr li, vr it] [] _
    refine XS.aload X4.here hx rfl (hb hby at_249) rfl rfl ?_
    show SS p e below m T4 251 #[vi p1, vi p2, vi p3, vi p4, vi p5, vi p6, vi (1 : Int32), vi c1, vi c2, vr va, vr li, vr it] [(.ref it)] _
    refine XS.iconst X4.here hx rfl (hb hby at_251) ?_
    show SS p e below m T4 252 #[vi p1, vi p2, vi p3, vi p4, vi p5, vi p6, vi (1 : Int32), vi c1, vi c2, vr va, vr li, vr it] [(.int (4 : Int32)), (.ref it)] _
    refine XS.iload X4.here hx rfl (hb hby at_252) rfl ?_
    show SS p e below m T4 254 #[vi p1, vi p2, vi p3, vi p4, vi p5, vi p6, vi (1 : Int32), vi c1, vi c2, vr va, vr li, vr it] [(.int (1 : Int32)), (.int (4 : Int32)), (.ref it)] _
    refine XS.aload X4.here hx rfl (hb hby at_254) rfl rfl ?_
    show SS p e below m T4 256 #[vi p1, vi p2, vi p3, vi p4, vi p5, vi p6, vi (1 : Int32), vi c1, vi c2, vr va, vr li, vr it] [(.ref va), (.int (1 : Int32)), (.int (4 : Int32)), (.ref it)] _
    refine st5 _ ?_
    show SS p e below m T5 259 #[vi p1, vi p2, vi p3, vi p4, vi p5, vi p6, vi (1 : Int32), vi c1, vi c2, vr va, vr li, vr it] [(.int (1 : Int32))] _
    refine XS.ifNo X5.here hx rfl (hb hby at_259) rfl ((if0 _ _).trans (feq (by decide)).1) ?_
    show SS p e below m T5 262 #[vi p1, vi p2, vi p3, vi p4, vi p5, vi p6, vi (1 : Int32), vi c1, vi c2, vr va, vr li, vr it] [] _
    refine XS.aload X5.here hx rfl (hb hby at_262) rfl rfl ?_
    show SS p e below m T5 264 #[vi p1, vi p2, vi p3, vi p4, vi p5, vi p6, vi (1 : Int32), vi c1, vi c2, vr va, vr li, vr it] [(.ref it)] _
    refine XS.iconst X5.here hx rfl (hb hby at_264) ?_
    show SS p e below m T5 265 #[vi p1, vi p2, vi p3, vi p4, vi p5, vi p6, vi (1 : Int32), vi c1, vi c2, vr va, vr li, vr it] [(.int (5 : Int32)), (.ref it)] _
    refine XS.iload X5.here hx rfl (hb hby at_265) rfl ?_
    show SS p e below m T5 267 #[vi p1, vi p2, vi p3, vi p4, vi p5, vi p6, vi (1 : Int32), vi c1, vi c2, vr va, vr li, vr it] [(.int (1 : Int32)), (.int (5 : Int32)), (.ref it)] _
    refine XS.aload X5.here hx rfl (hb hby at_267) rfl rfl ?_
    show SS p e below m T5 269 #[vi p1, vi p2, vi p3, vi p4, vi p5, vi p6, vi (1 : Int32), vi c1, vi c2, vr va, vr li, vr it] [(.ref va), (.int (1 : Int32)), (.int (5 : Int32)), (.ref it)] _
    refine st6 _ ?_
    show SS p e below m T6 272 #[vi p1, vi p2, vi p3, vi p4, vi p5, vi p6, vi (1 : Int32), vi c1, vi c2, vr va, vr li, vr it] [(.int (1 : Int32))] _
    refine XS.ifNo X6.here hx rfl (hb hby at_272) rfl ((if0 _ _).trans (feq (by decide)).1) ?_
    show SS p e below m T6 275 #[vi p1, vi p2, vi p3, vi p4, vi p5, vi p6, vi (1 : Int32), vi c1, vi c2, vr va, vr li, vr it] [] _
    refine XS.aload X6.here hx rfl (hb hby at_275) rfl rfl ?_
    show SS p e below m T6 277 #[vi p1, vi p2, vi p3, vi p4, vi p5, vi p6, vi (1 : Int32), vi c1, vi c2, vr va, vr li, vr it] [(.ref it)] _
    refine st7.trans ?_
    exact kt
  exact ⟨T7, _, _, X7.more (by omega) (by omega), e7, N7, KC, pre8⟩
set_option maxRecDepth 65536 in
set_option maxHeartbeats 40000000 in
theorem tail2 {p : Program} {l : Launch} {e : Env} {R : Room} {s : State} {m : MethodId} {args : Array Value} {below : List Frame} {meth : Method} {c : Code} {T0 : State} {locs : List Loc} {cells slots : Nat} {Z : State} {a0 : Array Value} (hw : ∀ d ∈ tables_1, d.before a0 Z = true) (X0 : Stand p l e R s m args below meth c T0 locs cells slots) (hx : p.tables.exec = Jvm.exec) (hZ : Z.Warmed39 s.vm) (hby : c.code = code) (hml : c.maxLocals = 12) (hown : s.vm.findClass "com/example/brisk_tableau/brisktableau/tableau/SharedListIteratorPinLaw" = some m.cls) (p1 : Int32) (p2 : Int32) (p3 : Int32) (p4 : Int32) (p5 : Int32) (p6 : Int32) (c1 : Int32) (c2 : Int32) (va : Addr) (li : Addr) (it : Addr) (arr : Addr) (kk : ClassId) (cap : Int32) (vs : List Value) (k4 : ClassId) (x0 : Addr) (x1 : Addr) (h0 : Heap) (n0 : Nat) (e0 : T0.heap = h0) (Z0 : n0 ≤ h0.size) (O0 : Old Z n0 h0) (N0 : Fr n0 locs) (F_next_it : Fld Z h0 it "com/example/brisk_tableau/brisktableau/tableau/SharedList$1" "next" "I" (.int (0 : Int32))) (F_val_length_it : Fld Z h0 it "com/example/brisk_tableau/brisktableau/tableau/SharedList$1" "val$length" "I" (.int (2 : Int32))) (F_val_items_it : Fld Z h0 it "com/example/brisk_tableau/brisktableau/tableau/SharedList$1" "val$items" "[Ljava/lang/Object;" (.ref arr)) (E_it : Exa Z h0 it "com/example/brisk_tableau/brisktableau/tableau/SharedList$1") (E_arr : Exa Z h0 arr "[Ljava/lang/Object;") (V_arr : Arv Z h0 arr kk (.object "java/lang/Object") cap vs .null) (V_va : Arv Z h0 va k4 .int (5 : Int32) [(.int p1), (.int p2), (.int p3), (.int p4), (.int p5)] (.int (0 : Int32))) (g_it : n0 ≤ it) (ne_va : va ≠ it) (E_x0 : Exa Z h0 x0 "java/lang/Integer") (F_value_x0 : Fld Z h0 x0 "java/lang/Integer" "value" "I" (.int p1)) (hX0 : vs.getD (0 : Int32).toNatClampNeg .null = .ref x0) (hD0 : (0 : Int32) < cap) (E_x1 : Exa Z h0 x1 "java/lang/Integer") (F_value_x1 : Fld Z h0 x1 "java/lang/Integer" "value" "I" (.int p2)) (hX1 : vs.getD (1 : Int32).toNatClampNeg .null = .ref x1) (hD1 : (1 : Int32) < cap) (hRf : 2 ≤ R.frames) (hRl : 28 ≤ R.locals) (hRc : cells + 0 ≤ R.cells) (hRs : slots + 0 ≤ R.slots) :
    ∃ (T' : State) (h' : Heap) (L' : List Loc), (Stand p l e R s m args below meth c T' L' (cells + 0) (slots + 0)) ∧ (T'.heap = h') ∧ (Fr n0 L') ∧ (Keep h0 h' [it]) ∧ (∀ t, Steps p.tables e below (T'.setTop (mkF m 282 #[vi p1, vi p2, vi p3, vi p4, vi p5, vi p6, vi (2 : Int32), vi c1, vi c2, vr va, vr li, vr it] [(.int (0 : Int32))])) t → Steps p.tables e below (T0.setTop (mkF m 197 #[vi p1, vi p2, vi p3, vi p4, vi p5, vi p6, vi (2 : Int32), vi c1, vi c2, vr va, vr li, vr it] [])) t) := by
  have KC : Keep h0 h0 [it] := Keep.refl h0 _
  have pre0 : ∀ t, Steps p.tables e below (T0.setTop (mkF m 197 #[vi p1, vi p2, vi p3, vi p4, vi p5, vi p6, vi (2 : Int32), vi c1, vi c2, vr va, vr li, vr it] [])) t → Steps p.tables e below (T0.setTop (mkF m 197 #[vi p1, vi p2, vi p3, vi p4, vi p5, vi p6, vi (2 : Int32), vi c1, vi c2, vr va, vr li, vr it] [])) t := fun _ k => k
  obtain ⟨_, _, ⟨T1, L1, kz1, nz1⟩, -, X1, ⟨Lc1, hQ1, l1, y1, z1⟩, st1⟩ := Jvm.LawKit.callS X0 hx (y := y_20) hown (mvT hZ (ww hw 65 rfl)) (mvT hZ (ww hw 66 rfl)) (mvT hZ (ww hw 67 rfl)) (mvT hZ (ww hw 68 rfl)) (by decide) (backOf (W := 0) (rmStA l Z a0 hw [] it (0 : Int32) (2 : Int32) va arr kk cap vs x0 p1 k4 (5 : Int32) [(.int p1), (.int p2), (.int p3), (.int p4), (.int p5)] (1 : Int32) h0 n0 (Nat.le_trans Z0 KC.1) O0 F_next_it F_val_length_it F_val_items_it E_it E_arr V_arr E_x0 F_value_x0 V_va g_it ne_va (by decide) (by decide) hD0 hX0 (by decide) rfl (by decide)) hZ (ww hw 68 rfl) (ww hw 67 rfl) (Nat.le_trans (by decide) hRf) (Nat.le_trans (by decide) hRl)) (g := (mkF m 204 #[vi p1, vi p2, vi p3, vi p4, vi p5, vi p6, vi (2 : Int32), vi c1, vi c2, vr va, vr li, vr it] [(.ref va), (.int (2 : Int32)), (.int (0 : Int32)), (.ref it)])) rfl (by rw [hml]; rfl) (argsL := [(.ref it), (.int (0 : Int32)), (.int (2 : Int32)), (.ref va)]) (rest := []) (lenOf pd_12 rfl) rfl (by show 2 * 0 + _ ≤ _; exact Nat.le_of_eq rfl) (hb hby at_204) (fun _ _ => ⟨rfl, e0, (Nat.le_trans (by omega : cells + 0 + 0 ≤ cells + 0) hRc), (Nat.le_trans (by omega : slots + 0 + 0 ≤ slots + 0) hRs)⟩)
  dsimp only [Pt.U, Pt.locs, Pt.cells, Pt.slots] at X1 l1 y1 z1 st1 hQ1
  subst l1; rw [y1, z1] at X1
  obtain ⟨rfl, N1q, K1, F_next_a1_1, F_val_length_a1_1, F_val_items_a1_1⟩ := hQ1
  have N1 := Fr.app N0 N1q
  have nec_arr_it : arr ≠ it := Exa.ne E_arr E_it (by decide)
  have nec_x0_it : x0 ≠ it := Exa.ne E_x0 E_it (by decide)
  have nec_x1_it : x1 ≠ it := Exa.ne E_x1 E_it (by decide)
  replace E_it := E_it.keep K1
  replace E_arr := E_arr.keep K1
  replace V_arr := V_arr.keep K1 (ninS nec_arr_it nin0)
  replace V_va := V_va.keep K1 (ninS ne_va nin0)
  replace E_x0 := E_x0.keep K1
  replace F_value_x0 := F_value_x0.keep K1 (ninS nec_x0_it nin0)
  replace E_x1 := E_x1.keep K1
  replace F_value_x1 := F_value_x1.keep K1 (ninS nec_x1_it nin0)
  replace O0 := O0.keep K1 (allS g_it all0)
  replace KC := KC.trans K1 (allS (Or.inl (List.mem_of_getElem? (i := 0) rfl)) all0)
  obtain ⟨_, _, ⟨T2, L2, kz2, nz2⟩, -, X2, ⟨Lc2, hQ2, l2, y2, z2⟩, st2⟩ := Jvm.LawKit.callS X1 hx (y := y_20) hown (mvT hZ (ww hw 65 rfl)) (mvT hZ (ww hw 66 rfl)) (mvT hZ (ww hw 67 rfl)) (mvT hZ (ww hw 68 rfl)) (by decide) (backOf (W := 0) (rmStA l Z a0 hw [] it (1 : Int32) (2 : Int32) va arr kk cap vs x1 p2 k4 (5 : Int32) [(.int p1), (.int p2), (.int p3), (.int p4), (.int p5)] (2 : Int32) T1.heap n0 (Nat.le_trans Z0 KC.1) O0 F_next_a1_1 F_val_length_a1_1 F_val_items_a1_1 E_it E_arr V_arr E_x1 F_value_x1 V_va g_it ne_va (by decide) (by decide) hD1 hX1 (by decide) rfl (by decide)) hZ (ww hw 68 rfl) (ww hw 67 rfl) (Nat.le_trans (by decide) hRf) (Nat.le_trans (by decide) hRl)) (g := (mkF m 217 #[vi p1, vi p2, vi p3, vi p4, vi p5, vi p6, vi (2 : Int32), vi c1, vi c2, vr va, vr li, vr it] [(.ref va), (.int (2 : Int32)), (.int (1 : Int32)), (.ref it)])) rfl (by rw [hml]; rfl) (argsL := [(.ref it), (.int (1 : Int32)), (.int (2 : Int32)), (.ref va)]) (rest := []) (lenOf pd_12 rfl) rfl (by show 2 * 0 + _ ≤ _; exact Nat.le_of_eq rfl) (hb hby at_217) (fun _ _ => ⟨rfl, rfl, (Nat.le_trans (by omega : cells + 0 + 0 ≤ cells + 0) hRc), (Nat.le_trans (by omega : slots + 0 + 0 ≤ slots + 0) hRs)⟩)
  dsimp only [Pt.U, Pt.locs, Pt.cells, Pt.slots] at X2 l2 y2 z2 st2 hQ2
  subst l2; rw [y2, z2] at X2
  obtain ⟨rfl, N2q, K2, F_next_a1_2, F_val_length_a1_2, F_val_items_a1_2⟩ := hQ2
  have N2 := Fr.app N1 N2q
  replace E_it := E_it.keep K2
  replace E_arr := E_arr.keep K2
  replace V_arr := V_arr.keep K2 (ninS nec_arr_it nin0)
  replace V_va := V_va.keep K2 (ninS ne_va nin0)
  replace E_x0 := E_x0.keep K2
  replace F_value_x0 := F_value_x0.keep K2 (ninS nec_x0_it nin0)
  replace E_x1 := E_x1.keep K2
  replace F_value_x1 := F_value_x1.keep K2 (ninS nec_x1_it nin0)
  replace O0 := O0.keep K2 (allS g_it all0)
  replace KC := KC.trans K2 (allS (Or.inl (List.mem_of_getElem? (i := 0) rfl)) all0)
  obtain ⟨_, _, ⟨T3, L3, kz3, nz3⟩, -, X3, ⟨Lc3, hQ3, l3, y3, z3⟩, st3⟩ := Jvm.LawKit.callS X2 hx (y := y_20) hown (mvT hZ (ww hw 65 rfl)) (mvT hZ (ww hw 66 rfl)) (mvT hZ (ww hw 67 rfl)) (mvT hZ (ww hw 68 rfl)) (by decide) (backOf (W := 0) (rmStB l Z a0 hw [] it (2 : Int32) (2 : Int32) va (2 : Int32) (2 : Int32) T2.heap n0 (Nat.le_trans Z0 KC.1) O0 F_next_a1_2 F_val_length_a1_2 E_it (by decide) (by decide)) hZ (ww hw 68 rfl) (ww hw 67 rfl) (Nat.le_trans (by decide) hRf) (Nat.le_trans (by decide) hRl)) (g := (mkF m 230 #[vi p1, vi p2, vi p3, vi p4, vi p5, vi p6, vi (2 : Int32), vi c1, vi c2, vr va, vr li, vr it] [(.ref va), (.int (2 : Int32)), (.int (2 : Int32)), (.ref it)])) rfl (by rw [hml]; rfl) (argsL := [(.ref it), (.int (2 : Int32)), (.int (2 : Int32)), (.ref va)]) (rest := []) (lenOf pd_12 rfl) rfl (by show 2 * 0 + _ ≤ _; exact Nat.le_of_eq rfl) (hb hby at_230) (fun _ _ => ⟨rfl, rfl, (Nat.le_trans (by omega : cells + 0 + 0 ≤ cells + 0) hRc), (Nat.le_trans (by omega : slots + 0 + 0 ≤ slots + 0) hRs)⟩)
  dsimp only [Pt.U, Pt.locs, Pt.cells, Pt.slots] at X3 l3 y3 z3 st3 hQ3
  subst l3; rw [y3, z3] at X3
  obtain ⟨rfl, N3q, e3⟩ := hQ3
  have N3 := Fr.app N2 N3q
  obtain ⟨_, _, ⟨T4, L4, kz4, nz4⟩, -, X4, ⟨Lc4, hQ4, l4, y4, z4⟩, st4⟩ := Jvm.LawKit.callS X3 hx (y := y_20) hown (mvT hZ (ww hw 65 rfl)) (mvT hZ (ww hw 66 rfl)) (mvT hZ (ww hw 67 rfl)) (mvT hZ (ww hw 68 rfl)) (by decide) (backOf (W := 0) (rmStB l Z a0 hw [] it (3 : Int32) (2 : Int32) va (2 : Int32) (2 : Int32) T2.heap n0 (Nat.le_trans Z0 KC.1) O0 F_next_a1_2 F_val_length_a1_2 E_it (by decide) (by decide)) hZ (ww hw 68 rfl) (ww hw 67 rfl) (Nat.le_trans (by decide) hRf) (Nat.le_trans (by decide) hRl)) (g := (mkF m 243 #[vi p1, vi p2, vi p3, vi p4, vi p5, vi p6, vi (2 : Int32), vi c1, vi c2, vr va, vr li, vr it] [(.ref va), (.int (2 : Int32)), (.int (3 : Int32)), (.ref it)])) rfl (by rw [hml]; rfl) (argsL := [(.ref it), (.int (3 : Int32)), (.int (2 : Int32)), (.ref va)]) (rest := []) (lenOf pd_12 rfl) rfl (by show 2 * 0 + _ ≤ _; exact Nat.le_of_eq rfl) (hb hby at_243) (fun _ _ => ⟨rfl, e3, (Nat.le_trans (by omega : cells + 0 + 0 ≤ cells + 0) hRc), (Nat.le_trans (by omega : slots + 0 + 0 ≤ slots + 0) hRs)⟩)
  dsimp only [Pt.U, Pt.locs, Pt.cells, Pt.slots] at X4 l4 y4 z4 st4 hQ4
  subst l4; rw [y4, z4] at X4
  obtain ⟨rfl, N4q, e4⟩ := hQ4
  have N4 := Fr.app N3 N4q
  obtain ⟨_, _, ⟨T5, L5, kz5, nz5⟩, -, X5, ⟨Lc5, hQ5, l5, y5, z5⟩, st5⟩ := Jvm.LawKit.callS X4 hx (y := y_20) hown (mvT hZ (ww hw 65 rfl)) (mvT hZ (ww hw 66 rfl)) (mvT hZ (ww hw 67 rfl)) (mvT hZ (ww hw 68 rfl)) (by decide) (backOf (W := 0) (rmStB l Z a0 hw [] it (4 : Int32) (2 : Int32) va (2 : Int32) (2 : Int32) T2.heap n0 (Nat.le_trans Z0 KC.1) O0 F_next_a1_2 F_val_length_a1_2 E_it (by decide) (by decide)) hZ (ww hw 68 rfl) (ww hw 67 rfl) (Nat.le_trans (by decide) hRf) (Nat.le_trans (by decide) hRl)) (g := (mkF m 256 #[vi p1, vi p2, vi p3, vi p4, vi p5, vi p6, vi (2 : Int32), vi c1, vi c2, vr va, vr li, vr it] [(.ref va), (.int (2 : Int32)), (.int (4 : Int32)), (.ref it)])) rfl (by rw [hml]; rfl) (argsL := [(.ref it), (.int (4 : Int32)), (.int (2 : Int32)), (.ref va)]) (rest := []) (lenOf pd_12 rfl) rfl (by show 2 * 0 + _ ≤ _; exact Nat.le_of_eq rfl) (hb hby at_256) (fun _ _ => ⟨rfl, e4, (Nat.le_trans (by omega : cells + 0 + 0 ≤ cells + 0) hRc), (Nat.le_trans (by omega : slots + 0 + 0 ≤ slots + 0) hRs)⟩)
  dsimp only [Pt.U, Pt.locs, Pt.cells, Pt.slots] at X5 l5 y5 z5 st5 hQ5
  subst l5; rw [y5, z5] at X5
  obtain ⟨rfl, N5q, e5⟩ := hQ5
  have N5 := Fr.app N4 N5q
  obtain ⟨_, _, ⟨T6, L6, kz6, nz6⟩, -, X6, ⟨Lc6, hQ6, l6, y6, z6⟩, st6⟩ := Jvm.LawKit.callS X5 hx (y := y_20) hown (mvT hZ (ww hw 65 rfl)) (mvT hZ (ww hw 66 rfl)) (mvT hZ (ww hw 67 rfl)) (mvT hZ (ww hw 68 rfl)) (by decide) (backOf (W := 0) (rmStB l Z a0 hw [] it (5 : Int32) (2 : Int32) va (2 : Int32) (2 : Int32) T2.heap n0 (Nat.le_trans Z0 KC.1) O0 F_next_a1_2 F_val_length_a1_2 E_it (by decide) (by decide)) hZ (ww hw 68 rfl) (ww hw 67 rfl) (Nat.le_trans (by decide) hRf) (Nat.le_trans (by decide) hRl)) (g := (mkF m 269 #[vi p1, vi p2, vi p3, vi p4, vi p5, vi p6, vi (2 : Int32), vi c1, vi c2, vr va, vr li, vr it] [(.ref va), (.int (2 : Int32)), (.int (5 : Int32)), (.ref it)])) rfl (by rw [hml]; rfl) (argsL := [(.ref it), (.int (5 : Int32)), (.int (2 : Int32)), (.ref va)]) (rest := []) (lenOf pd_12 rfl) rfl (by show 2 * 0 + _ ≤ _; exact Nat.le_of_eq rfl) (hb hby at_269) (fun _ _ => ⟨rfl, e5, (Nat.le_trans (by omega : cells + 0 + 0 ≤ cells + 0) hRc), (Nat.le_trans (by omega : slots + 0 + 0 ≤ slots + 0) hRs)⟩)
  dsimp only [Pt.U, Pt.locs, Pt.cells, Pt.slots] at X6 l6 y6 z6 st6 hQ6
  subst l6; rw [y6, z6] at X6
  obtain ⟨rfl, N6q, e6⟩ := hQ6
  have N6 := Fr.app N5 N6q
  obtain ⟨cq7, kq7, q7a, q7b, q7c⟩ := isOf hZ e6 E_it
  obtain ⟨_, _, ⟨T7, L7, kz7, nz7⟩, -, X7, ⟨Lc7, hQ7, l7, y7, z7⟩, st7⟩ := X6.interfaceBack hx (xi := y_18) (y := y_16) hown (mvT hZ (ww hw 69 rfl)) (mvT hZ (ww hw 70 rfl)) (mvT hZ (ww hw 71 rfl)) (mvT hZ (ww hw 72 rfl)) (mvT hZ (ww hw 73 rfl)) (mvT hZ (ww hw 74 rfl)) (mvT hZ (ww hw 75 rfl)) (mvT hZ (ww hw 76 rfl)) (by decide) (backOf (W := 0) (rmHn l Z a0 hw [] it (2 : Int32) (2 : Int32) (0 : Int32) T2.heap n0 (Nat.le_trans Z0 KC.1) O0 F_next_a1_2 F_val_length_a1_2 (by decide)) hZ (ww hw 77 rfl) (ww hw 56 rfl) (Nat.le_trans (by decide) hRf) (Nat.le_trans (by decide) hRl)) q7a q7b q7c (g := (mkF m 277 #[vi p1, vi p2, vi p3, vi p4, vi p5, vi p6, vi (2 : Int32), vi c1, vi c2, vr va, vr li, vr it] [(.ref it)])) rfl (by rw [hml]; rfl) (Steps.refl _) (argsL := []) (rest := []) (lenOf pd_9 rfl) rfl (by show 2 * 0 + _ ≤ _; exact Nat.le_of_eq rfl) (hb hby at_277) (fun _ _ => ⟨rfl, e6, (Nat.le_trans (by omega : cells + 0 + 0 ≤ cells + 0) hRc), (Nat.le_trans (by omega : slots + 0 + 0 ≤ slots + 0) hRs)⟩)
  dsimp only [Pt.U, Pt.locs, Pt.cells, Pt.slots] at X7 l7 y7 z7 st7 hQ7
  subst l7; rw [y7, z7] at X7
  obtain ⟨rfl, N7q, e7⟩ := hQ7
  have N7 := Fr.app N6 N7q
  have pre8 : ∀ t, Steps p.tables e below (T7.setTop (mkF m 282 #[vi p1, vi p2, vi p3, vi p4, vi p5, vi p6, vi (2 : Int32), vi c1, vi c2, vr va, vr li, vr it] [(.int (0 : Int32))])) t → Steps p.tables e below (T0.setTop (mkF m 197 #[vi p1, vi p2, vi p3, vi p4, vi p5, vi p6, vi (2 : Int32), vi c1, vi c2, vr va, vr li, vr it] [])) t := by
    intro t kt
    refine pre0 t ?_
    show SS p e below m T0 197 #[vi p1, vi p2, vi p3, vi p4, vi p5, vi p6, vi (2 : Int32), vi c1, vi c2, vr va, vr li, vr it] [] _
    refine XS.aload X0.here hx rfl (hb hby at_197) rfl rfl ?_
    show SS p e below m T0 199 #[vi p1, vi p2, vi p3, vi p4, vi p5, vi p6, vi (2 : Int32), vi c1, vi c2, vr va, vr li, vr it] [(.ref it)] _
    refine XS.iconst X0.here hx rfl (hb hby at_199) ?_
    show SS p e below m T0 200 #[vi p1, vi p2, vi p3, vi p4, vi p5, vi p6, vi (2 : Int32), vi c1, vi c2, vr va, vr li, vr it] [(.int (0 : Int32)), (.ref it)] _
    refine XS.iload X0.here hx rfl (hb hby at_200) rfl ?_
    show SS p e below m T0 202 #[vi p1, vi p2, vi p3, vi p4, vi p5, vi p6, vi (2 : Int32), vi c1, vi c2, vr va, vr li, vr it] [(.int (2 : Int32)), (.int (0 : Int32)), (.ref it)] _
    refine XS.aload X0.here hx rfl (hb hby at_202) rfl rfl ?_
    show SS p e below m T0 204 #[vi p1, vi p2, vi p3, vi p4, vi p5, vi p6, vi (2 : Int32), vi c1, vi c2, vr va, vr li, vr it] [(.ref va), (.int (2 : Int32)), (.int (0 : Int32)), (.ref it)] _
    refine st1 _ ?_
    show SS p e below m T1 207 #[vi p1, vi p2, vi p3, vi p4, vi p5, vi p6, vi (2 : Int32), vi c1, vi c2, vr va, vr li, vr it] [(.int (1 : Int32))] _
    refine XS.ifNo X1.here hx rfl (hb hby at_207) rfl ((if0 _ _).trans (feq (by decide)).1) ?_
    show SS p e below m T1 210 #[vi p1, vi p2, vi p3, vi p4, vi p5, vi p6, vi (2 : Int32), vi c1, vi c2, vr va, vr li, vr it] [] _
    refine XS.aload X1.here hx rfl (hb hby at_210) rfl rfl ?_
    show SS p e below m T1 212 #[vi p1, vi p2, vi p3, vi p4, vi p5, vi p6, vi (2 : Int32), vi c1, vi c2, vr va, vr li, vr it] [(.ref it)] _
    refine XS.iconst X1.here hx rfl (hb hby at_212) ?_
    show SS p e below m T1 213 #[vi p1, vi p2, vi p3, vi p4, vi p5, vi p6, vi (2 : Int32), vi c1, vi c2, vr va, vr li, vr it] [(.int (1 : Int32)), (.ref it)] _
    refine XS.iload X1.here hx rfl (hb hby at_213) rfl ?_
    show SS p e below m T1 215 #[vi p1, vi p2, vi p3, vi p4, vi p5, vi p6, vi (2 : Int32), vi c1, vi c2, vr va, vr li, vr it] [(.int (2 : Int32)), (.int (1 : Int32)), (.ref it)] _
    refine XS.aload X1.here hx rfl (hb hby at_215) rfl rfl ?_
    show SS p e below m T1 217 #[vi p1, vi p2, vi p3, vi p4, vi p5, vi p6, vi (2 : Int32), vi c1, vi c2, vr va, vr li, vr it] [(.ref va), (.int (2 : Int32)), (.int (1 : Int32)), (.ref it)] _
    refine st2 _ ?_
    show SS p e below m T2 220 #[vi p1, vi p2, vi p3, vi p4, vi p5, vi p6, vi (2 : Int32), vi c1, vi c2, vr va, vr li, vr it] [(.int (1 : Int32))] _
    refine XS.ifNo X2.here hx rfl (hb hby at_220) rfl ((if0 _ _).trans (feq (by decide)).1) ?_
    show SS p e below m T2 223 #[vi p1, vi p2, vi p3, vi p4, vi p5, vi p6, vi (2 : Int32), vi c1, vi c2, vr va, vr li, vr it] [] _
    refine XS.aload X2.here hx rfl (hb hby at_223) rfl rfl ?_
    show SS p e below m T2 225 #[vi p1, vi p2, vi p3, vi p4, vi p5, vi p6, vi (2 : Int32), vi c1, vi c2, vr va, vr li, vr it] [(.ref it)] _
    refine XS.iconst X2.here hx rfl (hb hby at_225) ?_
    show SS p e below m T2 226 #[vi p1, vi p2, vi p3, vi p4, vi p5, vi p6, vi (2 : Int32), vi c1, vi c2, vr va, vr li, vr it] [(.int (2 : Int32)), (.ref it)] _
    refine XS.iload X2.here hx rfl (hb hby at_226) rfl ?_
    show SS p e below m T2 228 #[vi p1, vi p2, vi p3, vi p4, vi p5, vi p6, vi (2 : Int32), vi c1, vi c2, vr va, vr li, vr it] [(.int (2 : Int32)), (.int (2 : Int32)), (.ref it)] _
    refine XS.aload X2.here hx rfl (hb hby at_228) rfl rfl ?_
    show SS p e below m T2 230 #[vi p1, vi p2, vi p3, vi p4, vi p5, vi p6, vi (2 : Int32), vi c1, vi c2, vr va, vr li, vr it] [(.ref va), (.int (2 : Int32)), (.int (2 : Int32)), (.ref it)] _
    refine st3 _ ?_
    show SS p e below m T3 233 #[vi p1, vi p2, vi p3, vi p4, vi p5, vi p6, vi (2 : Int32), vi c1, vi c2, vr va, vr li, vr it] [(.int (1 : Int32))] _
    refine XS.ifNo X3.here hx rfl (hb hby at_233) rfl ((if0 _ _).trans (feq (by decide)).1) ?_
    show SS p e below m T3 236 #[vi p1, vi p2, vi p3, vi p4, vi p5, vi p6, vi (2 : Int32), vi c1, vi c2, vr va, vr li, vr it] [] _
    refine XS.aload X3.here hx rfl (hb hby at_236) rfl rfl ?_
    show SS p e below m T3 238 #[vi p1, vi p2, vi p3, vi p4, vi p5, vi p6, vi (2 : Int32), vi c1, vi c2, vr va, vr li, vr it] [(.ref it)] _
    refine XS.iconst X3.here hx rfl (hb hby at_238) ?_
    show SS p e below m T3 239 #[vi p1, vi p2, vi p3, vi p4, vi p5, vi p6, vi (2 : Int32), vi c1, vi c2, vr va, vr li, vr it] [(.int (3 : Int32)), (.ref it)] _
    refine XS.iload X3.here hx rfl (hb hby at_239) rfl ?_
    show SS p e below m T3 241 #[vi p1, vi p2, vi p3, vi p4, vi p5, vi p6, vi (2 : Int32), vi c1, vi c2, vr va, vr li, vr it] [(.int (2 : Int32)), (.int (3 : Int32)), (.ref it)] _
    refine XS.aload X3.here hx rfl (hb hby at_241) rfl rfl ?_
    show SS p e below m T3 243 #[vi p1, vi p2, vi p3, vi p4, vi p5, vi p6, vi (2 : Int32), vi c1, vi c2, vr va, vr li, vr it] [(.ref va), (.int (2 : Int32)), (.int (3 : Int32)), (.ref it)] _
    refine st4 _ ?_
    show SS p e below m T4 246 #[vi p1, vi p2, vi p3, vi p4, vi p5, vi p6, vi (2 : Int32), vi c1, vi c2, vr va, vr li, vr it] [(.int (1 : Int32))] _
    refine XS.ifNo X4.here hx rfl (hb hby at_246) rfl ((if0 _ _).trans (feq (by decide)).1) ?_
    show SS p e below m T4 249 #[vi p1, vi p2, vi p3, vi p4, vi p5, vi p6, vi (2 : Int32), vi c1, vi c2, vr va, vr li, vr it] [] _
    refine XS.aload X4.here hx rfl (hb hby at_249) rfl rfl ?_
    show SS p e below m T4 251 #[vi p1, vi p2, vi p3, vi p4, vi p5, vi p6, vi (2 : Int32), vi c1, vi c2, vr va, vr li, vr it] [(.ref it)] _
    refine XS.iconst X4.here hx rfl (hb hby at_251) ?_
    show SS p e below m T4 252 #[vi p1, vi p2, vi p3, vi p4, vi p5, vi p6, vi (2 : Int32), vi c1, vi c2, vr va, vr li, vr it] [(.int (4 : Int32)), (.ref it)] _
    refine XS.iload X4.here hx rfl (hb hby at_252) rfl ?_
    show SS p e below m T4 254 #[vi p1, vi p2, vi p3, vi p4, vi p5, vi p6, vi (2 : Int32), vi c1, vi c2, vr va, vr li, vr it] [(.int (2 : Int32)), (.int (4 : Int32)), (.ref it)] _
    refine XS.aload X4.here hx rfl (hb hby at_254) rfl rfl ?_
    show SS p e below m T4 256 #[vi p1, vi p2, vi p3, vi p4, vi p5, vi p6, vi (2 : Int32), vi c1, vi c2, vr va, vr li, vr it] [(.ref va), (.int (2 : Int32)), (.int (4 : Int32)), (.ref it)] _
    refine st5 _ ?_
    show SS p e below m T5 259 #[vi p1, vi p2, vi p3, vi p4, vi p5, vi p6, vi (2 : Int32), vi c1, vi c2, vr va, vr li, vr it] [(.int (1 : Int32))] _
    refine XS.ifNo X5.here hx rfl (hb hby at_259) rfl ((if0 _ _).trans (feq (by decide)).1) ?_
    show SS p e below m T5 262 #[vi p1, vi p2, vi p3, vi p4, vi p5, vi p6, vi (2 : Int32), vi c1, vi c2, vr va, vr li, vr it] [] _
    refine XS.aload X5.here hx rfl (hb hby at_262) rfl rfl ?_
    show SS p e below m T5 264 #[vi p1, vi p2, vi p3, vi p4, vi p5, vi p6, vi (2 : Int32), vi c1, vi c2, vr va, vr li, vr it] [(.ref it)] _
    refine XS.iconst X5.here hx rfl (hb hby at_264) ?_
    show SS p e below m T5 265 #[vi p1, vi p2, vi p3, vi p4, vi p5, vi p6, vi (2 : Int32), vi c1, vi c2, vr va, vr li, vr it] [(.int (5 : Int32)), (.ref it)] _
    refine XS.iload X5.here hx rfl (hb hby at_265) rfl ?_
    show SS p e below m T5 267 #[vi p1, vi p2, vi p3, vi p4, vi p5, vi p6, vi (2 : Int32), vi c1, vi c2, vr va, vr li, vr it] [(.int (2 : Int32)), (.int (5 : Int32)), (.ref it)] _
    refine XS.aload X5.here hx rfl (hb hby at_267) rfl rfl ?_
    show SS p e below m T5 269 #[vi p1, vi p2, vi p3, vi p4, vi p5, vi p6, vi (2 : Int32), vi c1, vi c2, vr va, vr li, vr it] [(.ref va), (.int (2 : Int32)), (.int (5 : Int32)), (.ref it)] _
    refine st6 _ ?_
    show SS p e below m T6 272 #[vi p1, vi p2, vi p3, vi p4, vi p5, vi p6, vi (2 : Int32), vi c1, vi c2, vr va, vr li, vr it] [(.int (1 : Int32))] _
    refine XS.ifNo X6.here hx rfl (hb hby at_272) rfl ((if0 _ _).trans (feq (by decide)).1) ?_
    show SS p e below m T6 275 #[vi p1, vi p2, vi p3, vi p4, vi p5, vi p6, vi (2 : Int32), vi c1, vi c2, vr va, vr li, vr it] [] _
    refine XS.aload X6.here hx rfl (hb hby at_275) rfl rfl ?_
    show SS p e below m T6 277 #[vi p1, vi p2, vi p3, vi p4, vi p5, vi p6, vi (2 : Int32), vi c1, vi c2, vr va, vr li, vr it] [(.ref it)] _
    refine st7.trans ?_
    exact kt
  exact ⟨T7, _, _, X7.more (by omega) (by omega), e7, N7, KC, pre8⟩
set_option maxRecDepth 65536 in
set_option maxHeartbeats 40000000 in
theorem tail3 {p : Program} {l : Launch} {e : Env} {R : Room} {s : State} {m : MethodId} {args : Array Value} {below : List Frame} {meth : Method} {c : Code} {T0 : State} {locs : List Loc} {cells slots : Nat} {Z : State} {a0 : Array Value} (hw : ∀ d ∈ tables_1, d.before a0 Z = true) (X0 : Stand p l e R s m args below meth c T0 locs cells slots) (hx : p.tables.exec = Jvm.exec) (hZ : Z.Warmed39 s.vm) (hby : c.code = code) (hml : c.maxLocals = 12) (hown : s.vm.findClass "com/example/brisk_tableau/brisktableau/tableau/SharedListIteratorPinLaw" = some m.cls) (p1 : Int32) (p2 : Int32) (p3 : Int32) (p4 : Int32) (p5 : Int32) (p6 : Int32) (c1 : Int32) (c2 : Int32) (va : Addr) (li : Addr) (it : Addr) (arr : Addr) (kk : ClassId) (cap : Int32) (vs : List Value) (k4 : ClassId) (x0 : Addr) (x1 : Addr) (x2 : Addr) (h0 : Heap) (n0 : Nat) (e0 : T0.heap = h0) (Z0 : n0 ≤ h0.size) (O0 : Old Z n0 h0) (N0 : Fr n0 locs) (F_next_it : Fld Z h0 it "com/example/brisk_tableau/brisktableau/tableau/SharedList$1" "next" "I" (.int (0 : Int32))) (F_val_length_it : Fld Z h0 it "com/example/brisk_tableau/brisktableau/tableau/SharedList$1" "val$length" "I" (.int (3 : Int32))) (F_val_items_it : Fld Z h0 it "com/example/brisk_tableau/brisktableau/tableau/SharedList$1" "val$items" "[Ljava/lang/Object;" (.ref arr)) (E_it : Exa Z h0 it "com/example/brisk_tableau/brisktableau/tableau/SharedList$1") (E_arr : Exa Z h0 arr "[Ljava/lang/Object;") (V_arr : Arv Z h0 arr kk (.object "java/lang/Object") cap vs .null) (V_va : Arv Z h0 va k4 .int (5 : Int32) [(.int p1), (.int p2), (.int p3), (.int p4), (.int p5)] (.int (0 : Int32))) (g_it : n0 ≤ it) (ne_va : va ≠ it) (E_x0 : Exa Z h0 x0 "java/lang/Integer") (F_value_x0 : Fld Z h0 x0 "java/lang/Integer" "value" "I" (.int p1)) (hX0 : vs.getD (0 : Int32).toNatClampNeg .null = .ref x0) (hD0 : (0 : Int32) < cap) (E_x1 : Exa Z h0 x1 "java/lang/Integer") (F_value_x1 : Fld Z h0 x1 "java/lang/Integer" "value" "I" (.int p2)) (hX1 : vs.getD (1 : Int32).toNatClampNeg .null = .ref x1) (hD1 : (1 : Int32) < cap) (E_x2 : Exa Z h0 x2 "java/lang/Integer") (F_value_x2 : Fld Z h0 x2 "java/lang/Integer" "value" "I" (.int p3)) (hX2 : vs.getD (2 : Int32).toNatClampNeg .null = .ref x2) (hD2 : (2 : Int32) < cap) (hRf : 2 ≤ R.frames) (hRl : 28 ≤ R.locals) (hRc : cells + 0 ≤ R.cells) (hRs : slots + 0 ≤ R.slots) :
    ∃ (T' : State) (h' : Heap) (L' : List Loc), (Stand p l e R s m args below meth c T' L' (cells + 0) (slots + 0)) ∧ (T'.heap = h') ∧ (Fr n0 L') ∧ (Keep h0 h' [it]) ∧ (∀ t, Steps p.tables e below (T'.setTop (mkF m 282 #[vi p1, vi p2, vi p3, vi p4, vi p5, vi p6, vi (3 : Int32), vi c1, vi c2, vr va, vr li, vr it] [(.int (0 : Int32))])) t → Steps p.tables e below (T0.setTop (mkF m 197 #[vi p1, vi p2, vi p3, vi p4, vi p5, vi p6, vi (3 : Int32), vi c1, vi c2, vr va, vr li, vr it] [])) t) := by
  have KC : Keep h0 h0 [it] := Keep.refl h0 _
  have pre0 : ∀ t, Steps p.tables e below (T0.setTop (mkF m 197 #[vi p1, vi p2, vi p3, vi p4, vi p5, vi p6, vi (3 : Int32), vi c1, vi c2, vr va, vr li, vr it] [])) t → Steps p.tables e below (T0.setTop (mkF m 197 #[vi p1, vi p2, vi p3, vi p4, vi p5, vi p6, vi (3 : Int32), vi c1, vi c2, vr va, vr li, vr it] [])) t := fun _ k => k
  obtain ⟨_, _, ⟨T1, L1, kz1, nz1⟩, -, X1, ⟨Lc1, hQ1, l1, y1, z1⟩, st1⟩ := Jvm.LawKit.callS X0 hx (y := y_20) hown (mvT hZ (ww hw 65 rfl)) (mvT hZ (ww hw 66 rfl)) (mvT hZ (ww hw 67 rfl)) (mvT hZ (ww hw 68 rfl)) (by decide) (backOf (W := 0) (rmStA l Z a0 hw [] it (0 : Int32) (3 : Int32) va arr kk cap vs x0 p1 k4 (5 : Int32) [(.int p1), (.int p2), (.int p3), (.int p4), (.int p5)] (1 : Int32) h0 n0 (Nat.le_trans Z0 KC.1) O0 F_next_it F_val_length_it F_val_items_it E_it E_arr V_arr E_x0 F_value_x0 V_va g_it ne_va (by decide) (by decide) hD0 hX0 (by decide) rfl (by decide)) hZ (ww hw 68 rfl) (ww hw 67 rfl) (Nat.le_trans (by decide) hRf) (Nat.le_trans (by decide) hRl)) (g := (mkF m 204 #[vi p1, vi p2, vi p3, vi p4, vi p5, vi p6, vi (3 : Int32), vi c1, vi c2, vr va, vr li, vr it] [(.ref va), (.int (3 : Int32)), (.int (0 : Int32)), (.ref it)])) rfl (by rw [hml]; rfl) (argsL := [(.ref it), (.int (0 : Int32)), (.int (3 : Int32)), (.ref va)]) (rest := []) (lenOf pd_12 rfl) rfl (by show 2 * 0 + _ ≤ _; exact Nat.le_of_eq rfl) (hb hby at_204) (fun _ _ => ⟨rfl, e0, (Nat.le_trans (by omega : cells + 0 + 0 ≤ cells + 0) hRc), (Nat.le_trans (by omega : slots + 0 + 0 ≤ slots + 0) hRs)⟩)
  dsimp only [Pt.U, Pt.locs, Pt.cells, Pt.slots] at X1 l1 y1 z1 st1 hQ1
  subst l1; rw [y1, z1] at X1
  obtain ⟨rfl, N1q, K1, F_next_a1_1, F_val_length_a1_1, F_val_items_a1_1⟩ := hQ1
  have N1 := Fr.app N0 N1q
  have nec_arr_it : arr ≠ it := Exa.ne E_arr E_it (by decide)
  have nec_x0_it : x0 ≠ it := Exa.ne E_x0 E_it (by decide)
  have nec_x1_it : x1 ≠ it := Exa.ne E_x1 E_it (by decide)
  have nec_x2_it : x2 ≠ it := Exa.ne E_x2 E_it (by decide)
  replace E_it := E_it.keep K1
  replace E_arr := E_arr.keep K1
  replace V_arr := V_arr.keep K1 (ninS nec_arr_it nin0)
  replace V_va := V_va.keep K1 (ninS ne_va nin0)
  replace E_x0 := E_x0.keep K1
  replace F_value_x0 := F_value_x0.keep K1 (ninS nec_x0_it nin0)
  replace E_x1 := E_x1.keep K1
  replace F_value_x1 := F_value_x1.keep K1 (ninS nec_x1_it nin0)
  replace E_x2 := E_x2.keep K1
  replace F_value_x2 := F_value_x2.keep K1 (ninS nec_x2_it nin0)
  replace O0 := O0.keep K1 (allS g_it all0)
  replace KC := KC.trans K1 (allS (Or.inl (List.mem_of_getElem? (i := 0) rfl)) all0)
  obtain ⟨_, _, ⟨T2, L2, kz2, nz2⟩, -, X2, ⟨Lc2, hQ2, l2, y2, z2⟩, st2⟩ := Jvm.LawKit.callS X1 hx (y := y_20) hown (mvT hZ (ww hw 65 rfl)) (mvT hZ (ww hw 66 rfl)) (mvT hZ (ww hw 67 rfl)) (mvT hZ (ww hw 68 rfl)) (by decide) (backOf (W := 0) (rmStA l Z a0 hw [] it (1 : Int32) (3 : Int32) va arr kk cap vs x1 p2 k4 (5 : Int32) [(.int p1), (.int p2), (.int p3), (.int p4), (.int p5)] (2 : Int32) T1.heap n0 (Nat.le_trans Z0 KC.1) O0 F_next_a1_1 F_val_length_a1_1 F_val_items_a1_1 E_it E_arr V_arr E_x1 F_value_x1 V_va g_it ne_va (by decide) (by decide) hD1 hX1 (by decide) rfl (by decide)) hZ (ww hw 68 rfl) (ww hw 67 rfl) (Nat.le_trans (by decide) hRf) (Nat.le_trans (by decide) hRl)) (g := (mkF m 217 #[vi p1, vi p2, vi p3, vi p4, vi p5, vi p6, vi (3 : Int32), vi c1, vi c2, vr va, vr li, vr it] [(.ref va), (.int (3 : Int32)), (.int (1 : Int32)), (.ref it)])) rfl (by rw [hml]; rfl) (argsL := [(.ref it), (.int (1 : Int32)), (.int (3 : Int32)), (.ref va)]) (rest := []) (lenOf pd_12 rfl) rfl (by show 2 * 0 + _ ≤ _; exact Nat.le_of_eq rfl) (hb hby at_217) (fun _ _ => ⟨rfl, rfl, (Nat.le_trans (by omega : cells + 0 + 0 ≤ cells + 0) hRc), (Nat.le_trans (by omega : slots + 0 + 0 ≤ slots + 0) hRs)⟩)
  dsimp only [Pt.U, Pt.locs, Pt.cells, Pt.slots] at X2 l2 y2 z2 st2 hQ2
  subst l2; rw [y2, z2] at X2
  obtain ⟨rfl, N2q, K2, F_next_a1_2, F_val_length_a1_2, F_val_items_a1_2⟩ := hQ2
  have N2 := Fr.app N1 N2q
  replace E_it := E_it.keep K2
  replace E_arr := E_arr.keep K2
  replace V_arr := V_arr.keep K2 (ninS nec_arr_it nin0)
  replace V_va := V_va.keep K2 (ninS ne_va nin0)
  replace E_x0 := E_x0.keep K2
  replace F_value_x0 := F_value_x0.keep K2 (ninS nec_x0_it nin0)
  replace E_x1 := E_x1.keep K2
  replace F_value_x1 := F_value_x1.keep K2 (ninS nec_x1_it nin0)
  replace E_x2 := E_x2.keep K2
  replace F_value_x2 := F_value_x2.keep K2 (ninS nec_x2_it nin0)
  replace O0 := O0.keep K2 (allS g_it all0)
  replace KC := KC.trans K2 (allS (Or.inl (List.mem_of_getElem? (i := 0) rfl)) all0)
  obtain ⟨_, _, ⟨T3, L3, kz3, nz3⟩, -, X3, ⟨Lc3, hQ3, l3, y3, z3⟩, st3⟩ := Jvm.LawKit.callS X2 hx (y := y_20) hown (mvT hZ (ww hw 65 rfl)) (mvT hZ (ww hw 66 rfl)) (mvT hZ (ww hw 67 rfl)) (mvT hZ (ww hw 68 rfl)) (by decide) (backOf (W := 0) (rmStA l Z a0 hw [] it (2 : Int32) (3 : Int32) va arr kk cap vs x2 p3 k4 (5 : Int32) [(.int p1), (.int p2), (.int p3), (.int p4), (.int p5)] (3 : Int32) T2.heap n0 (Nat.le_trans Z0 KC.1) O0 F_next_a1_2 F_val_length_a1_2 F_val_items_a1_2 E_it E_arr V_arr E_x2 F_value_x2 V_va g_it ne_va (by decide) (by decide) hD2 hX2 (by decide) rfl (by decide)) hZ (ww hw 68 rfl) (ww hw 67 rfl) (Nat.le_trans (by decide) hRf) (Nat.le_trans (by decide) hRl)) (g := (mkF m 230 #[vi p1, vi p2, vi p3, vi p4, vi p5, vi p6, vi (3 : Int32), vi c1, vi c2, vr va, vr li, vr it] [(.ref va), (.int (3 : Int32)), (.int (2 : Int32)), (.ref it)])) rfl (by rw [hml]; rfl) (argsL := [(.ref it), (.int (2 : Int32)), (.int (3 : Int32)), (.ref va)]) (rest := []) (lenOf pd_12 rfl) rfl (by show 2 * 0 + _ ≤ _; exact Nat.le_of_eq rfl) (hb hby at_230) (fun _ _ => ⟨rfl, rfl, (Nat.le_trans (by omega : cells + 0 + 0 ≤ cells + 0) hRc), (Nat.le_trans (by omega : slots + 0 + 0 ≤ slots + 0) hRs)⟩)
  dsimp only [Pt.U, Pt.locs, Pt.cells, Pt.slots] at X3 l3 y3 z3 st3 hQ3
  subst l3; rw [y3, z3] at X3
  obtain ⟨rfl, N3q, K3, F_next_a1_3, F_val_length_a1_3, F_val_items_a1_3⟩ := hQ3
  have N3 := Fr.app N2 N3q
  replace E_it := E_it.keep K3
  replace E_arr := E_arr.keep K3
  replace V_arr := V_arr.keep K3 (ninS nec_arr_it nin0)
  replace V_va := V_va.keep K3 (ninS ne_va nin0)
  replace E_x0 := E_x0.keep K3
  replace F_value_x0 := F_value_x0.keep K3 (ninS nec_x0_it nin0)
  replace E_x1 := E_x1.keep K3
  replace F_value_x1 := F_value_x1.keep K3 (ninS nec_x1_it nin0)
  replace E_x2 := E_x2.keep K3
  replace F_value_x2 := F_value_x2.keep K3 (ninS nec_x2_it nin0)
  replace O0 := O0.keep K3 (allS g_it all0)
  replace KC := KC.trans K3 (allS (Or.inl (List.mem_of_getElem? (i := 0) rfl)) all0)
  obtain ⟨_, _, ⟨T4, L4, kz4, nz4⟩, -, X4, ⟨Lc4, hQ4, l4, y4, z4⟩, st4⟩ := Jvm.LawKit.callS X3 hx (y := y_20) hown (mvT hZ (ww hw 65 rfl)) (mvT hZ (ww hw 66 rfl)) (mvT hZ (ww hw 67 rfl)) (mvT hZ (ww hw 68 rfl)) (by decide) (backOf (W := 0) (rmStB l Z a0 hw [] it (3 : Int32) (3 : Int32) va (3 : Int32) (3 : Int32) T3.heap n0 (Nat.le_trans Z0 KC.1) O0 F_next_a1_3 F_val_length_a1_3 E_it (by decide) (by decide)) hZ (ww hw 68 rfl) (ww hw 67 rfl) (Nat.le_trans (by decide) hRf) (Nat.le_trans (by decide) hRl)) (g := (mkF m 243 #[vi p1, vi p2, vi p3, vi p4, vi p5, vi p6, vi (3 : Int32), vi c1, vi c2, vr va, vr li, vr it] [(.ref va), (.int (3 : Int32)), (.int (3 : Int32)), (.ref it)])) rfl (by rw [hml]; rfl) (argsL := [(.ref it), (.int (3 : Int32)), (.int (3 : Int32)), (.ref va)]) (rest := []) (lenOf pd_12 rfl) rfl (by show 2 * 0 + _ ≤ _; exact Nat.le_of_eq rfl) (hb hby at_243) (fun _ _ => ⟨rfl, rfl, (Nat.le_trans (by omega : cells + 0 + 0 ≤ cells + 0) hRc), (Nat.le_trans (by omega : slots + 0 + 0 ≤ slots + 0) hRs)⟩)
  dsimp only [Pt.U, Pt.locs, Pt.cells, Pt.slots] at X4 l4 y4 z4 st4 hQ4
  subst l4; rw [y4, z4] at X4
  obtain ⟨rfl, N4q, e4⟩ := hQ4
  have N4 := Fr.app N3 N4q
  obtain ⟨_, _, ⟨T5, L5, kz5, nz5⟩, -, X5, ⟨Lc5, hQ5, l5, y5, z5⟩, st5⟩ := Jvm.LawKit.callS X4 hx (y := y_20) hown (mvT hZ (ww hw 65 rfl)) (mvT hZ (ww hw 66 rfl)) (mvT hZ (ww hw 67 rfl)) (mvT hZ (ww hw 68 rfl)) (by decide) (backOf (W := 0) (rmStB l Z a0 hw [] it (4 : Int32) (3 : Int32) va (3 : Int32) (3 : Int32) T3.heap n0 (Nat.le_trans Z0 KC.1) O0 F_next_a1_3 F_val_length_a1_3 E_it (by decide) (by decide)) hZ (ww hw 68 rfl) (ww hw 67 rfl) (Nat.le_trans (by decide) hRf) (Nat.le_trans (by decide) hRl)) (g := (mkF m 256 #[vi p1, vi p2, vi p3, vi p4, vi p5, vi p6, vi (3 : Int32), vi c1, vi c2, vr va, vr li, vr it] [(.ref va), (.int (3 : Int32)), (.int (4 : Int32)), (.ref it)])) rfl (by rw [hml]; rfl) (argsL := [(.ref it), (.int (4 : Int32)), (.int (3 : Int32)), (.ref va)]) (rest := []) (lenOf pd_12 rfl) rfl (by show 2 * 0 + _ ≤ _; exact Nat.le_of_eq rfl) (hb hby at_256) (fun _ _ => ⟨rfl, e4, (Nat.le_trans (by omega : cells + 0 + 0 ≤ cells + 0) hRc), (Nat.le_trans (by omega : slots + 0 + 0 ≤ slots + 0) hRs)⟩)
  dsimp only [Pt.U, Pt.locs, Pt.cells, Pt.slots] at X5 l5 y5 z5 st5 hQ5
  subst l5; rw [y5, z5] at X5
  obtain ⟨rfl, N5q, e5⟩ := hQ5
  have N5 := Fr.app N4 N5q
  obtain ⟨_, _, ⟨T6, L6, kz6, nz6⟩, -, X6, ⟨Lc6, hQ6, l6, y6, z6⟩, st6⟩ := Jvm.LawKit.callS X5 hx (y := y_20) hown (mvT hZ (ww hw 65 rfl)) (mvT hZ (ww hw 66 rfl)) (mvT hZ (ww hw 67 rfl)) (mvT hZ (ww hw 68 rfl)) (by decide) (backOf (W := 0) (rmStB l Z a0 hw [] it (5 : Int32) (3 : Int32) va (3 : Int32) (3 : Int32) T3.heap n0 (Nat.le_trans Z0 KC.1) O0 F_next_a1_3 F_val_length_a1_3 E_it (by decide) (by decide)) hZ (ww hw 68 rfl) (ww hw 67 rfl) (Nat.le_trans (by decide) hRf) (Nat.le_trans (by decide) hRl)) (g := (mkF m 269 #[vi p1, vi p2, vi p3, vi p4, vi p5, vi p6, vi (3 : Int32), vi c1, vi c2, vr va, vr li, vr it] [(.ref va), (.int (3 : Int32)), (.int (5 : Int32)), (.ref it)])) rfl (by rw [hml]; rfl) (argsL := [(.ref it), (.int (5 : Int32)), (.int (3 : Int32)), (.ref va)]) (rest := []) (lenOf pd_12 rfl) rfl (by show 2 * 0 + _ ≤ _; exact Nat.le_of_eq rfl) (hb hby at_269) (fun _ _ => ⟨rfl, e5, (Nat.le_trans (by omega : cells + 0 + 0 ≤ cells + 0) hRc), (Nat.le_trans (by omega : slots + 0 + 0 ≤ slots + 0) hRs)⟩)
  dsimp only [Pt.U, Pt.locs, Pt.cells, Pt.slots] at X6 l6 y6 z6 st6 hQ6
  subst l6; rw [y6, z6] at X6
  obtain ⟨rfl, N6q, e6⟩ := hQ6
  have N6 := Fr.app N5 N6q
  obtain ⟨cq7, kq7, q7a, q7b, q7c⟩ := isOf hZ e6 E_it
  obtain ⟨_, _, ⟨T7, L7, kz7, nz7⟩, -, X7, ⟨Lc7, hQ7, l7, y7, z7⟩, st7⟩ := X6.interfaceBack hx (xi := y_18) (y := y_16) hown (mvT hZ (ww hw 69 rfl)) (mvT hZ (ww hw 70 rfl)) (mvT hZ (ww hw 71 rfl)) (mvT hZ (ww hw 72 rfl)) (mvT hZ (ww hw 73 rfl)) (mvT hZ (ww hw 74 rfl)) (mvT hZ (ww hw 75 rfl)) (mvT hZ (ww hw 76 rfl)) (by decide) (backOf (W := 0) (rmHn l Z a0 hw [] it (3 : Int32) (3 : Int32) (0 : Int32) T3.heap n0 (Nat.le_trans Z0 KC.1) O0 F_next_a1_3 F_val_length_a1_3 (by decide)) hZ (ww hw 77 rfl) (ww hw 56 rfl) (Nat.le_trans (by decide) hRf) (Nat.le_trans (by decide) hRl)) q7a q7b q7c (g := (mkF m 277 #[vi p1, vi p2, vi p3, vi p4, vi p5, vi p6, vi (3 : Int32), vi c1, vi c2, vr va, vr li, vr it] [(.ref it)])) rfl (by rw [hml]; rfl) (Steps.refl _) (argsL := []) (rest := []) (lenOf pd_9 rfl) rfl (by show 2 * 0 + _ ≤ _; exact Nat.le_of_eq rfl) (hb hby at_277) (fun _ _ => ⟨rfl, e6, (Nat.le_trans (by omega : cells + 0 + 0 ≤ cells + 0) hRc), (Nat.le_trans (by omega : slots + 0 + 0 ≤ slots + 0) hRs)⟩)
  dsimp only [Pt.U, Pt.locs, Pt.cells, Pt.slots] at X7 l7 y7 z7 st7 hQ7
  subst l7; rw [y7, z7] at X7
  obtain ⟨rfl, N7q, e7⟩ := hQ7
  have N7 := Fr.app N6 N7q
  have pre8 : ∀ t, Steps p.tables e below (T7.setTop (mkF m 282 #[vi p1, vi p2, vi p3, vi p4, vi p5, vi p6, vi (3 : Int32), vi c1, vi c2, vr va, vr li, vr it] [(.int (0 : Int32))])) t → Steps p.tables e below (T0.setTop (mkF m 197 #[vi p1, vi p2, vi p3, vi p4, vi p5, vi p6, vi (3 : Int32), vi c1, vi c2, vr va, vr li, vr it] [])) t := by
    intro t kt
    refine pre0 t ?_
    show SS p e below m T0 197 #[vi p1, vi p2, vi p3, vi p4, vi p5, vi p6, vi (3 : Int32), vi c1, vi c2, vr va, vr li, vr it] [] _
    refine XS.aload X0.here hx rfl (hb hby at_197) rfl rfl ?_
    show SS p e below m T0 199 #[vi p1, vi p2, vi p3, vi p4, vi p5, vi p6, vi (3 : Int32), vi c1, vi c2, vr va, vr li, vr it] [(.ref it)] _
    refine XS.iconst X0.here hx rfl (hb hby at_199) ?_
    show SS p e below m T0 200 #[vi p1, vi p2, vi p3, vi p4, vi p5, vi p6, vi (3 : Int32), vi c1, vi c2, vr va, vr li, vr it] [(.int (0 : Int32)), (.ref it)] _
    refine XS.iload X0.here hx rfl (hb hby at_200) rfl ?_
    show SS p e below m T0 202 #[vi p1, vi p2, vi p3, vi p4, vi p5, vi p6, vi (3 : Int32), vi c1, vi c2, vr va, vr li, vr it] [(.int (3 : Int32)), (.int (0 : Int32)), (.ref it)] _
    refine XS.aload X0.here hx rfl (hb hby at_202) rfl rfl ?_
    show SS p e below m T0 204 #[vi p1, vi p2, vi p3, vi p4, vi p5, vi p6, vi (3 : Int32), vi c1, vi c2, vr va, vr li, vr it] [(.ref va), (.int (3 : Int32)), (.int (0 : Int32)), (.ref it)] _
    refine st1 _ ?_
    show SS p e below m T1 207 #[vi p1, vi p2, vi p3, vi p4, vi p5, vi p6, vi (3 : Int32), vi c1, vi c2, vr va, vr li, vr it] [(.int (1 : Int32))] _
    refine XS.ifNo X1.here hx rfl (hb hby at_207) rfl ((if0 _ _).trans (feq (by decide)).1) ?_
    show SS p e below m T1 210 #[vi p1, vi p2, vi p3, vi p4, vi p5, vi p6, vi (3 : Int32), vi c1, vi c2, vr va, vr li, vr it] [] _
    refine XS.aload X1.here hx rfl (hb hby at_210) rfl rfl ?_
    show SS p e below m T1 212 #[vi p1, vi p2, vi p3, vi p4, vi p5, vi p6, vi (3 : Int32), vi c1, vi c2, vr va, vr li, vr it] [(.ref it)] _
    refine XS.iconst X1.here hx rfl (hb hby at_212) ?_
    show SS p e below m T1 213 #[vi p1, vi p2, vi p3, vi p4, vi p5, vi p6, vi (3 : Int32), vi c1, vi c2, vr va, vr li, vr it] [(.int (1 : Int32)), (.ref it)] _
    refine XS.iload X1.here hx rfl (hb hby at_213) rfl ?_
    show SS p e below m T1 215 #[vi p1, vi p2, vi p3, vi p4, vi p5, vi p6, vi (3 : Int32), vi c1, vi c2, vr va, vr li, vr it] [(.int (3 : Int32)), (.int (1 : Int32)), (.ref it)] _
    refine XS.aload X1.here hx rfl (hb hby at_215) rfl rfl ?_
    show SS p e below m T1 217 #[vi p1, vi p2, vi p3, vi p4, vi p5, vi p6, vi (3 : Int32), vi c1, vi c2, vr va, vr li, vr it] [(.ref va), (.int (3 : Int32)), (.int (1 : Int32)), (.ref it)] _
    refine st2 _ ?_
    show SS p e below m T2 220 #[vi p1, vi p2, vi p3, vi p4, vi p5, vi p6, vi (3 : Int32), vi c1, vi c2, vr va, vr li, vr it] [(.int (1 : Int32))] _
    refine XS.ifNo X2.here hx rfl (hb hby at_220) rfl ((if0 _ _).trans (feq (by decide)).1) ?_
    show SS p e below m T2 223 #[vi p1, vi p2, vi p3, vi p4, vi p5, vi p6, vi (3 : Int32), vi c1, vi c2, vr va, vr li, vr it] [] _
    refine XS.aload X2.here hx rfl (hb hby at_223) rfl rfl ?_
    show SS p e below m T2 225 #[vi p1, vi p2, vi p3, vi p4, vi p5, vi p6, vi (3 : Int32), vi c1, vi c2, vr va, vr li, vr it] [(.ref it)] _
    refine XS.iconst X2.here hx rfl (hb hby at_225) ?_
    show SS p e below m T2 226 #[vi p1, vi p2, vi p3, vi p4, vi p5, vi p6, vi (3 : Int32), vi c1, vi c2, vr va, vr li, vr it] [(.int (2 : Int32)), (.ref it)] _
    refine XS.iload X2.here hx rfl (hb hby at_226) rfl ?_
    show SS p e below m T2 228 #[vi p1, vi p2, vi p3, vi p4, vi p5, vi p6, vi (3 : Int32), vi c1, vi c2, vr va, vr li, vr it] [(.int (3 : Int32)), (.int (2 : Int32)), (.ref it)] _
    refine XS.aload X2.here hx rfl (hb hby at_228) rfl rfl ?_
    show SS p e below m T2 230 #[vi p1, vi p2, vi p3, vi p4, vi p5, vi p6, vi (3 : Int32), vi c1, vi c2, vr va, vr li, vr it] [(.ref va), (.int (3 : Int32)), (.int (2 : Int32)), (.ref it)] _
    refine st3 _ ?_
    show SS p e below m T3 233 #[vi p1, vi p2, vi p3, vi p4, vi p5, vi p6, vi (3 : Int32), vi c1, vi c2, vr va, vr li, vr it] [(.int (1 : Int32))] _
    refine XS.ifNo X3.here hx rfl (hb hby at_233) rfl ((if0 _ _).trans (feq (by decide)).1) ?_
    show SS p e below m T3 236 #[vi p1, vi p2, vi p3, vi p4, vi p5, vi p6, vi (3 : Int32), vi c1, vi c2, vr va, vr li, vr it] [] _
    refine XS.aload X3.here hx rfl (hb hby at_236) rfl rfl ?_
    show SS p e below m T3 238 #[vi p1, vi p2, vi p3, vi p4, vi p5, vi p6, vi (3 : Int32), vi c1, vi c2, vr va, vr li, vr it] [(.ref it)] _
    refine XS.iconst X3.here hx rfl (hb hby at_238) ?_
    show SS p e below m T3 239 #[vi p1, vi p2, vi p3, vi p4, vi p5, vi p6, vi (3 : Int32), vi c1, vi c2, vr va, vr li, vr it] [(.int (3 : Int32)), (.ref it)] _
    refine XS.iload X3.here hx rfl (hb hby at_239) rfl ?_
    show SS p e below m T3 241 #[vi p1, vi p2, vi p3, vi p4, vi p5, vi p6, vi (3 : Int32), vi c1, vi c2, vr va, vr li, vr it] [(.int (3 : Int32)), (.int (3 : Int32)), (.ref it)] _
    refine XS.aload X3.here hx rfl (hb hby at_241) rfl rfl ?_
    show SS p e below m T3 243 #[vi p1, vi p2, vi p3, vi p4, vi p5, vi p6, vi (3 : Int32), vi c1, vi c2, vr va, vr li, vr it] [(.ref va), (.int (3 : Int32)), (.int (3 : Int32)), (.ref it)] _
    refine st4 _ ?_
    show SS p e below m T4 246 #[vi p1, vi p2, vi p3, vi p4, vi p5, vi p6, vi (3 : Int32), vi c1, vi c2, vr va, vr li, vr it] [(.int (1 : Int32))] _
    refine XS.ifNo X4.here hx rfl (hb hby at_246) rfl ((if0 _ _).trans (feq (by decide)).1) ?_
    show SS p e below m T4 249 #[vi p1, vi p2, vi p3, vi p4, vi p5, vi p6, vi (3 : Int32), vi c1, vi c2, vr va, vr li, vr it] [] _
    refine XS.aload X4.here hx rfl (hb hby at_249) rfl rfl ?_
    show SS p e below m T4 251 #[vi p1, vi p2, vi p3, vi p4, vi p5, vi p6, vi (3 : Int32), vi c1, vi c2, vr va, vr li, vr it] [(.ref it)] _
    refine XS.iconst X4.here hx rfl (hb hby at_251) ?_
    show SS p e below m T4 252 #[vi p1, vi p2, vi p3, vi p4, vi p5, vi p6, vi (3 : Int32), vi c1, vi c2, vr va, vr li, vr it] [(.int (4 : Int32)), (.ref it)] _
    refine XS.iload X4.here hx rfl (hb hby at_252) rfl ?_
    show SS p e below m T4 254 #[vi p1, vi p2, vi p3, vi p4, vi p5, vi p6, vi (3 : Int32), vi c1, vi c2, vr va, vr li, vr it] [(.int (3 : Int32)), (.int (4 : Int32)), (.ref it)] _
    refine XS.aload X4.here hx rfl (hb hby at_254) rfl rfl ?_
    show SS p e below m T4 256 #[vi p1, vi p2, vi p3, vi p4, vi p5, vi p6, vi (3 : Int32), vi c1, vi c2, vr va, vr li, vr it] [(.ref va), (.int (3 : Int32)), (.int (4 : Int32)), (.ref it)] _
    refine st5 _ ?_
    show SS p e below m T5 259 #[vi p1, vi p2, vi p3, vi p4, vi p5, vi p6, vi (3 : Int32), vi c1, vi c2, vr va, vr li, vr it] [(.int (1 : Int32))] _
    refine XS.ifNo X5.here hx rfl (hb hby at_259) rfl ((if0 _ _).trans (feq (by decide)).1) ?_
    show SS p e below m T5 262 #[vi p1, vi p2, vi p3, vi p4, vi p5, vi p6, vi (3 : Int32), vi c1, vi c2, vr va, vr li, vr it] [] _
    refine XS.aload X5.here hx rfl (hb hby at_262) rfl rfl ?_
    show SS p e below m T5 264 #[vi p1, vi p2, vi p3, vi p4, vi p5, vi p6, vi (3 : Int32), vi c1, vi c2, vr va, vr li, vr it] [(.ref it)] _
    refine XS.iconst X5.here hx rfl (hb hby at_264) ?_
    show SS p e below m T5 265 #[vi p1, vi p2, vi p3, vi p4, vi p5, vi p6, vi (3 : Int32), vi c1, vi c2, vr va, vr li, vr it] [(.int (5 : Int32)), (.ref it)] _
    refine XS.iload X5.here hx rfl (hb hby at_265) rfl ?_
    show SS p e below m T5 267 #[vi p1, vi p2, vi p3, vi p4, vi p5, vi p6, vi (3 : Int32), vi c1, vi c2, vr va, vr li, vr it] [(.int (3 : Int32)), (.int (5 : Int32)), (.ref it)] _
    refine XS.aload X5.here hx rfl (hb hby at_267) rfl rfl ?_
    show SS p e below m T5 269 #[vi p1, vi p2, vi p3, vi p4, vi p5, vi p6, vi (3 : Int32), vi c1, vi c2, vr va, vr li, vr it] [(.ref va), (.int (3 : Int32)), (.int (5 : Int32)), (.ref it)] _
    refine st6 _ ?_
    show SS p e below m T6 272 #[vi p1, vi p2, vi p3, vi p4, vi p5, vi p6, vi (3 : Int32), vi c1, vi c2, vr va, vr li, vr it] [(.int (1 : Int32))] _
    refine XS.ifNo X6.here hx rfl (hb hby at_272) rfl ((if0 _ _).trans (feq (by decide)).1) ?_
    show SS p e below m T6 275 #[vi p1, vi p2, vi p3, vi p4, vi p5, vi p6, vi (3 : Int32), vi c1, vi c2, vr va, vr li, vr it] [] _
    refine XS.aload X6.here hx rfl (hb hby at_275) rfl rfl ?_
    show SS p e below m T6 277 #[vi p1, vi p2, vi p3, vi p4, vi p5, vi p6, vi (3 : Int32), vi c1, vi c2, vr va, vr li, vr it] [(.ref it)] _
    refine st7.trans ?_
    exact kt
  exact ⟨T7, _, _, X7.more (by omega) (by omega), e7, N7, KC, pre8⟩
set_option maxRecDepth 65536 in
set_option maxHeartbeats 40000000 in
theorem tail4 {p : Program} {l : Launch} {e : Env} {R : Room} {s : State} {m : MethodId} {args : Array Value} {below : List Frame} {meth : Method} {c : Code} {T0 : State} {locs : List Loc} {cells slots : Nat} {Z : State} {a0 : Array Value} (hw : ∀ d ∈ tables_1, d.before a0 Z = true) (X0 : Stand p l e R s m args below meth c T0 locs cells slots) (hx : p.tables.exec = Jvm.exec) (hZ : Z.Warmed39 s.vm) (hby : c.code = code) (hml : c.maxLocals = 12) (hown : s.vm.findClass "com/example/brisk_tableau/brisktableau/tableau/SharedListIteratorPinLaw" = some m.cls) (p1 : Int32) (p2 : Int32) (p3 : Int32) (p4 : Int32) (p5 : Int32) (p6 : Int32) (c1 : Int32) (c2 : Int32) (va : Addr) (li : Addr) (it : Addr) (arr : Addr) (kk : ClassId) (cap : Int32) (vs : List Value) (k4 : ClassId) (x0 : Addr) (x1 : Addr) (x2 : Addr) (x3 : Addr) (h0 : Heap) (n0 : Nat) (e0 : T0.heap = h0) (Z0 : n0 ≤ h0.size) (O0 : Old Z n0 h0) (N0 : Fr n0 locs) (F_next_it : Fld Z h0 it "com/example/brisk_tableau/brisktableau/tableau/SharedList$1" "next" "I" (.int (0 : Int32))) (F_val_length_it : Fld Z h0 it "com/example/brisk_tableau/brisktableau/tableau/SharedList$1" "val$length" "I" (.int (4 : Int32))) (F_val_items_it : Fld Z h0 it "com/example/brisk_tableau/brisktableau/tableau/SharedList$1" "val$items" "[Ljava/lang/Object;" (.ref arr)) (E_it : Exa Z h0 it "com/example/brisk_tableau/brisktableau/tableau/SharedList$1") (E_arr : Exa Z h0 arr "[Ljava/lang/Object;") (V_arr : Arv Z h0 arr kk (.object "java/lang/Object") cap vs .null) (V_va : Arv Z h0 va k4 .int (5 : Int32) [(.int p1), (.int p2), (.int p3), (.int p4), (.int p5)] (.int (0 : Int32))) (g_it : n0 ≤ it) (ne_va : va ≠ it) (E_x0 : Exa Z h0 x0 "java/lang/Integer") (F_value_x0 : Fld Z h0 x0 "java/lang/Integer" "value" "I" (.int p1)) (hX0 : vs.getD (0 : Int32).toNatClampNeg .null = .ref x0) (hD0 : (0 : Int32) < cap) (E_x1 : Exa Z h0 x1 "java/lang/Integer") (F_value_x1 : Fld Z h0 x1 "java/lang/Integer" "value" "I" (.int p2)) (hX1 : vs.getD (1 : Int32).toNatClampNeg .null = .ref x1) (hD1 : (1 : Int32) < cap) (E_x2 : Exa Z h0 x2 "java/lang/Integer") (F_value_x2 : Fld Z h0 x2 "java/lang/Integer" "value" "I" (.int p3)) (hX2 : vs.getD (2 : Int32).toNatClampNeg .null = .ref x2) (hD2 : (2 : Int32) < cap) (E_x3 : Exa Z h0 x3 "java/lang/Integer") (F_value_x3 : Fld Z h0 x3 "java/lang/Integer" "value" "I" (.int p4)) (hX3 : vs.getD (3 : Int32).toNatClampNeg .null = .ref x3) (hD3 : (3 : Int32) < cap) (hRf : 2 ≤ R.frames) (hRl : 28 ≤ R.locals) (hRc : cells + 0 ≤ R.cells) (hRs : slots + 0 ≤ R.slots) :
    ∃ (T' : State) (h' : Heap) (L' : List Loc), (Stand p l e R s m args below meth c T' L' (cells + 0) (slots + 0)) ∧ (T'.heap = h') ∧ (Fr n0 L') ∧ (Keep h0 h' [it]) ∧ (∀ t, Steps p.tables e below (T'.setTop (mkF m 282 #[vi p1, vi p2, vi p3, vi p4, vi p5, vi p6, vi (4 : Int32), vi c1, vi c2, vr va, vr li, vr it] [(.int (0 : Int32))])) t → Steps p.tables e below (T0.setTop (mkF m 197 #[vi p1, vi p2, vi p3, vi p4, vi p5, vi p6, vi (4 : Int32), vi c1, vi c2, vr va, vr li, vr it] [])) t) := by
  have KC : Keep h0 h0 [it] := Keep.refl h0 _
  have pre0 : ∀ t, Steps p.tables e below (T0.setTop (mkF m 197 #[vi p1, vi p2, vi p3, vi p4, vi p5, vi p6, vi (4 : Int32), vi c1, vi c2, vr va, vr li, vr it] [])) t → Steps p.tables e below (T0.setTop (mkF m 197 #[vi p1, vi p2, vi p3, vi p4, vi p5, vi p6, vi (4 : Int32), vi c1, vi c2, vr va, vr li, vr it] [])) t := fun _ k => k
  obtain ⟨_, _, ⟨T1, L1, kz1, nz1⟩, -, X1, ⟨Lc1, hQ1, l1, y1, z1⟩, st1⟩ := Jvm.LawKit.callS X0 hx (y := y_20) hown (mvT hZ (ww hw 65 rfl)) (mvT hZ (ww hw 66 rfl)) (mvT hZ (ww hw 67 rfl)) (mvT hZ (ww hw 68 rfl)) (by decide) (backOf (W := 0) (rmStA l Z a0 hw [] it (0 : Int32) (4 : Int32) va arr kk cap vs x0 p1 k4 (5 : Int32) [(.int p1), (.int p2), (.int p3), (.int p4), (.int p5)] (1 : Int32) h0 n0 (Nat.le_trans Z0 KC.1) O0 F_next_it F_val_length_it F_val_items_it E_it E_arr V_arr E_x0 F_value_x0 V_va g_it ne_va (by decide) (by decide) hD0 hX0 (by decide) rfl (by decide)) hZ (ww hw 68 rfl) (ww hw 67 rfl) (Nat.le_trans (by decide) hRf) (Nat.le_trans (by decide) hRl)) (g := (mkF m 204 #[vi p1, vi p2, vi p3, vi p4, vi p5, vi p6, vi (4 : Int32), vi c1, vi c2, vr va, vr li, vr it] [(.ref va), (.int (4 : Int32)), (.int (0 : Int32)), (.ref it)])) rfl (by rw [hml]; rfl) (argsL := [(.ref it), (.int (0 : Int32)), (.int (4 : Int32)), (.ref va)]) (rest := []) (lenOf pd_12 rfl) rfl (by show 2 * 0 + _ ≤ _; exact Nat.le_of_eq rfl) (hb hby at_204) (fun _ _ => ⟨rfl, e0, (Nat.le_trans (by omega : cells + 0 + 0 ≤ cells + 0) hRc), (Nat.le_trans (by omega : slots + 0 + 0 ≤ slots + 0) hRs)⟩)
  dsimp only [Pt.U, Pt.locs, Pt.cells, Pt.slots] at X1 l1 y1 z1 st1 hQ1
  subst l1; rw [y1, z1] at X1
  obtain ⟨rfl, N1q, K1, F_next_a1_1, F_val_length_a1_1, F_val_items_a1_1⟩ := hQ1
  have N1 := Fr.app N0 N1q
  have nec_arr_it : arr ≠ it := Exa.ne E_arr E_it (by decide)
  have nec_x0_it : x0 ≠ it := Exa.ne E_x0 E_it (by decide)
  have nec_x1_it : x1 ≠ it := Exa.ne E_x1 E_it (by decide)
  have nec_x2_it : x2 ≠ it := Exa.ne E_x2 E_it (by decide)
  have nec_x3_it : x3 ≠ it := Exa.ne E_x3 E_it (by decide)
  replace E_it := E_it.keep K1
  replace E_arr := E_arr.keep K1
  replace V_arr := V_arr.keep K1 (ninS nec_arr_it nin0)
  replace V_va := V_va.keep K1 (ninS ne_va nin0)
  replace E_x0 := E_x0.keep K1
  replace F_value_x0 := F_value_x0.keep K1 (ninS nec_x0_it nin0)
  replace E_x1 := E_x1.keep K1
  replace F_value_x1 := F_value_x1.keep K1 (ninS nec_x1_it nin0)
  replace E_x2 := E_x2.keep K1
  replace F_value_x2 := F_value_x2.keep K1 (ninS nec_x2_it nin0)
  replace E_x3 := E_x3.keep K1
  replace F_value_x3 := F_value_x3.keep K1 (ninS nec_x3_it nin0)
  replace O0 := O0.keep K1 (allS g_it all0)
  replace KC := KC.trans K1 (allS (Or.inl (List.mem_of_getElem? (i := 0) rfl)) all0)
  obtain ⟨_, _, ⟨T2, L2, kz2, nz2⟩, -, X2, ⟨Lc2, hQ2, l2, y2, z2⟩, st2⟩ := Jvm.LawKit.callS X1 hx (y := y_20) hown (mvT hZ (ww hw 65 rfl)) (mvT hZ (ww hw 66 rfl)) (mvT hZ (ww hw 67 rfl)) (mvT hZ (ww hw 68 rfl)) (by decide) (backOf (W := 0) (rmStA l Z a0 hw [] it (1 : Int32) (4 : Int32) va arr kk cap vs x1 p2 k4 (5 : Int32) [(.int p1), (.int p2), (.int p3), (.int p4), (.int p5)] (2 : Int32) T1.heap n0 (Nat.le_trans Z0 KC.1) O0 F_next_a1_1 F_val_length_a1_1 F_val_items_a1_1 E_it E_arr V_arr E_x1 F_value_x1 V_va g_it ne_va (by decide) (by decide) hD1 hX1 (by decide) rfl (by decide)) hZ (ww hw 68 rfl) (ww hw 67 rfl) (Nat.le_trans (by decide) hRf) (Nat.le_trans (by decide) hRl)) (g := (mkF m 217 #[vi p1, vi p2, vi p3, vi p4, vi p5, vi p6, vi (4 : Int32), vi c1, vi c2, vr va, vr li, vr it] [(.ref va), (.int (4 : Int32)), (.int (1 : Int32)), (.ref it)])) rfl (by rw [hml]; rfl) (argsL := [(.ref it), (.int (1 : Int32)), (.int (4 : Int32)), (.ref va)]) (rest := []) (lenOf pd_12 rfl) rfl (by show 2 * 0 + _ ≤ _; exact Nat.le_of_eq rfl) (hb hby at_217) (fun _ _ => ⟨rfl, rfl, (Nat.le_trans (by omega : cells + 0 + 0 ≤ cells + 0) hRc), (Nat.le_trans (by omega : slots + 0 + 0 ≤ slots + 0) hRs)⟩)
  dsimp only [Pt.U, Pt.locs, Pt.cells, Pt.slots] at X2 l2 y2 z2 st2 hQ2
  subst l2; rw [y2, z2] at X2
  obtain ⟨rfl, N2q, K2, F_next_a1_2, F_val_length_a1_2, F_val_items_a1_2⟩ := hQ2
  have N2 := Fr.app N1 N2q
  replace E_it := E_it.keep K2
  replace E_arr := E_arr.keep K2
  replace V_arr := V_arr.keep K2 (ninS nec_arr_it nin0)
  replace V_va := V_va.keep K2 (ninS ne_va nin0)
  replace E_x0 := E_x0.keep K2
  replace F_value_x0 := F_value_x0.keep K2 (ninS nec_x0_it nin0)
  replace E_x1 := E_x1.keep K2
  replace F_value_x1 := F_value_x1.keep K2 (ninS nec_x1_it nin0)
  replace E_x2 := E_x2.keep K2
  replace F_value_x2 := F_value_x2.keep K2 (ninS nec_x2_it nin0)
  replace E_x3 := E_x3.keep K2
  replace F_value_x3 := F_value_x3.keep K2 (ninS nec_x3_it nin0)
  replace O0 := O0.keep K2 (allS g_it all0)
  replace KC := KC.trans K2 (allS (Or.inl (List.mem_of_getElem? (i := 0) rfl)) all0)
  obtain ⟨_, _, ⟨T3, L3, kz3, nz3⟩, -, X3, ⟨Lc3, hQ3, l3, y3, z3⟩, st3⟩ := Jvm.LawKit.callS X2 hx (y := y_20) hown (mvT hZ (ww hw 65 rfl)) (mvT hZ (ww hw 66 rfl)) (mvT hZ (ww hw 67 rfl)) (mvT hZ (ww hw 68 rfl)) (by decide) (backOf (W := 0) (rmStA l Z a0 hw [] it (2 : Int32) (4 : Int32) va arr kk cap vs x2 p3 k4 (5 : Int32) [(.int p1), (.int p2), (.int p3), (.int p4), (.int p5)] (3 : Int32) T2.heap n0 (Nat.le_trans Z0 KC.1) O0 F_next_a1_2 F_val_length_a1_2 F_val_items_a1_2 E_it E_arr V_arr E_x2 F_value_x2 V_va g_it ne_va (by decide) (by decide) hD2 hX2 (by decide) rfl (by decide)) hZ (ww hw 68 rfl) (ww hw 67 rfl) (Nat.le_trans (by decide) hRf) (Nat.le_trans (by decide) hRl)) (g := (mkF m 230 #[vi p1, vi p2, vi p3, vi p4, vi p5, vi p6, vi (4 : Int32), vi c1, vi c2, vr va, vr li, vr it] [(.ref va), (.int (4 : Int32)), (.int (2 : Int32)), (.ref it)])) rfl (by rw [hml]; rfl) (argsL := [(.ref it), (.int (2 : Int32)), (.int (4 : Int32)), (.ref va)]) (rest := []) (lenOf pd_12 rfl) rfl (by show 2 * 0 + _ ≤ _; exact Nat.le_of_eq rfl) (hb hby at_230) (fun _ _ => ⟨rfl, rfl, (Nat.le_trans (by omega : cells + 0 + 0 ≤ cells + 0) hRc), (Nat.le_trans (by omega : slots + 0 + 0 ≤ slots + 0) hRs)⟩)
  dsimp only [Pt.U, Pt.locs, Pt.cells, Pt.slots] at X3 l3 y3 z3 st3 hQ3
  subst l3; rw [y3, z3] at X3
  obtain ⟨rfl, N3q, K3, F_next_a1_3, F_val_length_a1_3, F_val_items_a1_3⟩ := hQ3
  have N3 := Fr.app N2 N3q
  replace E_it := E_it.keep K3
  replace E_arr := E_arr.keep K3
  replace V_arr := V_arr.keep K3 (ninS nec_arr_it nin0)
  replace V_va := V_va.keep K3 (ninS ne_va nin0)
  replace E_x0 := E_x0.keep K3
  replace F_value_x0 := F_value_x0.keep K3 (ninS nec_x0_it nin0)
  replace E_x1 := E_x1.keep K3
  replace F_value_x1 := F_value_x1.keep K3 (ninS nec_x1_it nin0)
  replace E_x2 := E_x2.keep K3
  replace F_value_x2 := F_value_x2.keep K3 (ninS nec_x2_it nin0)
  replace E_x3 := E_x3.keep K3
  replace F_value_x3 := F_value_x3.keep K3 (ninS nec_x3_it nin0)
  replace O0 := O0.keep K3 (allS g_it all0)
  replace KC := KC.trans K3 (allS (Or.inl (List.mem_of_getElem? (i := 0) rfl)) all0)
  obtain ⟨_, _, ⟨T4, L4, kz4, nz4⟩, -, X4, ⟨Lc4, hQ4, l4, y4, z4⟩, st4⟩ := Jvm.LawKit.callS X3 hx (y := y_20) hown (mvT hZ (ww hw 65 rfl)) (mvT hZ (ww hw 66 rfl)) (mvT hZ (ww hw 67 rfl)) (mvT hZ (ww hw 68 rfl)) (by decide) (backOf (W := 0) (rmStA l Z a0 hw [] it (3 : Int32) (4 : Int32) va arr kk cap vs x3 p4 k4 (5 : Int32) [(.int p1), (.int p2), (.int p3), (.int p4), (.int p5)] (4 : Int32) T3.heap n0 (Nat.le_trans Z0 KC.1) O0 F_next_a1_3 F_val_length_a1_3 F_val_items_a1_3 E_it E_arr V_arr E_x3 F_value_x3 V_va g_it ne_va (by decide) (by decide) hD3 hX3 (by decide) rfl (by decide)) hZ (ww hw 68 rfl) (ww hw 67 rfl) (Nat.le_trans (by decide) hRf) (Nat.le_trans (by decide) hRl)) (g := (mkF m 243 #[vi p1, vi p2, vi p3, vi p4, vi p5, vi p6, vi (4 : Int32), vi c1, vi c2, vr va, vr li, vr it] [(.ref va), (.int (4 : Int32)), (.int (3 : Int32)), (.ref it)])) rfl (by rw [hml]; rfl) (argsL := [(.ref it), (.int (3 : Int32)), (.int (4 : Int32)), (.ref va)]) (rest := []) (lenOf pd_12 rfl) rfl (by show 2 * 0 + _ ≤ _; exact Nat.le_of_eq rfl) (hb hby at_243) (fun _ _ => ⟨rfl, rfl, (Nat.le_trans (by omega : cells + 0 + 0 ≤ cells + 0) hRc), (Nat.le_trans (by omega : slots + 0 + 0 ≤ slots + 0) hRs)⟩)
  dsimp only [Pt.U, Pt.locs, Pt.cells, Pt.slots] at X4 l4 y4 z4 st4 hQ4
  subst l4; rw [y4, z4] at X4
  obtain ⟨rfl, N4q, K4, F_next_a1_4, F_val_length_a1_4, F_val_items_a1_4⟩ := hQ4
  have N4 := Fr.app N3 N4q
  replace E_it := E_it.keep K4
  replace E_arr := E_arr.keep K4
  replace V_arr := V_arr.keep K4 (ninS nec_arr_it nin0)
  replace V_va := V_va.keep K4 (ninS ne_va nin0)
  replace E_x0 := E_x0.keep K4
  replace F_value_x0 := F_value_x0.keep K4 (ninS nec_x0_it nin0)
  replace E_x1 := E_x1.keep K4
  replace F_value_x1 := F_value_x1.keep K4 (ninS nec_x1_it nin0)
  replace E_x2 := E_x2.keep K4
  replace F_value_x2 := F_value_x2.keep K4 (ninS nec_x2_it nin0)
  replace E_x3 := E_x3.keep K4
  replace F_value_x3 := F_value_x3.keep K4 (ninS nec_x3_it nin0)
  replace O0 := O0.keep K4 (allS g_it all0)
  replace KC := KC.trans K4 (allS (Or.inl (List.mem_of_getElem? (i := 0) rfl)) all0)
  obtain ⟨_, _, ⟨T5, L5, kz5, nz5⟩, -, X5, ⟨Lc5, hQ5, l5, y5, z5⟩, st5⟩ := Jvm.LawKit.callS X4 hx (y := y_20) hown (mvT hZ (ww hw 65 rfl)) (mvT hZ (ww hw 66 rfl)) (mvT hZ (ww hw 67 rfl)) (mvT hZ (ww hw 68 rfl)) (by decide) (backOf (W := 0) (rmStB l Z a0 hw [] it (4 : Int32) (4 : Int32) va (4 : Int32) (4 : Int32) T4.heap n0 (Nat.le_trans Z0 KC.1) O0 F_next_a1_4 F_val_length_a1_4 E_it (by decide) (by decide)) hZ (ww hw 68 rfl) (ww hw 67 rfl) (Nat.le_trans (by decide) hRf) (Nat.le_trans (by decide) hRl)) (g := (mkF m 256 #[vi p1, vi p2, vi p3, vi p4, vi p5, vi p6, vi (4 : Int32), vi c1, vi c2, vr va, vr li, vr it] [(.ref va), (.int (4 : Int32)), (.int (4 : Int32)), (.ref it)])) rfl (by rw [hml]; rfl) (argsL := [(.ref it), (.int (4 : Int32)), (.int (4 : Int32)), (.ref va)]) (rest := []) (lenOf pd_12 rfl) rfl (by show 2 * 0 + _ ≤ _; exact Nat.le_of_eq rfl) (hb hby at_256) (fun _ _ => ⟨rfl, rfl, (Nat.le_trans (by omega : cells + 0 + 0 ≤ cells + 0) hRc), (Nat.le_trans (by omega : slots + 0 + 0 ≤ slots + 0) hRs)⟩)
  dsimp only [Pt.U, Pt.locs, Pt.cells, Pt.slots] at X5 l5 y5 z5 st5 hQ5
  subst l5; rw [y5, z5] at X5
  obtain ⟨rfl, N5q, e5⟩ := hQ5
  have N5 := Fr.app N4 N5q
  obtain ⟨_, _, ⟨T6, L6, kz6, nz6⟩, -, X6, ⟨Lc6, hQ6, l6, y6, z6⟩, st6⟩ := Jvm.LawKit.callS X5 hx (y := y_20) hown (mvT hZ (ww hw 65 rfl)) (mvT hZ (ww hw 66 rfl)) (mvT hZ (ww hw 67 rfl)) (mvT hZ (ww hw 68 rfl)) (by decide) (backOf (W := 0) (rmStB l Z a0 hw [] it (5 : Int32) (4 : Int32) va (4 : Int32) (4 : Int32) T4.heap n0 (Nat.le_trans Z0 KC.1) O0 F_next_a1_4 F_val_length_a1_4 E_it (by decide) (by decide)) hZ (ww hw 68 rfl) (ww hw 67 rfl) (Nat.le_trans (by decide) hRf) (Nat.le_trans (by decide) hRl)) (g := (mkF m 269 #[vi p1, vi p2, vi p3, vi p4, vi p5, vi p6, vi (4 : Int32), vi c1, vi c2, vr va, vr li, vr it] [(.ref va), (.int (4 : Int32)), (.int (5 : Int32)), (.ref it)])) rfl (by rw [hml]; rfl) (argsL := [(.ref it), (.int (5 : Int32)), (.int (4 : Int32)), (.ref va)]) (rest := []) (lenOf pd_12 rfl) rfl (by show 2 * 0 + _ ≤ _; exact Nat.le_of_eq rfl) (hb hby at_269) (fun _ _ => ⟨rfl, e5, (Nat.le_trans (by omega : cells + 0 + 0 ≤ cells + 0) hRc), (Nat.le_trans (by omega : slots + 0 + 0 ≤ slots + 0) hRs)⟩)
  dsimp only [Pt.U, Pt.locs, Pt.cells, Pt.slots] at X6 l6 y6 z6 st6 hQ6
  subst l6; rw [y6, z6] at X6
  obtain ⟨rfl, N6q, e6⟩ := hQ6
  have N6 := Fr.app N5 N6q
  obtain ⟨cq7, kq7, q7a, q7b, q7c⟩ := isOf hZ e6 E_it
  obtain ⟨_, _, ⟨T7, L7, kz7, nz7⟩, -, X7, ⟨Lc7, hQ7, l7, y7, z7⟩, st7⟩ := X6.interfaceBack hx (xi := y_18) (y := y_16) hown (mvT hZ (ww hw 69 rfl)) (mvT hZ (ww hw 70 rfl)) (mvT hZ (ww hw 71 rfl)) (mvT hZ (ww hw 72 rfl)) (mvT hZ (ww hw 73 rfl)) (mvT hZ (ww hw 74 rfl)) (mvT hZ (ww hw 75 rfl)) (mvT hZ (ww hw 76 rfl)) (by decide) (backOf (W := 0) (rmHn l Z a0 hw [] it (4 : Int32) (4 : Int32) (0 : Int32) T4.heap n0 (Nat.le_trans Z0 KC.1) O0 F_next_a1_4 F_val_length_a1_4 (by decide)) hZ (ww hw 77 rfl) (ww hw 56 rfl) (Nat.le_trans (by decide) hRf) (Nat.le_trans (by decide) hRl)) q7a q7b q7c (g := (mkF m 277 #[vi p1, vi p2, vi p3, vi p4, vi p5, vi p6, vi (4 : Int32), vi c1, vi c2, vr va, vr li, vr it] [(.ref it)])) rfl (by rw [hml]; rfl) (Steps.refl _) (argsL := []) (rest := []) (lenOf pd_9 rfl) rfl (by show 2 * 0 + _ ≤ _; exact Nat.le_of_eq rfl) (hb hby at_277) (fun _ _ => ⟨rfl, e6, (Nat.le_trans (by omega : cells + 0 + 0 ≤ cells + 0) hRc), (Nat.le_trans (by omega : slots + 0 + 0 ≤ slots + 0) hRs)⟩)
  dsimp only [Pt.U, Pt.locs, Pt.cells, Pt.slots] at X7 l7 y7 z7 st7 hQ7
  subst l7; rw [y7, z7] at X7
  obtain ⟨rfl, N7q, e7⟩ := hQ7
  have N7 := Fr.app N6 N7q
  have pre8 : ∀ t, Steps p.tables e below (T7.setTop (mkF m 282 #[vi p1, vi p2, vi p3, vi p4, vi p5, vi p6, vi (4 : Int32), vi c1, vi c2, vr va, vr li, vr it] [(.int (0 : Int32))])) t → Steps p.tables e below (T0.setTop (mkF m 197 #[vi p1, vi p2, vi p3, vi p4, vi p5, vi p6, vi (4 : Int32), vi c1, vi c2, vr va, vr li, vr it] [])) t := by
    intro t kt
    refine pre0 t ?_
    show SS p e below m T0 197 #[vi p1, vi p2, vi p3, vi p4, vi p5, vi p6, vi (4 : Int32), vi c1, vi c2, vr va, vr li, vr it] [] _
    refine XS.aload X0.here hx rfl (hb hby at_197) rfl rfl ?_
    show SS p e below m T0 199 #[vi p1, vi p2, vi p3, vi p4, vi p5, vi p6, vi (4 : Int32), vi c1, vi c2, vr va, vr li, vr it] [(.ref it)] _
    refine XS.iconst X0.here hx rfl (hb hby at_199) ?_
    show SS p e below m T0 200 #[vi p1, vi p2, vi p3, vi p4, vi p5, vi p6, vi (4 : Int32), vi c1, vi c2, vr va, vr li, vr it] [(.int (0 : Int32)), (.ref it)] _
    refine XS.iload X0.here hx rfl (hb hby at_200) rfl ?_
    show SS p e below m T0 202 #[vi p1, vi p2, vi p3, vi p4, vi p5, vi p6, vi (4 : Int32), vi c1, vi c2, vr va, vr li, vr it] [(.int (4 : Int32)), (.int (0 : Int32)), (.ref it)] _
    refine XS.aload X0.here hx rfl (hb hby at_202) rfl rfl ?_
    show SS p e below m T0 204 #[vi p1, vi p2, vi p3, vi p4, vi p5, vi p6, vi (4 : Int32), vi c1, vi c2, vr va, vr li, vr it] [(.ref va), (.int (4 : Int32)), (.int (0 : Int32)), (.ref it)] _
    refine st1 _ ?_
    show SS p e below m T1 207 #[vi p1, vi p2, vi p3, vi p4, vi p5, vi p6, vi (4 : Int32), vi c1, vi c2, vr va, vr li, vr it] [(.int (1 : Int32))] _
    refine XS.ifNo X1.here hx rfl (hb hby at_207) rfl ((if0 _ _).trans (feq (by decide)).1) ?_
    show SS p e below m T1 210 #[vi p1, vi p2, vi p3, vi p4, vi p5, vi p6, vi (4 : Int32), vi c1, vi c2, vr va, vr li, vr it] [] _
    refine XS.aload X1.here hx rfl (hb hby at_210) rfl rfl ?_
    show SS p e below m T1 212 #[vi p1, vi p2, vi p3, vi p4, vi p5, vi p6, vi (4 : Int32), vi c1, vi c2, vr va, vr li, vr it] [(.ref it)] _
    refine XS.iconst X1.here hx rfl (hb hby at_212) ?_
    show SS p e below m T1 213 #[vi p1, vi p2, vi p3, vi p4, vi p5, vi p6, vi (4 : Int32), vi c1, vi c2, vr va, vr li, vr it] [(.int (1 : Int32)), (.ref it)] _
    refine XS.iload X1.here hx rfl (hb hby at_213) rfl ?_
    show SS p e below m T1 215 #[vi p1, vi p2, vi p3, vi p4, vi p5, vi p6, vi (4 : Int32), vi c1, vi c2, vr va, vr li, vr it] [(.int (4 : Int32)), (.int (1 : Int32)), (.ref it)] _
    refine XS.aload X1.here hx rfl (hb hby at_215) rfl rfl ?_
    show SS p e below m T1 217 #[vi p1, vi p2, vi p3, vi p4, vi p5, vi p6, vi (4 : Int32), vi c1, vi c2, vr va, vr li, vr it] [(.ref va), (.int (4 : Int32)), (.int (1 : Int32)), (.ref it)] _
    refine st2 _ ?_
    show SS p e below m T2 220 #[vi p1, vi p2, vi p3, vi p4, vi p5, vi p6, vi (4 : Int32), vi c1, vi c2, vr va, vr li, vr it] [(.int (1 : Int32))] _
    refine XS.ifNo X2.here hx rfl (hb hby at_220) rfl ((if0 _ _).trans (feq (by decide)).1) ?_
    show SS p e below m T2 223 #[vi p1, vi p2, vi p3, vi p4, vi p5, vi p6, vi (4 : Int32), vi c1, vi c2, vr va, vr li, vr it] [] _
    refine XS.aload X2.here hx rfl (hb hby at_223) rfl rfl ?_
    show SS p e below m T2 225 #[vi p1, vi p2, vi p3, vi p4, vi p5, vi p6, vi (4 : Int32), vi c1, vi c2, vr va, vr li, vr it] [(.ref it)] _
    refine XS.iconst X2.here hx rfl (hb hby at_225) ?_
    show SS p e below m T2 226 #[vi p1, vi p2, vi p3, vi p4, vi p5, vi p6, vi (4 : Int32), vi c1, vi c2, vr va, vr li, vr it] [(.int (2 : Int32)), (.ref it)] _
    refine XS.iload X2.here hx rfl (hb hby at_226) rfl ?_
    show SS p e below m T2 228 #[vi p1, vi p2, vi p3, vi p4, vi p5, vi p6, vi (4 : Int32), vi c1, vi c2, vr va, vr li, vr it] [(.int (4 : Int32)), (.int (2 : Int32)), (.ref it)] _
    refine XS.aload X2.here hx rfl (hb hby at_228) rfl rfl ?_
    show SS p e below m T2 230 #[vi p1, vi p2, vi p3, vi p4, vi p5, vi p6, vi (4 : Int32), vi c1, vi c2, vr va, vr li, vr it] [(.ref va), (.int (4 : Int32)), (.int (2 : Int32)), (.ref it)] _
    refine st3 _ ?_
    show SS p e below m T3 233 #[vi p1, vi p2, vi p3, vi p4, vi p5, vi p6, vi (4 : Int32), vi c1, vi c2, vr va, vr li, vr it] [(.int (1 : Int32))] _
    refine XS.ifNo X3.here hx rfl (hb hby at_233) rfl ((if0 _ _).trans (feq (by decide)).1) ?_
    show SS p e below m T3 236 #[vi p1, vi p2, vi p3, vi p4, vi p5, vi p6, vi (4 : Int32), vi c1, vi c2, vr va, vr li, vr it] [] _
    refine XS.aload X3.here hx rfl (hb hby at_236) rfl rfl ?_
    show SS p e below m T3 238 #[vi p1, vi p2, vi p3, vi p4, vi p5, vi p6, vi (4 : Int32), vi c1, vi c2, vr va, vr li, vr it] [(.ref it)] _
    refine XS.iconst X3.here hx rfl (hb hby at_238) ?_
    show SS p e below m T3 239 #[vi p1, vi p2, vi p3, vi p4, vi p5, vi p6, vi (4 : Int32), vi c1, vi c2, vr va, vr li, vr it] [(.int (3 : Int32)), (.ref it)] _
    refine XS.iload X3.here hx rfl (hb hby at_239) rfl ?_
    show SS p e below m T3 241 #[vi p1, vi p2, vi p3, vi p4, vi p5, vi p6, vi (4 : Int32), vi c1, vi c2, vr va, vr li, vr it] [(.int (4 : Int32)), (.int (3 : Int32)), (.ref it)] _
    refine XS.aload X3.here hx rfl (hb hby at_241) rfl rfl ?_
    show SS p e below m T3 243 #[vi p1, vi p2, vi p3, vi p4, vi p5, vi p6, vi (4 : Int32), vi c1, vi c2, vr va, vr li, vr it] [(.ref va), (.int (4 : Int32)), (.int (3 : Int32)), (.ref it)] _
    refine st4 _ ?_
    show SS p e below m T4 246 #[vi p1, vi p2, vi p3, vi p4, vi p5, vi p6, vi (4 : Int32), vi c1, vi c2, vr va, vr li, vr it] [(.int (1 : Int32))] _
    refine XS.ifNo X4.here hx rfl (hb hby at_246) rfl ((if0 _ _).trans (feq (by decide)).1) ?_
    show SS p e below m T4 249 #[vi p1, vi p2, vi p3, vi p4, vi p5, vi p6, vi (4 : Int32), vi c1, vi c2, vr va, vr li, vr it] [] _
    refine XS.aload X4.here hx rfl (hb hby at_249) rfl rfl ?_
    show SS p e below m T4 251 #[vi p1, vi p2, vi p3, vi p4, vi p5, vi p6, vi (4 : Int32), vi c1, vi c2, vr va, vr li, vr it] [(.ref it)] _
    refine XS.iconst X4.here hx rfl (hb hby at_251) ?_
    show SS p e below m T4 252 #[vi p1, vi p2, vi p3, vi p4, vi p5, vi p6, vi (4 : Int32), vi c1, vi c2, vr va, vr li, vr it] [(.int (4 : Int32)), (.ref it)] _
    refine XS.iload X4.here hx rfl (hb hby at_252) rfl ?_
    show SS p e below m T4 254 #[vi p1, vi p2, vi p3, vi p4, vi p5, vi p6, vi (4 : Int32), vi c1, vi c2, vr va, vr li, vr it] [(.int (4 : Int32)), (.int (4 : Int32)), (.ref it)] _
    refine XS.aload X4.here hx rfl (hb hby at_254) rfl rfl ?_
    show SS p e below m T4 256 #[vi p1, vi p2, vi p3, vi p4, vi p5, vi p6, vi (4 : Int32), vi c1, vi c2, vr va, vr li, vr it] [(.ref va), (.int (4 : Int32)), (.int (4 : Int32)), (.ref it)] _
    refine st5 _ ?_
    show SS p e below m T5 259 #[vi p1, vi p2, vi p3, vi p4, vi p5, vi p6, vi (4 : Int32), vi c1, vi c2, vr va, vr li, vr it] [(.int (1 : Int32))] _
    refine XS.ifNo X5.here hx rfl (hb hby at_259) rfl ((if0 _ _).trans (feq (by decide)).1) ?_
    show SS p e below m T5 262 #[vi p1, vi p2, vi p3, vi p4, vi p5, vi p6, vi (4 : Int32), vi c1, vi c2, vr va, vr li, vr it] [] _
    refine XS.aload X5.here hx rfl (hb hby at_262) rfl rfl ?_
    show SS p e below m T5 264 #[vi p1, vi p2, vi p3, vi p4, vi p5, vi p6, vi (4 : Int32), vi c1, vi c2, vr va, vr li, vr it] [(.ref it)] _
    refine XS.iconst X5.here hx rfl (hb hby at_264) ?_
    show SS p e below m T5 265 #[vi p1, vi p2, vi p3, vi p4, vi p5, vi p6, vi (4 : Int32), vi c1, vi c2, vr va, vr li, vr it] [(.int (5 : Int32)), (.ref it)] _
    refine XS.iload X5.here hx rfl (hb hby at_265) rfl ?_
    show SS p e below m T5 267 #[vi p1, vi p2, vi p3, vi p4, vi p5, vi p6, vi (4 : Int32), vi c1, vi c2, vr va, vr li, vr it] [(.int (4 : Int32)), (.int (5 : Int32)), (.ref it)] _
    refine XS.aload X5.here hx rfl (hb hby at_267) rfl rfl ?_
    show SS p e below m T5 269 #[vi p1, vi p2, vi p3, vi p4, vi p5, vi p6, vi (4 : Int32), vi c1, vi c2, vr va, vr li, vr it] [(.ref va), (.int (4 : Int32)), (.int (5 : Int32)), (.ref it)] _
    refine st6 _ ?_
    show SS p e below m T6 272 #[vi p1, vi p2, vi p3, vi p4, vi p5, vi p6, vi (4 : Int32), vi c1, vi c2, vr va, vr li, vr it] [(.int (1 : Int32))] _
    refine XS.ifNo X6.here hx rfl (hb hby at_272) rfl ((if0 _ _).trans (feq (by decide)).1) ?_
    show SS p e below m T6 275 #[vi p1, vi p2, vi p3, vi p4, vi p5, vi p6, vi (4 : Int32), vi c1, vi c2, vr va, vr li, vr it] [] _
    refine XS.aload X6.here hx rfl (hb hby at_275) rfl rfl ?_
    show SS p e below m T6 277 #[vi p1, vi p2, vi p3, vi p4, vi p5, vi p6, vi (4 : Int32), vi c1, vi c2, vr va, vr li, vr it] [(.ref it)] _
    refine st7.trans ?_
    exact kt
  exact ⟨T7, _, _, X7.more (by omega) (by omega), e7, N7, KC, pre8⟩
set_option maxRecDepth 65536 in
set_option maxHeartbeats 40000000 in
theorem tail5 {p : Program} {l : Launch} {e : Env} {R : Room} {s : State} {m : MethodId} {args : Array Value} {below : List Frame} {meth : Method} {c : Code} {T0 : State} {locs : List Loc} {cells slots : Nat} {Z : State} {a0 : Array Value} (hw : ∀ d ∈ tables_1, d.before a0 Z = true) (X0 : Stand p l e R s m args below meth c T0 locs cells slots) (hx : p.tables.exec = Jvm.exec) (hZ : Z.Warmed39 s.vm) (hby : c.code = code) (hml : c.maxLocals = 12) (hown : s.vm.findClass "com/example/brisk_tableau/brisktableau/tableau/SharedListIteratorPinLaw" = some m.cls) (p1 : Int32) (p2 : Int32) (p3 : Int32) (p4 : Int32) (p5 : Int32) (p6 : Int32) (c1 : Int32) (c2 : Int32) (va : Addr) (li : Addr) (it : Addr) (arr : Addr) (kk : ClassId) (cap : Int32) (vs : List Value) (k4 : ClassId) (x0 : Addr) (x1 : Addr) (x2 : Addr) (x3 : Addr) (x4 : Addr) (h0 : Heap) (n0 : Nat) (e0 : T0.heap = h0) (Z0 : n0 ≤ h0.size) (O0 : Old Z n0 h0) (N0 : Fr n0 locs) (F_next_it : Fld Z h0 it "com/example/brisk_tableau/brisktableau/tableau/SharedList$1" "next" "I" (.int (0 : Int32))) (F_val_length_it : Fld Z h0 it "com/example/brisk_tableau/brisktableau/tableau/SharedList$1" "val$length" "I" (.int (5 : Int32))) (F_val_items_it : Fld Z h0 it "com/example/brisk_tableau/brisktableau/tableau/SharedList$1" "val$items" "[Ljava/lang/Object;" (.ref arr)) (E_it : Exa Z h0 it "com/example/brisk_tableau/brisktableau/tableau/SharedList$1") (E_arr : Exa Z h0 arr "[Ljava/lang/Object;") (V_arr : Arv Z h0 arr kk (.object "java/lang/Object") cap vs .null) (V_va : Arv Z h0 va k4 .int (5 : Int32) [(.int p1), (.int p2), (.int p3), (.int p4), (.int p5)] (.int (0 : Int32))) (g_it : n0 ≤ it) (ne_va : va ≠ it) (E_x0 : Exa Z h0 x0 "java/lang/Integer") (F_value_x0 : Fld Z h0 x0 "java/lang/Integer" "value" "I" (.int p1)) (hX0 : vs.getD (0 : Int32).toNatClampNeg .null = .ref x0) (hD0 : (0 : Int32) < cap) (E_x1 : Exa Z h0 x1 "java/lang/Integer") (F_value_x1 : Fld Z h0 x1 "java/lang/Integer" "value" "I" (.int p2)) (hX1 : vs.getD (1 : Int32).toNatClampNeg .null = .ref x1) (hD1 : (1 : Int32) < cap) (E_x2 : Exa Z h0 x2 "java/lang/Integer") (F_value_x2 : Fld Z h0 x2 "java/lang/Integer" "value" "I" (.int p3)) (hX2 : vs.getD (2 : Int32).toNatClampNeg .null = .ref x2) (hD2 : (2 : Int32) < cap) (E_x3 : Exa Z h0 x3 "java/lang/Integer") (F_value_x3 : Fld Z h0 x3 "java/lang/Integer" "value" "I" (.int p4)) (hX3 : vs.getD (3 : Int32).toNatClampNeg .null = .ref x3) (hD3 : (3 : Int32) < cap) (E_x4 : Exa Z h0 x4 "java/lang/Integer") (F_value_x4 : Fld Z h0 x4 "java/lang/Integer" "value" "I" (.int p5)) (hX4 : vs.getD (4 : Int32).toNatClampNeg .null = .ref x4) (hD4 : (4 : Int32) < cap) (hRf : 2 ≤ R.frames) (hRl : 28 ≤ R.locals) (hRc : cells + 0 ≤ R.cells) (hRs : slots + 0 ≤ R.slots) :
    ∃ (T' : State) (h' : Heap) (L' : List Loc), (Stand p l e R s m args below meth c T' L' (cells + 0) (slots + 0)) ∧ (T'.heap = h') ∧ (Fr n0 L') ∧ (Keep h0 h' [it]) ∧ (∀ t, Steps p.tables e below (T'.setTop (mkF m 282 #[vi p1, vi p2, vi p3, vi p4, vi p5, vi p6, vi (5 : Int32), vi c1, vi c2, vr va, vr li, vr it] [(.int (0 : Int32))])) t → Steps p.tables e below (T0.setTop (mkF m 197 #[vi p1, vi p2, vi p3, vi p4, vi p5, vi p6, vi (5 : Int32), vi c1, vi c2, vr va, vr li, vr it] [])) t) := by
  have KC : Keep h0 h0 [it] := Keep.refl h0 _
  have pre0 : ∀ t, Steps p.tables e below (T0.setTop (mkF m 197 #[vi p1, vi p2, vi p3, vi p4, vi p5, vi p6, vi (5 : Int32), vi c1, vi c2, vr va, vr li, vr it] [])) t → Steps p.tables e below (T0.setTop (mkF m 197 #[vi p1, vi p2, vi p3, vi p4, vi p5, vi p6, vi (5 : Int32), vi c1, vi c2, vr va, vr li, vr it] [])) t := fun _ k => k
  obtain ⟨_, _, ⟨T1, L1, kz1, nz1⟩, -, X1, ⟨Lc1, hQ1, l1, y1, z1⟩, st1⟩ := Jvm.LawKit.callS X0 hx (y := y_20) hown (mvT hZ (ww hw 65 rfl)) (mvT hZ (ww hw 66 rfl)) (mvT hZ (ww hw 67 rfl)) (mvT hZ (ww hw 68 rfl)) (by decide) (backOf (W := 0) (rmStA l Z a0 hw [] it (0 : Int32) (5 : Int32) va arr kk cap vs x0 p1 k4 (5 : Int32) [(.int p1), (.int p2), (.int p3), (.int p4), (.int p5)] (1 : Int32) h0 n0 (Nat.le_trans Z0 KC.1) O0 F_next_it F_val_length_it F_val_items_it E_it E_arr V_arr E_x0 F_value_x0 V_va g_it ne_va (by decide) (by decide) hD0 hX0 (by decide) rfl (by decide)) hZ (ww hw 68 rfl) (ww hw 67 rfl) (Nat.le_trans (by decide) hRf) (Nat.le_trans (by decide) hRl)) (g := (mkF m 204 #[vi p1, vi p2, vi p3, vi p4, vi p5, vi p6, vi (5 : Int32), vi c1, vi c2, vr va, vr li, vr it] [(.ref va), (.int (5 : Int32)), (.int (0 : Int32)), (.ref it)])) rfl (by rw [hml]; rfl) (argsL := [(.ref it), (.int (0 : Int32)), (.int (5 : Int32)), (.ref va)]) (rest := []) (lenOf pd_12 rfl) rfl (by show 2 * 0 + _ ≤ _; exact Nat.le_of_eq rfl) (hb hby at_204) (fun _ _ => ⟨rfl, e0, (Nat.le_trans (by omega : cells + 0 + 0 ≤ cells + 0) hRc), (Nat.le_trans (by omega : slots + 0 + 0 ≤ slots + 0) hRs)⟩)
  dsimp only [Pt.U, Pt.locs, Pt.cells, Pt.slots] at X1 l1 y1 z1 st1 hQ1
  subst l1; rw [y1, z1] at X1
  obtain ⟨rfl, N1q, K1, F_next_a1_1, F_val_length_a1_1, F_val_items_a1_1⟩ := hQ1
  have N1 := Fr.app N0 N1q
  have nec_arr_it : arr ≠ it := Exa.ne E_arr E_it (by decide)
  have nec_x0_it : x0 ≠ it := Exa.ne E_x0 E_it (by decide)
  have nec_x1_it : x1 ≠ it := Exa.ne E_x1 E_it (by decide)
  have nec_x2_it : x2 ≠ it := Exa.ne E_x2 E_it (by decide)
  have nec_x3_it : x3 ≠ it := Exa.ne E_x3 E_it (by decide)
  have nec_x4_it : x4 ≠ it := Exa.ne E_x4 E_it (by decide)
  replace E_it := E_it.keep K1
  replace E_arr := E_arr.keep K1
  replace V_arr := V_arr.keep K1 (ninS nec_arr_it nin0)
  replace V_va := V_va.keep K1 (ninS ne_va nin0)
  replace E_x0 := E_x0.keep K1
  replace F_value_x0 := F_value_x0.keep K1 (ninS nec_x0_it nin0)
  replace E_x1 := E_x1.keep K1
  replace F_value_x1 := F_value_x1.keep K1 (ninS nec_x1_it nin0)
  replace E_x2 := E_x2.keep K1
  replace F_value_x2 := F_value_x2.keep K1 (ninS nec_x2_it nin0)
  replace E_x3 := E_x3.keep K1
  replace F_value_x3 := F_value_x3.keep K1 (ninS nec_x3_it nin0)
  replace E_x4 := E_x4.keep K1
  replace F_value_x4 := F_value_x4.keep K1 (ninS nec_x4_it nin0)
  replace O0 := O0.keep K1 (allS g_it all0)
  replace KC := KC.trans K1 (allS (Or.inl (List.mem_of_getElem? (i := 0) rfl)) all0)
  obtain ⟨_, _, ⟨T2, L2, kz2, nz2⟩, -, X2, ⟨Lc2, hQ2, l2, y2, z2⟩, st2⟩ := Jvm.LawKit.callS X1 hx (y := y_20) hown (mvT hZ (ww hw 65 rfl)) (mvT hZ (ww hw 66 rfl)) (mvT hZ (ww hw 67 rfl)) (mvT hZ (ww hw 68 rfl)) (by decide) (backOf (W := 0) (rmStA l Z a0 hw [] it (1 : Int32) (5 : Int32) va arr kk cap vs x1 p2 k4 (5 : Int32) [(.int p1), (.int p2), (.int p3), (.int p4), (.int p5)] (2 : Int32) T1.heap n0 (Nat.le_trans Z0 KC.1) O0 F_next_a1_1 F_val_length_a1_1 F_val_items_a1_1 E_it E_arr V_arr E_x1 F_value_x1 V_va g_it ne_va (by decide) (by decide) hD1 hX1 (by decide) rfl (by decide)) hZ (ww hw 68 rfl) (ww hw 67 rfl) (Nat.le_trans (by decide) hRf) (Nat.le_trans (by decide) hRl)) (g := (mkF m 217 #[vi p1, vi p2, vi p3, vi p4, vi p5, vi p6, vi (5 : Int32), vi c1, vi c2, vr va, vr li, vr it] [(.ref va), (.int (5 : Int32)), (.int (1 : Int32)), (.ref it)])) rfl (by rw [hml]; rfl) (argsL := [(.ref it), (.int (1 : Int32)), (.int (5 : Int32)), (.ref va)]) (rest := []) (lenOf pd_12 rfl) rfl (by show 2 * 0 + _ ≤ _; exact Nat.le_of_eq rfl) (hb hby at_217) (fun _ _ => ⟨rfl, rfl, (Nat.le_trans (by omega : cells + 0 + 0 ≤ cells + 0) hRc), (Nat.le_trans (by omega : slots + 0 + 0 ≤ slots + 0) hRs)⟩)
  dsimp only [Pt.U, Pt.locs, Pt.cells, Pt.slots] at X2 l2 y2 z2 st2 hQ2
  subst l2; rw [y2, z2] at X2
  obtain ⟨rfl, N2q, K2, F_next_a1_2, F_val_length_a1_2, F_val_items_a1_2⟩ := hQ2
  have N2 := Fr.app N1 N2q
  replace E_it := E_it.keep K2
  replace E_arr := E_arr.keep K2
  replace V_arr := V_arr.keep K2 (ninS nec_arr_it nin0)
  replace V_va := V_va.keep K2 (ninS ne_va nin0)
  replace E_x0 := E_x0.keep K2
  replace F_value_x0 := F_value_x0.keep K2 (ninS nec_x0_it nin0)
  replace E_x1 := E_x1.keep K2
  replace F_value_x1 := F_value_x1.keep K2 (ninS nec_x1_it nin0)
  replace E_x2 := E_x2.keep K2
  replace F_value_x2 := F_value_x2.keep K2 (ninS nec_x2_it nin0)
  replace E_x3 := E_x3.keep K2
  replace F_value_x3 := F_value_x3.keep K2 (ninS nec_x3_it nin0)
  replace E_x4 := E_x4.keep K2
  replace F_value_x4 := F_value_x4.keep K2 (ninS nec_x4_it nin0)
  replace O0 := O0.keep K2 (allS g_it all0)
  replace KC := KC.trans K2 (allS (Or.inl (List.mem_of_getElem? (i := 0) rfl)) all0)
  obtain ⟨_, _, ⟨T3, L3, kz3, nz3⟩, -, X3, ⟨Lc3, hQ3, l3, y3, z3⟩, st3⟩ := Jvm.LawKit.callS X2 hx (y := y_20) hown (mvT hZ (ww hw 65 rfl)) (mvT hZ (ww hw 66 rfl)) (mvT hZ (ww hw 67 rfl)) (mvT hZ (ww hw 68 rfl)) (by decide) (backOf (W := 0) (rmStA l Z a0 hw [] it (2 : Int32) (5 : Int32) va arr kk cap vs x2 p3 k4 (5 : Int32) [(.int p1), (.int p2), (.int p3), (.int p4), (.int p5)] (3 : Int32) T2.heap n0 (Nat.le_trans Z0 KC.1) O0 F_next_a1_2 F_val_length_a1_2 F_val_items_a1_2 E_it E_arr V_arr E_x2 F_value_x2 V_va g_it ne_va (by decide) (by decide) hD2 hX2 (by decide) rfl (by decide)) hZ (ww hw 68 rfl) (ww hw 67 rfl) (Nat.le_trans (by decide) hRf) (Nat.le_trans (by decide) hRl)) (g := (mkF m 230 #[vi p1, vi p2, vi p3, vi p4, vi p5, vi p6, vi (5 : Int32), vi c1, vi c2, vr va, vr li, vr it] [(.ref va), (.int (5 : Int32)), (.int (2 : Int32)), (.ref it)])) rfl (by rw [hml]; rfl) (argsL := [(.ref it), (.int (2 : Int32)), (.int (5 : Int32)), (.ref va)]) (rest := []) (lenOf pd_12 rfl) rfl (by show 2 * 0 + _ ≤ _; exact Nat.le_of_eq rfl) (hb hby at_230) (fun _ _ => ⟨rfl, rfl, (Nat.le_trans (by omega : cells + 0 + 0 ≤ cells + 0) hRc), (Nat.le_trans (by omega : slots + 0 + 0 ≤ slots + 0) hRs)⟩)
  dsimp only [Pt.U, Pt.locs, Pt.cells, Pt.slots] at X3 l3 y3 z3 st3 hQ3
  subst l3; rw [y3, z3] at X3
  obtain ⟨rfl, N3q, K3, F_next_a1_3, F_val_length_a1_3, F_val_items_a1_3⟩ := hQ3
  have N3 := Fr.app N2 N3q
  replace E_it := E_it.keep K3
  replace E_arr := E_arr.keep K3
  replace V_arr := V_arr.keep K3 (ninS nec_arr_it nin0)
  replace V_va := V_va.keep K3 (ninS ne_va nin0)
  replace E_x0 := E_x0.keep K3
  replace F_value_x0 := F_value_x0.keep K3 (ninS nec_x0_it nin0)
  replace E_x1 := E_x1.keep K3
  replace F_value_x1 := F_value_x1.keep K3 (ninS nec_x1_it nin0)
  replace E_x2 := E_x2.keep K3
  replace F_value_x2 := F_value_x2.keep K3 (ninS nec_x2_it nin0)
  replace E_x3 := E_x3.keep K3
  replace F_value_x3 := F_value_x3.keep K3 (ninS nec_x3_it nin0)
  replace E_x4 := E_x4.keep K3
  replace F_value_x4 := F_value_x4.keep K3 (ninS nec_x4_it nin0)
  replace O0 := O0.keep K3 (allS g_it all0)
  replace KC := KC.trans K3 (allS (Or.inl (List.mem_of_getElem? (i := 0) rfl)) all0)
  obtain ⟨_, _, ⟨T4, L4, kz4, nz4⟩, -, X4, ⟨Lc4, hQ4, l4, y4, z4⟩, st4⟩ := Jvm.LawKit.callS X3 hx (y := y_20) hown (mvT hZ (ww hw 65 rfl)) (mvT hZ (ww hw 66 rfl)) (mvT hZ (ww hw 67 rfl)) (mvT hZ (ww hw 68 rfl)) (by decide) (backOf (W := 0) (rmStA l Z a0 hw [] it (3 : Int32) (5 : Int32) va arr kk cap vs x3 p4 k4 (5 : Int32) [(.int p1), (.int p2), (.int p3), (.int p4), (.int p5)] (4 : Int32) T3.heap n0 (Nat.le_trans Z0 KC.1) O0 F_next_a1_3 F_val_length_a1_3 F_val_items_a1_3 E_it E_arr V_arr E_x3 F_value_x3 V_va g_it ne_va (by decide) (by decide) hD3 hX3 (by decide) rfl (by decide)) hZ (ww hw 68 rfl) (ww hw 67 rfl) (Nat.le_trans (by decide) hRf) (Nat.le_trans (by decide) hRl)) (g := (mkF m 243 #[vi p1, vi p2, vi p3, vi p4, vi p5, vi p6, vi (5 : Int32), vi c1, vi c2, vr va, vr li, vr it] [(.ref va), (.int (5 : Int32)), (.int (3 : Int32)), (.ref it)])) rfl (by rw [hml]; rfl) (argsL := [(.ref it), (.int (3 : Int32)), (.int (5 : Int32)), (.ref va)]) (rest := []) (lenOf pd_12 rfl) rfl (by show 2 * 0 + _ ≤ _; exact Nat.le_of_eq rfl) (hb hby at_243) (fun _ _ => ⟨rfl, rfl, (Nat.le_trans (by omega : cells + 0 + 0 ≤ cells + 0) hRc), (Nat.le_trans (by omega : slots + 0 + 0 ≤ slots + 0) hRs)⟩)
  dsimp only [Pt.U, Pt.locs, Pt.cells, Pt.slots] at X4 l4 y4 z4 st4 hQ4
  subst l4; rw [y4, z4] at X4
  obtain ⟨rfl, N4q, K4, F_next_a1_4, F_val_length_a1_4, F_val_items_a1_4⟩ := hQ4
  have N4 := Fr.app N3 N4q
  replace E_it := E_it.keep K4
  replace E_arr := E_arr.keep K4
  replace V_arr := V_arr.keep K4 (ninS nec_arr_it nin0)
  replace V_va := V_va.keep K4 (ninS ne_va nin0)
  replace E_x0 := E_x0.keep K4
  replace F_value_x0 := F_value_x0.keep K4 (ninS nec_x0_it nin0)
  replace E_x1 := E_x1.keep K4
  replace F_value_x1 := F_value_x1.keep K4 (ninS nec_x1_it nin0)
  replace E_x2 := E_x2.keep K4
  replace F_value_x2 := F_value_x2.keep K4 (ninS nec_x2_it nin0)
  replace E_x3 := E_x3.keep K4
  replace F_value_x3 := F_value_x3.keep K4 (ninS nec_x3_it nin0)
  replace E_x4 := E_x4.keep K4
  replace F_value_x4 := F_value_x4.keep K4 (ninS nec_x4_it nin0)
  replace O0 := O0.keep K4 (allS g_it all0)
  replace KC := KC.trans K4 (allS (Or.inl (List.mem_of_getElem? (i := 0) rfl)) all0)
  obtain ⟨_, _, ⟨T5, L5, kz5, nz5⟩, -, X5, ⟨Lc5, hQ5, l5, y5, z5⟩, st5⟩ := Jvm.LawKit.callS X4 hx (y := y_20) hown (mvT hZ (ww hw 65 rfl)) (mvT hZ (ww hw 66 rfl)) (mvT hZ (ww hw 67 rfl)) (mvT hZ (ww hw 68 rfl)) (by decide) (backOf (W := 0) (rmStA l Z a0 hw [] it (4 : Int32) (5 : Int32) va arr kk cap vs x4 p5 k4 (5 : Int32) [(.int p1), (.int p2), (.int p3), (.int p4), (.int p5)] (5 : Int32) T4.heap n0 (Nat.le_trans Z0 KC.1) O0 F_next_a1_4 F_val_length_a1_4 F_val_items_a1_4 E_it E_arr V_arr E_x4 F_value_x4 V_va g_it ne_va (by decide) (by decide) hD4 hX4 (by decide) rfl (by decide)) hZ (ww hw 68 rfl) (ww hw 67 rfl) (Nat.le_trans (by decide) hRf) (Nat.le_trans (by decide) hRl)) (g := (mkF m 256 #[vi p1, vi p2, vi p3, vi p4, vi p5, vi p6, vi (5 : Int32), vi c1, vi c2, vr va, vr li, vr it] [(.ref va), (.int (5 : Int32)), (.int (4 : Int32)), (.ref it)])) rfl (by rw [hml]; rfl) (argsL := [(.ref it), (.int (4 : Int32)), (.int (5 : Int32)), (.ref va)]) (rest := []) (lenOf pd_12 rfl) rfl (by show 2 * 0 + _ ≤ _; exact Nat.le_of_eq rfl) (hb hby at_256) (fun _ _ => ⟨rfl, rfl, (Nat.le_trans (by omega : cells + 0 + 0 ≤ cells + 0) hRc), (Nat.le_trans (by omega : slots + 0 + 0 ≤ slots + 0) hRs)⟩)
  dsimp only [Pt.U, Pt.locs, Pt.cells, Pt.slots] at X5 l5 y5 z5 st5 hQ5
  subst l5; rw [y5, z5] at X5
  obtain ⟨rfl, N5q, K5, F_next_a1_5, F_val_length_a1_5, F_val_items_a1_5⟩ := hQ5
  have N5 := Fr.app N4 N5q
  replace E_it := E_it.keep K5
  replace E_arr := E_arr.keep K5
  replace V_arr := V_arr.keep K5 (ninS nec_arr_it nin0)
  replace V_va := V_va.keep K5 (ninS ne_va nin0)
  replace E_x0 := E_x0.keep K5
  replace F_value_x0 := F_value_x0.keep K5 (ninS nec_x0_it nin0)
  replace E_x1 := E_x1.keep K5
  replace F_value_x1 := F_value_x1.keep K5 (ninS nec_x1_it nin0)
  replace E_x2 := E_x2.keep K5
  replace F_value_x2 := F_value_x2.keep K5 (ninS nec_x2_it nin0)
  replace E_x3 := E_x3.keep K5
  replace F_value_x3 := F_value_x3.keep K5 (ninS nec_x3_it nin0)
  replace E_x4 := E_x4.keep K5
  replace F_value_x4 := F_value_x4.keep K5 (ninS nec_x4_it nin0)
  replace O0 := O0.keep K5 (allS g_it all0)
  replace KC := KC.trans K5 (allS (Or.inl (List.mem_of_getElem? (i := 0) rfl)) all0)
  obtain ⟨_, _, ⟨T6, L6, kz6, nz6⟩, -, X6, ⟨Lc6, hQ6, l6, y6, z6⟩, st6⟩ := Jvm.LawKit.callS X5 hx (y := y_20) hown (mvT hZ (ww hw 65 rfl)) (mvT hZ (ww hw 66 rfl)) (mvT hZ (ww hw 67 rfl)) (mvT hZ (ww hw 68 rfl)) (by decide) (backOf (W := 0) (rmStB l Z a0 hw [] it (5 : Int32) (5 : Int32) va (5 : Int32) (5 : Int32) T5.heap n0 (Nat.le_trans Z0 KC.1) O0 F_next_a1_5 F_val_length_a1_5 E_it (by decide) (by decide)) hZ (ww hw 68 rfl) (ww hw 67 rfl) (Nat.le_trans (by decide) hRf) (Nat.le_trans (by decide) hRl)) (g := (mkF m 269 #[vi p1, vi p2, vi p3, vi p4, vi p5, vi p6, vi (5 : Int32), vi c1, vi c2, vr va, vr li, vr it] [(.ref va), (.int (5 : Int32)), (.int (5 : Int32)), (.ref it)])) rfl (by rw [hml]; rfl) (argsL := [(.ref it), (.int (5 : Int32)), (.int (5 : Int32)), (.ref va)]) (rest := []) (lenOf pd_12 rfl) rfl (by show 2 * 0 + _ ≤ _; exact Nat.le_of_eq rfl) (hb hby at_269) (fun _ _ => ⟨rfl, rfl, (Nat.le_trans (by omega : cells + 0 + 0 ≤ cells + 0) hRc), (Nat.le_trans (by omega : slots + 0 + 0 ≤ slots + 0) hRs)⟩)
  dsimp only [Pt.U, Pt.locs, Pt.cells, Pt.slots] at X6 l6 y6 z6 st6 hQ6
  subst l6; rw [y6, z6] at X6
  obtain ⟨rfl, N6q, e6⟩ := hQ6
  have N6 := Fr.app N5 N6q
  obtain ⟨cq7, kq7, q7a, q7b, q7c⟩ := isOf hZ e6 E_it
  obtain ⟨_, _, ⟨T7, L7, kz7, nz7⟩, -, X7, ⟨Lc7, hQ7, l7, y7, z7⟩, st7⟩ := X6.interfaceBack hx (xi := y_18) (y := y_16) hown (mvT hZ (ww hw 69 rfl)) (mvT hZ (ww hw 70 rfl)) (mvT hZ (ww hw 71 rfl)) (mvT hZ (ww hw 72 rfl)) (mvT hZ (ww hw 73 rfl)) (mvT hZ (ww hw 74 rfl)) (mvT hZ (ww hw 75 rfl)) (mvT hZ (ww hw 76 rfl)) (by decide) (backOf (W := 0) (rmHn l Z a0 hw [] it (5 : Int32) (5 : Int32) (0 : Int32) T5.heap n0 (Nat.le_trans Z0 KC.1) O0 F_next_a1_5 F_val_length_a1_5 (by decide)) hZ (ww hw 77 rfl) (ww hw 56 rfl) (Nat.le_trans (by decide) hRf) (Nat.le_trans (by decide) hRl)) q7a q7b q7c (g := (mkF m 277 #[vi p1, vi p2, vi p3, vi p4, vi p5, vi p6, vi (5 : Int32), vi c1, vi c2, vr va, vr li, vr it] [(.ref it)])) rfl (by rw [hml]; rfl) (Steps.refl _) (argsL := []) (rest := []) (lenOf pd_9 rfl) rfl (by show 2 * 0 + _ ≤ _; exact Nat.le_of_eq rfl) (hb hby at_277) (fun _ _ => ⟨rfl, e6, (Nat.le_trans (by omega : cells + 0 + 0 ≤ cells + 0) hRc), (Nat.le_trans (by omega : slots + 0 + 0 ≤ slots + 0) hRs)⟩)
  dsimp only [Pt.U, Pt.locs, Pt.cells, Pt.slots] at X7 l7 y7 z7 st7 hQ7
  subst l7; rw [y7, z7] at X7
  obtain ⟨rfl, N7q, e7⟩ := hQ7
  have N7 := Fr.app N6 N7q
  have pre8 : ∀ t, Steps p.tables e below (T7.setTop (mkF m 282 #[vi p1, vi p2, vi p3, vi p4, vi p5, vi p6, vi (5 : Int32), vi c1, vi c2, vr va, vr li, vr it] [(.int (0 : Int32))])) t → Steps p.tables e below (T0.setTop (mkF m 197 #[vi p1, vi p2, vi p3, vi p4, vi p5, vi p6, vi (5 : Int32), vi c1, vi c2, vr va, vr li, vr it] [])) t := by
    intro t kt
    refine pre0 t ?_
    show SS p e below m T0 197 #[vi p1, vi p2, vi p3, vi p4, vi p5, vi p6, vi (5 : Int32), vi c1, vi c2, vr va, vr li, vr it] [] _
    refine XS.aload X0.here hx rfl (hb hby at_197) rfl rfl ?_
    show SS p e below m T0 199 #[vi p1, vi p2, vi p3, vi p4, vi p5, vi p6, vi (5 : Int32), vi c1, vi c2, vr va, vr li, vr it] [(.ref it)] _
    refine XS.iconst X0.here hx rfl (hb hby at_199) ?_
    show SS p e below m T0 200 #[vi p1, vi p2, vi p3, vi p4, vi p5, vi p6, vi (5 : Int32), vi c1, vi c2, vr va, vr li, vr it] [(.int (0 : Int32)), (.ref it)] _
    refine XS.iload X0.here hx rfl (hb hby at_200) rfl ?_
    show SS p e below m T0 202 #[vi p1, vi p2, vi p3, vi p4, vi p5, vi p6, vi (5 : Int32), vi c1, vi c2, vr va, vr li, vr it] [(.int (5 : Int32)), (.int (0 : Int32)), (.ref it)] _
    refine XS.aload X0.here hx rfl (hb hby at_202) rfl rfl ?_
    show SS p e below m T0 204 #[vi p1, vi p2, vi p3, vi p4, vi p5, vi p6, vi (5 : Int32), vi c1, vi c2, vr va, vr li, vr it] [(.ref va), (.int (5 : Int32)), (.int (0 : Int32)), (.ref it)] _
    refine st1 _ ?_
    show SS p e below m T1 207 #[vi p1, vi p2, vi p3, vi p4, vi p5, vi p6, vi (5 : Int32), vi c1, vi c2, vr va, vr li, vr it] [(.int (1 : Int32))] _
    refine XS.ifNo X1.here hx rfl (hb hby at_207) rfl ((if0 _ _).trans (feq (by decide)).1) ?_
    show SS p e below m T1 210 #[vi p1, vi p2, vi p3, vi p4, vi p5, vi p6, vi (5 : Int32), vi c1, vi c2, vr va, vr li, vr it] [] _
    refine XS.aload X1.here hx rfl (hb hby at_210) rfl rfl ?_
    show SS p e below m T1 212 #[vi p1, vi p2, vi p3, vi p4, vi p5, vi p6, vi (5 : Int32), vi c1, vi c2, vr va, vr li, vr it] [(.ref it)] _
    refine XS.iconst X1.here hx rfl (hb hby at_212) ?_
    show SS p e below m T1 213 #[vi p1, vi p2, vi p3, vi p4, vi p5, vi p6, vi (5 : Int32), vi c1, vi c2, vr va, vr li, vr it] [(.int (1 : Int32)), (.ref it)] _
    refine XS.iload X1.here hx rfl (hb hby at_213) rfl ?_
    show SS p e below m T1 215 #[vi p1, vi p2, vi p3, vi p4, vi p5, vi p6, vi (5 : Int32), vi c1, vi c2, vr va, vr li, vr it] [(.int (5 : Int32)), (.int (1 : Int32)), (.ref it)] _
    refine XS.aload X1.here hx rfl (hb hby at_215) rfl rfl ?_
    show SS p e below m T1 217 #[vi p1, vi p2, vi p3, vi p4, vi p5, vi p6, vi (5 : Int32), vi c1, vi c2, vr va, vr li, vr it] [(.ref va), (.int (5 : Int32)), (.int (1 : Int32)), (.ref it)] _
    refine st2 _ ?_
    show SS p e below m T2 220 #[vi p1, vi p2, vi p3, vi p4, vi p5, vi p6, vi (5 : Int32), vi c1, vi c2, vr va, vr li, vr it] [(.int (1 : Int32))] _
    refine XS.ifNo X2.here hx rfl (hb hby at_220) rfl ((if0 _ _).trans (feq (by decide)).1) ?_
    show SS p e below m T2 223 #[vi p1, vi p2, vi p3, vi p4, vi p5, vi p6, vi (5 : Int32), vi c1, vi c2, vr va, vr li, vr it] [] _
    refine XS.aload X2.here hx rfl (hb hby at_223) rfl rfl ?_
    show SS p e below m T2 225 #[vi p1, vi p2, vi p3, vi p4, vi p5, vi p6, vi (5 : Int32), vi c1, vi c2, vr va, vr li, vr it] [(.ref it)] _
    refine XS.iconst X2.here hx rfl (hb hby at_225) ?_
    show SS p e below m T2 226 #[vi p1, vi p2, vi p3, vi p4, vi p5, vi p6, vi (5 : Int32), vi c1, vi c2, vr va, vr li, vr it] [(.int (2 : Int32)), (.ref it)] _
    refine XS.iload X2.here hx rfl (hb hby at_226) rfl ?_
    show SS p e below m T2 228 #[vi p1, vi p2, vi p3, vi p4, vi p5, vi p6, vi (5 : Int32), vi c1, vi c2, vr va, vr li, vr it] [(.int (5 : Int32)), (.int (2 : Int32)), (.ref it)] _
    refine XS.aload X2.here hx rfl (hb hby at_228) rfl rfl ?_
    show SS p e below m T2 230 #[vi p1, vi p2, vi p3, vi p4, vi p5, vi p6, vi (5 : Int32), vi c1, vi c2, vr va, vr li, vr it] [(.ref va), (.int (5 : Int32)), (.int (2 : Int32)), (.ref it)] _
    refine st3 _ ?_
    show SS p e below m T3 233 #[vi p1, vi p2, vi p3, vi p4, vi p5, vi p6, vi (5 : Int32), vi c1, vi c2, vr va, vr li, vr it] [(.int (1 : Int32))] _
    refine XS.ifNo X3.here hx rfl (hb hby at_233) rfl ((if0 _ _).trans (feq (by decide)).1) ?_
    show SS p e below m T3 236 #[vi p1, vi p2, vi p3, vi p4, vi p5, vi p6, vi (5 : Int32), vi c1, vi c2, vr va, vr li, vr it] [] _
    refine XS.aload X3.here hx rfl (hb hby at_236) rfl rfl ?_
    show SS p e below m T3 238 #[vi p1, vi p2, vi p3, vi p4, vi p5, vi p6, vi (5 : Int32), vi c1, vi c2, vr va, vr li, vr it] [(.ref it)] _
    refine XS.iconst X3.here hx rfl (hb hby at_238) ?_
    show SS p e below m T3 239 #[vi p1, vi p2, vi p3, vi p4, vi p5, vi p6, vi (5 : Int32), vi c1, vi c2, vr va, vr li, vr it] [(.int (3 : Int32)), (.ref it)] _
    refine XS.iload X3.here hx rfl (hb hby at_239) rfl ?_
    show SS p e below m T3 241 #[vi p1, vi p2, vi p3, vi p4, vi p5, vi p6, vi (5 : Int32), vi c1, vi c2, vr va, vr li, vr it] [(.int (5 : Int32)), (.int (3 : Int32)), (.ref it)] _
    refine XS.aload X3.here hx rfl (hb hby at_241) rfl rfl ?_
    show SS p e below m T3 243 #[vi p1, vi p2, vi p3, vi p4, vi p5, vi p6, vi (5 : Int32), vi c1, vi c2, vr va, vr li, vr it] [(.ref va), (.int (5 : Int32)), (.int (3 : Int32)), (.ref it)] _
    refine st4 _ ?_
    show SS p e below m T4 246 #[vi p1, vi p2, vi p3, vi p4, vi p5, vi p6, vi (5 : Int32), vi c1, vi c2, vr va, vr li, vr it] [(.int (1 : Int32))] _
    refine XS.ifNo X4.here hx rfl (hb hby at_246) rfl ((if0 _ _).trans (feq (by decide)).1) ?_
    show SS p e below m T4 249 #[vi p1, vi p2, vi p3, vi p4, vi p5, vi p6, vi (5 : Int32), vi c1, vi c2, vr va, vr li, vr it] [] _
    refine XS.aload X4.here hx rfl (hb hby at_249) rfl rfl ?_
    show SS p e below m T4 251 #[vi p1, vi p2, vi p3, vi p4, vi p5, vi p6, vi (5 : Int32), vi c1, vi c2, vr va, vr li, vr it] [(.ref it)] _
    refine XS.iconst X4.here hx rfl (hb hby at_251) ?_
    show SS p e below m T4 252 #[vi p1, vi p2, vi p3, vi p4, vi p5, vi p6, vi (5 : Int32), vi c1, vi c2, vr va, vr li, vr it] [(.int (4 : Int32)), (.ref it)] _
    refine XS.iload X4.here hx rfl (hb hby at_252) rfl ?_
    show SS p e below m T4 254 #[vi p1, vi p2, vi p3, vi p4, vi p5, vi p6, vi (5 : Int32), vi c1, vi c2, vr va, vr li, vr it] [(.int (5 : Int32)), (.int (4 : Int32)), (.ref it)] _
    refine XS.aload X4.here hx rfl (hb hby at_254) rfl rfl ?_
    show SS p e below m T4 256 #[vi p1, vi p2, vi p3, vi p4, vi p5, vi p6, vi (5 : Int32), vi c1, vi c2, vr va, vr li, vr it] [(.ref va), (.int (5 : Int32)), (.int (4 : Int32)), (.ref it)] _
    refine st5 _ ?_
    show SS p e below m T5 259 #[vi p1, vi p2, vi p3, vi p4, vi p5, vi p6, vi (5 : Int32), vi c1, vi c2, vr va, vr li, vr it] [(.int (1 : Int32))] _
    refine XS.ifNo X5.here hx rfl (hb hby at_259) rfl ((if0 _ _).trans (feq (by decide)).1) ?_
    show SS p e below m T5 262 #[vi p1, vi p2, vi p3, vi p4, vi p5, vi p6, vi (5 : Int32), vi c1, vi c2, vr va, vr li, vr it] [] _
    refine XS.aload X5.here hx rfl (hb hby at_262) rfl rfl ?_
    show SS p e below m T5 264 #[vi p1, vi p2, vi p3, vi p4, vi p5, vi p6, vi (5 : Int32), vi c1, vi c2, vr va, vr li, vr it] [(.ref it)] _
    refine XS.iconst X5.here hx rfl (hb hby at_264) ?_
    show SS p e below m T5 265 #[vi p1, vi p2, vi p3, vi p4, vi p5, vi p6, vi (5 : Int32), vi c1, vi c2, vr va, vr li, vr it] [(.int (5 : Int32)), (.ref it)] _
    refine XS.iload X5.here hx rfl (hb hby at_265) rfl ?_
    show SS p e below m T5 267 #[vi p1, vi p2, vi p3, vi p4, vi p5, vi p6, vi (5 : Int32), vi c1, vi c2, vr va, vr li, vr it] [(.int (5 : Int32)), (.int (5 : Int32)), (.ref it)] _
    refine XS.aload X5.here hx rfl (hb hby at_267) rfl rfl ?_
    show SS p e below m T5 269 #[vi p1, vi p2, vi p3, vi p4, vi p5, vi p6, vi (5 : Int32), vi c1, vi c2, vr va, vr li, vr it] [(.ref va), (.int (5 : Int32)), (.int (5 : Int32)), (.ref it)] _
    refine st6 _ ?_
    show SS p e below m T6 272 #[vi p1, vi p2, vi p3, vi p4, vi p5, vi p6, vi (5 : Int32), vi c1, vi c2, vr va, vr li, vr it] [(.int (1 : Int32))] _
    refine XS.ifNo X6.here hx rfl (hb hby at_272) rfl ((if0 _ _).trans (feq (by decide)).1) ?_
    show SS p e below m T6 275 #[vi p1, vi p2, vi p3, vi p4, vi p5, vi p6, vi (5 : Int32), vi c1, vi c2, vr va, vr li, vr it] [] _
    refine XS.aload X6.here hx rfl (hb hby at_275) rfl rfl ?_
    show SS p e below m T6 277 #[vi p1, vi p2, vi p3, vi p4, vi p5, vi p6, vi (5 : Int32), vi c1, vi c2, vr va, vr li, vr it] [(.ref it)] _
    refine st7.trans ?_
    exact kt
  exact ⟨T7, _, _, X7.more (by omega) (by omega), e7, N7, KC, pre8⟩
theorem pd_13 : parseMethodDescriptor "()Ljava/util/Iterator;" = some ⟨[], some (.object "java/util/Iterator")⟩ := by decide +kernel
theorem pd_14 : parseMethodDescriptor "(I)Ljava/lang/Integer;" = some ⟨[.int], some (.object "java/lang/Integer")⟩ := by decide +kernel
theorem pd_15 : parseMethodDescriptor "(Ljava/lang/Object;)V" = some ⟨[(.object "java/lang/Object")], none⟩ := by decide +kernel
theorem pd_16 : parseMethodDescriptor "()Lcom/example/brisk_tableau/brisktableau/tableau/SharedList;" = some ⟨[], some (.object "com/example/brisk_tableau/brisktableau/tableau/SharedList")⟩ := by decide +kernel
theorem ef_rm0 (m : MethodId) (x0 : Int32) (x1 : Int32) (x2 : Int32) (x3 : Int32) (x4 : Int32) (x5 : Int32) : entryFrame m #[(.int x0), (.int x1), (.int x2), (.int x3), (.int x4), (.int x5)] maxLocals = mkF m 0 #[vi x0, vi x1, vi x2, vi x3, vi x4, vi x5, .unset, .unset, .unset, .unset, .unset, .unset] [] := by first | (simp [entryFrame, mkF, argsToLocals, Value.category, maxLocals]; done) | rfl
def Q_rm0 (Z : State) (p1 : Int32) (p2 : Int32) (p3 : Int32) (p4 : Int32) (p5 : Int32) (p6 : Int32) (cA : Addr) (cl : Cell) (mr : Addr) (h0 : Heap) (n0 : Nat) (v : Option Value) (h : Heap) (L : List Loc) : Prop := (v = some (.int (1 : Int32))) ∧ (Fr n0 L) ∧ (Keep h0 h [])
set_option maxRecDepth 65536 in
set_option maxHeartbeats 40000000 in
theorem rm0 (l : Launch) (Z : State) (a0 : Array Value) (hw : ∀ d ∈ tables_1, d.before a0 Z = true) (ws : List Jvm.Cond) (p1 : Int32) (p2 : Int32) (p3 : Int32) (p4 : Int32) (p5 : Int32) (p6 : Int32) (cA : Addr) (cl : Cell) (mr : Addr) (h0 : Heap) (n0 : Nat) (Z0 : n0 ≤ h0.size) (O0 : Old Z n0 h0) (S_high : Sta Z Z.heap "java/lang/Integer$IntegerCache" "high" "I" (.int (127 : Int32))) (S_cache : Sta Z Z.heap "java/lang/Integer$IntegerCache" "cache" "[Ljava/lang/Integer;" (.ref cA)) (BX : Bxs Z cA cl "java/lang/Integer" "I" (256 : Int32) (fun j => .int (j - (128 : Int32)))) (MIR : own_Mir Z "[Ljava/lang/Object;" mr) :
    MetFree l x (head1 (Jvm.Cond.code x code maxLocals ret :: ws) room_1) (fun a U => a = #[(.int p1), (.int p2), (.int p3), (.int p4), (.int p5), (.int p6)] ∧ Z.Warmed39 U.vm ∧ U.heap = h0) (fun _ _ _ _ _ => True) (fun _ U o U' => ∃ v L, o = .returned v ∧ Q_rm0 Z p1 p2 p3 p4 p5 p6 cA cl mr h0 n0 v U'.heap L ∧ FrameEnd U o U' L room_1.cells room_1.slots) := by
  refine MetFree.of_bodySF (plainFor_of_name pn_7) hisR ?_
  intro p e s m args below meth c s₁ Bd hml0 hP hK
  obtain ⟨rfl, hZ, hh⟩ := hP
  have hx := Bd.exec
  have hby := Bd.bytes
  have hml : c.maxLocals = 12 := hml0
  have hown : s.vm.findClass "com/example/brisk_tableau/brisktableau/tableau/SharedListIteratorPinLaw" = some m.cls := findClass_of_methodNamed Bd.named
  have hnm := (name_of_methodNamed Bd.named Bd.method).1
  have X0 : Stand p l e room_1 s m #[(.int p1), (.int p2), (.int p3), (.int p4), (.int p5), (.int p6)] below meth c s₁ [] 0 0 := Stand.of_body Bd
  have e0 : s₁.heap = h0 := by rw [← hh, Bd.state]; rfl
  have N0 := Fr.nil n0
  have KC : Keep h0 h0 [] := Keep.refl h0 _
  have pre0 : ∀ t, Steps p.tables e below (s₁.setTop (mkF m 0 #[vi p1, vi p2, vi p3, vi p4, vi p5, vi p6, un, un, un, un, un, un] [])) t → Steps p.tables e below (s₁.setTop (entryFrame m #[(.int p1), (.int p2), (.int p3), (.int p4), (.int p5), (.int p6)] maxLocals)) t := fun t k => castTop (ef_rm0 m p1 p2 p3 p4 p5 p6) k
  have pre1 : ∀ t, Steps p.tables e below (s₁.setTop (mkF m 15 #[vi p1, vi p2, vi p3, vi p4, vi p5, vi p6, vi ((p6 &&& (7 : Int32)) % (6 : Int32)), un, un, un, un, un] [(.int (p6 &&& (8 : Int32)))])) t → Steps p.tables e below (s₁.setTop (entryFrame m #[(.int p1), (.int p2), (.int p3), (.int p4), (.int p5), (.int p6)] maxLocals)) t := by
    intro t kt
    refine pre0 t ?_
    show SS p e below m s₁ 0 #[vi p1, vi p2, vi p3, vi p4, vi p5, vi p6, un, un, un, un, un, un] [] _
    refine XS.iload X0.here hx rfl (hb hby at_0) rfl ?_
    show SS p e below m s₁ 2 #[vi p1, vi p2, vi p3, vi p4, vi p5, vi p6, un, un, un, un, un, un] [(.int p6)] _
    refine XS.bipush X0.here hx rfl (hb hby at_2) ?_
    show SS p e below m s₁ 4 #[vi p1, vi p2, vi p3, vi p4, vi p5, vi p6, un, un, un, un, un, un] [(.int (7 : Int32)), (.int p6)] _
    refine XS.iand X0.here hx rfl (hb hby at_4) rfl ?_
    show SS p e below m s₁ 5 #[vi p1, vi p2, vi p3, vi p4, vi p5, vi p6, un, un, un, un, un, un] [(.int (p6 &&& (7 : Int32)))] _
    refine XS.bipush X0.here hx rfl (hb hby at_5) ?_
    show SS p e below m s₁ 7 #[vi p1, vi p2, vi p3, vi p4, vi p5, vi p6, un, un, un, un, un, un] [(.int (6 : Int32)), (.int (p6 &&& (7 : Int32)))] _
    refine iremM X0 hx rfl (hb hby at_7) rfl (by decide) ?_
    show SS p e below m s₁ 8 #[vi p1, vi p2, vi p3, vi p4, vi p5, vi p6, un, un, un, un, un, un] [(.int ((p6 &&& (7 : Int32)) % (6 : Int32)))] _
    refine XS.istore X0.here hx rfl (hb hby at_8) rfl (l' := #[vi p1, vi p2, vi p3, vi p4, vi p5, vi p6, vi ((p6 &&& (7 : Int32)) % (6 : Int32)), un, un, un, un, un]) rfl ?_
    show SS p e below m s₁ 10 #[vi p1, vi p2, vi p3, vi p4, vi p5, vi p6, vi ((p6 &&& (7 : Int32)) % (6 : Int32)), un, un, un, un, un] [] _
    refine XS.iload X0.here hx rfl (hb hby at_10) rfl ?_
    show SS p e below m s₁ 12 #[vi p1, vi p2, vi p3, vi p4, vi p5, vi p6, vi ((p6 &&& (7 : Int32)) % (6 : Int32)), un, un, un, un, un] [(.int p6)] _
    refine XS.bipush X0.here hx rfl (hb hby at_12) ?_
    show SS p e below m s₁ 14 #[vi p1, vi p2, vi p3, vi p4, vi p5, vi p6, vi ((p6 &&& (7 : Int32)) % (6 : Int32)), un, un, un, un, un] [(.int (8 : Int32)), (.int p6)] _
    refine XS.iand X0.here hx rfl (hb hby at_14) rfl ?_
    exact kt
  obtain ⟨c1, h_c1, pre2⟩ : ∃ c1 : Int32, (((p6 &&& (8 : Int32)) = (0 : Int32)) ∧ c1 = (0 : Int32) ∨ ¬ ((p6 &&& (8 : Int32)) = (0 : Int32)) ∧ c1 = (1 : Int32)) ∧ ∀ t, Steps p.tables e below (s₁.setTop (mkF m 23 #[vi p1, vi p2, vi p3, vi p4, vi p5, vi p6, vi ((p6 &&& (7 : Int32)) % (6 : Int32)), un, un, un, un, un] [(.int c1)])) t → Steps p.tables e below (s₁.setTop (entryFrame m #[(.int p1), (.int p2), (.int p3), (.int p4), (.int p5), (.int p6)] maxLocals)) t := by
    by_cases hj2 : (p6 &&& (8 : Int32)) = (0 : Int32)
    · refine ⟨(0 : Int32), Or.inl ⟨hj2, rfl⟩, fun t kt => pre1 t ?_⟩
      show SS p e below m s₁ 15 #[vi p1, vi p2, vi p3, vi p4, vi p5, vi p6, vi ((p6 &&& (7 : Int32)) % (6 : Int32)), un, un, un, un, un] [(.int (p6 &&& (8 : Int32)))] _
      refine XS.ifYes X0.here hx rfl (pc0 := 15) (pc' := 22) rfl (hb hby at_15) rfl ((if0 _ _).trans (teq hj2).1) (by decide) (by decide) ?_
      show SS p e below m s₁ 22 #[vi p1, vi p2, vi p3, vi p4, vi p5, vi p6, vi ((p6 &&& (7 : Int32)) % (6 : Int32)), un, un, un, un, un] [] _
      refine XS.iconst X0.here hx rfl (hb hby at_22) ?_
      exact kt
    · refine ⟨(1 : Int32), Or.inr ⟨hj2, rfl⟩, fun t kt => pre1 t ?_⟩
      show SS p e below m s₁ 15 #[vi p1, vi p2, vi p3, vi p4, vi p5, vi p6, vi ((p6 &&& (7 : Int32)) % (6 : Int32)), un, un, un, un, un] [(.int (p6 &&& (8 : Int32)))] _
      refine XS.ifNo X0.here hx rfl (hb hby at_15) rfl ((if0 _ _).trans (feq hj2).1) ?_
      show SS p e below m s₁ 18 #[vi p1, vi p2, vi p3, vi p4, vi p5, vi p6, vi ((p6 &&& (7 : Int32)) % (6 : Int32)), un, un, un, un, un] [] _
      refine XS.iconst X0.here hx rfl (hb hby at_18) ?_
      show SS p e below m s₁ 19 #[vi p1, vi p2, vi p3, vi p4, vi p5, vi p6, vi ((p6 &&& (7 : Int32)) % (6 : Int32)), un, un, un, un, un] [(.int (1 : Int32))] _
      refine XS.goto X0.here hx rfl (pc0 := 19) (pc' := 23) rfl (hb hby at_19) (by decide) (by decide) ?_
      exact kt
  have pre3 : ∀ t, Steps p.tables e below (s₁.setTop (mkF m 30 #[vi p1, vi p2, vi p3, vi p4, vi p5, vi p6, vi ((p6 &&& (7 : Int32)) % (6 : Int32)), vi c1, un, un, un, un] [(.int (p6 &&& (16 : Int32)))])) t → Steps p.tables e below (s₁.setTop (entryFrame m #[(.int p1), (.int p2), (.int p3), (.int p4), (.int p5), (.int p6)] maxLocals)) t := by
    intro t kt
    refine pre2 t ?_
    show SS p e below m s₁ 23 #[vi p1, vi p2, vi p3, vi p4, vi p5, vi p6, vi ((p6 &&& (7 : Int32)) % (6 : Int32)), un, un, un, un, un] [(.int c1)] _
    refine XS.istore X0.here hx rfl (hb hby at_23) rfl (l' := #[vi p1, vi p2, vi p3, vi p4, vi p5, vi p6, vi ((p6 &&& (7 : Int32)) % (6 : Int32)), vi c1, un, un, un, un]) rfl ?_
    show SS p e below m s₁ 25 #[vi p1, vi p2, vi p3, vi p4, vi p5, vi p6, vi ((p6 &&& (7 : Int32)) % (6 : Int32)), vi c1, un, un, un, un] [] _
    refine XS.iload X0.here hx rfl (hb hby at_25) rfl ?_
    show SS p e below m s₁ 27 #[vi p1, vi p2, vi p3, vi p4, vi p5, vi p6, vi ((p6 &&& (7 : Int32)) % (6 : Int32)), vi c1, un, un, un, un] [(.int p6)] _
    refine XS.bipush X0.here hx rfl (hb hby at_27) ?_
    show SS p e below m s₁ 29 #[vi p1, vi p2, vi p3, vi p4, vi p5, vi p6, vi ((p6 &&& (7 : Int32)) % (6 : Int32)), vi c1, un, un, un, un] [(.int (16 : Int32)), (.int p6)] _
    refine XS.iand X0.here hx rfl (hb hby at_29) rfl ?_
    exact kt
  obtain ⟨c2, h_c2, pre4⟩ : ∃ c2 : Int32, (((p6 &&& (16 : Int32)) = (0 : Int32)) ∧ c2 = (0 : Int32) ∨ ¬ ((p6 &&& (16 : Int32)) = (0 : Int32)) ∧ c2 = (1 : Int32)) ∧ ∀ t, Steps p.tables e below (s₁.setTop (mkF m 38 #[vi p1, vi p2, vi p3, vi p4, vi p5, vi p6, vi ((p6 &&& (7 : Int32)) % (6 : Int32)), vi c1, un, un, un, un] [(.int c2)])) t → Steps p.tables e below (s₁.setTop (entryFrame m #[(.int p1), (.int p2), (.int p3), (.int p4), (.int p5), (.int p6)] maxLocals)) t := by
    by_cases hj4 : (p6 &&& (16 : Int32)) = (0 : Int32)
    · refine ⟨(0 : Int32), Or.inl ⟨hj4, rfl⟩, fun t kt => pre3 t ?_⟩
      show SS p e below m s₁ 30 #[vi p1, vi p2, vi p3, vi p4, vi p5, vi p6, vi ((p6 &&& (7 : Int32)) % (6 : Int32)), vi c1, un, un, un, un] [(.int (p6 &&& (16 : Int32)))] _
      refine XS.ifYes X0.here hx rfl (pc0 := 30) (pc' := 37) rfl (hb hby at_30) rfl ((if0 _ _).trans (teq hj4).1) (by decide) (by decide) ?_
      show SS p e below m s₁ 37 #[vi p1, vi p2, vi p3, vi p4, vi p5, vi p6, vi ((p6 &&& (7 : Int32)) % (6 : Int32)), vi c1, un, un, un, un] [] _
      refine XS.iconst X0.here hx rfl (hb hby at_37) ?_
      exact kt
    · refine ⟨(1 : Int32), Or.inr ⟨hj4, rfl⟩, fun t kt => pre3 t ?_⟩
      show SS p e below m s₁ 30 #[vi p1, vi p2, vi p3, vi p4, vi p5, vi p6, vi ((p6 &&& (7 : Int32)) % (6 : Int32)), vi c1, un, un, un, un] [(.int (p6 &&& (16 : Int32)))] _
      refine XS.ifNo X0.here hx rfl (hb hby at_30) rfl ((if0 _ _).trans (feq hj4).1) ?_
      show SS p e below m s₁ 33 #[vi p1, vi p2, vi p3, vi p4, vi p5, vi p6, vi ((p6 &&& (7 : Int32)) % (6 : Int32)), vi c1, un, un, un, un] [] _
      refine XS.iconst X0.here hx rfl (hb hby at_33) ?_
      show SS p e below m s₁ 34 #[vi p1, vi p2, vi p3, vi p4, vi p5, vi p6, vi ((p6 &&& (7 : Int32)) % (6 : Int32)), vi c1, un, un, un, un] [(.int (1 : Int32))] _
      refine XS.goto X0.here hx rfl (pc0 := 34) (pc' := 38) rfl (hb hby at_34) (by decide) (by decide) ?_
      exact kt
  obtain ⟨T5, h5, k5, X5, e5, E5, A5, st5⟩ := newP X0 hx hZ (ww hw 0 rfl) e0 (g := (mkF m 41 #[vi p1, vi p2, vi p3, vi p4, vi p5, vi p6, vi ((p6 &&& (7 : Int32)) % (6 : Int32)), vi c1, vi c2, un, un, un] [(.int (5 : Int32))])) rfl (hb hby at_41) rfl (by decide) (cap := 5) (by decide) (by decide) (by decide) (by decide)
  obtain ⟨b5, g5⟩ : ∃ z, z = h0.size := ⟨_, rfl⟩
  rw [← g5] at A5 st5
  have g_b5 : n0 ≤ b5 := Nat.le_trans (Nat.le_trans Z0 KC.1) (Nat.le_of_eq g5.symm)
  have sz_b5 : h0.size ≤ b5 := Nat.le_trans KC.1 (Nat.le_of_eq g5.symm)
  replace O0 := O0.ext E5
  replace KC := KC.ext E5
  have V_b5 : Arv Z h5 b5 k5 .int (5 : Int32) [(.int (0 : Int32)), (.int (0 : Int32)), (.int (0 : Int32)), (.int (0 : Int32)), (.int (0 : Int32))] (.int (0 : Int32)) := (Arv.new A5 (by decide)).pad (pad_rep [] (.int (0 : Int32)) 5)
  have Vo6 := V_b5
  obtain ⟨cl6, Ar6, q6, Sz6, Nn6, Hh6, Gg6⟩ := Vo6
  have hin6 : ¬ ((0 : Int32) < 0 ∨ cl6.slots.size ≤ ((0 : Int32)).toNatClampNeg) := inb_of Sz6 ⟨by decide, by decide⟩
  obtain ⟨T7, h7, X7, e7, W7, st7⟩ := stI X5 hx hZ e5 Ar6 (j := (0 : Int32)) hin6 (g := (mkF m 46 #[vi p1, vi p2, vi p3, vi p4, vi p5, vi p6, vi ((p6 &&& (7 : Int32)) % (6 : Int32)), vi c1, vi c2, un, un, un] [(.int p1), (.int (0 : Int32)), (.ref b5), (.ref b5)])) rfl rfl (hb hby at_46)
  have Vn7 := Arv.set Ar6 q6 Sz6 Nn6 Hh6 Gg6 rfl W7 (0) rfl (Nat.le_of_ble_eq_true rfl)
  have N7 := Fr.snoc X7 N0 g_b5
  have Vm7 : Arv Z h7 b5 k5 .int (5 : Int32) [(.int p1), (.int (0 : Int32)), (.int (0 : Int32)), (.int (0 : Int32)), (.int (0 : Int32))] (.int (0 : Int32)) := Vn7
  replace O0 := O0.wr W7 g_b5
  replace KC := KC.wr W7 (Or.inr sz_b5)
  have Vo8 := Vm7
  obtain ⟨cl8, Ar8, q8, Sz8, Nn8, Hh8, Gg8⟩ := Vo8
  have hin8 : ¬ ((1 : Int32) < 0 ∨ cl8.slots.size ≤ ((1 : Int32)).toNatClampNeg) := inb_of Sz8 ⟨by decide, by decide⟩
  obtain ⟨T9, h9, X9, e9, W9, st9⟩ := stI X7 hx hZ e7 Ar8 (j := (1 : Int32)) hin8 (g := (mkF m 50 #[vi p1, vi p2, vi p3, vi p4, vi p5, vi p6, vi ((p6 &&& (7 : Int32)) % (6 : Int32)), vi c1, vi c2, un, un, un] [(.int p2), (.int (1 : Int32)), (.ref b5), (.ref b5)])) rfl rfl (hb hby at_50)
  have Vn9 := Arv.set Ar8 q8 Sz8 Nn8 Hh8 Gg8 rfl W9 (1) rfl (Nat.le_of_ble_eq_true rfl)
  have N9 := Fr.snoc X9 N7 g_b5
  have Vm9 : Arv Z h9 b5 k5 .int (5 : Int32) [(.int p1), (.int p2), (.int (0 : Int32)), (.int (0 : Int32)), (.int (0 : Int32))] (.int (0 : Int32)) := Vn9
  replace O0 := O0.wr W9 g_b5
  replace KC := KC.wr W9 (Or.inr sz_b5)
  have Vo10 := Vm9
  obtain ⟨cl10, Ar10, q10, Sz10, Nn10, Hh10, Gg10⟩ := Vo10
  have hin10 : ¬ ((2 : Int32) < 0 ∨ cl10.slots.size ≤ ((2 : Int32)).toNatClampNeg) := inb_of Sz10 ⟨by decide, by decide⟩
  obtain ⟨T11, h11, X11, e11, W11, st11⟩ := stI X9 hx hZ e9 Ar10 (j := (2 : Int32)) hin10 (g := (mkF m 54 #[vi p1, vi p2, vi p3, vi p4, vi p5, vi p6, vi ((p6 &&& (7 : Int32)) % (6 : Int32)), vi c1, vi c2, un, un, un] [(.int p3), (.int (2 : Int32)), (.ref b5), (.ref b5)])) rfl rfl (hb hby at_54)
  have Vn11 := Arv.set Ar10 q10 Sz10 Nn10 Hh10 Gg10 rfl W11 (2) rfl (Nat.le_of_ble_eq_true rfl)
  have N11 := Fr.snoc X11 N9 g_b5
  have Vm11 : Arv Z h11 b5 k5 .int (5 : Int32) [(.int p1), (.int p2), (.int p3), (.int (0 : Int32)), (.int (0 : Int32))] (.int (0 : Int32)) := Vn11
  replace O0 := O0.wr W11 g_b5
  replace KC := KC.wr W11 (Or.inr sz_b5)
  have Vo12 := Vm11
  obtain ⟨cl12, Ar12, q12, Sz12, Nn12, Hh12, Gg12⟩ := Vo12
  have hin12 : ¬ ((3 : Int32) < 0 ∨ cl12.slots.size ≤ ((3 : Int32)).toNatClampNeg) := inb_of Sz12 ⟨by decide, by decide⟩
  obtain ⟨T13, h13, X13, e13, W13, st13⟩ := stI X11 hx hZ e11 Ar12 (j := (3 : Int32)) hin12 (g := (mkF m 58 #[vi p1, vi p2, vi p3, vi p4, vi p5, vi p6, vi ((p6 &&& (7 : Int32)) % (6 : Int32)), vi c1, vi c2, un, un, un] [(.int p4), (.int (3 : Int32)), (.ref b5), (.ref b5)])) rfl rfl (hb hby at_58)
  have Vn13 := Arv.set Ar12 q12 Sz12 Nn12 Hh12 Gg12 rfl W13 (3) rfl (Nat.le_of_ble_eq_true rfl)
  have N13 := Fr.snoc X13 N11 g_b5
  have Vm13 : Arv Z h13 b5 k5 .int (5 : Int32) [(.int p1), (.int p2), (.int p3), (.int p4), (.int (0 : Int32))] (.int (0 : Int32)) := Vn13
  replace O0 := O0.wr W13 g_b5
  replace KC := KC.wr W13 (Or.inr sz_b5)
  have Vo14 := Vm13
  obtain ⟨cl14, Ar14, q14, Sz14, Nn14, Hh14, Gg14⟩ := Vo14
  have hin14 : ¬ ((4 : Int32) < 0 ∨ cl14.slots.size ≤ ((4 : Int32)).toNatClampNeg) := inb_of Sz14 ⟨by decide, by decide⟩
  obtain ⟨T15, h15, X15, e15, W15, st15⟩ := stI X13 hx hZ e13 Ar14 (j := (4 : Int32)) hin14 (g := (mkF m 63 #[vi p1, vi p2, vi p3, vi p4, vi p5, vi p6, vi ((p6 &&& (7 : Int32)) % (6 : Int32)), vi c1, vi c2, un, un, un] [(.int p5), (.int (4 : Int32)), (.ref b5), (.ref b5)])) rfl rfl (hb hby at_63)
  have Vn15 := Arv.set Ar14 q14 Sz14 Nn14 Hh14 Gg14 rfl W15 (4) rfl (Nat.le_of_ble_eq_true rfl)
  have N15 := Fr.snoc X15 N13 g_b5
  have Vm15 : Arv Z h15 b5 k5 .int (5 : Int32) [(.int p1), (.int p2), (.int p3), (.int p4), (.int p5)] (.int (0 : Int32)) := Vn15
  replace O0 := O0.wr W15 g_b5
  replace KC := KC.wr W15 (Or.inr sz_b5)
  obtain ⟨T16, h16, X16, e16, E16, A16, D16, -, st16⟩ := newO X15 hx hZ hown (ww hw 1 rfl) (ww hw 2 rfl) (ww hw 3 rfl) e15 (g := (mkF m 66 #[vi p1, vi p2, vi p3, vi p4, vi p5, vi p6, vi ((p6 &&& (7 : Int32)) % (6 : Int32)), vi c1, vi c2, vr b5, un, un] [])) rfl (hb hby at_66) (by decide) (by decide)
  obtain ⟨b16, g16⟩ : ∃ z, z = h15.size := ⟨_, rfl⟩
  rw [← g16] at A16 D16 st16
  have ne_b5_b16 : b5 ≠ b16 := Nat.ne_of_lt (Nat.lt_of_lt_of_le Vm15.lt (Nat.le_of_eq g16.symm))
  have g_b16 : n0 ≤ b16 := Nat.le_trans (Nat.le_trans Z0 KC.1) (Nat.le_of_eq g16.symm)
  have sz_b16 : h0.size ≤ b16 := Nat.le_trans KC.1 (Nat.le_of_eq g16.symm)
  replace Vm15 := Vm15.ext E16
  replace O0 := O0.ext E16
  replace KC := KC.ext E16
  have F_store_b16 : Fld Z h16 b16 "com/example/brisk_tableau/brisktableau/tableau/SharedList" "store" "Lcom/example/brisk_tableau/brisktableau/tableau/SharedList$Store;" .null := D16 (Or.inl (ww hw 27 rfl)) (ty := (.object "com/example/brisk_tableau/brisktableau/tableau/SharedList$Store")) (by decide)
  have F_size_b16 : Fld Z h16 b16 "com/example/brisk_tableau/brisktableau/tableau/SharedList" "size" "I" (.int (0 : Int32)) := D16 (Or.inl (ww hw 29 rfl)) (ty := .int) (by decide)
  obtain ⟨_, _, ⟨T17, L17, kz17, nz17⟩, -, X17, ⟨Lc17, hQ17, l17, y17, z17⟩, st17⟩ := X16.specialBack hx (y := y_2) rfl hown (mvT hZ (ww hw 4 rfl)) (mvT hZ (ww hw 5 rfl)) (mvT hZ (ww hw 6 rfl)) (by decide) (backOf (W := 1) (rmL0 l Z a0 hw [] b16 h16 n0 (Nat.le_trans Z0 KC.1) O0 F_store_b16 F_size_b16 A16 g_b16) hZ (ww hw 6 rfl) (ww hw 3 rfl) (by decide) (by decide)) (g := (mkF m 70 #[vi p1, vi p2, vi p3, vi p4, vi p5, vi p6, vi ((p6 &&& (7 : Int32)) % (6 : Int32)), vi c1, vi c2, vr b5, un, un] [(.ref b16), (.ref b16)])) rfl (by rw [hml]; rfl) (Steps.refl _) (a := b16) (argsL := []) (rest := [(.ref b16)]) (lenOf pd_2 rfl) rfl (by show 2 * 0 + _ ≤ _; exact Nat.le_of_eq rfl) (hb hby at_70) (fun _ _ => ⟨rfl, e16, (by decide : 2 + 2 ≤ _), (by decide : 7 + 6 ≤ _)⟩)
  dsimp only [Pt.U, Pt.locs, Pt.cells, Pt.slots] at X17 l17 y17 z17 st17 hQ17
  subst l17 y17 z17
  obtain ⟨b17_b, b17_c, k_17, rfl, N17q, K17, sz_b17_b, sz_b17_c, F_store_a1_17, F_size_a1_17, E_b_17, F_items_b_17, F_filled_b_17, E_c_17, V_c_17, hq17_0⟩ := hQ17
  have N17 := Fr.app N15 N17q
  have ne_b5_b17_b : b5 ≠ b17_b := Nat.ne_of_lt (Nat.lt_of_lt_of_le Vm15.lt sz_b17_b)
  have ne_b16_b17_b : b16 ≠ b17_b := Nat.ne_of_lt (Nat.lt_of_lt_of_le A16.lt sz_b17_b)
  have g_b17_b : n0 ≤ b17_b := Nat.le_trans (Nat.le_trans Z0 KC.1) sz_b17_b
  replace sz_b17_b : h0.size ≤ b17_b := Nat.le_trans KC.1 sz_b17_b
  have ne_b5_b17_c : b5 ≠ b17_c := Nat.ne_of_lt (Nat.lt_of_lt_of_le Vm15.lt sz_b17_c)
  have ne_b16_b17_c : b16 ≠ b17_c := Nat.ne_of_lt (Nat.lt_of_lt_of_le A16.lt sz_b17_c)
  have g_b17_c : n0 ≤ b17_c := Nat.le_trans (Nat.le_trans Z0 KC.1) sz_b17_c
  replace sz_b17_c : h0.size ≤ b17_c := Nat.le_trans KC.1 sz_b17_c
  replace Vm15 := Vm15.keep K17 (ninS ne_b5_b16 nin0)
  replace A16 := A16.keep K17
  replace O0 := O0.keep K17 (allS g_b16 all0)
  replace KC := KC.trans K17 (allS (Or.inr sz_b16) all0)
  have pre18 : ∀ t, Steps p.tables e below (T17.setTop (mkF m 75 #[vi p1, vi p2, vi p3, vi p4, vi p5, vi p6, vi ((p6 &&& (7 : Int32)) % (6 : Int32)), vi c1, vi c2, vr b5, vr b16, un] [])) t → Steps p.tables e below (s₁.setTop (entryFrame m #[(.int p1), (.int p2), (.int p3), (.int p4), (.int p5), (.int p6)] maxLocals)) t := by
    intro t kt
    refine pre4 t ?_
    show SS p e below m s₁ 38 #[vi p1, vi p2, vi p3, vi p4, vi p5, vi p6, vi ((p6 &&& (7 : Int32)) % (6 : Int32)), vi c1, un, un, un, un] [(.int c2)] _
    refine XS.istore X0.here hx rfl (hb hby at_38) rfl (l' := #[vi p1, vi p2, vi p3, vi p4, vi p5, vi p6, vi ((p6 &&& (7 : Int32)) % (6 : Int32)), vi c1, vi c2, un, un, un]) rfl ?_
    show SS p e below m s₁ 40 #[vi p1, vi p2, vi p3, vi p4, vi p5, vi p6, vi ((p6 &&& (7 : Int32)) % (6 : Int32)), vi c1, vi c2, un, un, un] [] _
    refine XS.iconst X0.here hx rfl (hb hby at_40) ?_
    show SS p e below m s₁ 41 #[vi p1, vi p2, vi p3, vi p4, vi p5, vi p6, vi ((p6 &&& (7 : Int32)) % (6 : Int32)), vi c1, vi c2, un, un, un] [(.int (5 : Int32))] _
    refine st5 _ ?_
    show SS p e below m T5 43 #[vi p1, vi p2, vi p3, vi p4, vi p5, vi p6, vi ((p6 &&& (7 : Int32)) % (6 : Int32)), vi c1, vi c2, un, un, un] [(.ref b5)] _
    refine XS.dup X5.here hx rfl (hb hby at_43) rfl rfl ?_
    show SS p e below m T5 44 #[vi p1, vi p2, vi p3, vi p4, vi p5, vi p6, vi ((p6 &&& (7 : Int32)) % (6 : Int32)), vi c1, vi c2, un, un, un] [(.ref b5), (.ref b5)] _
    refine XS.iconst X5.here hx rfl (hb hby at_44) ?_
    show SS p e below m T5 45 #[vi p1, vi p2, vi p3, vi p4, vi p5, vi p6, vi ((p6 &&& (7 : Int32)) % (6 : Int32)), vi c1, vi c2, un, un, un] [(.int (0 : Int32)), (.ref b5), (.ref b5)] _
    refine XS.iloadN X5.here hx rfl (hb hby at_45) rfl ?_
    show SS p e below m T5 46 #[vi p1, vi p2, vi p3, vi p4, vi p5, vi p6, vi ((p6 &&& (7 : Int32)) % (6 : Int32)), vi c1, vi c2, un, un, un] [(.int p1), (.int (0 : Int32)), (.ref b5), (.ref b5)] _
    refine st7 _ ?_
    show SS p e below m T7 47 #[vi p1, vi p2, vi p3, vi p4, vi p5, vi p6, vi ((p6 &&& (7 : Int32)) % (6 : Int32)), vi c1, vi c2, un, un, un] [(.ref b5)] _
    refine XS.dup X7.here hx rfl (hb hby at_47) rfl rfl ?_
    show SS p e below m T7 48 #[vi p1, vi p2, vi p3, vi p4, vi p5, vi p6, vi ((p6 &&& (7 : Int32)) % (6 : Int32)), vi c1, vi c2, un, un, un] [(.ref b5), (.ref b5)] _
    refine XS.iconst X7.here hx rfl (hb hby at_48) ?_
    show SS p e below m T7 49 #[vi p1, vi p2, vi p3, vi p4, vi p5, vi p6, vi ((p6 &&& (7 : Int32)) % (6 : Int32)), vi c1, vi c2, un, un, un] [(.int (1 : Int32)), (.ref b5), (.ref b5)] _
    refine XS.iloadN X7.here hx rfl (hb hby at_49) rfl ?_
    show SS p e below m T7 50 #[vi p1, vi p2, vi p3, vi p4, vi p5, vi p6, vi ((p6 &&& (7 : Int32)) % (6 : Int32)), vi c1, vi c2, un, un, un] [(.int p2), (.int (1 : Int32)), (.ref b5), (.ref b5)] _
    refine st9 _ ?_
    show SS p e below m T9 51 #[vi p1, vi p2, vi p3, vi p4, vi p5, vi p6, vi ((p6 &&& (7 : Int32)) % (6 : Int32)), vi c1, vi c2, un, un, un] [(.ref b5)] _
    refine XS.dup X9.here hx rfl (hb hby at_51) rfl rfl ?_
    show SS p e below m T9 52 #[vi p1, vi p2, vi p3, vi p4, vi p5, vi p6, vi ((p6 &&& (7 : Int32)) % (6 : Int32)), vi c1, vi c2, un, un, un] [(.ref b5), (.ref b5)] _
    refine XS.iconst X9.here hx rfl (hb hby at_52) ?_
    show SS p e below m T9 53 #[vi p1, vi p2, vi p3, vi p4, vi p5, vi p6, vi ((p6 &&& (7 : Int32)) % (6 : Int32)), vi c1, vi c2, un, un, un] [(.int (2 : Int32)), (.ref b5), (.ref b5)] _
    refine XS.iloadN X9.here hx rfl (hb hby at_53) rfl ?_
    show SS p e below m T9 54 #[vi p1, vi p2, vi p3, vi p4, vi p5, vi p6, vi ((p6 &&& (7 : Int32)) % (6 : Int32)), vi c1, vi c2, un, un, un] [(.int p3), (.int (2 : Int32)), (.ref b5), (.ref b5)] _
    refine st11 _ ?_
    show SS p e below m T11 55 #[vi p1, vi p2, vi p3, vi p4, vi p5, vi p6, vi ((p6 &&& (7 : Int32)) % (6 : Int32)), vi c1, vi c2, un, un, un] [(.ref b5)] _
    refine XS.dup X11.here hx rfl (hb hby at_55) rfl rfl ?_
    show SS p e below m T11 56 #[vi p1, vi p2, vi p3, vi p4, vi p5, vi p6, vi ((p6 &&& (7 : Int32)) % (6 : Int32)), vi c1, vi c2, un, un, un] [(.ref b5), (.ref b5)] _
    refine XS.iconst X11.here hx rfl (hb hby at_56) ?_
    show SS p e below m T11 57 #[vi p1, vi p2, vi p3, vi p4, vi p5, vi p6, vi ((p6 &&& (7 : Int32)) % (6 : Int32)), vi c1, vi c2, un, un, un] [(.int (3 : Int32)), (.ref b5), (.ref b5)] _
    refine XS.iloadN X11.here hx rfl (hb hby at_57) rfl ?_
    show SS p e below m T11 58 #[vi p1, vi p2, vi p3, vi p4, vi p5, vi p6, vi ((p6 &&& (7 : Int32)) % (6 : Int32)), vi c1, vi c2, un, un, un] [(.int p4), (.int (3 : Int32)), (.ref b5), (.ref b5)] _
    refine st13 _ ?_
    show SS p e below m T13 59 #[vi p1, vi p2, vi p3, vi p4, vi p5, vi p6, vi ((p6 &&& (7 : Int32)) % (6 : Int32)), vi c1, vi c2, un, un, un] [(.ref b5)] _
    refine XS.dup X13.here hx rfl (hb hby at_59) rfl rfl ?_
    show SS p e below m T13 60 #[vi p1, vi p2, vi p3, vi p4, vi p5, vi p6, vi ((p6 &&& (7 : Int32)) % (6 : Int32)), vi c1, vi c2, un, un, un] [(.ref b5), (.ref b5)] _
    refine XS.iconst X13.here hx rfl (hb hby at_60) ?_
    show SS p e below m T13 61 #[vi p1, vi p2, vi p3, vi p4, vi p5, vi p6, vi ((p6 &&& (7 : Int32)) % (6 : Int32)), vi c1, vi c2, un, un, un] [(.int (4 : Int32)), (.ref b5), (.ref b5)] _
    refine XS.iload X13.here hx rfl (hb hby at_61) rfl ?_
    show SS p e below m T13 63 #[vi p1, vi p2, vi p3, vi p4, vi p5, vi p6, vi ((p6 &&& (7 : Int32)) % (6 : Int32)), vi c1, vi c2, un, un, un] [(.int p5), (.int (4 : Int32)), (.ref b5), (.ref b5)] _
    refine st15 _ ?_
    show SS p e below m T15 64 #[vi p1, vi p2, vi p3, vi p4, vi p5, vi p6, vi ((p6 &&& (7 : Int32)) % (6 : Int32)), vi c1, vi c2, un, un, un] [(.ref b5)] _
    refine XS.astore X15.here hx rfl (hb hby at_64) rfl rfl (l' := #[vi p1, vi p2, vi p3, vi p4, vi p5, vi p6, vi ((p6 &&& (7 : Int32)) % (6 : Int32)), vi c1, vi c2, vr b5, un, un]) rfl ?_
    show SS p e below m T15 66 #[vi p1, vi p2, vi p3, vi p4, vi p5, vi p6, vi ((p6 &&& (7 : Int32)) % (6 : Int32)), vi c1, vi c2, vr b5, un, un] [] _
    refine st16 _ ?_
    show SS p e below m T16 69 #[vi p1, vi p2, vi p3, vi p4, vi p5, vi p6, vi ((p6 &&& (7 : Int32)) % (6 : Int32)), vi c1, vi c2, vr b5, un, un] [(.ref b16)] _
    refine XS.dup X16.here hx rfl (hb hby at_69) rfl rfl ?_
    show SS p e below m T16 70 #[vi p1, vi p2, vi p3, vi p4, vi p5, vi p6, vi ((p6 &&& (7 : Int32)) % (6 : Int32)), vi c1, vi c2, vr b5, un, un] [(.ref b16), (.ref b16)] _
    refine st17.trans ?_
    show SS p e below m T17 73 #[vi p1, vi p2, vi p3, vi p4, vi p5, vi p6, vi ((p6 &&& (7 : Int32)) % (6 : Int32)), vi c1, vi c2, vr b5, un, un] [(.ref b16)] _
    refine XS.astore X17.here hx rfl (hb hby at_73) rfl rfl (l' := #[vi p1, vi p2, vi p3, vi p4, vi p5, vi p6, vi ((p6 &&& (7 : Int32)) % (6 : Int32)), vi c1, vi c2, vr b5, vr b16, un]) rfl ?_
    exact kt
  rcases own_k p6 with hk | hk | hk | hk | hk | hk
  · rw [hk] at pre18
    have pre19 : ∀ t, Steps p.tables e below (T17.setTop (mkF m 152 #[vi p1, vi p2, vi p3, vi p4, vi p5, vi p6, vi (0 : Int32), vi c1, vi c2, vr b5, vr b16, un] [(.int c1)])) t → Steps p.tables e below (s₁.setTop (entryFrame m #[(.int p1), (.int p2), (.int p3), (.int p4), (.int p5), (.int p6)] maxLocals)) t := by
      intro t kt
      refine pre18 t ?_
      show SS p e below m T17 75 #[vi p1, vi p2, vi p3, vi p4, vi p5, vi p6, vi (0 : Int32), vi c1, vi c2, vr b5, vr b16, un] [] _
      refine XS.iload X17.here hx rfl (hb hby at_75) rfl ?_
      show SS p e below m T17 77 #[vi p1, vi p2, vi p3, vi p4, vi p5, vi p6, vi (0 : Int32), vi c1, vi c2, vr b5, vr b16, un] [(.int (0 : Int32))] _
      refine XS.ifYes X17.here hx rfl (pc0 := 77) (pc' := 89) rfl (hb hby at_77) rfl ((if0 _ _).trans (flt (by decide)).2.2.2) (by decide) (by decide) ?_
      show SS p e below m T17 89 #[vi p1, vi p2, vi p3, vi p4, vi p5, vi p6, vi (0 : Int32), vi c1, vi c2, vr b5, vr b16, un] [] _
      refine XS.iload X17.here hx rfl (hb hby at_89) rfl ?_
      show SS p e below m T17 91 #[vi p1, vi p2, vi p3, vi p4, vi p5, vi p6, vi (0 : Int32), vi c1, vi c2, vr b5, vr b16, un] [(.int (0 : Int32))] _
      refine XS.iconst X17.here hx rfl (hb hby at_91) ?_
      show SS p e below m T17 92 #[vi p1, vi p2, vi p3, vi p4, vi p5, vi p6, vi (0 : Int32), vi c1, vi c2, vr b5, vr b16, un] [(.int (1 : Int32)), (.int (0 : Int32))] _
      refine XS.icmpYes X17.here hx rfl (pc0 := 92) (pc' := 104) rfl (hb hby at_92) rfl (flt (by decide)).2.2.2 (by decide) (by decide) ?_
      show SS p e below m T17 104 #[vi p1, vi p2, vi p3, vi p4, vi p5, vi p6, vi (0 : Int32), vi c1, vi c2, vr b5, vr b16, un] [] _
      refine XS.iload X17.here hx rfl (hb hby at_104) rfl ?_
      show SS p e below m T17 106 #[vi p1, vi p2, vi p3, vi p4, vi p5, vi p6, vi (0 : Int32), vi c1, vi c2, vr b5, vr b16, un] [(.int (0 : Int32))] _
      refine XS.iconst X17.here hx rfl (hb hby at_106) ?_
      show SS p e below m T17 107 #[vi p1, vi p2, vi p3, vi p4, vi p5, vi p6, vi (0 : Int32), vi c1, vi c2, vr b5, vr b16, un] [(.int (2 : Int32)), (.int (0 : Int32))] _
      refine XS.icmpYes X17.here hx rfl (pc0 := 107) (pc' := 119) rfl (hb hby at_107) rfl (flt (by decide)).2.2.2 (by decide) (by decide) ?_
      show SS p e below m T17 119 #[vi p1, vi p2, vi p3, vi p4, vi p5, vi p6, vi (0 : Int32), vi c1, vi c2, vr b5, vr b16, un] [] _
      refine XS.iload X17.here hx rfl (hb hby at_119) rfl ?_
      show SS p e below m T17 121 #[vi p1, vi p2, vi p3, vi p4, vi p5, vi p6, vi (0 : Int32), vi c1, vi c2, vr b5, vr b16, un] [(.int (0 : Int32))] _
      refine XS.iconst X17.here hx rfl (hb hby at_121) ?_
      show SS p e below m T17 122 #[vi p1, vi p2, vi p3, vi p4, vi p5, vi p6, vi (0 : Int32), vi c1, vi c2, vr b5, vr b16, un] [(.int (3 : Int32)), (.int (0 : Int32))] _
      refine XS.icmpYes X17.here hx rfl (pc0 := 122) (pc' := 134) rfl (hb hby at_122) rfl (flt (by decide)).2.2.2 (by decide) (by decide) ?_
      show SS p e below m T17 134 #[vi p1, vi p2, vi p3, vi p4, vi p5, vi p6, vi (0 : Int32), vi c1, vi c2, vr b5, vr b16, un] [] _
      refine XS.iload X17.here hx rfl (hb hby at_134) rfl ?_
      show SS p e below m T17 136 #[vi p1, vi p2, vi p3, vi p4, vi p5, vi p6, vi (0 : Int32), vi c1, vi c2, vr b5, vr b16, un] [(.int (0 : Int32))] _
      refine XS.iconst X17.here hx rfl (hb hby at_136) ?_
      show SS p e below m T17 137 #[vi p1, vi p2, vi p3, vi p4, vi p5, vi p6, vi (0 : Int32), vi c1, vi c2, vr b5, vr b16, un] [(.int (4 : Int32)), (.int (0 : Int32))] _
      refine XS.icmpYes X17.here hx rfl (pc0 := 137) (pc' := 150) rfl (hb hby at_137) rfl (flt (by decide)).2.2.2 (by decide) (by decide) ?_
      show SS p e below m T17 150 #[vi p1, vi p2, vi p3, vi p4, vi p5, vi p6, vi (0 : Int32), vi c1, vi c2, vr b5, vr b16, un] [] _
      refine XS.iload X17.here hx rfl (hb hby at_150) rfl ?_
      exact kt
    by_cases hc152_20 : c1 = (0 : Int32)
    · obtain ⟨cq21, kq21, q21a, q21b, q21c⟩ := isOf hZ rfl A16
      obtain ⟨_, _, ⟨T21, L21, kz21, nz21⟩, -, X21, ⟨Lc21, hQ21, l21, y21, z21⟩, st21⟩ := X17.virtualBack hx (y := y_15) (z := y_15) hown (mvT hZ (ww hw 49 rfl)) (mvT hZ (ww hw 50 rfl)) (notFace_of_selects (args := #[]) (mvT hZ (ww hw 52 rfl))) (mvT hZ (ww hw 52 rfl)) (mvT hZ (ww hw 51 rfl)) (by decide) (backOf (W := 0) (rmIt l Z a0 hw [] b16 b17_b (0 : Int32) b17_c T17.heap n0 (Nat.le_trans Z0 KC.1) O0 F_store_a1_17 F_size_a1_17 F_items_b_17) hZ (ww hw 53 rfl) (ww hw 3 rfl) (by decide) (by decide)) q21a q21c (g := (mkF m 176 #[vi p1, vi p2, vi p3, vi p4, vi p5, vi p6, vi (0 : Int32), vi c1, vi c2, vr b5, vr b16, un] [(.ref b16)])) rfl (by rw [hml]; rfl) (Steps.refl _) (argsL := []) (rest := []) (lenOf pd_13 rfl) rfl (by show 2 * 0 + _ ≤ _; exact Nat.le_of_eq rfl) (hb hby at_176) (fun _ _ => ⟨rfl, rfl, (by decide : 4 + 1 ≤ _), (by decide : 13 + 3 ≤ _)⟩)
      dsimp only [Pt.U, Pt.locs, Pt.cells, Pt.slots] at X21 l21 y21 z21 st21 hQ21
      subst l21 y21 z21
      obtain ⟨b21_b, rfl, N21q, K21, sz_b21_b, E_b_21, F_val_length_b_21, F_val_items_b_21, F_next_b_21⟩ := hQ21
      have N21 := Fr.app N17 N21q
      have ne_b5_b21_b : b5 ≠ b21_b := Nat.ne_of_lt (Nat.lt_of_lt_of_le Vm15.lt sz_b21_b)
      have ne_b16_b21_b : b16 ≠ b21_b := Nat.ne_of_lt (Nat.lt_of_lt_of_le A16.lt sz_b21_b)
      have ne_b17_b_b21_b : b17_b ≠ b21_b := Nat.ne_of_lt (Nat.lt_of_lt_of_le E_b_17.lt sz_b21_b)
      have ne_b17_c_b21_b : b17_c ≠ b21_b := Nat.ne_of_lt (Nat.lt_of_lt_of_le E_c_17.lt sz_b21_b)
      have g_b21_b : n0 ≤ b21_b := Nat.le_trans (Nat.le_trans Z0 KC.1) sz_b21_b
      replace sz_b21_b : h0.size ≤ b21_b := Nat.le_trans KC.1 sz_b21_b
      replace Vm15 := Vm15.keep K21 nin0
      replace A16 := A16.keep K21
      replace F_store_a1_17 := F_store_a1_17.keep K21 nin0
      replace F_size_a1_17 := F_size_a1_17.keep K21 nin0
      replace E_b_17 := E_b_17.keep K21
      replace F_items_b_17 := F_items_b_17.keep K21 nin0
      replace F_filled_b_17 := F_filled_b_17.keep K21 nin0
      replace E_c_17 := E_c_17.keep K21
      replace V_c_17 := V_c_17.keep K21 nin0
      replace O0 := O0.keep K21 all0
      replace KC := KC.trans K21 all0
      have pre22 : ∀ t, Steps p.tables e below (T21.setTop (mkF m 183 #[vi p1, vi p2, vi p3, vi p4, vi p5, vi p6, vi (0 : Int32), vi c1, vi c2, vr b5, vr b16, vr b21_b] [(.int c2)])) t → Steps p.tables e below (s₁.setTop (entryFrame m #[(.int p1), (.int p2), (.int p3), (.int p4), (.int p5), (.int p6)] maxLocals)) t := by
        intro t kt
        refine pre19 t ?_
        show SS p e below m T17 152 #[vi p1, vi p2, vi p3, vi p4, vi p5, vi p6, vi (0 : Int32), vi c1, vi c2, vr b5, vr b16, un] [(.int c1)] _
        refine XS.ifYes X17.here hx rfl (pc0 := 152) (pc' := 174) rfl (hb hby at_152) rfl ((if0 _ _).trans (teq hc152_20).1) (by decide) (by decide) ?_
        show SS p e below m T17 174 #[vi p1, vi p2, vi p3, vi p4, vi p5, vi p6, vi (0 : Int32), vi c1, vi c2, vr b5, vr b16, un] [] _
        refine XS.aload X17.here hx rfl (hb hby at_174) rfl rfl ?_
        show SS p e below m T17 176 #[vi p1, vi p2, vi p3, vi p4, vi p5, vi p6, vi (0 : Int32), vi c1, vi c2, vr b5, vr b16, un] [(.ref b16)] _
        refine st21.trans ?_
        show SS p e below m T21 179 #[vi p1, vi p2, vi p3, vi p4, vi p5, vi p6, vi (0 : Int32), vi c1, vi c2, vr b5, vr b16, un] [(.ref b21_b)] _
        refine XS.astore X21.here hx rfl (hb hby at_179) rfl rfl (l' := #[vi p1, vi p2, vi p3, vi p4, vi p5, vi p6, vi (0 : Int32), vi c1, vi c2, vr b5, vr b16, vr b21_b]) rfl ?_
        show SS p e below m T21 181 #[vi p1, vi p2, vi p3, vi p4, vi p5, vi p6, vi (0 : Int32), vi c1, vi c2, vr b5, vr b16, vr b21_b] [] _
        refine XS.iload X21.here hx rfl (hb hby at_181) rfl ?_
        exact kt
      by_cases hc183_23 : c2 = (0 : Int32)
      · obtain ⟨T24, h24, L24, X24, e24, N24, K24, st24⟩ := tail0 hw X21 hx hZ hby hml hown p1 p2 p3 p4 p5 p6 c1 c2 b5 b16 b21_b b17_c k_17 (4 : Int32) [.null, .null, .null, .null] k5 T21.heap n0 rfl (Nat.le_trans Z0 KC.1) O0 N21 F_next_b_21 F_val_length_b_21 F_val_items_b_21 E_b_21 E_c_17 V_c_17 Vm15 g_b21_b ne_b5_b21_b (by decide) (by decide) (by decide) (by decide)
        replace Vm15 := Vm15.keep K24 (ninS ne_b5_b21_b nin0)
        replace A16 := A16.keep K24
        replace F_store_a1_17 := F_store_a1_17.keep K24 (ninS ne_b16_b21_b nin0)
        replace F_size_a1_17 := F_size_a1_17.keep K24 (ninS ne_b16_b21_b nin0)
        replace E_b_17 := E_b_17.keep K24
        replace F_items_b_17 := F_items_b_17.keep K24 (ninS ne_b17_b_b21_b nin0)
        replace F_filled_b_17 := F_filled_b_17.keep K24 (ninS ne_b17_b_b21_b nin0)
        replace E_c_17 := E_c_17.keep K24
        replace V_c_17 := V_c_17.keep K24 (ninS ne_b17_c_b21_b nin0)
        replace E_b_21 := E_b_21.keep K24
        replace O0 := O0.keep K24 (allS g_b21_b all0)
        replace KC := KC.trans K24 (allS (Or.inr sz_b21_b) all0)
        obtain ⟨fs, hr, hrun, hended, hW, hsame⟩ := X24.leave (v := some (.int (1 : Int32))) (fun h => by rw [Bd.returns] at h; cases h)
        refine ⟨_, _, pre22 _ ?_, hrun, hended, _, _, rfl, ?_, ⟨_, rfl⟩, hW, hsame.mono (by decide) (by decide)⟩
        · show SS p e below m T21 183 #[vi p1, vi p2, vi p3, vi p4, vi p5, vi p6, vi (0 : Int32), vi c1, vi c2, vr b5, vr b16, vr b21_b] [(.int c2)] _
          refine XS.ifYes X21.here hx rfl (pc0 := 183) (pc' := 197) rfl (hb hby at_183) rfl ((if0 _ _).trans (teq hc183_23).1) (by decide) (by decide) ?_
          show SS p e below m T21 197 #[vi p1, vi p2, vi p3, vi p4, vi p5, vi p6, vi (0 : Int32), vi c1, vi c2, vr b5, vr b16, vr b21_b] [] _
          refine st24 _ ?_
          show SS p e below m T24 282 #[vi p1, vi p2, vi p3, vi p4, vi p5, vi p6, vi (0 : Int32), vi c1, vi c2, vr b5, vr b16, vr b21_b] [(.int (0 : Int32))] _
          refine XS.ifNo X24.here hx rfl (hb hby at_282) rfl ((if0 _ _).trans (teq (by decide)).2) ?_
          show SS p e below m T24 285 #[vi p1, vi p2, vi p3, vi p4, vi p5, vi p6, vi (0 : Int32), vi c1, vi c2, vr b5, vr b16, vr b21_b] [] _
          refine XS.iconst X24.here hx rfl (hb hby at_285) ?_
          show SS p e below m T24 286 #[vi p1, vi p2, vi p3, vi p4, vi p5, vi p6, vi (0 : Int32), vi c1, vi c2, vr b5, vr b16, vr b21_b] [(.int (1 : Int32))] _
          refine XS.goto X24.here hx rfl (pc0 := 286) (pc' := 290) rfl (hb hby at_286) (by decide) (by decide) ?_
          show SS p e below m T24 290 #[vi p1, vi p2, vi p3, vi p4, vi p5, vi p6, vi (0 : Int32), vi c1, vi c2, vr b5, vr b16, vr b21_b] [(.int (1 : Int32))] _
          exact retN X24 hx (t := .boolean) Bd.returns (by simp) (hb hby at_290) hr
        · show Q_rm0 Z p1 p2 p3 p4 p5 p6 cA cl mr h0 n0 _ T24.heap _
          rw [e24]
          exact ⟨rfl, N24, KC⟩
      · obtain ⟨_, _, ⟨T25, L25, kz25, nz25⟩, -, X25, ⟨Lc25, hQ25, l25, y25, z25⟩, st25⟩ := Jvm.LawKit.callS X21 hx (y := y_5) hown (mvT hZ (ww hw 30 rfl)) (mvT hZ (ww hw 31 rfl)) (mvT hZ (ww hw 32 rfl)) (mvT hZ (ww hw 33 rfl)) (by decide) (backOf (W := 1) (rmVo l Z a0 hw [] (p2 ^^^ p4) cA cl T21.heap n0 (Nat.le_trans Z0 KC.1) O0 S_high S_cache BX) hZ (ww hw 33 rfl) (ww hw 32 rfl) (by decide) (by decide)) (g := (mkF m 191 #[vi p1, vi p2, vi p3, vi p4, vi p5, vi p6, vi (0 : Int32), vi c1, vi c2, vr b5, vr b16, vr b21_b] [(.int (p2 ^^^ p4)), (.ref b16)])) rfl (by rw [hml]; rfl) (argsL := [(.int (p2 ^^^ p4))]) (rest := [(.ref b16)]) (lenOf pd_14 rfl) rfl (by show 2 * 0 + _ ≤ _; exact Nat.le_of_eq rfl) (hb hby at_191) (fun _ _ => ⟨rfl, rfl, (by decide : 5 + 1 ≤ _), (by decide : 16 + 1 ≤ _)⟩)
        dsimp only [Pt.U, Pt.locs, Pt.cells, Pt.slots] at X25 l25 y25 z25 st25 hQ25
        subst l25 y25 z25
        obtain ⟨b_25, rfl, N25q, K25, E_b_25, F_value_b_25⟩ := hQ25
        have N25 := Fr.app N21 N25q
        replace Vm15 := Vm15.keep K25 nin0
        replace A16 := A16.keep K25
        replace F_store_a1_17 := F_store_a1_17.keep K25 nin0
        replace F_size_a1_17 := F_size_a1_17.keep K25 nin0
        replace E_b_17 := E_b_17.keep K25
        replace F_items_b_17 := F_items_b_17.keep K25 nin0
        replace F_filled_b_17 := F_filled_b_17.keep K25 nin0
        replace E_c_17 := E_c_17.keep K25
        replace V_c_17 := V_c_17.keep K25 nin0
        replace E_b_21 := E_b_21.keep K25
        replace F_val_length_b_21 := F_val_length_b_21.keep K25 nin0
        replace F_val_items_b_21 := F_val_items_b_21.keep K25 nin0
        replace F_next_b_21 := F_next_b_21.keep K25 nin0
        replace O0 := O0.keep K25 all0
        replace KC := KC.trans K25 all0
        obtain ⟨cq26, kq26, q26a, q26b, q26c⟩ := isOf hZ rfl A16
        obtain ⟨_, _, ⟨T26, L26, kz26, nz26⟩, -, X26, ⟨Lc26, hQ26, l26, y26, z26⟩, st26⟩ := X25.virtualBack hx (y := y_12) (z := y_12) hown (mvT hZ (ww hw 37 rfl)) (mvT hZ (ww hw 38 rfl)) (notFace_of_selects (args := #[]) (mvT hZ (ww hw 40 rfl))) (mvT hZ (ww hw 40 rfl)) (mvT hZ (ww hw 39 rfl)) (by decide) (backOf (W := 0) (rmAddA l Z a0 hw [] b16 b_25 b17_b (0 : Int32) (0 : Int32) b17_c k_17 (4 : Int32) [.null, .null, .null, .null] (1 : Int32) [(.ref b_25), .null, .null, .null] T25.heap n0 (Nat.le_trans Z0 KC.1) O0 F_store_a1_17 F_size_a1_17 A16 E_b_17 F_filled_b_17 F_items_b_17 E_c_17 V_c_17 E_b_25 g_b16 g_b17_b g_b17_c hq17_0 (by decide) (by decide) (by decide) (by decide) (by decide) rfl (Nat.le_of_ble_eq_true rfl)) hZ (ww hw 41 rfl) (ww hw 3 rfl) (by decide) (by decide)) q26a q26c (g := (mkF m 194 #[vi p1, vi p2, vi p3, vi p4, vi p5, vi p6, vi (0 : Int32), vi c1, vi c2, vr b5, vr b16, vr b21_b] [(.ref b_25), (.ref b16)])) rfl (by rw [hml]; rfl) (Steps.refl _) (argsL := [(.ref b_25)]) (rest := []) (lenOf pd_15 rfl) rfl (by show 2 * 0 + _ ≤ _; exact Nat.le_of_eq rfl) (hb hby at_194) (fun _ _ => ⟨rfl, rfl, (by decide : 6 + 0 ≤ _), (by decide : 17 + 0 ≤ _)⟩)
        dsimp only [Pt.U, Pt.locs, Pt.cells, Pt.slots] at X26 l26 y26 z26 st26 hQ26
        subst l26 y26 z26
        obtain ⟨rfl, N26q, K26, F_store_a1_26, F_size_a1_26, F_filled_sto_26, F_items_sto_26, V_arr_26⟩ := hQ26
        have N26 := Fr.app N25 N26q
        have nec_b_25_b17_c : b_25 ≠ b17_c := Exa.ne E_b_25 E_c_17 (by decide)
        have nec_b_25_b17_b : b_25 ≠ b17_b := Exa.ne E_b_25 E_b_17 (by decide)
        have nec_b_25_b16 : b_25 ≠ b16 := Exa.ne E_b_25 A16 (by decide)
        replace Vm15 := Vm15.keep K26 (ninS ne_b5_b16 (ninS ne_b5_b17_b (ninS ne_b5_b17_c nin0)))
        replace A16 := A16.keep K26
        replace E_b_17 := E_b_17.keep K26
        replace E_c_17 := E_c_17.keep K26
        replace E_b_21 := E_b_21.keep K26
        replace F_val_length_b_21 := F_val_length_b_21.keep K26 (ninS (Ne.symm ne_b16_b21_b) (ninS (Ne.symm ne_b17_b_b21_b) (ninS (Ne.symm ne_b17_c_b21_b) nin0)))
        replace F_val_items_b_21 := F_val_items_b_21.keep K26 (ninS (Ne.symm ne_b16_b21_b) (ninS (Ne.symm ne_b17_b_b21_b) (ninS (Ne.symm ne_b17_c_b21_b) nin0)))
        replace F_next_b_21 := F_next_b_21.keep K26 (ninS (Ne.symm ne_b16_b21_b) (ninS (Ne.symm ne_b17_b_b21_b) (ninS (Ne.symm ne_b17_c_b21_b) nin0)))
        replace E_b_25 := E_b_25.keep K26
        replace F_value_b_25 := F_value_b_25.keep K26 (ninS nec_b_25_b16 (ninS nec_b_25_b17_b (ninS nec_b_25_b17_c nin0)))
        replace O0 := O0.keep K26 (allS g_b16 (allS g_b17_b (allS g_b17_c all0)))
        replace KC := KC.trans K26 (allS (Or.inr sz_b16) (allS (Or.inr sz_b17_b) (allS (Or.inr sz_b17_c) all0)))
        obtain ⟨T27, h27, L27, X27, e27, N27, K27, st27⟩ := tail0 hw X26 hx hZ hby hml hown p1 p2 p3 p4 p5 p6 c1 c2 b5 b16 b21_b b17_c k_17 (4 : Int32) [(.ref b_25), .null, .null, .null] k5 T26.heap n0 rfl (Nat.le_trans Z0 KC.1) O0 N26 F_next_b_21 F_val_length_b_21 F_val_items_b_21 E_b_21 E_c_17 V_arr_26 Vm15 g_b21_b ne_b5_b21_b (by decide) (by decide) (by decide) (by decide)
        have nec_b_25_b21_b : b_25 ≠ b21_b := Exa.ne E_b_25 E_b_21 (by decide)
        replace Vm15 := Vm15.keep K27 (ninS ne_b5_b21_b nin0)
        replace A16 := A16.keep K27
        replace E_b_17 := E_b_17.keep K27
        replace E_c_17 := E_c_17.keep K27
        replace E_b_21 := E_b_21.keep K27
        replace E_b_25 := E_b_25.keep K27
        replace F_value_b_25 := F_value_b_25.keep K27 (ninS nec_b_25_b21_b nin0)
        replace F_store_a1_26 := F_store_a1_26.keep K27 (ninS ne_b16_b21_b nin0)
        replace F_size_a1_26 := F_size_a1_26.keep K27 (ninS ne_b16_b21_b nin0)
        replace F_filled_sto_26 := F_filled_sto_26.keep K27 (ninS ne_b17_b_b21_b nin0)
        replace F_items_sto_26 := F_items_sto_26.keep K27 (ninS ne_b17_b_b21_b nin0)
        replace V_arr_26 := V_arr_26.keep K27 (ninS ne_b17_c_b21_b nin0)
        replace O0 := O0.keep K27 (allS g_b21_b all0)
        replace KC := KC.trans K27 (allS (Or.inr sz_b21_b) all0)
        obtain ⟨fs, hr, hrun, hended, hW, hsame⟩ := X27.leave (v := some (.int (1 : Int32))) (fun h => by rw [Bd.returns] at h; cases h)
        refine ⟨_, _, pre22 _ ?_, hrun, hended, _, _, rfl, ?_, ⟨_, rfl⟩, hW, hsame.mono (by decide) (by decide)⟩
        · show SS p e below m T21 183 #[vi p1, vi p2, vi p3, vi p4, vi p5, vi p6, vi (0 : Int32), vi c1, vi c2, vr b5, vr b16, vr b21_b] [(.int c2)] _
          refine XS.ifNo X21.here hx rfl (hb hby at_183) rfl ((if0 _ _).trans (feq hc183_23).1) ?_
          show SS p e below m T21 186 #[vi p1, vi p2, vi p3, vi p4, vi p5, vi p6, vi (0 : Int32), vi c1, vi c2, vr b5, vr b16, vr b21_b] [] _
          refine XS.aload X21.here hx rfl (hb hby at_186) rfl rfl ?_
          show SS p e below m T21 188 #[vi p1, vi p2, vi p3, vi p4, vi p5, vi p6, vi (0 : Int32), vi c1, vi c2, vr b5, vr b16, vr b21_b] [(.ref b16)] _
          refine XS.iloadN X21.here hx rfl (hb hby at_188) rfl ?_
          show SS p e below m T21 189 #[vi p1, vi p2, vi p3, vi p4, vi p5, vi p6, vi (0 : Int32), vi c1, vi c2, vr b5, vr b16, vr b21_b] [(.int p2), (.ref b16)] _
          refine XS.iloadN X21.here hx rfl (hb hby at_189) rfl ?_
          show SS p e below m T21 190 #[vi p1, vi p2, vi p3, vi p4, vi p5, vi p6, vi (0 : Int32), vi c1, vi c2, vr b5, vr b16, vr b21_b] [(.int p4), (.int p2), (.ref b16)] _
          refine XS.ixor X21.here hx rfl (hb hby at_190) rfl ?_
          show SS p e below m T21 191 #[vi p1, vi p2, vi p3, vi p4, vi p5, vi p6, vi (0 : Int32), vi c1, vi c2, vr b5, vr b16, vr b21_b] [(.int (p2 ^^^ p4)), (.ref b16)] _
          refine st25 _ ?_
          show SS p e below m T25 194 #[vi p1, vi p2, vi p3, vi p4, vi p5, vi p6, vi (0 : Int32), vi c1, vi c2, vr b5, vr b16, vr b21_b] [(.ref b_25), (.ref b16)] _
          refine st26.trans ?_
          show SS p e below m T26 197 #[vi p1, vi p2, vi p3, vi p4, vi p5, vi p6, vi (0 : Int32), vi c1, vi c2, vr b5, vr b16, vr b21_b] [] _
          refine st27 _ ?_
          show SS p e below m T27 282 #[vi p1, vi p2, vi p3, vi p4, vi p5, vi p6, vi (0 : Int32), vi c1, vi c2, vr b5, vr b16, vr b21_b] [(.int (0 : Int32))] _
          refine XS.ifNo X27.here hx rfl (hb hby at_282) rfl ((if0 _ _).trans (teq (by decide)).2) ?_
          show SS p e below m T27 285 #[vi p1, vi p2, vi p3, vi p4, vi p5, vi p6, vi (0 : Int32), vi c1, vi c2, vr b5, vr b16, vr b21_b] [] _
          refine XS.iconst X27.here hx rfl (hb hby at_285) ?_
          show SS p e below m T27 286 #[vi p1, vi p2, vi p3, vi p4, vi p5, vi p6, vi (0 : Int32), vi c1, vi c2, vr b5, vr b16, vr b21_b] [(.int (1 : Int32))] _
          refine XS.goto X27.here hx rfl (pc0 := 286) (pc' := 290) rfl (hb hby at_286) (by decide) (by decide) ?_
          show SS p e below m T27 290 #[vi p1, vi p2, vi p3, vi p4, vi p5, vi p6, vi (0 : Int32), vi c1, vi c2, vr b5, vr b16, vr b21_b] [(.int (1 : Int32))] _
          exact retN X27 hx (t := .boolean) Bd.returns (by simp) (hb hby at_290) hr
        · show Q_rm0 Z p1 p2 p3 p4 p5 p6 cA cl mr h0 n0 _ T27.heap _
          rw [e27]
          exact ⟨rfl, N27, KC⟩
    · obtain ⟨cq28, kq28, q28a, q28b, q28c⟩ := isOf hZ rfl A16
      obtain ⟨_, _, ⟨T28, L28, kz28, nz28⟩, -, X28, ⟨Lc28, hQ28, l28, y28, z28⟩, st28⟩ := X17.virtualBack hx (y := y_13) (z := y_13) hown (mvT hZ (ww hw 135 rfl)) (mvT hZ (ww hw 136 rfl)) (notFace_of_selects (args := #[]) (mvT hZ (ww hw 138 rfl))) (mvT hZ (ww hw 138 rfl)) (mvT hZ (ww hw 137 rfl)) (by decide) (backOf (W := 0) (rmCp l Z a0 hw [] b16 b17_b (0 : Int32) T17.heap n0 (Nat.le_trans Z0 KC.1) O0 F_store_a1_17 F_size_a1_17) hZ (ww hw 139 rfl) (ww hw 3 rfl) (by decide) (by decide)) q28a q28c (g := (mkF m 157 #[vi p1, vi p2, vi p3, vi p4, vi p5, vi p6, vi (0 : Int32), vi c1, vi c2, vr b5, vr b16, un] [(.ref b16)])) rfl (by rw [hml]; rfl) (Steps.refl _) (argsL := []) (rest := []) (lenOf pd_16 rfl) rfl (by show 2 * 0 + _ ≤ _; exact Nat.le_of_eq rfl) (hb hby at_157) (fun _ _ => ⟨rfl, rfl, (by decide : 4 + 1 ≤ _), (by decide : 13 + 2 ≤ _)⟩)
      dsimp only [Pt.U, Pt.locs, Pt.cells, Pt.slots] at X28 l28 y28 z28 st28 hQ28
      subst l28 y28 z28
      obtain ⟨b28_b, rfl, N28q, K28, sz_b28_b, E_b_28, F_store_b_28, F_size_b_28⟩ := hQ28
      have N28 := Fr.app N17 N28q
      have ne_b5_b28_b : b5 ≠ b28_b := Nat.ne_of_lt (Nat.lt_of_lt_of_le Vm15.lt sz_b28_b)
      have ne_b16_b28_b : b16 ≠ b28_b := Nat.ne_of_lt (Nat.lt_of_lt_of_le A16.lt sz_b28_b)
      have ne_b17_b_b28_b : b17_b ≠ b28_b := Nat.ne_of_lt (Nat.lt_of_lt_of_le E_b_17.lt sz_b28_b)
      have ne_b17_c_b28_b : b17_c ≠ b28_b := Nat.ne_of_lt (Nat.lt_of_lt_of_le E_c_17.lt sz_b28_b)
      have g_b28_b : n0 ≤ b28_b := Nat.le_trans (Nat.le_trans Z0 KC.1) sz_b28_b
      replace sz_b28_b : h0.size ≤ b28_b := Nat.le_trans KC.1 sz_b28_b
      replace Vm15 := Vm15.keep K28 nin0
      replace A16 := A16.keep K28
      replace F_store_a1_17 := F_store_a1_17.keep K28 nin0
      replace F_size_a1_17 := F_size_a1_17.keep K28 nin0
      replace E_b_17 := E_b_17.keep K28
      replace F_items_b_17 := F_items_b_17.keep K28 nin0
      replace F_filled_b_17 := F_filled_b_17.keep K28 nin0
      replace E_c_17 := E_c_17.keep K28
      replace V_c_17 := V_c_17.keep K28 nin0
      replace O0 := O0.keep K28 all0
      replace KC := KC.trans K28 all0
      obtain ⟨_, _, ⟨T29, L29, kz29, nz29⟩, -, X29, ⟨Lc29, hQ29, l29, y29, z29⟩, st29⟩ := Jvm.LawKit.callS X28 hx (y := y_5) hown (mvT hZ (ww hw 30 rfl)) (mvT hZ (ww hw 31 rfl)) (mvT hZ (ww hw 32 rfl)) (mvT hZ (ww hw 33 rfl)) (by decide) (backOf (W := 1) (rmVo l Z a0 hw [] (p1 ^^^ p5) cA cl T28.heap n0 (Nat.le_trans Z0 KC.1) O0 S_high S_cache BX) hZ (ww hw 33 rfl) (ww hw 32 rfl) (by decide) (by decide)) (g := (mkF m 168 #[vi p1, vi p2, vi p3, vi p4, vi p5, vi p6, vi (0 : Int32), vi c1, vi c2, vr b5, vr b16, vr b28_b] [(.int (p1 ^^^ p5)), (.ref b28_b)])) rfl (by rw [hml]; rfl) (argsL := [(.int (p1 ^^^ p5))]) (rest := [(.ref b28_b)]) (lenOf pd_14 rfl) rfl (by show 2 * 0 + _ ≤ _; exact Nat.le_of_eq rfl) (hb hby at_168) (fun _ _ => ⟨rfl, rfl, (by decide : 5 + 1 ≤ _), (by decide : 15 + 1 ≤ _)⟩)
      dsimp only [Pt.U, Pt.locs, Pt.cells, Pt.slots] at X29 l29 y29 z29 st29 hQ29
      subst l29 y29 z29
      obtain ⟨b_29, rfl, N29q, K29, E_b_29, F_value_b_29⟩ := hQ29
      have N29 := Fr.app N28 N29q
      replace Vm15 := Vm15.keep K29 nin0
      replace A16 := A16.keep K29
      replace F_store_a1_17 := F_store_a1_17.keep K29 nin0
      replace F_size_a1_17 := F_size_a1_17.keep K29 nin0
      replace E_b_17 := E_b_17.keep K29
      replace F_items_b_17 := F_items_b_17.keep K29 nin0
      replace F_filled_b_17 := F_filled_b_17.keep K29 nin0
      replace E_c_17 := E_c_17.keep K29
      replace V_c_17 := V_c_17.keep K29 nin0
      replace E_b_28 := E_b_28.keep K29
      replace F_store_b_28 := F_store_b_28.keep K29 nin0
      replace F_size_b_28 := F_size_b_28.keep K29 nin0
      replace O0 := O0.keep K29 all0
      replace KC := KC.trans K29 all0
      obtain ⟨cq30, kq30, q30a, q30b, q30c⟩ := isOf hZ rfl E_b_28
      obtain ⟨_, _, ⟨T30, L30, kz30, nz30⟩, -, X30, ⟨Lc30, hQ30, l30, y30, z30⟩, st30⟩ := X29.virtualBack hx (y := y_12) (z := y_12) hown (mvT hZ (ww hw 37 rfl)) (mvT hZ (ww hw 38 rfl)) (notFace_of_selects (args := #[]) (mvT hZ (ww hw 40 rfl))) (mvT hZ (ww hw 40 rfl)) (mvT hZ (ww hw 39 rfl)) (by decide) (backOf (W := 0) (rmAddA l Z a0 hw [] b28_b b_29 b17_b (0 : Int32) (0 : Int32) b17_c k_17 (4 : Int32) [.null, .null, .null, .null] (1 : Int32) [(.ref b_29), .null, .null, .null] T29.heap n0 (Nat.le_trans Z0 KC.1) O0 F_store_b_28 F_size_b_28 E_b_28 E_b_17 F_filled_b_17 F_items_b_17 E_c_17 V_c_17 E_b_29 g_b28_b g_b17_b g_b17_c hq17_0 (by decide) (by decide) (by decide) (by decide) (by decide) rfl (Nat.le_of_ble_eq_true rfl)) hZ (ww hw 41 rfl) (ww hw 3 rfl) (by decide) (by decide)) q30a q30c (g := (mkF m 171 #[vi p1, vi p2, vi p3, vi p4, vi p5, vi p6, vi (0 : Int32), vi c1, vi c2, vr b5, vr b16, vr b28_b] [(.ref b_29), (.ref b28_b)])) rfl (by rw [hml]; rfl) (Steps.refl _) (argsL := [(.ref b_29)]) (rest := []) (lenOf pd_15 rfl) rfl (by show 2 * 0 + _ ≤ _; exact Nat.le_of_eq rfl) (hb hby at_171) (fun _ _ => ⟨rfl, rfl, (by decide : 6 + 0 ≤ _), (by decide : 16 + 0 ≤ _)⟩)
      dsimp only [Pt.U, Pt.locs, Pt.cells, Pt.slots] at X30 l30 y30 z30 st30 hQ30
      subst l30 y30 z30
      obtain ⟨rfl, N30q, K30, F_store_a1_30, F_size_a1_30, F_filled_sto_30, F_items_sto_30, V_arr_30⟩ := hQ30
      have N30 := Fr.app N29 N30q
      have nec_b_29_b17_c : b_29 ≠ b17_c := Exa.ne E_b_29 E_c_17 (by decide)
      have nec_b_29_b17_b : b_29 ≠ b17_b := Exa.ne E_b_29 E_b_17 (by decide)
      have nec_b_29_b28_b : b_29 ≠ b28_b := Exa.ne E_b_29 E_b_28 (by decide)
      replace Vm15 := Vm15.keep K30 (ninS ne_b5_b28_b (ninS ne_b5_b17_b (ninS ne_b5_b17_c nin0)))
      replace A16 := A16.keep K30
      replace F_store_a1_17 := F_store_a1_17.keep K30 (ninS ne_b16_b28_b (ninS ne_b16_b17_b (ninS ne_b16_b17_c nin0)))
      replace F_size_a1_17 := F_size_a1_17.keep K30 (ninS ne_b16_b28_b (ninS ne_b16_b17_b (ninS ne_b16_b17_c nin0)))
      replace E_b_17 := E_b_17.keep K30
      replace E_c_17 := E_c_17.keep K30
      replace E_b_28 := E_b_28.keep K30
      replace E_b_29 := E_b_29.keep K30
      replace F_value_b_29 := F_value_b_29.keep K30 (ninS nec_b_29_b28_b (ninS nec_b_29_b17_b (ninS nec_b_29_b17_c nin0)))
      replace O0 := O0.keep K30 (allS g_b28_b (allS g_b17_b (allS g_b17_c all0)))
      replace KC := KC.trans K30 (allS (Or.inr sz_b28_b) (allS (Or.inr sz_b17_b) (allS (Or.inr sz_b17_c) all0)))
      obtain ⟨cq31, kq31, q31a, q31b, q31c⟩ := isOf hZ rfl A16
      obtain ⟨_, _, ⟨T31, L31, kz31, nz31⟩, -, X31, ⟨Lc31, hQ31, l31, y31, z31⟩, st31⟩ := X30.virtualBack hx (y := y_15) (z := y_15) hown (mvT hZ (ww hw 49 rfl)) (mvT hZ (ww hw 50 rfl)) (notFace_of_selects (args := #[]) (mvT hZ (ww hw 52 rfl))) (mvT hZ (ww hw 52 rfl)) (mvT hZ (ww hw 51 rfl)) (by decide) (backOf (W := 0) (rmIt l Z a0 hw [] b16 b17_b (0 : Int32) b17_c T30.heap n0 (Nat.le_trans Z0 KC.1) O0 F_store_a1_17 F_size_a1_17 F_items_sto_30) hZ (ww hw 53 rfl) (ww hw 3 rfl) (by decide) (by decide)) q31a q31c (g := (mkF m 176 #[vi p1, vi p2, vi p3, vi p4, vi p5, vi p6, vi (0 : Int32), vi c1, vi c2, vr b5, vr b16, vr b28_b] [(.ref b16)])) rfl (by rw [hml]; rfl) (Steps.refl _) (argsL := []) (rest := []) (lenOf pd_13 rfl) rfl (by show 2 * 0 + _ ≤ _; exact Nat.le_of_eq rfl) (hb hby at_176) (fun _ _ => ⟨rfl, rfl, (by decide : 6 + 1 ≤ _), (by decide : 16 + 3 ≤ _)⟩)
      dsimp only [Pt.U, Pt.locs, Pt.cells, Pt.slots] at X31 l31 y31 z31 st31 hQ31
      subst l31 y31 z31
      obtain ⟨b31_b, rfl, N31q, K31, sz_b31_b, E_b_31, F_val_length_b_31, F_val_items_b_31, F_next_b_31⟩ := hQ31
      have N31 := Fr.app N30 N31q
      have ne_b5_b31_b : b5 ≠ b31_b := Nat.ne_of_lt (Nat.lt_of_lt_of_le Vm15.lt sz_b31_b)
      have ne_b16_b31_b : b16 ≠ b31_b := Nat.ne_of_lt (Nat.lt_of_lt_of_le A16.lt sz_b31_b)
      have ne_b17_b_b31_b : b17_b ≠ b31_b := Nat.ne_of_lt (Nat.lt_of_lt_of_le E_b_17.lt sz_b31_b)
      have ne_b17_c_b31_b : b17_c ≠ b31_b := Nat.ne_of_lt (Nat.lt_of_lt_of_le E_c_17.lt sz_b31_b)
      have ne_b28_b_b31_b : b28_b ≠ b31_b := Nat.ne_of_lt (Nat.lt_of_lt_of_le E_b_28.lt sz_b31_b)
      have ne_b_29_b31_b : b_29 ≠ b31_b := Nat.ne_of_lt (Nat.lt_of_lt_of_le E_b_29.lt sz_b31_b)
      have g_b31_b : n0 ≤ b31_b := Nat.le_trans (Nat.le_trans Z0 KC.1) sz_b31_b
      replace sz_b31_b : h0.size ≤ b31_b := Nat.le_trans KC.1 sz_b31_b
      replace Vm15 := Vm15.keep K31 nin0
      replace A16 := A16.keep K31
      replace F_store_a1_17 := F_store_a1_17.keep K31 nin0
      replace F_size_a1_17 := F_size_a1_17.keep K31 nin0
      replace E_b_17 := E_b_17.keep K31
      replace E_c_17 := E_c_17.keep K31
      replace E_b_28 := E_b_28.keep K31
      replace E_b_29 := E_b_29.keep K31
      replace F_value_b_29 := F_value_b_29.keep K31 nin0
      replace F_store_a1_30 := F_store_a1_30.keep K31 nin0
      replace F_size_a1_30 := F_size_a1_30.keep K31 nin0
      replace F_filled_sto_30 := F_filled_sto_30.keep K31 nin0
      replace F_items_sto_30 := F_items_sto_30.keep K31 nin0
      replace V_arr_30 := V_arr_30.keep K31 nin0
      replace O0 := O0.keep K31 all0
      replace KC := KC.trans K31 all0
      have pre32 : ∀ t, Steps p.tables e below (T31.setTop (mkF m 183 #[vi p1, vi p2, vi p3, vi p4, vi p5, vi p6, vi (0 : Int32), vi c1, vi c2, vr b5, vr b16, vr b31_b] [(.int c2)])) t → Steps p.tables e below (s₁.setTop (entryFrame m #[(.int p1), (.int p2), (.int p3), (.int p4), (.int p5), (.int p6)] maxLocals)) t := by
        intro t kt
        refine pre19 t ?_
        show SS p e below m T17 152 #[vi p1, vi p2, vi p3, vi p4, vi p5, vi p6, vi (0 : Int32), vi c1, vi c2, vr b5, vr b16, un] [(.int c1)] _
        refine XS.ifNo X17.here hx rfl (hb hby at_152) rfl ((if0 _ _).trans (feq hc152_20).1) ?_
        show SS p e below m T17 155 #[vi p1, vi p2, vi p3, vi p4, vi p5, vi p6, vi (0 : Int32), vi c1, vi c2, vr b5, vr b16, un] [] _
        refine XS.aload X17.here hx rfl (hb hby at_155) rfl rfl ?_
        show SS p e below m T17 157 #[vi p1, vi p2, vi p3, vi p4, vi p5, vi p6, vi (0 : Int32), vi c1, vi c2, vr b5, vr b16, un] [(.ref b16)] _
        refine st28.trans ?_
        show SS p e below m T28 160 #[vi p1, vi p2, vi p3, vi p4, vi p5, vi p6, vi (0 : Int32), vi c1, vi c2, vr b5, vr b16, un] [(.ref b28_b)] _
        refine XS.astore X28.here hx rfl (hb hby at_160) rfl rfl (l' := #[vi p1, vi p2, vi p3, vi p4, vi p5, vi p6, vi (0 : Int32), vi c1, vi c2, vr b5, vr b16, vr b28_b]) rfl ?_
        show SS p e below m T28 162 #[vi p1, vi p2, vi p3, vi p4, vi p5, vi p6, vi (0 : Int32), vi c1, vi c2, vr b5, vr b16, vr b28_b] [] _
        refine XS.aload X28.here hx rfl (hb hby at_162) rfl rfl ?_
        show SS p e below m T28 164 #[vi p1, vi p2, vi p3, vi p4, vi p5, vi p6, vi (0 : Int32), vi c1, vi c2, vr b5, vr b16, vr b28_b] [(.ref b28_b)] _
        refine XS.iloadN X28.here hx rfl (hb hby at_164) rfl ?_
        show SS p e below m T28 165 #[vi p1, vi p2, vi p3, vi p4, vi p5, vi p6, vi (0 : Int32), vi c1, vi c2, vr b5, vr b16, vr b28_b] [(.int p1), (.ref b28_b)] _
        refine XS.iload X28.here hx rfl (hb hby at_165) rfl ?_
        show SS p e below m T28 167 #[vi p1, vi p2, vi p3, vi p4, vi p5, vi p6, vi (0 : Int32), vi c1, vi c2, vr b5, vr b16, vr b28_b] [(.int p5), (.int p1), (.ref b28_b)] _
        refine XS.ixor X28.here hx rfl (hb hby at_167) rfl ?_
        show SS p e below m T28 168 #[vi p1, vi p2, vi p3, vi p4, vi p5, vi p6, vi (0 : Int32), vi c1, vi c2, vr b5, vr b16, vr b28_b] [(.int (p1 ^^^ p5)), (.ref b28_b)] _
        refine st29 _ ?_
        show SS p e below m T29 171 #[vi p1, vi p2, vi p3, vi p4, vi p5, vi p6, vi (0 : Int32), vi c1, vi c2, vr b5, vr b16, vr b28_b] [(.ref b_29), (.ref b28_b)] _
        refine st30.trans ?_
        show SS p e below m T30 174 #[vi p1, vi p2, vi p3, vi p4, vi p5, vi p6, vi (0 : Int32), vi c1, vi c2, vr b5, vr b16, vr b28_b] [] _
        refine XS.aload X30.here hx rfl (hb hby at_174) rfl rfl ?_
        show SS p e below m T30 176 #[vi p1, vi p2, vi p3, vi p4, vi p5, vi p6, vi (0 : Int32), vi c1, vi c2, vr b5, vr b16, vr b28_b] [(.ref b16)] _
        refine st31.trans ?_
        show SS p e below m T31 179 #[vi p1, vi p2, vi p3, vi p4, vi p5, vi p6, vi (0 : Int32), vi c1, vi c2, vr b5, vr b16, vr b28_b] [(.ref b31_b)] _
        refine XS.astore X31.here hx rfl (hb hby at_179) rfl rfl (l' := #[vi p1, vi p2, vi p3, vi p4, vi p5, vi p6, vi (0 : Int32), vi c1, vi c2, vr b5, vr b16, vr b31_b]) rfl ?_
        show SS p e below m T31 181 #[vi p1, vi p2, vi p3, vi p4, vi p5, vi p6, vi (0 : Int32), vi c1, vi c2, vr b5, vr b16, vr b31_b] [] _
        refine XS.iload X31.here hx rfl (hb hby at_181) rfl ?_
        exact kt
      by_cases hc183_33 : c2 = (0 : Int32)
      · obtain ⟨T34, h34, L34, X34, e34, N34, K34, st34⟩ := tail0 hw X31 hx hZ hby hml hown p1 p2 p3 p4 p5 p6 c1 c2 b5 b16 b31_b b17_c k_17 (4 : Int32) [(.ref b_29), .null, .null, .null] k5 T31.heap n0 rfl (Nat.le_trans Z0 KC.1) O0 N31 F_next_b_31 F_val_length_b_31 F_val_items_b_31 E_b_31 E_c_17 V_arr_30 Vm15 g_b31_b ne_b5_b31_b (by decide) (by decide) (by decide) (by decide)
        replace Vm15 := Vm15.keep K34 (ninS ne_b5_b31_b nin0)
        replace A16 := A16.keep K34
        replace F_store_a1_17 := F_store_a1_17.keep K34 (ninS ne_b16_b31_b nin0)
        replace F_size_a1_17 := F_size_a1_17.keep K34 (ninS ne_b16_b31_b nin0)
        replace E_b_17 := E_b_17.keep K34
        replace E_c_17 := E_c_17.keep K34
        replace E_b_28 := E_b_28.keep K34
        replace E_b_29 := E_b_29.keep K34
        replace F_value_b_29 := F_value_b_29.keep K34 (ninS ne_b_29_b31_b nin0)
        replace F_store_a1_30 := F_store_a1_30.keep K34 (ninS ne_b28_b_b31_b nin0)
        replace F_size_a1_30 := F_size_a1_30.keep K34 (ninS ne_b28_b_b31_b nin0)
        replace F_filled_sto_30 := F_filled_sto_30.keep K34 (ninS ne_b17_b_b31_b nin0)
        replace F_items_sto_30 := F_items_sto_30.keep K34 (ninS ne_b17_b_b31_b nin0)
        replace V_arr_30 := V_arr_30.keep K34 (ninS ne_b17_c_b31_b nin0)
        replace E_b_31 := E_b_31.keep K34
        replace O0 := O0.keep K34 (allS g_b31_b all0)
        replace KC := KC.trans K34 (allS (Or.inr sz_b31_b) all0)
        obtain ⟨fs, hr, hrun, hended, hW, hsame⟩ := X34.leave (v := some (.int (1 : Int32))) (fun h => by rw [Bd.returns] at h; cases h)
        refine ⟨_, _, pre32 _ ?_, hrun, hended, _, _, rfl, ?_, ⟨_, rfl⟩, hW, hsame.mono (by decide) (by decide)⟩
        · show SS p e below m T31 183 #[vi p1, vi p2, vi p3, vi p4, vi p5, vi p6, vi (0 : Int32), vi c1, vi c2, vr b5, vr b16, vr b31_b] [(.int c2)] _
          refine XS.ifYes X31.here hx rfl (pc0 := 183) (pc' := 197) rfl (hb hby at_183) rfl ((if0 _ _).trans (teq hc183_33).1) (by decide) (by decide) ?_
          show SS p e below m T31 197 #[vi p1, vi p2, vi p3, vi p4, vi p5, vi p6, vi (0 : Int32), vi c1, vi c2, vr b5, vr b16, vr b31_b] [] _
          refine st34 _ ?_
          show SS p e below m T34 282 #[vi p1, vi p2, vi p3, vi p4, vi p5, vi p6, vi (0 : Int32), vi c1, vi c2, vr b5, vr b16, vr b31_b] [(.int (0 : Int32))] _
          refine XS.ifNo X34.here hx rfl (hb hby at_282) rfl ((if0 _ _).trans (teq (by decide)).2) ?_
          show SS p e below m T34 285 #[vi p1, vi p2, vi p3, vi p4, vi p5, vi p6, vi (0 : Int32), vi c1, vi c2, vr b5, vr b16, vr b31_b] [] _
          refine XS.iconst X34.here hx rfl (hb hby at_285) ?_
          show SS p e below m T34 286 #[vi p1, vi p2, vi p3, vi p4, vi p5, vi p6, vi (0 : Int32), vi c1, vi c2, vr b5, vr b16, vr b31_b] [(.int (1 : Int32))] _
          refine XS.goto X34.here hx rfl (pc0 := 286) (pc' := 290) rfl (hb hby at_286) (by decide) (by decide) ?_
          show SS p e below m T34 290 #[vi p1, vi p2, vi p3, vi p4, vi p5, vi p6, vi (0 : Int32), vi c1, vi c2, vr b5, vr b16, vr b31_b] [(.int (1 : Int32))] _
          exact retN X34 hx (t := .boolean) Bd.returns (by simp) (hb hby at_290) hr
        · show Q_rm0 Z p1 p2 p3 p4 p5 p6 cA cl mr h0 n0 _ T34.heap _
          rw [e34]
          exact ⟨rfl, N34, KC⟩
      · obtain ⟨_, _, ⟨T35, L35, kz35, nz35⟩, -, X35, ⟨Lc35, hQ35, l35, y35, z35⟩, st35⟩ := Jvm.LawKit.callS X31 hx (y := y_5) hown (mvT hZ (ww hw 30 rfl)) (mvT hZ (ww hw 31 rfl)) (mvT hZ (ww hw 32 rfl)) (mvT hZ (ww hw 33 rfl)) (by decide) (backOf (W := 1) (rmVo l Z a0 hw [] (p2 ^^^ p4) cA cl T31.heap n0 (Nat.le_trans Z0 KC.1) O0 S_high S_cache BX) hZ (ww hw 33 rfl) (ww hw 32 rfl) (by decide) (by decide)) (g := (mkF m 191 #[vi p1, vi p2, vi p3, vi p4, vi p5, vi p6, vi (0 : Int32), vi c1, vi c2, vr b5, vr b16, vr b31_b] [(.int (p2 ^^^ p4)), (.ref b16)])) rfl (by rw [hml]; rfl) (argsL := [(.int (p2 ^^^ p4))]) (rest := [(.ref b16)]) (lenOf pd_14 rfl) rfl (by show 2 * 0 + _ ≤ _; exact Nat.le_of_eq rfl) (hb hby at_191) (fun _ _ => ⟨rfl, rfl, (by decide : 7 + 1 ≤ _), (by decide : 19 + 1 ≤ _)⟩)
        dsimp only [Pt.U, Pt.locs, Pt.cells, Pt.slots] at X35 l35 y35 z35 st35 hQ35
        subst l35 y35 z35
        obtain ⟨b_35, rfl, N35q, K35, E_b_35, F_value_b_35⟩ := hQ35
        have N35 := Fr.app N31 N35q
        replace Vm15 := Vm15.keep K35 nin0
        replace A16 := A16.keep K35
        replace F_store_a1_17 := F_store_a1_17.keep K35 nin0
        replace F_size_a1_17 := F_size_a1_17.keep K35 nin0
        replace E_b_17 := E_b_17.keep K35
        replace E_c_17 := E_c_17.keep K35
        replace E_b_28 := E_b_28.keep K35
        replace E_b_29 := E_b_29.keep K35
        replace F_value_b_29 := F_value_b_29.keep K35 nin0
        replace F_store_a1_30 := F_store_a1_30.keep K35 nin0
        replace F_size_a1_30 := F_size_a1_30.keep K35 nin0
        replace F_filled_sto_30 := F_filled_sto_30.keep K35 nin0
        replace F_items_sto_30 := F_items_sto_30.keep K35 nin0
        replace V_arr_30 := V_arr_30.keep K35 nin0
        replace E_b_31 := E_b_31.keep K35
        replace F_val_length_b_31 := F_val_length_b_31.keep K35 nin0
        replace F_val_items_b_31 := F_val_items_b_31.keep K35 nin0
        replace F_next_b_31 := F_next_b_31.keep K35 nin0
        replace O0 := O0.keep K35 all0
        replace KC := KC.trans K35 all0
        obtain ⟨cq36, kq36, q36a, q36b, q36c⟩ := isOf hZ rfl A16
        obtain ⟨_, _, ⟨T36, L36, kz36, nz36⟩, -, X36, ⟨Lc36, hQ36, l36, y36, z36⟩, st36⟩ := X35.virtualBack hx (y := y_12) (z := y_12) hown (mvT hZ (ww hw 37 rfl)) (mvT hZ (ww hw 38 rfl)) (notFace_of_selects (args := #[]) (mvT hZ (ww hw 40 rfl))) (mvT hZ (ww hw 40 rfl)) (mvT hZ (ww hw 39 rfl)) (by decide) (backOf (W := 0) (rmAddB l Z a0 hw [] b16 b_35 b17_b (0 : Int32) (1 : Int32) b17_c k_17 (4 : Int32) [(.ref b_29), .null, .null, .null] mr (4 : Int32) (4 : Int32) [(.ref b_29), .null, .null, .null, .null, .null, .null, .null, .null, .null] (1 : Int32) [(.ref b_35), .null, .null, .null, .null, .null, .null, .null, .null, .null] T35.heap n0 (Nat.le_trans Z0 KC.1) O0 F_store_a1_17 F_size_a1_17 A16 E_b_17 F_filled_sto_30 F_items_sto_30 E_c_17 V_arr_30 E_b_35 g_b16 MIR (Or.inl (by decide)) (by decide) (by decide) (by decide) (by decide) (by decide) (by decide) (by decide) rfl (own_els_cons (Or.inr ⟨_, rfl, E_b_29⟩) (own_els_cons (Or.inl rfl) (own_els_cons (Or.inl rfl) (own_els_cons (Or.inl rfl) own_els_nil)))) (by decide) (by decide) (by decide) rfl (Nat.le_of_ble_eq_true rfl)) hZ (ww hw 41 rfl) (ww hw 3 rfl) (by decide) (by decide)) q36a q36c (g := (mkF m 194 #[vi p1, vi p2, vi p3, vi p4, vi p5, vi p6, vi (0 : Int32), vi c1, vi c2, vr b5, vr b16, vr b31_b] [(.ref b_35), (.ref b16)])) rfl (by rw [hml]; rfl) (Steps.refl _) (argsL := [(.ref b_35)]) (rest := []) (lenOf pd_15 rfl) rfl (by show 2 * 0 + _ ≤ _; exact Nat.le_of_eq rfl) (hb hby at_194) (fun _ _ => ⟨rfl, rfl, (by decide : 8 + 2 ≤ _), (by decide : 20 + 12 ≤ _)⟩)
        dsimp only [Pt.U, Pt.locs, Pt.cells, Pt.slots] at X36 l36 y36 z36 st36 hQ36
        subst l36 y36 z36
        obtain ⟨b36_b, b36_c, k2_36, rfl, N36q, K36, sz_b36_b, sz_b36_c, F_store_a1_36, F_size_a1_36, E_b_36, F_filled_b_36, F_items_b_36, E_c_36, V_c_36, hq36_0⟩ := hQ36
        have N36 := Fr.app N35 N36q
        have ne_b5_b36_b : b5 ≠ b36_b := Nat.ne_of_lt (Nat.lt_of_lt_of_le Vm15.lt sz_b36_b)
        have ne_b16_b36_b : b16 ≠ b36_b := Nat.ne_of_lt (Nat.lt_of_lt_of_le A16.lt sz_b36_b)
        have ne_b17_b_b36_b : b17_b ≠ b36_b := Nat.ne_of_lt (Nat.lt_of_lt_of_le E_b_17.lt sz_b36_b)
        have ne_b17_c_b36_b : b17_c ≠ b36_b := Nat.ne_of_lt (Nat.lt_of_lt_of_le E_c_17.lt sz_b36_b)
        have ne_b28_b_b36_b : b28_b ≠ b36_b := Nat.ne_of_lt (Nat.lt_of_lt_of_le E_b_28.lt sz_b36_b)
        have ne_b_29_b36_b : b_29 ≠ b36_b := Nat.ne_of_lt (Nat.lt_of_lt_of_le E_b_29.lt sz_b36_b)
        have ne_b31_b_b36_b : b31_b ≠ b36_b := Nat.ne_of_lt (Nat.lt_of_lt_of_le E_b_31.lt sz_b36_b)
        have ne_b_35_b36_b : b_35 ≠ b36_b := Nat.ne_of_lt (Nat.lt_of_lt_of_le E_b_35.lt sz_b36_b)
        have g_b36_b : n0 ≤ b36_b := Nat.le_trans (Nat.le_trans Z0 KC.1) sz_b36_b
        replace sz_b36_b : h0.size ≤ b36_b := Nat.le_trans KC.1 sz_b36_b
        have ne_b5_b36_c : b5 ≠ b36_c := Nat.ne_of_lt (Nat.lt_of_lt_of_le Vm15.lt sz_b36_c)
        have ne_b16_b36_c : b16 ≠ b36_c := Nat.ne_of_lt (Nat.lt_of_lt_of_le A16.lt sz_b36_c)
        have ne_b17_b_b36_c : b17_b ≠ b36_c := Nat.ne_of_lt (Nat.lt_of_lt_of_le E_b_17.lt sz_b36_c)
        have ne_b17_c_b36_c : b17_c ≠ b36_c := Nat.ne_of_lt (Nat.lt_of_lt_of_le E_c_17.lt sz_b36_c)
        have ne_b28_b_b36_c : b28_b ≠ b36_c := Nat.ne_of_lt (Nat.lt_of_lt_of_le E_b_28.lt sz_b36_c)
        have ne_b_29_b36_c : b_29 ≠ b36_c := Nat.ne_of_lt (Nat.lt_of_lt_of_le E_b_29.lt sz_b36_c)
        have ne_b31_b_b36_c : b31_b ≠ b36_c := Nat.ne_of_lt (Nat.lt_of_lt_of_le E_b_31.lt sz_b36_c)
        have ne_b_35_b36_c : b_35 ≠ b36_c := Nat.ne_of_lt (Nat.lt_of_lt_of_le E_b_35.lt sz_b36_c)
        have g_b36_c : n0 ≤ b36_c := Nat.le_trans (Nat.le_trans Z0 KC.1) sz_b36_c
        replace sz_b36_c : h0.size ≤ b36_c := Nat.le_trans KC.1 sz_b36_c
        have nec_b_29_b16 : b_29 ≠ b16 := Exa.ne E_b_29 A16 (by decide)
        have nec_b_35_b16 : b_35 ≠ b16 := Exa.ne E_b_35 A16 (by decide)
        replace Vm15 := Vm15.keep K36 (ninS ne_b5_b16 nin0)
        replace A16 := A16.keep K36
        replace E_b_17 := E_b_17.keep K36
        replace E_c_17 := E_c_17.keep K36
        replace E_b_28 := E_b_28.keep K36
        replace E_b_29 := E_b_29.keep K36
        replace F_value_b_29 := F_value_b_29.keep K36 (ninS nec_b_29_b16 nin0)
        replace F_store_a1_30 := F_store_a1_30.keep K36 (ninS (Ne.symm ne_b16_b28_b) nin0)
        replace F_size_a1_30 := F_size_a1_30.keep K36 (ninS (Ne.symm ne_b16_b28_b) nin0)
        replace F_filled_sto_30 := F_filled_sto_30.keep K36 (ninS (Ne.symm ne_b16_b17_b) nin0)
        replace F_items_sto_30 := F_items_sto_30.keep K36 (ninS (Ne.symm ne_b16_b17_b) nin0)
        replace V_arr_30 := V_arr_30.keep K36 (ninS (Ne.symm ne_b16_b17_c) nin0)
        replace E_b_31 := E_b_31.keep K36
        replace F_val_length_b_31 := F_val_length_b_31.keep K36 (ninS (Ne.symm ne_b16_b31_b) nin0)
        replace F_val_items_b_31 := F_val_items_b_31.keep K36 (ninS (Ne.symm ne_b16_b31_b) nin0)
        replace F_next_b_31 := F_next_b_31.keep K36 (ninS (Ne.symm ne_b16_b31_b) nin0)
        replace E_b_35 := E_b_35.keep K36
        replace F_value_b_35 := F_value_b_35.keep K36 (ninS nec_b_35_b16 nin0)
        replace O0 := O0.keep K36 (allS g_b16 all0)
        replace KC := KC.trans K36 (allS (Or.inr sz_b16) all0)
        obtain ⟨T37, h37, L37, X37, e37, N37, K37, st37⟩ := tail0 hw X36 hx hZ hby hml hown p1 p2 p3 p4 p5 p6 c1 c2 b5 b16 b31_b b17_c k_17 (4 : Int32) [(.ref b_29), .null, .null, .null] k5 T36.heap n0 rfl (Nat.le_trans Z0 KC.1) O0 N36 F_next_b_31 F_val_length_b_31 F_val_items_b_31 E_b_31 E_c_17 V_arr_30 Vm15 g_b31_b ne_b5_b31_b (by decide) (by decide) (by decide) (by decide)
        have nec_b_35_b31_b : b_35 ≠ b31_b := Exa.ne E_b_35 E_b_31 (by decide)
        replace Vm15 := Vm15.keep K37 (ninS ne_b5_b31_b nin0)
        replace A16 := A16.keep K37
        replace E_b_17 := E_b_17.keep K37
        replace E_c_17 := E_c_17.keep K37
        replace E_b_28 := E_b_28.keep K37
        replace E_b_29 := E_b_29.keep K37
        replace F_value_b_29 := F_value_b_29.keep K37 (ninS ne_b_29_b31_b nin0)
        replace F_store_a1_30 := F_store_a1_30.keep K37 (ninS ne_b28_b_b31_b nin0)
        replace F_size_a1_30 := F_size_a1_30.keep K37 (ninS ne_b28_b_b31_b nin0)
        replace F_filled_sto_30 := F_filled_sto_30.keep K37 (ninS ne_b17_b_b31_b nin0)
        replace F_items_sto_30 := F_items_sto_30.keep K37 (ninS ne_b17_b_b31_b nin0)
        replace V_arr_30 := V_arr_30.keep K37 (ninS ne_b17_c_b31_b nin0)
        replace E_b_31 := E_b_31.keep K37
        replace E_b_35 := E_b_35.keep K37
        replace F_value_b_35 := F_value_b_35.keep K37 (ninS nec_b_35_b31_b nin0)
        replace F_store_a1_36 := F_store_a1_36.keep K37 (ninS ne_b16_b31_b nin0)
        replace F_size_a1_36 := F_size_a1_36.keep K37 (ninS ne_b16_b31_b nin0)
        replace E_b_36 := E_b_36.keep K37
        replace F_filled_b_36 := F_filled_b_36.keep K37 (ninS (Ne.symm ne_b31_b_b36_b) nin0)
        replace F_items_b_36 := F_items_b_36.keep K37 (ninS (Ne.symm ne_b31_b_b36_b) nin0)
        replace E_c_36 := E_c_36.keep K37
        replace V_c_36 := V_c_36.keep K37 (ninS (Ne.symm ne_b31_b_b36_c) nin0)
        replace O0 := O0.keep K37 (allS g_b31_b all0)
        replace KC := KC.trans K37 (allS (Or.inr sz_b31_b) all0)
        obtain ⟨fs, hr, hrun, hended, hW, hsame⟩ := X37.leave (v := some (.int (1 : Int32))) (fun h => by rw [Bd.returns] at h; cases h)
        refine ⟨_, _, pre32 _ ?_, hrun, hended, _, _, rfl, ?_, ⟨_, rfl⟩, hW, hsame.mono (by decide) (by decide)⟩
        · show SS p e below m T31 183 #[vi p1, vi p2, vi p3, vi p4, vi p5, vi p6, vi (0 : Int32), vi c1, vi c2, vr b5, vr b16, vr b31_b] [(.int c2)] _
          refine XS.ifNo X31.here hx rfl (hb hby at_183) rfl ((if0 _ _).trans (feq hc183_33).1) ?_
          show SS p e below m T31 186 #[vi p1, vi p2, vi p3, vi p4, vi p5, vi p6, vi (0 : Int32), vi c1, vi c2, vr b5, vr b16, vr b31_b] [] _
          refine XS.aload X31.here hx rfl (hb hby at_186) rfl rfl ?_
          show SS p e below m T31 188 #[vi p1, vi p2, vi p3, vi p4, vi p5, vi p6, vi (0 : Int32), vi c1, vi c2, vr b5, vr b16, vr b31_b] [(.ref b16)] _
          refine XS.iloadN X31.here hx rfl (hb hby at_188) rfl ?_
          show SS p e below m T31 189 #[vi p1, vi p2, vi p3, vi p4, vi p5, vi p6, vi (0 : Int32), vi c1, vi c2, vr b5, vr b16, vr b31_b] [(.int p2), (.ref b16)] _
          refine XS.iloadN X31.here hx rfl (hb hby at_189) rfl ?_
          show SS p e below m T31 190 #[vi p1, vi p2, vi p3, vi p4, vi p5, vi p6, vi (0 : Int32), vi c1, vi c2, vr b5, vr b16, vr b31_b] [(.int p4), (.int p2), (.ref b16)] _
          refine XS.ixor X31.here hx rfl (hb hby at_190) rfl ?_
          show SS p e below m T31 191 #[vi p1, vi p2, vi p3, vi p4, vi p5, vi p6, vi (0 : Int32), vi c1, vi c2, vr b5, vr b16, vr b31_b] [(.int (p2 ^^^ p4)), (.ref b16)] _
          refine st35 _ ?_
          show SS p e below m T35 194 #[vi p1, vi p2, vi p3, vi p4, vi p5, vi p6, vi (0 : Int32), vi c1, vi c2, vr b5, vr b16, vr b31_b] [(.ref b_35), (.ref b16)] _
          refine st36.trans ?_
          show SS p e below m T36 197 #[vi p1, vi p2, vi p3, vi p4, vi p5, vi p6, vi (0 : Int32), vi c1, vi c2, vr b5, vr b16, vr b31_b] [] _
          refine st37 _ ?_
          show SS p e below m T37 282 #[vi p1, vi p2, vi p3, vi p4, vi p5, vi p6, vi (0 : Int32), vi c1, vi c2, vr b5, vr b16, vr b31_b] [(.int (0 : Int32))] _
          refine XS.ifNo X37.here hx rfl (hb hby at_282) rfl ((if0 _ _).trans (teq (by decide)).2) ?_
          show SS p e below m T37 285 #[vi p1, vi p2, vi p3, vi p4, vi p5, vi p6, vi (0 : Int32), vi c1, vi c2, vr b5, vr b16, vr b31_b] [] _
          refine XS.iconst X37.here hx rfl (hb hby at_285) ?_
          show SS p e below m T37 286 #[vi p1, vi p2, vi p3, vi p4, vi p5, vi p6, vi (0 : Int32), vi c1, vi c2, vr b5, vr b16, vr b31_b] [(.int (1 : Int32))] _
          refine XS.goto X37.here hx rfl (pc0 := 286) (pc' := 290) rfl (hb hby at_286) (by decide) (by decide) ?_
          show SS p e below m T37 290 #[vi p1, vi p2, vi p3, vi p4, vi p5, vi p6, vi (0 : Int32), vi c1, vi c2, vr b5, vr b16, vr b31_b] [(.int (1 : Int32))] _
          exact retN X37 hx (t := .boolean) Bd.returns (by simp) (hb hby at_290) hr
        · show Q_rm0 Z p1 p2 p3 p4 p5 p6 cA cl mr h0 n0 _ T37.heap _
          rw [e37]
          exact ⟨rfl, N37, KC⟩
  · rw [hk] at pre18
    obtain ⟨_, _, ⟨T38, L38, kz38, nz38⟩, -, X38, ⟨Lc38, hQ38, l38, y38, z38⟩, st38⟩ := Jvm.LawKit.callS X17 hx (y := y_5) hown (mvT hZ (ww hw 30 rfl)) (mvT hZ (ww hw 31 rfl)) (mvT hZ (ww hw 32 rfl)) (mvT hZ (ww hw 33 rfl)) (by decide) (backOf (W := 1) (rmVo l Z a0 hw [] p1 cA cl T17.heap n0 (Nat.le_trans Z0 KC.1) O0 S_high S_cache BX) hZ (ww hw 33 rfl) (ww hw 32 rfl) (by decide) (by decide)) (g := (mkF m 83 #[vi p1, vi p2, vi p3, vi p4, vi p5, vi p6, vi (1 : Int32), vi c1, vi c2, vr b5, vr b16, un] [(.int p1), (.ref b16)])) rfl (by rw [hml]; rfl) (argsL := [(.int p1)]) (rest := [(.ref b16)]) (lenOf pd_14 rfl) rfl (by show 2 * 0 + _ ≤ _; exact Nat.le_of_eq rfl) (hb hby at_83) (fun _ _ => ⟨rfl, rfl, (by decide : 4 + 1 ≤ _), (by decide : 13 + 1 ≤ _)⟩)
    dsimp only [Pt.U, Pt.locs, Pt.cells, Pt.slots] at X38 l38 y38 z38 st38 hQ38
    subst l38 y38 z38
    obtain ⟨b_38, rfl, N38q, K38, E_b_38, F_value_b_38⟩ := hQ38
    have N38 := Fr.app N17 N38q
    replace Vm15 := Vm15.keep K38 nin0
    replace A16 := A16.keep K38
    replace F_store_a1_17 := F_store_a1_17.keep K38 nin0
    replace F_size_a1_17 := F_size_a1_17.keep K38 nin0
    replace E_b_17 := E_b_17.keep K38
    replace F_items_b_17 := F_items_b_17.keep K38 nin0
    replace F_filled_b_17 := F_filled_b_17.keep K38 nin0
    replace E_c_17 := E_c_17.keep K38
    replace V_c_17 := V_c_17.keep K38 nin0
    replace O0 := O0.keep K38 all0
    replace KC := KC.trans K38 all0
    obtain ⟨cq39, kq39, q39a, q39b, q39c⟩ := isOf hZ rfl A16
    obtain ⟨_, _, ⟨T39, L39, kz39, nz39⟩, -, X39, ⟨Lc39, hQ39, l39, y39, z39⟩, st39⟩ := X38.virtualBack hx (y := y_12) (z := y_12) hown (mvT hZ (ww hw 37 rfl)) (mvT hZ (ww hw 38 rfl)) (notFace_of_selects (args := #[]) (mvT hZ (ww hw 40 rfl))) (mvT hZ (ww hw 40 rfl)) (mvT hZ (ww hw 39 rfl)) (by decide) (backOf (W := 0) (rmAddA l Z a0 hw [] b16 b_38 b17_b (0 : Int32) (0 : Int32) b17_c k_17 (4 : Int32) [.null, .null, .null, .null] (1 : Int32) [(.ref b_38), .null, .null, .null] T38.heap n0 (Nat.le_trans Z0 KC.1) O0 F_store_a1_17 F_size_a1_17 A16 E_b_17 F_filled_b_17 F_items_b_17 E_c_17 V_c_17 E_b_38 g_b16 g_b17_b g_b17_c hq17_0 (by decide) (by decide) (by decide) (by decide) (by decide) rfl (Nat.le_of_ble_eq_true rfl)) hZ (ww hw 41 rfl) (ww hw 3 rfl) (by decide) (by decide)) q39a q39c (g := (mkF m 86 #[vi p1, vi p2, vi p3, vi p4, vi p5, vi p6, vi (1 : Int32), vi c1, vi c2, vr b5, vr b16, un] [(.ref b_38), (.ref b16)])) rfl (by rw [hml]; rfl) (Steps.refl _) (argsL := [(.ref b_38)]) (rest := []) (lenOf pd_15 rfl) rfl (by show 2 * 0 + _ ≤ _; exact Nat.le_of_eq rfl) (hb hby at_86) (fun _ _ => ⟨rfl, rfl, (by decide : 5 + 0 ≤ _), (by decide : 14 + 0 ≤ _)⟩)
    dsimp only [Pt.U, Pt.locs, Pt.cells, Pt.slots] at X39 l39 y39 z39 st39 hQ39
    subst l39 y39 z39
    obtain ⟨rfl, N39q, K39, F_store_a1_39, F_size_a1_39, F_filled_sto_39, F_items_sto_39, V_arr_39⟩ := hQ39
    have N39 := Fr.app N38 N39q
    have nec_b_38_b17_c : b_38 ≠ b17_c := Exa.ne E_b_38 E_c_17 (by decide)
    have nec_b_38_b17_b : b_38 ≠ b17_b := Exa.ne E_b_38 E_b_17 (by decide)
    have nec_b_38_b16 : b_38 ≠ b16 := Exa.ne E_b_38 A16 (by decide)
    replace Vm15 := Vm15.keep K39 (ninS ne_b5_b16 (ninS ne_b5_b17_b (ninS ne_b5_b17_c nin0)))
    replace A16 := A16.keep K39
    replace E_b_17 := E_b_17.keep K39
    replace E_c_17 := E_c_17.keep K39
    replace E_b_38 := E_b_38.keep K39
    replace F_value_b_38 := F_value_b_38.keep K39 (ninS nec_b_38_b16 (ninS nec_b_38_b17_b (ninS nec_b_38_b17_c nin0)))
    replace O0 := O0.keep K39 (allS g_b16 (allS g_b17_b (allS g_b17_c all0)))
    replace KC := KC.trans K39 (allS (Or.inr sz_b16) (allS (Or.inr sz_b17_b) (allS (Or.inr sz_b17_c) all0)))
    have pre40 : ∀ t, Steps p.tables e below (T39.setTop (mkF m 152 #[vi p1, vi p2, vi p3, vi p4, vi p5, vi p6, vi (1 : Int32), vi c1, vi c2, vr b5, vr b16, un] [(.int c1)])) t → Steps p.tables e below (s₁.setTop (entryFrame m #[(.int p1), (.int p2), (.int p3), (.int p4), (.int p5), (.int p6)] maxLocals)) t := by
      intro t kt
      refine pre18 t ?_
      show SS p e below m T17 75 #[vi p1, vi p2, vi p3, vi p4, vi p5, vi p6, vi (1 : Int32), vi c1, vi c2, vr b5, vr b16, un] [] _
      refine XS.iload X17.here hx rfl (hb hby at_75) rfl ?_
      show SS p e below m T17 77 #[vi p1, vi p2, vi p3, vi p4, vi p5, vi p6, vi (1 : Int32), vi c1, vi c2, vr b5, vr b16, un] [(.int (1 : Int32))] _
      refine XS.ifNo X17.here hx rfl (hb hby at_77) rfl ((if0 _ _).trans (tlt (by decide)).2.2.2) ?_
      show SS p e below m T17 80 #[vi p1, vi p2, vi p3, vi p4, vi p5, vi p6, vi (1 : Int32), vi c1, vi c2, vr b5, vr b16, un] [] _
      refine XS.aload X17.here hx rfl (hb hby at_80) rfl rfl ?_
      show SS p e below m T17 82 #[vi p1, vi p2, vi p3, vi p4, vi p5, vi p6, vi (1 : Int32), vi c1, vi c2, vr b5, vr b16, un] [(.ref b16)] _
      refine XS.iloadN X17.here hx rfl (hb hby at_82) rfl ?_
      show SS p e below m T17 83 #[vi p1, vi p2, vi p3, vi p4, vi p5, vi p6, vi (1 : Int32), vi c1, vi c2, vr b5, vr b16, un] [(.int p1), (.ref b16)] _
      refine st38 _ ?_
      show SS p e below m T38 86 #[vi p1, vi p2, vi p3, vi p4, vi p5, vi p6, vi (1 : Int32), vi c1, vi c2, vr b5, vr b16, un] [(.ref b_38), (.ref b16)] _
      refine st39.trans ?_
      show SS p e below m T39 89 #[vi p1, vi p2, vi p3, vi p4, vi p5, vi p6, vi (1 : Int32), vi c1, vi c2, vr b5, vr b16, un] [] _
      refine XS.iload X39.here hx rfl (hb hby at_89) rfl ?_
      show SS p e below m T39 91 #[vi p1, vi p2, vi p3, vi p4, vi p5, vi p6, vi (1 : Int32), vi c1, vi c2, vr b5, vr b16, un] [(.int (1 : Int32))] _
      refine XS.iconst X39.here hx rfl (hb hby at_91) ?_
      show SS p e below m T39 92 #[vi p1, vi p2, vi p3, vi p4, vi p5, vi p6, vi (1 : Int32), vi c1, vi c2, vr b5, vr b16, un] [(.int (1 : Int32)), (.int (1 : Int32))] _
      refine XS.icmpYes X39.here hx rfl (pc0 := 92) (pc' := 104) rfl (hb hby at_92) rfl (flt (by decide)).2.2.2 (by decide) (by decide) ?_
      show SS p e below m T39 104 #[vi p1, vi p2, vi p3, vi p4, vi p5, vi p6, vi (1 : Int32), vi c1, vi c2, vr b5, vr b16, un] [] _
      refine XS.iload X39.here hx rfl (hb hby at_104) rfl ?_
      show SS p e below m T39 106 #[vi p1, vi p2, vi p3, vi p4, vi p5, vi p6, vi (1 : Int32), vi c1, vi c2, vr b5, vr b16, un] [(.int (1 : Int32))] _
      refine XS.iconst X39.here hx rfl (hb hby at_106) ?_
      show SS p e below m T39 107 #[vi p1, vi p2, vi p3, vi p4, vi p5, vi p6, vi (1 : Int32), vi c1, vi c2, vr b5, vr b16, un] [(.int (2 : Int32)), (.int (1 : Int32))] _
      refine XS.icmpYes X39.here hx rfl (pc0 := 107) (pc' := 119) rfl (hb hby at_107) rfl (flt (by decide)).2.2.2 (by decide) (by decide) ?_
      show SS p e below m T39 119 #[vi p1, vi p2, vi p3, vi p4, vi p5, vi p6, vi (1 : Int32), vi c1, vi c2, vr b5, vr b16, un] [] _
      refine XS.iload X39.here hx rfl (hb hby at_119) rfl ?_
      show SS p e below m T39 121 #[vi p1, vi p2, vi p3, vi p4, vi p5, vi p6, vi (1 : Int32), vi c1, vi c2, vr b5, vr b16, un] [(.int (1 : Int32))] _
      refine XS.iconst X39.here hx rfl (hb hby at_121) ?_
      show SS p e below m T39 122 #[vi p1, vi p2, vi p3, vi p4, vi p5, vi p6, vi (1 : Int32), vi c1, vi c2, vr b5, vr b16, un] [(.int (3 : Int32)), (.int (1 : Int32))] _
      refine XS.icmpYes X39.here hx rfl (pc0 := 122) (pc' := 134) rfl (hb hby at_122) rfl (flt (by decide)).2.2.2 (by decide) (by decide) ?_
      show SS p e below m T39 134 #[vi p1, vi p2, vi p3, vi p4, vi p5, vi p6, vi (1 : Int32), vi c1, vi c2, vr b5, vr b16, un] [] _
      refine XS.iload X39.here hx rfl (hb hby at_134) rfl ?_
      show SS p e below m T39 136 #[vi p1, vi p2, vi p3, vi p4, vi p5, vi p6, vi (1 : Int32), vi c1, vi c2, vr b5, vr b16, un] [(.int (1 : Int32))] _
      refine XS.iconst X39.here hx rfl (hb hby at_136) ?_
      show SS p e below m T39 137 #[vi p1, vi p2, vi p3, vi p4, vi p5, vi p6, vi (1 : Int32), vi c1, vi c2, vr b5, vr b16, un] [(.int (4 : Int32)), (.int (1 : Int32))] _
      refine XS.icmpYes X39.here hx rfl (pc0 := 137) (pc' := 150) rfl (hb hby at_137) rfl (flt (by decide)).2.2.2 (by decide) (by decide) ?_
      show SS p e below m T39 150 #[vi p1, vi p2, vi p3, vi p4, vi p5, vi p6, vi (1 : Int32), vi c1, vi c2, vr b5, vr b16, un] [] _
      refine XS.iload X39.here hx rfl (hb hby at_150) rfl ?_
      exact kt
    by_cases hc152_41 : c1 = (0 : Int32)
    · obtain ⟨cq42, kq42, q42a, q42b, q42c⟩ := isOf hZ rfl A16
      obtain ⟨_, _, ⟨T42, L42, kz42, nz42⟩, -, X42, ⟨Lc42, hQ42, l42, y42, z42⟩, st42⟩ := X39.virtualBack hx (y := y_15) (z := y_15) hown (mvT hZ (ww hw 49 rfl)) (mvT hZ (ww hw 50 rfl)) (notFace_of_selects (args := #[]) (mvT hZ (ww hw 52 rfl))) (mvT hZ (ww hw 52 rfl)) (mvT hZ (ww hw 51 rfl)) (by decide) (backOf (W := 0) (rmIt l Z a0 hw [] b16 b17_b (1 : Int32) b17_c T39.heap n0 (Nat.le_trans Z0 KC.1) O0 F_store_a1_39 F_size_a1_39 F_items_sto_39) hZ (ww hw 53 rfl) (ww hw 3 rfl) (by decide) (by decide)) q42a q42c (g := (mkF m 176 #[vi p1, vi p2, vi p3, vi p4, vi p5, vi p6, vi (1 : Int32), vi c1, vi c2, vr b5, vr b16, un] [(.ref b16)])) rfl (by rw [hml]; rfl) (Steps.refl _) (argsL := []) (rest := []) (lenOf pd_13 rfl) rfl (by show 2 * 0 + _ ≤ _; exact Nat.le_of_eq rfl) (hb hby at_176) (fun _ _ => ⟨rfl, rfl, (by decide : 5 + 1 ≤ _), (by decide : 14 + 3 ≤ _)⟩)
      dsimp only [Pt.U, Pt.locs, Pt.cells, Pt.slots] at X42 l42 y42 z42 st42 hQ42
      subst l42 y42 z42
      obtain ⟨b42_b, rfl, N42q, K42, sz_b42_b, E_b_42, F_val_length_b_42, F_val_items_b_42, F_next_b_42⟩ := hQ42
      have N42 := Fr.app N39 N42q
      have ne_b5_b42_b : b5 ≠ b42_b := Nat.ne_of_lt (Nat.lt_of_lt_of_le Vm15.lt sz_b42_b)
      have ne_b16_b42_b : b16 ≠ b42_b := Nat.ne_of_lt (Nat.lt_of_lt_of_le A16.lt sz_b42_b)
      have ne_b17_b_b42_b : b17_b ≠ b42_b := Nat.ne_of_lt (Nat.lt_of_lt_of_le E_b_17.lt sz_b42_b)
      have ne_b17_c_b42_b : b17_c ≠ b42_b := Nat.ne_of_lt (Nat.lt_of_lt_of_le E_c_17.lt sz_b42_b)
      have ne_b_38_b42_b : b_38 ≠ b42_b := Nat.ne_of_lt (Nat.lt_of_lt_of_le E_b_38.lt sz_b42_b)
      have g_b42_b : n0 ≤ b42_b := Nat.le_trans (Nat.le_trans Z0 KC.1) sz_b42_b
      replace sz_b42_b : h0.size ≤ b42_b := Nat.le_trans KC.1 sz_b42_b
      replace Vm15 := Vm15.keep K42 nin0
      replace A16 := A16.keep K42
      replace E_b_17 := E_b_17.keep K42
      replace E_c_17 := E_c_17.keep K42
      replace E_b_38 := E_b_38.keep K42
      replace F_value_b_38 := F_value_b_38.keep K42 nin0
      replace F_store_a1_39 := F_store_a1_39.keep K42 nin0
      replace F_size_a1_39 := F_size_a1_39.keep K42 nin0
      replace F_filled_sto_39 := F_filled_sto_39.keep K42 nin0
      replace F_items_sto_39 := F_items_sto_39.keep K42 nin0
      replace V_arr_39 := V_arr_39.keep K42 nin0
      replace O0 := O0.keep K42 all0
      replace KC := KC.trans K42 all0
      have pre43 : ∀ t, Steps p.tables e below (T42.setTop (mkF m 183 #[vi p1, vi p2, vi p3, vi p4, vi p5, vi p6, vi (1 : Int32), vi c1, vi c2, vr b5, vr b16, vr b42_b] [(.int c2)])) t → Steps p.tables e below (s₁.setTop (entryFrame m #[(.int p1), (.int p2), (.int p3), (.int p4), (.int p5), (.int p6)] maxLocals)) t := by
        intro t kt
        refine pre40 t ?_
        show SS p e below m T39 152 #[vi p1, vi p2, vi p3, vi p4, vi p5, vi p6, vi (1 : Int32), vi c1, vi c2, vr b5, vr b16, un] [(.int c1)] _
        refine XS.ifYes X39.here hx rfl (pc0 := 152) (pc' := 174) rfl (hb hby at_152) rfl ((if0 _ _).trans (teq hc152_41).1) (by decide) (by decide) ?_
        show SS p e below m T39 174 #[vi p1, vi p2, vi p3, vi p4, vi p5, vi p6, vi (1 : Int32), vi c1, vi c2, vr b5, vr b16, un] [] _
        refine XS.aload X39.here hx rfl (hb hby at_174) rfl rfl ?_
        show SS p e below m T39 176 #[vi p1, vi p2, vi p3, vi p4, vi p5, vi p6, vi (1 : Int32), vi c1, vi c2, vr b5, vr b16, un] [(.ref b16)] _
        refine st42.trans ?_
        show SS p e below m T42 179 #[vi p1, vi p2, vi p3, vi p4, vi p5, vi p6, vi (1 : Int32), vi c1, vi c2, vr b5, vr b16, un] [(.ref b42_b)] _
        refine XS.astore X42.here hx rfl (hb hby at_179) rfl rfl (l' := #[vi p1, vi p2, vi p3, vi p4, vi p5, vi p6, vi (1 : Int32), vi c1, vi c2, vr b5, vr b16, vr b42_b]) rfl ?_
        show SS p e below m T42 181 #[vi p1, vi p2, vi p3, vi p4, vi p5, vi p6, vi (1 : Int32), vi c1, vi c2, vr b5, vr b16, vr b42_b] [] _
        refine XS.iload X42.here hx rfl (hb hby at_181) rfl ?_
        exact kt
      by_cases hc183_44 : c2 = (0 : Int32)
      · obtain ⟨T45, h45, L45, X45, e45, N45, K45, st45⟩ := tail1 hw X42 hx hZ hby hml hown p1 p2 p3 p4 p5 p6 c1 c2 b5 b16 b42_b b17_c k_17 (4 : Int32) [(.ref b_38), .null, .null, .null] k5 b_38 T42.heap n0 rfl (Nat.le_trans Z0 KC.1) O0 N42 F_next_b_42 F_val_length_b_42 F_val_items_b_42 E_b_42 E_c_17 V_arr_39 Vm15 g_b42_b ne_b5_b42_b E_b_38 F_value_b_38 rfl (by decide) (by decide) (by decide) (by decide) (by decide)
        replace Vm15 := Vm15.keep K45 (ninS ne_b5_b42_b nin0)
        replace A16 := A16.keep K45
        replace E_b_17 := E_b_17.keep K45
        replace E_c_17 := E_c_17.keep K45
        replace E_b_38 := E_b_38.keep K45
        replace F_value_b_38 := F_value_b_38.keep K45 (ninS ne_b_38_b42_b nin0)
        replace F_store_a1_39 := F_store_a1_39.keep K45 (ninS ne_b16_b42_b nin0)
        replace F_size_a1_39 := F_size_a1_39.keep K45 (ninS ne_b16_b42_b nin0)
        replace F_filled_sto_39 := F_filled_sto_39.keep K45 (ninS ne_b17_b_b42_b nin0)
        replace F_items_sto_39 := F_items_sto_39.keep K45 (ninS ne_b17_b_b42_b nin0)
        replace V_arr_39 := V_arr_39.keep K45 (ninS ne_b17_c_b42_b nin0)
        replace E_b_42 := E_b_42.keep K45
        replace O0 := O0.keep K45 (allS g_b42_b all0)
        replace KC := KC.trans K45 (allS (Or.inr sz_b42_b) all0)
        obtain ⟨fs, hr, hrun, hended, hW, hsame⟩ := X45.leave (v := some (.int (1 : Int32))) (fun h => by rw [Bd.returns] at h; cases h)
        refine ⟨_, _, pre43 _ ?_, hrun, hended, _, _, rfl, ?_, ⟨_, rfl⟩, hW, hsame.mono (by decide) (by decide)⟩
        · show SS p e below m T42 183 #[vi p1, vi p2, vi p3, vi p4, vi p5, vi p6, vi (1 : Int32), vi c1, vi c2, vr b5, vr b16, vr b42_b] [(.int c2)] _
          refine XS.ifYes X42.here hx rfl (pc0 := 183) (pc' := 197) rfl (hb hby at_183) rfl ((if0 _ _).trans (teq hc183_44).1) (by decide) (by decide) ?_
          show SS p e below m T42 197 #[vi p1, vi p2, vi p3, vi p4, vi p5, vi p6, vi (1 : Int32), vi c1, vi c2, vr b5, vr b16, vr b42_b] [] _
          refine st45 _ ?_
          show SS p e below m T45 282 #[vi p1, vi p2, vi p3, vi p4, vi p5, vi p6, vi (1 : Int32), vi c1, vi c2, vr b5, vr b16, vr b42_b] [(.int (0 : Int32))] _
          refine XS.ifNo X45.here hx rfl (hb hby at_282) rfl ((if0 _ _).trans (teq (by decide)).2) ?_
          show SS p e below m T45 285 #[vi p1, vi p2, vi p3, vi p4, vi p5, vi p6, vi (1 : Int32), vi c1, vi c2, vr b5, vr b16, vr b42_b] [] _
          refine XS.iconst X45.here hx rfl (hb hby at_285) ?_
          show SS p e below m T45 286 #[vi p1, vi p2, vi p3, vi p4, vi p5, vi p6, vi (1 : Int32), vi c1, vi c2, vr b5, vr b16, vr b42_b] [(.int (1 : Int32))] _
          refine XS.goto X45.here hx rfl (pc0 := 286) (pc' := 290) rfl (hb hby at_286) (by decide) (by decide) ?_
          show SS p e below m T45 290 #[vi p1, vi p2, vi p3, vi p4, vi p5, vi p6, vi (1 : Int32), vi c1, vi c2, vr b5, vr b16, vr b42_b] [(.int (1 : Int32))] _
          exact retN X45 hx (t := .boolean) Bd.returns (by simp) (hb hby at_290) hr
        · show Q_rm0 Z p1 p2 p3 p4 p5 p6 cA cl mr h0 n0 _ T45.heap _
          rw [e45]
          exact ⟨rfl, N45, KC⟩
      · obtain ⟨_, _, ⟨T46, L46, kz46, nz46⟩, -, X46, ⟨Lc46, hQ46, l46, y46, z46⟩, st46⟩ := Jvm.LawKit.callS X42 hx (y := y_5) hown (mvT hZ (ww hw 30 rfl)) (mvT hZ (ww hw 31 rfl)) (mvT hZ (ww hw 32 rfl)) (mvT hZ (ww hw 33 rfl)) (by decide) (backOf (W := 1) (rmVo l Z a0 hw [] (p2 ^^^ p4) cA cl T42.heap n0 (Nat.le_trans Z0 KC.1) O0 S_high S_cache BX) hZ (ww hw 33 rfl) (ww hw 32 rfl) (by decide) (by decide)) (g := (mkF m 191 #[vi p1, vi p2, vi p3, vi p4, vi p5, vi p6, vi (1 : Int32), vi c1, vi c2, vr b5, vr b16, vr b42_b] [(.int (p2 ^^^ p4)), (.ref b16)])) rfl (by rw [hml]; rfl) (argsL := [(.int (p2 ^^^ p4))]) (rest := [(.ref b16)]) (lenOf pd_14 rfl) rfl (by show 2 * 0 + _ ≤ _; exact Nat.le_of_eq rfl) (hb hby at_191) (fun _ _ => ⟨rfl, rfl, (by decide : 6 + 1 ≤ _), (by decide : 17 + 1 ≤ _)⟩)
        dsimp only [Pt.U, Pt.locs, Pt.cells, Pt.slots] at X46 l46 y46 z46 st46 hQ46
        subst l46 y46 z46
        obtain ⟨b_46, rfl, N46q, K46, E_b_46, F_value_b_46⟩ := hQ46
        have N46 := Fr.app N42 N46q
        replace Vm15 := Vm15.keep K46 nin0
        replace A16 := A16.keep K46
        replace E_b_17 := E_b_17.keep K46
        replace E_c_17 := E_c_17.keep K46
        replace E_b_38 := E_b_38.keep K46
        replace F_value_b_38 := F_value_b_38.keep K46 nin0
        replace F_store_a1_39 := F_store_a1_39.keep K46 nin0
        replace F_size_a1_39 := F_size_a1_39.keep K46 nin0
        replace F_filled_sto_39 := F_filled_sto_39.keep K46 nin0
        replace F_items_sto_39 := F_items_sto_39.keep K46 nin0
        replace V_arr_39 := V_arr_39.keep K46 nin0
        replace E_b_42 := E_b_42.keep K46
        replace F_val_length_b_42 := F_val_length_b_42.keep K46 nin0
        replace F_val_items_b_42 := F_val_items_b_42.keep K46 nin0
        replace F_next_b_42 := F_next_b_42.keep K46 nin0
        replace O0 := O0.keep K46 all0
        replace KC := KC.trans K46 all0
        obtain ⟨cq47, kq47, q47a, q47b, q47c⟩ := isOf hZ rfl A16
        obtain ⟨_, _, ⟨T47, L47, kz47, nz47⟩, -, X47, ⟨Lc47, hQ47, l47, y47, z47⟩, st47⟩ := X46.virtualBack hx (y := y_12) (z := y_12) hown (mvT hZ (ww hw 37 rfl)) (mvT hZ (ww hw 38 rfl)) (notFace_of_selects (args := #[]) (mvT hZ (ww hw 40 rfl))) (mvT hZ (ww hw 40 rfl)) (mvT hZ (ww hw 39 rfl)) (by decide) (backOf (W := 0) (rmAddA l Z a0 hw [] b16 b_46 b17_b (1 : Int32) (1 : Int32) b17_c k_17 (4 : Int32) [(.ref b_38), .null, .null, .null] (2 : Int32) [(.ref b_38), (.ref b_46), .null, .null] T46.heap n0 (Nat.le_trans Z0 KC.1) O0 F_store_a1_39 F_size_a1_39 A16 E_b_17 F_filled_sto_39 F_items_sto_39 E_c_17 V_arr_39 E_b_46 g_b16 g_b17_b g_b17_c hq17_0 (by decide) (by decide) (by decide) (by decide) (by decide) rfl (Nat.le_of_ble_eq_true rfl)) hZ (ww hw 41 rfl) (ww hw 3 rfl) (by decide) (by decide)) q47a q47c (g := (mkF m 194 #[vi p1, vi p2, vi p3, vi p4, vi p5, vi p6, vi (1 : Int32), vi c1, vi c2, vr b5, vr b16, vr b42_b] [(.ref b_46), (.ref b16)])) rfl (by rw [hml]; rfl) (Steps.refl _) (argsL := [(.ref b_46)]) (rest := []) (lenOf pd_15 rfl) rfl (by show 2 * 0 + _ ≤ _; exact Nat.le_of_eq rfl) (hb hby at_194) (fun _ _ => ⟨rfl, rfl, (by decide : 7 + 0 ≤ _), (by decide : 18 + 0 ≤ _)⟩)
        dsimp only [Pt.U, Pt.locs, Pt.cells, Pt.slots] at X47 l47 y47 z47 st47 hQ47
        subst l47 y47 z47
        obtain ⟨rfl, N47q, K47, F_store_a1_47, F_size_a1_47, F_filled_sto_47, F_items_sto_47, V_arr_47⟩ := hQ47
        have N47 := Fr.app N46 N47q
        have nec_b_46_b17_c : b_46 ≠ b17_c := Exa.ne E_b_46 E_c_17 (by decide)
        have nec_b_46_b17_b : b_46 ≠ b17_b := Exa.ne E_b_46 E_b_17 (by decide)
        have nec_b_46_b16 : b_46 ≠ b16 := Exa.ne E_b_46 A16 (by decide)
        replace Vm15 := Vm15.keep K47 (ninS ne_b5_b16 (ninS ne_b5_b17_b (ninS ne_b5_b17_c nin0)))
        replace A16 := A16.keep K47
        replace E_b_17 := E_b_17.keep K47
        replace E_c_17 := E_c_17.keep K47
        replace E_b_38 := E_b_38.keep K47
        replace F_value_b_38 := F_value_b_38.keep K47 (ninS nec_b_38_b16 (ninS nec_b_38_b17_b (ninS nec_b_38_b17_c nin0)))
        replace E_b_42 := E_b_42.keep K47
        replace F_val_length_b_42 := F_val_length_b_42.keep K47 (ninS (Ne.symm ne_b16_b42_b) (ninS (Ne.symm ne_b17_b_b42_b) (ninS (Ne.symm ne_b17_c_b42_b) nin0)))
        replace F_val_items_b_42 := F_val_items_b_42.keep K47 (ninS (Ne.symm ne_b16_b42_b) (ninS (Ne.symm ne_b17_b_b42_b) (ninS (Ne.symm ne_b17_c_b42_b) nin0)))
        replace F_next_b_42 := F_next_b_42.keep K47 (ninS (Ne.symm ne_b16_b42_b) (ninS (Ne.symm ne_b17_b_b42_b) (ninS (Ne.symm ne_b17_c_b42_b) nin0)))
        replace E_b_46 := E_b_46.keep K47
        replace F_value_b_46 := F_value_b_46.keep K47 (ninS nec_b_46_b16 (ninS nec_b_46_b17_b (ninS nec_b_46_b17_c nin0)))
        replace O0 := O0.keep K47 (allS g_b16 (allS g_b17_b (allS g_b17_c all0)))
        replace KC := KC.trans K47 (allS (Or.inr sz_b16) (allS (Or.inr sz_b17_b) (allS (Or.inr sz_b17_c) all0)))
        obtain ⟨T48, h48, L48, X48, e48, N48, K48, st48⟩ := tail1 hw X47 hx hZ hby hml hown p1 p2 p3 p4 p5 p6 c1 c2 b5 b16 b42_b b17_c k_17 (4 : Int32) [(.ref b_38), (.ref b_46), .null, .null] k5 b_38 T47.heap n0 rfl (Nat.le_trans Z0 KC.1) O0 N47 F_next_b_42 F_val_length_b_42 F_val_items_b_42 E_b_42 E_c_17 V_arr_47 Vm15 g_b42_b ne_b5_b42_b E_b_38 F_value_b_38 rfl (by decide) (by decide) (by decide) (by decide) (by decide)
        have nec_b_46_b42_b : b_46 ≠ b42_b := Exa.ne E_b_46 E_b_42 (by decide)
        replace Vm15 := Vm15.keep K48 (ninS ne_b5_b42_b nin0)
        replace A16 := A16.keep K48
        replace E_b_17 := E_b_17.keep K48
        replace E_c_17 := E_c_17.keep K48
        replace E_b_38 := E_b_38.keep K48
        replace F_value_b_38 := F_value_b_38.keep K48 (ninS ne_b_38_b42_b nin0)
        replace E_b_42 := E_b_42.keep K48
        replace E_b_46 := E_b_46.keep K48
        replace F_value_b_46 := F_value_b_46.keep K48 (ninS nec_b_46_b42_b nin0)
        replace F_store_a1_47 := F_store_a1_47.keep K48 (ninS ne_b16_b42_b nin0)
        replace F_size_a1_47 := F_size_a1_47.keep K48 (ninS ne_b16_b42_b nin0)
        replace F_filled_sto_47 := F_filled_sto_47.keep K48 (ninS ne_b17_b_b42_b nin0)
        replace F_items_sto_47 := F_items_sto_47.keep K48 (ninS ne_b17_b_b42_b nin0)
        replace V_arr_47 := V_arr_47.keep K48 (ninS ne_b17_c_b42_b nin0)
        replace O0 := O0.keep K48 (allS g_b42_b all0)
        replace KC := KC.trans K48 (allS (Or.inr sz_b42_b) all0)
        obtain ⟨fs, hr, hrun, hended, hW, hsame⟩ := X48.leave (v := some (.int (1 : Int32))) (fun h => by rw [Bd.returns] at h; cases h)
        refine ⟨_, _, pre43 _ ?_, hrun, hended, _, _, rfl, ?_, ⟨_, rfl⟩, hW, hsame.mono (by decide) (by decide)⟩
        · show SS p e below m T42 183 #[vi p1, vi p2, vi p3, vi p4, vi p5, vi p6, vi (1 : Int32), vi c1, vi c2, vr b5, vr b16, vr b42_b] [(.int c2)] _
          refine XS.ifNo X42.here hx rfl (hb hby at_183) rfl ((if0 _ _).trans (feq hc183_44).1) ?_
          show SS p e below m T42 186 #[vi p1, vi p2, vi p3, vi p4, vi p5, vi p6, vi (1 : Int32), vi c1, vi c2, vr b5, vr b16, vr b42_b] [] _
          refine XS.aload X42.here hx rfl (hb hby at_186) rfl rfl ?_
          show SS p e below m T42 188 #[vi p1, vi p2, vi p3, vi p4, vi p5, vi p6, vi (1 : Int32), vi c1, vi c2, vr b5, vr b16, vr b42_b] [(.ref b16)] _
          refine XS.iloadN X42.here hx rfl (hb hby at_188) rfl ?_
          show SS p e below m T42 189 #[vi p1, vi p2, vi p3, vi p4, vi p5, vi p6, vi (1 : Int32), vi c1, vi c2, vr b5, vr b16, vr b42_b] [(.int p2), (.ref b16)] _
          refine XS.iloadN X42.here hx rfl (hb hby at_189) rfl ?_
          show SS p e below m T42 190 #[vi p1, vi p2, vi p3, vi p4, vi p5, vi p6, vi (1 : Int32), vi c1, vi c2, vr b5, vr b16, vr b42_b] [(.int p4), (.int p2), (.ref b16)] _
          refine XS.ixor X42.here hx rfl (hb hby at_190) rfl ?_
          show SS p e below m T42 191 #[vi p1, vi p2, vi p3, vi p4, vi p5, vi p6, vi (1 : Int32), vi c1, vi c2, vr b5, vr b16, vr b42_b] [(.int (p2 ^^^ p4)), (.ref b16)] _
          refine st46 _ ?_
          show SS p e below m T46 194 #[vi p1, vi p2, vi p3, vi p4, vi p5, vi p6, vi (1 : Int32), vi c1, vi c2, vr b5, vr b16, vr b42_b] [(.ref b_46), (.ref b16)] _
          refine st47.trans ?_
          show SS p e below m T47 197 #[vi p1, vi p2, vi p3, vi p4, vi p5, vi p6, vi (1 : Int32), vi c1, vi c2, vr b5, vr b16, vr b42_b] [] _
          refine st48 _ ?_
          show SS p e below m T48 282 #[vi p1, vi p2, vi p3, vi p4, vi p5, vi p6, vi (1 : Int32), vi c1, vi c2, vr b5, vr b16, vr b42_b] [(.int (0 : Int32))] _
          refine XS.ifNo X48.here hx rfl (hb hby at_282) rfl ((if0 _ _).trans (teq (by decide)).2) ?_
          show SS p e below m T48 285 #[vi p1, vi p2, vi p3, vi p4, vi p5, vi p6, vi (1 : Int32), vi c1, vi c2, vr b5, vr b16, vr b42_b] [] _
          refine XS.iconst X48.here hx rfl (hb hby at_285) ?_
          show SS p e below m T48 286 #[vi p1, vi p2, vi p3, vi p4, vi p5, vi p6, vi (1 : Int32), vi c1, vi c2, vr b5, vr b16, vr b42_b] [(.int (1 : Int32))] _
          refine XS.goto X48.here hx rfl (pc0 := 286) (pc' := 290) rfl (hb hby at_286) (by decide) (by decide) ?_
          show SS p e below m T48 290 #[vi p1, vi p2, vi p3, vi p4, vi p5, vi p6, vi (1 : Int32), vi c1, vi c2, vr b5, vr b16, vr b42_b] [(.int (1 : Int32))] _
          exact retN X48 hx (t := .boolean) Bd.returns (by simp) (hb hby at_290) hr
        · show Q_rm0 Z p1 p2 p3 p4 p5 p6 cA cl mr h0 n0 _ T48.heap _
          rw [e48]
          exact ⟨rfl, N48, KC⟩
    · obtain ⟨cq49, kq49, q49a, q49b, q49c⟩ := isOf hZ rfl A16
      obtain ⟨_, _, ⟨T49, L49, kz49, nz49⟩, -, X49, ⟨Lc49, hQ49, l49, y49, z49⟩, st49⟩ := X39.virtualBack hx (y := y_13) (z := y_13) hown (mvT hZ (ww hw 135 rfl)) (mvT hZ (ww hw 136 rfl)) (notFace_of_selects (args := #[]) (mvT hZ (ww hw 138 rfl))) (mvT hZ (ww hw 138 rfl)) (mvT hZ (ww hw 137 rfl)) (by decide) (backOf (W := 0) (rmCp l Z a0 hw [] b16 b17_b (1 : Int32) T39.heap n0 (Nat.le_trans Z0 KC.1) O0 F_store_a1_39 F_size_a1_39) hZ (ww hw 139 rfl) (ww hw 3 rfl) (by decide) (by decide)) q49a q49c (g := (mkF m 157 #[vi p1, vi p2, vi p3, vi p4, vi p5, vi p6, vi (1 : Int32), vi c1, vi c2, vr b5, vr b16, un] [(.ref b16)])) rfl (by rw [hml]; rfl) (Steps.refl _) (argsL := []) (rest := []) (lenOf pd_16 rfl) rfl (by show 2 * 0 + _ ≤ _; exact Nat.le_of_eq rfl) (hb hby at_157) (fun _ _ => ⟨rfl, rfl, (by decide : 5 + 1 ≤ _), (by decide : 14 + 2 ≤ _)⟩)
      dsimp only [Pt.U, Pt.locs, Pt.cells, Pt.slots] at X49 l49 y49 z49 st49 hQ49
      subst l49 y49 z49
      obtain ⟨b49_b, rfl, N49q, K49, sz_b49_b, E_b_49, F_store_b_49, F_size_b_49⟩ := hQ49
      have N49 := Fr.app N39 N49q
      have ne_b5_b49_b : b5 ≠ b49_b := Nat.ne_of_lt (Nat.lt_of_lt_of_le Vm15.lt sz_b49_b)
      have ne_b16_b49_b : b16 ≠ b49_b := Nat.ne_of_lt (Nat.lt_of_lt_of_le A16.lt sz_b49_b)
      have ne_b17_b_b49_b : b17_b ≠ b49_b := Nat.ne_of_lt (Nat.lt_of_lt_of_le E_b_17.lt sz_b49_b)
      have ne_b17_c_b49_b : b17_c ≠ b49_b := Nat.ne_of_lt (Nat.lt_of_lt_of_le E_c_17.lt sz_b49_b)
      have ne_b_38_b49_b : b_38 ≠ b49_b := Nat.ne_of_lt (Nat.lt_of_lt_of_le E_b_38.lt sz_b49_b)
      have g_b49_b : n0 ≤ b49_b := Nat.le_trans (Nat.le_trans Z0 KC.1) sz_b49_b
      replace sz_b49_b : h0.size ≤ b49_b := Nat.le_trans KC.1 sz_b49_b
      replace Vm15 := Vm15.keep K49 nin0
      replace A16 := A16.keep K49
      replace E_b_17 := E_b_17.keep K49
      replace E_c_17 := E_c_17.keep K49
      replace E_b_38 := E_b_38.keep K49
      replace F_value_b_38 := F_value_b_38.keep K49 nin0
      replace F_store_a1_39 := F_store_a1_39.keep K49 nin0
      replace F_size_a1_39 := F_size_a1_39.keep K49 nin0
      replace F_filled_sto_39 := F_filled_sto_39.keep K49 nin0
      replace F_items_sto_39 := F_items_sto_39.keep K49 nin0
      replace V_arr_39 := V_arr_39.keep K49 nin0
      replace O0 := O0.keep K49 all0
      replace KC := KC.trans K49 all0
      obtain ⟨_, _, ⟨T50, L50, kz50, nz50⟩, -, X50, ⟨Lc50, hQ50, l50, y50, z50⟩, st50⟩ := Jvm.LawKit.callS X49 hx (y := y_5) hown (mvT hZ (ww hw 30 rfl)) (mvT hZ (ww hw 31 rfl)) (mvT hZ (ww hw 32 rfl)) (mvT hZ (ww hw 33 rfl)) (by decide) (backOf (W := 1) (rmVo l Z a0 hw [] (p1 ^^^ p5) cA cl T49.heap n0 (Nat.le_trans Z0 KC.1) O0 S_high S_cache BX) hZ (ww hw 33 rfl) (ww hw 32 rfl) (by decide) (by decide)) (g := (mkF m 168 #[vi p1, vi p2, vi p3, vi p4, vi p5, vi p6, vi (1 : Int32), vi c1, vi c2, vr b5, vr b16, vr b49_b] [(.int (p1 ^^^ p5)), (.ref b49_b)])) rfl (by rw [hml]; rfl) (argsL := [(.int (p1 ^^^ p5))]) (rest := [(.ref b49_b)]) (lenOf pd_14 rfl) rfl (by show 2 * 0 + _ ≤ _; exact Nat.le_of_eq rfl) (hb hby at_168) (fun _ _ => ⟨rfl, rfl, (by decide : 6 + 1 ≤ _), (by decide : 16 + 1 ≤ _)⟩)
      dsimp only [Pt.U, Pt.locs, Pt.cells, Pt.slots] at X50 l50 y50 z50 st50 hQ50
      subst l50 y50 z50
      obtain ⟨b_50, rfl, N50q, K50, E_b_50, F_value_b_50⟩ := hQ50
      have N50 := Fr.app N49 N50q
      replace Vm15 := Vm15.keep K50 nin0
      replace A16 := A16.keep K50
      replace E_b_17 := E_b_17.keep K50
      replace E_c_17 := E_c_17.keep K50
      replace E_b_38 := E_b_38.keep K50
      replace F_value_b_38 := F_value_b_38.keep K50 nin0
      replace F_store_a1_39 := F_store_a1_39.keep K50 nin0
      replace F_size_a1_39 := F_size_a1_39.keep K50 nin0
      replace F_filled_sto_39 := F_filled_sto_39.keep K50 nin0
      replace F_items_sto_39 := F_items_sto_39.keep K50 nin0
      replace V_arr_39 := V_arr_39.keep K50 nin0
      replace E_b_49 := E_b_49.keep K50
      replace F_store_b_49 := F_store_b_49.keep K50 nin0
      replace F_size_b_49 := F_size_b_49.keep K50 nin0
      replace O0 := O0.keep K50 all0
      replace KC := KC.trans K50 all0
      obtain ⟨cq51, kq51, q51a, q51b, q51c⟩ := isOf hZ rfl E_b_49
      obtain ⟨_, _, ⟨T51, L51, kz51, nz51⟩, -, X51, ⟨Lc51, hQ51, l51, y51, z51⟩, st51⟩ := X50.virtualBack hx (y := y_12) (z := y_12) hown (mvT hZ (ww hw 37 rfl)) (mvT hZ (ww hw 38 rfl)) (notFace_of_selects (args := #[]) (mvT hZ (ww hw 40 rfl))) (mvT hZ (ww hw 40 rfl)) (mvT hZ (ww hw 39 rfl)) (by decide) (backOf (W := 0) (rmAddA l Z a0 hw [] b49_b b_50 b17_b (1 : Int32) (1 : Int32) b17_c k_17 (4 : Int32) [(.ref b_38), .null, .null, .null] (2 : Int32) [(.ref b_38), (.ref b_50), .null, .null] T50.heap n0 (Nat.le_trans Z0 KC.1) O0 F_store_b_49 F_size_b_49 E_b_49 E_b_17 F_filled_sto_39 F_items_sto_39 E_c_17 V_arr_39 E_b_50 g_b49_b g_b17_b g_b17_c hq17_0 (by decide) (by decide) (by decide) (by decide) (by decide) rfl (Nat.le_of_ble_eq_true rfl)) hZ (ww hw 41 rfl) (ww hw 3 rfl) (by decide) (by decide)) q51a q51c (g := (mkF m 171 #[vi p1, vi p2, vi p3, vi p4, vi p5, vi p6, vi (1 : Int32), vi c1, vi c2, vr b5, vr b16, vr b49_b] [(.ref b_50), (.ref b49_b)])) rfl (by rw [hml]; rfl) (Steps.refl _) (argsL := [(.ref b_50)]) (rest := []) (lenOf pd_15 rfl) rfl (by show 2 * 0 + _ ≤ _; exact Nat.le_of_eq rfl) (hb hby at_171) (fun _ _ => ⟨rfl, rfl, (by decide : 7 + 0 ≤ _), (by decide : 17 + 0 ≤ _)⟩)
      dsimp only [Pt.U, Pt.locs, Pt.cells, Pt.slots] at X51 l51 y51 z51 st51 hQ51
      subst l51 y51 z51
      obtain ⟨rfl, N51q, K51, F_store_a1_51, F_size_a1_51, F_filled_sto_51, F_items_sto_51, V_arr_51⟩ := hQ51
      have N51 := Fr.app N50 N51q
      have nec_b_50_b17_c : b_50 ≠ b17_c := Exa.ne E_b_50 E_c_17 (by decide)
      have nec_b_50_b17_b : b_50 ≠ b17_b := Exa.ne E_b_50 E_b_17 (by decide)
      have nec_b_50_b49_b : b_50 ≠ b49_b := Exa.ne E_b_50 E_b_49 (by decide)
      replace Vm15 := Vm15.keep K51 (ninS ne_b5_b49_b (ninS ne_b5_b17_b (ninS ne_b5_b17_c nin0)))
      replace A16 := A16.keep K51
      replace E_b_17 := E_b_17.keep K51
      replace E_c_17 := E_c_17.keep K51
      replace E_b_38 := E_b_38.keep K51
      replace F_value_b_38 := F_value_b_38.keep K51 (ninS ne_b_38_b49_b (ninS nec_b_38_b17_b (ninS nec_b_38_b17_c nin0)))
      replace F_store_a1_39 := F_store_a1_39.keep K51 (ninS ne_b16_b49_b (ninS ne_b16_b17_b (ninS ne_b16_b17_c nin0)))
      replace F_size_a1_39 := F_size_a1_39.keep K51 (ninS ne_b16_b49_b (ninS ne_b16_b17_b (ninS ne_b16_b17_c nin0)))
      replace E_b_49 := E_b_49.keep K51
      replace E_b_50 := E_b_50.keep K51
      replace F_value_b_50 := F_value_b_50.keep K51 (ninS nec_b_50_b49_b (ninS nec_b_50_b17_b (ninS nec_b_50_b17_c nin0)))
      replace O0 := O0.keep K51 (allS g_b49_b (allS g_b17_b (allS g_b17_c all0)))
      replace KC := KC.trans K51 (allS (Or.inr sz_b49_b) (allS (Or.inr sz_b17_b) (allS (Or.inr sz_b17_c) all0)))
      obtain ⟨cq52, kq52, q52a, q52b, q52c⟩ := isOf hZ rfl A16
      obtain ⟨_, _, ⟨T52, L52, kz52, nz52⟩, -, X52, ⟨Lc52, hQ52, l52, y52, z52⟩, st52⟩ := X51.virtualBack hx (y := y_15) (z := y_15) hown (mvT hZ (ww hw 49 rfl)) (mvT hZ (ww hw 50 rfl)) (notFace_of_selects (args := #[]) (mvT hZ (ww hw 52 rfl))) (mvT hZ (ww hw 52 rfl)) (mvT hZ (ww hw 51 rfl)) (by decide) (backOf (W := 0) (rmIt l Z a0 hw [] b16 b17_b (1 : Int32) b17_c T51.heap n0 (Nat.le_trans Z0 KC.1) O0 F_store_a1_39 F_size_a1_39 F_items_sto_51) hZ (ww hw 53 rfl) (ww hw 3 rfl) (by decide) (by decide)) q52a q52c (g := (mkF m 176 #[vi p1, vi p2, vi p3, vi p4, vi p5, vi p6, vi (1 : Int32), vi c1, vi c2, vr b5, vr b16, vr b49_b] [(.ref b16)])) rfl (by rw [hml]; rfl) (Steps.refl _) (argsL := []) (rest := []) (lenOf pd_13 rfl) rfl (by show 2 * 0 + _ ≤ _; exact Nat.le_of_eq rfl) (hb hby at_176) (fun _ _ => ⟨rfl, rfl, (by decide : 7 + 1 ≤ _), (by decide : 17 + 3 ≤ _)⟩)
      dsimp only [Pt.U, Pt.locs, Pt.cells, Pt.slots] at X52 l52 y52 z52 st52 hQ52
      subst l52 y52 z52
      obtain ⟨b52_b, rfl, N52q, K52, sz_b52_b, E_b_52, F_val_length_b_52, F_val_items_b_52, F_next_b_52⟩ := hQ52
      have N52 := Fr.app N51 N52q
      have ne_b5_b52_b : b5 ≠ b52_b := Nat.ne_of_lt (Nat.lt_of_lt_of_le Vm15.lt sz_b52_b)
      have ne_b16_b52_b : b16 ≠ b52_b := Nat.ne_of_lt (Nat.lt_of_lt_of_le A16.lt sz_b52_b)
      have ne_b17_b_b52_b : b17_b ≠ b52_b := Nat.ne_of_lt (Nat.lt_of_lt_of_le E_b_17.lt sz_b52_b)
      have ne_b17_c_b52_b : b17_c ≠ b52_b := Nat.ne_of_lt (Nat.lt_of_lt_of_le E_c_17.lt sz_b52_b)
      have ne_b_38_b52_b : b_38 ≠ b52_b := Nat.ne_of_lt (Nat.lt_of_lt_of_le E_b_38.lt sz_b52_b)
      have ne_b49_b_b52_b : b49_b ≠ b52_b := Nat.ne_of_lt (Nat.lt_of_lt_of_le E_b_49.lt sz_b52_b)
      have ne_b_50_b52_b : b_50 ≠ b52_b := Nat.ne_of_lt (Nat.lt_of_lt_of_le E_b_50.lt sz_b52_b)
      have g_b52_b : n0 ≤ b52_b := Nat.le_trans (Nat.le_trans Z0 KC.1) sz_b52_b
      replace sz_b52_b : h0.size ≤ b52_b := Nat.le_trans KC.1 sz_b52_b
      replace Vm15 := Vm15.keep K52 nin0
      replace A16 := A16.keep K52
      replace E_b_17 := E_b_17.keep K52
      replace E_c_17 := E_c_17.keep K52
      replace E_b_38 := E_b_38.keep K52
      replace F_value_b_38 := F_value_b_38.keep K52 nin0
      replace F_store_a1_39 := F_store_a1_39.keep K52 nin0
      replace F_size_a1_39 := F_size_a1_39.keep K52 nin0
      replace E_b_49 := E_b_49.keep K52
      replace E_b_50 := E_b_50.keep K52
      replace F_value_b_50 := F_value_b_50.keep K52 nin0
      replace F_store_a1_51 := F_store_a1_51.keep K52 nin0
      replace F_size_a1_51 := F_size_a1_51.keep K52 nin0
      replace F_filled_sto_51 := F_filled_sto_51.keep K52 nin0
      replace F_items_sto_51 := F_items_sto_51.keep K52 nin0
      replace V_arr_51 := V_arr_51.keep K52 nin0
      replace O0 := O0.keep K52 all0
      replace KC := KC.trans K52 all0
      have pre53 : ∀ t, Steps p.tables e below (T52.setTop (mkF m 183 #[vi p1, vi p2, vi p3, vi p4, vi p5, vi p6, vi (1 : Int32), vi c1, vi c2, vr b5, vr b16, vr b52_b] [(.int c2)])) t → Steps p.tables e below (s₁.setTop (entryFrame m #[(.int p1), (.int p2), (.int p3), (.int p4), (.int p5), (.int p6)] maxLocals)) t := by
        intro t kt
        refine pre40 t ?_
        show SS p e below m T39 152 #[vi p1, vi p2, vi p3, vi p4, vi p5, vi p6, vi (1 : Int32), vi c1, vi c2, vr b5, vr b16, un] [(.int c1)] _
        refine XS.ifNo X39.here hx rfl (hb hby at_152) rfl ((if0 _ _).trans (feq hc152_41).1) ?_
        show SS p e below m T39 155 #[vi p1, vi p2, vi p3, vi p4, vi p5, vi p6, vi (1 : Int32), vi c1, vi c2, vr b5, vr b16, un] [] _
        refine XS.aload X39.here hx rfl (hb hby at_155) rfl rfl ?_
        show SS p e below m T39 157 #[vi p1, vi p2, vi p3, vi p4, vi p5, vi p6, vi (1 : Int32), vi c1, vi c2, vr b5, vr b16, un] [(.ref b16)] _
        refine st49.trans ?_
        show SS p e below m T49 160 #[vi p1, vi p2, vi p3, vi p4, vi p5, vi p6, vi (1 : Int32), vi c1, vi c2, vr b5, vr b16, un] [(.ref b49_b)] _
        refine XS.astore X49.here hx rfl (hb hby at_160) rfl rfl (l' := #[vi p1, vi p2, vi p3, vi p4, vi p5, vi p6, vi (1 : Int32), vi c1, vi c2, vr b5, vr b16, vr b49_b]) rfl ?_
        show SS p e below m T49 162 #[vi p1, vi p2, vi p3, vi p4, vi p5, vi p6, vi (1 : Int32), vi c1, vi c2, vr b5, vr b16, vr b49_b] [] _
        refine XS.aload X49.here hx rfl (hb hby at_162) rfl rfl ?_
        show SS p e below m T49 164 #[vi p1, vi p2, vi p3, vi p4, vi p5, vi p6, vi (1 : Int32), vi c1, vi c2, vr b5, vr b16, vr b49_b] [(.ref b49_b)] _
        refine XS.iloadN X49.here hx rfl (hb hby at_164) rfl ?_
        show SS p e below m T49 165 #[vi p1, vi p2, vi p3, vi p4, vi p5, vi p6, vi (1 : Int32), vi c1, vi c2, vr b5, vr b16, vr b49_b] [(.int p1), (.ref b49_b)] _
        refine XS.iload X49.here hx rfl (hb hby at_165) rfl ?_
        show SS p e below m T49 167 #[vi p1, vi p2, vi p3, vi p4, vi p5, vi p6, vi (1 : Int32), vi c1, vi c2, vr b5, vr b16, vr b49_b] [(.int p5), (.int p1), (.ref b49_b)] _
        refine XS.ixor X49.here hx rfl (hb hby at_167) rfl ?_
        show SS p e below m T49 168 #[vi p1, vi p2, vi p3, vi p4, vi p5, vi p6, vi (1 : Int32), vi c1, vi c2, vr b5, vr b16, vr b49_b] [(.int (p1 ^^^ p5)), (.ref b49_b)] _
        refine st50 _ ?_
        show SS p e below m T50 171 #[vi p1, vi p2, vi p3, vi p4, vi p5, vi p6, vi (1 : Int32), vi c1, vi c2, vr b5, vr b16, vr b49_b] [(.ref b_50), (.ref b49_b)] _
        refine st51.trans ?_
        show SS p e below m T51 174 #[vi p1, vi p2, vi p3, vi p4, vi p5, vi p6, vi (1 : Int32), vi c1, vi c2, vr b5, vr b16, vr b49_b] [] _
        refine XS.aload X51.here hx rfl (hb hby at_174) rfl rfl ?_
        show SS p e below m T51 176 #[vi p1, vi p2, vi p3, vi p4, vi p5, vi p6, vi (1 : Int32), vi c1, vi c2, vr b5, vr b16, vr b49_b] [(.ref b16)] _
        refine st52.trans ?_
        show SS p e below m T52 179 #[vi p1, vi p2, vi p3, vi p4, vi p5, vi p6, vi (1 : Int32), vi c1, vi c2, vr b5, vr b16, vr b49_b] [(.ref b52_b)] _
        refine XS.astore X52.here hx rfl (hb hby at_179) rfl rfl (l' := #[vi p1, vi p2, vi p3, vi p4, vi p5, vi p6, vi (1 : Int32), vi c1, vi c2, vr b5, vr b16, vr b52_b]) rfl ?_
        show SS p e below m T52 181 #[vi p1, vi p2, vi p3, vi p4, vi p5, vi p6, vi (1 : Int32), vi c1, vi c2, vr b5, vr b16, vr b52_b] [] _
        refine XS.iload X52.here hx rfl (hb hby at_181) rfl ?_
        exact kt
      by_cases hc183_54 : c2 = (0 : Int32)
      · obtain ⟨T55, h55, L55, X55, e55, N55, K55, st55⟩ := tail1 hw X52 hx hZ hby hml hown p1 p2 p3 p4 p5 p6 c1 c2 b5 b16 b52_b b17_c k_17 (4 : Int32) [(.ref b_38), (.ref b_50), .null, .null] k5 b_38 T52.heap n0 rfl (Nat.le_trans Z0 KC.1) O0 N52 F_next_b_52 F_val_length_b_52 F_val_items_b_52 E_b_52 E_c_17 V_arr_51 Vm15 g_b52_b ne_b5_b52_b E_b_38 F_value_b_38 rfl (by decide) (by decide) (by decide) (by decide) (by decide)
        replace Vm15 := Vm15.keep K55 (ninS ne_b5_b52_b nin0)
        replace A16 := A16.keep K55
        replace E_b_17 := E_b_17.keep K55
        replace E_c_17 := E_c_17.keep K55
        replace E_b_38 := E_b_38.keep K55
        replace F_value_b_38 := F_value_b_38.keep K55 (ninS ne_b_38_b52_b nin0)
        replace F_store_a1_39 := F_store_a1_39.keep K55 (ninS ne_b16_b52_b nin0)
        replace F_size_a1_39 := F_size_a1_39.keep K55 (ninS ne_b16_b52_b nin0)
        replace E_b_49 := E_b_49.keep K55
        replace E_b_50 := E_b_50.keep K55
        replace F_value_b_50 := F_value_b_50.keep K55 (ninS ne_b_50_b52_b nin0)
        replace F_store_a1_51 := F_store_a1_51.keep K55 (ninS ne_b49_b_b52_b nin0)
        replace F_size_a1_51 := F_size_a1_51.keep K55 (ninS ne_b49_b_b52_b nin0)
        replace F_filled_sto_51 := F_filled_sto_51.keep K55 (ninS ne_b17_b_b52_b nin0)
        replace F_items_sto_51 := F_items_sto_51.keep K55 (ninS ne_b17_b_b52_b nin0)
        replace V_arr_51 := V_arr_51.keep K55 (ninS ne_b17_c_b52_b nin0)
        replace E_b_52 := E_b_52.keep K55
        replace O0 := O0.keep K55 (allS g_b52_b all0)
        replace KC := KC.trans K55 (allS (Or.inr sz_b52_b) all0)
        obtain ⟨fs, hr, hrun, hended, hW, hsame⟩ := X55.leave (v := some (.int (1 : Int32))) (fun h => by rw [Bd.returns] at h; cases h)
        refine ⟨_, _, pre53 _ ?_, hrun, hended, _, _, rfl, ?_, ⟨_, rfl⟩, hW, hsame.mono (by decide) (by decide)⟩
        · show SS p e below m T52 183 #[vi p1, vi p2, vi p3, vi p4, vi p5, vi p6, vi (1 : Int32), vi c1, vi c2, vr b5, vr b16, vr b52_b] [(.int c2)] _
          refine XS.ifYes X52.here hx rfl (pc0 := 183) (pc' := 197) rfl (hb hby at_183) rfl ((if0 _ _).trans (teq hc183_54).1) (by decide) (by decide) ?_
          show SS p e below m T52 197 #[vi p1, vi p2, vi p3, vi p4, vi p5, vi p6, vi (1 : Int32), vi c1, vi c2, vr b5, vr b16, vr b52_b] [] _
          refine st55 _ ?_
          show SS p e below m T55 282 #[vi p1, vi p2, vi p3, vi p4, vi p5, vi p6, vi (1 : Int32), vi c1, vi c2, vr b5, vr b16, vr b52_b] [(.int (0 : Int32))] _
          refine XS.ifNo X55.here hx rfl (hb hby at_282) rfl ((if0 _ _).trans (teq (by decide)).2) ?_
          show SS p e below m T55 285 #[vi p1, vi p2, vi p3, vi p4, vi p5, vi p6, vi (1 : Int32), vi c1, vi c2, vr b5, vr b16, vr b52_b] [] _
          refine XS.iconst X55.here hx rfl (hb hby at_285) ?_
          show SS p e below m T55 286 #[vi p1, vi p2, vi p3, vi p4, vi p5, vi p6, vi (1 : Int32), vi c1, vi c2, vr b5, vr b16, vr b52_b] [(.int (1 : Int32))] _
          refine XS.goto X55.here hx rfl (pc0 := 286) (pc' := 290) rfl (hb hby at_286) (by decide) (by decide) ?_
          show SS p e below m T55 290 #[vi p1, vi p2, vi p3, vi p4, vi p5, vi p6, vi (1 : Int32), vi c1, vi c2, vr b5, vr b16, vr b52_b] [(.int (1 : Int32))] _
          exact retN X55 hx (t := .boolean) Bd.returns (by simp) (hb hby at_290) hr
        · show Q_rm0 Z p1 p2 p3 p4 p5 p6 cA cl mr h0 n0 _ T55.heap _
          rw [e55]
          exact ⟨rfl, N55, KC⟩
      · obtain ⟨_, _, ⟨T56, L56, kz56, nz56⟩, -, X56, ⟨Lc56, hQ56, l56, y56, z56⟩, st56⟩ := Jvm.LawKit.callS X52 hx (y := y_5) hown (mvT hZ (ww hw 30 rfl)) (mvT hZ (ww hw 31 rfl)) (mvT hZ (ww hw 32 rfl)) (mvT hZ (ww hw 33 rfl)) (by decide) (backOf (W := 1) (rmVo l Z a0 hw [] (p2 ^^^ p4) cA cl T52.heap n0 (Nat.le_trans Z0 KC.1) O0 S_high S_cache BX) hZ (ww hw 33 rfl) (ww hw 32 rfl) (by decide) (by decide)) (g := (mkF m 191 #[vi p1, vi p2, vi p3, vi p4, vi p5, vi p6, vi (1 : Int32), vi c1, vi c2, vr b5, vr b16, vr b52_b] [(.int (p2 ^^^ p4)), (.ref b16)])) rfl (by rw [hml]; rfl) (argsL := [(.int (p2 ^^^ p4))]) (rest := [(.ref b16)]) (lenOf pd_14 rfl) rfl (by show 2 * 0 + _ ≤ _; exact Nat.le_of_eq rfl) (hb hby at_191) (fun _ _ => ⟨rfl, rfl, (by decide : 8 + 1 ≤ _), (by decide : 20 + 1 ≤ _)⟩)
        dsimp only [Pt.U, Pt.locs, Pt.cells, Pt.slots] at X56 l56 y56 z56 st56 hQ56
        subst l56 y56 z56
        obtain ⟨b_56, rfl, N56q, K56, E_b_56, F_value_b_56⟩ := hQ56
        have N56 := Fr.app N52 N56q
        replace Vm15 := Vm15.keep K56 nin0
        replace A16 := A16.keep K56
        replace E_b_17 := E_b_17.keep K56
        replace E_c_17 := E_c_17.keep K56
        replace E_b_38 := E_b_38.keep K56
        replace F_value_b_38 := F_value_b_38.keep K56 nin0
        replace F_store_a1_39 := F_store_a1_39.keep K56 nin0
        replace F_size_a1_39 := F_size_a1_39.keep K56 nin0
        replace E_b_49 := E_b_49.keep K56
        replace E_b_50 := E_b_50.keep K56
        replace F_value_b_50 := F_value_b_50.keep K56 nin0
        replace F_store_a1_51 := F_store_a1_51.keep K56 nin0
        replace F_size_a1_51 := F_size_a1_51.keep K56 nin0
        replace F_filled_sto_51 := F_filled_sto_51.keep K56 nin0
        replace F_items_sto_51 := F_items_sto_51.keep K56 nin0
        replace V_arr_51 := V_arr_51.keep K56 nin0
        replace E_b_52 := E_b_52.keep K56
        replace F_val_length_b_52 := F_val_length_b_52.keep K56 nin0
        replace F_val_items_b_52 := F_val_items_b_52.keep K56 nin0
        replace F_next_b_52 := F_next_b_52.keep K56 nin0
        replace O0 := O0.keep K56 all0
        replace KC := KC.trans K56 all0
        obtain ⟨cq57, kq57, q57a, q57b, q57c⟩ := isOf hZ rfl A16
        obtain ⟨_, _, ⟨T57, L57, kz57, nz57⟩, -, X57, ⟨Lc57, hQ57, l57, y57, z57⟩, st57⟩ := X56.virtualBack hx (y := y_12) (z := y_12) hown (mvT hZ (ww hw 37 rfl)) (mvT hZ (ww hw 38 rfl)) (notFace_of_selects (args := #[]) (mvT hZ (ww hw 40 rfl))) (mvT hZ (ww hw 40 rfl)) (mvT hZ (ww hw 39 rfl)) (by decide) (backOf (W := 0) (rmAddB l Z a0 hw [] b16 b_56 b17_b (1 : Int32) (2 : Int32) b17_c k_17 (4 : Int32) [(.ref b_38), (.ref b_50), .null, .null] mr (4 : Int32) (4 : Int32) [(.ref b_38), (.ref b_50), .null, .null, .null, .null, .null, .null, .null, .null] (2 : Int32) [(.ref b_38), (.ref b_56), .null, .null, .null, .null, .null, .null, .null, .null] T56.heap n0 (Nat.le_trans Z0 KC.1) O0 F_store_a1_39 F_size_a1_39 A16 E_b_17 F_filled_sto_51 F_items_sto_51 E_c_17 V_arr_51 E_b_56 g_b16 MIR (Or.inl (by decide)) (by decide) (by decide) (by decide) (by decide) (by decide) (by decide) (by decide) rfl (own_els_cons (Or.inr ⟨_, rfl, E_b_38⟩) (own_els_cons (Or.inr ⟨_, rfl, E_b_50⟩) (own_els_cons (Or.inl rfl) (own_els_cons (Or.inl rfl) own_els_nil)))) (by decide) (by decide) (by decide) rfl (Nat.le_of_ble_eq_true rfl)) hZ (ww hw 41 rfl) (ww hw 3 rfl) (by decide) (by decide)) q57a q57c (g := (mkF m 194 #[vi p1, vi p2, vi p3, vi p4, vi p5, vi p6, vi (1 : Int32), vi c1, vi c2, vr b5, vr b16, vr b52_b] [(.ref b_56), (.ref b16)])) rfl (by rw [hml]; rfl) (Steps.refl _) (argsL := [(.ref b_56)]) (rest := []) (lenOf pd_15 rfl) rfl (by show 2 * 0 + _ ≤ _; exact Nat.le_of_eq rfl) (hb hby at_194) (fun _ _ => ⟨rfl, rfl, (by decide : 9 + 2 ≤ _), (by decide : 21 + 12 ≤ _)⟩)
        dsimp only [Pt.U, Pt.locs, Pt.cells, Pt.slots] at X57 l57 y57 z57 st57 hQ57
        subst l57 y57 z57
        obtain ⟨b57_b, b57_c, k2_57, rfl, N57q, K57, sz_b57_b, sz_b57_c, F_store_a1_57, F_size_a1_57, E_b_57, F_filled_b_57, F_items_b_57, E_c_57, V_c_57, hq57_0⟩ := hQ57
        have N57 := Fr.app N56 N57q
        have ne_b5_b57_b : b5 ≠ b57_b := Nat.ne_of_lt (Nat.lt_of_lt_of_le Vm15.lt sz_b57_b)
        have ne_b16_b57_b : b16 ≠ b57_b := Nat.ne_of_lt (Nat.lt_of_lt_of_le A16.lt sz_b57_b)
        have ne_b17_b_b57_b : b17_b ≠ b57_b := Nat.ne_of_lt (Nat.lt_of_lt_of_le E_b_17.lt sz_b57_b)
        have ne_b17_c_b57_b : b17_c ≠ b57_b := Nat.ne_of_lt (Nat.lt_of_lt_of_le E_c_17.lt sz_b57_b)
        have ne_b_38_b57_b : b_38 ≠ b57_b := Nat.ne_of_lt (Nat.lt_of_lt_of_le E_b_38.lt sz_b57_b)
        have ne_b49_b_b57_b : b49_b ≠ b57_b := Nat.ne_of_lt (Nat.lt_of_lt_of_le E_b_49.lt sz_b57_b)
        have ne_b_50_b57_b : b_50 ≠ b57_b := Nat.ne_of_lt (Nat.lt_of_lt_of_le E_b_50.lt sz_b57_b)
        have ne_b52_b_b57_b : b52_b ≠ b57_b := Nat.ne_of_lt (Nat.lt_of_lt_of_le E_b_52.lt sz_b57_b)
        have ne_b_56_b57_b : b_56 ≠ b57_b := Nat.ne_of_lt (Nat.lt_of_lt_of_le E_b_56.lt sz_b57_b)
        have g_b57_b : n0 ≤ b57_b := Nat.le_trans (Nat.le_trans Z0 KC.1) sz_b57_b
        replace sz_b57_b : h0.size ≤ b57_b := Nat.le_trans KC.1 sz_b57_b
        have ne_b5_b57_c : b5 ≠ b57_c := Nat.ne_of_lt (Nat.lt_of_lt_of_le Vm15.lt sz_b57_c)
        have ne_b16_b57_c : b16 ≠ b57_c := Nat.ne_of_lt (Nat.lt_of_lt_of_le A16.lt sz_b57_c)
        have ne_b17_b_b57_c : b17_b ≠ b57_c := Nat.ne_of_lt (Nat.lt_of_lt_of_le E_b_17.lt sz_b57_c)
        have ne_b17_c_b57_c : b17_c ≠ b57_c := Nat.ne_of_lt (Nat.lt_of_lt_of_le E_c_17.lt sz_b57_c)
        have ne_b_38_b57_c : b_38 ≠ b57_c := Nat.ne_of_lt (Nat.lt_of_lt_of_le E_b_38.lt sz_b57_c)
        have ne_b49_b_b57_c : b49_b ≠ b57_c := Nat.ne_of_lt (Nat.lt_of_lt_of_le E_b_49.lt sz_b57_c)
        have ne_b_50_b57_c : b_50 ≠ b57_c := Nat.ne_of_lt (Nat.lt_of_lt_of_le E_b_50.lt sz_b57_c)
        have ne_b52_b_b57_c : b52_b ≠ b57_c := Nat.ne_of_lt (Nat.lt_of_lt_of_le E_b_52.lt sz_b57_c)
        have ne_b_56_b57_c : b_56 ≠ b57_c := Nat.ne_of_lt (Nat.lt_of_lt_of_le E_b_56.lt sz_b57_c)
        have g_b57_c : n0 ≤ b57_c := Nat.le_trans (Nat.le_trans Z0 KC.1) sz_b57_c
        replace sz_b57_c : h0.size ≤ b57_c := Nat.le_trans KC.1 sz_b57_c
        have nec_b_50_b16 : b_50 ≠ b16 := Exa.ne E_b_50 A16 (by decide)
        have nec_b_56_b16 : b_56 ≠ b16 := Exa.ne E_b_56 A16 (by decide)
        replace Vm15 := Vm15.keep K57 (ninS ne_b5_b16 nin0)
        replace A16 := A16.keep K57
        replace E_b_17 := E_b_17.keep K57
        replace E_c_17 := E_c_17.keep K57
        replace E_b_38 := E_b_38.keep K57
        replace F_value_b_38 := F_value_b_38.keep K57 (ninS nec_b_38_b16 nin0)
        replace E_b_49 := E_b_49.keep K57
        replace E_b_50 := E_b_50.keep K57
        replace F_value_b_50 := F_value_b_50.keep K57 (ninS nec_b_50_b16 nin0)
        replace F_store_a1_51 := F_store_a1_51.keep K57 (ninS (Ne.symm ne_b16_b49_b) nin0)
        replace F_size_a1_51 := F_size_a1_51.keep K57 (ninS (Ne.symm ne_b16_b49_b) nin0)
        replace F_filled_sto_51 := F_filled_sto_51.keep K57 (ninS (Ne.symm ne_b16_b17_b) nin0)
        replace F_items_sto_51 := F_items_sto_51.keep K57 (ninS (Ne.symm ne_b16_b17_b) nin0)
        replace V_arr_51 := V_arr_51.keep K57 (ninS (Ne.symm ne_b16_b17_c) nin0)
        replace E_b_52 := E_b_52.keep K57
        replace F_val_length_b_52 := F_val_length_b_52.keep K57 (ninS (Ne.symm ne_b16_b52_b) nin0)
        replace F_val_items_b_52 := F_val_items_b_52.keep K57 (ninS (Ne.symm ne_b16_b52_b) nin0)
        replace F_next_b_52 := F_next_b_52.keep K57 (ninS (Ne.symm ne_b16_b52_b) nin0)
        replace E_b_56 := E_b_56.keep K57
        replace F_value_b_56 := F_value_b_56.keep K57 (ninS nec_b_56_b16 nin0)
        replace O0 := O0.keep K57 (allS g_b16 all0)
        replace KC := KC.trans K57 (allS (Or.inr sz_b16) all0)
        obtain ⟨T58, h58, L58, X58, e58, N58, K58, st58⟩ := tail1 hw X57 hx hZ hby hml hown p1 p2 p3 p4 p5 p6 c1 c2 b5 b16 b52_b b17_c k_17 (4 : Int32) [(.ref b_38), (.ref b_50), .null, .null] k5 b_38 T57.heap n0 rfl (Nat.le_trans Z0 KC.1) O0 N57 F_next_b_52 F_val_length_b_52 F_val_items_b_52 E_b_52 E_c_17 V_arr_51 Vm15 g_b52_b ne_b5_b52_b E_b_38 F_value_b_38 rfl (by decide) (by decide) (by decide) (by decide) (by decide)
        have nec_b_56_b52_b : b_56 ≠ b52_b := Exa.ne E_b_56 E_b_52 (by decide)
        replace Vm15 := Vm15.keep K58 (ninS ne_b5_b52_b nin0)
        replace A16 := A16.keep K58
        replace E_b_17 := E_b_17.keep K58
        replace E_c_17 := E_c_17.keep K58
        replace E_b_38 := E_b_38.keep K58
        replace F_value_b_38 := F_value_b_38.keep K58 (ninS ne_b_38_b52_b nin0)
        replace E_b_49 := E_b_49.keep K58
        replace E_b_50 := E_b_50.keep K58
        replace F_value_b_50 := F_value_b_50.keep K58 (ninS ne_b_50_b52_b nin0)
        replace F_store_a1_51 := F_store_a1_51.keep K58 (ninS ne_b49_b_b52_b nin0)
        replace F_size_a1_51 := F_size_a1_51.keep K58 (ninS ne_b49_b_b52_b nin0)
        replace F_filled_sto_51 := F_filled_sto_51.keep K58 (ninS ne_b17_b_b52_b nin0)
        replace F_items_sto_51 := F_items_sto_51.keep K58 (ninS ne_b17_b_b52_b nin0)
        replace V_arr_51 := V_arr_51.keep K58 (ninS ne_b17_c_b52_b nin0)
        replace E_b_52 := E_b_52.keep K58
        replace E_b_56 := E_b_56.keep K58
        replace F_value_b_56 := F_value_b_56.keep K58 (ninS nec_b_56_b52_b nin0)
        replace F_store_a1_57 := F_store_a1_57.keep K58 (ninS ne_b16_b52_b nin0)
        replace F_size_a1_57 := F_size_a1_57.keep K58 (ninS ne_b16_b52_b nin0)
        replace E_b_57 := E_b_57.keep K58
        replace F_filled_b_57 := F_filled_b_57.keep K58 (ninS (Ne.symm ne_b52_b_b57_b) nin0)
        replace F_items_b_57 := F_items_b_57.keep K58 (ninS (Ne.symm ne_b52_b_b57_b) nin0)
        replace E_c_57 := E_c_57.keep K58
        replace V_c_57 := V_c_57.keep K58 (ninS (Ne.symm ne_b52_b_b57_c) nin0)
        replace O0 := O0.keep K58 (allS g_b52_b all0)
        replace KC := KC.trans K58 (allS (Or.inr sz_b52_b) all0)
        obtain ⟨fs, hr, hrun, hended, hW, hsame⟩ := X58.leave (v := some (.int (1 : Int32))) (fun h => by rw [Bd.returns] at h; cases h)
        refine ⟨_, _, pre53 _ ?_, hrun, hended, _, _, rfl, ?_, ⟨_, rfl⟩, hW, hsame.mono (by decide) (by decide)⟩
        · show SS p e below m T52 183 #[vi p1, vi p2, vi p3, vi p4, vi p5, vi p6, vi (1 : Int32), vi c1, vi c2, vr b5, vr b16, vr b52_b] [(.int c2)] _
          refine XS.ifNo X52.here hx rfl (hb hby at_183) rfl ((if0 _ _).trans (feq hc183_54).1) ?_
          show SS p e below m T52 186 #[vi p1, vi p2, vi p3, vi p4, vi p5, vi p6, vi (1 : Int32), vi c1, vi c2, vr b5, vr b16, vr b52_b] [] _
          refine XS.aload X52.here hx rfl (hb hby at_186) rfl rfl ?_
          show SS p e below m T52 188 #[vi p1, vi p2, vi p3, vi p4, vi p5, vi p6, vi (1 : Int32), vi c1, vi c2, vr b5, vr b16, vr b52_b] [(.ref b16)] _
          refine XS.iloadN X52.here hx rfl (hb hby at_188) rfl ?_
          show SS p e below m T52 189 #[vi p1, vi p2, vi p3, vi p4, vi p5, vi p6, vi (1 : Int32), vi c1, vi c2, vr b5, vr b16, vr b52_b] [(.int p2), (.ref b16)] _
          refine XS.iloadN X52.here hx rfl (hb hby at_189) rfl ?_
          show SS p e below m T52 190 #[vi p1, vi p2, vi p3, vi p4, vi p5, vi p6, vi (1 : Int32), vi c1, vi c2, vr b5, vr b16, vr b52_b] [(.int p4), (.int p2), (.ref b16)] _
          refine XS.ixor X52.here hx rfl (hb hby at_190) rfl ?_
          show SS p e below m T52 191 #[vi p1, vi p2, vi p3, vi p4, vi p5, vi p6, vi (1 : Int32), vi c1, vi c2, vr b5, vr b16, vr b52_b] [(.int (p2 ^^^ p4)), (.ref b16)] _
          refine st56 _ ?_
          show SS p e below m T56 194 #[vi p1, vi p2, vi p3, vi p4, vi p5, vi p6, vi (1 : Int32), vi c1, vi c2, vr b5, vr b16, vr b52_b] [(.ref b_56), (.ref b16)] _
          refine st57.trans ?_
          show SS p e below m T57 197 #[vi p1, vi p2, vi p3, vi p4, vi p5, vi p6, vi (1 : Int32), vi c1, vi c2, vr b5, vr b16, vr b52_b] [] _
          refine st58 _ ?_
          show SS p e below m T58 282 #[vi p1, vi p2, vi p3, vi p4, vi p5, vi p6, vi (1 : Int32), vi c1, vi c2, vr b5, vr b16, vr b52_b] [(.int (0 : Int32))] _
          refine XS.ifNo X58.here hx rfl (hb hby at_282) rfl ((if0 _ _).trans (teq (by decide)).2) ?_
          show SS p e below m T58 285 #[vi p1, vi p2, vi p3, vi p4, vi p5, vi p6, vi (1 : Int32), vi c1, vi c2, vr b5, vr b16, vr b52_b] [] _
          refine XS.iconst X58.here hx rfl (hb hby at_285) ?_
          show SS p e below m T58 286 #[vi p1, vi p2, vi p3, vi p4, vi p5, vi p6, vi (1 : Int32), vi c1, vi c2, vr b5, vr b16, vr b52_b] [(.int (1 : Int32))] _
          refine XS.goto X58.here hx rfl (pc0 := 286) (pc' := 290) rfl (hb hby at_286) (by decide) (by decide) ?_
          show SS p e below m T58 290 #[vi p1, vi p2, vi p3, vi p4, vi p5, vi p6, vi (1 : Int32), vi c1, vi c2, vr b5, vr b16, vr b52_b] [(.int (1 : Int32))] _
          exact retN X58 hx (t := .boolean) Bd.returns (by simp) (hb hby at_290) hr
        · show Q_rm0 Z p1 p2 p3 p4 p5 p6 cA cl mr h0 n0 _ T58.heap _
          rw [e58]
          exact ⟨rfl, N58, KC⟩
  · rw [hk] at pre18
    obtain ⟨_, _, ⟨T59, L59, kz59, nz59⟩, -, X59, ⟨Lc59, hQ59, l59, y59, z59⟩, st59⟩ := Jvm.LawKit.callS X17 hx (y := y_5) hown (mvT hZ (ww hw 30 rfl)) (mvT hZ (ww hw 31 rfl)) (mvT hZ (ww hw 32 rfl)) (mvT hZ (ww hw 33 rfl)) (by decide) (backOf (W := 1) (rmVo l Z a0 hw [] p1 cA cl T17.heap n0 (Nat.le_trans Z0 KC.1) O0 S_high S_cache BX) hZ (ww hw 33 rfl) (ww hw 32 rfl) (by decide) (by decide)) (g := (mkF m 83 #[vi p1, vi p2, vi p3, vi p4, vi p5, vi p6, vi (2 : Int32), vi c1, vi c2, vr b5, vr b16, un] [(.int p1), (.ref b16)])) rfl (by rw [hml]; rfl) (argsL := [(.int p1)]) (rest := [(.ref b16)]) (lenOf pd_14 rfl) rfl (by show 2 * 0 + _ ≤ _; exact Nat.le_of_eq rfl) (hb hby at_83) (fun _ _ => ⟨rfl, rfl, (by decide : 4 + 1 ≤ _), (by decide : 13 + 1 ≤ _)⟩)
    dsimp only [Pt.U, Pt.locs, Pt.cells, Pt.slots] at X59 l59 y59 z59 st59 hQ59
    subst l59 y59 z59
    obtain ⟨b_59, rfl, N59q, K59, E_b_59, F_value_b_59⟩ := hQ59
    have N59 := Fr.app N17 N59q
    replace Vm15 := Vm15.keep K59 nin0
    replace A16 := A16.keep K59
    replace F_store_a1_17 := F_store_a1_17.keep K59 nin0
    replace F_size_a1_17 := F_size_a1_17.keep K59 nin0
    replace E_b_17 := E_b_17.keep K59
    replace F_items_b_17 := F_items_b_17.keep K59 nin0
    replace F_filled_b_17 := F_filled_b_17.keep K59 nin0
    replace E_c_17 := E_c_17.keep K59
    replace V_c_17 := V_c_17.keep K59 nin0
    replace O0 := O0.keep K59 all0
    replace KC := KC.trans K59 all0
    obtain ⟨cq60, kq60, q60a, q60b, q60c⟩ := isOf hZ rfl A16
    obtain ⟨_, _, ⟨T60, L60, kz60, nz60⟩, -, X60, ⟨Lc60, hQ60, l60, y60, z60⟩, st60⟩ := X59.virtualBack hx (y := y_12) (z := y_12) hown (mvT hZ (ww hw 37 rfl)) (mvT hZ (ww hw 38 rfl)) (notFace_of_selects (args := #[]) (mvT hZ (ww hw 40 rfl))) (mvT hZ (ww hw 40 rfl)) (mvT hZ (ww hw 39 rfl)) (by decide) (backOf (W := 0) (rmAddA l Z a0 hw [] b16 b_59 b17_b (0 : Int32) (0 : Int32) b17_c k_17 (4 : Int32) [.null, .null, .null, .null] (1 : Int32) [(.ref b_59), .null, .null, .null] T59.heap n0 (Nat.le_trans Z0 KC.1) O0 F_store_a1_17 F_size_a1_17 A16 E_b_17 F_filled_b_17 F_items_b_17 E_c_17 V_c_17 E_b_59 g_b16 g_b17_b g_b17_c hq17_0 (by decide) (by decide) (by decide) (by decide) (by decide) rfl (Nat.le_of_ble_eq_true rfl)) hZ (ww hw 41 rfl) (ww hw 3 rfl) (by decide) (by decide)) q60a q60c (g := (mkF m 86 #[vi p1, vi p2, vi p3, vi p4, vi p5, vi p6, vi (2 : Int32), vi c1, vi c2, vr b5, vr b16, un] [(.ref b_59), (.ref b16)])) rfl (by rw [hml]; rfl) (Steps.refl _) (argsL := [(.ref b_59)]) (rest := []) (lenOf pd_15 rfl) rfl (by show 2 * 0 + _ ≤ _; exact Nat.le_of_eq rfl) (hb hby at_86) (fun _ _ => ⟨rfl, rfl, (by decide : 5 + 0 ≤ _), (by decide : 14 + 0 ≤ _)⟩)
    dsimp only [Pt.U, Pt.locs, Pt.cells, Pt.slots] at X60 l60 y60 z60 st60 hQ60
    subst l60 y60 z60
    obtain ⟨rfl, N60q, K60, F_store_a1_60, F_size_a1_60, F_filled_sto_60, F_items_sto_60, V_arr_60⟩ := hQ60
    have N60 := Fr.app N59 N60q
    have nec_b_59_b17_c : b_59 ≠ b17_c := Exa.ne E_b_59 E_c_17 (by decide)
    have nec_b_59_b17_b : b_59 ≠ b17_b := Exa.ne E_b_59 E_b_17 (by decide)
    have nec_b_59_b16 : b_59 ≠ b16 := Exa.ne E_b_59 A16 (by decide)
    replace Vm15 := Vm15.keep K60 (ninS ne_b5_b16 (ninS ne_b5_b17_b (ninS ne_b5_b17_c nin0)))
    replace A16 := A16.keep K60
    replace E_b_17 := E_b_17.keep K60
    replace E_c_17 := E_c_17.keep K60
    replace E_b_59 := E_b_59.keep K60
    replace F_value_b_59 := F_value_b_59.keep K60 (ninS nec_b_59_b16 (ninS nec_b_59_b17_b (ninS nec_b_59_b17_c nin0)))
    replace O0 := O0.keep K60 (allS g_b16 (allS g_b17_b (allS g_b17_c all0)))
    replace KC := KC.trans K60 (allS (Or.inr sz_b16) (allS (Or.inr sz_b17_b) (allS (Or.inr sz_b17_c) all0)))
    obtain ⟨_, _, ⟨T61, L61, kz61, nz61⟩, -, X61, ⟨Lc61, hQ61, l61, y61, z61⟩, st61⟩ := Jvm.LawKit.callS X60 hx (y := y_5) hown (mvT hZ (ww hw 30 rfl)) (mvT hZ (ww hw 31 rfl)) (mvT hZ (ww hw 32 rfl)) (mvT hZ (ww hw 33 rfl)) (by decide) (backOf (W := 1) (rmVo l Z a0 hw [] p2 cA cl T60.heap n0 (Nat.le_trans Z0 KC.1) O0 S_high S_cache BX) hZ (ww hw 33 rfl) (ww hw 32 rfl) (by decide) (by decide)) (g := (mkF m 98 #[vi p1, vi p2, vi p3, vi p4, vi p5, vi p6, vi (2 : Int32), vi c1, vi c2, vr b5, vr b16, un] [(.int p2), (.ref b16)])) rfl (by rw [hml]; rfl) (argsL := [(.int p2)]) (rest := [(.ref b16)]) (lenOf pd_14 rfl) rfl (by show 2 * 0 + _ ≤ _; exact Nat.le_of_eq rfl) (hb hby at_98) (fun _ _ => ⟨rfl, rfl, (by decide : 5 + 1 ≤ _), (by decide : 14 + 1 ≤ _)⟩)
    dsimp only [Pt.U, Pt.locs, Pt.cells, Pt.slots] at X61 l61 y61 z61 st61 hQ61
    subst l61 y61 z61
    obtain ⟨b_61, rfl, N61q, K61, E_b_61, F_value_b_61⟩ := hQ61
    have N61 := Fr.app N60 N61q
    replace Vm15 := Vm15.keep K61 nin0
    replace A16 := A16.keep K61
    replace E_b_17 := E_b_17.keep K61
    replace E_c_17 := E_c_17.keep K61
    replace E_b_59 := E_b_59.keep K61
    replace F_value_b_59 := F_value_b_59.keep K61 nin0
    replace F_store_a1_60 := F_store_a1_60.keep K61 nin0
    replace F_size_a1_60 := F_size_a1_60.keep K61 nin0
    replace F_filled_sto_60 := F_filled_sto_60.keep K61 nin0
    replace F_items_sto_60 := F_items_sto_60.keep K61 nin0
    replace V_arr_60 := V_arr_60.keep K61 nin0
    replace O0 := O0.keep K61 all0
    replace KC := KC.trans K61 all0
    obtain ⟨cq62, kq62, q62a, q62b, q62c⟩ := isOf hZ rfl A16
    obtain ⟨_, _, ⟨T62, L62, kz62, nz62⟩, -, X62, ⟨Lc62, hQ62, l62, y62, z62⟩, st62⟩ := X61.virtualBack hx (y := y_12) (z := y_12) hown (mvT hZ (ww hw 37 rfl)) (mvT hZ (ww hw 38 rfl)) (notFace_of_selects (args := #[]) (mvT hZ (ww hw 40 rfl))) (mvT hZ (ww hw 40 rfl)) (mvT hZ (ww hw 39 rfl)) (by decide) (backOf (W := 0) (rmAddA l Z a0 hw [] b16 b_61 b17_b (1 : Int32) (1 : Int32) b17_c k_17 (4 : Int32) [(.ref b_59), .null, .null, .null] (2 : Int32) [(.ref b_59), (.ref b_61), .null, .null] T61.heap n0 (Nat.le_trans Z0 KC.1) O0 F_store_a1_60 F_size_a1_60 A16 E_b_17 F_filled_sto_60 F_items_sto_60 E_c_17 V_arr_60 E_b_61 g_b16 g_b17_b g_b17_c hq17_0 (by decide) (by decide) (by decide) (by decide) (by decide) rfl (Nat.le_of_ble_eq_true rfl)) hZ (ww hw 41 rfl) (ww hw 3 rfl) (by decide) (by decide)) q62a q62c (g := (mkF m 101 #[vi p1, vi p2, vi p3, vi p4, vi p5, vi p6, vi (2 : Int32), vi c1, vi c2, vr b5, vr b16, un] [(.ref b_61), (.ref b16)])) rfl (by rw [hml]; rfl) (Steps.refl _) (argsL := [(.ref b_61)]) (rest := []) (lenOf pd_15 rfl) rfl (by show 2 * 0 + _ ≤ _; exact Nat.le_of_eq rfl) (hb hby at_101) (fun _ _ => ⟨rfl, rfl, (by decide : 6 + 0 ≤ _), (by decide : 15 + 0 ≤ _)⟩)
    dsimp only [Pt.U, Pt.locs, Pt.cells, Pt.slots] at X62 l62 y62 z62 st62 hQ62
    subst l62 y62 z62
    obtain ⟨rfl, N62q, K62, F_store_a1_62, F_size_a1_62, F_filled_sto_62, F_items_sto_62, V_arr_62⟩ := hQ62
    have N62 := Fr.app N61 N62q
    have nec_b_61_b17_c : b_61 ≠ b17_c := Exa.ne E_b_61 E_c_17 (by decide)
    have nec_b_61_b17_b : b_61 ≠ b17_b := Exa.ne E_b_61 E_b_17 (by decide)
    have nec_b_61_b16 : b_61 ≠ b16 := Exa.ne E_b_61 A16 (by decide)
    replace Vm15 := Vm15.keep K62 (ninS ne_b5_b16 (ninS ne_b5_b17_b (ninS ne_b5_b17_c nin0)))
    replace A16 := A16.keep K62
    replace E_b_17 := E_b_17.keep K62
    replace E_c_17 := E_c_17.keep K62
    replace E_b_59 := E_b_59.keep K62
    replace F_value_b_59 := F_value_b_59.keep K62 (ninS nec_b_59_b16 (ninS nec_b_59_b17_b (ninS nec_b_59_b17_c nin0)))
    replace E_b_61 := E_b_61.keep K62
    replace F_value_b_61 := F_value_b_61.keep K62 (ninS nec_b_61_b16 (ninS nec_b_61_b17_b (ninS nec_b_61_b17_c nin0)))
    replace O0 := O0.keep K62 (allS g_b16 (allS g_b17_b (allS g_b17_c all0)))
    replace KC := KC.trans K62 (allS (Or.inr sz_b16) (allS (Or.inr sz_b17_b) (allS (Or.inr sz_b17_c) all0)))
    have pre63 : ∀ t, Steps p.tables e below (T62.setTop (mkF m 152 #[vi p1, vi p2, vi p3, vi p4, vi p5, vi p6, vi (2 : Int32), vi c1, vi c2, vr b5, vr b16, un] [(.int c1)])) t → Steps p.tables e below (s₁.setTop (entryFrame m #[(.int p1), (.int p2), (.int p3), (.int p4), (.int p5), (.int p6)] maxLocals)) t := by
      intro t kt
      refine pre18 t ?_
      show SS p e below m T17 75 #[vi p1, vi p2, vi p3, vi p4, vi p5, vi p6, vi (2 : Int32), vi c1, vi c2, vr b5, vr b16, un] [] _
      refine XS.iload X17.here hx rfl (hb hby at_75) rfl ?_
      show SS p e below m T17 77 #[vi p1, vi p2, vi p3, vi p4, vi p5, vi p6, vi (2 : Int32), vi c1, vi c2, vr b5, vr b16, un] [(.int (2 : Int32))] _
      refine XS.ifNo X17.here hx rfl (hb hby at_77) rfl ((if0 _ _).trans (tlt (by decide)).2.2.2) ?_
      show SS p e below m T17 80 #[vi p1, vi p2, vi p3, vi p4, vi p5, vi p6, vi (2 : Int32), vi c1, vi c2, vr b5, vr b16, un] [] _
      refine XS.aload X17.here hx rfl (hb hby at_80) rfl rfl ?_
      show SS p e below m T17 82 #[vi p1, vi p2, vi p3, vi p4, vi p5, vi p6, vi (2 : Int32), vi c1, vi c2, vr b5, vr b16, un] [(.ref b16)] _
      refine XS.iloadN X17.here hx rfl (hb hby at_82) rfl ?_
      show SS p e below m T17 83 #[vi p1, vi p2, vi p3, vi p4, vi p5, vi p6, vi (2 : Int32), vi c1, vi c2, vr b5, vr b16, un] [(.int p1), (.ref b16)] _
      refine st59 _ ?_
      show SS p e below m T59 86 #[vi p1, vi p2, vi p3, vi p4, vi p5, vi p6, vi (2 : Int32), vi c1, vi c2, vr b5, vr b16, un] [(.ref b_59), (.ref b16)] _
      refine st60.trans ?_
      show SS p e below m T60 89 #[vi p1, vi p2, vi p3, vi p4, vi p5, vi p6, vi (2 : Int32), vi c1, vi c2, vr b5, vr b16, un] [] _
      refine XS.iload X60.here hx rfl (hb hby at_89) rfl ?_
      show SS p e below m T60 91 #[vi p1, vi p2, vi p3, vi p4, vi p5, vi p6, vi (2 : Int32), vi c1, vi c2, vr b5, vr b16, un] [(.int (2 : Int32))] _
      refine XS.iconst X60.here hx rfl (hb hby at_91) ?_
      show SS p e below m T60 92 #[vi p1, vi p2, vi p3, vi p4, vi p5, vi p6, vi (2 : Int32), vi c1, vi c2, vr b5, vr b16, un] [(.int (1 : Int32)), (.int (2 : Int32))] _
      refine XS.icmpNo X60.here hx rfl (hb hby at_92) rfl (tlt (by decide)).2.2.2 ?_
      show SS p e below m T60 95 #[vi p1, vi p2, vi p3, vi p4, vi p5, vi p6, vi (2 : Int32), vi c1, vi c2, vr b5, vr b16, un] [] _
      refine XS.aload X60.here hx rfl (hb hby at_95) rfl rfl ?_
      show SS p e below m T60 97 #[vi p1, vi p2, vi p3, vi p4, vi p5, vi p6, vi (2 : Int32), vi c1, vi c2, vr b5, vr b16, un] [(.ref b16)] _
      refine XS.iloadN X60.here hx rfl (hb hby at_97) rfl ?_
      show SS p e below m T60 98 #[vi p1, vi p2, vi p3, vi p4, vi p5, vi p6, vi (2 : Int32), vi c1, vi c2, vr b5, vr b16, un] [(.int p2), (.ref b16)] _
      refine st61 _ ?_
      show SS p e below m T61 101 #[vi p1, vi p2, vi p3, vi p4, vi p5, vi p6, vi (2 : Int32), vi c1, vi c2, vr b5, vr b16, un] [(.ref b_61), (.ref b16)] _
      refine st62.trans ?_
      show SS p e below m T62 104 #[vi p1, vi p2, vi p3, vi p4, vi p5, vi p6, vi (2 : Int32), vi c1, vi c2, vr b5, vr b16, un] [] _
      refine XS.iload X62.here hx rfl (hb hby at_104) rfl ?_
      show SS p e below m T62 106 #[vi p1, vi p2, vi p3, vi p4, vi p5, vi p6, vi (2 : Int32), vi c1, vi c2, vr b5, vr b16, un] [(.int (2 : Int32))] _
      refine XS.iconst X62.here hx rfl (hb hby at_106) ?_
      show SS p e below m T62 107 #[vi p1, vi p2, vi p3, vi p4, vi p5, vi p6, vi (2 : Int32), vi c1, vi c2, vr b5, vr b16, un] [(.int (2 : Int32)), (.int (2 : Int32))] _
      refine XS.icmpYes X62.here hx rfl (pc0 := 107) (pc' := 119) rfl (hb hby at_107) rfl (flt (by decide)).2.2.2 (by decide) (by decide) ?_
      show SS p e below m T62 119 #[vi p1, vi p2, vi p3, vi p4, vi p5, vi p6, vi (2 : Int32), vi c1, vi c2, vr b5, vr b16, un] [] _
      refine XS.iload X62.here hx rfl (hb hby at_119) rfl ?_
      show SS p e below m T62 121 #[vi p1, vi p2, vi p3, vi p4, vi p5, vi p6, vi (2 : Int32), vi c1, vi c2, vr b5, vr b16, un] [(.int (2 : Int32))] _
      refine XS.iconst X62.here hx rfl (hb hby at_121) ?_
      show SS p e below m T62 122 #[vi p1, vi p2, vi p3, vi p4, vi p5, vi p6, vi (2 : Int32), vi c1, vi c2, vr b5, vr b16, un] [(.int (3 : Int32)), (.int (2 : Int32))] _
      refine XS.icmpYes X62.here hx rfl (pc0 := 122) (pc' := 134) rfl (hb hby at_122) rfl (flt (by decide)).2.2.2 (by decide) (by decide) ?_
      show SS p e below m T62 134 #[vi p1, vi p2, vi p3, vi p4, vi p5, vi p6, vi (2 : Int32), vi c1, vi c2, vr b5, vr b16, un] [] _
      refine XS.iload X62.here hx rfl (hb hby at_134) rfl ?_
      show SS p e below m T62 136 #[vi p1, vi p2, vi p3, vi p4, vi p5, vi p6, vi (2 : Int32), vi c1, vi c2, vr b5, vr b16, un] [(.int (2 : Int32))] _
      refine XS.iconst X62.here hx rfl (hb hby at_136) ?_
      show SS p e below m T62 137 #[vi p1, vi p2, vi p3, vi p4, vi p5, vi p6, vi (2 : Int32), vi c1, vi c2, vr b5, vr b16, un] [(.int (4 : Int32)), (.int (2 : Int32))] _
      refine XS.icmpYes X62.here hx rfl (pc0 := 137) (pc' := 150) rfl (hb hby at_137) rfl (flt (by decide)).2.2.2 (by decide) (by decide) ?_
      show SS p e below m T62 150 #[vi p1, vi p2, vi p3, vi p4, vi p5, vi p6, vi (2 : Int32), vi c1, vi c2, vr b5, vr b16, un] [] _
      refine XS.iload X62.here hx rfl (hb hby at_150) rfl ?_
      exact kt
    by_cases hc152_64 : c1 = (0 : Int32)
    · obtain ⟨cq65, kq65, q65a, q65b, q65c⟩ := isOf hZ rfl A16
      obtain ⟨_, _, ⟨T65, L65, kz65, nz65⟩, -, X65, ⟨Lc65, hQ65, l65, y65, z65⟩, st65⟩ := X62.virtualBack hx (y := y_15) (z := y_15) hown (mvT hZ (ww hw 49 rfl)) (mvT hZ (ww hw 50 rfl)) (notFace_of_selects (args := #[]) (mvT hZ (ww hw 52 rfl))) (mvT hZ (ww hw 52 rfl)) (mvT hZ (ww hw 51 rfl)) (by decide) (backOf (W := 0) (rmIt l Z a0 hw [] b16 b17_b (2 : Int32) b17_c T62.heap n0 (Nat.le_trans Z0 KC.1) O0 F_store_a1_62 F_size_a1_62 F_items_sto_62) hZ (ww hw 53 rfl) (ww hw 3 rfl) (by decide) (by decide)) q65a q65c (g := (mkF m 176 #[vi p1, vi p2, vi p3, vi p4, vi p5, vi p6, vi (2 : Int32), vi c1, vi c2, vr b5, vr b16, un] [(.ref b16)])) rfl (by rw [hml]; rfl) (Steps.refl _) (argsL := []) (rest := []) (lenOf pd_13 rfl) rfl (by show 2 * 0 + _ ≤ _; exact Nat.le_of_eq rfl) (hb hby at_176) (fun _ _ => ⟨rfl, rfl, (by decide : 6 + 1 ≤ _), (by decide : 15 + 3 ≤ _)⟩)
      dsimp only [Pt.U, Pt.locs, Pt.cells, Pt.slots] at X65 l65 y65 z65 st65 hQ65
      subst l65 y65 z65
      obtain ⟨b65_b, rfl, N65q, K65, sz_b65_b, E_b_65, F_val_length_b_65, F_val_items_b_65, F_next_b_65⟩ := hQ65
      have N65 := Fr.app N62 N65q
      have ne_b5_b65_b : b5 ≠ b65_b := Nat.ne_of_lt (Nat.lt_of_lt_of_le Vm15.lt sz_b65_b)
      have ne_b16_b65_b : b16 ≠ b65_b := Nat.ne_of_lt (Nat.lt_of_lt_of_le A16.lt sz_b65_b)
      have ne_b17_b_b65_b : b17_b ≠ b65_b := Nat.ne_of_lt (Nat.lt_of_lt_of_le E_b_17.lt sz_b65_b)
      have ne_b17_c_b65_b : b17_c ≠ b65_b := Nat.ne_of_lt (Nat.lt_of_lt_of_le E_c_17.lt sz_b65_b)
      have ne_b_59_b65_b : b_59 ≠ b65_b := Nat.ne_of_lt (Nat.lt_of_lt_of_le E_b_59.lt sz_b65_b)
      have ne_b_61_b65_b : b_61 ≠ b65_b := Nat.ne_of_lt (Nat.lt_of_lt_of_le E_b_61.lt sz_b65_b)
      have g_b65_b : n0 ≤ b65_b := Nat.le_trans (Nat.le_trans Z0 KC.1) sz_b65_b
      replace sz_b65_b : h0.size ≤ b65_b := Nat.le_trans KC.1 sz_b65_b
      replace Vm15 := Vm15.keep K65 nin0
      replace A16 := A16.keep K65
      replace E_b_17 := E_b_17.keep K65
      replace E_c_17 := E_c_17.keep K65
      replace E_b_59 := E_b_59.keep K65
      replace F_value_b_59 := F_value_b_59.keep K65 nin0
      replace E_b_61 := E_b_61.keep K65
      replace F_value_b_61 := F_value_b_61.keep K65 nin0
      replace F_store_a1_62 := F_store_a1_62.keep K65 nin0
      replace F_size_a1_62 := F_size_a1_62.keep K65 nin0
      replace F_filled_sto_62 := F_filled_sto_62.keep K65 nin0
      replace F_items_sto_62 := F_items_sto_62.keep K65 nin0
      replace V_arr_62 := V_arr_62.keep K65 nin0
      replace O0 := O0.keep K65 all0
      replace KC := KC.trans K65 all0
      have pre66 : ∀ t, Steps p.tables e below (T65.setTop (mkF m 183 #[vi p1, vi p2, vi p3, vi p4, vi p5, vi p6, vi (2 : Int32), vi c1, vi c2, vr b5, vr b16, vr b65_b] [(.int c2)])) t → Steps p.tables e below (s₁.setTop (entryFrame m #[(.int p1), (.int p2), (.int p3), (.int p4), (.int p5), (.int p6)] maxLocals)) t := by
        intro t kt
        refine pre63 t ?_
        show SS p e below m T62 152 #[vi p1, vi p2, vi p3, vi p4, vi p5, vi p6, vi (2 : Int32), vi c1, vi c2, vr b5, vr b16, un] [(.int c1)] _
        refine XS.ifYes X62.here hx rfl (pc0 := 152) (pc' := 174) rfl (hb hby at_152) rfl ((if0 _ _).trans (teq hc152_64).1) (by decide) (by decide) ?_
        show SS p e below m T62 174 #[vi p1, vi p2, vi p3, vi p4, vi p5, vi p6, vi (2 : Int32), vi c1, vi c2, vr b5, vr b16, un] [] _
        refine XS.aload X62.here hx rfl (hb hby at_174) rfl rfl ?_
        show SS p e below m T62 176 #[vi p1, vi p2, vi p3, vi p4, vi p5, vi p6, vi (2 : Int32), vi c1, vi c2, vr b5, vr b16, un] [(.ref b16)] _
        refine st65.trans ?_
        show SS p e below m T65 179 #[vi p1, vi p2, vi p3, vi p4, vi p5, vi p6, vi (2 : Int32), vi c1, vi c2, vr b5, vr b16, un] [(.ref b65_b)] _
        refine XS.astore X65.here hx rfl (hb hby at_179) rfl rfl (l' := #[vi p1, vi p2, vi p3, vi p4, vi p5, vi p6, vi (2 : Int32), vi c1, vi c2, vr b5, vr b16, vr b65_b]) rfl ?_
        show SS p e below m T65 181 #[vi p1, vi p2, vi p3, vi p4, vi p5, vi p6, vi (2 : Int32), vi c1, vi c2, vr b5, vr b16, vr b65_b] [] _
        refine XS.iload X65.here hx rfl (hb hby at_181) rfl ?_
        exact kt
      by_cases hc183_67 : c2 = (0 : Int32)
      · obtain ⟨T68, h68, L68, X68, e68, N68, K68, st68⟩ := tail2 hw X65 hx hZ hby hml hown p1 p2 p3 p4 p5 p6 c1 c2 b5 b16 b65_b b17_c k_17 (4 : Int32) [(.ref b_59), (.ref b_61), .null, .null] k5 b_59 b_61 T65.heap n0 rfl (Nat.le_trans Z0 KC.1) O0 N65 F_next_b_65 F_val_length_b_65 F_val_items_b_65 E_b_65 E_c_17 V_arr_62 Vm15 g_b65_b ne_b5_b65_b E_b_59 F_value_b_59 rfl (by decide) E_b_61 F_value_b_61 rfl (by decide) (by decide) (by decide) (by decide) (by decide)
        replace Vm15 := Vm15.keep K68 (ninS ne_b5_b65_b nin0)
        replace A16 := A16.keep K68
        replace E_b_17 := E_b_17.keep K68
        replace E_c_17 := E_c_17.keep K68
        replace E_b_59 := E_b_59.keep K68
        replace F_value_b_59 := F_value_b_59.keep K68 (ninS ne_b_59_b65_b nin0)
        replace E_b_61 := E_b_61.keep K68
        replace F_value_b_61 := F_value_b_61.keep K68 (ninS ne_b_61_b65_b nin0)
        replace F_store_a1_62 := F_store_a1_62.keep K68 (ninS ne_b16_b65_b nin0)
        replace F_size_a1_62 := F_size_a1_62.keep K68 (ninS ne_b16_b65_b nin0)
        replace F_filled_sto_62 := F_filled_sto_62.keep K68 (ninS ne_b17_b_b65_b nin0)
        replace F_items_sto_62 := F_items_sto_62.keep K68 (ninS ne_b17_b_b65_b nin0)
        replace V_arr_62 := V_arr_62.keep K68 (ninS ne_b17_c_b65_b nin0)
        replace E_b_65 := E_b_65.keep K68
        replace O0 := O0.keep K68 (allS g_b65_b all0)
        replace KC := KC.trans K68 (allS (Or.inr sz_b65_b) all0)
        obtain ⟨fs, hr, hrun, hended, hW, hsame⟩ := X68.leave (v := some (.int (1 : Int32))) (fun h => by rw [Bd.returns] at h; cases h)
        refine ⟨_, _, pre66 _ ?_, hrun, hended, _, _, rfl, ?_, ⟨_, rfl⟩, hW, hsame.mono (by decide) (by decide)⟩
        · show SS p e below m T65 183 #[vi p1, vi p2, vi p3, vi p4, vi p5, vi p6, vi (2 : Int32), vi c1, vi c2, vr b5, vr b16, vr b65_b] [(.int c2)] _
          refine XS.ifYes X65.here hx rfl (pc0 := 183) (pc' := 197) rfl (hb hby at_183) rfl ((if0 _ _).trans (teq hc183_67).1) (by decide) (by decide) ?_
          show SS p e below m T65 197 #[vi p1, vi p2, vi p3, vi p4, vi p5, vi p6, vi (2 : Int32), vi c1, vi c2, vr b5, vr b16, vr b65_b] [] _
          refine st68 _ ?_
          show SS p e below m T68 282 #[vi p1, vi p2, vi p3, vi p4, vi p5, vi p6, vi (2 : Int32), vi c1, vi c2, vr b5, vr b16, vr b65_b] [(.int (0 : Int32))] _
          refine XS.ifNo X68.here hx rfl (hb hby at_282) rfl ((if0 _ _).trans (teq (by decide)).2) ?_
          show SS p e below m T68 285 #[vi p1, vi p2, vi p3, vi p4, vi p5, vi p6, vi (2 : Int32), vi c1, vi c2, vr b5, vr b16, vr b65_b] [] _
          refine XS.iconst X68.here hx rfl (hb hby at_285) ?_
          show SS p e below m T68 286 #[vi p1, vi p2, vi p3, vi p4, vi p5, vi p6, vi (2 : Int32), vi c1, vi c2, vr b5, vr b16, vr b65_b] [(.int (1 : Int32))] _
          refine XS.goto X68.here hx rfl (pc0 := 286) (pc' := 290) rfl (hb hby at_286) (by decide) (by decide) ?_
          show SS p e below m T68 290 #[vi p1, vi p2, vi p3, vi p4, vi p5, vi p6, vi (2 : Int32), vi c1, vi c2, vr b5, vr b16, vr b65_b] [(.int (1 : Int32))] _
          exact retN X68 hx (t := .boolean) Bd.returns (by simp) (hb hby at_290) hr
        · show Q_rm0 Z p1 p2 p3 p4 p5 p6 cA cl mr h0 n0 _ T68.heap _
          rw [e68]
          exact ⟨rfl, N68, KC⟩
      · obtain ⟨_, _, ⟨T69, L69, kz69, nz69⟩, -, X69, ⟨Lc69, hQ69, l69, y69, z69⟩, st69⟩ := Jvm.LawKit.callS X65 hx (y := y_5) hown (mvT hZ (ww hw 30 rfl)) (mvT hZ (ww hw 31 rfl)) (mvT hZ (ww hw 32 rfl)) (mvT hZ (ww hw 33 rfl)) (by decide) (backOf (W := 1) (rmVo l Z a0 hw [] (p2 ^^^ p4) cA cl T65.heap n0 (Nat.le_trans Z0 KC.1) O0 S_high S_cache BX) hZ (ww hw 33 rfl) (ww hw 32 rfl) (by decide) (by decide)) (g := (mkF m 191 #[vi p1, vi p2, vi p3, vi p4, vi p5, vi p6, vi (2 : Int32), vi c1, vi c2, vr b5, vr b16, vr b65_b] [(.int (p2 ^^^ p4)), (.ref b16)])) rfl (by rw [hml]; rfl) (argsL := [(.int (p2 ^^^ p4))]) (rest := [(.ref b16)]) (lenOf pd_14 rfl) rfl (by show 2 * 0 + _ ≤ _; exact Nat.le_of_eq rfl) (hb hby at_191) (fun _ _ => ⟨rfl, rfl, (by decide : 7 + 1 ≤ _), (by decide : 18 + 1 ≤ _)⟩)
        dsimp only [Pt.U, Pt.locs, Pt.cells, Pt.slots] at X69 l69 y69 z69 st69 hQ69
        subst l69 y69 z69
        obtain ⟨b_69, rfl, N69q, K69, E_b_69, F_value_b_69⟩ := hQ69
        have N69 := Fr.app N65 N69q
        replace Vm15 := Vm15.keep K69 nin0
        replace A16 := A16.keep K69
        replace E_b_17 := E_b_17.keep K69
        replace E_c_17 := E_c_17.keep K69
        replace E_b_59 := E_b_59.keep K69
        replace F_value_b_59 := F_value_b_59.keep K69 nin0
        replace E_b_61 := E_b_61.keep K69
        replace F_value_b_61 := F_value_b_61.keep K69 nin0
        replace F_store_a1_62 := F_store_a1_62.keep K69 nin0
        replace F_size_a1_62 := F_size_a1_62.keep K69 nin0
        replace F_filled_sto_62 := F_filled_sto_62.keep K69 nin0
        replace F_items_sto_62 := F_items_sto_62.keep K69 nin0
        replace V_arr_62 := V_arr_62.keep K69 nin0
        replace E_b_65 := E_b_65.keep K69
        replace F_val_length_b_65 := F_val_length_b_65.keep K69 nin0
        replace F_val_items_b_65 := F_val_items_b_65.keep K69 nin0
        replace F_next_b_65 := F_next_b_65.keep K69 nin0
        replace O0 := O0.keep K69 all0
        replace KC := KC.trans K69 all0
        obtain ⟨cq70, kq70, q70a, q70b, q70c⟩ := isOf hZ rfl A16
        obtain ⟨_, _, ⟨T70, L70, kz70, nz70⟩, -, X70, ⟨Lc70, hQ70, l70, y70, z70⟩, st70⟩ := X69.virtualBack hx (y := y_12) (z := y_12) hown (mvT hZ (ww hw 37 rfl)) (mvT hZ (ww hw 38 rfl)) (notFace_of_selects (args := #[]) (mvT hZ (ww hw 40 rfl))) (mvT hZ (ww hw 40 rfl)) (mvT hZ (ww hw 39 rfl)) (by decide) (backOf (W := 0) (rmAddA l Z a0 hw [] b16 b_69 b17_b (2 : Int32) (2 : Int32) b17_c k_17 (4 : Int32) [(.ref b_59), (.ref b_61), .null, .null] (3 : Int32) [(.ref b_59), (.ref b_61), (.ref b_69), .null] T69.heap n0 (Nat.le_trans Z0 KC.1) O0 F_store_a1_62 F_size_a1_62 A16 E_b_17 F_filled_sto_62 F_items_sto_62 E_c_17 V_arr_62 E_b_69 g_b16 g_b17_b g_b17_c hq17_0 (by decide) (by decide) (by decide) (by decide) (by decide) rfl (Nat.le_of_ble_eq_true rfl)) hZ (ww hw 41 rfl) (ww hw 3 rfl) (by decide) (by decide)) q70a q70c (g := (mkF m 194 #[vi p1, vi p2, vi p3, vi p4, vi p5, vi p6, vi (2 : Int32), vi c1, vi c2, vr b5, vr b16, vr b65_b] [(.ref b_69), (.ref b16)])) rfl (by rw [hml]; rfl) (Steps.refl _) (argsL := [(.ref b_69)]) (rest := []) (lenOf pd_15 rfl) rfl (by show 2 * 0 + _ ≤ _; exact Nat.le_of_eq rfl) (hb hby at_194) (fun _ _ => ⟨rfl, rfl, (by decide : 8 + 0 ≤ _), (by decide : 19 + 0 ≤ _)⟩)
        dsimp only [Pt.U, Pt.locs, Pt.cells, Pt.slots] at X70 l70 y70 z70 st70 hQ70
        subst l70 y70 z70
        obtain ⟨rfl, N70q, K70, F_store_a1_70, F_size_a1_70, F_filled_sto_70, F_items_sto_70, V_arr_70⟩ := hQ70
        have N70 := Fr.app N69 N70q
        have nec_b_69_b17_c : b_69 ≠ b17_c := Exa.ne E_b_69 E_c_17 (by decide)
        have nec_b_69_b17_b : b_69 ≠ b17_b := Exa.ne E_b_69 E_b_17 (by decide)
        have nec_b_69_b16 : b_69 ≠ b16 := Exa.ne E_b_69 A16 (by decide)
        replace Vm15 := Vm15.keep K70 (ninS ne_b5_b16 (ninS ne_b5_b17_b (ninS ne_b5_b17_c nin0)))
        replace A16 := A16.keep K70
        replace E_b_17 := E_b_17.keep K70
        replace E_c_17 := E_c_17.keep K70
        replace E_b_59 := E_b_59.keep K70
        replace F_value_b_59 := F_value_b_59.keep K70 (ninS nec_b_59_b16 (ninS nec_b_59_b17_b (ninS nec_b_59_b17_c nin0)))
        replace E_b_61 := E_b_61.keep K70
        replace F_value_b_61 := F_value_b_61.keep K70 (ninS nec_b_61_b16 (ninS nec_b_61_b17_b (ninS nec_b_61_b17_c nin0)))
        replace E_b_65 := E_b_65.keep K70
        replace F_val_length_b_65 := F_val_length_b_65.keep K70 (ninS (Ne.symm ne_b16_b65_b) (ninS (Ne.symm ne_b17_b_b65_b) (ninS (Ne.symm ne_b17_c_b65_b) nin0)))
        replace F_val_items_b_65 := F_val_items_b_65.keep K70 (ninS (Ne.symm ne_b16_b65_b) (ninS (Ne.symm ne_b17_b_b65_b) (ninS (Ne.symm ne_b17_c_b65_b) nin0)))
        replace F_next_b_65 := F_next_b_65.keep K70 (ninS (Ne.symm ne_b16_b65_b) (ninS (Ne.symm ne_b17_b_b65_b) (ninS (Ne.symm ne_b17_c_b65_b) nin0)))
        replace E_b_69 := E_b_69.keep K70
        replace F_value_b_69 := F_value_b_69.keep K70 (ninS nec_b_69_b16 (ninS nec_b_69_b17_b (ninS nec_b_69_b17_c nin0)))
        replace O0 := O0.keep K70 (allS g_b16 (allS g_b17_b (allS g_b17_c all0)))
        replace KC := KC.trans K70 (allS (Or.inr sz_b16) (allS (Or.inr sz_b17_b) (allS (Or.inr sz_b17_c) all0)))
        obtain ⟨T71, h71, L71, X71, e71, N71, K71, st71⟩ := tail2 hw X70 hx hZ hby hml hown p1 p2 p3 p4 p5 p6 c1 c2 b5 b16 b65_b b17_c k_17 (4 : Int32) [(.ref b_59), (.ref b_61), (.ref b_69), .null] k5 b_59 b_61 T70.heap n0 rfl (Nat.le_trans Z0 KC.1) O0 N70 F_next_b_65 F_val_length_b_65 F_val_items_b_65 E_b_65 E_c_17 V_arr_70 Vm15 g_b65_b ne_b5_b65_b E_b_59 F_value_b_59 rfl (by decide) E_b_61 F_value_b_61 rfl (by decide) (by decide) (by decide) (by decide) (by decide)
        have nec_b_69_b65_b : b_69 ≠ b65_b := Exa.ne E_b_69 E_b_65 (by decide)
        replace Vm15 := Vm15.keep K71 (ninS ne_b5_b65_b nin0)
        replace A16 := A16.keep K71
        replace E_b_17 := E_b_17.keep K71
        replace E_c_17 := E_c_17.keep K71
        replace E_b_59 := E_b_59.keep K71
        replace F_value_b_59 := F_value_b_59.keep K71 (ninS ne_b_59_b65_b nin0)
        replace E_b_61 := E_b_61.keep K71
        replace F_value_b_61 := F_value_b_61.keep K71 (ninS ne_b_61_b65_b nin0)
        replace E_b_65 := E_b_65.keep K71
        replace E_b_69 := E_b_69.keep K71
        replace F_value_b_69 := F_value_b_69.keep K71 (ninS nec_b_69_b65_b nin0)
        replace F_store_a1_70 := F_store_a1_70.keep K71 (ninS ne_b16_b65_b nin0)
        replace F_size_a1_70 := F_size_a1_70.keep K71 (ninS ne_b16_b65_b nin0)
        replace F_filled_sto_70 := F_filled_sto_70.keep K71 (ninS ne_b17_b_b65_b nin0)
        replace F_items_sto_70 := F_items_sto_70.keep K71 (ninS ne_b17_b_b65_b nin0)
        replace V_arr_70 := V_arr_70.keep K71 (ninS ne_b17_c_b65_b nin0)
        replace O0 := O0.keep K71 (allS g_b65_b all0)
        replace KC := KC.trans K71 (allS (Or.inr sz_b65_b) all0)
        obtain ⟨fs, hr, hrun, hended, hW, hsame⟩ := X71.leave (v := some (.int (1 : Int32))) (fun h => by rw [Bd.returns] at h; cases h)
        refine ⟨_, _, pre66 _ ?_, hrun, hended, _, _, rfl, ?_, ⟨_, rfl⟩, hW, hsame.mono (by decide) (by decide)⟩
        · show SS p e below m T65 183 #[vi p1, vi p2, vi p3, vi p4, vi p5, vi p6, vi (2 : Int32), vi c1, vi c2, vr b5, vr b16, vr b65_b] [(.int c2)] _
          refine XS.ifNo X65.here hx rfl (hb hby at_183) rfl ((if0 _ _).trans (feq hc183_67).1) ?_
          show SS p e below m T65 186 #[vi p1, vi p2, vi p3, vi p4, vi p5, vi p6, vi (2 : Int32), vi c1, vi c2, vr b5, vr b16, vr b65_b] [] _
          refine XS.aload X65.here hx rfl (hb hby at_186) rfl rfl ?_
          show SS p e below m T65 188 #[vi p1, vi p2, vi p3, vi p4, vi p5, vi p6, vi (2 : Int32), vi c1, vi c2, vr b5, vr b16, vr b65_b] [(.ref b16)] _
          refine XS.iloadN X65.here hx rfl (hb hby at_188) rfl ?_
          show SS p e below m T65 189 #[vi p1, vi p2, vi p3, vi p4, vi p5, vi p6, vi (2 : Int32), vi c1, vi c2, vr b5, vr b16, vr b65_b] [(.int p2), (.ref b16)] _
          refine XS.iloadN X65.here hx rfl (hb hby at_189) rfl ?_
          show SS p e below m T65 190 #[vi p1, vi p2, vi p3, vi p4, vi p5, vi p6, vi (2 : Int32), vi c1, vi c2, vr b5, vr b16, vr b65_b] [(.int p4), (.int p2), (.ref b16)] _
          refine XS.ixor X65.here hx rfl (hb hby at_190) rfl ?_
          show SS p e below m T65 191 #[vi p1, vi p2, vi p3, vi p4, vi p5, vi p6, vi (2 : Int32), vi c1, vi c2, vr b5, vr b16, vr b65_b] [(.int (p2 ^^^ p4)), (.ref b16)] _
          refine st69 _ ?_
          show SS p e below m T69 194 #[vi p1, vi p2, vi p3, vi p4, vi p5, vi p6, vi (2 : Int32), vi c1, vi c2, vr b5, vr b16, vr b65_b] [(.ref b_69), (.ref b16)] _
          refine st70.trans ?_
          show SS p e below m T70 197 #[vi p1, vi p2, vi p3, vi p4, vi p5, vi p6, vi (2 : Int32), vi c1, vi c2, vr b5, vr b16, vr b65_b] [] _
          refine st71 _ ?_
          show SS p e below m T71 282 #[vi p1, vi p2, vi p3, vi p4, vi p5, vi p6, vi (2 : Int32), vi c1, vi c2, vr b5, vr b16, vr b65_b] [(.int (0 : Int32))] _
          refine XS.ifNo X71.here hx rfl (hb hby at_282) rfl ((if0 _ _).trans (teq (by decide)).2) ?_
          show SS p e below m T71 285 #[vi p1, vi p2, vi p3, vi p4, vi p5, vi p6, vi (2 : Int32), vi c1, vi c2, vr b5, vr b16, vr b65_b] [] _
          refine XS.iconst X71.here hx rfl (hb hby at_285) ?_
          show SS p e below m T71 286 #[vi p1, vi p2, vi p3, vi p4, vi p5, vi p6, vi (2 : Int32), vi c1, vi c2, vr b5, vr b16, vr b65_b] [(.int (1 : Int32))] _
          refine XS.goto X71.here hx rfl (pc0 := 286) (pc' := 290) rfl (hb hby at_286) (by decide) (by decide) ?_
          show SS p e below m T71 290 #[vi p1, vi p2, vi p3, vi p4, vi p5, vi p6, vi (2 : Int32), vi c1, vi c2, vr b5, vr b16, vr b65_b] [(.int (1 : Int32))] _
          exact retN X71 hx (t := .boolean) Bd.returns (by simp) (hb hby at_290) hr
        · show Q_rm0 Z p1 p2 p3 p4 p5 p6 cA cl mr h0 n0 _ T71.heap _
          rw [e71]
          exact ⟨rfl, N71, KC⟩
    · obtain ⟨cq72, kq72, q72a, q72b, q72c⟩ := isOf hZ rfl A16
      obtain ⟨_, _, ⟨T72, L72, kz72, nz72⟩, -, X72, ⟨Lc72, hQ72, l72, y72, z72⟩, st72⟩ := X62.virtualBack hx (y := y_13) (z := y_13) hown (mvT hZ (ww hw 135 rfl)) (mvT hZ (ww hw 136 rfl)) (notFace_of_selects (args := #[]) (mvT hZ (ww hw 138 rfl))) (mvT hZ (ww hw 138 rfl)) (mvT hZ (ww hw 137 rfl)) (by decide) (backOf (W := 0) (rmCp l Z a0 hw [] b16 b17_b (2 : Int32) T62.heap n0 (Nat.le_trans Z0 KC.1) O0 F_store_a1_62 F_size_a1_62) hZ (ww hw 139 rfl) (ww hw 3 rfl) (by decide) (by decide)) q72a q72c (g := (mkF m 157 #[vi p1, vi p2, vi p3, vi p4, vi p5, vi p6, vi (2 : Int32), vi c1, vi c2, vr b5, vr b16, un] [(.ref b16)])) rfl (by rw [hml]; rfl) (Steps.refl _) (argsL := []) (rest := []) (lenOf pd_16 rfl) rfl (by show 2 * 0 + _ ≤ _; exact Nat.le_of_eq rfl) (hb hby at_157) (fun _ _ => ⟨rfl, rfl, (by decide : 6 + 1 ≤ _), (by decide : 15 + 2 ≤ _)⟩)
      dsimp only [Pt.U, Pt.locs, Pt.cells, Pt.slots] at X72 l72 y72 z72 st72 hQ72
      subst l72 y72 z72
      obtain ⟨b72_b, rfl, N72q, K72, sz_b72_b, E_b_72, F_store_b_72, F_size_b_72⟩ := hQ72
      have N72 := Fr.app N62 N72q
      have ne_b5_b72_b : b5 ≠ b72_b := Nat.ne_of_lt (Nat.lt_of_lt_of_le Vm15.lt sz_b72_b)
      have ne_b16_b72_b : b16 ≠ b72_b := Nat.ne_of_lt (Nat.lt_of_lt_of_le A16.lt sz_b72_b)
      have ne_b17_b_b72_b : b17_b ≠ b72_b := Nat.ne_of_lt (Nat.lt_of_lt_of_le E_b_17.lt sz_b72_b)
      have ne_b17_c_b72_b : b17_c ≠ b72_b := Nat.ne_of_lt (Nat.lt_of_lt_of_le E_c_17.lt sz_b72_b)
      have ne_b_59_b72_b : b_59 ≠ b72_b := Nat.ne_of_lt (Nat.lt_of_lt_of_le E_b_59.lt sz_b72_b)
      have ne_b_61_b72_b : b_61 ≠ b72_b := Nat.ne_of_lt (Nat.lt_of_lt_of_le E_b_61.lt sz_b72_b)
      have g_b72_b : n0 ≤ b72_b := Nat.le_trans (Nat.le_trans Z0 KC.1) sz_b72_b
      replace sz_b72_b : h0.size ≤ b72_b := Nat.le_trans KC.1 sz_b72_b
      replace Vm15 := Vm15.keep K72 nin0
      replace A16 := A16.keep K72
      replace E_b_17 := E_b_17.keep K72
      replace E_c_17 := E_c_17.keep K72
      replace E_b_59 := E_b_59.keep K72
      replace F_value_b_59 := F_value_b_59.keep K72 nin0
      replace E_b_61 := E_b_61.keep K72
      replace F_value_b_61 := F_value_b_61.keep K72 nin0
      replace F_store_a1_62 := F_store_a1_62.keep K72 nin0
      replace F_size_a1_62 := F_size_a1_62.keep K72 nin0
      replace F_filled_sto_62 := F_filled_sto_62.keep K72 nin0
      replace F_items_sto_62 := F_items_sto_62.keep K72 nin0
      replace V_arr_62 := V_arr_62.keep K72 nin0
      replace O0 := O0.keep K72 all0
      replace KC := KC.trans K72 all0
      obtain ⟨_, _, ⟨T73, L73, kz73, nz73⟩, -, X73, ⟨Lc73, hQ73, l73, y73, z73⟩, st73⟩ := Jvm.LawKit.callS X72 hx (y := y_5) hown (mvT hZ (ww hw 30 rfl)) (mvT hZ (ww hw 31 rfl)) (mvT hZ (ww hw 32 rfl)) (mvT hZ (ww hw 33 rfl)) (by decide) (backOf (W := 1) (rmVo l Z a0 hw [] (p1 ^^^ p5) cA cl T72.heap n0 (Nat.le_trans Z0 KC.1) O0 S_high S_cache BX) hZ (ww hw 33 rfl) (ww hw 32 rfl) (by decide) (by decide)) (g := (mkF m 168 #[vi p1, vi p2, vi p3, vi p4, vi p5, vi p6, vi (2 : Int32), vi c1, vi c2, vr b5, vr b16, vr b72_b] [(.int (p1 ^^^ p5)), (.ref b72_b)])) rfl (by rw [hml]; rfl) (argsL := [(.int (p1 ^^^ p5))]) (rest := [(.ref b72_b)]) (lenOf pd_14 rfl) rfl (by show 2 * 0 + _ ≤ _; exact Nat.le_of_eq rfl) (hb hby at_168) (fun _ _ => ⟨rfl, rfl, (by decide : 7 + 1 ≤ _), (by decide : 17 + 1 ≤ _)⟩)
      dsimp only [Pt.U, Pt.locs, Pt.cells, Pt.slots] at X73 l73 y73 z73 st73 hQ73
      subst l73 y73 z73
      obtain ⟨b_73, rfl, N73q, K73, E_b_73, F_value_b_73⟩ := hQ73
      have N73 := Fr.app N72 N73q
      replace Vm15 := Vm15.keep K73 nin0
      replace A16 := A16.keep K73
      replace E_b_17 := E_b_17.keep K73
      replace E_c_17 := E_c_17.keep K73
      replace E_b_59 := E_b_59.keep K73
      replace F_value_b_59 := F_value_b_59.keep K73 nin0
      replace E_b_61 := E_b_61.keep K73
      replace F_value_b_61 := F_value_b_61.keep K73 nin0
      replace F_store_a1_62 := F_store_a1_62.keep K73 nin0
      replace F_size_a1_62 := F_size_a1_62.keep K73 nin0
      replace F_filled_sto_62 := F_filled_sto_62.keep K73 nin0
      replace F_items_sto_62 := F_items_sto_62.keep K73 nin0
      replace V_arr_62 := V_arr_62.keep K73 nin0
      replace E_b_72 := E_b_72.keep K73
      replace F_store_b_72 := F_store_b_72.keep K73 nin0
      replace F_size_b_72 := F_size_b_72.keep K73 nin0
      replace O0 := O0.keep K73 all0
      replace KC := KC.trans K73 all0
      obtain ⟨cq74, kq74, q74a, q74b, q74c⟩ := isOf hZ rfl E_b_72
      obtain ⟨_, _, ⟨T74, L74, kz74, nz74⟩, -, X74, ⟨Lc74, hQ74, l74, y74, z74⟩, st74⟩ := X73.virtualBack hx (y := y_12) (z := y_12) hown (mvT hZ (ww hw 37 rfl)) (mvT hZ (ww hw 38 rfl)) (notFace_of_selects (args := #[]) (mvT hZ (ww hw 40 rfl))) (mvT hZ (ww hw 40 rfl)) (mvT hZ (ww hw 39 rfl)) (by decide) (backOf (W := 0) (rmAddA l Z a0 hw [] b72_b b_73 b17_b (2 : Int32) (2 : Int32) b17_c k_17 (4 : Int32) [(.ref b_59), (.ref b_61), .null, .null] (3 : Int32) [(.ref b_59), (.ref b_61), (.ref b_73), .null] T73.heap n0 (Nat.le_trans Z0 KC.1) O0 F_store_b_72 F_size_b_72 E_b_72 E_b_17 F_filled_sto_62 F_items_sto_62 E_c_17 V_arr_62 E_b_73 g_b72_b g_b17_b g_b17_c hq17_0 (by decide) (by decide) (by decide) (by decide) (by decide) rfl (Nat.le_of_ble_eq_true rfl)) hZ (ww hw 41 rfl) (ww hw 3 rfl) (by decide) (by decide)) q74a q74c (g := (mkF m 171 #[vi p1, vi p2, vi p3, vi p4, vi p5, vi p6, vi (2 : Int32), vi c1, vi c2, vr b5, vr b16, vr b72_b] [(.ref b_73), (.ref b72_b)])) rfl (by rw [hml]; rfl) (Steps.refl _) (argsL := [(.ref b_73)]) (rest := []) (lenOf pd_15 rfl) rfl (by show 2 * 0 + _ ≤ _; exact Nat.le_of_eq rfl) (hb hby at_171) (fun _ _ => ⟨rfl, rfl, (by decide : 8 + 0 ≤ _), (by decide : 18 + 0 ≤ _)⟩)
      dsimp only [Pt.U, Pt.locs, Pt.cells, Pt.slots] at X74 l74 y74 z74 st74 hQ74
      subst l74 y74 z74
      obtain ⟨rfl, N74q, K74, F_store_a1_74, F_size_a1_74, F_filled_sto_74, F_items_sto_74, V_arr_74⟩ := hQ74
      have N74 := Fr.app N73 N74q
      have nec_b_73_b17_c : b_73 ≠ b17_c := Exa.ne E_b_73 E_c_17 (by decide)
      have nec_b_73_b17_b : b_73 ≠ b17_b := Exa.ne E_b_73 E_b_17 (by decide)
      have nec_b_73_b72_b : b_73 ≠ b72_b := Exa.ne E_b_73 E_b_72 (by decide)
      replace Vm15 := Vm15.keep K74 (ninS ne_b5_b72_b (ninS ne_b5_b17_b (ninS ne_b5_b17_c nin0)))
      replace A16 := A16.keep K74
      replace E_b_17 := E_b_17.keep K74
      replace E_c_17 := E_c_17.keep K74
      replace E_b_59 := E_b_59.keep K74
      replace F_value_b_59 := F_value_b_59.keep K74 (ninS ne_b_59_b72_b (ninS nec_b_59_b17_b (ninS nec_b_59_b17_c nin0)))
      replace E_b_61 := E_b_61.keep K74
      replace F_value_b_61 := F_value_b_61.keep K74 (ninS ne_b_61_b72_b (ninS nec_b_61_b17_b (ninS nec_b_61_b17_c nin0)))
      replace F_store_a1_62 := F_store_a1_62.keep K74 (ninS ne_b16_b72_b (ninS ne_b16_b17_b (ninS ne_b16_b17_c nin0)))
      replace F_size_a1_62 := F_size_a1_62.keep K74 (ninS ne_b16_b72_b (ninS ne_b16_b17_b (ninS ne_b16_b17_c nin0)))
      replace E_b_72 := E_b_72.keep K74
      replace E_b_73 := E_b_73.keep K74
      replace F_value_b_73 := F_value_b_73.keep K74 (ninS nec_b_73_b72_b (ninS nec_b_73_b17_b (ninS nec_b_73_b17_c nin0)))
      replace O0 := O0.keep K74 (allS g_b72_b (allS g_b17_b (allS g_b17_c all0)))
      replace KC := KC.trans K74 (allS (Or.inr sz_b72_b) (allS (Or.inr sz_b17_b) (allS (Or.inr sz_b17_c) all0)))
      obtain ⟨cq75, kq75, q75a, q75b, q75c⟩ := isOf hZ rfl A16
      obtain ⟨_, _, ⟨T75, L75, kz75, nz75⟩, -, X75, ⟨Lc75, hQ75, l75, y75, z75⟩, st75⟩ := X74.virtualBack hx (y := y_15) (z := y_15) hown (mvT hZ (ww hw 49 rfl)) (mvT hZ (ww hw 50 rfl)) (notFace_of_selects (args := #[]) (mvT hZ (ww hw 52 rfl))) (mvT hZ (ww hw 52 rfl)) (mvT hZ (ww hw 51 rfl)) (by decide) (backOf (W := 0) (rmIt l Z a0 hw [] b16 b17_b (2 : Int32) b17_c T74.heap n0 (Nat.le_trans Z0 KC.1) O0 F_store_a1_62 F_size_a1_62 F_items_sto_74) hZ (ww hw 53 rfl) (ww hw 3 rfl) (by decide) (by decide)) q75a q75c (g := (mkF m 176 #[vi p1, vi p2, vi p3, vi p4, vi p5, vi p6, vi (2 : Int32), vi c1, vi c2, vr b5, vr b16, vr b72_b] [(.ref b16)])) rfl (by rw [hml]; rfl) (Steps.refl _) (argsL := []) (rest := []) (lenOf pd_13 rfl) rfl (by show 2 * 0 + _ ≤ _; exact Nat.le_of_eq rfl) (hb hby at_176) (fun _ _ => ⟨rfl, rfl, (by decide : 8 + 1 ≤ _), (by decide : 18 + 3 ≤ _)⟩)
      dsimp only [Pt.U, Pt.locs, Pt.cells, Pt.slots] at X75 l75 y75 z75 st75 hQ75
      subst l75 y75 z75
      obtain ⟨b75_b, rfl, N75q, K75, sz_b75_b, E_b_75, F_val_length_b_75, F_val_items_b_75, F_next_b_75⟩ := hQ75
      have N75 := Fr.app N74 N75q
      have ne_b5_b75_b : b5 ≠ b75_b := Nat.ne_of_lt (Nat.lt_of_lt_of_le Vm15.lt sz_b75_b)
      have ne_b16_b75_b : b16 ≠ b75_b := Nat.ne_of_lt (Nat.lt_of_lt_of_le A16.lt sz_b75_b)
      have ne_b17_b_b75_b : b17_b ≠ b75_b := Nat.ne_of_lt (Nat.lt_of_lt_of_le E_b_17.lt sz_b75_b)
      have ne_b17_c_b75_b : b17_c ≠ b75_b := Nat.ne_of_lt (Nat.lt_of_lt_of_le E_c_17.lt sz_b75_b)
      have ne_b_59_b75_b : b_59 ≠ b75_b := Nat.ne_of_lt (Nat.lt_of_lt_of_le E_b_59.lt sz_b75_b)
      have ne_b_61_b75_b : b_61 ≠ b75_b := Nat.ne_of_lt (Nat.lt_of_lt_of_le E_b_61.lt sz_b75_b)
      have ne_b72_b_b75_b : b72_b ≠ b75_b := Nat.ne_of_lt (Nat.lt_of_lt_of_le E_b_72.lt sz_b75_b)
      have ne_b_73_b75_b : b_73 ≠ b75_b := Nat.ne_of_lt (Nat.lt_of_lt_of_le E_b_73.lt sz_b75_b)
      have g_b75_b : n0 ≤ b75_b := Nat.le_trans (Nat.le_trans Z0 KC.1) sz_b75_b
      replace sz_b75_b : h0.size ≤ b75_b := Nat.le_trans KC.1 sz_b75_b
      replace Vm15 := Vm15.keep K75 nin0
      replace A16 := A16.keep K75
      replace E_b_17 := E_b_17.keep K75
      replace E_c_17 := E_c_17.keep K75
      replace E_b_59 := E_b_59.keep K75
      replace F_value_b_59 := F_value_b_59.keep K75 nin0
      replace E_b_61 := E_b_61.keep K75
      replace F_value_b_61 := F_value_b_61.keep K75 nin0
      replace F_store_a1_62 := F_store_a1_62.keep K75 nin0
      replace F_size_a1_62 := F_size_a1_62.keep K75 nin0
      replace E_b_72 := E_b_72.keep K75
      replace E_b_73 := E_b_73.keep K75
      replace F_value_b_73 := F_value_b_73.keep K75 nin0
      replace F_store_a1_74 := F_store_a1_74.keep K75 nin0
      replace F_size_a1_74 := F_size_a1_74.keep K75 nin0
      replace F_filled_sto_74 := F_filled_sto_74.keep K75 nin0
      replace F_items_sto_74 := F_items_sto_74.keep K75 nin0
      replace V_arr_74 := V_arr_74.keep K75 nin0
      replace O0 := O0.keep K75 all0
      replace KC := KC.trans K75 all0
      have pre76 : ∀ t, Steps p.tables e below (T75.setTop (mkF m 183 #[vi p1, vi p2, vi p3, vi p4, vi p5, vi p6, vi (2 : Int32), vi c1, vi c2, vr b5, vr b16, vr b75_b] [(.int c2)])) t → Steps p.tables e below (s₁.setTop (entryFrame m #[(.int p1), (.int p2), (.int p3), (.int p4), (.int p5), (.int p6)] maxLocals)) t := by
        intro t kt
        refine pre63 t ?_
        show SS p e below m T62 152 #[vi p1, vi p2, vi p3, vi p4, vi p5, vi p6, vi (2 : Int32), vi c1, vi c2, vr b5, vr b16, un] [(.int c1)] _
        refine XS.ifNo X62.here hx rfl (hb hby at_152) rfl ((if0 _ _).trans (feq hc152_64).1) ?_
        show SS p e below m T62 155 #[vi p1, vi p2, vi p3, vi p4, vi p5, vi p6, vi (2 : Int32), vi c1, vi c2, vr b5, vr b16, un] [] _
        refine XS.aload X62.here hx rfl (hb hby at_155) rfl rfl ?_
        show SS p e below m T62 157 #[vi p1, vi p2, vi p3, vi p4, vi p5, vi p6, vi (2 : Int32), vi c1, vi c2, vr b5, vr b16, un] [(.ref b16)] _
        refine st72.trans ?_
        show SS p e below m T72 160 #[vi p1, vi p2, vi p3, vi p4, vi p5, vi p6, vi (2 : Int32), vi c1, vi c2, vr b5, vr b16, un] [(.ref b72_b)] _
        refine XS.astore X72.here hx rfl (hb hby at_160) rfl rfl (l' := #[vi p1, vi p2, vi p3, vi p4, vi p5, vi p6, vi (2 : Int32), vi c1, vi c2, vr b5, vr b16, vr b72_b]) rfl ?_
        show SS p e below m T72 162 #[vi p1, vi p2, vi p3, vi p4, vi p5, vi p6, vi (2 : Int32), vi c1, vi c2, vr b5, vr b16, vr b72_b] [] _
        refine XS.aload X72.here hx rfl (hb hby at_162) rfl rfl ?_
        show SS p e below m T72 164 #[vi p1, vi p2, vi p3, vi p4, vi p5, vi p6, vi (2 : Int32), vi c1, vi c2, vr b5, vr b16, vr b72_b] [(.ref b72_b)] _
        refine XS.iloadN X72.here hx rfl (hb hby at_164) rfl ?_
        show SS p e below m T72 165 #[vi p1, vi p2, vi p3, vi p4, vi p5, vi p6, vi (2 : Int32), vi c1, vi c2, vr b5, vr b16, vr b72_b] [(.int p1), (.ref b72_b)] _
        refine XS.iload X72.here hx rfl (hb hby at_165) rfl ?_
        show SS p e below m T72 167 #[vi p1, vi p2, vi p3, vi p4, vi p5, vi p6, vi (2 : Int32), vi c1, vi c2, vr b5, vr b16, vr b72_b] [(.int p5), (.int p1), (.ref b72_b)] _
        refine XS.ixor X72.here hx rfl (hb hby at_167) rfl ?_
        show SS p e below m T72 168 #[vi p1, vi p2, vi p3, vi p4, vi p5, vi p6, vi (2 : Int32), vi c1, vi c2, vr b5, vr b16, vr b72_b] [(.int (p1 ^^^ p5)), (.ref b72_b)] _
        refine st73 _ ?_
        show SS p e below m T73 171 #[vi p1, vi p2, vi p3, vi p4, vi p5, vi p6, vi (2 : Int32), vi c1, vi c2, vr b5, vr b16, vr b72_b] [(.ref b_73), (.ref b72_b)] _
        refine st74.trans ?_
        show SS p e below m T74 174 #[vi p1, vi p2, vi p3, vi p4, vi p5, vi p6, vi (2 : Int32), vi c1, vi c2, vr b5, vr b16, vr b72_b] [] _
        refine XS.aload X74.here hx rfl (hb hby at_174) rfl rfl ?_
        show SS p e below m T74 176 #[vi p1, vi p2, vi p3, vi p4, vi p5, vi p6, vi (2 : Int32), vi c1, vi c2, vr b5, vr b16, vr b72_b] [(.ref b16)] _
        refine st75.trans ?_
        show SS p e below m T75 179 #[vi p1, vi p2, vi p3, vi p4, vi p5, vi p6, vi (2 : Int32), vi c1, vi c2, vr b5, vr b16, vr b72_b] [(.ref b75_b)] _
        refine XS.astore X75.here hx rfl (hb hby at_179) rfl rfl (l' := #[vi p1, vi p2, vi p3, vi p4, vi p5, vi p6, vi (2 : Int32), vi c1, vi c2, vr b5, vr b16, vr b75_b]) rfl ?_
        show SS p e below m T75 181 #[vi p1, vi p2, vi p3, vi p4, vi p5, vi p6, vi (2 : Int32), vi c1, vi c2, vr b5, vr b16, vr b75_b] [] _
        refine XS.iload X75.here hx rfl (hb hby at_181) rfl ?_
        exact kt
      by_cases hc183_77 : c2 = (0 : Int32)
      · obtain ⟨T78, h78, L78, X78, e78, N78, K78, st78⟩ := tail2 hw X75 hx hZ hby hml hown p1 p2 p3 p4 p5 p6 c1 c2 b5 b16 b75_b b17_c k_17 (4 : Int32) [(.ref b_59), (.ref b_61), (.ref b_73), .null] k5 b_59 b_61 T75.heap n0 rfl (Nat.le_trans Z0 KC.1) O0 N75 F_next_b_75 F_val_length_b_75 F_val_items_b_75 E_b_75 E_c_17 V_arr_74 Vm15 g_b75_b ne_b5_b75_b E_b_59 F_value_b_59 rfl (by decide) E_b_61 F_value_b_61 rfl (by decide) (by decide) (by decide) (by decide) (by decide)
        replace Vm15 := Vm15.keep K78 (ninS ne_b5_b75_b nin0)
        replace A16 := A16.keep K78
        replace E_b_17 := E_b_17.keep K78
        replace E_c_17 := E_c_17.keep K78
        replace E_b_59 := E_b_59.keep K78
        replace F_value_b_59 := F_value_b_59.keep K78 (ninS ne_b_59_b75_b nin0)
        replace E_b_61 := E_b_61.keep K78
        replace F_value_b_61 := F_value_b_61.keep K78 (ninS ne_b_61_b75_b nin0)
        replace F_store_a1_62 := F_store_a1_62.keep K78 (ninS ne_b16_b75_b nin0)
        replace F_size_a1_62 := F_size_a1_62.keep K78 (ninS ne_b16_b75_b nin0)
        replace E_b_72 := E_b_72.keep K78
        replace E_b_73 := E_b_73.keep K78
        replace F_value_b_73 := F_value_b_73.keep K78 (ninS ne_b_73_b75_b nin0)
        replace F_store_a1_74 := F_store_a1_74.keep K78 (ninS ne_b72_b_b75_b nin0)
        replace F_size_a1_74 := F_size_a1_74.keep K78 (ninS ne_b72_b_b75_b nin0)
        replace F_filled_sto_74 := F_filled_sto_74.keep K78 (ninS ne_b17_b_b75_b nin0)
        replace F_items_sto_74 := F_items_sto_74.keep K78 (ninS ne_b17_b_b75_b nin0)
        replace V_arr_74 := V_arr_74.keep K78 (ninS ne_b17_c_b75_b nin0)
        replace E_b_75 := E_b_75.keep K78
        replace O0 := O0.keep K78 (allS g_b75_b all0)
        replace KC := KC.trans K78 (allS (Or.inr sz_b75_b) all0)
        obtain ⟨fs, hr, hrun, hended, hW, hsame⟩ := X78.leave (v := some (.int (1 : Int32))) (fun h => by rw [Bd.returns] at h; cases h)
        refine ⟨_, _, pre76 _ ?_, hrun, hended, _, _, rfl, ?_, ⟨_, rfl⟩, hW, hsame.mono (by decide) (by decide)⟩
        · show SS p e below m T75 183 #[vi p1, vi p2, vi p3, vi p4, vi p5, vi p6, vi (2 : Int32), vi c1, vi c2, vr b5, vr b16, vr b75_b] [(.int c2)] _
          refine XS.ifYes X75.here hx rfl (pc0 := 183) (pc' := 197) rfl (hb hby at_183) rfl ((if0 _ _).trans (teq hc183_77).1) (by decide) (by decide) ?_
          show SS p e below m T75 197 #[vi p1, vi p2, vi p3, vi p4, vi p5, vi p6, vi (2 : Int32), vi c1, vi c2, vr b5, vr b16, vr b75_b] [] _
          refine st78 _ ?_
          show SS p e below m T78 282 #[vi p1, vi p2, vi p3, vi p4, vi p5, vi p6, vi (2 : Int32), vi c1, vi c2, vr b5, vr b16, vr b75_b] [(.int (0 : Int32))] _
          refine XS.ifNo X78.here hx rfl (hb hby at_282) rfl ((if0 _ _).trans (teq (by decide)).2) ?_
          show SS p e below m T78 285 #[vi p1, vi p2, vi p3, vi p4, vi p5, vi p6, vi (2 : Int32), vi c1, vi c2, vr b5, vr b16, vr b75_b] [] _
          refine XS.iconst X78.here hx rfl (hb hby at_285) ?_
          show SS p e below m T78 286 #[vi p1, vi p2, vi p3, vi p4, vi p5, vi p6, vi (2 : Int32), vi c1, vi c2, vr b5, vr b16, vr b75_b] [(.int (1 : Int32))] _
          refine XS.goto X78.here hx rfl (pc0 := 286) (pc' := 290) rfl (hb hby at_286) (by decide) (by decide) ?_
          show SS p e below m T78 290 #[vi p1, vi p2, vi p3, vi p4, vi p5, vi p6, vi (2 : Int32), vi c1, vi c2, vr b5, vr b16, vr b75_b] [(.int (1 : Int32))] _
          exact retN X78 hx (t := .boolean) Bd.returns (by simp) (hb hby at_290) hr
        · show Q_rm0 Z p1 p2 p3 p4 p5 p6 cA cl mr h0 n0 _ T78.heap _
          rw [e78]
          exact ⟨rfl, N78, KC⟩
      · obtain ⟨_, _, ⟨T79, L79, kz79, nz79⟩, -, X79, ⟨Lc79, hQ79, l79, y79, z79⟩, st79⟩ := Jvm.LawKit.callS X75 hx (y := y_5) hown (mvT hZ (ww hw 30 rfl)) (mvT hZ (ww hw 31 rfl)) (mvT hZ (ww hw 32 rfl)) (mvT hZ (ww hw 33 rfl)) (by decide) (backOf (W := 1) (rmVo l Z a0 hw [] (p2 ^^^ p4) cA cl T75.heap n0 (Nat.le_trans Z0 KC.1) O0 S_high S_cache BX) hZ (ww hw 33 rfl) (ww hw 32 rfl) (by decide) (by decide)) (g := (mkF m 191 #[vi p1, vi p2, vi p3, vi p4, vi p5, vi p6, vi (2 : Int32), vi c1, vi c2, vr b5, vr b16, vr b75_b] [(.int (p2 ^^^ p4)), (.ref b16)])) rfl (by rw [hml]; rfl) (argsL := [(.int (p2 ^^^ p4))]) (rest := [(.ref b16)]) (lenOf pd_14 rfl) rfl (by show 2 * 0 + _ ≤ _; exact Nat.le_of_eq rfl) (hb hby at_191) (fun _ _ => ⟨rfl, rfl, (by decide : 9 + 1 ≤ _), (by decide : 21 + 1 ≤ _)⟩)
        dsimp only [Pt.U, Pt.locs, Pt.cells, Pt.slots] at X79 l79 y79 z79 st79 hQ79
        subst l79 y79 z79
        obtain ⟨b_79, rfl, N79q, K79, E_b_79, F_value_b_79⟩ := hQ79
        have N79 := Fr.app N75 N79q
        replace Vm15 := Vm15.keep K79 nin0
        replace A16 := A16.keep K79
        replace E_b_17 := E_b_17.keep K79
        replace E_c_17 := E_c_17.keep K79
        replace E_b_59 := E_b_59.keep K79
        replace F_value_b_59 := F_value_b_59.keep K79 nin0
        replace E_b_61 := E_b_61.keep K79
        replace F_value_b_61 := F_value_b_61.keep K79 nin0
        replace F_store_a1_62 := F_store_a1_62.keep K79 nin0
        replace F_size_a1_62 := F_size_a1_62.keep K79 nin0
        replace E_b_72 := E_b_72.keep K79
        replace E_b_73 := E_b_73.keep K79
        replace F_value_b_73 := F_value_b_73.keep K79 nin0
        replace F_store_a1_74 := F_store_a1_74.keep K79 nin0
        replace F_size_a1_74 := F_size_a1_74.keep K79 nin0
        replace F_filled_sto_74 := F_filled_sto_74.keep K79 nin0
        replace F_items_sto_74 := F_items_sto_74.keep K79 nin0
        replace V_arr_74 := V_arr_74.keep K79 nin0
        replace E_b_75 := E_b_75.keep K79
        replace F_val_length_b_75 := F_val_length_b_75.keep K79 nin0
        replace F_val_items_b_75 := F_val_items_b_75.keep K79 nin0
        replace F_next_b_75 := F_next_b_75.keep K79 nin0
        replace O0 := O0.keep K79 all0
        replace KC := KC.trans K79 all0
        obtain ⟨cq80, kq80, q80a, q80b, q80c⟩ := isOf hZ rfl A16
        obtain ⟨_, _, ⟨T80, L80, kz80, nz80⟩, -, X80, ⟨Lc80, hQ80, l80, y80, z80⟩, st80⟩ := X79.virtualBack hx (y := y_12) (z := y_12) hown (mvT hZ (ww hw 37 rfl)) (mvT hZ (ww hw 38 rfl)) (notFace_of_selects (args := #[]) (mvT hZ (ww hw 40 rfl))) (mvT hZ (ww hw 40 rfl)) (mvT hZ (ww hw 39 rfl)) (by decide) (backOf (W := 0) (rmAddB l Z a0 hw [] b16 b_79 b17_b (2 : Int32) (3 : Int32) b17_c k_17 (4 : Int32) [(.ref b_59), (.ref b_61), (.ref b_73), .null] mr (4 : Int32) (4 : Int32) [(.ref b_59), (.ref b_61), (.ref b_73), .null, .null, .null, .null, .null, .null, .null] (3 : Int32) [(.ref b_59), (.ref b_61), (.ref b_79), .null, .null, .null, .null, .null, .null, .null] T79.heap n0 (Nat.le_trans Z0 KC.1) O0 F_store_a1_62 F_size_a1_62 A16 E_b_17 F_filled_sto_74 F_items_sto_74 E_c_17 V_arr_74 E_b_79 g_b16 MIR (Or.inl (by decide)) (by decide) (by decide) (by decide) (by decide) (by decide) (by decide) (by decide) rfl (own_els_cons (Or.inr ⟨_, rfl, E_b_59⟩) (own_els_cons (Or.inr ⟨_, rfl, E_b_61⟩) (own_els_cons (Or.inr ⟨_, rfl, E_b_73⟩) (own_els_cons (Or.inl rfl) own_els_nil)))) (by decide) (by decide) (by decide) rfl (Nat.le_of_ble_eq_true rfl)) hZ (ww hw 41 rfl) (ww hw 3 rfl) (by decide) (by decide)) q80a q80c (g := (mkF m 194 #[vi p1, vi p2, vi p3, vi p4, vi p5, vi p6, vi (2 : Int32), vi c1, vi c2, vr b5, vr b16, vr b75_b] [(.ref b_79), (.ref b16)])) rfl (by rw [hml]; rfl) (Steps.refl _) (argsL := [(.ref b_79)]) (rest := []) (lenOf pd_15 rfl) rfl (by show 2 * 0 + _ ≤ _; exact Nat.le_of_eq rfl) (hb hby at_194) (fun _ _ => ⟨rfl, rfl, (by decide : 10 + 2 ≤ _), (by decide : 22 + 12 ≤ _)⟩)
        dsimp only [Pt.U, Pt.locs, Pt.cells, Pt.slots] at X80 l80 y80 z80 st80 hQ80
        subst l80 y80 z80
        obtain ⟨b80_b, b80_c, k2_80, rfl, N80q, K80, sz_b80_b, sz_b80_c, F_store_a1_80, F_size_a1_80, E_b_80, F_filled_b_80, F_items_b_80, E_c_80, V_c_80, hq80_0⟩ := hQ80
        have N80 := Fr.app N79 N80q
        have ne_b5_b80_b : b5 ≠ b80_b := Nat.ne_of_lt (Nat.lt_of_lt_of_le Vm15.lt sz_b80_b)
        have ne_b16_b80_b : b16 ≠ b80_b := Nat.ne_of_lt (Nat.lt_of_lt_of_le A16.lt sz_b80_b)
        have ne_b17_b_b80_b : b17_b ≠ b80_b := Nat.ne_of_lt (Nat.lt_of_lt_of_le E_b_17.lt sz_b80_b)
        have ne_b17_c_b80_b : b17_c ≠ b80_b := Nat.ne_of_lt (Nat.lt_of_lt_of_le E_c_17.lt sz_b80_b)
        have ne_b_59_b80_b : b_59 ≠ b80_b := Nat.ne_of_lt (Nat.lt_of_lt_of_le E_b_59.lt sz_b80_b)
        have ne_b_61_b80_b : b_61 ≠ b80_b := Nat.ne_of_lt (Nat.lt_of_lt_of_le E_b_61.lt sz_b80_b)
        have ne_b72_b_b80_b : b72_b ≠ b80_b := Nat.ne_of_lt (Nat.lt_of_lt_of_le E_b_72.lt sz_b80_b)
        have ne_b_73_b80_b : b_73 ≠ b80_b := Nat.ne_of_lt (Nat.lt_of_lt_of_le E_b_73.lt sz_b80_b)
        have ne_b75_b_b80_b : b75_b ≠ b80_b := Nat.ne_of_lt (Nat.lt_of_lt_of_le E_b_75.lt sz_b80_b)
        have ne_b_79_b80_b : b_79 ≠ b80_b := Nat.ne_of_lt (Nat.lt_of_lt_of_le E_b_79.lt sz_b80_b)
        have g_b80_b : n0 ≤ b80_b := Nat.le_trans (Nat.le_trans Z0 KC.1) sz_b80_b
        replace sz_b80_b : h0.size ≤ b80_b := Nat.le_trans KC.1 sz_b80_b
        have ne_b5_b80_c : b5 ≠ b80_c := Nat.ne_of_lt (Nat.lt_of_lt_of_le Vm15.lt sz_b80_c)
        have ne_b16_b80_c : b16 ≠ b80_c := Nat.ne_of_lt (Nat.lt_of_lt_of_le A16.lt sz_b80_c)
        have ne_b17_b_b80_c : b17_b ≠ b80_c := Nat.ne_of_lt (Nat.lt_of_lt_of_le E_b_17.lt sz_b80_c)
        have ne_b17_c_b80_c : b17_c ≠ b80_c := Nat.ne_of_lt (Nat.lt_of_lt_of_le E_c_17.lt sz_b80_c)
        have ne_b_59_b80_c : b_59 ≠ b80_c := Nat.ne_of_lt (Nat.lt_of_lt_of_le E_b_59.lt sz_b80_c)
        have ne_b_61_b80_c : b_61 ≠ b80_c := Nat.ne_of_lt (Nat.lt_of_lt_of_le E_b_61.lt sz_b80_c)
        have ne_b72_b_b80_c : b72_b ≠ b80_c := Nat.ne_of_lt (Nat.lt_of_lt_of_le E_b_72.lt sz_b80_c)
        have ne_b_73_b80_c : b_73 ≠ b80_c := Nat.ne_of_lt (Nat.lt_of_lt_of_le E_b_73.lt sz_b80_c)
        have ne_b75_b_b80_c : b75_b ≠ b80_c := Nat.ne_of_lt (Nat.lt_of_lt_of_le E_b_75.lt sz_b80_c)
        have ne_b_79_b80_c : b_79 ≠ b80_c := Nat.ne_of_lt (Nat.lt_of_lt_of_le E_b_79.lt sz_b80_c)
        have g_b80_c : n0 ≤ b80_c := Nat.le_trans (Nat.le_trans Z0 KC.1) sz_b80_c
        replace sz_b80_c : h0.size ≤ b80_c := Nat.le_trans KC.1 sz_b80_c
        have nec_b_73_b16 : b_73 ≠ b16 := Exa.ne E_b_73 A16 (by decide)
        have nec_b_79_b16 : b_79 ≠ b16 := Exa.ne E_b_79 A16 (by decide)
        replace Vm15 := Vm15.keep K80 (ninS ne_b5_b16 nin0)
        replace A16 := A16.keep K80
        replace E_b_17 := E_b_17.keep K80
        replace E_c_17 := E_c_17.keep K80
        replace E_b_59 := E_b_59.keep K80
        replace F_value_b_59 := F_value_b_59.keep K80 (ninS nec_b_59_b16 nin0)
        replace E_b_61 := E_b_61.keep K80
        replace F_value_b_61 := F_value_b_61.keep K80 (ninS nec_b_61_b16 nin0)
        replace E_b_72 := E_b_72.keep K80
        replace E_b_73 := E_b_73.keep K80
        replace F_value_b_73 := F_value_b_73.keep K80 (ninS nec_b_73_b16 nin0)
        replace F_store_a1_74 := F_store_a1_74.keep K80 (ninS (Ne.symm ne_b16_b72_b) nin0)
        replace F_size_a1_74 := F_size_a1_74.keep K80 (ninS (Ne.symm ne_b16_b72_b) nin0)
        replace F_filled_sto_74 := F_filled_sto_74.keep K80 (ninS (Ne.symm ne_b16_b17_b) nin0)
        replace F_items_sto_74 := F_items_sto_74.keep K80 (ninS (Ne.symm ne_b16_b17_b) nin0)
        replace V_arr_74 := V_arr_74.keep K80 (ninS (Ne.symm ne_b16_b17_c) nin0)
        replace E_b_75 := E_b_75.keep K80
        replace F_val_length_b_75 := F_val_length_b_75.keep K80 (ninS (Ne.symm ne_b16_b75_b) nin0)
        replace F_val_items_b_75 := F_val_items_b_75.keep K80 (ninS (Ne.symm ne_b16_b75_b) nin0)
        replace F_next_b_75 := F_next_b_75.keep K80 (ninS (Ne.symm ne_b16_b75_b) nin0)
        replace E_b_79 := E_b_79.keep K80
        replace F_value_b_79 := F_value_b_79.keep K80 (ninS nec_b_79_b16 nin0)
        replace O0 := O0.keep K80 (allS g_b16 all0)
        replace KC := KC.trans K80 (allS (Or.inr sz_b16) all0)
        obtain ⟨T81, h81, L81, X81, e81, N81, K81, st81⟩ := tail2 hw X80 hx hZ hby hml hown p1 p2 p3 p4 p5 p6 c1 c2 b5 b16 b75_b b17_c k_17 (4 : Int32) [(.ref b_59), (.ref b_61), (.ref b_73), .null] k5 b_59 b_61 T80.heap n0 rfl (Nat.le_trans Z0 KC.1) O0 N80 F_next_b_75 F_val_length_b_75 F_val_items_b_75 E_b_75 E_c_17 V_arr_74 Vm15 g_b75_b ne_b5_b75_b E_b_59 F_value_b_59 rfl (by decide) E_b_61 F_value_b_61 rfl (by decide) (by decide) (by decide) (by decide) (by decide)
        have nec_b_79_b75_b : b_79 ≠ b75_b := Exa.ne E_b_79 E_b_75 (by decide)
        replace Vm15 := Vm15.keep K81 (ninS ne_b5_b75_b nin0)
        replace A16 := A16.keep K81
        replace E_b_17 := E_b_17.keep K81
        replace E_c_17 := E_c_17.keep K81
        replace E_b_59 := E_b_59.keep K81
        replace F_value_b_59 := F_value_b_59.keep K81 (ninS ne_b_59_b75_b nin0)
        replace E_b_61 := E_b_61.keep K81
        replace F_value_b_61 := F_value_b_61.keep K81 (ninS ne_b_61_b75_b nin0)
        replace E_b_72 := E_b_72.keep K81
        replace E_b_73 := E_b_73.keep K81
        replace F_value_b_73 := F_value_b_73.keep K81 (ninS ne_b_73_b75_b nin0)
        replace F_store_a1_74 := F_store_a1_74.keep K81 (ninS ne_b72_b_b75_b nin0)
        replace F_size_a1_74 := F_size_a1_74.keep K81 (ninS ne_b72_b_b75_b nin0)
        replace F_filled_sto_74 := F_filled_sto_74.keep K81 (ninS ne_b17_b_b75_b nin0)
        replace F_items_sto_74 := F_items_sto_74.keep K81 (ninS ne_b17_b_b75_b nin0)
        replace V_arr_74 := V_arr_74.keep K81 (ninS ne_b17_c_b75_b nin0)
        replace E_b_75 := E_b_75.keep K81
        replace E_b_79 := E_b_79.keep K81
        replace F_value_b_79 := F_value_b_79.keep K81 (ninS nec_b_79_b75_b nin0)
        replace F_store_a1_80 := F_store_a1_80.keep K81 (ninS ne_b16_b75_b nin0)
        replace F_size_a1_80 := F_size_a1_80.keep K81 (ninS ne_b16_b75_b nin0)
        replace E_b_80 := E_b_80.keep K81
        replace F_filled_b_80 := F_filled_b_80.keep K81 (ninS (Ne.symm ne_b75_b_b80_b) nin0)
        replace F_items_b_80 := F_items_b_80.keep K81 (ninS (Ne.symm ne_b75_b_b80_b) nin0)
        replace E_c_80 := E_c_80.keep K81
        replace V_c_80 := V_c_80.keep K81 (ninS (Ne.symm ne_b75_b_b80_c) nin0)
        replace O0 := O0.keep K81 (allS g_b75_b all0)
        replace KC := KC.trans K81 (allS (Or.inr sz_b75_b) all0)
        obtain ⟨fs, hr, hrun, hended, hW, hsame⟩ := X81.leave (v := some (.int (1 : Int32))) (fun h => by rw [Bd.returns] at h; cases h)
        refine ⟨_, _, pre76 _ ?_, hrun, hended, _, _, rfl, ?_, ⟨_, rfl⟩, hW, hsame.mono (by decide) (by decide)⟩
        · show SS p e below m T75 183 #[vi p1, vi p2, vi p3, vi p4, vi p5, vi p6, vi (2 : Int32), vi c1, vi c2, vr b5, vr b16, vr b75_b] [(.int c2)] _
          refine XS.ifNo X75.here hx rfl (hb hby at_183) rfl ((if0 _ _).trans (feq hc183_77).1) ?_
          show SS p e below m T75 186 #[vi p1, vi p2, vi p3, vi p4, vi p5, vi p6, vi (2 : Int32), vi c1, vi c2, vr b5, vr b16, vr b75_b] [] _
          refine XS.aload X75.here hx rfl (hb hby at_186) rfl rfl ?_
          show SS p e below m T75 188 #[vi p1, vi p2, vi p3, vi p4, vi p5, vi p6, vi (2 : Int32), vi c1, vi c2, vr b5, vr b16, vr b75_b] [(.ref b16)] _
          refine XS.iloadN X75.here hx rfl (hb hby at_188) rfl ?_
          show SS p e below m T75 189 #[vi p1, vi p2, vi p3, vi p4, vi p5, vi p6, vi (2 : Int32), vi c1, vi c2, vr b5, vr b16, vr b75_b] [(.int p2), (.ref b16)] _
          refine XS.iloadN X75.here hx rfl (hb hby at_189) rfl ?_
          show SS p e below m T75 190 #[vi p1, vi p2, vi p3, vi p4, vi p5, vi p6, vi (2 : Int32), vi c1, vi c2, vr b5, vr b16, vr b75_b] [(.int p4), (.int p2), (.ref b16)] _
          refine XS.ixor X75.here hx rfl (hb hby at_190) rfl ?_
          show SS p e below m T75 191 #[vi p1, vi p2, vi p3, vi p4, vi p5, vi p6, vi (2 : Int32), vi c1, vi c2, vr b5, vr b16, vr b75_b] [(.int (p2 ^^^ p4)), (.ref b16)] _
          refine st79 _ ?_
          show SS p e below m T79 194 #[vi p1, vi p2, vi p3, vi p4, vi p5, vi p6, vi (2 : Int32), vi c1, vi c2, vr b5, vr b16, vr b75_b] [(.ref b_79), (.ref b16)] _
          refine st80.trans ?_
          show SS p e below m T80 197 #[vi p1, vi p2, vi p3, vi p4, vi p5, vi p6, vi (2 : Int32), vi c1, vi c2, vr b5, vr b16, vr b75_b] [] _
          refine st81 _ ?_
          show SS p e below m T81 282 #[vi p1, vi p2, vi p3, vi p4, vi p5, vi p6, vi (2 : Int32), vi c1, vi c2, vr b5, vr b16, vr b75_b] [(.int (0 : Int32))] _
          refine XS.ifNo X81.here hx rfl (hb hby at_282) rfl ((if0 _ _).trans (teq (by decide)).2) ?_
          show SS p e below m T81 285 #[vi p1, vi p2, vi p3, vi p4, vi p5, vi p6, vi (2 : Int32), vi c1, vi c2, vr b5, vr b16, vr b75_b] [] _
          refine XS.iconst X81.here hx rfl (hb hby at_285) ?_
          show SS p e below m T81 286 #[vi p1, vi p2, vi p3, vi p4, vi p5, vi p6, vi (2 : Int32), vi c1, vi c2, vr b5, vr b16, vr b75_b] [(.int (1 : Int32))] _
          refine XS.goto X81.here hx rfl (pc0 := 286) (pc' := 290) rfl (hb hby at_286) (by decide) (by decide) ?_
          show SS p e below m T81 290 #[vi p1, vi p2, vi p3, vi p4, vi p5, vi p6, vi (2 : Int32), vi c1, vi c2, vr b5, vr b16, vr b75_b] [(.int (1 : Int32))] _
          exact retN X81 hx (t := .boolean) Bd.returns (by simp) (hb hby at_290) hr
        · show Q_rm0 Z p1 p2 p3 p4 p5 p6 cA cl mr h0 n0 _ T81.heap _
          rw [e81]
          exact ⟨rfl, N81, KC⟩
  · rw [hk] at pre18
    obtain ⟨_, _, ⟨T82, L82, kz82, nz82⟩, -, X82, ⟨Lc82, hQ82, l82, y82, z82⟩, st82⟩ := Jvm.LawKit.callS X17 hx (y := y_5) hown (mvT hZ (ww hw 30 rfl)) (mvT hZ (ww hw 31 rfl)) (mvT hZ (ww hw 32 rfl)) (mvT hZ (ww hw 33 rfl)) (by decide) (backOf (W := 1) (rmVo l Z a0 hw [] p1 cA cl T17.heap n0 (Nat.le_trans Z0 KC.1) O0 S_high S_cache BX) hZ (ww hw 33 rfl) (ww hw 32 rfl) (by decide) (by decide)) (g := (mkF m 83 #[vi p1, vi p2, vi p3, vi p4, vi p5, vi p6, vi (3 : Int32), vi c1, vi c2, vr b5, vr b16, un] [(.int p1), (.ref b16)])) rfl (by rw [hml]; rfl) (argsL := [(.int p1)]) (rest := [(.ref b16)]) (lenOf pd_14 rfl) rfl (by show 2 * 0 + _ ≤ _; exact Nat.le_of_eq rfl) (hb hby at_83) (fun _ _ => ⟨rfl, rfl, (by decide : 4 + 1 ≤ _), (by decide : 13 + 1 ≤ _)⟩)
    dsimp only [Pt.U, Pt.locs, Pt.cells, Pt.slots] at X82 l82 y82 z82 st82 hQ82
    subst l82 y82 z82
    obtain ⟨b_82, rfl, N82q, K82, E_b_82, F_value_b_82⟩ := hQ82
    have N82 := Fr.app N17 N82q
    replace Vm15 := Vm15.keep K82 nin0
    replace A16 := A16.keep K82
    replace F_store_a1_17 := F_store_a1_17.keep K82 nin0
    replace F_size_a1_17 := F_size_a1_17.keep K82 nin0
    replace E_b_17 := E_b_17.keep K82
    replace F_items_b_17 := F_items_b_17.keep K82 nin0
    replace F_filled_b_17 := F_filled_b_17.keep K82 nin0
    replace E_c_17 := E_c_17.keep K82
    replace V_c_17 := V_c_17.keep K82 nin0
    replace O0 := O0.keep K82 all0
    replace KC := KC.trans K82 all0
    obtain ⟨cq83, kq83, q83a, q83b, q83c⟩ := isOf hZ rfl A16
    obtain ⟨_, _, ⟨T83, L83, kz83, nz83⟩, -, X83, ⟨Lc83, hQ83, l83, y83, z83⟩, st83⟩ := X82.virtualBack hx (y := y_12) (z := y_12) hown (mvT hZ (ww hw 37 rfl)) (mvT hZ (ww hw 38 rfl)) (notFace_of_selects (args := #[]) (mvT hZ (ww hw 40 rfl))) (mvT hZ (ww hw 40 rfl)) (mvT hZ (ww hw 39 rfl)) (by decide) (backOf (W := 0) (rmAddA l Z a0 hw [] b16 b_82 b17_b (0 : Int32) (0 : Int32) b17_c k_17 (4 : Int32) [.null, .null, .null, .null] (1 : Int32) [(.ref b_82), .null, .null, .null] T82.heap n0 (Nat.le_trans Z0 KC.1) O0 F_store_a1_17 F_size_a1_17 A16 E_b_17 F_filled_b_17 F_items_b_17 E_c_17 V_c_17 E_b_82 g_b16 g_b17_b g_b17_c hq17_0 (by decide) (by decide) (by decide) (by decide) (by decide) rfl (Nat.le_of_ble_eq_true rfl)) hZ (ww hw 41 rfl) (ww hw 3 rfl) (by decide) (by decide)) q83a q83c (g := (mkF m 86 #[vi p1, vi p2, vi p3, vi p4, vi p5, vi p6, vi (3 : Int32), vi c1, vi c2, vr b5, vr b16, un] [(.ref b_82), (.ref b16)])) rfl (by rw [hml]; rfl) (Steps.refl _) (argsL := [(.ref b_82)]) (rest := []) (lenOf pd_15 rfl) rfl (by show 2 * 0 + _ ≤ _; exact Nat.le_of_eq rfl) (hb hby at_86) (fun _ _ => ⟨rfl, rfl, (by decide : 5 + 0 ≤ _), (by decide : 14 + 0 ≤ _)⟩)
    dsimp only [Pt.U, Pt.locs, Pt.cells, Pt.slots] at X83 l83 y83 z83 st83 hQ83
    subst l83 y83 z83
    obtain ⟨rfl, N83q, K83, F_store_a1_83, F_size_a1_83, F_filled_sto_83, F_items_sto_83, V_arr_83⟩ := hQ83
    have N83 := Fr.app N82 N83q
    have nec_b_82_b17_c : b_82 ≠ b17_c := Exa.ne E_b_82 E_c_17 (by decide)
    have nec_b_82_b17_b : b_82 ≠ b17_b := Exa.ne E_b_82 E_b_17 (by decide)
    have nec_b_82_b16 : b_82 ≠ b16 := Exa.ne E_b_82 A16 (by decide)
    replace Vm15 := Vm15.keep K83 (ninS ne_b5_b16 (ninS ne_b5_b17_b (ninS ne_b5_b17_c nin0)))
    replace A16 := A16.keep K83
    replace E_b_17 := E_b_17.keep K83
    replace E_c_17 := E_c_17.keep K83
    replace E_b_82 := E_b_82.keep K83
    replace F_value_b_82 := F_value_b_82.keep K83 (ninS nec_b_82_b16 (ninS nec_b_82_b17_b (ninS nec_b_82_b17_c nin0)))
    replace O0 := O0.keep K83 (allS g_b16 (allS g_b17_b (allS g_b17_c all0)))
    replace KC := KC.trans K83 (allS (Or.inr sz_b16) (allS (Or.inr sz_b17_b) (allS (Or.inr sz_b17_c) all0)))
    obtain ⟨_, _, ⟨T84, L84, kz84, nz84⟩, -, X84, ⟨Lc84, hQ84, l84, y84, z84⟩, st84⟩ := Jvm.LawKit.callS X83 hx (y := y_5) hown (mvT hZ (ww hw 30 rfl)) (mvT hZ (ww hw 31 rfl)) (mvT hZ (ww hw 32 rfl)) (mvT hZ (ww hw 33 rfl)) (by decide) (backOf (W := 1) (rmVo l Z a0 hw [] p2 cA cl T83.heap n0 (Nat.le_trans Z0 KC.1) O0 S_high S_cache BX) hZ (ww hw 33 rfl) (ww hw 32 rfl) (by decide) (by decide)) (g := (mkF m 98 #[vi p1, vi p2, vi p3, vi p4, vi p5, vi p6, vi (3 : Int32), vi c1, vi c2, vr b5, vr b16, un] [(.int p2), (.ref b16)])) rfl (by rw [hml]; rfl) (argsL := [(.int p2)]) (rest := [(.ref b16)]) (lenOf pd_14 rfl) rfl (by show 2 * 0 + _ ≤ _; exact Nat.le_of_eq rfl) (hb hby at_98) (fun _ _ => ⟨rfl, rfl, (by decide : 5 + 1 ≤ _), (by decide : 14 + 1 ≤ _)⟩)
    dsimp only [Pt.U, Pt.locs, Pt.cells, Pt.slots] at X84 l84 y84 z84 st84 hQ84
    subst l84 y84 z84
    obtain ⟨b_84, rfl, N84q, K84, E_b_84, F_value_b_84⟩ := hQ84
    have N84 := Fr.app N83 N84q
    replace Vm15 := Vm15.keep K84 nin0
    replace A16 := A16.keep K84
    replace E_b_17 := E_b_17.keep K84
    replace E_c_17 := E_c_17.keep K84
    replace E_b_82 := E_b_82.keep K84
    replace F_value_b_82 := F_value_b_82.keep K84 nin0
    replace F_store_a1_83 := F_store_a1_83.keep K84 nin0
    replace F_size_a1_83 := F_size_a1_83.keep K84 nin0
    replace F_filled_sto_83 := F_filled_sto_83.keep K84 nin0
    replace F_items_sto_83 := F_items_sto_83.keep K84 nin0
    replace V_arr_83 := V_arr_83.keep K84 nin0
    replace O0 := O0.keep K84 all0
    replace KC := KC.trans K84 all0
    obtain ⟨cq85, kq85, q85a, q85b, q85c⟩ := isOf hZ rfl A16
    obtain ⟨_, _, ⟨T85, L85, kz85, nz85⟩, -, X85, ⟨Lc85, hQ85, l85, y85, z85⟩, st85⟩ := X84.virtualBack hx (y := y_12) (z := y_12) hown (mvT hZ (ww hw 37 rfl)) (mvT hZ (ww hw 38 rfl)) (notFace_of_selects (args := #[]) (mvT hZ (ww hw 40 rfl))) (mvT hZ (ww hw 40 rfl)) (mvT hZ (ww hw 39 rfl)) (by decide) (backOf (W := 0) (rmAddA l Z a0 hw [] b16 b_84 b17_b (1 : Int32) (1 : Int32) b17_c k_17 (4 : Int32) [(.ref b_82), .null, .null, .null] (2 : Int32) [(.ref b_82), (.ref b_84), .null, .null] T84.heap n0 (Nat.le_trans Z0 KC.1) O0 F_store_a1_83 F_size_a1_83 A16 E_b_17 F_filled_sto_83 F_items_sto_83 E_c_17 V_arr_83 E_b_84 g_b16 g_b17_b g_b17_c hq17_0 (by decide) (by decide) (by decide) (by decide) (by decide) rfl (Nat.le_of_ble_eq_true rfl)) hZ (ww hw 41 rfl) (ww hw 3 rfl) (by decide) (by decide)) q85a q85c (g := (mkF m 101 #[vi p1, vi p2, vi p3, vi p4, vi p5, vi p6, vi (3 : Int32), vi c1, vi c2, vr b5, vr b16, un] [(.ref b_84), (.ref b16)])) rfl (by rw [hml]; rfl) (Steps.refl _) (argsL := [(.ref b_84)]) (rest := []) (lenOf pd_15 rfl) rfl (by show 2 * 0 + _ ≤ _; exact Nat.le_of_eq rfl) (hb hby at_101) (fun _ _ => ⟨rfl, rfl, (by decide : 6 + 0 ≤ _), (by decide : 15 + 0 ≤ _)⟩)
    dsimp only [Pt.U, Pt.locs, Pt.cells, Pt.slots] at X85 l85 y85 z85 st85 hQ85
    subst l85 y85 z85
    obtain ⟨rfl, N85q, K85, F_store_a1_85, F_size_a1_85, F_filled_sto_85, F_items_sto_85, V_arr_85⟩ := hQ85
    have N85 := Fr.app N84 N85q
    have nec_b_84_b17_c : b_84 ≠ b17_c := Exa.ne E_b_84 E_c_17 (by decide)
    have nec_b_84_b17_b : b_84 ≠ b17_b := Exa.ne E_b_84 E_b_17 (by decide)
    have nec_b_84_b16 : b_84 ≠ b16 := Exa.ne E_b_84 A16 (by decide)
    replace Vm15 := Vm15.keep K85 (ninS ne_b5_b16 (ninS ne_b5_b17_b (ninS ne_b5_b17_c nin0)))
    replace A16 := A16.keep K85
    replace E_b_17 := E_b_17.keep K85
    replace E_c_17 := E_c_17.keep K85
    replace E_b_82 := E_b_82.keep K85
    replace F_value_b_82 := F_value_b_82.keep K85 (ninS nec_b_82_b16 (ninS nec_b_82_b17_b (ninS nec_b_82_b17_c nin0)))
    replace E_b_84 := E_b_84.keep K85
    replace F_value_b_84 := F_value_b_84.keep K85 (ninS nec_b_84_b16 (ninS nec_b_84_b17_b (ninS nec_b_84_b17_c nin0)))
    replace O0 := O0.keep K85 (allS g_b16 (allS g_b17_b (allS g_b17_c all0)))
    replace KC := KC.trans K85 (allS (Or.inr sz_b16) (allS (Or.inr sz_b17_b) (allS (Or.inr sz_b17_c) all0)))
    obtain ⟨_, _, ⟨T86, L86, kz86, nz86⟩, -, X86, ⟨Lc86, hQ86, l86, y86, z86⟩, st86⟩ := Jvm.LawKit.callS X85 hx (y := y_5) hown (mvT hZ (ww hw 30 rfl)) (mvT hZ (ww hw 31 rfl)) (mvT hZ (ww hw 32 rfl)) (mvT hZ (ww hw 33 rfl)) (by decide) (backOf (W := 1) (rmVo l Z a0 hw [] p3 cA cl T85.heap n0 (Nat.le_trans Z0 KC.1) O0 S_high S_cache BX) hZ (ww hw 33 rfl) (ww hw 32 rfl) (by decide) (by decide)) (g := (mkF m 113 #[vi p1, vi p2, vi p3, vi p4, vi p5, vi p6, vi (3 : Int32), vi c1, vi c2, vr b5, vr b16, un] [(.int p3), (.ref b16)])) rfl (by rw [hml]; rfl) (argsL := [(.int p3)]) (rest := [(.ref b16)]) (lenOf pd_14 rfl) rfl (by show 2 * 0 + _ ≤ _; exact Nat.le_of_eq rfl) (hb hby at_113) (fun _ _ => ⟨rfl, rfl, (by decide : 6 + 1 ≤ _), (by decide : 15 + 1 ≤ _)⟩)
    dsimp only [Pt.U, Pt.locs, Pt.cells, Pt.slots] at X86 l86 y86 z86 st86 hQ86
    subst l86 y86 z86
    obtain ⟨b_86, rfl, N86q, K86, E_b_86, F_value_b_86⟩ := hQ86
    have N86 := Fr.app N85 N86q
    replace Vm15 := Vm15.keep K86 nin0
    replace A16 := A16.keep K86
    replace E_b_17 := E_b_17.keep K86
    replace E_c_17 := E_c_17.keep K86
    replace E_b_82 := E_b_82.keep K86
    replace F_value_b_82 := F_value_b_82.keep K86 nin0
    replace E_b_84 := E_b_84.keep K86
    replace F_value_b_84 := F_value_b_84.keep K86 nin0
    replace F_store_a1_85 := F_store_a1_85.keep K86 nin0
    replace F_size_a1_85 := F_size_a1_85.keep K86 nin0
    replace F_filled_sto_85 := F_filled_sto_85.keep K86 nin0
    replace F_items_sto_85 := F_items_sto_85.keep K86 nin0
    replace V_arr_85 := V_arr_85.keep K86 nin0
    replace O0 := O0.keep K86 all0
    replace KC := KC.trans K86 all0
    obtain ⟨cq87, kq87, q87a, q87b, q87c⟩ := isOf hZ rfl A16
    obtain ⟨_, _, ⟨T87, L87, kz87, nz87⟩, -, X87, ⟨Lc87, hQ87, l87, y87, z87⟩, st87⟩ := X86.virtualBack hx (y := y_12) (z := y_12) hown (mvT hZ (ww hw 37 rfl)) (mvT hZ (ww hw 38 rfl)) (notFace_of_selects (args := #[]) (mvT hZ (ww hw 40 rfl))) (mvT hZ (ww hw 40 rfl)) (mvT hZ (ww hw 39 rfl)) (by decide) (backOf (W := 0) (rmAddA l Z a0 hw [] b16 b_86 b17_b (2 : Int32) (2 : Int32) b17_c k_17 (4 : Int32) [(.ref b_82), (.ref b_84), .null, .null] (3 : Int32) [(.ref b_82), (.ref b_84), (.ref b_86), .null] T86.heap n0 (Nat.le_trans Z0 KC.1) O0 F_store_a1_85 F_size_a1_85 A16 E_b_17 F_filled_sto_85 F_items_sto_85 E_c_17 V_arr_85 E_b_86 g_b16 g_b17_b g_b17_c hq17_0 (by decide) (by decide) (by decide) (by decide) (by decide) rfl (Nat.le_of_ble_eq_true rfl)) hZ (ww hw 41 rfl) (ww hw 3 rfl) (by decide) (by decide)) q87a q87c (g := (mkF m 116 #[vi p1, vi p2, vi p3, vi p4, vi p5, vi p6, vi (3 : Int32), vi c1, vi c2, vr b5, vr b16, un] [(.ref b_86), (.ref b16)])) rfl (by rw [hml]; rfl) (Steps.refl _) (argsL := [(.ref b_86)]) (rest := []) (lenOf pd_15 rfl) rfl (by show 2 * 0 + _ ≤ _; exact Nat.le_of_eq rfl) (hb hby at_116) (fun _ _ => ⟨rfl, rfl, (by decide : 7 + 0 ≤ _), (by decide : 16 + 0 ≤ _)⟩)
    dsimp only [Pt.U, Pt.locs, Pt.cells, Pt.slots] at X87 l87 y87 z87 st87 hQ87
    subst l87 y87 z87
    obtain ⟨rfl, N87q, K87, F_store_a1_87, F_size_a1_87, F_filled_sto_87, F_items_sto_87, V_arr_87⟩ := hQ87
    have N87 := Fr.app N86 N87q
    have nec_b_86_b17_c : b_86 ≠ b17_c := Exa.ne E_b_86 E_c_17 (by decide)
    have nec_b_86_b17_b : b_86 ≠ b17_b := Exa.ne E_b_86 E_b_17 (by decide)
    have nec_b_86_b16 : b_86 ≠ b16 := Exa.ne E_b_86 A16 (by decide)
    replace Vm15 := Vm15.keep K87 (ninS ne_b5_b16 (ninS ne_b5_b17_b (ninS ne_b5_b17_c nin0)))
    replace A16 := A16.keep K87
    replace E_b_17 := E_b_17.keep K87
    replace E_c_17 := E_c_17.keep K87
    replace E_b_82 := E_b_82.keep K87
    replace F_value_b_82 := F_value_b_82.keep K87 (ninS nec_b_82_b16 (ninS nec_b_82_b17_b (ninS nec_b_82_b17_c nin0)))
    replace E_b_84 := E_b_84.keep K87
    replace F_value_b_84 := F_value_b_84.keep K87 (ninS nec_b_84_b16 (ninS nec_b_84_b17_b (ninS nec_b_84_b17_c nin0)))
    replace E_b_86 := E_b_86.keep K87
    replace F_value_b_86 := F_value_b_86.keep K87 (ninS nec_b_86_b16 (ninS nec_b_86_b17_b (ninS nec_b_86_b17_c nin0)))
    replace O0 := O0.keep K87 (allS g_b16 (allS g_b17_b (allS g_b17_c all0)))
    replace KC := KC.trans K87 (allS (Or.inr sz_b16) (allS (Or.inr sz_b17_b) (allS (Or.inr sz_b17_c) all0)))
    have pre88 : ∀ t, Steps p.tables e below (T87.setTop (mkF m 152 #[vi p1, vi p2, vi p3, vi p4, vi p5, vi p6, vi (3 : Int32), vi c1, vi c2, vr b5, vr b16, un] [(.int c1)])) t → Steps p.tables e below (s₁.setTop (entryFrame m #[(.int p1), (.int p2), (.int p3), (.int p4), (.int p5), (.int p6)] maxLocals)) t := by
      intro t kt
      refine pre18 t ?_
      show SS p e below m T17 75 #[vi p1, vi p2, vi p3, vi p4, vi p5, vi p6, vi (3 : Int32), vi c1, vi c2, vr b5, vr b16, un] [] _
      refine XS.iload X17.here hx rfl (hb hby at_75) rfl ?_
      show SS p e below m T17 77 #[vi p1, vi p2, vi p3, vi p4, vi p5, vi p6, vi (3 : Int32), vi c1, vi c2, vr b5, vr b16, un] [(.int (3 : Int32))] _
      refine XS.ifNo X17.here hx rfl (hb hby at_77) rfl ((if0 _ _).trans (tlt (by decide)).2.2.2) ?_
      show SS p e below m T17 80 #[vi p1, vi p2, vi p3, vi p4, vi p5, vi p6, vi (3 : Int32), vi c1, vi c2, vr b5, vr b16, un] [] _
      refine XS.aload X17.here hx rfl (hb hby at_80) rfl rfl ?_
      show SS p e below m T17 82 #[vi p1, vi p2, vi p3, vi p4, vi p5, vi p6, vi (3 : Int32), vi c1, vi c2, vr b5, vr b16, un] [(.ref b16)] _
      refine XS.iloadN X17.here hx rfl (hb hby at_82) rfl ?_
      show SS p e below m T17 83 #[vi p1, vi p2, vi p3, vi p4, vi p5, vi p6, vi (3 : Int32), vi c1, vi c2, vr b5, vr b16, un] [(.int p1), (.ref b16)] _
      refine st82 _ ?_
      show SS p e below m T82 86 #[vi p1, vi p2, vi p3, vi p4, vi p5, vi p6, vi (3 : Int32), vi c1, vi c2, vr b5, vr b16, un] [(.ref b_82), (.ref b16)] _
      refine st83.trans ?_
      show SS p e below m T83 89 #[vi p1, vi p2, vi p3, vi p4, vi p5, vi p6, vi (3 : Int32), vi c1, vi c2, vr b5, vr b16, un] [] _
      refine XS.iload X83.here hx rfl (hb hby at_89) rfl ?_
      show SS p e below m T83 91 #[vi p1, vi p2, vi p3, vi p4, vi p5, vi p6, vi (3 : Int32), vi c1, vi c2, vr b5, vr b16, un] [(.int (3 : Int32))] _
      refine XS.iconst X83.here hx rfl (hb hby at_91) ?_
      show SS p e below m T83 92 #[vi p1, vi p2, vi p3, vi p4, vi p5, vi p6, vi (3 : Int32), vi c1, vi c2, vr b5, vr b16, un] [(.int (1 : Int32)), (.int (3 : Int32))] _
      refine XS.icmpNo X83.here hx rfl (hb hby at_92) rfl (tlt (by decide)).2.2.2 ?_
      show SS p e below m T83 95 #[vi p1, vi p2, vi p3, vi p4, vi p5, vi p6, vi (3 : Int32), vi c1, vi c2, vr b5, vr b16, un] [] _
      refine XS.aload X83.here hx rfl (hb hby at_95) rfl rfl ?_
      show SS p e below m T83 97 #[vi p1, vi p2, vi p3, vi p4, vi p5, vi p6, vi (3 : Int32), vi c1, vi c2, vr b5, vr b16, un] [(.ref b16)] _
      refine XS.iloadN X83.here hx rfl (hb hby at_97) rfl ?_
      show SS p e below m T83 98 #[vi p1, vi p2, vi p3, vi p4, vi p5, vi p6, vi (3 : Int32), vi c1, vi c2, vr b5, vr b16, un] [(.int p2), (.ref b16)] _
      refine st84 _ ?_
      show SS p e below m T84 101 #[vi p1, vi p2, vi p3, vi p4, vi p5, vi p6, vi (3 : Int32), vi c1, vi c2, vr b5, vr b16, un] [(.ref b_84), (.ref b16)] _
      refine st85.trans ?_
      show SS p e below m T85 104 #[vi p1, vi p2, vi p3, vi p4, vi p5, vi p6, vi (3 : Int32), vi c1, vi c2, vr b5, vr b16, un] [] _
      refine XS.iload X85.here hx rfl (hb hby at_104) rfl ?_
      show SS p e below m T85 106 #[vi p1, vi p2, vi p3, vi p4, vi p5, vi p6, vi (3 : Int32), vi c1, vi c2, vr b5, vr b16, un] [(.int (3 : Int32))] _
      refine XS.iconst X85.here hx rfl (hb hby at_106) ?_
      show SS p e below m T85 107 #[vi p1, vi p2, vi p3, vi p4, vi p5, vi p6, vi (3 : Int32), vi c1, vi c2, vr b5, vr b16, un] [(.int (2 : Int32)), (.int (3 : Int32))] _
      refine XS.icmpNo X85.here hx rfl (hb hby at_107) rfl (tlt (by decide)).2.2.2 ?_
      show SS p e below m T85 110 #[vi p1, vi p2, vi p3, vi p4, vi p5, vi p6, vi (3 : Int32), vi c1, vi c2, vr b5, vr b16, un] [] _
      refine XS.aload X85.here hx rfl (hb hby at_110) rfl rfl ?_
      show SS p e below m T85 112 #[vi p1, vi p2, vi p3, vi p4, vi p5, vi p6, vi (3 : Int32), vi c1, vi c2, vr b5, vr b16, un] [(.ref b16)] _
      refine XS.iloadN X85.here hx rfl (hb hby at_112) rfl ?_
      show SS p e below m T85 113 #[vi p1, vi p2, vi p3, vi p4, vi p5, vi p6, vi (3 : Int32), vi c1, vi c2, vr b5, vr b16, un] [(.int p3), (.ref b16)] _
      refine st86 _ ?_
      show SS p e below m T86 116 #[vi p1, vi p2, vi p3, vi p4, vi p5, vi p6, vi (3 : Int32), vi c1, vi c2, vr b5, vr b16, un] [(.ref b_86), (.ref b16)] _
      refine st87.trans ?_
      show SS p e below m T87 119 #[vi p1, vi p2, vi p3, vi p4, vi p5, vi p6, vi (3 : Int32), vi c1, vi c2, vr b5, vr b16, un] [] _
      refine XS.iload X87.here hx rfl (hb hby at_119) rfl ?_
      show SS p e below m T87 121 #[vi p1, vi p2, vi p3, vi p4, vi p5, vi p6, vi (3 : Int32), vi c1, vi c2, vr b5, vr b16, un] [(.int (3 : Int32))] _
      refine XS.iconst X87.here hx rfl (hb hby at_121) ?_
      show SS p e below m T87 122 #[vi p1, vi p2, vi p3, vi p4, vi p5, vi p6, vi (3 : Int32), vi c1, vi c2, vr b5, vr b16, un] [(.int (3 : Int32)), (.int (3 : Int32))] _
      refine XS.icmpYes X87.here hx rfl (pc0 := 122) (pc' := 134) rfl (hb hby at_122) rfl (flt (by decide)).2.2.2 (by decide) (by decide) ?_
      show SS p e below m T87 134 #[vi p1, vi p2, vi p3, vi p4, vi p5, vi p6, vi (3 : Int32), vi c1, vi c2, vr b5, vr b16, un] [] _
      refine XS.iload X87.here hx rfl (hb hby at_134) rfl ?_
      show SS p e below m T87 136 #[vi p1, vi p2, vi p3, vi p4, vi p5, vi p6, vi (3 : Int32), vi c1, vi c2, vr b5, vr b16, un] [(.int (3 : Int32))] _
      refine XS.iconst X87.here hx rfl (hb hby at_136) ?_
      show SS p e below m T87 137 #[vi p1, vi p2, vi p3, vi p4, vi p5, vi p6, vi (3 : Int32), vi c1, vi c2, vr b5, vr b16, un] [(.int (4 : Int32)), (.int (3 : Int32))] _
      refine XS.icmpYes X87.here hx rfl (pc0 := 137) (pc' := 150) rfl (hb hby at_137) rfl (flt (by decide)).2.2.2 (by decide) (by decide) ?_
      show SS p e below m T87 150 #[vi p1, vi p2, vi p3, vi p4, vi p5, vi p6, vi (3 : Int32), vi c1, vi c2, vr b5, vr b16, un] [] _
      refine XS.iload X87.here hx rfl (hb hby at_150) rfl ?_
      exact kt
    by_cases hc152_89 : c1 = (0 : Int32)
    · obtain ⟨cq90, kq90, q90a, q90b, q90c⟩ := isOf hZ rfl A16
      obtain ⟨_, _, ⟨T90, L90, kz90, nz90⟩, -, X90, ⟨Lc90, hQ90, l90, y90, z90⟩, st90⟩ := X87.virtualBack hx (y := y_15) (z := y_15) hown (mvT hZ (ww hw 49 rfl)) (mvT hZ (ww hw 50 rfl)) (notFace_of_selects (args := #[]) (mvT hZ (ww hw 52 rfl))) (mvT hZ (ww hw 52 rfl)) (mvT hZ (ww hw 51 rfl)) (by decide) (backOf (W := 0) (rmIt l Z a0 hw [] b16 b17_b (3 : Int32) b17_c T87.heap n0 (Nat.le_trans Z0 KC.1) O0 F_store_a1_87 F_size_a1_87 F_items_sto_87) hZ (ww hw 53 rfl) (ww hw 3 rfl) (by decide) (by decide)) q90a q90c (g := (mkF m 176 #[vi p1, vi p2, vi p3, vi p4, vi p5, vi p6, vi (3 : Int32), vi c1, vi c2, vr b5, vr b16, un] [(.ref b16)])) rfl (by rw [hml]; rfl) (Steps.refl _) (argsL := []) (rest := []) (lenOf pd_13 rfl) rfl (by show 2 * 0 + _ ≤ _; exact Nat.le_of_eq rfl) (hb hby at_176) (fun _ _ => ⟨rfl, rfl, (by decide : 7 + 1 ≤ _), (by decide : 16 + 3 ≤ _)⟩)
      dsimp only [Pt.U, Pt.locs, Pt.cells, Pt.slots] at X90 l90 y90 z90 st90 hQ90
      subst l90 y90 z90
      obtain ⟨b90_b, rfl, N90q, K90, sz_b90_b, E_b_90, F_val_length_b_90, F_val_items_b_90, F_next_b_90⟩ := hQ90
      have N90 := Fr.app N87 N90q
      have ne_b5_b90_b : b5 ≠ b90_b := Nat.ne_of_lt (Nat.lt_of_lt_of_le Vm15.lt sz_b90_b)
      have ne_b16_b90_b : b16 ≠ b90_b := Nat.ne_of_lt (Nat.lt_of_lt_of_le A16.lt sz_b90_b)
      have ne_b17_b_b90_b : b17_b ≠ b90_b := Nat.ne_of_lt (Nat.lt_of_lt_of_le E_b_17.lt sz_b90_b)
      have ne_b17_c_b90_b : b17_c ≠ b90_b := Nat.ne_of_lt (Nat.lt_of_lt_of_le E_c_17.lt sz_b90_b)
      have ne_b_82_b90_b : b_82 ≠ b90_b := Nat.ne_of_lt (Nat.lt_of_lt_of_le E_b_82.lt sz_b90_b)
      have ne_b_84_b90_b : b_84 ≠ b90_b := Nat.ne_of_lt (Nat.lt_of_lt_of_le E_b_84.lt sz_b90_b)
      have ne_b_86_b90_b : b_86 ≠ b90_b := Nat.ne_of_lt (Nat.lt_of_lt_of_le E_b_86.lt sz_b90_b)
      have g_b90_b : n0 ≤ b90_b := Nat.le_trans (Nat.le_trans Z0 KC.1) sz_b90_b
      replace sz_b90_b : h0.size ≤ b90_b := Nat.le_trans KC.1 sz_b90_b
      replace Vm15 := Vm15.keep K90 nin0
      replace A16 := A16.keep K90
      replace E_b_17 := E_b_17.keep K90
      replace E_c_17 := E_c_17.keep K90
      replace E_b_82 := E_b_82.keep K90
      replace F_value_b_82 := F_value_b_82.keep K90 nin0
      replace E_b_84 := E_b_84.keep K90
      replace F_value_b_84 := F_value_b_84.keep K90 nin0
      replace E_b_86 := E_b_86.keep K90
      replace F_value_b_86 := F_value_b_86.keep K90 nin0
      replace F_store_a1_87 := F_store_a1_87.keep K90 nin0
      replace F_size_a1_87 := F_size_a1_87.keep K90 nin0
      replace F_filled_sto_87 := F_filled_sto_87.keep K90 nin0
      replace F_items_sto_87 := F_items_sto_87.keep K90 nin0
      replace V_arr_87 := V_arr_87.keep K90 nin0
      replace O0 := O0.keep K90 all0
      replace KC := KC.trans K90 all0
      have pre91 : ∀ t, Steps p.tables e below (T90.setTop (mkF m 183 #[vi p1, vi p2, vi p3, vi p4, vi p5, vi p6, vi (3 : Int32), vi c1, vi c2, vr b5, vr b16, vr b90_b] [(.int c2)])) t → Steps p.tables e below (s₁.setTop (entryFrame m #[(.int p1), (.int p2), (.int p3), (.int p4), (.int p5), (.int p6)] maxLocals)) t := by
        intro t kt
        refine pre88 t ?_
        show SS p e below m T87 152 #[vi p1, vi p2, vi p3, vi p4, vi p5, vi p6, vi (3 : Int32), vi c1, vi c2, vr b5, vr b16, un] [(.int c1)] _
        refine XS.ifYes X87.here hx rfl (pc0 := 152) (pc' := 174) rfl (hb hby at_152) rfl ((if0 _ _).trans (teq hc152_89).1) (by decide) (by decide) ?_
        show SS p e below m T87 174 #[vi p1, vi p2, vi p3, vi p4, vi p5, vi p6, vi (3 : Int32), vi c1, vi c2, vr b5, vr b16, un] [] _
        refine XS.aload X87.here hx rfl (hb hby at_174) rfl rfl ?_
        show SS p e below m T87 176 #[vi p1, vi p2, vi p3, vi p4, vi p5, vi p6, vi (3 : Int32), vi c1, vi c2, vr b5, vr b16, un] [(.ref b16)] _
        refine st90.trans ?_
        show SS p e below m T90 179 #[vi p1, vi p2, vi p3, vi p4, vi p5, vi p6, vi (3 : Int32), vi c1, vi c2, vr b5, vr b16, un] [(.ref b90_b)] _
        refine XS.astore X90.here hx rfl (hb hby at_179) rfl rfl (l' := #[vi p1, vi p2, vi p3, vi p4, vi p5, vi p6, vi (3 : Int32), vi c1, vi c2, vr b5, vr b16, vr b90_b]) rfl ?_
        show SS p e below m T90 181 #[vi p1, vi p2, vi p3, vi p4, vi p5, vi p6, vi (3 : Int32), vi c1, vi c2, vr b5, vr b16, vr b90_b] [] _
        refine XS.iload X90.here hx rfl (hb hby at_181) rfl ?_
        exact kt
      by_cases hc183_92 : c2 = (0 : Int32)
      · obtain ⟨T93, h93, L93, X93, e93, N93, K93, st93⟩ := tail3 hw X90 hx hZ hby hml hown p1 p2 p3 p4 p5 p6 c1 c2 b5 b16 b90_b b17_c k_17 (4 : Int32) [(.ref b_82), (.ref b_84), (.ref b_86), .null] k5 b_82 b_84 b_86 T90.heap n0 rfl (Nat.le_trans Z0 KC.1) O0 N90 F_next_b_90 F_val_length_b_90 F_val_items_b_90 E_b_90 E_c_17 V_arr_87 Vm15 g_b90_b ne_b5_b90_b E_b_82 F_value_b_82 rfl (by decide) E_b_84 F_value_b_84 rfl (by decide) E_b_86 F_value_b_86 rfl (by decide) (by decide) (by decide) (by decide) (by decide)
        replace Vm15 := Vm15.keep K93 (ninS ne_b5_b90_b nin0)
        replace A16 := A16.keep K93
        replace E_b_17 := E_b_17.keep K93
        replace E_c_17 := E_c_17.keep K93
        replace E_b_82 := E_b_82.keep K93
        replace F_value_b_82 := F_value_b_82.keep K93 (ninS ne_b_82_b90_b nin0)
        replace E_b_84 := E_b_84.keep K93
        replace F_value_b_84 := F_value_b_84.keep K93 (ninS ne_b_84_b90_b nin0)
        replace E_b_86 := E_b_86.keep K93
        replace F_value_b_86 := F_value_b_86.keep K93 (ninS ne_b_86_b90_b nin0)
        replace F_store_a1_87 := F_store_a1_87.keep K93 (ninS ne_b16_b90_b nin0)
        replace F_size_a1_87 := F_size_a1_87.keep K93 (ninS ne_b16_b90_b nin0)
        replace F_filled_sto_87 := F_filled_sto_87.keep K93 (ninS ne_b17_b_b90_b nin0)
        replace F_items_sto_87 := F_items_sto_87.keep K93 (ninS ne_b17_b_b90_b nin0)
        replace V_arr_87 := V_arr_87.keep K93 (ninS ne_b17_c_b90_b nin0)
        replace E_b_90 := E_b_90.keep K93
        replace O0 := O0.keep K93 (allS g_b90_b all0)
        replace KC := KC.trans K93 (allS (Or.inr sz_b90_b) all0)
        obtain ⟨fs, hr, hrun, hended, hW, hsame⟩ := X93.leave (v := some (.int (1 : Int32))) (fun h => by rw [Bd.returns] at h; cases h)
        refine ⟨_, _, pre91 _ ?_, hrun, hended, _, _, rfl, ?_, ⟨_, rfl⟩, hW, hsame.mono (by decide) (by decide)⟩
        · show SS p e below m T90 183 #[vi p1, vi p2, vi p3, vi p4, vi p5, vi p6, vi (3 : Int32), vi c1, vi c2, vr b5, vr b16, vr b90_b] [(.int c2)] _
          refine XS.ifYes X90.here hx rfl (pc0 := 183) (pc' := 197) rfl (hb hby at_183) rfl ((if0 _ _).trans (teq hc183_92).1) (by decide) (by decide) ?_
          show SS p e below m T90 197 #[vi p1, vi p2, vi p3, vi p4, vi p5, vi p6, vi (3 : Int32), vi c1, vi c2, vr b5, vr b16, vr b90_b] [] _
          refine st93 _ ?_
          show SS p e below m T93 282 #[vi p1, vi p2, vi p3, vi p4, vi p5, vi p6, vi (3 : Int32), vi c1, vi c2, vr b5, vr b16, vr b90_b] [(.int (0 : Int32))] _
          refine XS.ifNo X93.here hx rfl (hb hby at_282) rfl ((if0 _ _).trans (teq (by decide)).2) ?_
          show SS p e below m T93 285 #[vi p1, vi p2, vi p3, vi p4, vi p5, vi p6, vi (3 : Int32), vi c1, vi c2, vr b5, vr b16, vr b90_b] [] _
          refine XS.iconst X93.here hx rfl (hb hby at_285) ?_
          show SS p e below m T93 286 #[vi p1, vi p2, vi p3, vi p4, vi p5, vi p6, vi (3 : Int32), vi c1, vi c2, vr b5, vr b16, vr b90_b] [(.int (1 : Int32))] _
          refine XS.goto X93.here hx rfl (pc0 := 286) (pc' := 290) rfl (hb hby at_286) (by decide) (by decide) ?_
          show SS p e below m T93 290 #[vi p1, vi p2, vi p3, vi p4, vi p5, vi p6, vi (3 : Int32), vi c1, vi c2, vr b5, vr b16, vr b90_b] [(.int (1 : Int32))] _
          exact retN X93 hx (t := .boolean) Bd.returns (by simp) (hb hby at_290) hr
        · show Q_rm0 Z p1 p2 p3 p4 p5 p6 cA cl mr h0 n0 _ T93.heap _
          rw [e93]
          exact ⟨rfl, N93, KC⟩
      · obtain ⟨_, _, ⟨T94, L94, kz94, nz94⟩, -, X94, ⟨Lc94, hQ94, l94, y94, z94⟩, st94⟩ := Jvm.LawKit.callS X90 hx (y := y_5) hown (mvT hZ (ww hw 30 rfl)) (mvT hZ (ww hw 31 rfl)) (mvT hZ (ww hw 32 rfl)) (mvT hZ (ww hw 33 rfl)) (by decide) (backOf (W := 1) (rmVo l Z a0 hw [] (p2 ^^^ p4) cA cl T90.heap n0 (Nat.le_trans Z0 KC.1) O0 S_high S_cache BX) hZ (ww hw 33 rfl) (ww hw 32 rfl) (by decide) (by decide)) (g := (mkF m 191 #[vi p1, vi p2, vi p3, vi p4, vi p5, vi p6, vi (3 : Int32), vi c1, vi c2, vr b5, vr b16, vr b90_b] [(.int (p2 ^^^ p4)), (.ref b16)])) rfl (by rw [hml]; rfl) (argsL := [(.int (p2 ^^^ p4))]) (rest := [(.ref b16)]) (lenOf pd_14 rfl) rfl (by show 2 * 0 + _ ≤ _; exact Nat.le_of_eq rfl) (hb hby at_191) (fun _ _ => ⟨rfl, rfl, (by decide : 8 + 1 ≤ _), (by decide : 19 + 1 ≤ _)⟩)
        dsimp only [Pt.U, Pt.locs, Pt.cells, Pt.slots] at X94 l94 y94 z94 st94 hQ94
        subst l94 y94 z94
        obtain ⟨b_94, rfl, N94q, K94, E_b_94, F_value_b_94⟩ := hQ94
        have N94 := Fr.app N90 N94q
        replace Vm15 := Vm15.keep K94 nin0
        replace A16 := A16.keep K94
        replace E_b_17 := E_b_17.keep K94
        replace E_c_17 := E_c_17.keep K94
        replace E_b_82 := E_b_82.keep K94
        replace F_value_b_82 := F_value_b_82.keep K94 nin0
        replace E_b_84 := E_b_84.keep K94
        replace F_value_b_84 := F_value_b_84.keep K94 nin0
        replace E_b_86 := E_b_86.keep K94
        replace F_value_b_86 := F_value_b_86.keep K94 nin0
        replace F_store_a1_87 := F_store_a1_87.keep K94 nin0
        replace F_size_a1_87 := F_size_a1_87.keep K94 nin0
        replace F_filled_sto_87 := F_filled_sto_87.keep K94 nin0
        replace F_items_sto_87 := F_items_sto_87.keep K94 nin0
        replace V_arr_87 := V_arr_87.keep K94 nin0
        replace E_b_90 := E_b_90.keep K94
        replace F_val_length_b_90 := F_val_length_b_90.keep K94 nin0
        replace F_val_items_b_90 := F_val_items_b_90.keep K94 nin0
        replace F_next_b_90 := F_next_b_90.keep K94 nin0
        replace O0 := O0.keep K94 all0
        replace KC := KC.trans K94 all0
        obtain ⟨cq95, kq95, q95a, q95b, q95c⟩ := isOf hZ rfl A16
        obtain ⟨_, _, ⟨T95, L95, kz95, nz95⟩, -, X95, ⟨Lc95, hQ95, l95, y95, z95⟩, st95⟩ := X94.virtualBack hx (y := y_12) (z := y_12) hown (mvT hZ (ww hw 37 rfl)) (mvT hZ (ww hw 38 rfl)) (notFace_of_selects (args := #[]) (mvT hZ (ww hw 40 rfl))) (mvT hZ (ww hw 40 rfl)) (mvT hZ (ww hw 39 rfl)) (by decide) (backOf (W := 0) (rmAddA l Z a0 hw [] b16 b_94 b17_b (3 : Int32) (3 : Int32) b17_c k_17 (4 : Int32) [(.ref b_82), (.ref b_84), (.ref b_86), .null] (4 : Int32) [(.ref b_82), (.ref b_84), (.ref b_86), (.ref b_94)] T94.heap n0 (Nat.le_trans Z0 KC.1) O0 F_store_a1_87 F_size_a1_87 A16 E_b_17 F_filled_sto_87 F_items_sto_87 E_c_17 V_arr_87 E_b_94 g_b16 g_b17_b g_b17_c hq17_0 (by decide) (by decide) (by decide) (by decide) (by decide) rfl (Nat.le_of_ble_eq_true rfl)) hZ (ww hw 41 rfl) (ww hw 3 rfl) (by decide) (by decide)) q95a q95c (g := (mkF m 194 #[vi p1, vi p2, vi p3, vi p4, vi p5, vi p6, vi (3 : Int32), vi c1, vi c2, vr b5, vr b16, vr b90_b] [(.ref b_94), (.ref b16)])) rfl (by rw [hml]; rfl) (Steps.refl _) (argsL := [(.ref b_94)]) (rest := []) (lenOf pd_15 rfl) rfl (by show 2 * 0 + _ ≤ _; exact Nat.le_of_eq rfl) (hb hby at_194) (fun _ _ => ⟨rfl, rfl, (by decide : 9 + 0 ≤ _), (by decide : 20 + 0 ≤ _)⟩)
        dsimp only [Pt.U, Pt.locs, Pt.cells, Pt.slots] at X95 l95 y95 z95 st95 hQ95
        subst l95 y95 z95
        obtain ⟨rfl, N95q, K95, F_store_a1_95, F_size_a1_95, F_filled_sto_95, F_items_sto_95, V_arr_95⟩ := hQ95
        have N95 := Fr.app N94 N95q
        have nec_b_94_b17_c : b_94 ≠ b17_c := Exa.ne E_b_94 E_c_17 (by decide)
        have nec_b_94_b17_b : b_94 ≠ b17_b := Exa.ne E_b_94 E_b_17 (by decide)
        have nec_b_94_b16 : b_94 ≠ b16 := Exa.ne E_b_94 A16 (by decide)
        replace Vm15 := Vm15.keep K95 (ninS ne_b5_b16 (ninS ne_b5_b17_b (ninS ne_b5_b17_c nin0)))
        replace A16 := A16.keep K95
        replace E_b_17 := E_b_17.keep K95
        replace E_c_17 := E_c_17.keep K95
        replace E_b_82 := E_b_82.keep K95
        replace F_value_b_82 := F_value_b_82.keep K95 (ninS nec_b_82_b16 (ninS nec_b_82_b17_b (ninS nec_b_82_b17_c nin0)))
        replace E_b_84 := E_b_84.keep K95
        replace F_value_b_84 := F_value_b_84.keep K95 (ninS nec_b_84_b16 (ninS nec_b_84_b17_b (ninS nec_b_84_b17_c nin0)))
        replace E_b_86 := E_b_86.keep K95
        replace F_value_b_86 := F_value_b_86.keep K95 (ninS nec_b_86_b16 (ninS nec_b_86_b17_b (ninS nec_b_86_b17_c nin0)))
        replace E_b_90 := E_b_90.keep K95
        replace F_val_length_b_90 := F_val_length_b_90.keep K95 (ninS (Ne.symm ne_b16_b90_b) (ninS (Ne.symm ne_b17_b_b90_b) (ninS (Ne.symm ne_b17_c_b90_b) nin0)))
        replace F_val_items_b_90 := F_val_items_b_90.keep K95 (ninS (Ne.symm ne_b16_b90_b) (ninS (Ne.symm ne_b17_b_b90_b) (ninS (Ne.symm ne_b17_c_b90_b) nin0)))
        replace F_next_b_90 := F_next_b_90.keep K95 (ninS (Ne.symm ne_b16_b90_b) (ninS (Ne.symm ne_b17_b_b90_b) (ninS (Ne.symm ne_b17_c_b90_b) nin0)))
        replace E_b_94 := E_b_94.keep K95
        replace F_value_b_94 := F_value_b_94.keep K95 (ninS nec_b_94_b16 (ninS nec_b_94_b17_b (ninS nec_b_94_b17_c nin0)))
        replace O0 := O0.keep K95 (allS g_b16 (allS g_b17_b (allS g_b17_c all0)))
        replace KC := KC.trans K95 (allS (Or.inr sz_b16) (allS (Or.inr sz_b17_b) (allS (Or.inr sz_b17_c) all0)))
        obtain ⟨T96, h96, L96, X96, e96, N96, K96, st96⟩ := tail3 hw X95 hx hZ hby hml hown p1 p2 p3 p4 p5 p6 c1 c2 b5 b16 b90_b b17_c k_17 (4 : Int32) [(.ref b_82), (.ref b_84), (.ref b_86), (.ref b_94)] k5 b_82 b_84 b_86 T95.heap n0 rfl (Nat.le_trans Z0 KC.1) O0 N95 F_next_b_90 F_val_length_b_90 F_val_items_b_90 E_b_90 E_c_17 V_arr_95 Vm15 g_b90_b ne_b5_b90_b E_b_82 F_value_b_82 rfl (by decide) E_b_84 F_value_b_84 rfl (by decide) E_b_86 F_value_b_86 rfl (by decide) (by decide) (by decide) (by decide) (by decide)
        have nec_b_94_b90_b : b_94 ≠ b90_b := Exa.ne E_b_94 E_b_90 (by decide)
        replace Vm15 := Vm15.keep K96 (ninS ne_b5_b90_b nin0)
        replace A16 := A16.keep K96
        replace E_b_17 := E_b_17.keep K96
        replace E_c_17 := E_c_17.keep K96
        replace E_b_82 := E_b_82.keep K96
        replace F_value_b_82 := F_value_b_82.keep K96 (ninS ne_b_82_b90_b nin0)
        replace E_b_84 := E_b_84.keep K96
        replace F_value_b_84 := F_value_b_84.keep K96 (ninS ne_b_84_b90_b nin0)
        replace E_b_86 := E_b_86.keep K96
        replace F_value_b_86 := F_value_b_86.keep K96 (ninS ne_b_86_b90_b nin0)
        replace E_b_90 := E_b_90.keep K96
        replace E_b_94 := E_b_94.keep K96
        replace F_value_b_94 := F_value_b_94.keep K96 (ninS nec_b_94_b90_b nin0)
        replace F_store_a1_95 := F_store_a1_95.keep K96 (ninS ne_b16_b90_b nin0)
        replace F_size_a1_95 := F_size_a1_95.keep K96 (ninS ne_b16_b90_b nin0)
        replace F_filled_sto_95 := F_filled_sto_95.keep K96 (ninS ne_b17_b_b90_b nin0)
        replace F_items_sto_95 := F_items_sto_95.keep K96 (ninS ne_b17_b_b90_b nin0)
        replace V_arr_95 := V_arr_95.keep K96 (ninS ne_b17_c_b90_b nin0)
        replace O0 := O0.keep K96 (allS g_b90_b all0)
        replace KC := KC.trans K96 (allS (Or.inr sz_b90_b) all0)
        obtain ⟨fs, hr, hrun, hended, hW, hsame⟩ := X96.leave (v := some (.int (1 : Int32))) (fun h => by rw [Bd.returns] at h; cases h)
        refine ⟨_, _, pre91 _ ?_, hrun, hended, _, _, rfl, ?_, ⟨_, rfl⟩, hW, hsame.mono (by decide) (by decide)⟩
        · show SS p e below m T90 183 #[vi p1, vi p2, vi p3, vi p4, vi p5, vi p6, vi (3 : Int32), vi c1, vi c2, vr b5, vr b16, vr b90_b] [(.int c2)] _
          refine XS.ifNo X90.here hx rfl (hb hby at_183) rfl ((if0 _ _).trans (feq hc183_92).1) ?_
          show SS p e below m T90 186 #[vi p1, vi p2, vi p3, vi p4, vi p5, vi p6, vi (3 : Int32), vi c1, vi c2, vr b5, vr b16, vr b90_b] [] _
          refine XS.aload X90.here hx rfl (hb hby at_186) rfl rfl ?_
          show SS p e below m T90 188 #[vi p1, vi p2, vi p3, vi p4, vi p5, vi p6, vi (3 : Int32), vi c1, vi c2, vr b5, vr b16, vr b90_b] [(.ref b16)] _
          refine XS.iloadN X90.here hx rfl (hb hby at_188) rfl ?_
          show SS p e below m T90 189 #[vi p1, vi p2, vi p3, vi p4, vi p5, vi p6, vi (3 : Int32), vi c1, vi c2, vr b5, vr b16, vr b90_b] [(.int p2), (.ref b16)] _
          refine XS.iloadN X90.here hx rfl (hb hby at_189) rfl ?_
          show SS p e below m T90 190 #[vi p1, vi p2, vi p3, vi p4, vi p5, vi p6, vi (3 : Int32), vi c1, vi c2, vr b5, vr b16, vr b90_b] [(.int p4), (.int p2), (.ref b16)] _
          refine XS.ixor X90.here hx rfl (hb hby at_190) rfl ?_
          show SS p e below m T90 191 #[vi p1, vi p2, vi p3, vi p4, vi p5, vi p6, vi (3 : Int32), vi c1, vi c2, vr b5, vr b16, vr b90_b] [(.int (p2 ^^^ p4)), (.ref b16)] _
          refine st94 _ ?_
          show SS p e below m T94 194 #[vi p1, vi p2, vi p3, vi p4, vi p5, vi p6, vi (3 : Int32), vi c1, vi c2, vr b5, vr b16, vr b90_b] [(.ref b_94), (.ref b16)] _
          refine st95.trans ?_
          show SS p e below m T95 197 #[vi p1, vi p2, vi p3, vi p4, vi p5, vi p6, vi (3 : Int32), vi c1, vi c2, vr b5, vr b16, vr b90_b] [] _
          refine st96 _ ?_
          show SS p e below m T96 282 #[vi p1, vi p2, vi p3, vi p4, vi p5, vi p6, vi (3 : Int32), vi c1, vi c2, vr b5, vr b16, vr b90_b] [(.int (0 : Int32))] _
          refine XS.ifNo X96.here hx rfl (hb hby at_282) rfl ((if0 _ _).trans (teq (by decide)).2) ?_
          show SS p e below m T96 285 #[vi p1, vi p2, vi p3, vi p4, vi p5, vi p6, vi (3 : Int32), vi c1, vi c2, vr b5, vr b16, vr b90_b] [] _
          refine XS.iconst X96.here hx rfl (hb hby at_285) ?_
          show SS p e below m T96 286 #[vi p1, vi p2, vi p3, vi p4, vi p5, vi p6, vi (3 : Int32), vi c1, vi c2, vr b5, vr b16, vr b90_b] [(.int (1 : Int32))] _
          refine XS.goto X96.here hx rfl (pc0 := 286) (pc' := 290) rfl (hb hby at_286) (by decide) (by decide) ?_
          show SS p e below m T96 290 #[vi p1, vi p2, vi p3, vi p4, vi p5, vi p6, vi (3 : Int32), vi c1, vi c2, vr b5, vr b16, vr b90_b] [(.int (1 : Int32))] _
          exact retN X96 hx (t := .boolean) Bd.returns (by simp) (hb hby at_290) hr
        · show Q_rm0 Z p1 p2 p3 p4 p5 p6 cA cl mr h0 n0 _ T96.heap _
          rw [e96]
          exact ⟨rfl, N96, KC⟩
    · obtain ⟨cq97, kq97, q97a, q97b, q97c⟩ := isOf hZ rfl A16
      obtain ⟨_, _, ⟨T97, L97, kz97, nz97⟩, -, X97, ⟨Lc97, hQ97, l97, y97, z97⟩, st97⟩ := X87.virtualBack hx (y := y_13) (z := y_13) hown (mvT hZ (ww hw 135 rfl)) (mvT hZ (ww hw 136 rfl)) (notFace_of_selects (args := #[]) (mvT hZ (ww hw 138 rfl))) (mvT hZ (ww hw 138 rfl)) (mvT hZ (ww hw 137 rfl)) (by decide) (backOf (W := 0) (rmCp l Z a0 hw [] b16 b17_b (3 : Int32) T87.heap n0 (Nat.le_trans Z0 KC.1) O0 F_store_a1_87 F_size_a1_87) hZ (ww hw 139 rfl) (ww hw 3 rfl) (by decide) (by decide)) q97a q97c (g := (mkF m 157 #[vi p1, vi p2, vi p3, vi p4, vi p5, vi p6, vi (3 : Int32), vi c1, vi c2, vr b5, vr b16, un] [(.ref b16)])) rfl (by rw [hml]; rfl) (Steps.refl _) (argsL := []) (rest := []) (lenOf pd_16 rfl) rfl (by show 2 * 0 + _ ≤ _; exact Nat.le_of_eq rfl) (hb hby at_157) (fun _ _ => ⟨rfl, rfl, (by decide : 7 + 1 ≤ _), (by decide : 16 + 2 ≤ _)⟩)
      dsimp only [Pt.U, Pt.locs, Pt.cells, Pt.slots] at X97 l97 y97 z97 st97 hQ97
      subst l97 y97 z97
      obtain ⟨b97_b, rfl, N97q, K97, sz_b97_b, E_b_97, F_store_b_97, F_size_b_97⟩ := hQ97
      have N97 := Fr.app N87 N97q
      have ne_b5_b97_b : b5 ≠ b97_b := Nat.ne_of_lt (Nat.lt_of_lt_of_le Vm15.lt sz_b97_b)
      have ne_b16_b97_b : b16 ≠ b97_b := Nat.ne_of_lt (Nat.lt_of_lt_of_le A16.lt sz_b97_b)
      have ne_b17_b_b97_b : b17_b ≠ b97_b := Nat.ne_of_lt (Nat.lt_of_lt_of_le E_b_17.lt sz_b97_b)
      have ne_b17_c_b97_b : b17_c ≠ b97_b := Nat.ne_of_lt (Nat.lt_of_lt_of_le E_c_17.lt sz_b97_b)
      have ne_b_82_b97_b : b_82 ≠ b97_b := Nat.ne_of_lt (Nat.lt_of_lt_of_le E_b_82.lt sz_b97_b)
      have ne_b_84_b97_b : b_84 ≠ b97_b := Nat.ne_of_lt (Nat.lt_of_lt_of_le E_b_84.lt sz_b97_b)
      have ne_b_86_b97_b : b_86 ≠ b97_b := Nat.ne_of_lt (Nat.lt_of_lt_of_le E_b_86.lt sz_b97_b)
      have g_b97_b : n0 ≤ b97_b := Nat.le_trans (Nat.le_trans Z0 KC.1) sz_b97_b
      replace sz_b97_b : h0.size ≤ b97_b := Nat.le_trans KC.1 sz_b97_b
      replace Vm15 := Vm15.keep K97 nin0
      replace A16 := A16.keep K97
      replace E_b_17 := E_b_17.keep K97
      replace E_c_17 := E_c_17.keep K97
      replace E_b_82 := E_b_82.keep K97
      replace F_value_b_82 := F_value_b_82.keep K97 nin0
      replace E_b_84 := E_b_84.keep K97
      replace F_value_b_84 := F_value_b_84.keep K97 nin0
      replace E_b_86 := E_b_86.keep K97
      replace F_value_b_86 := F_value_b_86.keep K97 nin0
      replace F_store_a1_87 := F_store_a1_87.keep K97 nin0
      replace F_size_a1_87 := F_size_a1_87.keep K97 nin0
      replace F_filled_sto_87 := F_filled_sto_87.keep K97 nin0
      replace F_items_sto_87 := F_items_sto_87.keep K97 nin0
      replace V_arr_87 := V_arr_87.keep K97 nin0
      replace O0 := O0.keep K97 all0
      replace KC := KC.trans K97 all0
      obtain ⟨_, _, ⟨T98, L98, kz98, nz98⟩, -, X98, ⟨Lc98, hQ98, l98, y98, z98⟩, st98⟩ := Jvm.LawKit.callS X97 hx (y := y_5) hown (mvT hZ (ww hw 30 rfl)) (mvT hZ (ww hw 31 rfl)) (mvT hZ (ww hw 32 rfl)) (mvT hZ (ww hw 33 rfl)) (by decide) (backOf (W := 1) (rmVo l Z a0 hw [] (p1 ^^^ p5) cA cl T97.heap n0 (Nat.le_trans Z0 KC.1) O0 S_high S_cache BX) hZ (ww hw 33 rfl) (ww hw 32 rfl) (by decide) (by decide)) (g := (mkF m 168 #[vi p1, vi p2, vi p3, vi p4, vi p5, vi p6, vi (3 : Int32), vi c1, vi c2, vr b5, vr b16, vr b97_b] [(.int (p1 ^^^ p5)), (.ref b97_b)])) rfl (by rw [hml]; rfl) (argsL := [(.int (p1 ^^^ p5))]) (rest := [(.ref b97_b)]) (lenOf pd_14 rfl) rfl (by show 2 * 0 + _ ≤ _; exact Nat.le_of_eq rfl) (hb hby at_168) (fun _ _ => ⟨rfl, rfl, (by decide : 8 + 1 ≤ _), (by decide : 18 + 1 ≤ _)⟩)
      dsimp only [Pt.U, Pt.locs, Pt.cells, Pt.slots] at X98 l98 y98 z98 st98 hQ98
      subst l98 y98 z98
      obtain ⟨b_98, rfl, N98q, K98, E_b_98, F_value_b_98⟩ := hQ98
      have N98 := Fr.app N97 N98q
      replace Vm15 := Vm15.keep K98 nin0
      replace A16 := A16.keep K98
      replace E_b_17 := E_b_17.keep K98
      replace E_c_17 := E_c_17.keep K98
      replace E_b_82 := E_b_82.keep K98
      replace F_value_b_82 := F_value_b_82.keep K98 nin0
      replace E_b_84 := E_b_84.keep K98
      replace F_value_b_84 := F_value_b_84.keep K98 nin0
      replace E_b_86 := E_b_86.keep K98
      replace F_value_b_86 := F_value_b_86.keep K98 nin0
      replace F_store_a1_87 := F_store_a1_87.keep K98 nin0
      replace F_size_a1_87 := F_size_a1_87.keep K98 nin0
      replace F_filled_sto_87 := F_filled_sto_87.keep K98 nin0
      replace F_items_sto_87 := F_items_sto_87.keep K98 nin0
      replace V_arr_87 := V_arr_87.keep K98 nin0
      replace E_b_97 := E_b_97.keep K98
      replace F_store_b_97 := F_store_b_97.keep K98 nin0
      replace F_size_b_97 := F_size_b_97.keep K98 nin0
      replace O0 := O0.keep K98 all0
      replace KC := KC.trans K98 all0
      obtain ⟨cq99, kq99, q99a, q99b, q99c⟩ := isOf hZ rfl E_b_97
      obtain ⟨_, _, ⟨T99, L99, kz99, nz99⟩, -, X99, ⟨Lc99, hQ99, l99, y99, z99⟩, st99⟩ := X98.virtualBack hx (y := y_12) (z := y_12) hown (mvT hZ (ww hw 37 rfl)) (mvT hZ (ww hw 38 rfl)) (notFace_of_selects (args := #[]) (mvT hZ (ww hw 40 rfl))) (mvT hZ (ww hw 40 rfl)) (mvT hZ (ww hw 39 rfl)) (by decide) (backOf (W := 0) (rmAddA l Z a0 hw [] b97_b b_98 b17_b (3 : Int32) (3 : Int32) b17_c k_17 (4 : Int32) [(.ref b_82), (.ref b_84), (.ref b_86), .null] (4 : Int32) [(.ref b_82), (.ref b_84), (.ref b_86), (.ref b_98)] T98.heap n0 (Nat.le_trans Z0 KC.1) O0 F_store_b_97 F_size_b_97 E_b_97 E_b_17 F_filled_sto_87 F_items_sto_87 E_c_17 V_arr_87 E_b_98 g_b97_b g_b17_b g_b17_c hq17_0 (by decide) (by decide) (by decide) (by decide) (by decide) rfl (Nat.le_of_ble_eq_true rfl)) hZ (ww hw 41 rfl) (ww hw 3 rfl) (by decide) (by decide)) q99a q99c (g := (mkF m 171 #[vi p1, vi p2, vi p3, vi p4, vi p5, vi p6, vi (3 : Int32), vi c1, vi c2, vr b5, vr b16, vr b97_b] [(.ref b_98), (.ref b97_b)])) rfl (by rw [hml]; rfl) (Steps.refl _) (argsL := [(.ref b_98)]) (rest := []) (lenOf pd_15 rfl) rfl (by show 2 * 0 + _ ≤ _; exact Nat.le_of_eq rfl) (hb hby at_171) (fun _ _ => ⟨rfl, rfl, (by decide : 9 + 0 ≤ _), (by decide : 19 + 0 ≤ _)⟩)
      dsimp only [Pt.U, Pt.locs, Pt.cells, Pt.slots] at X99 l99 y99 z99 st99 hQ99
      subst l99 y99 z99
      obtain ⟨rfl, N99q, K99, F_store_a1_99, F_size_a1_99, F_filled_sto_99, F_items_sto_99, V_arr_99⟩ := hQ99
      have N99 := Fr.app N98 N99q
      have nec_b_98_b17_c : b_98 ≠ b17_c := Exa.ne E_b_98 E_c_17 (by decide)
      have nec_b_98_b17_b : b_98 ≠ b17_b := Exa.ne E_b_98 E_b_17 (by decide)
      have nec_b_98_b97_b : b_98 ≠ b97_b := Exa.ne E_b_98 E_b_97 (by decide)
      replace Vm15 := Vm15.keep K99 (ninS ne_b5_b97_b (ninS ne_b5_b17_b (ninS ne_b5_b17_c nin0)))
      replace A16 := A16.keep K99
      replace E_b_17 := E_b_17.keep K99
      replace E_c_17 := E_c_17.keep K99
      replace E_b_82 := E_b_82.keep K99
      replace F_value_b_82 := F_value_b_82.keep K99 (ninS ne_b_82_b97_b (ninS nec_b_82_b17_b (ninS nec_b_82_b17_c nin0)))
      replace E_b_84 := E_b_84.keep K99
      replace F_value_b_84 := F_value_b_84.keep K99 (ninS ne_b_84_b97_b (ninS nec_b_84_b17_b (ninS nec_b_84_b17_c nin0)))
      replace E_b_86 := E_b_86.keep K99
      replace F_value_b_86 := F_value_b_86.keep K99 (ninS ne_b_86_b97_b (ninS nec_b_86_b17_b (ninS nec_b_86_b17_c nin0)))
      replace F_store_a1_87 := F_store_a1_87.keep K99 (ninS ne_b16_b97_b (ninS ne_b16_b17_b (ninS ne_b16_b17_c nin0)))
      replace F_size_a1_87 := F_size_a1_87.keep K99 (ninS ne_b16_b97_b (ninS ne_b16_b17_b (ninS ne_b16_b17_c nin0)))
      replace E_b_97 := E_b_97.keep K99
      replace E_b_98 := E_b_98.keep K99
      replace F_value_b_98 := F_value_b_98.keep K99 (ninS nec_b_98_b97_b (ninS nec_b_98_b17_b (ninS nec_b_98_b17_c nin0)))
      replace O0 := O0.keep K99 (allS g_b97_b (allS g_b17_b (allS g_b17_c all0)))
      replace KC := KC.trans K99 (allS (Or.inr sz_b97_b) (allS (Or.inr sz_b17_b) (allS (Or.inr sz_b17_c) all0)))
      obtain ⟨cq100, kq100, q100a, q100b, q100c⟩ := isOf hZ rfl A16
      obtain ⟨_, _, ⟨T100, L100, kz100, nz100⟩, -, X100, ⟨Lc100, hQ100, l100, y100, z100⟩, st100⟩ := X99.virtualBack hx (y := y_15) (z := y_15) hown (mvT hZ (ww hw 49 rfl)) (mvT hZ (ww hw 50 rfl)) (notFace_of_selects (args := #[]) (mvT hZ (ww hw 52 rfl))) (mvT hZ (ww hw 52 rfl)) (mvT hZ (ww hw 51 rfl)) (by decide) (backOf (W := 0) (rmIt l Z a0 hw [] b16 b17_b (3 : Int32) b17_c T99.heap n0 (Nat.le_trans Z0 KC.1) O0 F_store_a1_87 F_size_a1_87 F_items_sto_99) hZ (ww hw 53 rfl) (ww hw 3 rfl) (by decide) (by decide)) q100a q100c (g := (mkF m 176 #[vi p1, vi p2, vi p3, vi p4, vi p5, vi p6, vi (3 : Int32), vi c1, vi c2, vr b5, vr b16, vr b97_b] [(.ref b16)])) rfl (by rw [hml]; rfl) (Steps.refl _) (argsL := []) (rest := []) (lenOf pd_13 rfl) rfl (by show 2 * 0 + _ ≤ _; exact Nat.le_of_eq rfl) (hb hby at_176) (fun _ _ => ⟨rfl, rfl, (by decide : 9 + 1 ≤ _), (by decide : 19 + 3 ≤ _)⟩)
      dsimp only [Pt.U, Pt.locs, Pt.cells, Pt.slots] at X100 l100 y100 z100 st100 hQ100
      subst l100 y100 z100
      obtain ⟨b100_b, rfl, N100q, K100, sz_b100_b, E_b_100, F_val_length_b_100, F_val_items_b_100, F_next_b_100⟩ := hQ100
      have N100 := Fr.app N99 N100q
      have ne_b5_b100_b : b5 ≠ b100_b := Nat.ne_of_lt (Nat.lt_of_lt_of_le Vm15.lt sz_b100_b)
      have ne_b16_b100_b : b16 ≠ b100_b := Nat.ne_of_lt (Nat.lt_of_lt_of_le A16.lt sz_b100_b)
      have ne_b17_b_b100_b : b17_b ≠ b100_b := Nat.ne_of_lt (Nat.lt_of_lt_of_le E_b_17.lt sz_b100_b)
      have ne_b17_c_b100_b : b17_c ≠ b100_b := Nat.ne_of_lt (Nat.lt_of_lt_of_le E_c_17.lt sz_b100_b)
      have ne_b_82_b100_b : b_82 ≠ b100_b := Nat.ne_of_lt (Nat.lt_of_lt_of_le E_b_82.lt sz_b100_b)
      have ne_b_84_b100_b : b_84 ≠ b100_b := Nat.ne_of_lt (Nat.lt_of_lt_of_le E_b_84.lt sz_b100_b)
      have ne_b_86_b100_b : b_86 ≠ b100_b := Nat.ne_of_lt (Nat.lt_of_lt_of_le E_b_86.lt sz_b100_b)
      have ne_b97_b_b100_b : b97_b ≠ b100_b := Nat.ne_of_lt (Nat.lt_of_lt_of_le E_b_97.lt sz_b100_b)
      have ne_b_98_b100_b : b_98 ≠ b100_b := Nat.ne_of_lt (Nat.lt_of_lt_of_le E_b_98.lt sz_b100_b)
      have g_b100_b : n0 ≤ b100_b := Nat.le_trans (Nat.le_trans Z0 KC.1) sz_b100_b
      replace sz_b100_b : h0.size ≤ b100_b := Nat.le_trans KC.1 sz_b100_b
      replace Vm15 := Vm15.keep K100 nin0
      replace A16 := A16.keep K100
      replace E_b_17 := E_b_17.keep K100
      replace E_c_17 := E_c_17.keep K100
      replace E_b_82 := E_b_82.keep K100
      replace F_value_b_82 := F_value_b_82.keep K100 nin0
      replace E_b_84 := E_b_84.keep K100
      replace F_value_b_84 := F_value_b_84.keep K100 nin0
      replace E_b_86 := E_b_86.keep K100
      replace F_value_b_86 := F_value_b_86.keep K100 nin0
      replace F_store_a1_87 := F_store_a1_87.keep K100 nin0
      replace F_size_a1_87 := F_size_a1_87.keep K100 nin0
      replace E_b_97 := E_b_97.keep K100
      replace E_b_98 := E_b_98.keep K100
      replace F_value_b_98 := F_value_b_98.keep K100 nin0
      replace F_store_a1_99 := F_store_a1_99.keep K100 nin0
      replace F_size_a1_99 := F_size_a1_99.keep K100 nin0
      replace F_filled_sto_99 := F_filled_sto_99.keep K100 nin0
      replace F_items_sto_99 := F_items_sto_99.keep K100 nin0
      replace V_arr_99 := V_arr_99.keep K100 nin0
      replace O0 := O0.keep K100 all0
      replace KC := KC.trans K100 all0
      have pre101 : ∀ t, Steps p.tables e below (T100.setTop (mkF m 183 #[vi p1, vi p2, vi p3, vi p4, vi p5, vi p6, vi (3 : Int32), vi c1, vi c2, vr b5, vr b16, vr b100_b] [(.int c2)])) t → Steps p.tables e below (s₁.setTop (entryFrame m #[(.int p1), (.int p2), (.int p3), (.int p4), (.int p5), (.int p6)] maxLocals)) t := by
        intro t kt
        refine pre88 t ?_
        show SS p e below m T87 152 #[vi p1, vi p2, vi p3, vi p4, vi p5, vi p6, vi (3 : Int32), vi c1, vi c2, vr b5, vr b16, un] [(.int c1)] _
        refine XS.ifNo X87.here hx rfl (hb hby at_152) rfl ((if0 _ _).trans (feq hc152_89).1) ?_
        show SS p e below m T87 155 #[vi p1, vi p2, vi p3, vi p4, vi p5, vi p6, vi (3 : Int32), vi c1, vi c2, vr b5, vr b16, un] [] _
        refine XS.aload X87.here hx rfl (hb hby at_155) rfl rfl ?_
        show SS p e below m T87 157 #[vi p1, vi p2, vi p3, vi p4, vi p5, vi p6, vi (3 : Int32), vi c1, vi c2, vr b5, vr b16, un] [(.ref b16)] _
        refine st97.trans ?_
        show SS p e below m T97 160 #[vi p1, vi p2, vi p3, vi p4, vi p5, vi p6, vi (3 : Int32), vi c1, vi c2, vr b5, vr b16, un] [(.ref b97_b)] _
        refine XS.astore X97.here hx rfl (hb hby at_160) rfl rfl (l' := #[vi p1, vi p2, vi p3, vi p4, vi p5, vi p6, vi (3 : Int32), vi c1, vi c2, vr b5, vr b16, vr b97_b]) rfl ?_
        show SS p e below m T97 162 #[vi p1, vi p2, vi p3, vi p4, vi p5, vi p6, vi (3 : Int32), vi c1, vi c2, vr b5, vr b16, vr b97_b] [] _
        refine XS.aload X97.here hx rfl (hb hby at_162) rfl rfl ?_
        show SS p e below m T97 164 #[vi p1, vi p2, vi p3, vi p4, vi p5, vi p6, vi (3 : Int32), vi c1, vi c2, vr b5, vr b16, vr b97_b] [(.ref b97_b)] _
        refine XS.iloadN X97.here hx rfl (hb hby at_164) rfl ?_
        show SS p e below m T97 165 #[vi p1, vi p2, vi p3, vi p4, vi p5, vi p6, vi (3 : Int32), vi c1, vi c2, vr b5, vr b16, vr b97_b] [(.int p1), (.ref b97_b)] _
        refine XS.iload X97.here hx rfl (hb hby at_165) rfl ?_
        show SS p e below m T97 167 #[vi p1, vi p2, vi p3, vi p4, vi p5, vi p6, vi (3 : Int32), vi c1, vi c2, vr b5, vr b16, vr b97_b] [(.int p5), (.int p1), (.ref b97_b)] _
        refine XS.ixor X97.here hx rfl (hb hby at_167) rfl ?_
        show SS p e below m T97 168 #[vi p1, vi p2, vi p3, vi p4, vi p5, vi p6, vi (3 : Int32), vi c1, vi c2, vr b5, vr b16, vr b97_b] [(.int (p1 ^^^ p5)), (.ref b97_b)] _
        refine st98 _ ?_
        show SS p e below m T98 171 #[vi p1, vi p2, vi p3, vi p4, vi p5, vi p6, vi (3 : Int32), vi c1, vi c2, vr b5, vr b16, vr b97_b] [(.ref b_98), (.ref b97_b)] _
        refine st99.trans ?_
        show SS p e below m T99 174 #[vi p1, vi p2, vi p3, vi p4, vi p5, vi p6, vi (3 : Int32), vi c1, vi c2, vr b5, vr b16, vr b97_b] [] _
        refine XS.aload X99.here hx rfl (hb hby at_174) rfl rfl ?_
        show SS p e below m T99 176 #[vi p1, vi p2, vi p3, vi p4, vi p5, vi p6, vi (3 : Int32), vi c1, vi c2, vr b5, vr b16, vr b97_b] [(.ref b16)] _
        refine st100.trans ?_
        show SS p e below m T100 179 #[vi p1, vi p2, vi p3, vi p4, vi p5, vi p6, vi (3 : Int32), vi c1, vi c2, vr b5, vr b16, vr b97_b] [(.ref b100_b)] _
        refine XS.astore X100.here hx rfl (hb hby at_179) rfl rfl (l' := #[vi p1, vi p2, vi p3, vi p4, vi p5, vi p6, vi (3 : Int32), vi c1, vi c2, vr b5, vr b16, vr b100_b]) rfl ?_
        show SS p e below m T100 181 #[vi p1, vi p2, vi p3, vi p4, vi p5, vi p6, vi (3 : Int32), vi c1, vi c2, vr b5, vr b16, vr b100_b] [] _
        refine XS.iload X100.here hx rfl (hb hby at_181) rfl ?_
        exact kt
      by_cases hc183_102 : c2 = (0 : Int32)
      · obtain ⟨T103, h103, L103, X103, e103, N103, K103, st103⟩ := tail3 hw X100 hx hZ hby hml hown p1 p2 p3 p4 p5 p6 c1 c2 b5 b16 b100_b b17_c k_17 (4 : Int32) [(.ref b_82), (.ref b_84), (.ref b_86), (.ref b_98)] k5 b_82 b_84 b_86 T100.heap n0 rfl (Nat.le_trans Z0 KC.1) O0 N100 F_next_b_100 F_val_length_b_100 F_val_items_b_100 E_b_100 E_c_17 V_arr_99 Vm15 g_b100_b ne_b5_b100_b E_b_82 F_value_b_82 rfl (by decide) E_b_84 F_value_b_84 rfl (by decide) E_b_86 F_value_b_86 rfl (by decide) (by decide) (by decide) (by decide) (by decide)
        replace Vm15 := Vm15.keep K103 (ninS ne_b5_b100_b nin0)
        replace A16 := A16.keep K103
        replace E_b_17 := E_b_17.keep K103
        replace E_c_17 := E_c_17.keep K103
        replace E_b_82 := E_b_82.keep K103
        replace F_value_b_82 := F_value_b_82.keep K103 (ninS ne_b_82_b100_b nin0)
        replace E_b_84 := E_b_84.keep K103
        replace F_value_b_84 := F_value_b_84.keep K103 (ninS ne_b_84_b100_b nin0)
        replace E_b_86 := E_b_86.keep K103
        replace F_value_b_86 := F_value_b_86.keep K103 (ninS ne_b_86_b100_b nin0)
        replace F_store_a1_87 := F_store_a1_87.keep K103 (ninS ne_b16_b100_b nin0)
        replace F_size_a1_87 := F_size_a1_87.keep K103 (ninS ne_b16_b100_b nin0)
        replace E_b_97 := E_b_97.keep K103
        replace E_b_98 := E_b_98.keep K103
        replace F_value_b_98 := F_value_b_98.keep K103 (ninS ne_b_98_b100_b nin0)
        replace F_store_a1_99 := F_store_a1_99.keep K103 (ninS ne_b97_b_b100_b nin0)
        replace F_size_a1_99 := F_size_a1_99.keep K103 (ninS ne_b97_b_b100_b nin0)
        replace F_filled_sto_99 := F_filled_sto_99.keep K103 (ninS ne_b17_b_b100_b nin0)
        replace F_items_sto_99 := F_items_sto_99.keep K103 (ninS ne_b17_b_b100_b nin0)
        replace V_arr_99 := V_arr_99.keep K103 (ninS ne_b17_c_b100_b nin0)
        replace E_b_100 := E_b_100.keep K103
        replace O0 := O0.keep K103 (allS g_b100_b all0)
        replace KC := KC.trans K103 (allS (Or.inr sz_b100_b) all0)
        obtain ⟨fs, hr, hrun, hended, hW, hsame⟩ := X103.leave (v := some (.int (1 : Int32))) (fun h => by rw [Bd.returns] at h; cases h)
        refine ⟨_, _, pre101 _ ?_, hrun, hended, _, _, rfl, ?_, ⟨_, rfl⟩, hW, hsame.mono (by decide) (by decide)⟩
        · show SS p e below m T100 183 #[vi p1, vi p2, vi p3, vi p4, vi p5, vi p6, vi (3 : Int32), vi c1, vi c2, vr b5, vr b16, vr b100_b] [(.int c2)] _
          refine XS.ifYes X100.here hx rfl (pc0 := 183) (pc' := 197) rfl (hb hby at_183) rfl ((if0 _ _).trans (teq hc183_102).1) (by decide) (by decide) ?_
          show SS p e below m T100 197 #[vi p1, vi p2, vi p3, vi p4, vi p5, vi p6, vi (3 : Int32), vi c1, vi c2, vr b5, vr b16, vr b100_b] [] _
          refine st103 _ ?_
          show SS p e below m T103 282 #[vi p1, vi p2, vi p3, vi p4, vi p5, vi p6, vi (3 : Int32), vi c1, vi c2, vr b5, vr b16, vr b100_b] [(.int (0 : Int32))] _
          refine XS.ifNo X103.here hx rfl (hb hby at_282) rfl ((if0 _ _).trans (teq (by decide)).2) ?_
          show SS p e below m T103 285 #[vi p1, vi p2, vi p3, vi p4, vi p5, vi p6, vi (3 : Int32), vi c1, vi c2, vr b5, vr b16, vr b100_b] [] _
          refine XS.iconst X103.here hx rfl (hb hby at_285) ?_
          show SS p e below m T103 286 #[vi p1, vi p2, vi p3, vi p4, vi p5, vi p6, vi (3 : Int32), vi c1, vi c2, vr b5, vr b16, vr b100_b] [(.int (1 : Int32))] _
          refine XS.goto X103.here hx rfl (pc0 := 286) (pc' := 290) rfl (hb hby at_286) (by decide) (by decide) ?_
          show SS p e below m T103 290 #[vi p1, vi p2, vi p3, vi p4, vi p5, vi p6, vi (3 : Int32), vi c1, vi c2, vr b5, vr b16, vr b100_b] [(.int (1 : Int32))] _
          exact retN X103 hx (t := .boolean) Bd.returns (by simp) (hb hby at_290) hr
        · show Q_rm0 Z p1 p2 p3 p4 p5 p6 cA cl mr h0 n0 _ T103.heap _
          rw [e103]
          exact ⟨rfl, N103, KC⟩
      · obtain ⟨_, _, ⟨T104, L104, kz104, nz104⟩, -, X104, ⟨Lc104, hQ104, l104, y104, z104⟩, st104⟩ := Jvm.LawKit.callS X100 hx (y := y_5) hown (mvT hZ (ww hw 30 rfl)) (mvT hZ (ww hw 31 rfl)) (mvT hZ (ww hw 32 rfl)) (mvT hZ (ww hw 33 rfl)) (by decide) (backOf (W := 1) (rmVo l Z a0 hw [] (p2 ^^^ p4) cA cl T100.heap n0 (Nat.le_trans Z0 KC.1) O0 S_high S_cache BX) hZ (ww hw 33 rfl) (ww hw 32 rfl) (by decide) (by decide)) (g := (mkF m 191 #[vi p1, vi p2, vi p3, vi p4, vi p5, vi p6, vi (3 : Int32), vi c1, vi c2, vr b5, vr b16, vr b100_b] [(.int (p2 ^^^ p4)), (.ref b16)])) rfl (by rw [hml]; rfl) (argsL := [(.int (p2 ^^^ p4))]) (rest := [(.ref b16)]) (lenOf pd_14 rfl) rfl (by show 2 * 0 + _ ≤ _; exact Nat.le_of_eq rfl) (hb hby at_191) (fun _ _ => ⟨rfl, rfl, (by decide : 10 + 1 ≤ _), (by decide : 22 + 1 ≤ _)⟩)
        dsimp only [Pt.U, Pt.locs, Pt.cells, Pt.slots] at X104 l104 y104 z104 st104 hQ104
        subst l104 y104 z104
        obtain ⟨b_104, rfl, N104q, K104, E_b_104, F_value_b_104⟩ := hQ104
        have N104 := Fr.app N100 N104q
        replace Vm15 := Vm15.keep K104 nin0
        replace A16 := A16.keep K104
        replace E_b_17 := E_b_17.keep K104
        replace E_c_17 := E_c_17.keep K104
        replace E_b_82 := E_b_82.keep K104
        replace F_value_b_82 := F_value_b_82.keep K104 nin0
        replace E_b_84 := E_b_84.keep K104
        replace F_value_b_84 := F_value_b_84.keep K104 nin0
        replace E_b_86 := E_b_86.keep K104
        replace F_value_b_86 := F_value_b_86.keep K104 nin0
        replace F_store_a1_87 := F_store_a1_87.keep K104 nin0
        replace F_size_a1_87 := F_size_a1_87.keep K104 nin0
        replace E_b_97 := E_b_97.keep K104
        replace E_b_98 := E_b_98.keep K104
        replace F_value_b_98 := F_value_b_98.keep K104 nin0
        replace F_store_a1_99 := F_store_a1_99.keep K104 nin0
        replace F_size_a1_99 := F_size_a1_99.keep K104 nin0
        replace F_filled_sto_99 := F_filled_sto_99.keep K104 nin0
        replace F_items_sto_99 := F_items_sto_99.keep K104 nin0
        replace V_arr_99 := V_arr_99.keep K104 nin0
        replace E_b_100 := E_b_100.keep K104
        replace F_val_length_b_100 := F_val_length_b_100.keep K104 nin0
        replace F_val_items_b_100 := F_val_items_b_100.keep K104 nin0
        replace F_next_b_100 := F_next_b_100.keep K104 nin0
        replace O0 := O0.keep K104 all0
        replace KC := KC.trans K104 all0
        obtain ⟨cq105, kq105, q105a, q105b, q105c⟩ := isOf hZ rfl A16
        obtain ⟨_, _, ⟨T105, L105, kz105, nz105⟩, -, X105, ⟨Lc105, hQ105, l105, y105, z105⟩, st105⟩ := X104.virtualBack hx (y := y_12) (z := y_12) hown (mvT hZ (ww hw 37 rfl)) (mvT hZ (ww hw 38 rfl)) (notFace_of_selects (args := #[]) (mvT hZ (ww hw 40 rfl))) (mvT hZ (ww hw 40 rfl)) (mvT hZ (ww hw 39 rfl)) (by decide) (backOf (W := 0) (rmAddB l Z a0 hw [] b16 b_104 b17_b (3 : Int32) (4 : Int32) b17_c k_17 (4 : Int32) [(.ref b_82), (.ref b_84), (.ref b_86), (.ref b_98)] mr (6 : Int32) (4 : Int32) [(.ref b_82), (.ref b_84), (.ref b_86), (.ref b_98), .null, .null, .null, .null, .null, .null] (4 : Int32) [(.ref b_82), (.ref b_84), (.ref b_86), (.ref b_104), .null, .null, .null, .null, .null, .null] T104.heap n0 (Nat.le_trans Z0 KC.1) O0 F_store_a1_87 F_size_a1_87 A16 E_b_17 F_filled_sto_99 F_items_sto_99 E_c_17 V_arr_99 E_b_104 g_b16 MIR (Or.inl (by decide)) (by decide) (by decide) (by decide) (by decide) (by decide) (by decide) (by decide) rfl (own_els_cons (Or.inr ⟨_, rfl, E_b_82⟩) (own_els_cons (Or.inr ⟨_, rfl, E_b_84⟩) (own_els_cons (Or.inr ⟨_, rfl, E_b_86⟩) (own_els_cons (Or.inr ⟨_, rfl, E_b_98⟩) own_els_nil)))) (by decide) (by decide) (by decide) rfl (Nat.le_of_ble_eq_true rfl)) hZ (ww hw 41 rfl) (ww hw 3 rfl) (by decide) (by decide)) q105a q105c (g := (mkF m 194 #[vi p1, vi p2, vi p3, vi p4, vi p5, vi p6, vi (3 : Int32), vi c1, vi c2, vr b5, vr b16, vr b100_b] [(.ref b_104), (.ref b16)])) rfl (by rw [hml]; rfl) (Steps.refl _) (argsL := [(.ref b_104)]) (rest := []) (lenOf pd_15 rfl) rfl (by show 2 * 0 + _ ≤ _; exact Nat.le_of_eq rfl) (hb hby at_194) (fun _ _ => ⟨rfl, rfl, (by decide : 11 + 2 ≤ _), (by decide : 23 + 12 ≤ _)⟩)
        dsimp only [Pt.U, Pt.locs, Pt.cells, Pt.slots] at X105 l105 y105 z105 st105 hQ105
        subst l105 y105 z105
        obtain ⟨b105_b, b105_c, k2_105, rfl, N105q, K105, sz_b105_b, sz_b105_c, F_store_a1_105, F_size_a1_105, E_b_105, F_filled_b_105, F_items_b_105, E_c_105, V_c_105, hq105_0⟩ := hQ105
        have N105 := Fr.app N104 N105q
        have ne_b5_b105_b : b5 ≠ b105_b := Nat.ne_of_lt (Nat.lt_of_lt_of_le Vm15.lt sz_b105_b)
        have ne_b16_b105_b : b16 ≠ b105_b := Nat.ne_of_lt (Nat.lt_of_lt_of_le A16.lt sz_b105_b)
        have ne_b17_b_b105_b : b17_b ≠ b105_b := Nat.ne_of_lt (Nat.lt_of_lt_of_le E_b_17.lt sz_b105_b)
        have ne_b17_c_b105_b : b17_c ≠ b105_b := Nat.ne_of_lt (Nat.lt_of_lt_of_le E_c_17.lt sz_b105_b)
        have ne_b_82_b105_b : b_82 ≠ b105_b := Nat.ne_of_lt (Nat.lt_of_lt_of_le E_b_82.lt sz_b105_b)
        have ne_b_84_b105_b : b_84 ≠ b105_b := Nat.ne_of_lt (Nat.lt_of_lt_of_le E_b_84.lt sz_b105_b)
        have ne_b_86_b105_b : b_86 ≠ b105_b := Nat.ne_of_lt (Nat.lt_of_lt_of_le E_b_86.lt sz_b105_b)
        have ne_b97_b_b105_b : b97_b ≠ b105_b := Nat.ne_of_lt (Nat.lt_of_lt_of_le E_b_97.lt sz_b105_b)
        have ne_b_98_b105_b : b_98 ≠ b105_b := Nat.ne_of_lt (Nat.lt_of_lt_of_le E_b_98.lt sz_b105_b)
        have ne_b100_b_b105_b : b100_b ≠ b105_b := Nat.ne_of_lt (Nat.lt_of_lt_of_le E_b_100.lt sz_b105_b)
        have ne_b_104_b105_b : b_104 ≠ b105_b := Nat.ne_of_lt (Nat.lt_of_lt_of_le E_b_104.lt sz_b105_b)
        have g_b105_b : n0 ≤ b105_b := Nat.le_trans (Nat.le_trans Z0 KC.1) sz_b105_b
        replace sz_b105_b : h0.size ≤ b105_b := Nat.le_trans KC.1 sz_b105_b
        have ne_b5_b105_c : b5 ≠ b105_c := Nat.ne_of_lt (Nat.lt_of_lt_of_le Vm15.lt sz_b105_c)
        have ne_b16_b105_c : b16 ≠ b105_c := Nat.ne_of_lt (Nat.lt_of_lt_of_le A16.lt sz_b105_c)
        have ne_b17_b_b105_c : b17_b ≠ b105_c := Nat.ne_of_lt (Nat.lt_of_lt_of_le E_b_17.lt sz_b105_c)
        have ne_b17_c_b105_c : b17_c ≠ b105_c := Nat.ne_of_lt (Nat.lt_of_lt_of_le E_c_17.lt sz_b105_c)
        have ne_b_82_b105_c : b_82 ≠ b105_c := Nat.ne_of_lt (Nat.lt_of_lt_of_le E_b_82.lt sz_b105_c)
        have ne_b_84_b105_c : b_84 ≠ b105_c := Nat.ne_of_lt (Nat.lt_of_lt_of_le E_b_84.lt sz_b105_c)
        have ne_b_86_b105_c : b_86 ≠ b105_c := Nat.ne_of_lt (Nat.lt_of_lt_of_le E_b_86.lt sz_b105_c)
        have ne_b97_b_b105_c : b97_b ≠ b105_c := Nat.ne_of_lt (Nat.lt_of_lt_of_le E_b_97.lt sz_b105_c)
        have ne_b_98_b105_c : b_98 ≠ b105_c := Nat.ne_of_lt (Nat.lt_of_lt_of_le E_b_98.lt sz_b105_c)
        have ne_b100_b_b105_c : b100_b ≠ b105_c := Nat.ne_of_lt (Nat.lt_of_lt_of_le E_b_100.lt sz_b105_c)
        have ne_b_104_b105_c : b_104 ≠ b105_c := Nat.ne_of_lt (Nat.lt_of_lt_of_le E_b_104.lt sz_b105_c)
        have g_b105_c : n0 ≤ b105_c := Nat.le_trans (Nat.le_trans Z0 KC.1) sz_b105_c
        replace sz_b105_c : h0.size ≤ b105_c := Nat.le_trans KC.1 sz_b105_c
        have nec_b_98_b16 : b_98 ≠ b16 := Exa.ne E_b_98 A16 (by decide)
        have nec_b_104_b16 : b_104 ≠ b16 := Exa.ne E_b_104 A16 (by decide)
        replace Vm15 := Vm15.keep K105 (ninS ne_b5_b16 nin0)
        replace A16 := A16.keep K105
        replace E_b_17 := E_b_17.keep K105
        replace E_c_17 := E_c_17.keep K105
        replace E_b_82 := E_b_82.keep K105
        replace F_value_b_82 := F_value_b_82.keep K105 (ninS nec_b_82_b16 nin0)
        replace E_b_84 := E_b_84.keep K105
        replace F_value_b_84 := F_value_b_84.keep K105 (ninS nec_b_84_b16 nin0)
        replace E_b_86 := E_b_86.keep K105
        replace F_value_b_86 := F_value_b_86.keep K105 (ninS nec_b_86_b16 nin0)
        replace E_b_97 := E_b_97.keep K105
        replace E_b_98 := E_b_98.keep K105
        replace F_value_b_98 := F_value_b_98.keep K105 (ninS nec_b_98_b16 nin0)
        replace F_store_a1_99 := F_store_a1_99.keep K105 (ninS (Ne.symm ne_b16_b97_b) nin0)
        replace F_size_a1_99 := F_size_a1_99.keep K105 (ninS (Ne.symm ne_b16_b97_b) nin0)
        replace F_filled_sto_99 := F_filled_sto_99.keep K105 (ninS (Ne.symm ne_b16_b17_b) nin0)
        replace F_items_sto_99 := F_items_sto_99.keep K105 (ninS (Ne.symm ne_b16_b17_b) nin0)
        replace V_arr_99 := V_arr_99.keep K105 (ninS (Ne.symm ne_b16_b17_c) nin0)
        replace E_b_100 := E_b_100.keep K105
        replace F_val_length_b_100 := F_val_length_b_100.keep K105 (ninS (Ne.symm ne_b16_b100_b) nin0)
        replace F_val_items_b_100 := F_val_items_b_100.keep K105 (ninS (Ne.symm ne_b16_b100_b) nin0)
        replace F_next_b_100 := F_next_b_100.keep K105 (ninS (Ne.symm ne_b16_b100_b) nin0)
        replace E_b_104 := E_b_104.keep K105
        replace F_value_b_104 := F_value_b_104.keep K105 (ninS nec_b_104_b16 nin0)
        replace O0 := O0.keep K105 (allS g_b16 all0)
        replace KC := KC.trans K105 (allS (Or.inr sz_b16) all0)
        obtain ⟨T106, h106, L106, X106, e106, N106, K106, st106⟩ := tail3 hw X105 hx hZ hby hml hown p1 p2 p3 p4 p5 p6 c1 c2 b5 b16 b100_b b17_c k_17 (4 : Int32) [(.ref b_82), (.ref b_84), (.ref b_86), (.ref b_98)] k5 b_82 b_84 b_86 T105.heap n0 rfl (Nat.le_trans Z0 KC.1) O0 N105 F_next_b_100 F_val_length_b_100 F_val_items_b_100 E_b_100 E_c_17 V_arr_99 Vm15 g_b100_b ne_b5_b100_b E_b_82 F_value_b_82 rfl (by decide) E_b_84 F_value_b_84 rfl (by decide) E_b_86 F_value_b_86 rfl (by decide) (by decide) (by decide) (by decide) (by decide)
        have nec_b_104_b100_b : b_104 ≠ b100_b := Exa.ne E_b_104 E_b_100 (by decide)
        replace Vm15 := Vm15.keep K106 (ninS ne_b5_b100_b nin0)
        replace A16 := A16.keep K106
        replace E_b_17 := E_b_17.keep K106
        replace E_c_17 := E_c_17.keep K106
        replace E_b_82 := E_b_82.keep K106
        replace F_value_b_82 := F_value_b_82.keep K106 (ninS ne_b_82_b100_b nin0)
        replace E_b_84 := E_b_84.keep K106
        replace F_value_b_84 := F_value_b_84.keep K106 (ninS ne_b_84_b100_b nin0)
        replace E_b_86 := E_b_86.keep K106
        replace F_value_b_86 := F_value_b_86.keep K106 (ninS ne_b_86_b100_b nin0)
        replace E_b_97 := E_b_97.keep K106
        replace E_b_98 := E_b_98.keep K106
        replace F_value_b_98 := F_value_b_98.keep K106 (ninS ne_b_98_b100_b nin0)
        replace F_store_a1_99 := F_store_a1_99.keep K106 (ninS ne_b97_b_b100_b nin0)
        replace F_size_a1_99 := F_size_a1_99.keep K106 (ninS ne_b97_b_b100_b nin0)
        replace F_filled_sto_99 := F_filled_sto_99.keep K106 (ninS ne_b17_b_b100_b nin0)
        replace F_items_sto_99 := F_items_sto_99.keep K106 (ninS ne_b17_b_b100_b nin0)
        replace V_arr_99 := V_arr_99.keep K106 (ninS ne_b17_c_b100_b nin0)
        replace E_b_100 := E_b_100.keep K106
        replace E_b_104 := E_b_104.keep K106
        replace F_value_b_104 := F_value_b_104.keep K106 (ninS nec_b_104_b100_b nin0)
        replace F_store_a1_105 := F_store_a1_105.keep K106 (ninS ne_b16_b100_b nin0)
        replace F_size_a1_105 := F_size_a1_105.keep K106 (ninS ne_b16_b100_b nin0)
        replace E_b_105 := E_b_105.keep K106
        replace F_filled_b_105 := F_filled_b_105.keep K106 (ninS (Ne.symm ne_b100_b_b105_b) nin0)
        replace F_items_b_105 := F_items_b_105.keep K106 (ninS (Ne.symm ne_b100_b_b105_b) nin0)
        replace E_c_105 := E_c_105.keep K106
        replace V_c_105 := V_c_105.keep K106 (ninS (Ne.symm ne_b100_b_b105_c) nin0)
        replace O0 := O0.keep K106 (allS g_b100_b all0)
        replace KC := KC.trans K106 (allS (Or.inr sz_b100_b) all0)
        obtain ⟨fs, hr, hrun, hended, hW, hsame⟩ := X106.leave (v := some (.int (1 : Int32))) (fun h => by rw [Bd.returns] at h; cases h)
        refine ⟨_, _, pre101 _ ?_, hrun, hended, _, _, rfl, ?_, ⟨_, rfl⟩, hW, hsame.mono (by decide) (by decide)⟩
        · show SS p e below m T100 183 #[vi p1, vi p2, vi p3, vi p4, vi p5, vi p6, vi (3 : Int32), vi c1, vi c2, vr b5, vr b16, vr b100_b] [(.int c2)] _
          refine XS.ifNo X100.here hx rfl (hb hby at_183) rfl ((if0 _ _).trans (feq hc183_102).1) ?_
          show SS p e below m T100 186 #[vi p1, vi p2, vi p3, vi p4, vi p5, vi p6, vi (3 : Int32), vi c1, vi c2, vr b5, vr b16, vr b100_b] [] _
          refine XS.aload X100.here hx rfl (hb hby at_186) rfl rfl ?_
          show SS p e below m T100 188 #[vi p1, vi p2, vi p3, vi p4, vi p5, vi p6, vi (3 : Int32), vi c1, vi c2, vr b5, vr b16, vr b100_b] [(.ref b16)] _
          refine XS.iloadN X100.here hx rfl (hb hby at_188) rfl ?_
          show SS p e below m T100 189 #[vi p1, vi p2, vi p3, vi p4, vi p5, vi p6, vi (3 : Int32), vi c1, vi c2, vr b5, vr b16, vr b100_b] [(.int p2), (.ref b16)] _
          refine XS.iloadN X100.here hx rfl (hb hby at_189) rfl ?_
          show SS p e below m T100 190 #[vi p1, vi p2, vi p3, vi p4, vi p5, vi p6, vi (3 : Int32), vi c1, vi c2, vr b5, vr b16, vr b100_b] [(.int p4), (.int p2), (.ref b16)] _
          refine XS.ixor X100.here hx rfl (hb hby at_190) rfl ?_
          show SS p e below m T100 191 #[vi p1, vi p2, vi p3, vi p4, vi p5, vi p6, vi (3 : Int32), vi c1, vi c2, vr b5, vr b16, vr b100_b] [(.int (p2 ^^^ p4)), (.ref b16)] _
          refine st104 _ ?_
          show SS p e below m T104 194 #[vi p1, vi p2, vi p3, vi p4, vi p5, vi p6, vi (3 : Int32), vi c1, vi c2, vr b5, vr b16, vr b100_b] [(.ref b_104), (.ref b16)] _
          refine st105.trans ?_
          show SS p e below m T105 197 #[vi p1, vi p2, vi p3, vi p4, vi p5, vi p6, vi (3 : Int32), vi c1, vi c2, vr b5, vr b16, vr b100_b] [] _
          refine st106 _ ?_
          show SS p e below m T106 282 #[vi p1, vi p2, vi p3, vi p4, vi p5, vi p6, vi (3 : Int32), vi c1, vi c2, vr b5, vr b16, vr b100_b] [(.int (0 : Int32))] _
          refine XS.ifNo X106.here hx rfl (hb hby at_282) rfl ((if0 _ _).trans (teq (by decide)).2) ?_
          show SS p e below m T106 285 #[vi p1, vi p2, vi p3, vi p4, vi p5, vi p6, vi (3 : Int32), vi c1, vi c2, vr b5, vr b16, vr b100_b] [] _
          refine XS.iconst X106.here hx rfl (hb hby at_285) ?_
          show SS p e below m T106 286 #[vi p1, vi p2, vi p3, vi p4, vi p5, vi p6, vi (3 : Int32), vi c1, vi c2, vr b5, vr b16, vr b100_b] [(.int (1 : Int32))] _
          refine XS.goto X106.here hx rfl (pc0 := 286) (pc' := 290) rfl (hb hby at_286) (by decide) (by decide) ?_
          show SS p e below m T106 290 #[vi p1, vi p2, vi p3, vi p4, vi p5, vi p6, vi (3 : Int32), vi c1, vi c2, vr b5, vr b16, vr b100_b] [(.int (1 : Int32))] _
          exact retN X106 hx (t := .boolean) Bd.returns (by simp) (hb hby at_290) hr
        · show Q_rm0 Z p1 p2 p3 p4 p5 p6 cA cl mr h0 n0 _ T106.heap _
          rw [e106]
          exact ⟨rfl, N106, KC⟩
  · rw [hk] at pre18
    obtain ⟨_, _, ⟨T107, L107, kz107, nz107⟩, -, X107, ⟨Lc107, hQ107, l107, y107, z107⟩, st107⟩ := Jvm.LawKit.callS X17 hx (y := y_5) hown (mvT hZ (ww hw 30 rfl)) (mvT hZ (ww hw 31 rfl)) (mvT hZ (ww hw 32 rfl)) (mvT hZ (ww hw 33 rfl)) (by decide) (backOf (W := 1) (rmVo l Z a0 hw [] p1 cA cl T17.heap n0 (Nat.le_trans Z0 KC.1) O0 S_high S_cache BX) hZ (ww hw 33 rfl) (ww hw 32 rfl) (by decide) (by decide)) (g := (mkF m 83 #[vi p1, vi p2, vi p3, vi p4, vi p5, vi p6, vi (4 : Int32), vi c1, vi c2, vr b5, vr b16, un] [(.int p1), (.ref b16)])) rfl (by rw [hml]; rfl) (argsL := [(.int p1)]) (rest := [(.ref b16)]) (lenOf pd_14 rfl) rfl (by show 2 * 0 + _ ≤ _; exact Nat.le_of_eq rfl) (hb hby at_83) (fun _ _ => ⟨rfl, rfl, (by decide : 4 + 1 ≤ _), (by decide : 13 + 1 ≤ _)⟩)
    dsimp only [Pt.U, Pt.locs, Pt.cells, Pt.slots] at X107 l107 y107 z107 st107 hQ107
    subst l107 y107 z107
    obtain ⟨b_107, rfl, N107q, K107, E_b_107, F_value_b_107⟩ := hQ107
    have N107 := Fr.app N17 N107q
    replace Vm15 := Vm15.keep K107 nin0
    replace A16 := A16.keep K107
    replace F_store_a1_17 := F_store_a1_17.keep K107 nin0
    replace F_size_a1_17 := F_size_a1_17.keep K107 nin0
    replace E_b_17 := E_b_17.keep K107
    replace F_items_b_17 := F_items_b_17.keep K107 nin0
    replace F_filled_b_17 := F_filled_b_17.keep K107 nin0
    replace E_c_17 := E_c_17.keep K107
    replace V_c_17 := V_c_17.keep K107 nin0
    replace O0 := O0.keep K107 all0
    replace KC := KC.trans K107 all0
    obtain ⟨cq108, kq108, q108a, q108b, q108c⟩ := isOf hZ rfl A16
    obtain ⟨_, _, ⟨T108, L108, kz108, nz108⟩, -, X108, ⟨Lc108, hQ108, l108, y108, z108⟩, st108⟩ := X107.virtualBack hx (y := y_12) (z := y_12) hown (mvT hZ (ww hw 37 rfl)) (mvT hZ (ww hw 38 rfl)) (notFace_of_selects (args := #[]) (mvT hZ (ww hw 40 rfl))) (mvT hZ (ww hw 40 rfl)) (mvT hZ (ww hw 39 rfl)) (by decide) (backOf (W := 0) (rmAddA l Z a0 hw [] b16 b_107 b17_b (0 : Int32) (0 : Int32) b17_c k_17 (4 : Int32) [.null, .null, .null, .null] (1 : Int32) [(.ref b_107), .null, .null, .null] T107.heap n0 (Nat.le_trans Z0 KC.1) O0 F_store_a1_17 F_size_a1_17 A16 E_b_17 F_filled_b_17 F_items_b_17 E_c_17 V_c_17 E_b_107 g_b16 g_b17_b g_b17_c hq17_0 (by decide) (by decide) (by decide) (by decide) (by decide) rfl (Nat.le_of_ble_eq_true rfl)) hZ (ww hw 41 rfl) (ww hw 3 rfl) (by decide) (by decide)) q108a q108c (g := (mkF m 86 #[vi p1, vi p2, vi p3, vi p4, vi p5, vi p6, vi (4 : Int32), vi c1, vi c2, vr b5, vr b16, un] [(.ref b_107), (.ref b16)])) rfl (by rw [hml]; rfl) (Steps.refl _) (argsL := [(.ref b_107)]) (rest := []) (lenOf pd_15 rfl) rfl (by show 2 * 0 + _ ≤ _; exact Nat.le_of_eq rfl) (hb hby at_86) (fun _ _ => ⟨rfl, rfl, (by decide : 5 + 0 ≤ _), (by decide : 14 + 0 ≤ _)⟩)
    dsimp only [Pt.U, Pt.locs, Pt.cells, Pt.slots] at X108 l108 y108 z108 st108 hQ108
    subst l108 y108 z108
    obtain ⟨rfl, N108q, K108, F_store_a1_108, F_size_a1_108, F_filled_sto_108, F_items_sto_108, V_arr_108⟩ := hQ108
    have N108 := Fr.app N107 N108q
    have nec_b_107_b17_c : b_107 ≠ b17_c := Exa.ne E_b_107 E_c_17 (by decide)
    have nec_b_107_b17_b : b_107 ≠ b17_b := Exa.ne E_b_107 E_b_17 (by decide)
    have nec_b_107_b16 : b_107 ≠ b16 := Exa.ne E_b_107 A16 (by decide)
    replace Vm15 := Vm15.keep K108 (ninS ne_b5_b16 (ninS ne_b5_b17_b (ninS ne_b5_b17_c nin0)))
    replace A16 := A16.keep K108
    replace E_b_17 := E_b_17.keep K108
    replace E_c_17 := E_c_17.keep K108
    replace E_b_107 := E_b_107.keep K108
    replace F_value_b_107 := F_value_b_107.keep K108 (ninS nec_b_107_b16 (ninS nec_b_107_b17_b (ninS nec_b_107_b17_c nin0)))
    replace O0 := O0.keep K108 (allS g_b16 (allS g_b17_b (allS g_b17_c all0)))
    replace KC := KC.trans K108 (allS (Or.inr sz_b16) (allS (Or.inr sz_b17_b) (allS (Or.inr sz_b17_c) all0)))
    obtain ⟨_, _, ⟨T109, L109, kz109, nz109⟩, -, X109, ⟨Lc109, hQ109, l109, y109, z109⟩, st109⟩ := Jvm.LawKit.callS X108 hx (y := y_5) hown (mvT hZ (ww hw 30 rfl)) (mvT hZ (ww hw 31 rfl)) (mvT hZ (ww hw 32 rfl)) (mvT hZ (ww hw 33 rfl)) (by decide) (backOf (W := 1) (rmVo l Z a0 hw [] p2 cA cl T108.heap n0 (Nat.le_trans Z0 KC.1) O0 S_high S_cache BX) hZ (ww hw 33 rfl) (ww hw 32 rfl) (by decide) (by decide)) (g := (mkF m 98 #[vi p1, vi p2, vi p3, vi p4, vi p5, vi p6, vi (4 : Int32), vi c1, vi c2, vr b5, vr b16, un] [(.int p2), (.ref b16)])) rfl (by rw [hml]; rfl) (argsL := [(.int p2)]) (rest := [(.ref b16)]) (lenOf pd_14 rfl) rfl (by show 2 * 0 + _ ≤ _; exact Nat.le_of_eq rfl) (hb hby at_98) (fun _ _ => ⟨rfl, rfl, (by decide : 5 + 1 ≤ _), (by decide : 14 + 1 ≤ _)⟩)
    dsimp only [Pt.U, Pt.locs, Pt.cells, Pt.slots] at X109 l109 y109 z109 st109 hQ109
    subst l109 y109 z109
    obtain ⟨b_109, rfl, N109q, K109, E_b_109, F_value_b_109⟩ := hQ109
    have N109 := Fr.app N108 N109q
    replace Vm15 := Vm15.keep K109 nin0
    replace A16 := A16.keep K109
    replace E_b_17 := E_b_17.keep K109
    replace E_c_17 := E_c_17.keep K109
    replace E_b_107 := E_b_107.keep K109
    replace F_value_b_107 := F_value_b_107.keep K109 nin0
    replace F_store_a1_108 := F_store_a1_108.keep K109 nin0
    replace F_size_a1_108 := F_size_a1_108.keep K109 nin0
    replace F_filled_sto_108 := F_filled_sto_108.keep K109 nin0
    replace F_items_sto_108 := F_items_sto_108.keep K109 nin0
    replace V_arr_108 := V_arr_108.keep K109 nin0
    replace O0 := O0.keep K109 all0
    replace KC := KC.trans K109 all0
    obtain ⟨cq110, kq110, q110a, q110b, q110c⟩ := isOf hZ rfl A16
    obtain ⟨_, _, ⟨T110, L110, kz110, nz110⟩, -, X110, ⟨Lc110, hQ110, l110, y110, z110⟩, st110⟩ := X109.virtualBack hx (y := y_12) (z := y_12) hown (mvT hZ (ww hw 37 rfl)) (mvT hZ (ww hw 38 rfl)) (notFace_of_selects (args := #[]) (mvT hZ (ww hw 40 rfl))) (mvT hZ (ww hw 40 rfl)) (mvT hZ (ww hw 39 rfl)) (by decide) (backOf (W := 0) (rmAddA l Z a0 hw [] b16 b_109 b17_b (1 : Int32) (1 : Int32) b17_c k_17 (4 : Int32) [(.ref b_107), .null, .null, .null] (2 : Int32) [(.ref b_107), (.ref b_109), .null, .null] T109.heap n0 (Nat.le_trans Z0 KC.1) O0 F_store_a1_108 F_size_a1_108 A16 E_b_17 F_filled_sto_108 F_items_sto_108 E_c_17 V_arr_108 E_b_109 g_b16 g_b17_b g_b17_c hq17_0 (by decide) (by decide) (by decide) (by decide) (by decide) rfl (Nat.le_of_ble_eq_true rfl)) hZ (ww hw 41 rfl) (ww hw 3 rfl) (by decide) (by decide)) q110a q110c (g := (mkF m 101 #[vi p1, vi p2, vi p3, vi p4, vi p5, vi p6, vi (4 : Int32), vi c1, vi c2, vr b5, vr b16, un] [(.ref b_109), (.ref b16)])) rfl (by rw [hml]; rfl) (Steps.refl _) (argsL := [(.ref b_109)]) (rest := []) (lenOf pd_15 rfl) rfl (by show 2 * 0 + _ ≤ _; exact Nat.le_of_eq rfl) (hb hby at_101) (fun _ _ => ⟨rfl, rfl, (by decide : 6 + 0 ≤ _), (by decide : 15 + 0 ≤ _)⟩)
    dsimp only [Pt.U, Pt.locs, Pt.cells, Pt.slots] at X110 l110 y110 z110 st110 hQ110
    subst l110 y110 z110
    obtain ⟨rfl, N110q, K110, F_store_a1_110, F_size_a1_110, F_filled_sto_110, F_items_sto_110, V_arr_110⟩ := hQ110
    have N110 := Fr.app N109 N110q
    have nec_b_109_b17_c : b_109 ≠ b17_c := Exa.ne E_b_109 E_c_17 (by decide)
    have nec_b_109_b17_b : b_109 ≠ b17_b := Exa.ne E_b_109 E_b_17 (by decide)
    have nec_b_109_b16 : b_109 ≠ b16 := Exa.ne E_b_109 A16 (by decide)
    replace Vm15 := Vm15.keep K110 (ninS ne_b5_b16 (ninS ne_b5_b17_b (ninS ne_b5_b17_c nin0)))
    replace A16 := A16.keep K110
    replace E_b_17 := E_b_17.keep K110
    replace E_c_17 := E_c_17.keep K110
    replace E_b_107 := E_b_107.keep K110
    replace F_value_b_107 := F_value_b_107.keep K110 (ninS nec_b_107_b16 (ninS nec_b_107_b17_b (ninS nec_b_107_b17_c nin0)))
    replace E_b_109 := E_b_109.keep K110
    replace F_value_b_109 := F_value_b_109.keep K110 (ninS nec_b_109_b16 (ninS nec_b_109_b17_b (ninS nec_b_109_b17_c nin0)))
    replace O0 := O0.keep K110 (allS g_b16 (allS g_b17_b (allS g_b17_c all0)))
    replace KC := KC.trans K110 (allS (Or.inr sz_b16) (allS (Or.inr sz_b17_b) (allS (Or.inr sz_b17_c) all0)))
    obtain ⟨_, _, ⟨T111, L111, kz111, nz111⟩, -, X111, ⟨Lc111, hQ111, l111, y111, z111⟩, st111⟩ := Jvm.LawKit.callS X110 hx (y := y_5) hown (mvT hZ (ww hw 30 rfl)) (mvT hZ (ww hw 31 rfl)) (mvT hZ (ww hw 32 rfl)) (mvT hZ (ww hw 33 rfl)) (by decide) (backOf (W := 1) (rmVo l Z a0 hw [] p3 cA cl T110.heap n0 (Nat.le_trans Z0 KC.1) O0 S_high S_cache BX) hZ (ww hw 33 rfl) (ww hw 32 rfl) (by decide) (by decide)) (g := (mkF m 113 #[vi p1, vi p2, vi p3, vi p4, vi p5, vi p6, vi (4 : Int32), vi c1, vi c2, vr b5, vr b16, un] [(.int p3), (.ref b16)])) rfl (by rw [hml]; rfl) (argsL := [(.int p3)]) (rest := [(.ref b16)]) (lenOf pd_14 rfl) rfl (by show 2 * 0 + _ ≤ _; exact Nat.le_of_eq rfl) (hb hby at_113) (fun _ _ => ⟨rfl, rfl, (by decide : 6 + 1 ≤ _), (by decide : 15 + 1 ≤ _)⟩)
    dsimp only [Pt.U, Pt.locs, Pt.cells, Pt.slots] at X111 l111 y111 z111 st111 hQ111
    subst l111 y111 z111
    obtain ⟨b_111, rfl, N111q, K111, E_b_111, F_value_b_111⟩ := hQ111
    have N111 := Fr.app N110 N111q
    replace Vm15 := Vm15.keep K111 nin0
    replace A16 := A16.keep K111
    replace E_b_17 := E_b_17.keep K111
    replace E_c_17 := E_c_17.keep K111
    replace E_b_107 := E_b_107.keep K111
    replace F_value_b_107 := F_value_b_107.keep K111 nin0
    replace E_b_109 := E_b_109.keep K111
    replace F_value_b_109 := F_value_b_109.keep K111 nin0
    replace F_store_a1_110 := F_store_a1_110.keep K111 nin0
    replace F_size_a1_110 := F_size_a1_110.keep K111 nin0
    replace F_filled_sto_110 := F_filled_sto_110.keep K111 nin0
    replace F_items_sto_110 := F_items_sto_110.keep K111 nin0
    replace V_arr_110 := V_arr_110.keep K111 nin0
    replace O0 := O0.keep K111 all0
    replace KC := KC.trans K111 all0
    obtain ⟨cq112, kq112, q112a, q112b, q112c⟩ := isOf hZ rfl A16
    obtain ⟨_, _, ⟨T112, L112, kz112, nz112⟩, -, X112, ⟨Lc112, hQ112, l112, y112, z112⟩, st112⟩ := X111.virtualBack hx (y := y_12) (z := y_12) hown (mvT hZ (ww hw 37 rfl)) (mvT hZ (ww hw 38 rfl)) (notFace_of_selects (args := #[]) (mvT hZ (ww hw 40 rfl))) (mvT hZ (ww hw 40 rfl)) (mvT hZ (ww hw 39 rfl)) (by decide) (backOf (W := 0) (rmAddA l Z a0 hw [] b16 b_111 b17_b (2 : Int32) (2 : Int32) b17_c k_17 (4 : Int32) [(.ref b_107), (.ref b_109), .null, .null] (3 : Int32) [(.ref b_107), (.ref b_109), (.ref b_111), .null] T111.heap n0 (Nat.le_trans Z0 KC.1) O0 F_store_a1_110 F_size_a1_110 A16 E_b_17 F_filled_sto_110 F_items_sto_110 E_c_17 V_arr_110 E_b_111 g_b16 g_b17_b g_b17_c hq17_0 (by decide) (by decide) (by decide) (by decide) (by decide) rfl (Nat.le_of_ble_eq_true rfl)) hZ (ww hw 41 rfl) (ww hw 3 rfl) (by decide) (by decide)) q112a q112c (g := (mkF m 116 #[vi p1, vi p2, vi p3, vi p4, vi p5, vi p6, vi (4 : Int32), vi c1, vi c2, vr b5, vr b16, un] [(.ref b_111), (.ref b16)])) rfl (by rw [hml]; rfl) (Steps.refl _) (argsL := [(.ref b_111)]) (rest := []) (lenOf pd_15 rfl) rfl (by show 2 * 0 + _ ≤ _; exact Nat.le_of_eq rfl) (hb hby at_116) (fun _ _ => ⟨rfl, rfl, (by decide : 7 + 0 ≤ _), (by decide : 16 + 0 ≤ _)⟩)
    dsimp only [Pt.U, Pt.locs, Pt.cells, Pt.slots] at X112 l112 y112 z112 st112 hQ112
    subst l112 y112 z112
    obtain ⟨rfl, N112q, K112, F_store_a1_112, F_size_a1_112, F_filled_sto_112, F_items_sto_112, V_arr_112⟩ := hQ112
    have N112 := Fr.app N111 N112q
    have nec_b_111_b17_c : b_111 ≠ b17_c := Exa.ne E_b_111 E_c_17 (by decide)
    have nec_b_111_b17_b : b_111 ≠ b17_b := Exa.ne E_b_111 E_b_17 (by decide)
    have nec_b_111_b16 : b_111 ≠ b16 := Exa.ne E_b_111 A16 (by decide)
    replace Vm15 := Vm15.keep K112 (ninS ne_b5_b16 (ninS ne_b5_b17_b (ninS ne_b5_b17_c nin0)))
    replace A16 := A16.keep K112
    replace E_b_17 := E_b_17.keep K112
    replace E_c_17 := E_c_17.keep K112
    replace E_b_107 := E_b_107.keep K112
    replace F_value_b_107 := F_value_b_107.keep K112 (ninS nec_b_107_b16 (ninS nec_b_107_b17_b (ninS nec_b_107_b17_c nin0)))
    replace E_b_109 := E_b_109.keep K112
    replace F_value_b_109 := F_value_b_109.keep K112 (ninS nec_b_109_b16 (ninS nec_b_109_b17_b (ninS nec_b_109_b17_c nin0)))
    replace E_b_111 := E_b_111.keep K112
    replace F_value_b_111 := F_value_b_111.keep K112 (ninS nec_b_111_b16 (ninS nec_b_111_b17_b (ninS nec_b_111_b17_c nin0)))
    replace O0 := O0.keep K112 (allS g_b16 (allS g_b17_b (allS g_b17_c all0)))
    replace KC := KC.trans K112 (allS (Or.inr sz_b16) (allS (Or.inr sz_b17_b) (allS (Or.inr sz_b17_c) all0)))
    obtain ⟨_, _, ⟨T113, L113, kz113, nz113⟩, -, X113, ⟨Lc113, hQ113, l113, y113, z113⟩, st113⟩ := Jvm.LawKit.callS X112 hx (y := y_5) hown (mvT hZ (ww hw 30 rfl)) (mvT hZ (ww hw 31 rfl)) (mvT hZ (ww hw 32 rfl)) (mvT hZ (ww hw 33 rfl)) (by decide) (backOf (W := 1) (rmVo l Z a0 hw [] p4 cA cl T112.heap n0 (Nat.le_trans Z0 KC.1) O0 S_high S_cache BX) hZ (ww hw 33 rfl) (ww hw 32 rfl) (by decide) (by decide)) (g := (mkF m 128 #[vi p1, vi p2, vi p3, vi p4, vi p5, vi p6, vi (4 : Int32), vi c1, vi c2, vr b5, vr b16, un] [(.int p4), (.ref b16)])) rfl (by rw [hml]; rfl) (argsL := [(.int p4)]) (rest := [(.ref b16)]) (lenOf pd_14 rfl) rfl (by show 2 * 0 + _ ≤ _; exact Nat.le_of_eq rfl) (hb hby at_128) (fun _ _ => ⟨rfl, rfl, (by decide : 7 + 1 ≤ _), (by decide : 16 + 1 ≤ _)⟩)
    dsimp only [Pt.U, Pt.locs, Pt.cells, Pt.slots] at X113 l113 y113 z113 st113 hQ113
    subst l113 y113 z113
    obtain ⟨b_113, rfl, N113q, K113, E_b_113, F_value_b_113⟩ := hQ113
    have N113 := Fr.app N112 N113q
    replace Vm15 := Vm15.keep K113 nin0
    replace A16 := A16.keep K113
    replace E_b_17 := E_b_17.keep K113
    replace E_c_17 := E_c_17.keep K113
    replace E_b_107 := E_b_107.keep K113
    replace F_value_b_107 := F_value_b_107.keep K113 nin0
    replace E_b_109 := E_b_109.keep K113
    replace F_value_b_109 := F_value_b_109.keep K113 nin0
    replace E_b_111 := E_b_111.keep K113
    replace F_value_b_111 := F_value_b_111.keep K113 nin0
    replace F_store_a1_112 := F_store_a1_112.keep K113 nin0
    replace F_size_a1_112 := F_size_a1_112.keep K113 nin0
    replace F_filled_sto_112 := F_filled_sto_112.keep K113 nin0
    replace F_items_sto_112 := F_items_sto_112.keep K113 nin0
    replace V_arr_112 := V_arr_112.keep K113 nin0
    replace O0 := O0.keep K113 all0
    replace KC := KC.trans K113 all0
    obtain ⟨cq114, kq114, q114a, q114b, q114c⟩ := isOf hZ rfl A16
    obtain ⟨_, _, ⟨T114, L114, kz114, nz114⟩, -, X114, ⟨Lc114, hQ114, l114, y114, z114⟩, st114⟩ := X113.virtualBack hx (y := y_12) (z := y_12) hown (mvT hZ (ww hw 37 rfl)) (mvT hZ (ww hw 38 rfl)) (notFace_of_selects (args := #[]) (mvT hZ (ww hw 40 rfl))) (mvT hZ (ww hw 40 rfl)) (mvT hZ (ww hw 39 rfl)) (by decide) (backOf (W := 0) (rmAddA l Z a0 hw [] b16 b_113 b17_b (3 : Int32) (3 : Int32) b17_c k_17 (4 : Int32) [(.ref b_107), (.ref b_109), (.ref b_111), .null] (4 : Int32) [(.ref b_107), (.ref b_109), (.ref b_111), (.ref b_113)] T113.heap n0 (Nat.le_trans Z0 KC.1) O0 F_store_a1_112 F_size_a1_112 A16 E_b_17 F_filled_sto_112 F_items_sto_112 E_c_17 V_arr_112 E_b_113 g_b16 g_b17_b g_b17_c hq17_0 (by decide) (by decide) (by decide) (by decide) (by decide) rfl (Nat.le_of_ble_eq_true rfl)) hZ (ww hw 41 rfl) (ww hw 3 rfl) (by decide) (by decide)) q114a q114c (g := (mkF m 131 #[vi p1, vi p2, vi p3, vi p4, vi p5, vi p6, vi (4 : Int32), vi c1, vi c2, vr b5, vr b16, un] [(.ref b_113), (.ref b16)])) rfl (by rw [hml]; rfl) (Steps.refl _) (argsL := [(.ref b_113)]) (rest := []) (lenOf pd_15 rfl) rfl (by show 2 * 0 + _ ≤ _; exact Nat.le_of_eq rfl) (hb hby at_131) (fun _ _ => ⟨rfl, rfl, (by decide : 8 + 0 ≤ _), (by decide : 17 + 0 ≤ _)⟩)
    dsimp only [Pt.U, Pt.locs, Pt.cells, Pt.slots] at X114 l114 y114 z114 st114 hQ114
    subst l114 y114 z114
    obtain ⟨rfl, N114q, K114, F_store_a1_114, F_size_a1_114, F_filled_sto_114, F_items_sto_114, V_arr_114⟩ := hQ114
    have N114 := Fr.app N113 N114q
    have nec_b_113_b17_c : b_113 ≠ b17_c := Exa.ne E_b_113 E_c_17 (by decide)
    have nec_b_113_b17_b : b_113 ≠ b17_b := Exa.ne E_b_113 E_b_17 (by decide)
    have nec_b_113_b16 : b_113 ≠ b16 := Exa.ne E_b_113 A16 (by decide)
    replace Vm15 := Vm15.keep K114 (ninS ne_b5_b16 (ninS ne_b5_b17_b (ninS ne_b5_b17_c nin0)))
    replace A16 := A16.keep K114
    replace E_b_17 := E_b_17.keep K114
    replace E_c_17 := E_c_17.keep K114
    replace E_b_107 := E_b_107.keep K114
    replace F_value_b_107 := F_value_b_107.keep K114 (ninS nec_b_107_b16 (ninS nec_b_107_b17_b (ninS nec_b_107_b17_c nin0)))
    replace E_b_109 := E_b_109.keep K114
    replace F_value_b_109 := F_value_b_109.keep K114 (ninS nec_b_109_b16 (ninS nec_b_109_b17_b (ninS nec_b_109_b17_c nin0)))
    replace E_b_111 := E_b_111.keep K114
    replace F_value_b_111 := F_value_b_111.keep K114 (ninS nec_b_111_b16 (ninS nec_b_111_b17_b (ninS nec_b_111_b17_c nin0)))
    replace E_b_113 := E_b_113.keep K114
    replace F_value_b_113 := F_value_b_113.keep K114 (ninS nec_b_113_b16 (ninS nec_b_113_b17_b (ninS nec_b_113_b17_c nin0)))
    replace O0 := O0.keep K114 (allS g_b16 (allS g_b17_b (allS g_b17_c all0)))
    replace KC := KC.trans K114 (allS (Or.inr sz_b16) (allS (Or.inr sz_b17_b) (allS (Or.inr sz_b17_c) all0)))
    have pre115 : ∀ t, Steps p.tables e below (T114.setTop (mkF m 152 #[vi p1, vi p2, vi p3, vi p4, vi p5, vi p6, vi (4 : Int32), vi c1, vi c2, vr b5, vr b16, un] [(.int c1)])) t → Steps p.tables e below (s₁.setTop (entryFrame m #[(.int p1), (.int p2), (.int p3), (.int p4), (.int p5), (.int p6)] maxLocals)) t := by
      intro t kt
      refine pre18 t ?_
      show SS p e below m T17 75 #[vi p1, vi p2, vi p3, vi p4, vi p5, vi p6, vi (4 : Int32), vi c1, vi c2, vr b5, vr b16, un] [] _
      refine XS.iload X17.here hx rfl (hb hby at_75) rfl ?_
      show SS p e below m T17 77 #[vi p1, vi p2, vi p3, vi p4, vi p5, vi p6, vi (4 : Int32), vi c1, vi c2, vr b5, vr b16, un] [(.int (4 : Int32))] _
      refine XS.ifNo X17.here hx rfl (hb hby at_77) rfl ((if0 _ _).trans (tlt (by decide)).2.2.2) ?_
      show SS p e below m T17 80 #[vi p1, vi p2, vi p3, vi p4, vi p5, vi p6, vi (4 : Int32), vi c1, vi c2, vr b5, vr b16, un] [] _
      refine XS.aload X17.here hx rfl (hb hby at_80) rfl rfl ?_
      show SS p e below m T17 82 #[vi p1, vi p2, vi p3, vi p4, vi p5, vi p6, vi (4 : Int32), vi c1, vi c2, vr b5, vr b16, un] [(.ref b16)] _
      refine XS.iloadN X17.here hx rfl (hb hby at_82) rfl ?_
      show SS p e below m T17 83 #[vi p1, vi p2, vi p3, vi p4, vi p5, vi p6, vi (4 : Int32), vi c1, vi c2, vr b5, vr b16, un] [(.int p1), (.ref b16)] _
      refine st107 _ ?_
      show SS p e below m T107 86 #[vi p1, vi p2, vi p3, vi p4, vi p5, vi p6, vi (4 : Int32), vi c1, vi c2, vr b5, vr b16, un] [(.ref b_107), (.ref b16)] _
      refine st108.trans ?_
      show SS p e below m T108 89 #[vi p1, vi p2, vi p3, vi p4, vi p5, vi p6, vi (4 : Int32), vi c1, vi c2, vr b5, vr b16, un] [] _
      refine XS.iload X108.here hx rfl (hb hby at_89) rfl ?_
      show SS p e below m T108 91 #[vi p1, vi p2, vi p3, vi p4, vi p5, vi p6, vi (4 : Int32), vi c1, vi c2, vr b5, vr b16, un] [(.int (4 : Int32))] _
      refine XS.iconst X108.here hx rfl (hb hby at_91) ?_
      show SS p e below m T108 92 #[vi p1, vi p2, vi p3, vi p4, vi p5, vi p6, vi (4 : Int32), vi c1, vi c2, vr b5, vr b16, un] [(.int (1 : Int32)), (.int (4 : Int32))] _
      refine XS.icmpNo X108.here hx rfl (hb hby at_92) rfl (tlt (by decide)).2.2.2 ?_
      show SS p e below m T108 95 #[vi p1, vi p2, vi p3, vi p4, vi p5, vi p6, vi (4 : Int32), vi c1, vi c2, vr b5, vr b16, un] [] _
      refine XS.aload X108.here hx rfl (hb hby at_95) rfl rfl ?_
      show SS p e below m T108 97 #[vi p1, vi p2, vi p3, vi p4, vi p5, vi p6, vi (4 : Int32), vi c1, vi c2, vr b5, vr b16, un] [(.ref b16)] _
      refine XS.iloadN X108.here hx rfl (hb hby at_97) rfl ?_
      show SS p e below m T108 98 #[vi p1, vi p2, vi p3, vi p4, vi p5, vi p6, vi (4 : Int32), vi c1, vi c2, vr b5, vr b16, un] [(.int p2), (.ref b16)] _
      refine st109 _ ?_
      show SS p e below m T109 101 #[vi p1, vi p2, vi p3, vi p4, vi p5, vi p6, vi (4 : Int32), vi c1, vi c2, vr b5, vr b16, un] [(.ref b_109), (.ref b16)] _
      refine st110.trans ?_
      show SS p e below m T110 104 #[vi p1, vi p2, vi p3, vi p4, vi p5, vi p6, vi (4 : Int32), vi c1, vi c2, vr b5, vr b16, un] [] _
      refine XS.iload X110.here hx rfl (hb hby at_104) rfl ?_
      show SS p e below m T110 106 #[vi p1, vi p2, vi p3, vi p4, vi p5, vi p6, vi (4 : Int32), vi c1, vi c2, vr b5, vr b16, un] [(.int (4 : Int32))] _
      refine XS.iconst X110.here hx rfl (hb hby at_106) ?_
      show SS p e below m T110 107 #[vi p1, vi p2, vi p3, vi p4, vi p5, vi p6, vi (4 : Int32), vi c1, vi c2, vr b5, vr b16, un] [(.int (2 : Int32)), (.int (4 : Int32))] _
      refine XS.icmpNo X110.here hx rfl (hb hby at_107) rfl (tlt (by decide)).2.2.2 ?_
      show SS p e below m T110 110 #[vi p1, vi p2, vi p3, vi p4, vi p5, vi p6, vi (4 : Int32), vi c1, vi c2, vr b5, vr b16, un] [] _
      refine XS.aload X110.here hx rfl (hb hby at_110) rfl rfl ?_
      show SS p e below m T110 112 #[vi p1, vi p2, vi p3, vi p4, vi p5, vi p6, vi (4 : Int32), vi c1, vi c2, vr b5, vr b16, un] [(.ref b16)] _
      refine XS.iloadN X110.here hx rfl (hb hby at_112) rfl ?_
      show SS p e below m T110 113 #[vi p1, vi p2, vi p3, vi p4, vi p5, vi p6, vi (4 : Int32), vi c1, vi c2, vr b5, vr b16, un] [(.int p3), (.ref b16)] _
      refine st111 _ ?_
      show SS p e below m T111 116 #[vi p1, vi p2, vi p3, vi p4, vi p5, vi p6, vi (4 : Int32), vi c1, vi c2, vr b5, vr b16, un] [(.ref b_111), (.ref b16)] _
      refine st112.trans ?_
      show SS p e below m T112 119 #[vi p1, vi p2, vi p3, vi p4, vi p5, vi p6, vi (4 : Int32), vi c1, vi c2, vr b5, vr b16, un] [] _
      refine XS.iload X112.here hx rfl (hb hby at_119) rfl ?_
      show SS p e below m T112 121 #[vi p1, vi p2, vi p3, vi p4, vi p5, vi p6, vi (4 : Int32), vi c1, vi c2, vr b5, vr b16, un] [(.int (4 : Int32))] _
      refine XS.iconst X112.here hx rfl (hb hby at_121) ?_
      show SS p e below m T112 122 #[vi p1, vi p2, vi p3, vi p4, vi p5, vi p6, vi (4 : Int32), vi c1, vi c2, vr b5, vr b16, un] [(.int (3 : Int32)), (.int (4 : Int32))] _
      refine XS.icmpNo X112.here hx rfl (hb hby at_122) rfl (tlt (by decide)).2.2.2 ?_
      show SS p e below m T112 125 #[vi p1, vi p2, vi p3, vi p4, vi p5, vi p6, vi (4 : Int32), vi c1, vi c2, vr b5, vr b16, un] [] _
      refine XS.aload X112.here hx rfl (hb hby at_125) rfl rfl ?_
      show SS p e below m T112 127 #[vi p1, vi p2, vi p3, vi p4, vi p5, vi p6, vi (4 : Int32), vi c1, vi c2, vr b5, vr b16, un] [(.ref b16)] _
      refine XS.iloadN X112.here hx rfl (hb hby at_127) rfl ?_
      show SS p e below m T112 128 #[vi p1, vi p2, vi p3, vi p4, vi p5, vi p6, vi (4 : Int32), vi c1, vi c2, vr b5, vr b16, un] [(.int p4), (.ref b16)] _
      refine st113 _ ?_
      show SS p e below m T113 131 #[vi p1, vi p2, vi p3, vi p4, vi p5, vi p6, vi (4 : Int32), vi c1, vi c2, vr b5, vr b16, un] [(.ref b_113), (.ref b16)] _
      refine st114.trans ?_
      show SS p e below m T114 134 #[vi p1, vi p2, vi p3, vi p4, vi p5, vi p6, vi (4 : Int32), vi c1, vi c2, vr b5, vr b16, un] [] _
      refine XS.iload X114.here hx rfl (hb hby at_134) rfl ?_
      show SS p e below m T114 136 #[vi p1, vi p2, vi p3, vi p4, vi p5, vi p6, vi (4 : Int32), vi c1, vi c2, vr b5, vr b16, un] [(.int (4 : Int32))] _
      refine XS.iconst X114.here hx rfl (hb hby at_136) ?_
      show SS p e below m T114 137 #[vi p1, vi p2, vi p3, vi p4, vi p5, vi p6, vi (4 : Int32), vi c1, vi c2, vr b5, vr b16, un] [(.int (4 : Int32)), (.int (4 : Int32))] _
      refine XS.icmpYes X114.here hx rfl (pc0 := 137) (pc' := 150) rfl (hb hby at_137) rfl (flt (by decide)).2.2.2 (by decide) (by decide) ?_
      show SS p e below m T114 150 #[vi p1, vi p2, vi p3, vi p4, vi p5, vi p6, vi (4 : Int32), vi c1, vi c2, vr b5, vr b16, un] [] _
      refine XS.iload X114.here hx rfl (hb hby at_150) rfl ?_
      exact kt
    by_cases hc152_116 : c1 = (0 : Int32)
    · obtain ⟨cq117, kq117, q117a, q117b, q117c⟩ := isOf hZ rfl A16
      obtain ⟨_, _, ⟨T117, L117, kz117, nz117⟩, -, X117, ⟨Lc117, hQ117, l117, y117, z117⟩, st117⟩ := X114.virtualBack hx (y := y_15) (z := y_15) hown (mvT hZ (ww hw 49 rfl)) (mvT hZ (ww hw 50 rfl)) (notFace_of_selects (args := #[]) (mvT hZ (ww hw 52 rfl))) (mvT hZ (ww hw 52 rfl)) (mvT hZ (ww hw 51 rfl)) (by decide) (backOf (W := 0) (rmIt l Z a0 hw [] b16 b17_b (4 : Int32) b17_c T114.heap n0 (Nat.le_trans Z0 KC.1) O0 F_store_a1_114 F_size_a1_114 F_items_sto_114) hZ (ww hw 53 rfl) (ww hw 3 rfl) (by decide) (by decide)) q117a q117c (g := (mkF m 176 #[vi p1, vi p2, vi p3, vi p4, vi p5, vi p6, vi (4 : Int32), vi c1, vi c2, vr b5, vr b16, un] [(.ref b16)])) rfl (by rw [hml]; rfl) (Steps.refl _) (argsL := []) (rest := []) (lenOf pd_13 rfl) rfl (by show 2 * 0 + _ ≤ _; exact Nat.le_of_eq rfl) (hb hby at_176) (fun _ _ => ⟨rfl, rfl, (by decide : 8 + 1 ≤ _), (by decide : 17 + 3 ≤ _)⟩)
      dsimp only [Pt.U, Pt.locs, Pt.cells, Pt.slots] at X117 l117 y117 z117 st117 hQ117
      subst l117 y117 z117
      obtain ⟨b117_b, rfl, N117q, K117, sz_b117_b, E_b_117, F_val_length_b_117, F_val_items_b_117, F_next_b_117⟩ := hQ117
      have N117 := Fr.app N114 N117q
      have ne_b5_b117_b : b5 ≠ b117_b := Nat.ne_of_lt (Nat.lt_of_lt_of_le Vm15.lt sz_b117_b)
      have ne_b16_b117_b : b16 ≠ b117_b := Nat.ne_of_lt (Nat.lt_of_lt_of_le A16.lt sz_b117_b)
      have ne_b17_b_b117_b : b17_b ≠ b117_b := Nat.ne_of_lt (Nat.lt_of_lt_of_le E_b_17.lt sz_b117_b)
      have ne_b17_c_b117_b : b17_c ≠ b117_b := Nat.ne_of_lt (Nat.lt_of_lt_of_le E_c_17.lt sz_b117_b)
      have ne_b_107_b117_b : b_107 ≠ b117_b := Nat.ne_of_lt (Nat.lt_of_lt_of_le E_b_107.lt sz_b117_b)
      have ne_b_109_b117_b : b_109 ≠ b117_b := Nat.ne_of_lt (Nat.lt_of_lt_of_le E_b_109.lt sz_b117_b)
      have ne_b_111_b117_b : b_111 ≠ b117_b := Nat.ne_of_lt (Nat.lt_of_lt_of_le E_b_111.lt sz_b117_b)
      have ne_b_113_b117_b : b_113 ≠ b117_b := Nat.ne_of_lt (Nat.lt_of_lt_of_le E_b_113.lt sz_b117_b)
      have g_b117_b : n0 ≤ b117_b := Nat.le_trans (Nat.le_trans Z0 KC.1) sz_b117_b
      replace sz_b117_b : h0.size ≤ b117_b := Nat.le_trans KC.1 sz_b117_b
      replace Vm15 := Vm15.keep K117 nin0
      replace A16 := A16.keep K117
      replace E_b_17 := E_b_17.keep K117
      replace E_c_17 := E_c_17.keep K117
      replace E_b_107 := E_b_107.keep K117
      replace F_value_b_107 := F_value_b_107.keep K117 nin0
      replace E_b_109 := E_b_109.keep K117
      replace F_value_b_109 := F_value_b_109.keep K117 nin0
      replace E_b_111 := E_b_111.keep K117
      replace F_value_b_111 := F_value_b_111.keep K117 nin0
      replace E_b_113 := E_b_113.keep K117
      replace F_value_b_113 := F_value_b_113.keep K117 nin0
      replace F_store_a1_114 := F_store_a1_114.keep K117 nin0
      replace F_size_a1_114 := F_size_a1_114.keep K117 nin0
      replace F_filled_sto_114 := F_filled_sto_114.keep K117 nin0
      replace F_items_sto_114 := F_items_sto_114.keep K117 nin0
      replace V_arr_114 := V_arr_114.keep K117 nin0
      replace O0 := O0.keep K117 all0
      replace KC := KC.trans K117 all0
      have pre118 : ∀ t, Steps p.tables e below (T117.setTop (mkF m 183 #[vi p1, vi p2, vi p3, vi p4, vi p5, vi p6, vi (4 : Int32), vi c1, vi c2, vr b5, vr b16, vr b117_b] [(.int c2)])) t → Steps p.tables e below (s₁.setTop (entryFrame m #[(.int p1), (.int p2), (.int p3), (.int p4), (.int p5), (.int p6)] maxLocals)) t := by
        intro t kt
        refine pre115 t ?_
        show SS p e below m T114 152 #[vi p1, vi p2, vi p3, vi p4, vi p5, vi p6, vi (4 : Int32), vi c1, vi c2, vr b5, vr b16, un] [(.int c1)] _
        refine XS.ifYes X114.here hx rfl (pc0 := 152) (pc' := 174) rfl (hb hby at_152) rfl ((if0 _ _).trans (teq hc152_116).1) (by decide) (by decide) ?_
        show SS p e below m T114 174 #[vi p1, vi p2, vi p3, vi p4, vi p5, vi p6, vi (4 : Int32), vi c1, vi c2, vr b5, vr b16, un] [] _
        refine XS.aload X114.here hx rfl (hb hby at_174) rfl rfl ?_
        show SS p e below m T114 176 #[vi p1, vi p2, vi p3, vi p4, vi p5, vi p6, vi (4 : Int32), vi c1, vi c2, vr b5, vr b16, un] [(.ref b16)] _
        refine st117.trans ?_
        show SS p e below m T117 179 #[vi p1, vi p2, vi p3, vi p4, vi p5, vi p6, vi (4 : Int32), vi c1, vi c2, vr b5, vr b16, un] [(.ref b117_b)] _
        refine XS.astore X117.here hx rfl (hb hby at_179) rfl rfl (l' := #[vi p1, vi p2, vi p3, vi p4, vi p5, vi p6, vi (4 : Int32), vi c1, vi c2, vr b5, vr b16, vr b117_b]) rfl ?_
        show SS p e below m T117 181 #[vi p1, vi p2, vi p3, vi p4, vi p5, vi p6, vi (4 : Int32), vi c1, vi c2, vr b5, vr b16, vr b117_b] [] _
        refine XS.iload X117.here hx rfl (hb hby at_181) rfl ?_
        exact kt
      by_cases hc183_119 : c2 = (0 : Int32)
      · obtain ⟨T120, h120, L120, X120, e120, N120, K120, st120⟩ := tail4 hw X117 hx hZ hby hml hown p1 p2 p3 p4 p5 p6 c1 c2 b5 b16 b117_b b17_c k_17 (4 : Int32) [(.ref b_107), (.ref b_109), (.ref b_111), (.ref b_113)] k5 b_107 b_109 b_111 b_113 T117.heap n0 rfl (Nat.le_trans Z0 KC.1) O0 N117 F_next_b_117 F_val_length_b_117 F_val_items_b_117 E_b_117 E_c_17 V_arr_114 Vm15 g_b117_b ne_b5_b117_b E_b_107 F_value_b_107 rfl (by decide) E_b_109 F_value_b_109 rfl (by decide) E_b_111 F_value_b_111 rfl (by decide) E_b_113 F_value_b_113 rfl (by decide) (by decide) (by decide) (by decide) (by decide)
        replace Vm15 := Vm15.keep K120 (ninS ne_b5_b117_b nin0)
        replace A16 := A16.keep K120
        replace E_b_17 := E_b_17.keep K120
        replace E_c_17 := E_c_17.keep K120
        replace E_b_107 := E_b_107.keep K120
        replace F_value_b_107 := F_value_b_107.keep K120 (ninS ne_b_107_b117_b nin0)
        replace E_b_109 := E_b_109.keep K120
        replace F_value_b_109 := F_value_b_109.keep K120 (ninS ne_b_109_b117_b nin0)
        replace E_b_111 := E_b_111.keep K120
        replace F_value_b_111 := F_value_b_111.keep K120 (ninS ne_b_111_b117_b nin0)
        replace E_b_113 := E_b_113.keep K120
        replace F_value_b_113 := F_value_b_113.keep K120 (ninS ne_b_113_b117_b nin0)
        replace F_store_a1_114 := F_store_a1_114.keep K120 (ninS ne_b16_b117_b nin0)
        replace F_size_a1_114 := F_size_a1_114.keep K120 (ninS ne_b16_b117_b nin0)
        replace F_filled_sto_114 := F_filled_sto_114.keep K120 (ninS ne_b17_b_b117_b nin0)
        replace F_items_sto_114 := F_items_sto_114.keep K120 (ninS ne_b17_b_b117_b nin0)
        replace V_arr_114 := V_arr_114.keep K120 (ninS ne_b17_c_b117_b nin0)
        replace E_b_117 := E_b_117.keep K120
        replace O0 := O0.keep K120 (allS g_b117_b all0)
        replace KC := KC.trans K120 (allS (Or.inr sz_b117_b) all0)
        obtain ⟨fs, hr, hrun, hended, hW, hsame⟩ := X120.leave (v := some (.int (1 : Int32))) (fun h => by rw [Bd.returns] at h; cases h)
        refine ⟨_, _, pre118 _ ?_, hrun, hended, _, _, rfl, ?_, ⟨_, rfl⟩, hW, hsame.mono (by decide) (by decide)⟩
        · show SS p e below m T117 183 #[vi p1, vi p2, vi p3, vi p4, vi p5, vi p6, vi (4 : Int32), vi c1, vi c2, vr b5, vr b16, vr b117_b] [(.int c2)] _
          refine XS.ifYes X117.here hx rfl (pc0 := 183) (pc' := 197) rfl (hb hby at_183) rfl ((if0 _ _).trans (teq hc183_119).1) (by decide) (by decide) ?_
          show SS p e below m T117 197 #[vi p1, vi p2, vi p3, vi p4, vi p5, vi p6, vi (4 : Int32), vi c1, vi c2, vr b5, vr b16, vr b117_b] [] _
          refine st120 _ ?_
          show SS p e below m T120 282 #[vi p1, vi p2, vi p3, vi p4, vi p5, vi p6, vi (4 : Int32), vi c1, vi c2, vr b5, vr b16, vr b117_b] [(.int (0 : Int32))] _
          refine XS.ifNo X120.here hx rfl (hb hby at_282) rfl ((if0 _ _).trans (teq (by decide)).2) ?_
          show SS p e below m T120 285 #[vi p1, vi p2, vi p3, vi p4, vi p5, vi p6, vi (4 : Int32), vi c1, vi c2, vr b5, vr b16, vr b117_b] [] _
          refine XS.iconst X120.here hx rfl (hb hby at_285) ?_
          show SS p e below m T120 286 #[vi p1, vi p2, vi p3, vi p4, vi p5, vi p6, vi (4 : Int32), vi c1, vi c2, vr b5, vr b16, vr b117_b] [(.int (1 : Int32))] _
          refine XS.goto X120.here hx rfl (pc0 := 286) (pc' := 290) rfl (hb hby at_286) (by decide) (by decide) ?_
          show SS p e below m T120 290 #[vi p1, vi p2, vi p3, vi p4, vi p5, vi p6, vi (4 : Int32), vi c1, vi c2, vr b5, vr b16, vr b117_b] [(.int (1 : Int32))] _
          exact retN X120 hx (t := .boolean) Bd.returns (by simp) (hb hby at_290) hr
        · show Q_rm0 Z p1 p2 p3 p4 p5 p6 cA cl mr h0 n0 _ T120.heap _
          rw [e120]
          exact ⟨rfl, N120, KC⟩
      · obtain ⟨_, _, ⟨T121, L121, kz121, nz121⟩, -, X121, ⟨Lc121, hQ121, l121, y121, z121⟩, st121⟩ := Jvm.LawKit.callS X117 hx (y := y_5) hown (mvT hZ (ww hw 30 rfl)) (mvT hZ (ww hw 31 rfl)) (mvT hZ (ww hw 32 rfl)) (mvT hZ (ww hw 33 rfl)) (by decide) (backOf (W := 1) (rmVo l Z a0 hw [] (p2 ^^^ p4) cA cl T117.heap n0 (Nat.le_trans Z0 KC.1) O0 S_high S_cache BX) hZ (ww hw 33 rfl) (ww hw 32 rfl) (by decide) (by decide)) (g := (mkF m 191 #[vi p1, vi p2, vi p3, vi p4, vi p5, vi p6, vi (4 : Int32), vi c1, vi c2, vr b5, vr b16, vr b117_b] [(.int (p2 ^^^ p4)), (.ref b16)])) rfl (by rw [hml]; rfl) (argsL := [(.int (p2 ^^^ p4))]) (rest := [(.ref b16)]) (lenOf pd_14 rfl) rfl (by show 2 * 0 + _ ≤ _; exact Nat.le_of_eq rfl) (hb hby at_191) (fun _ _ => ⟨rfl, rfl, (by decide : 9 + 1 ≤ _), (by decide : 20 + 1 ≤ _)⟩)
        dsimp only [Pt.U, Pt.locs, Pt.cells, Pt.slots] at X121 l121 y121 z121 st121 hQ121
        subst l121 y121 z121
        obtain ⟨b_121, rfl, N121q, K121, E_b_121, F_value_b_121⟩ := hQ121
        have N121 := Fr.app N117 N121q
        replace Vm15 := Vm15.keep K121 nin0
        replace A16 := A16.keep K121
        replace E_b_17 := E_b_17.keep K121
        replace E_c_17 := E_c_17.keep K121
        replace E_b_107 := E_b_107.keep K121
        replace F_value_b_107 := F_value_b_107.keep K121 nin0
        replace E_b_109 := E_b_109.keep K121
        replace F_value_b_109 := F_value_b_109.keep K121 nin0
        replace E_b_111 := E_b_111.keep K121
        replace F_value_b_111 := F_value_b_111.keep K121 nin0
        replace E_b_113 := E_b_113.keep K121
        replace F_value_b_113 := F_value_b_113.keep K121 nin0
        replace F_store_a1_114 := F_store_a1_114.keep K121 nin0
        replace F_size_a1_114 := F_size_a1_114.keep K121 nin0
        replace F_filled_sto_114 := F_filled_sto_114.keep K121 nin0
        replace F_items_sto_114 := F_items_sto_114.keep K121 nin0
        replace V_arr_114 := V_arr_114.keep K121 nin0
        replace E_b_117 := E_b_117.keep K121
        replace F_val_length_b_117 := F_val_length_b_117.keep K121 nin0
        replace F_val_items_b_117 := F_val_items_b_117.keep K121 nin0
        replace F_next_b_117 := F_next_b_117.keep K121 nin0
        replace O0 := O0.keep K121 all0
        replace KC := KC.trans K121 all0
        obtain ⟨cq122, kq122, q122a, q122b, q122c⟩ := isOf hZ rfl A16
        obtain ⟨_, _, ⟨T122, L122, kz122, nz122⟩, -, X122, ⟨Lc122, hQ122, l122, y122, z122⟩, st122⟩ := X121.virtualBack hx (y := y_12) (z := y_12) hown (mvT hZ (ww hw 37 rfl)) (mvT hZ (ww hw 38 rfl)) (notFace_of_selects (args := #[]) (mvT hZ (ww hw 40 rfl))) (mvT hZ (ww hw 40 rfl)) (mvT hZ (ww hw 39 rfl)) (by decide) (backOf (W := 0) (rmAddB l Z a0 hw [] b16 b_121 b17_b (4 : Int32) (4 : Int32) b17_c k_17 (4 : Int32) [(.ref b_107), (.ref b_109), (.ref b_111), (.ref b_113)] mr (8 : Int32) (4 : Int32) [(.ref b_107), (.ref b_109), (.ref b_111), (.ref b_113), .null, .null, .null, .null, .null, .null] (5 : Int32) [(.ref b_107), (.ref b_109), (.ref b_111), (.ref b_113), (.ref b_121), .null, .null, .null, .null, .null] T121.heap n0 (Nat.le_trans Z0 KC.1) O0 F_store_a1_114 F_size_a1_114 A16 E_b_17 F_filled_sto_114 F_items_sto_114 E_c_17 V_arr_114 E_b_121 g_b16 MIR (Or.inr rfl) (by decide) (by decide) (by decide) (by decide) (by decide) (by decide) (by decide) rfl (own_els_cons (Or.inr ⟨_, rfl, E_b_107⟩) (own_els_cons (Or.inr ⟨_, rfl, E_b_109⟩) (own_els_cons (Or.inr ⟨_, rfl, E_b_111⟩) (own_els_cons (Or.inr ⟨_, rfl, E_b_113⟩) own_els_nil)))) (by decide) (by decide) (by decide) rfl (Nat.le_of_ble_eq_true rfl)) hZ (ww hw 41 rfl) (ww hw 3 rfl) (by decide) (by decide)) q122a q122c (g := (mkF m 194 #[vi p1, vi p2, vi p3, vi p4, vi p5, vi p6, vi (4 : Int32), vi c1, vi c2, vr b5, vr b16, vr b117_b] [(.ref b_121), (.ref b16)])) rfl (by rw [hml]; rfl) (Steps.refl _) (argsL := [(.ref b_121)]) (rest := []) (lenOf pd_15 rfl) rfl (by show 2 * 0 + _ ≤ _; exact Nat.le_of_eq rfl) (hb hby at_194) (fun _ _ => ⟨rfl, rfl, (by decide : 10 + 2 ≤ _), (by decide : 21 + 12 ≤ _)⟩)
        dsimp only [Pt.U, Pt.locs, Pt.cells, Pt.slots] at X122 l122 y122 z122 st122 hQ122
        subst l122 y122 z122
        obtain ⟨b122_b, b122_c, k2_122, rfl, N122q, K122, sz_b122_b, sz_b122_c, F_store_a1_122, F_size_a1_122, E_b_122, F_filled_b_122, F_items_b_122, E_c_122, V_c_122, hq122_0⟩ := hQ122
        have N122 := Fr.app N121 N122q
        have ne_b5_b122_b : b5 ≠ b122_b := Nat.ne_of_lt (Nat.lt_of_lt_of_le Vm15.lt sz_b122_b)
        have ne_b16_b122_b : b16 ≠ b122_b := Nat.ne_of_lt (Nat.lt_of_lt_of_le A16.lt sz_b122_b)
        have ne_b17_b_b122_b : b17_b ≠ b122_b := Nat.ne_of_lt (Nat.lt_of_lt_of_le E_b_17.lt sz_b122_b)
        have ne_b17_c_b122_b : b17_c ≠ b122_b := Nat.ne_of_lt (Nat.lt_of_lt_of_le E_c_17.lt sz_b122_b)
        have ne_b_107_b122_b : b_107 ≠ b122_b := Nat.ne_of_lt (Nat.lt_of_lt_of_le E_b_107.lt sz_b122_b)
        have ne_b_109_b122_b : b_109 ≠ b122_b := Nat.ne_of_lt (Nat.lt_of_lt_of_le E_b_109.lt sz_b122_b)
        have ne_b_111_b122_b : b_111 ≠ b122_b := Nat.ne_of_lt (Nat.lt_of_lt_of_le E_b_111.lt sz_b122_b)
        have ne_b_113_b122_b : b_113 ≠ b122_b := Nat.ne_of_lt (Nat.lt_of_lt_of_le E_b_113.lt sz_b122_b)
        have ne_b117_b_b122_b : b117_b ≠ b122_b := Nat.ne_of_lt (Nat.lt_of_lt_of_le E_b_117.lt sz_b122_b)
        have ne_b_121_b122_b : b_121 ≠ b122_b := Nat.ne_of_lt (Nat.lt_of_lt_of_le E_b_121.lt sz_b122_b)
        have g_b122_b : n0 ≤ b122_b := Nat.le_trans (Nat.le_trans Z0 KC.1) sz_b122_b
        replace sz_b122_b : h0.size ≤ b122_b := Nat.le_trans KC.1 sz_b122_b
        have ne_b5_b122_c : b5 ≠ b122_c := Nat.ne_of_lt (Nat.lt_of_lt_of_le Vm15.lt sz_b122_c)
        have ne_b16_b122_c : b16 ≠ b122_c := Nat.ne_of_lt (Nat.lt_of_lt_of_le A16.lt sz_b122_c)
        have ne_b17_b_b122_c : b17_b ≠ b122_c := Nat.ne_of_lt (Nat.lt_of_lt_of_le E_b_17.lt sz_b122_c)
        have ne_b17_c_b122_c : b17_c ≠ b122_c := Nat.ne_of_lt (Nat.lt_of_lt_of_le E_c_17.lt sz_b122_c)
        have ne_b_107_b122_c : b_107 ≠ b122_c := Nat.ne_of_lt (Nat.lt_of_lt_of_le E_b_107.lt sz_b122_c)
        have ne_b_109_b122_c : b_109 ≠ b122_c := Nat.ne_of_lt (Nat.lt_of_lt_of_le E_b_109.lt sz_b122_c)
        have ne_b_111_b122_c : b_111 ≠ b122_c := Nat.ne_of_lt (Nat.lt_of_lt_of_le E_b_111.lt sz_b122_c)
        have ne_b_113_b122_c : b_113 ≠ b122_c := Nat.ne_of_lt (Nat.lt_of_lt_of_le E_b_113.lt sz_b122_c)
        have ne_b117_b_b122_c : b117_b ≠ b122_c := Nat.ne_of_lt (Nat.lt_of_lt_of_le E_b_117.lt sz_b122_c)
        have ne_b_121_b122_c : b_121 ≠ b122_c := Nat.ne_of_lt (Nat.lt_of_lt_of_le E_b_121.lt sz_b122_c)
        have g_b122_c : n0 ≤ b122_c := Nat.le_trans (Nat.le_trans Z0 KC.1) sz_b122_c
        replace sz_b122_c : h0.size ≤ b122_c := Nat.le_trans KC.1 sz_b122_c
        have nec_b_121_b16 : b_121 ≠ b16 := Exa.ne E_b_121 A16 (by decide)
        replace Vm15 := Vm15.keep K122 (ninS ne_b5_b16 nin0)
        replace A16 := A16.keep K122
        replace E_b_17 := E_b_17.keep K122
        replace E_c_17 := E_c_17.keep K122
        replace E_b_107 := E_b_107.keep K122
        replace F_value_b_107 := F_value_b_107.keep K122 (ninS nec_b_107_b16 nin0)
        replace E_b_109 := E_b_109.keep K122
        replace F_value_b_109 := F_value_b_109.keep K122 (ninS nec_b_109_b16 nin0)
        replace E_b_111 := E_b_111.keep K122
        replace F_value_b_111 := F_value_b_111.keep K122 (ninS nec_b_111_b16 nin0)
        replace E_b_113 := E_b_113.keep K122
        replace F_value_b_113 := F_value_b_113.keep K122 (ninS nec_b_113_b16 nin0)
        replace F_filled_sto_114 := F_filled_sto_114.keep K122 (ninS (Ne.symm ne_b16_b17_b) nin0)
        replace F_items_sto_114 := F_items_sto_114.keep K122 (ninS (Ne.symm ne_b16_b17_b) nin0)
        replace V_arr_114 := V_arr_114.keep K122 (ninS (Ne.symm ne_b16_b17_c) nin0)
        replace E_b_117 := E_b_117.keep K122
        replace F_val_length_b_117 := F_val_length_b_117.keep K122 (ninS (Ne.symm ne_b16_b117_b) nin0)
        replace F_val_items_b_117 := F_val_items_b_117.keep K122 (ninS (Ne.symm ne_b16_b117_b) nin0)
        replace F_next_b_117 := F_next_b_117.keep K122 (ninS (Ne.symm ne_b16_b117_b) nin0)
        replace E_b_121 := E_b_121.keep K122
        replace F_value_b_121 := F_value_b_121.keep K122 (ninS nec_b_121_b16 nin0)
        replace O0 := O0.keep K122 (allS g_b16 all0)
        replace KC := KC.trans K122 (allS (Or.inr sz_b16) all0)
        obtain ⟨T123, h123, L123, X123, e123, N123, K123, st123⟩ := tail4 hw X122 hx hZ hby hml hown p1 p2 p3 p4 p5 p6 c1 c2 b5 b16 b117_b b17_c k_17 (4 : Int32) [(.ref b_107), (.ref b_109), (.ref b_111), (.ref b_113)] k5 b_107 b_109 b_111 b_113 T122.heap n0 rfl (Nat.le_trans Z0 KC.1) O0 N122 F_next_b_117 F_val_length_b_117 F_val_items_b_117 E_b_117 E_c_17 V_arr_114 Vm15 g_b117_b ne_b5_b117_b E_b_107 F_value_b_107 rfl (by decide) E_b_109 F_value_b_109 rfl (by decide) E_b_111 F_value_b_111 rfl (by decide) E_b_113 F_value_b_113 rfl (by decide) (by decide) (by decide) (by decide) (by decide)
        have nec_b_121_b117_b : b_121 ≠ b117_b := Exa.ne E_b_121 E_b_117 (by decide)
        replace Vm15 := Vm15.keep K123 (ninS ne_b5_b117_b nin0)
        replace A16 := A16.keep K123
        replace E_b_17 := E_b_17.keep K123
        replace E_c_17 := E_c_17.keep K123
        replace E_b_107 := E_b_107.keep K123
        replace F_value_b_107 := F_value_b_107.keep K123 (ninS ne_b_107_b117_b nin0)
        replace E_b_109 := E_b_109.keep K123
        replace F_value_b_109 := F_value_b_109.keep K123 (ninS ne_b_109_b117_b nin0)
        replace E_b_111 := E_b_111.keep K123
        replace F_value_b_111 := F_value_b_111.keep K123 (ninS ne_b_111_b117_b nin0)
        replace E_b_113 := E_b_113.keep K123
        replace F_value_b_113 := F_value_b_113.keep K123 (ninS ne_b_113_b117_b nin0)
        replace F_filled_sto_114 := F_filled_sto_114.keep K123 (ninS ne_b17_b_b117_b nin0)
        replace F_items_sto_114 := F_items_sto_114.keep K123 (ninS ne_b17_b_b117_b nin0)
        replace V_arr_114 := V_arr_114.keep K123 (ninS ne_b17_c_b117_b nin0)
        replace E_b_117 := E_b_117.keep K123
        replace E_b_121 := E_b_121.keep K123
        replace F_value_b_121 := F_value_b_121.keep K123 (ninS nec_b_121_b117_b nin0)
        replace F_store_a1_122 := F_store_a1_122.keep K123 (ninS ne_b16_b117_b nin0)
        replace F_size_a1_122 := F_size_a1_122.keep K123 (ninS ne_b16_b117_b nin0)
        replace E_b_122 := E_b_122.keep K123
        replace F_filled_b_122 := F_filled_b_122.keep K123 (ninS (Ne.symm ne_b117_b_b122_b) nin0)
        replace F_items_b_122 := F_items_b_122.keep K123 (ninS (Ne.symm ne_b117_b_b122_b) nin0)
        replace E_c_122 := E_c_122.keep K123
        replace V_c_122 := V_c_122.keep K123 (ninS (Ne.symm ne_b117_b_b122_c) nin0)
        replace O0 := O0.keep K123 (allS g_b117_b all0)
        replace KC := KC.trans K123 (allS (Or.inr sz_b117_b) all0)
        obtain ⟨fs, hr, hrun, hended, hW, hsame⟩ := X123.leave (v := some (.int (1 : Int32))) (fun h => by rw [Bd.returns] at h; cases h)
        refine ⟨_, _, pre118 _ ?_, hrun, hended, _, _, rfl, ?_, ⟨_, rfl⟩, hW, hsame.mono (by decide) (by decide)⟩
        · show SS p e below m T117 183 #[vi p1, vi p2, vi p3, vi p4, vi p5, vi p6, vi (4 : Int32), vi c1, vi c2, vr b5, vr b16, vr b117_b] [(.int c2)] _
          refine XS.ifNo X117.here hx rfl (hb hby at_183) rfl ((if0 _ _).trans (feq hc183_119).1) ?_
          show SS p e below m T117 186 #[vi p1, vi p2, vi p3, vi p4, vi p5, vi p6, vi (4 : Int32), vi c1, vi c2, vr b5, vr b16, vr b117_b] [] _
          refine XS.aload X117.here hx rfl (hb hby at_186) rfl rfl ?_
          show SS p e below m T117 188 #[vi p1, vi p2, vi p3, vi p4, vi p5, vi p6, vi (4 : Int32), vi c1, vi c2, vr b5, vr b16, vr b117_b] [(.ref b16)] _
          refine XS.iloadN X117.here hx rfl (hb hby at_188) rfl ?_
          show SS p e below m T117 189 #[vi p1, vi p2, vi p3, vi p4, vi p5, vi p6, vi (4 : Int32), vi c1, vi c2, vr b5, vr b16, vr b117_b] [(.int p2), (.ref b16)] _
          refine XS.iloadN X117.here hx rfl (hb hby at_189) rfl ?_
          show SS p e below m T117 190 #[vi p1, vi p2, vi p3, vi p4, vi p5, vi p6, vi (4 : Int32), vi c1, vi c2, vr b5, vr b16, vr b117_b] [(.int p4), (.int p2), (.ref b16)] _
          refine XS.ixor X117.here hx rfl (hb hby at_190) rfl ?_
          show SS p e below m T117 191 #[vi p1, vi p2, vi p3, vi p4, vi p5, vi p6, vi (4 : Int32), vi c1, vi c2, vr b5, vr b16, vr b117_b] [(.int (p2 ^^^ p4)), (.ref b16)] _
          refine st121 _ ?_
          show SS p e below m T121 194 #[vi p1, vi p2, vi p3, vi p4, vi p5, vi p6, vi (4 : Int32), vi c1, vi c2, vr b5, vr b16, vr b117_b] [(.ref b_121), (.ref b16)] _
          refine st122.trans ?_
          show SS p e below m T122 197 #[vi p1, vi p2, vi p3, vi p4, vi p5, vi p6, vi (4 : Int32), vi c1, vi c2, vr b5, vr b16, vr b117_b] [] _
          refine st123 _ ?_
          show SS p e below m T123 282 #[vi p1, vi p2, vi p3, vi p4, vi p5, vi p6, vi (4 : Int32), vi c1, vi c2, vr b5, vr b16, vr b117_b] [(.int (0 : Int32))] _
          refine XS.ifNo X123.here hx rfl (hb hby at_282) rfl ((if0 _ _).trans (teq (by decide)).2) ?_
          show SS p e below m T123 285 #[vi p1, vi p2, vi p3, vi p4, vi p5, vi p6, vi (4 : Int32), vi c1, vi c2, vr b5, vr b16, vr b117_b] [] _
          refine XS.iconst X123.here hx rfl (hb hby at_285) ?_
          show SS p e below m T123 286 #[vi p1, vi p2, vi p3, vi p4, vi p5, vi p6, vi (4 : Int32), vi c1, vi c2, vr b5, vr b16, vr b117_b] [(.int (1 : Int32))] _
          refine XS.goto X123.here hx rfl (pc0 := 286) (pc' := 290) rfl (hb hby at_286) (by decide) (by decide) ?_
          show SS p e below m T123 290 #[vi p1, vi p2, vi p3, vi p4, vi p5, vi p6, vi (4 : Int32), vi c1, vi c2, vr b5, vr b16, vr b117_b] [(.int (1 : Int32))] _
          exact retN X123 hx (t := .boolean) Bd.returns (by simp) (hb hby at_290) hr
        · show Q_rm0 Z p1 p2 p3 p4 p5 p6 cA cl mr h0 n0 _ T123.heap _
          rw [e123]
          exact ⟨rfl, N123, KC⟩
    · obtain ⟨cq124, kq124, q124a, q124b, q124c⟩ := isOf hZ rfl A16
      obtain ⟨_, _, ⟨T124, L124, kz124, nz124⟩, -, X124, ⟨Lc124, hQ124, l124, y124, z124⟩, st124⟩ := X114.virtualBack hx (y := y_13) (z := y_13) hown (mvT hZ (ww hw 135 rfl)) (mvT hZ (ww hw 136 rfl)) (notFace_of_selects (args := #[]) (mvT hZ (ww hw 138 rfl))) (mvT hZ (ww hw 138 rfl)) (mvT hZ (ww hw 137 rfl)) (by decide) (backOf (W := 0) (rmCp l Z a0 hw [] b16 b17_b (4 : Int32) T114.heap n0 (Nat.le_trans Z0 KC.1) O0 F_store_a1_114 F_size_a1_114) hZ (ww hw 139 rfl) (ww hw 3 rfl) (by decide) (by decide)) q124a q124c (g := (mkF m 157 #[vi p1, vi p2, vi p3, vi p4, vi p5, vi p6, vi (4 : Int32), vi c1, vi c2, vr b5, vr b16, un] [(.ref b16)])) rfl (by rw [hml]; rfl) (Steps.refl _) (argsL := []) (rest := []) (lenOf pd_16 rfl) rfl (by show 2 * 0 + _ ≤ _; exact Nat.le_of_eq rfl) (hb hby at_157) (fun _ _ => ⟨rfl, rfl, (by decide : 8 + 1 ≤ _), (by decide : 17 + 2 ≤ _)⟩)
      dsimp only [Pt.U, Pt.locs, Pt.cells, Pt.slots] at X124 l124 y124 z124 st124 hQ124
      subst l124 y124 z124
      obtain ⟨b124_b, rfl, N124q, K124, sz_b124_b, E_b_124, F_store_b_124, F_size_b_124⟩ := hQ124
      have N124 := Fr.app N114 N124q
      have ne_b5_b124_b : b5 ≠ b124_b := Nat.ne_of_lt (Nat.lt_of_lt_of_le Vm15.lt sz_b124_b)
      have ne_b16_b124_b : b16 ≠ b124_b := Nat.ne_of_lt (Nat.lt_of_lt_of_le A16.lt sz_b124_b)
      have ne_b17_b_b124_b : b17_b ≠ b124_b := Nat.ne_of_lt (Nat.lt_of_lt_of_le E_b_17.lt sz_b124_b)
      have ne_b17_c_b124_b : b17_c ≠ b124_b := Nat.ne_of_lt (Nat.lt_of_lt_of_le E_c_17.lt sz_b124_b)
      have ne_b_107_b124_b : b_107 ≠ b124_b := Nat.ne_of_lt (Nat.lt_of_lt_of_le E_b_107.lt sz_b124_b)
      have ne_b_109_b124_b : b_109 ≠ b124_b := Nat.ne_of_lt (Nat.lt_of_lt_of_le E_b_109.lt sz_b124_b)
      have ne_b_111_b124_b : b_111 ≠ b124_b := Nat.ne_of_lt (Nat.lt_of_lt_of_le E_b_111.lt sz_b124_b)
      have ne_b_113_b124_b : b_113 ≠ b124_b := Nat.ne_of_lt (Nat.lt_of_lt_of_le E_b_113.lt sz_b124_b)
      have g_b124_b : n0 ≤ b124_b := Nat.le_trans (Nat.le_trans Z0 KC.1) sz_b124_b
      replace sz_b124_b : h0.size ≤ b124_b := Nat.le_trans KC.1 sz_b124_b
      replace Vm15 := Vm15.keep K124 nin0
      replace A16 := A16.keep K124
      replace E_b_17 := E_b_17.keep K124
      replace E_c_17 := E_c_17.keep K124
      replace E_b_107 := E_b_107.keep K124
      replace F_value_b_107 := F_value_b_107.keep K124 nin0
      replace E_b_109 := E_b_109.keep K124
      replace F_value_b_109 := F_value_b_109.keep K124 nin0
      replace E_b_111 := E_b_111.keep K124
      replace F_value_b_111 := F_value_b_111.keep K124 nin0
      replace E_b_113 := E_b_113.keep K124
      replace F_value_b_113 := F_value_b_113.keep K124 nin0
      replace F_store_a1_114 := F_store_a1_114.keep K124 nin0
      replace F_size_a1_114 := F_size_a1_114.keep K124 nin0
      replace F_filled_sto_114 := F_filled_sto_114.keep K124 nin0
      replace F_items_sto_114 := F_items_sto_114.keep K124 nin0
      replace V_arr_114 := V_arr_114.keep K124 nin0
      replace O0 := O0.keep K124 all0
      replace KC := KC.trans K124 all0
      obtain ⟨_, _, ⟨T125, L125, kz125, nz125⟩, -, X125, ⟨Lc125, hQ125, l125, y125, z125⟩, st125⟩ := Jvm.LawKit.callS X124 hx (y := y_5) hown (mvT hZ (ww hw 30 rfl)) (mvT hZ (ww hw 31 rfl)) (mvT hZ (ww hw 32 rfl)) (mvT hZ (ww hw 33 rfl)) (by decide) (backOf (W := 1) (rmVo l Z a0 hw [] (p1 ^^^ p5) cA cl T124.heap n0 (Nat.le_trans Z0 KC.1) O0 S_high S_cache BX) hZ (ww hw 33 rfl) (ww hw 32 rfl) (by decide) (by decide)) (g := (mkF m 168 #[vi p1, vi p2, vi p3, vi p4, vi p5, vi p6, vi (4 : Int32), vi c1, vi c2, vr b5, vr b16, vr b124_b] [(.int (p1 ^^^ p5)), (.ref b124_b)])) rfl (by rw [hml]; rfl) (argsL := [(.int (p1 ^^^ p5))]) (rest := [(.ref b124_b)]) (lenOf pd_14 rfl) rfl (by show 2 * 0 + _ ≤ _; exact Nat.le_of_eq rfl) (hb hby at_168) (fun _ _ => ⟨rfl, rfl, (by decide : 9 + 1 ≤ _), (by decide : 19 + 1 ≤ _)⟩)
      dsimp only [Pt.U, Pt.locs, Pt.cells, Pt.slots] at X125 l125 y125 z125 st125 hQ125
      subst l125 y125 z125
      obtain ⟨b_125, rfl, N125q, K125, E_b_125, F_value_b_125⟩ := hQ125
      have N125 := Fr.app N124 N125q
      replace Vm15 := Vm15.keep K125 nin0
      replace A16 := A16.keep K125
      replace E_b_17 := E_b_17.keep K125
      replace E_c_17 := E_c_17.keep K125
      replace E_b_107 := E_b_107.keep K125
      replace F_value_b_107 := F_value_b_107.keep K125 nin0
      replace E_b_109 := E_b_109.keep K125
      replace F_value_b_109 := F_value_b_109.keep K125 nin0
      replace E_b_111 := E_b_111.keep K125
      replace F_value_b_111 := F_value_b_111.keep K125 nin0
      replace E_b_113 := E_b_113.keep K125
      replace F_value_b_113 := F_value_b_113.keep K125 nin0
      replace F_store_a1_114 := F_store_a1_114.keep K125 nin0
      replace F_size_a1_114 := F_size_a1_114.keep K125 nin0
      replace F_filled_sto_114 := F_filled_sto_114.keep K125 nin0
      replace F_items_sto_114 := F_items_sto_114.keep K125 nin0
      replace V_arr_114 := V_arr_114.keep K125 nin0
      replace E_b_124 := E_b_124.keep K125
      replace F_store_b_124 := F_store_b_124.keep K125 nin0
      replace F_size_b_124 := F_size_b_124.keep K125 nin0
      replace O0 := O0.keep K125 all0
      replace KC := KC.trans K125 all0
      obtain ⟨cq126, kq126, q126a, q126b, q126c⟩ := isOf hZ rfl E_b_124
      obtain ⟨_, _, ⟨T126, L126, kz126, nz126⟩, -, X126, ⟨Lc126, hQ126, l126, y126, z126⟩, st126⟩ := X125.virtualBack hx (y := y_12) (z := y_12) hown (mvT hZ (ww hw 37 rfl)) (mvT hZ (ww hw 38 rfl)) (notFace_of_selects (args := #[]) (mvT hZ (ww hw 40 rfl))) (mvT hZ (ww hw 40 rfl)) (mvT hZ (ww hw 39 rfl)) (by decide) (backOf (W := 0) (rmAddB l Z a0 hw [] b124_b b_125 b17_b (4 : Int32) (4 : Int32) b17_c k_17 (4 : Int32) [(.ref b_107), (.ref b_109), (.ref b_111), (.ref b_113)] mr (8 : Int32) (4 : Int32) [(.ref b_107), (.ref b_109), (.ref b_111), (.ref b_113), .null, .null, .null, .null, .null, .null] (5 : Int32) [(.ref b_107), (.ref b_109), (.ref b_111), (.ref b_113), (.ref b_125), .null, .null, .null, .null, .null] T125.heap n0 (Nat.le_trans Z0 KC.1) O0 F_store_b_124 F_size_b_124 E_b_124 E_b_17 F_filled_sto_114 F_items_sto_114 E_c_17 V_arr_114 E_b_125 g_b124_b MIR (Or.inr rfl) (by decide) (by decide) (by decide) (by decide) (by decide) (by decide) (by decide) rfl (own_els_cons (Or.inr ⟨_, rfl, E_b_107⟩) (own_els_cons (Or.inr ⟨_, rfl, E_b_109⟩) (own_els_cons (Or.inr ⟨_, rfl, E_b_111⟩) (own_els_cons (Or.inr ⟨_, rfl, E_b_113⟩) own_els_nil)))) (by decide) (by decide) (by decide) rfl (Nat.le_of_ble_eq_true rfl)) hZ (ww hw 41 rfl) (ww hw 3 rfl) (by decide) (by decide)) q126a q126c (g := (mkF m 171 #[vi p1, vi p2, vi p3, vi p4, vi p5, vi p6, vi (4 : Int32), vi c1, vi c2, vr b5, vr b16, vr b124_b] [(.ref b_125), (.ref b124_b)])) rfl (by rw [hml]; rfl) (Steps.refl _) (argsL := [(.ref b_125)]) (rest := []) (lenOf pd_15 rfl) rfl (by show 2 * 0 + _ ≤ _; exact Nat.le_of_eq rfl) (hb hby at_171) (fun _ _ => ⟨rfl, rfl, (by decide : 10 + 2 ≤ _), (by decide : 20 + 12 ≤ _)⟩)
      dsimp only [Pt.U, Pt.locs, Pt.cells, Pt.slots] at X126 l126 y126 z126 st126 hQ126
      subst l126 y126 z126
      obtain ⟨b126_b, b126_c, k2_126, rfl, N126q, K126, sz_b126_b, sz_b126_c, F_store_a1_126, F_size_a1_126, E_b_126, F_filled_b_126, F_items_b_126, E_c_126, V_c_126, hq126_0⟩ := hQ126
      have N126 := Fr.app N125 N126q
      have ne_b5_b126_b : b5 ≠ b126_b := Nat.ne_of_lt (Nat.lt_of_lt_of_le Vm15.lt sz_b126_b)
      have ne_b16_b126_b : b16 ≠ b126_b := Nat.ne_of_lt (Nat.lt_of_lt_of_le A16.lt sz_b126_b)
      have ne_b17_b_b126_b : b17_b ≠ b126_b := Nat.ne_of_lt (Nat.lt_of_lt_of_le E_b_17.lt sz_b126_b)
      have ne_b17_c_b126_b : b17_c ≠ b126_b := Nat.ne_of_lt (Nat.lt_of_lt_of_le E_c_17.lt sz_b126_b)
      have ne_b_107_b126_b : b_107 ≠ b126_b := Nat.ne_of_lt (Nat.lt_of_lt_of_le E_b_107.lt sz_b126_b)
      have ne_b_109_b126_b : b_109 ≠ b126_b := Nat.ne_of_lt (Nat.lt_of_lt_of_le E_b_109.lt sz_b126_b)
      have ne_b_111_b126_b : b_111 ≠ b126_b := Nat.ne_of_lt (Nat.lt_of_lt_of_le E_b_111.lt sz_b126_b)
      have ne_b_113_b126_b : b_113 ≠ b126_b := Nat.ne_of_lt (Nat.lt_of_lt_of_le E_b_113.lt sz_b126_b)
      have ne_b124_b_b126_b : b124_b ≠ b126_b := Nat.ne_of_lt (Nat.lt_of_lt_of_le E_b_124.lt sz_b126_b)
      have ne_b_125_b126_b : b_125 ≠ b126_b := Nat.ne_of_lt (Nat.lt_of_lt_of_le E_b_125.lt sz_b126_b)
      have g_b126_b : n0 ≤ b126_b := Nat.le_trans (Nat.le_trans Z0 KC.1) sz_b126_b
      replace sz_b126_b : h0.size ≤ b126_b := Nat.le_trans KC.1 sz_b126_b
      have ne_b5_b126_c : b5 ≠ b126_c := Nat.ne_of_lt (Nat.lt_of_lt_of_le Vm15.lt sz_b126_c)
      have ne_b16_b126_c : b16 ≠ b126_c := Nat.ne_of_lt (Nat.lt_of_lt_of_le A16.lt sz_b126_c)
      have ne_b17_b_b126_c : b17_b ≠ b126_c := Nat.ne_of_lt (Nat.lt_of_lt_of_le E_b_17.lt sz_b126_c)
      have ne_b17_c_b126_c : b17_c ≠ b126_c := Nat.ne_of_lt (Nat.lt_of_lt_of_le E_c_17.lt sz_b126_c)
      have ne_b_107_b126_c : b_107 ≠ b126_c := Nat.ne_of_lt (Nat.lt_of_lt_of_le E_b_107.lt sz_b126_c)
      have ne_b_109_b126_c : b_109 ≠ b126_c := Nat.ne_of_lt (Nat.lt_of_lt_of_le E_b_109.lt sz_b126_c)
      have ne_b_111_b126_c : b_111 ≠ b126_c := Nat.ne_of_lt (Nat.lt_of_lt_of_le E_b_111.lt sz_b126_c)
      have ne_b_113_b126_c : b_113 ≠ b126_c := Nat.ne_of_lt (Nat.lt_of_lt_of_le E_b_113.lt sz_b126_c)
      have ne_b124_b_b126_c : b124_b ≠ b126_c := Nat.ne_of_lt (Nat.lt_of_lt_of_le E_b_124.lt sz_b126_c)
      have ne_b_125_b126_c : b_125 ≠ b126_c := Nat.ne_of_lt (Nat.lt_of_lt_of_le E_b_125.lt sz_b126_c)
      have g_b126_c : n0 ≤ b126_c := Nat.le_trans (Nat.le_trans Z0 KC.1) sz_b126_c
      replace sz_b126_c : h0.size ≤ b126_c := Nat.le_trans KC.1 sz_b126_c
      have nec_b_125_b124_b : b_125 ≠ b124_b := Exa.ne E_b_125 E_b_124 (by decide)
      replace Vm15 := Vm15.keep K126 (ninS ne_b5_b124_b nin0)
      replace A16 := A16.keep K126
      replace E_b_17 := E_b_17.keep K126
      replace E_c_17 := E_c_17.keep K126
      replace E_b_107 := E_b_107.keep K126
      replace F_value_b_107 := F_value_b_107.keep K126 (ninS ne_b_107_b124_b nin0)
      replace E_b_109 := E_b_109.keep K126
      replace F_value_b_109 := F_value_b_109.keep K126 (ninS ne_b_109_b124_b nin0)
      replace E_b_111 := E_b_111.keep K126
      replace F_value_b_111 := F_value_b_111.keep K126 (ninS ne_b_111_b124_b nin0)
      replace E_b_113 := E_b_113.keep K126
      replace F_value_b_113 := F_value_b_113.keep K126 (ninS ne_b_113_b124_b nin0)
      replace F_store_a1_114 := F_store_a1_114.keep K126 (ninS ne_b16_b124_b nin0)
      replace F_size_a1_114 := F_size_a1_114.keep K126 (ninS ne_b16_b124_b nin0)
      replace F_filled_sto_114 := F_filled_sto_114.keep K126 (ninS ne_b17_b_b124_b nin0)
      replace F_items_sto_114 := F_items_sto_114.keep K126 (ninS ne_b17_b_b124_b nin0)
      replace V_arr_114 := V_arr_114.keep K126 (ninS ne_b17_c_b124_b nin0)
      replace E_b_124 := E_b_124.keep K126
      replace E_b_125 := E_b_125.keep K126
      replace F_value_b_125 := F_value_b_125.keep K126 (ninS nec_b_125_b124_b nin0)
      replace O0 := O0.keep K126 (allS g_b124_b all0)
      replace KC := KC.trans K126 (allS (Or.inr sz_b124_b) all0)
      obtain ⟨cq127, kq127, q127a, q127b, q127c⟩ := isOf hZ rfl A16
      obtain ⟨_, _, ⟨T127, L127, kz127, nz127⟩, -, X127, ⟨Lc127, hQ127, l127, y127, z127⟩, st127⟩ := X126.virtualBack hx (y := y_15) (z := y_15) hown (mvT hZ (ww hw 49 rfl)) (mvT hZ (ww hw 50 rfl)) (notFace_of_selects (args := #[]) (mvT hZ (ww hw 52 rfl))) (mvT hZ (ww hw 52 rfl)) (mvT hZ (ww hw 51 rfl)) (by decide) (backOf (W := 0) (rmIt l Z a0 hw [] b16 b17_b (4 : Int32) b17_c T126.heap n0 (Nat.le_trans Z0 KC.1) O0 F_store_a1_114 F_size_a1_114 F_items_sto_114) hZ (ww hw 53 rfl) (ww hw 3 rfl) (by decide) (by decide)) q127a q127c (g := (mkF m 176 #[vi p1, vi p2, vi p3, vi p4, vi p5, vi p6, vi (4 : Int32), vi c1, vi c2, vr b5, vr b16, vr b124_b] [(.ref b16)])) rfl (by rw [hml]; rfl) (Steps.refl _) (argsL := []) (rest := []) (lenOf pd_13 rfl) rfl (by show 2 * 0 + _ ≤ _; exact Nat.le_of_eq rfl) (hb hby at_176) (fun _ _ => ⟨rfl, rfl, (by decide : 12 + 1 ≤ _), (by decide : 32 + 3 ≤ _)⟩)
      dsimp only [Pt.U, Pt.locs, Pt.cells, Pt.slots] at X127 l127 y127 z127 st127 hQ127
      subst l127 y127 z127
      obtain ⟨b127_b, rfl, N127q, K127, sz_b127_b, E_b_127, F_val_length_b_127, F_val_items_b_127, F_next_b_127⟩ := hQ127
      have N127 := Fr.app N126 N127q
      have ne_b5_b127_b : b5 ≠ b127_b := Nat.ne_of_lt (Nat.lt_of_lt_of_le Vm15.lt sz_b127_b)
      have ne_b16_b127_b : b16 ≠ b127_b := Nat.ne_of_lt (Nat.lt_of_lt_of_le A16.lt sz_b127_b)
      have ne_b17_b_b127_b : b17_b ≠ b127_b := Nat.ne_of_lt (Nat.lt_of_lt_of_le E_b_17.lt sz_b127_b)
      have ne_b17_c_b127_b : b17_c ≠ b127_b := Nat.ne_of_lt (Nat.lt_of_lt_of_le E_c_17.lt sz_b127_b)
      have ne_b_107_b127_b : b_107 ≠ b127_b := Nat.ne_of_lt (Nat.lt_of_lt_of_le E_b_107.lt sz_b127_b)
      have ne_b_109_b127_b : b_109 ≠ b127_b := Nat.ne_of_lt (Nat.lt_of_lt_of_le E_b_109.lt sz_b127_b)
      have ne_b_111_b127_b : b_111 ≠ b127_b := Nat.ne_of_lt (Nat.lt_of_lt_of_le E_b_111.lt sz_b127_b)
      have ne_b_113_b127_b : b_113 ≠ b127_b := Nat.ne_of_lt (Nat.lt_of_lt_of_le E_b_113.lt sz_b127_b)
      have ne_b124_b_b127_b : b124_b ≠ b127_b := Nat.ne_of_lt (Nat.lt_of_lt_of_le E_b_124.lt sz_b127_b)
      have ne_b_125_b127_b : b_125 ≠ b127_b := Nat.ne_of_lt (Nat.lt_of_lt_of_le E_b_125.lt sz_b127_b)
      have ne_b126_b_b127_b : b126_b ≠ b127_b := Nat.ne_of_lt (Nat.lt_of_lt_of_le E_b_126.lt sz_b127_b)
      have ne_b126_c_b127_b : b126_c ≠ b127_b := Nat.ne_of_lt (Nat.lt_of_lt_of_le E_c_126.lt sz_b127_b)
      have g_b127_b : n0 ≤ b127_b := Nat.le_trans (Nat.le_trans Z0 KC.1) sz_b127_b
      replace sz_b127_b : h0.size ≤ b127_b := Nat.le_trans KC.1 sz_b127_b
      replace Vm15 := Vm15.keep K127 nin0
      replace A16 := A16.keep K127
      replace E_b_17 := E_b_17.keep K127
      replace E_c_17 := E_c_17.keep K127
      replace E_b_107 := E_b_107.keep K127
      replace F_value_b_107 := F_value_b_107.keep K127 nin0
      replace E_b_109 := E_b_109.keep K127
      replace F_value_b_109 := F_value_b_109.keep K127 nin0
      replace E_b_111 := E_b_111.keep K127
      replace F_value_b_111 := F_value_b_111.keep K127 nin0
      replace E_b_113 := E_b_113.keep K127
      replace F_value_b_113 := F_value_b_113.keep K127 nin0
      replace F_store_a1_114 := F_store_a1_114.keep K127 nin0
      replace F_size_a1_114 := F_size_a1_114.keep K127 nin0
      replace F_filled_sto_114 := F_filled_sto_114.keep K127 nin0
      replace F_items_sto_114 := F_items_sto_114.keep K127 nin0
      replace V_arr_114 := V_arr_114.keep K127 nin0
      replace E_b_124 := E_b_124.keep K127
      replace E_b_125 := E_b_125.keep K127
      replace F_value_b_125 := F_value_b_125.keep K127 nin0
      replace F_store_a1_126 := F_store_a1_126.keep K127 nin0
      replace F_size_a1_126 := F_size_a1_126.keep K127 nin0
      replace E_b_126 := E_b_126.keep K127
      replace F_filled_b_126 := F_filled_b_126.keep K127 nin0
      replace F_items_b_126 := F_items_b_126.keep K127 nin0
      replace E_c_126 := E_c_126.keep K127
      replace V_c_126 := V_c_126.keep K127 nin0
      replace O0 := O0.keep K127 all0
      replace KC := KC.trans K127 all0
      have pre128 : ∀ t, Steps p.tables e below (T127.setTop (mkF m 183 #[vi p1, vi p2, vi p3, vi p4, vi p5, vi p6, vi (4 : Int32), vi c1, vi c2, vr b5, vr b16, vr b127_b] [(.int c2)])) t → Steps p.tables e below (s₁.setTop (entryFrame m #[(.int p1), (.int p2), (.int p3), (.int p4), (.int p5), (.int p6)] maxLocals)) t := by
        intro t kt
        refine pre115 t ?_
        show SS p e below m T114 152 #[vi p1, vi p2, vi p3, vi p4, vi p5, vi p6, vi (4 : Int32), vi c1, vi c2, vr b5, vr b16, un] [(.int c1)] _
        refine XS.ifNo X114.here hx rfl (hb hby at_152) rfl ((if0 _ _).trans (feq hc152_116).1) ?_
        show SS p e below m T114 155 #[vi p1, vi p2, vi p3, vi p4, vi p5, vi p6, vi (4 : Int32), vi c1, vi c2, vr b5, vr b16, un] [] _
        refine XS.aload X114.here hx rfl (hb hby at_155) rfl rfl ?_
        show SS p e below m T114 157 #[vi p1, vi p2, vi p3, vi p4, vi p5, vi p6, vi (4 : Int32), vi c1, vi c2, vr b5, vr b16, un] [(.ref b16)] _
        refine st124.trans ?_
        show SS p e below m T124 160 #[vi p1, vi p2, vi p3, vi p4, vi p5, vi p6, vi (4 : Int32), vi c1, vi c2, vr b5, vr b16, un] [(.ref b124_b)] _
        refine XS.astore X124.here hx rfl (hb hby at_160) rfl rfl (l' := #[vi p1, vi p2, vi p3, vi p4, vi p5, vi p6, vi (4 : Int32), vi c1, vi c2, vr b5, vr b16, vr b124_b]) rfl ?_
        show SS p e below m T124 162 #[vi p1, vi p2, vi p3, vi p4, vi p5, vi p6, vi (4 : Int32), vi c1, vi c2, vr b5, vr b16, vr b124_b] [] _
        refine XS.aload X124.here hx rfl (hb hby at_162) rfl rfl ?_
        show SS p e below m T124 164 #[vi p1, vi p2, vi p3, vi p4, vi p5, vi p6, vi (4 : Int32), vi c1, vi c2, vr b5, vr b16, vr b124_b] [(.ref b124_b)] _
        refine XS.iloadN X124.here hx rfl (hb hby at_164) rfl ?_
        show SS p e below m T124 165 #[vi p1, vi p2, vi p3, vi p4, vi p5, vi p6, vi (4 : Int32), vi c1, vi c2, vr b5, vr b16, vr b124_b] [(.int p1), (.ref b124_b)] _
        refine XS.iload X124.here hx rfl (hb hby at_165) rfl ?_
        show SS p e below m T124 167 #[vi p1, vi p2, vi p3, vi p4, vi p5, vi p6, vi (4 : Int32), vi c1, vi c2, vr b5, vr b16, vr b124_b] [(.int p5), (.int p1), (.ref b124_b)] _
        refine XS.ixor X124.here hx rfl (hb hby at_167) rfl ?_
        show SS p e below m T124 168 #[vi p1, vi p2, vi p3, vi p4, vi p5, vi p6, vi (4 : Int32), vi c1, vi c2, vr b5, vr b16, vr b124_b] [(.int (p1 ^^^ p5)), (.ref b124_b)] _
        refine st125 _ ?_
        show SS p e below m T125 171 #[vi p1, vi p2, vi p3, vi p4, vi p5, vi p6, vi (4 : Int32), vi c1, vi c2, vr b5, vr b16, vr b124_b] [(.ref b_125), (.ref b124_b)] _
        refine st126.trans ?_
        show SS p e below m T126 174 #[vi p1, vi p2, vi p3, vi p4, vi p5, vi p6, vi (4 : Int32), vi c1, vi c2, vr b5, vr b16, vr b124_b] [] _
        refine XS.aload X126.here hx rfl (hb hby at_174) rfl rfl ?_
        show SS p e below m T126 176 #[vi p1, vi p2, vi p3, vi p4, vi p5, vi p6, vi (4 : Int32), vi c1, vi c2, vr b5, vr b16, vr b124_b] [(.ref b16)] _
        refine st127.trans ?_
        show SS p e below m T127 179 #[vi p1, vi p2, vi p3, vi p4, vi p5, vi p6, vi (4 : Int32), vi c1, vi c2, vr b5, vr b16, vr b124_b] [(.ref b127_b)] _
        refine XS.astore X127.here hx rfl (hb hby at_179) rfl rfl (l' := #[vi p1, vi p2, vi p3, vi p4, vi p5, vi p6, vi (4 : Int32), vi c1, vi c2, vr b5, vr b16, vr b127_b]) rfl ?_
        show SS p e below m T127 181 #[vi p1, vi p2, vi p3, vi p4, vi p5, vi p6, vi (4 : Int32), vi c1, vi c2, vr b5, vr b16, vr b127_b] [] _
        refine XS.iload X127.here hx rfl (hb hby at_181) rfl ?_
        exact kt
      by_cases hc183_129 : c2 = (0 : Int32)
      · obtain ⟨T130, h130, L130, X130, e130, N130, K130, st130⟩ := tail4 hw X127 hx hZ hby hml hown p1 p2 p3 p4 p5 p6 c1 c2 b5 b16 b127_b b17_c k_17 (4 : Int32) [(.ref b_107), (.ref b_109), (.ref b_111), (.ref b_113)] k5 b_107 b_109 b_111 b_113 T127.heap n0 rfl (Nat.le_trans Z0 KC.1) O0 N127 F_next_b_127 F_val_length_b_127 F_val_items_b_127 E_b_127 E_c_17 V_arr_114 Vm15 g_b127_b ne_b5_b127_b E_b_107 F_value_b_107 rfl (by decide) E_b_109 F_value_b_109 rfl (by decide) E_b_111 F_value_b_111 rfl (by decide) E_b_113 F_value_b_113 rfl (by decide) (by decide) (by decide) (by decide) (by decide)
        replace Vm15 := Vm15.keep K130 (ninS ne_b5_b127_b nin0)
        replace A16 := A16.keep K130
        replace E_b_17 := E_b_17.keep K130
        replace E_c_17 := E_c_17.keep K130
        replace E_b_107 := E_b_107.keep K130
        replace F_value_b_107 := F_value_b_107.keep K130 (ninS ne_b_107_b127_b nin0)
        replace E_b_109 := E_b_109.keep K130
        replace F_value_b_109 := F_value_b_109.keep K130 (ninS ne_b_109_b127_b nin0)
        replace E_b_111 := E_b_111.keep K130
        replace F_value_b_111 := F_value_b_111.keep K130 (ninS ne_b_111_b127_b nin0)
        replace E_b_113 := E_b_113.keep K130
        replace F_value_b_113 := F_value_b_113.keep K130 (ninS ne_b_113_b127_b nin0)
        replace F_store_a1_114 := F_store_a1_114.keep K130 (ninS ne_b16_b127_b nin0)
        replace F_size_a1_114 := F_size_a1_114.keep K130 (ninS ne_b16_b127_b nin0)
        replace F_filled_sto_114 := F_filled_sto_114.keep K130 (ninS ne_b17_b_b127_b nin0)
        replace F_items_sto_114 := F_items_sto_114.keep K130 (ninS ne_b17_b_b127_b nin0)
        replace V_arr_114 := V_arr_114.keep K130 (ninS ne_b17_c_b127_b nin0)
        replace E_b_124 := E_b_124.keep K130
        replace E_b_125 := E_b_125.keep K130
        replace F_value_b_125 := F_value_b_125.keep K130 (ninS ne_b_125_b127_b nin0)
        replace F_store_a1_126 := F_store_a1_126.keep K130 (ninS ne_b124_b_b127_b nin0)
        replace F_size_a1_126 := F_size_a1_126.keep K130 (ninS ne_b124_b_b127_b nin0)
        replace E_b_126 := E_b_126.keep K130
        replace F_filled_b_126 := F_filled_b_126.keep K130 (ninS ne_b126_b_b127_b nin0)
        replace F_items_b_126 := F_items_b_126.keep K130 (ninS ne_b126_b_b127_b nin0)
        replace E_c_126 := E_c_126.keep K130
        replace V_c_126 := V_c_126.keep K130 (ninS ne_b126_c_b127_b nin0)
        replace E_b_127 := E_b_127.keep K130
        replace O0 := O0.keep K130 (allS g_b127_b all0)
        replace KC := KC.trans K130 (allS (Or.inr sz_b127_b) all0)
        obtain ⟨fs, hr, hrun, hended, hW, hsame⟩ := X130.leave (v := some (.int (1 : Int32))) (fun h => by rw [Bd.returns] at h; cases h)
        refine ⟨_, _, pre128 _ ?_, hrun, hended, _, _, rfl, ?_, ⟨_, rfl⟩, hW, hsame.mono (by decide) (by decide)⟩
        · show SS p e below m T127 183 #[vi p1, vi p2, vi p3, vi p4, vi p5, vi p6, vi (4 : Int32), vi c1, vi c2, vr b5, vr b16, vr b127_b] [(.int c2)] _
          refine XS.ifYes X127.here hx rfl (pc0 := 183) (pc' := 197) rfl (hb hby at_183) rfl ((if0 _ _).trans (teq hc183_129).1) (by decide) (by decide) ?_
          show SS p e below m T127 197 #[vi p1, vi p2, vi p3, vi p4, vi p5, vi p6, vi (4 : Int32), vi c1, vi c2, vr b5, vr b16, vr b127_b] [] _
          refine st130 _ ?_
          show SS p e below m T130 282 #[vi p1, vi p2, vi p3, vi p4, vi p5, vi p6, vi (4 : Int32), vi c1, vi c2, vr b5, vr b16, vr b127_b] [(.int (0 : Int32))] _
          refine XS.ifNo X130.here hx rfl (hb hby at_282) rfl ((if0 _ _).trans (teq (by decide)).2) ?_
          show SS p e below m T130 285 #[vi p1, vi p2, vi p3, vi p4, vi p5, vi p6, vi (4 : Int32), vi c1, vi c2, vr b5, vr b16, vr b127_b] [] _
          refine XS.iconst X130.here hx rfl (hb hby at_285) ?_
          show SS p e below m T130 286 #[vi p1, vi p2, vi p3, vi p4, vi p5, vi p6, vi (4 : Int32), vi c1, vi c2, vr b5, vr b16, vr b127_b] [(.int (1 : Int32))] _
          refine XS.goto X130.here hx rfl (pc0 := 286) (pc' := 290) rfl (hb hby at_286) (by decide) (by decide) ?_
          show SS p e below m T130 290 #[vi p1, vi p2, vi p3, vi p4, vi p5, vi p6, vi (4 : Int32), vi c1, vi c2, vr b5, vr b16, vr b127_b] [(.int (1 : Int32))] _
          exact retN X130 hx (t := .boolean) Bd.returns (by simp) (hb hby at_290) hr
        · show Q_rm0 Z p1 p2 p3 p4 p5 p6 cA cl mr h0 n0 _ T130.heap _
          rw [e130]
          exact ⟨rfl, N130, KC⟩
      · obtain ⟨_, _, ⟨T131, L131, kz131, nz131⟩, -, X131, ⟨Lc131, hQ131, l131, y131, z131⟩, st131⟩ := Jvm.LawKit.callS X127 hx (y := y_5) hown (mvT hZ (ww hw 30 rfl)) (mvT hZ (ww hw 31 rfl)) (mvT hZ (ww hw 32 rfl)) (mvT hZ (ww hw 33 rfl)) (by decide) (backOf (W := 1) (rmVo l Z a0 hw [] (p2 ^^^ p4) cA cl T127.heap n0 (Nat.le_trans Z0 KC.1) O0 S_high S_cache BX) hZ (ww hw 33 rfl) (ww hw 32 rfl) (by decide) (by decide)) (g := (mkF m 191 #[vi p1, vi p2, vi p3, vi p4, vi p5, vi p6, vi (4 : Int32), vi c1, vi c2, vr b5, vr b16, vr b127_b] [(.int (p2 ^^^ p4)), (.ref b16)])) rfl (by rw [hml]; rfl) (argsL := [(.int (p2 ^^^ p4))]) (rest := [(.ref b16)]) (lenOf pd_14 rfl) rfl (by show 2 * 0 + _ ≤ _; exact Nat.le_of_eq rfl) (hb hby at_191) (fun _ _ => ⟨rfl, rfl, (by decide : 13 + 1 ≤ _), (by decide : 35 + 1 ≤ _)⟩)
        dsimp only [Pt.U, Pt.locs, Pt.cells, Pt.slots] at X131 l131 y131 z131 st131 hQ131
        subst l131 y131 z131
        obtain ⟨b_131, rfl, N131q, K131, E_b_131, F_value_b_131⟩ := hQ131
        have N131 := Fr.app N127 N131q
        replace Vm15 := Vm15.keep K131 nin0
        replace A16 := A16.keep K131
        replace E_b_17 := E_b_17.keep K131
        replace E_c_17 := E_c_17.keep K131
        replace E_b_107 := E_b_107.keep K131
        replace F_value_b_107 := F_value_b_107.keep K131 nin0
        replace E_b_109 := E_b_109.keep K131
        replace F_value_b_109 := F_value_b_109.keep K131 nin0
        replace E_b_111 := E_b_111.keep K131
        replace F_value_b_111 := F_value_b_111.keep K131 nin0
        replace E_b_113 := E_b_113.keep K131
        replace F_value_b_113 := F_value_b_113.keep K131 nin0
        replace F_store_a1_114 := F_store_a1_114.keep K131 nin0
        replace F_size_a1_114 := F_size_a1_114.keep K131 nin0
        replace F_filled_sto_114 := F_filled_sto_114.keep K131 nin0
        replace F_items_sto_114 := F_items_sto_114.keep K131 nin0
        replace V_arr_114 := V_arr_114.keep K131 nin0
        replace E_b_124 := E_b_124.keep K131
        replace E_b_125 := E_b_125.keep K131
        replace F_value_b_125 := F_value_b_125.keep K131 nin0
        replace F_store_a1_126 := F_store_a1_126.keep K131 nin0
        replace F_size_a1_126 := F_size_a1_126.keep K131 nin0
        replace E_b_126 := E_b_126.keep K131
        replace F_filled_b_126 := F_filled_b_126.keep K131 nin0
        replace F_items_b_126 := F_items_b_126.keep K131 nin0
        replace E_c_126 := E_c_126.keep K131
        replace V_c_126 := V_c_126.keep K131 nin0
        replace E_b_127 := E_b_127.keep K131
        replace F_val_length_b_127 := F_val_length_b_127.keep K131 nin0
        replace F_val_items_b_127 := F_val_items_b_127.keep K131 nin0
        replace F_next_b_127 := F_next_b_127.keep K131 nin0
        replace O0 := O0.keep K131 all0
        replace KC := KC.trans K131 all0
        obtain ⟨cq132, kq132, q132a, q132b, q132c⟩ := isOf hZ rfl A16
        obtain ⟨_, _, ⟨T132, L132, kz132, nz132⟩, -, X132, ⟨Lc132, hQ132, l132, y132, z132⟩, st132⟩ := X131.virtualBack hx (y := y_12) (z := y_12) hown (mvT hZ (ww hw 37 rfl)) (mvT hZ (ww hw 38 rfl)) (notFace_of_selects (args := #[]) (mvT hZ (ww hw 40 rfl))) (mvT hZ (ww hw 40 rfl)) (mvT hZ (ww hw 39 rfl)) (by decide) (backOf (W := 0) (rmAddB l Z a0 hw [] b16 b_131 b17_b (4 : Int32) (4 : Int32) b17_c k_17 (4 : Int32) [(.ref b_107), (.ref b_109), (.ref b_111), (.ref b_113)] mr (8 : Int32) (4 : Int32) [(.ref b_107), (.ref b_109), (.ref b_111), (.ref b_113), .null, .null, .null, .null, .null, .null] (5 : Int32) [(.ref b_107), (.ref b_109), (.ref b_111), (.ref b_113), (.ref b_131), .null, .null, .null, .null, .null] T131.heap n0 (Nat.le_trans Z0 KC.1) O0 F_store_a1_114 F_size_a1_114 A16 E_b_17 F_filled_sto_114 F_items_sto_114 E_c_17 V_arr_114 E_b_131 g_b16 MIR (Or.inr rfl) (by decide) (by decide) (by decide) (by decide) (by decide) (by decide) (by decide) rfl (own_els_cons (Or.inr ⟨_, rfl, E_b_107⟩) (own_els_cons (Or.inr ⟨_, rfl, E_b_109⟩) (own_els_cons (Or.inr ⟨_, rfl, E_b_111⟩) (own_els_cons (Or.inr ⟨_, rfl, E_b_113⟩) own_els_nil)))) (by decide) (by decide) (by decide) rfl (Nat.le_of_ble_eq_true rfl)) hZ (ww hw 41 rfl) (ww hw 3 rfl) (by decide) (by decide)) q132a q132c (g := (mkF m 194 #[vi p1, vi p2, vi p3, vi p4, vi p5, vi p6, vi (4 : Int32), vi c1, vi c2, vr b5, vr b16, vr b127_b] [(.ref b_131), (.ref b16)])) rfl (by rw [hml]; rfl) (Steps.refl _) (argsL := [(.ref b_131)]) (rest := []) (lenOf pd_15 rfl) rfl (by show 2 * 0 + _ ≤ _; exact Nat.le_of_eq rfl) (hb hby at_194) (fun _ _ => ⟨rfl, rfl, (by decide : 14 + 2 ≤ _), (by decide : 36 + 12 ≤ _)⟩)
        dsimp only [Pt.U, Pt.locs, Pt.cells, Pt.slots] at X132 l132 y132 z132 st132 hQ132
        subst l132 y132 z132
        obtain ⟨b132_b, b132_c, k2_132, rfl, N132q, K132, sz_b132_b, sz_b132_c, F_store_a1_132, F_size_a1_132, E_b_132, F_filled_b_132, F_items_b_132, E_c_132, V_c_132, hq132_0⟩ := hQ132
        have N132 := Fr.app N131 N132q
        have ne_b5_b132_b : b5 ≠ b132_b := Nat.ne_of_lt (Nat.lt_of_lt_of_le Vm15.lt sz_b132_b)
        have ne_b16_b132_b : b16 ≠ b132_b := Nat.ne_of_lt (Nat.lt_of_lt_of_le A16.lt sz_b132_b)
        have ne_b17_b_b132_b : b17_b ≠ b132_b := Nat.ne_of_lt (Nat.lt_of_lt_of_le E_b_17.lt sz_b132_b)
        have ne_b17_c_b132_b : b17_c ≠ b132_b := Nat.ne_of_lt (Nat.lt_of_lt_of_le E_c_17.lt sz_b132_b)
        have ne_b_107_b132_b : b_107 ≠ b132_b := Nat.ne_of_lt (Nat.lt_of_lt_of_le E_b_107.lt sz_b132_b)
        have ne_b_109_b132_b : b_109 ≠ b132_b := Nat.ne_of_lt (Nat.lt_of_lt_of_le E_b_109.lt sz_b132_b)
        have ne_b_111_b132_b : b_111 ≠ b132_b := Nat.ne_of_lt (Nat.lt_of_lt_of_le E_b_111.lt sz_b132_b)
        have ne_b_113_b132_b : b_113 ≠ b132_b := Nat.ne_of_lt (Nat.lt_of_lt_of_le E_b_113.lt sz_b132_b)
        have ne_b124_b_b132_b : b124_b ≠ b132_b := Nat.ne_of_lt (Nat.lt_of_lt_of_le E_b_124.lt sz_b132_b)
        have ne_b_125_b132_b : b_125 ≠ b132_b := Nat.ne_of_lt (Nat.lt_of_lt_of_le E_b_125.lt sz_b132_b)
        have ne_b126_b_b132_b : b126_b ≠ b132_b := Nat.ne_of_lt (Nat.lt_of_lt_of_le E_b_126.lt sz_b132_b)
        have ne_b126_c_b132_b : b126_c ≠ b132_b := Nat.ne_of_lt (Nat.lt_of_lt_of_le E_c_126.lt sz_b132_b)
        have ne_b127_b_b132_b : b127_b ≠ b132_b := Nat.ne_of_lt (Nat.lt_of_lt_of_le E_b_127.lt sz_b132_b)
        have ne_b_131_b132_b : b_131 ≠ b132_b := Nat.ne_of_lt (Nat.lt_of_lt_of_le E_b_131.lt sz_b132_b)
        have g_b132_b : n0 ≤ b132_b := Nat.le_trans (Nat.le_trans Z0 KC.1) sz_b132_b
        replace sz_b132_b : h0.size ≤ b132_b := Nat.le_trans KC.1 sz_b132_b
        have ne_b5_b132_c : b5 ≠ b132_c := Nat.ne_of_lt (Nat.lt_of_lt_of_le Vm15.lt sz_b132_c)
        have ne_b16_b132_c : b16 ≠ b132_c := Nat.ne_of_lt (Nat.lt_of_lt_of_le A16.lt sz_b132_c)
        have ne_b17_b_b132_c : b17_b ≠ b132_c := Nat.ne_of_lt (Nat.lt_of_lt_of_le E_b_17.lt sz_b132_c)
        have ne_b17_c_b132_c : b17_c ≠ b132_c := Nat.ne_of_lt (Nat.lt_of_lt_of_le E_c_17.lt sz_b132_c)
        have ne_b_107_b132_c : b_107 ≠ b132_c := Nat.ne_of_lt (Nat.lt_of_lt_of_le E_b_107.lt sz_b132_c)
        have ne_b_109_b132_c : b_109 ≠ b132_c := Nat.ne_of_lt (Nat.lt_of_lt_of_le E_b_109.lt sz_b132_c)
        have ne_b_111_b132_c : b_111 ≠ b132_c := Nat.ne_of_lt (Nat.lt_of_lt_of_le E_b_111.lt sz_b132_c)
        have ne_b_113_b132_c : b_113 ≠ b132_c := Nat.ne_of_lt (Nat.lt_of_lt_of_le E_b_113.lt sz_b132_c)
        have ne_b124_b_b132_c : b124_b ≠ b132_c := Nat.ne_of_lt (Nat.lt_of_lt_of_le E_b_124.lt sz_b132_c)
        have ne_b_125_b132_c : b_125 ≠ b132_c := Nat.ne_of_lt (Nat.lt_of_lt_of_le E_b_125.lt sz_b132_c)
        have ne_b126_b_b132_c : b126_b ≠ b132_c := Nat.ne_of_lt (Nat.lt_of_lt_of_le E_b_126.lt sz_b132_c)
        have ne_b126_c_b132_c : b126_c ≠ b132_c := Nat.ne_of_lt (Nat.lt_of_lt_of_le E_c_126.lt sz_b132_c)
        have ne_b127_b_b132_c : b127_b ≠ b132_c := Nat.ne_of_lt (Nat.lt_of_lt_of_le E_b_127.lt sz_b132_c)
        have ne_b_131_b132_c : b_131 ≠ b132_c := Nat.ne_of_lt (Nat.lt_of_lt_of_le E_b_131.lt sz_b132_c)
        have g_b132_c : n0 ≤ b132_c := Nat.le_trans (Nat.le_trans Z0 KC.1) sz_b132_c
        replace sz_b132_c : h0.size ≤ b132_c := Nat.le_trans KC.1 sz_b132_c
        have nec_b_125_b16 : b_125 ≠ b16 := Exa.ne E_b_125 A16 (by decide)
        have nec_b_131_b16 : b_131 ≠ b16 := Exa.ne E_b_131 A16 (by decide)
        replace Vm15 := Vm15.keep K132 (ninS ne_b5_b16 nin0)
        replace A16 := A16.keep K132
        replace E_b_17 := E_b_17.keep K132
        replace E_c_17 := E_c_17.keep K132
        replace E_b_107 := E_b_107.keep K132
        replace F_value_b_107 := F_value_b_107.keep K132 (ninS nec_b_107_b16 nin0)
        replace E_b_109 := E_b_109.keep K132
        replace F_value_b_109 := F_value_b_109.keep K132 (ninS nec_b_109_b16 nin0)
        replace E_b_111 := E_b_111.keep K132
        replace F_value_b_111 := F_value_b_111.keep K132 (ninS nec_b_111_b16 nin0)
        replace E_b_113 := E_b_113.keep K132
        replace F_value_b_113 := F_value_b_113.keep K132 (ninS nec_b_113_b16 nin0)
        replace F_filled_sto_114 := F_filled_sto_114.keep K132 (ninS (Ne.symm ne_b16_b17_b) nin0)
        replace F_items_sto_114 := F_items_sto_114.keep K132 (ninS (Ne.symm ne_b16_b17_b) nin0)
        replace V_arr_114 := V_arr_114.keep K132 (ninS (Ne.symm ne_b16_b17_c) nin0)
        replace E_b_124 := E_b_124.keep K132
        replace E_b_125 := E_b_125.keep K132
        replace F_value_b_125 := F_value_b_125.keep K132 (ninS nec_b_125_b16 nin0)
        replace F_store_a1_126 := F_store_a1_126.keep K132 (ninS (Ne.symm ne_b16_b124_b) nin0)
        replace F_size_a1_126 := F_size_a1_126.keep K132 (ninS (Ne.symm ne_b16_b124_b) nin0)
        replace E_b_126 := E_b_126.keep K132
        replace F_filled_b_126 := F_filled_b_126.keep K132 (ninS (Ne.symm ne_b16_b126_b) nin0)
        replace F_items_b_126 := F_items_b_126.keep K132 (ninS (Ne.symm ne_b16_b126_b) nin0)
        replace E_c_126 := E_c_126.keep K132
        replace V_c_126 := V_c_126.keep K132 (ninS (Ne.symm ne_b16_b126_c) nin0)
        replace E_b_127 := E_b_127.keep K132
        replace F_val_length_b_127 := F_val_length_b_127.keep K132 (ninS (Ne.symm ne_b16_b127_b) nin0)
        replace F_val_items_b_127 := F_val_items_b_127.keep K132 (ninS (Ne.symm ne_b16_b127_b) nin0)
        replace F_next_b_127 := F_next_b_127.keep K132 (ninS (Ne.symm ne_b16_b127_b) nin0)
        replace E_b_131 := E_b_131.keep K132
        replace F_value_b_131 := F_value_b_131.keep K132 (ninS nec_b_131_b16 nin0)
        replace O0 := O0.keep K132 (allS g_b16 all0)
        replace KC := KC.trans K132 (allS (Or.inr sz_b16) all0)
        obtain ⟨T133, h133, L133, X133, e133, N133, K133, st133⟩ := tail4 hw X132 hx hZ hby hml hown p1 p2 p3 p4 p5 p6 c1 c2 b5 b16 b127_b b17_c k_17 (4 : Int32) [(.ref b_107), (.ref b_109), (.ref b_111), (.ref b_113)] k5 b_107 b_109 b_111 b_113 T132.heap n0 rfl (Nat.le_trans Z0 KC.1) O0 N132 F_next_b_127 F_val_length_b_127 F_val_items_b_127 E_b_127 E_c_17 V_arr_114 Vm15 g_b127_b ne_b5_b127_b E_b_107 F_value_b_107 rfl (by decide) E_b_109 F_value_b_109 rfl (by decide) E_b_111 F_value_b_111 rfl (by decide) E_b_113 F_value_b_113 rfl (by decide) (by decide) (by decide) (by decide) (by decide)
        have nec_b_131_b127_b : b_131 ≠ b127_b := Exa.ne E_b_131 E_b_127 (by decide)
        replace Vm15 := Vm15.keep K133 (ninS ne_b5_b127_b nin0)
        replace A16 := A16.keep K133
        replace E_b_17 := E_b_17.keep K133
        replace E_c_17 := E_c_17.keep K133
        replace E_b_107 := E_b_107.keep K133
        replace F_value_b_107 := F_value_b_107.keep K133 (ninS ne_b_107_b127_b nin0)
        replace E_b_109 := E_b_109.keep K133
        replace F_value_b_109 := F_value_b_109.keep K133 (ninS ne_b_109_b127_b nin0)
        replace E_b_111 := E_b_111.keep K133
        replace F_value_b_111 := F_value_b_111.keep K133 (ninS ne_b_111_b127_b nin0)
        replace E_b_113 := E_b_113.keep K133
        replace F_value_b_113 := F_value_b_113.keep K133 (ninS ne_b_113_b127_b nin0)
        replace F_filled_sto_114 := F_filled_sto_114.keep K133 (ninS ne_b17_b_b127_b nin0)
        replace F_items_sto_114 := F_items_sto_114.keep K133 (ninS ne_b17_b_b127_b nin0)
        replace V_arr_114 := V_arr_114.keep K133 (ninS ne_b17_c_b127_b nin0)
        replace E_b_124 := E_b_124.keep K133
        replace E_b_125 := E_b_125.keep K133
        replace F_value_b_125 := F_value_b_125.keep K133 (ninS ne_b_125_b127_b nin0)
        replace F_store_a1_126 := F_store_a1_126.keep K133 (ninS ne_b124_b_b127_b nin0)
        replace F_size_a1_126 := F_size_a1_126.keep K133 (ninS ne_b124_b_b127_b nin0)
        replace E_b_126 := E_b_126.keep K133
        replace F_filled_b_126 := F_filled_b_126.keep K133 (ninS ne_b126_b_b127_b nin0)
        replace F_items_b_126 := F_items_b_126.keep K133 (ninS ne_b126_b_b127_b nin0)
        replace E_c_126 := E_c_126.keep K133
        replace V_c_126 := V_c_126.keep K133 (ninS ne_b126_c_b127_b nin0)
        replace E_b_127 := E_b_127.keep K133
        replace E_b_131 := E_b_131.keep K133
        replace F_value_b_131 := F_value_b_131.keep K133 (ninS nec_b_131_b127_b nin0)
        replace F_store_a1_132 := F_store_a1_132.keep K133 (ninS ne_b16_b127_b nin0)
        replace F_size_a1_132 := F_size_a1_132.keep K133 (ninS ne_b16_b127_b nin0)
        replace E_b_132 := E_b_132.keep K133
        replace F_filled_b_132 := F_filled_b_132.keep K133 (ninS (Ne.symm ne_b127_b_b132_b) nin0)
        replace F_items_b_132 := F_items_b_132.keep K133 (ninS (Ne.symm ne_b127_b_b132_b) nin0)
        replace E_c_132 := E_c_132.keep K133
        replace V_c_132 := V_c_132.keep K133 (ninS (Ne.symm ne_b127_b_b132_c) nin0)
        replace O0 := O0.keep K133 (allS g_b127_b all0)
        replace KC := KC.trans K133 (allS (Or.inr sz_b127_b) all0)
        obtain ⟨fs, hr, hrun, hended, hW, hsame⟩ := X133.leave (v := some (.int (1 : Int32))) (fun h => by rw [Bd.returns] at h; cases h)
        refine ⟨_, _, pre128 _ ?_, hrun, hended, _, _, rfl, ?_, ⟨_, rfl⟩, hW, hsame.mono (by decide) (by decide)⟩
        · show SS p e below m T127 183 #[vi p1, vi p2, vi p3, vi p4, vi p5, vi p6, vi (4 : Int32), vi c1, vi c2, vr b5, vr b16, vr b127_b] [(.int c2)] _
          refine XS.ifNo X127.here hx rfl (hb hby at_183) rfl ((if0 _ _).trans (feq hc183_129).1) ?_
          show SS p e below m T127 186 #[vi p1, vi p2, vi p3, vi p4, vi p5, vi p6, vi (4 : Int32), vi c1, vi c2, vr b5, vr b16, vr b127_b] [] _
          refine XS.aload X127.here hx rfl (hb hby at_186) rfl rfl ?_
          show SS p e below m T127 188 #[vi p1, vi p2, vi p3, vi p4, vi p5, vi p6, vi (4 : Int32), vi c1, vi c2, vr b5, vr b16, vr b127_b] [(.ref b16)] _
          refine XS.iloadN X127.here hx rfl (hb hby at_188) rfl ?_
          show SS p e below m T127 189 #[vi p1, vi p2, vi p3, vi p4, vi p5, vi p6, vi (4 : Int32), vi c1, vi c2, vr b5, vr b16, vr b127_b] [(.int p2), (.ref b16)] _
          refine XS.iloadN X127.here hx rfl (hb hby at_189) rfl ?_
          show SS p e below m T127 190 #[vi p1, vi p2, vi p3, vi p4, vi p5, vi p6, vi (4 : Int32), vi c1, vi c2, vr b5, vr b16, vr b127_b] [(.int p4), (.int p2), (.ref b16)] _
          refine XS.ixor X127.here hx rfl (hb hby at_190) rfl ?_
          show SS p e below m T127 191 #[vi p1, vi p2, vi p3, vi p4, vi p5, vi p6, vi (4 : Int32), vi c1, vi c2, vr b5, vr b16, vr b127_b] [(.int (p2 ^^^ p4)), (.ref b16)] _
          refine st131 _ ?_
          show SS p e below m T131 194 #[vi p1, vi p2, vi p3, vi p4, vi p5, vi p6, vi (4 : Int32), vi c1, vi c2, vr b5, vr b16, vr b127_b] [(.ref b_131), (.ref b16)] _
          refine st132.trans ?_
          show SS p e below m T132 197 #[vi p1, vi p2, vi p3, vi p4, vi p5, vi p6, vi (4 : Int32), vi c1, vi c2, vr b5, vr b16, vr b127_b] [] _
          refine st133 _ ?_
          show SS p e below m T133 282 #[vi p1, vi p2, vi p3, vi p4, vi p5, vi p6, vi (4 : Int32), vi c1, vi c2, vr b5, vr b16, vr b127_b] [(.int (0 : Int32))] _
          refine XS.ifNo X133.here hx rfl (hb hby at_282) rfl ((if0 _ _).trans (teq (by decide)).2) ?_
          show SS p e below m T133 285 #[vi p1, vi p2, vi p3, vi p4, vi p5, vi p6, vi (4 : Int32), vi c1, vi c2, vr b5, vr b16, vr b127_b] [] _
          refine XS.iconst X133.here hx rfl (hb hby at_285) ?_
          show SS p e below m T133 286 #[vi p1, vi p2, vi p3, vi p4, vi p5, vi p6, vi (4 : Int32), vi c1, vi c2, vr b5, vr b16, vr b127_b] [(.int (1 : Int32))] _
          refine XS.goto X133.here hx rfl (pc0 := 286) (pc' := 290) rfl (hb hby at_286) (by decide) (by decide) ?_
          show SS p e below m T133 290 #[vi p1, vi p2, vi p3, vi p4, vi p5, vi p6, vi (4 : Int32), vi c1, vi c2, vr b5, vr b16, vr b127_b] [(.int (1 : Int32))] _
          exact retN X133 hx (t := .boolean) Bd.returns (by simp) (hb hby at_290) hr
        · show Q_rm0 Z p1 p2 p3 p4 p5 p6 cA cl mr h0 n0 _ T133.heap _
          rw [e133]
          exact ⟨rfl, N133, KC⟩
  · rw [hk] at pre18
    obtain ⟨_, _, ⟨T134, L134, kz134, nz134⟩, -, X134, ⟨Lc134, hQ134, l134, y134, z134⟩, st134⟩ := Jvm.LawKit.callS X17 hx (y := y_5) hown (mvT hZ (ww hw 30 rfl)) (mvT hZ (ww hw 31 rfl)) (mvT hZ (ww hw 32 rfl)) (mvT hZ (ww hw 33 rfl)) (by decide) (backOf (W := 1) (rmVo l Z a0 hw [] p1 cA cl T17.heap n0 (Nat.le_trans Z0 KC.1) O0 S_high S_cache BX) hZ (ww hw 33 rfl) (ww hw 32 rfl) (by decide) (by decide)) (g := (mkF m 83 #[vi p1, vi p2, vi p3, vi p4, vi p5, vi p6, vi (5 : Int32), vi c1, vi c2, vr b5, vr b16, un] [(.int p1), (.ref b16)])) rfl (by rw [hml]; rfl) (argsL := [(.int p1)]) (rest := [(.ref b16)]) (lenOf pd_14 rfl) rfl (by show 2 * 0 + _ ≤ _; exact Nat.le_of_eq rfl) (hb hby at_83) (fun _ _ => ⟨rfl, rfl, (by decide : 4 + 1 ≤ _), (by decide : 13 + 1 ≤ _)⟩)
    dsimp only [Pt.U, Pt.locs, Pt.cells, Pt.slots] at X134 l134 y134 z134 st134 hQ134
    subst l134 y134 z134
    obtain ⟨b_134, rfl, N134q, K134, E_b_134, F_value_b_134⟩ := hQ134
    have N134 := Fr.app N17 N134q
    replace Vm15 := Vm15.keep K134 nin0
    replace A16 := A16.keep K134
    replace F_store_a1_17 := F_store_a1_17.keep K134 nin0
    replace F_size_a1_17 := F_size_a1_17.keep K134 nin0
    replace E_b_17 := E_b_17.keep K134
    replace F_items_b_17 := F_items_b_17.keep K134 nin0
    replace F_filled_b_17 := F_filled_b_17.keep K134 nin0
    replace E_c_17 := E_c_17.keep K134
    replace V_c_17 := V_c_17.keep K134 nin0
    replace O0 := O0.keep K134 all0
    replace KC := KC.trans K134 all0
    obtain ⟨cq135, kq135, q135a, q135b, q135c⟩ := isOf hZ rfl A16
    obtain ⟨_, _, ⟨T135, L135, kz135, nz135⟩, -, X135, ⟨Lc135, hQ135, l135, y135, z135⟩, st135⟩ := X134.virtualBack hx (y := y_12) (z := y_12) hown (mvT hZ (ww hw 37 rfl)) (mvT hZ (ww hw 38 rfl)) (notFace_of_selects (args := #[]) (mvT hZ (ww hw 40 rfl))) (mvT hZ (ww hw 40 rfl)) (mvT hZ (ww hw 39 rfl)) (by decide) (backOf (W := 0) (rmAddA l Z a0 hw [] b16 b_134 b17_b (0 : Int32) (0 : Int32) b17_c k_17 (4 : Int32) [.null, .null, .null, .null] (1 : Int32) [(.ref b_134), .null, .null, .null] T134.heap n0 (Nat.le_trans Z0 KC.1) O0 F_store_a1_17 F_size_a1_17 A16 E_b_17 F_filled_b_17 F_items_b_17 E_c_17 V_c_17 E_b_134 g_b16 g_b17_b g_b17_c hq17_0 (by decide) (by decide) (by decide) (by decide) (by decide) rfl (Nat.le_of_ble_eq_true rfl)) hZ (ww hw 41 rfl) (ww hw 3 rfl) (by decide) (by decide)) q135a q135c (g := (mkF m 86 #[vi p1, vi p2, vi p3, vi p4, vi p5, vi p6, vi (5 : Int32), vi c1, vi c2, vr b5, vr b16, un] [(.ref b_134), (.ref b16)])) rfl (by rw [hml]; rfl) (Steps.refl _) (argsL := [(.ref b_134)]) (rest := []) (lenOf pd_15 rfl) rfl (by show 2 * 0 + _ ≤ _; exact Nat.le_of_eq rfl) (hb hby at_86) (fun _ _ => ⟨rfl, rfl, (by decide : 5 + 0 ≤ _), (by decide : 14 + 0 ≤ _)⟩)
    dsimp only [Pt.U, Pt.locs, Pt.cells, Pt.slots] at X135 l135 y135 z135 st135 hQ135
    subst l135 y135 z135
    obtain ⟨rfl, N135q, K135, F_store_a1_135, F_size_a1_135, F_filled_sto_135, F_items_sto_135, V_arr_135⟩ := hQ135
    have N135 := Fr.app N134 N135q
    have nec_b_134_b17_c : b_134 ≠ b17_c := Exa.ne E_b_134 E_c_17 (by decide)
    have nec_b_134_b17_b : b_134 ≠ b17_b := Exa.ne E_b_134 E_b_17 (by decide)
    have nec_b_134_b16 : b_134 ≠ b16 := Exa.ne E_b_134 A16 (by decide)
    replace Vm15 := Vm15.keep K135 (ninS ne_b5_b16 (ninS ne_b5_b17_b (ninS ne_b5_b17_c nin0)))
    replace A16 := A16.keep K135
    replace E_b_17 := E_b_17.keep K135
    replace E_c_17 := E_c_17.keep K135
    replace E_b_134 := E_b_134.keep K135
    replace F_value_b_134 := F_value_b_134.keep K135 (ninS nec_b_134_b16 (ninS nec_b_134_b17_b (ninS nec_b_134_b17_c nin0)))
    replace O0 := O0.keep K135 (allS g_b16 (allS g_b17_b (allS g_b17_c all0)))
    replace KC := KC.trans K135 (allS (Or.inr sz_b16) (allS (Or.inr sz_b17_b) (allS (Or.inr sz_b17_c) all0)))
    obtain ⟨_, _, ⟨T136, L136, kz136, nz136⟩, -, X136, ⟨Lc136, hQ136, l136, y136, z136⟩, st136⟩ := Jvm.LawKit.callS X135 hx (y := y_5) hown (mvT hZ (ww hw 30 rfl)) (mvT hZ (ww hw 31 rfl)) (mvT hZ (ww hw 32 rfl)) (mvT hZ (ww hw 33 rfl)) (by decide) (backOf (W := 1) (rmVo l Z a0 hw [] p2 cA cl T135.heap n0 (Nat.le_trans Z0 KC.1) O0 S_high S_cache BX) hZ (ww hw 33 rfl) (ww hw 32 rfl) (by decide) (by decide)) (g := (mkF m 98 #[vi p1, vi p2, vi p3, vi p4, vi p5, vi p6, vi (5 : Int32), vi c1, vi c2, vr b5, vr b16, un] [(.int p2), (.ref b16)])) rfl (by rw [hml]; rfl) (argsL := [(.int p2)]) (rest := [(.ref b16)]) (lenOf pd_14 rfl) rfl (by show 2 * 0 + _ ≤ _; exact Nat.le_of_eq rfl) (hb hby at_98) (fun _ _ => ⟨rfl, rfl, (by decide : 5 + 1 ≤ _), (by decide : 14 + 1 ≤ _)⟩)
    dsimp only [Pt.U, Pt.locs, Pt.cells, Pt.slots] at X136 l136 y136 z136 st136 hQ136
    subst l136 y136 z136
    obtain ⟨b_136, rfl, N136q, K136, E_b_136, F_value_b_136⟩ := hQ136
    have N136 := Fr.app N135 N136q
    replace Vm15 := Vm15.keep K136 nin0
    replace A16 := A16.keep K136
    replace E_b_17 := E_b_17.keep K136
    replace E_c_17 := E_c_17.keep K136
    replace E_b_134 := E_b_134.keep K136
    replace F_value_b_134 := F_value_b_134.keep K136 nin0
    replace F_store_a1_135 := F_store_a1_135.keep K136 nin0
    replace F_size_a1_135 := F_size_a1_135.keep K136 nin0
    replace F_filled_sto_135 := F_filled_sto_135.keep K136 nin0
    replace F_items_sto_135 := F_items_sto_135.keep K136 nin0
    replace V_arr_135 := V_arr_135.keep K136 nin0
    replace O0 := O0.keep K136 all0
    replace KC := KC.trans K136 all0
    obtain ⟨cq137, kq137, q137a, q137b, q137c⟩ := isOf hZ rfl A16
    obtain ⟨_, _, ⟨T137, L137, kz137, nz137⟩, -, X137, ⟨Lc137, hQ137, l137, y137, z137⟩, st137⟩ := X136.virtualBack hx (y := y_12) (z := y_12) hown (mvT hZ (ww hw 37 rfl)) (mvT hZ (ww hw 38 rfl)) (notFace_of_selects (args := #[]) (mvT hZ (ww hw 40 rfl))) (mvT hZ (ww hw 40 rfl)) (mvT hZ (ww hw 39 rfl)) (by decide) (backOf (W := 0) (rmAddA l Z a0 hw [] b16 b_136 b17_b (1 : Int32) (1 : Int32) b17_c k_17 (4 : Int32) [(.ref b_134), .null, .null, .null] (2 : Int32) [(.ref b_134), (.ref b_136), .null, .null] T136.heap n0 (Nat.le_trans Z0 KC.1) O0 F_store_a1_135 F_size_a1_135 A16 E_b_17 F_filled_sto_135 F_items_sto_135 E_c_17 V_arr_135 E_b_136 g_b16 g_b17_b g_b17_c hq17_0 (by decide) (by decide) (by decide) (by decide) (by decide) rfl (Nat.le_of_ble_eq_true rfl)) hZ (ww hw 41 rfl) (ww hw 3 rfl) (by decide) (by decide)) q137a q137c (g := (mkF m 101 #[vi p1, vi p2, vi p3, vi p4, vi p5, vi p6, vi (5 : Int32), vi c1, vi c2, vr b5, vr b16, un] [(.ref b_136), (.ref b16)])) rfl (by rw [hml]; rfl) (Steps.refl _) (argsL := [(.ref b_136)]) (rest := []) (lenOf pd_15 rfl) rfl (by show 2 * 0 + _ ≤ _; exact Nat.le_of_eq rfl) (hb hby at_101) (fun _ _ => ⟨rfl, rfl, (by decide : 6 + 0 ≤ _), (by decide : 15 + 0 ≤ _)⟩)
    dsimp only [Pt.U, Pt.locs, Pt.cells, Pt.slots] at X137 l137 y137 z137 st137 hQ137
    subst l137 y137 z137
    obtain ⟨rfl, N137q, K137, F_store_a1_137, F_size_a1_137, F_filled_sto_137, F_items_sto_137, V_arr_137⟩ := hQ137
    have N137 := Fr.app N136 N137q
    have nec_b_136_b17_c : b_136 ≠ b17_c := Exa.ne E_b_136 E_c_17 (by decide)
    have nec_b_136_b17_b : b_136 ≠ b17_b := Exa.ne E_b_136 E_b_17 (by decide)
    have nec_b_136_b16 : b_136 ≠ b16 := Exa.ne E_b_136 A16 (by decide)
    replace Vm15 := Vm15.keep K137 (ninS ne_b5_b16 (ninS ne_b5_b17_b (ninS ne_b5_b17_c nin0)))
    replace A16 := A16.keep K137
    replace E_b_17 := E_b_17.keep K137
    replace E_c_17 := E_c_17.keep K137
    replace E_b_134 := E_b_134.keep K137
    replace F_value_b_134 := F_value_b_134.keep K137 (ninS nec_b_134_b16 (ninS nec_b_134_b17_b (ninS nec_b_134_b17_c nin0)))
    replace E_b_136 := E_b_136.keep K137
    replace F_value_b_136 := F_value_b_136.keep K137 (ninS nec_b_136_b16 (ninS nec_b_136_b17_b (ninS nec_b_136_b17_c nin0)))
    replace O0 := O0.keep K137 (allS g_b16 (allS g_b17_b (allS g_b17_c all0)))
    replace KC := KC.trans K137 (allS (Or.inr sz_b16) (allS (Or.inr sz_b17_b) (allS (Or.inr sz_b17_c) all0)))
    obtain ⟨_, _, ⟨T138, L138, kz138, nz138⟩, -, X138, ⟨Lc138, hQ138, l138, y138, z138⟩, st138⟩ := Jvm.LawKit.callS X137 hx (y := y_5) hown (mvT hZ (ww hw 30 rfl)) (mvT hZ (ww hw 31 rfl)) (mvT hZ (ww hw 32 rfl)) (mvT hZ (ww hw 33 rfl)) (by decide) (backOf (W := 1) (rmVo l Z a0 hw [] p3 cA cl T137.heap n0 (Nat.le_trans Z0 KC.1) O0 S_high S_cache BX) hZ (ww hw 33 rfl) (ww hw 32 rfl) (by decide) (by decide)) (g := (mkF m 113 #[vi p1, vi p2, vi p3, vi p4, vi p5, vi p6, vi (5 : Int32), vi c1, vi c2, vr b5, vr b16, un] [(.int p3), (.ref b16)])) rfl (by rw [hml]; rfl) (argsL := [(.int p3)]) (rest := [(.ref b16)]) (lenOf pd_14 rfl) rfl (by show 2 * 0 + _ ≤ _; exact Nat.le_of_eq rfl) (hb hby at_113) (fun _ _ => ⟨rfl, rfl, (by decide : 6 + 1 ≤ _), (by decide : 15 + 1 ≤ _)⟩)
    dsimp only [Pt.U, Pt.locs, Pt.cells, Pt.slots] at X138 l138 y138 z138 st138 hQ138
    subst l138 y138 z138
    obtain ⟨b_138, rfl, N138q, K138, E_b_138, F_value_b_138⟩ := hQ138
    have N138 := Fr.app N137 N138q
    replace Vm15 := Vm15.keep K138 nin0
    replace A16 := A16.keep K138
    replace E_b_17 := E_b_17.keep K138
    replace E_c_17 := E_c_17.keep K138
    replace E_b_134 := E_b_134.keep K138
    replace F_value_b_134 := F_value_b_134.keep K138 nin0
    replace E_b_136 := E_b_136.keep K138
    replace F_value_b_136 := F_value_b_136.keep K138 nin0
    replace F_store_a1_137 := F_store_a1_137.keep K138 nin0
    replace F_size_a1_137 := F_size_a1_137.keep K138 nin0
    replace F_filled_sto_137 := F_filled_sto_137.keep K138 nin0
    replace F_items_sto_137 := F_items_sto_137.keep K138 nin0
    replace V_arr_137 := V_arr_137.keep K138 nin0
    replace O0 := O0.keep K138 all0
    replace KC := KC.trans K138 all0
    obtain ⟨cq139, kq139, q139a, q139b, q139c⟩ := isOf hZ rfl A16
    obtain ⟨_, _, ⟨T139, L139, kz139, nz139⟩, -, X139, ⟨Lc139, hQ139, l139, y139, z139⟩, st139⟩ := X138.virtualBack hx (y := y_12) (z := y_12) hown (mvT hZ (ww hw 37 rfl)) (mvT hZ (ww hw 38 rfl)) (notFace_of_selects (args := #[]) (mvT hZ (ww hw 40 rfl))) (mvT hZ (ww hw 40 rfl)) (mvT hZ (ww hw 39 rfl)) (by decide) (backOf (W := 0) (rmAddA l Z a0 hw [] b16 b_138 b17_b (2 : Int32) (2 : Int32) b17_c k_17 (4 : Int32) [(.ref b_134), (.ref b_136), .null, .null] (3 : Int32) [(.ref b_134), (.ref b_136), (.ref b_138), .null] T138.heap n0 (Nat.le_trans Z0 KC.1) O0 F_store_a1_137 F_size_a1_137 A16 E_b_17 F_filled_sto_137 F_items_sto_137 E_c_17 V_arr_137 E_b_138 g_b16 g_b17_b g_b17_c hq17_0 (by decide) (by decide) (by decide) (by decide) (by decide) rfl (Nat.le_of_ble_eq_true rfl)) hZ (ww hw 41 rfl) (ww hw 3 rfl) (by decide) (by decide)) q139a q139c (g := (mkF m 116 #[vi p1, vi p2, vi p3, vi p4, vi p5, vi p6, vi (5 : Int32), vi c1, vi c2, vr b5, vr b16, un] [(.ref b_138), (.ref b16)])) rfl (by rw [hml]; rfl) (Steps.refl _) (argsL := [(.ref b_138)]) (rest := []) (lenOf pd_15 rfl) rfl (by show 2 * 0 + _ ≤ _; exact Nat.le_of_eq rfl) (hb hby at_116) (fun _ _ => ⟨rfl, rfl, (by decide : 7 + 0 ≤ _), (by decide : 16 + 0 ≤ _)⟩)
    dsimp only [Pt.U, Pt.locs, Pt.cells, Pt.slots] at X139 l139 y139 z139 st139 hQ139
    subst l139 y139 z139
    obtain ⟨rfl, N139q, K139, F_store_a1_139, F_size_a1_139, F_filled_sto_139, F_items_sto_139, V_arr_139⟩ := hQ139
    have N139 := Fr.app N138 N139q
    have nec_b_138_b17_c : b_138 ≠ b17_c := Exa.ne E_b_138 E_c_17 (by decide)
    have nec_b_138_b17_b : b_138 ≠ b17_b := Exa.ne E_b_138 E_b_17 (by decide)
    have nec_b_138_b16 : b_138 ≠ b16 := Exa.ne E_b_138 A16 (by decide)
    replace Vm15 := Vm15.keep K139 (ninS ne_b5_b16 (ninS ne_b5_b17_b (ninS ne_b5_b17_c nin0)))
    replace A16 := A16.keep K139
    replace E_b_17 := E_b_17.keep K139
    replace E_c_17 := E_c_17.keep K139
    replace E_b_134 := E_b_134.keep K139
    replace F_value_b_134 := F_value_b_134.keep K139 (ninS nec_b_134_b16 (ninS nec_b_134_b17_b (ninS nec_b_134_b17_c nin0)))
    replace E_b_136 := E_b_136.keep K139
    replace F_value_b_136 := F_value_b_136.keep K139 (ninS nec_b_136_b16 (ninS nec_b_136_b17_b (ninS nec_b_136_b17_c nin0)))
    replace E_b_138 := E_b_138.keep K139
    replace F_value_b_138 := F_value_b_138.keep K139 (ninS nec_b_138_b16 (ninS nec_b_138_b17_b (ninS nec_b_138_b17_c nin0)))
    replace O0 := O0.keep K139 (allS g_b16 (allS g_b17_b (allS g_b17_c all0)))
    replace KC := KC.trans K139 (allS (Or.inr sz_b16) (allS (Or.inr sz_b17_b) (allS (Or.inr sz_b17_c) all0)))
    obtain ⟨_, _, ⟨T140, L140, kz140, nz140⟩, -, X140, ⟨Lc140, hQ140, l140, y140, z140⟩, st140⟩ := Jvm.LawKit.callS X139 hx (y := y_5) hown (mvT hZ (ww hw 30 rfl)) (mvT hZ (ww hw 31 rfl)) (mvT hZ (ww hw 32 rfl)) (mvT hZ (ww hw 33 rfl)) (by decide) (backOf (W := 1) (rmVo l Z a0 hw [] p4 cA cl T139.heap n0 (Nat.le_trans Z0 KC.1) O0 S_high S_cache BX) hZ (ww hw 33 rfl) (ww hw 32 rfl) (by decide) (by decide)) (g := (mkF m 128 #[vi p1, vi p2, vi p3, vi p4, vi p5, vi p6, vi (5 : Int32), vi c1, vi c2, vr b5, vr b16, un] [(.int p4), (.ref b16)])) rfl (by rw [hml]; rfl) (argsL := [(.int p4)]) (rest := [(.ref b16)]) (lenOf pd_14 rfl) rfl (by show 2 * 0 + _ ≤ _; exact Nat.le_of_eq rfl) (hb hby at_128) (fun _ _ => ⟨rfl, rfl, (by decide : 7 + 1 ≤ _), (by decide : 16 + 1 ≤ _)⟩)
    dsimp only [Pt.U, Pt.locs, Pt.cells, Pt.slots] at X140 l140 y140 z140 st140 hQ140
    subst l140 y140 z140
    obtain ⟨b_140, rfl, N140q, K140, E_b_140, F_value_b_140⟩ := hQ140
    have N140 := Fr.app N139 N140q
    replace Vm15 := Vm15.keep K140 nin0
    replace A16 := A16.keep K140
    replace E_b_17 := E_b_17.keep K140
    replace E_c_17 := E_c_17.keep K140
    replace E_b_134 := E_b_134.keep K140
    replace F_value_b_134 := F_value_b_134.keep K140 nin0
    replace E_b_136 := E_b_136.keep K140
    replace F_value_b_136 := F_value_b_136.keep K140 nin0
    replace E_b_138 := E_b_138.keep K140
    replace F_value_b_138 := F_value_b_138.keep K140 nin0
    replace F_store_a1_139 := F_store_a1_139.keep K140 nin0
    replace F_size_a1_139 := F_size_a1_139.keep K140 nin0
    replace F_filled_sto_139 := F_filled_sto_139.keep K140 nin0
    replace F_items_sto_139 := F_items_sto_139.keep K140 nin0
    replace V_arr_139 := V_arr_139.keep K140 nin0
    replace O0 := O0.keep K140 all0
    replace KC := KC.trans K140 all0
    obtain ⟨cq141, kq141, q141a, q141b, q141c⟩ := isOf hZ rfl A16
    obtain ⟨_, _, ⟨T141, L141, kz141, nz141⟩, -, X141, ⟨Lc141, hQ141, l141, y141, z141⟩, st141⟩ := X140.virtualBack hx (y := y_12) (z := y_12) hown (mvT hZ (ww hw 37 rfl)) (mvT hZ (ww hw 38 rfl)) (notFace_of_selects (args := #[]) (mvT hZ (ww hw 40 rfl))) (mvT hZ (ww hw 40 rfl)) (mvT hZ (ww hw 39 rfl)) (by decide) (backOf (W := 0) (rmAddA l Z a0 hw [] b16 b_140 b17_b (3 : Int32) (3 : Int32) b17_c k_17 (4 : Int32) [(.ref b_134), (.ref b_136), (.ref b_138), .null] (4 : Int32) [(.ref b_134), (.ref b_136), (.ref b_138), (.ref b_140)] T140.heap n0 (Nat.le_trans Z0 KC.1) O0 F_store_a1_139 F_size_a1_139 A16 E_b_17 F_filled_sto_139 F_items_sto_139 E_c_17 V_arr_139 E_b_140 g_b16 g_b17_b g_b17_c hq17_0 (by decide) (by decide) (by decide) (by decide) (by decide) rfl (Nat.le_of_ble_eq_true rfl)) hZ (ww hw 41 rfl) (ww hw 3 rfl) (by decide) (by decide)) q141a q141c (g := (mkF m 131 #[vi p1, vi p2, vi p3, vi p4, vi p5, vi p6, vi (5 : Int32), vi c1, vi c2, vr b5, vr b16, un] [(.ref b_140), (.ref b16)])) rfl (by rw [hml]; rfl) (Steps.refl _) (argsL := [(.ref b_140)]) (rest := []) (lenOf pd_15 rfl) rfl (by show 2 * 0 + _ ≤ _; exact Nat.le_of_eq rfl) (hb hby at_131) (fun _ _ => ⟨rfl, rfl, (by decide : 8 + 0 ≤ _), (by decide : 17 + 0 ≤ _)⟩)
    dsimp only [Pt.U, Pt.locs, Pt.cells, Pt.slots] at X141 l141 y141 z141 st141 hQ141
    subst l141 y141 z141
    obtain ⟨rfl, N141q, K141, F_store_a1_141, F_size_a1_141, F_filled_sto_141, F_items_sto_141, V_arr_141⟩ := hQ141
    have N141 := Fr.app N140 N141q
    have nec_b_140_b17_c : b_140 ≠ b17_c := Exa.ne E_b_140 E_c_17 (by decide)
    have nec_b_140_b17_b : b_140 ≠ b17_b := Exa.ne E_b_140 E_b_17 (by decide)
    have nec_b_140_b16 : b_140 ≠ b16 := Exa.ne E_b_140 A16 (by decide)
    replace Vm15 := Vm15.keep K141 (ninS ne_b5_b16 (ninS ne_b5_b17_b (ninS ne_b5_b17_c nin0)))
    replace A16 := A16.keep K141
    replace E_b_17 := E_b_17.keep K141
    replace E_c_17 := E_c_17.keep K141
    replace E_b_134 := E_b_134.keep K141
    replace F_value_b_134 := F_value_b_134.keep K141 (ninS nec_b_134_b16 (ninS nec_b_134_b17_b (ninS nec_b_134_b17_c nin0)))
    replace E_b_136 := E_b_136.keep K141
    replace F_value_b_136 := F_value_b_136.keep K141 (ninS nec_b_136_b16 (ninS nec_b_136_b17_b (ninS nec_b_136_b17_c nin0)))
    replace E_b_138 := E_b_138.keep K141
    replace F_value_b_138 := F_value_b_138.keep K141 (ninS nec_b_138_b16 (ninS nec_b_138_b17_b (ninS nec_b_138_b17_c nin0)))
    replace E_b_140 := E_b_140.keep K141
    replace F_value_b_140 := F_value_b_140.keep K141 (ninS nec_b_140_b16 (ninS nec_b_140_b17_b (ninS nec_b_140_b17_c nin0)))
    replace O0 := O0.keep K141 (allS g_b16 (allS g_b17_b (allS g_b17_c all0)))
    replace KC := KC.trans K141 (allS (Or.inr sz_b16) (allS (Or.inr sz_b17_b) (allS (Or.inr sz_b17_c) all0)))
    obtain ⟨_, _, ⟨T142, L142, kz142, nz142⟩, -, X142, ⟨Lc142, hQ142, l142, y142, z142⟩, st142⟩ := Jvm.LawKit.callS X141 hx (y := y_5) hown (mvT hZ (ww hw 30 rfl)) (mvT hZ (ww hw 31 rfl)) (mvT hZ (ww hw 32 rfl)) (mvT hZ (ww hw 33 rfl)) (by decide) (backOf (W := 1) (rmVo l Z a0 hw [] p5 cA cl T141.heap n0 (Nat.le_trans Z0 KC.1) O0 S_high S_cache BX) hZ (ww hw 33 rfl) (ww hw 32 rfl) (by decide) (by decide)) (g := (mkF m 144 #[vi p1, vi p2, vi p3, vi p4, vi p5, vi p6, vi (5 : Int32), vi c1, vi c2, vr b5, vr b16, un] [(.int p5), (.ref b16)])) rfl (by rw [hml]; rfl) (argsL := [(.int p5)]) (rest := [(.ref b16)]) (lenOf pd_14 rfl) rfl (by show 2 * 0 + _ ≤ _; exact Nat.le_of_eq rfl) (hb hby at_144) (fun _ _ => ⟨rfl, rfl, (by decide : 8 + 1 ≤ _), (by decide : 17 + 1 ≤ _)⟩)
    dsimp only [Pt.U, Pt.locs, Pt.cells, Pt.slots] at X142 l142 y142 z142 st142 hQ142
    subst l142 y142 z142
    obtain ⟨b_142, rfl, N142q, K142, E_b_142, F_value_b_142⟩ := hQ142
    have N142 := Fr.app N141 N142q
    replace Vm15 := Vm15.keep K142 nin0
    replace A16 := A16.keep K142
    replace E_b_17 := E_b_17.keep K142
    replace E_c_17 := E_c_17.keep K142
    replace E_b_134 := E_b_134.keep K142
    replace F_value_b_134 := F_value_b_134.keep K142 nin0
    replace E_b_136 := E_b_136.keep K142
    replace F_value_b_136 := F_value_b_136.keep K142 nin0
    replace E_b_138 := E_b_138.keep K142
    replace F_value_b_138 := F_value_b_138.keep K142 nin0
    replace E_b_140 := E_b_140.keep K142
    replace F_value_b_140 := F_value_b_140.keep K142 nin0
    replace F_store_a1_141 := F_store_a1_141.keep K142 nin0
    replace F_size_a1_141 := F_size_a1_141.keep K142 nin0
    replace F_filled_sto_141 := F_filled_sto_141.keep K142 nin0
    replace F_items_sto_141 := F_items_sto_141.keep K142 nin0
    replace V_arr_141 := V_arr_141.keep K142 nin0
    replace O0 := O0.keep K142 all0
    replace KC := KC.trans K142 all0
    obtain ⟨cq143, kq143, q143a, q143b, q143c⟩ := isOf hZ rfl A16
    obtain ⟨_, _, ⟨T143, L143, kz143, nz143⟩, -, X143, ⟨Lc143, hQ143, l143, y143, z143⟩, st143⟩ := X142.virtualBack hx (y := y_12) (z := y_12) hown (mvT hZ (ww hw 37 rfl)) (mvT hZ (ww hw 38 rfl)) (notFace_of_selects (args := #[]) (mvT hZ (ww hw 40 rfl))) (mvT hZ (ww hw 40 rfl)) (mvT hZ (ww hw 39 rfl)) (by decide) (backOf (W := 0) (rmAddB l Z a0 hw [] b16 b_142 b17_b (4 : Int32) (4 : Int32) b17_c k_17 (4 : Int32) [(.ref b_134), (.ref b_136), (.ref b_138), (.ref b_140)] mr (8 : Int32) (4 : Int32) [(.ref b_134), (.ref b_136), (.ref b_138), (.ref b_140), .null, .null, .null, .null, .null, .null] (5 : Int32) [(.ref b_134), (.ref b_136), (.ref b_138), (.ref b_140), (.ref b_142), .null, .null, .null, .null, .null] T142.heap n0 (Nat.le_trans Z0 KC.1) O0 F_store_a1_141 F_size_a1_141 A16 E_b_17 F_filled_sto_141 F_items_sto_141 E_c_17 V_arr_141 E_b_142 g_b16 MIR (Or.inr rfl) (by decide) (by decide) (by decide) (by decide) (by decide) (by decide) (by decide) rfl (own_els_cons (Or.inr ⟨_, rfl, E_b_134⟩) (own_els_cons (Or.inr ⟨_, rfl, E_b_136⟩) (own_els_cons (Or.inr ⟨_, rfl, E_b_138⟩) (own_els_cons (Or.inr ⟨_, rfl, E_b_140⟩) own_els_nil)))) (by decide) (by decide) (by decide) rfl (Nat.le_of_ble_eq_true rfl)) hZ (ww hw 41 rfl) (ww hw 3 rfl) (by decide) (by decide)) q143a q143c (g := (mkF m 147 #[vi p1, vi p2, vi p3, vi p4, vi p5, vi p6, vi (5 : Int32), vi c1, vi c2, vr b5, vr b16, un] [(.ref b_142), (.ref b16)])) rfl (by rw [hml]; rfl) (Steps.refl _) (argsL := [(.ref b_142)]) (rest := []) (lenOf pd_15 rfl) rfl (by show 2 * 0 + _ ≤ _; exact Nat.le_of_eq rfl) (hb hby at_147) (fun _ _ => ⟨rfl, rfl, (by decide : 9 + 2 ≤ _), (by decide : 18 + 12 ≤ _)⟩)
    dsimp only [Pt.U, Pt.locs, Pt.cells, Pt.slots] at X143 l143 y143 z143 st143 hQ143
    subst l143 y143 z143
    obtain ⟨b143_b, b143_c, k2_143, rfl, N143q, K143, sz_b143_b, sz_b143_c, F_store_a1_143, F_size_a1_143, E_b_143, F_filled_b_143, F_items_b_143, E_c_143, V_c_143, hq143_0⟩ := hQ143
    have N143 := Fr.app N142 N143q
    have ne_b5_b143_b : b5 ≠ b143_b := Nat.ne_of_lt (Nat.lt_of_lt_of_le Vm15.lt sz_b143_b)
    have ne_b16_b143_b : b16 ≠ b143_b := Nat.ne_of_lt (Nat.lt_of_lt_of_le A16.lt sz_b143_b)
    have ne_b17_b_b143_b : b17_b ≠ b143_b := Nat.ne_of_lt (Nat.lt_of_lt_of_le E_b_17.lt sz_b143_b)
    have ne_b17_c_b143_b : b17_c ≠ b143_b := Nat.ne_of_lt (Nat.lt_of_lt_of_le E_c_17.lt sz_b143_b)
    have ne_b_134_b143_b : b_134 ≠ b143_b := Nat.ne_of_lt (Nat.lt_of_lt_of_le E_b_134.lt sz_b143_b)
    have ne_b_136_b143_b : b_136 ≠ b143_b := Nat.ne_of_lt (Nat.lt_of_lt_of_le E_b_136.lt sz_b143_b)
    have ne_b_138_b143_b : b_138 ≠ b143_b := Nat.ne_of_lt (Nat.lt_of_lt_of_le E_b_138.lt sz_b143_b)
    have ne_b_140_b143_b : b_140 ≠ b143_b := Nat.ne_of_lt (Nat.lt_of_lt_of_le E_b_140.lt sz_b143_b)
    have ne_b_142_b143_b : b_142 ≠ b143_b := Nat.ne_of_lt (Nat.lt_of_lt_of_le E_b_142.lt sz_b143_b)
    have g_b143_b : n0 ≤ b143_b := Nat.le_trans (Nat.le_trans Z0 KC.1) sz_b143_b
    replace sz_b143_b : h0.size ≤ b143_b := Nat.le_trans KC.1 sz_b143_b
    have ne_b5_b143_c : b5 ≠ b143_c := Nat.ne_of_lt (Nat.lt_of_lt_of_le Vm15.lt sz_b143_c)
    have ne_b16_b143_c : b16 ≠ b143_c := Nat.ne_of_lt (Nat.lt_of_lt_of_le A16.lt sz_b143_c)
    have ne_b17_b_b143_c : b17_b ≠ b143_c := Nat.ne_of_lt (Nat.lt_of_lt_of_le E_b_17.lt sz_b143_c)
    have ne_b17_c_b143_c : b17_c ≠ b143_c := Nat.ne_of_lt (Nat.lt_of_lt_of_le E_c_17.lt sz_b143_c)
    have ne_b_134_b143_c : b_134 ≠ b143_c := Nat.ne_of_lt (Nat.lt_of_lt_of_le E_b_134.lt sz_b143_c)
    have ne_b_136_b143_c : b_136 ≠ b143_c := Nat.ne_of_lt (Nat.lt_of_lt_of_le E_b_136.lt sz_b143_c)
    have ne_b_138_b143_c : b_138 ≠ b143_c := Nat.ne_of_lt (Nat.lt_of_lt_of_le E_b_138.lt sz_b143_c)
    have ne_b_140_b143_c : b_140 ≠ b143_c := Nat.ne_of_lt (Nat.lt_of_lt_of_le E_b_140.lt sz_b143_c)
    have ne_b_142_b143_c : b_142 ≠ b143_c := Nat.ne_of_lt (Nat.lt_of_lt_of_le E_b_142.lt sz_b143_c)
    have g_b143_c : n0 ≤ b143_c := Nat.le_trans (Nat.le_trans Z0 KC.1) sz_b143_c
    replace sz_b143_c : h0.size ≤ b143_c := Nat.le_trans KC.1 sz_b143_c
    have nec_b_142_b16 : b_142 ≠ b16 := Exa.ne E_b_142 A16 (by decide)
    replace Vm15 := Vm15.keep K143 (ninS ne_b5_b16 nin0)
    replace A16 := A16.keep K143
    replace E_b_17 := E_b_17.keep K143
    replace E_c_17 := E_c_17.keep K143
    replace E_b_134 := E_b_134.keep K143
    replace F_value_b_134 := F_value_b_134.keep K143 (ninS nec_b_134_b16 nin0)
    replace E_b_136 := E_b_136.keep K143
    replace F_value_b_136 := F_value_b_136.keep K143 (ninS nec_b_136_b16 nin0)
    replace E_b_138 := E_b_138.keep K143
    replace F_value_b_138 := F_value_b_138.keep K143 (ninS nec_b_138_b16 nin0)
    replace E_b_140 := E_b_140.keep K143
    replace F_value_b_140 := F_value_b_140.keep K143 (ninS nec_b_140_b16 nin0)
    replace F_filled_sto_141 := F_filled_sto_141.keep K143 (ninS (Ne.symm ne_b16_b17_b) nin0)
    replace F_items_sto_141 := F_items_sto_141.keep K143 (ninS (Ne.symm ne_b16_b17_b) nin0)
    replace V_arr_141 := V_arr_141.keep K143 (ninS (Ne.symm ne_b16_b17_c) nin0)
    replace E_b_142 := E_b_142.keep K143
    replace F_value_b_142 := F_value_b_142.keep K143 (ninS nec_b_142_b16 nin0)
    replace O0 := O0.keep K143 (allS g_b16 all0)
    replace KC := KC.trans K143 (allS (Or.inr sz_b16) all0)
    have pre144 : ∀ t, Steps p.tables e below (T143.setTop (mkF m 152 #[vi p1, vi p2, vi p3, vi p4, vi p5, vi p6, vi (5 : Int32), vi c1, vi c2, vr b5, vr b16, un] [(.int c1)])) t → Steps p.tables e below (s₁.setTop (entryFrame m #[(.int p1), (.int p2), (.int p3), (.int p4), (.int p5), (.int p6)] maxLocals)) t := by
      intro t kt
      refine pre18 t ?_
      show SS p e below m T17 75 #[vi p1, vi p2, vi p3, vi p4, vi p5, vi p6, vi (5 : Int32), vi c1, vi c2, vr b5, vr b16, un] [] _
      refine XS.iload X17.here hx rfl (hb hby at_75) rfl ?_
      show SS p e below m T17 77 #[vi p1, vi p2, vi p3, vi p4, vi p5, vi p6, vi (5 : Int32), vi c1, vi c2, vr b5, vr b16, un] [(.int (5 : Int32))] _
      refine XS.ifNo X17.here hx rfl (hb hby at_77) rfl ((if0 _ _).trans (tlt (by decide)).2.2.2) ?_
      show SS p e below m T17 80 #[vi p1, vi p2, vi p3, vi p4, vi p5, vi p6, vi (5 : Int32), vi c1, vi c2, vr b5, vr b16, un] [] _
      refine XS.aload X17.here hx rfl (hb hby at_80) rfl rfl ?_
      show SS p e below m T17 82 #[vi p1, vi p2, vi p3, vi p4, vi p5, vi p6, vi (5 : Int32), vi c1, vi c2, vr b5, vr b16, un] [(.ref b16)] _
      refine XS.iloadN X17.here hx rfl (hb hby at_82) rfl ?_
      show SS p e below m T17 83 #[vi p1, vi p2, vi p3, vi p4, vi p5, vi p6, vi (5 : Int32), vi c1, vi c2, vr b5, vr b16, un] [(.int p1), (.ref b16)] _
      refine st134 _ ?_
      show SS p e below m T134 86 #[vi p1, vi p2, vi p3, vi p4, vi p5, vi p6, vi (5 : Int32), vi c1, vi c2, vr b5, vr b16, un] [(.ref b_134), (.ref b16)] _
      refine st135.trans ?_
      show SS p e below m T135 89 #[vi p1, vi p2, vi p3, vi p4, vi p5, vi p6, vi (5 : Int32), vi c1, vi c2, vr b5, vr b16, un] [] _
      refine XS.iload X135.here hx rfl (hb hby at_89) rfl ?_
      show SS p e below m T135 91 #[vi p1, vi p2, vi p3, vi p4, vi p5, vi p6, vi (5 : Int32), vi c1, vi c2, vr b5, vr b16, un] [(.int (5 : Int32))] _
      refine XS.iconst X135.here hx rfl (hb hby at_91) ?_
      show SS p e below m T135 92 #[vi p1, vi p2, vi p3, vi p4, vi p5, vi p6, vi (5 : Int32), vi c1, vi c2, vr b5, vr b16, un] [(.int (1 : Int32)), (.int (5 : Int32))] _
      refine XS.icmpNo X135.here hx rfl (hb hby at_92) rfl (tlt (by decide)).2.2.2 ?_
      show SS p e below m T135 95 #[vi p1, vi p2, vi p3, vi p4, vi p5, vi p6, vi (5 : Int32), vi c1, vi c2, vr b5, vr b16, un] [] _
      refine XS.aload X135.here hx rfl (hb hby at_95) rfl rfl ?_
      show SS p e below m T135 97 #[vi p1, vi p2, vi p3, vi p4, vi p5, vi p6, vi (5 : Int32), vi c1, vi c2, vr b5, vr b16, un] [(.ref b16)] _
      refine XS.iloadN X135.here hx rfl (hb hby at_97) rfl ?_
      show SS p e below m T135 98 #[vi p1, vi p2, vi p3, vi p4, vi p5, vi p6, vi (5 : Int32), vi c1, vi c2, vr b5, vr b16, un] [(.int p2), (.ref b16)] _
      refine st136 _ ?_
      show SS p e below m T136 101 #[vi p1, vi p2, vi p3, vi p4, vi p5, vi p6, vi (5 : Int32), vi c1, vi c2, vr b5, vr b16, un] [(.ref b_136), (.ref b16)] _
      refine st137.trans ?_
      show SS p e below m T137 104 #[vi p1, vi p2, vi p3, vi p4, vi p5, vi p6, vi (5 : Int32), vi c1, vi c2, vr b5, vr b16, un] [] _
      refine XS.iload X137.here hx rfl (hb hby at_104) rfl ?_
      show SS p e below m T137 106 #[vi p1, vi p2, vi p3, vi p4, vi p5, vi p6, vi (5 : Int32), vi c1, vi c2, vr b5, vr b16, un] [(.int (5 : Int32))] _
      refine XS.iconst X137.here hx rfl (hb hby at_106) ?_
      show SS p e below m T137 107 #[vi p1, vi p2, vi p3, vi p4, vi p5, vi p6, vi (5 : Int32), vi c1, vi c2, vr b5, vr b16, un] [(.int (2 : Int32)), (.int (5 : Int32))] _
      refine XS.icmpNo X137.here hx rfl (hb hby at_107) rfl (tlt (by decide)).2.2.2 ?_
      show SS p e below m T137 110 #[vi p1, vi p2, vi p3, vi p4, vi p5, vi p6, vi (5 : Int32), vi c1, vi c2, vr b5, vr b16, un] [] _
      refine XS.aload X137.here hx rfl (hb hby at_110) rfl rfl ?_
      show SS p e below m T137 112 #[vi p1, vi p2, vi p3, vi p4, vi p5, vi p6, vi (5 : Int32), vi c1, vi c2, vr b5, vr b16, un] [(.ref b16)] _
      refine XS.iloadN X137.here hx rfl (hb hby at_112) rfl ?_
      show SS p e below m T137 113 #[vi p1, vi p2, vi p3, vi p4, vi p5, vi p6, vi (5 : Int32), vi c1, vi c2, vr b5, vr b16, un] [(.int p3), (.ref b16)] _
      refine st138 _ ?_
      show SS p e below m T138 116 #[vi p1, vi p2, vi p3, vi p4, vi p5, vi p6, vi (5 : Int32), vi c1, vi c2, vr b5, vr b16, un] [(.ref b_138), (.ref b16)] _
      refine st139.trans ?_
      show SS p e below m T139 119 #[vi p1, vi p2, vi p3, vi p4, vi p5, vi p6, vi (5 : Int32), vi c1, vi c2, vr b5, vr b16, un] [] _
      refine XS.iload X139.here hx rfl (hb hby at_119) rfl ?_
      show SS p e below m T139 121 #[vi p1, vi p2, vi p3, vi p4, vi p5, vi p6, vi (5 : Int32), vi c1, vi c2, vr b5, vr b16, un] [(.int (5 : Int32))] _
      refine XS.iconst X139.here hx rfl (hb hby at_121) ?_
      show SS p e below m T139 122 #[vi p1, vi p2, vi p3, vi p4, vi p5, vi p6, vi (5 : Int32), vi c1, vi c2, vr b5, vr b16, un] [(.int (3 : Int32)), (.int (5 : Int32))] _
      refine XS.icmpNo X139.here hx rfl (hb hby at_122) rfl (tlt (by decide)).2.2.2 ?_
      show SS p e below m T139 125 #[vi p1, vi p2, vi p3, vi p4, vi p5, vi p6, vi (5 : Int32), vi c1, vi c2, vr b5, vr b16, un] [] _
      refine XS.aload X139.here hx rfl (hb hby at_125) rfl rfl ?_
      show SS p e below m T139 127 #[vi p1, vi p2, vi p3, vi p4, vi p5, vi p6, vi (5 : Int32), vi c1, vi c2, vr b5, vr b16, un] [(.ref b16)] _
      refine XS.iloadN X139.here hx rfl (hb hby at_127) rfl ?_
      show SS p e below m T139 128 #[vi p1, vi p2, vi p3, vi p4, vi p5, vi p6, vi (5 : Int32), vi c1, vi c2, vr b5, vr b16, un] [(.int p4), (.ref b16)] _
      refine st140 _ ?_
      show SS p e below m T140 131 #[vi p1, vi p2, vi p3, vi p4, vi p5, vi p6, vi (5 : Int32), vi c1, vi c2, vr b5, vr b16, un] [(.ref b_140), (.ref b16)] _
      refine st141.trans ?_
      show SS p e below m T141 134 #[vi p1, vi p2, vi p3, vi p4, vi p5, vi p6, vi (5 : Int32), vi c1, vi c2, vr b5, vr b16, un] [] _
      refine XS.iload X141.here hx rfl (hb hby at_134) rfl ?_
      show SS p e below m T141 136 #[vi p1, vi p2, vi p3, vi p4, vi p5, vi p6, vi (5 : Int32), vi c1, vi c2, vr b5, vr b16, un] [(.int (5 : Int32))] _
      refine XS.iconst X141.here hx rfl (hb hby at_136) ?_
      show SS p e below m T141 137 #[vi p1, vi p2, vi p3, vi p4, vi p5, vi p6, vi (5 : Int32), vi c1, vi c2, vr b5, vr b16, un] [(.int (4 : Int32)), (.int (5 : Int32))] _
      refine XS.icmpNo X141.here hx rfl (hb hby at_137) rfl (tlt (by decide)).2.2.2 ?_
      show SS p e below m T141 140 #[vi p1, vi p2, vi p3, vi p4, vi p5, vi p6, vi (5 : Int32), vi c1, vi c2, vr b5, vr b16, un] [] _
      refine XS.aload X141.here hx rfl (hb hby at_140) rfl rfl ?_
      show SS p e below m T141 142 #[vi p1, vi p2, vi p3, vi p4, vi p5, vi p6, vi (5 : Int32), vi c1, vi c2, vr b5, vr b16, un] [(.ref b16)] _
      refine XS.iload X141.here hx rfl (hb hby at_142) rfl ?_
      show SS p e below m T141 144 #[vi p1, vi p2, vi p3, vi p4, vi p5, vi p6, vi (5 : Int32), vi c1, vi c2, vr b5, vr b16, un] [(.int p5), (.ref b16)] _
      refine st142 _ ?_
      show SS p e below m T142 147 #[vi p1, vi p2, vi p3, vi p4, vi p5, vi p6, vi (5 : Int32), vi c1, vi c2, vr b5, vr b16, un] [(.ref b_142), (.ref b16)] _
      refine st143.trans ?_
      show SS p e below m T143 150 #[vi p1, vi p2, vi p3, vi p4, vi p5, vi p6, vi (5 : Int32), vi c1, vi c2, vr b5, vr b16, un] [] _
      refine XS.iload X143.here hx rfl (hb hby at_150) rfl ?_
      exact kt
    by_cases hc152_145 : c1 = (0 : Int32)
    · obtain ⟨cq146, kq146, q146a, q146b, q146c⟩ := isOf hZ rfl A16
      obtain ⟨_, _, ⟨T146, L146, kz146, nz146⟩, -, X146, ⟨Lc146, hQ146, l146, y146, z146⟩, st146⟩ := X143.virtualBack hx (y := y_15) (z := y_15) hown (mvT hZ (ww hw 49 rfl)) (mvT hZ (ww hw 50 rfl)) (notFace_of_selects (args := #[]) (mvT hZ (ww hw 52 rfl))) (mvT hZ (ww hw 52 rfl)) (mvT hZ (ww hw 51 rfl)) (by decide) (backOf (W := 0) (rmIt l Z a0 hw [] b16 b143_b (5 : Int32) b143_c T143.heap n0 (Nat.le_trans Z0 KC.1) O0 F_store_a1_143 F_size_a1_143 F_items_b_143) hZ (ww hw 53 rfl) (ww hw 3 rfl) (by decide) (by decide)) q146a q146c (g := (mkF m 176 #[vi p1, vi p2, vi p3, vi p4, vi p5, vi p6, vi (5 : Int32), vi c1, vi c2, vr b5, vr b16, un] [(.ref b16)])) rfl (by rw [hml]; rfl) (Steps.refl _) (argsL := []) (rest := []) (lenOf pd_13 rfl) rfl (by show 2 * 0 + _ ≤ _; exact Nat.le_of_eq rfl) (hb hby at_176) (fun _ _ => ⟨rfl, rfl, (by decide : 11 + 1 ≤ _), (by decide : 30 + 3 ≤ _)⟩)
      dsimp only [Pt.U, Pt.locs, Pt.cells, Pt.slots] at X146 l146 y146 z146 st146 hQ146
      subst l146 y146 z146
      obtain ⟨b146_b, rfl, N146q, K146, sz_b146_b, E_b_146, F_val_length_b_146, F_val_items_b_146, F_next_b_146⟩ := hQ146
      have N146 := Fr.app N143 N146q
      have ne_b5_b146_b : b5 ≠ b146_b := Nat.ne_of_lt (Nat.lt_of_lt_of_le Vm15.lt sz_b146_b)
      have ne_b16_b146_b : b16 ≠ b146_b := Nat.ne_of_lt (Nat.lt_of_lt_of_le A16.lt sz_b146_b)
      have ne_b17_b_b146_b : b17_b ≠ b146_b := Nat.ne_of_lt (Nat.lt_of_lt_of_le E_b_17.lt sz_b146_b)
      have ne_b17_c_b146_b : b17_c ≠ b146_b := Nat.ne_of_lt (Nat.lt_of_lt_of_le E_c_17.lt sz_b146_b)
      have ne_b_134_b146_b : b_134 ≠ b146_b := Nat.ne_of_lt (Nat.lt_of_lt_of_le E_b_134.lt sz_b146_b)
      have ne_b_136_b146_b : b_136 ≠ b146_b := Nat.ne_of_lt (Nat.lt_of_lt_of_le E_b_136.lt sz_b146_b)
      have ne_b_138_b146_b : b_138 ≠ b146_b := Nat.ne_of_lt (Nat.lt_of_lt_of_le E_b_138.lt sz_b146_b)
      have ne_b_140_b146_b : b_140 ≠ b146_b := Nat.ne_of_lt (Nat.lt_of_lt_of_le E_b_140.lt sz_b146_b)
      have ne_b_142_b146_b : b_142 ≠ b146_b := Nat.ne_of_lt (Nat.lt_of_lt_of_le E_b_142.lt sz_b146_b)
      have ne_b143_b_b146_b : b143_b ≠ b146_b := Nat.ne_of_lt (Nat.lt_of_lt_of_le E_b_143.lt sz_b146_b)
      have ne_b143_c_b146_b : b143_c ≠ b146_b := Nat.ne_of_lt (Nat.lt_of_lt_of_le E_c_143.lt sz_b146_b)
      have g_b146_b : n0 ≤ b146_b := Nat.le_trans (Nat.le_trans Z0 KC.1) sz_b146_b
      replace sz_b146_b : h0.size ≤ b146_b := Nat.le_trans KC.1 sz_b146_b
      replace Vm15 := Vm15.keep K146 nin0
      replace A16 := A16.keep K146
      replace E_b_17 := E_b_17.keep K146
      replace E_c_17 := E_c_17.keep K146
      replace E_b_134 := E_b_134.keep K146
      replace F_value_b_134 := F_value_b_134.keep K146 nin0
      replace E_b_136 := E_b_136.keep K146
      replace F_value_b_136 := F_value_b_136.keep K146 nin0
      replace E_b_138 := E_b_138.keep K146
      replace F_value_b_138 := F_value_b_138.keep K146 nin0
      replace E_b_140 := E_b_140.keep K146
      replace F_value_b_140 := F_value_b_140.keep K146 nin0
      replace F_filled_sto_141 := F_filled_sto_141.keep K146 nin0
      replace F_items_sto_141 := F_items_sto_141.keep K146 nin0
      replace V_arr_141 := V_arr_141.keep K146 nin0
      replace E_b_142 := E_b_142.keep K146
      replace F_value_b_142 := F_value_b_142.keep K146 nin0
      replace F_store_a1_143 := F_store_a1_143.keep K146 nin0
      replace F_size_a1_143 := F_size_a1_143.keep K146 nin0
      replace E_b_143 := E_b_143.keep K146
      replace F_filled_b_143 := F_filled_b_143.keep K146 nin0
      replace F_items_b_143 := F_items_b_143.keep K146 nin0
      replace E_c_143 := E_c_143.keep K146
      replace V_c_143 := V_c_143.keep K146 nin0
      replace O0 := O0.keep K146 all0
      replace KC := KC.trans K146 all0
      have pre147 : ∀ t, Steps p.tables e below (T146.setTop (mkF m 183 #[vi p1, vi p2, vi p3, vi p4, vi p5, vi p6, vi (5 : Int32), vi c1, vi c2, vr b5, vr b16, vr b146_b] [(.int c2)])) t → Steps p.tables e below (s₁.setTop (entryFrame m #[(.int p1), (.int p2), (.int p3), (.int p4), (.int p5), (.int p6)] maxLocals)) t := by
        intro t kt
        refine pre144 t ?_
        show SS p e below m T143 152 #[vi p1, vi p2, vi p3, vi p4, vi p5, vi p6, vi (5 : Int32), vi c1, vi c2, vr b5, vr b16, un] [(.int c1)] _
        refine XS.ifYes X143.here hx rfl (pc0 := 152) (pc' := 174) rfl (hb hby at_152) rfl ((if0 _ _).trans (teq hc152_145).1) (by decide) (by decide) ?_
        show SS p e below m T143 174 #[vi p1, vi p2, vi p3, vi p4, vi p5, vi p6, vi (5 : Int32), vi c1, vi c2, vr b5, vr b16, un] [] _
        refine XS.aload X143.here hx rfl (hb hby at_174) rfl rfl ?_
        show SS p e below m T143 176 #[vi p1, vi p2, vi p3, vi p4, vi p5, vi p6, vi (5 : Int32), vi c1, vi c2, vr b5, vr b16, un] [(.ref b16)] _
        refine st146.trans ?_
        show SS p e below m T146 179 #[vi p1, vi p2, vi p3, vi p4, vi p5, vi p6, vi (5 : Int32), vi c1, vi c2, vr b5, vr b16, un] [(.ref b146_b)] _
        refine XS.astore X146.here hx rfl (hb hby at_179) rfl rfl (l' := #[vi p1, vi p2, vi p3, vi p4, vi p5, vi p6, vi (5 : Int32), vi c1, vi c2, vr b5, vr b16, vr b146_b]) rfl ?_
        show SS p e below m T146 181 #[vi p1, vi p2, vi p3, vi p4, vi p5, vi p6, vi (5 : Int32), vi c1, vi c2, vr b5, vr b16, vr b146_b] [] _
        refine XS.iload X146.here hx rfl (hb hby at_181) rfl ?_
        exact kt
      by_cases hc183_148 : c2 = (0 : Int32)
      · obtain ⟨T149, h149, L149, X149, e149, N149, K149, st149⟩ := tail5 hw X146 hx hZ hby hml hown p1 p2 p3 p4 p5 p6 c1 c2 b5 b16 b146_b b143_c k2_143 (8 : Int32) [(.ref b_134), (.ref b_136), (.ref b_138), (.ref b_140), (.ref b_142), .null, .null, .null, .null, .null] k5 b_134 b_136 b_138 b_140 b_142 T146.heap n0 rfl (Nat.le_trans Z0 KC.1) O0 N146 F_next_b_146 F_val_length_b_146 F_val_items_b_146 E_b_146 E_c_143 V_c_143 Vm15 g_b146_b ne_b5_b146_b E_b_134 F_value_b_134 rfl (by decide) E_b_136 F_value_b_136 rfl (by decide) E_b_138 F_value_b_138 rfl (by decide) E_b_140 F_value_b_140 rfl (by decide) E_b_142 F_value_b_142 rfl (by decide) (by decide) (by decide) (by decide) (by decide)
        replace Vm15 := Vm15.keep K149 (ninS ne_b5_b146_b nin0)
        replace A16 := A16.keep K149
        replace E_b_17 := E_b_17.keep K149
        replace E_c_17 := E_c_17.keep K149
        replace E_b_134 := E_b_134.keep K149
        replace F_value_b_134 := F_value_b_134.keep K149 (ninS ne_b_134_b146_b nin0)
        replace E_b_136 := E_b_136.keep K149
        replace F_value_b_136 := F_value_b_136.keep K149 (ninS ne_b_136_b146_b nin0)
        replace E_b_138 := E_b_138.keep K149
        replace F_value_b_138 := F_value_b_138.keep K149 (ninS ne_b_138_b146_b nin0)
        replace E_b_140 := E_b_140.keep K149
        replace F_value_b_140 := F_value_b_140.keep K149 (ninS ne_b_140_b146_b nin0)
        replace F_filled_sto_141 := F_filled_sto_141.keep K149 (ninS ne_b17_b_b146_b nin0)
        replace F_items_sto_141 := F_items_sto_141.keep K149 (ninS ne_b17_b_b146_b nin0)
        replace V_arr_141 := V_arr_141.keep K149 (ninS ne_b17_c_b146_b nin0)
        replace E_b_142 := E_b_142.keep K149
        replace F_value_b_142 := F_value_b_142.keep K149 (ninS ne_b_142_b146_b nin0)
        replace F_store_a1_143 := F_store_a1_143.keep K149 (ninS ne_b16_b146_b nin0)
        replace F_size_a1_143 := F_size_a1_143.keep K149 (ninS ne_b16_b146_b nin0)
        replace E_b_143 := E_b_143.keep K149
        replace F_filled_b_143 := F_filled_b_143.keep K149 (ninS ne_b143_b_b146_b nin0)
        replace F_items_b_143 := F_items_b_143.keep K149 (ninS ne_b143_b_b146_b nin0)
        replace E_c_143 := E_c_143.keep K149
        replace V_c_143 := V_c_143.keep K149 (ninS ne_b143_c_b146_b nin0)
        replace E_b_146 := E_b_146.keep K149
        replace O0 := O0.keep K149 (allS g_b146_b all0)
        replace KC := KC.trans K149 (allS (Or.inr sz_b146_b) all0)
        obtain ⟨fs, hr, hrun, hended, hW, hsame⟩ := X149.leave (v := some (.int (1 : Int32))) (fun h => by rw [Bd.returns] at h; cases h)
        refine ⟨_, _, pre147 _ ?_, hrun, hended, _, _, rfl, ?_, ⟨_, rfl⟩, hW, hsame.mono (by decide) (by decide)⟩
        · show SS p e below m T146 183 #[vi p1, vi p2, vi p3, vi p4, vi p5, vi p6, vi (5 : Int32), vi c1, vi c2, vr b5, vr b16, vr b146_b] [(.int c2)] _
          refine XS.ifYes X146.here hx rfl (pc0 := 183) (pc' := 197) rfl (hb hby at_183) rfl ((if0 _ _).trans (teq hc183_148).1) (by decide) (by decide) ?_
          show SS p e below m T146 197 #[vi p1, vi p2, vi p3, vi p4, vi p5, vi p6, vi (5 : Int32), vi c1, vi c2, vr b5, vr b16, vr b146_b] [] _
          refine st149 _ ?_
          show SS p e below m T149 282 #[vi p1, vi p2, vi p3, vi p4, vi p5, vi p6, vi (5 : Int32), vi c1, vi c2, vr b5, vr b16, vr b146_b] [(.int (0 : Int32))] _
          refine XS.ifNo X149.here hx rfl (hb hby at_282) rfl ((if0 _ _).trans (teq (by decide)).2) ?_
          show SS p e below m T149 285 #[vi p1, vi p2, vi p3, vi p4, vi p5, vi p6, vi (5 : Int32), vi c1, vi c2, vr b5, vr b16, vr b146_b] [] _
          refine XS.iconst X149.here hx rfl (hb hby at_285) ?_
          show SS p e below m T149 286 #[vi p1, vi p2, vi p3, vi p4, vi p5, vi p6, vi (5 : Int32), vi c1, vi c2, vr b5, vr b16, vr b146_b] [(.int (1 : Int32))] _
          refine XS.goto X149.here hx rfl (pc0 := 286) (pc' := 290) rfl (hb hby at_286) (by decide) (by decide) ?_
          show SS p e below m T149 290 #[vi p1, vi p2, vi p3, vi p4, vi p5, vi p6, vi (5 : Int32), vi c1, vi c2, vr b5, vr b16, vr b146_b] [(.int (1 : Int32))] _
          exact retN X149 hx (t := .boolean) Bd.returns (by simp) (hb hby at_290) hr
        · show Q_rm0 Z p1 p2 p3 p4 p5 p6 cA cl mr h0 n0 _ T149.heap _
          rw [e149]
          exact ⟨rfl, N149, KC⟩
      · obtain ⟨_, _, ⟨T150, L150, kz150, nz150⟩, -, X150, ⟨Lc150, hQ150, l150, y150, z150⟩, st150⟩ := Jvm.LawKit.callS X146 hx (y := y_5) hown (mvT hZ (ww hw 30 rfl)) (mvT hZ (ww hw 31 rfl)) (mvT hZ (ww hw 32 rfl)) (mvT hZ (ww hw 33 rfl)) (by decide) (backOf (W := 1) (rmVo l Z a0 hw [] (p2 ^^^ p4) cA cl T146.heap n0 (Nat.le_trans Z0 KC.1) O0 S_high S_cache BX) hZ (ww hw 33 rfl) (ww hw 32 rfl) (by decide) (by decide)) (g := (mkF m 191 #[vi p1, vi p2, vi p3, vi p4, vi p5, vi p6, vi (5 : Int32), vi c1, vi c2, vr b5, vr b16, vr b146_b] [(.int (p2 ^^^ p4)), (.ref b16)])) rfl (by rw [hml]; rfl) (argsL := [(.int (p2 ^^^ p4))]) (rest := [(.ref b16)]) (lenOf pd_14 rfl) rfl (by show 2 * 0 + _ ≤ _; exact Nat.le_of_eq rfl) (hb hby at_191) (fun _ _ => ⟨rfl, rfl, (by decide : 12 + 1 ≤ _), (by decide : 33 + 1 ≤ _)⟩)
        dsimp only [Pt.U, Pt.locs, Pt.cells, Pt.slots] at X150 l150 y150 z150 st150 hQ150
        subst l150 y150 z150
        obtain ⟨b_150, rfl, N150q, K150, E_b_150, F_value_b_150⟩ := hQ150
        have N150 := Fr.app N146 N150q
        replace Vm15 := Vm15.keep K150 nin0
        replace A16 := A16.keep K150
        replace E_b_17 := E_b_17.keep K150
        replace E_c_17 := E_c_17.keep K150
        replace E_b_134 := E_b_134.keep K150
        replace F_value_b_134 := F_value_b_134.keep K150 nin0
        replace E_b_136 := E_b_136.keep K150
        replace F_value_b_136 := F_value_b_136.keep K150 nin0
        replace E_b_138 := E_b_138.keep K150
        replace F_value_b_138 := F_value_b_138.keep K150 nin0
        replace E_b_140 := E_b_140.keep K150
        replace F_value_b_140 := F_value_b_140.keep K150 nin0
        replace F_filled_sto_141 := F_filled_sto_141.keep K150 nin0
        replace F_items_sto_141 := F_items_sto_141.keep K150 nin0
        replace V_arr_141 := V_arr_141.keep K150 nin0
        replace E_b_142 := E_b_142.keep K150
        replace F_value_b_142 := F_value_b_142.keep K150 nin0
        replace F_store_a1_143 := F_store_a1_143.keep K150 nin0
        replace F_size_a1_143 := F_size_a1_143.keep K150 nin0
        replace E_b_143 := E_b_143.keep K150
        replace F_filled_b_143 := F_filled_b_143.keep K150 nin0
        replace F_items_b_143 := F_items_b_143.keep K150 nin0
        replace E_c_143 := E_c_143.keep K150
        replace V_c_143 := V_c_143.keep K150 nin0
        replace E_b_146 := E_b_146.keep K150
        replace F_val_length_b_146 := F_val_length_b_146.keep K150 nin0
        replace F_val_items_b_146 := F_val_items_b_146.keep K150 nin0
        replace F_next_b_146 := F_next_b_146.keep K150 nin0
        replace O0 := O0.keep K150 all0
        replace KC := KC.trans K150 all0
        obtain ⟨cq151, kq151, q151a, q151b, q151c⟩ := isOf hZ rfl A16
        obtain ⟨_, _, ⟨T151, L151, kz151, nz151⟩, -, X151, ⟨Lc151, hQ151, l151, y151, z151⟩, st151⟩ := X150.virtualBack hx (y := y_12) (z := y_12) hown (mvT hZ (ww hw 37 rfl)) (mvT hZ (ww hw 38 rfl)) (notFace_of_selects (args := #[]) (mvT hZ (ww hw 40 rfl))) (mvT hZ (ww hw 40 rfl)) (mvT hZ (ww hw 39 rfl)) (by decide) (backOf (W := 0) (rmAddA l Z a0 hw [] b16 b_150 b143_b (5 : Int32) (5 : Int32) b143_c k2_143 (8 : Int32) [(.ref b_134), (.ref b_136), (.ref b_138), (.ref b_140), (.ref b_142), .null, .null, .null, .null, .null] (6 : Int32) [(.ref b_134), (.ref b_136), (.ref b_138), (.ref b_140), (.ref b_142), (.ref b_150), .null, .null, .null, .null] T150.heap n0 (Nat.le_trans Z0 KC.1) O0 F_store_a1_143 F_size_a1_143 A16 E_b_143 F_filled_b_143 F_items_b_143 E_c_143 V_c_143 E_b_150 g_b16 g_b143_b g_b143_c hq143_0 (by decide) (by decide) (by decide) (by decide) (by decide) rfl (Nat.le_of_ble_eq_true rfl)) hZ (ww hw 41 rfl) (ww hw 3 rfl) (by decide) (by decide)) q151a q151c (g := (mkF m 194 #[vi p1, vi p2, vi p3, vi p4, vi p5, vi p6, vi (5 : Int32), vi c1, vi c2, vr b5, vr b16, vr b146_b] [(.ref b_150), (.ref b16)])) rfl (by rw [hml]; rfl) (Steps.refl _) (argsL := [(.ref b_150)]) (rest := []) (lenOf pd_15 rfl) rfl (by show 2 * 0 + _ ≤ _; exact Nat.le_of_eq rfl) (hb hby at_194) (fun _ _ => ⟨rfl, rfl, (by decide : 13 + 0 ≤ _), (by decide : 34 + 0 ≤ _)⟩)
        dsimp only [Pt.U, Pt.locs, Pt.cells, Pt.slots] at X151 l151 y151 z151 st151 hQ151
        subst l151 y151 z151
        obtain ⟨rfl, N151q, K151, F_store_a1_151, F_size_a1_151, F_filled_sto_151, F_items_sto_151, V_arr_151⟩ := hQ151
        have N151 := Fr.app N150 N151q
        have nec_b_150_b143_c : b_150 ≠ b143_c := Exa.ne E_b_150 E_c_143 (by decide)
        have nec_b_150_b143_b : b_150 ≠ b143_b := Exa.ne E_b_150 E_b_143 (by decide)
        have nec_b_150_b16 : b_150 ≠ b16 := Exa.ne E_b_150 A16 (by decide)
        replace Vm15 := Vm15.keep K151 (ninS ne_b5_b16 (ninS ne_b5_b143_b (ninS ne_b5_b143_c nin0)))
        replace A16 := A16.keep K151
        replace E_b_17 := E_b_17.keep K151
        replace E_c_17 := E_c_17.keep K151
        replace E_b_134 := E_b_134.keep K151
        replace F_value_b_134 := F_value_b_134.keep K151 (ninS nec_b_134_b16 (ninS ne_b_134_b143_b (ninS ne_b_134_b143_c nin0)))
        replace E_b_136 := E_b_136.keep K151
        replace F_value_b_136 := F_value_b_136.keep K151 (ninS nec_b_136_b16 (ninS ne_b_136_b143_b (ninS ne_b_136_b143_c nin0)))
        replace E_b_138 := E_b_138.keep K151
        replace F_value_b_138 := F_value_b_138.keep K151 (ninS nec_b_138_b16 (ninS ne_b_138_b143_b (ninS ne_b_138_b143_c nin0)))
        replace E_b_140 := E_b_140.keep K151
        replace F_value_b_140 := F_value_b_140.keep K151 (ninS nec_b_140_b16 (ninS ne_b_140_b143_b (ninS ne_b_140_b143_c nin0)))
        replace F_filled_sto_141 := F_filled_sto_141.keep K151 (ninS (Ne.symm ne_b16_b17_b) (ninS ne_b17_b_b143_b (ninS ne_b17_b_b143_c nin0)))
        replace F_items_sto_141 := F_items_sto_141.keep K151 (ninS (Ne.symm ne_b16_b17_b) (ninS ne_b17_b_b143_b (ninS ne_b17_b_b143_c nin0)))
        replace V_arr_141 := V_arr_141.keep K151 (ninS (Ne.symm ne_b16_b17_c) (ninS ne_b17_c_b143_b (ninS ne_b17_c_b143_c nin0)))
        replace E_b_142 := E_b_142.keep K151
        replace F_value_b_142 := F_value_b_142.keep K151 (ninS nec_b_142_b16 (ninS ne_b_142_b143_b (ninS ne_b_142_b143_c nin0)))
        replace E_b_143 := E_b_143.keep K151
        replace E_c_143 := E_c_143.keep K151
        replace E_b_146 := E_b_146.keep K151
        replace F_val_length_b_146 := F_val_length_b_146.keep K151 (ninS (Ne.symm ne_b16_b146_b) (ninS (Ne.symm ne_b143_b_b146_b) (ninS (Ne.symm ne_b143_c_b146_b) nin0)))
        replace F_val_items_b_146 := F_val_items_b_146.keep K151 (ninS (Ne.symm ne_b16_b146_b) (ninS (Ne.symm ne_b143_b_b146_b) (ninS (Ne.symm ne_b143_c_b146_b) nin0)))
        replace F_next_b_146 := F_next_b_146.keep K151 (ninS (Ne.symm ne_b16_b146_b) (ninS (Ne.symm ne_b143_b_b146_b) (ninS (Ne.symm ne_b143_c_b146_b) nin0)))
        replace E_b_150 := E_b_150.keep K151
        replace F_value_b_150 := F_value_b_150.keep K151 (ninS nec_b_150_b16 (ninS nec_b_150_b143_b (ninS nec_b_150_b143_c nin0)))
        replace O0 := O0.keep K151 (allS g_b16 (allS g_b143_b (allS g_b143_c all0)))
        replace KC := KC.trans K151 (allS (Or.inr sz_b16) (allS (Or.inr sz_b143_b) (allS (Or.inr sz_b143_c) all0)))
        obtain ⟨T152, h152, L152, X152, e152, N152, K152, st152⟩ := tail5 hw X151 hx hZ hby hml hown p1 p2 p3 p4 p5 p6 c1 c2 b5 b16 b146_b b143_c k2_143 (8 : Int32) [(.ref b_134), (.ref b_136), (.ref b_138), (.ref b_140), (.ref b_142), (.ref b_150), .null, .null, .null, .null] k5 b_134 b_136 b_138 b_140 b_142 T151.heap n0 rfl (Nat.le_trans Z0 KC.1) O0 N151 F_next_b_146 F_val_length_b_146 F_val_items_b_146 E_b_146 E_c_143 V_arr_151 Vm15 g_b146_b ne_b5_b146_b E_b_134 F_value_b_134 rfl (by decide) E_b_136 F_value_b_136 rfl (by decide) E_b_138 F_value_b_138 rfl (by decide) E_b_140 F_value_b_140 rfl (by decide) E_b_142 F_value_b_142 rfl (by decide) (by decide) (by decide) (by decide) (by decide)
        have nec_b_150_b146_b : b_150 ≠ b146_b := Exa.ne E_b_150 E_b_146 (by decide)
        replace Vm15 := Vm15.keep K152 (ninS ne_b5_b146_b nin0)
        replace A16 := A16.keep K152
        replace E_b_17 := E_b_17.keep K152
        replace E_c_17 := E_c_17.keep K152
        replace E_b_134 := E_b_134.keep K152
        replace F_value_b_134 := F_value_b_134.keep K152 (ninS ne_b_134_b146_b nin0)
        replace E_b_136 := E_b_136.keep K152
        replace F_value_b_136 := F_value_b_136.keep K152 (ninS ne_b_136_b146_b nin0)
        replace E_b_138 := E_b_138.keep K152
        replace F_value_b_138 := F_value_b_138.keep K152 (ninS ne_b_138_b146_b nin0)
        replace E_b_140 := E_b_140.keep K152
        replace F_value_b_140 := F_value_b_140.keep K152 (ninS ne_b_140_b146_b nin0)
        replace F_filled_sto_141 := F_filled_sto_141.keep K152 (ninS ne_b17_b_b146_b nin0)
        replace F_items_sto_141 := F_items_sto_141.keep K152 (ninS ne_b17_b_b146_b nin0)
        replace V_arr_141 := V_arr_141.keep K152 (ninS ne_b17_c_b146_b nin0)
        replace E_b_142 := E_b_142.keep K152
        replace F_value_b_142 := F_value_b_142.keep K152 (ninS ne_b_142_b146_b nin0)
        replace E_b_143 := E_b_143.keep K152
        replace E_c_143 := E_c_143.keep K152
        replace E_b_146 := E_b_146.keep K152
        replace E_b_150 := E_b_150.keep K152
        replace F_value_b_150 := F_value_b_150.keep K152 (ninS nec_b_150_b146_b nin0)
        replace F_store_a1_151 := F_store_a1_151.keep K152 (ninS ne_b16_b146_b nin0)
        replace F_size_a1_151 := F_size_a1_151.keep K152 (ninS ne_b16_b146_b nin0)
        replace F_filled_sto_151 := F_filled_sto_151.keep K152 (ninS ne_b143_b_b146_b nin0)
        replace F_items_sto_151 := F_items_sto_151.keep K152 (ninS ne_b143_b_b146_b nin0)
        replace V_arr_151 := V_arr_151.keep K152 (ninS ne_b143_c_b146_b nin0)
        replace O0 := O0.keep K152 (allS g_b146_b all0)
        replace KC := KC.trans K152 (allS (Or.inr sz_b146_b) all0)
        obtain ⟨fs, hr, hrun, hended, hW, hsame⟩ := X152.leave (v := some (.int (1 : Int32))) (fun h => by rw [Bd.returns] at h; cases h)
        refine ⟨_, _, pre147 _ ?_, hrun, hended, _, _, rfl, ?_, ⟨_, rfl⟩, hW, hsame.mono (by decide) (by decide)⟩
        · show SS p e below m T146 183 #[vi p1, vi p2, vi p3, vi p4, vi p5, vi p6, vi (5 : Int32), vi c1, vi c2, vr b5, vr b16, vr b146_b] [(.int c2)] _
          refine XS.ifNo X146.here hx rfl (hb hby at_183) rfl ((if0 _ _).trans (feq hc183_148).1) ?_
          show SS p e below m T146 186 #[vi p1, vi p2, vi p3, vi p4, vi p5, vi p6, vi (5 : Int32), vi c1, vi c2, vr b5, vr b16, vr b146_b] [] _
          refine XS.aload X146.here hx rfl (hb hby at_186) rfl rfl ?_
          show SS p e below m T146 188 #[vi p1, vi p2, vi p3, vi p4, vi p5, vi p6, vi (5 : Int32), vi c1, vi c2, vr b5, vr b16, vr b146_b] [(.ref b16)] _
          refine XS.iloadN X146.here hx rfl (hb hby at_188) rfl ?_
          show SS p e below m T146 189 #[vi p1, vi p2, vi p3, vi p4, vi p5, vi p6, vi (5 : Int32), vi c1, vi c2, vr b5, vr b16, vr b146_b] [(.int p2), (.ref b16)] _
          refine XS.iloadN X146.here hx rfl (hb hby at_189) rfl ?_
          show SS p e below m T146 190 #[vi p1, vi p2, vi p3, vi p4, vi p5, vi p6, vi (5 : Int32), vi c1, vi c2, vr b5, vr b16, vr b146_b] [(.int p4), (.int p2), (.ref b16)] _
          refine XS.ixor X146.here hx rfl (hb hby at_190) rfl ?_
          show SS p e below m T146 191 #[vi p1, vi p2, vi p3, vi p4, vi p5, vi p6, vi (5 : Int32), vi c1, vi c2, vr b5, vr b16, vr b146_b] [(.int (p2 ^^^ p4)), (.ref b16)] _
          refine st150 _ ?_
          show SS p e below m T150 194 #[vi p1, vi p2, vi p3, vi p4, vi p5, vi p6, vi (5 : Int32), vi c1, vi c2, vr b5, vr b16, vr b146_b] [(.ref b_150), (.ref b16)] _
          refine st151.trans ?_
          show SS p e below m T151 197 #[vi p1, vi p2, vi p3, vi p4, vi p5, vi p6, vi (5 : Int32), vi c1, vi c2, vr b5, vr b16, vr b146_b] [] _
          refine st152 _ ?_
          show SS p e below m T152 282 #[vi p1, vi p2, vi p3, vi p4, vi p5, vi p6, vi (5 : Int32), vi c1, vi c2, vr b5, vr b16, vr b146_b] [(.int (0 : Int32))] _
          refine XS.ifNo X152.here hx rfl (hb hby at_282) rfl ((if0 _ _).trans (teq (by decide)).2) ?_
          show SS p e below m T152 285 #[vi p1, vi p2, vi p3, vi p4, vi p5, vi p6, vi (5 : Int32), vi c1, vi c2, vr b5, vr b16, vr b146_b] [] _
          refine XS.iconst X152.here hx rfl (hb hby at_285) ?_
          show SS p e below m T152 286 #[vi p1, vi p2, vi p3, vi p4, vi p5, vi p6, vi (5 : Int32), vi c1, vi c2, vr b5, vr b16, vr b146_b] [(.int (1 : Int32))] _
          refine XS.goto X152.here hx rfl (pc0 := 286) (pc' := 290) rfl (hb hby at_286) (by decide) (by decide) ?_
          show SS p e below m T152 290 #[vi p1, vi p2, vi p3, vi p4, vi p5, vi p6, vi (5 : Int32), vi c1, vi c2, vr b5, vr b16, vr b146_b] [(.int (1 : Int32))] _
          exact retN X152 hx (t := .boolean) Bd.returns (by simp) (hb hby at_290) hr
        · show Q_rm0 Z p1 p2 p3 p4 p5 p6 cA cl mr h0 n0 _ T152.heap _
          rw [e152]
          exact ⟨rfl, N152, KC⟩
    · obtain ⟨cq153, kq153, q153a, q153b, q153c⟩ := isOf hZ rfl A16
      obtain ⟨_, _, ⟨T153, L153, kz153, nz153⟩, -, X153, ⟨Lc153, hQ153, l153, y153, z153⟩, st153⟩ := X143.virtualBack hx (y := y_13) (z := y_13) hown (mvT hZ (ww hw 135 rfl)) (mvT hZ (ww hw 136 rfl)) (notFace_of_selects (args := #[]) (mvT hZ (ww hw 138 rfl))) (mvT hZ (ww hw 138 rfl)) (mvT hZ (ww hw 137 rfl)) (by decide) (backOf (W := 0) (rmCp l Z a0 hw [] b16 b143_b (5 : Int32) T143.heap n0 (Nat.le_trans Z0 KC.1) O0 F_store_a1_143 F_size_a1_143) hZ (ww hw 139 rfl) (ww hw 3 rfl) (by decide) (by decide)) q153a q153c (g := (mkF m 157 #[vi p1, vi p2, vi p3, vi p4, vi p5, vi p6, vi (5 : Int32), vi c1, vi c2, vr b5, vr b16, un] [(.ref b16)])) rfl (by rw [hml]; rfl) (Steps.refl _) (argsL := []) (rest := []) (lenOf pd_16 rfl) rfl (by show 2 * 0 + _ ≤ _; exact Nat.le_of_eq rfl) (hb hby at_157) (fun _ _ => ⟨rfl, rfl, (by decide : 11 + 1 ≤ _), (by decide : 30 + 2 ≤ _)⟩)
      dsimp only [Pt.U, Pt.locs, Pt.cells, Pt.slots] at X153 l153 y153 z153 st153 hQ153
      subst l153 y153 z153
      obtain ⟨b153_b, rfl, N153q, K153, sz_b153_b, E_b_153, F_store_b_153, F_size_b_153⟩ := hQ153
      have N153 := Fr.app N143 N153q
      have ne_b5_b153_b : b5 ≠ b153_b := Nat.ne_of_lt (Nat.lt_of_lt_of_le Vm15.lt sz_b153_b)
      have ne_b16_b153_b : b16 ≠ b153_b := Nat.ne_of_lt (Nat.lt_of_lt_of_le A16.lt sz_b153_b)
      have ne_b17_b_b153_b : b17_b ≠ b153_b := Nat.ne_of_lt (Nat.lt_of_lt_of_le E_b_17.lt sz_b153_b)
      have ne_b17_c_b153_b : b17_c ≠ b153_b := Nat.ne_of_lt (Nat.lt_of_lt_of_le E_c_17.lt sz_b153_b)
      have ne_b_134_b153_b : b_134 ≠ b153_b := Nat.ne_of_lt (Nat.lt_of_lt_of_le E_b_134.lt sz_b153_b)
      have ne_b_136_b153_b : b_136 ≠ b153_b := Nat.ne_of_lt (Nat.lt_of_lt_of_le E_b_136.lt sz_b153_b)
      have ne_b_138_b153_b : b_138 ≠ b153_b := Nat.ne_of_lt (Nat.lt_of_lt_of_le E_b_138.lt sz_b153_b)
      have ne_b_140_b153_b : b_140 ≠ b153_b := Nat.ne_of_lt (Nat.lt_of_lt_of_le E_b_140.lt sz_b153_b)
      have ne_b_142_b153_b : b_142 ≠ b153_b := Nat.ne_of_lt (Nat.lt_of_lt_of_le E_b_142.lt sz_b153_b)
      have ne_b143_b_b153_b : b143_b ≠ b153_b := Nat.ne_of_lt (Nat.lt_of_lt_of_le E_b_143.lt sz_b153_b)
      have ne_b143_c_b153_b : b143_c ≠ b153_b := Nat.ne_of_lt (Nat.lt_of_lt_of_le E_c_143.lt sz_b153_b)
      have g_b153_b : n0 ≤ b153_b := Nat.le_trans (Nat.le_trans Z0 KC.1) sz_b153_b
      replace sz_b153_b : h0.size ≤ b153_b := Nat.le_trans KC.1 sz_b153_b
      replace Vm15 := Vm15.keep K153 nin0
      replace A16 := A16.keep K153
      replace E_b_17 := E_b_17.keep K153
      replace E_c_17 := E_c_17.keep K153
      replace E_b_134 := E_b_134.keep K153
      replace F_value_b_134 := F_value_b_134.keep K153 nin0
      replace E_b_136 := E_b_136.keep K153
      replace F_value_b_136 := F_value_b_136.keep K153 nin0
      replace E_b_138 := E_b_138.keep K153
      replace F_value_b_138 := F_value_b_138.keep K153 nin0
      replace E_b_140 := E_b_140.keep K153
      replace F_value_b_140 := F_value_b_140.keep K153 nin0
      replace F_filled_sto_141 := F_filled_sto_141.keep K153 nin0
      replace F_items_sto_141 := F_items_sto_141.keep K153 nin0
      replace V_arr_141 := V_arr_141.keep K153 nin0
      replace E_b_142 := E_b_142.keep K153
      replace F_value_b_142 := F_value_b_142.keep K153 nin0
      replace F_store_a1_143 := F_store_a1_143.keep K153 nin0
      replace F_size_a1_143 := F_size_a1_143.keep K153 nin0
      replace E_b_143 := E_b_143.keep K153
      replace F_filled_b_143 := F_filled_b_143.keep K153 nin0
      replace F_items_b_143 := F_items_b_143.keep K153 nin0
      replace E_c_143 := E_c_143.keep K153
      replace V_c_143 := V_c_143.keep K153 nin0
      replace O0 := O0.keep K153 all0
      replace KC := KC.trans K153 all0
      obtain ⟨_, _, ⟨T154, L154, kz154, nz154⟩, -, X154, ⟨Lc154, hQ154, l154, y154, z154⟩, st154⟩ := Jvm.LawKit.callS X153 hx (y := y_5) hown (mvT hZ (ww hw 30 rfl)) (mvT hZ (ww hw 31 rfl)) (mvT hZ (ww hw 32 rfl)) (mvT hZ (ww hw 33 rfl)) (by decide) (backOf (W := 1) (rmVo l Z a0 hw [] (p1 ^^^ p5) cA cl T153.heap n0 (Nat.le_trans Z0 KC.1) O0 S_high S_cache BX) hZ (ww hw 33 rfl) (ww hw 32 rfl) (by decide) (by decide)) (g := (mkF m 168 #[vi p1, vi p2, vi p3, vi p4, vi p5, vi p6, vi (5 : Int32), vi c1, vi c2, vr b5, vr b16, vr b153_b] [(.int (p1 ^^^ p5)), (.ref b153_b)])) rfl (by rw [hml]; rfl) (argsL := [(.int (p1 ^^^ p5))]) (rest := [(.ref b153_b)]) (lenOf pd_14 rfl) rfl (by show 2 * 0 + _ ≤ _; exact Nat.le_of_eq rfl) (hb hby at_168) (fun _ _ => ⟨rfl, rfl, (by decide : 12 + 1 ≤ _), (by decide : 32 + 1 ≤ _)⟩)
      dsimp only [Pt.U, Pt.locs, Pt.cells, Pt.slots] at X154 l154 y154 z154 st154 hQ154
      subst l154 y154 z154
      obtain ⟨b_154, rfl, N154q, K154, E_b_154, F_value_b_154⟩ := hQ154
      have N154 := Fr.app N153 N154q
      replace Vm15 := Vm15.keep K154 nin0
      replace A16 := A16.keep K154
      replace E_b_17 := E_b_17.keep K154
      replace E_c_17 := E_c_17.keep K154
      replace E_b_134 := E_b_134.keep K154
      replace F_value_b_134 := F_value_b_134.keep K154 nin0
      replace E_b_136 := E_b_136.keep K154
      replace F_value_b_136 := F_value_b_136.keep K154 nin0
      replace E_b_138 := E_b_138.keep K154
      replace F_value_b_138 := F_value_b_138.keep K154 nin0
      replace E_b_140 := E_b_140.keep K154
      replace F_value_b_140 := F_value_b_140.keep K154 nin0
      replace F_filled_sto_141 := F_filled_sto_141.keep K154 nin0
      replace F_items_sto_141 := F_items_sto_141.keep K154 nin0
      replace V_arr_141 := V_arr_141.keep K154 nin0
      replace E_b_142 := E_b_142.keep K154
      replace F_value_b_142 := F_value_b_142.keep K154 nin0
      replace F_store_a1_143 := F_store_a1_143.keep K154 nin0
      replace F_size_a1_143 := F_size_a1_143.keep K154 nin0
      replace E_b_143 := E_b_143.keep K154
      replace F_filled_b_143 := F_filled_b_143.keep K154 nin0
      replace F_items_b_143 := F_items_b_143.keep K154 nin0
      replace E_c_143 := E_c_143.keep K154
      replace V_c_143 := V_c_143.keep K154 nin0
      replace E_b_153 := E_b_153.keep K154
      replace F_store_b_153 := F_store_b_153.keep K154 nin0
      replace F_size_b_153 := F_size_b_153.keep K154 nin0
      replace O0 := O0.keep K154 all0
      replace KC := KC.trans K154 all0
      obtain ⟨cq155, kq155, q155a, q155b, q155c⟩ := isOf hZ rfl E_b_153
      obtain ⟨_, _, ⟨T155, L155, kz155, nz155⟩, -, X155, ⟨Lc155, hQ155, l155, y155, z155⟩, st155⟩ := X154.virtualBack hx (y := y_12) (z := y_12) hown (mvT hZ (ww hw 37 rfl)) (mvT hZ (ww hw 38 rfl)) (notFace_of_selects (args := #[]) (mvT hZ (ww hw 40 rfl))) (mvT hZ (ww hw 40 rfl)) (mvT hZ (ww hw 39 rfl)) (by decide) (backOf (W := 0) (rmAddA l Z a0 hw [] b153_b b_154 b143_b (5 : Int32) (5 : Int32) b143_c k2_143 (8 : Int32) [(.ref b_134), (.ref b_136), (.ref b_138), (.ref b_140), (.ref b_142), .null, .null, .null, .null, .null] (6 : Int32) [(.ref b_134), (.ref b_136), (.ref b_138), (.ref b_140), (.ref b_142), (.ref b_154), .null, .null, .null, .null] T154.heap n0 (Nat.le_trans Z0 KC.1) O0 F_store_b_153 F_size_b_153 E_b_153 E_b_143 F_filled_b_143 F_items_b_143 E_c_143 V_c_143 E_b_154 g_b153_b g_b143_b g_b143_c hq143_0 (by decide) (by decide) (by decide) (by decide) (by decide) rfl (Nat.le_of_ble_eq_true rfl)) hZ (ww hw 41 rfl) (ww hw 3 rfl) (by decide) (by decide)) q155a q155c (g := (mkF m 171 #[vi p1, vi p2, vi p3, vi p4, vi p5, vi p6, vi (5 : Int32), vi c1, vi c2, vr b5, vr b16, vr b153_b] [(.ref b_154), (.ref b153_b)])) rfl (by rw [hml]; rfl) (Steps.refl _) (argsL := [(.ref b_154)]) (rest := []) (lenOf pd_15 rfl) rfl (by show 2 * 0 + _ ≤ _; exact Nat.le_of_eq rfl) (hb hby at_171) (fun _ _ => ⟨rfl, rfl, (by decide : 13 + 0 ≤ _), (by decide : 33 + 0 ≤ _)⟩)
      dsimp only [Pt.U, Pt.locs, Pt.cells, Pt.slots] at X155 l155 y155 z155 st155 hQ155
      subst l155 y155 z155
      obtain ⟨rfl, N155q, K155, F_store_a1_155, F_size_a1_155, F_filled_sto_155, F_items_sto_155, V_arr_155⟩ := hQ155
      have N155 := Fr.app N154 N155q
      have nec_b_154_b143_c : b_154 ≠ b143_c := Exa.ne E_b_154 E_c_143 (by decide)
      have nec_b_154_b143_b : b_154 ≠ b143_b := Exa.ne E_b_154 E_b_143 (by decide)
      have nec_b_154_b153_b : b_154 ≠ b153_b := Exa.ne E_b_154 E_b_153 (by decide)
      replace Vm15 := Vm15.keep K155 (ninS ne_b5_b153_b (ninS ne_b5_b143_b (ninS ne_b5_b143_c nin0)))
      replace A16 := A16.keep K155
      replace E_b_17 := E_b_17.keep K155
      replace E_c_17 := E_c_17.keep K155
      replace E_b_134 := E_b_134.keep K155
      replace F_value_b_134 := F_value_b_134.keep K155 (ninS ne_b_134_b153_b (ninS ne_b_134_b143_b (ninS ne_b_134_b143_c nin0)))
      replace E_b_136 := E_b_136.keep K155
      replace F_value_b_136 := F_value_b_136.keep K155 (ninS ne_b_136_b153_b (ninS ne_b_136_b143_b (ninS ne_b_136_b143_c nin0)))
      replace E_b_138 := E_b_138.keep K155
      replace F_value_b_138 := F_value_b_138.keep K155 (ninS ne_b_138_b153_b (ninS ne_b_138_b143_b (ninS ne_b_138_b143_c nin0)))
      replace E_b_140 := E_b_140.keep K155
      replace F_value_b_140 := F_value_b_140.keep K155 (ninS ne_b_140_b153_b (ninS ne_b_140_b143_b (ninS ne_b_140_b143_c nin0)))
      replace F_filled_sto_141 := F_filled_sto_141.keep K155 (ninS ne_b17_b_b153_b (ninS ne_b17_b_b143_b (ninS ne_b17_b_b143_c nin0)))
      replace F_items_sto_141 := F_items_sto_141.keep K155 (ninS ne_b17_b_b153_b (ninS ne_b17_b_b143_b (ninS ne_b17_b_b143_c nin0)))
      replace V_arr_141 := V_arr_141.keep K155 (ninS ne_b17_c_b153_b (ninS ne_b17_c_b143_b (ninS ne_b17_c_b143_c nin0)))
      replace E_b_142 := E_b_142.keep K155
      replace F_value_b_142 := F_value_b_142.keep K155 (ninS ne_b_142_b153_b (ninS ne_b_142_b143_b (ninS ne_b_142_b143_c nin0)))
      replace F_store_a1_143 := F_store_a1_143.keep K155 (ninS ne_b16_b153_b (ninS ne_b16_b143_b (ninS ne_b16_b143_c nin0)))
      replace F_size_a1_143 := F_size_a1_143.keep K155 (ninS ne_b16_b153_b (ninS ne_b16_b143_b (ninS ne_b16_b143_c nin0)))
      replace E_b_143 := E_b_143.keep K155
      replace E_c_143 := E_c_143.keep K155
      replace E_b_153 := E_b_153.keep K155
      replace E_b_154 := E_b_154.keep K155
      replace F_value_b_154 := F_value_b_154.keep K155 (ninS nec_b_154_b153_b (ninS nec_b_154_b143_b (ninS nec_b_154_b143_c nin0)))
      replace O0 := O0.keep K155 (allS g_b153_b (allS g_b143_b (allS g_b143_c all0)))
      replace KC := KC.trans K155 (allS (Or.inr sz_b153_b) (allS (Or.inr sz_b143_b) (allS (Or.inr sz_b143_c) all0)))
      obtain ⟨cq156, kq156, q156a, q156b, q156c⟩ := isOf hZ rfl A16
      obtain ⟨_, _, ⟨T156, L156, kz156, nz156⟩, -, X156, ⟨Lc156, hQ156, l156, y156, z156⟩, st156⟩ := X155.virtualBack hx (y := y_15) (z := y_15) hown (mvT hZ (ww hw 49 rfl)) (mvT hZ (ww hw 50 rfl)) (notFace_of_selects (args := #[]) (mvT hZ (ww hw 52 rfl))) (mvT hZ (ww hw 52 rfl)) (mvT hZ (ww hw 51 rfl)) (by decide) (backOf (W := 0) (rmIt l Z a0 hw [] b16 b143_b (5 : Int32) b143_c T155.heap n0 (Nat.le_trans Z0 KC.1) O0 F_store_a1_143 F_size_a1_143 F_items_sto_155) hZ (ww hw 53 rfl) (ww hw 3 rfl) (by decide) (by decide)) q156a q156c (g := (mkF m 176 #[vi p1, vi p2, vi p3, vi p4, vi p5, vi p6, vi (5 : Int32), vi c1, vi c2, vr b5, vr b16, vr b153_b] [(.ref b16)])) rfl (by rw [hml]; rfl) (Steps.refl _) (argsL := []) (rest := []) (lenOf pd_13 rfl) rfl (by show 2 * 0 + _ ≤ _; exact Nat.le_of_eq rfl) (hb hby at_176) (fun _ _ => ⟨rfl, rfl, (by decide : 13 + 1 ≤ _), (by decide : 33 + 3 ≤ _)⟩)
      dsimp only [Pt.U, Pt.locs, Pt.cells, Pt.slots] at X156 l156 y156 z156 st156 hQ156
      subst l156 y156 z156
      obtain ⟨b156_b, rfl, N156q, K156, sz_b156_b, E_b_156, F_val_length_b_156, F_val_items_b_156, F_next_b_156⟩ := hQ156
      have N156 := Fr.app N155 N156q
      have ne_b5_b156_b : b5 ≠ b156_b := Nat.ne_of_lt (Nat.lt_of_lt_of_le Vm15.lt sz_b156_b)
      have ne_b16_b156_b : b16 ≠ b156_b := Nat.ne_of_lt (Nat.lt_of_lt_of_le A16.lt sz_b156_b)
      have ne_b17_b_b156_b : b17_b ≠ b156_b := Nat.ne_of_lt (Nat.lt_of_lt_of_le E_b_17.lt sz_b156_b)
      have ne_b17_c_b156_b : b17_c ≠ b156_b := Nat.ne_of_lt (Nat.lt_of_lt_of_le E_c_17.lt sz_b156_b)
      have ne_b_134_b156_b : b_134 ≠ b156_b := Nat.ne_of_lt (Nat.lt_of_lt_of_le E_b_134.lt sz_b156_b)
      have ne_b_136_b156_b : b_136 ≠ b156_b := Nat.ne_of_lt (Nat.lt_of_lt_of_le E_b_136.lt sz_b156_b)
      have ne_b_138_b156_b : b_138 ≠ b156_b := Nat.ne_of_lt (Nat.lt_of_lt_of_le E_b_138.lt sz_b156_b)
      have ne_b_140_b156_b : b_140 ≠ b156_b := Nat.ne_of_lt (Nat.lt_of_lt_of_le E_b_140.lt sz_b156_b)
      have ne_b_142_b156_b : b_142 ≠ b156_b := Nat.ne_of_lt (Nat.lt_of_lt_of_le E_b_142.lt sz_b156_b)
      have ne_b143_b_b156_b : b143_b ≠ b156_b := Nat.ne_of_lt (Nat.lt_of_lt_of_le E_b_143.lt sz_b156_b)
      have ne_b143_c_b156_b : b143_c ≠ b156_b := Nat.ne_of_lt (Nat.lt_of_lt_of_le E_c_143.lt sz_b156_b)
      have ne_b153_b_b156_b : b153_b ≠ b156_b := Nat.ne_of_lt (Nat.lt_of_lt_of_le E_b_153.lt sz_b156_b)
      have ne_b_154_b156_b : b_154 ≠ b156_b := Nat.ne_of_lt (Nat.lt_of_lt_of_le E_b_154.lt sz_b156_b)
      have g_b156_b : n0 ≤ b156_b := Nat.le_trans (Nat.le_trans Z0 KC.1) sz_b156_b
      replace sz_b156_b : h0.size ≤ b156_b := Nat.le_trans KC.1 sz_b156_b
      replace Vm15 := Vm15.keep K156 nin0
      replace A16 := A16.keep K156
      replace E_b_17 := E_b_17.keep K156
      replace E_c_17 := E_c_17.keep K156
      replace E_b_134 := E_b_134.keep K156
      replace F_value_b_134 := F_value_b_134.keep K156 nin0
      replace E_b_136 := E_b_136.keep K156
      replace F_value_b_136 := F_value_b_136.keep K156 nin0
      replace E_b_138 := E_b_138.keep K156
      replace F_value_b_138 := F_value_b_138.keep K156 nin0
      replace E_b_140 := E_b_140.keep K156
      replace F_value_b_140 := F_value_b_140.keep K156 nin0
      replace F_filled_sto_141 := F_filled_sto_141.keep K156 nin0
      replace F_items_sto_141 := F_items_sto_141.keep K156 nin0
      replace V_arr_141 := V_arr_141.keep K156 nin0
      replace E_b_142 := E_b_142.keep K156
      replace F_value_b_142 := F_value_b_142.keep K156 nin0
      replace F_store_a1_143 := F_store_a1_143.keep K156 nin0
      replace F_size_a1_143 := F_size_a1_143.keep K156 nin0
      replace E_b_143 := E_b_143.keep K156
      replace E_c_143 := E_c_143.keep K156
      replace E_b_153 := E_b_153.keep K156
      replace E_b_154 := E_b_154.keep K156
      replace F_value_b_154 := F_value_b_154.keep K156 nin0
      replace F_store_a1_155 := F_store_a1_155.keep K156 nin0
      replace F_size_a1_155 := F_size_a1_155.keep K156 nin0
      replace F_filled_sto_155 := F_filled_sto_155.keep K156 nin0
      replace F_items_sto_155 := F_items_sto_155.keep K156 nin0
      replace V_arr_155 := V_arr_155.keep K156 nin0
      replace O0 := O0.keep K156 all0
      replace KC := KC.trans K156 all0
      have pre157 : ∀ t, Steps p.tables e below (T156.setTop (mkF m 183 #[vi p1, vi p2, vi p3, vi p4, vi p5, vi p6, vi (5 : Int32), vi c1, vi c2, vr b5, vr b16, vr b156_b] [(.int c2)])) t → Steps p.tables e below (s₁.setTop (entryFrame m #[(.int p1), (.int p2), (.int p3), (.int p4), (.int p5), (.int p6)] maxLocals)) t := by
        intro t kt
        refine pre144 t ?_
        show SS p e below m T143 152 #[vi p1, vi p2, vi p3, vi p4, vi p5, vi p6, vi (5 : Int32), vi c1, vi c2, vr b5, vr b16, un] [(.int c1)] _
        refine XS.ifNo X143.here hx rfl (hb hby at_152) rfl ((if0 _ _).trans (feq hc152_145).1) ?_
        show SS p e below m T143 155 #[vi p1, vi p2, vi p3, vi p4, vi p5, vi p6, vi (5 : Int32), vi c1, vi c2, vr b5, vr b16, un] [] _
        refine XS.aload X143.here hx rfl (hb hby at_155) rfl rfl ?_
        show SS p e below m T143 157 #[vi p1, vi p2, vi p3, vi p4, vi p5, vi p6, vi (5 : Int32), vi c1, vi c2, vr b5, vr b16, un] [(.ref b16)] _
        refine st153.trans ?_
        show SS p e below m T153 160 #[vi p1, vi p2, vi p3, vi p4, vi p5, vi p6, vi (5 : Int32), vi c1, vi c2, vr b5, vr b16, un] [(.ref b153_b)] _
        refine XS.astore X153.here hx rfl (hb hby at_160) rfl rfl (l' := #[vi p1, vi p2, vi p3, vi p4, vi p5, vi p6, vi (5 : Int32), vi c1, vi c2, vr b5, vr b16, vr b153_b]) rfl ?_
        show SS p e below m T153 162 #[vi p1, vi p2, vi p3, vi p4, vi p5, vi p6, vi (5 : Int32), vi c1, vi c2, vr b5, vr b16, vr b153_b] [] _
        refine XS.aload X153.here hx rfl (hb hby at_162) rfl rfl ?_
        show SS p e below m T153 164 #[vi p1, vi p2, vi p3, vi p4, vi p5, vi p6, vi (5 : Int32), vi c1, vi c2, vr b5, vr b16, vr b153_b] [(.ref b153_b)] _
        refine XS.iloadN X153.here hx rfl (hb hby at_164) rfl ?_
        show SS p e below m T153 165 #[vi p1, vi p2, vi p3, vi p4, vi p5, vi p6, vi (5 : Int32), vi c1, vi c2, vr b5, vr b16, vr b153_b] [(.int p1), (.ref b153_b)] _
        refine XS.iload X153.here hx rfl (hb hby at_165) rfl ?_
        show SS p e below m T153 167 #[vi p1, vi p2, vi p3, vi p4, vi p5, vi p6, vi (5 : Int32), vi c1, vi c2, vr b5, vr b16, vr b153_b] [(.int p5), (.int p1), (.ref b153_b)] _
        refine XS.ixor X153.here hx rfl (hb hby at_167) rfl ?_
        show SS p e below m T153 168 #[vi p1, vi p2, vi p3, vi p4, vi p5, vi p6, vi (5 : Int32), vi c1, vi c2, vr b5, vr b16, vr b153_b] [(.int (p1 ^^^ p5)), (.ref b153_b)] _
        refine st154 _ ?_
        show SS p e below m T154 171 #[vi p1, vi p2, vi p3, vi p4, vi p5, vi p6, vi (5 : Int32), vi c1, vi c2, vr b5, vr b16, vr b153_b] [(.ref b_154), (.ref b153_b)] _
        refine st155.trans ?_
        show SS p e below m T155 174 #[vi p1, vi p2, vi p3, vi p4, vi p5, vi p6, vi (5 : Int32), vi c1, vi c2, vr b5, vr b16, vr b153_b] [] _
        refine XS.aload X155.here hx rfl (hb hby at_174) rfl rfl ?_
        show SS p e below m T155 176 #[vi p1, vi p2, vi p3, vi p4, vi p5, vi p6, vi (5 : Int32), vi c1, vi c2, vr b5, vr b16, vr b153_b] [(.ref b16)] _
        refine st156.trans ?_
        show SS p e below m T156 179 #[vi p1, vi p2, vi p3, vi p4, vi p5, vi p6, vi (5 : Int32), vi c1, vi c2, vr b5, vr b16, vr b153_b] [(.ref b156_b)] _
        refine XS.astore X156.here hx rfl (hb hby at_179) rfl rfl (l' := #[vi p1, vi p2, vi p3, vi p4, vi p5, vi p6, vi (5 : Int32), vi c1, vi c2, vr b5, vr b16, vr b156_b]) rfl ?_
        show SS p e below m T156 181 #[vi p1, vi p2, vi p3, vi p4, vi p5, vi p6, vi (5 : Int32), vi c1, vi c2, vr b5, vr b16, vr b156_b] [] _
        refine XS.iload X156.here hx rfl (hb hby at_181) rfl ?_
        exact kt
      by_cases hc183_158 : c2 = (0 : Int32)
      · obtain ⟨T159, h159, L159, X159, e159, N159, K159, st159⟩ := tail5 hw X156 hx hZ hby hml hown p1 p2 p3 p4 p5 p6 c1 c2 b5 b16 b156_b b143_c k2_143 (8 : Int32) [(.ref b_134), (.ref b_136), (.ref b_138), (.ref b_140), (.ref b_142), (.ref b_154), .null, .null, .null, .null] k5 b_134 b_136 b_138 b_140 b_142 T156.heap n0 rfl (Nat.le_trans Z0 KC.1) O0 N156 F_next_b_156 F_val_length_b_156 F_val_items_b_156 E_b_156 E_c_143 V_arr_155 Vm15 g_b156_b ne_b5_b156_b E_b_134 F_value_b_134 rfl (by decide) E_b_136 F_value_b_136 rfl (by decide) E_b_138 F_value_b_138 rfl (by decide) E_b_140 F_value_b_140 rfl (by decide) E_b_142 F_value_b_142 rfl (by decide) (by decide) (by decide) (by decide) (by decide)
        replace Vm15 := Vm15.keep K159 (ninS ne_b5_b156_b nin0)
        replace A16 := A16.keep K159
        replace E_b_17 := E_b_17.keep K159
        replace E_c_17 := E_c_17.keep K159
        replace E_b_134 := E_b_134.keep K159
        replace F_value_b_134 := F_value_b_134.keep K159 (ninS ne_b_134_b156_b nin0)
        replace E_b_136 := E_b_136.keep K159
        replace F_value_b_136 := F_value_b_136.keep K159 (ninS ne_b_136_b156_b nin0)
        replace E_b_138 := E_b_138.keep K159
        replace F_value_b_138 := F_value_b_138.keep K159 (ninS ne_b_138_b156_b nin0)
        replace E_b_140 := E_b_140.keep K159
        replace F_value_b_140 := F_value_b_140.keep K159 (ninS ne_b_140_b156_b nin0)
        replace F_filled_sto_141 := F_filled_sto_141.keep K159 (ninS ne_b17_b_b156_b nin0)
        replace F_items_sto_141 := F_items_sto_141.keep K159 (ninS ne_b17_b_b156_b nin0)
        replace V_arr_141 := V_arr_141.keep K159 (ninS ne_b17_c_b156_b nin0)
        replace E_b_142 := E_b_142.keep K159
        replace F_value_b_142 := F_value_b_142.keep K159 (ninS ne_b_142_b156_b nin0)
        replace F_store_a1_143 := F_store_a1_143.keep K159 (ninS ne_b16_b156_b nin0)
        replace F_size_a1_143 := F_size_a1_143.keep K159 (ninS ne_b16_b156_b nin0)
        replace E_b_143 := E_b_143.keep K159
        replace E_c_143 := E_c_143.keep K159
        replace E_b_153 := E_b_153.keep K159
        replace E_b_154 := E_b_154.keep K159
        replace F_value_b_154 := F_value_b_154.keep K159 (ninS ne_b_154_b156_b nin0)
        replace F_store_a1_155 := F_store_a1_155.keep K159 (ninS ne_b153_b_b156_b nin0)
        replace F_size_a1_155 := F_size_a1_155.keep K159 (ninS ne_b153_b_b156_b nin0)
        replace F_filled_sto_155 := F_filled_sto_155.keep K159 (ninS ne_b143_b_b156_b nin0)
        replace F_items_sto_155 := F_items_sto_155.keep K159 (ninS ne_b143_b_b156_b nin0)
        replace V_arr_155 := V_arr_155.keep K159 (ninS ne_b143_c_b156_b nin0)
        replace E_b_156 := E_b_156.keep K159
        replace O0 := O0.keep K159 (allS g_b156_b all0)
        replace KC := KC.trans K159 (allS (Or.inr sz_b156_b) all0)
        obtain ⟨fs, hr, hrun, hended, hW, hsame⟩ := X159.leave (v := some (.int (1 : Int32))) (fun h => by rw [Bd.returns] at h; cases h)
        refine ⟨_, _, pre157 _ ?_, hrun, hended, _, _, rfl, ?_, ⟨_, rfl⟩, hW, hsame.mono (by decide) (by decide)⟩
        · show SS p e below m T156 183 #[vi p1, vi p2, vi p3, vi p4, vi p5, vi p6, vi (5 : Int32), vi c1, vi c2, vr b5, vr b16, vr b156_b] [(.int c2)] _
          refine XS.ifYes X156.here hx rfl (pc0 := 183) (pc' := 197) rfl (hb hby at_183) rfl ((if0 _ _).trans (teq hc183_158).1) (by decide) (by decide) ?_
          show SS p e below m T156 197 #[vi p1, vi p2, vi p3, vi p4, vi p5, vi p6, vi (5 : Int32), vi c1, vi c2, vr b5, vr b16, vr b156_b] [] _
          refine st159 _ ?_
          show SS p e below m T159 282 #[vi p1, vi p2, vi p3, vi p4, vi p5, vi p6, vi (5 : Int32), vi c1, vi c2, vr b5, vr b16, vr b156_b] [(.int (0 : Int32))] _
          refine XS.ifNo X159.here hx rfl (hb hby at_282) rfl ((if0 _ _).trans (teq (by decide)).2) ?_
          show SS p e below m T159 285 #[vi p1, vi p2, vi p3, vi p4, vi p5, vi p6, vi (5 : Int32), vi c1, vi c2, vr b5, vr b16, vr b156_b] [] _
          refine XS.iconst X159.here hx rfl (hb hby at_285) ?_
          show SS p e below m T159 286 #[vi p1, vi p2, vi p3, vi p4, vi p5, vi p6, vi (5 : Int32), vi c1, vi c2, vr b5, vr b16, vr b156_b] [(.int (1 : Int32))] _
          refine XS.goto X159.here hx rfl (pc0 := 286) (pc' := 290) rfl (hb hby at_286) (by decide) (by decide) ?_
          show SS p e below m T159 290 #[vi p1, vi p2, vi p3, vi p4, vi p5, vi p6, vi (5 : Int32), vi c1, vi c2, vr b5, vr b16, vr b156_b] [(.int (1 : Int32))] _
          exact retN X159 hx (t := .boolean) Bd.returns (by simp) (hb hby at_290) hr
        · show Q_rm0 Z p1 p2 p3 p4 p5 p6 cA cl mr h0 n0 _ T159.heap _
          rw [e159]
          exact ⟨rfl, N159, KC⟩
      · obtain ⟨_, _, ⟨T160, L160, kz160, nz160⟩, -, X160, ⟨Lc160, hQ160, l160, y160, z160⟩, st160⟩ := Jvm.LawKit.callS X156 hx (y := y_5) hown (mvT hZ (ww hw 30 rfl)) (mvT hZ (ww hw 31 rfl)) (mvT hZ (ww hw 32 rfl)) (mvT hZ (ww hw 33 rfl)) (by decide) (backOf (W := 1) (rmVo l Z a0 hw [] (p2 ^^^ p4) cA cl T156.heap n0 (Nat.le_trans Z0 KC.1) O0 S_high S_cache BX) hZ (ww hw 33 rfl) (ww hw 32 rfl) (by decide) (by decide)) (g := (mkF m 191 #[vi p1, vi p2, vi p3, vi p4, vi p5, vi p6, vi (5 : Int32), vi c1, vi c2, vr b5, vr b16, vr b156_b] [(.int (p2 ^^^ p4)), (.ref b16)])) rfl (by rw [hml]; rfl) (argsL := [(.int (p2 ^^^ p4))]) (rest := [(.ref b16)]) (lenOf pd_14 rfl) rfl (by show 2 * 0 + _ ≤ _; exact Nat.le_of_eq rfl) (hb hby at_191) (fun _ _ => ⟨rfl, rfl, (by decide : 14 + 1 ≤ _), (by decide : 36 + 1 ≤ _)⟩)
        dsimp only [Pt.U, Pt.locs, Pt.cells, Pt.slots] at X160 l160 y160 z160 st160 hQ160
        subst l160 y160 z160
        obtain ⟨b_160, rfl, N160q, K160, E_b_160, F_value_b_160⟩ := hQ160
        have N160 := Fr.app N156 N160q
        replace Vm15 := Vm15.keep K160 nin0
        replace A16 := A16.keep K160
        replace E_b_17 := E_b_17.keep K160
        replace E_c_17 := E_c_17.keep K160
        replace E_b_134 := E_b_134.keep K160
        replace F_value_b_134 := F_value_b_134.keep K160 nin0
        replace E_b_136 := E_b_136.keep K160
        replace F_value_b_136 := F_value_b_136.keep K160 nin0
        replace E_b_138 := E_b_138.keep K160
        replace F_value_b_138 := F_value_b_138.keep K160 nin0
        replace E_b_140 := E_b_140.keep K160
        replace F_value_b_140 := F_value_b_140.keep K160 nin0
        replace F_filled_sto_141 := F_filled_sto_141.keep K160 nin0
        replace F_items_sto_141 := F_items_sto_141.keep K160 nin0
        replace V_arr_141 := V_arr_141.keep K160 nin0
        replace E_b_142 := E_b_142.keep K160
        replace F_value_b_142 := F_value_b_142.keep K160 nin0
        replace F_store_a1_143 := F_store_a1_143.keep K160 nin0
        replace F_size_a1_143 := F_size_a1_143.keep K160 nin0
        replace E_b_143 := E_b_143.keep K160
        replace E_c_143 := E_c_143.keep K160
        replace E_b_153 := E_b_153.keep K160
        replace E_b_154 := E_b_154.keep K160
        replace F_value_b_154 := F_value_b_154.keep K160 nin0
        replace F_store_a1_155 := F_store_a1_155.keep K160 nin0
        replace F_size_a1_155 := F_size_a1_155.keep K160 nin0
        replace F_filled_sto_155 := F_filled_sto_155.keep K160 nin0
        replace F_items_sto_155 := F_items_sto_155.keep K160 nin0
        replace V_arr_155 := V_arr_155.keep K160 nin0
        replace E_b_156 := E_b_156.keep K160
        replace F_val_length_b_156 := F_val_length_b_156.keep K160 nin0
        replace F_val_items_b_156 := F_val_items_b_156.keep K160 nin0
        replace F_next_b_156 := F_next_b_156.keep K160 nin0
        replace O0 := O0.keep K160 all0
        replace KC := KC.trans K160 all0
        obtain ⟨cq161, kq161, q161a, q161b, q161c⟩ := isOf hZ rfl A16
        obtain ⟨_, _, ⟨T161, L161, kz161, nz161⟩, -, X161, ⟨Lc161, hQ161, l161, y161, z161⟩, st161⟩ := X160.virtualBack hx (y := y_12) (z := y_12) hown (mvT hZ (ww hw 37 rfl)) (mvT hZ (ww hw 38 rfl)) (notFace_of_selects (args := #[]) (mvT hZ (ww hw 40 rfl))) (mvT hZ (ww hw 40 rfl)) (mvT hZ (ww hw 39 rfl)) (by decide) (backOf (W := 0) (rmAddB l Z a0 hw [] b16 b_160 b143_b (5 : Int32) (6 : Int32) b143_c k2_143 (8 : Int32) [(.ref b_134), (.ref b_136), (.ref b_138), (.ref b_140), (.ref b_142), (.ref b_154), .null, .null, .null, .null] mr (10 : Int32) (8 : Int32) [(.ref b_134), (.ref b_136), (.ref b_138), (.ref b_140), (.ref b_142), (.ref b_154), .null, .null, .null, .null] (6 : Int32) [(.ref b_134), (.ref b_136), (.ref b_138), (.ref b_140), (.ref b_142), (.ref b_160), .null, .null, .null, .null] T160.heap n0 (Nat.le_trans Z0 KC.1) O0 F_store_a1_143 F_size_a1_143 A16 E_b_143 F_filled_sto_155 F_items_sto_155 E_c_143 V_arr_155 E_b_160 g_b16 MIR (Or.inl (by decide)) (by decide) (by decide) (by decide) (by decide) (by decide) (by decide) (by decide) rfl (own_els_cons (Or.inr ⟨_, rfl, E_b_134⟩) (own_els_cons (Or.inr ⟨_, rfl, E_b_136⟩) (own_els_cons (Or.inr ⟨_, rfl, E_b_138⟩) (own_els_cons (Or.inr ⟨_, rfl, E_b_140⟩) (own_els_cons (Or.inr ⟨_, rfl, E_b_142⟩) (own_els_cons (Or.inr ⟨_, rfl, E_b_154⟩) (own_els_cons (Or.inl rfl) (own_els_cons (Or.inl rfl) (own_els_cons (Or.inl rfl) (own_els_cons (Or.inl rfl) own_els_nil)))))))))) (by decide) (by decide) (by decide) rfl (Nat.le_of_ble_eq_true rfl)) hZ (ww hw 41 rfl) (ww hw 3 rfl) (by decide) (by decide)) q161a q161c (g := (mkF m 194 #[vi p1, vi p2, vi p3, vi p4, vi p5, vi p6, vi (5 : Int32), vi c1, vi c2, vr b5, vr b16, vr b156_b] [(.ref b_160), (.ref b16)])) rfl (by rw [hml]; rfl) (Steps.refl _) (argsL := [(.ref b_160)]) (rest := []) (lenOf pd_15 rfl) rfl (by show 2 * 0 + _ ≤ _; exact Nat.le_of_eq rfl) (hb hby at_194) (fun _ _ => ⟨rfl, rfl, (by decide : 15 + 2 ≤ _), (by decide : 37 + 12 ≤ _)⟩)
        dsimp only [Pt.U, Pt.locs, Pt.cells, Pt.slots] at X161 l161 y161 z161 st161 hQ161
        subst l161 y161 z161
        obtain ⟨b161_b, b161_c, k2_161, rfl, N161q, K161, sz_b161_b, sz_b161_c, F_store_a1_161, F_size_a1_161, E_b_161, F_filled_b_161, F_items_b_161, E_c_161, V_c_161, hq161_0⟩ := hQ161
        have N161 := Fr.app N160 N161q
        have ne_b5_b161_b : b5 ≠ b161_b := Nat.ne_of_lt (Nat.lt_of_lt_of_le Vm15.lt sz_b161_b)
        have ne_b16_b161_b : b16 ≠ b161_b := Nat.ne_of_lt (Nat.lt_of_lt_of_le A16.lt sz_b161_b)
        have ne_b17_b_b161_b : b17_b ≠ b161_b := Nat.ne_of_lt (Nat.lt_of_lt_of_le E_b_17.lt sz_b161_b)
        have ne_b17_c_b161_b : b17_c ≠ b161_b := Nat.ne_of_lt (Nat.lt_of_lt_of_le E_c_17.lt sz_b161_b)
        have ne_b_134_b161_b : b_134 ≠ b161_b := Nat.ne_of_lt (Nat.lt_of_lt_of_le E_b_134.lt sz_b161_b)
        have ne_b_136_b161_b : b_136 ≠ b161_b := Nat.ne_of_lt (Nat.lt_of_lt_of_le E_b_136.lt sz_b161_b)
        have ne_b_138_b161_b : b_138 ≠ b161_b := Nat.ne_of_lt (Nat.lt_of_lt_of_le E_b_138.lt sz_b161_b)
        have ne_b_140_b161_b : b_140 ≠ b161_b := Nat.ne_of_lt (Nat.lt_of_lt_of_le E_b_140.lt sz_b161_b)
        have ne_b_142_b161_b : b_142 ≠ b161_b := Nat.ne_of_lt (Nat.lt_of_lt_of_le E_b_142.lt sz_b161_b)
        have ne_b143_b_b161_b : b143_b ≠ b161_b := Nat.ne_of_lt (Nat.lt_of_lt_of_le E_b_143.lt sz_b161_b)
        have ne_b143_c_b161_b : b143_c ≠ b161_b := Nat.ne_of_lt (Nat.lt_of_lt_of_le E_c_143.lt sz_b161_b)
        have ne_b153_b_b161_b : b153_b ≠ b161_b := Nat.ne_of_lt (Nat.lt_of_lt_of_le E_b_153.lt sz_b161_b)
        have ne_b_154_b161_b : b_154 ≠ b161_b := Nat.ne_of_lt (Nat.lt_of_lt_of_le E_b_154.lt sz_b161_b)
        have ne_b156_b_b161_b : b156_b ≠ b161_b := Nat.ne_of_lt (Nat.lt_of_lt_of_le E_b_156.lt sz_b161_b)
        have ne_b_160_b161_b : b_160 ≠ b161_b := Nat.ne_of_lt (Nat.lt_of_lt_of_le E_b_160.lt sz_b161_b)
        have g_b161_b : n0 ≤ b161_b := Nat.le_trans (Nat.le_trans Z0 KC.1) sz_b161_b
        replace sz_b161_b : h0.size ≤ b161_b := Nat.le_trans KC.1 sz_b161_b
        have ne_b5_b161_c : b5 ≠ b161_c := Nat.ne_of_lt (Nat.lt_of_lt_of_le Vm15.lt sz_b161_c)
        have ne_b16_b161_c : b16 ≠ b161_c := Nat.ne_of_lt (Nat.lt_of_lt_of_le A16.lt sz_b161_c)
        have ne_b17_b_b161_c : b17_b ≠ b161_c := Nat.ne_of_lt (Nat.lt_of_lt_of_le E_b_17.lt sz_b161_c)
        have ne_b17_c_b161_c : b17_c ≠ b161_c := Nat.ne_of_lt (Nat.lt_of_lt_of_le E_c_17.lt sz_b161_c)
        have ne_b_134_b161_c : b_134 ≠ b161_c := Nat.ne_of_lt (Nat.lt_of_lt_of_le E_b_134.lt sz_b161_c)
        have ne_b_136_b161_c : b_136 ≠ b161_c := Nat.ne_of_lt (Nat.lt_of_lt_of_le E_b_136.lt sz_b161_c)
        have ne_b_138_b161_c : b_138 ≠ b161_c := Nat.ne_of_lt (Nat.lt_of_lt_of_le E_b_138.lt sz_b161_c)
        have ne_b_140_b161_c : b_140 ≠ b161_c := Nat.ne_of_lt (Nat.lt_of_lt_of_le E_b_140.lt sz_b161_c)
        have ne_b_142_b161_c : b_142 ≠ b161_c := Nat.ne_of_lt (Nat.lt_of_lt_of_le E_b_142.lt sz_b161_c)
        have ne_b143_b_b161_c : b143_b ≠ b161_c := Nat.ne_of_lt (Nat.lt_of_lt_of_le E_b_143.lt sz_b161_c)
        have ne_b143_c_b161_c : b143_c ≠ b161_c := Nat.ne_of_lt (Nat.lt_of_lt_of_le E_c_143.lt sz_b161_c)
        have ne_b153_b_b161_c : b153_b ≠ b161_c := Nat.ne_of_lt (Nat.lt_of_lt_of_le E_b_153.lt sz_b161_c)
        have ne_b_154_b161_c : b_154 ≠ b161_c := Nat.ne_of_lt (Nat.lt_of_lt_of_le E_b_154.lt sz_b161_c)
        have ne_b156_b_b161_c : b156_b ≠ b161_c := Nat.ne_of_lt (Nat.lt_of_lt_of_le E_b_156.lt sz_b161_c)
        have ne_b_160_b161_c : b_160 ≠ b161_c := Nat.ne_of_lt (Nat.lt_of_lt_of_le E_b_160.lt sz_b161_c)
        have g_b161_c : n0 ≤ b161_c := Nat.le_trans (Nat.le_trans Z0 KC.1) sz_b161_c
        replace sz_b161_c : h0.size ≤ b161_c := Nat.le_trans KC.1 sz_b161_c
        have nec_b_154_b16 : b_154 ≠ b16 := Exa.ne E_b_154 A16 (by decide)
        have nec_b_160_b16 : b_160 ≠ b16 := Exa.ne E_b_160 A16 (by decide)
        replace Vm15 := Vm15.keep K161 (ninS ne_b5_b16 nin0)
        replace A16 := A16.keep K161
        replace E_b_17 := E_b_17.keep K161
        replace E_c_17 := E_c_17.keep K161
        replace E_b_134 := E_b_134.keep K161
        replace F_value_b_134 := F_value_b_134.keep K161 (ninS nec_b_134_b16 nin0)
        replace E_b_136 := E_b_136.keep K161
        replace F_value_b_136 := F_value_b_136.keep K161 (ninS nec_b_136_b16 nin0)
        replace E_b_138 := E_b_138.keep K161
        replace F_value_b_138 := F_value_b_138.keep K161 (ninS nec_b_138_b16 nin0)
        replace E_b_140 := E_b_140.keep K161
        replace F_value_b_140 := F_value_b_140.keep K161 (ninS nec_b_140_b16 nin0)
        replace F_filled_sto_141 := F_filled_sto_141.keep K161 (ninS (Ne.symm ne_b16_b17_b) nin0)
        replace F_items_sto_141 := F_items_sto_141.keep K161 (ninS (Ne.symm ne_b16_b17_b) nin0)
        replace V_arr_141 := V_arr_141.keep K161 (ninS (Ne.symm ne_b16_b17_c) nin0)
        replace E_b_142 := E_b_142.keep K161
        replace F_value_b_142 := F_value_b_142.keep K161 (ninS nec_b_142_b16 nin0)
        replace E_b_143 := E_b_143.keep K161
        replace E_c_143 := E_c_143.keep K161
        replace E_b_153 := E_b_153.keep K161
        replace E_b_154 := E_b_154.keep K161
        replace F_value_b_154 := F_value_b_154.keep K161 (ninS nec_b_154_b16 nin0)
        replace F_store_a1_155 := F_store_a1_155.keep K161 (ninS (Ne.symm ne_b16_b153_b) nin0)
        replace F_size_a1_155 := F_size_a1_155.keep K161 (ninS (Ne.symm ne_b16_b153_b) nin0)
        replace F_filled_sto_155 := F_filled_sto_155.keep K161 (ninS (Ne.symm ne_b16_b143_b) nin0)
        replace F_items_sto_155 := F_items_sto_155.keep K161 (ninS (Ne.symm ne_b16_b143_b) nin0)
        replace V_arr_155 := V_arr_155.keep K161 (ninS (Ne.symm ne_b16_b143_c) nin0)
        replace E_b_156 := E_b_156.keep K161
        replace F_val_length_b_156 := F_val_length_b_156.keep K161 (ninS (Ne.symm ne_b16_b156_b) nin0)
        replace F_val_items_b_156 := F_val_items_b_156.keep K161 (ninS (Ne.symm ne_b16_b156_b) nin0)
        replace F_next_b_156 := F_next_b_156.keep K161 (ninS (Ne.symm ne_b16_b156_b) nin0)
        replace E_b_160 := E_b_160.keep K161
        replace F_value_b_160 := F_value_b_160.keep K161 (ninS nec_b_160_b16 nin0)
        replace O0 := O0.keep K161 (allS g_b16 all0)
        replace KC := KC.trans K161 (allS (Or.inr sz_b16) all0)
        obtain ⟨T162, h162, L162, X162, e162, N162, K162, st162⟩ := tail5 hw X161 hx hZ hby hml hown p1 p2 p3 p4 p5 p6 c1 c2 b5 b16 b156_b b143_c k2_143 (8 : Int32) [(.ref b_134), (.ref b_136), (.ref b_138), (.ref b_140), (.ref b_142), (.ref b_154), .null, .null, .null, .null] k5 b_134 b_136 b_138 b_140 b_142 T161.heap n0 rfl (Nat.le_trans Z0 KC.1) O0 N161 F_next_b_156 F_val_length_b_156 F_val_items_b_156 E_b_156 E_c_143 V_arr_155 Vm15 g_b156_b ne_b5_b156_b E_b_134 F_value_b_134 rfl (by decide) E_b_136 F_value_b_136 rfl (by decide) E_b_138 F_value_b_138 rfl (by decide) E_b_140 F_value_b_140 rfl (by decide) E_b_142 F_value_b_142 rfl (by decide) (by decide) (by decide) (by decide) (by decide)
        have nec_b_160_b156_b : b_160 ≠ b156_b := Exa.ne E_b_160 E_b_156 (by decide)
        replace Vm15 := Vm15.keep K162 (ninS ne_b5_b156_b nin0)
        replace A16 := A16.keep K162
        replace E_b_17 := E_b_17.keep K162
        replace E_c_17 := E_c_17.keep K162
        replace E_b_134 := E_b_134.keep K162
        replace F_value_b_134 := F_value_b_134.keep K162 (ninS ne_b_134_b156_b nin0)
        replace E_b_136 := E_b_136.keep K162
        replace F_value_b_136 := F_value_b_136.keep K162 (ninS ne_b_136_b156_b nin0)
        replace E_b_138 := E_b_138.keep K162
        replace F_value_b_138 := F_value_b_138.keep K162 (ninS ne_b_138_b156_b nin0)
        replace E_b_140 := E_b_140.keep K162
        replace F_value_b_140 := F_value_b_140.keep K162 (ninS ne_b_140_b156_b nin0)
        replace F_filled_sto_141 := F_filled_sto_141.keep K162 (ninS ne_b17_b_b156_b nin0)
        replace F_items_sto_141 := F_items_sto_141.keep K162 (ninS ne_b17_b_b156_b nin0)
        replace V_arr_141 := V_arr_141.keep K162 (ninS ne_b17_c_b156_b nin0)
        replace E_b_142 := E_b_142.keep K162
        replace F_value_b_142 := F_value_b_142.keep K162 (ninS ne_b_142_b156_b nin0)
        replace E_b_143 := E_b_143.keep K162
        replace E_c_143 := E_c_143.keep K162
        replace E_b_153 := E_b_153.keep K162
        replace E_b_154 := E_b_154.keep K162
        replace F_value_b_154 := F_value_b_154.keep K162 (ninS ne_b_154_b156_b nin0)
        replace F_store_a1_155 := F_store_a1_155.keep K162 (ninS ne_b153_b_b156_b nin0)
        replace F_size_a1_155 := F_size_a1_155.keep K162 (ninS ne_b153_b_b156_b nin0)
        replace F_filled_sto_155 := F_filled_sto_155.keep K162 (ninS ne_b143_b_b156_b nin0)
        replace F_items_sto_155 := F_items_sto_155.keep K162 (ninS ne_b143_b_b156_b nin0)
        replace V_arr_155 := V_arr_155.keep K162 (ninS ne_b143_c_b156_b nin0)
        replace E_b_156 := E_b_156.keep K162
        replace E_b_160 := E_b_160.keep K162
        replace F_value_b_160 := F_value_b_160.keep K162 (ninS nec_b_160_b156_b nin0)
        replace F_store_a1_161 := F_store_a1_161.keep K162 (ninS ne_b16_b156_b nin0)
        replace F_size_a1_161 := F_size_a1_161.keep K162 (ninS ne_b16_b156_b nin0)
        replace E_b_161 := E_b_161.keep K162
        replace F_filled_b_161 := F_filled_b_161.keep K162 (ninS (Ne.symm ne_b156_b_b161_b) nin0)
        replace F_items_b_161 := F_items_b_161.keep K162 (ninS (Ne.symm ne_b156_b_b161_b) nin0)
        replace E_c_161 := E_c_161.keep K162
        replace V_c_161 := V_c_161.keep K162 (ninS (Ne.symm ne_b156_b_b161_c) nin0)
        replace O0 := O0.keep K162 (allS g_b156_b all0)
        replace KC := KC.trans K162 (allS (Or.inr sz_b156_b) all0)
        obtain ⟨fs, hr, hrun, hended, hW, hsame⟩ := X162.leave (v := some (.int (1 : Int32))) (fun h => by rw [Bd.returns] at h; cases h)
        refine ⟨_, _, pre157 _ ?_, hrun, hended, _, _, rfl, ?_, ⟨_, rfl⟩, hW, hsame.mono (by decide) (by decide)⟩
        · show SS p e below m T156 183 #[vi p1, vi p2, vi p3, vi p4, vi p5, vi p6, vi (5 : Int32), vi c1, vi c2, vr b5, vr b16, vr b156_b] [(.int c2)] _
          refine XS.ifNo X156.here hx rfl (hb hby at_183) rfl ((if0 _ _).trans (feq hc183_158).1) ?_
          show SS p e below m T156 186 #[vi p1, vi p2, vi p3, vi p4, vi p5, vi p6, vi (5 : Int32), vi c1, vi c2, vr b5, vr b16, vr b156_b] [] _
          refine XS.aload X156.here hx rfl (hb hby at_186) rfl rfl ?_
          show SS p e below m T156 188 #[vi p1, vi p2, vi p3, vi p4, vi p5, vi p6, vi (5 : Int32), vi c1, vi c2, vr b5, vr b16, vr b156_b] [(.ref b16)] _
          refine XS.iloadN X156.here hx rfl (hb hby at_188) rfl ?_
          show SS p e below m T156 189 #[vi p1, vi p2, vi p3, vi p4, vi p5, vi p6, vi (5 : Int32), vi c1, vi c2, vr b5, vr b16, vr b156_b] [(.int p2), (.ref b16)] _
          refine XS.iloadN X156.here hx rfl (hb hby at_189) rfl ?_
          show SS p e below m T156 190 #[vi p1, vi p2, vi p3, vi p4, vi p5, vi p6, vi (5 : Int32), vi c1, vi c2, vr b5, vr b16, vr b156_b] [(.int p4), (.int p2), (.ref b16)] _
          refine XS.ixor X156.here hx rfl (hb hby at_190) rfl ?_
          show SS p e below m T156 191 #[vi p1, vi p2, vi p3, vi p4, vi p5, vi p6, vi (5 : Int32), vi c1, vi c2, vr b5, vr b16, vr b156_b] [(.int (p2 ^^^ p4)), (.ref b16)] _
          refine st160 _ ?_
          show SS p e below m T160 194 #[vi p1, vi p2, vi p3, vi p4, vi p5, vi p6, vi (5 : Int32), vi c1, vi c2, vr b5, vr b16, vr b156_b] [(.ref b_160), (.ref b16)] _
          refine st161.trans ?_
          show SS p e below m T161 197 #[vi p1, vi p2, vi p3, vi p4, vi p5, vi p6, vi (5 : Int32), vi c1, vi c2, vr b5, vr b16, vr b156_b] [] _
          refine st162 _ ?_
          show SS p e below m T162 282 #[vi p1, vi p2, vi p3, vi p4, vi p5, vi p6, vi (5 : Int32), vi c1, vi c2, vr b5, vr b16, vr b156_b] [(.int (0 : Int32))] _
          refine XS.ifNo X162.here hx rfl (hb hby at_282) rfl ((if0 _ _).trans (teq (by decide)).2) ?_
          show SS p e below m T162 285 #[vi p1, vi p2, vi p3, vi p4, vi p5, vi p6, vi (5 : Int32), vi c1, vi c2, vr b5, vr b16, vr b156_b] [] _
          refine XS.iconst X162.here hx rfl (hb hby at_285) ?_
          show SS p e below m T162 286 #[vi p1, vi p2, vi p3, vi p4, vi p5, vi p6, vi (5 : Int32), vi c1, vi c2, vr b5, vr b16, vr b156_b] [(.int (1 : Int32))] _
          refine XS.goto X162.here hx rfl (pc0 := 286) (pc' := 290) rfl (hb hby at_286) (by decide) (by decide) ?_
          show SS p e below m T162 290 #[vi p1, vi p2, vi p3, vi p4, vi p5, vi p6, vi (5 : Int32), vi c1, vi c2, vr b5, vr b16, vr b156_b] [(.int (1 : Int32))] _
          exact retN X162 hx (t := .boolean) Bd.returns (by simp) (hb hby at_290) hr
        · show Q_rm0 Z p1 p2 p3 p4 p5 p6 cA cl mr h0 n0 _ T162.heap _
          rw [e162]
          exact ⟨rfl, N162, KC⟩
set_option maxRecDepth 65536 in
set_option maxHeartbeats 40000000 in
theorem comes_1 {Post : Tables → Env → Array Value → State → Outcome → State → Prop} (hpost : ∀ tb e args s v u, (limb_1_1.after args s (.returned v) u = true ∧ limb_1_2.after args s (.returned v) u = true ∧ True) → FrameEnd s (.returned v) u (Jvm.fieldLocs frame_1_writes args s ++ Jvm.arrayLocs frame_1_arrays args s ++ Jvm.staticLocs frame_1_statics s) 48 192 → Post tb e args s (.returned v) u) :
    ArmFor flags0 classFile x code maxLocals ret World_1 tables_1 room_1 Calls_1 rest_1 Pre_1 Post := by
  intro l hfl _ _ p e ha hc hk s m args below hf hA hF happ hP
  obtain ⟨hcalls, hrest, hpre⟩ := hP
  obtain ⟨-, -, -, hnamed, -, -, -, hat⟩ := (Spec.applies_iff hf).mp happ
  obtain ⟨hg, hn⟩ := and_e (Cond.before_iff.mp (show (Jvm.Cond.and given_1 narrow_1).before args s = true from hpre))
  obtain ⟨nw1, nv1⟩ := and_e hg
  obtain ⟨nw2, nv2⟩ := and_e nv1
  obtain ⟨nw3, nv3⟩ := and_e nv2
  obtain ⟨nw4, nv4⟩ := and_e nv3
  obtain ⟨nw5, nv5⟩ := and_e nv4
  obtain ⟨nw6, nv6⟩ := and_e nv5
  obtain ⟨w0, w1, w2, w3, w4, w5, rfl⟩ : ∃ w0 w1 w2 w3 w4 w5 : Value, args = #[w0, w1, w2, w3, w4, w5] := by
    have hs : args.size = 6 := by simpa [Cond.value, given_1] using nw1
    obtain ⟨L⟩ := args
    match L, hs with
    | [w0, w1, w2, w3, w4, w5], _ => exact ⟨w0, w1, w2, w3, w4, w5, rfl⟩
  have hw := fun d (hd : d ∈ tables_1) => atoms_spec (ws := Jvm.Cond.code x code maxLocals ret :: tables_1) hat d (List.mem_cons_of_mem _ hd)
  have hfit : Fit s := fun {y c} hc i hi => by
    obtain ⟨ha, rfl⟩ := Array.getElem?_eq_some_iff.mp hc
    have q := List.all_eq_true.mp ((Array.all_eq_true_iff_forall_mem.mp hF) _ (Array.getElem_mem ha)) i (List.mem_range.mpr hi)
    simpa [Array.getElem?_eq_getElem hi] using q
  obtain ⟨hsets, hown0⟩ := atoms_of _ (rest_1_c_eq ▸ (show rest_1_c.before _ s = true from hrest))
  have hr0 := Cond.before_iff.mp hown0
  obtain ⟨i0, ei0⟩ := is_v nw2
  obtain rfl : w0 = (.int i0) := Option.some.inj ei0
  obtain ⟨i1, ei1⟩ := is_v nw3
  obtain rfl : w1 = (.int i1) := Option.some.inj ei1
  obtain ⟨i2, ei2⟩ := is_v nw4
  obtain rfl : w2 = (.int i2) := Option.some.inj ei2
  obtain ⟨i3, ei3⟩ := is_v nw5
  obtain rfl : w3 = (.int i3) := Option.some.inj ei3
  obtain ⟨i4, ei4⟩ := is_v nw6
  obtain rfl : w4 = (.int i4) := Option.some.inj ei4
  obtain ⟨i5, ei5⟩ := is_v nv6
  obtain rfl : w5 = (.int i5) := Option.some.inj ei5
  obtain ⟨⟨cM, kM, mr, mi1, mi2, mi3, -⟩, -⟩ := hcalls
  have MIR : own_Mir s "[Ljava/lang/Object;" mr := ⟨cM, kM, mi1, mi2, mi3⟩
  have evh := eqv_i (Term.int_eval (127 : Int32)) (Cond.before_iff.mp (hsets _ (List.mem_of_getElem? (i := 3) rfl)))
  have S_high := Sta.start evh (Or.inl (hsets _ (List.mem_of_getElem? (i := 1) rfl)))
  obtain ⟨cA, evc⟩ := arr_v (Cond.before_iff.mp (hsets _ (List.mem_of_getElem? (i := 4) rfl)))
  obtain ⟨cl, Acl⟩ := Arr.start evc (Cond.before_iff.mp (hsets _ (List.mem_of_getElem? (i := 4) rfl)))
  have S_cache := Sta.start evc (Or.inr ⟨(ww hw 35 rfl), (hsets _ (List.mem_of_getElem? (i := 2) rfl))⟩)
  have evl := eqv_i (Term.int_eval (256 : Int32)) (Cond.before_iff.mp (hsets _ (List.mem_of_getElem? (i := 6) rfl)))
  obtain ⟨hl1, hl2⟩ := own_len evc Acl evl
  have BX : Bxs s cA cl "java/lang/Integer" "I" (256 : Int32) (fun j => .int (j - (128 : Int32))) := Bxs.start (fun _ => evc) Acl hl1 hl2 (by decide) (Cond.before_iff.mp (hsets _ (List.mem_of_getElem? (i := 7) rfl))) (fun X j hj h => eqv_i (own_idx hj) h)
  obtain ⟨n, o, h1, h2, h3, _, L, rfl, ⟨rfl, N, -⟩, hq⟩ := rm0 l s _ hw tables_1 i0 i1 i2 i3 i4 i5 cA cl mr s.heap s.heap.size (Nat.le_refl _) (Old.start s) S_high S_cache BX MIR p e ha hc hk s m _ below hf ((Spec.applies_iff_loose hf).mp happ).1 ⟨rfl, State.Warmed39.refl s, rfl⟩ trivial
  refine ⟨n, _, h1, h2, h3, hpost _ _ _ _ _ _ ⟨Cond.after_iff.mpr rfl, Cond.after_iff.mpr (eq_i res_at (Term.int_eval (1)) rfl), trivial⟩ ⟨hq.1, hq.2.1, (hq.2.2.sift fun y hy => Or.inr (N y hy)).mono (by decide) (by decide)⟩⟩
theorem main_1_1 : Claimed_1_1 := comes_1 fun _ _ _ _ _ _ h hF => ⟨h.1, hF⟩
theorem main_1_2 : Claimed_1_2 := comes_1 fun _ _ _ _ _ _ h hF => ⟨h.2.1, hF⟩
end Jvm.Pilot.@@N@@
namespace Jvm.Pilot.@@N@@
open Jvm Jvm.ClassFile Sem Op Lib Jvm.Free Jvm.Stand Jvm.Pilot.@@N@@.Jvm.D
/-! MADE BY PROGRAM (witnessworld.py) out of the Statement's table words and the real class files: 26 classes; the members and pool entries that the words name. The judged class is class 1, her method 2. -/
namespace start1
open Jvm.ClassFile
def u (s : String) : CpInfo := .utf8 (stringToUtf16 s)
/-- a pool by its gaps: so many unusable entries, then the entry; so many at the end -/
def gap : Nat → List CpInfo → List CpInfo
  | 0, r => r
  | n + 1, r => .unusable :: gap n r
def poolList (es : List (Nat × CpInfo)) (last : Nat) : List CpInfo := es.foldr (fun e r => gap e.1 (e.2 :: r)) (gap last [])
def pool (es : List (Nat × CpInfo)) (last : Nat) : Array CpInfo := ⟨poolList es last⟩
def fileOf (pool : Array CpInfo) (this : Nat) (attrs : Array Attribute := #[]) (ms : Array MethodInfo := #[]) (fl : Nat := 33) (sup : Nat := 0) (ifs : Array Nat := #[]) (fds : Array FieldInfo := #[]) : ClassFile where
  minorVersion := 0
  majorVersion := 65
  constantPool := pool
  accessFlags := fl
  thisClass := this
  superClass := sup
  interfaces := ifs
  fields := fds
  methods := ms
  attributes := attrs
def plain (name : String) (sup : Option ClassId) : Class where
  name := name
  kind := .ordinary
  loader := none
  accessFlags := 33
  super := sup
  interfaces := #[]
  cf := none
  fields := #[]
  methods := #[]
  instanceTypes := #[]
  staticTypes := #[]
  resolved := #[]
  callSites := []
  init := .initialized
  statics := none
  mirror := none

def pool0 : Array CpInfo := pool [(5, u "<init>"), (0, u "()V"), (1, .class_ 10), (1, u "java/lang/Object"), (0, u "getClass"), (0, u "()Ljava/lang/Class;")] 111

def k0c0 : Code := { maxStack := 0, maxLocals := 1, code := object_method_1_code, exceptionTable := #[], attributes := #[] }
def k0m0 : Method := { name := "<init>", desc := "()V", sig := { parameters := [], returnType := none }, accessFlags := 1, code := some k0c0 }
def k0m1 : Method := { name := "getClass", desc := "()Ljava/lang/Class;", sig := { parameters := [], returnType := some (.object "java/lang/Class") }, accessFlags := 273, code := none }
/-- java/lang/Object -/
def k0 : Class := { plain "java/lang/Object" none with
  accessFlags := 33
  interfaces := #[]
  cf := some (fileOf pool0 8 #[] #[{ accessFlags := 1, nameIndex := 5, descriptorIndex := 6, attributes := #[] }, { accessFlags := 273, nameIndex := 11, descriptorIndex := 12, attributes := #[] }] 33 0 #[] #[])
  fields := #[]
  methods := #[k0m0, k0m1]
  instanceTypes := #[]
  staticTypes := #[]
  resolved := Array.replicate 124 none
  statics := none }

def pool1 : Array CpInfo := pool [(2, .class_ 4), (0, .nameAndType 5 6), (0, u "java/lang/Object"), (0, u "<init>"), (0, u "()V"), (0, .interfaceMethodref 8 9), (0, .class_ 10), (0, .nameAndType 11 12), (0, u "java/util/Iterator"), (0, u "hasNext"), (0, u "()Z"), (0, .interfaceMethodref 8 14), (0, .nameAndType 15 16), (0, u "next"), (0, u "()Ljava/lang/Object;"), (0, .class_ 18), (0, u "java/lang/Integer"), (0, .methodref 17 20), (0, .nameAndType 21 22), (0, u "intValue"), (0, u "()I"), (0, .class_ 24), (0, u "com/example/brisk_tableau/brisktableau/tableau/SharedList"), (0, .methodref 23 3), (0, .methodref 17 27), (0, .nameAndType 28 29), (0, u "valueOf"), (0, u "(I)Ljava/lang/Integer;"), (0, .methodref 23 31), (0, .nameAndType 32 33), (0, u "add"), (0, u "(Ljava/lang/Object;)V"), (0, .methodref 23 35), (0, .nameAndType 36 37), (0, u "copy"), (0, u "()Lcom/example/brisk_tableau/brisktableau/tableau/SharedList;"), (0, .methodref 23 39), (0, .nameAndType 40 41), (0, u "iterator"), (0, u "()Ljava/util/Iterator;"), (0, .methodref 43 44), (0, .class_ 45), (0, .nameAndType 46 47), (0, u "com/example/brisk_tableau/brisktableau/tableau/SharedListIteratorPinLaw"), (0, u "step"), (0, u "(Ljava/util/Iterator;II[I)Z"), (5, u "law"), (0, u "(IIIIII)Z")] 4

def k1m0 : Method := { name := "<init>", desc := "()V", sig := { parameters := [], returnType := none }, accessFlags := 1, code := none }
def k1c1 : Code := { maxStack := 3, maxLocals := 5, code := method_2_code, exceptionTable := #[], attributes := #[] }
def k1m1 : Method := { name := "step", desc := "(Ljava/util/Iterator;II[I)Z", sig := { parameters := [(.object "java/util/Iterator"), .int, .int, (.array .int)], returnType := some .boolean }, accessFlags := 10, code := some k1c1 }
def k1c2 : Code := { maxStack := 4, maxLocals := 12, code := code, exceptionTable := #[], attributes := #[] }
def k1m2 : Method := { name := "law", desc := "(IIIIII)Z", sig := { parameters := [.int, .int, .int, .int, .int, .int], returnType := some .boolean }, accessFlags := 9, code := some k1c2 }
/-- com/example/brisk_tableau/brisktableau/tableau/SharedListIteratorPinLaw -/
def k1 : Class := { plain "com/example/brisk_tableau/brisktableau/tableau/SharedListIteratorPinLaw" (some 0) with
  accessFlags := 49
  interfaces := #[]
  cf := some (fileOf pool1 43 #[] #[{ accessFlags := 1, nameIndex := 5, descriptorIndex := 6, attributes := #[] }, { accessFlags := 10, nameIndex := 46, descriptorIndex := 47, attributes := #[] }, { accessFlags := 9, nameIndex := 53, descriptorIndex := 54, attributes := #[] }] 49 2 #[] #[])
  fields := #[]
  methods := #[k1m0, k1m1, k1m2]
  instanceTypes := #[]
  staticTypes := #[]
  resolved := Array.replicate 59 none
  statics := none }

def pool2 : Array CpInfo := pool [(8, .class_ 10), (1, u "java/lang/Iterable"), (24, .class_ 36), (0, u "java/lang/Object")] 25

/-- java/lang/Iterable -/
def k2 : Class := { plain "java/lang/Iterable" (some 0) with
  accessFlags := 1537
  interfaces := #[]
  cf := some (fileOf pool2 8 #[] #[] 1537 35 #[] #[])
  fields := #[]
  methods := #[]
  instanceTypes := #[]
  staticTypes := #[]
  resolved := Array.replicate 62 none
  statics := none }

def pool3 : Array CpInfo := pool [(1, .class_ 2), (0, u "com/example/brisk_tableau/brisktableau/tableau/SharedList$Store"), (0, .class_ 4), (0, u "com/example/brisk_tableau/brisktableau/tableau/SharedList"), (0, .class_ 6), (0, u "java/lang/Object"), (0, .methodref 1 8), (0, .nameAndType 9 10), (0, u "<init>"), (0, u "([Ljava/lang/Object;I)V"), (0, .methodref 3 12), (0, .nameAndType 9 13), (0, u "(Lcom/example/brisk_tableau/brisktableau/tableau/SharedList$Store;I)V"), (0, .methodref 5 15), (0, .nameAndType 9 16), (0, u "()V"), (0, .fieldref 3 18), (0, .nameAndType 19 20), (0, u "store"), (0, u "Lcom/example/brisk_tableau/brisktableau/tableau/SharedList$Store;"), (0, .fieldref 3 22), (0, .nameAndType 23 24), (0, u "size"), (0, u "I"), (0, .fieldref 1 26), (0, .nameAndType 27 24), (0, u "filled"), (0, .fieldref 1 29), (0, .nameAndType 30 31), (0, u "items"), (0, u "[Ljava/lang/Object;"), (0, .methodref 33 34), (0, .class_ 35), (0, .nameAndType 36 37), (0, u "java/lang/Math"), (0, u "max"), (0, u "(II)I"), (0, .methodref 39 40), (0, .class_ 41), (0, .nameAndType 42 43), (0, u "java/util/Arrays"), (0, u "copyOf"), (0, u "([Ljava/lang/Object;I)[Ljava/lang/Object;"), (0, .methodref 45 46), (0, .class_ 47), (0, .nameAndType 48 49), (0, u "java/util/Objects"), (0, u "requireNonNull"), (0, u "(Ljava/lang/Object;)Ljava/lang/Object;"), (0, .class_ 51), (0, u "com/example/brisk_tableau/brisktableau/tableau/SharedList$1"), (0, .methodref 50 53), (0, .nameAndType 9 54), (0, u "(Lcom/example/brisk_tableau/brisktableau/tableau/SharedList;I[Ljava/lang/Object;)V"), (0, .class_ 56), (0, u "java/lang/Iterable"), (0, u "FIRST_CAPACITY"), (4, u "copy"), (0, u "()Lcom/example/brisk_tableau/brisktableau/tableau/SharedList;"), (3, u "add"), (0, u "(Ljava/lang/Object;)V"), (2, u "iterator"), (0, u "()Ljava/util/Iterator;")] 7

def k3c0 : Code := { maxStack := 5, maxLocals := 1, code := prog_112_method_1_code, exceptionTable := #[], attributes := #[] }
def k3m0 : Method := { name := "<init>", desc := "()V", sig := { parameters := [], returnType := none }, accessFlags := 0, code := some k3c0 }
def k3c1 : Code := { maxStack := 2, maxLocals := 3, code := prog_112_method_2_code, exceptionTable := #[], attributes := #[] }
def k3m1 : Method := { name := "<init>", desc := "(Lcom/example/brisk_tableau/brisktableau/tableau/SharedList$Store;I)V", sig := { parameters := [(.object "com/example/brisk_tableau/brisktableau/tableau/SharedList$Store"), .int], returnType := none }, accessFlags := 2, code := some k3c1 }
def k3c2 : Code := { maxStack := 4, maxLocals := 1, code := prog_112_method_3_code, exceptionTable := #[], attributes := #[] }
def k3m2 : Method := { name := "copy", desc := "()Lcom/example/brisk_tableau/brisktableau/tableau/SharedList;", sig := { parameters := [], returnType := some (.object "com/example/brisk_tableau/brisktableau/tableau/SharedList") }, accessFlags := 0, code := some k3c2 }
def k3c3 : Code := { maxStack := 7, maxLocals := 2, code := prog_112_method_5_code, exceptionTable := #[], attributes := #[] }
def k3m3 : Method := { name := "add", desc := "(Ljava/lang/Object;)V", sig := { parameters := [(.object "java/lang/Object")], returnType := none }, accessFlags := 0, code := some k3c3 }
def k3c4 : Code := { maxStack := 5, maxLocals := 3, code := prog_112_method_6_code, exceptionTable := #[], attributes := #[] }
def k3m4 : Method := { name := "iterator", desc := "()Ljava/util/Iterator;", sig := { parameters := [], returnType := some (.object "java/util/Iterator") }, accessFlags := 1, code := some k3c4 }
/-- com/example/brisk_tableau/brisktableau/tableau/SharedList -/
def k3 : Class := { plain "com/example/brisk_tableau/brisktableau/tableau/SharedList" (some 0) with
  accessFlags := 32
  interfaces := #[2]
  cf := some (fileOf pool3 3 #[.nestMembers #[1, 50]] #[{ accessFlags := 0, nameIndex := 9, descriptorIndex := 16, attributes := #[] }, { accessFlags := 2, nameIndex := 9, descriptorIndex := 13, attributes := #[] }, { accessFlags := 0, nameIndex := 62, descriptorIndex := 63, attributes := #[] }, { accessFlags := 0, nameIndex := 67, descriptorIndex := 68, attributes := #[] }, { accessFlags := 1, nameIndex := 71, descriptorIndex := 72, attributes := #[] }] 32 5 #[55] #[{ accessFlags := 26, nameIndex := 57, descriptorIndex := 24, attributes := #[] }, { accessFlags := 2, nameIndex := 19, descriptorIndex := 20, attributes := #[] }, { accessFlags := 2, nameIndex := 23, descriptorIndex := 24, attributes := #[] }])
  fields := #[{ name := "FIRST_CAPACITY", type := .int, accessFlags := 26, slot := 0, constantValue := 0 }, { name := "store", type := (.object "com/example/brisk_tableau/brisktableau/tableau/SharedList$Store"), accessFlags := 2, slot := 0, constantValue := 0 }, { name := "size", type := .int, accessFlags := 2, slot := 1, constantValue := 0 }]
  methods := #[k3m0, k3m1, k3m2, k3m3, k3m4]
  instanceTypes := #[(.object "com/example/brisk_tableau/brisktableau/tableau/SharedList$Store"), .int]
  staticTypes := #[.int]
  resolved := ((Array.replicate 80 none).setIfInBounds 25 (some (.field 4 1))).setIfInBounds 28 (some (.field 4 0))
  statics := none }

def pool4 : Array CpInfo := pool [(1, .methodref 2 3), (0, .class_ 4), (0, .nameAndType 5 6), (0, u "java/lang/Object"), (0, u "<init>"), (0, u "()V"), (0, .fieldref 8 9), (0, .class_ 10), (0, .nameAndType 11 12), (0, u "com/example/brisk_tableau/brisktableau/tableau/SharedList$Store"), (0, u "items"), (0, u "[Ljava/lang/Object;"), (0, .fieldref 8 14), (0, .nameAndType 15 16), (0, u "filled"), (0, u "I"), (0, u "([Ljava/lang/Object;I)V"), (5, .class_ 24), (0, u "com/example/brisk_tableau/brisktableau/tableau/SharedList")] 2

def k4c0 : Code := { maxStack := 2, maxLocals := 3, code := prog_114_method_1_code, exceptionTable := #[], attributes := #[] }
def k4m0 : Method := { name := "<init>", desc := "([Ljava/lang/Object;I)V", sig := { parameters := [(.array (.object "java/lang/Object")), .int], returnType := none }, accessFlags := 0, code := some k4c0 }
/-- com/example/brisk_tableau/brisktableau/tableau/SharedList$Store -/
def k4 : Class := { plain "com/example/brisk_tableau/brisktableau/tableau/SharedList$Store" (some 0) with
  accessFlags := 32
  interfaces := #[]
  cf := some (fileOf pool4 8 #[.nestHost 23] #[{ accessFlags := 0, nameIndex := 5, descriptorIndex := 17, attributes := #[] }] 32 2 #[] #[{ accessFlags := 18, nameIndex := 11, descriptorIndex := 12, attributes := #[] }, { accessFlags := 2, nameIndex := 15, descriptorIndex := 16, attributes := #[] }])
  fields := #[{ name := "items", type := (.array (.object "java/lang/Object")), accessFlags := 18, slot := 0, constantValue := 0 }, { name := "filled", type := .int, accessFlags := 2, slot := 1, constantValue := 0 }]
  methods := #[k4m0]
  instanceTypes := #[(.array (.object "java/lang/Object")), .int]
  staticTypes := #[]
  resolved := Array.replicate 27 none
  statics := none }

def pool5 : Array CpInfo := pool [(1, .class_ 2), (0, u "java/io/Serializable"), (0, .class_ 4), (0, u "java/lang/Object")] 2

/-- java/io/Serializable -/
def k5 : Class := { plain "java/io/Serializable" (some 0) with
  accessFlags := 1537
  interfaces := #[]
  cf := some (fileOf pool5 1 #[] #[] 1537 3 #[] #[])
  fields := #[]
  methods := #[]
  instanceTypes := #[]
  staticTypes := #[]
  resolved := Array.replicate 7 none
  statics := none }

def pool6 : Array CpInfo := pool [(1, .methodref 2 3), (0, .class_ 4), (0, .nameAndType 5 6), (0, u "java/lang/Object"), (0, u "<init>"), (0, u "()V"), (1, .class_ 10), (1, u "java/lang/Number"), (2, .class_ 14), (0, u "java/io/Serializable"), (0, u "serialVersionUID"), (0, u "J")] 20

def k6c0 : Code := { maxStack := 1, maxLocals := 1, code := jdk_18_method_1_code, exceptionTable := #[], attributes := #[] }
def k6m0 : Method := { name := "<init>", desc := "()V", sig := { parameters := [], returnType := none }, accessFlags := 1, code := some k6c0 }
/-- java/lang/Number -/
def k6 : Class := { plain "java/lang/Number" (some 0) with
  accessFlags := 1057
  interfaces := #[5]
  cf := some (fileOf pool6 8 #[] #[{ accessFlags := 1, nameIndex := 5, descriptorIndex := 6, attributes := #[] }] 1057 2 #[13] #[{ accessFlags := 26, nameIndex := 15, descriptorIndex := 16, attributes := #[] }])
  fields := #[{ name := "serialVersionUID", type := .long, accessFlags := 26, slot := 0, constantValue := 0 }]
  methods := #[k6m0]
  instanceTypes := #[]
  staticTypes := #[.long]
  resolved := Array.replicate 37 none
  statics := none }

def pool7 : Array CpInfo := pool [(1, .class_ 2), (0, u "java/lang/Comparable"), (0, .class_ 4), (0, u "java/lang/Object")] 7

/-- java/lang/Comparable -/
def k7 : Class := { plain "java/lang/Comparable" (some 0) with
  accessFlags := 1537
  interfaces := #[]
  cf := some (fileOf pool7 1 #[] #[] 1537 3 #[] #[])
  fields := #[]
  methods := #[]
  instanceTypes := #[]
  staticTypes := #[]
  resolved := Array.replicate 12 none
  statics := none }

def pool8 : Array CpInfo := pool [(1, .class_ 2), (0, u "java/lang/constant/Constable"), (0, .class_ 4), (0, u "java/lang/Object")] 6

/-- java/lang/constant/Constable -/
def k8 : Class := { plain "java/lang/constant/Constable" (some 0) with
  accessFlags := 1537
  interfaces := #[]
  cf := some (fileOf pool8 1 #[] #[] 1537 3 #[] #[])
  fields := #[]
  methods := #[]
  instanceTypes := #[]
  staticTypes := #[]
  resolved := Array.replicate 11 none
  statics := none }

def pool9 : Array CpInfo := pool [(1, .class_ 2), (0, u "java/lang/constant/ConstantDesc"), (0, .class_ 4), (0, u "java/lang/Object")] 32

/-- java/lang/constant/ConstantDesc -/
def k9 : Class := { plain "java/lang/constant/ConstantDesc" (some 0) with
  accessFlags := 1537
  interfaces := #[]
  cf := some (fileOf pool9 1 #[] #[] 1537 3 #[] #[])
  fields := #[]
  methods := #[]
  instanceTypes := #[]
  staticTypes := #[]
  resolved := Array.replicate 37 none
  statics := none }

def pool10 : Array CpInfo := pool [(1, .class_ 2), (0, u "java/lang/Integer"), (16, u "digits"), (0, u "[C"), (46, u "<init>"), (17, u "DigitOnes"), (0, u "[B"), (2, u "DigitTens"), (10, .nameAndType 67 101), (0, u "()V"), (19, u "()I"), (65, u "valueOf"), (0, u "(I)Ljava/lang/Integer;"), (0, .class_ 190), (0, u "java/lang/Integer$IntegerCache"), (0, .fieldref 189 192), (0, .nameAndType 193 194), (0, u "high"), (0, u "I"), (0, .fieldref 189 196), (0, .nameAndType 197 198), (0, u "cache"), (0, u "[Ljava/lang/Integer;"), (0, .methodref 1 200), (0, .nameAndType 67 201), (0, u "(I)V"), (0, .methodref 203 100), (0, .class_ 204), (0, u "java/lang/Number"), (0, .fieldref 1 206), (0, .nameAndType 207 194), (0, u "value"), (5, u "intValue"), (88, u "TYPE"), (0, u "Ljava/lang/Class;"), (0, .class_ 305), (0, u "java/lang/Comparable"), (0, .class_ 307), (0, u "java/lang/constant/Constable"), (0, .class_ 309), (0, u "java/lang/constant/ConstantDesc"), (0, u "MIN_VALUE"), (1, u "MAX_VALUE"), (3, u "SIZE"), (1, u "BYTES"), (1, u "serialVersionUID"), (0, u "J")] 131

def k10c0 : Code := { maxStack := 3, maxLocals := 1, code := jdk_33_method_22_code, exceptionTable := #[], attributes := #[] }
def k10m0 : Method := { name := "valueOf", desc := "(I)Ljava/lang/Integer;", sig := { parameters := [.int], returnType := some (.object "java/lang/Integer") }, accessFlags := 9, code := some k10c0 }
def k10c1 : Code := { maxStack := 2, maxLocals := 2, code := jdk_33_method_23_code, exceptionTable := #[], attributes := #[] }
def k10m1 : Method := { name := "<init>", desc := "(I)V", sig := { parameters := [.int], returnType := none }, accessFlags := 1, code := some k10c1 }
def k10c2 : Code := { maxStack := 1, maxLocals := 1, code := jdk_33_method_27_code, exceptionTable := #[], attributes := #[] }
def k10m2 : Method := { name := "intValue", desc := "()I", sig := { parameters := [], returnType := some .int }, accessFlags := 1, code := some k10c2 }
/-- java/lang/Integer -/
def k10 : Class := { plain "java/lang/Integer" (some 6) with
  accessFlags := 49
  interfaces := #[7, 8, 9]
  cf := some (fileOf pool10 1 #[.nestMembers #[189]] #[{ accessFlags := 9, nameIndex := 187, descriptorIndex := 188, attributes := #[] }, { accessFlags := 1, nameIndex := 67, descriptorIndex := 201, attributes := #[] }, { accessFlags := 1, nameIndex := 213, descriptorIndex := 121, attributes := #[] }] 49 203 #[304, 306, 308] #[{ accessFlags := 25, nameIndex := 310, descriptorIndex := 194, attributes := #[] }, { accessFlags := 25, nameIndex := 312, descriptorIndex := 194, attributes := #[] }, { accessFlags := 25, nameIndex := 302, descriptorIndex := 303, attributes := #[] }, { accessFlags := 24, nameIndex := 19, descriptorIndex := 20, attributes := #[] }, { accessFlags := 24, nameIndex := 89, descriptorIndex := 86, attributes := #[] }, { accessFlags := 24, nameIndex := 85, descriptorIndex := 86, attributes := #[] }, { accessFlags := 18, nameIndex := 207, descriptorIndex := 194, attributes := #[] }, { accessFlags := 25, nameIndex := 316, descriptorIndex := 194, attributes := #[] }, { accessFlags := 25, nameIndex := 318, descriptorIndex := 194, attributes := #[] }, { accessFlags := 26, nameIndex := 320, descriptorIndex := 321, attributes := #[] }])
  fields := #[{ name := "MIN_VALUE", type := .int, accessFlags := 25, slot := 0, constantValue := 0 }, { name := "MAX_VALUE", type := .int, accessFlags := 25, slot := 1, constantValue := 0 }, { name := "TYPE", type := (.object "java/lang/Class"), accessFlags := 25, slot := 2, constantValue := 0 }, { name := "digits", type := (.array .char), accessFlags := 24, slot := 3, constantValue := 0 }, { name := "DigitTens", type := (.array .byte), accessFlags := 24, slot := 4, constantValue := 0 }, { name := "DigitOnes", type := (.array .byte), accessFlags := 24, slot := 5, constantValue := 0 }, { name := "value", type := .int, accessFlags := 18, slot := 0, constantValue := 0 }, { name := "SIZE", type := .int, accessFlags := 25, slot := 6, constantValue := 0 }, { name := "BYTES", type := .int, accessFlags := 25, slot := 7, constantValue := 0 }, { name := "serialVersionUID", type := .long, accessFlags := 26, slot := 8, constantValue := 0 }]
  methods := #[k10m0, k10m1, k10m2]
  instanceTypes := #[.int]
  staticTypes := #[.int, .int, (.object "java/lang/Class"), (.array .char), (.array .byte), (.array .byte), .int, .int, .long]
  resolved := Array.replicate 453 none
  statics := none }

def pool11 : Array CpInfo := pool [(2, .class_ 4), (1, u "java/lang/Object"), (0, u "<init>"), (0, u "()V"), (0, .class_ 8), (0, u "java/lang/Integer"), (7, .class_ 18), (1, u "java/lang/Integer$IntegerCache"), (0, u "$assertionsDisabled"), (0, u "Z"), (26, u "high"), (0, u "I"), (8, u "archivedCache"), (0, u "[Ljava/lang/Integer;"), (12, u "cache"), (0, u "low")] 27

def k11m0 : Method := { name := "<init>", desc := "()V", sig := { parameters := [], returnType := none }, accessFlags := 2, code := none }
/-- java/lang/Integer$IntegerCache -/
def k11 : Class := { plain "java/lang/Integer$IntegerCache" (some 0) with
  accessFlags := 48
  interfaces := #[]
  cf := some (fileOf pool11 16 #[.nestHost 7] #[{ accessFlags := 2, nameIndex := 5, descriptorIndex := 6, attributes := #[] }] 48 2 #[] #[{ accessFlags := 24, nameIndex := 72, descriptorIndex := 48, attributes := #[] }, { accessFlags := 24, nameIndex := 47, descriptorIndex := 48, attributes := #[] }, { accessFlags := 24, nameIndex := 71, descriptorIndex := 58, attributes := #[] }, { accessFlags := 8, nameIndex := 57, descriptorIndex := 58, attributes := #[] }, { accessFlags := 4120, nameIndex := 19, descriptorIndex := 20, attributes := #[] }])
  fields := #[{ name := "low", type := .int, accessFlags := 24, slot := 0, constantValue := 0 }, { name := "high", type := .int, accessFlags := 24, slot := 1, constantValue := 0 }, { name := "cache", type := (.array (.object "java/lang/Integer")), accessFlags := 24, slot := 2, constantValue := 0 }, { name := "archivedCache", type := (.array (.object "java/lang/Integer")), accessFlags := 8, slot := 3, constantValue := 0 }, { name := "$assertionsDisabled", type := .boolean, accessFlags := 4120, slot := 4, constantValue := 0 }]
  methods := #[k11m0]
  instanceTypes := #[]
  staticTypes := #[.int, .int, (.array (.object "java/lang/Integer")), (.array (.object "java/lang/Integer")), .boolean]
  resolved := Array.replicate 100 none
  statics := some 0 }

def pool12 : Array CpInfo := pool [(2, .class_ 4), (1, u "java/lang/Object"), (0, u "<init>"), (0, u "()V"), (35, .class_ 44), (1, u "java/util/Objects"), (0, u "requireNonNull"), (0, u "(Ljava/lang/Object;)Ljava/lang/Object;")] 137

def k12m0 : Method := { name := "<init>", desc := "()V", sig := { parameters := [], returnType := none }, accessFlags := 2, code := none }
def k12c1 : Code := { maxStack := 2, maxLocals := 1, code := jdk_31_method_10_code, exceptionTable := #[], attributes := #[] }
def k12m1 : Method := { name := "requireNonNull", desc := "(Ljava/lang/Object;)Ljava/lang/Object;", sig := { parameters := [(.object "java/lang/Object")], returnType := some (.object "java/lang/Object") }, accessFlags := 9, code := some k12c1 }
/-- java/util/Objects -/
def k12 : Class := { plain "java/util/Objects" (some 0) with
  accessFlags := 49
  interfaces := #[]
  cf := some (fileOf pool12 42 #[] #[{ accessFlags := 2, nameIndex := 5, descriptorIndex := 6, attributes := #[] }, { accessFlags := 9, nameIndex := 45, descriptorIndex := 46, attributes := #[] }] 49 2 #[] #[])
  fields := #[]
  methods := #[k12m0, k12m1]
  instanceTypes := #[]
  staticTypes := #[]
  resolved := Array.replicate 184 none
  statics := none }

def pool13 : Array CpInfo := pool [(16, .class_ 18), (1, u "java/util/Iterator"), (0, u "hasNext"), (0, u "()Z"), (2, u "next"), (0, u "()Ljava/lang/Object;"), (6, .class_ 32), (0, u "java/lang/Object")] 20

def k13m0 : Method := { name := "hasNext", desc := "()Z", sig := { parameters := [], returnType := some .boolean }, accessFlags := 1025, code := none }
def k13m1 : Method := { name := "next", desc := "()Ljava/lang/Object;", sig := { parameters := [], returnType := some (.object "java/lang/Object") }, accessFlags := 1025, code := none }
/-- java/util/Iterator -/
def k13 : Class := { plain "java/util/Iterator" (some 0) with
  accessFlags := 1537
  interfaces := #[]
  cf := some (fileOf pool13 16 #[] #[{ accessFlags := 1025, nameIndex := 19, descriptorIndex := 20, attributes := #[] }, { accessFlags := 1025, nameIndex := 23, descriptorIndex := 24, attributes := #[] }] 1537 31 #[] #[])
  fields := #[]
  methods := #[k13m0, k13m1]
  instanceTypes := #[]
  staticTypes := #[]
  resolved := Array.replicate 53 none
  statics := none }

def pool14 : Array CpInfo := pool [(1, .fieldref 2 3), (0, .class_ 4), (0, .nameAndType 5 6), (0, u "com/example/brisk_tableau/brisktableau/tableau/SharedList$1"), (0, u "val$length"), (0, u "I"), (0, .fieldref 2 8), (0, .nameAndType 9 10), (0, u "val$items"), (0, u "[Ljava/lang/Object;"), (0, .methodref 12 13), (0, .class_ 14), (0, .nameAndType 15 16), (0, u "java/lang/Object"), (0, u "<init>"), (0, u "()V"), (0, .fieldref 2 18), (0, .nameAndType 19 6), (0, u "next"), (3, .class_ 24), (0, u "java/util/Iterator"), (0, u "(Lcom/example/brisk_tableau/brisktableau/tableau/SharedList;I[Ljava/lang/Object;)V"), (3, u "hasNext"), (0, u "()Z"), (1, u "()Ljava/lang/Object;"), (6, .class_ 40), (0, u "com/example/brisk_tableau/brisktableau/tableau/SharedList")] 5

def k14c0 : Code := { maxStack := 2, maxLocals := 4, code := prog_113_method_1_code, exceptionTable := #[], attributes := #[] }
def k14m0 : Method := { name := "<init>", desc := "(Lcom/example/brisk_tableau/brisktableau/tableau/SharedList;I[Ljava/lang/Object;)V", sig := { parameters := [(.object "com/example/brisk_tableau/brisktableau/tableau/SharedList"), .int, (.array (.object "java/lang/Object"))], returnType := none }, accessFlags := 0, code := some k14c0 }
def k14c1 : Code := { maxStack := 2, maxLocals := 1, code := prog_113_method_2_code, exceptionTable := #[], attributes := #[] }
def k14m1 : Method := { name := "hasNext", desc := "()Z", sig := { parameters := [], returnType := some .boolean }, accessFlags := 1, code := some k14c1 }
def k14c2 : Code := { maxStack := 5, maxLocals := 1, code := prog_113_method_3_code, exceptionTable := #[], attributes := #[] }
def k14m2 : Method := { name := "next", desc := "()Ljava/lang/Object;", sig := { parameters := [], returnType := some (.object "java/lang/Object") }, accessFlags := 1, code := some k14c2 }
/-- com/example/brisk_tableau/brisktableau/tableau/SharedList$1 -/
def k14 : Class := { plain "com/example/brisk_tableau/brisktableau/tableau/SharedList$1" (some 0) with
  accessFlags := 32
  interfaces := #[13]
  cf := some (fileOf pool14 2 #[.nestHost 39] #[{ accessFlags := 0, nameIndex := 15, descriptorIndex := 25, attributes := #[] }, { accessFlags := 1, nameIndex := 29, descriptorIndex := 30, attributes := #[] }, { accessFlags := 1, nameIndex := 19, descriptorIndex := 32, attributes := #[] }] 32 12 #[23] #[{ accessFlags := 2, nameIndex := 19, descriptorIndex := 6, attributes := #[] }, { accessFlags := 4112, nameIndex := 5, descriptorIndex := 6, attributes := #[] }, { accessFlags := 4112, nameIndex := 9, descriptorIndex := 10, attributes := #[] }])
  fields := #[{ name := "next", type := .int, accessFlags := 2, slot := 0, constantValue := 0 }, { name := "val$length", type := .int, accessFlags := 4112, slot := 1, constantValue := 0 }, { name := "val$items", type := (.array (.object "java/lang/Object")), accessFlags := 4112, slot := 2, constantValue := 0 }]
  methods := #[k14m0, k14m1, k14m2]
  instanceTypes := #[.int, .int, (.array (.object "java/lang/Object"))]
  staticTypes := #[]
  resolved := Array.replicate 46 none
  statics := none }

def pool15 : Array CpInfo := pool [(1, .class_ 2), (0, u "java/lang/Math"), (1, .class_ 6), (1, u "java/lang/Object"), (0, u "<init>"), (0, u "()V"), (89, .class_ 100), (1, u "java/lang/Math$RandomNumberGeneratorHolder"), (71, u "negativeZeroFloatBits"), (0, u "J"), (2, u "negativeZeroDoubleBits"), (21, u "max"), (2, u "min"), (43, u "$assertionsDisabled"), (0, u "Z"), (88, u "(II)I"), (2, u "twoToTheDoubleScaleDown"), (0, u "D"), (4, u "twoToTheDoubleScaleUp"), (9, u "E"), (3, u "PI"), (2, u "TAU"), (2, u "DEGREES_TO_RADIANS"), (0, u "RADIANS_TO_DEGREES")] 94

def k15m0 : Method := { name := "<init>", desc := "()V", sig := { parameters := [], returnType := none }, accessFlags := 2, code := none }
def k15c1 : Code := { maxStack := 2, maxLocals := 2, code := jdk_29_method_65_code, exceptionTable := #[], attributes := #[] }
def k15m1 : Method := { name := "max", desc := "(II)I", sig := { parameters := [.int, .int], returnType := some .int }, accessFlags := 9, code := some k15c1 }
def k15c2 : Code := { maxStack := 2, maxLocals := 2, code := jdk_29_method_69_code, exceptionTable := #[], attributes := #[] }
def k15m2 : Method := { name := "min", desc := "(II)I", sig := { parameters := [.int, .int], returnType := some .int }, accessFlags := 9, code := some k15c2 }
/-- java/lang/Math -/
def k15 : Class := { plain "java/lang/Math" (some 0) with
  accessFlags := 49
  interfaces := #[]
  cf := some (fileOf pool15 1 #[.nestMembers #[98]] #[{ accessFlags := 2, nameIndex := 7, descriptorIndex := 8, attributes := #[] }, { accessFlags := 9, nameIndex := 198, descriptorIndex := 335, attributes := #[] }, { accessFlags := 9, nameIndex := 201, descriptorIndex := 335, attributes := #[] }] 49 4 #[] #[{ accessFlags := 25, nameIndex := 354, descriptorIndex := 339, attributes := #[] }, { accessFlags := 25, nameIndex := 358, descriptorIndex := 339, attributes := #[] }, { accessFlags := 25, nameIndex := 361, descriptorIndex := 339, attributes := #[] }, { accessFlags := 26, nameIndex := 364, descriptorIndex := 339, attributes := #[] }, { accessFlags := 26, nameIndex := 365, descriptorIndex := 339, attributes := #[] }, { accessFlags := 26, nameIndex := 172, descriptorIndex := 173, attributes := #[] }, { accessFlags := 26, nameIndex := 176, descriptorIndex := 173, attributes := #[] }, { accessFlags := 8, nameIndex := 344, descriptorIndex := 339, attributes := #[] }, { accessFlags := 8, nameIndex := 338, descriptorIndex := 339, attributes := #[] }, { accessFlags := 4120, nameIndex := 245, descriptorIndex := 246, attributes := #[] }])
  fields := #[{ name := "E", type := .double, accessFlags := 25, slot := 0, constantValue := 0 }, { name := "PI", type := .double, accessFlags := 25, slot := 1, constantValue := 0 }, { name := "TAU", type := .double, accessFlags := 25, slot := 2, constantValue := 0 }, { name := "DEGREES_TO_RADIANS", type := .double, accessFlags := 26, slot := 3, constantValue := 0 }, { name := "RADIANS_TO_DEGREES", type := .double, accessFlags := 26, slot := 4, constantValue := 0 }, { name := "negativeZeroFloatBits", type := .long, accessFlags := 26, slot := 5, constantValue := 0 }, { name := "negativeZeroDoubleBits", type := .long, accessFlags := 26, slot := 6, constantValue := 0 }, { name := "twoToTheDoubleScaleUp", type := .double, accessFlags := 8, slot := 7, constantValue := 0 }, { name := "twoToTheDoubleScaleDown", type := .double, accessFlags := 8, slot := 8, constantValue := 0 }, { name := "$assertionsDisabled", type := .boolean, accessFlags := 4120, slot := 9, constantValue := 0 }]
  methods := #[k15m0, k15m1, k15m2]
  instanceTypes := #[]
  staticTypes := #[.double, .double, .double, .double, .double, .long, .long, .double, .double, .boolean]
  resolved := Array.replicate 460 none
  statics := none }

def pool16 : Array CpInfo := pool [(2, .class_ 4), (1, u "java/lang/Object"), (0, u "<init>"), (0, u "()V"), (7, .class_ 16), (1, u "java/util/Arrays"), (57, .class_ 76), (1, u "java/util/Arrays$NaturalOrder"), (9, .methodref 2 87), (0, .nameAndType 88 89), (0, u "getClass"), (0, u "()Ljava/lang/Class;"), (20, .class_ 111), (0, u "[Ljava/lang/Object;"), (1, .class_ 115), (1, u "java/util/Arrays$LegacyMergeSort"), (1, u "Z"), (32, .methodref 151 152), (0, .class_ 153), (0, .nameAndType 154 155), (0, u "java/lang/System"), (0, u "arraycopy"), (0, u "(Ljava/lang/Object;ILjava/lang/Object;II)V"), (144, .methodref 14 301), (0, .nameAndType 302 303), (0, u "copyOf"), (0, u "([Ljava/lang/Object;ILjava/lang/Class;)[Ljava/lang/Object;"), (0, .methodref 305 306), (0, .class_ 307), (0, .nameAndType 308 309), (0, u "java/lang/Math"), (0, u "min"), (0, u "(II)I"), (65, .class_ 376), (0, u "java/util/Arrays$ArrayList"), (68, u "$assertionsDisabled"), (269, u "MIN_ARRAY_SORT_GRAN"), (0, u "I"), (2, u "INSERTIONSORT_THRESHOLD"), (140, u "([Ljava/lang/Object;I)[Ljava/lang/Object;"), (114, .class_ 976), (0, u "java/util/Arrays$ArrayItr")] 52

def k16m0 : Method := { name := "<init>", desc := "()V", sig := { parameters := [], returnType := none }, accessFlags := 2, code := none }
def k16c1 : Code := { maxStack := 3, maxLocals := 2, code := jdk_65_method_119_code, exceptionTable := #[], attributes := #[] }
def k16m1 : Method := { name := "copyOf", desc := "([Ljava/lang/Object;I)[Ljava/lang/Object;", sig := { parameters := [(.array (.object "java/lang/Object")), .int], returnType := some (.array (.object "java/lang/Object")) }, accessFlags := 9, code := some k16c1 }
def k16c2 : Code := { maxStack := 6, maxLocals := 4, code := jdk_65_method_120_code, exceptionTable := #[], attributes := #[] }
def k16m2 : Method := { name := "copyOf", desc := "([Ljava/lang/Object;ILjava/lang/Class;)[Ljava/lang/Object;", sig := { parameters := [(.array (.object "java/lang/Object")), .int, (.object "java/lang/Class")], returnType := some (.array (.object "java/lang/Object")) }, accessFlags := 9, code := some k16c2 }
/-- java/util/Arrays -/
def k16 : Class := { plain "java/util/Arrays" (some 0) with
  accessFlags := 49
  interfaces := #[]
  cf := some (fileOf pool16 14 #[.nestMembers #[975, 375, 113, 74]] #[{ accessFlags := 2, nameIndex := 5, descriptorIndex := 6, attributes := #[] }, { accessFlags := 9, nameIndex := 302, descriptorIndex := 860, attributes := #[] }, { accessFlags := 9, nameIndex := 302, descriptorIndex := 303, attributes := #[] }] 49 2 #[] #[{ accessFlags := 26, nameIndex := 715, descriptorIndex := 716, attributes := #[] }, { accessFlags := 26, nameIndex := 719, descriptorIndex := 716, attributes := #[] }, { accessFlags := 4120, nameIndex := 445, descriptorIndex := 117, attributes := #[] }])
  fields := #[{ name := "MIN_ARRAY_SORT_GRAN", type := .int, accessFlags := 26, slot := 0, constantValue := 0 }, { name := "INSERTIONSORT_THRESHOLD", type := .int, accessFlags := 26, slot := 1, constantValue := 0 }, { name := "$assertionsDisabled", type := .boolean, accessFlags := 4120, slot := 2, constantValue := 0 }]
  methods := #[k16m0, k16m1, k16m2]
  instanceTypes := #[]
  staticTypes := #[.int, .int, .boolean]
  resolved := Array.replicate 1029 none
  statics := none }

def pool17 : Array CpInfo := pool [(2, .class_ 4), (1, u "java/lang/Object"), (0, u "<init>"), (0, u "()V"), (1, .class_ 10), (1, u "java/lang/System"), (0, u "allowSecurityManager"), (0, u "I"), (16, u "cons"), (0, u "Ljava/io/Console;"), (77, .class_ 110), (1, u "java/lang/System$CallersHolder"), (43, u "initialErrStream"), (0, u "Ljava/io/PrintStream;"), (19, u "security"), (0, u "Ljava/lang/SecurityManager;"), (31, .class_ 209), (0, u "java/lang/System$1"), (7, u "props"), (0, u "Ljava/util/Properties;"), (2, u "lineSeparator"), (0, u "Ljava/lang/String;"), (96, .class_ 321), (1, u "java/lang/System$LoggerFinder"), (5, .class_ 328), (0, u "java/lang/System$Logger"), (67, u "err"), (2, u "out"), (91, u "notSupportedJnuEncoding"), (15, u "in"), (17, u "initialIn"), (0, u "Ljava/io/InputStream;"), (35, u "bootLayer"), (0, u "Ljava/lang/ModuleLayer;"), (99, .class_ 664), (0, u "java/lang/System$2"), (9, u "NEVER"), (2, u "MAYBE"), (49, u "arraycopy"), (0, u "(Ljava/lang/Object;ILjava/lang/Object;II)V"), (72, .class_ 802), (0, u "java/lang/System$Logger$Level")] 31

def k17m0 : Method := { name := "<init>", desc := "()V", sig := { parameters := [], returnType := none }, accessFlags := 2, code := none }
def k17m1 : Method := { name := "arraycopy", desc := "(Ljava/lang/Object;ILjava/lang/Object;II)V", sig := { parameters := [(.object "java/lang/Object"), .int, (.object "java/lang/Object"), .int, .int], returnType := none }, accessFlags := 265, code := none }
/-- java/lang/System -/
def k17 : Class := { plain "java/lang/System" (some 0) with
  accessFlags := 49
  interfaces := #[]
  cf := some (fileOf pool17 8 #[.nestMembers #[319, 327, 801, 108, 663, 208]] #[{ accessFlags := 2, nameIndex := 5, descriptorIndex := 6, attributes := #[] }, { accessFlags := 265, nameIndex := 727, descriptorIndex := 728, attributes := #[] }] 49 2 #[] #[{ accessFlags := 25, nameIndex := 507, descriptorIndex := 526, attributes := #[] }, { accessFlags := 25, nameIndex := 399, descriptorIndex := 155, attributes := #[] }, { accessFlags := 25, nameIndex := 396, descriptorIndex := 155, attributes := #[] }, { accessFlags := 10, nameIndex := 525, descriptorIndex := 526, attributes := #[] }, { accessFlags := 26, nameIndex := 674, descriptorIndex := 12, attributes := #[] }, { accessFlags := 26, nameIndex := 677, descriptorIndex := 12, attributes := #[] }, { accessFlags := 10, nameIndex := 11, descriptorIndex := 12, attributes := #[] }, { accessFlags := 74, nameIndex := 175, descriptorIndex := 176, attributes := #[] }, { accessFlags := 10, nameIndex := 491, descriptorIndex := 222, attributes := #[] }, { accessFlags := 74, nameIndex := 29, descriptorIndex := 30, attributes := #[] }, { accessFlags := 74, nameIndex := 154, descriptorIndex := 155, attributes := #[] }, { accessFlags := 10, nameIndex := 217, descriptorIndex := 218, attributes := #[] }, { accessFlags := 10, nameIndex := 221, descriptorIndex := 222, attributes := #[] }, { accessFlags := 8, nameIndex := 562, descriptorIndex := 563, attributes := #[] }])
  fields := #[{ name := "in", type := (.object "java/io/InputStream"), accessFlags := 25, slot := 0, constantValue := 0 }, { name := "out", type := (.object "java/io/PrintStream"), accessFlags := 25, slot := 1, constantValue := 0 }, { name := "err", type := (.object "java/io/PrintStream"), accessFlags := 25, slot := 2, constantValue := 0 }, { name := "initialIn", type := (.object "java/io/InputStream"), accessFlags := 10, slot := 3, constantValue := 0 }, { name := "NEVER", type := .int, accessFlags := 26, slot := 4, constantValue := 0 }, { name := "MAYBE", type := .int, accessFlags := 26, slot := 5, constantValue := 0 }, { name := "allowSecurityManager", type := .int, accessFlags := 10, slot := 6, constantValue := 0 }, { name := "security", type := (.object "java/lang/SecurityManager"), accessFlags := 74, slot := 7, constantValue := 0 }, { name := "notSupportedJnuEncoding", type := (.object "java/lang/String"), accessFlags := 10, slot := 8, constantValue := 0 }, { name := "cons", type := (.object "java/io/Console"), accessFlags := 74, slot := 9, constantValue := 0 }, { name := "initialErrStream", type := (.object "java/io/PrintStream"), accessFlags := 74, slot := 10, constantValue := 0 }, { name := "props", type := (.object "java/util/Properties"), accessFlags := 10, slot := 11, constantValue := 0 }, { name := "lineSeparator", type := (.object "java/lang/String"), accessFlags := 10, slot := 12, constantValue := 0 }, { name := "bootLayer", type := (.object "java/lang/ModuleLayer"), accessFlags := 8, slot := 13, constantValue := 0 }]
  methods := #[k17m0, k17m1]
  instanceTypes := #[]
  staticTypes := #[(.object "java/io/InputStream"), (.object "java/io/PrintStream"), (.object "java/io/PrintStream"), (.object "java/io/InputStream"), .int, .int, .int, (.object "java/lang/SecurityManager"), (.object "java/lang/String"), (.object "java/io/Console"), (.object "java/io/PrintStream"), (.object "java/util/Properties"), (.object "java/lang/String"), (.object "java/lang/ModuleLayer")]
  resolved := Array.replicate 834 none
  statics := none }

def pool18 : Array CpInfo := pool [(1, u "java/lang/Class"), (0, .class_ 1), (0, u "java/lang/Object"), (0, .class_ 3)] 3

/-- java/lang/Class -/
def k18 : Class := { plain "java/lang/Class" (some 0) with
  accessFlags := 49
  interfaces := #[]
  cf := some (fileOf pool18 2 #[] #[] 49 4 #[] #[])
  fields := #[]
  methods := #[]
  instanceTypes := #[]
  staticTypes := #[]
  resolved := Array.replicate 8 none
  statics := none }

def pool19 : Array CpInfo := pool [(1, u "java/lang/Cloneable"), (0, .class_ 1), (0, u "java/lang/Object"), (0, .class_ 3)] 3

/-- java/lang/Cloneable -/
def k19 : Class := { plain "java/lang/Cloneable" (some 0) with
  accessFlags := 1537
  interfaces := #[]
  cf := some (fileOf pool19 2 #[] #[] 1537 4 #[] #[])
  fields := #[]
  methods := #[]
  instanceTypes := #[]
  staticTypes := #[]
  resolved := Array.replicate 8 none
  statics := none }

/-- the primitive byte -/
def k20 : Class := { plain "byte" none with kind := .primitive 'B', accessFlags := 0x411 }
/-- [B -/
def k21 : Class := { plain "[B" (some 0) with kind := .array 20 .byte, interfaces := #[19, 5], accessFlags := 1041 }

/-- the primitive int -/
def k22 : Class := { plain "int" none with kind := .primitive 'I', accessFlags := 0x411 }
/-- [I -/
def k23 : Class := { plain "[I" (some 0) with kind := .array 22 .int, interfaces := #[19, 5], accessFlags := 1041 }

/-- [Ljava/lang/Integer; -/
def k24 : Class := { plain "[Ljava/lang/Integer;" (some 0) with kind := .array 10 (.object "java/lang/Integer"), interfaces := #[19, 5], accessFlags := 1041 }

/-- [Ljava/lang/Object; -/
def k25 : Class := { plain "[Ljava/lang/Object;" (some 0) with kind := .array 0 (.object "java/lang/Object"), interfaces := #[19, 5], accessFlags := 1041, mirror := some 1 }

def heap : Heap := #[{ cls := 11, slots := #[.int 0, .int 127, .ref 2, .null, .int 0], vm := .statics 11 },
  { cls := 18, slots := #[], vm := .mirror 25 },
  { cls := 24, slots := #[.ref 3, .ref 4, .ref 5, .ref 6, .ref 7, .ref 8, .ref 9, .ref 10, .ref 11, .ref 12, .ref 13, .ref 14, .ref 15, .ref 16, .ref 17, .ref 18, .ref 19, .ref 20, .ref 21, .ref 22, .ref 23, .ref 24, .ref 25, .ref 26, .ref 27, .ref 28, .ref 29, .ref 30, .ref 31, .ref 32, .ref 33, .ref 34, .ref 35, .ref 36, .ref 37, .ref 38, .ref 39, .ref 40, .ref 41, .ref 42, .ref 43, .ref 44, .ref 45, .ref 46, .ref 47, .ref 48, .ref 49, .ref 50, .ref 51, .ref 52, .ref 53, .ref 54, .ref 55, .ref 56, .ref 57, .ref 58, .ref 59, .ref 60, .ref 61, .ref 62, .ref 63, .ref 64, .ref 65, .ref 66, .ref 67, .ref 68, .ref 69, .ref 70, .ref 71, .ref 72, .ref 73, .ref 74, .ref 75, .ref 76, .ref 77, .ref 78, .ref 79, .ref 80, .ref 81, .ref 82, .ref 83, .ref 84, .ref 85, .ref 86, .ref 87, .ref 88, .ref 89, .ref 90, .ref 91, .ref 92, .ref 93, .ref 94, .ref 95, .ref 96, .ref 97, .ref 98, .ref 99, .ref 100, .ref 101, .ref 102, .ref 103, .ref 104, .ref 105, .ref 106, .ref 107, .ref 108, .ref 109, .ref 110, .ref 111, .ref 112, .ref 113, .ref 114, .ref 115, .ref 116, .ref 117, .ref 118, .ref 119, .ref 120, .ref 121, .ref 122, .ref 123, .ref 124, .ref 125, .ref 126, .ref 127, .ref 128, .ref 129, .ref 130, .ref 131, .ref 132, .ref 133, .ref 134, .ref 135, .ref 136, .ref 137, .ref 138, .ref 139, .ref 140, .ref 141, .ref 142, .ref 143, .ref 144, .ref 145, .ref 146, .ref 147, .ref 148, .ref 149, .ref 150, .ref 151, .ref 152, .ref 153, .ref 154, .ref 155, .ref 156, .ref 157, .ref 158, .ref 159, .ref 160, .ref 161, .ref 162, .ref 163, .ref 164, .ref 165, .ref 166, .ref 167, .ref 168, .ref 169, .ref 170, .ref 171, .ref 172, .ref 173, .ref 174, .ref 175, .ref 176, .ref 177, .ref 178, .ref 179, .ref 180, .ref 181, .ref 182, .ref 183, .ref 184, .ref 185, .ref 186, .ref 187, .ref 188, .ref 189, .ref 190, .ref 191, .ref 192, .ref 193, .ref 194, .ref 195, .ref 196, .ref 197, .ref 198, .ref 199, .ref 200, .ref 201, .ref 202, .ref 203, .ref 204, .ref 205, .ref 206, .ref 207, .ref 208, .ref 209, .ref 210, .ref 211, .ref 212, .ref 213, .ref 214, .ref 215, .ref 216, .ref 217, .ref 218, .ref 219, .ref 220, .ref 221, .ref 222, .ref 223, .ref 224, .ref 225, .ref 226, .ref 227, .ref 228, .ref 229, .ref 230, .ref 231, .ref 232, .ref 233, .ref 234, .ref 235, .ref 236, .ref 237, .ref 238, .ref 239, .ref 240, .ref 241, .ref 242, .ref 243, .ref 244, .ref 245, .ref 246, .ref 247, .ref 248, .ref 249, .ref 250, .ref 251, .ref 252, .ref 253, .ref 254, .ref 255, .ref 256, .ref 257, .ref 258], vm := .none },
  { cls := 10, slots := #[.int (-128)], vm := .none },
  { cls := 10, slots := #[.int (-127)], vm := .none },
  { cls := 10, slots := #[.int (-126)], vm := .none },
  { cls := 10, slots := #[.int (-125)], vm := .none },
  { cls := 10, slots := #[.int (-124)], vm := .none },
  { cls := 10, slots := #[.int (-123)], vm := .none },
  { cls := 10, slots := #[.int (-122)], vm := .none },
  { cls := 10, slots := #[.int (-121)], vm := .none },
  { cls := 10, slots := #[.int (-120)], vm := .none },
  { cls := 10, slots := #[.int (-119)], vm := .none },
  { cls := 10, slots := #[.int (-118)], vm := .none },
  { cls := 10, slots := #[.int (-117)], vm := .none },
  { cls := 10, slots := #[.int (-116)], vm := .none },
  { cls := 10, slots := #[.int (-115)], vm := .none },
  { cls := 10, slots := #[.int (-114)], vm := .none },
  { cls := 10, slots := #[.int (-113)], vm := .none },
  { cls := 10, slots := #[.int (-112)], vm := .none },
  { cls := 10, slots := #[.int (-111)], vm := .none },
  { cls := 10, slots := #[.int (-110)], vm := .none },
  { cls := 10, slots := #[.int (-109)], vm := .none },
  { cls := 10, slots := #[.int (-108)], vm := .none },
  { cls := 10, slots := #[.int (-107)], vm := .none },
  { cls := 10, slots := #[.int (-106)], vm := .none },
  { cls := 10, slots := #[.int (-105)], vm := .none },
  { cls := 10, slots := #[.int (-104)], vm := .none },
  { cls := 10, slots := #[.int (-103)], vm := .none },
  { cls := 10, slots := #[.int (-102)], vm := .none },
  { cls := 10, slots := #[.int (-101)], vm := .none },
  { cls := 10, slots := #[.int (-100)], vm := .none },
  { cls := 10, slots := #[.int (-99)], vm := .none },
  { cls := 10, slots := #[.int (-98)], vm := .none },
  { cls := 10, slots := #[.int (-97)], vm := .none },
  { cls := 10, slots := #[.int (-96)], vm := .none },
  { cls := 10, slots := #[.int (-95)], vm := .none },
  { cls := 10, slots := #[.int (-94)], vm := .none },
  { cls := 10, slots := #[.int (-93)], vm := .none },
  { cls := 10, slots := #[.int (-92)], vm := .none },
  { cls := 10, slots := #[.int (-91)], vm := .none },
  { cls := 10, slots := #[.int (-90)], vm := .none },
  { cls := 10, slots := #[.int (-89)], vm := .none },
  { cls := 10, slots := #[.int (-88)], vm := .none },
  { cls := 10, slots := #[.int (-87)], vm := .none },
  { cls := 10, slots := #[.int (-86)], vm := .none },
  { cls := 10, slots := #[.int (-85)], vm := .none },
  { cls := 10, slots := #[.int (-84)], vm := .none },
  { cls := 10, slots := #[.int (-83)], vm := .none },
  { cls := 10, slots := #[.int (-82)], vm := .none },
  { cls := 10, slots := #[.int (-81)], vm := .none },
  { cls := 10, slots := #[.int (-80)], vm := .none },
  { cls := 10, slots := #[.int (-79)], vm := .none },
  { cls := 10, slots := #[.int (-78)], vm := .none },
  { cls := 10, slots := #[.int (-77)], vm := .none },
  { cls := 10, slots := #[.int (-76)], vm := .none },
  { cls := 10, slots := #[.int (-75)], vm := .none },
  { cls := 10, slots := #[.int (-74)], vm := .none },
  { cls := 10, slots := #[.int (-73)], vm := .none },
  { cls := 10, slots := #[.int (-72)], vm := .none },
  { cls := 10, slots := #[.int (-71)], vm := .none },
  { cls := 10, slots := #[.int (-70)], vm := .none },
  { cls := 10, slots := #[.int (-69)], vm := .none },
  { cls := 10, slots := #[.int (-68)], vm := .none },
  { cls := 10, slots := #[.int (-67)], vm := .none },
  { cls := 10, slots := #[.int (-66)], vm := .none },
  { cls := 10, slots := #[.int (-65)], vm := .none },
  { cls := 10, slots := #[.int (-64)], vm := .none },
  { cls := 10, slots := #[.int (-63)], vm := .none },
  { cls := 10, slots := #[.int (-62)], vm := .none },
  { cls := 10, slots := #[.int (-61)], vm := .none },
  { cls := 10, slots := #[.int (-60)], vm := .none },
  { cls := 10, slots := #[.int (-59)], vm := .none },
  { cls := 10, slots := #[.int (-58)], vm := .none },
  { cls := 10, slots := #[.int (-57)], vm := .none },
  { cls := 10, slots := #[.int (-56)], vm := .none },
  { cls := 10, slots := #[.int (-55)], vm := .none },
  { cls := 10, slots := #[.int (-54)], vm := .none },
  { cls := 10, slots := #[.int (-53)], vm := .none },
  { cls := 10, slots := #[.int (-52)], vm := .none },
  { cls := 10, slots := #[.int (-51)], vm := .none },
  { cls := 10, slots := #[.int (-50)], vm := .none },
  { cls := 10, slots := #[.int (-49)], vm := .none },
  { cls := 10, slots := #[.int (-48)], vm := .none },
  { cls := 10, slots := #[.int (-47)], vm := .none },
  { cls := 10, slots := #[.int (-46)], vm := .none },
  { cls := 10, slots := #[.int (-45)], vm := .none },
  { cls := 10, slots := #[.int (-44)], vm := .none },
  { cls := 10, slots := #[.int (-43)], vm := .none },
  { cls := 10, slots := #[.int (-42)], vm := .none },
  { cls := 10, slots := #[.int (-41)], vm := .none },
  { cls := 10, slots := #[.int (-40)], vm := .none },
  { cls := 10, slots := #[.int (-39)], vm := .none },
  { cls := 10, slots := #[.int (-38)], vm := .none },
  { cls := 10, slots := #[.int (-37)], vm := .none },
  { cls := 10, slots := #[.int (-36)], vm := .none },
  { cls := 10, slots := #[.int (-35)], vm := .none },
  { cls := 10, slots := #[.int (-34)], vm := .none },
  { cls := 10, slots := #[.int (-33)], vm := .none },
  { cls := 10, slots := #[.int (-32)], vm := .none },
  { cls := 10, slots := #[.int (-31)], vm := .none },
  { cls := 10, slots := #[.int (-30)], vm := .none },
  { cls := 10, slots := #[.int (-29)], vm := .none },
  { cls := 10, slots := #[.int (-28)], vm := .none },
  { cls := 10, slots := #[.int (-27)], vm := .none },
  { cls := 10, slots := #[.int (-26)], vm := .none },
  { cls := 10, slots := #[.int (-25)], vm := .none },
  { cls := 10, slots := #[.int (-24)], vm := .none },
  { cls := 10, slots := #[.int (-23)], vm := .none },
  { cls := 10, slots := #[.int (-22)], vm := .none },
  { cls := 10, slots := #[.int (-21)], vm := .none },
  { cls := 10, slots := #[.int (-20)], vm := .none },
  { cls := 10, slots := #[.int (-19)], vm := .none },
  { cls := 10, slots := #[.int (-18)], vm := .none },
  { cls := 10, slots := #[.int (-17)], vm := .none },
  { cls := 10, slots := #[.int (-16)], vm := .none },
  { cls := 10, slots := #[.int (-15)], vm := .none },
  { cls := 10, slots := #[.int (-14)], vm := .none },
  { cls := 10, slots := #[.int (-13)], vm := .none },
  { cls := 10, slots := #[.int (-12)], vm := .none },
  { cls := 10, slots := #[.int (-11)], vm := .none },
  { cls := 10, slots := #[.int (-10)], vm := .none },
  { cls := 10, slots := #[.int (-9)], vm := .none },
  { cls := 10, slots := #[.int (-8)], vm := .none },
  { cls := 10, slots := #[.int (-7)], vm := .none },
  { cls := 10, slots := #[.int (-6)], vm := .none },
  { cls := 10, slots := #[.int (-5)], vm := .none },
  { cls := 10, slots := #[.int (-4)], vm := .none },
  { cls := 10, slots := #[.int (-3)], vm := .none },
  { cls := 10, slots := #[.int (-2)], vm := .none },
  { cls := 10, slots := #[.int (-1)], vm := .none },
  { cls := 10, slots := #[.int (0)], vm := .none },
  { cls := 10, slots := #[.int (1)], vm := .none },
  { cls := 10, slots := #[.int (2)], vm := .none },
  { cls := 10, slots := #[.int (3)], vm := .none },
  { cls := 10, slots := #[.int (4)], vm := .none },
  { cls := 10, slots := #[.int (5)], vm := .none },
  { cls := 10, slots := #[.int (6)], vm := .none },
  { cls := 10, slots := #[.int (7)], vm := .none },
  { cls := 10, slots := #[.int (8)], vm := .none },
  { cls := 10, slots := #[.int (9)], vm := .none },
  { cls := 10, slots := #[.int (10)], vm := .none },
  { cls := 10, slots := #[.int (11)], vm := .none },
  { cls := 10, slots := #[.int (12)], vm := .none },
  { cls := 10, slots := #[.int (13)], vm := .none },
  { cls := 10, slots := #[.int (14)], vm := .none },
  { cls := 10, slots := #[.int (15)], vm := .none },
  { cls := 10, slots := #[.int (16)], vm := .none },
  { cls := 10, slots := #[.int (17)], vm := .none },
  { cls := 10, slots := #[.int (18)], vm := .none },
  { cls := 10, slots := #[.int (19)], vm := .none },
  { cls := 10, slots := #[.int (20)], vm := .none },
  { cls := 10, slots := #[.int (21)], vm := .none },
  { cls := 10, slots := #[.int (22)], vm := .none },
  { cls := 10, slots := #[.int (23)], vm := .none },
  { cls := 10, slots := #[.int (24)], vm := .none },
  { cls := 10, slots := #[.int (25)], vm := .none },
  { cls := 10, slots := #[.int (26)], vm := .none },
  { cls := 10, slots := #[.int (27)], vm := .none },
  { cls := 10, slots := #[.int (28)], vm := .none },
  { cls := 10, slots := #[.int (29)], vm := .none },
  { cls := 10, slots := #[.int (30)], vm := .none },
  { cls := 10, slots := #[.int (31)], vm := .none },
  { cls := 10, slots := #[.int (32)], vm := .none },
  { cls := 10, slots := #[.int (33)], vm := .none },
  { cls := 10, slots := #[.int (34)], vm := .none },
  { cls := 10, slots := #[.int (35)], vm := .none },
  { cls := 10, slots := #[.int (36)], vm := .none },
  { cls := 10, slots := #[.int (37)], vm := .none },
  { cls := 10, slots := #[.int (38)], vm := .none },
  { cls := 10, slots := #[.int (39)], vm := .none },
  { cls := 10, slots := #[.int (40)], vm := .none },
  { cls := 10, slots := #[.int (41)], vm := .none },
  { cls := 10, slots := #[.int (42)], vm := .none },
  { cls := 10, slots := #[.int (43)], vm := .none },
  { cls := 10, slots := #[.int (44)], vm := .none },
  { cls := 10, slots := #[.int (45)], vm := .none },
  { cls := 10, slots := #[.int (46)], vm := .none },
  { cls := 10, slots := #[.int (47)], vm := .none },
  { cls := 10, slots := #[.int (48)], vm := .none },
  { cls := 10, slots := #[.int (49)], vm := .none },
  { cls := 10, slots := #[.int (50)], vm := .none },
  { cls := 10, slots := #[.int (51)], vm := .none },
  { cls := 10, slots := #[.int (52)], vm := .none },
  { cls := 10, slots := #[.int (53)], vm := .none },
  { cls := 10, slots := #[.int (54)], vm := .none },
  { cls := 10, slots := #[.int (55)], vm := .none },
  { cls := 10, slots := #[.int (56)], vm := .none },
  { cls := 10, slots := #[.int (57)], vm := .none },
  { cls := 10, slots := #[.int (58)], vm := .none },
  { cls := 10, slots := #[.int (59)], vm := .none },
  { cls := 10, slots := #[.int (60)], vm := .none },
  { cls := 10, slots := #[.int (61)], vm := .none },
  { cls := 10, slots := #[.int (62)], vm := .none },
  { cls := 10, slots := #[.int (63)], vm := .none },
  { cls := 10, slots := #[.int (64)], vm := .none },
  { cls := 10, slots := #[.int (65)], vm := .none },
  { cls := 10, slots := #[.int (66)], vm := .none },
  { cls := 10, slots := #[.int (67)], vm := .none },
  { cls := 10, slots := #[.int (68)], vm := .none },
  { cls := 10, slots := #[.int (69)], vm := .none },
  { cls := 10, slots := #[.int (70)], vm := .none },
  { cls := 10, slots := #[.int (71)], vm := .none },
  { cls := 10, slots := #[.int (72)], vm := .none },
  { cls := 10, slots := #[.int (73)], vm := .none },
  { cls := 10, slots := #[.int (74)], vm := .none },
  { cls := 10, slots := #[.int (75)], vm := .none },
  { cls := 10, slots := #[.int (76)], vm := .none },
  { cls := 10, slots := #[.int (77)], vm := .none },
  { cls := 10, slots := #[.int (78)], vm := .none },
  { cls := 10, slots := #[.int (79)], vm := .none },
  { cls := 10, slots := #[.int (80)], vm := .none },
  { cls := 10, slots := #[.int (81)], vm := .none },
  { cls := 10, slots := #[.int (82)], vm := .none },
  { cls := 10, slots := #[.int (83)], vm := .none },
  { cls := 10, slots := #[.int (84)], vm := .none },
  { cls := 10, slots := #[.int (85)], vm := .none },
  { cls := 10, slots := #[.int (86)], vm := .none },
  { cls := 10, slots := #[.int (87)], vm := .none },
  { cls := 10, slots := #[.int (88)], vm := .none },
  { cls := 10, slots := #[.int (89)], vm := .none },
  { cls := 10, slots := #[.int (90)], vm := .none },
  { cls := 10, slots := #[.int (91)], vm := .none },
  { cls := 10, slots := #[.int (92)], vm := .none },
  { cls := 10, slots := #[.int (93)], vm := .none },
  { cls := 10, slots := #[.int (94)], vm := .none },
  { cls := 10, slots := #[.int (95)], vm := .none },
  { cls := 10, slots := #[.int (96)], vm := .none },
  { cls := 10, slots := #[.int (97)], vm := .none },
  { cls := 10, slots := #[.int (98)], vm := .none },
  { cls := 10, slots := #[.int (99)], vm := .none },
  { cls := 10, slots := #[.int (100)], vm := .none },
  { cls := 10, slots := #[.int (101)], vm := .none },
  { cls := 10, slots := #[.int (102)], vm := .none },
  { cls := 10, slots := #[.int (103)], vm := .none },
  { cls := 10, slots := #[.int (104)], vm := .none },
  { cls := 10, slots := #[.int (105)], vm := .none },
  { cls := 10, slots := #[.int (106)], vm := .none },
  { cls := 10, slots := #[.int (107)], vm := .none },
  { cls := 10, slots := #[.int (108)], vm := .none },
  { cls := 10, slots := #[.int (109)], vm := .none },
  { cls := 10, slots := #[.int (110)], vm := .none },
  { cls := 10, slots := #[.int (111)], vm := .none },
  { cls := 10, slots := #[.int (112)], vm := .none },
  { cls := 10, slots := #[.int (113)], vm := .none },
  { cls := 10, slots := #[.int (114)], vm := .none },
  { cls := 10, slots := #[.int (115)], vm := .none },
  { cls := 10, slots := #[.int (116)], vm := .none },
  { cls := 10, slots := #[.int (117)], vm := .none },
  { cls := 10, slots := #[.int (118)], vm := .none },
  { cls := 10, slots := #[.int (119)], vm := .none },
  { cls := 10, slots := #[.int (120)], vm := .none },
  { cls := 10, slots := #[.int (121)], vm := .none },
  { cls := 10, slots := #[.int (122)], vm := .none },
  { cls := 10, slots := #[.int (123)], vm := .none },
  { cls := 10, slots := #[.int (124)], vm := .none },
  { cls := 10, slots := #[.int (125)], vm := .none },
  { cls := 10, slots := #[.int (126)], vm := .none },
  { cls := 10, slots := #[.int (127)], vm := .none }]
def classes : Array Class := #[k0, k1, k2, k3, k4, k5, k6, k7, k8, k9, k10, k11, k12, k13, k14, k15, k16, k17, k18, k19, k20, k21, k22, k23, k24, k25]
def interned : List (Array UInt16 × Addr) := []
def slotsUsed : Nat := 517
def theMethod : MethodId := ⟨1, 2⟩
def args0 : Array Value := #[.int 5, .int 6, .int 7, .int 8, .int 9, .int 3]
def aboutOver (below : List Frame) : State where
  vm := { classes := classes, interned := interned.toArray }
  heap := heap
  slotsUsed := slotsUsed
  threads := #[{ frames := .invoking theMethod args0 :: below }]
def below0 : List Frame := [.native { method := ⟨0, 0⟩, args := #[] }]
def about1 : State := aboutOver below0
def p0 : Program := .bare "" "" ""
def e0 : Env := launch0.env 0 0 0
theorem w_frames : about1.frames = Frame.invoking theMethod args0 :: below0 := rfl
set_option maxRecDepth 65536 in
theorem w_args : argsFit about1.vm theMethod args0 = true := by decide +kernel
set_option maxRecDepth 65536 in
theorem w_heap : heapFits about1 = true := by decide +kernel
set_option maxRecDepth 65536 in
theorem w_runnable : about1.curStatus? = some .runnable := by decide +kernel
set_option maxRecDepth 65536 in
theorem w_alone : about1.alone = true := by decide +kernel
set_option maxRecDepth 65536 in
theorem w_named : about1.methodNamed? x = some theMethod := by decide +kernel
set_option maxRecDepth 65536 in
theorem w_hears : about1.hears theMethod below0 = true := by decide +kernel
set_option maxRecDepth 65536 in
theorem w_ripe : about1.ripe theMethod args0 below0 = true := by decide +kernel
theorem w_running : about1.status = .running := rfl
set_option maxRecDepth 65536 in
theorem w_room : about1.hasRoom e0.platform room_1 = true :=
  launch0.hasRoom_least _ room_1 (by decide +kernel) (by decide +kernel) (by decide +kernel) (by decide +kernel) (by decide +kernel) (by decide +kernel)
theorem allAtoms_all (ts : List Jvm.Cond) (a : Array Jvm.Value) (st : Jvm.State) : (allAtoms ts).before a st = ts.all (fun c => c.before a st) := by
  induction ts with
  | nil => rfl
  | cons c t ih =>
    show (Jvm.Cond.and c (allAtoms t)).before a st = _
    rw [Jvm.Cond.before_and, ih, List.all_cons]
def words1 : List Jvm.Cond := Jvm.Cond.code x code maxLocals ret :: tables_1
/-- a 'code' word, met by the world's own term for the bytes: nothing is compared byte by byte -/
theorem code_word {y : MethodName} {bytes : ByteArray} {mx : Nat} {rt : Option FieldType} {a : Array Value} {s : State} {m : MethodId} {meth : Method} {c : Code} (h1 : s.methodNamed? y = some m) (h2 : s.vm.method? m = some meth) (h3 : meth.code = some c) (h4 : c.code = bytes)
    (h5 : (c.maxLocals == mx && c.exceptionTable.isEmpty && decide (c.maxStack ≤ mostOperands) && decide (meth.sig.returnType = rt) && !meth.locks && decide (parseMethodDescriptor y.desc = some meth.sig)) = true) : (Jvm.Cond.code y bytes mx rt).before a s = true := by
  simp only [Bool.and_eq_true, beq_iff_eq, Bool.not_eq_true', decide_eq_true_eq] at h5
  obtain ⟨⟨⟨⟨⟨g1, g2⟩, g3⟩, g4⟩, g5⟩, g6⟩ := h5
  simp [Cond.before, Cond.holds, Cond.value, h1, h2, h3, h4, g1, g2, g3, g4, g5, g6]
def isCode : Jvm.Cond → Bool
  | .code _ _ _ _ => true
  | _ => false
theorem all_split {L : List Jvm.Cond} {P : Jvm.Cond → Bool} (h1 : L.all (fun c => isCode c || P c) = true) (h2 : ∀ c ∈ L.filter isCode, P c = true) : L.all P = true := by
  refine List.all_eq_true.mpr fun c hc => ?_
  have h := List.all_eq_true.mp h1 c hc
  rcases Bool.eq_false_or_eq_true (isCode c) with hi | hi
  · exact h2 c (List.mem_filter.mpr ⟨hc, hi⟩)
  · simpa [hi] using h
set_option maxRecDepth 65536 in
theorem w_c0 : (Jvm.Cond.code x code maxLocals ret).before args0 about1 = true := code_word (m := ⟨1, 2⟩) (meth := k1m2) (c := k1c2) (by decide +kernel) rfl rfl rfl (by decide +kernel)
set_option maxRecDepth 65536 in
theorem w_c1 : (Jvm.Cond.code ({ cls := "com/example/brisk_tableau/brisktableau/tableau/SharedList", name := "<init>", desc := "()V" } : Jvm.MethodName) prog_112_method_1_code (1 : Nat) (Option.none : Option Jvm.ClassFile.FieldType)).before args0 about1 = true := code_word (m := ⟨3, 0⟩) (meth := k3m0) (c := k3c0) (by decide +kernel) rfl rfl rfl (by decide +kernel)
set_option maxRecDepth 65536 in
theorem w_c2 : (Jvm.Cond.code ({ cls := "com/example/brisk_tableau/brisktableau/tableau/SharedList$Store", name := "<init>", desc := "([Ljava/lang/Object;I)V" } : Jvm.MethodName) prog_114_method_1_code (3 : Nat) (Option.none : Option Jvm.ClassFile.FieldType)).before args0 about1 = true := code_word (m := ⟨4, 0⟩) (meth := k4m0) (c := k4c0) (by decide +kernel) rfl rfl rfl (by decide +kernel)
set_option maxRecDepth 65536 in
theorem w_c3 : (Jvm.Cond.code ({ cls := "java/lang/Object", name := "<init>", desc := "()V" } : Jvm.MethodName) object_method_1_code (1 : Nat) (Option.none : Option Jvm.ClassFile.FieldType)).before args0 about1 = true := code_word (m := ⟨0, 0⟩) (meth := k0m0) (c := k0c0) (by decide +kernel) rfl rfl rfl (by decide +kernel)
set_option maxRecDepth 65536 in
theorem w_c4 : (Jvm.Cond.code ({ cls := "com/example/brisk_tableau/brisktableau/tableau/SharedList", name := "<init>", desc := "(Lcom/example/brisk_tableau/brisktableau/tableau/SharedList$Store;I)V" } : Jvm.MethodName) prog_112_method_2_code (3 : Nat) (Option.none : Option Jvm.ClassFile.FieldType)).before args0 about1 = true := code_word (m := ⟨3, 1⟩) (meth := k3m1) (c := k3c1) (by decide +kernel) rfl rfl rfl (by decide +kernel)
set_option maxRecDepth 65536 in
theorem w_c5 : (Jvm.Cond.code ({ cls := "java/lang/Integer", name := "valueOf", desc := "(I)Ljava/lang/Integer;" } : Jvm.MethodName) jdk_33_method_22_code (1 : Nat) (Option.some (Jvm.ClassFile.FieldType.object "java/lang/Integer"))).before args0 about1 = true := code_word (m := ⟨10, 0⟩) (meth := k10m0) (c := k10c0) (by decide +kernel) rfl rfl rfl (by decide +kernel)
set_option maxRecDepth 65536 in
theorem w_c6 : (Jvm.Cond.code ({ cls := "com/example/brisk_tableau/brisktableau/tableau/SharedList", name := "add", desc := "(Ljava/lang/Object;)V" } : Jvm.MethodName) prog_112_method_5_code (2 : Nat) (Option.none : Option Jvm.ClassFile.FieldType)).before args0 about1 = true := code_word (m := ⟨3, 3⟩) (meth := k3m3) (c := k3c3) (by decide +kernel) rfl rfl rfl (by decide +kernel)
set_option maxRecDepth 65536 in
theorem w_c7 : (Jvm.Cond.code ({ cls := "java/util/Objects", name := "requireNonNull", desc := "(Ljava/lang/Object;)Ljava/lang/Object;" } : Jvm.MethodName) jdk_31_method_10_code (1 : Nat) (Option.some (Jvm.ClassFile.FieldType.object "java/lang/Object"))).before args0 about1 = true := code_word (m := ⟨12, 1⟩) (meth := k12m1) (c := k12c1) (by decide +kernel) rfl rfl rfl (by decide +kernel)
set_option maxRecDepth 65536 in
theorem w_c8 : (Jvm.Cond.code ({ cls := "com/example/brisk_tableau/brisktableau/tableau/SharedList", name := "iterator", desc := "()Ljava/util/Iterator;" } : Jvm.MethodName) prog_112_method_6_code (3 : Nat) (Option.some (Jvm.ClassFile.FieldType.object "java/util/Iterator"))).before args0 about1 = true := code_word (m := ⟨3, 4⟩) (meth := k3m4) (c := k3c4) (by decide +kernel) rfl rfl rfl (by decide +kernel)
set_option maxRecDepth 65536 in
theorem w_c9 : (Jvm.Cond.code ({ cls := "com/example/brisk_tableau/brisktableau/tableau/SharedList$1", name := "<init>", desc := "(Lcom/example/brisk_tableau/brisktableau/tableau/SharedList;I[Ljava/lang/Object;)V" } : Jvm.MethodName) prog_113_method_1_code (4 : Nat) (Option.none : Option Jvm.ClassFile.FieldType)).before args0 about1 = true := code_word (m := ⟨14, 0⟩) (meth := k14m0) (c := k14c0) (by decide +kernel) rfl rfl rfl (by decide +kernel)
set_option maxRecDepth 65536 in
theorem w_c10 : (Jvm.Cond.code ({ cls := "com/example/brisk_tableau/brisktableau/tableau/SharedListIteratorPinLaw", name := "step", desc := "(Ljava/util/Iterator;II[I)Z" } : Jvm.MethodName) method_2_code (5 : Nat) (Option.some Jvm.ClassFile.FieldType.boolean)).before args0 about1 = true := code_word (m := ⟨1, 1⟩) (meth := k1m1) (c := k1c1) (by decide +kernel) rfl rfl rfl (by decide +kernel)
set_option maxRecDepth 65536 in
theorem w_c11 : (Jvm.Cond.code ({ cls := "com/example/brisk_tableau/brisktableau/tableau/SharedList$1", name := "hasNext", desc := "()Z" } : Jvm.MethodName) prog_113_method_2_code (1 : Nat) (Option.some Jvm.ClassFile.FieldType.boolean)).before args0 about1 = true := code_word (m := ⟨14, 1⟩) (meth := k14m1) (c := k14c1) (by decide +kernel) rfl rfl rfl (by decide +kernel)
set_option maxRecDepth 65536 in
theorem w_c12 : (Jvm.Cond.code ({ cls := "com/example/brisk_tableau/brisktableau/tableau/SharedList$1", name := "next", desc := "()Ljava/lang/Object;" } : Jvm.MethodName) prog_113_method_3_code (1 : Nat) (Option.some (Jvm.ClassFile.FieldType.object "java/lang/Object"))).before args0 about1 = true := code_word (m := ⟨14, 2⟩) (meth := k14m2) (c := k14c2) (by decide +kernel) rfl rfl rfl (by decide +kernel)
set_option maxRecDepth 65536 in
theorem w_c13 : (Jvm.Cond.code ({ cls := "java/lang/Integer", name := "intValue", desc := "()I" } : Jvm.MethodName) jdk_33_method_27_code (1 : Nat) (Option.some Jvm.ClassFile.FieldType.int)).before args0 about1 = true := code_word (m := ⟨10, 2⟩) (meth := k10m2) (c := k10c2) (by decide +kernel) rfl rfl rfl (by decide +kernel)
set_option maxRecDepth 65536 in
theorem w_c14 : (Jvm.Cond.code ({ cls := "java/lang/Integer", name := "<init>", desc := "(I)V" } : Jvm.MethodName) jdk_33_method_23_code (2 : Nat) (Option.none : Option Jvm.ClassFile.FieldType)).before args0 about1 = true := code_word (m := ⟨10, 1⟩) (meth := k10m1) (c := k10c1) (by decide +kernel) rfl rfl rfl (by decide +kernel)
set_option maxRecDepth 65536 in
theorem w_c15 : (Jvm.Cond.code ({ cls := "java/lang/Number", name := "<init>", desc := "()V" } : Jvm.MethodName) jdk_18_method_1_code (1 : Nat) (Option.none : Option Jvm.ClassFile.FieldType)).before args0 about1 = true := code_word (m := ⟨6, 0⟩) (meth := k6m0) (c := k6c0) (by decide +kernel) rfl rfl rfl (by decide +kernel)
set_option maxRecDepth 65536 in
theorem w_c16 : (Jvm.Cond.code ({ cls := "java/lang/Math", name := "max", desc := "(II)I" } : Jvm.MethodName) jdk_29_method_65_code (2 : Nat) (Option.some Jvm.ClassFile.FieldType.int)).before args0 about1 = true := code_word (m := ⟨15, 1⟩) (meth := k15m1) (c := k15c1) (by decide +kernel) rfl rfl rfl (by decide +kernel)
set_option maxRecDepth 65536 in
theorem w_c17 : (Jvm.Cond.code ({ cls := "java/util/Arrays", name := "copyOf", desc := "([Ljava/lang/Object;I)[Ljava/lang/Object;" } : Jvm.MethodName) jdk_65_method_119_code (2 : Nat) (Option.some (Jvm.ClassFile.FieldType.array (Jvm.ClassFile.FieldType.object "java/lang/Object")))).before args0 about1 = true := code_word (m := ⟨16, 1⟩) (meth := k16m1) (c := k16c1) (by decide +kernel) rfl rfl rfl (by decide +kernel)
set_option maxRecDepth 65536 in
theorem w_c18 : (Jvm.Cond.code ({ cls := "java/util/Arrays", name := "copyOf", desc := "([Ljava/lang/Object;ILjava/lang/Class;)[Ljava/lang/Object;" } : Jvm.MethodName) jdk_65_method_120_code (4 : Nat) (Option.some (Jvm.ClassFile.FieldType.array (Jvm.ClassFile.FieldType.object "java/lang/Object")))).before args0 about1 = true := code_word (m := ⟨16, 2⟩) (meth := k16m2) (c := k16c2) (by decide +kernel) rfl rfl rfl (by decide +kernel)
set_option maxRecDepth 65536 in
theorem w_c19 : (Jvm.Cond.code ({ cls := "java/lang/Math", name := "min", desc := "(II)I" } : Jvm.MethodName) jdk_29_method_69_code (2 : Nat) (Option.some Jvm.ClassFile.FieldType.int)).before args0 about1 = true := code_word (m := ⟨15, 2⟩) (meth := k15m2) (c := k15c2) (by decide +kernel) rfl rfl rfl (by decide +kernel)
set_option maxRecDepth 65536 in
theorem w_c20 : (Jvm.Cond.code ({ cls := "com/example/brisk_tableau/brisktableau/tableau/SharedList", name := "copy", desc := "()Lcom/example/brisk_tableau/brisktableau/tableau/SharedList;" } : Jvm.MethodName) prog_112_method_3_code (1 : Nat) (Option.some (Jvm.ClassFile.FieldType.object "com/example/brisk_tableau/brisktableau/tableau/SharedList"))).before args0 about1 = true := code_word (m := ⟨3, 2⟩) (meth := k3m2) (c := k3c2) (by decide +kernel) rfl rfl rfl (by decide +kernel)
def codes1 : List Jvm.Cond := [Jvm.Cond.code x code maxLocals ret, Jvm.Cond.code ({ cls := "com/example/brisk_tableau/brisktableau/tableau/SharedList", name := "<init>", desc := "()V" } : Jvm.MethodName) prog_112_method_1_code (1 : Nat) (Option.none : Option Jvm.ClassFile.FieldType), Jvm.Cond.code ({ cls := "com/example/brisk_tableau/brisktableau/tableau/SharedList$Store", name := "<init>", desc := "([Ljava/lang/Object;I)V" } : Jvm.MethodName) prog_114_method_1_code (3 : Nat) (Option.none : Option Jvm.ClassFile.FieldType), Jvm.Cond.code ({ cls := "java/lang/Object", name := "<init>", desc := "()V" } : Jvm.MethodName) object_method_1_code (1 : Nat) (Option.none : Option Jvm.ClassFile.FieldType), Jvm.Cond.code ({ cls := "com/example/brisk_tableau/brisktableau/tableau/SharedList", name := "<init>", desc := "(Lcom/example/brisk_tableau/brisktableau/tableau/SharedList$Store;I)V" } : Jvm.MethodName) prog_112_method_2_code (3 : Nat) (Option.none : Option Jvm.ClassFile.FieldType), Jvm.Cond.code ({ cls := "java/lang/Integer", name := "valueOf", desc := "(I)Ljava/lang/Integer;" } : Jvm.MethodName) jdk_33_method_22_code (1 : Nat) (Option.some (Jvm.ClassFile.FieldType.object "java/lang/Integer")), Jvm.Cond.code ({ cls := "com/example/brisk_tableau/brisktableau/tableau/SharedList", name := "add", desc := "(Ljava/lang/Object;)V" } : Jvm.MethodName) prog_112_method_5_code (2 : Nat) (Option.none : Option Jvm.ClassFile.FieldType), Jvm.Cond.code ({ cls := "java/util/Objects", name := "requireNonNull", desc := "(Ljava/lang/Object;)Ljava/lang/Object;" } : Jvm.MethodName) jdk_31_method_10_code (1 : Nat) (Option.some (Jvm.ClassFile.FieldType.object "java/lang/Object")), Jvm.Cond.code ({ cls := "com/example/brisk_tableau/brisktableau/tableau/SharedList", name := "iterator", desc := "()Ljava/util/Iterator;" } : Jvm.MethodName) prog_112_method_6_code (3 : Nat) (Option.some (Jvm.ClassFile.FieldType.object "java/util/Iterator")), Jvm.Cond.code ({ cls := "com/example/brisk_tableau/brisktableau/tableau/SharedList$1", name := "<init>", desc := "(Lcom/example/brisk_tableau/brisktableau/tableau/SharedList;I[Ljava/lang/Object;)V" } : Jvm.MethodName) prog_113_method_1_code (4 : Nat) (Option.none : Option Jvm.ClassFile.FieldType), Jvm.Cond.code ({ cls := "com/example/brisk_tableau/brisktableau/tableau/SharedListIteratorPinLaw", name := "step", desc := "(Ljava/util/Iterator;II[I)Z" } : Jvm.MethodName) method_2_code (5 : Nat) (Option.some Jvm.ClassFile.FieldType.boolean), Jvm.Cond.code ({ cls := "com/example/brisk_tableau/brisktableau/tableau/SharedList$1", name := "hasNext", desc := "()Z" } : Jvm.MethodName) prog_113_method_2_code (1 : Nat) (Option.some Jvm.ClassFile.FieldType.boolean), Jvm.Cond.code ({ cls := "com/example/brisk_tableau/brisktableau/tableau/SharedList$1", name := "next", desc := "()Ljava/lang/Object;" } : Jvm.MethodName) prog_113_method_3_code (1 : Nat) (Option.some (Jvm.ClassFile.FieldType.object "java/lang/Object")), Jvm.Cond.code ({ cls := "java/lang/Integer", name := "intValue", desc := "()I" } : Jvm.MethodName) jdk_33_method_27_code (1 : Nat) (Option.some Jvm.ClassFile.FieldType.int), Jvm.Cond.code ({ cls := "java/lang/Integer", name := "<init>", desc := "(I)V" } : Jvm.MethodName) jdk_33_method_23_code (2 : Nat) (Option.none : Option Jvm.ClassFile.FieldType), Jvm.Cond.code ({ cls := "java/lang/Number", name := "<init>", desc := "()V" } : Jvm.MethodName) jdk_18_method_1_code (1 : Nat) (Option.none : Option Jvm.ClassFile.FieldType), Jvm.Cond.code ({ cls := "java/lang/Math", name := "max", desc := "(II)I" } : Jvm.MethodName) jdk_29_method_65_code (2 : Nat) (Option.some Jvm.ClassFile.FieldType.int), Jvm.Cond.code ({ cls := "java/util/Arrays", name := "copyOf", desc := "([Ljava/lang/Object;I)[Ljava/lang/Object;" } : Jvm.MethodName) jdk_65_method_119_code (2 : Nat) (Option.some (Jvm.ClassFile.FieldType.array (Jvm.ClassFile.FieldType.object "java/lang/Object"))), Jvm.Cond.code ({ cls := "java/util/Arrays", name := "copyOf", desc := "([Ljava/lang/Object;ILjava/lang/Class;)[Ljava/lang/Object;" } : Jvm.MethodName) jdk_65_method_120_code (4 : Nat) (Option.some (Jvm.ClassFile.FieldType.array (Jvm.ClassFile.FieldType.object "java/lang/Object"))), Jvm.Cond.code ({ cls := "java/lang/Math", name := "min", desc := "(II)I" } : Jvm.MethodName) jdk_29_method_69_code (2 : Nat) (Option.some Jvm.ClassFile.FieldType.int), Jvm.Cond.code ({ cls := "com/example/brisk_tableau/brisktableau/tableau/SharedList", name := "copy", desc := "()Lcom/example/brisk_tableau/brisktableau/tableau/SharedList;" } : Jvm.MethodName) prog_112_method_3_code (1 : Nat) (Option.some (Jvm.ClassFile.FieldType.object "com/example/brisk_tableau/brisktableau/tableau/SharedList"))]
set_option maxRecDepth 65536 in
theorem codes_eq : words1.filter isCode = codes1 := rfl
theorem w_codes : ∀ c ∈ words1.filter isCode, c.before args0 about1 = true := by
  rw [codes_eq]
  intro c hc
  simp only [codes1, List.mem_cons, List.not_mem_nil, or_false] at hc
  rcases hc with rfl | rfl | rfl | rfl | rfl | rfl | rfl | rfl | rfl | rfl | rfl | rfl | rfl | rfl | rfl | rfl | rfl | rfl | rfl | rfl | rfl
  · exact w_c0
  · exact w_c1
  · exact w_c2
  · exact w_c3
  · exact w_c4
  · exact w_c5
  · exact w_c6
  · exact w_c7
  · exact w_c8
  · exact w_c9
  · exact w_c10
  · exact w_c11
  · exact w_c12
  · exact w_c13
  · exact w_c14
  · exact w_c15
  · exact w_c16
  · exact w_c17
  · exact w_c18
  · exact w_c19
  · exact w_c20
set_option maxRecDepth 65536 in
theorem w_t1 : (words1.take 24).all (fun c => isCode c || c.before args0 about1) = true := by decide +kernel
set_option maxRecDepth 65536 in
theorem w_t2 : ((words1.drop 24).take 24).all (fun c => isCode c || c.before args0 about1) = true := by decide +kernel
set_option maxRecDepth 65536 in
theorem w_t3 : (((words1.drop 24).drop 24).take 24).all (fun c => isCode c || c.before args0 about1) = true := by decide +kernel
set_option maxRecDepth 65536 in
theorem w_t4 : ((((words1.drop 24).drop 24).drop 24).take 24).all (fun c => isCode c || c.before args0 about1) = true := by decide +kernel
set_option maxRecDepth 65536 in
theorem w_t5 : (((((words1.drop 24).drop 24).drop 24).drop 24).take 24).all (fun c => isCode c || c.before args0 about1) = true := by decide +kernel
set_option maxRecDepth 65536 in
theorem w_t6 : (((((words1.drop 24).drop 24).drop 24).drop 24).drop 24).all (fun c => isCode c || c.before args0 about1) = true := by decide +kernel
theorem w_tables : (allAtoms (Jvm.Cond.code x code maxLocals ret :: tables_1)).before args0 about1 = true := by
  rw [allAtoms_all]
  show words1.all (fun c => c.before args0 about1) = true
  refine all_split ?_ w_codes
  rw [← List.take_append_drop 24 words1, List.all_append, w_t1, ← List.take_append_drop 24 (words1.drop 24), List.all_append, w_t2, ← List.take_append_drop 24 ((words1.drop 24).drop 24), List.all_append, w_t3, ← List.take_append_drop 24 (((words1.drop 24).drop 24).drop 24), List.all_append, w_t4, ← List.take_append_drop 24 ((((words1.drop 24).drop 24).drop 24).drop 24), List.all_append, w_t5, w_t6]
  rfl
set_option maxRecDepth 65536 in
theorem w_rest : rest_1_c.before args0 about1 = true := by decide +kernel
set_option maxRecDepth 65536 in
theorem w_case : (Jvm.Cond.and given_1 narrow_1).before args0 about1 = true := by decide +kernel
theorem w_applies : (headSpec (Jvm.Cond.code x code maxLocals ret :: tables_1) room_1).applies x e0.platform about1 = true :=
  (Spec.applies_iff w_frames).mpr ⟨w_running, w_runnable, w_alone, w_named, w_hears, w_ripe, w_room, w_tables⟩
set_option maxRecDepth 65536 in
theorem atStart : AtStart classFile x code maxLocals ret World_1 tables_1 room_1 Calls_1 rest_1 Pre_1 launch0 p0 e0 about1 theMethod args0 below0 :=
  ⟨lists_1, trivial, launch0.admits_env _ _ _, launch0.least_env, fairChoices_fair.cas, fairChoices_fair.clock, w_frames, w_args, w_heap, w_applies, ⟨⟨25, k25, 1, by decide +kernel, rfl, rfl, _, rfl, rfl⟩, trivial⟩, w_rest, w_case⟩
end start1
theorem witness_1 : WitnessClaimed_1 := ⟨start1.p0, start1.e0, start1.about1, start1.theMethod, start1.args0, start1.below0, start1.atStart⟩
end Jvm.Pilot.@@N@@
