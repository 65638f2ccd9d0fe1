import JvmDerived
import JvmDerived.Pilot.@@N@@Statement
import JvmDerived.Pilot.@@N@@Code
set_option linter.unusedVariables false
set_option linter.unusedSimpArgs false
namespace Jvm.RoadKit
open Sem ClassFile Op Lib Jvm.Stand Jvm.Free Jvm.LawKit
section New
variable {p : Program} {l : Launch} {e : Env} {R : Room} {s : State} {m : MethodId} {args : Array Value} {below : List Frame} {meth : Method} {c : Code} {T : State} {locs : List Loc} {cells slots : Nat}
theorem retI (X : Stand p l e R s m args below meth c T locs cells slots) (hx : p.tables.exec = Jvm.exec) {pc : Nat} {Ls : Array Slot} {z : Int32} {rest : List Value} (hret : meth.sig.returnType = some .int) (hd : decode c.code pc = .ok (.ireturn, 1)) {fs : List Frame}
    (hl : ∀ (f : JFrame) (acts : List Action), f.method = m → f.locked = none → f.entered = [] → (doReturn e (T.setTop f) acts (some (.int z))).1 = T.setFrames fs) : Steps p.tables e below (T.setTop (mkF m pc Ls (.int z :: rest))) (T.setFrames fs) :=
  retOut X hx hret rfl (Or.inl ⟨rfl, Or.inl rfl, _, rfl⟩) hd hl
end New
end Jvm.RoadKit
namespace Jvm.Pilot.@@N@@
open Jvm Jvm.ClassFile Sem Op Lib Jvm.Free Jvm.Stand Jvm.LawKit Jvm.RoadKit Bundle Jvm.Pilot.@@N@@.Jvm.D
/-- the run goes on from T to an end of which P holds -/
def Go (tb : Tables) (e : Env) (below : List Frame) (P : Outcome → State → Prop) (T : State) : Prop := ∃ s₂ o, Steps tb e below T s₂ ∧ s₂.status = .running ∧ Ended s₂ below o ∧ P o s₂
theorem own_i {tb : Tables} {e : Env} {below : List Frame} {P : Outcome → State → Prop} {T : State} (h : Go tb e below P T) : ∃ s₂ o, Steps tb e below T s₂ ∧ s₂.status = .running ∧ Ended s₂ below o ∧ P o s₂ := h
theorem own_s {tb : Tables} {e : Env} {below : List Frame} {P : Outcome → State → Prop} {T T' : State} (h : ∀ t, Steps tb e below T' t → Steps tb e below T t) (g : Go tb e below P T') : Go tb e below P T := by
  obtain ⟨s₂, o, h1, r⟩ := g; exact ⟨s₂, o, h _ h1, r⟩
theorem own_t {tb : Tables} {e : Env} {below : List Frame} {P : Outcome → State → Prop} {T T' : State} (h : Steps tb e below T T') (g : Go tb e below P T') : Go tb e below P T := by
  obtain ⟨s₂, o, h1, r⟩ := g; exact ⟨s₂, o, h.trans h1, r⟩
theorem own_e {tb : Tables} {e : Env} {below : List Frame} {P : Outcome → State → Prop} {T s₂ : State} {o : Outcome} (h : Steps tb e below T s₂) (h1 : s₂.status = .running) (h2 : Ended s₂ below o) (h3 : P o s₂) : Go tb e below P T := ⟨s₂, o, h, h1, h2, h3⟩
theorem own_eqI {a : Term} {k : Int32} {args : Array Value} {s : State} (h : (Cond.eq a (.int k)).value args s none s [] = some true) : a.eval args s none [] s = some (.int k) := by
  obtain ⟨x, y, hx, hy, -, hk⟩ := cmp_v (Or.inl h)
  obtain rfl : y = .int k := (Option.some.inj hy).symm
  obtain ⟨z, rfl⟩ := hk
  have q := gotT (Cond.eq_ints hx hy) h
  rw [hx, q]
theorem own_eqJ {a : Term} {k : Int64} {args : Array Value} {s : State} (h : (Cond.eq a (.long k)).value args s none s [] = some true) : a.eval args s none [] s = some (.long k) := by
  obtain ⟨x, y, hx, hy, -, hk⟩ := cmp_v (Or.inl h)
  obtain rfl : y = .long k := (Option.some.inj hy).symm
  obtain ⟨z, rfl⟩ := hk
  have q := gotT (eq_L hx hy) h
  rw [hx, q]
theorem own_eqR {a b : Term} {u : Addr} {args : Array Value} {s : State} (hb : b.eval args s none [] s = some (.ref u)) (h : (Cond.eq a b).value args s none s [] = some true) : a.eval args s none [] s = some (.ref u) := by
  obtain ⟨x, y, hx, hy, -, hk⟩ := cmp_v (Or.inl h)
  obtain rfl : y = .ref u := Option.some.inj (hy.symm.trans hb)
  have hr : x.isRef = true := hk.2
  have q := gotT (eq_R hx hy hr rfl) h
  rw [hx, q]
theorem own_fI {t : Term} {a : Addr} {k : Int32} {args : Array Value} {s : State} {C n d : String} (ht : t.eval args s none [] s = some (.ref a)) (h : (Cond.eq (.field t C n d) (.int k)).value args s none s [] = some true) : Fld s s.heap a C n d (.int k) :=
  Fld.start (by have q := own_eqI h; rw [fld_at ht] at q; exact q)
theorem own_fJ {t : Term} {a : Addr} {k : Int64} {args : Array Value} {s : State} {C n d : String} (ht : t.eval args s none [] s = some (.ref a)) (h : (Cond.eq (.field t C n d) (.long k)).value args s none s [] = some true) : Fld s s.heap a C n d (.long k) :=
  Fld.start (by have q := own_eqJ h; rw [fld_at ht] at q; exact q)
theorem own_fit {s : State} (hF : heapFits s = true) : Fit s := fun {y c} hc i hi => by
  obtain ⟨ha, rfl⟩ := Array.getElem?_eq_some_iff.mp hc
  have q := List.all_eq_true.mp ((Array.all_eq_true_iff_forall_mem.mp hF) _ (Array.getElem_mem ha)) i (List.mem_range.mpr hi)
  simpa [Array.getElem?_eq_getElem hi] using q
theorem own_len {t : Term} {a : Addr} {c : Cell} {ty : FieldType} {k : Int32} {args : Array Value} {s : State} (A : Arr s s.heap a c ty) (ht : t.eval args s none [] s = some (.ref a)) (h : (Cond.eq (.length t) (.int k)).value args s none s [] = some true) : c.slots.size < 2 ^ 31 ∧ c.slots.size.toInt32 = k := by
  have q := own_eqI h
  have hA := A.fin (Vm.Alike.refl _)
  by_cases hl : c.slots.size < 2 ^ 31
  · exact ⟨hl, Value.int.inj (Option.some.inj ((len_f ht hA hl).symm.trans q))⟩
  · exfalso
    have hl' : ¬ c.slots.size < 2147483648 := hl
    simp [Term.eval, ht, hA, hl'] at q
theorem own_el {t : Term} {a : Addr} {c : Cell} {ty : FieldType} {j : Int32} {v : Value} {args : Array Value} {s : State} (A : Arr s s.heap a c ty) (ht : t.eval args s none [] s = some (.ref a)) (h : (Term.elem t (.int j)).eval args s none [] s = some v) : c.slots[j.toNatClampNeg]? = some v :=
  (elem_in h ht (Term.int_eval j) A.1).2
def own_max (p q : Int32) : Int32 := if p < q then q else p
theorem own_max_t {p q : Int32} (h : p < q) : own_max p q = q := if_pos h
theorem own_max_f {p q : Int32} (h : ¬ (p < q)) : own_max p q = p := if_neg h
theorem d14_0 : decode jdk_29_method_65_code 0 = .ok (.iload_n 0, 1) := by decide +kernel
theorem d14_1 : decode jdk_29_method_65_code 1 = .ok (.iload_n 1, 1) := by decide +kernel
theorem d14_2 : decode jdk_29_method_65_code 2 = .ok (.if_icmp .lt 7, 3) := by decide +kernel
theorem d14_9 : decode jdk_29_method_65_code 9 = .ok (.iload_n 1, 1) := by decide +kernel
theorem d14_10 : decode jdk_29_method_65_code 10 = .ok (.ireturn, 1) := by decide +kernel
theorem d14_5 : decode jdk_29_method_65_code 5 = .ok (.iload_n 0, 1) := by decide +kernel
theorem d14_6 : decode jdk_29_method_65_code 6 = .ok (.goto 4, 3) := by decide +kernel
theorem ef_rm14 (m : MethodId) (pa : Int32) (qa : Int32) : entryFrame m #[(.int pa), (.int qa)] 2 = mkF m 0 #[.val (.int pa), .val (.int qa)] [] := by first | (simp [entryFrame, mkF, argsToLocals, Value.category]; done) | rfl
def Q_rm14 (Z : State) (pa : Int32) (qa : Int32) (h0 : Heap) (n0 : Nat) (v : Option Value) (h : Heap) (L : List Loc) : Prop := v = some (.int (own_max pa qa)) ∧ Fr n0 L ∧ h = h0
set_option maxRecDepth 65536 in
set_option maxHeartbeats 40000000 in
theorem rm14 (l : Launch) (Z : State) (a0 : Array Value) (hw : ∀ d ∈ tables_1, d.before a0 Z = true) (ws : List Jvm.Cond) (pa : Int32) (qa : Int32) (h0 : Heap) (n0 : Nat) (O0 : Old Z n0 h0)  :
    MetFree l (⟨"java/lang/Math", "max", "(II)I"⟩ : MethodName) (head1 (Jvm.Cond.code (⟨"java/lang/Math", "max", "(II)I"⟩ : MethodName) jdk_29_method_65_code 2 (some .int) :: ws) ({ frames := 0, cells := 0, slots := 0, locals := 0 } : Room)) (fun aa_ U => aa_ = #[(.int pa), (.int qa)] ∧ Z.Warmed39 U.vm ∧ U.heap = h0) (fun _ _ _ _ _ => True) (fun _ U oo_ U' => ∃ vv_ LL_, oo_ = .returned vv_ ∧ Q_rm14 Z pa qa h0 n0 vv_ U'.heap LL_ ∧ FrameEnd U oo_ U' LL_ ({ frames := 0, cells := 0, slots := 0, locals := 0 } : Room).cells ({ frames := 0, cells := 0, slots := 0, locals := 0 } : Room).slots) := by
  refine MetFree.of_bodySF (by decide +kernel) hisR ?_
  intro p e s m args below meth c s₁ Bd hml0 hP hK
  obtain ⟨rfl, hZ, hh⟩ := hP
  have hx := Bd.exec
  have hby := Bd.bytes
  have hml : c.maxLocals = 2 := hml0
  have hown : s.vm.findClass "java/lang/Math" = some m.cls := findClass_of_methodNamed Bd.named
  have hnm := (name_of_methodNamed Bd.named Bd.method).1
  have X0 : Stand p l e ({ frames := 0, cells := 0, slots := 0, locals := 0 } : Room) s m #[(.int pa), (.int qa)] below meth c s₁ [] 0 0 := Stand.of_body Bd
  have e0 : s₁.heap = h0 := by rw [← hh, Bd.state]; rfl
  have N0 := Fr.nil n0
  have K0 : Keep h0 h0 [] := Keep.refl h0 _
  refine own_i (own_s (fun t k => castTop (ef_rm14 m pa qa) k) ?_)
  show Go p.tables e below _ (s₁.setTop (mkF m 0 #[.val (.int pa), .val (.int qa)] []))
  refine own_s (fun t k => XS.iloadN X0.here hx rfl (hb hby d14_0) rfl k) ?_
  show Go p.tables e below _ (s₁.setTop (mkF m 1 #[.val (.int pa), .val (.int qa)] [(.int pa)]))
  refine own_s (fun t k => XS.iloadN X0.here hx rfl (hb hby d14_1) rfl k) ?_
  show Go p.tables e below _ (s₁.setTop (mkF m 2 #[.val (.int pa), .val (.int qa)] [(.int qa), (.int pa)]))
  by_cases hc1 : pa < qa
  ·
    refine own_s (fun t k => XS.icmpYes X0.here hx rfl (pc0 := 2) (pc' := 9) rfl (hb hby d14_2) rfl (tlt hc1).1 (by decide) (by decide) k) ?_
    show Go p.tables e below _ (s₁.setTop (mkF m 9 #[.val (.int pa), .val (.int qa)] []))
    refine own_s (fun t k => XS.iloadN X0.here hx rfl (hb hby d14_9) rfl k) ?_
    show Go p.tables e below _ (s₁.setTop (mkF m 10 #[.val (.int pa), .val (.int qa)] [(.int qa)]))
    obtain ⟨fs, hr, hrun, hended, hW, hsame⟩ := X0.leave (v := (some (.int qa))) (fun h => by first | rfl | (rw [Bd.returns] at h; cases h))
    refine own_e ?_ hrun hended ⟨_, _, rfl, ?_, ⟨_, rfl⟩, hW, hsame.mono (by decide) (by decide)⟩
    · exact retI X0 hx Bd.returns (hb hby d14_10) hr
    · show Q_rm14 Z pa qa h0 n0 _ s₁.heap _
      rw [e0]
      exact ⟨congrArg (fun z => some (Value.int z)) (own_max_t hc1).symm, N0, rfl⟩
  ·
    refine own_s (fun t k => XS.icmpNo X0.here hx rfl (hb hby d14_2) rfl (flt hc1).1 k) ?_
    show Go p.tables e below _ (s₁.setTop (mkF m 5 #[.val (.int pa), .val (.int qa)] []))
    refine own_s (fun t k => XS.iloadN X0.here hx rfl (hb hby d14_5) rfl k) ?_
    show Go p.tables e below _ (s₁.setTop (mkF m 6 #[.val (.int pa), .val (.int qa)] [(.int pa)]))
    refine own_s (fun t k => XS.goto X0.here hx rfl (pc0 := 6) (pc' := 10) rfl (hb hby d14_6) (by decide) (by decide) k) ?_
    show Go p.tables e below _ (s₁.setTop (mkF m 10 #[.val (.int pa), .val (.int qa)] [(.int pa)]))
    obtain ⟨fs, hr, hrun, hended, hW, hsame⟩ := X0.leave (v := (some (.int pa))) (fun h => by first | rfl | (rw [Bd.returns] at h; cases h))
    refine own_e ?_ hrun hended ⟨_, _, rfl, ?_, ⟨_, rfl⟩, hW, hsame.mono (by decide) (by decide)⟩
    · exact retI X0 hx Bd.returns (hb hby d14_10) hr
    · show Q_rm14 Z pa qa h0 n0 _ s₁.heap _
      rw [e0]
      exact ⟨congrArg (fun z => some (Value.int z)) (own_max_f hc1).symm, N0, rfl⟩
theorem d4_0 : decode jdk_71_method_1_code 0 = .ok (.aload_n 0, 1) := by decide +kernel
theorem d4_1 : decode jdk_71_method_1_code 1 = .ok (.invokespecial 1, 3) := by decide +kernel
theorem d4_4 : decode jdk_71_method_1_code 4 = .ok (.return_, 1) := by decide +kernel
theorem pn_java_util_AbstractMap : plainName "java/util/AbstractMap" = true := by first | (simp [plainName, overriddenIn]; done) | decide +kernel
theorem ef_rm4 (m : MethodId) (a : Addr) : entryFrame m #[(.ref a)] 1 = mkF m 0 #[.val (.ref a)] [] := by first | (simp [entryFrame, mkF, argsToLocals, Value.category]; done) | rfl
def Q_rm4 (Z : State) (a : Addr) (h0 : Heap) (n0 : Nat) (v : Option Value) (h : Heap) (L : List Loc) : Prop := v = none ∧ Fr n0 L ∧ h = h0
set_option maxRecDepth 65536 in
set_option maxHeartbeats 40000000 in
theorem rm4 (l : Launch) (Z : State) (a0 : Array Value) (hw : ∀ d ∈ tables_1, d.before a0 Z = true) (ws : List Jvm.Cond) (a : Addr) (h0 : Heap) (n0 : Nat) (O0 : Old Z n0 h0)  :
    MetFree l (⟨"java/util/AbstractMap", "<init>", "()V"⟩ : MethodName) (head1 (Jvm.Cond.code (⟨"java/util/AbstractMap", "<init>", "()V"⟩ : MethodName) jdk_71_method_1_code 1 none :: ws) ({ frames := 1, cells := 0, slots := 0, locals := 12 } : Room)) (fun aa_ U => aa_ = #[(.ref a)] ∧ Z.Warmed39 U.vm ∧ U.heap = h0) (fun _ _ _ _ _ => True) (fun _ U oo_ U' => ∃ vv_ LL_, oo_ = .returned vv_ ∧ Q_rm4 Z a h0 n0 vv_ U'.heap LL_ ∧ FrameEnd U oo_ U' LL_ ({ frames := 1, cells := 0, slots := 0, locals := 12 } : Room).cells ({ frames := 1, cells := 0, slots := 0, locals := 12 } : Room).slots) := by
  refine MetFree.of_bodySF (plainFor_of_name pn_java_util_AbstractMap) hisR ?_
  intro p e s m args below meth c s₁ Bd hml0 hP hK
  obtain ⟨rfl, hZ, hh⟩ := hP
  have hx := Bd.exec
  have hby := Bd.bytes
  have hml : c.maxLocals = 1 := hml0
  have hown : s.vm.findClass "java/util/AbstractMap" = some m.cls := findClass_of_methodNamed Bd.named
  have hnm := (name_of_methodNamed Bd.named Bd.method).1
  have X0 : Stand p l e ({ frames := 1, cells := 0, slots := 0, locals := 12 } : Room) s m #[(.ref a)] below meth c s₁ [] 0 0 := Stand.of_body Bd
  have e0 : s₁.heap = h0 := by rw [← hh, Bd.state]; rfl
  have N0 := Fr.nil n0
  have K0 : Keep h0 h0 [] := Keep.refl h0 _
  refine own_i (own_s (fun t k => castTop (ef_rm4 m a) k) ?_)
  show Go p.tables e below _ (s₁.setTop (mkF m 0 #[.val (.ref a)] []))
  refine own_s (fun t k => XS.aloadN X0.here hx rfl (hb hby d4_0) rfl rfl k) ?_
  show Go p.tables e below _ (s₁.setTop (mkF m 1 #[.val (.ref a)] [(.ref a)]))
  obtain ⟨T1, X1, e1, st1⟩ := initO X0 hx hZ hown (hw _ (List.mem_of_getElem? (i := 27) rfl)) (hw _ (List.mem_of_getElem? (i := 10) rfl)) (hw _ (List.mem_of_getElem? (i := 11) rfl)) e0 (g := (mkF m 1 #[.val (.ref a)] [(.ref a)])) rfl (by rw [hml]; rfl) rfl (hb hby d4_1) (by decide) (W := 0) (by show 2 * 0 + _ ≤ _; exact Nat.le_of_eq rfl) (by decide)
  refine own_s st1 ?_
  show Go p.tables e below _ (T1.setTop (mkF m 4 #[.val (.ref a)] []))
  obtain ⟨fs, hr, hrun, hended, hW, hsame⟩ := X1.leave (v := none) (fun h => by first | rfl | (rw [Bd.returns] at h; cases h))
  refine own_e ?_ hrun hended ⟨_, _, rfl, ?_, ⟨_, rfl⟩, hW, hsame.mono (by decide) (by decide)⟩
  · exact X1.returnOut hx Bd.returns (hb hby d4_4) hr
  · show Q_rm4 Z a h0 n0 _ T1.heap _
    rw [e1]
    exact ⟨rfl, N0, rfl⟩
theorem d3_0 : decode jdk_2729_method_2_code 0 = .ok (.aload_n 0, 1) := by decide +kernel
theorem d3_1 : decode jdk_2729_method_2_code 1 = .ok (.invokespecial 1, 3) := by decide +kernel
theorem pd___V : parseMethodDescriptor "()V" = some ⟨[], none⟩ := by decide +kernel
theorem d3_4 : decode jdk_2729_method_2_code 4 = .ok (.aload_n 0, 1) := by decide +kernel
theorem d3_5 : decode jdk_2729_method_2_code 5 = .ok (.iconst 0, 1) := by decide +kernel
theorem d3_6 : decode jdk_2729_method_2_code 6 = .ok (.putfield 7, 3) := by decide +kernel
theorem d3_9 : decode jdk_2729_method_2_code 9 = .ok (.aload_n 0, 1) := by decide +kernel
theorem d3_10 : decode jdk_2729_method_2_code 10 = .ok (.iconst 0, 1) := by decide +kernel
theorem d3_11 : decode jdk_2729_method_2_code 11 = .ok (.putfield 13, 3) := by decide +kernel
theorem d3_14 : decode jdk_2729_method_2_code 14 = .ok (.aload_n 0, 1) := by decide +kernel
theorem d3_15 : decode jdk_2729_method_2_code 15 = .ok (.aload_n 1, 1) := by decide +kernel
theorem d3_16 : decode jdk_2729_method_2_code 16 = .ok (.putfield 16, 3) := by decide +kernel
theorem d3_19 : decode jdk_2729_method_2_code 19 = .ok (.return_, 1) := by decide +kernel
theorem pn_java_util_TreeMap : plainName "java/util/TreeMap" = true := by first | (simp [plainName, overriddenIn]; done) | decide +kernel
theorem ef_rm3 (m : MethodId) (a : Addr) (o : Addr) : entryFrame m #[(.ref a), (.ref o)] 2 = mkF m 0 #[.val (.ref a), .val (.ref o)] [] := by first | (simp [entryFrame, mkF, argsToLocals, Value.category]; done) | rfl
def Q_rm3 (Z : State) (a : Addr) (o : Addr) (u_size_a : Value) (u_modCount_a : Value) (u_comparator_a : Value) (h0 : Heap) (n0 : Nat) (v : Option Value) (h : Heap) (L : List Loc) : Prop := v = none ∧ Fr n0 L ∧ Keep h0 h [a]
set_option maxRecDepth 65536 in
set_option maxHeartbeats 40000000 in
theorem rm3 (l : Launch) (Z : State) (a0 : Array Value) (hw : ∀ d ∈ tables_1, d.before a0 Z = true) (ws : List Jvm.Cond) (a : Addr) (o : Addr) (u_size_a : Value) (u_modCount_a : Value) (u_comparator_a : Value) (h0 : Heap) (n0 : Nat) (O0 : Old Z n0 h0) (E_a : Exa Z h0 a "java/util/TreeMap") (F_size_a : Fld Z h0 a "java/util/TreeMap" "size" "I" u_size_a) (g_a : n0 ≤ a) (F_modCount_a : Fld Z h0 a "java/util/TreeMap" "modCount" "I" u_modCount_a) (F_comparator_a : Fld Z h0 a "java/util/TreeMap" "comparator" "Ljava/util/Comparator;" u_comparator_a) :
    MetFree l (⟨"java/util/TreeMap", "<init>", "(Ljava/util/Comparator;)V"⟩ : MethodName) (head1 (Jvm.Cond.code (⟨"java/util/TreeMap", "<init>", "(Ljava/util/Comparator;)V"⟩ : MethodName) jdk_2729_method_2_code 2 none :: ws) ({ frames := 2, cells := 0, slots := 0, locals := 24 } : Room)) (fun aa_ U => aa_ = #[(.ref a), (.ref o)] ∧ Z.Warmed39 U.vm ∧ U.heap = h0) (fun _ _ _ _ _ => True) (fun _ U oo_ U' => ∃ vv_ LL_, oo_ = .returned vv_ ∧ Q_rm3 Z a o u_size_a u_modCount_a u_comparator_a h0 n0 vv_ U'.heap LL_ ∧ FrameEnd U oo_ U' LL_ ({ frames := 2, cells := 0, slots := 0, locals := 24 } : Room).cells ({ frames := 2, cells := 0, slots := 0, locals := 24 } : Room).slots) := by
  refine MetFree.of_bodySF (plainFor_of_name pn_java_util_TreeMap) hisR ?_
  intro p e s m args below meth c s₁ Bd hml0 hP hK
  obtain ⟨rfl, hZ, hh⟩ := hP
  have hx := Bd.exec
  have hby := Bd.bytes
  have hml : c.maxLocals = 2 := hml0
  have hown : s.vm.findClass "java/util/TreeMap" = some m.cls := findClass_of_methodNamed Bd.named
  have hnm := (name_of_methodNamed Bd.named Bd.method).1
  have X0 : Stand p l e ({ frames := 2, cells := 0, slots := 0, locals := 24 } : Room) s m #[(.ref a), (.ref o)] below meth c s₁ [] 0 0 := Stand.of_body Bd
  have e0 : s₁.heap = h0 := by rw [← hh, Bd.state]; rfl
  have N0 := Fr.nil n0
  have K0 : Keep h0 h0 [a] := Keep.refl h0 _
  refine own_i (own_s (fun t k => castTop (ef_rm3 m a o) k) ?_)
  show Go p.tables e below _ (s₁.setTop (mkF m 0 #[.val (.ref a), .val (.ref o)] []))
  refine own_s (fun t k => XS.aloadN X0.here hx rfl (hb hby d3_0) rfl rfl k) ?_
  show Go p.tables e below _ (s₁.setTop (mkF m 1 #[.val (.ref a), .val (.ref o)] [(.ref a)]))
  obtain ⟨_, _, ⟨T1, L1, k1, n1⟩, -, X1, ⟨Lc1, hQ1, l1, y1, z1⟩, st1⟩ := X0.specialBack hx (y := (⟨"java/util/AbstractMap", "<init>", "()V"⟩ : MethodName)) rfl hown (mvT hZ (hw _ (List.mem_of_getElem? (i := 21) rfl))) (mvT hZ (hw _ (List.mem_of_getElem? (i := 22) rfl))) (mvT hZ (hw _ (List.mem_of_getElem? (i := 26) rfl))) (by decide) (backOf (W := 0) (rm4 l Z a0 hw [] a h0 n0 O0 ) hZ (hw _ (List.mem_of_getElem? (i := 26) rfl)) (hw _ (List.mem_of_getElem? (i := 25) rfl)) (by decide) (by decide)) (g := (mkF m 1 #[.val (.ref a), .val (.ref o)] [(.ref a)])) rfl (by rw [hml]; rfl) (Steps.refl _) (a := a) (argsL := []) (rest := []) (lenOf pd___V rfl) rfl (by show 2 * 0 + _ ≤ _; exact Nat.le_of_eq rfl) (hb hby d3_1) (fun _ _ => ⟨rfl, e0, (by decide : 0 + 0 ≤ _), (by decide : 0 + 0 ≤ _)⟩)
  dsimp only [Pt.U, Pt.locs, Pt.cells, Pt.slots] at X1 l1 y1 z1 st1 hQ1
  subst l1 y1 z1
  obtain ⟨rfl, N1q, eq1⟩ := hQ1
  have N1 := Fr.app N0 N1q
  refine own_t st1 ?_
  show Go p.tables e below _ (T1.setTop (mkF m 4 #[.val (.ref a), .val (.ref o)] []))
  refine own_s (fun t k => XS.aloadN X1.here hx rfl (hb hby d3_4) rfl rfl k) ?_
  show Go p.tables e below _ (T1.setTop (mkF m 5 #[.val (.ref a), .val (.ref o)] [(.ref a)]))
  refine own_s (fun t k => XS.iconst X1.here hx rfl (hb hby d3_5) k) ?_
  show Go p.tables e below _ (T1.setTop (mkF m 6 #[.val (.ref a), .val (.ref o)] [(.int (0 : Int32)), (.ref a)]))
  obtain ⟨T2, h2, X2, e2, W2, st2⟩ := putF X1 hx hZ hown (host := "") (Or.inl (hw _ (List.mem_of_getElem? (i := 28) rfl))) Via.refl eq1 F_size_a E_a (Or.inl (hw _ (List.mem_of_getElem? (i := 29) rfl))) (hw _ (List.mem_of_getElem? (i := 13) rfl)) (ty := .int) (by decide) rfl rfl (g := (mkF m 6 #[.val (.ref a), .val (.ref o)] [(.int (0 : Int32)), (.ref a)])) rfl rfl (hb hby d3_6)
  refine own_s st2 ?_
  have K2 : Keep h0 h2 [a] := K0.wr W2 (Or.inl (List.mem_of_getElem? (i := 0) rfl))
  have N2 := Fr.snoc X2 N1 g_a
  have Fw2 := F_size_a.same W2
  show Go p.tables e below _ (T2.setTop (mkF m 9 #[.val (.ref a), .val (.ref o)] []))
  refine own_s (fun t k => XS.aloadN X2.here hx rfl (hb hby d3_9) rfl rfl k) ?_
  show Go p.tables e below _ (T2.setTop (mkF m 10 #[.val (.ref a), .val (.ref o)] [(.ref a)]))
  refine own_s (fun t k => XS.iconst X2.here hx rfl (hb hby d3_10) k) ?_
  show Go p.tables e below _ (T2.setTop (mkF m 11 #[.val (.ref a), .val (.ref o)] [(.int (0 : Int32)), (.ref a)]))
  have Q3 : Exa Z h2 a "java/util/TreeMap" := (E_a.wr W2)
  have F4 : Fld Z h2 a "java/util/TreeMap" "modCount" "I" u_modCount_a := (F_modCount_a.other W2 (Or.inr (slot_ne (Or.inl (hw _ (List.mem_of_getElem? (i := 31) rfl))) (Or.inl (hw _ (List.mem_of_getElem? (i := 29) rfl))) (by decide) (t := .int) (t' := .int) (by decide) (by decide))))
  obtain ⟨T5, h5, X5, e5, W5, st5⟩ := putF X2 hx hZ hown (host := "") (Or.inl (hw _ (List.mem_of_getElem? (i := 30) rfl))) Via.refl e2 F4 Q3 (Or.inl (hw _ (List.mem_of_getElem? (i := 31) rfl))) (hw _ (List.mem_of_getElem? (i := 13) rfl)) (ty := .int) (by decide) rfl rfl (g := (mkF m 11 #[.val (.ref a), .val (.ref o)] [(.int (0 : Int32)), (.ref a)])) rfl rfl (hb hby d3_11)
  refine own_s st5 ?_
  have K5 : Keep h0 h5 [a] := K2.wr W5 (Or.inl (List.mem_of_getElem? (i := 0) rfl))
  have N5 := Fr.snoc X5 N2 g_a
  have Fw5 := F4.same W5
  show Go p.tables e below _ (T5.setTop (mkF m 14 #[.val (.ref a), .val (.ref o)] []))
  refine own_s (fun t k => XS.aloadN X5.here hx rfl (hb hby d3_14) rfl rfl k) ?_
  show Go p.tables e below _ (T5.setTop (mkF m 15 #[.val (.ref a), .val (.ref o)] [(.ref a)]))
  refine own_s (fun t k => XS.aloadN X5.here hx rfl (hb hby d3_15) rfl rfl k) ?_
  show Go p.tables e below _ (T5.setTop (mkF m 16 #[.val (.ref a), .val (.ref o)] [(.ref o), (.ref a)]))
  have Q6 : Exa Z h5 a "java/util/TreeMap" := (Q3.wr W5)
  have F7 : Fld Z h5 a "java/util/TreeMap" "comparator" "Ljava/util/Comparator;" u_comparator_a := ((F_comparator_a.other W2 (Or.inr (slot_ne (Or.inr (hw _ (List.mem_of_getElem? (i := 33) rfl))) (Or.inl (hw _ (List.mem_of_getElem? (i := 29) rfl))) (by decide) (t := (.object "java/util/Comparator")) (t' := .int) (by decide) (by decide)))).other W5 (Or.inr (slot_ne (Or.inr (hw _ (List.mem_of_getElem? (i := 33) rfl))) (Or.inl (hw _ (List.mem_of_getElem? (i := 31) rfl))) (by decide) (t := (.object "java/util/Comparator")) (t' := .int) (by decide) (by decide))))
  obtain ⟨T8, h8, X8, e8, W8, st8⟩ := putF X5 hx hZ hown (host := "") (Or.inl (hw _ (List.mem_of_getElem? (i := 32) rfl))) Via.refl e5 F7 Q6 (Or.inr ⟨(hw _ (List.mem_of_getElem? (i := 33) rfl)), rfl, hnm⟩) (hw _ (List.mem_of_getElem? (i := 13) rfl)) (ty := (.object "java/util/Comparator")) (by decide) rfl rfl (g := (mkF m 16 #[.val (.ref a), .val (.ref o)] [(.ref o), (.ref a)])) rfl rfl (hb hby d3_16)
  refine own_s st8 ?_
  have K8 : Keep h0 h8 [a] := K5.wr W8 (Or.inl (List.mem_of_getElem? (i := 0) rfl))
  have N8 := Fr.snoc X8 N5 g_a
  have Fw8 := F7.same W8
  show Go p.tables e below _ (T8.setTop (mkF m 19 #[.val (.ref a), .val (.ref o)] []))
  obtain ⟨fs, hr, hrun, hended, hW, hsame⟩ := X8.leave (v := none) (fun h => by first | rfl | (rw [Bd.returns] at h; cases h))
  refine own_e ?_ hrun hended ⟨_, _, rfl, ?_, ⟨_, rfl⟩, hW, hsame.mono (by decide) (by decide)⟩
  · exact X8.returnOut hx Bd.returns (hb hby d3_19) hr
  · show Q_rm3 Z a o u_size_a u_modCount_a u_comparator_a h0 n0 _ T8.heap _
    rw [e8]
    exact ⟨rfl, N8, K8⟩
theorem d1_0 : decode prog_33_method_1_code 0 = .ok (.aload_n 0, 1) := by decide +kernel
theorem d1_1 : decode prog_33_method_1_code 1 = .ok (.invokespecial 1, 3) := by decide +kernel
theorem d1_4 : decode prog_33_method_1_code 4 = .ok (.aload_n 0, 1) := by decide +kernel
theorem d1_5 : decode prog_33_method_1_code 5 = .ok (.new 7, 3) := by decide +kernel
theorem d1_8 : decode prog_33_method_1_code 8 = .ok (.dup, 1) := by decide +kernel
theorem d1_9 : decode prog_33_method_1_code 9 = .ok (.getstatic 9, 3) := by decide +kernel
theorem d1_12 : decode prog_33_method_1_code 12 = .ok (.invokespecial 15, 3) := by decide +kernel
theorem pd__Ljava_util_Comparator__V : parseMethodDescriptor "(Ljava/util/Comparator;)V" = some ⟨[(.object "java/util/Comparator")], none⟩ := by decide +kernel
theorem d1_15 : decode prog_33_method_1_code 15 = .ok (.putfield 18, 3) := by decide +kernel
theorem d1_18 : decode prog_33_method_1_code 18 = .ok (.aload_n 0, 1) := by decide +kernel
theorem d1_19 : decode prog_33_method_1_code 19 = .ok (.new 7, 3) := by decide +kernel
theorem d1_22 : decode prog_33_method_1_code 22 = .ok (.dup, 1) := by decide +kernel
theorem d1_23 : decode prog_33_method_1_code 23 = .ok (.getstatic 9, 3) := by decide +kernel
theorem d1_26 : decode prog_33_method_1_code 26 = .ok (.invokespecial 15, 3) := by decide +kernel
theorem d1_29 : decode prog_33_method_1_code 29 = .ok (.putfield 24, 3) := by decide +kernel
theorem d1_32 : decode prog_33_method_1_code 32 = .ok (.return_, 1) := by decide +kernel
theorem pn_com_example_trivalent_trivalent_engine_catalog_Catalog : plainName "com/example/trivalent/trivalent/engine/catalog/Catalog" = true := by first | (simp [plainName, overriddenIn]; done) | decide +kernel
theorem ef_rm1 (m : MethodId) (a : Addr) : entryFrame m #[(.ref a)] 1 = mkF m 0 #[.val (.ref a)] [] := by first | (simp [entryFrame, mkF, argsToLocals, Value.category]; done) | rfl
def Q_rm1 (Z : State) (uO : Addr) (a : Addr) (u_objects_a : Value) (u_indexes_a : Value) (h0 : Heap) (n0 : Nat) (v : Option Value) (h : Heap) (L : List Loc) : Prop := v = none ∧ Fr n0 L ∧ Keep h0 h [a]
set_option maxRecDepth 65536 in
set_option maxHeartbeats 40000000 in
theorem rm1 (l : Launch) (Z : State) (a0 : Array Value) (hw : ∀ d ∈ tables_1, d.before a0 Z = true) (ws : List Jvm.Cond) (uO : Addr) (a : Addr) (u_objects_a : Value) (u_indexes_a : Value) (h0 : Heap) (n0 : Nat) (O0 : Old Z n0 h0) (S_ORDER : Sta Z Z.heap "com/example/trivalent/trivalent/engine/Identifiers" "ORDER" "Ljava/util/Comparator;" (.ref uO)) (E_a : Exa Z h0 a "com/example/trivalent/trivalent/engine/catalog/Catalog") (F_objects_a : Fld Z h0 a "com/example/trivalent/trivalent/engine/catalog/Catalog" "objects" "Ljava/util/Map;" u_objects_a) (g_a : n0 ≤ a) (F_indexes_a : Fld Z h0 a "com/example/trivalent/trivalent/engine/catalog/Catalog" "indexes" "Ljava/util/Map;" u_indexes_a) :
    MetFree l (⟨"com/example/trivalent/trivalent/engine/catalog/Catalog", "<init>", "()V"⟩ : MethodName) (head1 (Jvm.Cond.code (⟨"com/example/trivalent/trivalent/engine/catalog/Catalog", "<init>", "()V"⟩ : MethodName) prog_33_method_1_code 1 none :: ws) ({ frames := 3, cells := 2, slots := 18, locals := 39 } : Room)) (fun aa_ U => aa_ = #[(.ref a)] ∧ Z.Warmed39 U.vm ∧ U.heap = h0) (fun _ _ _ _ _ => True) (fun _ U oo_ U' => ∃ vv_ LL_, oo_ = .returned vv_ ∧ Q_rm1 Z uO a u_objects_a u_indexes_a h0 n0 vv_ U'.heap LL_ ∧ FrameEnd U oo_ U' LL_ ({ frames := 3, cells := 2, slots := 18, locals := 39 } : Room).cells ({ frames := 3, cells := 2, slots := 18, locals := 39 } : Room).slots) := by
  refine MetFree.of_bodySF (plainFor_of_name pn_com_example_trivalent_trivalent_engine_catalog_Catalog) hisR ?_
  intro p e s m args below meth c s₁ Bd hml0 hP hK
  obtain ⟨rfl, hZ, hh⟩ := hP
  have hx := Bd.exec
  have hby := Bd.bytes
  have hml : c.maxLocals = 1 := hml0
  have hown : s.vm.findClass "com/example/trivalent/trivalent/engine/catalog/Catalog" = some m.cls := findClass_of_methodNamed Bd.named
  have hnm := (name_of_methodNamed Bd.named Bd.method).1
  have X0 : Stand p l e ({ frames := 3, cells := 2, slots := 18, locals := 39 } : Room) s m #[(.ref a)] below meth c s₁ [] 0 0 := Stand.of_body Bd
  have e0 : s₁.heap = h0 := by rw [← hh, Bd.state]; rfl
  have N0 := Fr.nil n0
  have K0 : Keep h0 h0 [a] := Keep.refl h0 _
  refine own_i (own_s (fun t k => castTop (ef_rm1 m a) k) ?_)
  show Go p.tables e below _ (s₁.setTop (mkF m 0 #[.val (.ref a)] []))
  refine own_s (fun t k => XS.aloadN X0.here hx rfl (hb hby d1_0) rfl rfl k) ?_
  show Go p.tables e below _ (s₁.setTop (mkF m 1 #[.val (.ref a)] [(.ref a)]))
  obtain ⟨T1, X1, e1, st1⟩ := initO X0 hx hZ hown (hw _ (List.mem_of_getElem? (i := 9) rfl)) (hw _ (List.mem_of_getElem? (i := 10) rfl)) (hw _ (List.mem_of_getElem? (i := 11) rfl)) e0 (g := (mkF m 1 #[.val (.ref a)] [(.ref a)])) rfl (by rw [hml]; rfl) rfl (hb hby d1_1) (by decide) (W := 0) (by show 2 * 0 + _ ≤ _; exact Nat.le_of_eq rfl) (by decide)
  refine own_s st1 ?_
  show Go p.tables e below _ (T1.setTop (mkF m 4 #[.val (.ref a)] []))
  refine own_s (fun t k => XS.aloadN X1.here hx rfl (hb hby d1_4) rfl rfl k) ?_
  show Go p.tables e below _ (T1.setTop (mkF m 5 #[.val (.ref a)] [(.ref a)]))
  obtain ⟨T2, h2, X2, e2, E2, A2, D2, -, st2⟩ := newO X1 hx hZ hown (hw _ (List.mem_of_getElem? (i := 12) rfl)) (hw _ (List.mem_of_getElem? (i := 13) rfl)) (hw _ (List.mem_of_getElem? (i := 14) rfl)) e1 (g := (mkF m 5 #[.val (.ref a)] [(.ref a)])) rfl (hb hby d1_5) (by decide) (by decide)
  obtain ⟨b2, gg2⟩ : ∃ z, z = h0.size := ⟨_, rfl⟩
  rw [← gg2] at A2 D2 st2
  have g_b2 : n0 ≤ b2 := Nat.le_trans (Nat.le_of_eq O0.1.symm) (Nat.le_trans O0.2.1 (Nat.le_of_eq gg2.symm))
  have sz_b2 : h0.size ≤ b2 := Nat.le_trans K0.1 (Nat.le_of_eq gg2.symm)
  have K2 : Keep h0 h2 [a] := K0.ext E2
  have F_size_b2 : Fld Z h2 b2 "java/util/TreeMap" "size" "I" (.int (0 : Int32)) := D2 (Or.inl (hw _ (List.mem_of_getElem? (i := 29) rfl))) (ty := .int) (by decide)
  have F_modCount_b2 : Fld Z h2 b2 "java/util/TreeMap" "modCount" "I" (.int (0 : Int32)) := D2 (Or.inl (hw _ (List.mem_of_getElem? (i := 31) rfl))) (ty := .int) (by decide)
  have F_comparator_b2 : Fld Z h2 b2 "java/util/TreeMap" "comparator" "Ljava/util/Comparator;" .null := D2 (Or.inr (hw _ (List.mem_of_getElem? (i := 33) rfl))) (ty := (.object "java/util/Comparator")) (by decide)
  refine own_s st2 ?_
  show Go p.tables e below _ (T2.setTop (mkF m 8 #[.val (.ref a)] [(.ref b2), (.ref a)]))
  refine own_s (fun t k => XS.dup X2.here hx rfl (hb hby d1_8) rfl rfl k) ?_
  show Go p.tables e below _ (T2.setTop (mkF m 9 #[.val (.ref a)] [(.ref b2), (.ref b2), (.ref a)]))
  have O3 : Old Z n0 h2 := (O0.ext E2)
  obtain ⟨T4, X4, e4, st4⟩ := getS2 X2 hx hZ hown (host := "") (Or.inl (hw _ (List.mem_of_getElem? (i := 15) rfl))) Via.refl e2 (S_ORDER.ext O3.2) (g := (mkF m 9 #[.val (.ref a)] [(.ref b2), (.ref b2), (.ref a)])) rfl (hb hby d1_9)
  refine own_s st4 ?_
  show Go p.tables e below _ (T4.setTop (mkF m 12 #[.val (.ref a)] [(.ref uO), (.ref b2), (.ref b2), (.ref a)]))
  obtain ⟨_, _, ⟨T5, L5, k5, n5⟩, -, X5, ⟨Lc5, hQ5, l5, y5, z5⟩, st5⟩ := X4.specialBack hx (y := (⟨"java/util/TreeMap", "<init>", "(Ljava/util/Comparator;)V"⟩ : MethodName)) rfl hown (mvT hZ (hw _ (List.mem_of_getElem? (i := 18) rfl))) (mvT hZ (hw _ (List.mem_of_getElem? (i := 19) rfl))) (mvT hZ (hw _ (List.mem_of_getElem? (i := 20) rfl))) (by decide) (backOf (W := 2) (rm3 l Z a0 hw [] b2 uO (.int (0 : Int32)) (.int (0 : Int32)) .null h2 n0 O3 A2 F_size_b2 g_b2 F_modCount_b2 F_comparator_b2) hZ (hw _ (List.mem_of_getElem? (i := 20) rfl)) (hw _ (List.mem_of_getElem? (i := 14) rfl)) (by decide) (by decide)) (g := (mkF m 12 #[.val (.ref a)] [(.ref uO), (.ref b2), (.ref b2), (.ref a)])) rfl (by rw [hml]; rfl) (Steps.refl _) (a := b2) (argsL := [(.ref uO)]) (rest := [(.ref b2), (.ref a)]) (lenOf pd__Ljava_util_Comparator__V rfl) rfl (by show 2 * 0 + _ ≤ _; exact Nat.le_of_eq rfl) (hb hby d1_12) (fun _ _ => ⟨rfl, e4, (by decide : 1 + 0 ≤ _), (by decide : 9 + 0 ≤ _)⟩)
  dsimp only [Pt.U, Pt.locs, Pt.cells, Pt.slots] at X5 l5 y5 z5 st5 hQ5
  subst l5 y5 z5
  obtain ⟨rfl, N5q, Kc5⟩ := hQ5
  have K5 : Keep h0 T5.heap [a] := K2.trans Kc5 (allS (Or.inr sz_b2) all0)
  have N5 := Fr.app N0 N5q
  refine own_t st5 ?_
  show Go p.tables e below _ (T5.setTop (mkF m 15 #[.val (.ref a)] [(.ref b2), (.ref a)]))
  have Q6 : Exa Z T5.heap a "com/example/trivalent/trivalent/engine/catalog/Catalog" := ((E_a.ext E2).keep Kc5)
  have ne7 : a ≠ b2 := Nat.ne_of_lt (Nat.lt_of_lt_of_le F_objects_a.lt (Nat.le_of_eq gg2.symm))
  have F8 : Fld Z T5.heap a "com/example/trivalent/trivalent/engine/catalog/Catalog" "objects" "Ljava/util/Map;" u_objects_a := ((F_objects_a.ext E2).keep Kc5 (ninS ne7 nin0))
  obtain ⟨T9, h9, X9, e9, W9, st9⟩ := putF X5 hx hZ hown (host := "") (Or.inl (hw _ (List.mem_of_getElem? (i := 34) rfl))) Via.refl rfl F8 Q6 (Or.inr ⟨(hw _ (List.mem_of_getElem? (i := 35) rfl)), rfl, hnm⟩) (hw _ (List.mem_of_getElem? (i := 4) rfl)) (ty := (.object "java/util/Map")) (by decide) rfl rfl (g := (mkF m 15 #[.val (.ref a)] [(.ref b2), (.ref a)])) rfl rfl (hb hby d1_15)
  refine own_s st9 ?_
  have K9 : Keep h0 h9 [a] := K5.wr W9 (Or.inl (List.mem_of_getElem? (i := 0) rfl))
  have N9 := Fr.snoc X9 N5 g_a
  have Fw9 := F8.same W9
  show Go p.tables e below _ (T9.setTop (mkF m 18 #[.val (.ref a)] []))
  refine own_s (fun t k => XS.aloadN X9.here hx rfl (hb hby d1_18) rfl rfl k) ?_
  show Go p.tables e below _ (T9.setTop (mkF m 19 #[.val (.ref a)] [(.ref a)]))
  have O10 : Old Z n0 h9 := ((O3.keep Kc5 (allS g_b2 all0)).wr W9 g_a)
  obtain ⟨T11, h11, X11, e11, E11, A11, D11, -, st11⟩ := newO X9 hx hZ hown (hw _ (List.mem_of_getElem? (i := 12) rfl)) (hw _ (List.mem_of_getElem? (i := 13) rfl)) (hw _ (List.mem_of_getElem? (i := 14) rfl)) e9 (g := (mkF m 19 #[.val (.ref a)] [(.ref a)])) rfl (hb hby d1_19) (by decide) (by decide)
  obtain ⟨b11, gg11⟩ : ∃ z, z = h9.size := ⟨_, rfl⟩
  rw [← gg11] at A11 D11 st11
  have g_b11 : n0 ≤ b11 := Nat.le_trans (Nat.le_of_eq O10.1.symm) (Nat.le_trans O10.2.1 (Nat.le_of_eq gg11.symm))
  have sz_b11 : h0.size ≤ b11 := Nat.le_trans K9.1 (Nat.le_of_eq gg11.symm)
  have K11 : Keep h0 h11 [a] := K9.ext E11
  have F_size_b11 : Fld Z h11 b11 "java/util/TreeMap" "size" "I" (.int (0 : Int32)) := D11 (Or.inl (hw _ (List.mem_of_getElem? (i := 29) rfl))) (ty := .int) (by decide)
  have F_modCount_b11 : Fld Z h11 b11 "java/util/TreeMap" "modCount" "I" (.int (0 : Int32)) := D11 (Or.inl (hw _ (List.mem_of_getElem? (i := 31) rfl))) (ty := .int) (by decide)
  have F_comparator_b11 : Fld Z h11 b11 "java/util/TreeMap" "comparator" "Ljava/util/Comparator;" .null := D11 (Or.inr (hw _ (List.mem_of_getElem? (i := 33) rfl))) (ty := (.object "java/util/Comparator")) (by decide)
  refine own_s st11 ?_
  show Go p.tables e below _ (T11.setTop (mkF m 22 #[.val (.ref a)] [(.ref b11), (.ref a)]))
  refine own_s (fun t k => XS.dup X11.here hx rfl (hb hby d1_22) rfl rfl k) ?_
  show Go p.tables e below _ (T11.setTop (mkF m 23 #[.val (.ref a)] [(.ref b11), (.ref b11), (.ref a)]))
  have O12 : Old Z n0 h11 := (O10.ext E11)
  obtain ⟨T13, X13, e13, st13⟩ := getS2 X11 hx hZ hown (host := "") (Or.inl (hw _ (List.mem_of_getElem? (i := 15) rfl))) Via.refl e11 (S_ORDER.ext O12.2) (g := (mkF m 23 #[.val (.ref a)] [(.ref b11), (.ref b11), (.ref a)])) rfl (hb hby d1_23)
  refine own_s st13 ?_
  show Go p.tables e below _ (T13.setTop (mkF m 26 #[.val (.ref a)] [(.ref uO), (.ref b11), (.ref b11), (.ref a)]))
  obtain ⟨_, _, ⟨T14, L14, k14, n14⟩, -, X14, ⟨Lc14, hQ14, l14, y14, z14⟩, st14⟩ := X13.specialBack hx (y := (⟨"java/util/TreeMap", "<init>", "(Ljava/util/Comparator;)V"⟩ : MethodName)) rfl hown (mvT hZ (hw _ (List.mem_of_getElem? (i := 18) rfl))) (mvT hZ (hw _ (List.mem_of_getElem? (i := 19) rfl))) (mvT hZ (hw _ (List.mem_of_getElem? (i := 20) rfl))) (by decide) (backOf (W := 2) (rm3 l Z a0 hw [] b11 uO (.int (0 : Int32)) (.int (0 : Int32)) .null h11 n0 O12 A11 F_size_b11 g_b11 F_modCount_b11 F_comparator_b11) hZ (hw _ (List.mem_of_getElem? (i := 20) rfl)) (hw _ (List.mem_of_getElem? (i := 14) rfl)) (by decide) (by decide)) (g := (mkF m 26 #[.val (.ref a)] [(.ref uO), (.ref b11), (.ref b11), (.ref a)])) rfl (by rw [hml]; rfl) (Steps.refl _) (a := b11) (argsL := [(.ref uO)]) (rest := [(.ref b11), (.ref a)]) (lenOf pd__Ljava_util_Comparator__V rfl) rfl (by show 2 * 0 + _ ≤ _; exact Nat.le_of_eq rfl) (hb hby d1_26) (fun _ _ => ⟨rfl, e13, (by decide : 2 + 0 ≤ _), (by decide : 18 + 0 ≤ _)⟩)
  dsimp only [Pt.U, Pt.locs, Pt.cells, Pt.slots] at X14 l14 y14 z14 st14 hQ14
  subst l14 y14 z14
  obtain ⟨rfl, N14q, Kc14⟩ := hQ14
  have K14 : Keep h0 T14.heap [a] := K11.trans Kc14 (allS (Or.inr sz_b11) all0)
  have N14 := Fr.app N9 N14q
  refine own_t st14 ?_
  show Go p.tables e below _ (T14.setTop (mkF m 29 #[.val (.ref a)] [(.ref b11), (.ref a)]))
  have Q15 : Exa Z T14.heap a "com/example/trivalent/trivalent/engine/catalog/Catalog" := (((Q6.wr W9).ext E11).keep Kc14)
  have ne16 : a ≠ b11 := Nat.ne_of_lt (Nat.lt_of_lt_of_le Fw9.lt (Nat.le_of_eq gg11.symm))
  have F17 : Fld Z T14.heap a "com/example/trivalent/trivalent/engine/catalog/Catalog" "indexes" "Ljava/util/Map;" u_indexes_a := (((((F_indexes_a.ext E2).keep Kc5 (ninS ne7 nin0)).other W9 (Or.inr (slot_ne (Or.inr (hw _ (List.mem_of_getElem? (i := 37) rfl))) (Or.inr (hw _ (List.mem_of_getElem? (i := 35) rfl))) (by decide) (t := (.object "java/util/Map")) (t' := (.object "java/util/Map")) (by decide) (by decide)))).ext E11).keep Kc14 (ninS ne16 nin0))
  obtain ⟨T18, h18, X18, e18, W18, st18⟩ := putF X14 hx hZ hown (host := "") (Or.inl (hw _ (List.mem_of_getElem? (i := 36) rfl))) Via.refl rfl F17 Q15 (Or.inr ⟨(hw _ (List.mem_of_getElem? (i := 37) rfl)), rfl, hnm⟩) (hw _ (List.mem_of_getElem? (i := 4) rfl)) (ty := (.object "java/util/Map")) (by decide) rfl rfl (g := (mkF m 29 #[.val (.ref a)] [(.ref b11), (.ref a)])) rfl rfl (hb hby d1_29)
  refine own_s st18 ?_
  have K18 : Keep h0 h18 [a] := K14.wr W18 (Or.inl (List.mem_of_getElem? (i := 0) rfl))
  have N18 := Fr.snoc X18 N14 g_a
  have Fw18 := F17.same W18
  show Go p.tables e below _ (T18.setTop (mkF m 32 #[.val (.ref a)] []))
  obtain ⟨fs, hr, hrun, hended, hW, hsame⟩ := X18.leave (v := none) (fun h => by first | rfl | (rw [Bd.returns] at h; cases h))
  refine own_e ?_ hrun hended ⟨_, _, rfl, ?_, ⟨_, rfl⟩, hW, hsame.mono (by decide) (by decide)⟩
  · exact X18.returnOut hx Bd.returns (hb hby d1_32) hr
  · show Q_rm1 Z uO a u_objects_a u_indexes_a h0 n0 _ T18.heap _
    rw [e18]
    exact ⟨rfl, N18, K18⟩
theorem d9_0 : decode jdk_22_method_1_code 0 = .ok (.aload_n 0, 1) := by decide +kernel
theorem d9_1 : decode jdk_22_method_1_code 1 = .ok (.invokespecial 1, 3) := by decide +kernel
theorem d9_4 : decode jdk_22_method_1_code 4 = .ok (.return_, 1) := by decide +kernel
theorem pn_java_util_AbstractCollection : plainName "java/util/AbstractCollection" = true := by first | (simp [plainName, overriddenIn]; done) | decide +kernel
theorem ef_rm9 (m : MethodId) (a : Addr) : entryFrame m #[(.ref a)] 1 = mkF m 0 #[.val (.ref a)] [] := by first | (simp [entryFrame, mkF, argsToLocals, Value.category]; done) | rfl
def Q_rm9 (Z : State) (a : Addr) (h0 : Heap) (n0 : Nat) (v : Option Value) (h : Heap) (L : List Loc) : Prop := v = none ∧ Fr n0 L ∧ h = h0
set_option maxRecDepth 65536 in
set_option maxHeartbeats 40000000 in
theorem rm9 (l : Launch) (Z : State) (a0 : Array Value) (hw : ∀ d ∈ tables_1, d.before a0 Z = true) (ws : List Jvm.Cond) (a : Addr) (h0 : Heap) (n0 : Nat) (O0 : Old Z n0 h0)  :
    MetFree l (⟨"java/util/AbstractCollection", "<init>", "()V"⟩ : MethodName) (head1 (Jvm.Cond.code (⟨"java/util/AbstractCollection", "<init>", "()V"⟩ : MethodName) jdk_22_method_1_code 1 none :: ws) ({ frames := 1, cells := 0, slots := 0, locals := 12 } : Room)) (fun aa_ U => aa_ = #[(.ref a)] ∧ Z.Warmed39 U.vm ∧ U.heap = h0) (fun _ _ _ _ _ => True) (fun _ U oo_ U' => ∃ vv_ LL_, oo_ = .returned vv_ ∧ Q_rm9 Z a h0 n0 vv_ U'.heap LL_ ∧ FrameEnd U oo_ U' LL_ ({ frames := 1, cells := 0, slots := 0, locals := 12 } : Room).cells ({ frames := 1, cells := 0, slots := 0, locals := 12 } : Room).slots) := by
  refine MetFree.of_bodySF (plainFor_of_name pn_java_util_AbstractCollection) hisR ?_
  intro p e s m args below meth c s₁ Bd hml0 hP hK
  obtain ⟨rfl, hZ, hh⟩ := hP
  have hx := Bd.exec
  have hby := Bd.bytes
  have hml : c.maxLocals = 1 := hml0
  have hown : s.vm.findClass "java/util/AbstractCollection" = some m.cls := findClass_of_methodNamed Bd.named
  have hnm := (name_of_methodNamed Bd.named Bd.method).1
  have X0 : Stand p l e ({ frames := 1, cells := 0, slots := 0, locals := 12 } : Room) s m #[(.ref a)] below meth c s₁ [] 0 0 := Stand.of_body Bd
  have e0 : s₁.heap = h0 := by rw [← hh, Bd.state]; rfl
  have N0 := Fr.nil n0
  have K0 : Keep h0 h0 [] := Keep.refl h0 _
  refine own_i (own_s (fun t k => castTop (ef_rm9 m a) k) ?_)
  show Go p.tables e below _ (s₁.setTop (mkF m 0 #[.val (.ref a)] []))
  refine own_s (fun t k => XS.aloadN X0.here hx rfl (hb hby d9_0) rfl rfl k) ?_
  show Go p.tables e below _ (s₁.setTop (mkF m 1 #[.val (.ref a)] [(.ref a)]))
  obtain ⟨T1, X1, e1, st1⟩ := initO X0 hx hZ hown (hw _ (List.mem_of_getElem? (i := 68) rfl)) (hw _ (List.mem_of_getElem? (i := 10) rfl)) (hw _ (List.mem_of_getElem? (i := 11) rfl)) e0 (g := (mkF m 1 #[.val (.ref a)] [(.ref a)])) rfl (by rw [hml]; rfl) rfl (hb hby d9_1) (by decide) (W := 0) (by show 2 * 0 + _ ≤ _; exact Nat.le_of_eq rfl) (by decide)
  refine own_s st1 ?_
  show Go p.tables e below _ (T1.setTop (mkF m 4 #[.val (.ref a)] []))
  obtain ⟨fs, hr, hrun, hended, hW, hsame⟩ := X1.leave (v := none) (fun h => by first | rfl | (rw [Bd.returns] at h; cases h))
  refine own_e ?_ hrun hended ⟨_, _, rfl, ?_, ⟨_, rfl⟩, hW, hsame.mono (by decide) (by decide)⟩
  · exact X1.returnOut hx Bd.returns (hb hby d9_4) hr
  · show Q_rm9 Z a h0 n0 _ T1.heap _
    rw [e1]
    exact ⟨rfl, N0, rfl⟩
theorem d8_0 : decode jdk_91_method_1_code 0 = .ok (.aload_n 0, 1) := by decide +kernel
theorem d8_1 : decode jdk_91_method_1_code 1 = .ok (.invokespecial 1, 3) := by decide +kernel
theorem d8_4 : decode jdk_91_method_1_code 4 = .ok (.return_, 1) := by decide +kernel
theorem pn_java_util_AbstractSet : plainName "java/util/AbstractSet" = true := by first | (simp [plainName, overriddenIn]; done) | decide +kernel
theorem ef_rm8 (m : MethodId) (a : Addr) : entryFrame m #[(.ref a)] 1 = mkF m 0 #[.val (.ref a)] [] := by first | (simp [entryFrame, mkF, argsToLocals, Value.category]; done) | rfl
def Q_rm8 (Z : State) (a : Addr) (h0 : Heap) (n0 : Nat) (v : Option Value) (h : Heap) (L : List Loc) : Prop := v = none ∧ Fr n0 L ∧ h = h0
set_option maxRecDepth 65536 in
set_option maxHeartbeats 40000000 in
theorem rm8 (l : Launch) (Z : State) (a0 : Array Value) (hw : ∀ d ∈ tables_1, d.before a0 Z = true) (ws : List Jvm.Cond) (a : Addr) (h0 : Heap) (n0 : Nat) (O0 : Old Z n0 h0)  :
    MetFree l (⟨"java/util/AbstractSet", "<init>", "()V"⟩ : MethodName) (head1 (Jvm.Cond.code (⟨"java/util/AbstractSet", "<init>", "()V"⟩ : MethodName) jdk_91_method_1_code 1 none :: ws) ({ frames := 2, cells := 0, slots := 0, locals := 24 } : Room)) (fun aa_ U => aa_ = #[(.ref a)] ∧ Z.Warmed39 U.vm ∧ U.heap = h0) (fun _ _ _ _ _ => True) (fun _ U oo_ U' => ∃ vv_ LL_, oo_ = .returned vv_ ∧ Q_rm8 Z a h0 n0 vv_ U'.heap LL_ ∧ FrameEnd U oo_ U' LL_ ({ frames := 2, cells := 0, slots := 0, locals := 24 } : Room).cells ({ frames := 2, cells := 0, slots := 0, locals := 24 } : Room).slots) := by
  refine MetFree.of_bodySF (plainFor_of_name pn_java_util_AbstractSet) hisR ?_
  intro p e s m args below meth c s₁ Bd hml0 hP hK
  obtain ⟨rfl, hZ, hh⟩ := hP
  have hx := Bd.exec
  have hby := Bd.bytes
  have hml : c.maxLocals = 1 := hml0
  have hown : s.vm.findClass "java/util/AbstractSet" = some m.cls := findClass_of_methodNamed Bd.named
  have hnm := (name_of_methodNamed Bd.named Bd.method).1
  have X0 : Stand p l e ({ frames := 2, cells := 0, slots := 0, locals := 24 } : Room) s m #[(.ref a)] below meth c s₁ [] 0 0 := Stand.of_body Bd
  have e0 : s₁.heap = h0 := by rw [← hh, Bd.state]; rfl
  have N0 := Fr.nil n0
  have K0 : Keep h0 h0 [] := Keep.refl h0 _
  refine own_i (own_s (fun t k => castTop (ef_rm8 m a) k) ?_)
  show Go p.tables e below _ (s₁.setTop (mkF m 0 #[.val (.ref a)] []))
  refine own_s (fun t k => XS.aloadN X0.here hx rfl (hb hby d8_0) rfl rfl k) ?_
  show Go p.tables e below _ (s₁.setTop (mkF m 1 #[.val (.ref a)] [(.ref a)]))
  obtain ⟨_, _, ⟨T1, L1, k1, n1⟩, -, X1, ⟨Lc1, hQ1, l1, y1, z1⟩, st1⟩ := X0.specialBack hx (y := (⟨"java/util/AbstractCollection", "<init>", "()V"⟩ : MethodName)) rfl hown (mvT hZ (hw _ (List.mem_of_getElem? (i := 62) rfl))) (mvT hZ (hw _ (List.mem_of_getElem? (i := 63) rfl))) (mvT hZ (hw _ (List.mem_of_getElem? (i := 67) rfl))) (by decide) (backOf (W := 0) (rm9 l Z a0 hw [] a h0 n0 O0 ) hZ (hw _ (List.mem_of_getElem? (i := 67) rfl)) (hw _ (List.mem_of_getElem? (i := 66) rfl)) (by decide) (by decide)) (g := (mkF m 1 #[.val (.ref a)] [(.ref a)])) rfl (by rw [hml]; rfl) (Steps.refl _) (a := a) (argsL := []) (rest := []) (lenOf pd___V rfl) rfl (by show 2 * 0 + _ ≤ _; exact Nat.le_of_eq rfl) (hb hby d8_1) (fun _ _ => ⟨rfl, e0, (by decide : 0 + 0 ≤ _), (by decide : 0 + 0 ≤ _)⟩)
  dsimp only [Pt.U, Pt.locs, Pt.cells, Pt.slots] at X1 l1 y1 z1 st1 hQ1
  subst l1 y1 z1
  obtain ⟨rfl, N1q, eq1⟩ := hQ1
  have N1 := Fr.app N0 N1q
  refine own_t st1 ?_
  show Go p.tables e below _ (T1.setTop (mkF m 4 #[.val (.ref a)] []))
  obtain ⟨fs, hr, hrun, hended, hW, hsame⟩ := X1.leave (v := none) (fun h => by first | rfl | (rw [Bd.returns] at h; cases h))
  refine own_e ?_ hrun hended ⟨_, _, rfl, ?_, ⟨_, rfl⟩, hW, hsame.mono (by decide) (by decide)⟩
  · exact X1.returnOut hx Bd.returns (hb hby d8_4) hr
  · show Q_rm8 Z a h0 n0 _ T1.heap _
    rw [eq1]
    exact ⟨rfl, N1, rfl⟩
theorem d7_0 : decode jdk_2756_method_1_code 0 = .ok (.aload_n 0, 1) := by decide +kernel
theorem d7_1 : decode jdk_2756_method_1_code 1 = .ok (.invokespecial 1, 3) := by decide +kernel
theorem d7_4 : decode jdk_2756_method_1_code 4 = .ok (.aload_n 0, 1) := by decide +kernel
theorem d7_5 : decode jdk_2756_method_1_code 5 = .ok (.aload_n 1, 1) := by decide +kernel
theorem d7_6 : decode jdk_2756_method_1_code 6 = .ok (.putfield 7, 3) := by decide +kernel
theorem d7_9 : decode jdk_2756_method_1_code 9 = .ok (.return_, 1) := by decide +kernel
theorem pn_java_util_TreeSet : plainName "java/util/TreeSet" = true := by first | (simp [plainName, overriddenIn]; done) | decide +kernel
theorem ef_rm7 (m : MethodId) (a : Addr) (o : Addr) : entryFrame m #[(.ref a), (.ref o)] 2 = mkF m 0 #[.val (.ref a), .val (.ref o)] [] := by first | (simp [entryFrame, mkF, argsToLocals, Value.category]; done) | rfl
def Q_rm7 (Z : State) (a : Addr) (o : Addr) (u_m_a : Value) (h0 : Heap) (n0 : Nat) (v : Option Value) (h : Heap) (L : List Loc) : Prop := v = none ∧ Fr n0 L ∧ Keep h0 h [a]
set_option maxRecDepth 65536 in
set_option maxHeartbeats 40000000 in
theorem rm7 (l : Launch) (Z : State) (a0 : Array Value) (hw : ∀ d ∈ tables_1, d.before a0 Z = true) (ws : List Jvm.Cond) (a : Addr) (o : Addr) (u_m_a : Value) (h0 : Heap) (n0 : Nat) (O0 : Old Z n0 h0) (E_a : Exa Z h0 a "java/util/TreeSet") (F_m_a : Fld Z h0 a "java/util/TreeSet" "m" "Ljava/util/NavigableMap;" u_m_a) (g_a : n0 ≤ a) :
    MetFree l (⟨"java/util/TreeSet", "<init>", "(Ljava/util/NavigableMap;)V"⟩ : MethodName) (head1 (Jvm.Cond.code (⟨"java/util/TreeSet", "<init>", "(Ljava/util/NavigableMap;)V"⟩ : MethodName) jdk_2756_method_1_code 2 none :: ws) ({ frames := 3, cells := 0, slots := 0, locals := 36 } : Room)) (fun aa_ U => aa_ = #[(.ref a), (.ref o)] ∧ Z.Warmed39 U.vm ∧ U.heap = h0) (fun _ _ _ _ _ => True) (fun _ U oo_ U' => ∃ vv_ LL_, oo_ = .returned vv_ ∧ Q_rm7 Z a o u_m_a h0 n0 vv_ U'.heap LL_ ∧ FrameEnd U oo_ U' LL_ ({ frames := 3, cells := 0, slots := 0, locals := 36 } : Room).cells ({ frames := 3, cells := 0, slots := 0, locals := 36 } : Room).slots) := by
  refine MetFree.of_bodySF (plainFor_of_name pn_java_util_TreeSet) hisR ?_
  intro p e s m args below meth c s₁ Bd hml0 hP hK
  obtain ⟨rfl, hZ, hh⟩ := hP
  have hx := Bd.exec
  have hby := Bd.bytes
  have hml : c.maxLocals = 2 := hml0
  have hown : s.vm.findClass "java/util/TreeSet" = some m.cls := findClass_of_methodNamed Bd.named
  have hnm := (name_of_methodNamed Bd.named Bd.method).1
  have X0 : Stand p l e ({ frames := 3, cells := 0, slots := 0, locals := 36 } : Room) s m #[(.ref a), (.ref o)] below meth c s₁ [] 0 0 := Stand.of_body Bd
  have e0 : s₁.heap = h0 := by rw [← hh, Bd.state]; rfl
  have N0 := Fr.nil n0
  have K0 : Keep h0 h0 [a] := Keep.refl h0 _
  refine own_i (own_s (fun t k => castTop (ef_rm7 m a o) k) ?_)
  show Go p.tables e below _ (s₁.setTop (mkF m 0 #[.val (.ref a), .val (.ref o)] []))
  refine own_s (fun t k => XS.aloadN X0.here hx rfl (hb hby d7_0) rfl rfl k) ?_
  show Go p.tables e below _ (s₁.setTop (mkF m 1 #[.val (.ref a), .val (.ref o)] [(.ref a)]))
  obtain ⟨_, _, ⟨T1, L1, k1, n1⟩, -, X1, ⟨Lc1, hQ1, l1, y1, z1⟩, st1⟩ := X0.specialBack hx (y := (⟨"java/util/AbstractSet", "<init>", "()V"⟩ : MethodName)) rfl hown (mvT hZ (hw _ (List.mem_of_getElem? (i := 56) rfl))) (mvT hZ (hw _ (List.mem_of_getElem? (i := 57) rfl))) (mvT hZ (hw _ (List.mem_of_getElem? (i := 61) rfl))) (by decide) (backOf (W := 0) (rm8 l Z a0 hw [] a h0 n0 O0 ) hZ (hw _ (List.mem_of_getElem? (i := 61) rfl)) (hw _ (List.mem_of_getElem? (i := 60) rfl)) (by decide) (by decide)) (g := (mkF m 1 #[.val (.ref a), .val (.ref o)] [(.ref a)])) rfl (by rw [hml]; rfl) (Steps.refl _) (a := a) (argsL := []) (rest := []) (lenOf pd___V rfl) rfl (by show 2 * 0 + _ ≤ _; exact Nat.le_of_eq rfl) (hb hby d7_1) (fun _ _ => ⟨rfl, e0, (by decide : 0 + 0 ≤ _), (by decide : 0 + 0 ≤ _)⟩)
  dsimp only [Pt.U, Pt.locs, Pt.cells, Pt.slots] at X1 l1 y1 z1 st1 hQ1
  subst l1 y1 z1
  obtain ⟨rfl, N1q, eq1⟩ := hQ1
  have N1 := Fr.app N0 N1q
  refine own_t st1 ?_
  show Go p.tables e below _ (T1.setTop (mkF m 4 #[.val (.ref a), .val (.ref o)] []))
  refine own_s (fun t k => XS.aloadN X1.here hx rfl (hb hby d7_4) rfl rfl k) ?_
  show Go p.tables e below _ (T1.setTop (mkF m 5 #[.val (.ref a), .val (.ref o)] [(.ref a)]))
  refine own_s (fun t k => XS.aloadN X1.here hx rfl (hb hby d7_5) rfl rfl k) ?_
  show Go p.tables e below _ (T1.setTop (mkF m 6 #[.val (.ref a), .val (.ref o)] [(.ref o), (.ref a)]))
  obtain ⟨T2, h2, X2, e2, W2, st2⟩ := putF X1 hx hZ hown (host := "") (Or.inl (hw _ (List.mem_of_getElem? (i := 69) rfl))) Via.refl eq1 F_m_a E_a (Or.inl (hw _ (List.mem_of_getElem? (i := 70) rfl))) (hw _ (List.mem_of_getElem? (i := 43) rfl)) (ty := (.object "java/util/NavigableMap")) (by decide) rfl rfl (g := (mkF m 6 #[.val (.ref a), .val (.ref o)] [(.ref o), (.ref a)])) rfl rfl (hb hby d7_6)
  refine own_s st2 ?_
  have K2 : Keep h0 h2 [a] := K0.wr W2 (Or.inl (List.mem_of_getElem? (i := 0) rfl))
  have N2 := Fr.snoc X2 N1 g_a
  have Fw2 := F_m_a.same W2
  show Go p.tables e below _ (T2.setTop (mkF m 9 #[.val (.ref a), .val (.ref o)] []))
  obtain ⟨fs, hr, hrun, hended, hW, hsame⟩ := X2.leave (v := none) (fun h => by first | rfl | (rw [Bd.returns] at h; cases h))
  refine own_e ?_ hrun hended ⟨_, _, rfl, ?_, ⟨_, rfl⟩, hW, hsame.mono (by decide) (by decide)⟩
  · exact X2.returnOut hx Bd.returns (hb hby d7_9) hr
  · show Q_rm7 Z a o u_m_a h0 n0 _ T2.heap _
    rw [e2]
    exact ⟨rfl, N2, K2⟩
theorem d6_0 : decode jdk_2756_method_3_code 0 = .ok (.aload_n 0, 1) := by decide +kernel
theorem d6_1 : decode jdk_2756_method_3_code 1 = .ok (.new 13, 3) := by decide +kernel
theorem d6_4 : decode jdk_2756_method_3_code 4 = .ok (.dup, 1) := by decide +kernel
theorem d6_5 : decode jdk_2756_method_3_code 5 = .ok (.aload_n 1, 1) := by decide +kernel
theorem d6_6 : decode jdk_2756_method_3_code 6 = .ok (.invokespecial 19, 3) := by decide +kernel
theorem d6_9 : decode jdk_2756_method_3_code 9 = .ok (.invokespecial 16, 3) := by decide +kernel
theorem pd__Ljava_util_NavigableMap__V : parseMethodDescriptor "(Ljava/util/NavigableMap;)V" = some ⟨[(.object "java/util/NavigableMap")], none⟩ := by decide +kernel
theorem d6_12 : decode jdk_2756_method_3_code 12 = .ok (.return_, 1) := by decide +kernel
theorem ef_rm6 (m : MethodId) (a : Addr) (o : Addr) : entryFrame m #[(.ref a), (.ref o)] 2 = mkF m 0 #[.val (.ref a), .val (.ref o)] [] := by first | (simp [entryFrame, mkF, argsToLocals, Value.category]; done) | rfl
def Q_rm6 (Z : State) (a : Addr) (o : Addr) (u_m_a : Value) (h0 : Heap) (n0 : Nat) (v : Option Value) (h : Heap) (L : List Loc) : Prop := v = none ∧ Fr n0 L ∧ Keep h0 h [a]
set_option maxRecDepth 65536 in
set_option maxHeartbeats 40000000 in
theorem rm6 (l : Launch) (Z : State) (a0 : Array Value) (hw : ∀ d ∈ tables_1, d.before a0 Z = true) (ws : List Jvm.Cond) (a : Addr) (o : Addr) (u_m_a : Value) (h0 : Heap) (n0 : Nat) (O0 : Old Z n0 h0) (E_a : Exa Z h0 a "java/util/TreeSet") (F_m_a : Fld Z h0 a "java/util/TreeSet" "m" "Ljava/util/NavigableMap;" u_m_a) (g_a : n0 ≤ a) :
    MetFree l (⟨"java/util/TreeSet", "<init>", "(Ljava/util/Comparator;)V"⟩ : MethodName) (head1 (Jvm.Cond.code (⟨"java/util/TreeSet", "<init>", "(Ljava/util/Comparator;)V"⟩ : MethodName) jdk_2756_method_3_code 2 none :: ws) ({ frames := 4, cells := 1, slots := 9, locals := 49 } : Room)) (fun aa_ U => aa_ = #[(.ref a), (.ref o)] ∧ Z.Warmed39 U.vm ∧ U.heap = h0) (fun _ _ _ _ _ => True) (fun _ U oo_ U' => ∃ vv_ LL_, oo_ = .returned vv_ ∧ Q_rm6 Z a o u_m_a h0 n0 vv_ U'.heap LL_ ∧ FrameEnd U oo_ U' LL_ ({ frames := 4, cells := 1, slots := 9, locals := 49 } : Room).cells ({ frames := 4, cells := 1, slots := 9, locals := 49 } : Room).slots) := by
  refine MetFree.of_bodySF (plainFor_of_name pn_java_util_TreeSet) hisR ?_
  intro p e s m args below meth c s₁ Bd hml0 hP hK
  obtain ⟨rfl, hZ, hh⟩ := hP
  have hx := Bd.exec
  have hby := Bd.bytes
  have hml : c.maxLocals = 2 := hml0
  have hown : s.vm.findClass "java/util/TreeSet" = some m.cls := findClass_of_methodNamed Bd.named
  have hnm := (name_of_methodNamed Bd.named Bd.method).1
  have X0 : Stand p l e ({ frames := 4, cells := 1, slots := 9, locals := 49 } : Room) s m #[(.ref a), (.ref o)] below meth c s₁ [] 0 0 := Stand.of_body Bd
  have e0 : s₁.heap = h0 := by rw [← hh, Bd.state]; rfl
  have N0 := Fr.nil n0
  have K0 : Keep h0 h0 [a] := Keep.refl h0 _
  refine own_i (own_s (fun t k => castTop (ef_rm6 m a o) k) ?_)
  show Go p.tables e below _ (s₁.setTop (mkF m 0 #[.val (.ref a), .val (.ref o)] []))
  refine own_s (fun t k => XS.aloadN X0.here hx rfl (hb hby d6_0) rfl rfl k) ?_
  show Go p.tables e below _ (s₁.setTop (mkF m 1 #[.val (.ref a), .val (.ref o)] [(.ref a)]))
  obtain ⟨T1, h1, X1, e1, E1, A1, D1, -, st1⟩ := newO X0 hx hZ hown (hw _ (List.mem_of_getElem? (i := 49) rfl)) (hw _ (List.mem_of_getElem? (i := 13) rfl)) (hw _ (List.mem_of_getElem? (i := 14) rfl)) e0 (g := (mkF m 1 #[.val (.ref a), .val (.ref o)] [(.ref a)])) rfl (hb hby d6_1) (by decide) (by decide)
  obtain ⟨b1, gg1⟩ : ∃ z, z = h0.size := ⟨_, rfl⟩
  rw [← gg1] at A1 D1 st1
  have g_b1 : n0 ≤ b1 := Nat.le_trans (Nat.le_of_eq O0.1.symm) (Nat.le_trans O0.2.1 (Nat.le_of_eq gg1.symm))
  have sz_b1 : h0.size ≤ b1 := Nat.le_trans K0.1 (Nat.le_of_eq gg1.symm)
  have K1 : Keep h0 h1 [a] := K0.ext E1
  have F_size_b1 : Fld Z h1 b1 "java/util/TreeMap" "size" "I" (.int (0 : Int32)) := D1 (Or.inl (hw _ (List.mem_of_getElem? (i := 29) rfl))) (ty := .int) (by decide)
  have F_modCount_b1 : Fld Z h1 b1 "java/util/TreeMap" "modCount" "I" (.int (0 : Int32)) := D1 (Or.inl (hw _ (List.mem_of_getElem? (i := 31) rfl))) (ty := .int) (by decide)
  have F_comparator_b1 : Fld Z h1 b1 "java/util/TreeMap" "comparator" "Ljava/util/Comparator;" .null := D1 (Or.inr (hw _ (List.mem_of_getElem? (i := 33) rfl))) (ty := (.object "java/util/Comparator")) (by decide)
  refine own_s st1 ?_
  show Go p.tables e below _ (T1.setTop (mkF m 4 #[.val (.ref a), .val (.ref o)] [(.ref b1), (.ref a)]))
  refine own_s (fun t k => XS.dup X1.here hx rfl (hb hby d6_4) rfl rfl k) ?_
  show Go p.tables e below _ (T1.setTop (mkF m 5 #[.val (.ref a), .val (.ref o)] [(.ref b1), (.ref b1), (.ref a)]))
  refine own_s (fun t k => XS.aloadN X1.here hx rfl (hb hby d6_5) rfl rfl k) ?_
  show Go p.tables e below _ (T1.setTop (mkF m 6 #[.val (.ref a), .val (.ref o)] [(.ref o), (.ref b1), (.ref b1), (.ref a)]))
  have O3 : Old Z n0 h1 := (O0.ext E1)
  obtain ⟨_, _, ⟨T2, L2, k2, n2⟩, -, X2, ⟨Lc2, hQ2, l2, y2, z2⟩, st2⟩ := X1.specialBack hx (y := (⟨"java/util/TreeMap", "<init>", "(Ljava/util/Comparator;)V"⟩ : MethodName)) rfl hown (mvT hZ (hw _ (List.mem_of_getElem? (i := 50) rfl))) (mvT hZ (hw _ (List.mem_of_getElem? (i := 19) rfl))) (mvT hZ (hw _ (List.mem_of_getElem? (i := 20) rfl))) (by decide) (backOf (W := 2) (rm3 l Z a0 hw [] b1 o (.int (0 : Int32)) (.int (0 : Int32)) .null h1 n0 O3 A1 F_size_b1 g_b1 F_modCount_b1 F_comparator_b1) hZ (hw _ (List.mem_of_getElem? (i := 20) rfl)) (hw _ (List.mem_of_getElem? (i := 14) rfl)) (by decide) (by decide)) (g := (mkF m 6 #[.val (.ref a), .val (.ref o)] [(.ref o), (.ref b1), (.ref b1), (.ref a)])) rfl (by rw [hml]; rfl) (Steps.refl _) (a := b1) (argsL := [(.ref o)]) (rest := [(.ref b1), (.ref a)]) (lenOf pd__Ljava_util_Comparator__V rfl) rfl (by show 2 * 0 + _ ≤ _; exact Nat.le_of_eq rfl) (hb hby d6_6) (fun _ _ => ⟨rfl, e1, (by decide : 1 + 0 ≤ _), (by decide : 9 + 0 ≤ _)⟩)
  dsimp only [Pt.U, Pt.locs, Pt.cells, Pt.slots] at X2 l2 y2 z2 st2 hQ2
  subst l2 y2 z2
  obtain ⟨rfl, N2q, Kc2⟩ := hQ2
  have K2 : Keep h0 T2.heap [a] := K1.trans Kc2 (allS (Or.inr sz_b1) all0)
  have N2 := Fr.app N0 N2q
  refine own_t st2 ?_
  show Go p.tables e below _ (T2.setTop (mkF m 9 #[.val (.ref a), .val (.ref o)] [(.ref b1), (.ref a)]))
  have Q5 : Exa Z T2.heap a "java/util/TreeSet" := ((E_a.ext E1).keep Kc2)
  have ne6 : a ≠ b1 := Nat.ne_of_lt (Nat.lt_of_lt_of_le F_m_a.lt (Nat.le_of_eq gg1.symm))
  have F7 : Fld Z T2.heap a "java/util/TreeSet" "m" "Ljava/util/NavigableMap;" u_m_a := ((F_m_a.ext E1).keep Kc2 (ninS ne6 nin0))
  have O8 : Old Z n0 T2.heap := (O3.keep Kc2 (allS g_b1 all0))
  obtain ⟨_, _, ⟨T4, L4, k4, n4⟩, -, X4, ⟨Lc4, hQ4, l4, y4, z4⟩, st4⟩ := X2.specialBack hx (y := (⟨"java/util/TreeSet", "<init>", "(Ljava/util/NavigableMap;)V"⟩ : MethodName)) rfl hown (mvT hZ (hw _ (List.mem_of_getElem? (i := 52) rfl))) (mvT hZ (hw _ (List.mem_of_getElem? (i := 53) rfl))) (mvT hZ (hw _ (List.mem_of_getElem? (i := 55) rfl))) (by decide) (backOf (W := 0) (rm7 l Z a0 hw [] a b1 u_m_a T2.heap n0 O8 Q5 F7 g_a) hZ (hw _ (List.mem_of_getElem? (i := 55) rfl)) (hw _ (List.mem_of_getElem? (i := 44) rfl)) (by decide) (by decide)) (g := (mkF m 9 #[.val (.ref a), .val (.ref o)] [(.ref b1), (.ref a)])) rfl (by rw [hml]; rfl) (Steps.refl _) (a := a) (argsL := [(.ref b1)]) (rest := []) (lenOf pd__Ljava_util_NavigableMap__V rfl) rfl (by show 2 * 0 + _ ≤ _; exact Nat.le_of_eq rfl) (hb hby d6_9) (fun _ _ => ⟨rfl, rfl, (by decide : 1 + 0 ≤ _), (by decide : 9 + 0 ≤ _)⟩)
  dsimp only [Pt.U, Pt.locs, Pt.cells, Pt.slots] at X4 l4 y4 z4 st4 hQ4
  subst l4 y4 z4
  obtain ⟨rfl, N4q, Kc4⟩ := hQ4
  have K4 : Keep h0 T4.heap [a] := K2.trans Kc4 (allS (Or.inl (List.mem_of_getElem? (i := 0) rfl)) all0)
  have N4 := Fr.app N2 N4q
  refine own_t st4 ?_
  show Go p.tables e below _ (T4.setTop (mkF m 12 #[.val (.ref a), .val (.ref o)] []))
  obtain ⟨fs, hr, hrun, hended, hW, hsame⟩ := X4.leave (v := none) (fun h => by first | rfl | (rw [Bd.returns] at h; cases h))
  refine own_e ?_ hrun hended ⟨_, _, rfl, ?_, ⟨_, rfl⟩, hW, hsame.mono (by decide) (by decide)⟩
  · exact X4.returnOut hx Bd.returns (hb hby d6_12) hr
  · show Q_rm6 Z a o u_m_a h0 n0 _ T4.heap _
    exact ⟨rfl, N4, K4⟩
theorem d11_0 : decode jdk_2581_method_6_code 0 = .ok (.aload_n 0, 1) := by decide +kernel
theorem d11_1 : decode jdk_2581_method_6_code 1 = .ok (.iconst 2, 1) := by decide +kernel
theorem d11_2 : decode jdk_2581_method_6_code 2 = .ok (.iload_n 1, 1) := by decide +kernel
theorem d11_3 : decode jdk_2581_method_6_code 3 = .ok (.imul, 1) := by decide +kernel
theorem d11_4 : decode jdk_2581_method_6_code 4 = .ok (.anewarray 49, 3) := by decide +kernel
theorem d11_7 : decode jdk_2581_method_6_code 7 = .ok (.putfield 51, 3) := by decide +kernel
theorem d11_10 : decode jdk_2581_method_6_code 10 = .ok (.return_, 1) := by decide +kernel
theorem pn_java_util_IdentityHashMap : plainName "java/util/IdentityHashMap" = true := by first | (simp [plainName, overriddenIn]; done) | decide +kernel
theorem ef_rm11 (m : MethodId) (a : Addr) : entryFrame m #[(.ref a), (.int (32 : Int32))] 2 = mkF m 0 #[.val (.ref a), .val (.int (32 : Int32))] [] := by first | (simp [entryFrame, mkF, argsToLocals, Value.category]; done) | rfl
def Q_rm11 (Z : State) (a : Addr) (u_table_a : Value) (h0 : Heap) (n0 : Nat) (v : Option Value) (h : Heap) (L : List Loc) : Prop := v = none ∧ Fr n0 L ∧ Keep h0 h [a]
set_option maxRecDepth 65536 in
set_option maxHeartbeats 40000000 in
theorem rm11 (l : Launch) (Z : State) (a0 : Array Value) (hw : ∀ d ∈ tables_1, d.before a0 Z = true) (ws : List Jvm.Cond) (a : Addr) (u_table_a : Value) (h0 : Heap) (n0 : Nat) (O0 : Old Z n0 h0) (E_a : Exa Z h0 a "java/util/IdentityHashMap") (F_table_a : Fld Z h0 a "java/util/IdentityHashMap" "table" "[Ljava/lang/Object;" u_table_a) (g_a : n0 ≤ a) :
    MetFree l (⟨"java/util/IdentityHashMap", "init", "(I)V"⟩ : MethodName) (head1 (Jvm.Cond.code (⟨"java/util/IdentityHashMap", "init", "(I)V"⟩ : MethodName) jdk_2581_method_6_code 2 none :: ws) ({ frames := 0, cells := 1, slots := 64, locals := 0 } : Room)) (fun aa_ U => aa_ = #[(.ref a), (.int (32 : Int32))] ∧ Z.Warmed39 U.vm ∧ U.heap = h0) (fun _ _ _ _ _ => True) (fun _ U oo_ U' => ∃ vv_ LL_, oo_ = .returned vv_ ∧ Q_rm11 Z a u_table_a h0 n0 vv_ U'.heap LL_ ∧ FrameEnd U oo_ U' LL_ ({ frames := 0, cells := 1, slots := 64, locals := 0 } : Room).cells ({ frames := 0, cells := 1, slots := 64, locals := 0 } : Room).slots) := by
  refine MetFree.of_bodySF (plainFor_of_name pn_java_util_IdentityHashMap) hisR ?_
  intro p e s m args below meth c s₁ Bd hml0 hP hK
  obtain ⟨rfl, hZ, hh⟩ := hP
  have hx := Bd.exec
  have hby := Bd.bytes
  have hml : c.maxLocals = 2 := hml0
  have hown : s.vm.findClass "java/util/IdentityHashMap" = some m.cls := findClass_of_methodNamed Bd.named
  have hnm := (name_of_methodNamed Bd.named Bd.method).1
  have X0 : Stand p l e ({ frames := 0, cells := 1, slots := 64, locals := 0 } : Room) s m #[(.ref a), (.int (32 : Int32))] below meth c s₁ [] 0 0 := Stand.of_body Bd
  have e0 : s₁.heap = h0 := by rw [← hh, Bd.state]; rfl
  have N0 := Fr.nil n0
  have K0 : Keep h0 h0 [a] := Keep.refl h0 _
  refine own_i (own_s (fun t k => castTop (ef_rm11 m a) k) ?_)
  show Go p.tables e below _ (s₁.setTop (mkF m 0 #[.val (.ref a), .val (.int (32 : Int32))] []))
  refine own_s (fun t k => XS.aloadN X0.here hx rfl (hb hby d11_0) rfl rfl k) ?_
  show Go p.tables e below _ (s₁.setTop (mkF m 1 #[.val (.ref a), .val (.int (32 : Int32))] [(.ref a)]))
  refine own_s (fun t k => XS.iconst X0.here hx rfl (hb hby d11_1) k) ?_
  show Go p.tables e below _ (s₁.setTop (mkF m 2 #[.val (.ref a), .val (.int (32 : Int32))] [(.int (2 : Int32)), (.ref a)]))
  refine own_s (fun t k => XS.iloadN X0.here hx rfl (hb hby d11_2) rfl k) ?_
  show Go p.tables e below _ (s₁.setTop (mkF m 3 #[.val (.ref a), .val (.int (32 : Int32))] [(.int (32 : Int32)), (.int (2 : Int32)), (.ref a)]))
  refine own_s (fun t k => XS.imul X0.here hx rfl (hb hby d11_3) rfl k) ?_
  show Go p.tables e below _ (s₁.setTop (mkF m 4 #[.val (.ref a), .val (.int (32 : Int32))] [(.int (64 : Int32)), (.ref a)]))
  obtain ⟨T1, h1, k1, X1, e1, E1, A1, O1, st1⟩ := newR X0 hx hZ hown (hw _ (List.mem_of_getElem? (i := 86) rfl)) (hw _ (List.mem_of_getElem? (i := 87) rfl)) e0 (g := (mkF m 4 #[.val (.ref a), .val (.int (32 : Int32))] [(.int (64 : Int32)), (.ref a)])) rfl (hb hby d11_4) rfl (by decide) (cap := 64) (by decide) (by decide) (by decide) (by decide)
  obtain ⟨b1, gg1⟩ : ∃ z, z = h0.size := ⟨_, rfl⟩
  rw [← gg1] at A1 st1
  have g_b1 : n0 ≤ b1 := Nat.le_trans (Nat.le_of_eq O0.1.symm) (Nat.le_trans O0.2.1 (Nat.le_of_eq gg1.symm))
  have sz_b1 : h0.size ≤ b1 := Nat.le_trans K0.1 (Nat.le_of_eq gg1.symm)
  have K1 : Keep h0 h1 [a] := K0.ext E1
  have V1 : Arv Z h1 b1 k1 (.object "java/lang/Object") (64 : Int32) [] .null := (Arv.new A1 (by decide)).pad (pad_rep [] .null 0)
  refine own_s st1 ?_
  show Go p.tables e below _ (T1.setTop (mkF m 7 #[.val (.ref a), .val (.int (32 : Int32))] [(.ref b1), (.ref a)]))
  have Q2 : Exa Z h1 a "java/util/IdentityHashMap" := (E_a.ext E1)
  have F3 : Fld Z h1 a "java/util/IdentityHashMap" "table" "[Ljava/lang/Object;" u_table_a := (F_table_a.ext E1)
  obtain ⟨T4, h4, X4, e4, W4, st4⟩ := putF X1 hx hZ hown (host := "") (Or.inl (hw _ (List.mem_of_getElem? (i := 88) rfl))) Via.refl e1 F3 Q2 (Or.inl (hw _ (List.mem_of_getElem? (i := 89) rfl))) (hw _ (List.mem_of_getElem? (i := 74) rfl)) (ty := (.array (.object "java/lang/Object"))) (by decide) rfl rfl (g := (mkF m 7 #[.val (.ref a), .val (.int (32 : Int32))] [(.ref b1), (.ref a)])) rfl rfl (hb hby d11_7)
  refine own_s st4 ?_
  have K4 : Keep h0 h4 [a] := K1.wr W4 (Or.inl (List.mem_of_getElem? (i := 0) rfl))
  have N4 := Fr.snoc X4 N0 g_a
  have Fw4 := F3.same W4
  show Go p.tables e below _ (T4.setTop (mkF m 10 #[.val (.ref a), .val (.int (32 : Int32))] []))
  obtain ⟨fs, hr, hrun, hended, hW, hsame⟩ := X4.leave (v := none) (fun h => by first | rfl | (rw [Bd.returns] at h; cases h))
  refine own_e ?_ hrun hended ⟨_, _, rfl, ?_, ⟨_, rfl⟩, hW, hsame.mono (by decide) (by decide)⟩
  · exact X4.returnOut hx Bd.returns (hb hby d11_10) hr
  · show Q_rm11 Z a u_table_a h0 n0 _ T4.heap _
    rw [e4]
    exact ⟨rfl, N4, K4⟩
theorem d10_0 : decode jdk_2581_method_3_code 0 = .ok (.aload_n 0, 1) := by decide +kernel
theorem d10_1 : decode jdk_2581_method_3_code 1 = .ok (.invokespecial 7, 3) := by decide +kernel
theorem d10_4 : decode jdk_2581_method_3_code 4 = .ok (.aload_n 0, 1) := by decide +kernel
theorem d10_5 : decode jdk_2581_method_3_code 5 = .ok (.bipush 32, 2) := by decide +kernel
theorem d10_7 : decode jdk_2581_method_3_code 7 = .ok (.invokevirtual 13, 3) := by decide +kernel
theorem pd__I_V : parseMethodDescriptor "(I)V" = some ⟨[.int], none⟩ := by decide +kernel
theorem d10_10 : decode jdk_2581_method_3_code 10 = .ok (.return_, 1) := by decide +kernel
theorem ef_rm10 (m : MethodId) (a : Addr) : entryFrame m #[(.ref a)] 1 = mkF m 0 #[.val (.ref a)] [] := by first | (simp [entryFrame, mkF, argsToLocals, Value.category]; done) | rfl
def Q_rm10 (Z : State) (a : Addr) (u_table_a : Value) (h0 : Heap) (n0 : Nat) (v : Option Value) (h : Heap) (L : List Loc) : Prop := v = none ∧ Fr n0 L ∧ Keep h0 h [a]
set_option maxRecDepth 65536 in
set_option maxHeartbeats 40000000 in
theorem rm10 (l : Launch) (Z : State) (a0 : Array Value) (hw : ∀ d ∈ tables_1, d.before a0 Z = true) (ws : List Jvm.Cond) (a : Addr) (u_table_a : Value) (h0 : Heap) (n0 : Nat) (O0 : Old Z n0 h0) (E_a : Exa Z h0 a "java/util/IdentityHashMap") (F_table_a : Fld Z h0 a "java/util/IdentityHashMap" "table" "[Ljava/lang/Object;" u_table_a) (g_a : n0 ≤ a) :
    MetFree l (⟨"java/util/IdentityHashMap", "<init>", "()V"⟩ : MethodName) (head1 (Jvm.Cond.code (⟨"java/util/IdentityHashMap", "<init>", "()V"⟩ : MethodName) jdk_2581_method_3_code 1 none :: ws) ({ frames := 2, cells := 1, slots := 64, locals := 24 } : Room)) (fun aa_ U => aa_ = #[(.ref a)] ∧ Z.Warmed39 U.vm ∧ U.heap = h0) (fun _ _ _ _ _ => True) (fun _ U oo_ U' => ∃ vv_ LL_, oo_ = .returned vv_ ∧ Q_rm10 Z a u_table_a h0 n0 vv_ U'.heap LL_ ∧ FrameEnd U oo_ U' LL_ ({ frames := 2, cells := 1, slots := 64, locals := 24 } : Room).cells ({ frames := 2, cells := 1, slots := 64, locals := 24 } : Room).slots) := by
  refine MetFree.of_bodySF (plainFor_of_name pn_java_util_IdentityHashMap) hisR ?_
  intro p e s m args below meth c s₁ Bd hml0 hP hK
  obtain ⟨rfl, hZ, hh⟩ := hP
  have hx := Bd.exec
  have hby := Bd.bytes
  have hml : c.maxLocals = 1 := hml0
  have hown : s.vm.findClass "java/util/IdentityHashMap" = some m.cls := findClass_of_methodNamed Bd.named
  have hnm := (name_of_methodNamed Bd.named Bd.method).1
  have X0 : Stand p l e ({ frames := 2, cells := 1, slots := 64, locals := 24 } : Room) s m #[(.ref a)] below meth c s₁ [] 0 0 := Stand.of_body Bd
  have e0 : s₁.heap = h0 := by rw [← hh, Bd.state]; rfl
  have N0 := Fr.nil n0
  have K0 : Keep h0 h0 [a] := Keep.refl h0 _
  refine own_i (own_s (fun t k => castTop (ef_rm10 m a) k) ?_)
  show Go p.tables e below _ (s₁.setTop (mkF m 0 #[.val (.ref a)] []))
  refine own_s (fun t k => XS.aloadN X0.here hx rfl (hb hby d10_0) rfl rfl k) ?_
  show Go p.tables e below _ (s₁.setTop (mkF m 1 #[.val (.ref a)] [(.ref a)]))
  obtain ⟨_, _, ⟨T1, L1, k1, n1⟩, -, X1, ⟨Lc1, hQ1, l1, y1, z1⟩, st1⟩ := X0.specialBack hx (y := (⟨"java/util/AbstractMap", "<init>", "()V"⟩ : MethodName)) rfl hown (mvT hZ (hw _ (List.mem_of_getElem? (i := 79) rfl))) (mvT hZ (hw _ (List.mem_of_getElem? (i := 22) rfl))) (mvT hZ (hw _ (List.mem_of_getElem? (i := 26) rfl))) (by decide) (backOf (W := 0) (rm4 l Z a0 hw [] a h0 n0 O0 ) hZ (hw _ (List.mem_of_getElem? (i := 26) rfl)) (hw _ (List.mem_of_getElem? (i := 25) rfl)) (by decide) (by decide)) (g := (mkF m 1 #[.val (.ref a)] [(.ref a)])) rfl (by rw [hml]; rfl) (Steps.refl _) (a := a) (argsL := []) (rest := []) (lenOf pd___V rfl) rfl (by show 2 * 0 + _ ≤ _; exact Nat.le_of_eq rfl) (hb hby d10_1) (fun _ _ => ⟨rfl, e0, (by decide : 0 + 0 ≤ _), (by decide : 0 + 0 ≤ _)⟩)
  dsimp only [Pt.U, Pt.locs, Pt.cells, Pt.slots] at X1 l1 y1 z1 st1 hQ1
  subst l1 y1 z1
  obtain ⟨rfl, N1q, eq1⟩ := hQ1
  have N1 := Fr.app N0 N1q
  refine own_t st1 ?_
  show Go p.tables e below _ (T1.setTop (mkF m 4 #[.val (.ref a)] []))
  refine own_s (fun t k => XS.aloadN X1.here hx rfl (hb hby d10_4) rfl rfl k) ?_
  show Go p.tables e below _ (T1.setTop (mkF m 5 #[.val (.ref a)] [(.ref a)]))
  refine own_s (fun t k => XS.bipush X1.here hx rfl (hb hby d10_5) k) ?_
  show Go p.tables e below _ (T1.setTop (mkF m 7 #[.val (.ref a)] [(.int (32 : Int32)), (.ref a)]))
  obtain ⟨cq2, q2, q2'⟩ := E_a.cell
  obtain ⟨_, _, ⟨T2, L2, k2, n2⟩, -, X2, ⟨Lc2, hQ2, l2, y2, z2⟩, st2⟩ := X1.privateBack hx (y := (⟨"java/util/IdentityHashMap", "init", "(I)V"⟩ : MethodName)) hown (mvT hZ (hw _ (List.mem_of_getElem? (i := 81) rfl))) (mvT hZ (hw _ (List.mem_of_getElem? (i := 82) rfl))) (mvT hZ (hw _ (List.mem_of_getElem? (i := 84) rfl))) (Cond.privateMethod_at (mvP hZ (hw _ (List.mem_of_getElem? (i := 83) rfl)) (args := #[]))) (mvT hZ (hw _ (List.mem_of_getElem? (i := 85) rfl))) (by decide) (backOf (W := 0) (rm11 l Z a0 hw [] a u_table_a h0 n0 O0 E_a F_table_a g_a) hZ (hw _ (List.mem_of_getElem? (i := 85) rfl)) (hw _ (List.mem_of_getElem? (i := 75) rfl)) (by decide) (by decide)) (g := (mkF m 7 #[.val (.ref a)] [(.int (32 : Int32)), (.ref a)])) rfl (by rw [hml]; rfl) (Steps.refl _) (a := a) (by rw [eq1]; exact q2) q2' (argsL := [(.int (32 : Int32))]) (rest := []) (lenOf pd__I_V rfl) rfl (by show 2 * 0 + _ ≤ _; exact Nat.le_of_eq rfl) (hb hby d10_7) (fun _ _ => ⟨rfl, eq1, (by decide : 0 + 1 ≤ _), (by decide : 0 + 64 ≤ _)⟩)
  dsimp only [Pt.U, Pt.locs, Pt.cells, Pt.slots] at X2 l2 y2 z2 st2 hQ2
  subst l2 y2 z2
  obtain ⟨rfl, N2q, Kc2⟩ := hQ2
  have K2 : Keep h0 T2.heap [a] := K0.trans Kc2 (allS (Or.inl (List.mem_of_getElem? (i := 0) rfl)) all0)
  have N2 := Fr.app N1 N2q
  refine own_t st2 ?_
  show Go p.tables e below _ (T2.setTop (mkF m 10 #[.val (.ref a)] []))
  obtain ⟨fs, hr, hrun, hended, hW, hsame⟩ := X2.leave (v := none) (fun h => by first | rfl | (rw [Bd.returns] at h; cases h))
  refine own_e ?_ hrun hended ⟨_, _, rfl, ?_, ⟨_, rfl⟩, hW, hsame.mono (by decide) (by decide)⟩
  · exact X2.returnOut hx Bd.returns (hb hby d10_10) hr
  · show Q_rm10 Z a u_table_a h0 n0 _ T2.heap _
    exact ⟨rfl, N2, K2⟩
theorem d5_0 : decode prog_198_method_1_code 0 = .ok (.aload_n 0, 1) := by decide +kernel
theorem d5_1 : decode prog_198_method_1_code 1 = .ok (.invokespecial 1, 3) := by decide +kernel
theorem d5_4 : decode prog_198_method_1_code 4 = .ok (.aload_n 0, 1) := by decide +kernel
theorem d5_5 : decode prog_198_method_1_code 5 = .ok (.new 7, 3) := by decide +kernel
theorem d5_8 : decode prog_198_method_1_code 8 = .ok (.dup, 1) := by decide +kernel
theorem d5_9 : decode prog_198_method_1_code 9 = .ok (.getstatic 9, 3) := by decide +kernel
theorem d5_12 : decode prog_198_method_1_code 12 = .ok (.invokespecial 15, 3) := by decide +kernel
theorem d5_15 : decode prog_198_method_1_code 15 = .ok (.putfield 18, 3) := by decide +kernel
theorem d5_18 : decode prog_198_method_1_code 18 = .ok (.aload_n 0, 1) := by decide +kernel
theorem d5_19 : decode prog_198_method_1_code 19 = .ok (.new 24, 3) := by decide +kernel
theorem d5_22 : decode prog_198_method_1_code 22 = .ok (.dup, 1) := by decide +kernel
theorem d5_23 : decode prog_198_method_1_code 23 = .ok (.invokespecial 26, 3) := by decide +kernel
theorem d5_26 : decode prog_198_method_1_code 26 = .ok (.putfield 27, 3) := by decide +kernel
theorem d5_29 : decode prog_198_method_1_code 29 = .ok (.aload_n 0, 1) := by decide +kernel
theorem d5_30 : decode prog_198_method_1_code 30 = .ok (.aload_n 1, 1) := by decide +kernel
theorem d5_31 : decode prog_198_method_1_code 31 = .ok (.putfield 31, 3) := by decide +kernel
theorem d5_34 : decode prog_198_method_1_code 34 = .ok (.aload_n 0, 1) := by decide +kernel
theorem d5_35 : decode prog_198_method_1_code 35 = .ok (.aload_n 2, 1) := by decide +kernel
theorem d5_36 : decode prog_198_method_1_code 36 = .ok (.putfield 35, 3) := by decide +kernel
theorem d5_39 : decode prog_198_method_1_code 39 = .ok (.return_, 1) := by decide +kernel
theorem pn_com_example_trivalent_trivalent_sql_QueryBinder : plainName "com/example/trivalent/trivalent/sql/QueryBinder" = true := by first | (simp [plainName, overriddenIn]; done) | decide +kernel
theorem ef_rm5 (m : MethodId) (a : Addr) (ca : Addr) : entryFrame m #[(.ref a), (.ref ca), .null] 3 = mkF m 0 #[.val (.ref a), .val (.ref ca), .val .null] [] := by first | (simp [entryFrame, mkF, argsToLocals, Value.category]; done) | rfl
def Q_rm5 (Z : State) (uO : Addr) (a : Addr) (ca : Addr) (u_dependencies_a : Value) (u_aggregateOwners_a : Value) (u_catalog_a : Value) (u_parameters_a : Value) (h0 : Heap) (n0 : Nat) (v : Option Value) (h : Heap) (L : List Loc) : Prop := v = none ∧ Fr n0 L ∧ Keep h0 h [a] ∧ Fld Z h a "com/example/trivalent/trivalent/sql/QueryBinder" "deepest" "I" (.int (0 : Int32))
set_option maxRecDepth 65536 in
set_option maxHeartbeats 40000000 in
theorem rm5 (l : Launch) (Z : State) (a0 : Array Value) (hw : ∀ d ∈ tables_1, d.before a0 Z = true) (ws : List Jvm.Cond) (uO : Addr) (a : Addr) (ca : Addr) (u_dependencies_a : Value) (u_aggregateOwners_a : Value) (u_catalog_a : Value) (u_parameters_a : Value) (h0 : Heap) (n0 : Nat) (O0 : Old Z n0 h0) (S_ORDER : Sta Z Z.heap "com/example/trivalent/trivalent/engine/Identifiers" "ORDER" "Ljava/util/Comparator;" (.ref uO)) (E_a : Exa Z h0 a "com/example/trivalent/trivalent/sql/QueryBinder") (F_deepest_a : Fld Z h0 a "com/example/trivalent/trivalent/sql/QueryBinder" "deepest" "I" (.int (0 : Int32))) (F_dependencies_a : Fld Z h0 a "com/example/trivalent/trivalent/sql/QueryBinder" "dependencies" "Ljava/util/Set;" u_dependencies_a) (g_a : n0 ≤ a) (F_aggregateOwners_a : Fld Z h0 a "com/example/trivalent/trivalent/sql/QueryBinder" "aggregateOwners" "Ljava/util/Map;" u_aggregateOwners_a) (F_catalog_a : Fld Z h0 a "com/example/trivalent/trivalent/sql/QueryBinder" "catalog" "Lcom/example/trivalent/trivalent/engine/catalog/Catalog;" u_catalog_a) (F_parameters_a : Fld Z h0 a "com/example/trivalent/trivalent/sql/QueryBinder" "parameters" "Ljava/util/List;" u_parameters_a) :
    MetFree l (⟨"com/example/trivalent/trivalent/sql/QueryBinder", "<init>", "(Lcom/example/trivalent/trivalent/engine/catalog/Catalog;Ljava/util/List;)V"⟩ : MethodName) (head1 (Jvm.Cond.code (⟨"com/example/trivalent/trivalent/sql/QueryBinder", "<init>", "(Lcom/example/trivalent/trivalent/engine/catalog/Catalog;Ljava/util/List;)V"⟩ : MethodName) prog_198_method_1_code 3 none :: ws) ({ frames := 5, cells := 4, slots := 80, locals := 64 } : Room)) (fun aa_ U => aa_ = #[(.ref a), (.ref ca), .null] ∧ Z.Warmed39 U.vm ∧ U.heap = h0) (fun _ _ _ _ _ => True) (fun _ U oo_ U' => ∃ vv_ LL_, oo_ = .returned vv_ ∧ Q_rm5 Z uO a ca u_dependencies_a u_aggregateOwners_a u_catalog_a u_parameters_a h0 n0 vv_ U'.heap LL_ ∧ FrameEnd U oo_ U' LL_ ({ frames := 5, cells := 4, slots := 80, locals := 64 } : Room).cells ({ frames := 5, cells := 4, slots := 80, locals := 64 } : Room).slots) := by
  refine MetFree.of_bodySF (plainFor_of_name pn_com_example_trivalent_trivalent_sql_QueryBinder) hisR ?_
  intro p e s m args below meth c s₁ Bd hml0 hP hK
  obtain ⟨rfl, hZ, hh⟩ := hP
  have hx := Bd.exec
  have hby := Bd.bytes
  have hml : c.maxLocals = 3 := hml0
  have hown : s.vm.findClass "com/example/trivalent/trivalent/sql/QueryBinder" = some m.cls := findClass_of_methodNamed Bd.named
  have hnm := (name_of_methodNamed Bd.named Bd.method).1
  have X0 : Stand p l e ({ frames := 5, cells := 4, slots := 80, locals := 64 } : Room) s m #[(.ref a), (.ref ca), .null] below meth c s₁ [] 0 0 := Stand.of_body Bd
  have e0 : s₁.heap = h0 := by rw [← hh, Bd.state]; rfl
  have N0 := Fr.nil n0
  have K0 : Keep h0 h0 [a] := Keep.refl h0 _
  refine own_i (own_s (fun t k => castTop (ef_rm5 m a ca) k) ?_)
  show Go p.tables e below _ (s₁.setTop (mkF m 0 #[.val (.ref a), .val (.ref ca), .val .null] []))
  refine own_s (fun t k => XS.aloadN X0.here hx rfl (hb hby d5_0) rfl rfl k) ?_
  show Go p.tables e below _ (s₁.setTop (mkF m 1 #[.val (.ref a), .val (.ref ca), .val .null] [(.ref a)]))
  obtain ⟨T1, X1, e1, st1⟩ := initO X0 hx hZ hown (hw _ (List.mem_of_getElem? (i := 41) rfl)) (hw _ (List.mem_of_getElem? (i := 10) rfl)) (hw _ (List.mem_of_getElem? (i := 11) rfl)) e0 (g := (mkF m 1 #[.val (.ref a), .val (.ref ca), .val .null] [(.ref a)])) rfl (by rw [hml]; rfl) rfl (hb hby d5_1) (by decide) (W := 0) (by show 2 * 0 + _ ≤ _; exact Nat.le_of_eq rfl) (by decide)
  refine own_s st1 ?_
  show Go p.tables e below _ (T1.setTop (mkF m 4 #[.val (.ref a), .val (.ref ca), .val .null] []))
  refine own_s (fun t k => XS.aloadN X1.here hx rfl (hb hby d5_4) rfl rfl k) ?_
  show Go p.tables e below _ (T1.setTop (mkF m 5 #[.val (.ref a), .val (.ref ca), .val .null] [(.ref a)]))
  obtain ⟨T2, h2, X2, e2, E2, A2, D2, -, st2⟩ := newO X1 hx hZ hown (hw _ (List.mem_of_getElem? (i := 42) rfl)) (hw _ (List.mem_of_getElem? (i := 43) rfl)) (hw _ (List.mem_of_getElem? (i := 44) rfl)) e1 (g := (mkF m 5 #[.val (.ref a), .val (.ref ca), .val .null] [(.ref a)])) rfl (hb hby d5_5) (by decide) (by decide)
  obtain ⟨b2, gg2⟩ : ∃ z, z = h0.size := ⟨_, rfl⟩
  rw [← gg2] at A2 D2 st2
  have g_b2 : n0 ≤ b2 := Nat.le_trans (Nat.le_of_eq O0.1.symm) (Nat.le_trans O0.2.1 (Nat.le_of_eq gg2.symm))
  have sz_b2 : h0.size ≤ b2 := Nat.le_trans K0.1 (Nat.le_of_eq gg2.symm)
  have K2 : Keep h0 h2 [a] := K0.ext E2
  have F_m_b2 : Fld Z h2 b2 "java/util/TreeSet" "m" "Ljava/util/NavigableMap;" .null := D2 (Or.inl (hw _ (List.mem_of_getElem? (i := 70) rfl))) (ty := (.object "java/util/NavigableMap")) (by decide)
  refine own_s st2 ?_
  show Go p.tables e below _ (T2.setTop (mkF m 8 #[.val (.ref a), .val (.ref ca), .val .null] [(.ref b2), (.ref a)]))
  refine own_s (fun t k => XS.dup X2.here hx rfl (hb hby d5_8) rfl rfl k) ?_
  show Go p.tables e below _ (T2.setTop (mkF m 9 #[.val (.ref a), .val (.ref ca), .val .null] [(.ref b2), (.ref b2), (.ref a)]))
  have O3 : Old Z n0 h2 := (O0.ext E2)
  obtain ⟨T4, X4, e4, st4⟩ := getS2 X2 hx hZ hown (host := "") (Or.inl (hw _ (List.mem_of_getElem? (i := 45) rfl))) Via.refl e2 (S_ORDER.ext O3.2) (g := (mkF m 9 #[.val (.ref a), .val (.ref ca), .val .null] [(.ref b2), (.ref b2), (.ref a)])) rfl (hb hby d5_9)
  refine own_s st4 ?_
  show Go p.tables e below _ (T4.setTop (mkF m 12 #[.val (.ref a), .val (.ref ca), .val .null] [(.ref uO), (.ref b2), (.ref b2), (.ref a)]))
  obtain ⟨_, _, ⟨T5, L5, k5, n5⟩, -, X5, ⟨Lc5, hQ5, l5, y5, z5⟩, st5⟩ := X4.specialBack hx (y := (⟨"java/util/TreeSet", "<init>", "(Ljava/util/Comparator;)V"⟩ : MethodName)) rfl hown (mvT hZ (hw _ (List.mem_of_getElem? (i := 46) rfl))) (mvT hZ (hw _ (List.mem_of_getElem? (i := 47) rfl))) (mvT hZ (hw _ (List.mem_of_getElem? (i := 48) rfl))) (by decide) (backOf (W := 2) (rm6 l Z a0 hw [] b2 uO .null h2 n0 O3 A2 F_m_b2 g_b2) hZ (hw _ (List.mem_of_getElem? (i := 48) rfl)) (hw _ (List.mem_of_getElem? (i := 44) rfl)) (by decide) (by decide)) (g := (mkF m 12 #[.val (.ref a), .val (.ref ca), .val .null] [(.ref uO), (.ref b2), (.ref b2), (.ref a)])) rfl (by rw [hml]; rfl) (Steps.refl _) (a := b2) (argsL := [(.ref uO)]) (rest := [(.ref b2), (.ref a)]) (lenOf pd__Ljava_util_Comparator__V rfl) rfl (by show 2 * 0 + _ ≤ _; exact Nat.le_of_eq rfl) (hb hby d5_12) (fun _ _ => ⟨rfl, e4, (by decide : 1 + 1 ≤ _), (by decide : 1 + 9 ≤ _)⟩)
  dsimp only [Pt.U, Pt.locs, Pt.cells, Pt.slots] at X5 l5 y5 z5 st5 hQ5
  subst l5 y5 z5
  obtain ⟨rfl, N5q, Kc5⟩ := hQ5
  have K5 : Keep h0 T5.heap [a] := K2.trans Kc5 (allS (Or.inr sz_b2) all0)
  have N5 := Fr.app N0 N5q
  refine own_t st5 ?_
  show Go p.tables e below _ (T5.setTop (mkF m 15 #[.val (.ref a), .val (.ref ca), .val .null] [(.ref b2), (.ref a)]))
  have Q6 : Exa Z T5.heap a "com/example/trivalent/trivalent/sql/QueryBinder" := ((E_a.ext E2).keep Kc5)
  have ne7 : a ≠ b2 := Nat.ne_of_lt (Nat.lt_of_lt_of_le F_deepest_a.lt (Nat.le_of_eq gg2.symm))
  have F8 : Fld Z T5.heap a "com/example/trivalent/trivalent/sql/QueryBinder" "dependencies" "Ljava/util/Set;" u_dependencies_a := ((F_dependencies_a.ext E2).keep Kc5 (ninS ne7 nin0))
  obtain ⟨T9, h9, X9, e9, W9, st9⟩ := putF X5 hx hZ hown (host := "") (Or.inl (hw _ (List.mem_of_getElem? (i := 71) rfl))) Via.refl rfl F8 Q6 (Or.inr ⟨(hw _ (List.mem_of_getElem? (i := 72) rfl)), rfl, hnm⟩) (hw _ (List.mem_of_getElem? (i := 1) rfl)) (ty := (.object "java/util/Set")) (by decide) rfl rfl (g := (mkF m 15 #[.val (.ref a), .val (.ref ca), .val .null] [(.ref b2), (.ref a)])) rfl rfl (hb hby d5_15)
  refine own_s st9 ?_
  have K9 : Keep h0 h9 [a] := K5.wr W9 (Or.inl (List.mem_of_getElem? (i := 0) rfl))
  have N9 := Fr.snoc X9 N5 g_a
  have Fw9 := F8.same W9
  show Go p.tables e below _ (T9.setTop (mkF m 18 #[.val (.ref a), .val (.ref ca), .val .null] []))
  refine own_s (fun t k => XS.aloadN X9.here hx rfl (hb hby d5_18) rfl rfl k) ?_
  show Go p.tables e below _ (T9.setTop (mkF m 19 #[.val (.ref a), .val (.ref ca), .val .null] [(.ref a)]))
  have O10 : Old Z n0 h9 := ((O3.keep Kc5 (allS g_b2 all0)).wr W9 g_a)
  obtain ⟨T11, h11, X11, e11, E11, A11, D11, -, st11⟩ := newO X9 hx hZ hown (hw _ (List.mem_of_getElem? (i := 73) rfl)) (hw _ (List.mem_of_getElem? (i := 74) rfl)) (hw _ (List.mem_of_getElem? (i := 75) rfl)) e9 (g := (mkF m 19 #[.val (.ref a), .val (.ref ca), .val .null] [(.ref a)])) rfl (hb hby d5_19) (by decide) (by decide)
  obtain ⟨b11, gg11⟩ : ∃ z, z = h9.size := ⟨_, rfl⟩
  rw [← gg11] at A11 D11 st11
  have g_b11 : n0 ≤ b11 := Nat.le_trans (Nat.le_of_eq O10.1.symm) (Nat.le_trans O10.2.1 (Nat.le_of_eq gg11.symm))
  have sz_b11 : h0.size ≤ b11 := Nat.le_trans K9.1 (Nat.le_of_eq gg11.symm)
  have K11 : Keep h0 h11 [a] := K9.ext E11
  have F_table_b11 : Fld Z h11 b11 "java/util/IdentityHashMap" "table" "[Ljava/lang/Object;" .null := D11 (Or.inl (hw _ (List.mem_of_getElem? (i := 89) rfl))) (ty := (.array (.object "java/lang/Object"))) (by decide)
  refine own_s st11 ?_
  show Go p.tables e below _ (T11.setTop (mkF m 22 #[.val (.ref a), .val (.ref ca), .val .null] [(.ref b11), (.ref a)]))
  refine own_s (fun t k => XS.dup X11.here hx rfl (hb hby d5_22) rfl rfl k) ?_
  show Go p.tables e below _ (T11.setTop (mkF m 23 #[.val (.ref a), .val (.ref ca), .val .null] [(.ref b11), (.ref b11), (.ref a)]))
  have O13 : Old Z n0 h11 := (O10.ext E11)
  obtain ⟨_, _, ⟨T12, L12, k12, n12⟩, -, X12, ⟨Lc12, hQ12, l12, y12, z12⟩, st12⟩ := X11.specialBack hx (y := (⟨"java/util/IdentityHashMap", "<init>", "()V"⟩ : MethodName)) rfl hown (mvT hZ (hw _ (List.mem_of_getElem? (i := 76) rfl))) (mvT hZ (hw _ (List.mem_of_getElem? (i := 77) rfl))) (mvT hZ (hw _ (List.mem_of_getElem? (i := 78) rfl))) (by decide) (backOf (W := 2) (rm10 l Z a0 hw [] b11 .null h11 n0 O13 A11 F_table_b11 g_b11) hZ (hw _ (List.mem_of_getElem? (i := 78) rfl)) (hw _ (List.mem_of_getElem? (i := 75) rfl)) (by decide) (by decide)) (g := (mkF m 23 #[.val (.ref a), .val (.ref ca), .val .null] [(.ref b11), (.ref b11), (.ref a)])) rfl (by rw [hml]; rfl) (Steps.refl _) (a := b11) (argsL := []) (rest := [(.ref b11), (.ref a)]) (lenOf pd___V rfl) rfl (by show 2 * 0 + _ ≤ _; exact Nat.le_of_eq rfl) (hb hby d5_23) (fun _ _ => ⟨rfl, e11, (by decide : 3 + 1 ≤ _), (by decide : 16 + 64 ≤ _)⟩)
  dsimp only [Pt.U, Pt.locs, Pt.cells, Pt.slots] at X12 l12 y12 z12 st12 hQ12
  subst l12 y12 z12
  obtain ⟨rfl, N12q, Kc12⟩ := hQ12
  have K12 : Keep h0 T12.heap [a] := K11.trans Kc12 (allS (Or.inr sz_b11) all0)
  have N12 := Fr.app N9 N12q
  refine own_t st12 ?_
  show Go p.tables e below _ (T12.setTop (mkF m 26 #[.val (.ref a), .val (.ref ca), .val .null] [(.ref b11), (.ref a)]))
  have Q14 : Exa Z T12.heap a "com/example/trivalent/trivalent/sql/QueryBinder" := (((Q6.wr W9).ext E11).keep Kc12)
  have ne15 : a ≠ b11 := Nat.ne_of_lt (Nat.lt_of_lt_of_le (((F_deepest_a.ext E2).keep Kc5 (ninS ne7 nin0)).other W9 (Or.inr (slot_ne (Or.inl (hw _ (List.mem_of_getElem? (i := 102) rfl))) (Or.inr (hw _ (List.mem_of_getElem? (i := 72) rfl))) (by decide) (t := .int) (t' := (.object "java/util/Set")) (by decide) (by decide)))).lt (Nat.le_of_eq gg11.symm))
  have F16 : Fld Z T12.heap a "com/example/trivalent/trivalent/sql/QueryBinder" "aggregateOwners" "Ljava/util/Map;" u_aggregateOwners_a := (((((F_aggregateOwners_a.ext E2).keep Kc5 (ninS ne7 nin0)).other W9 (Or.inr (slot_ne (Or.inr (hw _ (List.mem_of_getElem? (i := 91) rfl))) (Or.inr (hw _ (List.mem_of_getElem? (i := 72) rfl))) (by decide) (t := (.object "java/util/Map")) (t' := (.object "java/util/Set")) (by decide) (by decide)))).ext E11).keep Kc12 (ninS ne15 nin0))
  obtain ⟨T17, h17, X17, e17, W17, st17⟩ := putF X12 hx hZ hown (host := "") (Or.inl (hw _ (List.mem_of_getElem? (i := 90) rfl))) Via.refl rfl F16 Q14 (Or.inr ⟨(hw _ (List.mem_of_getElem? (i := 91) rfl)), rfl, hnm⟩) (hw _ (List.mem_of_getElem? (i := 1) rfl)) (ty := (.object "java/util/Map")) (by decide) rfl rfl (g := (mkF m 26 #[.val (.ref a), .val (.ref ca), .val .null] [(.ref b11), (.ref a)])) rfl rfl (hb hby d5_26)
  refine own_s st17 ?_
  have K17 : Keep h0 h17 [a] := K12.wr W17 (Or.inl (List.mem_of_getElem? (i := 0) rfl))
  have N17 := Fr.snoc X17 N12 g_a
  have Fw17 := F16.same W17
  show Go p.tables e below _ (T17.setTop (mkF m 29 #[.val (.ref a), .val (.ref ca), .val .null] []))
  refine own_s (fun t k => XS.aloadN X17.here hx rfl (hb hby d5_29) rfl rfl k) ?_
  show Go p.tables e below _ (T17.setTop (mkF m 30 #[.val (.ref a), .val (.ref ca), .val .null] [(.ref a)]))
  refine own_s (fun t k => XS.aloadN X17.here hx rfl (hb hby d5_30) rfl rfl k) ?_
  show Go p.tables e below _ (T17.setTop (mkF m 31 #[.val (.ref a), .val (.ref ca), .val .null] [(.ref ca), (.ref a)]))
  have Q18 : Exa Z h17 a "com/example/trivalent/trivalent/sql/QueryBinder" := (Q14.wr W17)
  have F19 : Fld Z h17 a "com/example/trivalent/trivalent/sql/QueryBinder" "catalog" "Lcom/example/trivalent/trivalent/engine/catalog/Catalog;" u_catalog_a := ((((((F_catalog_a.ext E2).keep Kc5 (ninS ne7 nin0)).other W9 (Or.inr (slot_ne (Or.inr (hw _ (List.mem_of_getElem? (i := 93) rfl))) (Or.inr (hw _ (List.mem_of_getElem? (i := 72) rfl))) (by decide) (t := (.object "com/example/trivalent/trivalent/engine/catalog/Catalog")) (t' := (.object "java/util/Set")) (by decide) (by decide)))).ext E11).keep Kc12 (ninS ne15 nin0)).other W17 (Or.inr (slot_ne (Or.inr (hw _ (List.mem_of_getElem? (i := 93) rfl))) (Or.inr (hw _ (List.mem_of_getElem? (i := 91) rfl))) (by decide) (t := (.object "com/example/trivalent/trivalent/engine/catalog/Catalog")) (t' := (.object "java/util/Map")) (by decide) (by decide))))
  obtain ⟨T20, h20, X20, e20, W20, st20⟩ := putF X17 hx hZ hown (host := "") (Or.inl (hw _ (List.mem_of_getElem? (i := 92) rfl))) Via.refl e17 F19 Q18 (Or.inr ⟨(hw _ (List.mem_of_getElem? (i := 93) rfl)), rfl, hnm⟩) (hw _ (List.mem_of_getElem? (i := 1) rfl)) (ty := (.object "com/example/trivalent/trivalent/engine/catalog/Catalog")) (by decide) rfl rfl (g := (mkF m 31 #[.val (.ref a), .val (.ref ca), .val .null] [(.ref ca), (.ref a)])) rfl rfl (hb hby d5_31)
  refine own_s st20 ?_
  have K20 : Keep h0 h20 [a] := K17.wr W20 (Or.inl (List.mem_of_getElem? (i := 0) rfl))
  have N20 := Fr.snoc X20 N17 g_a
  have Fw20 := F19.same W20
  show Go p.tables e below _ (T20.setTop (mkF m 34 #[.val (.ref a), .val (.ref ca), .val .null] []))
  refine own_s (fun t k => XS.aloadN X20.here hx rfl (hb hby d5_34) rfl rfl k) ?_
  show Go p.tables e below _ (T20.setTop (mkF m 35 #[.val (.ref a), .val (.ref ca), .val .null] [(.ref a)]))
  refine own_s (fun t k => XS.aloadN X20.here hx rfl (hb hby d5_35) rfl rfl k) ?_
  show Go p.tables e below _ (T20.setTop (mkF m 36 #[.val (.ref a), .val (.ref ca), .val .null] [.null, (.ref a)]))
  have Q21 : Exa Z h20 a "com/example/trivalent/trivalent/sql/QueryBinder" := (Q18.wr W20)
  have F22 : Fld Z h20 a "com/example/trivalent/trivalent/sql/QueryBinder" "parameters" "Ljava/util/List;" u_parameters_a := (((((((F_parameters_a.ext E2).keep Kc5 (ninS ne7 nin0)).other W9 (Or.inr (slot_ne (Or.inr (hw _ (List.mem_of_getElem? (i := 95) rfl))) (Or.inr (hw _ (List.mem_of_getElem? (i := 72) rfl))) (by decide) (t := (.object "java/util/List")) (t' := (.object "java/util/Set")) (by decide) (by decide)))).ext E11).keep Kc12 (ninS ne15 nin0)).other W17 (Or.inr (slot_ne (Or.inr (hw _ (List.mem_of_getElem? (i := 95) rfl))) (Or.inr (hw _ (List.mem_of_getElem? (i := 91) rfl))) (by decide) (t := (.object "java/util/List")) (t' := (.object "java/util/Map")) (by decide) (by decide)))).other W20 (Or.inr (slot_ne (Or.inr (hw _ (List.mem_of_getElem? (i := 95) rfl))) (Or.inr (hw _ (List.mem_of_getElem? (i := 93) rfl))) (by decide) (t := (.object "java/util/List")) (t' := (.object "com/example/trivalent/trivalent/engine/catalog/Catalog")) (by decide) (by decide))))
  obtain ⟨T23, h23, X23, e23, W23, st23⟩ := putF X20 hx hZ hown (host := "") (Or.inl (hw _ (List.mem_of_getElem? (i := 94) rfl))) Via.refl e20 F22 Q21 (Or.inr ⟨(hw _ (List.mem_of_getElem? (i := 95) rfl)), rfl, hnm⟩) (hw _ (List.mem_of_getElem? (i := 1) rfl)) (ty := (.object "java/util/List")) (by decide) rfl rfl (g := (mkF m 36 #[.val (.ref a), .val (.ref ca), .val .null] [.null, (.ref a)])) rfl rfl (hb hby d5_36)
  refine own_s st23 ?_
  have K23 : Keep h0 h23 [a] := K20.wr W23 (Or.inl (List.mem_of_getElem? (i := 0) rfl))
  have N23 := Fr.snoc X23 N20 g_a
  have Fw23 := F22.same W23
  show Go p.tables e below _ (T23.setTop (mkF m 39 #[.val (.ref a), .val (.ref ca), .val .null] []))
  obtain ⟨fs, hr, hrun, hended, hW, hsame⟩ := X23.leave (v := none) (fun h => by first | rfl | (rw [Bd.returns] at h; cases h))
  have F24 : Fld Z h23 a "com/example/trivalent/trivalent/sql/QueryBinder" "deepest" "I" (.int (0 : Int32)) := ((((((((F_deepest_a.ext E2).keep Kc5 (ninS ne7 nin0)).other W9 (Or.inr (slot_ne (Or.inl (hw _ (List.mem_of_getElem? (i := 102) rfl))) (Or.inr (hw _ (List.mem_of_getElem? (i := 72) rfl))) (by decide) (t := .int) (t' := (.object "java/util/Set")) (by decide) (by decide)))).ext E11).keep Kc12 (ninS ne15 nin0)).other W17 (Or.inr (slot_ne (Or.inl (hw _ (List.mem_of_getElem? (i := 102) rfl))) (Or.inr (hw _ (List.mem_of_getElem? (i := 91) rfl))) (by decide) (t := .int) (t' := (.object "java/util/Map")) (by decide) (by decide)))).other W20 (Or.inr (slot_ne (Or.inl (hw _ (List.mem_of_getElem? (i := 102) rfl))) (Or.inr (hw _ (List.mem_of_getElem? (i := 93) rfl))) (by decide) (t := .int) (t' := (.object "com/example/trivalent/trivalent/engine/catalog/Catalog")) (by decide) (by decide)))).other W23 (Or.inr (slot_ne (Or.inl (hw _ (List.mem_of_getElem? (i := 102) rfl))) (Or.inr (hw _ (List.mem_of_getElem? (i := 95) rfl))) (by decide) (t := .int) (t' := (.object "java/util/List")) (by decide) (by decide))))
  refine own_e ?_ hrun hended ⟨_, _, rfl, ?_, ⟨_, rfl⟩, hW, hsame.mono (by decide) (by decide)⟩
  · exact X23.returnOut hx Bd.returns (hb hby d5_39) hr
  · show Q_rm5 Z uO a ca u_dependencies_a u_aggregateOwners_a u_catalog_a u_parameters_a h0 n0 _ T23.heap _
    rw [e23]
    exact ⟨rfl, N23, K23, F24⟩
theorem d12_0 : decode prog_198_method_10_code 0 = .ok (.aload_n 0, 1) := by decide +kernel
theorem d12_1 : decode prog_198_method_10_code 1 = .ok (.getfield 171, 3) := by decide +kernel
theorem d12_4 : decode prog_198_method_10_code 4 = .ok (.istore_n 2, 1) := by decide +kernel
theorem d12_5 : decode prog_198_method_10_code 5 = .ok (.aload_n 0, 1) := by decide +kernel
theorem d12_6 : decode prog_198_method_10_code 6 = .ok (.iload_n 1, 1) := by decide +kernel
theorem d12_7 : decode prog_198_method_10_code 7 = .ok (.putfield 171, 3) := by decide +kernel
theorem d12_10 : decode prog_198_method_10_code 10 = .ok (.iload_n 2, 1) := by decide +kernel
theorem d12_11 : decode prog_198_method_10_code 11 = .ok (.ireturn, 1) := by decide +kernel
theorem ef_rm12 (m : MethodId) (a : Addr) (pa : Int32) : entryFrame m #[(.ref a), (.int pa)] 3 = mkF m 0 #[.val (.ref a), .val (.int pa), .unset] [] := by first | (simp [entryFrame, mkF, argsToLocals, Value.category]; done) | rfl
def Q_rm12 (Z : State) (a : Addr) (pa : Int32) (w_deepest_a : Int32) (h0 : Heap) (n0 : Nat) (v : Option Value) (h : Heap) (L : List Loc) : Prop := v = some (.int w_deepest_a) ∧ Fr n0 L ∧ Keep h0 h [a] ∧ Fld Z h a "com/example/trivalent/trivalent/sql/QueryBinder" "deepest" "I" (.int pa)
set_option maxRecDepth 65536 in
set_option maxHeartbeats 40000000 in
theorem rm12 (l : Launch) (Z : State) (a0 : Array Value) (hw : ∀ d ∈ tables_1, d.before a0 Z = true) (ws : List Jvm.Cond) (a : Addr) (pa : Int32) (w_deepest_a : Int32) (h0 : Heap) (n0 : Nat) (O0 : Old Z n0 h0) (E_a : Exa Z h0 a "com/example/trivalent/trivalent/sql/QueryBinder") (F_deepest_a : Fld Z h0 a "com/example/trivalent/trivalent/sql/QueryBinder" "deepest" "I" (.int w_deepest_a)) (g_a : n0 ≤ a) :
    MetFree l (⟨"com/example/trivalent/trivalent/sql/QueryBinder", "startMeasure", "(I)I"⟩ : MethodName) (head1 (Jvm.Cond.code (⟨"com/example/trivalent/trivalent/sql/QueryBinder", "startMeasure", "(I)I"⟩ : MethodName) prog_198_method_10_code 3 (some .int) :: ws) ({ frames := 0, cells := 0, slots := 0, locals := 0 } : Room)) (fun aa_ U => aa_ = #[(.ref a), (.int pa)] ∧ Z.Warmed39 U.vm ∧ U.heap = h0) (fun _ _ _ _ _ => True) (fun _ U oo_ U' => ∃ vv_ LL_, oo_ = .returned vv_ ∧ Q_rm12 Z a pa w_deepest_a h0 n0 vv_ U'.heap LL_ ∧ FrameEnd U oo_ U' LL_ ({ frames := 0, cells := 0, slots := 0, locals := 0 } : Room).cells ({ frames := 0, cells := 0, slots := 0, locals := 0 } : Room).slots) := by
  refine MetFree.of_bodySF (plainFor_of_name pn_com_example_trivalent_trivalent_sql_QueryBinder) hisR ?_
  intro p e s m args below meth c s₁ Bd hml0 hP hK
  obtain ⟨rfl, hZ, hh⟩ := hP
  have hx := Bd.exec
  have hby := Bd.bytes
  have hml : c.maxLocals = 3 := hml0
  have hown : s.vm.findClass "com/example/trivalent/trivalent/sql/QueryBinder" = some m.cls := findClass_of_methodNamed Bd.named
  have hnm := (name_of_methodNamed Bd.named Bd.method).1
  have X0 : Stand p l e ({ frames := 0, cells := 0, slots := 0, locals := 0 } : Room) s m #[(.ref a), (.int pa)] below meth c s₁ [] 0 0 := Stand.of_body Bd
  have e0 : s₁.heap = h0 := by rw [← hh, Bd.state]; rfl
  have N0 := Fr.nil n0
  have K0 : Keep h0 h0 [a] := Keep.refl h0 _
  refine own_i (own_s (fun t k => castTop (ef_rm12 m a pa) k) ?_)
  show Go p.tables e below _ (s₁.setTop (mkF m 0 #[.val (.ref a), .val (.int pa), .unset] []))
  refine own_s (fun t k => XS.aloadN X0.here hx rfl (hb hby d12_0) rfl rfl k) ?_
  show Go p.tables e below _ (s₁.setTop (mkF m 1 #[.val (.ref a), .val (.int pa), .unset] [(.ref a)]))
  obtain ⟨T1, X1, e1, st1⟩ := getF X0 hx hZ hown (host := "") (Or.inl (hw _ (List.mem_of_getElem? (i := 101) rfl))) Via.refl e0 F_deepest_a (g := (mkF m 1 #[.val (.ref a), .val (.int pa), .unset] [(.ref a)])) rfl rfl (hb hby d12_1)
  refine own_s st1 ?_
  show Go p.tables e below _ (T1.setTop (mkF m 4 #[.val (.ref a), .val (.int pa), .unset] [(.int w_deepest_a)]))
  refine own_s (fun t k => XS.istoreN X1.here hx rfl (hb hby d12_4) rfl (l' := #[.val (.ref a), .val (.int pa), .val (.int w_deepest_a)]) rfl k) ?_
  show Go p.tables e below _ (T1.setTop (mkF m 5 #[.val (.ref a), .val (.int pa), .val (.int w_deepest_a)] []))
  refine own_s (fun t k => XS.aloadN X1.here hx rfl (hb hby d12_5) rfl rfl k) ?_
  show Go p.tables e below _ (T1.setTop (mkF m 6 #[.val (.ref a), .val (.int pa), .val (.int w_deepest_a)] [(.ref a)]))
  refine own_s (fun t k => XS.iloadN X1.here hx rfl (hb hby d12_6) rfl k) ?_
  show Go p.tables e below _ (T1.setTop (mkF m 7 #[.val (.ref a), .val (.int pa), .val (.int w_deepest_a)] [(.int pa), (.ref a)]))
  obtain ⟨T2, h2, X2, e2, W2, st2⟩ := putF X1 hx hZ hown (host := "") (Or.inl (hw _ (List.mem_of_getElem? (i := 101) rfl))) Via.refl e1 F_deepest_a E_a (Or.inl (hw _ (List.mem_of_getElem? (i := 102) rfl))) (hw _ (List.mem_of_getElem? (i := 1) rfl)) (ty := .int) (by decide) rfl rfl (g := (mkF m 7 #[.val (.ref a), .val (.int pa), .val (.int w_deepest_a)] [(.int pa), (.ref a)])) rfl rfl (hb hby d12_7)
  refine own_s st2 ?_
  have K2 : Keep h0 h2 [a] := K0.wr W2 (Or.inl (List.mem_of_getElem? (i := 0) rfl))
  have N2 := Fr.snoc X2 N0 g_a
  have Fw2 := F_deepest_a.same W2
  show Go p.tables e below _ (T2.setTop (mkF m 10 #[.val (.ref a), .val (.int pa), .val (.int w_deepest_a)] []))
  refine own_s (fun t k => XS.iloadN X2.here hx rfl (hb hby d12_10) rfl k) ?_
  show Go p.tables e below _ (T2.setTop (mkF m 11 #[.val (.ref a), .val (.int pa), .val (.int w_deepest_a)] [(.int w_deepest_a)]))
  obtain ⟨fs, hr, hrun, hended, hW, hsame⟩ := X2.leave (v := (some (.int w_deepest_a))) (fun h => by first | rfl | (rw [Bd.returns] at h; cases h))
  refine own_e ?_ hrun hended ⟨_, _, rfl, ?_, ⟨_, rfl⟩, hW, hsame.mono (by decide) (by decide)⟩
  · exact retI X2 hx Bd.returns (hb hby d12_11) hr
  · show Q_rm12 Z a pa w_deepest_a h0 n0 _ T2.heap _
    rw [e2]
    exact ⟨rfl, N2, K2, Fw2⟩
theorem d13_0 : decode prog_198_method_11_code 0 = .ok (.aload_n 0, 1) := by decide +kernel
theorem d13_1 : decode prog_198_method_11_code 1 = .ok (.getfield 171, 3) := by decide +kernel
theorem d13_4 : decode prog_198_method_11_code 4 = .ok (.istore_n 2, 1) := by decide +kernel
theorem d13_5 : decode prog_198_method_11_code 5 = .ok (.aload_n 0, 1) := by decide +kernel
theorem d13_6 : decode prog_198_method_11_code 6 = .ok (.iload_n 1, 1) := by decide +kernel
theorem d13_7 : decode prog_198_method_11_code 7 = .ok (.iload_n 2, 1) := by decide +kernel
theorem d13_8 : decode prog_198_method_11_code 8 = .ok (.invokestatic 174, 3) := by decide +kernel
theorem pd__II_I : parseMethodDescriptor "(II)I" = some ⟨[.int, .int], some .int⟩ := by decide +kernel
theorem d13_11 : decode prog_198_method_11_code 11 = .ok (.putfield 171, 3) := by decide +kernel
theorem d13_14 : decode prog_198_method_11_code 14 = .ok (.iload_n 2, 1) := by decide +kernel
theorem d13_15 : decode prog_198_method_11_code 15 = .ok (.ireturn, 1) := by decide +kernel
theorem ef_rm13 (m : MethodId) (a : Addr) (pa : Int32) : entryFrame m #[(.ref a), (.int pa)] 3 = mkF m 0 #[.val (.ref a), .val (.int pa), .unset] [] := by first | (simp [entryFrame, mkF, argsToLocals, Value.category]; done) | rfl
def Q_rm13 (Z : State) (a : Addr) (pa : Int32) (w_deepest_a : Int32) (h0 : Heap) (n0 : Nat) (v : Option Value) (h : Heap) (L : List Loc) : Prop := v = some (.int w_deepest_a) ∧ Fr n0 L ∧ Keep h0 h [a] ∧ Fld Z h a "com/example/trivalent/trivalent/sql/QueryBinder" "deepest" "I" (.int (own_max pa w_deepest_a))
set_option maxRecDepth 65536 in
set_option maxHeartbeats 40000000 in
theorem rm13 (l : Launch) (Z : State) (a0 : Array Value) (hw : ∀ d ∈ tables_1, d.before a0 Z = true) (ws : List Jvm.Cond) (a : Addr) (pa : Int32) (w_deepest_a : Int32) (h0 : Heap) (n0 : Nat) (O0 : Old Z n0 h0) (E_a : Exa Z h0 a "com/example/trivalent/trivalent/sql/QueryBinder") (F_deepest_a : Fld Z h0 a "com/example/trivalent/trivalent/sql/QueryBinder" "deepest" "I" (.int w_deepest_a)) (g_a : n0 ≤ a) :
    MetFree l (⟨"com/example/trivalent/trivalent/sql/QueryBinder", "endMeasure", "(I)I"⟩ : MethodName) (head1 (Jvm.Cond.code (⟨"com/example/trivalent/trivalent/sql/QueryBinder", "endMeasure", "(I)I"⟩ : MethodName) prog_198_method_11_code 3 (some .int) :: ws) ({ frames := 1, cells := 0, slots := 0, locals := 14 } : Room)) (fun aa_ U => aa_ = #[(.ref a), (.int pa)] ∧ Z.Warmed39 U.vm ∧ U.heap = h0) (fun _ _ _ _ _ => True) (fun _ U oo_ U' => ∃ vv_ LL_, oo_ = .returned vv_ ∧ Q_rm13 Z a pa w_deepest_a h0 n0 vv_ U'.heap LL_ ∧ FrameEnd U oo_ U' LL_ ({ frames := 1, cells := 0, slots := 0, locals := 14 } : Room).cells ({ frames := 1, cells := 0, slots := 0, locals := 14 } : Room).slots) := by
  refine MetFree.of_bodySF (plainFor_of_name pn_com_example_trivalent_trivalent_sql_QueryBinder) hisR ?_
  intro p e s m args below meth c s₁ Bd hml0 hP hK
  obtain ⟨rfl, hZ, hh⟩ := hP
  have hx := Bd.exec
  have hby := Bd.bytes
  have hml : c.maxLocals = 3 := hml0
  have hown : s.vm.findClass "com/example/trivalent/trivalent/sql/QueryBinder" = some m.cls := findClass_of_methodNamed Bd.named
  have hnm := (name_of_methodNamed Bd.named Bd.method).1
  have X0 : Stand p l e ({ frames := 1, cells := 0, slots := 0, locals := 14 } : Room) s m #[(.ref a), (.int pa)] below meth c s₁ [] 0 0 := Stand.of_body Bd
  have e0 : s₁.heap = h0 := by rw [← hh, Bd.state]; rfl
  have N0 := Fr.nil n0
  have K0 : Keep h0 h0 [a] := Keep.refl h0 _
  refine own_i (own_s (fun t k => castTop (ef_rm13 m a pa) k) ?_)
  show Go p.tables e below _ (s₁.setTop (mkF m 0 #[.val (.ref a), .val (.int pa), .unset] []))
  refine own_s (fun t k => XS.aloadN X0.here hx rfl (hb hby d13_0) rfl rfl k) ?_
  show Go p.tables e below _ (s₁.setTop (mkF m 1 #[.val (.ref a), .val (.int pa), .unset] [(.ref a)]))
  obtain ⟨T1, X1, e1, st1⟩ := getF X0 hx hZ hown (host := "") (Or.inl (hw _ (List.mem_of_getElem? (i := 101) rfl))) Via.refl e0 F_deepest_a (g := (mkF m 1 #[.val (.ref a), .val (.int pa), .unset] [(.ref a)])) rfl rfl (hb hby d13_1)
  refine own_s st1 ?_
  show Go p.tables e below _ (T1.setTop (mkF m 4 #[.val (.ref a), .val (.int pa), .unset] [(.int w_deepest_a)]))
  refine own_s (fun t k => XS.istoreN X1.here hx rfl (hb hby d13_4) rfl (l' := #[.val (.ref a), .val (.int pa), .val (.int w_deepest_a)]) rfl k) ?_
  show Go p.tables e below _ (T1.setTop (mkF m 5 #[.val (.ref a), .val (.int pa), .val (.int w_deepest_a)] []))
  refine own_s (fun t k => XS.aloadN X1.here hx rfl (hb hby d13_5) rfl rfl k) ?_
  show Go p.tables e below _ (T1.setTop (mkF m 6 #[.val (.ref a), .val (.int pa), .val (.int w_deepest_a)] [(.ref a)]))
  refine own_s (fun t k => XS.iloadN X1.here hx rfl (hb hby d13_6) rfl k) ?_
  show Go p.tables e below _ (T1.setTop (mkF m 7 #[.val (.ref a), .val (.int pa), .val (.int w_deepest_a)] [(.int pa), (.ref a)]))
  refine own_s (fun t k => XS.iloadN X1.here hx rfl (hb hby d13_7) rfl k) ?_
  show Go p.tables e below _ (T1.setTop (mkF m 8 #[.val (.ref a), .val (.int pa), .val (.int w_deepest_a)] [(.int w_deepest_a), (.int pa), (.ref a)]))
  obtain ⟨_, _, ⟨T2, L2, k2, n2⟩, -, X2, ⟨Lc2, hQ2, l2, y2, z2⟩, st2⟩ := Jvm.LawKit.callS X1 hx (y := (⟨"java/lang/Math", "max", "(II)I"⟩ : MethodName)) hown (mvT hZ (hw _ (List.mem_of_getElem? (i := 108) rfl))) (mvT hZ (hw _ (List.mem_of_getElem? (i := 109) rfl))) (mvT hZ (hw _ (List.mem_of_getElem? (i := 110) rfl))) (mvT hZ (hw _ (List.mem_of_getElem? (i := 111) rfl))) (by decide) (backOf (W := 1) (rm14 l Z a0 hw [] pa w_deepest_a h0 n0 O0 ) hZ (hw _ (List.mem_of_getElem? (i := 111) rfl)) (hw _ (List.mem_of_getElem? (i := 110) rfl)) (by decide) (by decide)) (g := (mkF m 8 #[.val (.ref a), .val (.int pa), .val (.int w_deepest_a)] [(.int w_deepest_a), (.int pa), (.ref a)])) rfl (by rw [hml]; rfl) (argsL := [(.int pa), (.int w_deepest_a)]) (rest := [(.ref a)]) (lenOf pd__II_I rfl) rfl (by show 2 * 0 + _ ≤ _; exact Nat.le_of_eq rfl) (hb hby d13_8) (fun _ _ => ⟨rfl, e1, (by decide : 0 + 0 ≤ _), (by decide : 0 + 0 ≤ _)⟩)
  dsimp only [Pt.U, Pt.locs, Pt.cells, Pt.slots] at X2 l2 y2 z2 st2 hQ2
  subst l2 y2 z2
  obtain ⟨rfl, N2q, eq2⟩ := hQ2
  have N2 := Fr.app N0 N2q
  refine own_s st2 ?_
  show Go p.tables e below _ (T2.setTop (mkF m 11 #[.val (.ref a), .val (.int pa), .val (.int w_deepest_a)] [(.int (own_max pa w_deepest_a)), (.ref a)]))
  obtain ⟨T3, h3, X3, e3, W3, st3⟩ := putF X2 hx hZ hown (host := "") (Or.inl (hw _ (List.mem_of_getElem? (i := 101) rfl))) Via.refl eq2 F_deepest_a E_a (Or.inl (hw _ (List.mem_of_getElem? (i := 102) rfl))) (hw _ (List.mem_of_getElem? (i := 1) rfl)) (ty := .int) (by decide) rfl rfl (g := (mkF m 11 #[.val (.ref a), .val (.int pa), .val (.int w_deepest_a)] [(.int (own_max pa w_deepest_a)), (.ref a)])) rfl rfl (hb hby d13_11)
  refine own_s st3 ?_
  have K3 : Keep h0 h3 [a] := K0.wr W3 (Or.inl (List.mem_of_getElem? (i := 0) rfl))
  have N3 := Fr.snoc X3 N2 g_a
  have Fw3 := F_deepest_a.same W3
  show Go p.tables e below _ (T3.setTop (mkF m 14 #[.val (.ref a), .val (.int pa), .val (.int w_deepest_a)] []))
  refine own_s (fun t k => XS.iloadN X3.here hx rfl (hb hby d13_14) rfl k) ?_
  show Go p.tables e below _ (T3.setTop (mkF m 15 #[.val (.ref a), .val (.int pa), .val (.int w_deepest_a)] [(.int w_deepest_a)]))
  obtain ⟨fs, hr, hrun, hended, hW, hsame⟩ := X3.leave (v := (some (.int w_deepest_a))) (fun h => by first | rfl | (rw [Bd.returns] at h; cases h))
  refine own_e ?_ hrun hended ⟨_, _, rfl, ?_, ⟨_, rfl⟩, hW, hsame.mono (by decide) (by decide)⟩
  · exact retI X3 hx Bd.returns (hb hby d13_15) hr
  · show Q_rm13 Z a pa w_deepest_a h0 n0 _ T3.heap _
    rw [e3]
    exact ⟨rfl, N3, K3, Fw3⟩
theorem d15_0 : decode prog_198_method_9_code 0 = .ok (.aload_n 0, 1) := by decide +kernel
theorem d15_1 : decode prog_198_method_9_code 1 = .ok (.aload_n 0, 1) := by decide +kernel
theorem d15_2 : decode prog_198_method_9_code 2 = .ok (.getfield 171, 3) := by decide +kernel
theorem d15_5 : decode prog_198_method_9_code 5 = .ok (.iload_n 1, 1) := by decide +kernel
theorem d15_6 : decode prog_198_method_9_code 6 = .ok (.invokestatic 174, 3) := by decide +kernel
theorem d15_9 : decode prog_198_method_9_code 9 = .ok (.putfield 171, 3) := by decide +kernel
theorem d15_12 : decode prog_198_method_9_code 12 = .ok (.return_, 1) := by decide +kernel
theorem ef_rm15 (m : MethodId) (a : Addr) (pa : Int32) : entryFrame m #[(.ref a), (.int pa)] 2 = mkF m 0 #[.val (.ref a), .val (.int pa)] [] := by first | (simp [entryFrame, mkF, argsToLocals, Value.category]; done) | rfl
def Q_rm15 (Z : State) (a : Addr) (pa : Int32) (w_deepest_a : Int32) (h0 : Heap) (n0 : Nat) (v : Option Value) (h : Heap) (L : List Loc) : Prop := v = none ∧ Fr n0 L ∧ Keep h0 h [a] ∧ Fld Z h a "com/example/trivalent/trivalent/sql/QueryBinder" "deepest" "I" (.int (own_max w_deepest_a pa))
set_option maxRecDepth 65536 in
set_option maxHeartbeats 40000000 in
theorem rm15 (l : Launch) (Z : State) (a0 : Array Value) (hw : ∀ d ∈ tables_1, d.before a0 Z = true) (ws : List Jvm.Cond) (a : Addr) (pa : Int32) (w_deepest_a : Int32) (h0 : Heap) (n0 : Nat) (O0 : Old Z n0 h0) (E_a : Exa Z h0 a "com/example/trivalent/trivalent/sql/QueryBinder") (F_deepest_a : Fld Z h0 a "com/example/trivalent/trivalent/sql/QueryBinder" "deepest" "I" (.int w_deepest_a)) (g_a : n0 ≤ a) :
    MetFree l (⟨"com/example/trivalent/trivalent/sql/QueryBinder", "reach", "(I)V"⟩ : MethodName) (head1 (Jvm.Cond.code (⟨"com/example/trivalent/trivalent/sql/QueryBinder", "reach", "(I)V"⟩ : MethodName) prog_198_method_9_code 2 none :: ws) ({ frames := 1, cells := 0, slots := 0, locals := 14 } : Room)) (fun aa_ U => aa_ = #[(.ref a), (.int pa)] ∧ Z.Warmed39 U.vm ∧ U.heap = h0) (fun _ _ _ _ _ => True) (fun _ U oo_ U' => ∃ vv_ LL_, oo_ = .returned vv_ ∧ Q_rm15 Z a pa w_deepest_a h0 n0 vv_ U'.heap LL_ ∧ FrameEnd U oo_ U' LL_ ({ frames := 1, cells := 0, slots := 0, locals := 14 } : Room).cells ({ frames := 1, cells := 0, slots := 0, locals := 14 } : Room).slots) := by
  refine MetFree.of_bodySF (plainFor_of_name pn_com_example_trivalent_trivalent_sql_QueryBinder) hisR ?_
  intro p e s m args below meth c s₁ Bd hml0 hP hK
  obtain ⟨rfl, hZ, hh⟩ := hP
  have hx := Bd.exec
  have hby := Bd.bytes
  have hml : c.maxLocals = 2 := hml0
  have hown : s.vm.findClass "com/example/trivalent/trivalent/sql/QueryBinder" = some m.cls := findClass_of_methodNamed Bd.named
  have hnm := (name_of_methodNamed Bd.named Bd.method).1
  have X0 : Stand p l e ({ frames := 1, cells := 0, slots := 0, locals := 14 } : Room) s m #[(.ref a), (.int pa)] below meth c s₁ [] 0 0 := Stand.of_body Bd
  have e0 : s₁.heap = h0 := by rw [← hh, Bd.state]; rfl
  have N0 := Fr.nil n0
  have K0 : Keep h0 h0 [a] := Keep.refl h0 _
  refine own_i (own_s (fun t k => castTop (ef_rm15 m a pa) k) ?_)
  show Go p.tables e below _ (s₁.setTop (mkF m 0 #[.val (.ref a), .val (.int pa)] []))
  refine own_s (fun t k => XS.aloadN X0.here hx rfl (hb hby d15_0) rfl rfl k) ?_
  show Go p.tables e below _ (s₁.setTop (mkF m 1 #[.val (.ref a), .val (.int pa)] [(.ref a)]))
  refine own_s (fun t k => XS.aloadN X0.here hx rfl (hb hby d15_1) rfl rfl k) ?_
  show Go p.tables e below _ (s₁.setTop (mkF m 2 #[.val (.ref a), .val (.int pa)] [(.ref a), (.ref a)]))
  obtain ⟨T1, X1, e1, st1⟩ := getF X0 hx hZ hown (host := "") (Or.inl (hw _ (List.mem_of_getElem? (i := 101) rfl))) Via.refl e0 F_deepest_a (g := (mkF m 2 #[.val (.ref a), .val (.int pa)] [(.ref a), (.ref a)])) rfl rfl (hb hby d15_2)
  refine own_s st1 ?_
  show Go p.tables e below _ (T1.setTop (mkF m 5 #[.val (.ref a), .val (.int pa)] [(.int w_deepest_a), (.ref a)]))
  refine own_s (fun t k => XS.iloadN X1.here hx rfl (hb hby d15_5) rfl k) ?_
  show Go p.tables e below _ (T1.setTop (mkF m 6 #[.val (.ref a), .val (.int pa)] [(.int pa), (.int w_deepest_a), (.ref a)]))
  obtain ⟨_, _, ⟨T2, L2, k2, n2⟩, -, X2, ⟨Lc2, hQ2, l2, y2, z2⟩, st2⟩ := Jvm.LawKit.callS X1 hx (y := (⟨"java/lang/Math", "max", "(II)I"⟩ : MethodName)) hown (mvT hZ (hw _ (List.mem_of_getElem? (i := 108) rfl))) (mvT hZ (hw _ (List.mem_of_getElem? (i := 109) rfl))) (mvT hZ (hw _ (List.mem_of_getElem? (i := 110) rfl))) (mvT hZ (hw _ (List.mem_of_getElem? (i := 111) rfl))) (by decide) (backOf (W := 1) (rm14 l Z a0 hw [] w_deepest_a pa h0 n0 O0 ) hZ (hw _ (List.mem_of_getElem? (i := 111) rfl)) (hw _ (List.mem_of_getElem? (i := 110) rfl)) (by decide) (by decide)) (g := (mkF m 6 #[.val (.ref a), .val (.int pa)] [(.int pa), (.int w_deepest_a), (.ref a)])) rfl (by rw [hml]; rfl) (argsL := [(.int w_deepest_a), (.int pa)]) (rest := [(.ref a)]) (lenOf pd__II_I rfl) rfl (by show 2 * 0 + _ ≤ _; exact Nat.le_of_eq rfl) (hb hby d15_6) (fun _ _ => ⟨rfl, e1, (by decide : 0 + 0 ≤ _), (by decide : 0 + 0 ≤ _)⟩)
  dsimp only [Pt.U, Pt.locs, Pt.cells, Pt.slots] at X2 l2 y2 z2 st2 hQ2
  subst l2 y2 z2
  obtain ⟨rfl, N2q, eq2⟩ := hQ2
  have N2 := Fr.app N0 N2q
  refine own_s st2 ?_
  show Go p.tables e below _ (T2.setTop (mkF m 9 #[.val (.ref a), .val (.int pa)] [(.int (own_max w_deepest_a pa)), (.ref a)]))
  obtain ⟨T3, h3, X3, e3, W3, st3⟩ := putF X2 hx hZ hown (host := "") (Or.inl (hw _ (List.mem_of_getElem? (i := 101) rfl))) Via.refl eq2 F_deepest_a E_a (Or.inl (hw _ (List.mem_of_getElem? (i := 102) rfl))) (hw _ (List.mem_of_getElem? (i := 1) rfl)) (ty := .int) (by decide) rfl rfl (g := (mkF m 9 #[.val (.ref a), .val (.int pa)] [(.int (own_max w_deepest_a pa)), (.ref a)])) rfl rfl (hb hby d15_9)
  refine own_s st3 ?_
  have K3 : Keep h0 h3 [a] := K0.wr W3 (Or.inl (List.mem_of_getElem? (i := 0) rfl))
  have N3 := Fr.snoc X3 N2 g_a
  have Fw3 := F_deepest_a.same W3
  show Go p.tables e below _ (T3.setTop (mkF m 12 #[.val (.ref a), .val (.int pa)] []))
  obtain ⟨fs, hr, hrun, hended, hW, hsame⟩ := X3.leave (v := none) (fun h => by first | rfl | (rw [Bd.returns] at h; cases h))
  refine own_e ?_ hrun hended ⟨_, _, rfl, ?_, ⟨_, rfl⟩, hW, hsame.mono (by decide) (by decide)⟩
  · exact X3.returnOut hx Bd.returns (hb hby d15_12) hr
  · show Q_rm15 Z a pa w_deepest_a h0 n0 _ T3.heap _
    rw [e3]
    exact ⟨rfl, N3, K3, Fw3⟩
theorem pd__Lcom_example_trivalent_trivalent_engine_catalog_Catalog_Ljava_util_List__V : parseMethodDescriptor "(Lcom/example/trivalent/trivalent/engine/catalog/Catalog;Ljava/util/List;)V" = some ⟨[(.object "com/example/trivalent/trivalent/engine/catalog/Catalog"), (.object "java/util/List")], none⟩ := by decide +kernel
theorem pd__I_I : parseMethodDescriptor "(I)I" = some ⟨[.int], some .int⟩ := by decide +kernel
theorem pn_com_example_trivalent_trivalent_sql_QueryBinderStartMeasurePinLaw : plainName "com/example/trivalent/trivalent/sql/QueryBinderStartMeasurePinLaw" = true := by first | (simp [plainName, overriddenIn]; done) | decide +kernel
theorem ef_rm0 (m : MethodId) (x0 : Int32) (x1 : Int32) (x2 : Int32) (x3 : Int32) (x4 : Int32) : entryFrame m #[(.int x0), (.int x1), (.int x2), (.int x3), (.int x4)] maxLocals = mkF m 0 #[.val (.int x0), .val (.int x1), .val (.int x2), .val (.int x3), .val (.int x4), .unset, .unset, .unset, .unset, .unset, .unset, .unset, .unset] [] := by first | (simp [entryFrame, mkF, argsToLocals, Value.category, maxLocals]; done) | rfl
def Q_rm0 (Z : State) (uO : Addr) (x0 : Int32) (x1 : Int32) (x2 : Int32) (x3 : Int32) (x4 : Int32) (h0 : Heap) (n0 : Nat) (v : Option Value) (h : Heap) (L : List Loc) : Prop := v = some (.int (1 : Int32)) ∧ Fr n0 L
set_option maxRecDepth 65536 in
set_option maxHeartbeats 40000000 in
theorem rm0 (l : Launch) (Z : State) (a0 : Array Value) (hw : ∀ d ∈ tables_1, d.before a0 Z = true) (ws : List Jvm.Cond) (uO : Addr) (x0 : Int32) (x1 : Int32) (x2 : Int32) (x3 : Int32) (x4 : Int32) (h0 : Heap) (n0 : Nat) (O0 : Old Z n0 h0) (S_ORDER : Sta Z Z.heap "com/example/trivalent/trivalent/engine/Identifiers" "ORDER" "Ljava/util/Comparator;" (.ref uO)) :
    MetFree l x (head1 (Jvm.Cond.code x code maxLocals ret :: ws) room_1) (fun aa_ U => aa_ = #[(.int x0), (.int x1), (.int x2), (.int x3), (.int x4)] ∧ Z.Warmed39 U.vm ∧ U.heap = h0) (fun _ _ _ _ _ => True) (fun _ U oo_ U' => ∃ vv_ LL_, oo_ = .returned vv_ ∧ Q_rm0 Z uO x0 x1 x2 x3 x4 h0 n0 vv_ U'.heap LL_ ∧ FrameEnd U oo_ U' LL_ room_1.cells room_1.slots) := by
  refine MetFree.of_bodySF (plainFor_of_name pn_com_example_trivalent_trivalent_sql_QueryBinderStartMeasurePinLaw) hisR ?_
  intro p e s m args below meth c s₁ Bd hml0 hP hK
  obtain ⟨rfl, hZ, hh⟩ := hP
  have hx := Bd.exec
  have hby := Bd.bytes
  have hml : c.maxLocals = 13 := hml0
  have hown : s.vm.findClass "com/example/trivalent/trivalent/sql/QueryBinderStartMeasurePinLaw" = some m.cls := findClass_of_methodNamed Bd.named
  have hnm := (name_of_methodNamed Bd.named Bd.method).1
  have X0 : Stand p l e room_1 s m #[(.int x0), (.int x1), (.int x2), (.int x3), (.int x4)] below meth c s₁ [] 0 0 := Stand.of_body Bd
  have e0 : s₁.heap = h0 := by rw [← hh, Bd.state]; rfl
  have N0 := Fr.nil n0
  have K0 : Keep h0 h0 [] := Keep.refl h0 _
  refine own_i (own_s (fun t k => castTop (ef_rm0 m x0 x1 x2 x3 x4) k) ?_)
  show Go p.tables e below _ (s₁.setTop (mkF m 0 #[.val (.int x0), .val (.int x1), .val (.int x2), .val (.int x3), .val (.int x4), .unset, .unset, .unset, .unset, .unset, .unset, .unset, .unset] []))
  obtain ⟨T1, h1, X1, e1, E1, A1, D1, -, st1⟩ := newO X0 hx hZ hown (hw _ (List.mem_of_getElem? (i := 0) rfl)) (hw _ (List.mem_of_getElem? (i := 1) rfl)) (hw _ (List.mem_of_getElem? (i := 2) rfl)) e0 (g := (mkF m 0 #[.val (.int x0), .val (.int x1), .val (.int x2), .val (.int x3), .val (.int x4), .unset, .unset, .unset, .unset, .unset, .unset, .unset, .unset] [])) rfl (hb hby at_0) (by decide) (by decide)
  obtain ⟨b1, gg1⟩ : ∃ z, z = h0.size := ⟨_, rfl⟩
  rw [← gg1] at A1 D1 st1
  have g_b1 : n0 ≤ b1 := Nat.le_trans (Nat.le_of_eq O0.1.symm) (Nat.le_trans O0.2.1 (Nat.le_of_eq gg1.symm))
  have sz_b1 : h0.size ≤ b1 := Nat.le_trans K0.1 (Nat.le_of_eq gg1.symm)
  have K1 : Keep h0 h1 [] := K0.ext E1
  have F_dependencies_b1 : Fld Z h1 b1 "com/example/trivalent/trivalent/sql/QueryBinder" "dependencies" "Ljava/util/Set;" .null := D1 (Or.inr (hw _ (List.mem_of_getElem? (i := 72) rfl))) (ty := (.object "java/util/Set")) (by decide)
  have F_aggregateOwners_b1 : Fld Z h1 b1 "com/example/trivalent/trivalent/sql/QueryBinder" "aggregateOwners" "Ljava/util/Map;" .null := D1 (Or.inr (hw _ (List.mem_of_getElem? (i := 91) rfl))) (ty := (.object "java/util/Map")) (by decide)
  have F_catalog_b1 : Fld Z h1 b1 "com/example/trivalent/trivalent/sql/QueryBinder" "catalog" "Lcom/example/trivalent/trivalent/engine/catalog/Catalog;" .null := D1 (Or.inr (hw _ (List.mem_of_getElem? (i := 93) rfl))) (ty := (.object "com/example/trivalent/trivalent/engine/catalog/Catalog")) (by decide)
  have F_parameters_b1 : Fld Z h1 b1 "com/example/trivalent/trivalent/sql/QueryBinder" "parameters" "Ljava/util/List;" .null := D1 (Or.inr (hw _ (List.mem_of_getElem? (i := 95) rfl))) (ty := (.object "java/util/List")) (by decide)
  have F_deepest_b1 : Fld Z h1 b1 "com/example/trivalent/trivalent/sql/QueryBinder" "deepest" "I" (.int (0 : Int32)) := D1 (Or.inl (hw _ (List.mem_of_getElem? (i := 102) rfl))) (ty := .int) (by decide)
  refine own_s st1 ?_
  show Go p.tables e below _ (T1.setTop (mkF m 3 #[.val (.int x0), .val (.int x1), .val (.int x2), .val (.int x3), .val (.int x4), .unset, .unset, .unset, .unset, .unset, .unset, .unset, .unset] [(.ref b1)]))
  refine own_s (fun t k => XS.dup X1.here hx rfl (hb hby at_3) rfl rfl k) ?_
  show Go p.tables e below _ (T1.setTop (mkF m 4 #[.val (.int x0), .val (.int x1), .val (.int x2), .val (.int x3), .val (.int x4), .unset, .unset, .unset, .unset, .unset, .unset, .unset, .unset] [(.ref b1), (.ref b1)]))
  have O2 : Old Z n0 h1 := (O0.ext E1)
  obtain ⟨T3, h3, X3, e3, E3, A3, D3, -, st3⟩ := newO X1 hx hZ hown (hw _ (List.mem_of_getElem? (i := 3) rfl)) (hw _ (List.mem_of_getElem? (i := 4) rfl)) (hw _ (List.mem_of_getElem? (i := 5) rfl)) e1 (g := (mkF m 4 #[.val (.int x0), .val (.int x1), .val (.int x2), .val (.int x3), .val (.int x4), .unset, .unset, .unset, .unset, .unset, .unset, .unset, .unset] [(.ref b1), (.ref b1)])) rfl (hb hby at_4) (by decide) (by decide)
  obtain ⟨b3, gg3⟩ : ∃ z, z = h1.size := ⟨_, rfl⟩
  rw [← gg3] at A3 D3 st3
  have g_b3 : n0 ≤ b3 := Nat.le_trans (Nat.le_of_eq O2.1.symm) (Nat.le_trans O2.2.1 (Nat.le_of_eq gg3.symm))
  have sz_b3 : h0.size ≤ b3 := Nat.le_trans K1.1 (Nat.le_of_eq gg3.symm)
  have K3 : Keep h0 h3 [] := K1.ext E3
  have F_objects_b3 : Fld Z h3 b3 "com/example/trivalent/trivalent/engine/catalog/Catalog" "objects" "Ljava/util/Map;" .null := D3 (Or.inr (hw _ (List.mem_of_getElem? (i := 35) rfl))) (ty := (.object "java/util/Map")) (by decide)
  have F_indexes_b3 : Fld Z h3 b3 "com/example/trivalent/trivalent/engine/catalog/Catalog" "indexes" "Ljava/util/Map;" .null := D3 (Or.inr (hw _ (List.mem_of_getElem? (i := 37) rfl))) (ty := (.object "java/util/Map")) (by decide)
  refine own_s st3 ?_
  show Go p.tables e below _ (T3.setTop (mkF m 7 #[.val (.int x0), .val (.int x1), .val (.int x2), .val (.int x3), .val (.int x4), .unset, .unset, .unset, .unset, .unset, .unset, .unset, .unset] [(.ref b3), (.ref b1), (.ref b1)]))
  refine own_s (fun t k => XS.dup X3.here hx rfl (hb hby at_7) rfl rfl k) ?_
  show Go p.tables e below _ (T3.setTop (mkF m 8 #[.val (.int x0), .val (.int x1), .val (.int x2), .val (.int x3), .val (.int x4), .unset, .unset, .unset, .unset, .unset, .unset, .unset, .unset] [(.ref b3), (.ref b3), (.ref b1), (.ref b1)]))
  have O5 : Old Z n0 h3 := (O2.ext E3)
  obtain ⟨_, _, ⟨T4, L4, k4, n4⟩, -, X4, ⟨Lc4, hQ4, l4, y4, z4⟩, st4⟩ := X3.specialBack hx (y := (⟨"com/example/trivalent/trivalent/engine/catalog/Catalog", "<init>", "()V"⟩ : MethodName)) rfl hown (mvT hZ (hw _ (List.mem_of_getElem? (i := 6) rfl))) (mvT hZ (hw _ (List.mem_of_getElem? (i := 7) rfl))) (mvT hZ (hw _ (List.mem_of_getElem? (i := 8) rfl))) (by decide) (backOf (W := 3) (rm1 l Z a0 hw [] uO b3 .null .null h3 n0 O5 S_ORDER A3 F_objects_b3 g_b3 F_indexes_b3) hZ (hw _ (List.mem_of_getElem? (i := 8) rfl)) (hw _ (List.mem_of_getElem? (i := 5) rfl)) (by decide) (by decide)) (g := (mkF m 8 #[.val (.int x0), .val (.int x1), .val (.int x2), .val (.int x3), .val (.int x4), .unset, .unset, .unset, .unset, .unset, .unset, .unset, .unset] [(.ref b3), (.ref b3), (.ref b1), (.ref b1)])) rfl (by rw [hml]; rfl) (Steps.refl _) (a := b3) (argsL := []) (rest := [(.ref b3), (.ref b1), (.ref b1)]) (lenOf pd___V rfl) rfl (by show 2 * 0 + _ ≤ _; exact Nat.le_of_eq rfl) (hb hby at_8) (fun _ _ => ⟨rfl, e3, (by decide : 2 + 2 ≤ _), (by decide : 10 + 18 ≤ _)⟩)
  dsimp only [Pt.U, Pt.locs, Pt.cells, Pt.slots] at X4 l4 y4 z4 st4 hQ4
  subst l4 y4 z4
  obtain ⟨rfl, N4q, Kc4⟩ := hQ4
  have K4 : Keep h0 T4.heap [] := K3.trans Kc4 (allS (Or.inr sz_b3) all0)
  have N4 := Fr.app N0 N4q
  refine own_t st4 ?_
  show Go p.tables e below _ (T4.setTop (mkF m 11 #[.val (.int x0), .val (.int x1), .val (.int x2), .val (.int x3), .val (.int x4), .unset, .unset, .unset, .unset, .unset, .unset, .unset, .unset] [(.ref b3), (.ref b1), (.ref b1)]))
  refine own_s (fun t k => XS.aconstNull X4.here hx rfl (hb hby at_11) k) ?_
  show Go p.tables e below _ (T4.setTop (mkF m 12 #[.val (.int x0), .val (.int x1), .val (.int x2), .val (.int x3), .val (.int x4), .unset, .unset, .unset, .unset, .unset, .unset, .unset, .unset] [.null, (.ref b3), (.ref b1), (.ref b1)]))
  have Q7 : Exa Z T4.heap b1 "com/example/trivalent/trivalent/sql/QueryBinder" := ((A1.ext E3).keep Kc4)
  have ne8 : b1 ≠ b3 := Nat.ne_of_lt (Nat.lt_of_lt_of_le F_dependencies_b1.lt (Nat.le_of_eq gg3.symm))
  have F9 : Fld Z T4.heap b1 "com/example/trivalent/trivalent/sql/QueryBinder" "deepest" "I" (.int (0 : Int32)) := ((F_deepest_b1.ext E3).keep Kc4 (ninS ne8 nin0))
  have F10 : Fld Z T4.heap b1 "com/example/trivalent/trivalent/sql/QueryBinder" "dependencies" "Ljava/util/Set;" .null := ((F_dependencies_b1.ext E3).keep Kc4 (ninS ne8 nin0))
  have F11 : Fld Z T4.heap b1 "com/example/trivalent/trivalent/sql/QueryBinder" "aggregateOwners" "Ljava/util/Map;" .null := ((F_aggregateOwners_b1.ext E3).keep Kc4 (ninS ne8 nin0))
  have F12 : Fld Z T4.heap b1 "com/example/trivalent/trivalent/sql/QueryBinder" "catalog" "Lcom/example/trivalent/trivalent/engine/catalog/Catalog;" .null := ((F_catalog_b1.ext E3).keep Kc4 (ninS ne8 nin0))
  have F13 : Fld Z T4.heap b1 "com/example/trivalent/trivalent/sql/QueryBinder" "parameters" "Ljava/util/List;" .null := ((F_parameters_b1.ext E3).keep Kc4 (ninS ne8 nin0))
  have O14 : Old Z n0 T4.heap := (O5.keep Kc4 (allS g_b3 all0))
  obtain ⟨_, _, ⟨T6, L6, k6, n6⟩, -, X6, ⟨Lc6, hQ6, l6, y6, z6⟩, st6⟩ := X4.specialBack hx (y := (⟨"com/example/trivalent/trivalent/sql/QueryBinder", "<init>", "(Lcom/example/trivalent/trivalent/engine/catalog/Catalog;Ljava/util/List;)V"⟩ : MethodName)) rfl hown (mvT hZ (hw _ (List.mem_of_getElem? (i := 38) rfl))) (mvT hZ (hw _ (List.mem_of_getElem? (i := 39) rfl))) (mvT hZ (hw _ (List.mem_of_getElem? (i := 40) rfl))) (by decide) (backOf (W := 1) (rm5 l Z a0 hw [] uO b1 b3 .null .null .null .null T4.heap n0 O14 S_ORDER Q7 F9 F10 g_b1 F11 F12 F13) hZ (hw _ (List.mem_of_getElem? (i := 40) rfl)) (hw _ (List.mem_of_getElem? (i := 2) rfl)) (by decide) (by decide)) (g := (mkF m 12 #[.val (.int x0), .val (.int x1), .val (.int x2), .val (.int x3), .val (.int x4), .unset, .unset, .unset, .unset, .unset, .unset, .unset, .unset] [.null, (.ref b3), (.ref b1), (.ref b1)])) rfl (by rw [hml]; rfl) (Steps.refl _) (a := b1) (argsL := [(.ref b3), .null]) (rest := [(.ref b1)]) (lenOf pd__Lcom_example_trivalent_trivalent_engine_catalog_Catalog_Ljava_util_List__V rfl) rfl (by show 2 * 0 + _ ≤ _; exact Nat.le_of_eq rfl) (hb hby at_12) (fun _ _ => ⟨rfl, rfl, (by decide : 4 + 4 ≤ _), (by decide : 28 + 80 ≤ _)⟩)
  dsimp only [Pt.U, Pt.locs, Pt.cells, Pt.slots] at X6 l6 y6 z6 st6 hQ6
  subst l6 y6 z6
  obtain ⟨rfl, N6q, Kc6, fc6_0⟩ := hQ6
  have K6 : Keep h0 T6.heap [] := K4.trans Kc6 (allS (Or.inr sz_b1) all0)
  have N6 := Fr.app N4 N6q
  refine own_t st6 ?_
  show Go p.tables e below _ (T6.setTop (mkF m 15 #[.val (.int x0), .val (.int x1), .val (.int x2), .val (.int x3), .val (.int x4), .unset, .unset, .unset, .unset, .unset, .unset, .unset, .unset] [(.ref b1)]))
  refine own_s (fun t k => XS.astore X6.here hx rfl (hb hby at_15) rfl rfl (l' := #[.val (.int x0), .val (.int x1), .val (.int x2), .val (.int x3), .val (.int x4), .val (.ref b1), .unset, .unset, .unset, .unset, .unset, .unset, .unset]) rfl k) ?_
  show Go p.tables e below _ (T6.setTop (mkF m 17 #[.val (.int x0), .val (.int x1), .val (.int x2), .val (.int x3), .val (.int x4), .val (.ref b1), .unset, .unset, .unset, .unset, .unset, .unset, .unset] []))
  refine own_s (fun t k => XS.iload X6.here hx rfl (hb hby at_17) rfl k) ?_
  show Go p.tables e below _ (T6.setTop (mkF m 19 #[.val (.int x0), .val (.int x1), .val (.int x2), .val (.int x3), .val (.int x4), .val (.ref b1), .unset, .unset, .unset, .unset, .unset, .unset, .unset] [(.int x4)]))
  refine own_s (fun t k => XS.iconst X6.here hx rfl (hb hby at_19) k) ?_
  show Go p.tables e below _ (T6.setTop (mkF m 20 #[.val (.int x0), .val (.int x1), .val (.int x2), .val (.int x3), .val (.int x4), .val (.ref b1), .unset, .unset, .unset, .unset, .unset, .unset, .unset] [(.int (1 : Int32)), (.int x4)]))
  refine own_s (fun t k => XS.iand X6.here hx rfl (hb hby at_20) rfl k) ?_
  show Go p.tables e below _ (T6.setTop (mkF m 21 #[.val (.int x0), .val (.int x1), .val (.int x2), .val (.int x3), .val (.int x4), .val (.ref b1), .unset, .unset, .unset, .unset, .unset, .unset, .unset] [(.int (x4 &&& (1 : Int32)))]))
  by_cases hc15 : (x4 &&& (1 : Int32)) = (0 : Int32)
  ·
    refine own_s (fun t k => XS.ifYes X6.here hx rfl (pc0 := 21) (pc' := 28) rfl (hb hby at_21) rfl ((if0 _ _).trans (teq hc15).1) (by decide) (by decide) k) ?_
    show Go p.tables e below _ (T6.setTop (mkF m 28 #[.val (.int x0), .val (.int x1), .val (.int x2), .val (.int x3), .val (.int x4), .val (.ref b1), .unset, .unset, .unset, .unset, .unset, .unset, .unset] []))
    refine own_s (fun t k => XS.iconst X6.here hx rfl (hb hby at_28) k) ?_
    show Go p.tables e below _ (T6.setTop (mkF m 29 #[.val (.int x0), .val (.int x1), .val (.int x2), .val (.int x3), .val (.int x4), .val (.ref b1), .unset, .unset, .unset, .unset, .unset, .unset, .unset] [(.int (0 : Int32))]))
    refine own_s (fun t k => XS.istore X6.here hx rfl (hb hby at_29) rfl (l' := #[.val (.int x0), .val (.int x1), .val (.int x2), .val (.int x3), .val (.int x4), .val (.ref b1), .val (.int (0 : Int32)), .unset, .unset, .unset, .unset, .unset, .unset]) rfl k) ?_
    show Go p.tables e below _ (T6.setTop (mkF m 31 #[.val (.int x0), .val (.int x1), .val (.int x2), .val (.int x3), .val (.int x4), .val (.ref b1), .val (.int (0 : Int32)), .unset, .unset, .unset, .unset, .unset, .unset] []))
    refine own_s (fun t k => XS.aload X6.here hx rfl (hb hby at_31) rfl rfl k) ?_
    show Go p.tables e below _ (T6.setTop (mkF m 33 #[.val (.int x0), .val (.int x1), .val (.int x2), .val (.int x3), .val (.int x4), .val (.ref b1), .val (.int (0 : Int32)), .unset, .unset, .unset, .unset, .unset, .unset] [(.ref b1)]))
    refine own_s (fun t k => XS.iloadN X6.here hx rfl (hb hby at_33) rfl k) ?_
    show Go p.tables e below _ (T6.setTop (mkF m 34 #[.val (.int x0), .val (.int x1), .val (.int x2), .val (.int x3), .val (.int x4), .val (.ref b1), .val (.int (0 : Int32)), .unset, .unset, .unset, .unset, .unset, .unset] [(.int x0), (.ref b1)]))
    have Q17 : Exa Z T6.heap b1 "com/example/trivalent/trivalent/sql/QueryBinder" := (Q7.keep Kc6)
    have O18 : Old Z n0 T6.heap := (O14.keep Kc6 (allS g_b1 all0))
    obtain ⟨cq16, kq16, q16a, q16b, q16c⟩ := isOf hZ rfl Q17
    obtain ⟨_, _, ⟨T16, L16, k16, n16⟩, -, X16, ⟨Lc16, hQ16, l16, y16, z16⟩, st16⟩ := X6.virtualBack hx (y := (⟨"com/example/trivalent/trivalent/sql/QueryBinder", "startMeasure", "(I)I"⟩ : MethodName)) (z := (⟨"com/example/trivalent/trivalent/sql/QueryBinder", "startMeasure", "(I)I"⟩ : MethodName)) hown (mvT hZ (hw _ (List.mem_of_getElem? (i := 96) rfl))) (mvT hZ (hw _ (List.mem_of_getElem? (i := 97) rfl))) (notFace_of_selects (args := #[]) (mvT hZ (hw _ (List.mem_of_getElem? (i := 99) rfl)))) (mvT hZ (hw _ (List.mem_of_getElem? (i := 99) rfl))) (mvT hZ (hw _ (List.mem_of_getElem? (i := 98) rfl))) (by decide) (backOf (W := 0) (rm12 l Z a0 hw [] b1 x0 (0 : Int32) T6.heap n0 O18 Q17 fc6_0 g_b1) hZ (hw _ (List.mem_of_getElem? (i := 100) rfl)) (hw _ (List.mem_of_getElem? (i := 2) rfl)) (by decide) (by decide)) q16a q16c (g := (mkF m 34 #[.val (.int x0), .val (.int x1), .val (.int x2), .val (.int x3), .val (.int x4), .val (.ref b1), .val (.int (0 : Int32)), .unset, .unset, .unset, .unset, .unset, .unset] [(.int x0), (.ref b1)])) rfl (by rw [hml]; rfl) (Steps.refl _) (argsL := [(.int x0)]) (rest := []) (lenOf pd__I_I rfl) rfl (by show 2 * 0 + _ ≤ _; exact Nat.le_of_eq rfl) (hb hby at_34) (fun _ _ => ⟨rfl, rfl, (by decide : 8 + 0 ≤ _), (by decide : 108 + 0 ≤ _)⟩)
    dsimp only [Pt.U, Pt.locs, Pt.cells, Pt.slots] at X16 l16 y16 z16 st16 hQ16
    subst l16 y16 z16
    obtain ⟨rfl, N16q, Kc16, fc16_0⟩ := hQ16
    have K16 : Keep h0 T16.heap [] := K6.trans Kc16 (allS (Or.inr sz_b1) all0)
    have N16 := Fr.app N6 N16q
    refine own_t st16 ?_
    show Go p.tables e below _ (T16.setTop (mkF m 37 #[.val (.int x0), .val (.int x1), .val (.int x2), .val (.int x3), .val (.int x4), .val (.ref b1), .val (.int (0 : Int32)), .unset, .unset, .unset, .unset, .unset, .unset] [(.int (0 : Int32))]))
    refine own_s (fun t k => XS.istore X16.here hx rfl (hb hby at_37) rfl (l' := #[.val (.int x0), .val (.int x1), .val (.int x2), .val (.int x3), .val (.int x4), .val (.ref b1), .val (.int (0 : Int32)), .val (.int (0 : Int32)), .unset, .unset, .unset, .unset, .unset]) rfl k) ?_
    show Go p.tables e below _ (T16.setTop (mkF m 39 #[.val (.int x0), .val (.int x1), .val (.int x2), .val (.int x3), .val (.int x4), .val (.ref b1), .val (.int (0 : Int32)), .val (.int (0 : Int32)), .unset, .unset, .unset, .unset, .unset] []))
    refine own_s (fun t k => XS.iload X16.here hx rfl (hb hby at_39) rfl k) ?_
    show Go p.tables e below _ (T16.setTop (mkF m 41 #[.val (.int x0), .val (.int x1), .val (.int x2), .val (.int x3), .val (.int x4), .val (.ref b1), .val (.int (0 : Int32)), .val (.int (0 : Int32)), .unset, .unset, .unset, .unset, .unset] [(.int (0 : Int32))]))
    refine own_s (fun t k => XS.ifYes X16.here hx rfl (pc0 := 41) (pc' := 46) rfl (hb hby at_41) rfl ((if0 _ _).trans (teq (by decide : (0 : Int32) = (0 : Int32))).1) (by decide) (by decide) k) ?_
    show Go p.tables e below _ (T16.setTop (mkF m 46 #[.val (.int x0), .val (.int x1), .val (.int x2), .val (.int x3), .val (.int x4), .val (.ref b1), .val (.int (0 : Int32)), .val (.int (0 : Int32)), .unset, .unset, .unset, .unset, .unset] []))
    refine own_s (fun t k => XS.aload X16.here hx rfl (hb hby at_46) rfl rfl k) ?_
    show Go p.tables e below _ (T16.setTop (mkF m 48 #[.val (.int x0), .val (.int x1), .val (.int x2), .val (.int x3), .val (.int x4), .val (.ref b1), .val (.int (0 : Int32)), .val (.int (0 : Int32)), .unset, .unset, .unset, .unset, .unset] [(.ref b1)]))
    refine own_s (fun t k => XS.iloadN X16.here hx rfl (hb hby at_48) rfl k) ?_
    show Go p.tables e below _ (T16.setTop (mkF m 49 #[.val (.int x0), .val (.int x1), .val (.int x2), .val (.int x3), .val (.int x4), .val (.ref b1), .val (.int (0 : Int32)), .val (.int (0 : Int32)), .unset, .unset, .unset, .unset, .unset] [(.int x1), (.ref b1)]))
    have Q20 : Exa Z T16.heap b1 "com/example/trivalent/trivalent/sql/QueryBinder" := (Q17.keep Kc16)
    have O21 : Old Z n0 T16.heap := (O18.keep Kc16 (allS g_b1 all0))
    obtain ⟨cq19, kq19, q19a, q19b, q19c⟩ := isOf hZ rfl Q20
    obtain ⟨_, _, ⟨T19, L19, k19, n19⟩, -, X19, ⟨Lc19, hQ19, l19, y19, z19⟩, st19⟩ := X16.virtualBack hx (y := (⟨"com/example/trivalent/trivalent/sql/QueryBinder", "startMeasure", "(I)I"⟩ : MethodName)) (z := (⟨"com/example/trivalent/trivalent/sql/QueryBinder", "startMeasure", "(I)I"⟩ : MethodName)) hown (mvT hZ (hw _ (List.mem_of_getElem? (i := 96) rfl))) (mvT hZ (hw _ (List.mem_of_getElem? (i := 97) rfl))) (notFace_of_selects (args := #[]) (mvT hZ (hw _ (List.mem_of_getElem? (i := 99) rfl)))) (mvT hZ (hw _ (List.mem_of_getElem? (i := 99) rfl))) (mvT hZ (hw _ (List.mem_of_getElem? (i := 98) rfl))) (by decide) (backOf (W := 0) (rm12 l Z a0 hw [] b1 x1 x0 T16.heap n0 O21 Q20 fc16_0 g_b1) hZ (hw _ (List.mem_of_getElem? (i := 100) rfl)) (hw _ (List.mem_of_getElem? (i := 2) rfl)) (by decide) (by decide)) q19a q19c (g := (mkF m 49 #[.val (.int x0), .val (.int x1), .val (.int x2), .val (.int x3), .val (.int x4), .val (.ref b1), .val (.int (0 : Int32)), .val (.int (0 : Int32)), .unset, .unset, .unset, .unset, .unset] [(.int x1), (.ref b1)])) rfl (by rw [hml]; rfl) (Steps.refl _) (argsL := [(.int x1)]) (rest := []) (lenOf pd__I_I rfl) rfl (by show 2 * 0 + _ ≤ _; exact Nat.le_of_eq rfl) (hb hby at_49) (fun _ _ => ⟨rfl, rfl, (by decide : 8 + 0 ≤ _), (by decide : 108 + 0 ≤ _)⟩)
    dsimp only [Pt.U, Pt.locs, Pt.cells, Pt.slots] at X19 l19 y19 z19 st19 hQ19
    subst l19 y19 z19
    obtain ⟨rfl, N19q, Kc19, fc19_0⟩ := hQ19
    have K19 : Keep h0 T19.heap [] := K16.trans Kc19 (allS (Or.inr sz_b1) all0)
    have N19 := Fr.app N16 N19q
    refine own_t st19 ?_
    show Go p.tables e below _ (T19.setTop (mkF m 52 #[.val (.int x0), .val (.int x1), .val (.int x2), .val (.int x3), .val (.int x4), .val (.ref b1), .val (.int (0 : Int32)), .val (.int (0 : Int32)), .unset, .unset, .unset, .unset, .unset] [(.int x0)]))
    refine own_s (fun t k => XS.istore X19.here hx rfl (hb hby at_52) rfl (l' := #[.val (.int x0), .val (.int x1), .val (.int x2), .val (.int x3), .val (.int x4), .val (.ref b1), .val (.int (0 : Int32)), .val (.int (0 : Int32)), .val (.int x0), .unset, .unset, .unset, .unset]) rfl k) ?_
    show Go p.tables e below _ (T19.setTop (mkF m 54 #[.val (.int x0), .val (.int x1), .val (.int x2), .val (.int x3), .val (.int x4), .val (.ref b1), .val (.int (0 : Int32)), .val (.int (0 : Int32)), .val (.int x0), .unset, .unset, .unset, .unset] []))
    refine own_s (fun t k => XS.iload X19.here hx rfl (hb hby at_54) rfl k) ?_
    show Go p.tables e below _ (T19.setTop (mkF m 56 #[.val (.int x0), .val (.int x1), .val (.int x2), .val (.int x3), .val (.int x4), .val (.ref b1), .val (.int (0 : Int32)), .val (.int (0 : Int32)), .val (.int x0), .unset, .unset, .unset, .unset] [(.int x0)]))
    refine own_s (fun t k => XS.iloadN X19.here hx rfl (hb hby at_56) rfl k) ?_
    show Go p.tables e below _ (T19.setTop (mkF m 57 #[.val (.int x0), .val (.int x1), .val (.int x2), .val (.int x3), .val (.int x4), .val (.ref b1), .val (.int (0 : Int32)), .val (.int (0 : Int32)), .val (.int x0), .unset, .unset, .unset, .unset] [(.int x0), (.int x0)]))
    refine own_s (fun t k => XS.icmpYes X19.here hx rfl (pc0 := 57) (pc' := 62) rfl (hb hby at_57) rfl (teq (rfl : x0 = x0)).1 (by decide) (by decide) k) ?_
    show Go p.tables e below _ (T19.setTop (mkF m 62 #[.val (.int x0), .val (.int x1), .val (.int x2), .val (.int x3), .val (.int x4), .val (.ref b1), .val (.int (0 : Int32)), .val (.int (0 : Int32)), .val (.int x0), .unset, .unset, .unset, .unset] []))
    refine own_s (fun t k => XS.iload X19.here hx rfl (hb hby at_62) rfl k) ?_
    show Go p.tables e below _ (T19.setTop (mkF m 64 #[.val (.int x0), .val (.int x1), .val (.int x2), .val (.int x3), .val (.int x4), .val (.ref b1), .val (.int (0 : Int32)), .val (.int (0 : Int32)), .val (.int x0), .unset, .unset, .unset, .unset] [(.int (0 : Int32))]))
    refine own_s (fun t k => XS.ifYes X19.here hx rfl (pc0 := 64) (pc' := 73) rfl (hb hby at_64) rfl ((if0 _ _).trans (teq (by decide : (0 : Int32) = (0 : Int32))).1) (by decide) (by decide) k) ?_
    show Go p.tables e below _ (T19.setTop (mkF m 73 #[.val (.int x0), .val (.int x1), .val (.int x2), .val (.int x3), .val (.int x4), .val (.ref b1), .val (.int (0 : Int32)), .val (.int (0 : Int32)), .val (.int x0), .unset, .unset, .unset, .unset] []))
    refine own_s (fun t k => XS.iload X19.here hx rfl (hb hby at_73) rfl k) ?_
    show Go p.tables e below _ (T19.setTop (mkF m 75 #[.val (.int x0), .val (.int x1), .val (.int x2), .val (.int x3), .val (.int x4), .val (.ref b1), .val (.int (0 : Int32)), .val (.int (0 : Int32)), .val (.int x0), .unset, .unset, .unset, .unset] [(.int (0 : Int32))]))
    refine own_s (fun t k => XS.ifYes X19.here hx rfl (pc0 := 75) (pc' := 86) rfl (hb hby at_75) rfl ((if0 _ _).trans (teq (by decide : (0 : Int32) = (0 : Int32))).1) (by decide) (by decide) k) ?_
    show Go p.tables e below _ (T19.setTop (mkF m 86 #[.val (.int x0), .val (.int x1), .val (.int x2), .val (.int x3), .val (.int x4), .val (.ref b1), .val (.int (0 : Int32)), .val (.int (0 : Int32)), .val (.int x0), .unset, .unset, .unset, .unset] []))
    refine own_s (fun t k => XS.iloadN X19.here hx rfl (hb hby at_86) rfl k) ?_
    show Go p.tables e below _ (T19.setTop (mkF m 87 #[.val (.int x0), .val (.int x1), .val (.int x2), .val (.int x3), .val (.int x4), .val (.ref b1), .val (.int (0 : Int32)), .val (.int (0 : Int32)), .val (.int x0), .unset, .unset, .unset, .unset] [(.int x1)]))
    refine own_s (fun t k => XS.istore X19.here hx rfl (hb hby at_87) rfl (l' := #[.val (.int x0), .val (.int x1), .val (.int x2), .val (.int x3), .val (.int x4), .val (.ref b1), .val (.int (0 : Int32)), .val (.int (0 : Int32)), .val (.int x0), .val (.int x1), .unset, .unset, .unset]) rfl k) ?_
    show Go p.tables e below _ (T19.setTop (mkF m 89 #[.val (.int x0), .val (.int x1), .val (.int x2), .val (.int x3), .val (.int x4), .val (.ref b1), .val (.int (0 : Int32)), .val (.int (0 : Int32)), .val (.int x0), .val (.int x1), .unset, .unset, .unset] []))
    refine own_s (fun t k => XS.aload X19.here hx rfl (hb hby at_89) rfl rfl k) ?_
    show Go p.tables e below _ (T19.setTop (mkF m 91 #[.val (.int x0), .val (.int x1), .val (.int x2), .val (.int x3), .val (.int x4), .val (.ref b1), .val (.int (0 : Int32)), .val (.int (0 : Int32)), .val (.int x0), .val (.int x1), .unset, .unset, .unset] [(.ref b1)]))
    refine own_s (fun t k => XS.iload X19.here hx rfl (hb hby at_91) rfl k) ?_
    show Go p.tables e below _ (T19.setTop (mkF m 93 #[.val (.int x0), .val (.int x1), .val (.int x2), .val (.int x3), .val (.int x4), .val (.ref b1), .val (.int (0 : Int32)), .val (.int (0 : Int32)), .val (.int x0), .val (.int x1), .unset, .unset, .unset] [(.int x0), (.ref b1)]))
    have Q23 : Exa Z T19.heap b1 "com/example/trivalent/trivalent/sql/QueryBinder" := (Q20.keep Kc19)
    have O24 : Old Z n0 T19.heap := (O21.keep Kc19 (allS g_b1 all0))
    obtain ⟨cq22, kq22, q22a, q22b, q22c⟩ := isOf hZ rfl Q23
    obtain ⟨_, _, ⟨T22, L22, k22, n22⟩, -, X22, ⟨Lc22, hQ22, l22, y22, z22⟩, st22⟩ := X19.virtualBack hx (y := (⟨"com/example/trivalent/trivalent/sql/QueryBinder", "endMeasure", "(I)I"⟩ : MethodName)) (z := (⟨"com/example/trivalent/trivalent/sql/QueryBinder", "endMeasure", "(I)I"⟩ : MethodName)) hown (mvT hZ (hw _ (List.mem_of_getElem? (i := 103) rfl))) (mvT hZ (hw _ (List.mem_of_getElem? (i := 104) rfl))) (notFace_of_selects (args := #[]) (mvT hZ (hw _ (List.mem_of_getElem? (i := 106) rfl)))) (mvT hZ (hw _ (List.mem_of_getElem? (i := 106) rfl))) (mvT hZ (hw _ (List.mem_of_getElem? (i := 105) rfl))) (by decide) (backOf (W := 0) (rm13 l Z a0 hw [] b1 x0 x1 T19.heap n0 O24 Q23 fc19_0 g_b1) hZ (hw _ (List.mem_of_getElem? (i := 107) rfl)) (hw _ (List.mem_of_getElem? (i := 2) rfl)) (by decide) (by decide)) q22a q22c (g := (mkF m 93 #[.val (.int x0), .val (.int x1), .val (.int x2), .val (.int x3), .val (.int x4), .val (.ref b1), .val (.int (0 : Int32)), .val (.int (0 : Int32)), .val (.int x0), .val (.int x1), .unset, .unset, .unset] [(.int x0), (.ref b1)])) rfl (by rw [hml]; rfl) (Steps.refl _) (argsL := [(.int x0)]) (rest := []) (lenOf pd__I_I rfl) rfl (by show 2 * 0 + _ ≤ _; exact Nat.le_of_eq rfl) (hb hby at_93) (fun _ _ => ⟨rfl, rfl, (by decide : 8 + 0 ≤ _), (by decide : 108 + 0 ≤ _)⟩)
    dsimp only [Pt.U, Pt.locs, Pt.cells, Pt.slots] at X22 l22 y22 z22 st22 hQ22
    subst l22 y22 z22
    obtain ⟨rfl, N22q, Kc22, fc22_0⟩ := hQ22
    have K22 : Keep h0 T22.heap [] := K19.trans Kc22 (allS (Or.inr sz_b1) all0)
    have N22 := Fr.app N19 N22q
    refine own_t st22 ?_
    show Go p.tables e below _ (T22.setTop (mkF m 96 #[.val (.int x0), .val (.int x1), .val (.int x2), .val (.int x3), .val (.int x4), .val (.ref b1), .val (.int (0 : Int32)), .val (.int (0 : Int32)), .val (.int x0), .val (.int x1), .unset, .unset, .unset] [(.int x1)]))
    refine own_s (fun t k => XS.istore X22.here hx rfl (hb hby at_96) rfl (l' := #[.val (.int x0), .val (.int x1), .val (.int x2), .val (.int x3), .val (.int x4), .val (.ref b1), .val (.int (0 : Int32)), .val (.int (0 : Int32)), .val (.int x0), .val (.int x1), .val (.int x1), .unset, .unset]) rfl k) ?_
    show Go p.tables e below _ (T22.setTop (mkF m 98 #[.val (.int x0), .val (.int x1), .val (.int x2), .val (.int x3), .val (.int x4), .val (.ref b1), .val (.int (0 : Int32)), .val (.int (0 : Int32)), .val (.int x0), .val (.int x1), .val (.int x1), .unset, .unset] []))
    refine own_s (fun t k => XS.iload X22.here hx rfl (hb hby at_98) rfl k) ?_
    show Go p.tables e below _ (T22.setTop (mkF m 100 #[.val (.int x0), .val (.int x1), .val (.int x2), .val (.int x3), .val (.int x4), .val (.ref b1), .val (.int (0 : Int32)), .val (.int (0 : Int32)), .val (.int x0), .val (.int x1), .val (.int x1), .unset, .unset] [(.int x1)]))
    refine own_s (fun t k => XS.iload X22.here hx rfl (hb hby at_100) rfl k) ?_
    show Go p.tables e below _ (T22.setTop (mkF m 102 #[.val (.int x0), .val (.int x1), .val (.int x2), .val (.int x3), .val (.int x4), .val (.ref b1), .val (.int (0 : Int32)), .val (.int (0 : Int32)), .val (.int x0), .val (.int x1), .val (.int x1), .unset, .unset] [(.int x1), (.int x1)]))
    refine own_s (fun t k => XS.icmpYes X22.here hx rfl (pc0 := 102) (pc' := 107) rfl (hb hby at_102) rfl (teq (rfl : x1 = x1)).1 (by decide) (by decide) k) ?_
    show Go p.tables e below _ (T22.setTop (mkF m 107 #[.val (.int x0), .val (.int x1), .val (.int x2), .val (.int x3), .val (.int x4), .val (.ref b1), .val (.int (0 : Int32)), .val (.int (0 : Int32)), .val (.int x0), .val (.int x1), .val (.int x1), .unset, .unset] []))
    refine own_s (fun t k => XS.aload X22.here hx rfl (hb hby at_107) rfl rfl k) ?_
    show Go p.tables e below _ (T22.setTop (mkF m 109 #[.val (.int x0), .val (.int x1), .val (.int x2), .val (.int x3), .val (.int x4), .val (.ref b1), .val (.int (0 : Int32)), .val (.int (0 : Int32)), .val (.int x0), .val (.int x1), .val (.int x1), .unset, .unset] [(.ref b1)]))
    refine own_s (fun t k => XS.iloadN X22.here hx rfl (hb hby at_109) rfl k) ?_
    show Go p.tables e below _ (T22.setTop (mkF m 110 #[.val (.int x0), .val (.int x1), .val (.int x2), .val (.int x3), .val (.int x4), .val (.ref b1), .val (.int (0 : Int32)), .val (.int (0 : Int32)), .val (.int x0), .val (.int x1), .val (.int x1), .unset, .unset] [(.int x3), (.ref b1)]))
    have Q26 : Exa Z T22.heap b1 "com/example/trivalent/trivalent/sql/QueryBinder" := (Q23.keep Kc22)
    have O27 : Old Z n0 T22.heap := (O24.keep Kc22 (allS g_b1 all0))
    obtain ⟨cq25, kq25, q25a, q25b, q25c⟩ := isOf hZ rfl Q26
    obtain ⟨_, _, ⟨T25, L25, k25, n25⟩, -, X25, ⟨Lc25, hQ25, l25, y25, z25⟩, st25⟩ := X22.virtualBack hx (y := (⟨"com/example/trivalent/trivalent/sql/QueryBinder", "startMeasure", "(I)I"⟩ : MethodName)) (z := (⟨"com/example/trivalent/trivalent/sql/QueryBinder", "startMeasure", "(I)I"⟩ : MethodName)) hown (mvT hZ (hw _ (List.mem_of_getElem? (i := 96) rfl))) (mvT hZ (hw _ (List.mem_of_getElem? (i := 97) rfl))) (notFace_of_selects (args := #[]) (mvT hZ (hw _ (List.mem_of_getElem? (i := 99) rfl)))) (mvT hZ (hw _ (List.mem_of_getElem? (i := 99) rfl))) (mvT hZ (hw _ (List.mem_of_getElem? (i := 98) rfl))) (by decide) (backOf (W := 0) (rm12 l Z a0 hw [] b1 x3 (own_max x0 x1) T22.heap n0 O27 Q26 fc22_0 g_b1) hZ (hw _ (List.mem_of_getElem? (i := 100) rfl)) (hw _ (List.mem_of_getElem? (i := 2) rfl)) (by decide) (by decide)) q25a q25c (g := (mkF m 110 #[.val (.int x0), .val (.int x1), .val (.int x2), .val (.int x3), .val (.int x4), .val (.ref b1), .val (.int (0 : Int32)), .val (.int (0 : Int32)), .val (.int x0), .val (.int x1), .val (.int x1), .unset, .unset] [(.int x3), (.ref b1)])) rfl (by rw [hml]; rfl) (Steps.refl _) (argsL := [(.int x3)]) (rest := []) (lenOf pd__I_I rfl) rfl (by show 2 * 0 + _ ≤ _; exact Nat.le_of_eq rfl) (hb hby at_110) (fun _ _ => ⟨rfl, rfl, (by decide : 8 + 0 ≤ _), (by decide : 108 + 0 ≤ _)⟩)
    dsimp only [Pt.U, Pt.locs, Pt.cells, Pt.slots] at X25 l25 y25 z25 st25 hQ25
    subst l25 y25 z25
    obtain ⟨rfl, N25q, Kc25, fc25_0⟩ := hQ25
    have K25 : Keep h0 T25.heap [] := K22.trans Kc25 (allS (Or.inr sz_b1) all0)
    have N25 := Fr.app N22 N25q
    refine own_t st25 ?_
    show Go p.tables e below _ (T25.setTop (mkF m 113 #[.val (.int x0), .val (.int x1), .val (.int x2), .val (.int x3), .val (.int x4), .val (.ref b1), .val (.int (0 : Int32)), .val (.int (0 : Int32)), .val (.int x0), .val (.int x1), .val (.int x1), .unset, .unset] [(.int (own_max x0 x1))]))
    refine own_s (fun t k => XS.istore X25.here hx rfl (hb hby at_113) rfl (l' := #[.val (.int x0), .val (.int x1), .val (.int x2), .val (.int x3), .val (.int x4), .val (.ref b1), .val (.int (0 : Int32)), .val (.int (0 : Int32)), .val (.int x0), .val (.int x1), .val (.int x1), .val (.int (own_max x0 x1)), .unset]) rfl k) ?_
    show Go p.tables e below _ (T25.setTop (mkF m 115 #[.val (.int x0), .val (.int x1), .val (.int x2), .val (.int x3), .val (.int x4), .val (.ref b1), .val (.int (0 : Int32)), .val (.int (0 : Int32)), .val (.int x0), .val (.int x1), .val (.int x1), .val (.int (own_max x0 x1)), .unset] []))
    refine own_s (fun t k => XS.iload X25.here hx rfl (hb hby at_115) rfl k) ?_
    show Go p.tables e below _ (T25.setTop (mkF m 117 #[.val (.int x0), .val (.int x1), .val (.int x2), .val (.int x3), .val (.int x4), .val (.ref b1), .val (.int (0 : Int32)), .val (.int (0 : Int32)), .val (.int x0), .val (.int x1), .val (.int x1), .val (.int (own_max x0 x1)), .unset] [(.int (own_max x0 x1))]))
    refine own_s (fun t k => XS.iloadN X25.here hx rfl (hb hby at_117) rfl k) ?_
    show Go p.tables e below _ (T25.setTop (mkF m 118 #[.val (.int x0), .val (.int x1), .val (.int x2), .val (.int x3), .val (.int x4), .val (.ref b1), .val (.int (0 : Int32)), .val (.int (0 : Int32)), .val (.int x0), .val (.int x1), .val (.int x1), .val (.int (own_max x0 x1)), .unset] [(.int x0), (.int (own_max x0 x1))]))
    refine own_s (fun t k => XS.iload X25.here hx rfl (hb hby at_118) rfl k) ?_
    show Go p.tables e below _ (T25.setTop (mkF m 120 #[.val (.int x0), .val (.int x1), .val (.int x2), .val (.int x3), .val (.int x4), .val (.ref b1), .val (.int (0 : Int32)), .val (.int (0 : Int32)), .val (.int x0), .val (.int x1), .val (.int x1), .val (.int (own_max x0 x1)), .unset] [(.int x1), (.int x0), (.int (own_max x0 x1))]))
    have O29 : Old Z n0 T25.heap := (O27.keep Kc25 (allS g_b1 all0))
    obtain ⟨_, _, ⟨T28, L28, k28, n28⟩, -, X28, ⟨Lc28, hQ28, l28, y28, z28⟩, st28⟩ := Jvm.LawKit.callS X25 hx (y := (⟨"java/lang/Math", "max", "(II)I"⟩ : MethodName)) hown (mvT hZ (hw _ (List.mem_of_getElem? (i := 112) rfl))) (mvT hZ (hw _ (List.mem_of_getElem? (i := 109) rfl))) (mvT hZ (hw _ (List.mem_of_getElem? (i := 110) rfl))) (mvT hZ (hw _ (List.mem_of_getElem? (i := 111) rfl))) (by decide) (backOf (W := 1) (rm14 l Z a0 hw [] x0 x1 T25.heap n0 O29 ) hZ (hw _ (List.mem_of_getElem? (i := 111) rfl)) (hw _ (List.mem_of_getElem? (i := 110) rfl)) (by decide) (by decide)) (g := (mkF m 120 #[.val (.int x0), .val (.int x1), .val (.int x2), .val (.int x3), .val (.int x4), .val (.ref b1), .val (.int (0 : Int32)), .val (.int (0 : Int32)), .val (.int x0), .val (.int x1), .val (.int x1), .val (.int (own_max x0 x1)), .unset] [(.int x1), (.int x0), (.int (own_max x0 x1))])) rfl (by rw [hml]; rfl) (argsL := [(.int x0), (.int x1)]) (rest := [(.int (own_max x0 x1))]) (lenOf pd__II_I rfl) rfl (by show 2 * 0 + _ ≤ _; exact Nat.le_of_eq rfl) (hb hby at_120) (fun _ _ => ⟨rfl, rfl, (by decide : 8 + 0 ≤ _), (by decide : 108 + 0 ≤ _)⟩)
    dsimp only [Pt.U, Pt.locs, Pt.cells, Pt.slots] at X28 l28 y28 z28 st28 hQ28
    subst l28 y28 z28
    obtain ⟨rfl, N28q, eq28⟩ := hQ28
    have N28 := Fr.app N25 N28q
    refine own_s st28 ?_
    show Go p.tables e below _ (T28.setTop (mkF m 123 #[.val (.int x0), .val (.int x1), .val (.int x2), .val (.int x3), .val (.int x4), .val (.ref b1), .val (.int (0 : Int32)), .val (.int (0 : Int32)), .val (.int x0), .val (.int x1), .val (.int x1), .val (.int (own_max x0 x1)), .unset] [(.int (own_max x0 x1)), (.int (own_max x0 x1))]))
    refine own_s (fun t k => XS.icmpYes X28.here hx rfl (pc0 := 123) (pc' := 128) rfl (hb hby at_123) rfl (teq (rfl : (own_max x0 x1) = (own_max x0 x1))).1 (by decide) (by decide) k) ?_
    show Go p.tables e below _ (T28.setTop (mkF m 128 #[.val (.int x0), .val (.int x1), .val (.int x2), .val (.int x3), .val (.int x4), .val (.ref b1), .val (.int (0 : Int32)), .val (.int (0 : Int32)), .val (.int x0), .val (.int x1), .val (.int x1), .val (.int (own_max x0 x1)), .unset] []))
    refine own_s (fun t k => XS.aload X28.here hx rfl (hb hby at_128) rfl rfl k) ?_
    show Go p.tables e below _ (T28.setTop (mkF m 130 #[.val (.int x0), .val (.int x1), .val (.int x2), .val (.int x3), .val (.int x4), .val (.ref b1), .val (.int (0 : Int32)), .val (.int (0 : Int32)), .val (.int x0), .val (.int x1), .val (.int x1), .val (.int (own_max x0 x1)), .unset] [(.ref b1)]))
    refine own_s (fun t k => XS.iload X28.here hx rfl (hb hby at_130) rfl k) ?_
    show Go p.tables e below _ (T28.setTop (mkF m 132 #[.val (.int x0), .val (.int x1), .val (.int x2), .val (.int x3), .val (.int x4), .val (.ref b1), .val (.int (0 : Int32)), .val (.int (0 : Int32)), .val (.int x0), .val (.int x1), .val (.int x1), .val (.int (own_max x0 x1)), .unset] [(.int (own_max x0 x1)), (.ref b1)]))
    have Q31 : Exa Z T25.heap b1 "com/example/trivalent/trivalent/sql/QueryBinder" := (Q26.keep Kc25)
    obtain ⟨cq30, kq30, q30a, q30b, q30c⟩ := isOf hZ eq28 Q31
    obtain ⟨_, _, ⟨T30, L30, k30, n30⟩, -, X30, ⟨Lc30, hQ30, l30, y30, z30⟩, st30⟩ := X28.virtualBack hx (y := (⟨"com/example/trivalent/trivalent/sql/QueryBinder", "endMeasure", "(I)I"⟩ : MethodName)) (z := (⟨"com/example/trivalent/trivalent/sql/QueryBinder", "endMeasure", "(I)I"⟩ : MethodName)) hown (mvT hZ (hw _ (List.mem_of_getElem? (i := 103) rfl))) (mvT hZ (hw _ (List.mem_of_getElem? (i := 104) rfl))) (notFace_of_selects (args := #[]) (mvT hZ (hw _ (List.mem_of_getElem? (i := 106) rfl)))) (mvT hZ (hw _ (List.mem_of_getElem? (i := 106) rfl))) (mvT hZ (hw _ (List.mem_of_getElem? (i := 105) rfl))) (by decide) (backOf (W := 0) (rm13 l Z a0 hw [] b1 (own_max x0 x1) x3 T25.heap n0 O29 Q31 fc25_0 g_b1) hZ (hw _ (List.mem_of_getElem? (i := 107) rfl)) (hw _ (List.mem_of_getElem? (i := 2) rfl)) (by decide) (by decide)) q30a q30c (g := (mkF m 132 #[.val (.int x0), .val (.int x1), .val (.int x2), .val (.int x3), .val (.int x4), .val (.ref b1), .val (.int (0 : Int32)), .val (.int (0 : Int32)), .val (.int x0), .val (.int x1), .val (.int x1), .val (.int (own_max x0 x1)), .unset] [(.int (own_max x0 x1)), (.ref b1)])) rfl (by rw [hml]; rfl) (Steps.refl _) (argsL := [(.int (own_max x0 x1))]) (rest := []) (lenOf pd__I_I rfl) rfl (by show 2 * 0 + _ ≤ _; exact Nat.le_of_eq rfl) (hb hby at_132) (fun _ _ => ⟨rfl, eq28, (by decide : 8 + 0 ≤ _), (by decide : 108 + 0 ≤ _)⟩)
    dsimp only [Pt.U, Pt.locs, Pt.cells, Pt.slots] at X30 l30 y30 z30 st30 hQ30
    subst l30 y30 z30
    obtain ⟨rfl, N30q, Kc30, fc30_0⟩ := hQ30
    have K30 : Keep h0 T30.heap [] := K25.trans Kc30 (allS (Or.inr sz_b1) all0)
    have N30 := Fr.app N28 N30q
    refine own_t st30 ?_
    show Go p.tables e below _ (T30.setTop (mkF m 135 #[.val (.int x0), .val (.int x1), .val (.int x2), .val (.int x3), .val (.int x4), .val (.ref b1), .val (.int (0 : Int32)), .val (.int (0 : Int32)), .val (.int x0), .val (.int x1), .val (.int x1), .val (.int (own_max x0 x1)), .unset] [(.int x3)]))
    refine own_s (fun t k => XS.istore X30.here hx rfl (hb hby at_135) rfl (l' := #[.val (.int x0), .val (.int x1), .val (.int x2), .val (.int x3), .val (.int x4), .val (.ref b1), .val (.int (0 : Int32)), .val (.int (0 : Int32)), .val (.int x0), .val (.int x1), .val (.int x1), .val (.int (own_max x0 x1)), .val (.int x3)]) rfl k) ?_
    show Go p.tables e below _ (T30.setTop (mkF m 137 #[.val (.int x0), .val (.int x1), .val (.int x2), .val (.int x3), .val (.int x4), .val (.ref b1), .val (.int (0 : Int32)), .val (.int (0 : Int32)), .val (.int x0), .val (.int x1), .val (.int x1), .val (.int (own_max x0 x1)), .val (.int x3)] []))
    refine own_s (fun t k => XS.iload X30.here hx rfl (hb hby at_137) rfl k) ?_
    show Go p.tables e below _ (T30.setTop (mkF m 139 #[.val (.int x0), .val (.int x1), .val (.int x2), .val (.int x3), .val (.int x4), .val (.ref b1), .val (.int (0 : Int32)), .val (.int (0 : Int32)), .val (.int x0), .val (.int x1), .val (.int x1), .val (.int (own_max x0 x1)), .val (.int x3)] [(.int x3)]))
    refine own_s (fun t k => XS.iloadN X30.here hx rfl (hb hby at_139) rfl k) ?_
    show Go p.tables e below _ (T30.setTop (mkF m 140 #[.val (.int x0), .val (.int x1), .val (.int x2), .val (.int x3), .val (.int x4), .val (.ref b1), .val (.int (0 : Int32)), .val (.int (0 : Int32)), .val (.int x0), .val (.int x1), .val (.int x1), .val (.int (own_max x0 x1)), .val (.int x3)] [(.int x3), (.int x3)]))
    refine own_s (fun t k => XS.icmpNo X30.here hx rfl (hb hby at_140) rfl (teq (rfl : x3 = x3)).2 k) ?_
    show Go p.tables e below _ (T30.setTop (mkF m 143 #[.val (.int x0), .val (.int x1), .val (.int x2), .val (.int x3), .val (.int x4), .val (.ref b1), .val (.int (0 : Int32)), .val (.int (0 : Int32)), .val (.int x0), .val (.int x1), .val (.int x1), .val (.int (own_max x0 x1)), .val (.int x3)] []))
    refine own_s (fun t k => XS.iconst X30.here hx rfl (hb hby at_143) k) ?_
    show Go p.tables e below _ (T30.setTop (mkF m 144 #[.val (.int x0), .val (.int x1), .val (.int x2), .val (.int x3), .val (.int x4), .val (.ref b1), .val (.int (0 : Int32)), .val (.int (0 : Int32)), .val (.int x0), .val (.int x1), .val (.int x1), .val (.int (own_max x0 x1)), .val (.int x3)] [(.int (1 : Int32))]))
    refine own_s (fun t k => XS.goto X30.here hx rfl (pc0 := 144) (pc' := 148) rfl (hb hby at_144) (by decide) (by decide) k) ?_
    show Go p.tables e below _ (T30.setTop (mkF m 148 #[.val (.int x0), .val (.int x1), .val (.int x2), .val (.int x3), .val (.int x4), .val (.ref b1), .val (.int (0 : Int32)), .val (.int (0 : Int32)), .val (.int x0), .val (.int x1), .val (.int x1), .val (.int (own_max x0 x1)), .val (.int x3)] [(.int (1 : Int32))]))
    obtain ⟨fs, hr, hrun, hended, hW, hsame⟩ := X30.leave (v := (some (.int (1 : Int32)))) (fun h => by first | rfl | (rw [Bd.returns] at h; cases h))
    refine own_e ?_ hrun hended ⟨_, _, rfl, ?_, ⟨_, rfl⟩, hW, hsame.mono (by decide) (by decide)⟩
    · exact retN X30 hx (t := .boolean) Bd.returns (by simp) (hb hby at_148) hr
    · show Q_rm0 Z uO x0 x1 x2 x3 x4 h0 n0 _ T30.heap _
      exact ⟨rfl, N30⟩
  ·
    refine own_s (fun t k => XS.ifNo X6.here hx rfl (hb hby at_21) rfl ((if0 _ _).trans (feq hc15).1) k) ?_
    show Go p.tables e below _ (T6.setTop (mkF m 24 #[.val (.int x0), .val (.int x1), .val (.int x2), .val (.int x3), .val (.int x4), .val (.ref b1), .unset, .unset, .unset, .unset, .unset, .unset, .unset] []))
    refine own_s (fun t k => XS.iconst X6.here hx rfl (hb hby at_24) k) ?_
    show Go p.tables e below _ (T6.setTop (mkF m 25 #[.val (.int x0), .val (.int x1), .val (.int x2), .val (.int x3), .val (.int x4), .val (.ref b1), .unset, .unset, .unset, .unset, .unset, .unset, .unset] [(.int (1 : Int32))]))
    refine own_s (fun t k => XS.goto X6.here hx rfl (pc0 := 25) (pc' := 29) rfl (hb hby at_25) (by decide) (by decide) k) ?_
    show Go p.tables e below _ (T6.setTop (mkF m 29 #[.val (.int x0), .val (.int x1), .val (.int x2), .val (.int x3), .val (.int x4), .val (.ref b1), .unset, .unset, .unset, .unset, .unset, .unset, .unset] [(.int (1 : Int32))]))
    refine own_s (fun t k => XS.istore X6.here hx rfl (hb hby at_29) rfl (l' := #[.val (.int x0), .val (.int x1), .val (.int x2), .val (.int x3), .val (.int x4), .val (.ref b1), .val (.int (1 : Int32)), .unset, .unset, .unset, .unset, .unset, .unset]) rfl k) ?_
    show Go p.tables e below _ (T6.setTop (mkF m 31 #[.val (.int x0), .val (.int x1), .val (.int x2), .val (.int x3), .val (.int x4), .val (.ref b1), .val (.int (1 : Int32)), .unset, .unset, .unset, .unset, .unset, .unset] []))
    refine own_s (fun t k => XS.aload X6.here hx rfl (hb hby at_31) rfl rfl k) ?_
    show Go p.tables e below _ (T6.setTop (mkF m 33 #[.val (.int x0), .val (.int x1), .val (.int x2), .val (.int x3), .val (.int x4), .val (.ref b1), .val (.int (1 : Int32)), .unset, .unset, .unset, .unset, .unset, .unset] [(.ref b1)]))
    refine own_s (fun t k => XS.iloadN X6.here hx rfl (hb hby at_33) rfl k) ?_
    show Go p.tables e below _ (T6.setTop (mkF m 34 #[.val (.int x0), .val (.int x1), .val (.int x2), .val (.int x3), .val (.int x4), .val (.ref b1), .val (.int (1 : Int32)), .unset, .unset, .unset, .unset, .unset, .unset] [(.int x0), (.ref b1)]))
    have Q33 : Exa Z T6.heap b1 "com/example/trivalent/trivalent/sql/QueryBinder" := (Q7.keep Kc6)
    have O34 : Old Z n0 T6.heap := (O14.keep Kc6 (allS g_b1 all0))
    obtain ⟨cq32, kq32, q32a, q32b, q32c⟩ := isOf hZ rfl Q33
    obtain ⟨_, _, ⟨T32, L32, k32, n32⟩, -, X32, ⟨Lc32, hQ32, l32, y32, z32⟩, st32⟩ := X6.virtualBack hx (y := (⟨"com/example/trivalent/trivalent/sql/QueryBinder", "startMeasure", "(I)I"⟩ : MethodName)) (z := (⟨"com/example/trivalent/trivalent/sql/QueryBinder", "startMeasure", "(I)I"⟩ : MethodName)) hown (mvT hZ (hw _ (List.mem_of_getElem? (i := 96) rfl))) (mvT hZ (hw _ (List.mem_of_getElem? (i := 97) rfl))) (notFace_of_selects (args := #[]) (mvT hZ (hw _ (List.mem_of_getElem? (i := 99) rfl)))) (mvT hZ (hw _ (List.mem_of_getElem? (i := 99) rfl))) (mvT hZ (hw _ (List.mem_of_getElem? (i := 98) rfl))) (by decide) (backOf (W := 0) (rm12 l Z a0 hw [] b1 x0 (0 : Int32) T6.heap n0 O34 Q33 fc6_0 g_b1) hZ (hw _ (List.mem_of_getElem? (i := 100) rfl)) (hw _ (List.mem_of_getElem? (i := 2) rfl)) (by decide) (by decide)) q32a q32c (g := (mkF m 34 #[.val (.int x0), .val (.int x1), .val (.int x2), .val (.int x3), .val (.int x4), .val (.ref b1), .val (.int (1 : Int32)), .unset, .unset, .unset, .unset, .unset, .unset] [(.int x0), (.ref b1)])) rfl (by rw [hml]; rfl) (Steps.refl _) (argsL := [(.int x0)]) (rest := []) (lenOf pd__I_I rfl) rfl (by show 2 * 0 + _ ≤ _; exact Nat.le_of_eq rfl) (hb hby at_34) (fun _ _ => ⟨rfl, rfl, (by decide : 8 + 0 ≤ _), (by decide : 108 + 0 ≤ _)⟩)
    dsimp only [Pt.U, Pt.locs, Pt.cells, Pt.slots] at X32 l32 y32 z32 st32 hQ32
    subst l32 y32 z32
    obtain ⟨rfl, N32q, Kc32, fc32_0⟩ := hQ32
    have K32 : Keep h0 T32.heap [] := K6.trans Kc32 (allS (Or.inr sz_b1) all0)
    have N32 := Fr.app N6 N32q
    refine own_t st32 ?_
    show Go p.tables e below _ (T32.setTop (mkF m 37 #[.val (.int x0), .val (.int x1), .val (.int x2), .val (.int x3), .val (.int x4), .val (.ref b1), .val (.int (1 : Int32)), .unset, .unset, .unset, .unset, .unset, .unset] [(.int (0 : Int32))]))
    refine own_s (fun t k => XS.istore X32.here hx rfl (hb hby at_37) rfl (l' := #[.val (.int x0), .val (.int x1), .val (.int x2), .val (.int x3), .val (.int x4), .val (.ref b1), .val (.int (1 : Int32)), .val (.int (0 : Int32)), .unset, .unset, .unset, .unset, .unset]) rfl k) ?_
    show Go p.tables e below _ (T32.setTop (mkF m 39 #[.val (.int x0), .val (.int x1), .val (.int x2), .val (.int x3), .val (.int x4), .val (.ref b1), .val (.int (1 : Int32)), .val (.int (0 : Int32)), .unset, .unset, .unset, .unset, .unset] []))
    refine own_s (fun t k => XS.iload X32.here hx rfl (hb hby at_39) rfl k) ?_
    show Go p.tables e below _ (T32.setTop (mkF m 41 #[.val (.int x0), .val (.int x1), .val (.int x2), .val (.int x3), .val (.int x4), .val (.ref b1), .val (.int (1 : Int32)), .val (.int (0 : Int32)), .unset, .unset, .unset, .unset, .unset] [(.int (0 : Int32))]))
    refine own_s (fun t k => XS.ifYes X32.here hx rfl (pc0 := 41) (pc' := 46) rfl (hb hby at_41) rfl ((if0 _ _).trans (teq (by decide : (0 : Int32) = (0 : Int32))).1) (by decide) (by decide) k) ?_
    show Go p.tables e below _ (T32.setTop (mkF m 46 #[.val (.int x0), .val (.int x1), .val (.int x2), .val (.int x3), .val (.int x4), .val (.ref b1), .val (.int (1 : Int32)), .val (.int (0 : Int32)), .unset, .unset, .unset, .unset, .unset] []))
    refine own_s (fun t k => XS.aload X32.here hx rfl (hb hby at_46) rfl rfl k) ?_
    show Go p.tables e below _ (T32.setTop (mkF m 48 #[.val (.int x0), .val (.int x1), .val (.int x2), .val (.int x3), .val (.int x4), .val (.ref b1), .val (.int (1 : Int32)), .val (.int (0 : Int32)), .unset, .unset, .unset, .unset, .unset] [(.ref b1)]))
    refine own_s (fun t k => XS.iloadN X32.here hx rfl (hb hby at_48) rfl k) ?_
    show Go p.tables e below _ (T32.setTop (mkF m 49 #[.val (.int x0), .val (.int x1), .val (.int x2), .val (.int x3), .val (.int x4), .val (.ref b1), .val (.int (1 : Int32)), .val (.int (0 : Int32)), .unset, .unset, .unset, .unset, .unset] [(.int x1), (.ref b1)]))
    have Q36 : Exa Z T32.heap b1 "com/example/trivalent/trivalent/sql/QueryBinder" := (Q33.keep Kc32)
    have O37 : Old Z n0 T32.heap := (O34.keep Kc32 (allS g_b1 all0))
    obtain ⟨cq35, kq35, q35a, q35b, q35c⟩ := isOf hZ rfl Q36
    obtain ⟨_, _, ⟨T35, L35, k35, n35⟩, -, X35, ⟨Lc35, hQ35, l35, y35, z35⟩, st35⟩ := X32.virtualBack hx (y := (⟨"com/example/trivalent/trivalent/sql/QueryBinder", "startMeasure", "(I)I"⟩ : MethodName)) (z := (⟨"com/example/trivalent/trivalent/sql/QueryBinder", "startMeasure", "(I)I"⟩ : MethodName)) hown (mvT hZ (hw _ (List.mem_of_getElem? (i := 96) rfl))) (mvT hZ (hw _ (List.mem_of_getElem? (i := 97) rfl))) (notFace_of_selects (args := #[]) (mvT hZ (hw _ (List.mem_of_getElem? (i := 99) rfl)))) (mvT hZ (hw _ (List.mem_of_getElem? (i := 99) rfl))) (mvT hZ (hw _ (List.mem_of_getElem? (i := 98) rfl))) (by decide) (backOf (W := 0) (rm12 l Z a0 hw [] b1 x1 x0 T32.heap n0 O37 Q36 fc32_0 g_b1) hZ (hw _ (List.mem_of_getElem? (i := 100) rfl)) (hw _ (List.mem_of_getElem? (i := 2) rfl)) (by decide) (by decide)) q35a q35c (g := (mkF m 49 #[.val (.int x0), .val (.int x1), .val (.int x2), .val (.int x3), .val (.int x4), .val (.ref b1), .val (.int (1 : Int32)), .val (.int (0 : Int32)), .unset, .unset, .unset, .unset, .unset] [(.int x1), (.ref b1)])) rfl (by rw [hml]; rfl) (Steps.refl _) (argsL := [(.int x1)]) (rest := []) (lenOf pd__I_I rfl) rfl (by show 2 * 0 + _ ≤ _; exact Nat.le_of_eq rfl) (hb hby at_49) (fun _ _ => ⟨rfl, rfl, (by decide : 8 + 0 ≤ _), (by decide : 108 + 0 ≤ _)⟩)
    dsimp only [Pt.U, Pt.locs, Pt.cells, Pt.slots] at X35 l35 y35 z35 st35 hQ35
    subst l35 y35 z35
    obtain ⟨rfl, N35q, Kc35, fc35_0⟩ := hQ35
    have K35 : Keep h0 T35.heap [] := K32.trans Kc35 (allS (Or.inr sz_b1) all0)
    have N35 := Fr.app N32 N35q
    refine own_t st35 ?_
    show Go p.tables e below _ (T35.setTop (mkF m 52 #[.val (.int x0), .val (.int x1), .val (.int x2), .val (.int x3), .val (.int x4), .val (.ref b1), .val (.int (1 : Int32)), .val (.int (0 : Int32)), .unset, .unset, .unset, .unset, .unset] [(.int x0)]))
    refine own_s (fun t k => XS.istore X35.here hx rfl (hb hby at_52) rfl (l' := #[.val (.int x0), .val (.int x1), .val (.int x2), .val (.int x3), .val (.int x4), .val (.ref b1), .val (.int (1 : Int32)), .val (.int (0 : Int32)), .val (.int x0), .unset, .unset, .unset, .unset]) rfl k) ?_
    show Go p.tables e below _ (T35.setTop (mkF m 54 #[.val (.int x0), .val (.int x1), .val (.int x2), .val (.int x3), .val (.int x4), .val (.ref b1), .val (.int (1 : Int32)), .val (.int (0 : Int32)), .val (.int x0), .unset, .unset, .unset, .unset] []))
    refine own_s (fun t k => XS.iload X35.here hx rfl (hb hby at_54) rfl k) ?_
    show Go p.tables e below _ (T35.setTop (mkF m 56 #[.val (.int x0), .val (.int x1), .val (.int x2), .val (.int x3), .val (.int x4), .val (.ref b1), .val (.int (1 : Int32)), .val (.int (0 : Int32)), .val (.int x0), .unset, .unset, .unset, .unset] [(.int x0)]))
    refine own_s (fun t k => XS.iloadN X35.here hx rfl (hb hby at_56) rfl k) ?_
    show Go p.tables e below _ (T35.setTop (mkF m 57 #[.val (.int x0), .val (.int x1), .val (.int x2), .val (.int x3), .val (.int x4), .val (.ref b1), .val (.int (1 : Int32)), .val (.int (0 : Int32)), .val (.int x0), .unset, .unset, .unset, .unset] [(.int x0), (.int x0)]))
    refine own_s (fun t k => XS.icmpYes X35.here hx rfl (pc0 := 57) (pc' := 62) rfl (hb hby at_57) rfl (teq (rfl : x0 = x0)).1 (by decide) (by decide) k) ?_
    show Go p.tables e below _ (T35.setTop (mkF m 62 #[.val (.int x0), .val (.int x1), .val (.int x2), .val (.int x3), .val (.int x4), .val (.ref b1), .val (.int (1 : Int32)), .val (.int (0 : Int32)), .val (.int x0), .unset, .unset, .unset, .unset] []))
    refine own_s (fun t k => XS.iload X35.here hx rfl (hb hby at_62) rfl k) ?_
    show Go p.tables e below _ (T35.setTop (mkF m 64 #[.val (.int x0), .val (.int x1), .val (.int x2), .val (.int x3), .val (.int x4), .val (.ref b1), .val (.int (1 : Int32)), .val (.int (0 : Int32)), .val (.int x0), .unset, .unset, .unset, .unset] [(.int (1 : Int32))]))
    refine own_s (fun t k => XS.ifNo X35.here hx rfl (hb hby at_64) rfl ((if0 _ _).trans (feq (by decide : ¬ ((1 : Int32) = (0 : Int32)))).1) k) ?_
    show Go p.tables e below _ (T35.setTop (mkF m 67 #[.val (.int x0), .val (.int x1), .val (.int x2), .val (.int x3), .val (.int x4), .val (.ref b1), .val (.int (1 : Int32)), .val (.int (0 : Int32)), .val (.int x0), .unset, .unset, .unset, .unset] []))
    refine own_s (fun t k => XS.aload X35.here hx rfl (hb hby at_67) rfl rfl k) ?_
    show Go p.tables e below _ (T35.setTop (mkF m 69 #[.val (.int x0), .val (.int x1), .val (.int x2), .val (.int x3), .val (.int x4), .val (.ref b1), .val (.int (1 : Int32)), .val (.int (0 : Int32)), .val (.int x0), .unset, .unset, .unset, .unset] [(.ref b1)]))
    refine own_s (fun t k => XS.iloadN X35.here hx rfl (hb hby at_69) rfl k) ?_
    show Go p.tables e below _ (T35.setTop (mkF m 70 #[.val (.int x0), .val (.int x1), .val (.int x2), .val (.int x3), .val (.int x4), .val (.ref b1), .val (.int (1 : Int32)), .val (.int (0 : Int32)), .val (.int x0), .unset, .unset, .unset, .unset] [(.int x2), (.ref b1)]))
    have Q39 : Exa Z T35.heap b1 "com/example/trivalent/trivalent/sql/QueryBinder" := (Q36.keep Kc35)
    have O40 : Old Z n0 T35.heap := (O37.keep Kc35 (allS g_b1 all0))
    obtain ⟨cq38, kq38, q38a, q38b, q38c⟩ := isOf hZ rfl Q39
    obtain ⟨_, _, ⟨T38, L38, k38, n38⟩, -, X38, ⟨Lc38, hQ38, l38, y38, z38⟩, st38⟩ := X35.virtualBack hx (y := (⟨"com/example/trivalent/trivalent/sql/QueryBinder", "reach", "(I)V"⟩ : MethodName)) (z := (⟨"com/example/trivalent/trivalent/sql/QueryBinder", "reach", "(I)V"⟩ : MethodName)) hown (mvT hZ (hw _ (List.mem_of_getElem? (i := 113) rfl))) (mvT hZ (hw _ (List.mem_of_getElem? (i := 114) rfl))) (notFace_of_selects (args := #[]) (mvT hZ (hw _ (List.mem_of_getElem? (i := 116) rfl)))) (mvT hZ (hw _ (List.mem_of_getElem? (i := 116) rfl))) (mvT hZ (hw _ (List.mem_of_getElem? (i := 115) rfl))) (by decide) (backOf (W := 0) (rm15 l Z a0 hw [] b1 x2 x1 T35.heap n0 O40 Q39 fc35_0 g_b1) hZ (hw _ (List.mem_of_getElem? (i := 117) rfl)) (hw _ (List.mem_of_getElem? (i := 2) rfl)) (by decide) (by decide)) q38a q38c (g := (mkF m 70 #[.val (.int x0), .val (.int x1), .val (.int x2), .val (.int x3), .val (.int x4), .val (.ref b1), .val (.int (1 : Int32)), .val (.int (0 : Int32)), .val (.int x0), .unset, .unset, .unset, .unset] [(.int x2), (.ref b1)])) rfl (by rw [hml]; rfl) (Steps.refl _) (argsL := [(.int x2)]) (rest := []) (lenOf pd__I_V rfl) rfl (by show 2 * 0 + _ ≤ _; exact Nat.le_of_eq rfl) (hb hby at_70) (fun _ _ => ⟨rfl, rfl, (by decide : 8 + 0 ≤ _), (by decide : 108 + 0 ≤ _)⟩)
    dsimp only [Pt.U, Pt.locs, Pt.cells, Pt.slots] at X38 l38 y38 z38 st38 hQ38
    subst l38 y38 z38
    obtain ⟨rfl, N38q, Kc38, fc38_0⟩ := hQ38
    have K38 : Keep h0 T38.heap [] := K35.trans Kc38 (allS (Or.inr sz_b1) all0)
    have N38 := Fr.app N35 N38q
    refine own_t st38 ?_
    show Go p.tables e below _ (T38.setTop (mkF m 73 #[.val (.int x0), .val (.int x1), .val (.int x2), .val (.int x3), .val (.int x4), .val (.ref b1), .val (.int (1 : Int32)), .val (.int (0 : Int32)), .val (.int x0), .unset, .unset, .unset, .unset] []))
    refine own_s (fun t k => XS.iload X38.here hx rfl (hb hby at_73) rfl k) ?_
    show Go p.tables e below _ (T38.setTop (mkF m 75 #[.val (.int x0), .val (.int x1), .val (.int x2), .val (.int x3), .val (.int x4), .val (.ref b1), .val (.int (1 : Int32)), .val (.int (0 : Int32)), .val (.int x0), .unset, .unset, .unset, .unset] [(.int (1 : Int32))]))
    refine own_s (fun t k => XS.ifNo X38.here hx rfl (hb hby at_75) rfl ((if0 _ _).trans (feq (by decide : ¬ ((1 : Int32) = (0 : Int32)))).1) k) ?_
    show Go p.tables e below _ (T38.setTop (mkF m 78 #[.val (.int x0), .val (.int x1), .val (.int x2), .val (.int x3), .val (.int x4), .val (.ref b1), .val (.int (1 : Int32)), .val (.int (0 : Int32)), .val (.int x0), .unset, .unset, .unset, .unset] []))
    refine own_s (fun t k => XS.iloadN X38.here hx rfl (hb hby at_78) rfl k) ?_
    show Go p.tables e below _ (T38.setTop (mkF m 79 #[.val (.int x0), .val (.int x1), .val (.int x2), .val (.int x3), .val (.int x4), .val (.ref b1), .val (.int (1 : Int32)), .val (.int (0 : Int32)), .val (.int x0), .unset, .unset, .unset, .unset] [(.int x1)]))
    refine own_s (fun t k => XS.iloadN X38.here hx rfl (hb hby at_79) rfl k) ?_
    show Go p.tables e below _ (T38.setTop (mkF m 80 #[.val (.int x0), .val (.int x1), .val (.int x2), .val (.int x3), .val (.int x4), .val (.ref b1), .val (.int (1 : Int32)), .val (.int (0 : Int32)), .val (.int x0), .unset, .unset, .unset, .unset] [(.int x2), (.int x1)]))
    have O42 : Old Z n0 T38.heap := (O40.keep Kc38 (allS g_b1 all0))
    obtain ⟨_, _, ⟨T41, L41, k41, n41⟩, -, X41, ⟨Lc41, hQ41, l41, y41, z41⟩, st41⟩ := Jvm.LawKit.callS X38 hx (y := (⟨"java/lang/Math", "max", "(II)I"⟩ : MethodName)) hown (mvT hZ (hw _ (List.mem_of_getElem? (i := 112) rfl))) (mvT hZ (hw _ (List.mem_of_getElem? (i := 109) rfl))) (mvT hZ (hw _ (List.mem_of_getElem? (i := 110) rfl))) (mvT hZ (hw _ (List.mem_of_getElem? (i := 111) rfl))) (by decide) (backOf (W := 0) (rm14 l Z a0 hw [] x1 x2 T38.heap n0 O42 ) hZ (hw _ (List.mem_of_getElem? (i := 111) rfl)) (hw _ (List.mem_of_getElem? (i := 110) rfl)) (by decide) (by decide)) (g := (mkF m 80 #[.val (.int x0), .val (.int x1), .val (.int x2), .val (.int x3), .val (.int x4), .val (.ref b1), .val (.int (1 : Int32)), .val (.int (0 : Int32)), .val (.int x0), .unset, .unset, .unset, .unset] [(.int x2), (.int x1)])) rfl (by rw [hml]; rfl) (argsL := [(.int x1), (.int x2)]) (rest := []) (lenOf pd__II_I rfl) rfl (by show 2 * 0 + _ ≤ _; exact Nat.le_of_eq rfl) (hb hby at_80) (fun _ _ => ⟨rfl, rfl, (by decide : 8 + 0 ≤ _), (by decide : 108 + 0 ≤ _)⟩)
    dsimp only [Pt.U, Pt.locs, Pt.cells, Pt.slots] at X41 l41 y41 z41 st41 hQ41
    subst l41 y41 z41
    obtain ⟨rfl, N41q, eq41⟩ := hQ41
    have N41 := Fr.app N38 N41q
    refine own_s st41 ?_
    show Go p.tables e below _ (T41.setTop (mkF m 83 #[.val (.int x0), .val (.int x1), .val (.int x2), .val (.int x3), .val (.int x4), .val (.ref b1), .val (.int (1 : Int32)), .val (.int (0 : Int32)), .val (.int x0), .unset, .unset, .unset, .unset] [(.int (own_max x1 x2))]))
    refine own_s (fun t k => XS.goto X41.here hx rfl (pc0 := 83) (pc' := 87) rfl (hb hby at_83) (by decide) (by decide) k) ?_
    show Go p.tables e below _ (T41.setTop (mkF m 87 #[.val (.int x0), .val (.int x1), .val (.int x2), .val (.int x3), .val (.int x4), .val (.ref b1), .val (.int (1 : Int32)), .val (.int (0 : Int32)), .val (.int x0), .unset, .unset, .unset, .unset] [(.int (own_max x1 x2))]))
    refine own_s (fun t k => XS.istore X41.here hx rfl (hb hby at_87) rfl (l' := #[.val (.int x0), .val (.int x1), .val (.int x2), .val (.int x3), .val (.int x4), .val (.ref b1), .val (.int (1 : Int32)), .val (.int (0 : Int32)), .val (.int x0), .val (.int (own_max x1 x2)), .unset, .unset, .unset]) rfl k) ?_
    show Go p.tables e below _ (T41.setTop (mkF m 89 #[.val (.int x0), .val (.int x1), .val (.int x2), .val (.int x3), .val (.int x4), .val (.ref b1), .val (.int (1 : Int32)), .val (.int (0 : Int32)), .val (.int x0), .val (.int (own_max x1 x2)), .unset, .unset, .unset] []))
    refine own_s (fun t k => XS.aload X41.here hx rfl (hb hby at_89) rfl rfl k) ?_
    show Go p.tables e below _ (T41.setTop (mkF m 91 #[.val (.int x0), .val (.int x1), .val (.int x2), .val (.int x3), .val (.int x4), .val (.ref b1), .val (.int (1 : Int32)), .val (.int (0 : Int32)), .val (.int x0), .val (.int (own_max x1 x2)), .unset, .unset, .unset] [(.ref b1)]))
    refine own_s (fun t k => XS.iload X41.here hx rfl (hb hby at_91) rfl k) ?_
    show Go p.tables e below _ (T41.setTop (mkF m 93 #[.val (.int x0), .val (.int x1), .val (.int x2), .val (.int x3), .val (.int x4), .val (.ref b1), .val (.int (1 : Int32)), .val (.int (0 : Int32)), .val (.int x0), .val (.int (own_max x1 x2)), .unset, .unset, .unset] [(.int x0), (.ref b1)]))
    have Q44 : Exa Z T38.heap b1 "com/example/trivalent/trivalent/sql/QueryBinder" := (Q39.keep Kc38)
    obtain ⟨cq43, kq43, q43a, q43b, q43c⟩ := isOf hZ eq41 Q44
    obtain ⟨_, _, ⟨T43, L43, k43, n43⟩, -, X43, ⟨Lc43, hQ43, l43, y43, z43⟩, st43⟩ := X41.virtualBack hx (y := (⟨"com/example/trivalent/trivalent/sql/QueryBinder", "endMeasure", "(I)I"⟩ : MethodName)) (z := (⟨"com/example/trivalent/trivalent/sql/QueryBinder", "endMeasure", "(I)I"⟩ : MethodName)) hown (mvT hZ (hw _ (List.mem_of_getElem? (i := 103) rfl))) (mvT hZ (hw _ (List.mem_of_getElem? (i := 104) rfl))) (notFace_of_selects (args := #[]) (mvT hZ (hw _ (List.mem_of_getElem? (i := 106) rfl)))) (mvT hZ (hw _ (List.mem_of_getElem? (i := 106) rfl))) (mvT hZ (hw _ (List.mem_of_getElem? (i := 105) rfl))) (by decide) (backOf (W := 0) (rm13 l Z a0 hw [] b1 x0 (own_max x1 x2) T38.heap n0 O42 Q44 fc38_0 g_b1) hZ (hw _ (List.mem_of_getElem? (i := 107) rfl)) (hw _ (List.mem_of_getElem? (i := 2) rfl)) (by decide) (by decide)) q43a q43c (g := (mkF m 93 #[.val (.int x0), .val (.int x1), .val (.int x2), .val (.int x3), .val (.int x4), .val (.ref b1), .val (.int (1 : Int32)), .val (.int (0 : Int32)), .val (.int x0), .val (.int (own_max x1 x2)), .unset, .unset, .unset] [(.int x0), (.ref b1)])) rfl (by rw [hml]; rfl) (Steps.refl _) (argsL := [(.int x0)]) (rest := []) (lenOf pd__I_I rfl) rfl (by show 2 * 0 + _ ≤ _; exact Nat.le_of_eq rfl) (hb hby at_93) (fun _ _ => ⟨rfl, eq41, (by decide : 8 + 0 ≤ _), (by decide : 108 + 0 ≤ _)⟩)
    dsimp only [Pt.U, Pt.locs, Pt.cells, Pt.slots] at X43 l43 y43 z43 st43 hQ43
    subst l43 y43 z43
    obtain ⟨rfl, N43q, Kc43, fc43_0⟩ := hQ43
    have K43 : Keep h0 T43.heap [] := K38.trans Kc43 (allS (Or.inr sz_b1) all0)
    have N43 := Fr.app N41 N43q
    refine own_t st43 ?_
    show Go p.tables e below _ (T43.setTop (mkF m 96 #[.val (.int x0), .val (.int x1), .val (.int x2), .val (.int x3), .val (.int x4), .val (.ref b1), .val (.int (1 : Int32)), .val (.int (0 : Int32)), .val (.int x0), .val (.int (own_max x1 x2)), .unset, .unset, .unset] [(.int (own_max x1 x2))]))
    refine own_s (fun t k => XS.istore X43.here hx rfl (hb hby at_96) rfl (l' := #[.val (.int x0), .val (.int x1), .val (.int x2), .val (.int x3), .val (.int x4), .val (.ref b1), .val (.int (1 : Int32)), .val (.int (0 : Int32)), .val (.int x0), .val (.int (own_max x1 x2)), .val (.int (own_max x1 x2)), .unset, .unset]) rfl k) ?_
    show Go p.tables e below _ (T43.setTop (mkF m 98 #[.val (.int x0), .val (.int x1), .val (.int x2), .val (.int x3), .val (.int x4), .val (.ref b1), .val (.int (1 : Int32)), .val (.int (0 : Int32)), .val (.int x0), .val (.int (own_max x1 x2)), .val (.int (own_max x1 x2)), .unset, .unset] []))
    refine own_s (fun t k => XS.iload X43.here hx rfl (hb hby at_98) rfl k) ?_
    show Go p.tables e below _ (T43.setTop (mkF m 100 #[.val (.int x0), .val (.int x1), .val (.int x2), .val (.int x3), .val (.int x4), .val (.ref b1), .val (.int (1 : Int32)), .val (.int (0 : Int32)), .val (.int x0), .val (.int (own_max x1 x2)), .val (.int (own_max x1 x2)), .unset, .unset] [(.int (own_max x1 x2))]))
    refine own_s (fun t k => XS.iload X43.here hx rfl (hb hby at_100) rfl k) ?_
    show Go p.tables e below _ (T43.setTop (mkF m 102 #[.val (.int x0), .val (.int x1), .val (.int x2), .val (.int x3), .val (.int x4), .val (.ref b1), .val (.int (1 : Int32)), .val (.int (0 : Int32)), .val (.int x0), .val (.int (own_max x1 x2)), .val (.int (own_max x1 x2)), .unset, .unset] [(.int (own_max x1 x2)), (.int (own_max x1 x2))]))
    refine own_s (fun t k => XS.icmpYes X43.here hx rfl (pc0 := 102) (pc' := 107) rfl (hb hby at_102) rfl (teq (rfl : (own_max x1 x2) = (own_max x1 x2))).1 (by decide) (by decide) k) ?_
    show Go p.tables e below _ (T43.setTop (mkF m 107 #[.val (.int x0), .val (.int x1), .val (.int x2), .val (.int x3), .val (.int x4), .val (.ref b1), .val (.int (1 : Int32)), .val (.int (0 : Int32)), .val (.int x0), .val (.int (own_max x1 x2)), .val (.int (own_max x1 x2)), .unset, .unset] []))
    refine own_s (fun t k => XS.aload X43.here hx rfl (hb hby at_107) rfl rfl k) ?_
    show Go p.tables e below _ (T43.setTop (mkF m 109 #[.val (.int x0), .val (.int x1), .val (.int x2), .val (.int x3), .val (.int x4), .val (.ref b1), .val (.int (1 : Int32)), .val (.int (0 : Int32)), .val (.int x0), .val (.int (own_max x1 x2)), .val (.int (own_max x1 x2)), .unset, .unset] [(.ref b1)]))
    refine own_s (fun t k => XS.iloadN X43.here hx rfl (hb hby at_109) rfl k) ?_
    show Go p.tables e below _ (T43.setTop (mkF m 110 #[.val (.int x0), .val (.int x1), .val (.int x2), .val (.int x3), .val (.int x4), .val (.ref b1), .val (.int (1 : Int32)), .val (.int (0 : Int32)), .val (.int x0), .val (.int (own_max x1 x2)), .val (.int (own_max x1 x2)), .unset, .unset] [(.int x3), (.ref b1)]))
    have Q46 : Exa Z T43.heap b1 "com/example/trivalent/trivalent/sql/QueryBinder" := (Q44.keep Kc43)
    have O47 : Old Z n0 T43.heap := (O42.keep Kc43 (allS g_b1 all0))
    obtain ⟨cq45, kq45, q45a, q45b, q45c⟩ := isOf hZ rfl Q46
    obtain ⟨_, _, ⟨T45, L45, k45, n45⟩, -, X45, ⟨Lc45, hQ45, l45, y45, z45⟩, st45⟩ := X43.virtualBack hx (y := (⟨"com/example/trivalent/trivalent/sql/QueryBinder", "startMeasure", "(I)I"⟩ : MethodName)) (z := (⟨"com/example/trivalent/trivalent/sql/QueryBinder", "startMeasure", "(I)I"⟩ : MethodName)) hown (mvT hZ (hw _ (List.mem_of_getElem? (i := 96) rfl))) (mvT hZ (hw _ (List.mem_of_getElem? (i := 97) rfl))) (notFace_of_selects (args := #[]) (mvT hZ (hw _ (List.mem_of_getElem? (i := 99) rfl)))) (mvT hZ (hw _ (List.mem_of_getElem? (i := 99) rfl))) (mvT hZ (hw _ (List.mem_of_getElem? (i := 98) rfl))) (by decide) (backOf (W := 0) (rm12 l Z a0 hw [] b1 x3 (own_max x0 (own_max x1 x2)) T43.heap n0 O47 Q46 fc43_0 g_b1) hZ (hw _ (List.mem_of_getElem? (i := 100) rfl)) (hw _ (List.mem_of_getElem? (i := 2) rfl)) (by decide) (by decide)) q45a q45c (g := (mkF m 110 #[.val (.int x0), .val (.int x1), .val (.int x2), .val (.int x3), .val (.int x4), .val (.ref b1), .val (.int (1 : Int32)), .val (.int (0 : Int32)), .val (.int x0), .val (.int (own_max x1 x2)), .val (.int (own_max x1 x2)), .unset, .unset] [(.int x3), (.ref b1)])) rfl (by rw [hml]; rfl) (Steps.refl _) (argsL := [(.int x3)]) (rest := []) (lenOf pd__I_I rfl) rfl (by show 2 * 0 + _ ≤ _; exact Nat.le_of_eq rfl) (hb hby at_110) (fun _ _ => ⟨rfl, rfl, (by decide : 8 + 0 ≤ _), (by decide : 108 + 0 ≤ _)⟩)
    dsimp only [Pt.U, Pt.locs, Pt.cells, Pt.slots] at X45 l45 y45 z45 st45 hQ45
    subst l45 y45 z45
    obtain ⟨rfl, N45q, Kc45, fc45_0⟩ := hQ45
    have K45 : Keep h0 T45.heap [] := K43.trans Kc45 (allS (Or.inr sz_b1) all0)
    have N45 := Fr.app N43 N45q
    refine own_t st45 ?_
    show Go p.tables e below _ (T45.setTop (mkF m 113 #[.val (.int x0), .val (.int x1), .val (.int x2), .val (.int x3), .val (.int x4), .val (.ref b1), .val (.int (1 : Int32)), .val (.int (0 : Int32)), .val (.int x0), .val (.int (own_max x1 x2)), .val (.int (own_max x1 x2)), .unset, .unset] [(.int (own_max x0 (own_max x1 x2)))]))
    refine own_s (fun t k => XS.istore X45.here hx rfl (hb hby at_113) rfl (l' := #[.val (.int x0), .val (.int x1), .val (.int x2), .val (.int x3), .val (.int x4), .val (.ref b1), .val (.int (1 : Int32)), .val (.int (0 : Int32)), .val (.int x0), .val (.int (own_max x1 x2)), .val (.int (own_max x1 x2)), .val (.int (own_max x0 (own_max x1 x2))), .unset]) rfl k) ?_
    show Go p.tables e below _ (T45.setTop (mkF m 115 #[.val (.int x0), .val (.int x1), .val (.int x2), .val (.int x3), .val (.int x4), .val (.ref b1), .val (.int (1 : Int32)), .val (.int (0 : Int32)), .val (.int x0), .val (.int (own_max x1 x2)), .val (.int (own_max x1 x2)), .val (.int (own_max x0 (own_max x1 x2))), .unset] []))
    refine own_s (fun t k => XS.iload X45.here hx rfl (hb hby at_115) rfl k) ?_
    show Go p.tables e below _ (T45.setTop (mkF m 117 #[.val (.int x0), .val (.int x1), .val (.int x2), .val (.int x3), .val (.int x4), .val (.ref b1), .val (.int (1 : Int32)), .val (.int (0 : Int32)), .val (.int x0), .val (.int (own_max x1 x2)), .val (.int (own_max x1 x2)), .val (.int (own_max x0 (own_max x1 x2))), .unset] [(.int (own_max x0 (own_max x1 x2)))]))
    refine own_s (fun t k => XS.iloadN X45.here hx rfl (hb hby at_117) rfl k) ?_
    show Go p.tables e below _ (T45.setTop (mkF m 118 #[.val (.int x0), .val (.int x1), .val (.int x2), .val (.int x3), .val (.int x4), .val (.ref b1), .val (.int (1 : Int32)), .val (.int (0 : Int32)), .val (.int x0), .val (.int (own_max x1 x2)), .val (.int (own_max x1 x2)), .val (.int (own_max x0 (own_max x1 x2))), .unset] [(.int x0), (.int (own_max x0 (own_max x1 x2)))]))
    refine own_s (fun t k => XS.iload X45.here hx rfl (hb hby at_118) rfl k) ?_
    show Go p.tables e below _ (T45.setTop (mkF m 120 #[.val (.int x0), .val (.int x1), .val (.int x2), .val (.int x3), .val (.int x4), .val (.ref b1), .val (.int (1 : Int32)), .val (.int (0 : Int32)), .val (.int x0), .val (.int (own_max x1 x2)), .val (.int (own_max x1 x2)), .val (.int (own_max x0 (own_max x1 x2))), .unset] [(.int (own_max x1 x2)), (.int x0), (.int (own_max x0 (own_max x1 x2)))]))
    have O49 : Old Z n0 T45.heap := (O47.keep Kc45 (allS g_b1 all0))
    obtain ⟨_, _, ⟨T48, L48, k48, n48⟩, -, X48, ⟨Lc48, hQ48, l48, y48, z48⟩, st48⟩ := Jvm.LawKit.callS X45 hx (y := (⟨"java/lang/Math", "max", "(II)I"⟩ : MethodName)) hown (mvT hZ (hw _ (List.mem_of_getElem? (i := 112) rfl))) (mvT hZ (hw _ (List.mem_of_getElem? (i := 109) rfl))) (mvT hZ (hw _ (List.mem_of_getElem? (i := 110) rfl))) (mvT hZ (hw _ (List.mem_of_getElem? (i := 111) rfl))) (by decide) (backOf (W := 1) (rm14 l Z a0 hw [] x0 (own_max x1 x2) T45.heap n0 O49 ) hZ (hw _ (List.mem_of_getElem? (i := 111) rfl)) (hw _ (List.mem_of_getElem? (i := 110) rfl)) (by decide) (by decide)) (g := (mkF m 120 #[.val (.int x0), .val (.int x1), .val (.int x2), .val (.int x3), .val (.int x4), .val (.ref b1), .val (.int (1 : Int32)), .val (.int (0 : Int32)), .val (.int x0), .val (.int (own_max x1 x2)), .val (.int (own_max x1 x2)), .val (.int (own_max x0 (own_max x1 x2))), .unset] [(.int (own_max x1 x2)), (.int x0), (.int (own_max x0 (own_max x1 x2)))])) rfl (by rw [hml]; rfl) (argsL := [(.int x0), (.int (own_max x1 x2))]) (rest := [(.int (own_max x0 (own_max x1 x2)))]) (lenOf pd__II_I rfl) rfl (by show 2 * 0 + _ ≤ _; exact Nat.le_of_eq rfl) (hb hby at_120) (fun _ _ => ⟨rfl, rfl, (by decide : 8 + 0 ≤ _), (by decide : 108 + 0 ≤ _)⟩)
    dsimp only [Pt.U, Pt.locs, Pt.cells, Pt.slots] at X48 l48 y48 z48 st48 hQ48
    subst l48 y48 z48
    obtain ⟨rfl, N48q, eq48⟩ := hQ48
    have N48 := Fr.app N45 N48q
    refine own_s st48 ?_
    show Go p.tables e below _ (T48.setTop (mkF m 123 #[.val (.int x0), .val (.int x1), .val (.int x2), .val (.int x3), .val (.int x4), .val (.ref b1), .val (.int (1 : Int32)), .val (.int (0 : Int32)), .val (.int x0), .val (.int (own_max x1 x2)), .val (.int (own_max x1 x2)), .val (.int (own_max x0 (own_max x1 x2))), .unset] [(.int (own_max x0 (own_max x1 x2))), (.int (own_max x0 (own_max x1 x2)))]))
    refine own_s (fun t k => XS.icmpYes X48.here hx rfl (pc0 := 123) (pc' := 128) rfl (hb hby at_123) rfl (teq (rfl : (own_max x0 (own_max x1 x2)) = (own_max x0 (own_max x1 x2)))).1 (by decide) (by decide) k) ?_
    show Go p.tables e below _ (T48.setTop (mkF m 128 #[.val (.int x0), .val (.int x1), .val (.int x2), .val (.int x3), .val (.int x4), .val (.ref b1), .val (.int (1 : Int32)), .val (.int (0 : Int32)), .val (.int x0), .val (.int (own_max x1 x2)), .val (.int (own_max x1 x2)), .val (.int (own_max x0 (own_max x1 x2))), .unset] []))
    refine own_s (fun t k => XS.aload X48.here hx rfl (hb hby at_128) rfl rfl k) ?_
    show Go p.tables e below _ (T48.setTop (mkF m 130 #[.val (.int x0), .val (.int x1), .val (.int x2), .val (.int x3), .val (.int x4), .val (.ref b1), .val (.int (1 : Int32)), .val (.int (0 : Int32)), .val (.int x0), .val (.int (own_max x1 x2)), .val (.int (own_max x1 x2)), .val (.int (own_max x0 (own_max x1 x2))), .unset] [(.ref b1)]))
    refine own_s (fun t k => XS.iload X48.here hx rfl (hb hby at_130) rfl k) ?_
    show Go p.tables e below _ (T48.setTop (mkF m 132 #[.val (.int x0), .val (.int x1), .val (.int x2), .val (.int x3), .val (.int x4), .val (.ref b1), .val (.int (1 : Int32)), .val (.int (0 : Int32)), .val (.int x0), .val (.int (own_max x1 x2)), .val (.int (own_max x1 x2)), .val (.int (own_max x0 (own_max x1 x2))), .unset] [(.int (own_max x0 (own_max x1 x2))), (.ref b1)]))
    have Q51 : Exa Z T45.heap b1 "com/example/trivalent/trivalent/sql/QueryBinder" := (Q46.keep Kc45)
    obtain ⟨cq50, kq50, q50a, q50b, q50c⟩ := isOf hZ eq48 Q51
    obtain ⟨_, _, ⟨T50, L50, k50, n50⟩, -, X50, ⟨Lc50, hQ50, l50, y50, z50⟩, st50⟩ := X48.virtualBack hx (y := (⟨"com/example/trivalent/trivalent/sql/QueryBinder", "endMeasure", "(I)I"⟩ : MethodName)) (z := (⟨"com/example/trivalent/trivalent/sql/QueryBinder", "endMeasure", "(I)I"⟩ : MethodName)) hown (mvT hZ (hw _ (List.mem_of_getElem? (i := 103) rfl))) (mvT hZ (hw _ (List.mem_of_getElem? (i := 104) rfl))) (notFace_of_selects (args := #[]) (mvT hZ (hw _ (List.mem_of_getElem? (i := 106) rfl)))) (mvT hZ (hw _ (List.mem_of_getElem? (i := 106) rfl))) (mvT hZ (hw _ (List.mem_of_getElem? (i := 105) rfl))) (by decide) (backOf (W := 0) (rm13 l Z a0 hw [] b1 (own_max x0 (own_max x1 x2)) x3 T45.heap n0 O49 Q51 fc45_0 g_b1) hZ (hw _ (List.mem_of_getElem? (i := 107) rfl)) (hw _ (List.mem_of_getElem? (i := 2) rfl)) (by decide) (by decide)) q50a q50c (g := (mkF m 132 #[.val (.int x0), .val (.int x1), .val (.int x2), .val (.int x3), .val (.int x4), .val (.ref b1), .val (.int (1 : Int32)), .val (.int (0 : Int32)), .val (.int x0), .val (.int (own_max x1 x2)), .val (.int (own_max x1 x2)), .val (.int (own_max x0 (own_max x1 x2))), .unset] [(.int (own_max x0 (own_max x1 x2))), (.ref b1)])) rfl (by rw [hml]; rfl) (Steps.refl _) (argsL := [(.int (own_max x0 (own_max x1 x2)))]) (rest := []) (lenOf pd__I_I rfl) rfl (by show 2 * 0 + _ ≤ _; exact Nat.le_of_eq rfl) (hb hby at_132) (fun _ _ => ⟨rfl, eq48, (by decide : 8 + 0 ≤ _), (by decide : 108 + 0 ≤ _)⟩)
    dsimp only [Pt.U, Pt.locs, Pt.cells, Pt.slots] at X50 l50 y50 z50 st50 hQ50
    subst l50 y50 z50
    obtain ⟨rfl, N50q, Kc50, fc50_0⟩ := hQ50
    have K50 : Keep h0 T50.heap [] := K45.trans Kc50 (allS (Or.inr sz_b1) all0)
    have N50 := Fr.app N48 N50q
    refine own_t st50 ?_
    show Go p.tables e below _ (T50.setTop (mkF m 135 #[.val (.int x0), .val (.int x1), .val (.int x2), .val (.int x3), .val (.int x4), .val (.ref b1), .val (.int (1 : Int32)), .val (.int (0 : Int32)), .val (.int x0), .val (.int (own_max x1 x2)), .val (.int (own_max x1 x2)), .val (.int (own_max x0 (own_max x1 x2))), .unset] [(.int x3)]))
    refine own_s (fun t k => XS.istore X50.here hx rfl (hb hby at_135) rfl (l' := #[.val (.int x0), .val (.int x1), .val (.int x2), .val (.int x3), .val (.int x4), .val (.ref b1), .val (.int (1 : Int32)), .val (.int (0 : Int32)), .val (.int x0), .val (.int (own_max x1 x2)), .val (.int (own_max x1 x2)), .val (.int (own_max x0 (own_max x1 x2))), .val (.int x3)]) rfl k) ?_
    show Go p.tables e below _ (T50.setTop (mkF m 137 #[.val (.int x0), .val (.int x1), .val (.int x2), .val (.int x3), .val (.int x4), .val (.ref b1), .val (.int (1 : Int32)), .val (.int (0 : Int32)), .val (.int x0), .val (.int (own_max x1 x2)), .val (.int (own_max x1 x2)), .val (.int (own_max x0 (own_max x1 x2))), .val (.int x3)] []))
    refine own_s (fun t k => XS.iload X50.here hx rfl (hb hby at_137) rfl k) ?_
    show Go p.tables e below _ (T50.setTop (mkF m 139 #[.val (.int x0), .val (.int x1), .val (.int x2), .val (.int x3), .val (.int x4), .val (.ref b1), .val (.int (1 : Int32)), .val (.int (0 : Int32)), .val (.int x0), .val (.int (own_max x1 x2)), .val (.int (own_max x1 x2)), .val (.int (own_max x0 (own_max x1 x2))), .val (.int x3)] [(.int x3)]))
    refine own_s (fun t k => XS.iloadN X50.here hx rfl (hb hby at_139) rfl k) ?_
    show Go p.tables e below _ (T50.setTop (mkF m 140 #[.val (.int x0), .val (.int x1), .val (.int x2), .val (.int x3), .val (.int x4), .val (.ref b1), .val (.int (1 : Int32)), .val (.int (0 : Int32)), .val (.int x0), .val (.int (own_max x1 x2)), .val (.int (own_max x1 x2)), .val (.int (own_max x0 (own_max x1 x2))), .val (.int x3)] [(.int x3), (.int x3)]))
    refine own_s (fun t k => XS.icmpNo X50.here hx rfl (hb hby at_140) rfl (teq (rfl : x3 = x3)).2 k) ?_
    show Go p.tables e below _ (T50.setTop (mkF m 143 #[.val (.int x0), .val (.int x1), .val (.int x2), .val (.int x3), .val (.int x4), .val (.ref b1), .val (.int (1 : Int32)), .val (.int (0 : Int32)), .val (.int x0), .val (.int (own_max x1 x2)), .val (.int (own_max x1 x2)), .val (.int (own_max x0 (own_max x1 x2))), .val (.int x3)] []))
    refine own_s (fun t k => XS.iconst X50.here hx rfl (hb hby at_143) k) ?_
    show Go p.tables e below _ (T50.setTop (mkF m 144 #[.val (.int x0), .val (.int x1), .val (.int x2), .val (.int x3), .val (.int x4), .val (.ref b1), .val (.int (1 : Int32)), .val (.int (0 : Int32)), .val (.int x0), .val (.int (own_max x1 x2)), .val (.int (own_max x1 x2)), .val (.int (own_max x0 (own_max x1 x2))), .val (.int x3)] [(.int (1 : Int32))]))
    refine own_s (fun t k => XS.goto X50.here hx rfl (pc0 := 144) (pc' := 148) rfl (hb hby at_144) (by decide) (by decide) k) ?_
    show Go p.tables e below _ (T50.setTop (mkF m 148 #[.val (.int x0), .val (.int x1), .val (.int x2), .val (.int x3), .val (.int x4), .val (.ref b1), .val (.int (1 : Int32)), .val (.int (0 : Int32)), .val (.int x0), .val (.int (own_max x1 x2)), .val (.int (own_max x1 x2)), .val (.int (own_max x0 (own_max x1 x2))), .val (.int x3)] [(.int (1 : Int32))]))
    obtain ⟨fs, hr, hrun, hended, hW, hsame⟩ := X50.leave (v := (some (.int (1 : Int32)))) (fun h => by first | rfl | (rw [Bd.returns] at h; cases h))
    refine own_e ?_ hrun hended ⟨_, _, rfl, ?_, ⟨_, rfl⟩, hW, hsame.mono (by decide) (by decide)⟩
    · exact retN X50 hx (t := .boolean) Bd.returns (by simp) (hb hby at_148) hr
    · show Q_rm0 Z uO x0 x1 x2 x3 x4 h0 n0 _ T50.heap _
      exact ⟨rfl, N50⟩
set_option maxRecDepth 65536 in
set_option maxHeartbeats 40000000 in
theorem comes_1 {Post : Tables → Env → Array Value → State → Outcome → State → Prop} (hpost : ∀ tb e args s v u, (limb_1_1.after args s (.returned v) u = true ∧ limb_1_2.after args s (.returned v) u = true ∧ True) → FrameEnd s (.returned v) u (Jvm.fieldLocs frame_1_writes args s ++ Jvm.arrayLocs frame_1_arrays args s ++ Jvm.staticLocs frame_1_statics s) 24 320 → Post tb e args s (.returned v) u) :
    ArmFor flags0 classFile x code maxLocals ret World_1 tables_1 room_1 Calls_1 rest_1 Pre_1 Post := by
  intro l hfl _ _ p e ha hc hk s m args below hf hA hF happ hP
  obtain ⟨hcalls, hrest, hpre⟩ := hP
  obtain ⟨-, -, -, hnamed, -, -, -, hat⟩ := (Spec.applies_iff hf).mp happ
  obtain ⟨hg, hn⟩ := and_e (Cond.before_iff.mp (show (Jvm.Cond.and given_1 narrow_1).before args s = true from hpre))
  obtain ⟨g5, hg⟩ := and_e hg
  obtain ⟨w0, w1, w2, w3, w4, rfl⟩ : ∃ w0 w1 w2 w3 w4 : Value, args = #[w0, w1, w2, w3, w4] := by
    have hs : args.size = 5 := by simpa [Cond.value, given_1] using g5
    obtain ⟨L⟩ := args
    match L, hs with
    | [w0, w1, w2, w3, w4], _ => exact ⟨w0, w1, w2, w3, w4, rfl⟩
  have hw := fun d (hd : d ∈ tables_1) => atoms_spec (ws := Jvm.Cond.code x code maxLocals ret :: tables_1) hat d (List.mem_cons_of_mem _ hd)
  obtain ⟨k0, hg⟩ := and_e hg
  obtain ⟨k1, hg⟩ := and_e hg
  obtain ⟨k2, hg⟩ := and_e hg
  obtain ⟨k3, k4⟩ := and_e hg
  obtain ⟨i0, ei0⟩ := is_v k0
  obtain rfl : w0 = (.int i0) := Option.some.inj ei0
  obtain ⟨i1, ei1⟩ := is_v k1
  obtain rfl : w1 = (.int i1) := Option.some.inj ei1
  obtain ⟨i2, ei2⟩ := is_v k2
  obtain rfl : w2 = (.int i2) := Option.some.inj ei2
  obtain ⟨i3, ei3⟩ := is_v k3
  obtain rfl : w3 = (.int i3) := Option.some.inj ei3
  obtain ⟨i4, ei4⟩ := is_v k4
  obtain rfl : w4 = (.int i4) := Option.some.inj ei4
  obtain ⟨uO, eO⟩ := exa_v hn
  obtain ⟨n, o, h1, h2, h3, _, L, rfl, ⟨rfl, N⟩, hq⟩ := rm0 l s _ hw tables_1 uO i0 i1 i2 i3 i4 s.heap s.heap.size (Old.start s) (Sta.start eO (Or.inr ⟨(hw _ (List.mem_of_getElem? (i := 16) rfl)), (hw _ (List.mem_of_getElem? (i := 17) rfl))⟩)) p e ha hc hk s m _ below hf ((Spec.applies_iff_loose hf).mp happ).1 ⟨rfl, State.Warmed39.refl s, rfl⟩ trivial
  refine ⟨n, _, h1, h2, h3, hpost _ _ _ _ _ _ ⟨Cond.after_iff.mpr rfl, Cond.after_iff.mpr (eq_i res_at (Term.int_eval (1)) rfl), trivial⟩ ⟨hq.1, hq.2.1, (hq.2.2.sift fun y hy => Or.inr (N y hy)).mono (by decide) (by decide)⟩⟩
theorem main_1_1 : Claimed_1_1 := comes_1 fun _ _ _ _ _ _ h hF => ⟨h.1, hF⟩
theorem main_1_2 : Claimed_1_2 := comes_1 fun _ _ _ _ _ _ h hF => ⟨h.2.1, hF⟩
end Jvm.Pilot.@@N@@
namespace Jvm.Pilot.@@N@@
open Jvm Jvm.ClassFile Sem Op Lib Jvm.Free Jvm.Stand Jvm.Pilot.@@N@@.Jvm.D
/-! MADE BY PROGRAM (witnessworld.py) out of the Statement's table words and the real class files: 32 classes; the members and pool entries that the words name. The judged class is class 1, her method 1. -/
namespace start1
open Jvm.ClassFile
def u (s : String) : CpInfo := .utf8 (stringToUtf16 s)
/-- a pool by its gaps: so many unusable entries, then the entry; so many at the end -/
def gap : Nat → List CpInfo → List CpInfo
  | 0, r => r
  | n + 1, r => .unusable :: gap n r
def poolList (es : List (Nat × CpInfo)) (last : Nat) : List CpInfo := es.foldr (fun e r => gap e.1 (e.2 :: r)) (gap last [])
def pool (es : List (Nat × CpInfo)) (last : Nat) : Array CpInfo := ⟨poolList es last⟩
def fileOf (pool : Array CpInfo) (this : Nat) (attrs : Array Attribute := #[]) (ms : Array MethodInfo := #[]) (fl : Nat := 33) (sup : Nat := 0) (ifs : Array Nat := #[]) (fds : Array FieldInfo := #[]) : ClassFile where
  minorVersion := 0
  majorVersion := 65
  constantPool := pool
  accessFlags := fl
  thisClass := this
  superClass := sup
  interfaces := ifs
  fields := fds
  methods := ms
  attributes := attrs
def plain (name : String) (sup : Option ClassId) : Class where
  name := name
  kind := .ordinary
  loader := none
  accessFlags := 33
  super := sup
  interfaces := #[]
  cf := none
  fields := #[]
  methods := #[]
  instanceTypes := #[]
  staticTypes := #[]
  resolved := #[]
  callSites := []
  init := .initialized
  statics := none
  mirror := none

def pool0 : Array CpInfo := pool [(5, u "<init>"), (0, u "()V"), (1, .class_ 10), (1, u "java/lang/Object")] 113

def k0c0 : Code := { maxStack := 0, maxLocals := 1, code := object_method_1_code, exceptionTable := #[], attributes := #[] }
def k0m0 : Method := { name := "<init>", desc := "()V", sig := { parameters := [], returnType := none }, accessFlags := 1, code := some k0c0 }
/-- java/lang/Object -/
def k0 : Class := { plain "java/lang/Object" none with
  accessFlags := 33
  interfaces := #[]
  cf := some (fileOf pool0 8 #[] #[{ accessFlags := 1, nameIndex := 5, descriptorIndex := 6, attributes := #[] }] 33 0 #[] #[])
  fields := #[]
  methods := #[k0m0]
  instanceTypes := #[]
  staticTypes := #[]
  resolved := Array.replicate 124 none
  statics := none }

def pool1 : Array CpInfo := pool [(2, .class_ 4), (0, .nameAndType 5 6), (0, u "java/lang/Object"), (0, u "<init>"), (0, u "()V"), (0, .class_ 8), (0, u "com/example/trivalent/trivalent/sql/QueryBinder"), (0, .class_ 10), (0, u "com/example/trivalent/trivalent/engine/catalog/Catalog"), (0, .methodref 9 3), (0, .methodref 7 13), (0, .nameAndType 5 14), (0, u "(Lcom/example/trivalent/trivalent/engine/catalog/Catalog;Ljava/util/List;)V"), (0, .methodref 7 16), (0, .nameAndType 17 18), (0, u "startMeasure"), (0, u "(I)I"), (0, .methodref 7 20), (0, .nameAndType 21 22), (0, u "reach"), (0, u "(I)V"), (0, .methodref 24 25), (0, .class_ 26), (0, .nameAndType 27 28), (0, u "java/lang/Math"), (0, u "max"), (0, u "(II)I"), (0, .methodref 7 30), (0, .nameAndType 31 18), (0, u "endMeasure"), (0, .class_ 33), (0, u "com/example/trivalent/trivalent/sql/QueryBinderStartMeasurePinLaw"), (2, u "law"), (0, u "(IIIII)Z")] 3

def k1m0 : Method := { name := "<init>", desc := "()V", sig := { parameters := [], returnType := none }, accessFlags := 1, code := none }
def k1c1 : Code := { maxStack := 4, maxLocals := 13, code := code, exceptionTable := #[], attributes := #[] }
def k1m1 : Method := { name := "law", desc := "(IIIII)Z", sig := { parameters := [.int, .int, .int, .int, .int], returnType := some .boolean }, accessFlags := 9, code := some k1c1 }
/-- com/example/trivalent/trivalent/sql/QueryBinderStartMeasurePinLaw -/
def k1 : Class := { plain "com/example/trivalent/trivalent/sql/QueryBinderStartMeasurePinLaw" (some 0) with
  accessFlags := 49
  interfaces := #[]
  cf := some (fileOf pool1 32 #[] #[{ accessFlags := 1, nameIndex := 5, descriptorIndex := 6, attributes := #[] }, { accessFlags := 9, nameIndex := 36, descriptorIndex := 37, attributes := #[] }] 49 2 #[] #[])
  fields := #[]
  methods := #[k1m0, k1m1]
  instanceTypes := #[]
  staticTypes := #[]
  resolved := Array.replicate 41 none
  statics := none }

def pool2 : Array CpInfo := pool [(1, .methodref 2 3), (0, .class_ 4), (0, .nameAndType 5 6), (0, u "java/lang/Object"), (0, u "<init>"), (0, u "()V"), (0, .class_ 8), (0, u "java/util/TreeSet"), (0, .fieldref 10 11), (0, .class_ 12), (0, .nameAndType 13 14), (0, u "com/example/trivalent/trivalent/engine/Identifiers"), (0, u "ORDER"), (0, u "Ljava/util/Comparator;"), (0, .methodref 7 16), (0, .nameAndType 5 17), (0, u "(Ljava/util/Comparator;)V"), (0, .fieldref 19 20), (0, .class_ 21), (0, .nameAndType 22 23), (0, u "com/example/trivalent/trivalent/sql/QueryBinder"), (0, u "dependencies"), (0, u "Ljava/util/Set;"), (0, .class_ 25), (0, u "java/util/IdentityHashMap"), (0, .methodref 24 3), (0, .fieldref 19 28), (0, .nameAndType 29 30), (0, u "aggregateOwners"), (0, u "Ljava/util/Map;"), (0, .fieldref 19 32), (0, .nameAndType 33 34), (0, u "catalog"), (0, u "Lcom/example/trivalent/trivalent/engine/catalog/Catalog;"), (0, .fieldref 19 36), (0, .nameAndType 37 38), (0, u "parameters"), (0, u "Ljava/util/List;"), (57, .class_ 98), (1, u "com/example/trivalent/trivalent/sql/QueryBinder$Selected"), (10, u "outer"), (0, u "Lcom/example/trivalent/trivalent/sql/OuterScope;"), (2, u "depth"), (0, u "I"), (56, .fieldref 19 172), (0, .nameAndType 173 114), (0, u "deepest"), (0, .methodref 175 176), (0, .class_ 177), (0, .nameAndType 178 179), (0, u "java/lang/Math"), (0, u "max"), (0, u "(II)I"), (57, .class_ 238), (0, u "com/example/trivalent/trivalent/sql/QueryBinder$Bound"), (233, u "(I)V"), (93, u "viewNesting"), (75, u "(Lcom/example/trivalent/trivalent/engine/catalog/Catalog;Ljava/util/List;)V"), (12, u "reach"), (0, u "startMeasure"), (0, u "(I)I"), (0, u "endMeasure")] 62

def k2c0 : Code := { maxStack := 4, maxLocals := 3, code := prog_198_method_1_code, exceptionTable := #[], attributes := #[] }
def k2m0 : Method := { name := "<init>", desc := "(Lcom/example/trivalent/trivalent/engine/catalog/Catalog;Ljava/util/List;)V", sig := { parameters := [(.object "com/example/trivalent/trivalent/engine/catalog/Catalog"), (.object "java/util/List")], returnType := none }, accessFlags := 0, code := some k2c0 }
def k2c1 : Code := { maxStack := 3, maxLocals := 2, code := prog_198_method_9_code, exceptionTable := #[], attributes := #[] }
def k2m1 : Method := { name := "reach", desc := "(I)V", sig := { parameters := [.int], returnType := none }, accessFlags := 0, code := some k2c1 }
def k2c2 : Code := { maxStack := 2, maxLocals := 3, code := prog_198_method_10_code, exceptionTable := #[], attributes := #[] }
def k2m2 : Method := { name := "startMeasure", desc := "(I)I", sig := { parameters := [.int], returnType := some .int }, accessFlags := 0, code := some k2c2 }
def k2c3 : Code := { maxStack := 3, maxLocals := 3, code := prog_198_method_11_code, exceptionTable := #[], attributes := #[] }
def k2m3 : Method := { name := "endMeasure", desc := "(I)I", sig := { parameters := [.int], returnType := some .int }, accessFlags := 0, code := some k2c3 }
/-- com/example/trivalent/trivalent/sql/QueryBinder -/
def k2 : Class := { plain "com/example/trivalent/trivalent/sql/QueryBinder" (some 0) with
  accessFlags := 48
  interfaces := #[]
  cf := some (fileOf pool2 19 #[.nestMembers #[237, 96]] #[{ accessFlags := 0, nameIndex := 5, descriptorIndex := 642, attributes := #[] }, { accessFlags := 0, nameIndex := 655, descriptorIndex := 472, attributes := #[] }, { accessFlags := 0, nameIndex := 656, descriptorIndex := 657, attributes := #[] }, { accessFlags := 0, nameIndex := 658, descriptorIndex := 657, attributes := #[] }] 48 2 #[] #[{ accessFlags := 18, nameIndex := 33, descriptorIndex := 34, attributes := #[] }, { accessFlags := 18, nameIndex := 37, descriptorIndex := 38, attributes := #[] }, { accessFlags := 18, nameIndex := 22, descriptorIndex := 23, attributes := #[] }, { accessFlags := 2, nameIndex := 566, descriptorIndex := 114, attributes := #[] }, { accessFlags := 2, nameIndex := 113, descriptorIndex := 114, attributes := #[] }, { accessFlags := 2, nameIndex := 109, descriptorIndex := 110, attributes := #[] }, { accessFlags := 2, nameIndex := 173, descriptorIndex := 114, attributes := #[] }, { accessFlags := 18, nameIndex := 29, descriptorIndex := 30, attributes := #[] }])
  fields := #[{ name := "catalog", type := (.object "com/example/trivalent/trivalent/engine/catalog/Catalog"), accessFlags := 18, slot := 0, constantValue := 0 }, { name := "parameters", type := (.object "java/util/List"), accessFlags := 18, slot := 1, constantValue := 0 }, { name := "dependencies", type := (.object "java/util/Set"), accessFlags := 18, slot := 2, constantValue := 0 }, { name := "viewNesting", type := .int, accessFlags := 2, slot := 3, constantValue := 0 }, { name := "depth", type := .int, accessFlags := 2, slot := 4, constantValue := 0 }, { name := "outer", type := (.object "com/example/trivalent/trivalent/sql/OuterScope"), accessFlags := 2, slot := 5, constantValue := 0 }, { name := "deepest", type := .int, accessFlags := 2, slot := 6, constantValue := 0 }, { name := "aggregateOwners", type := (.object "java/util/Map"), accessFlags := 18, slot := 7, constantValue := 0 }]
  methods := #[k2m0, k2m1, k2m2, k2m3]
  instanceTypes := #[(.object "com/example/trivalent/trivalent/engine/catalog/Catalog"), (.object "java/util/List"), (.object "java/util/Set"), .int, .int, (.object "com/example/trivalent/trivalent/sql/OuterScope"), .int, (.object "java/util/Map")]
  staticTypes := #[]
  resolved := Array.replicate 721 none
  statics := none }

def pool3 : Array CpInfo := pool [(1, .methodref 2 3), (0, .class_ 4), (0, .nameAndType 5 6), (0, u "java/lang/Object"), (0, u "<init>"), (0, u "()V"), (0, .class_ 8), (0, u "java/util/TreeMap"), (0, .fieldref 10 11), (0, .class_ 12), (0, .nameAndType 13 14), (0, u "com/example/trivalent/trivalent/engine/Identifiers"), (0, u "ORDER"), (0, u "Ljava/util/Comparator;"), (0, .methodref 7 16), (0, .nameAndType 5 17), (0, u "(Ljava/util/Comparator;)V"), (0, .fieldref 19 20), (0, .class_ 21), (0, .nameAndType 22 23), (0, u "com/example/trivalent/trivalent/engine/catalog/Catalog"), (0, u "objects"), (0, u "Ljava/util/Map;"), (0, .fieldref 19 25), (0, .nameAndType 26 23), (0, u "indexes")] 239

def k3c0 : Code := { maxStack := 4, maxLocals := 1, code := prog_33_method_1_code, exceptionTable := #[], attributes := #[] }
def k3m0 : Method := { name := "<init>", desc := "()V", sig := { parameters := [], returnType := none }, accessFlags := 1, code := some k3c0 }
/-- com/example/trivalent/trivalent/engine/catalog/Catalog -/
def k3 : Class := { plain "com/example/trivalent/trivalent/engine/catalog/Catalog" (some 0) with
  accessFlags := 49
  interfaces := #[]
  cf := some (fileOf pool3 19 #[] #[{ accessFlags := 1, nameIndex := 5, descriptorIndex := 6, attributes := #[] }] 49 2 #[] #[{ accessFlags := 18, nameIndex := 22, descriptorIndex := 23, attributes := #[] }, { accessFlags := 18, nameIndex := 26, descriptorIndex := 23, attributes := #[] }])
  fields := #[{ name := "objects", type := (.object "java/util/Map"), accessFlags := 18, slot := 0, constantValue := 0 }, { name := "indexes", type := (.object "java/util/Map"), accessFlags := 18, slot := 1, constantValue := 0 }]
  methods := #[k3m0]
  instanceTypes := #[(.object "java/util/Map"), (.object "java/util/Map")]
  staticTypes := #[]
  resolved := Array.replicate 266 none
  statics := none }

def pool4 : Array CpInfo := pool [(2, .class_ 4), (1, u "java/util/Map"), (31, .class_ 37), (0, u "java/util/Map$Entry"), (55, .class_ 94), (0, u "java/lang/Object")] 168

/-- java/util/Map -/
def k4 : Class := { plain "java/util/Map" (some 0) with
  accessFlags := 1537
  interfaces := #[]
  cf := some (fileOf pool4 2 #[.nestMembers #[36]] #[] 1537 93 #[] #[])
  fields := #[]
  methods := #[]
  instanceTypes := #[]
  staticTypes := #[]
  resolved := Array.replicate 263 none
  statics := none }

def pool5 : Array CpInfo := pool [(1, .methodref 2 3), (0, .class_ 4), (0, .nameAndType 5 6), (0, u "java/lang/Object"), (0, u "<init>"), (0, u "()V"), (1, .class_ 10), (1, u "java/util/AbstractMap"), (42, .class_ 54), (0, u "java/util/Map"), (9, u "keySet"), (0, u "Ljava/util/Set;"), (0, .class_ 67), (0, u "java/util/AbstractMap$1"), (5, u "values"), (0, u "Ljava/util/Collection;"), (0, .class_ 76), (0, u "java/util/AbstractMap$2"), (104, .class_ 182), (0, u "java/util/AbstractMap$ViewCollection"), (0, .class_ 184), (0, u "java/util/AbstractMap$SimpleImmutableEntry"), (0, .class_ 186), (0, u "java/util/AbstractMap$SimpleEntry"), (0, .class_ 188), (0, u "java/util/AbstractMap$2$1"), (0, .class_ 190), (0, u "java/util/AbstractMap$1$1")] 5

def k5c0 : Code := { maxStack := 1, maxLocals := 1, code := jdk_71_method_1_code, exceptionTable := #[], attributes := #[] }
def k5m0 : Method := { name := "<init>", desc := "()V", sig := { parameters := [], returnType := none }, accessFlags := 4, code := some k5c0 }
/-- java/util/AbstractMap -/
def k5 : Class := { plain "java/util/AbstractMap" (some 0) with
  accessFlags := 1057
  interfaces := #[4]
  cf := some (fileOf pool5 8 #[.nestMembers #[181, 183, 185, 75, 187, 66, 189]] #[{ accessFlags := 4, nameIndex := 5, descriptorIndex := 6, attributes := #[] }] 1057 2 #[53] #[{ accessFlags := 128, nameIndex := 64, descriptorIndex := 65, attributes := #[] }, { accessFlags := 128, nameIndex := 73, descriptorIndex := 74, attributes := #[] }])
  fields := #[{ name := "keySet", type := (.object "java/util/Set"), accessFlags := 128, slot := 0, constantValue := 0 }, { name := "values", type := (.object "java/util/Collection"), accessFlags := 128, slot := 1, constantValue := 0 }]
  methods := #[k5m0]
  instanceTypes := #[(.object "java/util/Set"), (.object "java/util/Collection")]
  staticTypes := #[]
  resolved := Array.replicate 196 none
  statics := none }

def pool6 : Array CpInfo := pool [(2, .class_ 4), (1, u "java/util/SequencedMap"), (38, .class_ 44), (0, u "java/util/SequencedMap$1SeqKeySet"), (3, .class_ 49), (0, u "java/util/SequencedMap$1SeqValues"), (1, .class_ 52), (0, u "java/util/SequencedMap$1SeqEntrySet"), (1, .class_ 55), (0, u "java/lang/Object"), (0, .class_ 57), (0, u "java/util/Map")] 48

/-- java/util/SequencedMap -/
def k6 : Class := { plain "java/util/SequencedMap" (some 0) with
  accessFlags := 1537
  interfaces := #[4]
  cf := some (fileOf pool6 2 #[.nestMembers #[51, 48, 43]] #[] 1537 54 #[56] #[])
  fields := #[]
  methods := #[]
  instanceTypes := #[]
  staticTypes := #[]
  resolved := Array.replicate 106 none
  statics := none }

def pool7 : Array CpInfo := pool [(14, .class_ 16), (1, u "java/util/SortedMap"), (2, .class_ 20), (0, u "java/lang/Object"), (0, .class_ 22), (0, u "java/util/SequencedMap")] 50

/-- java/util/SortedMap -/
def k7 : Class := { plain "java/util/SortedMap" (some 0) with
  accessFlags := 1537
  interfaces := #[6]
  cf := some (fileOf pool7 14 #[] #[] 1537 19 #[21] #[])
  fields := #[]
  methods := #[]
  instanceTypes := #[]
  staticTypes := #[]
  resolved := Array.replicate 73 none
  statics := none }

def pool8 : Array CpInfo := pool [(2, .class_ 4), (1, u "java/util/NavigableMap"), (5, .class_ 11), (0, u "java/lang/Object"), (0, .class_ 13), (0, u "java/util/SortedMap")] 53

/-- java/util/NavigableMap -/
def k8 : Class := { plain "java/util/NavigableMap" (some 0) with
  accessFlags := 1537
  interfaces := #[7]
  cf := some (fileOf pool8 2 #[] #[] 1537 10 #[12] #[])
  fields := #[]
  methods := #[]
  instanceTypes := #[]
  staticTypes := #[]
  resolved := Array.replicate 67 none
  statics := none }

def pool9 : Array CpInfo := pool [(1, .class_ 2), (0, u "java/lang/Cloneable"), (0, .class_ 4), (0, u "java/lang/Object")] 2

/-- java/lang/Cloneable -/
def k9 : Class := { plain "java/lang/Cloneable" (some 0) with
  accessFlags := 1537
  interfaces := #[]
  cf := some (fileOf pool9 1 #[] #[] 1537 3 #[] #[])
  fields := #[]
  methods := #[]
  instanceTypes := #[]
  staticTypes := #[]
  resolved := Array.replicate 7 none
  statics := none }

def pool10 : Array CpInfo := pool [(1, .class_ 2), (0, u "java/io/Serializable"), (0, .class_ 4), (0, u "java/lang/Object")] 2

/-- java/io/Serializable -/
def k10 : Class := { plain "java/io/Serializable" (some 0) with
  accessFlags := 1537
  interfaces := #[]
  cf := some (fileOf pool10 1 #[] #[] 1537 3 #[] #[])
  fields := #[]
  methods := #[]
  instanceTypes := #[]
  staticTypes := #[]
  resolved := Array.replicate 7 none
  statics := none }

def pool11 : Array CpInfo := pool [(1, .methodref 2 3), (0, .class_ 4), (0, .nameAndType 5 6), (0, u "java/util/AbstractMap"), (0, u "<init>"), (0, u "()V"), (0, .fieldref 8 9), (0, .class_ 10), (0, .nameAndType 11 12), (0, u "java/util/TreeMap"), (0, u "size"), (0, u "I"), (0, .fieldref 8 14), (0, .nameAndType 15 12), (0, u "modCount"), (0, .fieldref 8 17), (0, .nameAndType 18 19), (0, u "comparator"), (0, u "Ljava/util/Comparator;"), (14, u "entrySet"), (24, .class_ 61), (1, u "java/util/TreeMap$Entry"), (1, u "Ljava/lang/Object;"), (39, u "root"), (0, u "Ljava/util/TreeMap$Entry;"), (85, u "Ljava/util/TreeMap$EntrySet;"), (2, u "navigableKeySet"), (0, u "Ljava/util/TreeMap$KeySet;"), (2, u "descendingMap"), (0, u "Ljava/util/NavigableMap;"), (23, .class_ 223), (0, u "java/util/TreeMap$KeySet"), (7, .class_ 232), (0, u "java/util/NavigableMap"), (4, .class_ 238), (0, u "java/util/TreeMap$Values"), (3, .class_ 243), (0, u "java/util/TreeMap$EntrySet"), (1, .class_ 246), (0, u "java/util/TreeMap$DescendingSubMap"), (3, .class_ 251), (0, u "java/util/TreeMap$AscendingSubMap"), (17, .class_ 270), (0, u "java/util/TreeMap$KeyIterator"), (3, .class_ 275), (0, u "java/util/TreeMap$DescendingKeyIterator"), (17, u "Z"), (94, .class_ 389), (0, u "java/util/TreeMap$NavigableSubMap"), (1, .class_ 392), (0, u "java/util/TreeMap$KeySpliterator"), (3, .class_ 397), (0, u "java/util/TreeMap$DescendingKeySpliterator"), (4, u "UNBOUNDED"), (0, .class_ 404), (0, u "java/lang/Cloneable"), (0, .class_ 406), (0, u "java/io/Serializable"), (6, u "RED"), (2, u "BLACK"), (1, u "serialVersionUID"), (0, u "J"), (8, u "(Ljava/util/Comparator;)V"), (205, .class_ 635), (0, u "java/util/TreeMap$EntrySpliterator"), (0, .class_ 637), (0, u "java/util/TreeMap$ValueSpliterator"), (0, .class_ 639), (0, u "java/util/TreeMap$TreeMapSpliterator"), (0, .class_ 641), (0, u "java/util/TreeMap$SubMap"), (0, .class_ 643), (0, u "java/util/TreeMap$DescendingSubMap$DescendingEntrySetView"), (0, .class_ 645), (0, u "java/util/TreeMap$AscendingSubMap$AscendingEntrySetView"), (0, .class_ 647), (0, u "java/util/TreeMap$NavigableSubMap$DescendingSubMapKeyIterator"), (0, .class_ 649), (0, u "java/util/TreeMap$NavigableSubMap$SubMapKeyIterator"), (0, .class_ 651), (0, u "java/util/TreeMap$NavigableSubMap$DescendingSubMapEntryIterator"), (0, .class_ 653), (0, u "java/util/TreeMap$NavigableSubMap$SubMapEntryIterator"), (0, .class_ 655), (0, u "java/util/TreeMap$NavigableSubMap$SubMapIterator"), (0, .class_ 657), (0, u "java/util/TreeMap$NavigableSubMap$EntrySetView"), (0, .class_ 659), (0, u "java/util/TreeMap$ValueIterator"), (0, .class_ 661), (0, u "java/util/TreeMap$EntryIterator"), (0, .class_ 663), (0, u "java/util/TreeMap$PrivateEntryIterator")] 28

def k11m0 : Method := { name := "<init>", desc := "()V", sig := { parameters := [], returnType := none }, accessFlags := 1, code := none }
def k11c1 : Code := { maxStack := 2, maxLocals := 2, code := jdk_2729_method_2_code, exceptionTable := #[], attributes := #[] }
def k11m1 : Method := { name := "<init>", desc := "(Ljava/util/Comparator;)V", sig := { parameters := [(.object "java/util/Comparator")], returnType := none }, accessFlags := 1, code := some k11c1 }
/-- java/util/TreeMap -/
def k11 : Class := { plain "java/util/TreeMap" (some 5) with
  accessFlags := 33
  interfaces := #[8, 9, 10]
  cf := some (fileOf pool11 8 #[.nestMembers #[634, 636, 396, 391, 638, 59, 640, 245, 642, 250, 644, 388, 646, 648, 650, 652, 654, 656, 274, 269, 658, 660, 662, 222, 242, 237]] #[{ accessFlags := 1, nameIndex := 5, descriptorIndex := 6, attributes := #[] }, { accessFlags := 1, nameIndex := 5, descriptorIndex := 428, attributes := #[] }] 33 2 #[231, 403, 405] #[{ accessFlags := 18, nameIndex := 18, descriptorIndex := 19, attributes := #[] }, { accessFlags := 130, nameIndex := 103, descriptorIndex := 104, attributes := #[] }, { accessFlags := 130, nameIndex := 11, descriptorIndex := 12, attributes := #[] }, { accessFlags := 130, nameIndex := 15, descriptorIndex := 12, attributes := #[] }, { accessFlags := 130, nameIndex := 34, descriptorIndex := 190, attributes := #[] }, { accessFlags := 130, nameIndex := 193, descriptorIndex := 194, attributes := #[] }, { accessFlags := 130, nameIndex := 197, descriptorIndex := 198, attributes := #[] }, { accessFlags := 26, nameIndex := 402, descriptorIndex := 63, attributes := #[] }, { accessFlags := 26, nameIndex := 413, descriptorIndex := 293, attributes := #[] }, { accessFlags := 26, nameIndex := 416, descriptorIndex := 293, attributes := #[] }, { accessFlags := 26, nameIndex := 418, descriptorIndex := 419, attributes := #[] }])
  fields := #[{ name := "comparator", type := (.object "java/util/Comparator"), accessFlags := 18, slot := 2, constantValue := 0 }, { name := "root", type := (.object "java/util/TreeMap$Entry"), accessFlags := 130, slot := 3, constantValue := 0 }, { name := "size", type := .int, accessFlags := 130, slot := 4, constantValue := 0 }, { name := "modCount", type := .int, accessFlags := 130, slot := 5, constantValue := 0 }, { name := "entrySet", type := (.object "java/util/TreeMap$EntrySet"), accessFlags := 130, slot := 6, constantValue := 0 }, { name := "navigableKeySet", type := (.object "java/util/TreeMap$KeySet"), accessFlags := 130, slot := 7, constantValue := 0 }, { name := "descendingMap", type := (.object "java/util/NavigableMap"), accessFlags := 130, slot := 8, constantValue := 0 }, { name := "UNBOUNDED", type := (.object "java/lang/Object"), accessFlags := 26, slot := 0, constantValue := 0 }, { name := "RED", type := .boolean, accessFlags := 26, slot := 1, constantValue := 0 }, { name := "BLACK", type := .boolean, accessFlags := 26, slot := 2, constantValue := 0 }, { name := "serialVersionUID", type := .long, accessFlags := 26, slot := 3, constantValue := 0 }]
  methods := #[k11m0, k11m1]
  instanceTypes := #[(.object "java/util/Set"), (.object "java/util/Collection"), (.object "java/util/Comparator"), (.object "java/util/TreeMap$Entry"), .int, .int, (.object "java/util/TreeMap$EntrySet"), (.object "java/util/TreeMap$KeySet"), (.object "java/util/NavigableMap")]
  staticTypes := #[(.object "java/lang/Object"), .boolean, .boolean, .long]
  resolved := Array.replicate 692 none
  statics := none }

def pool12 : Array CpInfo := pool [(2, .class_ 4), (1, u "java/lang/Object"), (0, u "<init>"), (0, u "()V"), (38, .class_ 47), (1, u "com/example/trivalent/trivalent/engine/Identifiers"), (55, u "Ljava/util/Comparator;"), (2, u "ORDER")] 44

def k12m0 : Method := { name := "<init>", desc := "()V", sig := { parameters := [], returnType := none }, accessFlags := 2, code := none }
/-- com/example/trivalent/trivalent/engine/Identifiers -/
def k12 : Class := { plain "com/example/trivalent/trivalent/engine/Identifiers" (some 0) with
  accessFlags := 49
  interfaces := #[]
  cf := some (fileOf pool12 45 #[] #[{ accessFlags := 2, nameIndex := 5, descriptorIndex := 6, attributes := #[] }] 49 2 #[] #[{ accessFlags := 25, nameIndex := 106, descriptorIndex := 103, attributes := #[] }])
  fields := #[{ name := "ORDER", type := (.object "java/util/Comparator"), accessFlags := 25, slot := 0, constantValue := 0 }]
  methods := #[k12m0]
  instanceTypes := #[]
  staticTypes := #[(.object "java/util/Comparator")]
  resolved := Array.replicate 151 none
  statics := some 0 }

def pool13 : Array CpInfo := pool [(8, .class_ 10), (1, u "java/lang/Iterable"), (24, .class_ 36), (0, u "java/lang/Object")] 25

/-- java/lang/Iterable -/
def k13 : Class := { plain "java/lang/Iterable" (some 0) with
  accessFlags := 1537
  interfaces := #[]
  cf := some (fileOf pool13 8 #[] #[] 1537 35 #[] #[])
  fields := #[]
  methods := #[]
  instanceTypes := #[]
  staticTypes := #[]
  resolved := Array.replicate 62 none
  statics := none }

def pool14 : Array CpInfo := pool [(10, .class_ 12), (1, u "java/util/Collection"), (47, .class_ 61), (0, u "java/lang/Object"), (0, .class_ 63), (0, u "java/lang/Iterable")] 51

/-- java/util/Collection -/
def k14 : Class := { plain "java/util/Collection" (some 0) with
  accessFlags := 1537
  interfaces := #[13]
  cf := some (fileOf pool14 10 #[] #[] 1537 60 #[62] #[])
  fields := #[]
  methods := #[]
  instanceTypes := #[]
  staticTypes := #[]
  resolved := Array.replicate 115 none
  statics := none }

def pool15 : Array CpInfo := pool [(1, .methodref 2 3), (0, .class_ 4), (0, .nameAndType 5 6), (0, u "java/lang/Object"), (0, u "<init>"), (0, u "()V"), (1, .class_ 10), (1, u "java/util/AbstractCollection"), (66, .class_ 78), (0, u "java/util/Collection")] 81

def k15c0 : Code := { maxStack := 1, maxLocals := 1, code := jdk_22_method_1_code, exceptionTable := #[], attributes := #[] }
def k15m0 : Method := { name := "<init>", desc := "()V", sig := { parameters := [], returnType := none }, accessFlags := 4, code := some k15c0 }
/-- java/util/AbstractCollection -/
def k15 : Class := { plain "java/util/AbstractCollection" (some 0) with
  accessFlags := 1057
  interfaces := #[14]
  cf := some (fileOf pool15 8 #[] #[{ accessFlags := 4, nameIndex := 5, descriptorIndex := 6, attributes := #[] }] 1057 2 #[77] #[])
  fields := #[]
  methods := #[k15m0]
  instanceTypes := #[]
  staticTypes := #[]
  resolved := Array.replicate 160 none
  statics := none }

def pool16 : Array CpInfo := pool [(26, .class_ 27), (0, u "java/lang/Object"), (5, .class_ 34), (0, u "java/util/Set"), (1, .class_ 38), (1, u "java/util/Collection")] 105

/-- java/util/Set -/
def k16 : Class := { plain "java/util/Set" (some 0) with
  accessFlags := 1537
  interfaces := #[14]
  cf := some (fileOf pool16 33 #[] #[] 1537 26 #[36] #[])
  fields := #[]
  methods := #[]
  instanceTypes := #[]
  staticTypes := #[]
  resolved := Array.replicate 144 none
  statics := none }

def pool17 : Array CpInfo := pool [(1, .methodref 2 3), (0, .class_ 4), (0, .nameAndType 5 6), (0, u "java/util/AbstractCollection"), (0, u "<init>"), (0, u "()V"), (0, .class_ 8), (0, u "java/util/Set"), (7, .class_ 17), (0, u "java/util/AbstractSet")] 78

def k17c0 : Code := { maxStack := 1, maxLocals := 1, code := jdk_91_method_1_code, exceptionTable := #[], attributes := #[] }
def k17m0 : Method := { name := "<init>", desc := "()V", sig := { parameters := [], returnType := none }, accessFlags := 4, code := some k17c0 }
/-- java/util/AbstractSet -/
def k17 : Class := { plain "java/util/AbstractSet" (some 15) with
  accessFlags := 1057
  interfaces := #[16]
  cf := some (fileOf pool17 16 #[] #[{ accessFlags := 4, nameIndex := 5, descriptorIndex := 6, attributes := #[] }] 1057 2 #[7] #[])
  fields := #[]
  methods := #[k17m0]
  instanceTypes := #[]
  staticTypes := #[]
  resolved := Array.replicate 96 none
  statics := none }

def pool18 : Array CpInfo := pool [(8, .class_ 10), (1, u "java/util/SequencedCollection"), (15, .class_ 27), (0, u "java/lang/Object"), (0, .class_ 29), (0, u "java/util/Collection")] 27

/-- java/util/SequencedCollection -/
def k18 : Class := { plain "java/util/SequencedCollection" (some 0) with
  accessFlags := 1537
  interfaces := #[14]
  cf := some (fileOf pool18 8 #[] #[] 1537 26 #[28] #[])
  fields := #[]
  methods := #[]
  instanceTypes := #[]
  staticTypes := #[]
  resolved := Array.replicate 57 none
  statics := none }

def pool19 : Array CpInfo := pool [(2, .class_ 4), (1, u "java/util/SequencedSet"), (2, .class_ 8), (0, u "java/lang/Object"), (0, .class_ 10), (0, u "java/util/SequencedCollection"), (0, .class_ 12), (0, u "java/util/Set")] 13

/-- java/util/SequencedSet -/
def k19 : Class := { plain "java/util/SequencedSet" (some 0) with
  accessFlags := 1537
  interfaces := #[18, 16]
  cf := some (fileOf pool19 2 #[] #[] 1537 7 #[9, 11] #[])
  fields := #[]
  methods := #[]
  instanceTypes := #[]
  staticTypes := #[]
  resolved := Array.replicate 26 none
  statics := none }

def pool20 : Array CpInfo := pool [(1, .class_ 2), (0, u "java/util/SortedSet$1"), (12, .class_ 17), (1, u "java/util/SortedSet"), (19, .class_ 38), (0, u "java/lang/Object"), (0, .class_ 40), (0, u "java/util/Set"), (0, .class_ 42), (0, u "java/util/SequencedSet")] 41

/-- java/util/SortedSet -/
def k20 : Class := { plain "java/util/SortedSet" (some 0) with
  accessFlags := 1537
  interfaces := #[16, 19]
  cf := some (fileOf pool20 15 #[.nestMembers #[1]] #[] 1537 37 #[39, 41] #[])
  fields := #[]
  methods := #[]
  instanceTypes := #[]
  staticTypes := #[]
  resolved := Array.replicate 84 none
  statics := none }

def pool21 : Array CpInfo := pool [(2, .class_ 4), (1, u "java/util/NavigableSet"), (22, .class_ 28), (0, u "java/lang/Object"), (0, .class_ 30), (0, u "java/util/SortedSet")] 40

/-- java/util/NavigableSet -/
def k21 : Class := { plain "java/util/NavigableSet" (some 0) with
  accessFlags := 1537
  interfaces := #[20]
  cf := some (fileOf pool21 2 #[] #[] 1537 27 #[29] #[])
  fields := #[]
  methods := #[]
  instanceTypes := #[]
  staticTypes := #[]
  resolved := Array.replicate 71 none
  statics := none }

def pool22 : Array CpInfo := pool [(1, .methodref 2 3), (0, .class_ 4), (0, .nameAndType 5 6), (0, u "java/util/AbstractSet"), (0, u "<init>"), (0, u "()V"), (0, .fieldref 8 9), (0, .class_ 10), (0, .nameAndType 11 12), (0, u "java/util/TreeSet"), (0, u "m"), (0, u "Ljava/util/NavigableMap;"), (0, .class_ 14), (0, u "java/util/TreeMap"), (1, .methodref 8 17), (0, .nameAndType 5 18), (0, u "(Ljava/util/NavigableMap;)V"), (0, .methodref 13 20), (0, .nameAndType 5 21), (0, u "(Ljava/util/Comparator;)V"), (19, .class_ 43), (1, u "java/util/NavigableSet"), (23, u "PRESENT"), (0, u "Ljava/lang/Object;"), (148, .class_ 218), (0, u "java/lang/Cloneable"), (0, .class_ 220), (0, u "java/io/Serializable"), (2, u "serialVersionUID"), (0, u "J")] 92

def k22c0 : Code := { maxStack := 2, maxLocals := 2, code := jdk_2756_method_1_code, exceptionTable := #[], attributes := #[] }
def k22m0 : Method := { name := "<init>", desc := "(Ljava/util/NavigableMap;)V", sig := { parameters := [(.object "java/util/NavigableMap")], returnType := none }, accessFlags := 0, code := some k22c0 }
def k22m1 : Method := { name := "<init>", desc := "()V", sig := { parameters := [], returnType := none }, accessFlags := 1, code := none }
def k22c2 : Code := { maxStack := 4, maxLocals := 2, code := jdk_2756_method_3_code, exceptionTable := #[], attributes := #[] }
def k22m2 : Method := { name := "<init>", desc := "(Ljava/util/Comparator;)V", sig := { parameters := [(.object "java/util/Comparator")], returnType := none }, accessFlags := 1, code := some k22c2 }
/-- java/util/TreeSet -/
def k22 : Class := { plain "java/util/TreeSet" (some 17) with
  accessFlags := 33
  interfaces := #[21, 9, 10]
  cf := some (fileOf pool22 8 #[] #[{ accessFlags := 0, nameIndex := 5, descriptorIndex := 18, attributes := #[] }, { accessFlags := 1, nameIndex := 5, descriptorIndex := 6, attributes := #[] }, { accessFlags := 1, nameIndex := 5, descriptorIndex := 21, attributes := #[] }] 33 2 #[41, 217, 219] #[{ accessFlags := 130, nameIndex := 11, descriptorIndex := 12, attributes := #[] }, { accessFlags := 26, nameIndex := 67, descriptorIndex := 68, attributes := #[] }, { accessFlags := 26, nameIndex := 223, descriptorIndex := 224, attributes := #[] }])
  fields := #[{ name := "m", type := (.object "java/util/NavigableMap"), accessFlags := 130, slot := 0, constantValue := 0 }, { name := "PRESENT", type := (.object "java/lang/Object"), accessFlags := 26, slot := 0, constantValue := 0 }, { name := "serialVersionUID", type := .long, accessFlags := 26, slot := 1, constantValue := 0 }]
  methods := #[k22m0, k22m1, k22m2]
  instanceTypes := #[(.object "java/util/NavigableMap")]
  staticTypes := #[(.object "java/lang/Object"), .long]
  resolved := Array.replicate 317 none
  statics := none }

def pool23 : Array CpInfo := pool [(2, .class_ 4), (1, u "java/util/IdentityHashMap"), (0, u "NULL_KEY"), (0, u "Ljava/lang/Object;"), (0, .methodref 8 9), (0, .class_ 10), (0, .nameAndType 11 12), (0, u "java/util/AbstractMap"), (0, u "<init>"), (0, u "()V"), (0, .methodref 2 14), (0, .nameAndType 15 16), (0, u "init"), (0, u "(I)V"), (32, .class_ 50), (0, u "java/lang/Object"), (0, .fieldref 2 52), (0, .nameAndType 53 54), (0, u "table"), (0, u "[Ljava/lang/Object;"), (1, .class_ 58), (1, u "java/util/Map"), (0, u "size"), (11, u "I"), (24, u "modCount"), (9, u "entrySet"), (50, u "Ljava/util/Set;"), (12, .class_ 171), (0, u "java/util/IdentityHashMap$KeySet"), (7, .class_ 180), (0, u "java/util/IdentityHashMap$Values"), (1, .class_ 183), (0, u "java/util/IdentityHashMap$EntrySet"), (69, .class_ 254), (0, u "java/io/Serializable"), (0, .class_ 256), (0, u "java/lang/Cloneable"), (0, u "DEFAULT_CAPACITY"), (2, u "MINIMUM_CAPACITY"), (1, u "MAXIMUM_CAPACITY"), (2, u "serialVersionUID"), (0, u "J"), (102, .class_ 370), (0, u "java/util/IdentityHashMap$EntrySpliterator"), (0, .class_ 372), (0, u "java/util/IdentityHashMap$ValueSpliterator"), (0, .class_ 374), (0, u "java/util/IdentityHashMap$KeySpliterator"), (0, .class_ 376), (0, u "java/util/IdentityHashMap$IdentityHashMapSpliterator"), (0, .class_ 378), (0, u "java/util/IdentityHashMap$EntryIterator"), (0, .class_ 380), (0, u "java/util/IdentityHashMap$EntryIterator$Entry"), (0, .class_ 382), (0, u "java/util/IdentityHashMap$ValueIterator"), (0, .class_ 384), (0, u "java/util/IdentityHashMap$KeyIterator"), (0, .class_ 386), (0, u "java/util/IdentityHashMap$IdentityHashMapIterator")] 16

def k23c0 : Code := { maxStack := 2, maxLocals := 1, code := jdk_2581_method_3_code, exceptionTable := #[], attributes := #[] }
def k23m0 : Method := { name := "<init>", desc := "()V", sig := { parameters := [], returnType := none }, accessFlags := 1, code := some k23c0 }
def k23c1 : Code := { maxStack := 3, maxLocals := 2, code := jdk_2581_method_6_code, exceptionTable := #[], attributes := #[] }
def k23m1 : Method := { name := "init", desc := "(I)V", sig := { parameters := [.int], returnType := none }, accessFlags := 2, code := some k23c1 }
/-- java/util/IdentityHashMap -/
def k23 : Class := { plain "java/util/IdentityHashMap" (some 5) with
  accessFlags := 33
  interfaces := #[4, 10, 9]
  cf := some (fileOf pool23 2 #[.nestMembers #[369, 371, 373, 375, 182, 179, 170, 377, 379, 381, 383, 385]] #[{ accessFlags := 1, nameIndex := 11, descriptorIndex := 12, attributes := #[] }, { accessFlags := 2, nameIndex := 15, descriptorIndex := 16, attributes := #[] }] 33 8 #[56, 253, 255] #[{ accessFlags := 26, nameIndex := 257, descriptorIndex := 71, attributes := #[] }, { accessFlags := 26, nameIndex := 260, descriptorIndex := 71, attributes := #[] }, { accessFlags := 26, nameIndex := 262, descriptorIndex := 71, attributes := #[] }, { accessFlags := 128, nameIndex := 53, descriptorIndex := 54, attributes := #[] }, { accessFlags := 0, nameIndex := 59, descriptorIndex := 71, attributes := #[] }, { accessFlags := 128, nameIndex := 96, descriptorIndex := 71, attributes := #[] }, { accessFlags := 24, nameIndex := 5, descriptorIndex := 6, attributes := #[] }, { accessFlags := 130, nameIndex := 106, descriptorIndex := 157, attributes := #[] }, { accessFlags := 26, nameIndex := 265, descriptorIndex := 266, attributes := #[] }])
  fields := #[{ name := "DEFAULT_CAPACITY", type := .int, accessFlags := 26, slot := 0, constantValue := 0 }, { name := "MINIMUM_CAPACITY", type := .int, accessFlags := 26, slot := 1, constantValue := 0 }, { name := "MAXIMUM_CAPACITY", type := .int, accessFlags := 26, slot := 2, constantValue := 0 }, { name := "table", type := (.array (.object "java/lang/Object")), accessFlags := 128, slot := 2, constantValue := 0 }, { name := "size", type := .int, accessFlags := 0, slot := 3, constantValue := 0 }, { name := "modCount", type := .int, accessFlags := 128, slot := 4, constantValue := 0 }, { name := "NULL_KEY", type := (.object "java/lang/Object"), accessFlags := 24, slot := 3, constantValue := 0 }, { name := "entrySet", type := (.object "java/util/Set"), accessFlags := 130, slot := 5, constantValue := 0 }, { name := "serialVersionUID", type := .long, accessFlags := 26, slot := 4, constantValue := 0 }]
  methods := #[k23m0, k23m1]
  instanceTypes := #[(.object "java/util/Set"), (.object "java/util/Collection"), (.array (.object "java/lang/Object")), .int, .int, (.object "java/util/Set")]
  staticTypes := #[.int, .int, .int, (.object "java/lang/Object"), .long]
  resolved := Array.replicate 403 none
  statics := none }

def pool24 : Array CpInfo := pool [(1, .class_ 2), (0, u "java/lang/Math"), (1, .class_ 6), (1, u "java/lang/Object"), (0, u "<init>"), (0, u "()V"), (89, .class_ 100), (1, u "java/lang/Math$RandomNumberGeneratorHolder"), (71, u "negativeZeroFloatBits"), (0, u "J"), (2, u "negativeZeroDoubleBits"), (21, u "max"), (46, u "$assertionsDisabled"), (0, u "Z"), (88, u "(II)I"), (2, u "twoToTheDoubleScaleDown"), (0, u "D"), (4, u "twoToTheDoubleScaleUp"), (9, u "E"), (3, u "PI"), (2, u "TAU"), (2, u "DEGREES_TO_RADIANS"), (0, u "RADIANS_TO_DEGREES")] 94

def k24m0 : Method := { name := "<init>", desc := "()V", sig := { parameters := [], returnType := none }, accessFlags := 2, code := none }
def k24c1 : Code := { maxStack := 2, maxLocals := 2, code := jdk_29_method_65_code, exceptionTable := #[], attributes := #[] }
def k24m1 : Method := { name := "max", desc := "(II)I", sig := { parameters := [.int, .int], returnType := some .int }, accessFlags := 9, code := some k24c1 }
/-- java/lang/Math -/
def k24 : Class := { plain "java/lang/Math" (some 0) with
  accessFlags := 49
  interfaces := #[]
  cf := some (fileOf pool24 1 #[.nestMembers #[98]] #[{ accessFlags := 2, nameIndex := 7, descriptorIndex := 8, attributes := #[] }, { accessFlags := 9, nameIndex := 198, descriptorIndex := 335, attributes := #[] }] 49 4 #[] #[{ accessFlags := 25, nameIndex := 354, descriptorIndex := 339, attributes := #[] }, { accessFlags := 25, nameIndex := 358, descriptorIndex := 339, attributes := #[] }, { accessFlags := 25, nameIndex := 361, descriptorIndex := 339, attributes := #[] }, { accessFlags := 26, nameIndex := 364, descriptorIndex := 339, attributes := #[] }, { accessFlags := 26, nameIndex := 365, descriptorIndex := 339, attributes := #[] }, { accessFlags := 26, nameIndex := 172, descriptorIndex := 173, attributes := #[] }, { accessFlags := 26, nameIndex := 176, descriptorIndex := 173, attributes := #[] }, { accessFlags := 8, nameIndex := 344, descriptorIndex := 339, attributes := #[] }, { accessFlags := 8, nameIndex := 338, descriptorIndex := 339, attributes := #[] }, { accessFlags := 4120, nameIndex := 245, descriptorIndex := 246, attributes := #[] }])
  fields := #[{ name := "E", type := .double, accessFlags := 25, slot := 0, constantValue := 0 }, { name := "PI", type := .double, accessFlags := 25, slot := 1, constantValue := 0 }, { name := "TAU", type := .double, accessFlags := 25, slot := 2, constantValue := 0 }, { name := "DEGREES_TO_RADIANS", type := .double, accessFlags := 26, slot := 3, constantValue := 0 }, { name := "RADIANS_TO_DEGREES", type := .double, accessFlags := 26, slot := 4, constantValue := 0 }, { name := "negativeZeroFloatBits", type := .long, accessFlags := 26, slot := 5, constantValue := 0 }, { name := "negativeZeroDoubleBits", type := .long, accessFlags := 26, slot := 6, constantValue := 0 }, { name := "twoToTheDoubleScaleUp", type := .double, accessFlags := 8, slot := 7, constantValue := 0 }, { name := "twoToTheDoubleScaleDown", type := .double, accessFlags := 8, slot := 8, constantValue := 0 }, { name := "$assertionsDisabled", type := .boolean, accessFlags := 4120, slot := 9, constantValue := 0 }]
  methods := #[k24m0, k24m1]
  instanceTypes := #[]
  staticTypes := #[.double, .double, .double, .double, .double, .long, .long, .double, .double, .boolean]
  resolved := Array.replicate 460 none
  statics := none }

def pool25 : Array CpInfo := pool [(19, .class_ 20), (0, u "java/util/Comparator"), (84, .class_ 106), (0, u "java/lang/Object")] 181

/-- java/util/Comparator -/
def k25 : Class := { plain "java/util/Comparator" (some 0) with
  accessFlags := 1537
  interfaces := #[]
  cf := some (fileOf pool25 19 #[] #[] 1537 105 #[] #[])
  fields := #[]
  methods := #[]
  instanceTypes := #[]
  staticTypes := #[]
  resolved := Array.replicate 288 none
  statics := none }

def pool26 : Array CpInfo := pool [(1, .class_ 2), (0, u "java/lang/String"), (1, .class_ 6), (1, u "java/lang/Object"), (0, u "<init>"), (0, u "()V"), (28, .class_ 39), (1, u "java/lang/String$CaseInsensitiveComparator"), (2, .class_ 43), (0, u "java/util/Comparator"), (0, .class_ 45), (0, u "java/io/Serializable"), (0, u "serialVersionUID"), (0, u "J")] 27

def k26m0 : Method := { name := "<init>", desc := "()V", sig := { parameters := [], returnType := none }, accessFlags := 2, code := none }
/-- java/lang/String$CaseInsensitiveComparator -/
def k26 : Class := { plain "java/lang/String$CaseInsensitiveComparator" (some 0) with
  accessFlags := 32
  interfaces := #[25, 10]
  cf := some (fileOf pool26 37 #[.nestHost 1] #[{ accessFlags := 2, nameIndex := 7, descriptorIndex := 8, attributes := #[] }] 32 4 #[42, 44] #[{ accessFlags := 26, nameIndex := 46, descriptorIndex := 47, attributes := #[] }])
  fields := #[{ name := "serialVersionUID", type := .long, accessFlags := 26, slot := 0, constantValue := 0 }]
  methods := #[k26m0]
  instanceTypes := #[]
  staticTypes := #[.long]
  resolved := Array.replicate 75 none
  statics := none }

/-- the primitive byte -/
def k27 : Class := { plain "byte" none with kind := .primitive 'B', accessFlags := 0x411 }
/-- [B -/
def k28 : Class := { plain "[B" (some 0) with kind := .array 27 .byte, interfaces := #[9, 10], accessFlags := 1041 }

/-- the primitive int -/
def k29 : Class := { plain "int" none with kind := .primitive 'I', accessFlags := 0x411 }
/-- [I -/
def k30 : Class := { plain "[I" (some 0) with kind := .array 29 .int, interfaces := #[9, 10], accessFlags := 1041 }

/-- [Ljava/lang/Object; -/
def k31 : Class := { plain "[Ljava/lang/Object;" (some 0) with kind := .array 0 (.object "java/lang/Object"), interfaces := #[9, 10], accessFlags := 1041 }

def heap : Heap := #[{ cls := 12, slots := #[.ref 1], vm := .statics 12 },
  { cls := 26, slots := #[], vm := .none }]
def classes : Array Class := #[k0, k1, k2, k3, k4, k5, k6, k7, k8, k9, k10, k11, k12, k13, k14, k15, k16, k17, k18, k19, k20, k21, k22, k23, k24, k25, k26, k27, k28, k29, k30, k31]
def interned : List (Array UInt16 × Addr) := []
def slotsUsed : Nat := 1
def theMethod : MethodId := ⟨1, 1⟩
def args0 : Array Value := #[.int 5, .int 4, .int 3, .int 2, .int 1]
def aboutOver (below : List Frame) : State where
  vm := { classes := classes, interned := interned.toArray }
  heap := heap
  slotsUsed := slotsUsed
  threads := #[{ frames := .invoking theMethod args0 :: below }]
def below0 : List Frame := [.native { method := ⟨0, 0⟩, args := #[] }]
def about1 : State := aboutOver below0
def p0 : Program := .bare "" "" ""
def e0 : Env := launch0.env 0 0 0
theorem w_frames : about1.frames = Frame.invoking theMethod args0 :: below0 := rfl
set_option maxRecDepth 65536 in
theorem w_args : argsFit about1.vm theMethod args0 = true := by decide +kernel
set_option maxRecDepth 65536 in
theorem w_heap : heapFits about1 = true := by decide +kernel
set_option maxRecDepth 65536 in
theorem w_runnable : about1.curStatus? = some .runnable := by decide +kernel
set_option maxRecDepth 65536 in
theorem w_alone : about1.alone = true := by decide +kernel
set_option maxRecDepth 65536 in
theorem w_named : about1.methodNamed? x = some theMethod := by decide +kernel
set_option maxRecDepth 65536 in
theorem w_hears : about1.hears theMethod below0 = true := by decide +kernel
set_option maxRecDepth 65536 in
theorem w_ripe : about1.ripe theMethod args0 below0 = true := by decide +kernel
theorem w_running : about1.status = .running := rfl
set_option maxRecDepth 65536 in
theorem w_room : about1.hasRoom e0.platform room_1 = true :=
  launch0.hasRoom_least _ room_1 (by decide +kernel) (by decide +kernel) (by decide +kernel) (by decide +kernel) (by decide +kernel) (by decide +kernel)
theorem allAtoms_all (ts : List Jvm.Cond) (a : Array Jvm.Value) (st : Jvm.State) : (allAtoms ts).before a st = ts.all (fun c => c.before a st) := by
  induction ts with
  | nil => rfl
  | cons c t ih =>
    show (Jvm.Cond.and c (allAtoms t)).before a st = _
    rw [Jvm.Cond.before_and, ih, List.all_cons]
def words1 : List Jvm.Cond := Jvm.Cond.code x code maxLocals ret :: tables_1
/-- a 'code' word, met by the world's own term for the bytes: nothing is compared byte by byte -/
theorem code_word {y : MethodName} {bytes : ByteArray} {mx : Nat} {rt : Option FieldType} {a : Array Value} {s : State} {m : MethodId} {meth : Method} {c : Code} (h1 : s.methodNamed? y = some m) (h2 : s.vm.method? m = some meth) (h3 : meth.code = some c) (h4 : c.code = bytes)
    (h5 : (c.maxLocals == mx && c.exceptionTable.isEmpty && decide (c.maxStack ≤ mostOperands) && decide (meth.sig.returnType = rt) && !meth.locks && decide (parseMethodDescriptor y.desc = some meth.sig)) = true) : (Jvm.Cond.code y bytes mx rt).before a s = true := by
  simp only [Bool.and_eq_true, beq_iff_eq, Bool.not_eq_true', decide_eq_true_eq] at h5
  obtain ⟨⟨⟨⟨⟨g1, g2⟩, g3⟩, g4⟩, g5⟩, g6⟩ := h5
  simp [Cond.before, Cond.holds, Cond.value, h1, h2, h3, h4, g1, g2, g3, g4, g5, g6]
def isCode : Jvm.Cond → Bool
  | .code _ _ _ _ => true
  | _ => false
theorem all_split {L : List Jvm.Cond} {P : Jvm.Cond → Bool} (h1 : L.all (fun c => isCode c || P c) = true) (h2 : ∀ c ∈ L.filter isCode, P c = true) : L.all P = true := by
  refine List.all_eq_true.mpr fun c hc => ?_
  have h := List.all_eq_true.mp h1 c hc
  rcases Bool.eq_false_or_eq_true (isCode c) with hi | hi
  · exact h2 c (List.mem_filter.mpr ⟨hc, hi⟩)
  · simpa [hi] using h
set_option maxRecDepth 65536 in
theorem w_c0 : (Jvm.Cond.code x code maxLocals ret).before args0 about1 = true := code_word (m := ⟨1, 1⟩) (meth := k1m1) (c := k1c1) (by decide +kernel) rfl rfl rfl (by decide +kernel)
set_option maxRecDepth 65536 in
theorem w_c1 : (Jvm.Cond.code ({ cls := "com/example/trivalent/trivalent/engine/catalog/Catalog", name := "<init>", desc := "()V" } : Jvm.MethodName) prog_33_method_1_code (1 : Nat) (Option.none : Option Jvm.ClassFile.FieldType)).before args0 about1 = true := code_word (m := ⟨3, 0⟩) (meth := k3m0) (c := k3c0) (by decide +kernel) rfl rfl rfl (by decide +kernel)
set_option maxRecDepth 65536 in
theorem w_c2 : (Jvm.Cond.code ({ cls := "java/lang/Object", name := "<init>", desc := "()V" } : Jvm.MethodName) object_method_1_code (1 : Nat) (Option.none : Option Jvm.ClassFile.FieldType)).before args0 about1 = true := code_word (m := ⟨0, 0⟩) (meth := k0m0) (c := k0c0) (by decide +kernel) rfl rfl rfl (by decide +kernel)
set_option maxRecDepth 65536 in
theorem w_c3 : (Jvm.Cond.code ({ cls := "java/util/TreeMap", name := "<init>", desc := "(Ljava/util/Comparator;)V" } : Jvm.MethodName) jdk_2729_method_2_code (2 : Nat) (Option.none : Option Jvm.ClassFile.FieldType)).before args0 about1 = true := code_word (m := ⟨11, 1⟩) (meth := k11m1) (c := k11c1) (by decide +kernel) rfl rfl rfl (by decide +kernel)
set_option maxRecDepth 65536 in
theorem w_c4 : (Jvm.Cond.code ({ cls := "java/util/AbstractMap", name := "<init>", desc := "()V" } : Jvm.MethodName) jdk_71_method_1_code (1 : Nat) (Option.none : Option Jvm.ClassFile.FieldType)).before args0 about1 = true := code_word (m := ⟨5, 0⟩) (meth := k5m0) (c := k5c0) (by decide +kernel) rfl rfl rfl (by decide +kernel)
set_option maxRecDepth 65536 in
theorem w_c5 : (Jvm.Cond.code ({ cls := "com/example/trivalent/trivalent/sql/QueryBinder", name := "<init>", desc := "(Lcom/example/trivalent/trivalent/engine/catalog/Catalog;Ljava/util/List;)V" } : Jvm.MethodName) prog_198_method_1_code (3 : Nat) (Option.none : Option Jvm.ClassFile.FieldType)).before args0 about1 = true := code_word (m := ⟨2, 0⟩) (meth := k2m0) (c := k2c0) (by decide +kernel) rfl rfl rfl (by decide +kernel)
set_option maxRecDepth 65536 in
theorem w_c6 : (Jvm.Cond.code ({ cls := "java/util/TreeSet", name := "<init>", desc := "(Ljava/util/Comparator;)V" } : Jvm.MethodName) jdk_2756_method_3_code (2 : Nat) (Option.none : Option Jvm.ClassFile.FieldType)).before args0 about1 = true := code_word (m := ⟨22, 2⟩) (meth := k22m2) (c := k22c2) (by decide +kernel) rfl rfl rfl (by decide +kernel)
set_option maxRecDepth 65536 in
theorem w_c7 : (Jvm.Cond.code ({ cls := "java/util/TreeSet", name := "<init>", desc := "(Ljava/util/NavigableMap;)V" } : Jvm.MethodName) jdk_2756_method_1_code (2 : Nat) (Option.none : Option Jvm.ClassFile.FieldType)).before args0 about1 = true := code_word (m := ⟨22, 0⟩) (meth := k22m0) (c := k22c0) (by decide +kernel) rfl rfl rfl (by decide +kernel)
set_option maxRecDepth 65536 in
theorem w_c8 : (Jvm.Cond.code ({ cls := "java/util/AbstractSet", name := "<init>", desc := "()V" } : Jvm.MethodName) jdk_91_method_1_code (1 : Nat) (Option.none : Option Jvm.ClassFile.FieldType)).before args0 about1 = true := code_word (m := ⟨17, 0⟩) (meth := k17m0) (c := k17c0) (by decide +kernel) rfl rfl rfl (by decide +kernel)
set_option maxRecDepth 65536 in
theorem w_c9 : (Jvm.Cond.code ({ cls := "java/util/AbstractCollection", name := "<init>", desc := "()V" } : Jvm.MethodName) jdk_22_method_1_code (1 : Nat) (Option.none : Option Jvm.ClassFile.FieldType)).before args0 about1 = true := code_word (m := ⟨15, 0⟩) (meth := k15m0) (c := k15c0) (by decide +kernel) rfl rfl rfl (by decide +kernel)
set_option maxRecDepth 65536 in
theorem w_c10 : (Jvm.Cond.code ({ cls := "java/util/IdentityHashMap", name := "<init>", desc := "()V" } : Jvm.MethodName) jdk_2581_method_3_code (1 : Nat) (Option.none : Option Jvm.ClassFile.FieldType)).before args0 about1 = true := code_word (m := ⟨23, 0⟩) (meth := k23m0) (c := k23c0) (by decide +kernel) rfl rfl rfl (by decide +kernel)
set_option maxRecDepth 65536 in
theorem w_c11 : (Jvm.Cond.code ({ cls := "java/util/IdentityHashMap", name := "init", desc := "(I)V" } : Jvm.MethodName) jdk_2581_method_6_code (2 : Nat) (Option.none : Option Jvm.ClassFile.FieldType)).before args0 about1 = true := code_word (m := ⟨23, 1⟩) (meth := k23m1) (c := k23c1) (by decide +kernel) rfl rfl rfl (by decide +kernel)
set_option maxRecDepth 65536 in
theorem w_c12 : (Jvm.Cond.code ({ cls := "com/example/trivalent/trivalent/sql/QueryBinder", name := "startMeasure", desc := "(I)I" } : Jvm.MethodName) prog_198_method_10_code (3 : Nat) (Option.some Jvm.ClassFile.FieldType.int)).before args0 about1 = true := code_word (m := ⟨2, 2⟩) (meth := k2m2) (c := k2c2) (by decide +kernel) rfl rfl rfl (by decide +kernel)
set_option maxRecDepth 65536 in
theorem w_c13 : (Jvm.Cond.code ({ cls := "com/example/trivalent/trivalent/sql/QueryBinder", name := "endMeasure", desc := "(I)I" } : Jvm.MethodName) prog_198_method_11_code (3 : Nat) (Option.some Jvm.ClassFile.FieldType.int)).before args0 about1 = true := code_word (m := ⟨2, 3⟩) (meth := k2m3) (c := k2c3) (by decide +kernel) rfl rfl rfl (by decide +kernel)
set_option maxRecDepth 65536 in
theorem w_c14 : (Jvm.Cond.code ({ cls := "java/lang/Math", name := "max", desc := "(II)I" } : Jvm.MethodName) jdk_29_method_65_code (2 : Nat) (Option.some Jvm.ClassFile.FieldType.int)).before args0 about1 = true := code_word (m := ⟨24, 1⟩) (meth := k24m1) (c := k24c1) (by decide +kernel) rfl rfl rfl (by decide +kernel)
set_option maxRecDepth 65536 in
theorem w_c15 : (Jvm.Cond.code ({ cls := "com/example/trivalent/trivalent/sql/QueryBinder", name := "reach", desc := "(I)V" } : Jvm.MethodName) prog_198_method_9_code (2 : Nat) (Option.none : Option Jvm.ClassFile.FieldType)).before args0 about1 = true := code_word (m := ⟨2, 1⟩) (meth := k2m1) (c := k2c1) (by decide +kernel) rfl rfl rfl (by decide +kernel)
def codes1 : List Jvm.Cond := [Jvm.Cond.code x code maxLocals ret, Jvm.Cond.code ({ cls := "com/example/trivalent/trivalent/engine/catalog/Catalog", name := "<init>", desc := "()V" } : Jvm.MethodName) prog_33_method_1_code (1 : Nat) (Option.none : Option Jvm.ClassFile.FieldType), Jvm.Cond.code ({ cls := "java/lang/Object", name := "<init>", desc := "()V" } : Jvm.MethodName) object_method_1_code (1 : Nat) (Option.none : Option Jvm.ClassFile.FieldType), Jvm.Cond.code ({ cls := "java/util/TreeMap", name := "<init>", desc := "(Ljava/util/Comparator;)V" } : Jvm.MethodName) jdk_2729_method_2_code (2 : Nat) (Option.none : Option Jvm.ClassFile.FieldType), Jvm.Cond.code ({ cls := "java/util/AbstractMap", name := "<init>", desc := "()V" } : Jvm.MethodName) jdk_71_method_1_code (1 : Nat) (Option.none : Option Jvm.ClassFile.FieldType), Jvm.Cond.code ({ cls := "com/example/trivalent/trivalent/sql/QueryBinder", name := "<init>", desc := "(Lcom/example/trivalent/trivalent/engine/catalog/Catalog;Ljava/util/List;)V" } : Jvm.MethodName) prog_198_method_1_code (3 : Nat) (Option.none : Option Jvm.ClassFile.FieldType), Jvm.Cond.code ({ cls := "java/util/TreeSet", name := "<init>", desc := "(Ljava/util/Comparator;)V" } : Jvm.MethodName) jdk_2756_method_3_code (2 : Nat) (Option.none : Option Jvm.ClassFile.FieldType), Jvm.Cond.code ({ cls := "java/util/TreeSet", name := "<init>", desc := "(Ljava/util/NavigableMap;)V" } : Jvm.MethodName) jdk_2756_method_1_code (2 : Nat) (Option.none : Option Jvm.ClassFile.FieldType), Jvm.Cond.code ({ cls := "java/util/AbstractSet", name := "<init>", desc := "()V" } : Jvm.MethodName) jdk_91_method_1_code (1 : Nat) (Option.none : Option Jvm.ClassFile.FieldType), Jvm.Cond.code ({ cls := "java/util/AbstractCollection", name := "<init>", desc := "()V" } : Jvm.MethodName) jdk_22_method_1_code (1 : Nat) (Option.none : Option Jvm.ClassFile.FieldType), Jvm.Cond.code ({ cls := "java/util/IdentityHashMap", name := "<init>", desc := "()V" } : Jvm.MethodName) jdk_2581_method_3_code (1 : Nat) (Option.none : Option Jvm.ClassFile.FieldType), Jvm.Cond.code ({ cls := "java/util/IdentityHashMap", name := "init", desc := "(I)V" } : Jvm.MethodName) jdk_2581_method_6_code (2 : Nat) (Option.none : Option Jvm.ClassFile.FieldType), Jvm.Cond.code ({ cls := "com/example/trivalent/trivalent/sql/QueryBinder", name := "startMeasure", desc := "(I)I" } : Jvm.MethodName) prog_198_method_10_code (3 : Nat) (Option.some Jvm.ClassFile.FieldType.int), Jvm.Cond.code ({ cls := "com/example/trivalent/trivalent/sql/QueryBinder", name := "endMeasure", desc := "(I)I" } : Jvm.MethodName) prog_198_method_11_code (3 : Nat) (Option.some Jvm.ClassFile.FieldType.int), Jvm.Cond.code ({ cls := "java/lang/Math", name := "max", desc := "(II)I" } : Jvm.MethodName) jdk_29_method_65_code (2 : Nat) (Option.some Jvm.ClassFile.FieldType.int), Jvm.Cond.code ({ cls := "com/example/trivalent/trivalent/sql/QueryBinder", name := "reach", desc := "(I)V" } : Jvm.MethodName) prog_198_method_9_code (2 : Nat) (Option.none : Option Jvm.ClassFile.FieldType)]
set_option maxRecDepth 65536 in
theorem codes_eq : words1.filter isCode = codes1 := rfl
theorem w_codes : ∀ c ∈ words1.filter isCode, c.before args0 about1 = true := by
  rw [codes_eq]
  intro c hc
  simp only [codes1, List.mem_cons, List.not_mem_nil, or_false] at hc
  rcases hc with rfl | rfl | rfl | rfl | rfl | rfl | rfl | rfl | rfl | rfl | rfl | rfl | rfl | rfl | rfl | rfl
  · exact w_c0
  · exact w_c1
  · exact w_c2
  · exact w_c3
  · exact w_c4
  · exact w_c5
  · exact w_c6
  · exact w_c7
  · exact w_c8
  · exact w_c9
  · exact w_c10
  · exact w_c11
  · exact w_c12
  · exact w_c13
  · exact w_c14
  · exact w_c15
set_option maxRecDepth 65536 in
theorem w_t1 : (words1.take 24).all (fun c => isCode c || c.before args0 about1) = true := by decide +kernel
set_option maxRecDepth 65536 in
theorem w_t2 : ((words1.drop 24).take 24).all (fun c => isCode c || c.before args0 about1) = true := by decide +kernel
set_option maxRecDepth 65536 in
theorem w_t3 : (((words1.drop 24).drop 24).take 24).all (fun c => isCode c || c.before args0 about1) = true := by decide +kernel
set_option maxRecDepth 65536 in
theorem w_t4 : ((((words1.drop 24).drop 24).drop 24).take 24).all (fun c => isCode c || c.before args0 about1) = true := by decide +kernel
set_option maxRecDepth 65536 in
theorem w_t5 : ((((words1.drop 24).drop 24).drop 24).drop 24).all (fun c => isCode c || c.before args0 about1) = true := by decide +kernel
theorem w_tables : (allAtoms (Jvm.Cond.code x code maxLocals ret :: tables_1)).before args0 about1 = true := by
  rw [allAtoms_all]
  show words1.all (fun c => c.before args0 about1) = true
  refine all_split ?_ w_codes
  rw [← List.take_append_drop 24 words1, List.all_append, w_t1, ← List.take_append_drop 24 (words1.drop 24), List.all_append, w_t2, ← List.take_append_drop 24 ((words1.drop 24).drop 24), List.all_append, w_t3, ← List.take_append_drop 24 (((words1.drop 24).drop 24).drop 24), List.all_append, w_t4, w_t5]
  rfl
set_option maxRecDepth 65536 in
theorem w_case : (Jvm.Cond.and given_1 narrow_1).before args0 about1 = true := by decide +kernel
theorem w_applies : (headSpec (Jvm.Cond.code x code maxLocals ret :: tables_1) room_1).applies x e0.platform about1 = true :=
  (Spec.applies_iff w_frames).mpr ⟨w_running, w_runnable, w_alone, w_named, w_hears, w_ripe, w_room, w_tables⟩
theorem atStart : AtStart classFile x code maxLocals ret World_1 tables_1 room_1 Calls_1 rest_1 Pre_1 launch0 p0 e0 about1 theMethod args0 below0 :=
  ⟨lists_1, trivial, launch0.admits_env _ _ _, launch0.least_env, fairChoices_fair.cas, fairChoices_fair.clock, w_frames, w_args, w_heap, w_applies, trivial, trivial, w_case⟩
end start1
theorem witness_1 : WitnessClaimed_1 := ⟨start1.p0, start1.e0, start1.about1, start1.theMethod, start1.args0, start1.below0, start1.atStart⟩
end Jvm.Pilot.@@N@@
