import JvmDerived
import JvmDerived.Pilot.@@N@@Statement
import JvmDerived.Pilot.@@N@@Code
set_option linter.unusedVariables false
set_option linter.unusedSimpArgs false
namespace Jvm.RoadKit
open Sem ClassFile Op Lib Jvm.Stand Jvm.Free Jvm.LawKit
section New
variable {p : Program} {l : Launch} {e : Env} {R : Room} {s : State} {m : MethodId} {args : Array Value} {below : List Frame} {meth : Method} {c : Code} {T : State} {locs : List Loc} {cells slots : Nat}
theorem retI (X : Stand p l e R s m args below meth c T locs cells slots) (hx : p.tables.exec = Jvm.exec) {pc : Nat} {Ls : Array Slot} {z : Int32} {rest : List Value} (hret : meth.sig.returnType = some .int) (hd : decode c.code pc = .ok (.ireturn, 1)) {fs : List Frame}
    (hl : ∀ (f : JFrame) (acts : List Action), f.method = m → f.locked = none → f.entered = [] → (doReturn e (T.setTop f) acts (some (.int z))).1 = T.setFrames fs) : Steps p.tables e below (T.setTop (mkF m pc Ls (.int z :: rest))) (T.setFrames fs) :=
  retOut X hx hret rfl (Or.inl ⟨rfl, Or.inl rfl, _, rfl⟩) hd hl
end New
end Jvm.RoadKit
namespace Jvm.Pilot.@@N@@
open Jvm Jvm.ClassFile Sem Op Lib Jvm.Free Jvm.Stand Jvm.LawKit Jvm.RoadKit Bundle Jvm.Pilot.@@N@@.Jvm.D
/-- the run goes on from T to an end of which P holds -/
def Go (tb : Tables) (e : Env) (below : List Frame) (P : Outcome → State → Prop) (T : State) : Prop := ∃ s₂ o, Steps tb e below T s₂ ∧ s₂.status = .running ∧ Ended s₂ below o ∧ P o s₂
theorem own_i {tb : Tables} {e : Env} {below : List Frame} {P : Outcome → State → Prop} {T : State} (h : Go tb e below P T) : ∃ s₂ o, Steps tb e below T s₂ ∧ s₂.status = .running ∧ Ended s₂ below o ∧ P o s₂ := h
theorem own_s {tb : Tables} {e : Env} {below : List Frame} {P : Outcome → State → Prop} {T T' : State} (h : ∀ t, Steps tb e below T' t → Steps tb e below T t) (g : Go tb e below P T') : Go tb e below P T := by
  obtain ⟨s₂, o, h1, r⟩ := g; exact ⟨s₂, o, h _ h1, r⟩
theorem own_t {tb : Tables} {e : Env} {below : List Frame} {P : Outcome → State → Prop} {T T' : State} (h : Steps tb e below T T') (g : Go tb e below P T') : Go tb e below P T := by
  obtain ⟨s₂, o, h1, r⟩ := g; exact ⟨s₂, o, h.trans h1, r⟩
theorem own_e {tb : Tables} {e : Env} {below : List Frame} {P : Outcome → State → Prop} {T s₂ : State} {o : Outcome} (h : Steps tb e below T s₂) (h1 : s₂.status = .running) (h2 : Ended s₂ below o) (h3 : P o s₂) : Go tb e below P T := ⟨s₂, o, h, h1, h2, h3⟩
theorem own_eqI {a : Term} {k : Int32} {args : Array Value} {s : State} (h : (Cond.eq a (.int k)).value args s none s [] = some true) : a.eval args s none [] s = some (.int k) := by
  obtain ⟨x, y, hx, hy, -, hk⟩ := cmp_v (Or.inl h)
  obtain rfl : y = .int k := (Option.some.inj hy).symm
  obtain ⟨z, rfl⟩ := hk
  have q := gotT (Cond.eq_ints hx hy) h
  rw [hx, q]
theorem own_eqJ {a : Term} {k : Int64} {args : Array Value} {s : State} (h : (Cond.eq a (.long k)).value args s none s [] = some true) : a.eval args s none [] s = some (.long k) := by
  obtain ⟨x, y, hx, hy, -, hk⟩ := cmp_v (Or.inl h)
  obtain rfl : y = .long k := (Option.some.inj hy).symm
  obtain ⟨z, rfl⟩ := hk
  have q := gotT (eq_L hx hy) h
  rw [hx, q]
theorem own_eqR {a b : Term} {u : Addr} {args : Array Value} {s : State} (hb : b.eval args s none [] s = some (.ref u)) (h : (Cond.eq a b).value args s none s [] = some true) : a.eval args s none [] s = some (.ref u) := by
  obtain ⟨x, y, hx, hy, -, hk⟩ := cmp_v (Or.inl h)
  obtain rfl : y = .ref u := Option.some.inj (hy.symm.trans hb)
  have hr : x.isRef = true := hk.2
  have q := gotT (eq_R hx hy hr rfl) h
  rw [hx, q]
theorem own_fI {t : Term} {a : Addr} {k : Int32} {args : Array Value} {s : State} {C n d : String} (ht : t.eval args s none [] s = some (.ref a)) (h : (Cond.eq (.field t C n d) (.int k)).value args s none s [] = some true) : Fld s s.heap a C n d (.int k) :=
  Fld.start (by have q := own_eqI h; rw [fld_at ht] at q; exact q)
theorem own_fJ {t : Term} {a : Addr} {k : Int64} {args : Array Value} {s : State} {C n d : String} (ht : t.eval args s none [] s = some (.ref a)) (h : (Cond.eq (.field t C n d) (.long k)).value args s none s [] = some true) : Fld s s.heap a C n d (.long k) :=
  Fld.start (by have q := own_eqJ h; rw [fld_at ht] at q; exact q)
theorem own_fit {s : State} (hF : heapFits s = true) : Fit s := fun {y c} hc i hi => by
  obtain ⟨ha, rfl⟩ := Array.getElem?_eq_some_iff.mp hc
  have q := List.all_eq_true.mp ((Array.all_eq_true_iff_forall_mem.mp hF) _ (Array.getElem_mem ha)) i (List.mem_range.mpr hi)
  simpa [Array.getElem?_eq_getElem hi] using q
theorem own_len {t : Term} {a : Addr} {c : Cell} {ty : FieldType} {k : Int32} {args : Array Value} {s : State} (A : Arr s s.heap a c ty) (ht : t.eval args s none [] s = some (.ref a)) (h : (Cond.eq (.length t) (.int k)).value args s none s [] = some true) : c.slots.size < 2 ^ 31 ∧ c.slots.size.toInt32 = k := by
  have q := own_eqI h
  have hA := A.fin (Vm.Alike.refl _)
  by_cases hl : c.slots.size < 2 ^ 31
  · exact ⟨hl, Value.int.inj (Option.some.inj ((len_f ht hA hl).symm.trans q))⟩
  · exfalso
    have hl' : ¬ c.slots.size < 2147483648 := hl
    simp [Term.eval, ht, hA, hl'] at q
theorem own_el {t : Term} {a : Addr} {c : Cell} {ty : FieldType} {j : Int32} {v : Value} {args : Array Value} {s : State} (A : Arr s s.heap a c ty) (ht : t.eval args s none [] s = some (.ref a)) (h : (Term.elem t (.int j)).eval args s none [] s = some v) : c.slots[j.toNatClampNeg]? = some v :=
  (elem_in h ht (Term.int_eval j) A.1).2
theorem own_sa {Z : State} {a0 : Array Value} (hw : ∀ d ∈ tables_1, d.before a0 Z = true) : ∀ a ∈ Bundle.stringAtoms, a.before a0 Z = true := fun d hd => by
  simp only [Bundle.stringAtoms, List.mem_cons, List.not_mem_nil, or_false] at hd
  rcases hd with rfl | rfl | rfl | rfl | rfl | rfl | rfl
  · exact (hw _ (List.mem_of_getElem? (i := 29) rfl))
  · exact (hw _ (List.mem_of_getElem? (i := 30) rfl))
  · exact (hw _ (List.mem_of_getElem? (i := 31) rfl))
  · exact (hw _ (List.mem_of_getElem? (i := 32) rfl))
  · exact (hw _ (List.mem_of_getElem? (i := 33) rfl))
  · exact (hw _ (List.mem_of_getElem? (i := 34) rfl))
  · exact (hw _ (List.mem_of_getElem? (i := 35) rfl))
theorem d2_0 : decode jdk_2649_method_2_code 0 = .ok (.getstatic 17, 3) := by decide +kernel
theorem d2_3 : decode jdk_2649_method_2_code 3 = .ok (.areturn, 1) := by decide +kernel
theorem pn_java_util_OptionalInt : plainName "java/util/OptionalInt" = true := by first | (simp [plainName, overriddenIn]; done) | decide +kernel
theorem ef_rm2 (m : MethodId)  : entryFrame m #[] 0 = mkF m 0 #[] [] := by first | (simp [entryFrame, mkF, argsToLocals, Value.category]; done) | rfl
def Q_rm2 (Z : State) (uE : Addr) (h0 : Heap) (n0 : Nat) (v : Option Value) (h : Heap) (L : List Loc) : Prop := v = some (.ref uE) ∧ Fr n0 L ∧ h = h0
set_option maxRecDepth 65536 in
set_option maxHeartbeats 40000000 in
theorem rm2 (l : Launch) (Z : State) (a0 : Array Value) (hw : ∀ d ∈ tables_1, d.before a0 Z = true) (ws : List Jvm.Cond) (uE : Addr) (h0 : Heap) (n0 : Nat) (O0 : Old Z n0 h0) (S_EMPTY : Sta Z Z.heap "java/util/OptionalInt" "EMPTY" "Ljava/util/OptionalInt;" (.ref uE)) :
    MetFree l (⟨"java/util/OptionalInt", "empty", "()Ljava/util/OptionalInt;"⟩ : MethodName) (head1 (Jvm.Cond.code (⟨"java/util/OptionalInt", "empty", "()Ljava/util/OptionalInt;"⟩ : MethodName) jdk_2649_method_2_code 0 (some (.object "java/util/OptionalInt")) :: ws) ({ frames := 0, cells := 0, slots := 0, locals := 0 } : Room)) (fun aa_ U => aa_ = #[] ∧ Z.Warmed39 U.vm ∧ U.heap = h0) (fun _ _ _ _ _ => True) (fun _ U oo_ U' => ∃ vv_ LL_, oo_ = .returned vv_ ∧ Q_rm2 Z uE h0 n0 vv_ U'.heap LL_ ∧ FrameEnd U oo_ U' LL_ ({ frames := 0, cells := 0, slots := 0, locals := 0 } : Room).cells ({ frames := 0, cells := 0, slots := 0, locals := 0 } : Room).slots) := by
  refine MetFree.of_bodySF (plainFor_of_name pn_java_util_OptionalInt) hisR ?_
  intro p e s m args below meth c s₁ Bd hml0 hP hK
  obtain ⟨rfl, hZ, hh⟩ := hP
  have hx := Bd.exec
  have hby := Bd.bytes
  have hml : c.maxLocals = 0 := hml0
  have hown : s.vm.findClass "java/util/OptionalInt" = some m.cls := findClass_of_methodNamed Bd.named
  have hnm := (name_of_methodNamed Bd.named Bd.method).1
  have X0 : Stand p l e ({ frames := 0, cells := 0, slots := 0, locals := 0 } : Room) s m #[] below meth c s₁ [] 0 0 := Stand.of_body Bd
  have e0 : s₁.heap = h0 := by rw [← hh, Bd.state]; rfl
  have N0 := Fr.nil n0
  have K0 : Keep h0 h0 [] := Keep.refl h0 _
  refine own_i (own_s (fun t k => castTop (ef_rm2 m) k) ?_)
  show Go p.tables e below _ (s₁.setTop (mkF m 0 #[] []))
  obtain ⟨T1, X1, e1, st1⟩ := getS2 X0 hx hZ hown (host := "") (Or.inl (hw _ (List.mem_of_getElem? (i := 13) rfl))) Via.refl e0 (S_EMPTY.ext O0.2) (g := (mkF m 0 #[] [])) rfl (hb hby d2_0)
  refine own_s st1 ?_
  show Go p.tables e below _ (T1.setTop (mkF m 3 #[] [(.ref uE)]))
  obtain ⟨fs, hr, hrun, hended, hW, hsame⟩ := X1.leave (v := (some (.ref uE))) (fun h => by first | rfl | (rw [Bd.returns] at h; cases h))
  refine own_e ?_ hrun hended ⟨_, _, rfl, ?_, ⟨_, rfl⟩, hW, hsame.mono (by decide) (by decide)⟩
  · exact retOut X1 hx Bd.returns rfl (Or.inr (Or.inr (Or.inr (Or.inr ⟨rfl, rfl, rfl⟩)))) (hb hby d2_3) hr
  · show Q_rm2 Z uE h0 n0 _ T1.heap _
    rw [e1]
    exact ⟨rfl, N0, rfl⟩
theorem d5_0 : decode jdk_30_method_1_code 0 = .ok (.aload_n 0, 1) := by decide +kernel
theorem d5_1 : decode jdk_30_method_1_code 1 = .ok (.invokespecial 1, 3) := by decide +kernel
theorem d5_4 : decode jdk_30_method_1_code 4 = .ok (.return_, 1) := by decide +kernel
theorem pn_java_lang_Record : plainName "java/lang/Record" = true := by first | (simp [plainName, overriddenIn]; done) | decide +kernel
theorem ef_rm5 (m : MethodId) (a : Addr) : entryFrame m #[(.ref a)] 1 = mkF m 0 #[.val (.ref a)] [] := by first | (simp [entryFrame, mkF, argsToLocals, Value.category]; done) | rfl
def Q_rm5 (Z : State) (a : Addr) (h0 : Heap) (n0 : Nat) (v : Option Value) (h : Heap) (L : List Loc) : Prop := v = none ∧ Fr n0 L ∧ h = h0
set_option maxRecDepth 65536 in
set_option maxHeartbeats 40000000 in
theorem rm5 (l : Launch) (Z : State) (a0 : Array Value) (hw : ∀ d ∈ tables_1, d.before a0 Z = true) (ws : List Jvm.Cond) (a : Addr) (h0 : Heap) (n0 : Nat) (O0 : Old Z n0 h0)  :
    MetFree l (⟨"java/lang/Record", "<init>", "()V"⟩ : MethodName) (head1 (Jvm.Cond.code (⟨"java/lang/Record", "<init>", "()V"⟩ : MethodName) jdk_30_method_1_code 1 none :: ws) ({ frames := 1, cells := 0, slots := 0, locals := 12 } : Room)) (fun aa_ U => aa_ = #[(.ref a)] ∧ Z.Warmed39 U.vm ∧ U.heap = h0) (fun _ _ _ _ _ => True) (fun _ U oo_ U' => ∃ vv_ LL_, oo_ = .returned vv_ ∧ Q_rm5 Z a h0 n0 vv_ U'.heap LL_ ∧ FrameEnd U oo_ U' LL_ ({ frames := 1, cells := 0, slots := 0, locals := 12 } : Room).cells ({ frames := 1, cells := 0, slots := 0, locals := 12 } : Room).slots) := by
  refine MetFree.of_bodySF (plainFor_of_name pn_java_lang_Record) hisR ?_
  intro p e s m args below meth c s₁ Bd hml0 hP hK
  obtain ⟨rfl, hZ, hh⟩ := hP
  have hx := Bd.exec
  have hby := Bd.bytes
  have hml : c.maxLocals = 1 := hml0
  have hown : s.vm.findClass "java/lang/Record" = some m.cls := findClass_of_methodNamed Bd.named
  have hnm := (name_of_methodNamed Bd.named Bd.method).1
  have X0 : Stand p l e ({ frames := 1, cells := 0, slots := 0, locals := 12 } : Room) s m #[(.ref a)] below meth c s₁ [] 0 0 := Stand.of_body Bd
  have e0 : s₁.heap = h0 := by rw [← hh, Bd.state]; rfl
  have N0 := Fr.nil n0
  have K0 : Keep h0 h0 [] := Keep.refl h0 _
  refine own_i (own_s (fun t k => castTop (ef_rm5 m a) k) ?_)
  show Go p.tables e below _ (s₁.setTop (mkF m 0 #[.val (.ref a)] []))
  refine own_s (fun t k => XS.aloadN X0.here hx rfl (hb hby d5_0) rfl rfl k) ?_
  show Go p.tables e below _ (s₁.setTop (mkF m 1 #[.val (.ref a)] [(.ref a)]))
  obtain ⟨T1, X1, e1, st1⟩ := initO X0 hx hZ hown (hw _ (List.mem_of_getElem? (i := 25) rfl)) (hw _ (List.mem_of_getElem? (i := 26) rfl)) (hw _ (List.mem_of_getElem? (i := 27) rfl)) e0 (g := (mkF m 1 #[.val (.ref a)] [(.ref a)])) rfl (by rw [hml]; rfl) rfl (hb hby d5_1) (by decide) (W := 0) (by show 2 * 0 + _ ≤ _; exact Nat.le_of_eq rfl) (by decide)
  refine own_s st1 ?_
  show Go p.tables e below _ (T1.setTop (mkF m 4 #[.val (.ref a)] []))
  obtain ⟨fs, hr, hrun, hended, hW, hsame⟩ := X1.leave (v := none) (fun h => by first | rfl | (rw [Bd.returns] at h; cases h))
  refine own_e ?_ hrun hended ⟨_, _, rfl, ?_, ⟨_, rfl⟩, hW, hsame.mono (by decide) (by decide)⟩
  · exact X1.returnOut hx Bd.returns (hb hby d5_4) hr
  · show Q_rm5 Z a h0 n0 _ T1.heap _
    rw [e1]
    exact ⟨rfl, N0, rfl⟩
theorem d7_0 : decode jdk_31_method_11_code 0 = .ok (.aload_n 0, 1) := by decide +kernel
theorem d7_1 : decode jdk_31_method_11_code 1 = .ok (.ifnonnull 12, 3) := by decide +kernel
theorem d7_13 : decode jdk_31_method_11_code 13 = .ok (.aload_n 0, 1) := by decide +kernel
theorem d7_14 : decode jdk_31_method_11_code 14 = .ok (.areturn, 1) := by decide +kernel
theorem pn_java_util_Objects : plainName "java/util/Objects" = true := by first | (simp [plainName, overriddenIn]; done) | decide +kernel
theorem ef_rm7 (m : MethodId) (a : Addr) (b : Addr) : entryFrame m #[(.ref a), (.ref b)] 2 = mkF m 0 #[.val (.ref a), .val (.ref b)] [] := by first | (simp [entryFrame, mkF, argsToLocals, Value.category]; done) | rfl
def Q_rm7 (Z : State) (a : Addr) (b : Addr) (h0 : Heap) (n0 : Nat) (v : Option Value) (h : Heap) (L : List Loc) : Prop := v = some (.ref a) ∧ Fr n0 L ∧ h = h0
set_option maxRecDepth 65536 in
set_option maxHeartbeats 40000000 in
theorem rm7 (l : Launch) (Z : State) (a0 : Array Value) (hw : ∀ d ∈ tables_1, d.before a0 Z = true) (ws : List Jvm.Cond) (a : Addr) (b : Addr) (h0 : Heap) (n0 : Nat) (O0 : Old Z n0 h0)  :
    MetFree l (⟨"java/util/Objects", "requireNonNull", "(Ljava/lang/Object;Ljava/lang/String;)Ljava/lang/Object;"⟩ : MethodName) (head1 (Jvm.Cond.code (⟨"java/util/Objects", "requireNonNull", "(Ljava/lang/Object;Ljava/lang/String;)Ljava/lang/Object;"⟩ : MethodName) jdk_31_method_11_code 2 (some (.object "java/lang/Object")) :: ws) ({ frames := 0, cells := 0, slots := 0, locals := 0 } : Room)) (fun aa_ U => aa_ = #[(.ref a), (.ref b)] ∧ Z.Warmed39 U.vm ∧ U.heap = h0) (fun _ _ _ _ _ => True) (fun _ U oo_ U' => ∃ vv_ LL_, oo_ = .returned vv_ ∧ Q_rm7 Z a b h0 n0 vv_ U'.heap LL_ ∧ FrameEnd U oo_ U' LL_ ({ frames := 0, cells := 0, slots := 0, locals := 0 } : Room).cells ({ frames := 0, cells := 0, slots := 0, locals := 0 } : Room).slots) := by
  refine MetFree.of_bodySF (plainFor_of_name pn_java_util_Objects) hisR ?_
  intro p e s m args below meth c s₁ Bd hml0 hP hK
  obtain ⟨rfl, hZ, hh⟩ := hP
  have hx := Bd.exec
  have hby := Bd.bytes
  have hml : c.maxLocals = 2 := hml0
  have hown : s.vm.findClass "java/util/Objects" = some m.cls := findClass_of_methodNamed Bd.named
  have hnm := (name_of_methodNamed Bd.named Bd.method).1
  have X0 : Stand p l e ({ frames := 0, cells := 0, slots := 0, locals := 0 } : Room) s m #[(.ref a), (.ref b)] below meth c s₁ [] 0 0 := Stand.of_body Bd
  have e0 : s₁.heap = h0 := by rw [← hh, Bd.state]; rfl
  have N0 := Fr.nil n0
  have K0 : Keep h0 h0 [] := Keep.refl h0 _
  refine own_i (own_s (fun t k => castTop (ef_rm7 m a b) k) ?_)
  show Go p.tables e below _ (s₁.setTop (mkF m 0 #[.val (.ref a), .val (.ref b)] []))
  refine own_s (fun t k => XS.aloadN X0.here hx rfl (hb hby d7_0) rfl rfl k) ?_
  show Go p.tables e below _ (s₁.setTop (mkF m 1 #[.val (.ref a), .val (.ref b)] [(.ref a)]))
  refine own_s (fun t k => XS.ifnonnullYes X0.here hx rfl (pc0 := 1) (pc' := 13) rfl (hb hby d7_1) rfl (by decide) (by decide) k) ?_
  show Go p.tables e below _ (s₁.setTop (mkF m 13 #[.val (.ref a), .val (.ref b)] []))
  refine own_s (fun t k => XS.aloadN X0.here hx rfl (hb hby d7_13) rfl rfl k) ?_
  show Go p.tables e below _ (s₁.setTop (mkF m 14 #[.val (.ref a), .val (.ref b)] [(.ref a)]))
  obtain ⟨fs, hr, hrun, hended, hW, hsame⟩ := X0.leave (v := (some (.ref a))) (fun h => by first | rfl | (rw [Bd.returns] at h; cases h))
  refine own_e ?_ hrun hended ⟨_, _, rfl, ?_, ⟨_, rfl⟩, hW, hsame.mono (by decide) (by decide)⟩
  · exact retOut X0 hx Bd.returns rfl (Or.inr (Or.inr (Or.inr (Or.inr ⟨rfl, rfl, rfl⟩)))) (hb hby d7_14) hr
  · show Q_rm7 Z a b h0 n0 _ s₁.heap _
    rw [e0]
    exact ⟨rfl, N0, rfl⟩
theorem d8_0 : decode jdk_2316_method_22_code 0 = .ok (.aload_n 0, 1) := by decide +kernel
theorem d8_1 : decode jdk_2316_method_22_code 1 = .ok (.getfield 221, 3) := by decide +kernel
theorem d8_4 : decode jdk_2316_method_22_code 4 = .ok (.lconst 0, 1) := by decide +kernel
theorem d8_5 : decode jdk_2316_method_22_code 5 = .ok (.lcmp, 1) := by decide +kernel
theorem d8_6 : decode jdk_2316_method_22_code 6 = .ok (.ifCond .ge 7, 3) := by decide +kernel
theorem d8_13 : decode jdk_2316_method_22_code 13 = .ok (.iconst 0, 1) := by decide +kernel
theorem d8_14 : decode jdk_2316_method_22_code 14 = .ok (.ireturn, 1) := by decide +kernel
theorem pn_java_time_Duration : plainName "java/time/Duration" = true := by first | (simp [plainName, overriddenIn]; done) | decide +kernel
theorem ef_rm8 (m : MethodId) (d : Addr) : entryFrame m #[(.ref d)] 1 = mkF m 0 #[.val (.ref d)] [] := by first | (simp [entryFrame, mkF, argsToLocals, Value.category]; done) | rfl
def Q_rm8 (Z : State) (d : Addr) (h0 : Heap) (n0 : Nat) (v : Option Value) (h : Heap) (L : List Loc) : Prop := v = some (.int (0 : Int32)) ∧ Fr n0 L ∧ h = h0
set_option maxRecDepth 65536 in
set_option maxHeartbeats 40000000 in
theorem rm8 (l : Launch) (Z : State) (a0 : Array Value) (hw : ∀ d ∈ tables_1, d.before a0 Z = true) (ws : List Jvm.Cond) (d : Addr) (h0 : Heap) (n0 : Nat) (O0 : Old Z n0 h0) (F_s : Fld Z h0 d "java/time/Duration" "seconds" "J" (.long (0 : Int64))) :
    MetFree l (⟨"java/time/Duration", "isNegative", "()Z"⟩ : MethodName) (head1 (Jvm.Cond.code (⟨"java/time/Duration", "isNegative", "()Z"⟩ : MethodName) jdk_2316_method_22_code 1 (some .boolean) :: ws) ({ frames := 0, cells := 0, slots := 0, locals := 0 } : Room)) (fun aa_ U => aa_ = #[(.ref d)] ∧ Z.Warmed39 U.vm ∧ U.heap = h0) (fun _ _ _ _ _ => True) (fun _ U oo_ U' => ∃ vv_ LL_, oo_ = .returned vv_ ∧ Q_rm8 Z d h0 n0 vv_ U'.heap LL_ ∧ FrameEnd U oo_ U' LL_ ({ frames := 0, cells := 0, slots := 0, locals := 0 } : Room).cells ({ frames := 0, cells := 0, slots := 0, locals := 0 } : Room).slots) := by
  refine MetFree.of_bodySF (plainFor_of_name pn_java_time_Duration) hisR ?_
  intro p e s m args below meth c s₁ Bd hml0 hP hK
  obtain ⟨rfl, hZ, hh⟩ := hP
  have hx := Bd.exec
  have hby := Bd.bytes
  have hml : c.maxLocals = 1 := hml0
  have hown : s.vm.findClass "java/time/Duration" = some m.cls := findClass_of_methodNamed Bd.named
  have hnm := (name_of_methodNamed Bd.named Bd.method).1
  have X0 : Stand p l e ({ frames := 0, cells := 0, slots := 0, locals := 0 } : Room) s m #[(.ref d)] below meth c s₁ [] 0 0 := Stand.of_body Bd
  have e0 : s₁.heap = h0 := by rw [← hh, Bd.state]; rfl
  have N0 := Fr.nil n0
  have K0 : Keep h0 h0 [] := Keep.refl h0 _
  refine own_i (own_s (fun t k => castTop (ef_rm8 m d) k) ?_)
  show Go p.tables e below _ (s₁.setTop (mkF m 0 #[.val (.ref d)] []))
  refine own_s (fun t k => XS.aloadN X0.here hx rfl (hb hby d8_0) rfl rfl k) ?_
  show Go p.tables e below _ (s₁.setTop (mkF m 1 #[.val (.ref d)] [(.ref d)]))
  obtain ⟨T1, X1, e1, st1⟩ := getF X0 hx hZ hown (host := "") (Or.inl (hw _ (List.mem_of_getElem? (i := 46) rfl))) Via.refl e0 F_s (g := (mkF m 1 #[.val (.ref d)] [(.ref d)])) rfl rfl (hb hby d8_1)
  refine own_s st1 ?_
  show Go p.tables e below _ (T1.setTop (mkF m 4 #[.val (.ref d)] [(.long (0 : Int64))]))
  refine own_s (fun t k => XS.lconst X1.here hx rfl (hb hby d8_4) k) ?_
  show Go p.tables e below _ (T1.setTop (mkF m 5 #[.val (.ref d)] [(.long (0 : Int64)), (.long (0 : Int64))]))
  refine own_s (fun t k => XS.lcmp X1.here hx rfl (hb hby d8_5) rfl k) ?_
  show Go p.tables e below _ (T1.setTop (mkF m 6 #[.val (.ref d)] [(.int (0 : Int32))]))
  refine own_s (fun t k => XS.ifYes X1.here hx rfl (pc0 := 6) (pc' := 13) rfl (hb hby d8_6) rfl ((if0 _ _).trans (flt (by decide : ¬ ((0 : Int32) < (0 : Int32)))).2.1) (by decide) (by decide) k) ?_
  show Go p.tables e below _ (T1.setTop (mkF m 13 #[.val (.ref d)] []))
  refine own_s (fun t k => XS.iconst X1.here hx rfl (hb hby d8_13) k) ?_
  show Go p.tables e below _ (T1.setTop (mkF m 14 #[.val (.ref d)] [(.int (0 : Int32))]))
  obtain ⟨fs, hr, hrun, hended, hW, hsame⟩ := X1.leave (v := (some (.int (0 : Int32)))) (fun h => by first | rfl | (rw [Bd.returns] at h; cases h))
  refine own_e ?_ hrun hended ⟨_, _, rfl, ?_, ⟨_, rfl⟩, hW, hsame.mono (by decide) (by decide)⟩
  · exact retN X1 hx (t := .boolean) Bd.returns (by simp) (hb hby d8_14) hr
  · show Q_rm8 Z d h0 n0 _ T1.heap _
    rw [e1]
    exact ⟨rfl, N0, rfl⟩
theorem d9_0 : decode jdk_2316_method_21_code 0 = .ok (.aload_n 0, 1) := by decide +kernel
theorem d9_1 : decode jdk_2316_method_21_code 1 = .ok (.getfield 221, 3) := by decide +kernel
theorem d9_4 : decode jdk_2316_method_21_code 4 = .ok (.aload_n 0, 1) := by decide +kernel
theorem d9_5 : decode jdk_2316_method_21_code 5 = .ok (.getfield 224, 3) := by decide +kernel
theorem d9_8 : decode jdk_2316_method_21_code 8 = .ok (.i2l, 1) := by decide +kernel
theorem d9_9 : decode jdk_2316_method_21_code 9 = .ok (.lor, 1) := by decide +kernel
theorem d9_10 : decode jdk_2316_method_21_code 10 = .ok (.lconst 0, 1) := by decide +kernel
theorem d9_11 : decode jdk_2316_method_21_code 11 = .ok (.lcmp, 1) := by decide +kernel
theorem d9_12 : decode jdk_2316_method_21_code 12 = .ok (.ifCond .ne 7, 3) := by decide +kernel
theorem d9_15 : decode jdk_2316_method_21_code 15 = .ok (.iconst 1, 1) := by decide +kernel
theorem d9_16 : decode jdk_2316_method_21_code 16 = .ok (.goto 4, 3) := by decide +kernel
theorem d9_20 : decode jdk_2316_method_21_code 20 = .ok (.ireturn, 1) := by decide +kernel
theorem ef_rm9 (m : MethodId) (d : Addr) : entryFrame m #[(.ref d)] 1 = mkF m 0 #[.val (.ref d)] [] := by first | (simp [entryFrame, mkF, argsToLocals, Value.category]; done) | rfl
def Q_rm9 (Z : State) (d : Addr) (h0 : Heap) (n0 : Nat) (v : Option Value) (h : Heap) (L : List Loc) : Prop := v = some (.int (1 : Int32)) ∧ Fr n0 L ∧ h = h0
set_option maxRecDepth 65536 in
set_option maxHeartbeats 40000000 in
theorem rm9 (l : Launch) (Z : State) (a0 : Array Value) (hw : ∀ d ∈ tables_1, d.before a0 Z = true) (ws : List Jvm.Cond) (d : Addr) (h0 : Heap) (n0 : Nat) (O0 : Old Z n0 h0) (F_s : Fld Z h0 d "java/time/Duration" "seconds" "J" (.long (0 : Int64))) (F_n : Fld Z h0 d "java/time/Duration" "nanos" "I" (.int (0 : Int32))) :
    MetFree l (⟨"java/time/Duration", "isZero", "()Z"⟩ : MethodName) (head1 (Jvm.Cond.code (⟨"java/time/Duration", "isZero", "()Z"⟩ : MethodName) jdk_2316_method_21_code 1 (some .boolean) :: ws) ({ frames := 0, cells := 0, slots := 0, locals := 0 } : Room)) (fun aa_ U => aa_ = #[(.ref d)] ∧ Z.Warmed39 U.vm ∧ U.heap = h0) (fun _ _ _ _ _ => True) (fun _ U oo_ U' => ∃ vv_ LL_, oo_ = .returned vv_ ∧ Q_rm9 Z d h0 n0 vv_ U'.heap LL_ ∧ FrameEnd U oo_ U' LL_ ({ frames := 0, cells := 0, slots := 0, locals := 0 } : Room).cells ({ frames := 0, cells := 0, slots := 0, locals := 0 } : Room).slots) := by
  refine MetFree.of_bodySF (plainFor_of_name pn_java_time_Duration) hisR ?_
  intro p e s m args below meth c s₁ Bd hml0 hP hK
  obtain ⟨rfl, hZ, hh⟩ := hP
  have hx := Bd.exec
  have hby := Bd.bytes
  have hml : c.maxLocals = 1 := hml0
  have hown : s.vm.findClass "java/time/Duration" = some m.cls := findClass_of_methodNamed Bd.named
  have hnm := (name_of_methodNamed Bd.named Bd.method).1
  have X0 : Stand p l e ({ frames := 0, cells := 0, slots := 0, locals := 0 } : Room) s m #[(.ref d)] below meth c s₁ [] 0 0 := Stand.of_body Bd
  have e0 : s₁.heap = h0 := by rw [← hh, Bd.state]; rfl
  have N0 := Fr.nil n0
  have K0 : Keep h0 h0 [] := Keep.refl h0 _
  refine own_i (own_s (fun t k => castTop (ef_rm9 m d) k) ?_)
  show Go p.tables e below _ (s₁.setTop (mkF m 0 #[.val (.ref d)] []))
  refine own_s (fun t k => XS.aloadN X0.here hx rfl (hb hby d9_0) rfl rfl k) ?_
  show Go p.tables e below _ (s₁.setTop (mkF m 1 #[.val (.ref d)] [(.ref d)]))
  obtain ⟨T1, X1, e1, st1⟩ := getF X0 hx hZ hown (host := "") (Or.inl (hw _ (List.mem_of_getElem? (i := 46) rfl))) Via.refl e0 F_s (g := (mkF m 1 #[.val (.ref d)] [(.ref d)])) rfl rfl (hb hby d9_1)
  refine own_s st1 ?_
  show Go p.tables e below _ (T1.setTop (mkF m 4 #[.val (.ref d)] [(.long (0 : Int64))]))
  refine own_s (fun t k => XS.aloadN X1.here hx rfl (hb hby d9_4) rfl rfl k) ?_
  show Go p.tables e below _ (T1.setTop (mkF m 5 #[.val (.ref d)] [(.ref d), (.long (0 : Int64))]))
  obtain ⟨T2, X2, e2, st2⟩ := getF X1 hx hZ hown (host := "") (Or.inl (hw _ (List.mem_of_getElem? (i := 53) rfl))) Via.refl e1 F_n (g := (mkF m 5 #[.val (.ref d)] [(.ref d), (.long (0 : Int64))])) rfl rfl (hb hby d9_5)
  refine own_s st2 ?_
  show Go p.tables e below _ (T2.setTop (mkF m 8 #[.val (.ref d)] [(.int (0 : Int32)), (.long (0 : Int64))]))
  refine own_s (fun t k => XS.i2l X2.here hx rfl (hb hby d9_8) rfl k) ?_
  show Go p.tables e below _ (T2.setTop (mkF m 9 #[.val (.ref d)] [(.long (0 : Int64)), (.long (0 : Int64))]))
  refine own_s (fun t k => XS.lor X2.here hx rfl (hb hby d9_9) rfl k) ?_
  show Go p.tables e below _ (T2.setTop (mkF m 10 #[.val (.ref d)] [(.long (0 : Int64))]))
  refine own_s (fun t k => XS.lconst X2.here hx rfl (hb hby d9_10) k) ?_
  show Go p.tables e below _ (T2.setTop (mkF m 11 #[.val (.ref d)] [(.long (0 : Int64)), (.long (0 : Int64))]))
  refine own_s (fun t k => XS.lcmp X2.here hx rfl (hb hby d9_11) rfl k) ?_
  show Go p.tables e below _ (T2.setTop (mkF m 12 #[.val (.ref d)] [(.int (0 : Int32))]))
  refine own_s (fun t k => XS.ifNo X2.here hx rfl (hb hby d9_12) rfl ((if0 _ _).trans (teq (by decide : (0 : Int32) = (0 : Int32))).2) k) ?_
  show Go p.tables e below _ (T2.setTop (mkF m 15 #[.val (.ref d)] []))
  refine own_s (fun t k => XS.iconst X2.here hx rfl (hb hby d9_15) k) ?_
  show Go p.tables e below _ (T2.setTop (mkF m 16 #[.val (.ref d)] [(.int (1 : Int32))]))
  refine own_s (fun t k => XS.goto X2.here hx rfl (pc0 := 16) (pc' := 20) rfl (hb hby d9_16) (by decide) (by decide) k) ?_
  show Go p.tables e below _ (T2.setTop (mkF m 20 #[.val (.ref d)] [(.int (1 : Int32))]))
  obtain ⟨fs, hr, hrun, hended, hW, hsame⟩ := X2.leave (v := (some (.int (1 : Int32)))) (fun h => by first | rfl | (rw [Bd.returns] at h; cases h))
  refine own_e ?_ hrun hended ⟨_, _, rfl, ?_, ⟨_, rfl⟩, hW, hsame.mono (by decide) (by decide)⟩
  · exact retN X2 hx (t := .boolean) Bd.returns (by simp) (hb hby d9_20) hr
  · show Q_rm9 Z d h0 n0 _ T2.heap _
    rw [e2]
    exact ⟨rfl, N0, rfl⟩
theorem d10_0 : decode jdk_2649_method_6_code 0 = .ok (.aload_n 0, 1) := by decide +kernel
theorem d10_1 : decode jdk_2649_method_6_code 1 = .ok (.getfield 7, 3) := by decide +kernel
theorem d10_4 : decode jdk_2649_method_6_code 4 = .ok (.ireturn, 1) := by decide +kernel
theorem ef_rm10 (m : MethodId) (a : Addr) : entryFrame m #[(.ref a)] 1 = mkF m 0 #[.val (.ref a)] [] := by first | (simp [entryFrame, mkF, argsToLocals, Value.category]; done) | rfl
def Q_rm10 (Z : State) (a : Addr) (w_isPresent_a : Int32) (h0 : Heap) (n0 : Nat) (v : Option Value) (h : Heap) (L : List Loc) : Prop := v = some (.int (nar .boolean w_isPresent_a)) ∧ Fr n0 L ∧ h = h0
set_option maxRecDepth 65536 in
set_option maxHeartbeats 40000000 in
theorem rm10 (l : Launch) (Z : State) (a0 : Array Value) (hw : ∀ d ∈ tables_1, d.before a0 Z = true) (ws : List Jvm.Cond) (a : Addr) (w_isPresent_a : Int32) (h0 : Heap) (n0 : Nat) (O0 : Old Z n0 h0) (F_isPresent_a : Fld Z h0 a "java/util/OptionalInt" "isPresent" "Z" (.int w_isPresent_a)) :
    MetFree l (⟨"java/util/OptionalInt", "isPresent", "()Z"⟩ : MethodName) (head1 (Jvm.Cond.code (⟨"java/util/OptionalInt", "isPresent", "()Z"⟩ : MethodName) jdk_2649_method_6_code 1 (some .boolean) :: ws) ({ frames := 0, cells := 0, slots := 0, locals := 0 } : Room)) (fun aa_ U => aa_ = #[(.ref a)] ∧ Z.Warmed39 U.vm ∧ U.heap = h0) (fun _ _ _ _ _ => True) (fun _ U oo_ U' => ∃ vv_ LL_, oo_ = .returned vv_ ∧ Q_rm10 Z a w_isPresent_a h0 n0 vv_ U'.heap LL_ ∧ FrameEnd U oo_ U' LL_ ({ frames := 0, cells := 0, slots := 0, locals := 0 } : Room).cells ({ frames := 0, cells := 0, slots := 0, locals := 0 } : Room).slots) := by
  refine MetFree.of_bodySF (plainFor_of_name pn_java_util_OptionalInt) hisR ?_
  intro p e s m args below meth c s₁ Bd hml0 hP hK
  obtain ⟨rfl, hZ, hh⟩ := hP
  have hx := Bd.exec
  have hby := Bd.bytes
  have hml : c.maxLocals = 1 := hml0
  have hown : s.vm.findClass "java/util/OptionalInt" = some m.cls := findClass_of_methodNamed Bd.named
  have hnm := (name_of_methodNamed Bd.named Bd.method).1
  have X0 : Stand p l e ({ frames := 0, cells := 0, slots := 0, locals := 0 } : Room) s m #[(.ref a)] below meth c s₁ [] 0 0 := Stand.of_body Bd
  have e0 : s₁.heap = h0 := by rw [← hh, Bd.state]; rfl
  have N0 := Fr.nil n0
  have K0 : Keep h0 h0 [] := Keep.refl h0 _
  refine own_i (own_s (fun t k => castTop (ef_rm10 m a) k) ?_)
  show Go p.tables e below _ (s₁.setTop (mkF m 0 #[.val (.ref a)] []))
  refine own_s (fun t k => XS.aloadN X0.here hx rfl (hb hby d10_0) rfl rfl k) ?_
  show Go p.tables e below _ (s₁.setTop (mkF m 1 #[.val (.ref a)] [(.ref a)]))
  obtain ⟨T1, X1, e1, st1⟩ := getF X0 hx hZ hown (host := "") (Or.inl (hw _ (List.mem_of_getElem? (i := 60) rfl))) Via.refl e0 F_isPresent_a (g := (mkF m 1 #[.val (.ref a)] [(.ref a)])) rfl rfl (hb hby d10_1)
  refine own_s st1 ?_
  show Go p.tables e below _ (T1.setTop (mkF m 4 #[.val (.ref a)] [(.int w_isPresent_a)]))
  obtain ⟨fs, hr, hrun, hended, hW, hsame⟩ := X1.leave (v := (some (.int (nar .boolean w_isPresent_a)))) (fun h => by first | rfl | (rw [Bd.returns] at h; cases h))
  refine own_e ?_ hrun hended ⟨_, _, rfl, ?_, ⟨_, rfl⟩, hW, hsame.mono (by decide) (by decide)⟩
  · exact retN X1 hx (t := .boolean) Bd.returns (by simp) (hb hby d10_4) hr
  · show Q_rm10 Z a w_isPresent_a h0 n0 _ T1.heap _
    rw [e1]
    exact ⟨rfl, N0, rfl⟩
theorem d11_0 : decode prog_4_method_10_code 0 = .ok (.aload_n 0, 1) := by decide +kernel
theorem d11_1 : decode prog_4_method_10_code 1 = .ok (.getfield 57, 3) := by decide +kernel
theorem d11_4 : decode prog_4_method_10_code 4 = .ok (.ireturn, 1) := by decide +kernel
theorem pn_com_example_throttle_throttle_Decision : plainName "com/example/throttle/throttle/Decision" = true := by first | (simp [plainName, overriddenIn]; done) | decide +kernel
theorem ef_rm11 (m : MethodId) (a : Addr) : entryFrame m #[(.ref a)] 1 = mkF m 0 #[.val (.ref a)] [] := by first | (simp [entryFrame, mkF, argsToLocals, Value.category]; done) | rfl
def Q_rm11 (Z : State) (a : Addr) (w_admitted_a : Int32) (h0 : Heap) (n0 : Nat) (v : Option Value) (h : Heap) (L : List Loc) : Prop := v = some (.int (nar .boolean w_admitted_a)) ∧ Fr n0 L ∧ h = h0
set_option maxRecDepth 65536 in
set_option maxHeartbeats 40000000 in
theorem rm11 (l : Launch) (Z : State) (a0 : Array Value) (hw : ∀ d ∈ tables_1, d.before a0 Z = true) (ws : List Jvm.Cond) (a : Addr) (w_admitted_a : Int32) (h0 : Heap) (n0 : Nat) (O0 : Old Z n0 h0) (F_admitted_a : Fld Z h0 a "com/example/throttle/throttle/Decision" "admitted" "Z" (.int w_admitted_a)) :
    MetFree l (⟨"com/example/throttle/throttle/Decision", "admitted", "()Z"⟩ : MethodName) (head1 (Jvm.Cond.code (⟨"com/example/throttle/throttle/Decision", "admitted", "()Z"⟩ : MethodName) prog_4_method_10_code 1 (some .boolean) :: ws) ({ frames := 0, cells := 0, slots := 0, locals := 0 } : Room)) (fun aa_ U => aa_ = #[(.ref a)] ∧ Z.Warmed39 U.vm ∧ U.heap = h0) (fun _ _ _ _ _ => True) (fun _ U oo_ U' => ∃ vv_ LL_, oo_ = .returned vv_ ∧ Q_rm11 Z a w_admitted_a h0 n0 vv_ U'.heap LL_ ∧ FrameEnd U oo_ U' LL_ ({ frames := 0, cells := 0, slots := 0, locals := 0 } : Room).cells ({ frames := 0, cells := 0, slots := 0, locals := 0 } : Room).slots) := by
  refine MetFree.of_bodySF (plainFor_of_name pn_com_example_throttle_throttle_Decision) hisR ?_
  intro p e s m args below meth c s₁ Bd hml0 hP hK
  obtain ⟨rfl, hZ, hh⟩ := hP
  have hx := Bd.exec
  have hby := Bd.bytes
  have hml : c.maxLocals = 1 := hml0
  have hown : s.vm.findClass "com/example/throttle/throttle/Decision" = some m.cls := findClass_of_methodNamed Bd.named
  have hnm := (name_of_methodNamed Bd.named Bd.method).1
  have X0 : Stand p l e ({ frames := 0, cells := 0, slots := 0, locals := 0 } : Room) s m #[(.ref a)] below meth c s₁ [] 0 0 := Stand.of_body Bd
  have e0 : s₁.heap = h0 := by rw [← hh, Bd.state]; rfl
  have N0 := Fr.nil n0
  have K0 : Keep h0 h0 [] := Keep.refl h0 _
  refine own_i (own_s (fun t k => castTop (ef_rm11 m a) k) ?_)
  show Go p.tables e below _ (s₁.setTop (mkF m 0 #[.val (.ref a)] []))
  refine own_s (fun t k => XS.aloadN X0.here hx rfl (hb hby d11_0) rfl rfl k) ?_
  show Go p.tables e below _ (s₁.setTop (mkF m 1 #[.val (.ref a)] [(.ref a)]))
  obtain ⟨T1, X1, e1, st1⟩ := getF X0 hx hZ hown (host := "") (Or.inl (hw _ (List.mem_of_getElem? (i := 62) rfl))) Via.refl e0 F_admitted_a (g := (mkF m 1 #[.val (.ref a)] [(.ref a)])) rfl rfl (hb hby d11_1)
  refine own_s st1 ?_
  show Go p.tables e below _ (T1.setTop (mkF m 4 #[.val (.ref a)] [(.int w_admitted_a)]))
  obtain ⟨fs, hr, hrun, hended, hW, hsame⟩ := X1.leave (v := (some (.int (nar .boolean w_admitted_a)))) (fun h => by first | rfl | (rw [Bd.returns] at h; cases h))
  refine own_e ?_ hrun hended ⟨_, _, rfl, ?_, ⟨_, rfl⟩, hW, hsame.mono (by decide) (by decide)⟩
  · exact retN X1 hx (t := .boolean) Bd.returns (by simp) (hb hby d11_4) hr
  · show Q_rm11 Z a w_admitted_a h0 n0 _ T1.heap _
    rw [e1]
    exact ⟨rfl, N0, rfl⟩
theorem d12_0 : decode prog_4_method_11_code 0 = .ok (.aload_n 0, 1) := by decide +kernel
theorem d12_1 : decode prog_4_method_11_code 1 = .ok (.getfield 63, 3) := by decide +kernel
theorem d12_4 : decode prog_4_method_11_code 4 = .ok (.ireturn, 1) := by decide +kernel
theorem ef_rm12 (m : MethodId) (a : Addr) : entryFrame m #[(.ref a)] 1 = mkF m 0 #[.val (.ref a)] [] := by first | (simp [entryFrame, mkF, argsToLocals, Value.category]; done) | rfl
def Q_rm12 (Z : State) (a : Addr) (w_remaining_a : Int32) (h0 : Heap) (n0 : Nat) (v : Option Value) (h : Heap) (L : List Loc) : Prop := v = some (.int w_remaining_a) ∧ Fr n0 L ∧ h = h0
set_option maxRecDepth 65536 in
set_option maxHeartbeats 40000000 in
theorem rm12 (l : Launch) (Z : State) (a0 : Array Value) (hw : ∀ d ∈ tables_1, d.before a0 Z = true) (ws : List Jvm.Cond) (a : Addr) (w_remaining_a : Int32) (h0 : Heap) (n0 : Nat) (O0 : Old Z n0 h0) (F_remaining_a : Fld Z h0 a "com/example/throttle/throttle/Decision" "remaining" "I" (.int w_remaining_a)) :
    MetFree l (⟨"com/example/throttle/throttle/Decision", "remaining", "()I"⟩ : MethodName) (head1 (Jvm.Cond.code (⟨"com/example/throttle/throttle/Decision", "remaining", "()I"⟩ : MethodName) prog_4_method_11_code 1 (some .int) :: ws) ({ frames := 0, cells := 0, slots := 0, locals := 0 } : Room)) (fun aa_ U => aa_ = #[(.ref a)] ∧ Z.Warmed39 U.vm ∧ U.heap = h0) (fun _ _ _ _ _ => True) (fun _ U oo_ U' => ∃ vv_ LL_, oo_ = .returned vv_ ∧ Q_rm12 Z a w_remaining_a h0 n0 vv_ U'.heap LL_ ∧ FrameEnd U oo_ U' LL_ ({ frames := 0, cells := 0, slots := 0, locals := 0 } : Room).cells ({ frames := 0, cells := 0, slots := 0, locals := 0 } : Room).slots) := by
  refine MetFree.of_bodySF (plainFor_of_name pn_com_example_throttle_throttle_Decision) hisR ?_
  intro p e s m args below meth c s₁ Bd hml0 hP hK
  obtain ⟨rfl, hZ, hh⟩ := hP
  have hx := Bd.exec
  have hby := Bd.bytes
  have hml : c.maxLocals = 1 := hml0
  have hown : s.vm.findClass "com/example/throttle/throttle/Decision" = some m.cls := findClass_of_methodNamed Bd.named
  have hnm := (name_of_methodNamed Bd.named Bd.method).1
  have X0 : Stand p l e ({ frames := 0, cells := 0, slots := 0, locals := 0 } : Room) s m #[(.ref a)] below meth c s₁ [] 0 0 := Stand.of_body Bd
  have e0 : s₁.heap = h0 := by rw [← hh, Bd.state]; rfl
  have N0 := Fr.nil n0
  have K0 : Keep h0 h0 [] := Keep.refl h0 _
  refine own_i (own_s (fun t k => castTop (ef_rm12 m a) k) ?_)
  show Go p.tables e below _ (s₁.setTop (mkF m 0 #[.val (.ref a)] []))
  refine own_s (fun t k => XS.aloadN X0.here hx rfl (hb hby d12_0) rfl rfl k) ?_
  show Go p.tables e below _ (s₁.setTop (mkF m 1 #[.val (.ref a)] [(.ref a)]))
  obtain ⟨T1, X1, e1, st1⟩ := getF X0 hx hZ hown (host := "") (Or.inl (hw _ (List.mem_of_getElem? (i := 64) rfl))) Via.refl e0 F_remaining_a (g := (mkF m 1 #[.val (.ref a)] [(.ref a)])) rfl rfl (hb hby d12_1)
  refine own_s st1 ?_
  show Go p.tables e below _ (T1.setTop (mkF m 4 #[.val (.ref a)] [(.int w_remaining_a)]))
  obtain ⟨fs, hr, hrun, hended, hW, hsame⟩ := X1.leave (v := (some (.int w_remaining_a))) (fun h => by first | rfl | (rw [Bd.returns] at h; cases h))
  refine own_e ?_ hrun hended ⟨_, _, rfl, ?_, ⟨_, rfl⟩, hW, hsame.mono (by decide) (by decide)⟩
  · exact retI X1 hx Bd.returns (hb hby d12_4) hr
  · show Q_rm12 Z a w_remaining_a h0 n0 _ T1.heap _
    rw [e1]
    exact ⟨rfl, N0, rfl⟩
theorem d13_0 : decode prog_4_method_14_code 0 = .ok (.aload_n 0, 1) := by decide +kernel
theorem d13_1 : decode prog_4_method_14_code 1 = .ok (.getfield 73, 3) := by decide +kernel
theorem d13_4 : decode prog_4_method_14_code 4 = .ok (.ireturn, 1) := by decide +kernel
theorem ef_rm13 (m : MethodId) (a : Addr) : entryFrame m #[(.ref a)] 1 = mkF m 0 #[.val (.ref a)] [] := by first | (simp [entryFrame, mkF, argsToLocals, Value.category]; done) | rfl
def Q_rm13 (Z : State) (a : Addr) (w_madeWithoutStore_a : Int32) (h0 : Heap) (n0 : Nat) (v : Option Value) (h : Heap) (L : List Loc) : Prop := v = some (.int (nar .boolean w_madeWithoutStore_a)) ∧ Fr n0 L ∧ h = h0
set_option maxRecDepth 65536 in
set_option maxHeartbeats 40000000 in
theorem rm13 (l : Launch) (Z : State) (a0 : Array Value) (hw : ∀ d ∈ tables_1, d.before a0 Z = true) (ws : List Jvm.Cond) (a : Addr) (w_madeWithoutStore_a : Int32) (h0 : Heap) (n0 : Nat) (O0 : Old Z n0 h0) (F_madeWithoutStore_a : Fld Z h0 a "com/example/throttle/throttle/Decision" "madeWithoutStore" "Z" (.int w_madeWithoutStore_a)) :
    MetFree l (⟨"com/example/throttle/throttle/Decision", "madeWithoutStore", "()Z"⟩ : MethodName) (head1 (Jvm.Cond.code (⟨"com/example/throttle/throttle/Decision", "madeWithoutStore", "()Z"⟩ : MethodName) prog_4_method_14_code 1 (some .boolean) :: ws) ({ frames := 0, cells := 0, slots := 0, locals := 0 } : Room)) (fun aa_ U => aa_ = #[(.ref a)] ∧ Z.Warmed39 U.vm ∧ U.heap = h0) (fun _ _ _ _ _ => True) (fun _ U oo_ U' => ∃ vv_ LL_, oo_ = .returned vv_ ∧ Q_rm13 Z a w_madeWithoutStore_a h0 n0 vv_ U'.heap LL_ ∧ FrameEnd U oo_ U' LL_ ({ frames := 0, cells := 0, slots := 0, locals := 0 } : Room).cells ({ frames := 0, cells := 0, slots := 0, locals := 0 } : Room).slots) := by
  refine MetFree.of_bodySF (plainFor_of_name pn_com_example_throttle_throttle_Decision) hisR ?_
  intro p e s m args below meth c s₁ Bd hml0 hP hK
  obtain ⟨rfl, hZ, hh⟩ := hP
  have hx := Bd.exec
  have hby := Bd.bytes
  have hml : c.maxLocals = 1 := hml0
  have hown : s.vm.findClass "com/example/throttle/throttle/Decision" = some m.cls := findClass_of_methodNamed Bd.named
  have hnm := (name_of_methodNamed Bd.named Bd.method).1
  have X0 : Stand p l e ({ frames := 0, cells := 0, slots := 0, locals := 0 } : Room) s m #[(.ref a)] below meth c s₁ [] 0 0 := Stand.of_body Bd
  have e0 : s₁.heap = h0 := by rw [← hh, Bd.state]; rfl
  have N0 := Fr.nil n0
  have K0 : Keep h0 h0 [] := Keep.refl h0 _
  refine own_i (own_s (fun t k => castTop (ef_rm13 m a) k) ?_)
  show Go p.tables e below _ (s₁.setTop (mkF m 0 #[.val (.ref a)] []))
  refine own_s (fun t k => XS.aloadN X0.here hx rfl (hb hby d13_0) rfl rfl k) ?_
  show Go p.tables e below _ (s₁.setTop (mkF m 1 #[.val (.ref a)] [(.ref a)]))
  obtain ⟨T1, X1, e1, st1⟩ := getF X0 hx hZ hown (host := "") (Or.inl (hw _ (List.mem_of_getElem? (i := 70) rfl))) Via.refl e0 F_madeWithoutStore_a (g := (mkF m 1 #[.val (.ref a)] [(.ref a)])) rfl rfl (hb hby d13_1)
  refine own_s st1 ?_
  show Go p.tables e below _ (T1.setTop (mkF m 4 #[.val (.ref a)] [(.int w_madeWithoutStore_a)]))
  obtain ⟨fs, hr, hrun, hended, hW, hsame⟩ := X1.leave (v := (some (.int (nar .boolean w_madeWithoutStore_a)))) (fun h => by first | rfl | (rw [Bd.returns] at h; cases h))
  refine own_e ?_ hrun hended ⟨_, _, rfl, ?_, ⟨_, rfl⟩, hW, hsame.mono (by decide) (by decide)⟩
  · exact retN X1 hx (t := .boolean) Bd.returns (by simp) (hb hby d13_4) hr
  · show Q_rm13 Z a w_madeWithoutStore_a h0 n0 _ T1.heap _
    rw [e1]
    exact ⟨rfl, N0, rfl⟩
theorem d14_0 : decode prog_4_method_15_code 0 = .ok (.aload_n 0, 1) := by decide +kernel
theorem d14_1 : decode prog_4_method_15_code 1 = .ok (.getfield 76, 3) := by decide +kernel
theorem d14_4 : decode prog_4_method_15_code 4 = .ok (.ireturn, 1) := by decide +kernel
theorem ef_rm14 (m : MethodId) (a : Addr) : entryFrame m #[(.ref a)] 1 = mkF m 0 #[.val (.ref a)] [] := by first | (simp [entryFrame, mkF, argsToLocals, Value.category]; done) | rfl
def Q_rm14 (Z : State) (a : Addr) (w_refusals_a : Int32) (h0 : Heap) (n0 : Nat) (v : Option Value) (h : Heap) (L : List Loc) : Prop := v = some (.int w_refusals_a) ∧ Fr n0 L ∧ h = h0
set_option maxRecDepth 65536 in
set_option maxHeartbeats 40000000 in
theorem rm14 (l : Launch) (Z : State) (a0 : Array Value) (hw : ∀ d ∈ tables_1, d.before a0 Z = true) (ws : List Jvm.Cond) (a : Addr) (w_refusals_a : Int32) (h0 : Heap) (n0 : Nat) (O0 : Old Z n0 h0) (F_refusals_a : Fld Z h0 a "com/example/throttle/throttle/Decision" "refusals" "I" (.int w_refusals_a)) :
    MetFree l (⟨"com/example/throttle/throttle/Decision", "refusals", "()I"⟩ : MethodName) (head1 (Jvm.Cond.code (⟨"com/example/throttle/throttle/Decision", "refusals", "()I"⟩ : MethodName) prog_4_method_15_code 1 (some .int) :: ws) ({ frames := 0, cells := 0, slots := 0, locals := 0 } : Room)) (fun aa_ U => aa_ = #[(.ref a)] ∧ Z.Warmed39 U.vm ∧ U.heap = h0) (fun _ _ _ _ _ => True) (fun _ U oo_ U' => ∃ vv_ LL_, oo_ = .returned vv_ ∧ Q_rm14 Z a w_refusals_a h0 n0 vv_ U'.heap LL_ ∧ FrameEnd U oo_ U' LL_ ({ frames := 0, cells := 0, slots := 0, locals := 0 } : Room).cells ({ frames := 0, cells := 0, slots := 0, locals := 0 } : Room).slots) := by
  refine MetFree.of_bodySF (plainFor_of_name pn_com_example_throttle_throttle_Decision) hisR ?_
  intro p e s m args below meth c s₁ Bd hml0 hP hK
  obtain ⟨rfl, hZ, hh⟩ := hP
  have hx := Bd.exec
  have hby := Bd.bytes
  have hml : c.maxLocals = 1 := hml0
  have hown : s.vm.findClass "com/example/throttle/throttle/Decision" = some m.cls := findClass_of_methodNamed Bd.named
  have hnm := (name_of_methodNamed Bd.named Bd.method).1
  have X0 : Stand p l e ({ frames := 0, cells := 0, slots := 0, locals := 0 } : Room) s m #[(.ref a)] below meth c s₁ [] 0 0 := Stand.of_body Bd
  have e0 : s₁.heap = h0 := by rw [← hh, Bd.state]; rfl
  have N0 := Fr.nil n0
  have K0 : Keep h0 h0 [] := Keep.refl h0 _
  refine own_i (own_s (fun t k => castTop (ef_rm14 m a) k) ?_)
  show Go p.tables e below _ (s₁.setTop (mkF m 0 #[.val (.ref a)] []))
  refine own_s (fun t k => XS.aloadN X0.here hx rfl (hb hby d14_0) rfl rfl k) ?_
  show Go p.tables e below _ (s₁.setTop (mkF m 1 #[.val (.ref a)] [(.ref a)]))
  obtain ⟨T1, X1, e1, st1⟩ := getF X0 hx hZ hown (host := "") (Or.inl (hw _ (List.mem_of_getElem? (i := 72) rfl))) Via.refl e0 F_refusals_a (g := (mkF m 1 #[.val (.ref a)] [(.ref a)])) rfl rfl (hb hby d14_1)
  refine own_s st1 ?_
  show Go p.tables e below _ (T1.setTop (mkF m 4 #[.val (.ref a)] [(.int w_refusals_a)]))
  obtain ⟨fs, hr, hrun, hended, hW, hsame⟩ := X1.leave (v := (some (.int w_refusals_a))) (fun h => by first | rfl | (rw [Bd.returns] at h; cases h))
  refine own_e ?_ hrun hended ⟨_, _, rfl, ?_, ⟨_, rfl⟩, hW, hsame.mono (by decide) (by decide)⟩
  · exact retI X1 hx Bd.returns (hb hby d14_4) hr
  · show Q_rm14 Z a w_refusals_a h0 n0 _ T1.heap _
    rw [e1]
    exact ⟨rfl, N0, rfl⟩
theorem d15_0 : decode prog_4_method_16_code 0 = .ok (.aload_n 0, 1) := by decide +kernel
theorem d15_1 : decode prog_4_method_16_code 1 = .ok (.getfield 79, 3) := by decide +kernel
theorem d15_4 : decode prog_4_method_16_code 4 = .ok (.ireturn, 1) := by decide +kernel
theorem ef_rm15 (m : MethodId) (a : Addr) : entryFrame m #[(.ref a)] 1 = mkF m 0 #[.val (.ref a)] [] := by first | (simp [entryFrame, mkF, argsToLocals, Value.category]; done) | rfl
def Q_rm15 (Z : State) (a : Addr) (w_warning_a : Int32) (h0 : Heap) (n0 : Nat) (v : Option Value) (h : Heap) (L : List Loc) : Prop := v = some (.int (nar .boolean w_warning_a)) ∧ Fr n0 L ∧ h = h0
set_option maxRecDepth 65536 in
set_option maxHeartbeats 40000000 in
theorem rm15 (l : Launch) (Z : State) (a0 : Array Value) (hw : ∀ d ∈ tables_1, d.before a0 Z = true) (ws : List Jvm.Cond) (a : Addr) (w_warning_a : Int32) (h0 : Heap) (n0 : Nat) (O0 : Old Z n0 h0) (F_warning_a : Fld Z h0 a "com/example/throttle/throttle/Decision" "warning" "Z" (.int w_warning_a)) :
    MetFree l (⟨"com/example/throttle/throttle/Decision", "warning", "()Z"⟩ : MethodName) (head1 (Jvm.Cond.code (⟨"com/example/throttle/throttle/Decision", "warning", "()Z"⟩ : MethodName) prog_4_method_16_code 1 (some .boolean) :: ws) ({ frames := 0, cells := 0, slots := 0, locals := 0 } : Room)) (fun aa_ U => aa_ = #[(.ref a)] ∧ Z.Warmed39 U.vm ∧ U.heap = h0) (fun _ _ _ _ _ => True) (fun _ U oo_ U' => ∃ vv_ LL_, oo_ = .returned vv_ ∧ Q_rm15 Z a w_warning_a h0 n0 vv_ U'.heap LL_ ∧ FrameEnd U oo_ U' LL_ ({ frames := 0, cells := 0, slots := 0, locals := 0 } : Room).cells ({ frames := 0, cells := 0, slots := 0, locals := 0 } : Room).slots) := by
  refine MetFree.of_bodySF (plainFor_of_name pn_com_example_throttle_throttle_Decision) hisR ?_
  intro p e s m args below meth c s₁ Bd hml0 hP hK
  obtain ⟨rfl, hZ, hh⟩ := hP
  have hx := Bd.exec
  have hby := Bd.bytes
  have hml : c.maxLocals = 1 := hml0
  have hown : s.vm.findClass "com/example/throttle/throttle/Decision" = some m.cls := findClass_of_methodNamed Bd.named
  have hnm := (name_of_methodNamed Bd.named Bd.method).1
  have X0 : Stand p l e ({ frames := 0, cells := 0, slots := 0, locals := 0 } : Room) s m #[(.ref a)] below meth c s₁ [] 0 0 := Stand.of_body Bd
  have e0 : s₁.heap = h0 := by rw [← hh, Bd.state]; rfl
  have N0 := Fr.nil n0
  have K0 : Keep h0 h0 [] := Keep.refl h0 _
  refine own_i (own_s (fun t k => castTop (ef_rm15 m a) k) ?_)
  show Go p.tables e below _ (s₁.setTop (mkF m 0 #[.val (.ref a)] []))
  refine own_s (fun t k => XS.aloadN X0.here hx rfl (hb hby d15_0) rfl rfl k) ?_
  show Go p.tables e below _ (s₁.setTop (mkF m 1 #[.val (.ref a)] [(.ref a)]))
  obtain ⟨T1, X1, e1, st1⟩ := getF X0 hx hZ hown (host := "") (Or.inl (hw _ (List.mem_of_getElem? (i := 74) rfl))) Via.refl e0 F_warning_a (g := (mkF m 1 #[.val (.ref a)] [(.ref a)])) rfl rfl (hb hby d15_1)
  refine own_s st1 ?_
  show Go p.tables e below _ (T1.setTop (mkF m 4 #[.val (.ref a)] [(.int w_warning_a)]))
  obtain ⟨fs, hr, hrun, hended, hW, hsame⟩ := X1.leave (v := (some (.int (nar .boolean w_warning_a)))) (fun h => by first | rfl | (rw [Bd.returns] at h; cases h))
  refine own_e ?_ hrun hended ⟨_, _, rfl, ?_, ⟨_, rfl⟩, hW, hsame.mono (by decide) (by decide)⟩
  · exact retN X1 hx (t := .boolean) Bd.returns (by simp) (hb hby d15_4) hr
  · show Q_rm15 Z a w_warning_a h0 n0 _ T1.heap _
    rw [e1]
    exact ⟨rfl, N0, rfl⟩
theorem d16_0 : decode prog_4_method_17_code 0 = .ok (.aload_n 0, 1) := by decide +kernel
theorem d16_1 : decode prog_4_method_17_code 1 = .ok (.getfield 82, 3) := by decide +kernel
theorem d16_4 : decode prog_4_method_17_code 4 = .ok (.ireturn, 1) := by decide +kernel
theorem ef_rm16 (m : MethodId) (a : Addr) : entryFrame m #[(.ref a)] 1 = mkF m 0 #[.val (.ref a)] [] := by first | (simp [entryFrame, mkF, argsToLocals, Value.category]; done) | rfl
def Q_rm16 (Z : State) (a : Addr) (w_banned_a : Int32) (h0 : Heap) (n0 : Nat) (v : Option Value) (h : Heap) (L : List Loc) : Prop := v = some (.int (nar .boolean w_banned_a)) ∧ Fr n0 L ∧ h = h0
set_option maxRecDepth 65536 in
set_option maxHeartbeats 40000000 in
theorem rm16 (l : Launch) (Z : State) (a0 : Array Value) (hw : ∀ d ∈ tables_1, d.before a0 Z = true) (ws : List Jvm.Cond) (a : Addr) (w_banned_a : Int32) (h0 : Heap) (n0 : Nat) (O0 : Old Z n0 h0) (F_banned_a : Fld Z h0 a "com/example/throttle/throttle/Decision" "banned" "Z" (.int w_banned_a)) :
    MetFree l (⟨"com/example/throttle/throttle/Decision", "banned", "()Z"⟩ : MethodName) (head1 (Jvm.Cond.code (⟨"com/example/throttle/throttle/Decision", "banned", "()Z"⟩ : MethodName) prog_4_method_17_code 1 (some .boolean) :: ws) ({ frames := 0, cells := 0, slots := 0, locals := 0 } : Room)) (fun aa_ U => aa_ = #[(.ref a)] ∧ Z.Warmed39 U.vm ∧ U.heap = h0) (fun _ _ _ _ _ => True) (fun _ U oo_ U' => ∃ vv_ LL_, oo_ = .returned vv_ ∧ Q_rm16 Z a w_banned_a h0 n0 vv_ U'.heap LL_ ∧ FrameEnd U oo_ U' LL_ ({ frames := 0, cells := 0, slots := 0, locals := 0 } : Room).cells ({ frames := 0, cells := 0, slots := 0, locals := 0 } : Room).slots) := by
  refine MetFree.of_bodySF (plainFor_of_name pn_com_example_throttle_throttle_Decision) hisR ?_
  intro p e s m args below meth c s₁ Bd hml0 hP hK
  obtain ⟨rfl, hZ, hh⟩ := hP
  have hx := Bd.exec
  have hby := Bd.bytes
  have hml : c.maxLocals = 1 := hml0
  have hown : s.vm.findClass "com/example/throttle/throttle/Decision" = some m.cls := findClass_of_methodNamed Bd.named
  have hnm := (name_of_methodNamed Bd.named Bd.method).1
  have X0 : Stand p l e ({ frames := 0, cells := 0, slots := 0, locals := 0 } : Room) s m #[(.ref a)] below meth c s₁ [] 0 0 := Stand.of_body Bd
  have e0 : s₁.heap = h0 := by rw [← hh, Bd.state]; rfl
  have N0 := Fr.nil n0
  have K0 : Keep h0 h0 [] := Keep.refl h0 _
  refine own_i (own_s (fun t k => castTop (ef_rm16 m a) k) ?_)
  show Go p.tables e below _ (s₁.setTop (mkF m 0 #[.val (.ref a)] []))
  refine own_s (fun t k => XS.aloadN X0.here hx rfl (hb hby d16_0) rfl rfl k) ?_
  show Go p.tables e below _ (s₁.setTop (mkF m 1 #[.val (.ref a)] [(.ref a)]))
  obtain ⟨T1, X1, e1, st1⟩ := getF X0 hx hZ hown (host := "") (Or.inl (hw _ (List.mem_of_getElem? (i := 76) rfl))) Via.refl e0 F_banned_a (g := (mkF m 1 #[.val (.ref a)] [(.ref a)])) rfl rfl (hb hby d16_1)
  refine own_s st1 ?_
  show Go p.tables e below _ (T1.setTop (mkF m 4 #[.val (.ref a)] [(.int w_banned_a)]))
  obtain ⟨fs, hr, hrun, hended, hW, hsame⟩ := X1.leave (v := (some (.int (nar .boolean w_banned_a)))) (fun h => by first | rfl | (rw [Bd.returns] at h; cases h))
  refine own_e ?_ hrun hended ⟨_, _, rfl, ?_, ⟨_, rfl⟩, hW, hsame.mono (by decide) (by decide)⟩
  · exact retN X1 hx (t := .boolean) Bd.returns (by simp) (hb hby d16_4) hr
  · show Q_rm16 Z a w_banned_a h0 n0 _ T1.heap _
    rw [e1]
    exact ⟨rfl, N0, rfl⟩
theorem d4_0 : decode prog_4_method_1_code 0 = .ok (.aload_n 0, 1) := by decide +kernel
theorem d4_1 : decode prog_4_method_1_code 1 = .ok (.invokespecial 1, 3) := by decide +kernel
theorem pd___V : parseMethodDescriptor "()V" = some ⟨[], none⟩ := by decide +kernel
theorem d4_4 : decode prog_4_method_1_code 4 = .ok (.aload_n 3, 1) := by decide +kernel
theorem d4_5 : decode prog_4_method_1_code 5 = .ok (.ldc 7, 2) := by decide +kernel
theorem d4_7 : decode prog_4_method_1_code 7 = .ok (.invokestatic 9, 3) := by decide +kernel
theorem pd__Ljava_lang_Object_Ljava_lang_String__Ljava_lang_Object_ : parseMethodDescriptor "(Ljava/lang/Object;Ljava/lang/String;)Ljava/lang/Object;" = some ⟨[(.object "java/lang/Object"), (.object "java/lang/String")], some (.object "java/lang/Object")⟩ := by decide +kernel
theorem d4_10 : decode prog_4_method_1_code 10 = .ok (.pop, 1) := by decide +kernel
theorem d4_11 : decode prog_4_method_1_code 11 = .ok (.aload 4, 2) := by decide +kernel
theorem d4_13 : decode prog_4_method_1_code 13 = .ok (.ldc 15, 2) := by decide +kernel
theorem d4_15 : decode prog_4_method_1_code 15 = .ok (.invokestatic 9, 3) := by decide +kernel
theorem d4_18 : decode prog_4_method_1_code 18 = .ok (.pop, 1) := by decide +kernel
theorem d4_19 : decode prog_4_method_1_code 19 = .ok (.iload_n 2, 1) := by decide +kernel
theorem d4_20 : decode prog_4_method_1_code 20 = .ok (.ifCond .lt 15, 3) := by decide +kernel
theorem d4_23 : decode prog_4_method_1_code 23 = .ok (.aload_n 3, 1) := by decide +kernel
theorem d4_24 : decode prog_4_method_1_code 24 = .ok (.invokevirtual 17, 3) := by decide +kernel
theorem pd___Z : parseMethodDescriptor "()Z" = some ⟨[], some .boolean⟩ := by decide +kernel
theorem d4_27 : decode prog_4_method_1_code 27 = .ok (.ifCond .ne 8, 3) := by decide +kernel
theorem d4_30 : decode prog_4_method_1_code 30 = .ok (.iload 6, 2) := by decide +kernel
theorem d4_32 : decode prog_4_method_1_code 32 = .ok (.ifCond .ge 23, 3) := by decide +kernel
theorem d4_55 : decode prog_4_method_1_code 55 = .ok (.iload_n 1, 1) := by decide +kernel
theorem d4_56 : decode prog_4_method_1_code 56 = .ok (.ifCond .eq 28, 3) := by decide +kernel
theorem d4_59 : decode prog_4_method_1_code 59 = .ok (.aload_n 3, 1) := by decide +kernel
theorem d4_60 : decode prog_4_method_1_code 60 = .ok (.invokevirtual 38, 3) := by decide +kernel
theorem d4_63 : decode prog_4_method_1_code 63 = .ok (.ifCond .eq 11, 3) := by decide +kernel
theorem d4_66 : decode prog_4_method_1_code 66 = .ok (.aload 4, 2) := by decide +kernel
theorem d4_68 : decode prog_4_method_1_code 68 = .ok (.invokevirtual 41, 3) := by decide +kernel
theorem d4_71 : decode prog_4_method_1_code 71 = .ok (.ifCond .eq 13, 3) := by decide +kernel
theorem d4_84 : decode prog_4_method_1_code 84 = .ok (.iload_n 1, 1) := by decide +kernel
theorem d4_85 : decode prog_4_method_1_code 85 = .ok (.ifCond .ne 25, 3) := by decide +kernel
theorem d4_110 : decode prog_4_method_1_code 110 = .ok (.iload 6, 2) := by decide +kernel
theorem d4_112 : decode prog_4_method_1_code 112 = .ok (.ifCond .gt 13, 3) := by decide +kernel
theorem d4_115 : decode prog_4_method_1_code 115 = .ok (.iload 7, 2) := by decide +kernel
theorem d4_117 : decode prog_4_method_1_code 117 = .ok (.ifCond .ne 8, 3) := by decide +kernel
theorem d4_120 : decode prog_4_method_1_code 120 = .ok (.iload 8, 2) := by decide +kernel
theorem d4_122 : decode prog_4_method_1_code 122 = .ok (.ifCond .eq 7, 3) := by decide +kernel
theorem d4_129 : decode prog_4_method_1_code 129 = .ok (.iconst 0, 1) := by decide +kernel
theorem d4_130 : decode prog_4_method_1_code 130 = .ok (.istore 9, 2) := by decide +kernel
theorem d4_132 : decode prog_4_method_1_code 132 = .ok (.iload 9, 2) := by decide +kernel
theorem d4_134 : decode prog_4_method_1_code 134 = .ok (.ifCond .eq 22, 3) := by decide +kernel
theorem d4_156 : decode prog_4_method_1_code 156 = .ok (.iload 7, 2) := by decide +kernel
theorem d4_158 : decode prog_4_method_1_code 158 = .ok (.ifCond .eq 8, 3) := by decide +kernel
theorem d4_166 : decode prog_4_method_1_code 166 = .ok (.iload 8, 2) := by decide +kernel
theorem d4_168 : decode prog_4_method_1_code 168 = .ok (.ifCond .eq 23, 3) := by decide +kernel
theorem d4_191 : decode prog_4_method_1_code 191 = .ok (.aload_n 0, 1) := by decide +kernel
theorem d4_192 : decode prog_4_method_1_code 192 = .ok (.iload_n 1, 1) := by decide +kernel
theorem d4_193 : decode prog_4_method_1_code 193 = .ok (.putfield 57, 3) := by decide +kernel
theorem d4_196 : decode prog_4_method_1_code 196 = .ok (.aload_n 0, 1) := by decide +kernel
theorem d4_197 : decode prog_4_method_1_code 197 = .ok (.iload_n 2, 1) := by decide +kernel
theorem d4_198 : decode prog_4_method_1_code 198 = .ok (.putfield 63, 3) := by decide +kernel
theorem d4_201 : decode prog_4_method_1_code 201 = .ok (.aload_n 0, 1) := by decide +kernel
theorem d4_202 : decode prog_4_method_1_code 202 = .ok (.aload_n 3, 1) := by decide +kernel
theorem d4_203 : decode prog_4_method_1_code 203 = .ok (.putfield 67, 3) := by decide +kernel
theorem d4_206 : decode prog_4_method_1_code 206 = .ok (.aload_n 0, 1) := by decide +kernel
theorem d4_207 : decode prog_4_method_1_code 207 = .ok (.aload 4, 2) := by decide +kernel
theorem d4_209 : decode prog_4_method_1_code 209 = .ok (.putfield 70, 3) := by decide +kernel
theorem d4_212 : decode prog_4_method_1_code 212 = .ok (.aload_n 0, 1) := by decide +kernel
theorem d4_213 : decode prog_4_method_1_code 213 = .ok (.iload 5, 2) := by decide +kernel
theorem d4_215 : decode prog_4_method_1_code 215 = .ok (.putfield 73, 3) := by decide +kernel
theorem d4_218 : decode prog_4_method_1_code 218 = .ok (.aload_n 0, 1) := by decide +kernel
theorem d4_219 : decode prog_4_method_1_code 219 = .ok (.iload 6, 2) := by decide +kernel
theorem d4_221 : decode prog_4_method_1_code 221 = .ok (.putfield 76, 3) := by decide +kernel
theorem d4_224 : decode prog_4_method_1_code 224 = .ok (.aload_n 0, 1) := by decide +kernel
theorem d4_225 : decode prog_4_method_1_code 225 = .ok (.iload 7, 2) := by decide +kernel
theorem d4_227 : decode prog_4_method_1_code 227 = .ok (.putfield 79, 3) := by decide +kernel
theorem d4_230 : decode prog_4_method_1_code 230 = .ok (.aload_n 0, 1) := by decide +kernel
theorem d4_231 : decode prog_4_method_1_code 231 = .ok (.iload 8, 2) := by decide +kernel
theorem d4_233 : decode prog_4_method_1_code 233 = .ok (.putfield 82, 3) := by decide +kernel
theorem d4_236 : decode prog_4_method_1_code 236 = .ok (.return_, 1) := by decide +kernel
theorem ef_rm4 (m : MethodId) (a : Addr) (pr : Int32) (d : Addr) (oi : Addr) : entryFrame m #[(.ref a), (.int (1 : Int32)), (.int pr), (.ref d), (.ref oi), (.int (0 : Int32)), (.int (0 : Int32)), (.int (0 : Int32)), (.int (0 : Int32))] 10 = mkF m 0 #[.val (.ref a), .val (.int (1 : Int32)), .val (.int pr), .val (.ref d), .val (.ref oi), .val (.int (0 : Int32)), .val (.int (0 : Int32)), .val (.int (0 : Int32)), .val (.int (0 : Int32)), .unset] [] := by first | (simp [entryFrame, mkF, argsToLocals, Value.category]; done) | rfl
def Q_rm4 (Z : State) (a : Addr) (pr : Int32) (d : Addr) (oi : Addr) (u_admitted_a : Value) (u_remaining_a : Value) (u_retryAfter_a : Value) (u_refusingLimit_a : Value) (u_madeWithoutStore_a : Value) (u_refusals_a : Value) (u_warning_a : Value) (u_banned_a : Value) (h0 : Heap) (n0 : Nat) (v : Option Value) (h : Heap) (L : List Loc) : Prop := v = none ∧ Fr n0 L ∧ Keep h0 h [a] ∧ Exa Z h a "com/example/throttle/throttle/Decision" ∧ Fld Z h a "com/example/throttle/throttle/Decision" "admitted" "Z" (.int (1 : Int32)) ∧ Fld Z h a "com/example/throttle/throttle/Decision" "remaining" "I" (.int pr) ∧ Fld Z h a "com/example/throttle/throttle/Decision" "retryAfter" "Ljava/time/Duration;" (.ref d) ∧ Fld Z h a "com/example/throttle/throttle/Decision" "refusingLimit" "Ljava/util/OptionalInt;" (.ref oi) ∧ Fld Z h a "com/example/throttle/throttle/Decision" "madeWithoutStore" "Z" (.int (0 : Int32)) ∧ Fld Z h a "com/example/throttle/throttle/Decision" "refusals" "I" (.int (0 : Int32)) ∧ Fld Z h a "com/example/throttle/throttle/Decision" "warning" "Z" (.int (0 : Int32)) ∧ Fld Z h a "com/example/throttle/throttle/Decision" "banned" "Z" (.int (0 : Int32))
set_option maxRecDepth 65536 in
set_option maxHeartbeats 40000000 in
theorem rm4 (l : Launch) (Z : State) (a0 : Array Value) (hw : ∀ d ∈ tables_1, d.before a0 Z = true) (ws : List Jvm.Cond) (a : Addr) (pr : Int32) (d : Addr) (oi : Addr) (u_admitted_a : Value) (u_remaining_a : Value) (u_retryAfter_a : Value) (u_refusingLimit_a : Value) (u_madeWithoutStore_a : Value) (u_refusals_a : Value) (u_warning_a : Value) (u_banned_a : Value) (h0 : Heap) (n0 : Nat) (O0 : Old Z n0 h0) (F_s : Fld Z h0 d "java/time/Duration" "seconds" "J" (.long (0 : Int64))) (F_n : Fld Z h0 d "java/time/Duration" "nanos" "I" (.int (0 : Int32))) (E_d : Exa Z h0 d "java/time/Duration") (F_p : Fld Z h0 oi "java/util/OptionalInt" "isPresent" "Z" (.int (0 : Int32))) (E_oi : Exa Z h0 oi "java/util/OptionalInt") (E_a : Exa Z h0 a "com/example/throttle/throttle/Decision") (hp : ¬ (pr < (0 : Int32))) (F_admitted_a : Fld Z h0 a "com/example/throttle/throttle/Decision" "admitted" "Z" u_admitted_a) (g_a : n0 ≤ a) (F_remaining_a : Fld Z h0 a "com/example/throttle/throttle/Decision" "remaining" "I" u_remaining_a) (F_retryAfter_a : Fld Z h0 a "com/example/throttle/throttle/Decision" "retryAfter" "Ljava/time/Duration;" u_retryAfter_a) (F_refusingLimit_a : Fld Z h0 a "com/example/throttle/throttle/Decision" "refusingLimit" "Ljava/util/OptionalInt;" u_refusingLimit_a) (F_madeWithoutStore_a : Fld Z h0 a "com/example/throttle/throttle/Decision" "madeWithoutStore" "Z" u_madeWithoutStore_a) (F_refusals_a : Fld Z h0 a "com/example/throttle/throttle/Decision" "refusals" "I" u_refusals_a) (F_warning_a : Fld Z h0 a "com/example/throttle/throttle/Decision" "warning" "Z" u_warning_a) (F_banned_a : Fld Z h0 a "com/example/throttle/throttle/Decision" "banned" "Z" u_banned_a) :
    MetFree l (⟨"com/example/throttle/throttle/Decision", "<init>", "(ZILjava/time/Duration;Ljava/util/OptionalInt;ZIZZ)V"⟩ : MethodName) (head1 (Jvm.Cond.code (⟨"com/example/throttle/throttle/Decision", "<init>", "(ZILjava/time/Duration;Ljava/util/OptionalInt;ZIZZ)V"⟩ : MethodName) prog_4_method_1_code 10 none :: ws) ({ frames := 2, cells := 4, slots := 100, locals := 24 } : Room)) (fun aa_ U => aa_ = #[(.ref a), (.int (1 : Int32)), (.int pr), (.ref d), (.ref oi), (.int (0 : Int32)), (.int (0 : Int32)), (.int (0 : Int32)), (.int (0 : Int32))] ∧ Z.Warmed39 U.vm ∧ U.heap = h0) (fun _ _ _ _ _ => True) (fun _ U oo_ U' => ∃ vv_ LL_, oo_ = .returned vv_ ∧ Q_rm4 Z a pr d oi u_admitted_a u_remaining_a u_retryAfter_a u_refusingLimit_a u_madeWithoutStore_a u_refusals_a u_warning_a u_banned_a h0 n0 vv_ U'.heap LL_ ∧ ReturnedEndW U oo_ U' LL_ ({ frames := 2, cells := 4, slots := 100, locals := 24 } : Room).cells ({ frames := 2, cells := 4, slots := 100, locals := 24 } : Room).slots) := by
  refine MetFree.of_bodySF (plainFor_of_name pn_com_example_throttle_throttle_Decision) hisR ?_
  intro p e s m args below meth c s₁ Bd hml0 hP hK
  obtain ⟨rfl, hZ, hh⟩ := hP
  have hx := Bd.exec
  have hby := Bd.bytes
  have hml : c.maxLocals = 10 := hml0
  have hown : s.vm.findClass "com/example/throttle/throttle/Decision" = some m.cls := findClass_of_methodNamed Bd.named
  have hnm := (name_of_methodNamed Bd.named Bd.method).1
  have X0 : Stand p l e ({ frames := 2, cells := 4, slots := 100, locals := 24 } : Room) (s.setVm s.vm) m #[(.ref a), (.int (1 : Int32)), (.int pr), (.ref d), (.ref oi), (.int (0 : Int32)), (.int (0 : Int32)), (.int (0 : Int32)), (.int (0 : Int32))] below meth c s₁ [] 0 0 := Stand.of_body Bd
  have e0 : s₁.heap = h0 := by rw [← hh, Bd.state]; rfl
  have N0 := Fr.nil n0
  have K0 : Keep h0 h0 [a] := Keep.refl h0 _
  have hS0 : s.Since s.vm 0 := (State.WarmedH.refl s).since 0
  refine own_i (own_s (fun t k => castTop (ef_rm4 m a pr d oi) k) ?_)
  show Go p.tables e below _ (s₁.setTop (mkF m 0 #[.val (.ref a), .val (.int (1 : Int32)), .val (.int pr), .val (.ref d), .val (.ref oi), .val (.int (0 : Int32)), .val (.int (0 : Int32)), .val (.int (0 : Int32)), .val (.int (0 : Int32)), .unset] []))
  refine own_s (fun t k => XS.aloadN X0.here hx rfl (hb hby d4_0) rfl rfl k) ?_
  show Go p.tables e below _ (s₁.setTop (mkF m 1 #[.val (.ref a), .val (.int (1 : Int32)), .val (.int pr), .val (.ref d), .val (.ref oi), .val (.int (0 : Int32)), .val (.int (0 : Int32)), .val (.int (0 : Int32)), .val (.int (0 : Int32)), .unset] [(.ref a)]))
  obtain ⟨_, _, ⟨T1, L1, k1, n1⟩, -, X1, ⟨Lc1, hQ1, l1, y1, z1⟩, st1⟩ := X0.specialBack hx (y := (⟨"java/lang/Record", "<init>", "()V"⟩ : MethodName)) rfl hown (mvT hZ (hw _ (List.mem_of_getElem? (i := 20) rfl))) (mvT hZ (hw _ (List.mem_of_getElem? (i := 21) rfl))) (mvT hZ (hw _ (List.mem_of_getElem? (i := 24) rfl))) (by decide) (backOf (W := 0) (rm5 l Z a0 hw [] a h0 n0 O0 ) hZ (hw _ (List.mem_of_getElem? (i := 24) rfl)) (hw _ (List.mem_of_getElem? (i := 23) rfl)) (by decide) (by decide)) (g := (mkF m 1 #[.val (.ref a), .val (.int (1 : Int32)), .val (.int pr), .val (.ref d), .val (.ref oi), .val (.int (0 : Int32)), .val (.int (0 : Int32)), .val (.int (0 : Int32)), .val (.int (0 : Int32)), .unset] [(.ref a)])) rfl (by rw [hml]; rfl) (Steps.refl _) (a := a) (argsL := []) (rest := []) (lenOf pd___V rfl) rfl (by show 2 * 0 + _ ≤ _; exact Nat.le_of_eq rfl) (hb hby d4_1) (fun _ _ => ⟨rfl, e0, (by decide : 0 + 0 ≤ _), (by decide : 0 + 0 ≤ _)⟩)
  dsimp only [Pt.U, Pt.locs, Pt.cells, Pt.slots] at X1 l1 y1 z1 st1 hQ1
  subst l1 y1 z1
  obtain ⟨rfl, N1q, eq1⟩ := hQ1
  have N1 := Fr.app N0 N1q
  refine own_t st1 ?_
  show Go p.tables e below _ (T1.setTop (mkF m 4 #[.val (.ref a), .val (.int (1 : Int32)), .val (.int pr), .val (.ref d), .val (.ref oi), .val (.int (0 : Int32)), .val (.int (0 : Int32)), .val (.int (0 : Int32)), .val (.int (0 : Int32)), .unset] []))
  refine own_s (fun t k => XS.aloadN X1.here hx rfl (hb hby d4_4) rfl rfl k) ?_
  show Go p.tables e below _ (T1.setTop (mkF m 5 #[.val (.ref a), .val (.int (1 : Int32)), .val (.int pr), .val (.ref d), .val (.ref oi), .val (.int (0 : Int32)), .val (.int (0 : Int32)), .val (.int (0 : Int32)), .val (.int (0 : Int32)), .unset] [(.ref d)]))
  obtain ⟨x2, T2, h2, k2, X2, e2, E2, hS2, hk2, hZ2, hown2, st2⟩ := ldcS X1 hx hZ hown (hw _ (List.mem_of_getElem? (i := 28) rfl)) (own_sa hw) eq1 hS0 (k0 := _) (Nat.zero_le _) (g := (mkF m 5 #[.val (.ref a), .val (.int (1 : Int32)), .val (.int pr), .val (.ref d), .val (.ref oi), .val (.int (0 : Int32)), .val (.int (0 : Int32)), .val (.int (0 : Int32)), .val (.int (0 : Int32)), .unset] [(.ref d)])) rfl (hb hby d4_5) (n := 40) (by decide) (by decide) (by decide) (by decide)
  refine own_s st2 ?_
  have K2 : Keep h0 h2 [a] := K0.ext E2
  show Go p.tables e below _ (T2.setTop (mkF m 7 #[.val (.ref a), .val (.int (1 : Int32)), .val (.int pr), .val (.ref d), .val (.ref oi), .val (.int (0 : Int32)), .val (.int (0 : Int32)), .val (.int (0 : Int32)), .val (.int (0 : Int32)), .unset] [(.ref x2), (.ref d)]))
  have O4 : Old Z n0 h2 := (O0.ext E2)
  obtain ⟨_, _, ⟨T3, L3, k3, n3⟩, -, X3, ⟨Lc3, hQ3, l3, y3, z3⟩, st3⟩ := Jvm.LawKit.callS X2 hx (y := (⟨"java/util/Objects", "requireNonNull", "(Ljava/lang/Object;Ljava/lang/String;)Ljava/lang/Object;"⟩ : MethodName)) hown2 (mvT hZ2 (hw _ (List.mem_of_getElem? (i := 36) rfl))) (mvT hZ2 (hw _ (List.mem_of_getElem? (i := 37) rfl))) (mvT hZ2 (hw _ (List.mem_of_getElem? (i := 38) rfl))) (mvT hZ2 (hw _ (List.mem_of_getElem? (i := 39) rfl))) (by decide) (backOf (W := 0) (rm7 l Z a0 hw [] d x2 h2 n0 O4 ) hZ2 (hw _ (List.mem_of_getElem? (i := 39) rfl)) (hw _ (List.mem_of_getElem? (i := 38) rfl)) (by decide) (by decide)) (g := (mkF m 7 #[.val (.ref a), .val (.int (1 : Int32)), .val (.int pr), .val (.ref d), .val (.ref oi), .val (.int (0 : Int32)), .val (.int (0 : Int32)), .val (.int (0 : Int32)), .val (.int (0 : Int32)), .unset] [(.ref x2), (.ref d)])) rfl (by rw [hml]; rfl) (argsL := [(.ref d), (.ref x2)]) (rest := []) (lenOf pd__Ljava_lang_Object_Ljava_lang_String__Ljava_lang_Object_ rfl) rfl (by show 2 * 0 + _ ≤ _; exact Nat.le_of_eq rfl) (hb hby d4_7) (fun _ _ => ⟨rfl, e2, (by decide : 2 + 0 ≤ _), (by decide : 44 + 0 ≤ _)⟩)
  dsimp only [Pt.U, Pt.locs, Pt.cells, Pt.slots] at X3 l3 y3 z3 st3 hQ3
  subst l3 y3 z3
  obtain ⟨rfl, N3q, eq3⟩ := hQ3
  have N3 := Fr.app N1 N3q
  refine own_s st3 ?_
  show Go p.tables e below _ (T3.setTop (mkF m 10 #[.val (.ref a), .val (.int (1 : Int32)), .val (.int pr), .val (.ref d), .val (.ref oi), .val (.int (0 : Int32)), .val (.int (0 : Int32)), .val (.int (0 : Int32)), .val (.int (0 : Int32)), .unset] [(.ref d)]))
  refine own_s (fun t k => XS.pop X3.here hx rfl (hb hby d4_10) rfl rfl k) ?_
  show Go p.tables e below _ (T3.setTop (mkF m 11 #[.val (.ref a), .val (.int (1 : Int32)), .val (.int pr), .val (.ref d), .val (.ref oi), .val (.int (0 : Int32)), .val (.int (0 : Int32)), .val (.int (0 : Int32)), .val (.int (0 : Int32)), .unset] []))
  refine own_s (fun t k => XS.aload X3.here hx rfl (hb hby d4_11) rfl rfl k) ?_
  show Go p.tables e below _ (T3.setTop (mkF m 13 #[.val (.ref a), .val (.int (1 : Int32)), .val (.int pr), .val (.ref d), .val (.ref oi), .val (.int (0 : Int32)), .val (.int (0 : Int32)), .val (.int (0 : Int32)), .val (.int (0 : Int32)), .unset] [(.ref oi)]))
  obtain ⟨x5, T5, h5, k5, X5, e5, E5, hS5, hk5, hZ5, hown5, st5⟩ := ldcS X3 hx hZ2 hown2 (hw _ (List.mem_of_getElem? (i := 40) rfl)) (own_sa hw) eq3 hS2 (k0 := _) hk2 (g := (mkF m 13 #[.val (.ref a), .val (.int (1 : Int32)), .val (.int pr), .val (.ref d), .val (.ref oi), .val (.int (0 : Int32)), .val (.int (0 : Int32)), .val (.int (0 : Int32)), .val (.int (0 : Int32)), .unset] [(.ref oi)])) rfl (hb hby d4_13) (n := 52) (by decide) (by decide) (by decide) (by decide)
  refine own_s st5 ?_
  have K5 : Keep h0 h5 [a] := K2.ext E5
  show Go p.tables e below _ (T5.setTop (mkF m 15 #[.val (.ref a), .val (.int (1 : Int32)), .val (.int pr), .val (.ref d), .val (.ref oi), .val (.int (0 : Int32)), .val (.int (0 : Int32)), .val (.int (0 : Int32)), .val (.int (0 : Int32)), .unset] [(.ref x5), (.ref oi)]))
  have O7 : Old Z n0 h5 := (O4.ext E5)
  obtain ⟨_, _, ⟨T6, L6, k6, n6⟩, -, X6, ⟨Lc6, hQ6, l6, y6, z6⟩, st6⟩ := Jvm.LawKit.callS X5 hx (y := (⟨"java/util/Objects", "requireNonNull", "(Ljava/lang/Object;Ljava/lang/String;)Ljava/lang/Object;"⟩ : MethodName)) hown5 (mvT hZ5 (hw _ (List.mem_of_getElem? (i := 36) rfl))) (mvT hZ5 (hw _ (List.mem_of_getElem? (i := 37) rfl))) (mvT hZ5 (hw _ (List.mem_of_getElem? (i := 38) rfl))) (mvT hZ5 (hw _ (List.mem_of_getElem? (i := 39) rfl))) (by decide) (backOf (W := 0) (rm7 l Z a0 hw [] oi x5 h5 n0 O7 ) hZ5 (hw _ (List.mem_of_getElem? (i := 39) rfl)) (hw _ (List.mem_of_getElem? (i := 38) rfl)) (by decide) (by decide)) (g := (mkF m 15 #[.val (.ref a), .val (.int (1 : Int32)), .val (.int pr), .val (.ref d), .val (.ref oi), .val (.int (0 : Int32)), .val (.int (0 : Int32)), .val (.int (0 : Int32)), .val (.int (0 : Int32)), .unset] [(.ref x5), (.ref oi)])) rfl (by rw [hml]; rfl) (argsL := [(.ref oi), (.ref x5)]) (rest := []) (lenOf pd__Ljava_lang_Object_Ljava_lang_String__Ljava_lang_Object_ rfl) rfl (by show 2 * 0 + _ ≤ _; exact Nat.le_of_eq rfl) (hb hby d4_15) (fun _ _ => ⟨rfl, e5, (by decide : 4 + 0 ≤ _), (by decide : 100 + 0 ≤ _)⟩)
  dsimp only [Pt.U, Pt.locs, Pt.cells, Pt.slots] at X6 l6 y6 z6 st6 hQ6
  subst l6 y6 z6
  obtain ⟨rfl, N6q, eq6⟩ := hQ6
  have N6 := Fr.app N3 N6q
  refine own_s st6 ?_
  show Go p.tables e below _ (T6.setTop (mkF m 18 #[.val (.ref a), .val (.int (1 : Int32)), .val (.int pr), .val (.ref d), .val (.ref oi), .val (.int (0 : Int32)), .val (.int (0 : Int32)), .val (.int (0 : Int32)), .val (.int (0 : Int32)), .unset] [(.ref oi)]))
  refine own_s (fun t k => XS.pop X6.here hx rfl (hb hby d4_18) rfl rfl k) ?_
  show Go p.tables e below _ (T6.setTop (mkF m 19 #[.val (.ref a), .val (.int (1 : Int32)), .val (.int pr), .val (.ref d), .val (.ref oi), .val (.int (0 : Int32)), .val (.int (0 : Int32)), .val (.int (0 : Int32)), .val (.int (0 : Int32)), .unset] []))
  refine own_s (fun t k => XS.iloadN X6.here hx rfl (hb hby d4_19) rfl k) ?_
  show Go p.tables e below _ (T6.setTop (mkF m 20 #[.val (.ref a), .val (.int (1 : Int32)), .val (.int pr), .val (.ref d), .val (.ref oi), .val (.int (0 : Int32)), .val (.int (0 : Int32)), .val (.int (0 : Int32)), .val (.int (0 : Int32)), .unset] [(.int pr)]))
  refine own_s (fun t k => XS.ifNo X6.here hx rfl (hb hby d4_20) rfl ((if0 _ _).trans (flt hp).1) k) ?_
  show Go p.tables e below _ (T6.setTop (mkF m 23 #[.val (.ref a), .val (.int (1 : Int32)), .val (.int pr), .val (.ref d), .val (.ref oi), .val (.int (0 : Int32)), .val (.int (0 : Int32)), .val (.int (0 : Int32)), .val (.int (0 : Int32)), .unset] []))
  refine own_s (fun t k => XS.aloadN X6.here hx rfl (hb hby d4_23) rfl rfl k) ?_
  show Go p.tables e below _ (T6.setTop (mkF m 24 #[.val (.ref a), .val (.int (1 : Int32)), .val (.int pr), .val (.ref d), .val (.ref oi), .val (.int (0 : Int32)), .val (.int (0 : Int32)), .val (.int (0 : Int32)), .val (.int (0 : Int32)), .unset] [(.ref d)]))
  have F9 : Fld Z h5 d "java/time/Duration" "seconds" "J" (.long (0 : Int64)) := ((F_s.ext E2).ext E5)
  have Q10 : Exa Z h5 d "java/time/Duration" := ((E_d.ext E2).ext E5)
  obtain ⟨cq8, kq8, q8a, q8b, q8c⟩ := isOf hZ5 eq6 Q10
  obtain ⟨_, _, ⟨T8, L8, k8, n8⟩, -, X8, ⟨Lc8, hQ8, l8, y8, z8⟩, st8⟩ := X6.virtualBack hx (y := (⟨"java/time/Duration", "isNegative", "()Z"⟩ : MethodName)) (z := (⟨"java/time/Duration", "isNegative", "()Z"⟩ : MethodName)) hown5 (mvT hZ5 (hw _ (List.mem_of_getElem? (i := 41) rfl))) (mvT hZ5 (hw _ (List.mem_of_getElem? (i := 42) rfl))) (notFace_of_selects (args := #[]) (mvT hZ5 (hw _ (List.mem_of_getElem? (i := 44) rfl)))) (mvT hZ5 (hw _ (List.mem_of_getElem? (i := 44) rfl))) (mvT hZ5 (hw _ (List.mem_of_getElem? (i := 43) rfl))) (by decide) (backOf (W := 0) (rm8 l Z a0 hw [] d h5 n0 O7 F9) hZ5 (hw _ (List.mem_of_getElem? (i := 45) rfl)) (hw _ (List.mem_of_getElem? (i := 8) rfl)) (by decide) (by decide)) q8a q8c (g := (mkF m 24 #[.val (.ref a), .val (.int (1 : Int32)), .val (.int pr), .val (.ref d), .val (.ref oi), .val (.int (0 : Int32)), .val (.int (0 : Int32)), .val (.int (0 : Int32)), .val (.int (0 : Int32)), .unset] [(.ref d)])) rfl (by rw [hml]; rfl) (Steps.refl _) (argsL := []) (rest := []) (lenOf pd___Z rfl) rfl (by show 2 * 0 + _ ≤ _; exact Nat.le_of_eq rfl) (hb hby d4_24) (fun _ _ => ⟨rfl, eq6, (by decide : 4 + 0 ≤ _), (by decide : 100 + 0 ≤ _)⟩)
  dsimp only [Pt.U, Pt.locs, Pt.cells, Pt.slots] at X8 l8 y8 z8 st8 hQ8
  subst l8 y8 z8
  obtain ⟨rfl, N8q, eq8⟩ := hQ8
  have N8 := Fr.app N6 N8q
  refine own_t st8 ?_
  show Go p.tables e below _ (T8.setTop (mkF m 27 #[.val (.ref a), .val (.int (1 : Int32)), .val (.int pr), .val (.ref d), .val (.ref oi), .val (.int (0 : Int32)), .val (.int (0 : Int32)), .val (.int (0 : Int32)), .val (.int (0 : Int32)), .unset] [(.int (0 : Int32))]))
  refine own_s (fun t k => XS.ifNo X8.here hx rfl (hb hby d4_27) rfl ((if0 _ _).trans (teq (by decide : (0 : Int32) = (0 : Int32))).2) k) ?_
  show Go p.tables e below _ (T8.setTop (mkF m 30 #[.val (.ref a), .val (.int (1 : Int32)), .val (.int pr), .val (.ref d), .val (.ref oi), .val (.int (0 : Int32)), .val (.int (0 : Int32)), .val (.int (0 : Int32)), .val (.int (0 : Int32)), .unset] []))
  refine own_s (fun t k => XS.iload X8.here hx rfl (hb hby d4_30) rfl k) ?_
  show Go p.tables e below _ (T8.setTop (mkF m 32 #[.val (.ref a), .val (.int (1 : Int32)), .val (.int pr), .val (.ref d), .val (.ref oi), .val (.int (0 : Int32)), .val (.int (0 : Int32)), .val (.int (0 : Int32)), .val (.int (0 : Int32)), .unset] [(.int (0 : Int32))]))
  refine own_s (fun t k => XS.ifYes X8.here hx rfl (pc0 := 32) (pc' := 55) rfl (hb hby d4_32) rfl ((if0 _ _).trans (flt (by decide : ¬ ((0 : Int32) < (0 : Int32)))).2.1) (by decide) (by decide) k) ?_
  show Go p.tables e below _ (T8.setTop (mkF m 55 #[.val (.ref a), .val (.int (1 : Int32)), .val (.int pr), .val (.ref d), .val (.ref oi), .val (.int (0 : Int32)), .val (.int (0 : Int32)), .val (.int (0 : Int32)), .val (.int (0 : Int32)), .unset] []))
  refine own_s (fun t k => XS.iloadN X8.here hx rfl (hb hby d4_55) rfl k) ?_
  show Go p.tables e below _ (T8.setTop (mkF m 56 #[.val (.ref a), .val (.int (1 : Int32)), .val (.int pr), .val (.ref d), .val (.ref oi), .val (.int (0 : Int32)), .val (.int (0 : Int32)), .val (.int (0 : Int32)), .val (.int (0 : Int32)), .unset] [(.int (1 : Int32))]))
  refine own_s (fun t k => XS.ifNo X8.here hx rfl (hb hby d4_56) rfl ((if0 _ _).trans (feq (by decide : ¬ ((1 : Int32) = (0 : Int32)))).1) k) ?_
  show Go p.tables e below _ (T8.setTop (mkF m 59 #[.val (.ref a), .val (.int (1 : Int32)), .val (.int pr), .val (.ref d), .val (.ref oi), .val (.int (0 : Int32)), .val (.int (0 : Int32)), .val (.int (0 : Int32)), .val (.int (0 : Int32)), .unset] []))
  refine own_s (fun t k => XS.aloadN X8.here hx rfl (hb hby d4_59) rfl rfl k) ?_
  show Go p.tables e below _ (T8.setTop (mkF m 60 #[.val (.ref a), .val (.int (1 : Int32)), .val (.int pr), .val (.ref d), .val (.ref oi), .val (.int (0 : Int32)), .val (.int (0 : Int32)), .val (.int (0 : Int32)), .val (.int (0 : Int32)), .unset] [(.ref d)]))
  have F12 : Fld Z h5 d "java/time/Duration" "nanos" "I" (.int (0 : Int32)) := ((F_n.ext E2).ext E5)
  obtain ⟨cq11, kq11, q11a, q11b, q11c⟩ := isOf hZ5 eq8 Q10
  obtain ⟨_, _, ⟨T11, L11, k11, n11⟩, -, X11, ⟨Lc11, hQ11, l11, y11, z11⟩, st11⟩ := X8.virtualBack hx (y := (⟨"java/time/Duration", "isZero", "()Z"⟩ : MethodName)) (z := (⟨"java/time/Duration", "isZero", "()Z"⟩ : MethodName)) hown5 (mvT hZ5 (hw _ (List.mem_of_getElem? (i := 48) rfl))) (mvT hZ5 (hw _ (List.mem_of_getElem? (i := 49) rfl))) (notFace_of_selects (args := #[]) (mvT hZ5 (hw _ (List.mem_of_getElem? (i := 51) rfl)))) (mvT hZ5 (hw _ (List.mem_of_getElem? (i := 51) rfl))) (mvT hZ5 (hw _ (List.mem_of_getElem? (i := 50) rfl))) (by decide) (backOf (W := 0) (rm9 l Z a0 hw [] d h5 n0 O7 F9 F12) hZ5 (hw _ (List.mem_of_getElem? (i := 52) rfl)) (hw _ (List.mem_of_getElem? (i := 8) rfl)) (by decide) (by decide)) q11a q11c (g := (mkF m 60 #[.val (.ref a), .val (.int (1 : Int32)), .val (.int pr), .val (.ref d), .val (.ref oi), .val (.int (0 : Int32)), .val (.int (0 : Int32)), .val (.int (0 : Int32)), .val (.int (0 : Int32)), .unset] [(.ref d)])) rfl (by rw [hml]; rfl) (Steps.refl _) (argsL := []) (rest := []) (lenOf pd___Z rfl) rfl (by show 2 * 0 + _ ≤ _; exact Nat.le_of_eq rfl) (hb hby d4_60) (fun _ _ => ⟨rfl, eq8, (by decide : 4 + 0 ≤ _), (by decide : 100 + 0 ≤ _)⟩)
  dsimp only [Pt.U, Pt.locs, Pt.cells, Pt.slots] at X11 l11 y11 z11 st11 hQ11
  subst l11 y11 z11
  obtain ⟨rfl, N11q, eq11⟩ := hQ11
  have N11 := Fr.app N8 N11q
  refine own_t st11 ?_
  show Go p.tables e below _ (T11.setTop (mkF m 63 #[.val (.ref a), .val (.int (1 : Int32)), .val (.int pr), .val (.ref d), .val (.ref oi), .val (.int (0 : Int32)), .val (.int (0 : Int32)), .val (.int (0 : Int32)), .val (.int (0 : Int32)), .unset] [(.int (1 : Int32))]))
  refine own_s (fun t k => XS.ifNo X11.here hx rfl (hb hby d4_63) rfl ((if0 _ _).trans (feq (by decide : ¬ ((1 : Int32) = (0 : Int32)))).1) k) ?_
  show Go p.tables e below _ (T11.setTop (mkF m 66 #[.val (.ref a), .val (.int (1 : Int32)), .val (.int pr), .val (.ref d), .val (.ref oi), .val (.int (0 : Int32)), .val (.int (0 : Int32)), .val (.int (0 : Int32)), .val (.int (0 : Int32)), .unset] []))
  refine own_s (fun t k => XS.aload X11.here hx rfl (hb hby d4_66) rfl rfl k) ?_
  show Go p.tables e below _ (T11.setTop (mkF m 68 #[.val (.ref a), .val (.int (1 : Int32)), .val (.int pr), .val (.ref d), .val (.ref oi), .val (.int (0 : Int32)), .val (.int (0 : Int32)), .val (.int (0 : Int32)), .val (.int (0 : Int32)), .unset] [(.ref oi)]))
  have F14 : Fld Z h5 oi "java/util/OptionalInt" "isPresent" "Z" (.int (0 : Int32)) := ((F_p.ext E2).ext E5)
  have Q15 : Exa Z h5 oi "java/util/OptionalInt" := ((E_oi.ext E2).ext E5)
  obtain ⟨cq13, kq13, q13a, q13b, q13c⟩ := isOf hZ5 eq11 Q15
  obtain ⟨_, _, ⟨T13, L13, k13, n13⟩, -, X13, ⟨Lc13, hQ13, l13, y13, z13⟩, st13⟩ := X11.virtualBack hx (y := (⟨"java/util/OptionalInt", "isPresent", "()Z"⟩ : MethodName)) (z := (⟨"java/util/OptionalInt", "isPresent", "()Z"⟩ : MethodName)) hown5 (mvT hZ5 (hw _ (List.mem_of_getElem? (i := 55) rfl))) (mvT hZ5 (hw _ (List.mem_of_getElem? (i := 56) rfl))) (notFace_of_selects (args := #[]) (mvT hZ5 (hw _ (List.mem_of_getElem? (i := 58) rfl)))) (mvT hZ5 (hw _ (List.mem_of_getElem? (i := 58) rfl))) (mvT hZ5 (hw _ (List.mem_of_getElem? (i := 57) rfl))) (by decide) (backOf (W := 0) (rm10 l Z a0 hw [] oi (0 : Int32) h5 n0 O7 F14) hZ5 (hw _ (List.mem_of_getElem? (i := 59) rfl)) (hw _ (List.mem_of_getElem? (i := 11) rfl)) (by decide) (by decide)) q13a q13c (g := (mkF m 68 #[.val (.ref a), .val (.int (1 : Int32)), .val (.int pr), .val (.ref d), .val (.ref oi), .val (.int (0 : Int32)), .val (.int (0 : Int32)), .val (.int (0 : Int32)), .val (.int (0 : Int32)), .unset] [(.ref oi)])) rfl (by rw [hml]; rfl) (Steps.refl _) (argsL := []) (rest := []) (lenOf pd___Z rfl) rfl (by show 2 * 0 + _ ≤ _; exact Nat.le_of_eq rfl) (hb hby d4_68) (fun _ _ => ⟨rfl, eq11, (by decide : 4 + 0 ≤ _), (by decide : 100 + 0 ≤ _)⟩)
  dsimp only [Pt.U, Pt.locs, Pt.cells, Pt.slots] at X13 l13 y13 z13 st13 hQ13
  subst l13 y13 z13
  obtain ⟨rfl, N13q, eq13⟩ := hQ13
  have N13 := Fr.app N11 N13q
  refine own_t st13 ?_
  show Go p.tables e below _ (T13.setTop (mkF m 71 #[.val (.ref a), .val (.int (1 : Int32)), .val (.int pr), .val (.ref d), .val (.ref oi), .val (.int (0 : Int32)), .val (.int (0 : Int32)), .val (.int (0 : Int32)), .val (.int (0 : Int32)), .unset] [(.int (0 : Int32))]))
  refine own_s (fun t k => XS.ifYes X13.here hx rfl (pc0 := 71) (pc' := 84) rfl (hb hby d4_71) rfl ((if0 _ _).trans (teq (by decide : (0 : Int32) = (0 : Int32))).1) (by decide) (by decide) k) ?_
  show Go p.tables e below _ (T13.setTop (mkF m 84 #[.val (.ref a), .val (.int (1 : Int32)), .val (.int pr), .val (.ref d), .val (.ref oi), .val (.int (0 : Int32)), .val (.int (0 : Int32)), .val (.int (0 : Int32)), .val (.int (0 : Int32)), .unset] []))
  refine own_s (fun t k => XS.iloadN X13.here hx rfl (hb hby d4_84) rfl k) ?_
  show Go p.tables e below _ (T13.setTop (mkF m 85 #[.val (.ref a), .val (.int (1 : Int32)), .val (.int pr), .val (.ref d), .val (.ref oi), .val (.int (0 : Int32)), .val (.int (0 : Int32)), .val (.int (0 : Int32)), .val (.int (0 : Int32)), .unset] [(.int (1 : Int32))]))
  refine own_s (fun t k => XS.ifYes X13.here hx rfl (pc0 := 85) (pc' := 110) rfl (hb hby d4_85) rfl ((if0 _ _).trans (feq (by decide : ¬ ((1 : Int32) = (0 : Int32)))).2) (by decide) (by decide) k) ?_
  show Go p.tables e below _ (T13.setTop (mkF m 110 #[.val (.ref a), .val (.int (1 : Int32)), .val (.int pr), .val (.ref d), .val (.ref oi), .val (.int (0 : Int32)), .val (.int (0 : Int32)), .val (.int (0 : Int32)), .val (.int (0 : Int32)), .unset] []))
  refine own_s (fun t k => XS.iload X13.here hx rfl (hb hby d4_110) rfl k) ?_
  show Go p.tables e below _ (T13.setTop (mkF m 112 #[.val (.ref a), .val (.int (1 : Int32)), .val (.int pr), .val (.ref d), .val (.ref oi), .val (.int (0 : Int32)), .val (.int (0 : Int32)), .val (.int (0 : Int32)), .val (.int (0 : Int32)), .unset] [(.int (0 : Int32))]))
  refine own_s (fun t k => XS.ifNo X13.here hx rfl (hb hby d4_112) rfl ((if0 _ _).trans (flt (by decide : ¬ ((0 : Int32) < (0 : Int32)))).2.2.1) k) ?_
  show Go p.tables e below _ (T13.setTop (mkF m 115 #[.val (.ref a), .val (.int (1 : Int32)), .val (.int pr), .val (.ref d), .val (.ref oi), .val (.int (0 : Int32)), .val (.int (0 : Int32)), .val (.int (0 : Int32)), .val (.int (0 : Int32)), .unset] []))
  refine own_s (fun t k => XS.iload X13.here hx rfl (hb hby d4_115) rfl k) ?_
  show Go p.tables e below _ (T13.setTop (mkF m 117 #[.val (.ref a), .val (.int (1 : Int32)), .val (.int pr), .val (.ref d), .val (.ref oi), .val (.int (0 : Int32)), .val (.int (0 : Int32)), .val (.int (0 : Int32)), .val (.int (0 : Int32)), .unset] [(.int (0 : Int32))]))
  refine own_s (fun t k => XS.ifNo X13.here hx rfl (hb hby d4_117) rfl ((if0 _ _).trans (teq (by decide : (0 : Int32) = (0 : Int32))).2) k) ?_
  show Go p.tables e below _ (T13.setTop (mkF m 120 #[.val (.ref a), .val (.int (1 : Int32)), .val (.int pr), .val (.ref d), .val (.ref oi), .val (.int (0 : Int32)), .val (.int (0 : Int32)), .val (.int (0 : Int32)), .val (.int (0 : Int32)), .unset] []))
  refine own_s (fun t k => XS.iload X13.here hx rfl (hb hby d4_120) rfl k) ?_
  show Go p.tables e below _ (T13.setTop (mkF m 122 #[.val (.ref a), .val (.int (1 : Int32)), .val (.int pr), .val (.ref d), .val (.ref oi), .val (.int (0 : Int32)), .val (.int (0 : Int32)), .val (.int (0 : Int32)), .val (.int (0 : Int32)), .unset] [(.int (0 : Int32))]))
  refine own_s (fun t k => XS.ifYes X13.here hx rfl (pc0 := 122) (pc' := 129) rfl (hb hby d4_122) rfl ((if0 _ _).trans (teq (by decide : (0 : Int32) = (0 : Int32))).1) (by decide) (by decide) k) ?_
  show Go p.tables e below _ (T13.setTop (mkF m 129 #[.val (.ref a), .val (.int (1 : Int32)), .val (.int pr), .val (.ref d), .val (.ref oi), .val (.int (0 : Int32)), .val (.int (0 : Int32)), .val (.int (0 : Int32)), .val (.int (0 : Int32)), .unset] []))
  refine own_s (fun t k => XS.iconst X13.here hx rfl (hb hby d4_129) k) ?_
  show Go p.tables e below _ (T13.setTop (mkF m 130 #[.val (.ref a), .val (.int (1 : Int32)), .val (.int pr), .val (.ref d), .val (.ref oi), .val (.int (0 : Int32)), .val (.int (0 : Int32)), .val (.int (0 : Int32)), .val (.int (0 : Int32)), .unset] [(.int (0 : Int32))]))
  refine own_s (fun t k => XS.istore X13.here hx rfl (hb hby d4_130) rfl (l' := #[.val (.ref a), .val (.int (1 : Int32)), .val (.int pr), .val (.ref d), .val (.ref oi), .val (.int (0 : Int32)), .val (.int (0 : Int32)), .val (.int (0 : Int32)), .val (.int (0 : Int32)), .val (.int (0 : Int32))]) rfl k) ?_
  show Go p.tables e below _ (T13.setTop (mkF m 132 #[.val (.ref a), .val (.int (1 : Int32)), .val (.int pr), .val (.ref d), .val (.ref oi), .val (.int (0 : Int32)), .val (.int (0 : Int32)), .val (.int (0 : Int32)), .val (.int (0 : Int32)), .val (.int (0 : Int32))] []))
  refine own_s (fun t k => XS.iload X13.here hx rfl (hb hby d4_132) rfl k) ?_
  show Go p.tables e below _ (T13.setTop (mkF m 134 #[.val (.ref a), .val (.int (1 : Int32)), .val (.int pr), .val (.ref d), .val (.ref oi), .val (.int (0 : Int32)), .val (.int (0 : Int32)), .val (.int (0 : Int32)), .val (.int (0 : Int32)), .val (.int (0 : Int32))] [(.int (0 : Int32))]))
  refine own_s (fun t k => XS.ifYes X13.here hx rfl (pc0 := 134) (pc' := 156) rfl (hb hby d4_134) rfl ((if0 _ _).trans (teq (by decide : (0 : Int32) = (0 : Int32))).1) (by decide) (by decide) k) ?_
  show Go p.tables e below _ (T13.setTop (mkF m 156 #[.val (.ref a), .val (.int (1 : Int32)), .val (.int pr), .val (.ref d), .val (.ref oi), .val (.int (0 : Int32)), .val (.int (0 : Int32)), .val (.int (0 : Int32)), .val (.int (0 : Int32)), .val (.int (0 : Int32))] []))
  refine own_s (fun t k => XS.iload X13.here hx rfl (hb hby d4_156) rfl k) ?_
  show Go p.tables e below _ (T13.setTop (mkF m 158 #[.val (.ref a), .val (.int (1 : Int32)), .val (.int pr), .val (.ref d), .val (.ref oi), .val (.int (0 : Int32)), .val (.int (0 : Int32)), .val (.int (0 : Int32)), .val (.int (0 : Int32)), .val (.int (0 : Int32))] [(.int (0 : Int32))]))
  refine own_s (fun t k => XS.ifYes X13.here hx rfl (pc0 := 158) (pc' := 166) rfl (hb hby d4_158) rfl ((if0 _ _).trans (teq (by decide : (0 : Int32) = (0 : Int32))).1) (by decide) (by decide) k) ?_
  show Go p.tables e below _ (T13.setTop (mkF m 166 #[.val (.ref a), .val (.int (1 : Int32)), .val (.int pr), .val (.ref d), .val (.ref oi), .val (.int (0 : Int32)), .val (.int (0 : Int32)), .val (.int (0 : Int32)), .val (.int (0 : Int32)), .val (.int (0 : Int32))] []))
  refine own_s (fun t k => XS.iload X13.here hx rfl (hb hby d4_166) rfl k) ?_
  show Go p.tables e below _ (T13.setTop (mkF m 168 #[.val (.ref a), .val (.int (1 : Int32)), .val (.int pr), .val (.ref d), .val (.ref oi), .val (.int (0 : Int32)), .val (.int (0 : Int32)), .val (.int (0 : Int32)), .val (.int (0 : Int32)), .val (.int (0 : Int32))] [(.int (0 : Int32))]))
  refine own_s (fun t k => XS.ifYes X13.here hx rfl (pc0 := 168) (pc' := 191) rfl (hb hby d4_168) rfl ((if0 _ _).trans (teq (by decide : (0 : Int32) = (0 : Int32))).1) (by decide) (by decide) k) ?_
  show Go p.tables e below _ (T13.setTop (mkF m 191 #[.val (.ref a), .val (.int (1 : Int32)), .val (.int pr), .val (.ref d), .val (.ref oi), .val (.int (0 : Int32)), .val (.int (0 : Int32)), .val (.int (0 : Int32)), .val (.int (0 : Int32)), .val (.int (0 : Int32))] []))
  refine own_s (fun t k => XS.aloadN X13.here hx rfl (hb hby d4_191) rfl rfl k) ?_
  show Go p.tables e below _ (T13.setTop (mkF m 192 #[.val (.ref a), .val (.int (1 : Int32)), .val (.int pr), .val (.ref d), .val (.ref oi), .val (.int (0 : Int32)), .val (.int (0 : Int32)), .val (.int (0 : Int32)), .val (.int (0 : Int32)), .val (.int (0 : Int32))] [(.ref a)]))
  refine own_s (fun t k => XS.iloadN X13.here hx rfl (hb hby d4_192) rfl k) ?_
  show Go p.tables e below _ (T13.setTop (mkF m 193 #[.val (.ref a), .val (.int (1 : Int32)), .val (.int pr), .val (.ref d), .val (.ref oi), .val (.int (0 : Int32)), .val (.int (0 : Int32)), .val (.int (0 : Int32)), .val (.int (0 : Int32)), .val (.int (0 : Int32))] [(.int (1 : Int32)), (.ref a)]))
  have Q16 : Exa Z h5 a "com/example/throttle/throttle/Decision" := ((E_a.ext E2).ext E5)
  have F17 : Fld Z h5 a "com/example/throttle/throttle/Decision" "admitted" "Z" u_admitted_a := ((F_admitted_a.ext E2).ext E5)
  obtain ⟨T18, h18, X18, e18, W18, st18⟩ := putFN X13 hx hZ5 hown5 (hw _ (List.mem_of_getElem? (i := 62) rfl)) Via.refl eq13 F17 Q16 (Or.inr ⟨(hw _ (List.mem_of_getElem? (i := 63) rfl)), rfl, hnm⟩) (hw _ (List.mem_of_getElem? (i := 6) rfl)) (ty := .boolean) (v' := (.int (1 : Int32))) (by decide) rfl rfl (g := (mkF m 193 #[.val (.ref a), .val (.int (1 : Int32)), .val (.int pr), .val (.ref d), .val (.ref oi), .val (.int (0 : Int32)), .val (.int (0 : Int32)), .val (.int (0 : Int32)), .val (.int (0 : Int32)), .val (.int (0 : Int32))] [(.int (1 : Int32)), (.ref a)])) rfl rfl (hb hby d4_193)
  refine own_s st18 ?_
  have K18 : Keep h0 h18 [a] := K5.wr W18 (Or.inl (List.mem_of_getElem? (i := 0) rfl))
  have N18 := Fr.snoc X18 N13 g_a
  have Fw18 := F17.same W18
  show Go p.tables e below _ (T18.setTop (mkF m 196 #[.val (.ref a), .val (.int (1 : Int32)), .val (.int pr), .val (.ref d), .val (.ref oi), .val (.int (0 : Int32)), .val (.int (0 : Int32)), .val (.int (0 : Int32)), .val (.int (0 : Int32)), .val (.int (0 : Int32))] []))
  refine own_s (fun t k => XS.aloadN X18.here hx rfl (hb hby d4_196) rfl rfl k) ?_
  show Go p.tables e below _ (T18.setTop (mkF m 197 #[.val (.ref a), .val (.int (1 : Int32)), .val (.int pr), .val (.ref d), .val (.ref oi), .val (.int (0 : Int32)), .val (.int (0 : Int32)), .val (.int (0 : Int32)), .val (.int (0 : Int32)), .val (.int (0 : Int32))] [(.ref a)]))
  refine own_s (fun t k => XS.iloadN X18.here hx rfl (hb hby d4_197) rfl k) ?_
  show Go p.tables e below _ (T18.setTop (mkF m 198 #[.val (.ref a), .val (.int (1 : Int32)), .val (.int pr), .val (.ref d), .val (.ref oi), .val (.int (0 : Int32)), .val (.int (0 : Int32)), .val (.int (0 : Int32)), .val (.int (0 : Int32)), .val (.int (0 : Int32))] [(.int pr), (.ref a)]))
  have Q19 : Exa Z h18 a "com/example/throttle/throttle/Decision" := (Q16.wr W18)
  have F20 : Fld Z h18 a "com/example/throttle/throttle/Decision" "remaining" "I" u_remaining_a := (((F_remaining_a.ext E2).ext E5).other W18 (Or.inr (slot_ne (Or.inr (hw _ (List.mem_of_getElem? (i := 65) rfl))) (Or.inr (hw _ (List.mem_of_getElem? (i := 63) rfl))) (by decide) (t := .int) (t' := .boolean) (by decide) (by decide))))
  obtain ⟨T21, h21, X21, e21, W21, st21⟩ := putF X18 hx hZ5 hown5 (host := "") (Or.inl (hw _ (List.mem_of_getElem? (i := 64) rfl))) Via.refl e18 F20 Q19 (Or.inr ⟨(hw _ (List.mem_of_getElem? (i := 65) rfl)), rfl, hnm⟩) (hw _ (List.mem_of_getElem? (i := 6) rfl)) (ty := .int) (by decide) rfl rfl (g := (mkF m 198 #[.val (.ref a), .val (.int (1 : Int32)), .val (.int pr), .val (.ref d), .val (.ref oi), .val (.int (0 : Int32)), .val (.int (0 : Int32)), .val (.int (0 : Int32)), .val (.int (0 : Int32)), .val (.int (0 : Int32))] [(.int pr), (.ref a)])) rfl rfl (hb hby d4_198)
  refine own_s st21 ?_
  have K21 : Keep h0 h21 [a] := K18.wr W21 (Or.inl (List.mem_of_getElem? (i := 0) rfl))
  have N21 := Fr.snoc X21 N18 g_a
  have Fw21 := F20.same W21
  show Go p.tables e below _ (T21.setTop (mkF m 201 #[.val (.ref a), .val (.int (1 : Int32)), .val (.int pr), .val (.ref d), .val (.ref oi), .val (.int (0 : Int32)), .val (.int (0 : Int32)), .val (.int (0 : Int32)), .val (.int (0 : Int32)), .val (.int (0 : Int32))] []))
  refine own_s (fun t k => XS.aloadN X21.here hx rfl (hb hby d4_201) rfl rfl k) ?_
  show Go p.tables e below _ (T21.setTop (mkF m 202 #[.val (.ref a), .val (.int (1 : Int32)), .val (.int pr), .val (.ref d), .val (.ref oi), .val (.int (0 : Int32)), .val (.int (0 : Int32)), .val (.int (0 : Int32)), .val (.int (0 : Int32)), .val (.int (0 : Int32))] [(.ref a)]))
  refine own_s (fun t k => XS.aloadN X21.here hx rfl (hb hby d4_202) rfl rfl k) ?_
  show Go p.tables e below _ (T21.setTop (mkF m 203 #[.val (.ref a), .val (.int (1 : Int32)), .val (.int pr), .val (.ref d), .val (.ref oi), .val (.int (0 : Int32)), .val (.int (0 : Int32)), .val (.int (0 : Int32)), .val (.int (0 : Int32)), .val (.int (0 : Int32))] [(.ref d), (.ref a)]))
  have Q22 : Exa Z h21 a "com/example/throttle/throttle/Decision" := (Q19.wr W21)
  have F23 : Fld Z h21 a "com/example/throttle/throttle/Decision" "retryAfter" "Ljava/time/Duration;" u_retryAfter_a := ((((F_retryAfter_a.ext E2).ext E5).other W18 (Or.inr (slot_ne (Or.inr (hw _ (List.mem_of_getElem? (i := 67) rfl))) (Or.inr (hw _ (List.mem_of_getElem? (i := 63) rfl))) (by decide) (t := (.object "java/time/Duration")) (t' := .boolean) (by decide) (by decide)))).other W21 (Or.inr (slot_ne (Or.inr (hw _ (List.mem_of_getElem? (i := 67) rfl))) (Or.inr (hw _ (List.mem_of_getElem? (i := 65) rfl))) (by decide) (t := (.object "java/time/Duration")) (t' := .int) (by decide) (by decide))))
  obtain ⟨T24, h24, X24, e24, W24, st24⟩ := putF X21 hx hZ5 hown5 (host := "") (Or.inl (hw _ (List.mem_of_getElem? (i := 66) rfl))) Via.refl e21 F23 Q22 (Or.inr ⟨(hw _ (List.mem_of_getElem? (i := 67) rfl)), rfl, hnm⟩) (hw _ (List.mem_of_getElem? (i := 6) rfl)) (ty := (.object "java/time/Duration")) (by decide) rfl rfl (g := (mkF m 203 #[.val (.ref a), .val (.int (1 : Int32)), .val (.int pr), .val (.ref d), .val (.ref oi), .val (.int (0 : Int32)), .val (.int (0 : Int32)), .val (.int (0 : Int32)), .val (.int (0 : Int32)), .val (.int (0 : Int32))] [(.ref d), (.ref a)])) rfl rfl (hb hby d4_203)
  refine own_s st24 ?_
  have K24 : Keep h0 h24 [a] := K21.wr W24 (Or.inl (List.mem_of_getElem? (i := 0) rfl))
  have N24 := Fr.snoc X24 N21 g_a
  have Fw24 := F23.same W24
  show Go p.tables e below _ (T24.setTop (mkF m 206 #[.val (.ref a), .val (.int (1 : Int32)), .val (.int pr), .val (.ref d), .val (.ref oi), .val (.int (0 : Int32)), .val (.int (0 : Int32)), .val (.int (0 : Int32)), .val (.int (0 : Int32)), .val (.int (0 : Int32))] []))
  refine own_s (fun t k => XS.aloadN X24.here hx rfl (hb hby d4_206) rfl rfl k) ?_
  show Go p.tables e below _ (T24.setTop (mkF m 207 #[.val (.ref a), .val (.int (1 : Int32)), .val (.int pr), .val (.ref d), .val (.ref oi), .val (.int (0 : Int32)), .val (.int (0 : Int32)), .val (.int (0 : Int32)), .val (.int (0 : Int32)), .val (.int (0 : Int32))] [(.ref a)]))
  refine own_s (fun t k => XS.aload X24.here hx rfl (hb hby d4_207) rfl rfl k) ?_
  show Go p.tables e below _ (T24.setTop (mkF m 209 #[.val (.ref a), .val (.int (1 : Int32)), .val (.int pr), .val (.ref d), .val (.ref oi), .val (.int (0 : Int32)), .val (.int (0 : Int32)), .val (.int (0 : Int32)), .val (.int (0 : Int32)), .val (.int (0 : Int32))] [(.ref oi), (.ref a)]))
  have Q25 : Exa Z h24 a "com/example/throttle/throttle/Decision" := (Q22.wr W24)
  have F26 : Fld Z h24 a "com/example/throttle/throttle/Decision" "refusingLimit" "Ljava/util/OptionalInt;" u_refusingLimit_a := (((((F_refusingLimit_a.ext E2).ext E5).other W18 (Or.inr (slot_ne (Or.inr (hw _ (List.mem_of_getElem? (i := 69) rfl))) (Or.inr (hw _ (List.mem_of_getElem? (i := 63) rfl))) (by decide) (t := (.object "java/util/OptionalInt")) (t' := .boolean) (by decide) (by decide)))).other W21 (Or.inr (slot_ne (Or.inr (hw _ (List.mem_of_getElem? (i := 69) rfl))) (Or.inr (hw _ (List.mem_of_getElem? (i := 65) rfl))) (by decide) (t := (.object "java/util/OptionalInt")) (t' := .int) (by decide) (by decide)))).other W24 (Or.inr (slot_ne (Or.inr (hw _ (List.mem_of_getElem? (i := 69) rfl))) (Or.inr (hw _ (List.mem_of_getElem? (i := 67) rfl))) (by decide) (t := (.object "java/util/OptionalInt")) (t' := (.object "java/time/Duration")) (by decide) (by decide))))
  obtain ⟨T27, h27, X27, e27, W27, st27⟩ := putF X24 hx hZ5 hown5 (host := "") (Or.inl (hw _ (List.mem_of_getElem? (i := 68) rfl))) Via.refl e24 F26 Q25 (Or.inr ⟨(hw _ (List.mem_of_getElem? (i := 69) rfl)), rfl, hnm⟩) (hw _ (List.mem_of_getElem? (i := 6) rfl)) (ty := (.object "java/util/OptionalInt")) (by decide) rfl rfl (g := (mkF m 209 #[.val (.ref a), .val (.int (1 : Int32)), .val (.int pr), .val (.ref d), .val (.ref oi), .val (.int (0 : Int32)), .val (.int (0 : Int32)), .val (.int (0 : Int32)), .val (.int (0 : Int32)), .val (.int (0 : Int32))] [(.ref oi), (.ref a)])) rfl rfl (hb hby d4_209)
  refine own_s st27 ?_
  have K27 : Keep h0 h27 [a] := K24.wr W27 (Or.inl (List.mem_of_getElem? (i := 0) rfl))
  have N27 := Fr.snoc X27 N24 g_a
  have Fw27 := F26.same W27
  show Go p.tables e below _ (T27.setTop (mkF m 212 #[.val (.ref a), .val (.int (1 : Int32)), .val (.int pr), .val (.ref d), .val (.ref oi), .val (.int (0 : Int32)), .val (.int (0 : Int32)), .val (.int (0 : Int32)), .val (.int (0 : Int32)), .val (.int (0 : Int32))] []))
  refine own_s (fun t k => XS.aloadN X27.here hx rfl (hb hby d4_212) rfl rfl k) ?_
  show Go p.tables e below _ (T27.setTop (mkF m 213 #[.val (.ref a), .val (.int (1 : Int32)), .val (.int pr), .val (.ref d), .val (.ref oi), .val (.int (0 : Int32)), .val (.int (0 : Int32)), .val (.int (0 : Int32)), .val (.int (0 : Int32)), .val (.int (0 : Int32))] [(.ref a)]))
  refine own_s (fun t k => XS.iload X27.here hx rfl (hb hby d4_213) rfl k) ?_
  show Go p.tables e below _ (T27.setTop (mkF m 215 #[.val (.ref a), .val (.int (1 : Int32)), .val (.int pr), .val (.ref d), .val (.ref oi), .val (.int (0 : Int32)), .val (.int (0 : Int32)), .val (.int (0 : Int32)), .val (.int (0 : Int32)), .val (.int (0 : Int32))] [(.int (0 : Int32)), (.ref a)]))
  have Q28 : Exa Z h27 a "com/example/throttle/throttle/Decision" := (Q25.wr W27)
  have F29 : Fld Z h27 a "com/example/throttle/throttle/Decision" "madeWithoutStore" "Z" u_madeWithoutStore_a := ((((((F_madeWithoutStore_a.ext E2).ext E5).other W18 (Or.inr (slot_ne (Or.inr (hw _ (List.mem_of_getElem? (i := 71) rfl))) (Or.inr (hw _ (List.mem_of_getElem? (i := 63) rfl))) (by decide) (t := .boolean) (t' := .boolean) (by decide) (by decide)))).other W21 (Or.inr (slot_ne (Or.inr (hw _ (List.mem_of_getElem? (i := 71) rfl))) (Or.inr (hw _ (List.mem_of_getElem? (i := 65) rfl))) (by decide) (t := .boolean) (t' := .int) (by decide) (by decide)))).other W24 (Or.inr (slot_ne (Or.inr (hw _ (List.mem_of_getElem? (i := 71) rfl))) (Or.inr (hw _ (List.mem_of_getElem? (i := 67) rfl))) (by decide) (t := .boolean) (t' := (.object "java/time/Duration")) (by decide) (by decide)))).other W27 (Or.inr (slot_ne (Or.inr (hw _ (List.mem_of_getElem? (i := 71) rfl))) (Or.inr (hw _ (List.mem_of_getElem? (i := 69) rfl))) (by decide) (t := .boolean) (t' := (.object "java/util/OptionalInt")) (by decide) (by decide))))
  obtain ⟨T30, h30, X30, e30, W30, st30⟩ := putFN X27 hx hZ5 hown5 (hw _ (List.mem_of_getElem? (i := 70) rfl)) Via.refl e27 F29 Q28 (Or.inr ⟨(hw _ (List.mem_of_getElem? (i := 71) rfl)), rfl, hnm⟩) (hw _ (List.mem_of_getElem? (i := 6) rfl)) (ty := .boolean) (v' := (.int (0 : Int32))) (by decide) rfl rfl (g := (mkF m 215 #[.val (.ref a), .val (.int (1 : Int32)), .val (.int pr), .val (.ref d), .val (.ref oi), .val (.int (0 : Int32)), .val (.int (0 : Int32)), .val (.int (0 : Int32)), .val (.int (0 : Int32)), .val (.int (0 : Int32))] [(.int (0 : Int32)), (.ref a)])) rfl rfl (hb hby d4_215)
  refine own_s st30 ?_
  have K30 : Keep h0 h30 [a] := K27.wr W30 (Or.inl (List.mem_of_getElem? (i := 0) rfl))
  have N30 := Fr.snoc X30 N27 g_a
  have Fw30 := F29.same W30
  show Go p.tables e below _ (T30.setTop (mkF m 218 #[.val (.ref a), .val (.int (1 : Int32)), .val (.int pr), .val (.ref d), .val (.ref oi), .val (.int (0 : Int32)), .val (.int (0 : Int32)), .val (.int (0 : Int32)), .val (.int (0 : Int32)), .val (.int (0 : Int32))] []))
  refine own_s (fun t k => XS.aloadN X30.here hx rfl (hb hby d4_218) rfl rfl k) ?_
  show Go p.tables e below _ (T30.setTop (mkF m 219 #[.val (.ref a), .val (.int (1 : Int32)), .val (.int pr), .val (.ref d), .val (.ref oi), .val (.int (0 : Int32)), .val (.int (0 : Int32)), .val (.int (0 : Int32)), .val (.int (0 : Int32)), .val (.int (0 : Int32))] [(.ref a)]))
  refine own_s (fun t k => XS.iload X30.here hx rfl (hb hby d4_219) rfl k) ?_
  show Go p.tables e below _ (T30.setTop (mkF m 221 #[.val (.ref a), .val (.int (1 : Int32)), .val (.int pr), .val (.ref d), .val (.ref oi), .val (.int (0 : Int32)), .val (.int (0 : Int32)), .val (.int (0 : Int32)), .val (.int (0 : Int32)), .val (.int (0 : Int32))] [(.int (0 : Int32)), (.ref a)]))
  have Q31 : Exa Z h30 a "com/example/throttle/throttle/Decision" := (Q28.wr W30)
  have F32 : Fld Z h30 a "com/example/throttle/throttle/Decision" "refusals" "I" u_refusals_a := (((((((F_refusals_a.ext E2).ext E5).other W18 (Or.inr (slot_ne (Or.inr (hw _ (List.mem_of_getElem? (i := 73) rfl))) (Or.inr (hw _ (List.mem_of_getElem? (i := 63) rfl))) (by decide) (t := .int) (t' := .boolean) (by decide) (by decide)))).other W21 (Or.inr (slot_ne (Or.inr (hw _ (List.mem_of_getElem? (i := 73) rfl))) (Or.inr (hw _ (List.mem_of_getElem? (i := 65) rfl))) (by decide) (t := .int) (t' := .int) (by decide) (by decide)))).other W24 (Or.inr (slot_ne (Or.inr (hw _ (List.mem_of_getElem? (i := 73) rfl))) (Or.inr (hw _ (List.mem_of_getElem? (i := 67) rfl))) (by decide) (t := .int) (t' := (.object "java/time/Duration")) (by decide) (by decide)))).other W27 (Or.inr (slot_ne (Or.inr (hw _ (List.mem_of_getElem? (i := 73) rfl))) (Or.inr (hw _ (List.mem_of_getElem? (i := 69) rfl))) (by decide) (t := .int) (t' := (.object "java/util/OptionalInt")) (by decide) (by decide)))).other W30 (Or.inr (slot_ne (Or.inr (hw _ (List.mem_of_getElem? (i := 73) rfl))) (Or.inr (hw _ (List.mem_of_getElem? (i := 71) rfl))) (by decide) (t := .int) (t' := .boolean) (by decide) (by decide))))
  obtain ⟨T33, h33, X33, e33, W33, st33⟩ := putF X30 hx hZ5 hown5 (host := "") (Or.inl (hw _ (List.mem_of_getElem? (i := 72) rfl))) Via.refl e30 F32 Q31 (Or.inr ⟨(hw _ (List.mem_of_getElem? (i := 73) rfl)), rfl, hnm⟩) (hw _ (List.mem_of_getElem? (i := 6) rfl)) (ty := .int) (by decide) rfl rfl (g := (mkF m 221 #[.val (.ref a), .val (.int (1 : Int32)), .val (.int pr), .val (.ref d), .val (.ref oi), .val (.int (0 : Int32)), .val (.int (0 : Int32)), .val (.int (0 : Int32)), .val (.int (0 : Int32)), .val (.int (0 : Int32))] [(.int (0 : Int32)), (.ref a)])) rfl rfl (hb hby d4_221)
  refine own_s st33 ?_
  have K33 : Keep h0 h33 [a] := K30.wr W33 (Or.inl (List.mem_of_getElem? (i := 0) rfl))
  have N33 := Fr.snoc X33 N30 g_a
  have Fw33 := F32.same W33
  show Go p.tables e below _ (T33.setTop (mkF m 224 #[.val (.ref a), .val (.int (1 : Int32)), .val (.int pr), .val (.ref d), .val (.ref oi), .val (.int (0 : Int32)), .val (.int (0 : Int32)), .val (.int (0 : Int32)), .val (.int (0 : Int32)), .val (.int (0 : Int32))] []))
  refine own_s (fun t k => XS.aloadN X33.here hx rfl (hb hby d4_224) rfl rfl k) ?_
  show Go p.tables e below _ (T33.setTop (mkF m 225 #[.val (.ref a), .val (.int (1 : Int32)), .val (.int pr), .val (.ref d), .val (.ref oi), .val (.int (0 : Int32)), .val (.int (0 : Int32)), .val (.int (0 : Int32)), .val (.int (0 : Int32)), .val (.int (0 : Int32))] [(.ref a)]))
  refine own_s (fun t k => XS.iload X33.here hx rfl (hb hby d4_225) rfl k) ?_
  show Go p.tables e below _ (T33.setTop (mkF m 227 #[.val (.ref a), .val (.int (1 : Int32)), .val (.int pr), .val (.ref d), .val (.ref oi), .val (.int (0 : Int32)), .val (.int (0 : Int32)), .val (.int (0 : Int32)), .val (.int (0 : Int32)), .val (.int (0 : Int32))] [(.int (0 : Int32)), (.ref a)]))
  have Q34 : Exa Z h33 a "com/example/throttle/throttle/Decision" := (Q31.wr W33)
  have F35 : Fld Z h33 a "com/example/throttle/throttle/Decision" "warning" "Z" u_warning_a := ((((((((F_warning_a.ext E2).ext E5).other W18 (Or.inr (slot_ne (Or.inr (hw _ (List.mem_of_getElem? (i := 75) rfl))) (Or.inr (hw _ (List.mem_of_getElem? (i := 63) rfl))) (by decide) (t := .boolean) (t' := .boolean) (by decide) (by decide)))).other W21 (Or.inr (slot_ne (Or.inr (hw _ (List.mem_of_getElem? (i := 75) rfl))) (Or.inr (hw _ (List.mem_of_getElem? (i := 65) rfl))) (by decide) (t := .boolean) (t' := .int) (by decide) (by decide)))).other W24 (Or.inr (slot_ne (Or.inr (hw _ (List.mem_of_getElem? (i := 75) rfl))) (Or.inr (hw _ (List.mem_of_getElem? (i := 67) rfl))) (by decide) (t := .boolean) (t' := (.object "java/time/Duration")) (by decide) (by decide)))).other W27 (Or.inr (slot_ne (Or.inr (hw _ (List.mem_of_getElem? (i := 75) rfl))) (Or.inr (hw _ (List.mem_of_getElem? (i := 69) rfl))) (by decide) (t := .boolean) (t' := (.object "java/util/OptionalInt")) (by decide) (by decide)))).other W30 (Or.inr (slot_ne (Or.inr (hw _ (List.mem_of_getElem? (i := 75) rfl))) (Or.inr (hw _ (List.mem_of_getElem? (i := 71) rfl))) (by decide) (t := .boolean) (t' := .boolean) (by decide) (by decide)))).other W33 (Or.inr (slot_ne (Or.inr (hw _ (List.mem_of_getElem? (i := 75) rfl))) (Or.inr (hw _ (List.mem_of_getElem? (i := 73) rfl))) (by decide) (t := .boolean) (t' := .int) (by decide) (by decide))))
  obtain ⟨T36, h36, X36, e36, W36, st36⟩ := putFN X33 hx hZ5 hown5 (hw _ (List.mem_of_getElem? (i := 74) rfl)) Via.refl e33 F35 Q34 (Or.inr ⟨(hw _ (List.mem_of_getElem? (i := 75) rfl)), rfl, hnm⟩) (hw _ (List.mem_of_getElem? (i := 6) rfl)) (ty := .boolean) (v' := (.int (0 : Int32))) (by decide) rfl rfl (g := (mkF m 227 #[.val (.ref a), .val (.int (1 : Int32)), .val (.int pr), .val (.ref d), .val (.ref oi), .val (.int (0 : Int32)), .val (.int (0 : Int32)), .val (.int (0 : Int32)), .val (.int (0 : Int32)), .val (.int (0 : Int32))] [(.int (0 : Int32)), (.ref a)])) rfl rfl (hb hby d4_227)
  refine own_s st36 ?_
  have K36 : Keep h0 h36 [a] := K33.wr W36 (Or.inl (List.mem_of_getElem? (i := 0) rfl))
  have N36 := Fr.snoc X36 N33 g_a
  have Fw36 := F35.same W36
  show Go p.tables e below _ (T36.setTop (mkF m 230 #[.val (.ref a), .val (.int (1 : Int32)), .val (.int pr), .val (.ref d), .val (.ref oi), .val (.int (0 : Int32)), .val (.int (0 : Int32)), .val (.int (0 : Int32)), .val (.int (0 : Int32)), .val (.int (0 : Int32))] []))
  refine own_s (fun t k => XS.aloadN X36.here hx rfl (hb hby d4_230) rfl rfl k) ?_
  show Go p.tables e below _ (T36.setTop (mkF m 231 #[.val (.ref a), .val (.int (1 : Int32)), .val (.int pr), .val (.ref d), .val (.ref oi), .val (.int (0 : Int32)), .val (.int (0 : Int32)), .val (.int (0 : Int32)), .val (.int (0 : Int32)), .val (.int (0 : Int32))] [(.ref a)]))
  refine own_s (fun t k => XS.iload X36.here hx rfl (hb hby d4_231) rfl k) ?_
  show Go p.tables e below _ (T36.setTop (mkF m 233 #[.val (.ref a), .val (.int (1 : Int32)), .val (.int pr), .val (.ref d), .val (.ref oi), .val (.int (0 : Int32)), .val (.int (0 : Int32)), .val (.int (0 : Int32)), .val (.int (0 : Int32)), .val (.int (0 : Int32))] [(.int (0 : Int32)), (.ref a)]))
  have Q37 : Exa Z h36 a "com/example/throttle/throttle/Decision" := (Q34.wr W36)
  have F38 : Fld Z h36 a "com/example/throttle/throttle/Decision" "banned" "Z" u_banned_a := (((((((((F_banned_a.ext E2).ext E5).other W18 (Or.inr (slot_ne (Or.inr (hw _ (List.mem_of_getElem? (i := 77) rfl))) (Or.inr (hw _ (List.mem_of_getElem? (i := 63) rfl))) (by decide) (t := .boolean) (t' := .boolean) (by decide) (by decide)))).other W21 (Or.inr (slot_ne (Or.inr (hw _ (List.mem_of_getElem? (i := 77) rfl))) (Or.inr (hw _ (List.mem_of_getElem? (i := 65) rfl))) (by decide) (t := .boolean) (t' := .int) (by decide) (by decide)))).other W24 (Or.inr (slot_ne (Or.inr (hw _ (List.mem_of_getElem? (i := 77) rfl))) (Or.inr (hw _ (List.mem_of_getElem? (i := 67) rfl))) (by decide) (t := .boolean) (t' := (.object "java/time/Duration")) (by decide) (by decide)))).other W27 (Or.inr (slot_ne (Or.inr (hw _ (List.mem_of_getElem? (i := 77) rfl))) (Or.inr (hw _ (List.mem_of_getElem? (i := 69) rfl))) (by decide) (t := .boolean) (t' := (.object "java/util/OptionalInt")) (by decide) (by decide)))).other W30 (Or.inr (slot_ne (Or.inr (hw _ (List.mem_of_getElem? (i := 77) rfl))) (Or.inr (hw _ (List.mem_of_getElem? (i := 71) rfl))) (by decide) (t := .boolean) (t' := .boolean) (by decide) (by decide)))).other W33 (Or.inr (slot_ne (Or.inr (hw _ (List.mem_of_getElem? (i := 77) rfl))) (Or.inr (hw _ (List.mem_of_getElem? (i := 73) rfl))) (by decide) (t := .boolean) (t' := .int) (by decide) (by decide)))).other W36 (Or.inr (slot_ne (Or.inr (hw _ (List.mem_of_getElem? (i := 77) rfl))) (Or.inr (hw _ (List.mem_of_getElem? (i := 75) rfl))) (by decide) (t := .boolean) (t' := .boolean) (by decide) (by decide))))
  obtain ⟨T39, h39, X39, e39, W39, st39⟩ := putFN X36 hx hZ5 hown5 (hw _ (List.mem_of_getElem? (i := 76) rfl)) Via.refl e36 F38 Q37 (Or.inr ⟨(hw _ (List.mem_of_getElem? (i := 77) rfl)), rfl, hnm⟩) (hw _ (List.mem_of_getElem? (i := 6) rfl)) (ty := .boolean) (v' := (.int (0 : Int32))) (by decide) rfl rfl (g := (mkF m 233 #[.val (.ref a), .val (.int (1 : Int32)), .val (.int pr), .val (.ref d), .val (.ref oi), .val (.int (0 : Int32)), .val (.int (0 : Int32)), .val (.int (0 : Int32)), .val (.int (0 : Int32)), .val (.int (0 : Int32))] [(.int (0 : Int32)), (.ref a)])) rfl rfl (hb hby d4_233)
  refine own_s st39 ?_
  have K39 : Keep h0 h39 [a] := K36.wr W39 (Or.inl (List.mem_of_getElem? (i := 0) rfl))
  have N39 := Fr.snoc X39 N36 g_a
  have Fw39 := F38.same W39
  show Go p.tables e below _ (T39.setTop (mkF m 236 #[.val (.ref a), .val (.int (1 : Int32)), .val (.int pr), .val (.ref d), .val (.ref oi), .val (.int (0 : Int32)), .val (.int (0 : Int32)), .val (.int (0 : Int32)), .val (.int (0 : Int32)), .val (.int (0 : Int32))] []))
  obtain ⟨fs, hr, hrun, hended, hEnd⟩ := X39.leaveW hS5 (show _ ≤ T39.heap.size from (by rw [e39]; exact (Nat.le_trans (Nat.le_trans (Nat.le_trans (Nat.le_trans (Nat.le_trans (Nat.le_trans (Nat.le_trans (Nat.le_trans hk5 (Keep.of_wr W18).1) (Keep.of_wr W21).1) (Keep.of_wr W24).1) (Keep.of_wr W27).1) (Keep.of_wr W30).1) (Keep.of_wr W33).1) (Keep.of_wr W36).1) (Keep.of_wr W39).1))) (v := none) (fun h => by first | rfl | (rw [Bd.returns] at h; cases h))
  have Q40 : Exa Z h39 a "com/example/throttle/throttle/Decision" := (Q37.wr W39)
  have F41 : Fld Z h39 a "com/example/throttle/throttle/Decision" "admitted" "Z" (.int (1 : Int32)) := (((((((Fw18.other W21 (Or.inr (slot_ne (Or.inr (hw _ (List.mem_of_getElem? (i := 63) rfl))) (Or.inr (hw _ (List.mem_of_getElem? (i := 65) rfl))) (by decide) (t := .boolean) (t' := .int) (by decide) (by decide)))).other W24 (Or.inr (slot_ne (Or.inr (hw _ (List.mem_of_getElem? (i := 63) rfl))) (Or.inr (hw _ (List.mem_of_getElem? (i := 67) rfl))) (by decide) (t := .boolean) (t' := (.object "java/time/Duration")) (by decide) (by decide)))).other W27 (Or.inr (slot_ne (Or.inr (hw _ (List.mem_of_getElem? (i := 63) rfl))) (Or.inr (hw _ (List.mem_of_getElem? (i := 69) rfl))) (by decide) (t := .boolean) (t' := (.object "java/util/OptionalInt")) (by decide) (by decide)))).other W30 (Or.inr (slot_ne (Or.inr (hw _ (List.mem_of_getElem? (i := 63) rfl))) (Or.inr (hw _ (List.mem_of_getElem? (i := 71) rfl))) (by decide) (t := .boolean) (t' := .boolean) (by decide) (by decide)))).other W33 (Or.inr (slot_ne (Or.inr (hw _ (List.mem_of_getElem? (i := 63) rfl))) (Or.inr (hw _ (List.mem_of_getElem? (i := 73) rfl))) (by decide) (t := .boolean) (t' := .int) (by decide) (by decide)))).other W36 (Or.inr (slot_ne (Or.inr (hw _ (List.mem_of_getElem? (i := 63) rfl))) (Or.inr (hw _ (List.mem_of_getElem? (i := 75) rfl))) (by decide) (t := .boolean) (t' := .boolean) (by decide) (by decide)))).other W39 (Or.inr (slot_ne (Or.inr (hw _ (List.mem_of_getElem? (i := 63) rfl))) (Or.inr (hw _ (List.mem_of_getElem? (i := 77) rfl))) (by decide) (t := .boolean) (t' := .boolean) (by decide) (by decide))))
  have F42 : Fld Z h39 a "com/example/throttle/throttle/Decision" "remaining" "I" (.int pr) := ((((((Fw21.other W24 (Or.inr (slot_ne (Or.inr (hw _ (List.mem_of_getElem? (i := 65) rfl))) (Or.inr (hw _ (List.mem_of_getElem? (i := 67) rfl))) (by decide) (t := .int) (t' := (.object "java/time/Duration")) (by decide) (by decide)))).other W27 (Or.inr (slot_ne (Or.inr (hw _ (List.mem_of_getElem? (i := 65) rfl))) (Or.inr (hw _ (List.mem_of_getElem? (i := 69) rfl))) (by decide) (t := .int) (t' := (.object "java/util/OptionalInt")) (by decide) (by decide)))).other W30 (Or.inr (slot_ne (Or.inr (hw _ (List.mem_of_getElem? (i := 65) rfl))) (Or.inr (hw _ (List.mem_of_getElem? (i := 71) rfl))) (by decide) (t := .int) (t' := .boolean) (by decide) (by decide)))).other W33 (Or.inr (slot_ne (Or.inr (hw _ (List.mem_of_getElem? (i := 65) rfl))) (Or.inr (hw _ (List.mem_of_getElem? (i := 73) rfl))) (by decide) (t := .int) (t' := .int) (by decide) (by decide)))).other W36 (Or.inr (slot_ne (Or.inr (hw _ (List.mem_of_getElem? (i := 65) rfl))) (Or.inr (hw _ (List.mem_of_getElem? (i := 75) rfl))) (by decide) (t := .int) (t' := .boolean) (by decide) (by decide)))).other W39 (Or.inr (slot_ne (Or.inr (hw _ (List.mem_of_getElem? (i := 65) rfl))) (Or.inr (hw _ (List.mem_of_getElem? (i := 77) rfl))) (by decide) (t := .int) (t' := .boolean) (by decide) (by decide))))
  have F43 : Fld Z h39 a "com/example/throttle/throttle/Decision" "retryAfter" "Ljava/time/Duration;" (.ref d) := (((((Fw24.other W27 (Or.inr (slot_ne (Or.inr (hw _ (List.mem_of_getElem? (i := 67) rfl))) (Or.inr (hw _ (List.mem_of_getElem? (i := 69) rfl))) (by decide) (t := (.object "java/time/Duration")) (t' := (.object "java/util/OptionalInt")) (by decide) (by decide)))).other W30 (Or.inr (slot_ne (Or.inr (hw _ (List.mem_of_getElem? (i := 67) rfl))) (Or.inr (hw _ (List.mem_of_getElem? (i := 71) rfl))) (by decide) (t := (.object "java/time/Duration")) (t' := .boolean) (by decide) (by decide)))).other W33 (Or.inr (slot_ne (Or.inr (hw _ (List.mem_of_getElem? (i := 67) rfl))) (Or.inr (hw _ (List.mem_of_getElem? (i := 73) rfl))) (by decide) (t := (.object "java/time/Duration")) (t' := .int) (by decide) (by decide)))).other W36 (Or.inr (slot_ne (Or.inr (hw _ (List.mem_of_getElem? (i := 67) rfl))) (Or.inr (hw _ (List.mem_of_getElem? (i := 75) rfl))) (by decide) (t := (.object "java/time/Duration")) (t' := .boolean) (by decide) (by decide)))).other W39 (Or.inr (slot_ne (Or.inr (hw _ (List.mem_of_getElem? (i := 67) rfl))) (Or.inr (hw _ (List.mem_of_getElem? (i := 77) rfl))) (by decide) (t := (.object "java/time/Duration")) (t' := .boolean) (by decide) (by decide))))
  have F44 : Fld Z h39 a "com/example/throttle/throttle/Decision" "refusingLimit" "Ljava/util/OptionalInt;" (.ref oi) := ((((Fw27.other W30 (Or.inr (slot_ne (Or.inr (hw _ (List.mem_of_getElem? (i := 69) rfl))) (Or.inr (hw _ (List.mem_of_getElem? (i := 71) rfl))) (by decide) (t := (.object "java/util/OptionalInt")) (t' := .boolean) (by decide) (by decide)))).other W33 (Or.inr (slot_ne (Or.inr (hw _ (List.mem_of_getElem? (i := 69) rfl))) (Or.inr (hw _ (List.mem_of_getElem? (i := 73) rfl))) (by decide) (t := (.object "java/util/OptionalInt")) (t' := .int) (by decide) (by decide)))).other W36 (Or.inr (slot_ne (Or.inr (hw _ (List.mem_of_getElem? (i := 69) rfl))) (Or.inr (hw _ (List.mem_of_getElem? (i := 75) rfl))) (by decide) (t := (.object "java/util/OptionalInt")) (t' := .boolean) (by decide) (by decide)))).other W39 (Or.inr (slot_ne (Or.inr (hw _ (List.mem_of_getElem? (i := 69) rfl))) (Or.inr (hw _ (List.mem_of_getElem? (i := 77) rfl))) (by decide) (t := (.object "java/util/OptionalInt")) (t' := .boolean) (by decide) (by decide))))
  have F45 : Fld Z h39 a "com/example/throttle/throttle/Decision" "madeWithoutStore" "Z" (.int (0 : Int32)) := (((Fw30.other W33 (Or.inr (slot_ne (Or.inr (hw _ (List.mem_of_getElem? (i := 71) rfl))) (Or.inr (hw _ (List.mem_of_getElem? (i := 73) rfl))) (by decide) (t := .boolean) (t' := .int) (by decide) (by decide)))).other W36 (Or.inr (slot_ne (Or.inr (hw _ (List.mem_of_getElem? (i := 71) rfl))) (Or.inr (hw _ (List.mem_of_getElem? (i := 75) rfl))) (by decide) (t := .boolean) (t' := .boolean) (by decide) (by decide)))).other W39 (Or.inr (slot_ne (Or.inr (hw _ (List.mem_of_getElem? (i := 71) rfl))) (Or.inr (hw _ (List.mem_of_getElem? (i := 77) rfl))) (by decide) (t := .boolean) (t' := .boolean) (by decide) (by decide))))
  have F46 : Fld Z h39 a "com/example/throttle/throttle/Decision" "refusals" "I" (.int (0 : Int32)) := ((Fw33.other W36 (Or.inr (slot_ne (Or.inr (hw _ (List.mem_of_getElem? (i := 73) rfl))) (Or.inr (hw _ (List.mem_of_getElem? (i := 75) rfl))) (by decide) (t := .int) (t' := .boolean) (by decide) (by decide)))).other W39 (Or.inr (slot_ne (Or.inr (hw _ (List.mem_of_getElem? (i := 73) rfl))) (Or.inr (hw _ (List.mem_of_getElem? (i := 77) rfl))) (by decide) (t := .int) (t' := .boolean) (by decide) (by decide))))
  have F47 : Fld Z h39 a "com/example/throttle/throttle/Decision" "warning" "Z" (.int (0 : Int32)) := (Fw36.other W39 (Or.inr (slot_ne (Or.inr (hw _ (List.mem_of_getElem? (i := 75) rfl))) (Or.inr (hw _ (List.mem_of_getElem? (i := 77) rfl))) (by decide) (t := .boolean) (t' := .boolean) (by decide) (by decide))))
  refine own_e ?_ hrun hended ⟨_, _, rfl, ?_, hEnd.1, hEnd.2.1, hEnd.2.2.1, hEnd.2.2.2.mono (by decide) (by decide)⟩
  · exact X39.returnOut hx Bd.returns (hb hby d4_236) hr
  · show Q_rm4 Z a pr d oi u_admitted_a u_remaining_a u_retryAfter_a u_refusingLimit_a u_madeWithoutStore_a u_refusals_a u_warning_a u_banned_a h0 n0 _ T39.heap _
    rw [e39]
    exact ⟨rfl, N39, K39, Q40, F41, F42, F43, F44, F45, F46, F47, Fw39⟩
theorem d3_0 : decode prog_4_method_2_code 0 = .ok (.aload_n 0, 1) := by decide +kernel
theorem d3_1 : decode prog_4_method_2_code 1 = .ok (.iload_n 1, 1) := by decide +kernel
theorem d3_2 : decode prog_4_method_2_code 2 = .ok (.iload_n 2, 1) := by decide +kernel
theorem d3_3 : decode prog_4_method_2_code 3 = .ok (.aload_n 3, 1) := by decide +kernel
theorem d3_4 : decode prog_4_method_2_code 4 = .ok (.aload 4, 2) := by decide +kernel
theorem d3_6 : decode prog_4_method_2_code 6 = .ok (.iload 5, 2) := by decide +kernel
theorem d3_8 : decode prog_4_method_2_code 8 = .ok (.iconst 0, 1) := by decide +kernel
theorem d3_9 : decode prog_4_method_2_code 9 = .ok (.iconst 0, 1) := by decide +kernel
theorem d3_10 : decode prog_4_method_2_code 10 = .ok (.iconst 0, 1) := by decide +kernel
theorem d3_11 : decode prog_4_method_2_code 11 = .ok (.invokespecial 85, 3) := by decide +kernel
theorem pd__ZILjava_time_Duration_Ljava_util_OptionalInt_ZIZZ_V : parseMethodDescriptor "(ZILjava/time/Duration;Ljava/util/OptionalInt;ZIZZ)V" = some ⟨[.boolean, .int, (.object "java/time/Duration"), (.object "java/util/OptionalInt"), .boolean, .int, .boolean, .boolean], none⟩ := by decide +kernel
theorem d3_14 : decode prog_4_method_2_code 14 = .ok (.return_, 1) := by decide +kernel
theorem ef_rm3 (m : MethodId) (a : Addr) (pr : Int32) (d : Addr) (oi : Addr) : entryFrame m #[(.ref a), (.int (1 : Int32)), (.int pr), (.ref d), (.ref oi), (.int (0 : Int32))] 6 = mkF m 0 #[.val (.ref a), .val (.int (1 : Int32)), .val (.int pr), .val (.ref d), .val (.ref oi), .val (.int (0 : Int32))] [] := by first | (simp [entryFrame, mkF, argsToLocals, Value.category]; done) | rfl
def Q_rm3 (Z : State) (u_admitted : Value) (u_remaining : Value) (u_retryAfter : Value) (u_refusingLimit : Value) (u_madeWithoutStore : Value) (u_refusals : Value) (u_warning : Value) (u_banned : Value) (a : Addr) (pr : Int32) (d : Addr) (oi : Addr) (h0 : Heap) (n0 : Nat) (v : Option Value) (h : Heap) (L : List Loc) : Prop := v = none ∧ Fr n0 L ∧ Keep h0 h [a] ∧ Exa Z h a "com/example/throttle/throttle/Decision" ∧ Fld Z h a "com/example/throttle/throttle/Decision" "admitted" "Z" (.int (1 : Int32)) ∧ Fld Z h a "com/example/throttle/throttle/Decision" "remaining" "I" (.int pr) ∧ Fld Z h a "com/example/throttle/throttle/Decision" "retryAfter" "Ljava/time/Duration;" (.ref d) ∧ Fld Z h a "com/example/throttle/throttle/Decision" "refusingLimit" "Ljava/util/OptionalInt;" (.ref oi) ∧ Fld Z h a "com/example/throttle/throttle/Decision" "madeWithoutStore" "Z" (.int (0 : Int32)) ∧ Fld Z h a "com/example/throttle/throttle/Decision" "refusals" "I" (.int (0 : Int32)) ∧ Fld Z h a "com/example/throttle/throttle/Decision" "warning" "Z" (.int (0 : Int32)) ∧ Fld Z h a "com/example/throttle/throttle/Decision" "banned" "Z" (.int (0 : Int32))
set_option maxRecDepth 65536 in
set_option maxHeartbeats 40000000 in
theorem rm3 (l : Launch) (Z : State) (a0 : Array Value) (hw : ∀ d ∈ tables_1, d.before a0 Z = true) (ws : List Jvm.Cond) (u_admitted : Value) (u_remaining : Value) (u_retryAfter : Value) (u_refusingLimit : Value) (u_madeWithoutStore : Value) (u_refusals : Value) (u_warning : Value) (u_banned : Value) (a : Addr) (pr : Int32) (d : Addr) (oi : Addr) (h0 : Heap) (n0 : Nat) (O0 : Old Z n0 h0) (F_s : Fld Z h0 d "java/time/Duration" "seconds" "J" (.long (0 : Int64))) (F_n : Fld Z h0 d "java/time/Duration" "nanos" "I" (.int (0 : Int32))) (E_d : Exa Z h0 d "java/time/Duration") (F_p : Fld Z h0 oi "java/util/OptionalInt" "isPresent" "Z" (.int (0 : Int32))) (E_oi : Exa Z h0 oi "java/util/OptionalInt") (E_a : Exa Z h0 a "com/example/throttle/throttle/Decision") (hp : ¬ (pr < (0 : Int32))) (F_admitted_a : Fld Z h0 a "com/example/throttle/throttle/Decision" "admitted" "Z" u_admitted) (F_remaining_a : Fld Z h0 a "com/example/throttle/throttle/Decision" "remaining" "I" u_remaining) (F_retryAfter_a : Fld Z h0 a "com/example/throttle/throttle/Decision" "retryAfter" "Ljava/time/Duration;" u_retryAfter) (F_refusingLimit_a : Fld Z h0 a "com/example/throttle/throttle/Decision" "refusingLimit" "Ljava/util/OptionalInt;" u_refusingLimit) (F_madeWithoutStore_a : Fld Z h0 a "com/example/throttle/throttle/Decision" "madeWithoutStore" "Z" u_madeWithoutStore) (F_refusals_a : Fld Z h0 a "com/example/throttle/throttle/Decision" "refusals" "I" u_refusals) (F_warning_a : Fld Z h0 a "com/example/throttle/throttle/Decision" "warning" "Z" u_warning) (F_banned_a : Fld Z h0 a "com/example/throttle/throttle/Decision" "banned" "Z" u_banned) (g_a : n0 ≤ a) :
    MetFree l (⟨"com/example/throttle/throttle/Decision", "<init>", "(ZILjava/time/Duration;Ljava/util/OptionalInt;Z)V"⟩ : MethodName) (head1 (Jvm.Cond.code (⟨"com/example/throttle/throttle/Decision", "<init>", "(ZILjava/time/Duration;Ljava/util/OptionalInt;Z)V"⟩ : MethodName) prog_4_method_2_code 6 none :: ws) ({ frames := 3, cells := 4, slots := 100, locals := 45 } : Room)) (fun aa_ U => aa_ = #[(.ref a), (.int (1 : Int32)), (.int pr), (.ref d), (.ref oi), (.int (0 : Int32))] ∧ Z.Warmed39 U.vm ∧ U.heap = h0) (fun _ _ _ _ _ => True) (fun _ U oo_ U' => ∃ vv_ LL_, oo_ = .returned vv_ ∧ Q_rm3 Z u_admitted u_remaining u_retryAfter u_refusingLimit u_madeWithoutStore u_refusals u_warning u_banned a pr d oi h0 n0 vv_ U'.heap LL_ ∧ ReturnedEndW U oo_ U' LL_ ({ frames := 3, cells := 4, slots := 100, locals := 45 } : Room).cells ({ frames := 3, cells := 4, slots := 100, locals := 45 } : Room).slots) := by
  refine MetFree.of_bodySF (plainFor_of_name pn_com_example_throttle_throttle_Decision) hisR ?_
  intro p e s m args below meth c s₁ Bd hml0 hP hK
  obtain ⟨rfl, hZ, hh⟩ := hP
  have hx := Bd.exec
  have hby := Bd.bytes
  have hml : c.maxLocals = 6 := hml0
  have hown : s.vm.findClass "com/example/throttle/throttle/Decision" = some m.cls := findClass_of_methodNamed Bd.named
  have hnm := (name_of_methodNamed Bd.named Bd.method).1
  have X0 : Stand p l e ({ frames := 3, cells := 4, slots := 100, locals := 45 } : Room) (s.setVm s.vm) m #[(.ref a), (.int (1 : Int32)), (.int pr), (.ref d), (.ref oi), (.int (0 : Int32))] below meth c s₁ [] 0 0 := Stand.of_body Bd
  have e0 : s₁.heap = h0 := by rw [← hh, Bd.state]; rfl
  have N0 := Fr.nil n0
  have K0 : Keep h0 h0 [a] := Keep.refl h0 _
  have hS0 : s.Since s.vm 0 := (State.WarmedH.refl s).since 0
  refine own_i (own_s (fun t k => castTop (ef_rm3 m a pr d oi) k) ?_)
  show Go p.tables e below _ (s₁.setTop (mkF m 0 #[.val (.ref a), .val (.int (1 : Int32)), .val (.int pr), .val (.ref d), .val (.ref oi), .val (.int (0 : Int32))] []))
  refine own_s (fun t k => XS.aloadN X0.here hx rfl (hb hby d3_0) rfl rfl k) ?_
  show Go p.tables e below _ (s₁.setTop (mkF m 1 #[.val (.ref a), .val (.int (1 : Int32)), .val (.int pr), .val (.ref d), .val (.ref oi), .val (.int (0 : Int32))] [(.ref a)]))
  refine own_s (fun t k => XS.iloadN X0.here hx rfl (hb hby d3_1) rfl k) ?_
  show Go p.tables e below _ (s₁.setTop (mkF m 2 #[.val (.ref a), .val (.int (1 : Int32)), .val (.int pr), .val (.ref d), .val (.ref oi), .val (.int (0 : Int32))] [(.int (1 : Int32)), (.ref a)]))
  refine own_s (fun t k => XS.iloadN X0.here hx rfl (hb hby d3_2) rfl k) ?_
  show Go p.tables e below _ (s₁.setTop (mkF m 3 #[.val (.ref a), .val (.int (1 : Int32)), .val (.int pr), .val (.ref d), .val (.ref oi), .val (.int (0 : Int32))] [(.int pr), (.int (1 : Int32)), (.ref a)]))
  refine own_s (fun t k => XS.aloadN X0.here hx rfl (hb hby d3_3) rfl rfl k) ?_
  show Go p.tables e below _ (s₁.setTop (mkF m 4 #[.val (.ref a), .val (.int (1 : Int32)), .val (.int pr), .val (.ref d), .val (.ref oi), .val (.int (0 : Int32))] [(.ref d), (.int pr), (.int (1 : Int32)), (.ref a)]))
  refine own_s (fun t k => XS.aload X0.here hx rfl (hb hby d3_4) rfl rfl k) ?_
  show Go p.tables e below _ (s₁.setTop (mkF m 6 #[.val (.ref a), .val (.int (1 : Int32)), .val (.int pr), .val (.ref d), .val (.ref oi), .val (.int (0 : Int32))] [(.ref oi), (.ref d), (.int pr), (.int (1 : Int32)), (.ref a)]))
  refine own_s (fun t k => XS.iload X0.here hx rfl (hb hby d3_6) rfl k) ?_
  show Go p.tables e below _ (s₁.setTop (mkF m 8 #[.val (.ref a), .val (.int (1 : Int32)), .val (.int pr), .val (.ref d), .val (.ref oi), .val (.int (0 : Int32))] [(.int (0 : Int32)), (.ref oi), (.ref d), (.int pr), (.int (1 : Int32)), (.ref a)]))
  refine own_s (fun t k => XS.iconst X0.here hx rfl (hb hby d3_8) k) ?_
  show Go p.tables e below _ (s₁.setTop (mkF m 9 #[.val (.ref a), .val (.int (1 : Int32)), .val (.int pr), .val (.ref d), .val (.ref oi), .val (.int (0 : Int32))] [(.int (0 : Int32)), (.int (0 : Int32)), (.ref oi), (.ref d), (.int pr), (.int (1 : Int32)), (.ref a)]))
  refine own_s (fun t k => XS.iconst X0.here hx rfl (hb hby d3_9) k) ?_
  show Go p.tables e below _ (s₁.setTop (mkF m 10 #[.val (.ref a), .val (.int (1 : Int32)), .val (.int pr), .val (.ref d), .val (.ref oi), .val (.int (0 : Int32))] [(.int (0 : Int32)), (.int (0 : Int32)), (.int (0 : Int32)), (.ref oi), (.ref d), (.int pr), (.int (1 : Int32)), (.ref a)]))
  refine own_s (fun t k => XS.iconst X0.here hx rfl (hb hby d3_10) k) ?_
  show Go p.tables e below _ (s₁.setTop (mkF m 11 #[.val (.ref a), .val (.int (1 : Int32)), .val (.int pr), .val (.ref d), .val (.ref oi), .val (.int (0 : Int32))] [(.int (0 : Int32)), (.int (0 : Int32)), (.int (0 : Int32)), (.int (0 : Int32)), (.ref oi), (.ref d), (.int pr), (.int (1 : Int32)), (.ref a)]))
  obtain ⟨_, _, ⟨T1, L1, k1, n1⟩, -, Xr1, hSr1, gr1, ⟨Lc1, hQ1, l1, y1, z1⟩, st1⟩ := X0.specialBackS hx (y := (⟨"com/example/throttle/throttle/Decision", "<init>", "(ZILjava/time/Duration;Ljava/util/OptionalInt;ZIZZ)V"⟩ : MethodName)) rfl hown (mvT hZ (hw _ (List.mem_of_getElem? (i := 17) rfl))) (mvT hZ (hw _ (List.mem_of_getElem? (i := 18) rfl))) (mvT hZ (hw _ (List.mem_of_getElem? (i := 19) rfl))) (by decide) (backOfS (W := 0) (rm4 l Z a0 hw [] a pr d oi u_admitted u_remaining u_retryAfter u_refusingLimit u_madeWithoutStore u_refusals u_warning u_banned h0 n0 O0 F_s F_n E_d F_p E_oi E_a hp F_admitted_a g_a F_remaining_a F_retryAfter_a F_refusingLimit_a F_madeWithoutStore_a F_refusals_a F_warning_a F_banned_a) hZ (hw _ (List.mem_of_getElem? (i := 19) rfl)) (hw _ (List.mem_of_getElem? (i := 3) rfl)) (by decide) (by decide)) (g := (mkF m 11 #[.val (.ref a), .val (.int (1 : Int32)), .val (.int pr), .val (.ref d), .val (.ref oi), .val (.int (0 : Int32))] [(.int (0 : Int32)), (.int (0 : Int32)), (.int (0 : Int32)), (.int (0 : Int32)), (.ref oi), (.ref d), (.int pr), (.int (1 : Int32)), (.ref a)])) rfl (by rw [hml]; rfl) (Steps.refl _) (a := a) (argsL := [(.int (1 : Int32)), (.int pr), (.ref d), (.ref oi), (.int (0 : Int32)), (.int (0 : Int32)), (.int (0 : Int32)), (.int (0 : Int32))]) (rest := []) (lenOf pd__ZILjava_time_Duration_Ljava_util_OptionalInt_ZIZZ_V rfl) rfl (by show 2 * 0 + _ ≤ _; exact Nat.le_of_eq rfl) (hb hby d3_11) (fun _ _ => ⟨rfl, e0, (by decide : 0 + 4 ≤ _), (by decide : 0 + 100 ≤ _)⟩)
  dsimp only [Pt.U, Pt.locs, Pt.cells, Pt.slots] at Xr1 l1 y1 z1 st1 hQ1 hSr1 gr1
  subst l1 y1 z1
  obtain ⟨X1, hS1, hZ1, hown1⟩ := rebS hS0 (show _ ≤ s₁.heap.size from (by rw [e0]; exact (Nat.zero_le _))) Xr1 hSr1 gr1 hZ hown
  obtain ⟨rfl, N1q, Kc1, fc1_0, fc1_1, fc1_2, fc1_3, fc1_4, fc1_5, fc1_6, fc1_7, fc1_8⟩ := hQ1
  have K1 : Keep h0 T1.heap [a] := K0.trans Kc1 (allS (Or.inl (List.mem_of_getElem? (i := 0) rfl)) all0)
  have N1 := Fr.app N0 N1q
  refine own_t st1 ?_
  show Go p.tables e below _ (T1.setTop (mkF m 14 #[.val (.ref a), .val (.int (1 : Int32)), .val (.int pr), .val (.ref d), .val (.ref oi), .val (.int (0 : Int32))] []))
  obtain ⟨fs, hr, hrun, hended, hEnd⟩ := X1.leaveW hS1 (show _ ≤ T1.heap.size from (Nat.le_refl _)) (v := none) (fun h => by first | rfl | (rw [Bd.returns] at h; cases h))
  refine own_e ?_ hrun hended ⟨_, _, rfl, ?_, hEnd.1, hEnd.2.1, hEnd.2.2.1, hEnd.2.2.2.mono (by decide) (by decide)⟩
  · exact X1.returnOut hx Bd.returns (hb hby d3_14) hr
  · show Q_rm3 Z u_admitted u_remaining u_retryAfter u_refusingLimit u_madeWithoutStore u_refusals u_warning u_banned a pr d oi h0 n0 _ T1.heap _
    exact ⟨rfl, N1, K1, fc1_0, fc1_1, fc1_2, fc1_3, fc1_4, fc1_5, fc1_6, fc1_7, fc1_8⟩
theorem d1_0 : decode prog_4_method_3_code 0 = .ok (.new 58, 3) := by decide +kernel
theorem d1_3 : decode prog_4_method_3_code 3 = .ok (.dup, 1) := by decide +kernel
theorem d1_4 : decode prog_4_method_3_code 4 = .ok (.iconst 1, 1) := by decide +kernel
theorem d1_5 : decode prog_4_method_3_code 5 = .ok (.iload_n 0, 1) := by decide +kernel
theorem d1_6 : decode prog_4_method_3_code 6 = .ok (.getstatic 88, 3) := by decide +kernel
theorem d1_9 : decode prog_4_method_3_code 9 = .ok (.invokestatic 91, 3) := by decide +kernel
theorem pd___Ljava_util_OptionalInt_ : parseMethodDescriptor "()Ljava/util/OptionalInt;" = some ⟨[], some (.object "java/util/OptionalInt")⟩ := by decide +kernel
theorem d1_12 : decode prog_4_method_3_code 12 = .ok (.iconst 0, 1) := by decide +kernel
theorem d1_13 : decode prog_4_method_3_code 13 = .ok (.invokespecial 95, 3) := by decide +kernel
theorem pd__ZILjava_time_Duration_Ljava_util_OptionalInt_Z_V : parseMethodDescriptor "(ZILjava/time/Duration;Ljava/util/OptionalInt;Z)V" = some ⟨[.boolean, .int, (.object "java/time/Duration"), (.object "java/util/OptionalInt"), .boolean], none⟩ := by decide +kernel
theorem d1_16 : decode prog_4_method_3_code 16 = .ok (.areturn, 1) := by decide +kernel
theorem ef_rm1 (m : MethodId) (pr : Int32) : entryFrame m #[(.int pr)] 1 = mkF m 0 #[.val (.int pr)] [] := by first | (simp [entryFrame, mkF, argsToLocals, Value.category]; done) | rfl
def Q_rm1 (Z : State) (uD : Addr) (uE : Addr) (pr : Int32) (h0 : Heap) (n0 : Nat) (v : Option Value) (h : Heap) (L : List Loc) : Prop := ∃ b1 : Addr, v = some (.ref b1) ∧ Fr n0 L ∧ Keep h0 h [] ∧ h0.size ≤ b1 ∧ Exa Z h b1 "com/example/throttle/throttle/Decision" ∧ Fld Z h b1 "com/example/throttle/throttle/Decision" "admitted" "Z" (.int (1 : Int32)) ∧ Fld Z h b1 "com/example/throttle/throttle/Decision" "remaining" "I" (.int pr) ∧ Fld Z h b1 "com/example/throttle/throttle/Decision" "retryAfter" "Ljava/time/Duration;" (.ref uD) ∧ Fld Z h b1 "com/example/throttle/throttle/Decision" "refusingLimit" "Ljava/util/OptionalInt;" (.ref uE) ∧ Fld Z h b1 "com/example/throttle/throttle/Decision" "madeWithoutStore" "Z" (.int (0 : Int32)) ∧ Fld Z h b1 "com/example/throttle/throttle/Decision" "refusals" "I" (.int (0 : Int32)) ∧ Fld Z h b1 "com/example/throttle/throttle/Decision" "warning" "Z" (.int (0 : Int32)) ∧ Fld Z h b1 "com/example/throttle/throttle/Decision" "banned" "Z" (.int (0 : Int32))
set_option maxRecDepth 65536 in
set_option maxHeartbeats 40000000 in
theorem rm1 (l : Launch) (Z : State) (a0 : Array Value) (hw : ∀ d ∈ tables_1, d.before a0 Z = true) (ws : List Jvm.Cond) (uD : Addr) (uE : Addr) (pr : Int32) (h0 : Heap) (n0 : Nat) (O0 : Old Z n0 h0) (S_ZERO : Sta Z Z.heap "java/time/Duration" "ZERO" "Ljava/time/Duration;" (.ref uD)) (S_EMPTY : Sta Z Z.heap "java/util/OptionalInt" "EMPTY" "Ljava/util/OptionalInt;" (.ref uE)) (OE_uD : Exa Z Z.heap uD "java/time/Duration") (OF_s : Fld Z Z.heap uD "java/time/Duration" "seconds" "J" (.long (0 : Int64))) (OF_n : Fld Z Z.heap uD "java/time/Duration" "nanos" "I" (.int (0 : Int32))) (OE_uE : Exa Z Z.heap uE "java/util/OptionalInt") (OF_p : Fld Z Z.heap uE "java/util/OptionalInt" "isPresent" "Z" (.int (0 : Int32))) (hp : ¬ (pr < (0 : Int32))) :
    MetFree l (⟨"com/example/throttle/throttle/Decision", "admit", "(I)Lcom/example/throttle/throttle/Decision;"⟩ : MethodName) (head1 (Jvm.Cond.code (⟨"com/example/throttle/throttle/Decision", "admit", "(I)Lcom/example/throttle/throttle/Decision;"⟩ : MethodName) prog_4_method_3_code 1 (some (.object "com/example/throttle/throttle/Decision")) :: ws) ({ frames := 4, cells := 5, slots := 108, locals := 63 } : Room)) (fun aa_ U => aa_ = #[(.int pr)] ∧ Z.Warmed39 U.vm ∧ U.heap = h0) (fun _ _ _ _ _ => True) (fun _ U oo_ U' => ∃ vv_ LL_, oo_ = .returned vv_ ∧ Q_rm1 Z uD uE pr h0 n0 vv_ U'.heap LL_ ∧ ReturnedEndW U oo_ U' LL_ ({ frames := 4, cells := 5, slots := 108, locals := 63 } : Room).cells ({ frames := 4, cells := 5, slots := 108, locals := 63 } : Room).slots) := by
  refine MetFree.of_bodySF (plainFor_of_name pn_com_example_throttle_throttle_Decision) hisR ?_
  intro p e s m args below meth c s₁ Bd hml0 hP hK
  obtain ⟨rfl, hZ, hh⟩ := hP
  have hx := Bd.exec
  have hby := Bd.bytes
  have hml : c.maxLocals = 1 := hml0
  have hown : s.vm.findClass "com/example/throttle/throttle/Decision" = some m.cls := findClass_of_methodNamed Bd.named
  have hnm := (name_of_methodNamed Bd.named Bd.method).1
  have X0 : Stand p l e ({ frames := 4, cells := 5, slots := 108, locals := 63 } : Room) (s.setVm s.vm) m #[(.int pr)] below meth c s₁ [] 0 0 := Stand.of_body Bd
  have e0 : s₁.heap = h0 := by rw [← hh, Bd.state]; rfl
  have N0 := Fr.nil n0
  have K0 : Keep h0 h0 [] := Keep.refl h0 _
  have hS0 : s.Since s.vm 0 := (State.WarmedH.refl s).since 0
  refine own_i (own_s (fun t k => castTop (ef_rm1 m pr) k) ?_)
  show Go p.tables e below _ (s₁.setTop (mkF m 0 #[.val (.int pr)] []))
  obtain ⟨T1, h1, X1, e1, E1, A1, D1, -, st1⟩ := newO X0 hx hZ hown (hw _ (List.mem_of_getElem? (i := 5) rfl)) (hw _ (List.mem_of_getElem? (i := 6) rfl)) (hw _ (List.mem_of_getElem? (i := 3) rfl)) e0 (g := (mkF m 0 #[.val (.int pr)] [])) rfl (hb hby d1_0) (by decide) (by decide)
  obtain ⟨b1, gg1⟩ : ∃ z, z = h0.size := ⟨_, rfl⟩
  rw [← gg1] at A1 D1 st1
  have g_b1 : n0 ≤ b1 := Nat.le_trans (Nat.le_of_eq O0.1.symm) (Nat.le_trans O0.2.1 (Nat.le_of_eq gg1.symm))
  have sz_b1 : h0.size ≤ b1 := Nat.le_trans K0.1 (Nat.le_of_eq gg1.symm)
  have K1 : Keep h0 h1 [] := K0.ext E1
  have F_admitted_b1 : Fld Z h1 b1 "com/example/throttle/throttle/Decision" "admitted" "Z" (.int (0 : Int32)) := D1 (Or.inr (hw _ (List.mem_of_getElem? (i := 63) rfl))) (ty := .boolean) (by decide)
  have F_remaining_b1 : Fld Z h1 b1 "com/example/throttle/throttle/Decision" "remaining" "I" (.int (0 : Int32)) := D1 (Or.inr (hw _ (List.mem_of_getElem? (i := 65) rfl))) (ty := .int) (by decide)
  have F_retryAfter_b1 : Fld Z h1 b1 "com/example/throttle/throttle/Decision" "retryAfter" "Ljava/time/Duration;" .null := D1 (Or.inr (hw _ (List.mem_of_getElem? (i := 67) rfl))) (ty := (.object "java/time/Duration")) (by decide)
  have F_refusingLimit_b1 : Fld Z h1 b1 "com/example/throttle/throttle/Decision" "refusingLimit" "Ljava/util/OptionalInt;" .null := D1 (Or.inr (hw _ (List.mem_of_getElem? (i := 69) rfl))) (ty := (.object "java/util/OptionalInt")) (by decide)
  have F_madeWithoutStore_b1 : Fld Z h1 b1 "com/example/throttle/throttle/Decision" "madeWithoutStore" "Z" (.int (0 : Int32)) := D1 (Or.inr (hw _ (List.mem_of_getElem? (i := 71) rfl))) (ty := .boolean) (by decide)
  have F_refusals_b1 : Fld Z h1 b1 "com/example/throttle/throttle/Decision" "refusals" "I" (.int (0 : Int32)) := D1 (Or.inr (hw _ (List.mem_of_getElem? (i := 73) rfl))) (ty := .int) (by decide)
  have F_warning_b1 : Fld Z h1 b1 "com/example/throttle/throttle/Decision" "warning" "Z" (.int (0 : Int32)) := D1 (Or.inr (hw _ (List.mem_of_getElem? (i := 75) rfl))) (ty := .boolean) (by decide)
  have F_banned_b1 : Fld Z h1 b1 "com/example/throttle/throttle/Decision" "banned" "Z" (.int (0 : Int32)) := D1 (Or.inr (hw _ (List.mem_of_getElem? (i := 77) rfl))) (ty := .boolean) (by decide)
  refine own_s st1 ?_
  show Go p.tables e below _ (T1.setTop (mkF m 3 #[.val (.int pr)] [(.ref b1)]))
  refine own_s (fun t k => XS.dup X1.here hx rfl (hb hby d1_3) rfl rfl k) ?_
  show Go p.tables e below _ (T1.setTop (mkF m 4 #[.val (.int pr)] [(.ref b1), (.ref b1)]))
  refine own_s (fun t k => XS.iconst X1.here hx rfl (hb hby d1_4) k) ?_
  show Go p.tables e below _ (T1.setTop (mkF m 5 #[.val (.int pr)] [(.int (1 : Int32)), (.ref b1), (.ref b1)]))
  refine own_s (fun t k => XS.iloadN X1.here hx rfl (hb hby d1_5) rfl k) ?_
  show Go p.tables e below _ (T1.setTop (mkF m 6 #[.val (.int pr)] [(.int pr), (.int (1 : Int32)), (.ref b1), (.ref b1)]))
  have O2 : Old Z n0 h1 := (O0.ext E1)
  obtain ⟨T3, X3, e3, st3⟩ := getS2 X1 hx hZ hown (host := "") (Or.inl (hw _ (List.mem_of_getElem? (i := 7) rfl))) Via.refl e1 (S_ZERO.ext O2.2) (g := (mkF m 6 #[.val (.int pr)] [(.int pr), (.int (1 : Int32)), (.ref b1), (.ref b1)])) rfl (hb hby d1_6)
  refine own_s st3 ?_
  show Go p.tables e below _ (T3.setTop (mkF m 9 #[.val (.int pr)] [(.ref uD), (.int pr), (.int (1 : Int32)), (.ref b1), (.ref b1)]))
  obtain ⟨_, _, ⟨T4, L4, k4, n4⟩, -, X4, ⟨Lc4, hQ4, l4, y4, z4⟩, st4⟩ := Jvm.LawKit.callS X3 hx (y := (⟨"java/util/OptionalInt", "empty", "()Ljava/util/OptionalInt;"⟩ : MethodName)) hown (mvT hZ (hw _ (List.mem_of_getElem? (i := 9) rfl))) (mvT hZ (hw _ (List.mem_of_getElem? (i := 10) rfl))) (mvT hZ (hw _ (List.mem_of_getElem? (i := 11) rfl))) (mvT hZ (hw _ (List.mem_of_getElem? (i := 12) rfl))) (by decide) (backOf (W := 5) (rm2 l Z a0 hw [] uE h1 n0 O2 S_EMPTY) hZ (hw _ (List.mem_of_getElem? (i := 12) rfl)) (hw _ (List.mem_of_getElem? (i := 11) rfl)) (by decide) (by decide)) (g := (mkF m 9 #[.val (.int pr)] [(.ref uD), (.int pr), (.int (1 : Int32)), (.ref b1), (.ref b1)])) rfl (by rw [hml]; rfl) (argsL := []) (rest := [(.ref uD), (.int pr), (.int (1 : Int32)), (.ref b1), (.ref b1)]) (lenOf pd___Ljava_util_OptionalInt_ rfl) rfl (by show 2 * 0 + _ ≤ _; exact Nat.le_of_eq rfl) (hb hby d1_9) (fun _ _ => ⟨rfl, e3, (by decide : 1 + 0 ≤ _), (by decide : 8 + 0 ≤ _)⟩)
  dsimp only [Pt.U, Pt.locs, Pt.cells, Pt.slots] at X4 l4 y4 z4 st4 hQ4
  subst l4 y4 z4
  obtain ⟨rfl, N4q, eq4⟩ := hQ4
  have N4 := Fr.app N0 N4q
  refine own_s st4 ?_
  show Go p.tables e below _ (T4.setTop (mkF m 12 #[.val (.int pr)] [(.ref uE), (.ref uD), (.int pr), (.int (1 : Int32)), (.ref b1), (.ref b1)]))
  refine own_s (fun t k => XS.iconst X4.here hx rfl (hb hby d1_12) k) ?_
  show Go p.tables e below _ (T4.setTop (mkF m 13 #[.val (.int pr)] [(.int (0 : Int32)), (.ref uE), (.ref uD), (.int pr), (.int (1 : Int32)), (.ref b1), (.ref b1)]))
  obtain ⟨_, _, ⟨T5, L5, k5, n5⟩, -, Xr5, hSr5, gr5, ⟨Lc5, hQ5, l5, y5, z5⟩, st5⟩ := X4.specialBackS hx (y := (⟨"com/example/throttle/throttle/Decision", "<init>", "(ZILjava/time/Duration;Ljava/util/OptionalInt;Z)V"⟩ : MethodName)) rfl hown (mvT hZ (hw _ (List.mem_of_getElem? (i := 14) rfl))) (mvT hZ (hw _ (List.mem_of_getElem? (i := 15) rfl))) (mvT hZ (hw _ (List.mem_of_getElem? (i := 16) rfl))) (by decide) (backOfS (W := 1) (rm3 l Z a0 hw [] (.int (0 : Int32)) (.int (0 : Int32)) .null .null (.int (0 : Int32)) (.int (0 : Int32)) (.int (0 : Int32)) (.int (0 : Int32)) b1 pr uD uE h1 n0 O2 (OF_s.ext O2.2) (OF_n.ext O2.2) (OE_uD.ext O2.2) (OF_p.ext O2.2) (OE_uE.ext O2.2) A1 hp F_admitted_b1 F_remaining_b1 F_retryAfter_b1 F_refusingLimit_b1 F_madeWithoutStore_b1 F_refusals_b1 F_warning_b1 F_banned_b1 g_b1) hZ (hw _ (List.mem_of_getElem? (i := 16) rfl)) (hw _ (List.mem_of_getElem? (i := 3) rfl)) (by decide) (by decide)) (g := (mkF m 13 #[.val (.int pr)] [(.int (0 : Int32)), (.ref uE), (.ref uD), (.int pr), (.int (1 : Int32)), (.ref b1), (.ref b1)])) rfl (by rw [hml]; rfl) (Steps.refl _) (a := b1) (argsL := [(.int (1 : Int32)), (.int pr), (.ref uD), (.ref uE), (.int (0 : Int32))]) (rest := [(.ref b1)]) (lenOf pd__ZILjava_time_Duration_Ljava_util_OptionalInt_Z_V rfl) rfl (by show 2 * 0 + _ ≤ _; exact Nat.le_of_eq rfl) (hb hby d1_13) (fun _ _ => ⟨rfl, eq4, (by decide : 1 + 4 ≤ _), (by decide : 8 + 100 ≤ _)⟩)
  dsimp only [Pt.U, Pt.locs, Pt.cells, Pt.slots] at Xr5 l5 y5 z5 st5 hQ5 hSr5 gr5
  subst l5 y5 z5
  obtain ⟨X5, hS5, hZ5, hown5⟩ := rebS hS0 (show _ ≤ T4.heap.size from (by rw [eq4]; exact (Nat.le_trans (Nat.zero_le _) E1.1))) Xr5 hSr5 gr5 hZ hown
  obtain ⟨rfl, N5q, Kc5, fc5_0, fc5_1, fc5_2, fc5_3, fc5_4, fc5_5, fc5_6, fc5_7, fc5_8⟩ := hQ5
  have K5 : Keep h0 T5.heap [] := K1.trans Kc5 (allS (Or.inr sz_b1) all0)
  have N5 := Fr.app N4 N5q
  refine own_t st5 ?_
  show Go p.tables e below _ (T5.setTop (mkF m 16 #[.val (.int pr)] [(.ref b1)]))
  obtain ⟨fs, hr, hrun, hended, hEnd⟩ := X5.leaveW hS5 (show _ ≤ T5.heap.size from (Nat.le_refl _)) (v := (some (.ref b1))) (fun h => by first | rfl | (rw [Bd.returns] at h; cases h))
  refine own_e ?_ hrun hended ⟨_, _, rfl, ?_, hEnd.1, hEnd.2.1, hEnd.2.2.1, hEnd.2.2.2.mono (by decide) (by decide)⟩
  · exact retOut X5 hx Bd.returns rfl (Or.inr (Or.inr (Or.inr (Or.inr ⟨rfl, rfl, rfl⟩)))) (hb hby d1_16) hr
  · show Q_rm1 Z uD uE pr h0 n0 _ T5.heap _
    exact ⟨b1, rfl, N5, K5, sz_b1, fc5_0, fc5_1, fc5_2, fc5_3, fc5_4, fc5_5, fc5_6, fc5_7, fc5_8⟩
theorem own_pos (x : Int32) : ¬ ((x &&& (2147483647 : Int32)) < (0 : Int32)) := by
  have e := c_mask x 2147483647 31 (by decide) (by decide)
  rw [Int32.lt_iff_toInt_lt]
  have h3 : 0 ≤ x.toInt % ((2 ^ 31 : Nat) : Int) := Int.emod_nonneg _ (by decide)
  intro h1
  have h2 : (x &&& (2147483647 : Int32)).toInt < 0 := h1
  omega
theorem pd__I_Lcom_example_throttle_throttle_Decision_ : parseMethodDescriptor "(I)Lcom/example/throttle/throttle/Decision;" = some ⟨[.int], some (.object "com/example/throttle/throttle/Decision")⟩ := by decide +kernel
theorem pd___I : parseMethodDescriptor "()I" = some ⟨[], some .int⟩ := by decide +kernel
theorem pn_com_example_throttle_throttle_DecisionAdmitPinLaw : plainName "com/example/throttle/throttle/DecisionAdmitPinLaw" = true := by first | (simp [plainName, overriddenIn]; done) | decide +kernel
theorem ef_rm0 (m : MethodId) (x0 : Int32) : entryFrame m #[(.int x0)] maxLocals = mkF m 0 #[.val (.int x0), .unset, .unset] [] := by first | (simp [entryFrame, mkF, argsToLocals, Value.category, maxLocals]; done) | rfl
def Q_rm0 (Z : State) (uD : Addr) (uE : Addr) (x0 : Int32) (h0 : Heap) (n0 : Nat) (v : Option Value) (h : Heap) (L : List Loc) : Prop := v = some (.int (1 : Int32)) ∧ Fr n0 L
set_option maxRecDepth 65536 in
set_option maxHeartbeats 40000000 in
theorem rm0 (l : Launch) (Z : State) (a0 : Array Value) (hw : ∀ d ∈ tables_1, d.before a0 Z = true) (ws : List Jvm.Cond) (uD : Addr) (uE : Addr) (x0 : Int32) (h0 : Heap) (n0 : Nat) (O0 : Old Z n0 h0) (S_ZERO : Sta Z Z.heap "java/time/Duration" "ZERO" "Ljava/time/Duration;" (.ref uD)) (S_EMPTY : Sta Z Z.heap "java/util/OptionalInt" "EMPTY" "Ljava/util/OptionalInt;" (.ref uE)) (OE_uD : Exa Z Z.heap uD "java/time/Duration") (OF_s : Fld Z Z.heap uD "java/time/Duration" "seconds" "J" (.long (0 : Int64))) (OF_n : Fld Z Z.heap uD "java/time/Duration" "nanos" "I" (.int (0 : Int32))) (OE_uE : Exa Z Z.heap uE "java/util/OptionalInt") (OF_p : Fld Z Z.heap uE "java/util/OptionalInt" "isPresent" "Z" (.int (0 : Int32))) :
    MetFree l x (head1 (Jvm.Cond.code x code maxLocals ret :: ws) room_1) (fun aa_ U => aa_ = #[(.int x0)] ∧ Z.Warmed39 U.vm ∧ U.heap = h0) (fun _ _ _ _ _ => True) (fun _ U oo_ U' => ∃ vv_ LL_, oo_ = .returned vv_ ∧ Q_rm0 Z uD uE x0 h0 n0 vv_ U'.heap LL_ ∧ ReturnedEndW U oo_ U' LL_ room_1.cells room_1.slots) := by
  refine MetFree.of_bodySF (plainFor_of_name pn_com_example_throttle_throttle_DecisionAdmitPinLaw) hisR ?_
  intro p e s m args below meth c s₁ Bd hml0 hP hK
  obtain ⟨rfl, hZ, hh⟩ := hP
  have hx := Bd.exec
  have hby := Bd.bytes
  have hml : c.maxLocals = 3 := hml0
  have hown : s.vm.findClass "com/example/throttle/throttle/DecisionAdmitPinLaw" = some m.cls := findClass_of_methodNamed Bd.named
  have hnm := (name_of_methodNamed Bd.named Bd.method).1
  have X0 : Stand p l e room_1 (s.setVm s.vm) m #[(.int x0)] below meth c s₁ [] 0 0 := Stand.of_body Bd
  have e0 : s₁.heap = h0 := by rw [← hh, Bd.state]; rfl
  have N0 := Fr.nil n0
  have K0 : Keep h0 h0 [] := Keep.refl h0 _
  have hS0 : s.Since s.vm 0 := (State.WarmedH.refl s).since 0
  refine own_i (own_s (fun t k => castTop (ef_rm0 m x0) k) ?_)
  show Go p.tables e below _ (s₁.setTop (mkF m 0 #[.val (.int x0), .unset, .unset] []))
  refine own_s (fun t k => XS.iloadN X0.here hx rfl (hb hby at_0) rfl k) ?_
  show Go p.tables e below _ (s₁.setTop (mkF m 1 #[.val (.int x0), .unset, .unset] [(.int x0)]))
  refine own_s (X0.ldcInt hx hown (mvT hZ (hw _ (List.mem_of_getElem? (i := 0) rfl))) (g := (mkF m 1 #[.val (.int x0), .unset, .unset] [(.int x0)])) rfl (hb hby at_1)) ?_
  show Go p.tables e below _ (s₁.setTop (mkF m 3 #[.val (.int x0), .unset, .unset] [(.int (2147483647 : Int32)), (.int x0)]))
  refine own_s (fun t k => XS.iand X0.here hx rfl (hb hby at_3) rfl k) ?_
  show Go p.tables e below _ (s₁.setTop (mkF m 4 #[.val (.int x0), .unset, .unset] [(.int (x0 &&& (2147483647 : Int32)))]))
  refine own_s (fun t k => XS.istoreN X0.here hx rfl (hb hby at_4) rfl (l' := #[.val (.int x0), .val (.int (x0 &&& (2147483647 : Int32))), .unset]) rfl k) ?_
  show Go p.tables e below _ (s₁.setTop (mkF m 5 #[.val (.int x0), .val (.int (x0 &&& (2147483647 : Int32))), .unset] []))
  refine own_s (fun t k => XS.iloadN X0.here hx rfl (hb hby at_5) rfl k) ?_
  show Go p.tables e below _ (s₁.setTop (mkF m 6 #[.val (.int x0), .val (.int (x0 &&& (2147483647 : Int32))), .unset] [(.int (x0 &&& (2147483647 : Int32)))]))
  obtain ⟨_, _, ⟨T1, L1, k1, n1⟩, -, Xr1, hSr1, gr1, ⟨Lc1, hQ1, l1, y1, z1⟩, st1⟩ := callSS X0 hx (y := (⟨"com/example/throttle/throttle/Decision", "admit", "(I)Lcom/example/throttle/throttle/Decision;"⟩ : MethodName)) hown (mvT hZ (hw _ (List.mem_of_getElem? (i := 1) rfl))) (mvT hZ (hw _ (List.mem_of_getElem? (i := 2) rfl))) (mvT hZ (hw _ (List.mem_of_getElem? (i := 3) rfl))) (mvT hZ (hw _ (List.mem_of_getElem? (i := 4) rfl))) (by decide) (backOfS (W := 0) (rm1 l Z a0 hw [] uD uE (x0 &&& (2147483647 : Int32)) h0 n0 O0 S_ZERO S_EMPTY OE_uD OF_s OF_n OE_uE OF_p (own_pos _)) hZ (hw _ (List.mem_of_getElem? (i := 4) rfl)) (hw _ (List.mem_of_getElem? (i := 3) rfl)) (by decide) (by decide)) (g := (mkF m 6 #[.val (.int x0), .val (.int (x0 &&& (2147483647 : Int32))), .unset] [(.int (x0 &&& (2147483647 : Int32)))])) rfl (by rw [hml]; rfl) (argsL := [(.int (x0 &&& (2147483647 : Int32)))]) (rest := []) (lenOf pd__I_Lcom_example_throttle_throttle_Decision_ rfl) rfl (by show 2 * 0 + _ ≤ _; exact Nat.le_of_eq rfl) (hb hby at_6) (fun _ _ => ⟨rfl, e0, (by decide : 0 + 5 ≤ _), (by decide : 0 + 108 ≤ _)⟩)
  dsimp only [Pt.U, Pt.locs, Pt.cells, Pt.slots] at Xr1 l1 y1 z1 st1 hQ1 hSr1 gr1
  subst l1 y1 z1
  obtain ⟨X1, hS1, hZ1, hown1⟩ := rebS hS0 (show _ ≤ s₁.heap.size from (by rw [e0]; exact (Nat.zero_le _))) Xr1 hSr1 gr1 hZ hown
  obtain ⟨b1_1, rfl, N1q, Kc1, bz_b1_1, fc1_0, fc1_1, fc1_2, fc1_3, fc1_4, fc1_5, fc1_6, fc1_7, fc1_8⟩ := hQ1
  have g_b1_1 : n0 ≤ b1_1 := Nat.le_trans (Nat.le_of_eq O0.1.symm) (Nat.le_trans O0.2.1 bz_b1_1)
  have sz_b1_1 : h0.size ≤ b1_1 := Nat.le_trans K0.1 bz_b1_1
  have K1 : Keep h0 T1.heap [] := K0.trans Kc1 all0
  have N1 := Fr.app N0 N1q
  refine own_t st1 ?_
  show Go p.tables e below _ (T1.setTop (mkF m 9 #[.val (.int x0), .val (.int (x0 &&& (2147483647 : Int32))), .unset] [(.ref b1_1)]))
  refine own_s (fun t k => XS.astoreN X1.here hx rfl (hb hby at_9) rfl rfl (l' := #[.val (.int x0), .val (.int (x0 &&& (2147483647 : Int32))), .val (.ref b1_1)]) rfl k) ?_
  show Go p.tables e below _ (T1.setTop (mkF m 10 #[.val (.int x0), .val (.int (x0 &&& (2147483647 : Int32))), .val (.ref b1_1)] []))
  refine own_s (fun t k => XS.aloadN X1.here hx rfl (hb hby at_10) rfl rfl k) ?_
  show Go p.tables e below _ (T1.setTop (mkF m 11 #[.val (.int x0), .val (.int (x0 &&& (2147483647 : Int32))), .val (.ref b1_1)] [(.ref b1_1)]))
  have O3 : Old Z n0 T1.heap := (O0.keep Kc1 all0)
  obtain ⟨cq2, kq2, q2a, q2b, q2c⟩ := isOf hZ1 rfl fc1_0
  obtain ⟨_, _, ⟨T2, L2, k2, n2⟩, -, X2, ⟨Lc2, hQ2, l2, y2, z2⟩, st2⟩ := X1.virtualBack hx (y := (⟨"com/example/throttle/throttle/Decision", "admitted", "()Z"⟩ : MethodName)) (z := (⟨"com/example/throttle/throttle/Decision", "admitted", "()Z"⟩ : MethodName)) hown1 (mvT hZ1 (hw _ (List.mem_of_getElem? (i := 78) rfl))) (mvT hZ1 (hw _ (List.mem_of_getElem? (i := 79) rfl))) (notFace_of_selects (args := #[]) (mvT hZ1 (hw _ (List.mem_of_getElem? (i := 81) rfl)))) (mvT hZ1 (hw _ (List.mem_of_getElem? (i := 81) rfl))) (mvT hZ1 (hw _ (List.mem_of_getElem? (i := 80) rfl))) (by decide) (backOf (W := 0) (rm11 l Z a0 hw [] b1_1 (1 : Int32) T1.heap n0 O3 fc1_1) hZ1 (hw _ (List.mem_of_getElem? (i := 82) rfl)) (hw _ (List.mem_of_getElem? (i := 3) rfl)) (by decide) (by decide)) q2a q2c (g := (mkF m 11 #[.val (.int x0), .val (.int (x0 &&& (2147483647 : Int32))), .val (.ref b1_1)] [(.ref b1_1)])) rfl (by rw [hml]; rfl) (Steps.refl _) (argsL := []) (rest := []) (lenOf pd___Z rfl) rfl (by show 2 * 0 + _ ≤ _; exact Nat.le_of_eq rfl) (hb hby at_11) (fun _ _ => ⟨rfl, rfl, (by decide : 5 + 0 ≤ _), (by decide : 108 + 0 ≤ _)⟩)
  dsimp only [Pt.U, Pt.locs, Pt.cells, Pt.slots] at X2 l2 y2 z2 st2 hQ2
  subst l2 y2 z2
  obtain ⟨rfl, N2q, eq2⟩ := hQ2
  have N2 := Fr.app N1 N2q
  refine own_t st2 ?_
  show Go p.tables e below _ (T2.setTop (mkF m 14 #[.val (.int x0), .val (.int (x0 &&& (2147483647 : Int32))), .val (.ref b1_1)] [(.int (1 : Int32))]))
  refine own_s (fun t k => XS.ifNo X2.here hx rfl (hb hby at_14) rfl ((if0 _ _).trans (feq (by decide : ¬ ((1 : Int32) = (0 : Int32)))).1) k) ?_
  show Go p.tables e below _ (T2.setTop (mkF m 17 #[.val (.int x0), .val (.int (x0 &&& (2147483647 : Int32))), .val (.ref b1_1)] []))
  refine own_s (fun t k => XS.aloadN X2.here hx rfl (hb hby at_17) rfl rfl k) ?_
  show Go p.tables e below _ (T2.setTop (mkF m 18 #[.val (.int x0), .val (.int (x0 &&& (2147483647 : Int32))), .val (.ref b1_1)] [(.ref b1_1)]))
  obtain ⟨cq4, kq4, q4a, q4b, q4c⟩ := isOf hZ1 eq2 fc1_0
  obtain ⟨_, _, ⟨T4, L4, k4, n4⟩, -, X4, ⟨Lc4, hQ4, l4, y4, z4⟩, st4⟩ := X2.virtualBack hx (y := (⟨"com/example/throttle/throttle/Decision", "remaining", "()I"⟩ : MethodName)) (z := (⟨"com/example/throttle/throttle/Decision", "remaining", "()I"⟩ : MethodName)) hown1 (mvT hZ1 (hw _ (List.mem_of_getElem? (i := 83) rfl))) (mvT hZ1 (hw _ (List.mem_of_getElem? (i := 84) rfl))) (notFace_of_selects (args := #[]) (mvT hZ1 (hw _ (List.mem_of_getElem? (i := 86) rfl)))) (mvT hZ1 (hw _ (List.mem_of_getElem? (i := 86) rfl))) (mvT hZ1 (hw _ (List.mem_of_getElem? (i := 85) rfl))) (by decide) (backOf (W := 0) (rm12 l Z a0 hw [] b1_1 (x0 &&& (2147483647 : Int32)) T1.heap n0 O3 fc1_2) hZ1 (hw _ (List.mem_of_getElem? (i := 87) rfl)) (hw _ (List.mem_of_getElem? (i := 3) rfl)) (by decide) (by decide)) q4a q4c (g := (mkF m 18 #[.val (.int x0), .val (.int (x0 &&& (2147483647 : Int32))), .val (.ref b1_1)] [(.ref b1_1)])) rfl (by rw [hml]; rfl) (Steps.refl _) (argsL := []) (rest := []) (lenOf pd___I rfl) rfl (by show 2 * 0 + _ ≤ _; exact Nat.le_of_eq rfl) (hb hby at_18) (fun _ _ => ⟨rfl, eq2, (by decide : 5 + 0 ≤ _), (by decide : 108 + 0 ≤ _)⟩)
  dsimp only [Pt.U, Pt.locs, Pt.cells, Pt.slots] at X4 l4 y4 z4 st4 hQ4
  subst l4 y4 z4
  obtain ⟨rfl, N4q, eq4⟩ := hQ4
  have N4 := Fr.app N2 N4q
  refine own_t st4 ?_
  show Go p.tables e below _ (T4.setTop (mkF m 21 #[.val (.int x0), .val (.int (x0 &&& (2147483647 : Int32))), .val (.ref b1_1)] [(.int (x0 &&& (2147483647 : Int32)))]))
  refine own_s (fun t k => XS.iloadN X4.here hx rfl (hb hby at_21) rfl k) ?_
  show Go p.tables e below _ (T4.setTop (mkF m 22 #[.val (.int x0), .val (.int (x0 &&& (2147483647 : Int32))), .val (.ref b1_1)] [(.int (x0 &&& (2147483647 : Int32))), (.int (x0 &&& (2147483647 : Int32)))]))
  refine own_s (fun t k => XS.icmpNo X4.here hx rfl (hb hby at_22) rfl (teq (rfl : (x0 &&& (2147483647 : Int32)) = (x0 &&& (2147483647 : Int32)))).2 k) ?_
  show Go p.tables e below _ (T4.setTop (mkF m 25 #[.val (.int x0), .val (.int (x0 &&& (2147483647 : Int32))), .val (.ref b1_1)] []))
  refine own_s (fun t k => XS.aloadN X4.here hx rfl (hb hby at_25) rfl rfl k) ?_
  show Go p.tables e below _ (T4.setTop (mkF m 26 #[.val (.int x0), .val (.int (x0 &&& (2147483647 : Int32))), .val (.ref b1_1)] [(.ref b1_1)]))
  obtain ⟨cq5, kq5, q5a, q5b, q5c⟩ := isOf hZ1 eq4 fc1_0
  obtain ⟨_, _, ⟨T5, L5, k5, n5⟩, -, X5, ⟨Lc5, hQ5, l5, y5, z5⟩, st5⟩ := X4.virtualBack hx (y := (⟨"com/example/throttle/throttle/Decision", "madeWithoutStore", "()Z"⟩ : MethodName)) (z := (⟨"com/example/throttle/throttle/Decision", "madeWithoutStore", "()Z"⟩ : MethodName)) hown1 (mvT hZ1 (hw _ (List.mem_of_getElem? (i := 88) rfl))) (mvT hZ1 (hw _ (List.mem_of_getElem? (i := 89) rfl))) (notFace_of_selects (args := #[]) (mvT hZ1 (hw _ (List.mem_of_getElem? (i := 91) rfl)))) (mvT hZ1 (hw _ (List.mem_of_getElem? (i := 91) rfl))) (mvT hZ1 (hw _ (List.mem_of_getElem? (i := 90) rfl))) (by decide) (backOf (W := 0) (rm13 l Z a0 hw [] b1_1 (0 : Int32) T1.heap n0 O3 fc1_5) hZ1 (hw _ (List.mem_of_getElem? (i := 92) rfl)) (hw _ (List.mem_of_getElem? (i := 3) rfl)) (by decide) (by decide)) q5a q5c (g := (mkF m 26 #[.val (.int x0), .val (.int (x0 &&& (2147483647 : Int32))), .val (.ref b1_1)] [(.ref b1_1)])) rfl (by rw [hml]; rfl) (Steps.refl _) (argsL := []) (rest := []) (lenOf pd___Z rfl) rfl (by show 2 * 0 + _ ≤ _; exact Nat.le_of_eq rfl) (hb hby at_26) (fun _ _ => ⟨rfl, eq4, (by decide : 5 + 0 ≤ _), (by decide : 108 + 0 ≤ _)⟩)
  dsimp only [Pt.U, Pt.locs, Pt.cells, Pt.slots] at X5 l5 y5 z5 st5 hQ5
  subst l5 y5 z5
  obtain ⟨rfl, N5q, eq5⟩ := hQ5
  have N5 := Fr.app N4 N5q
  refine own_t st5 ?_
  show Go p.tables e below _ (T5.setTop (mkF m 29 #[.val (.int x0), .val (.int (x0 &&& (2147483647 : Int32))), .val (.ref b1_1)] [(.int (0 : Int32))]))
  refine own_s (fun t k => XS.ifNo X5.here hx rfl (hb hby at_29) rfl ((if0 _ _).trans (teq (by decide : (0 : Int32) = (0 : Int32))).2) k) ?_
  show Go p.tables e below _ (T5.setTop (mkF m 32 #[.val (.int x0), .val (.int (x0 &&& (2147483647 : Int32))), .val (.ref b1_1)] []))
  refine own_s (fun t k => XS.aloadN X5.here hx rfl (hb hby at_32) rfl rfl k) ?_
  show Go p.tables e below _ (T5.setTop (mkF m 33 #[.val (.int x0), .val (.int (x0 &&& (2147483647 : Int32))), .val (.ref b1_1)] [(.ref b1_1)]))
  obtain ⟨cq6, kq6, q6a, q6b, q6c⟩ := isOf hZ1 eq5 fc1_0
  obtain ⟨_, _, ⟨T6, L6, k6, n6⟩, -, X6, ⟨Lc6, hQ6, l6, y6, z6⟩, st6⟩ := X5.virtualBack hx (y := (⟨"com/example/throttle/throttle/Decision", "refusals", "()I"⟩ : MethodName)) (z := (⟨"com/example/throttle/throttle/Decision", "refusals", "()I"⟩ : MethodName)) hown1 (mvT hZ1 (hw _ (List.mem_of_getElem? (i := 93) rfl))) (mvT hZ1 (hw _ (List.mem_of_getElem? (i := 94) rfl))) (notFace_of_selects (args := #[]) (mvT hZ1 (hw _ (List.mem_of_getElem? (i := 96) rfl)))) (mvT hZ1 (hw _ (List.mem_of_getElem? (i := 96) rfl))) (mvT hZ1 (hw _ (List.mem_of_getElem? (i := 95) rfl))) (by decide) (backOf (W := 0) (rm14 l Z a0 hw [] b1_1 (0 : Int32) T1.heap n0 O3 fc1_6) hZ1 (hw _ (List.mem_of_getElem? (i := 97) rfl)) (hw _ (List.mem_of_getElem? (i := 3) rfl)) (by decide) (by decide)) q6a q6c (g := (mkF m 33 #[.val (.int x0), .val (.int (x0 &&& (2147483647 : Int32))), .val (.ref b1_1)] [(.ref b1_1)])) rfl (by rw [hml]; rfl) (Steps.refl _) (argsL := []) (rest := []) (lenOf pd___I rfl) rfl (by show 2 * 0 + _ ≤ _; exact Nat.le_of_eq rfl) (hb hby at_33) (fun _ _ => ⟨rfl, eq5, (by decide : 5 + 0 ≤ _), (by decide : 108 + 0 ≤ _)⟩)
  dsimp only [Pt.U, Pt.locs, Pt.cells, Pt.slots] at X6 l6 y6 z6 st6 hQ6
  subst l6 y6 z6
  obtain ⟨rfl, N6q, eq6⟩ := hQ6
  have N6 := Fr.app N5 N6q
  refine own_t st6 ?_
  show Go p.tables e below _ (T6.setTop (mkF m 36 #[.val (.int x0), .val (.int (x0 &&& (2147483647 : Int32))), .val (.ref b1_1)] [(.int (0 : Int32))]))
  refine own_s (fun t k => XS.ifNo X6.here hx rfl (hb hby at_36) rfl ((if0 _ _).trans (teq (by decide : (0 : Int32) = (0 : Int32))).2) k) ?_
  show Go p.tables e below _ (T6.setTop (mkF m 39 #[.val (.int x0), .val (.int (x0 &&& (2147483647 : Int32))), .val (.ref b1_1)] []))
  refine own_s (fun t k => XS.aloadN X6.here hx rfl (hb hby at_39) rfl rfl k) ?_
  show Go p.tables e below _ (T6.setTop (mkF m 40 #[.val (.int x0), .val (.int (x0 &&& (2147483647 : Int32))), .val (.ref b1_1)] [(.ref b1_1)]))
  obtain ⟨cq7, kq7, q7a, q7b, q7c⟩ := isOf hZ1 eq6 fc1_0
  obtain ⟨_, _, ⟨T7, L7, k7, n7⟩, -, X7, ⟨Lc7, hQ7, l7, y7, z7⟩, st7⟩ := X6.virtualBack hx (y := (⟨"com/example/throttle/throttle/Decision", "warning", "()Z"⟩ : MethodName)) (z := (⟨"com/example/throttle/throttle/Decision", "warning", "()Z"⟩ : MethodName)) hown1 (mvT hZ1 (hw _ (List.mem_of_getElem? (i := 98) rfl))) (mvT hZ1 (hw _ (List.mem_of_getElem? (i := 99) rfl))) (notFace_of_selects (args := #[]) (mvT hZ1 (hw _ (List.mem_of_getElem? (i := 101) rfl)))) (mvT hZ1 (hw _ (List.mem_of_getElem? (i := 101) rfl))) (mvT hZ1 (hw _ (List.mem_of_getElem? (i := 100) rfl))) (by decide) (backOf (W := 0) (rm15 l Z a0 hw [] b1_1 (0 : Int32) T1.heap n0 O3 fc1_7) hZ1 (hw _ (List.mem_of_getElem? (i := 102) rfl)) (hw _ (List.mem_of_getElem? (i := 3) rfl)) (by decide) (by decide)) q7a q7c (g := (mkF m 40 #[.val (.int x0), .val (.int (x0 &&& (2147483647 : Int32))), .val (.ref b1_1)] [(.ref b1_1)])) rfl (by rw [hml]; rfl) (Steps.refl _) (argsL := []) (rest := []) (lenOf pd___Z rfl) rfl (by show 2 * 0 + _ ≤ _; exact Nat.le_of_eq rfl) (hb hby at_40) (fun _ _ => ⟨rfl, eq6, (by decide : 5 + 0 ≤ _), (by decide : 108 + 0 ≤ _)⟩)
  dsimp only [Pt.U, Pt.locs, Pt.cells, Pt.slots] at X7 l7 y7 z7 st7 hQ7
  subst l7 y7 z7
  obtain ⟨rfl, N7q, eq7⟩ := hQ7
  have N7 := Fr.app N6 N7q
  refine own_t st7 ?_
  show Go p.tables e below _ (T7.setTop (mkF m 43 #[.val (.int x0), .val (.int (x0 &&& (2147483647 : Int32))), .val (.ref b1_1)] [(.int (0 : Int32))]))
  refine own_s (fun t k => XS.ifNo X7.here hx rfl (hb hby at_43) rfl ((if0 _ _).trans (teq (by decide : (0 : Int32) = (0 : Int32))).2) k) ?_
  show Go p.tables e below _ (T7.setTop (mkF m 46 #[.val (.int x0), .val (.int (x0 &&& (2147483647 : Int32))), .val (.ref b1_1)] []))
  refine own_s (fun t k => XS.aloadN X7.here hx rfl (hb hby at_46) rfl rfl k) ?_
  show Go p.tables e below _ (T7.setTop (mkF m 47 #[.val (.int x0), .val (.int (x0 &&& (2147483647 : Int32))), .val (.ref b1_1)] [(.ref b1_1)]))
  obtain ⟨cq8, kq8, q8a, q8b, q8c⟩ := isOf hZ1 eq7 fc1_0
  obtain ⟨_, _, ⟨T8, L8, k8, n8⟩, -, X8, ⟨Lc8, hQ8, l8, y8, z8⟩, st8⟩ := X7.virtualBack hx (y := (⟨"com/example/throttle/throttle/Decision", "banned", "()Z"⟩ : MethodName)) (z := (⟨"com/example/throttle/throttle/Decision", "banned", "()Z"⟩ : MethodName)) hown1 (mvT hZ1 (hw _ (List.mem_of_getElem? (i := 103) rfl))) (mvT hZ1 (hw _ (List.mem_of_getElem? (i := 104) rfl))) (notFace_of_selects (args := #[]) (mvT hZ1 (hw _ (List.mem_of_getElem? (i := 106) rfl)))) (mvT hZ1 (hw _ (List.mem_of_getElem? (i := 106) rfl))) (mvT hZ1 (hw _ (List.mem_of_getElem? (i := 105) rfl))) (by decide) (backOf (W := 0) (rm16 l Z a0 hw [] b1_1 (0 : Int32) T1.heap n0 O3 fc1_8) hZ1 (hw _ (List.mem_of_getElem? (i := 107) rfl)) (hw _ (List.mem_of_getElem? (i := 3) rfl)) (by decide) (by decide)) q8a q8c (g := (mkF m 47 #[.val (.int x0), .val (.int (x0 &&& (2147483647 : Int32))), .val (.ref b1_1)] [(.ref b1_1)])) rfl (by rw [hml]; rfl) (Steps.refl _) (argsL := []) (rest := []) (lenOf pd___Z rfl) rfl (by show 2 * 0 + _ ≤ _; exact Nat.le_of_eq rfl) (hb hby at_47) (fun _ _ => ⟨rfl, eq7, (by decide : 5 + 0 ≤ _), (by decide : 108 + 0 ≤ _)⟩)
  dsimp only [Pt.U, Pt.locs, Pt.cells, Pt.slots] at X8 l8 y8 z8 st8 hQ8
  subst l8 y8 z8
  obtain ⟨rfl, N8q, eq8⟩ := hQ8
  have N8 := Fr.app N7 N8q
  refine own_t st8 ?_
  show Go p.tables e below _ (T8.setTop (mkF m 50 #[.val (.int x0), .val (.int (x0 &&& (2147483647 : Int32))), .val (.ref b1_1)] [(.int (0 : Int32))]))
  refine own_s (fun t k => XS.ifNo X8.here hx rfl (hb hby at_50) rfl ((if0 _ _).trans (teq (by decide : (0 : Int32) = (0 : Int32))).2) k) ?_
  show Go p.tables e below _ (T8.setTop (mkF m 53 #[.val (.int x0), .val (.int (x0 &&& (2147483647 : Int32))), .val (.ref b1_1)] []))
  refine own_s (fun t k => XS.iconst X8.here hx rfl (hb hby at_53) k) ?_
  show Go p.tables e below _ (T8.setTop (mkF m 54 #[.val (.int x0), .val (.int (x0 &&& (2147483647 : Int32))), .val (.ref b1_1)] [(.int (1 : Int32))]))
  refine own_s (fun t k => XS.goto X8.here hx rfl (pc0 := 54) (pc' := 58) rfl (hb hby at_54) (by decide) (by decide) k) ?_
  show Go p.tables e below _ (T8.setTop (mkF m 58 #[.val (.int x0), .val (.int (x0 &&& (2147483647 : Int32))), .val (.ref b1_1)] [(.int (1 : Int32))]))
  obtain ⟨fs, hr, hrun, hended, hEnd⟩ := X8.leaveW hS1 (show _ ≤ T8.heap.size from (by rw [eq8]; exact (Nat.le_refl _))) (v := (some (.int (1 : Int32)))) (fun h => by first | rfl | (rw [Bd.returns] at h; cases h))
  refine own_e ?_ hrun hended ⟨_, _, rfl, ?_, hEnd.1, hEnd.2.1, hEnd.2.2.1, hEnd.2.2.2.mono (by decide) (by decide)⟩
  · exact retN X8 hx (t := .boolean) Bd.returns (by simp) (hb hby at_58) hr
  · show Q_rm0 Z uD uE x0 h0 n0 _ T8.heap _
    rw [eq8]
    exact ⟨rfl, N8⟩
set_option maxRecDepth 65536 in
set_option maxHeartbeats 40000000 in
theorem comes_1 {Post : Tables → Env → Array Value → State → Outcome → State → Prop} (hpost : ∀ tb e args s v u, (limb_1_1.after args s (.returned v) u = true ∧ limb_1_2.after args s (.returned v) u = true ∧ True) → ReturnedEndW s (.returned v) u (Jvm.fieldLocs frame_1_writes args s ++ Jvm.arrayLocs frame_1_arrays args s ++ Jvm.staticLocs frame_1_statics s) 16 2176 → Post tb e args s (.returned v) u) :
    ArmFor flags0 classFile x code maxLocals ret World_1 tables_1 room_1 Calls_1 rest_1 Pre_1 Post := by
  intro l hfl _ _ p e ha hc hk s m args below hf hA hF happ hP
  obtain ⟨hcalls, hrest, hpre⟩ := hP
  obtain ⟨-, -, -, hnamed, -, -, -, hat⟩ := (Spec.applies_iff hf).mp happ
  obtain ⟨hg, hn⟩ := and_e (Cond.before_iff.mp (show (Jvm.Cond.and given_1 narrow_1).before args s = true from hpre))
  obtain ⟨g5, g6⟩ := and_e hg
  obtain ⟨w0, rfl⟩ : ∃ w0 : Value, args = #[w0] := by
    have hs : args.size = 1 := by simpa [Cond.value, given_1] using g5
    obtain ⟨L⟩ := args
    match L, hs with
    | [w0], _ => exact ⟨w0, rfl⟩
  have hw := fun d (hd : d ∈ tables_1) => atoms_spec (ws := Jvm.Cond.code x code maxLocals ret :: tables_1) hat d (List.mem_cons_of_mem _ hd)
  obtain ⟨i0, ei0⟩ := is_v g6
  obtain rfl : w0 = (.int i0) := Option.some.inj ei0
  have hr0 := Cond.before_iff.mp (show rest_1_c.before #[.int i0] s = true from hrest)
  obtain ⟨r1, hr0⟩ := and_e hr0
  obtain ⟨r2, hr0⟩ := and_e hr0
  obtain ⟨r3, hr0⟩ := and_e hr0
  obtain ⟨r4, hr0⟩ := and_e hr0
  obtain ⟨r5, hr0⟩ := and_e hr0
  obtain ⟨r6, hr0⟩ := and_e hr0
  obtain ⟨r7, hr0⟩ := and_e hr0
  obtain ⟨r8, hr0⟩ := and_e hr0
  obtain ⟨r9, -⟩ := and_e hr0
  obtain ⟨uD, eD⟩ := exa_v r3
  obtain ⟨uE, eE⟩ := exa_v r8
  obtain ⟨n, o, h1, h2, h3, _, L, rfl, ⟨rfl, N⟩, hq⟩ := rm0 l s _ hw tables_1 uD uE i0 s.heap s.heap.size (Old.start s) (Sta.start eD (Or.inl (Cond.before_iff.mpr r2))) (Sta.start eE (Or.inl (Cond.before_iff.mpr r7))) (Exa.start eD r3) (own_fJ eD r4) (own_fI eD r5) (Exa.start eE r8) (own_fI eE r9) p e ha hc hk s m _ below hf ((Spec.applies_iff_loose hf).mp happ).1 ⟨rfl, State.Warmed39.refl s, rfl⟩ trivial
  refine ⟨n, _, h1, h2, h3, hpost _ _ _ _ _ _ ⟨Cond.after_iff.mpr rfl, Cond.after_iff.mpr (eq_i res_at (Term.int_eval (1)) rfl), trivial⟩ ⟨hq.1, hq.2.1, hq.2.2.1, (hq.2.2.2.sift fun y hy => Or.inr (N y hy)).mono (by decide) (by decide)⟩⟩
theorem main_1_1 : Claimed_1_1 := comes_1 fun _ _ _ _ _ _ h hF => ⟨h.1, hF⟩
theorem main_1_2 : Claimed_1_2 := comes_1 fun _ _ _ _ _ _ h hF => ⟨h.2.1, hF⟩
end Jvm.Pilot.@@N@@
namespace Jvm.Pilot.@@N@@
open Jvm Jvm.ClassFile Sem Op Lib Jvm.Free Jvm.Stand Jvm.Pilot.@@N@@.Jvm.D
/-! MADE BY PROGRAM (witnessworld.py) out of the Statement's table words and the real class files: 19 classes; the members and pool entries that the words name. The judged class is class 1, her method 1. -/
namespace start1
open Jvm.ClassFile
def u (s : String) : CpInfo := .utf8 (stringToUtf16 s)
/-- a pool by its gaps: so many unusable entries, then the entry; so many at the end -/
def gap : Nat → List CpInfo → List CpInfo
  | 0, r => r
  | n + 1, r => .unusable :: gap n r
def poolList (es : List (Nat × CpInfo)) (last : Nat) : List CpInfo := es.foldr (fun e r => gap e.1 (e.2 :: r)) (gap last [])
def pool (es : List (Nat × CpInfo)) (last : Nat) : Array CpInfo := ⟨poolList es last⟩
def fileOf (pool : Array CpInfo) (this : Nat) (attrs : Array Attribute := #[]) (ms : Array MethodInfo := #[]) (fl : Nat := 33) (sup : Nat := 0) (ifs : Array Nat := #[]) (fds : Array FieldInfo := #[]) : ClassFile where
  minorVersion := 0
  majorVersion := 65
  constantPool := pool
  accessFlags := fl
  thisClass := this
  superClass := sup
  interfaces := ifs
  fields := fds
  methods := ms
  attributes := attrs
def plain (name : String) (sup : Option ClassId) : Class where
  name := name
  kind := .ordinary
  loader := none
  accessFlags := 33
  super := sup
  interfaces := #[]
  cf := none
  fields := #[]
  methods := #[]
  instanceTypes := #[]
  staticTypes := #[]
  resolved := #[]
  callSites := []
  init := .initialized
  statics := none
  mirror := none

def pool0 : Array CpInfo := pool [(5, u "<init>"), (0, u "()V"), (1, .class_ 10), (1, u "java/lang/Object")] 113

def k0c0 : Code := { maxStack := 0, maxLocals := 1, code := object_method_1_code, exceptionTable := #[], attributes := #[] }
def k0m0 : Method := { name := "<init>", desc := "()V", sig := { parameters := [], returnType := none }, accessFlags := 1, code := some k0c0 }
/-- java/lang/Object -/
def k0 : Class := { plain "java/lang/Object" none with
  accessFlags := 33
  interfaces := #[]
  cf := some (fileOf pool0 8 #[] #[{ accessFlags := 1, nameIndex := 5, descriptorIndex := 6, attributes := #[] }] 33 0 #[] #[])
  fields := #[]
  methods := #[k0m0]
  instanceTypes := #[]
  staticTypes := #[]
  resolved := Array.replicate 124 none
  statics := none }

def pool1 : Array CpInfo := pool [(2, .class_ 4), (1, u "java/lang/Object"), (0, u "<init>"), (0, u "()V"), (0, .integer 2147483647), (0, .methodref 9 10), (0, .class_ 11), (0, .nameAndType 12 13), (0, u "com/example/throttle/throttle/Decision"), (0, u "admit"), (0, u "(I)Lcom/example/throttle/throttle/Decision;"), (0, .methodref 9 15), (0, .nameAndType 16 17), (0, u "admitted"), (0, u "()Z"), (0, .methodref 9 19), (0, .nameAndType 20 21), (0, u "remaining"), (0, u "()I"), (0, .methodref 9 23), (0, .nameAndType 24 17), (0, u "madeWithoutStore"), (0, .methodref 9 26), (0, .nameAndType 27 21), (0, u "refusals"), (0, .methodref 9 29), (0, .nameAndType 30 17), (0, u "warning"), (0, .methodref 9 32), (0, .nameAndType 33 17), (0, u "banned"), (0, .class_ 35), (0, u "com/example/throttle/throttle/DecisionAdmitPinLaw"), (2, u "law"), (0, u "(I)Z")] 3

def k1m0 : Method := { name := "<init>", desc := "()V", sig := { parameters := [], returnType := none }, accessFlags := 2, code := none }
def k1c1 : Code := { maxStack := 2, maxLocals := 3, code := code, exceptionTable := #[], attributes := #[] }
def k1m1 : Method := { name := "law", desc := "(I)Z", sig := { parameters := [.int], returnType := some .boolean }, accessFlags := 9, code := some k1c1 }
/-- com/example/throttle/throttle/DecisionAdmitPinLaw -/
def k1 : Class := { plain "com/example/throttle/throttle/DecisionAdmitPinLaw" (some 0) with
  accessFlags := 49
  interfaces := #[]
  cf := some (fileOf pool1 34 #[] #[{ accessFlags := 2, nameIndex := 5, descriptorIndex := 6, attributes := #[] }, { accessFlags := 9, nameIndex := 38, descriptorIndex := 39, attributes := #[] }] 49 2 #[] #[])
  fields := #[]
  methods := #[k1m0, k1m1]
  instanceTypes := #[]
  staticTypes := #[]
  resolved := Array.replicate 43 none
  statics := none }

def pool2 : Array CpInfo := pool [(1, .methodref 2 3), (0, .class_ 4), (0, .nameAndType 5 6), (0, u "java/lang/Object"), (0, u "<init>"), (0, u "()V"), (0, .class_ 8), (0, u "java/lang/Record")] 13

def k2c0 : Code := { maxStack := 1, maxLocals := 1, code := jdk_30_method_1_code, exceptionTable := #[], attributes := #[] }
def k2m0 : Method := { name := "<init>", desc := "()V", sig := { parameters := [], returnType := none }, accessFlags := 4, code := some k2c0 }
/-- java/lang/Record -/
def k2 : Class := { plain "java/lang/Record" (some 0) with
  accessFlags := 1057
  interfaces := #[]
  cf := some (fileOf pool2 7 #[] #[{ accessFlags := 4, nameIndex := 5, descriptorIndex := 6, attributes := #[] }] 1057 2 #[] #[])
  fields := #[]
  methods := #[k2m0]
  instanceTypes := #[]
  staticTypes := #[]
  resolved := Array.replicate 22 none
  statics := none }

def pool3 : Array CpInfo := pool [(1, .methodref 2 3), (0, .class_ 4), (0, .nameAndType 5 6), (0, u "java/lang/Record"), (0, u "<init>"), (0, u "()V"), (0, .string 8), (0, u "retryAfter"), (0, .methodref 10 11), (0, .class_ 12), (0, .nameAndType 13 14), (0, u "java/util/Objects"), (0, u "requireNonNull"), (0, u "(Ljava/lang/Object;Ljava/lang/String;)Ljava/lang/Object;"), (0, .string 16), (0, u "refusingLimit"), (0, .methodref 18 19), (0, .class_ 20), (0, .nameAndType 21 22), (0, u "java/time/Duration"), (0, u "isNegative"), (0, u "()Z"), (15, .methodref 18 39), (0, .nameAndType 40 22), (0, u "isZero"), (0, .methodref 42 43), (0, .class_ 44), (0, .nameAndType 45 22), (0, u "java/util/OptionalInt"), (0, u "isPresent"), (11, .fieldref 58 59), (0, .class_ 60), (0, .nameAndType 61 62), (0, u "com/example/throttle/throttle/Decision"), (0, u "admitted"), (0, u "Z"), (0, .fieldref 58 64), (0, .nameAndType 65 66), (0, u "remaining"), (0, u "I"), (0, .fieldref 58 68), (0, .nameAndType 8 69), (0, u "Ljava/time/Duration;"), (0, .fieldref 58 71), (0, .nameAndType 16 72), (0, u "Ljava/util/OptionalInt;"), (0, .fieldref 58 74), (0, .nameAndType 75 62), (0, u "madeWithoutStore"), (0, .fieldref 58 77), (0, .nameAndType 78 66), (0, u "refusals"), (0, .fieldref 58 80), (0, .nameAndType 81 62), (0, u "warning"), (0, .fieldref 58 83), (0, .nameAndType 84 62), (0, u "banned"), (0, .methodref 58 86), (0, .nameAndType 5 87), (0, u "(ZILjava/time/Duration;Ljava/util/OptionalInt;ZIZZ)V"), (0, .fieldref 18 89), (0, .nameAndType 90 69), (0, u "ZERO"), (0, .methodref 42 92), (0, .nameAndType 93 94), (0, u "empty"), (0, u "()Ljava/util/OptionalInt;"), (0, .methodref 58 96), (0, .nameAndType 5 97), (0, u "(ZILjava/time/Duration;Ljava/util/OptionalInt;Z)V"), (20, u "admit"), (0, u "(I)Lcom/example/throttle/throttle/Decision;"), (5, u "()I")] 37

def k3c0 : Code := { maxStack := 5, maxLocals := 10, code := prog_4_method_1_code, exceptionTable := #[], attributes := #[] }
def k3m0 : Method := { name := "<init>", desc := "(ZILjava/time/Duration;Ljava/util/OptionalInt;ZIZZ)V", sig := { parameters := [.boolean, .int, (.object "java/time/Duration"), (.object "java/util/OptionalInt"), .boolean, .int, .boolean, .boolean], returnType := none }, accessFlags := 1, code := some k3c0 }
def k3c1 : Code := { maxStack := 9, maxLocals := 6, code := prog_4_method_2_code, exceptionTable := #[], attributes := #[] }
def k3m1 : Method := { name := "<init>", desc := "(ZILjava/time/Duration;Ljava/util/OptionalInt;Z)V", sig := { parameters := [.boolean, .int, (.object "java/time/Duration"), (.object "java/util/OptionalInt"), .boolean], returnType := none }, accessFlags := 1, code := some k3c1 }
def k3c2 : Code := { maxStack := 7, maxLocals := 1, code := prog_4_method_3_code, exceptionTable := #[], attributes := #[] }
def k3m2 : Method := { name := "admit", desc := "(I)Lcom/example/throttle/throttle/Decision;", sig := { parameters := [.int], returnType := some (.object "com/example/throttle/throttle/Decision") }, accessFlags := 9, code := some k3c2 }
def k3c3 : Code := { maxStack := 1, maxLocals := 1, code := prog_4_method_10_code, exceptionTable := #[], attributes := #[] }
def k3m3 : Method := { name := "admitted", desc := "()Z", sig := { parameters := [], returnType := some .boolean }, accessFlags := 1, code := some k3c3 }
def k3c4 : Code := { maxStack := 1, maxLocals := 1, code := prog_4_method_11_code, exceptionTable := #[], attributes := #[] }
def k3m4 : Method := { name := "remaining", desc := "()I", sig := { parameters := [], returnType := some .int }, accessFlags := 1, code := some k3c4 }
def k3c5 : Code := { maxStack := 1, maxLocals := 1, code := prog_4_method_14_code, exceptionTable := #[], attributes := #[] }
def k3m5 : Method := { name := "madeWithoutStore", desc := "()Z", sig := { parameters := [], returnType := some .boolean }, accessFlags := 1, code := some k3c5 }
def k3c6 : Code := { maxStack := 1, maxLocals := 1, code := prog_4_method_15_code, exceptionTable := #[], attributes := #[] }
def k3m6 : Method := { name := "refusals", desc := "()I", sig := { parameters := [], returnType := some .int }, accessFlags := 1, code := some k3c6 }
def k3c7 : Code := { maxStack := 1, maxLocals := 1, code := prog_4_method_16_code, exceptionTable := #[], attributes := #[] }
def k3m7 : Method := { name := "warning", desc := "()Z", sig := { parameters := [], returnType := some .boolean }, accessFlags := 1, code := some k3c7 }
def k3c8 : Code := { maxStack := 1, maxLocals := 1, code := prog_4_method_17_code, exceptionTable := #[], attributes := #[] }
def k3m8 : Method := { name := "banned", desc := "()Z", sig := { parameters := [], returnType := some .boolean }, accessFlags := 1, code := some k3c8 }
/-- com/example/throttle/throttle/Decision -/
def k3 : Class := { plain "com/example/throttle/throttle/Decision" (some 2) with
  accessFlags := 49
  interfaces := #[]
  cf := some (fileOf pool3 58 #[] #[{ accessFlags := 1, nameIndex := 5, descriptorIndex := 87, attributes := #[] }, { accessFlags := 1, nameIndex := 5, descriptorIndex := 97, attributes := #[] }, { accessFlags := 9, nameIndex := 118, descriptorIndex := 119, attributes := #[] }, { accessFlags := 1, nameIndex := 61, descriptorIndex := 22, attributes := #[] }, { accessFlags := 1, nameIndex := 65, descriptorIndex := 125, attributes := #[] }, { accessFlags := 1, nameIndex := 75, descriptorIndex := 22, attributes := #[] }, { accessFlags := 1, nameIndex := 78, descriptorIndex := 125, attributes := #[] }, { accessFlags := 1, nameIndex := 81, descriptorIndex := 22, attributes := #[] }, { accessFlags := 1, nameIndex := 84, descriptorIndex := 22, attributes := #[] }] 49 2 #[] #[{ accessFlags := 18, nameIndex := 61, descriptorIndex := 62, attributes := #[] }, { accessFlags := 18, nameIndex := 65, descriptorIndex := 66, attributes := #[] }, { accessFlags := 18, nameIndex := 8, descriptorIndex := 69, attributes := #[] }, { accessFlags := 18, nameIndex := 16, descriptorIndex := 72, attributes := #[] }, { accessFlags := 18, nameIndex := 75, descriptorIndex := 62, attributes := #[] }, { accessFlags := 18, nameIndex := 78, descriptorIndex := 66, attributes := #[] }, { accessFlags := 18, nameIndex := 81, descriptorIndex := 62, attributes := #[] }, { accessFlags := 18, nameIndex := 84, descriptorIndex := 62, attributes := #[] }])
  fields := #[{ name := "admitted", type := .boolean, accessFlags := 18, slot := 0, constantValue := 0 }, { name := "remaining", type := .int, accessFlags := 18, slot := 1, constantValue := 0 }, { name := "retryAfter", type := (.object "java/time/Duration"), accessFlags := 18, slot := 2, constantValue := 0 }, { name := "refusingLimit", type := (.object "java/util/OptionalInt"), accessFlags := 18, slot := 3, constantValue := 0 }, { name := "madeWithoutStore", type := .boolean, accessFlags := 18, slot := 4, constantValue := 0 }, { name := "refusals", type := .int, accessFlags := 18, slot := 5, constantValue := 0 }, { name := "warning", type := .boolean, accessFlags := 18, slot := 6, constantValue := 0 }, { name := "banned", type := .boolean, accessFlags := 18, slot := 7, constantValue := 0 }]
  methods := #[k3m0, k3m1, k3m2, k3m3, k3m4, k3m5, k3m6, k3m7, k3m8]
  instanceTypes := #[.boolean, .int, (.object "java/time/Duration"), (.object "java/util/OptionalInt"), .boolean, .int, .boolean, .boolean]
  staticTypes := #[]
  resolved := Array.replicate 163 none
  statics := none }

def pool4 : Array CpInfo := pool [(1, .class_ 2), (0, u "java/time/temporal/TemporalAmount"), (0, .class_ 4), (0, u "java/lang/Object")] 11

/-- java/time/temporal/TemporalAmount -/
def k4 : Class := { plain "java/time/temporal/TemporalAmount" (some 0) with
  accessFlags := 1537
  interfaces := #[]
  cf := some (fileOf pool4 1 #[] #[] 1537 3 #[] #[])
  fields := #[]
  methods := #[]
  instanceTypes := #[]
  staticTypes := #[]
  resolved := Array.replicate 16 none
  statics := none }

def pool5 : Array CpInfo := pool [(1, .class_ 2), (0, u "java/lang/Comparable"), (0, .class_ 4), (0, u "java/lang/Object")] 7

/-- java/lang/Comparable -/
def k5 : Class := { plain "java/lang/Comparable" (some 0) with
  accessFlags := 1537
  interfaces := #[]
  cf := some (fileOf pool5 1 #[] #[] 1537 3 #[] #[])
  fields := #[]
  methods := #[]
  instanceTypes := #[]
  staticTypes := #[]
  resolved := Array.replicate 12 none
  statics := none }

def pool6 : Array CpInfo := pool [(1, .class_ 2), (0, u "java/io/Serializable"), (0, .class_ 4), (0, u "java/lang/Object")] 2

/-- java/io/Serializable -/
def k6 : Class := { plain "java/io/Serializable" (some 0) with
  accessFlags := 1537
  interfaces := #[]
  cf := some (fileOf pool6 1 #[] #[] 1537 3 #[] #[])
  fields := #[]
  methods := #[]
  instanceTypes := #[]
  staticTypes := #[]
  resolved := Array.replicate 7 none
  statics := none }

def pool7 : Array CpInfo := pool [(11, .class_ 13), (1, u "java/time/Duration"), (20, u "ZERO"), (0, u "Ljava/time/Duration;"), (13, .class_ 51), (1, u "java/time/temporal/TemporalAmount"), (13, u "()Z"), (13, .class_ 81), (1, u "java/time/Duration$Lazy"), (35, u "seconds"), (101, .class_ 220), (0, u "java/lang/Object"), (0, .fieldref 11 222), (0, .nameAndType 117 223), (0, u "J"), (0, .fieldref 11 225), (0, .nameAndType 226 227), (0, u "nanos"), (0, u "I"), (11, .class_ 241), (1, u "java/time/Duration$DurationUnits"), (27, .class_ 271), (1, u "java/time/Duration$1"), (91, u "BI_NANOS_PER_SECOND"), (0, u "Ljava/math/BigInteger;"), (21, u "isNegative"), (98, .class_ 486), (0, u "java/lang/Comparable"), (0, .class_ 488), (0, u "java/io/Serializable"), (0, u "serialVersionUID"), (66, u "isZero")] 99

def k7c0 : Code := { maxStack := 4, maxLocals := 1, code := jdk_2316_method_21_code, exceptionTable := #[], attributes := #[] }
def k7m0 : Method := { name := "isZero", desc := "()Z", sig := { parameters := [], returnType := some .boolean }, accessFlags := 1, code := some k7c0 }
def k7c1 : Code := { maxStack := 4, maxLocals := 1, code := jdk_2316_method_22_code, exceptionTable := #[], attributes := #[] }
def k7m1 : Method := { name := "isNegative", desc := "()Z", sig := { parameters := [], returnType := some .boolean }, accessFlags := 1, code := some k7c1 }
/-- java/time/Duration -/
def k7 : Class := { plain "java/time/Duration" (some 0) with
  accessFlags := 49
  interfaces := #[4, 5, 6]
  cf := some (fileOf pool7 11 #[.nestMembers #[269, 239, 79]] #[{ accessFlags := 1, nameIndex := 556, descriptorIndex := 65, attributes := #[] }, { accessFlags := 1, nameIndex := 386, descriptorIndex := 65, attributes := #[] }] 49 219 #[49, 485, 487] #[{ accessFlags := 25, nameIndex := 34, descriptorIndex := 35, attributes := #[] }, { accessFlags := 26, nameIndex := 489, descriptorIndex := 223, attributes := #[] }, { accessFlags := 26, nameIndex := 363, descriptorIndex := 364, attributes := #[] }, { accessFlags := 18, nameIndex := 117, descriptorIndex := 223, attributes := #[] }, { accessFlags := 18, nameIndex := 226, descriptorIndex := 227, attributes := #[] }])
  fields := #[{ name := "ZERO", type := (.object "java/time/Duration"), accessFlags := 25, slot := 0, constantValue := 0 }, { name := "serialVersionUID", type := .long, accessFlags := 26, slot := 1, constantValue := 0 }, { name := "BI_NANOS_PER_SECOND", type := (.object "java/math/BigInteger"), accessFlags := 26, slot := 2, constantValue := 0 }, { name := "seconds", type := .long, accessFlags := 18, slot := 0, constantValue := 0 }, { name := "nanos", type := .int, accessFlags := 18, slot := 1, constantValue := 0 }]
  methods := #[k7m0, k7m1]
  instanceTypes := #[.long, .int]
  staticTypes := #[(.object "java/time/Duration"), .long, (.object "java/math/BigInteger")]
  resolved := Array.replicate 656 none
  statics := some 0 }

def pool8 : Array CpInfo := pool [(2, .class_ 4), (1, u "java/lang/Object"), (0, u "<init>"), (0, u "()V"), (0, .fieldref 8 9), (0, .class_ 10), (0, .nameAndType 11 12), (0, u "java/util/OptionalInt"), (0, u "isPresent"), (0, u "Z"), (2, u "value"), (0, u "I"), (0, .fieldref 8 18), (0, .nameAndType 19 20), (0, u "EMPTY"), (0, u "Ljava/util/OptionalInt;"), (28, u "empty"), (46, u "()Ljava/util/OptionalInt;"), (2, u "()Z")] 36

def k8m0 : Method := { name := "<init>", desc := "()V", sig := { parameters := [], returnType := none }, accessFlags := 2, code := none }
def k8c1 : Code := { maxStack := 1, maxLocals := 0, code := jdk_2649_method_2_code, exceptionTable := #[], attributes := #[] }
def k8m1 : Method := { name := "empty", desc := "()Ljava/util/OptionalInt;", sig := { parameters := [], returnType := some (.object "java/util/OptionalInt") }, accessFlags := 9, code := some k8c1 }
def k8c2 : Code := { maxStack := 1, maxLocals := 1, code := jdk_2649_method_6_code, exceptionTable := #[], attributes := #[] }
def k8m2 : Method := { name := "isPresent", desc := "()Z", sig := { parameters := [], returnType := some .boolean }, accessFlags := 1, code := some k8c2 }
/-- java/util/OptionalInt -/
def k8 : Class := { plain "java/util/OptionalInt" (some 0) with
  accessFlags := 49
  interfaces := #[]
  cf := some (fileOf pool8 8 #[] #[{ accessFlags := 2, nameIndex := 5, descriptorIndex := 6, attributes := #[] }, { accessFlags := 9, nameIndex := 49, descriptorIndex := 96, attributes := #[] }, { accessFlags := 1, nameIndex := 11, descriptorIndex := 99, attributes := #[] }] 49 2 #[] #[{ accessFlags := 26, nameIndex := 19, descriptorIndex := 20, attributes := #[] }, { accessFlags := 18, nameIndex := 11, descriptorIndex := 12, attributes := #[] }, { accessFlags := 18, nameIndex := 15, descriptorIndex := 16, attributes := #[] }])
  fields := #[{ name := "EMPTY", type := (.object "java/util/OptionalInt"), accessFlags := 26, slot := 0, constantValue := 0 }, { name := "isPresent", type := .boolean, accessFlags := 18, slot := 0, constantValue := 0 }, { name := "value", type := .int, accessFlags := 18, slot := 1, constantValue := 0 }]
  methods := #[k8m0, k8m1, k8m2]
  instanceTypes := #[.boolean, .int]
  staticTypes := #[(.object "java/util/OptionalInt")]
  resolved := Array.replicate 136 none
  statics := some 1 }

def pool9 : Array CpInfo := pool [(2, .class_ 4), (1, u "java/lang/CharSequence"), (42, .class_ 48), (0, u "java/lang/CharSequence$1CodePointIterator"), (10, .class_ 60), (0, u "java/lang/CharSequence$1CharIterator"), (5, .class_ 67), (0, u "java/lang/Object")] 63

/-- java/lang/CharSequence -/
def k9 : Class := { plain "java/lang/CharSequence" (some 0) with
  accessFlags := 1537
  interfaces := #[]
  cf := some (fileOf pool9 2 #[.nestMembers #[47, 59]] #[] 1537 66 #[] #[])
  fields := #[]
  methods := #[]
  instanceTypes := #[]
  staticTypes := #[]
  resolved := Array.replicate 131 none
  statics := none }

def pool10 : Array CpInfo := pool [(1, .class_ 2), (0, u "java/lang/constant/Constable"), (0, .class_ 4), (0, u "java/lang/Object")] 6

/-- java/lang/constant/Constable -/
def k10 : Class := { plain "java/lang/constant/Constable" (some 0) with
  accessFlags := 1537
  interfaces := #[]
  cf := some (fileOf pool10 1 #[] #[] 1537 3 #[] #[])
  fields := #[]
  methods := #[]
  instanceTypes := #[]
  staticTypes := #[]
  resolved := Array.replicate 11 none
  statics := none }

def pool11 : Array CpInfo := pool [(1, .class_ 2), (0, u "java/lang/constant/ConstantDesc"), (0, .class_ 4), (0, u "java/lang/Object")] 32

/-- java/lang/constant/ConstantDesc -/
def k11 : Class := { plain "java/lang/constant/ConstantDesc" (some 0) with
  accessFlags := 1537
  interfaces := #[]
  cf := some (fileOf pool11 1 #[] #[] 1537 3 #[] #[])
  fields := #[]
  methods := #[]
  instanceTypes := #[]
  staticTypes := #[]
  resolved := Array.replicate 37 none
  statics := none }

def pool12 : Array CpInfo := pool [(2, .class_ 4), (1, u "java/lang/Object"), (0, u "<init>"), (0, u "()V"), (3, .class_ 12), (1, u "java/lang/String"), (0, u "value"), (0, u "[B"), (2, u "coder"), (0, u "B"), (2, u "hash"), (0, u "I"), (2, u "hashIsZero"), (0, u "Z"), (13, u "COMPACT_STRINGS"), (534, .class_ 576), (0, u "java/lang/CharSequence"), (22, u "CASE_INSENSITIVE_ORDER"), (0, u "Ljava/util/Comparator;"), (500, u "serialPersistentFields"), (0, u "[Ljava/io/ObjectStreamField;"), (0, .class_ 1104), (0, u "java/lang/String$CaseInsensitiveComparator"), (1, .class_ 1107), (0, u "java/io/Serializable"), (0, .class_ 1109), (0, u "java/lang/Comparable"), (0, .class_ 1111), (0, u "java/lang/constant/Constable"), (0, .class_ 1113), (0, u "java/lang/constant/ConstantDesc"), (2, u "serialVersionUID"), (0, u "J"), (3, u "REPL"), (0, u "C"), (2, u "LATIN1"), (1, u "UTF16")] 323

def k12m0 : Method := { name := "<init>", desc := "()V", sig := { parameters := [], returnType := none }, accessFlags := 1, code := none }
/-- java/lang/String -/
def k12 : Class := { plain "java/lang/String" (some 0) with
  accessFlags := 49
  interfaces := #[6, 5, 9, 10, 11]
  cf := some (fileOf pool12 10 #[.nestMembers #[1103]] #[{ accessFlags := 1, nameIndex := 5, descriptorIndex := 6, attributes := #[] }] 49 2 #[1106, 1108, 575, 1110, 1112] #[{ accessFlags := 18, nameIndex := 13, descriptorIndex := 14, attributes := #[] }, { accessFlags := 18, nameIndex := 17, descriptorIndex := 18, attributes := #[] }, { accessFlags := 2, nameIndex := 21, descriptorIndex := 22, attributes := #[] }, { accessFlags := 2, nameIndex := 25, descriptorIndex := 26, attributes := #[] }, { accessFlags := 26, nameIndex := 1116, descriptorIndex := 1117, attributes := #[] }, { accessFlags := 24, nameIndex := 40, descriptorIndex := 26, attributes := #[] }, { accessFlags := 26, nameIndex := 1101, descriptorIndex := 1102, attributes := #[] }, { accessFlags := 26, nameIndex := 1121, descriptorIndex := 1122, attributes := #[] }, { accessFlags := 25, nameIndex := 599, descriptorIndex := 600, attributes := #[] }, { accessFlags := 24, nameIndex := 1125, descriptorIndex := 18, attributes := #[] }, { accessFlags := 24, nameIndex := 1127, descriptorIndex := 18, attributes := #[] }])
  fields := #[{ name := "value", type := (.array .byte), accessFlags := 18, slot := 0, constantValue := 0 }, { name := "coder", type := .byte, accessFlags := 18, slot := 1, constantValue := 0 }, { name := "hash", type := .int, accessFlags := 2, slot := 2, constantValue := 0 }, { name := "hashIsZero", type := .boolean, accessFlags := 2, slot := 3, constantValue := 0 }, { name := "serialVersionUID", type := .long, accessFlags := 26, slot := 0, constantValue := 0 }, { name := "COMPACT_STRINGS", type := .boolean, accessFlags := 24, slot := 1, constantValue := 0 }, { name := "serialPersistentFields", type := (.array (.object "java/io/ObjectStreamField")), accessFlags := 26, slot := 2, constantValue := 0 }, { name := "REPL", type := .char, accessFlags := 26, slot := 3, constantValue := 0 }, { name := "CASE_INSENSITIVE_ORDER", type := (.object "java/util/Comparator"), accessFlags := 25, slot := 4, constantValue := 0 }, { name := "LATIN1", type := .byte, accessFlags := 24, slot := 5, constantValue := 0 }, { name := "UTF16", type := .byte, accessFlags := 24, slot := 6, constantValue := 0 }]
  methods := #[k12m0]
  instanceTypes := #[(.array .byte), .byte, .int, .boolean]
  staticTypes := #[.long, .boolean, (.array (.object "java/io/ObjectStreamField")), .char, (.object "java/util/Comparator"), .byte, .byte]
  resolved := Array.replicate 1451 none
  statics := none }

def pool13 : Array CpInfo := pool [(2, .class_ 4), (1, u "java/lang/Object"), (0, u "<init>"), (0, u "()V"), (35, .class_ 44), (1, u "java/util/Objects"), (0, u "requireNonNull"), (48, u "(Ljava/lang/Object;Ljava/lang/String;)Ljava/lang/Object;")] 89

def k13m0 : Method := { name := "<init>", desc := "()V", sig := { parameters := [], returnType := none }, accessFlags := 2, code := none }
def k13c1 : Code := { maxStack := 3, maxLocals := 2, code := jdk_31_method_11_code, exceptionTable := #[], attributes := #[] }
def k13m1 : Method := { name := "requireNonNull", desc := "(Ljava/lang/Object;Ljava/lang/String;)Ljava/lang/Object;", sig := { parameters := [(.object "java/lang/Object"), (.object "java/lang/String")], returnType := some (.object "java/lang/Object") }, accessFlags := 9, code := some k13c1 }
/-- java/util/Objects -/
def k13 : Class := { plain "java/util/Objects" (some 0) with
  accessFlags := 49
  interfaces := #[]
  cf := some (fileOf pool13 42 #[] #[{ accessFlags := 2, nameIndex := 5, descriptorIndex := 6, attributes := #[] }, { accessFlags := 9, nameIndex := 45, descriptorIndex := 94, attributes := #[] }] 49 2 #[] #[])
  fields := #[]
  methods := #[k13m0, k13m1]
  instanceTypes := #[]
  staticTypes := #[]
  resolved := Array.replicate 184 none
  statics := none }

def pool14 : Array CpInfo := pool [(1, u "java/lang/Cloneable"), (0, .class_ 1), (0, u "java/lang/Object"), (0, .class_ 3)] 3

/-- java/lang/Cloneable -/
def k14 : Class := { plain "java/lang/Cloneable" (some 0) with
  accessFlags := 1537
  interfaces := #[]
  cf := some (fileOf pool14 2 #[] #[] 1537 4 #[] #[])
  fields := #[]
  methods := #[]
  instanceTypes := #[]
  staticTypes := #[]
  resolved := Array.replicate 8 none
  statics := none }

/-- the primitive byte -/
def k15 : Class := { plain "byte" none with kind := .primitive 'B', accessFlags := 0x411 }
/-- [B -/
def k16 : Class := { plain "[B" (some 0) with kind := .array 15 .byte, interfaces := #[14, 6], accessFlags := 1041 }

/-- the primitive int -/
def k17 : Class := { plain "int" none with kind := .primitive 'I', accessFlags := 0x411 }
/-- [I -/
def k18 : Class := { plain "[I" (some 0) with kind := .array 17 .int, interfaces := #[14, 6], accessFlags := 1041 }

def heap : Heap := #[{ cls := 7, slots := #[.ref 2, .long 0, .null], vm := .statics 7 },
  { cls := 8, slots := #[.ref 3], vm := .statics 8 },
  { cls := 7, slots := #[.long 0, .int 0], vm := .none },
  { cls := 8, slots := #[.int 0, .int 0], vm := .none }]
def classes : Array Class := #[k0, k1, k2, k3, k4, k5, k6, k7, k8, k9, k10, k11, k12, k13, k14, k15, k16, k17, k18]
def interned : List (Array UInt16 × Addr) := []
def slotsUsed : Nat := 8
def theMethod : MethodId := ⟨1, 1⟩
def args0 : Array Value := #[.int 5]
def aboutOver (below : List Frame) : State where
  vm := { classes := classes, interned := interned.toArray }
  heap := heap
  slotsUsed := slotsUsed
  threads := #[{ frames := .invoking theMethod args0 :: below }]
def below0 : List Frame := [.native { method := ⟨0, 0⟩, args := #[] }]
def about1 : State := aboutOver below0
def p0 : Program := .bare "" "" ""
def e0 : Env := launch0.env 0 0 0
theorem w_frames : about1.frames = Frame.invoking theMethod args0 :: below0 := rfl
set_option maxRecDepth 65536 in
theorem w_args : argsFit about1.vm theMethod args0 = true := by decide +kernel
set_option maxRecDepth 65536 in
theorem w_heap : heapFits about1 = true := by decide +kernel
set_option maxRecDepth 65536 in
theorem w_runnable : about1.curStatus? = some .runnable := by decide +kernel
set_option maxRecDepth 65536 in
theorem w_alone : about1.alone = true := by decide +kernel
set_option maxRecDepth 65536 in
theorem w_named : about1.methodNamed? x = some theMethod := by decide +kernel
set_option maxRecDepth 65536 in
theorem w_hears : about1.hears theMethod below0 = true := by decide +kernel
set_option maxRecDepth 65536 in
theorem w_ripe : about1.ripe theMethod args0 below0 = true := by decide +kernel
theorem w_running : about1.status = .running := rfl
set_option maxRecDepth 65536 in
theorem w_room : about1.hasRoom e0.platform room_1 = true :=
  launch0.hasRoom_least _ room_1 (by decide +kernel) (by decide +kernel) (by decide +kernel) (by decide +kernel) (by decide +kernel) (by decide +kernel)
theorem allAtoms_all (ts : List Jvm.Cond) (a : Array Jvm.Value) (st : Jvm.State) : (allAtoms ts).before a st = ts.all (fun c => c.before a st) := by
  induction ts with
  | nil => rfl
  | cons c t ih =>
    show (Jvm.Cond.and c (allAtoms t)).before a st = _
    rw [Jvm.Cond.before_and, ih, List.all_cons]
def words1 : List Jvm.Cond := Jvm.Cond.code x code maxLocals ret :: tables_1
/-- a 'code' word, met by the world's own term for the bytes: nothing is compared byte by byte -/
theorem code_word {y : MethodName} {bytes : ByteArray} {mx : Nat} {rt : Option FieldType} {a : Array Value} {s : State} {m : MethodId} {meth : Method} {c : Code} (h1 : s.methodNamed? y = some m) (h2 : s.vm.method? m = some meth) (h3 : meth.code = some c) (h4 : c.code = bytes)
    (h5 : (c.maxLocals == mx && c.exceptionTable.isEmpty && decide (c.maxStack ≤ mostOperands) && decide (meth.sig.returnType = rt) && !meth.locks && decide (parseMethodDescriptor y.desc = some meth.sig)) = true) : (Jvm.Cond.code y bytes mx rt).before a s = true := by
  simp only [Bool.and_eq_true, beq_iff_eq, Bool.not_eq_true', decide_eq_true_eq] at h5
  obtain ⟨⟨⟨⟨⟨g1, g2⟩, g3⟩, g4⟩, g5⟩, g6⟩ := h5
  simp [Cond.before, Cond.holds, Cond.value, h1, h2, h3, h4, g1, g2, g3, g4, g5, g6]
def isCode : Jvm.Cond → Bool
  | .code _ _ _ _ => true
  | _ => false
theorem all_split {L : List Jvm.Cond} {P : Jvm.Cond → Bool} (h1 : L.all (fun c => isCode c || P c) = true) (h2 : ∀ c ∈ L.filter isCode, P c = true) : L.all P = true := by
  refine List.all_eq_true.mpr fun c hc => ?_
  have h := List.all_eq_true.mp h1 c hc
  rcases Bool.eq_false_or_eq_true (isCode c) with hi | hi
  · exact h2 c (List.mem_filter.mpr ⟨hc, hi⟩)
  · simpa [hi] using h
set_option maxRecDepth 65536 in
theorem w_c0 : (Jvm.Cond.code x code maxLocals ret).before args0 about1 = true := code_word (m := ⟨1, 1⟩) (meth := k1m1) (c := k1c1) (by decide +kernel) rfl rfl rfl (by decide +kernel)
set_option maxRecDepth 65536 in
theorem w_c1 : (Jvm.Cond.code ({ cls := "com/example/throttle/throttle/Decision", name := "admit", desc := "(I)Lcom/example/throttle/throttle/Decision;" } : Jvm.MethodName) prog_4_method_3_code (1 : Nat) (Option.some (Jvm.ClassFile.FieldType.object "com/example/throttle/throttle/Decision"))).before args0 about1 = true := code_word (m := ⟨3, 2⟩) (meth := k3m2) (c := k3c2) (by decide +kernel) rfl rfl rfl (by decide +kernel)
set_option maxRecDepth 65536 in
theorem w_c2 : (Jvm.Cond.code ({ cls := "java/util/OptionalInt", name := "empty", desc := "()Ljava/util/OptionalInt;" } : Jvm.MethodName) jdk_2649_method_2_code (0 : Nat) (Option.some (Jvm.ClassFile.FieldType.object "java/util/OptionalInt"))).before args0 about1 = true := code_word (m := ⟨8, 1⟩) (meth := k8m1) (c := k8c1) (by decide +kernel) rfl rfl rfl (by decide +kernel)
set_option maxRecDepth 65536 in
theorem w_c3 : (Jvm.Cond.code ({ cls := "com/example/throttle/throttle/Decision", name := "<init>", desc := "(ZILjava/time/Duration;Ljava/util/OptionalInt;Z)V" } : Jvm.MethodName) prog_4_method_2_code (6 : Nat) (Option.none : Option Jvm.ClassFile.FieldType)).before args0 about1 = true := code_word (m := ⟨3, 1⟩) (meth := k3m1) (c := k3c1) (by decide +kernel) rfl rfl rfl (by decide +kernel)
set_option maxRecDepth 65536 in
theorem w_c4 : (Jvm.Cond.code ({ cls := "com/example/throttle/throttle/Decision", name := "<init>", desc := "(ZILjava/time/Duration;Ljava/util/OptionalInt;ZIZZ)V" } : Jvm.MethodName) prog_4_method_1_code (10 : Nat) (Option.none : Option Jvm.ClassFile.FieldType)).before args0 about1 = true := code_word (m := ⟨3, 0⟩) (meth := k3m0) (c := k3c0) (by decide +kernel) rfl rfl rfl (by decide +kernel)
set_option maxRecDepth 65536 in
theorem w_c5 : (Jvm.Cond.code ({ cls := "java/lang/Record", name := "<init>", desc := "()V" } : Jvm.MethodName) jdk_30_method_1_code (1 : Nat) (Option.none : Option Jvm.ClassFile.FieldType)).before args0 about1 = true := code_word (m := ⟨2, 0⟩) (meth := k2m0) (c := k2c0) (by decide +kernel) rfl rfl rfl (by decide +kernel)
set_option maxRecDepth 65536 in
theorem w_c6 : (Jvm.Cond.code ({ cls := "java/lang/Object", name := "<init>", desc := "()V" } : Jvm.MethodName) object_method_1_code (1 : Nat) (Option.none : Option Jvm.ClassFile.FieldType)).before args0 about1 = true := code_word (m := ⟨0, 0⟩) (meth := k0m0) (c := k0c0) (by decide +kernel) rfl rfl rfl (by decide +kernel)
set_option maxRecDepth 65536 in
theorem w_c7 : (Jvm.Cond.code ({ cls := "java/util/Objects", name := "requireNonNull", desc := "(Ljava/lang/Object;Ljava/lang/String;)Ljava/lang/Object;" } : Jvm.MethodName) jdk_31_method_11_code (2 : Nat) (Option.some (Jvm.ClassFile.FieldType.object "java/lang/Object"))).before args0 about1 = true := code_word (m := ⟨13, 1⟩) (meth := k13m1) (c := k13c1) (by decide +kernel) rfl rfl rfl (by decide +kernel)
set_option maxRecDepth 65536 in
theorem w_c8 : (Jvm.Cond.code ({ cls := "java/time/Duration", name := "isNegative", desc := "()Z" } : Jvm.MethodName) jdk_2316_method_22_code (1 : Nat) (Option.some Jvm.ClassFile.FieldType.boolean)).before args0 about1 = true := code_word (m := ⟨7, 1⟩) (meth := k7m1) (c := k7c1) (by decide +kernel) rfl rfl rfl (by decide +kernel)
set_option maxRecDepth 65536 in
theorem w_c9 : (Jvm.Cond.code ({ cls := "java/time/Duration", name := "isZero", desc := "()Z" } : Jvm.MethodName) jdk_2316_method_21_code (1 : Nat) (Option.some Jvm.ClassFile.FieldType.boolean)).before args0 about1 = true := code_word (m := ⟨7, 0⟩) (meth := k7m0) (c := k7c0) (by decide +kernel) rfl rfl rfl (by decide +kernel)
set_option maxRecDepth 65536 in
theorem w_c10 : (Jvm.Cond.code ({ cls := "java/util/OptionalInt", name := "isPresent", desc := "()Z" } : Jvm.MethodName) jdk_2649_method_6_code (1 : Nat) (Option.some Jvm.ClassFile.FieldType.boolean)).before args0 about1 = true := code_word (m := ⟨8, 2⟩) (meth := k8m2) (c := k8c2) (by decide +kernel) rfl rfl rfl (by decide +kernel)
set_option maxRecDepth 65536 in
theorem w_c11 : (Jvm.Cond.code ({ cls := "com/example/throttle/throttle/Decision", name := "admitted", desc := "()Z" } : Jvm.MethodName) prog_4_method_10_code (1 : Nat) (Option.some Jvm.ClassFile.FieldType.boolean)).before args0 about1 = true := code_word (m := ⟨3, 3⟩) (meth := k3m3) (c := k3c3) (by decide +kernel) rfl rfl rfl (by decide +kernel)
set_option maxRecDepth 65536 in
theorem w_c12 : (Jvm.Cond.code ({ cls := "com/example/throttle/throttle/Decision", name := "remaining", desc := "()I" } : Jvm.MethodName) prog_4_method_11_code (1 : Nat) (Option.some Jvm.ClassFile.FieldType.int)).before args0 about1 = true := code_word (m := ⟨3, 4⟩) (meth := k3m4) (c := k3c4) (by decide +kernel) rfl rfl rfl (by decide +kernel)
set_option maxRecDepth 65536 in
theorem w_c13 : (Jvm.Cond.code ({ cls := "com/example/throttle/throttle/Decision", name := "madeWithoutStore", desc := "()Z" } : Jvm.MethodName) prog_4_method_14_code (1 : Nat) (Option.some Jvm.ClassFile.FieldType.boolean)).before args0 about1 = true := code_word (m := ⟨3, 5⟩) (meth := k3m5) (c := k3c5) (by decide +kernel) rfl rfl rfl (by decide +kernel)
set_option maxRecDepth 65536 in
theorem w_c14 : (Jvm.Cond.code ({ cls := "com/example/throttle/throttle/Decision", name := "refusals", desc := "()I" } : Jvm.MethodName) prog_4_method_15_code (1 : Nat) (Option.some Jvm.ClassFile.FieldType.int)).before args0 about1 = true := code_word (m := ⟨3, 6⟩) (meth := k3m6) (c := k3c6) (by decide +kernel) rfl rfl rfl (by decide +kernel)
set_option maxRecDepth 65536 in
theorem w_c15 : (Jvm.Cond.code ({ cls := "com/example/throttle/throttle/Decision", name := "warning", desc := "()Z" } : Jvm.MethodName) prog_4_method_16_code (1 : Nat) (Option.some Jvm.ClassFile.FieldType.boolean)).before args0 about1 = true := code_word (m := ⟨3, 7⟩) (meth := k3m7) (c := k3c7) (by decide +kernel) rfl rfl rfl (by decide +kernel)
set_option maxRecDepth 65536 in
theorem w_c16 : (Jvm.Cond.code ({ cls := "com/example/throttle/throttle/Decision", name := "banned", desc := "()Z" } : Jvm.MethodName) prog_4_method_17_code (1 : Nat) (Option.some Jvm.ClassFile.FieldType.boolean)).before args0 about1 = true := code_word (m := ⟨3, 8⟩) (meth := k3m8) (c := k3c8) (by decide +kernel) rfl rfl rfl (by decide +kernel)
def codes1 : List Jvm.Cond := [Jvm.Cond.code x code maxLocals ret, Jvm.Cond.code ({ cls := "com/example/throttle/throttle/Decision", name := "admit", desc := "(I)Lcom/example/throttle/throttle/Decision;" } : Jvm.MethodName) prog_4_method_3_code (1 : Nat) (Option.some (Jvm.ClassFile.FieldType.object "com/example/throttle/throttle/Decision")), Jvm.Cond.code ({ cls := "java/util/OptionalInt", name := "empty", desc := "()Ljava/util/OptionalInt;" } : Jvm.MethodName) jdk_2649_method_2_code (0 : Nat) (Option.some (Jvm.ClassFile.FieldType.object "java/util/OptionalInt")), Jvm.Cond.code ({ cls := "com/example/throttle/throttle/Decision", name := "<init>", desc := "(ZILjava/time/Duration;Ljava/util/OptionalInt;Z)V" } : Jvm.MethodName) prog_4_method_2_code (6 : Nat) (Option.none : Option Jvm.ClassFile.FieldType), Jvm.Cond.code ({ cls := "com/example/throttle/throttle/Decision", name := "<init>", desc := "(ZILjava/time/Duration;Ljava/util/OptionalInt;ZIZZ)V" } : Jvm.MethodName) prog_4_method_1_code (10 : Nat) (Option.none : Option Jvm.ClassFile.FieldType), Jvm.Cond.code ({ cls := "java/lang/Record", name := "<init>", desc := "()V" } : Jvm.MethodName) jdk_30_method_1_code (1 : Nat) (Option.none : Option Jvm.ClassFile.FieldType), Jvm.Cond.code ({ cls := "java/lang/Object", name := "<init>", desc := "()V" } : Jvm.MethodName) object_method_1_code (1 : Nat) (Option.none : Option Jvm.ClassFile.FieldType), Jvm.Cond.code ({ cls := "java/util/Objects", name := "requireNonNull", desc := "(Ljava/lang/Object;Ljava/lang/String;)Ljava/lang/Object;" } : Jvm.MethodName) jdk_31_method_11_code (2 : Nat) (Option.some (Jvm.ClassFile.FieldType.object "java/lang/Object")), Jvm.Cond.code ({ cls := "java/time/Duration", name := "isNegative", desc := "()Z" } : Jvm.MethodName) jdk_2316_method_22_code (1 : Nat) (Option.some Jvm.ClassFile.FieldType.boolean), Jvm.Cond.code ({ cls := "java/time/Duration", name := "isZero", desc := "()Z" } : Jvm.MethodName) jdk_2316_method_21_code (1 : Nat) (Option.some Jvm.ClassFile.FieldType.boolean), Jvm.Cond.code ({ cls := "java/util/OptionalInt", name := "isPresent", desc := "()Z" } : Jvm.MethodName) jdk_2649_method_6_code (1 : Nat) (Option.some Jvm.ClassFile.FieldType.boolean), Jvm.Cond.code ({ cls := "com/example/throttle/throttle/Decision", name := "admitted", desc := "()Z" } : Jvm.MethodName) prog_4_method_10_code (1 : Nat) (Option.some Jvm.ClassFile.FieldType.boolean), Jvm.Cond.code ({ cls := "com/example/throttle/throttle/Decision", name := "remaining", desc := "()I" } : Jvm.MethodName) prog_4_method_11_code (1 : Nat) (Option.some Jvm.ClassFile.FieldType.int), Jvm.Cond.code ({ cls := "com/example/throttle/throttle/Decision", name := "madeWithoutStore", desc := "()Z" } : Jvm.MethodName) prog_4_method_14_code (1 : Nat) (Option.some Jvm.ClassFile.FieldType.boolean), Jvm.Cond.code ({ cls := "com/example/throttle/throttle/Decision", name := "refusals", desc := "()I" } : Jvm.MethodName) prog_4_method_15_code (1 : Nat) (Option.some Jvm.ClassFile.FieldType.int), Jvm.Cond.code ({ cls := "com/example/throttle/throttle/Decision", name := "warning", desc := "()Z" } : Jvm.MethodName) prog_4_method_16_code (1 : Nat) (Option.some Jvm.ClassFile.FieldType.boolean), Jvm.Cond.code ({ cls := "com/example/throttle/throttle/Decision", name := "banned", desc := "()Z" } : Jvm.MethodName) prog_4_method_17_code (1 : Nat) (Option.some Jvm.ClassFile.FieldType.boolean)]
set_option maxRecDepth 65536 in
theorem codes_eq : words1.filter isCode = codes1 := rfl
theorem w_codes : ∀ c ∈ words1.filter isCode, c.before args0 about1 = true := by
  rw [codes_eq]
  intro c hc
  simp only [codes1, List.mem_cons, List.not_mem_nil, or_false] at hc
  rcases hc with rfl | rfl | rfl | rfl | rfl | rfl | rfl | rfl | rfl | rfl | rfl | rfl | rfl | rfl | rfl | rfl | rfl
  · exact w_c0
  · exact w_c1
  · exact w_c2
  · exact w_c3
  · exact w_c4
  · exact w_c5
  · exact w_c6
  · exact w_c7
  · exact w_c8
  · exact w_c9
  · exact w_c10
  · exact w_c11
  · exact w_c12
  · exact w_c13
  · exact w_c14
  · exact w_c15
  · exact w_c16
set_option maxRecDepth 65536 in
theorem w_t1 : (words1.take 24).all (fun c => isCode c || c.before args0 about1) = true := by decide +kernel
set_option maxRecDepth 65536 in
theorem w_t2 : ((words1.drop 24).take 24).all (fun c => isCode c || c.before args0 about1) = true := by decide +kernel
set_option maxRecDepth 65536 in
theorem w_t3 : (((words1.drop 24).drop 24).take 24).all (fun c => isCode c || c.before args0 about1) = true := by decide +kernel
set_option maxRecDepth 65536 in
theorem w_t4 : ((((words1.drop 24).drop 24).drop 24).take 24).all (fun c => isCode c || c.before args0 about1) = true := by decide +kernel
set_option maxRecDepth 65536 in
theorem w_t5 : ((((words1.drop 24).drop 24).drop 24).drop 24).all (fun c => isCode c || c.before args0 about1) = true := by decide +kernel
theorem w_tables : (allAtoms (Jvm.Cond.code x code maxLocals ret :: tables_1)).before args0 about1 = true := by
  rw [allAtoms_all]
  show words1.all (fun c => c.before args0 about1) = true
  refine all_split ?_ w_codes
  rw [← List.take_append_drop 24 words1, List.all_append, w_t1, ← List.take_append_drop 24 (words1.drop 24), List.all_append, w_t2, ← List.take_append_drop 24 ((words1.drop 24).drop 24), List.all_append, w_t3, ← List.take_append_drop 24 (((words1.drop 24).drop 24).drop 24), List.all_append, w_t4, w_t5]
  rfl
set_option maxRecDepth 65536 in
theorem w_rest : rest_1_c.before args0 about1 = true := by decide +kernel
set_option maxRecDepth 65536 in
theorem w_case : (Jvm.Cond.and given_1 narrow_1).before args0 about1 = true := by decide +kernel
theorem w_applies : (headSpec (Jvm.Cond.code x code maxLocals ret :: tables_1) room_1).applies x e0.platform about1 = true :=
  (Spec.applies_iff w_frames).mpr ⟨w_running, w_runnable, w_alone, w_named, w_hears, w_ripe, w_room, w_tables⟩
theorem atStart : AtStart classFile x code maxLocals ret World_1 tables_1 room_1 Calls_1 rest_1 Pre_1 launch0 p0 e0 about1 theMethod args0 below0 :=
  ⟨lists_1, trivial, launch0.admits_env _ _ _, launch0.least_env, fairChoices_fair.cas, fairChoices_fair.clock, w_frames, w_args, w_heap, w_applies, trivial, w_rest, w_case⟩
end start1
theorem witness_1 : WitnessClaimed_1 := ⟨start1.p0, start1.e0, start1.about1, start1.theMethod, start1.args0, start1.below0, start1.atStart⟩
end Jvm.Pilot.@@N@@
