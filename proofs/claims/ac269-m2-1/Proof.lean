import JvmDerived
import JvmDerived.Pilot.@@N@@Statement
import JvmDerived.Pilot.@@N@@Code
set_option linter.unusedVariables false
set_option linter.unusedSimpArgs false
namespace Jvm.RoadKit
open Sem ClassFile Op Lib Jvm.Stand Jvm.Free Jvm.LawKit
section New
variable {p : Program} {l : Launch} {e : Env} {R : Room} {s : State} {m : MethodId} {args : Array Value} {below : List Frame} {meth : Method} {c : Code} {T : State} {locs : List Loc} {cells slots : Nat}
theorem retI (X : Stand p l e R s m args below meth c T locs cells slots) (hx : p.tables.exec = Jvm.exec) {pc : Nat} {Ls : Array Slot} {z : Int32} {rest : List Value} (hret : meth.sig.returnType = some .int) (hd : decode c.code pc = .ok (.ireturn, 1)) {fs : List Frame}
    (hl : ∀ (f : JFrame) (acts : List Action), f.method = m → f.locked = none → f.entered = [] → (doReturn e (T.setTop f) acts (some (.int z))).1 = T.setFrames fs) : Steps p.tables e below (T.setTop (mkF m pc Ls (.int z :: rest))) (T.setFrames fs) :=
  retOut X hx hret rfl (Or.inl ⟨rfl, Or.inl rfl, _, rfl⟩) hd hl
end New
end Jvm.RoadKit
namespace Jvm.Pilot.@@N@@
open Jvm Jvm.ClassFile Sem Op Lib Jvm.Free Jvm.Stand Jvm.LawKit Jvm.RoadKit Bundle Jvm.Pilot.@@N@@.Jvm.D
/-- the run goes on from T to an end of which P holds -/
def Go (tb : Tables) (e : Env) (below : List Frame) (P : Outcome → State → Prop) (T : State) : Prop := ∃ s₂ o, Steps tb e below T s₂ ∧ s₂.status = .running ∧ Ended s₂ below o ∧ P o s₂
theorem own_i {tb : Tables} {e : Env} {below : List Frame} {P : Outcome → State → Prop} {T : State} (h : Go tb e below P T) : ∃ s₂ o, Steps tb e below T s₂ ∧ s₂.status = .running ∧ Ended s₂ below o ∧ P o s₂ := h
theorem own_s {tb : Tables} {e : Env} {below : List Frame} {P : Outcome → State → Prop} {T T' : State} (h : ∀ t, Steps tb e below T' t → Steps tb e below T t) (g : Go tb e below P T') : Go tb e below P T := by
  obtain ⟨s₂, o, h1, r⟩ := g; exact ⟨s₂, o, h _ h1, r⟩
theorem own_t {tb : Tables} {e : Env} {below : List Frame} {P : Outcome → State → Prop} {T T' : State} (h : Steps tb e below T T') (g : Go tb e below P T') : Go tb e below P T := by
  obtain ⟨s₂, o, h1, r⟩ := g; exact ⟨s₂, o, h.trans h1, r⟩
theorem own_e {tb : Tables} {e : Env} {below : List Frame} {P : Outcome → State → Prop} {T s₂ : State} {o : Outcome} (h : Steps tb e below T s₂) (h1 : s₂.status = .running) (h2 : Ended s₂ below o) (h3 : P o s₂) : Go tb e below P T := ⟨s₂, o, h, h1, h2, h3⟩
theorem own_eqI {a : Term} {k : Int32} {args : Array Value} {s : State} (h : (Cond.eq a (.int k)).value args s none s [] = some true) : a.eval args s none [] s = some (.int k) := by
  obtain ⟨x, y, hx, hy, -, hk⟩ := cmp_v (Or.inl h)
  obtain rfl : y = .int k := (Option.some.inj hy).symm
  obtain ⟨z, rfl⟩ := hk
  have q := gotT (Cond.eq_ints hx hy) h
  rw [hx, q]
theorem own_eqJ {a : Term} {k : Int64} {args : Array Value} {s : State} (h : (Cond.eq a (.long k)).value args s none s [] = some true) : a.eval args s none [] s = some (.long k) := by
  obtain ⟨x, y, hx, hy, -, hk⟩ := cmp_v (Or.inl h)
  obtain rfl : y = .long k := (Option.some.inj hy).symm
  obtain ⟨z, rfl⟩ := hk
  have q := gotT (eq_L hx hy) h
  rw [hx, q]
theorem own_eqR {a b : Term} {u : Addr} {args : Array Value} {s : State} (hb : b.eval args s none [] s = some (.ref u)) (h : (Cond.eq a b).value args s none s [] = some true) : a.eval args s none [] s = some (.ref u) := by
  obtain ⟨x, y, hx, hy, -, hk⟩ := cmp_v (Or.inl h)
  obtain rfl : y = .ref u := Option.some.inj (hy.symm.trans hb)
  have hr : x.isRef = true := hk.2
  have q := gotT (eq_R hx hy hr rfl) h
  rw [hx, q]
theorem own_fI {t : Term} {a : Addr} {k : Int32} {args : Array Value} {s : State} {C n d : String} (ht : t.eval args s none [] s = some (.ref a)) (h : (Cond.eq (.field t C n d) (.int k)).value args s none s [] = some true) : Fld s s.heap a C n d (.int k) :=
  Fld.start (by have q := own_eqI h; rw [fld_at ht] at q; exact q)
theorem own_fJ {t : Term} {a : Addr} {k : Int64} {args : Array Value} {s : State} {C n d : String} (ht : t.eval args s none [] s = some (.ref a)) (h : (Cond.eq (.field t C n d) (.long k)).value args s none s [] = some true) : Fld s s.heap a C n d (.long k) :=
  Fld.start (by have q := own_eqJ h; rw [fld_at ht] at q; exact q)
theorem own_fit {s : State} (hF : heapFits s = true) : Fit s := fun {y c} hc i hi => by
  obtain ⟨ha, rfl⟩ := Array.getElem?_eq_some_iff.mp hc
  have q := List.all_eq_true.mp ((Array.all_eq_true_iff_forall_mem.mp hF) _ (Array.getElem_mem ha)) i (List.mem_range.mpr hi)
  simpa [Array.getElem?_eq_getElem hi] using q
theorem own_len {t : Term} {a : Addr} {c : Cell} {ty : FieldType} {k : Int32} {args : Array Value} {s : State} (A : Arr s s.heap a c ty) (ht : t.eval args s none [] s = some (.ref a)) (h : (Cond.eq (.length t) (.int k)).value args s none s [] = some true) : c.slots.size < 2 ^ 31 ∧ c.slots.size.toInt32 = k := by
  have q := own_eqI h
  have hA := A.fin (Vm.Alike.refl _)
  by_cases hl : c.slots.size < 2 ^ 31
  · exact ⟨hl, Value.int.inj (Option.some.inj ((len_f ht hA hl).symm.trans q))⟩
  · exfalso
    have hl' : ¬ c.slots.size < 2147483648 := hl
    simp [Term.eval, ht, hA, hl'] at q
theorem own_el {t : Term} {a : Addr} {c : Cell} {ty : FieldType} {j : Int32} {v : Value} {args : Array Value} {s : State} (A : Arr s s.heap a c ty) (ht : t.eval args s none [] s = some (.ref a)) (h : (Term.elem t (.int j)).eval args s none [] s = some v) : c.slots[j.toNatClampNeg]? = some v :=
  (elem_in h ht (Term.int_eval j) A.1).2
theorem own_sa {Z : State} {a0 : Array Value} (hw : ∀ d ∈ tables_1, d.before a0 Z = true) : ∀ a ∈ Bundle.stringAtoms, a.before a0 Z = true := fun d hd => by
  simp only [Bundle.stringAtoms, List.mem_cons, List.not_mem_nil, or_false] at hd
  rcases hd with rfl | rfl | rfl | rfl | rfl | rfl | rfl
  · exact (hw _ (List.mem_of_getElem? (i := 39) rfl))
  · exact (hw _ (List.mem_of_getElem? (i := 40) rfl))
  · exact (hw _ (List.mem_of_getElem? (i := 41) rfl))
  · exact (hw _ (List.mem_of_getElem? (i := 42) rfl))
  · exact (hw _ (List.mem_of_getElem? (i := 43) rfl))
  · exact (hw _ (List.mem_of_getElem? (i := 44) rfl))
  · exact (hw _ (List.mem_of_getElem? (i := 45) rfl))
theorem d3_0 : decode jdk_2650_method_3_code 0 = .ok (.aload_n 0, 1) := by decide +kernel
theorem d3_1 : decode jdk_2650_method_3_code 1 = .ok (.invokespecial 1, 3) := by decide +kernel
theorem d3_4 : decode jdk_2650_method_3_code 4 = .ok (.aload_n 0, 1) := by decide +kernel
theorem d3_5 : decode jdk_2650_method_3_code 5 = .ok (.iconst 1, 1) := by decide +kernel
theorem d3_6 : decode jdk_2650_method_3_code 6 = .ok (.putfield 7, 3) := by decide +kernel
theorem d3_9 : decode jdk_2650_method_3_code 9 = .ok (.aload_n 0, 1) := by decide +kernel
theorem d3_10 : decode jdk_2650_method_3_code 10 = .ok (.lload_n 1, 1) := by decide +kernel
theorem d3_11 : decode jdk_2650_method_3_code 11 = .ok (.putfield 13, 3) := by decide +kernel
theorem d3_14 : decode jdk_2650_method_3_code 14 = .ok (.return_, 1) := by decide +kernel
theorem pn_java_util_OptionalLong : plainName "java/util/OptionalLong" = true := by first | (simp [plainName, overriddenIn]; done) | decide +kernel
theorem ef_rm3 (m : MethodId) (a : Addr) (q : Int64) : entryFrame m #[(.ref a), (.long q)] 3 = mkF m 0 #[.val (.ref a), .val (.long q), .second] [] := by first | (simp [entryFrame, mkF, argsToLocals, Value.category]; done) | rfl
def Q_rm3 (Z : State) (a : Addr) (q : Int64) (u_isPresent_a : Value) (u_value_a : Value) (h0 : Heap) (n0 : Nat) (v : Option Value) (h : Heap) (L : List Loc) : Prop := v = none ∧ Fr n0 L ∧ Keep h0 h [a] ∧ Exa Z h a "java/util/OptionalLong" ∧ Fld Z h a "java/util/OptionalLong" "isPresent" "Z" (.int (1 : Int32)) ∧ Fld Z h a "java/util/OptionalLong" "value" "J" (.long q)
set_option maxRecDepth 65536 in
set_option maxHeartbeats 40000000 in
theorem rm3 (l : Launch) (Z : State) (a0 : Array Value) (hw : ∀ d ∈ tables_1, d.before a0 Z = true) (ws : List Jvm.Cond) (a : Addr) (q : Int64) (u_isPresent_a : Value) (u_value_a : Value) (h0 : Heap) (n0 : Nat) (O0 : Old Z n0 h0) (E_a : Exa Z h0 a "java/util/OptionalLong") (F_isPresent_a : Fld Z h0 a "java/util/OptionalLong" "isPresent" "Z" u_isPresent_a) (g_a : n0 ≤ a) (F_value_a : Fld Z h0 a "java/util/OptionalLong" "value" "J" u_value_a) :
    MetFree l (⟨"java/util/OptionalLong", "<init>", "(J)V"⟩ : MethodName) (head1 (Jvm.Cond.code (⟨"java/util/OptionalLong", "<init>", "(J)V"⟩ : MethodName) jdk_2650_method_3_code 3 none :: ws) ({ frames := 1, cells := 0, slots := 0, locals := 12 } : Room)) (fun aa_ U => aa_ = #[(.ref a), (.long q)] ∧ Z.Warmed39 U.vm ∧ U.heap = h0) (fun _ _ _ _ _ => True) (fun _ U o U' => ∃ v L, o = .returned v ∧ Q_rm3 Z a q u_isPresent_a u_value_a h0 n0 v U'.heap L ∧ FrameEnd U o U' L ({ frames := 1, cells := 0, slots := 0, locals := 12 } : Room).cells ({ frames := 1, cells := 0, slots := 0, locals := 12 } : Room).slots) := by
  refine MetFree.of_bodySF (plainFor_of_name pn_java_util_OptionalLong) hisR ?_
  intro p e s m args below meth c s₁ Bd hml0 hP hK
  obtain ⟨rfl, hZ, hh⟩ := hP
  have hx := Bd.exec
  have hby := Bd.bytes
  have hml : c.maxLocals = 3 := hml0
  have hown : s.vm.findClass "java/util/OptionalLong" = some m.cls := findClass_of_methodNamed Bd.named
  have hnm := (name_of_methodNamed Bd.named Bd.method).1
  have X0 : Stand p l e ({ frames := 1, cells := 0, slots := 0, locals := 12 } : Room) s m #[(.ref a), (.long q)] below meth c s₁ [] 0 0 := Stand.of_body Bd
  have e0 : s₁.heap = h0 := by rw [← hh, Bd.state]; rfl
  have N0 := Fr.nil n0
  have K0 : Keep h0 h0 [a] := Keep.refl h0 _
  refine own_i (own_s (fun t k => castTop (ef_rm3 m a q) k) ?_)
  show Go p.tables e below _ (s₁.setTop (mkF m 0 #[.val (.ref a), .val (.long q), .second] []))
  refine own_s (fun t k => XS.aloadN X0.here hx rfl (hb hby d3_0) rfl rfl k) ?_
  show Go p.tables e below _ (s₁.setTop (mkF m 1 #[.val (.ref a), .val (.long q), .second] [(.ref a)]))
  obtain ⟨T1, X1, e1, st1⟩ := initO X0 hx hZ hown (hw _ (List.mem_of_getElem? (i := 17) rfl)) (hw _ (List.mem_of_getElem? (i := 18) rfl)) (hw _ (List.mem_of_getElem? (i := 19) rfl)) e0 (g := (mkF m 1 #[.val (.ref a), .val (.long q), .second] [(.ref a)])) rfl (by rw [hml]; rfl) rfl (hb hby d3_1) (by decide) (W := 0) (by show 2 * 0 + _ ≤ _; exact Nat.le_of_eq rfl) (by decide)
  refine own_s st1 ?_
  show Go p.tables e below _ (T1.setTop (mkF m 4 #[.val (.ref a), .val (.long q), .second] []))
  refine own_s (fun t k => XS.aloadN X1.here hx rfl (hb hby d3_4) rfl rfl k) ?_
  show Go p.tables e below _ (T1.setTop (mkF m 5 #[.val (.ref a), .val (.long q), .second] [(.ref a)]))
  refine own_s (fun t k => XS.iconst X1.here hx rfl (hb hby d3_5) k) ?_
  show Go p.tables e below _ (T1.setTop (mkF m 6 #[.val (.ref a), .val (.long q), .second] [(.int (1 : Int32)), (.ref a)]))
  obtain ⟨T2, h2, X2, e2, W2, st2⟩ := putFN X1 hx hZ hown (hw _ (List.mem_of_getElem? (i := 20) rfl)) Via.refl e1 F_isPresent_a E_a (Or.inr ⟨(hw _ (List.mem_of_getElem? (i := 21) rfl)), rfl, hnm⟩) (hw _ (List.mem_of_getElem? (i := 12) rfl)) (ty := .boolean) (v' := (.int (1 : Int32))) (by decide) rfl rfl (g := (mkF m 6 #[.val (.ref a), .val (.long q), .second] [(.int (1 : Int32)), (.ref a)])) rfl rfl (hb hby d3_6)
  refine own_s st2 ?_
  have K2 : Keep h0 h2 [a] := K0.wr W2 (Or.inl (List.mem_of_getElem? (i := 0) rfl))
  have N2 := Fr.snoc X2 N0 g_a
  have Fw2 := F_isPresent_a.same W2
  show Go p.tables e below _ (T2.setTop (mkF m 9 #[.val (.ref a), .val (.long q), .second] []))
  refine own_s (fun t k => XS.aloadN X2.here hx rfl (hb hby d3_9) rfl rfl k) ?_
  show Go p.tables e below _ (T2.setTop (mkF m 10 #[.val (.ref a), .val (.long q), .second] [(.ref a)]))
  refine own_s (fun t k => XS.lloadN X2.here hx rfl (hb hby d3_10) rfl k) ?_
  show Go p.tables e below _ (T2.setTop (mkF m 11 #[.val (.ref a), .val (.long q), .second] [(.long q), (.ref a)]))
  have Q3 : Exa Z h2 a "java/util/OptionalLong" := (E_a.wr W2)
  have F4 : Fld Z h2 a "java/util/OptionalLong" "value" "J" u_value_a := (F_value_a.other W2 (Or.inr (slot_ne (Or.inr (hw _ (List.mem_of_getElem? (i := 23) rfl))) (Or.inr (hw _ (List.mem_of_getElem? (i := 21) rfl))) (by decide) (t := .long) (t' := .boolean) (by decide) (by decide))))
  obtain ⟨T5, h5, X5, e5, W5, st5⟩ := putF X2 hx hZ hown (host := "") (Or.inl (hw _ (List.mem_of_getElem? (i := 22) rfl))) Via.refl e2 F4 Q3 (Or.inr ⟨(hw _ (List.mem_of_getElem? (i := 23) rfl)), rfl, hnm⟩) (hw _ (List.mem_of_getElem? (i := 12) rfl)) (ty := .long) (by decide) rfl rfl (g := (mkF m 11 #[.val (.ref a), .val (.long q), .second] [(.long q), (.ref a)])) rfl rfl (hb hby d3_11)
  refine own_s st5 ?_
  have K5 : Keep h0 h5 [a] := K2.wr W5 (Or.inl (List.mem_of_getElem? (i := 0) rfl))
  have N5 := Fr.snoc X5 N2 g_a
  have Fw5 := F4.same W5
  show Go p.tables e below _ (T5.setTop (mkF m 14 #[.val (.ref a), .val (.long q), .second] []))
  obtain ⟨fs, hr, hrun, hended, hW, hsame⟩ := X5.leave (v := none) (fun h => by first | rfl | (rw [Bd.returns] at h; cases h))
  have Q6 : Exa Z h5 a "java/util/OptionalLong" := (Q3.wr W5)
  have F7 : Fld Z h5 a "java/util/OptionalLong" "isPresent" "Z" (.int (1 : Int32)) := (Fw2.other W5 (Or.inr (slot_ne (Or.inr (hw _ (List.mem_of_getElem? (i := 21) rfl))) (Or.inr (hw _ (List.mem_of_getElem? (i := 23) rfl))) (by decide) (t := .boolean) (t' := .long) (by decide) (by decide))))
  refine own_e ?_ hrun hended ⟨_, _, rfl, ?_, ⟨_, rfl⟩, hW, hsame.mono (by decide) (by decide)⟩
  · exact X5.returnOut hx Bd.returns (hb hby d3_14) hr
  · show Q_rm3 Z a q u_isPresent_a u_value_a h0 n0 _ T5.heap _
    rw [e5]
    exact ⟨rfl, N5, K5, Q6, F7, Fw5⟩
theorem d2_0 : decode jdk_2650_method_4_code 0 = .ok (.new 8, 3) := by decide +kernel
theorem d2_3 : decode jdk_2650_method_4_code 3 = .ok (.dup, 1) := by decide +kernel
theorem d2_4 : decode jdk_2650_method_4_code 4 = .ok (.lload_n 0, 1) := by decide +kernel
theorem d2_5 : decode jdk_2650_method_4_code 5 = .ok (.invokespecial 21, 3) := by decide +kernel
theorem pd__J_V : parseMethodDescriptor "(J)V" = some ⟨[.long], none⟩ := by decide +kernel
theorem d2_8 : decode jdk_2650_method_4_code 8 = .ok (.areturn, 1) := by decide +kernel
theorem ef_rm2 (m : MethodId) (q : Int64) : entryFrame m #[(.long q)] 2 = mkF m 0 #[.val (.long q), .second] [] := by first | (simp [entryFrame, mkF, argsToLocals, Value.category]; done) | rfl
def Q_rm2 (Z : State) (q : Int64) (h0 : Heap) (n0 : Nat) (v : Option Value) (h : Heap) (L : List Loc) : Prop := ∃ b1 : Addr, v = some (.ref b1) ∧ Fr n0 L ∧ Keep h0 h [] ∧ h0.size ≤ b1 ∧ Exa Z h b1 "java/util/OptionalLong" ∧ Fld Z h b1 "java/util/OptionalLong" "isPresent" "Z" (.int (1 : Int32)) ∧ Fld Z h b1 "java/util/OptionalLong" "value" "J" (.long q)
set_option maxRecDepth 65536 in
set_option maxHeartbeats 40000000 in
theorem rm2 (l : Launch) (Z : State) (a0 : Array Value) (hw : ∀ d ∈ tables_1, d.before a0 Z = true) (ws : List Jvm.Cond) (q : Int64) (h0 : Heap) (n0 : Nat) (O0 : Old Z n0 h0)  :
    MetFree l (⟨"java/util/OptionalLong", "of", "(J)Ljava/util/OptionalLong;"⟩ : MethodName) (head1 (Jvm.Cond.code (⟨"java/util/OptionalLong", "of", "(J)Ljava/util/OptionalLong;"⟩ : MethodName) jdk_2650_method_4_code 2 (some (.object "java/util/OptionalLong")) :: ws) ({ frames := 2, cells := 1, slots := 2, locals := 27 } : Room)) (fun aa_ U => aa_ = #[(.long q)] ∧ Z.Warmed39 U.vm ∧ U.heap = h0) (fun _ _ _ _ _ => True) (fun _ U o U' => ∃ v L, o = .returned v ∧ Q_rm2 Z q h0 n0 v U'.heap L ∧ FrameEnd U o U' L ({ frames := 2, cells := 1, slots := 2, locals := 27 } : Room).cells ({ frames := 2, cells := 1, slots := 2, locals := 27 } : Room).slots) := by
  refine MetFree.of_bodySF (plainFor_of_name pn_java_util_OptionalLong) hisR ?_
  intro p e s m args below meth c s₁ Bd hml0 hP hK
  obtain ⟨rfl, hZ, hh⟩ := hP
  have hx := Bd.exec
  have hby := Bd.bytes
  have hml : c.maxLocals = 2 := hml0
  have hown : s.vm.findClass "java/util/OptionalLong" = some m.cls := findClass_of_methodNamed Bd.named
  have hnm := (name_of_methodNamed Bd.named Bd.method).1
  have X0 : Stand p l e ({ frames := 2, cells := 1, slots := 2, locals := 27 } : Room) s m #[(.long q)] below meth c s₁ [] 0 0 := Stand.of_body Bd
  have e0 : s₁.heap = h0 := by rw [← hh, Bd.state]; rfl
  have N0 := Fr.nil n0
  have K0 : Keep h0 h0 [] := Keep.refl h0 _
  refine own_i (own_s (fun t k => castTop (ef_rm2 m q) k) ?_)
  show Go p.tables e below _ (s₁.setTop (mkF m 0 #[.val (.long q), .second] []))
  obtain ⟨T1, h1, X1, e1, E1, A1, D1, -, st1⟩ := newO X0 hx hZ hown (hw _ (List.mem_of_getElem? (i := 11) rfl)) (hw _ (List.mem_of_getElem? (i := 12) rfl)) (hw _ (List.mem_of_getElem? (i := 9) rfl)) e0 (g := (mkF m 0 #[.val (.long q), .second] [])) rfl (hb hby d2_0) (by decide) (by decide)
  obtain ⟨b1, gg1⟩ : ∃ z, z = h0.size := ⟨_, rfl⟩
  rw [← gg1] at A1 D1 st1
  have g_b1 : n0 ≤ b1 := Nat.le_trans (Nat.le_of_eq O0.1.symm) (Nat.le_trans O0.2.1 (Nat.le_of_eq gg1.symm))
  have sz_b1 : h0.size ≤ b1 := Nat.le_trans K0.1 (Nat.le_of_eq gg1.symm)
  have K1 : Keep h0 h1 [] := K0.ext E1
  have F_isPresent_b1 : Fld Z h1 b1 "java/util/OptionalLong" "isPresent" "Z" (.int (0 : Int32)) := D1 (Or.inr (hw _ (List.mem_of_getElem? (i := 21) rfl))) (ty := .boolean) (by decide)
  have F_value_b1 : Fld Z h1 b1 "java/util/OptionalLong" "value" "J" (.long (0 : Int64)) := D1 (Or.inr (hw _ (List.mem_of_getElem? (i := 23) rfl))) (ty := .long) (by decide)
  refine own_s st1 ?_
  show Go p.tables e below _ (T1.setTop (mkF m 3 #[.val (.long q), .second] [(.ref b1)]))
  refine own_s (fun t k => XS.dup X1.here hx rfl (hb hby d2_3) rfl rfl k) ?_
  show Go p.tables e below _ (T1.setTop (mkF m 4 #[.val (.long q), .second] [(.ref b1), (.ref b1)]))
  refine own_s (fun t k => XS.lloadN X1.here hx rfl (hb hby d2_4) rfl k) ?_
  show Go p.tables e below _ (T1.setTop (mkF m 5 #[.val (.long q), .second] [(.long q), (.ref b1), (.ref b1)]))
  have O3 : Old Z n0 h1 := (O0.ext E1)
  obtain ⟨_, _, ⟨T2, L2, k2, n2⟩, -, X2, ⟨Lc2, hQ2, l2, y2, z2⟩, st2⟩ := X1.specialBack hx (y := (⟨"java/util/OptionalLong", "<init>", "(J)V"⟩ : MethodName)) rfl hown (mvT hZ (hw _ (List.mem_of_getElem? (i := 13) rfl))) (mvT hZ (hw _ (List.mem_of_getElem? (i := 14) rfl))) (mvT hZ (hw _ (List.mem_of_getElem? (i := 16) rfl))) (by decide) (backOf (W := 1) (rm3 l Z a0 hw [] b1 q (.int (0 : Int32)) (.long (0 : Int64)) h1 n0 O3 A1 F_isPresent_b1 g_b1 F_value_b1) hZ (hw _ (List.mem_of_getElem? (i := 16) rfl)) (hw _ (List.mem_of_getElem? (i := 9) rfl)) (by decide) (by decide)) (g := (mkF m 5 #[.val (.long q), .second] [(.long q), (.ref b1), (.ref b1)])) rfl (by rw [hml]; rfl) (Steps.refl _) (a := b1) (argsL := [(.long q)]) (rest := [(.ref b1)]) (lenOf pd__J_V rfl) rfl (by show 2 * 0 + _ ≤ _; exact Nat.le_of_eq rfl) (hb hby d2_5) (fun _ _ => ⟨rfl, e1, (by decide : 1 + 0 ≤ _), (by decide : 2 + 0 ≤ _)⟩)
  dsimp only [Pt.U, Pt.locs, Pt.cells, Pt.slots] at X2 l2 y2 z2 st2 hQ2
  subst l2 y2 z2
  obtain ⟨rfl, N2q, Kc2, fc2_0, fc2_1, fc2_2⟩ := hQ2
  have K2 : Keep h0 T2.heap [] := K1.trans Kc2 (allS (Or.inr sz_b1) all0)
  have N2 := Fr.app N0 N2q
  refine own_t st2 ?_
  show Go p.tables e below _ (T2.setTop (mkF m 8 #[.val (.long q), .second] [(.ref b1)]))
  obtain ⟨fs, hr, hrun, hended, hW, hsame⟩ := X2.leave (v := (some (.ref b1))) (fun h => by first | rfl | (rw [Bd.returns] at h; cases h))
  refine own_e ?_ hrun hended ⟨_, _, rfl, ?_, ⟨_, rfl⟩, hW, hsame.mono (by decide) (by decide)⟩
  · exact retOut X2 hx Bd.returns rfl (Or.inr (Or.inr (Or.inr (Or.inr ⟨rfl, rfl, rfl⟩)))) (hb hby d2_8) hr
  · show Q_rm2 Z q h0 n0 _ T2.heap _
    exact ⟨b1, rfl, N2, K2, sz_b1, fc2_0, fc2_1, fc2_2⟩
theorem d5_0 : decode jdk_32_method_1_code 0 = .ok (.getstatic 1, 3) := by decide +kernel
theorem d5_3 : decode jdk_32_method_1_code 3 = .ok (.astore_n 0, 1) := by decide +kernel
theorem d5_4 : decode jdk_32_method_1_code 4 = .ok (.aload_n 0, 1) := by decide +kernel
theorem d5_5 : decode jdk_32_method_1_code 5 = .ok (.areturn, 1) := by decide +kernel
theorem pn_java_util_Optional : plainName "java/util/Optional" = true := by first | (simp [plainName, overriddenIn]; done) | decide +kernel
theorem ef_rm5 (m : MethodId)  : entryFrame m #[] 1 = mkF m 0 #[.unset] [] := by first | (simp [entryFrame, mkF, argsToLocals, Value.category]; done) | rfl
def Q_rm5 (Z : State) (uE : Addr) (h0 : Heap) (n0 : Nat) (v : Option Value) (h : Heap) (L : List Loc) : Prop := v = some (.ref uE) ∧ Fr n0 L ∧ h = h0
set_option maxRecDepth 65536 in
set_option maxHeartbeats 40000000 in
theorem rm5 (l : Launch) (Z : State) (a0 : Array Value) (hw : ∀ d ∈ tables_1, d.before a0 Z = true) (ws : List Jvm.Cond) (uE : Addr) (h0 : Heap) (n0 : Nat) (O0 : Old Z n0 h0) (S_EMPTY : Sta Z Z.heap "java/util/Optional" "EMPTY" "Ljava/util/Optional;" (.ref uE)) :
    MetFree l (⟨"java/util/Optional", "empty", "()Ljava/util/Optional;"⟩ : MethodName) (head1 (Jvm.Cond.code (⟨"java/util/Optional", "empty", "()Ljava/util/Optional;"⟩ : MethodName) jdk_32_method_1_code 1 (some (.object "java/util/Optional")) :: ws) ({ frames := 0, cells := 0, slots := 0, locals := 0 } : Room)) (fun aa_ U => aa_ = #[] ∧ Z.Warmed39 U.vm ∧ U.heap = h0) (fun _ _ _ _ _ => True) (fun _ U o U' => ∃ v L, o = .returned v ∧ Q_rm5 Z uE h0 n0 v U'.heap L ∧ FrameEnd U o U' L ({ frames := 0, cells := 0, slots := 0, locals := 0 } : Room).cells ({ frames := 0, cells := 0, slots := 0, locals := 0 } : Room).slots) := by
  refine MetFree.of_bodySF (plainFor_of_name pn_java_util_Optional) hisR ?_
  intro p e s m args below meth c s₁ Bd hml0 hP hK
  obtain ⟨rfl, hZ, hh⟩ := hP
  have hx := Bd.exec
  have hby := Bd.bytes
  have hml : c.maxLocals = 1 := hml0
  have hown : s.vm.findClass "java/util/Optional" = some m.cls := findClass_of_methodNamed Bd.named
  have hnm := (name_of_methodNamed Bd.named Bd.method).1
  have X0 : Stand p l e ({ frames := 0, cells := 0, slots := 0, locals := 0 } : Room) s m #[] below meth c s₁ [] 0 0 := Stand.of_body Bd
  have e0 : s₁.heap = h0 := by rw [← hh, Bd.state]; rfl
  have N0 := Fr.nil n0
  have K0 : Keep h0 h0 [] := Keep.refl h0 _
  refine own_i (own_s (fun t k => castTop (ef_rm5 m) k) ?_)
  show Go p.tables e below _ (s₁.setTop (mkF m 0 #[.unset] []))
  obtain ⟨T1, X1, e1, st1⟩ := getS2 X0 hx hZ hown (host := "") (Or.inl (hw _ (List.mem_of_getElem? (i := 28) rfl))) Via.refl e0 (S_EMPTY.ext O0.2) (g := (mkF m 0 #[.unset] [])) rfl (hb hby d5_0)
  refine own_s st1 ?_
  show Go p.tables e below _ (T1.setTop (mkF m 3 #[.unset] [(.ref uE)]))
  refine own_s (fun t k => XS.astoreN X1.here hx rfl (hb hby d5_3) rfl rfl (l' := #[.val (.ref uE)]) rfl k) ?_
  show Go p.tables e below _ (T1.setTop (mkF m 4 #[.val (.ref uE)] []))
  refine own_s (fun t k => XS.aloadN X1.here hx rfl (hb hby d5_4) rfl rfl k) ?_
  show Go p.tables e below _ (T1.setTop (mkF m 5 #[.val (.ref uE)] [(.ref uE)]))
  obtain ⟨fs, hr, hrun, hended, hW, hsame⟩ := X1.leave (v := (some (.ref uE))) (fun h => by first | rfl | (rw [Bd.returns] at h; cases h))
  refine own_e ?_ hrun hended ⟨_, _, rfl, ?_, ⟨_, rfl⟩, hW, hsame.mono (by decide) (by decide)⟩
  · exact retOut X1 hx Bd.returns rfl (Or.inr (Or.inr (Or.inr (Or.inr ⟨rfl, rfl, rfl⟩)))) (hb hby d5_5) hr
  · show Q_rm5 Z uE h0 n0 _ T1.heap _
    rw [e1]
    exact ⟨rfl, N0, rfl⟩
theorem d7_0 : decode jdk_30_method_1_code 0 = .ok (.aload_n 0, 1) := by decide +kernel
theorem d7_1 : decode jdk_30_method_1_code 1 = .ok (.invokespecial 1, 3) := by decide +kernel
theorem d7_4 : decode jdk_30_method_1_code 4 = .ok (.return_, 1) := by decide +kernel
theorem pn_java_lang_Record : plainName "java/lang/Record" = true := by first | (simp [plainName, overriddenIn]; done) | decide +kernel
theorem ef_rm7 (m : MethodId) (a : Addr) : entryFrame m #[(.ref a)] 1 = mkF m 0 #[.val (.ref a)] [] := by first | (simp [entryFrame, mkF, argsToLocals, Value.category]; done) | rfl
def Q_rm7 (Z : State) (a : Addr) (h0 : Heap) (n0 : Nat) (v : Option Value) (h : Heap) (L : List Loc) : Prop := v = none ∧ Fr n0 L ∧ h = h0
set_option maxRecDepth 65536 in
set_option maxHeartbeats 40000000 in
theorem rm7 (l : Launch) (Z : State) (a0 : Array Value) (hw : ∀ d ∈ tables_1, d.before a0 Z = true) (ws : List Jvm.Cond) (a : Addr) (h0 : Heap) (n0 : Nat) (O0 : Old Z n0 h0)  :
    MetFree l (⟨"java/lang/Record", "<init>", "()V"⟩ : MethodName) (head1 (Jvm.Cond.code (⟨"java/lang/Record", "<init>", "()V"⟩ : MethodName) jdk_30_method_1_code 1 none :: ws) ({ frames := 1, cells := 0, slots := 0, locals := 12 } : Room)) (fun aa_ U => aa_ = #[(.ref a)] ∧ Z.Warmed39 U.vm ∧ U.heap = h0) (fun _ _ _ _ _ => True) (fun _ U o U' => ∃ v L, o = .returned v ∧ Q_rm7 Z a h0 n0 v U'.heap L ∧ FrameEnd U o U' L ({ frames := 1, cells := 0, slots := 0, locals := 12 } : Room).cells ({ frames := 1, cells := 0, slots := 0, locals := 12 } : Room).slots) := by
  refine MetFree.of_bodySF (plainFor_of_name pn_java_lang_Record) hisR ?_
  intro p e s m args below meth c s₁ Bd hml0 hP hK
  obtain ⟨rfl, hZ, hh⟩ := hP
  have hx := Bd.exec
  have hby := Bd.bytes
  have hml : c.maxLocals = 1 := hml0
  have hown : s.vm.findClass "java/lang/Record" = some m.cls := findClass_of_methodNamed Bd.named
  have hnm := (name_of_methodNamed Bd.named Bd.method).1
  have X0 : Stand p l e ({ frames := 1, cells := 0, slots := 0, locals := 12 } : Room) s m #[(.ref a)] below meth c s₁ [] 0 0 := Stand.of_body Bd
  have e0 : s₁.heap = h0 := by rw [← hh, Bd.state]; rfl
  have N0 := Fr.nil n0
  have K0 : Keep h0 h0 [] := Keep.refl h0 _
  refine own_i (own_s (fun t k => castTop (ef_rm7 m a) k) ?_)
  show Go p.tables e below _ (s₁.setTop (mkF m 0 #[.val (.ref a)] []))
  refine own_s (fun t k => XS.aloadN X0.here hx rfl (hb hby d7_0) rfl rfl k) ?_
  show Go p.tables e below _ (s₁.setTop (mkF m 1 #[.val (.ref a)] [(.ref a)]))
  obtain ⟨T1, X1, e1, st1⟩ := initO X0 hx hZ hown (hw _ (List.mem_of_getElem? (i := 37) rfl)) (hw _ (List.mem_of_getElem? (i := 18) rfl)) (hw _ (List.mem_of_getElem? (i := 19) rfl)) e0 (g := (mkF m 1 #[.val (.ref a)] [(.ref a)])) rfl (by rw [hml]; rfl) rfl (hb hby d7_1) (by decide) (W := 0) (by show 2 * 0 + _ ≤ _; exact Nat.le_of_eq rfl) (by decide)
  refine own_s st1 ?_
  show Go p.tables e below _ (T1.setTop (mkF m 4 #[.val (.ref a)] []))
  obtain ⟨fs, hr, hrun, hended, hW, hsame⟩ := X1.leave (v := none) (fun h => by first | rfl | (rw [Bd.returns] at h; cases h))
  refine own_e ?_ hrun hended ⟨_, _, rfl, ?_, ⟨_, rfl⟩, hW, hsame.mono (by decide) (by decide)⟩
  · exact X1.returnOut hx Bd.returns (hb hby d7_4) hr
  · show Q_rm7 Z a h0 n0 _ T1.heap _
    rw [e1]
    exact ⟨rfl, N0, rfl⟩
theorem d8_0 : decode jdk_31_method_11_code 0 = .ok (.aload_n 0, 1) := by decide +kernel
theorem d8_1 : decode jdk_31_method_11_code 1 = .ok (.ifnonnull 12, 3) := by decide +kernel
theorem d8_13 : decode jdk_31_method_11_code 13 = .ok (.aload_n 0, 1) := by decide +kernel
theorem d8_14 : decode jdk_31_method_11_code 14 = .ok (.areturn, 1) := by decide +kernel
theorem pn_java_util_Objects : plainName "java/util/Objects" = true := by first | (simp [plainName, overriddenIn]; done) | decide +kernel
theorem ef_rm8 (m : MethodId) (a : Addr) (b : Addr) : entryFrame m #[(.ref a), (.ref b)] 2 = mkF m 0 #[.val (.ref a), .val (.ref b)] [] := by first | (simp [entryFrame, mkF, argsToLocals, Value.category]; done) | rfl
def Q_rm8 (Z : State) (a : Addr) (b : Addr) (h0 : Heap) (n0 : Nat) (v : Option Value) (h : Heap) (L : List Loc) : Prop := v = some (.ref a) ∧ Fr n0 L ∧ h = h0
set_option maxRecDepth 65536 in
set_option maxHeartbeats 40000000 in
theorem rm8 (l : Launch) (Z : State) (a0 : Array Value) (hw : ∀ d ∈ tables_1, d.before a0 Z = true) (ws : List Jvm.Cond) (a : Addr) (b : Addr) (h0 : Heap) (n0 : Nat) (O0 : Old Z n0 h0)  :
    MetFree l (⟨"java/util/Objects", "requireNonNull", "(Ljava/lang/Object;Ljava/lang/String;)Ljava/lang/Object;"⟩ : MethodName) (head1 (Jvm.Cond.code (⟨"java/util/Objects", "requireNonNull", "(Ljava/lang/Object;Ljava/lang/String;)Ljava/lang/Object;"⟩ : MethodName) jdk_31_method_11_code 2 (some (.object "java/lang/Object")) :: ws) ({ frames := 0, cells := 0, slots := 0, locals := 0 } : Room)) (fun aa_ U => aa_ = #[(.ref a), (.ref b)] ∧ Z.Warmed39 U.vm ∧ U.heap = h0) (fun _ _ _ _ _ => True) (fun _ U o U' => ∃ v L, o = .returned v ∧ Q_rm8 Z a b h0 n0 v U'.heap L ∧ FrameEnd U o U' L ({ frames := 0, cells := 0, slots := 0, locals := 0 } : Room).cells ({ frames := 0, cells := 0, slots := 0, locals := 0 } : Room).slots) := by
  refine MetFree.of_bodySF (plainFor_of_name pn_java_util_Objects) hisR ?_
  intro p e s m args below meth c s₁ Bd hml0 hP hK
  obtain ⟨rfl, hZ, hh⟩ := hP
  have hx := Bd.exec
  have hby := Bd.bytes
  have hml : c.maxLocals = 2 := hml0
  have hown : s.vm.findClass "java/util/Objects" = some m.cls := findClass_of_methodNamed Bd.named
  have hnm := (name_of_methodNamed Bd.named Bd.method).1
  have X0 : Stand p l e ({ frames := 0, cells := 0, slots := 0, locals := 0 } : Room) s m #[(.ref a), (.ref b)] below meth c s₁ [] 0 0 := Stand.of_body Bd
  have e0 : s₁.heap = h0 := by rw [← hh, Bd.state]; rfl
  have N0 := Fr.nil n0
  have K0 : Keep h0 h0 [] := Keep.refl h0 _
  refine own_i (own_s (fun t k => castTop (ef_rm8 m a b) k) ?_)
  show Go p.tables e below _ (s₁.setTop (mkF m 0 #[.val (.ref a), .val (.ref b)] []))
  refine own_s (fun t k => XS.aloadN X0.here hx rfl (hb hby d8_0) rfl rfl k) ?_
  show Go p.tables e below _ (s₁.setTop (mkF m 1 #[.val (.ref a), .val (.ref b)] [(.ref a)]))
  refine own_s (fun t k => XS.ifnonnullYes X0.here hx rfl (pc0 := 1) (pc' := 13) rfl (hb hby d8_1) rfl (by decide) (by decide) k) ?_
  show Go p.tables e below _ (s₁.setTop (mkF m 13 #[.val (.ref a), .val (.ref b)] []))
  refine own_s (fun t k => XS.aloadN X0.here hx rfl (hb hby d8_13) rfl rfl k) ?_
  show Go p.tables e below _ (s₁.setTop (mkF m 14 #[.val (.ref a), .val (.ref b)] [(.ref a)]))
  obtain ⟨fs, hr, hrun, hended, hW, hsame⟩ := X0.leave (v := (some (.ref a))) (fun h => by first | rfl | (rw [Bd.returns] at h; cases h))
  refine own_e ?_ hrun hended ⟨_, _, rfl, ?_, ⟨_, rfl⟩, hW, hsame.mono (by decide) (by decide)⟩
  · exact retOut X0 hx Bd.returns rfl (Or.inr (Or.inr (Or.inr (Or.inr ⟨rfl, rfl, rfl⟩)))) (hb hby d8_14) hr
  · show Q_rm8 Z a b h0 n0 _ s₁.heap _
    rw [e0]
    exact ⟨rfl, N0, rfl⟩
theorem d9_0 : decode jdk_2650_method_6_code 0 = .ok (.aload_n 0, 1) := by decide +kernel
theorem d9_1 : decode jdk_2650_method_6_code 1 = .ok (.getfield 7, 3) := by decide +kernel
theorem d9_4 : decode jdk_2650_method_6_code 4 = .ok (.ireturn, 1) := by decide +kernel
theorem ef_rm9 (m : MethodId) (a : Addr) : entryFrame m #[(.ref a)] 1 = mkF m 0 #[.val (.ref a)] [] := by first | (simp [entryFrame, mkF, argsToLocals, Value.category]; done) | rfl
def Q_rm9 (Z : State) (a : Addr) (w_isPresent_a : Int32) (h0 : Heap) (n0 : Nat) (v : Option Value) (h : Heap) (L : List Loc) : Prop := v = some (.int (nar .boolean w_isPresent_a)) ∧ Fr n0 L ∧ h = h0
set_option maxRecDepth 65536 in
set_option maxHeartbeats 40000000 in
theorem rm9 (l : Launch) (Z : State) (a0 : Array Value) (hw : ∀ d ∈ tables_1, d.before a0 Z = true) (ws : List Jvm.Cond) (a : Addr) (w_isPresent_a : Int32) (h0 : Heap) (n0 : Nat) (O0 : Old Z n0 h0) (F_isPresent_a : Fld Z h0 a "java/util/OptionalLong" "isPresent" "Z" (.int w_isPresent_a)) :
    MetFree l (⟨"java/util/OptionalLong", "isPresent", "()Z"⟩ : MethodName) (head1 (Jvm.Cond.code (⟨"java/util/OptionalLong", "isPresent", "()Z"⟩ : MethodName) jdk_2650_method_6_code 1 (some .boolean) :: ws) ({ frames := 0, cells := 0, slots := 0, locals := 0 } : Room)) (fun aa_ U => aa_ = #[(.ref a)] ∧ Z.Warmed39 U.vm ∧ U.heap = h0) (fun _ _ _ _ _ => True) (fun _ U o U' => ∃ v L, o = .returned v ∧ Q_rm9 Z a w_isPresent_a h0 n0 v U'.heap L ∧ FrameEnd U o U' L ({ frames := 0, cells := 0, slots := 0, locals := 0 } : Room).cells ({ frames := 0, cells := 0, slots := 0, locals := 0 } : Room).slots) := by
  refine MetFree.of_bodySF (plainFor_of_name pn_java_util_OptionalLong) hisR ?_
  intro p e s m args below meth c s₁ Bd hml0 hP hK
  obtain ⟨rfl, hZ, hh⟩ := hP
  have hx := Bd.exec
  have hby := Bd.bytes
  have hml : c.maxLocals = 1 := hml0
  have hown : s.vm.findClass "java/util/OptionalLong" = some m.cls := findClass_of_methodNamed Bd.named
  have hnm := (name_of_methodNamed Bd.named Bd.method).1
  have X0 : Stand p l e ({ frames := 0, cells := 0, slots := 0, locals := 0 } : Room) s m #[(.ref a)] below meth c s₁ [] 0 0 := Stand.of_body Bd
  have e0 : s₁.heap = h0 := by rw [← hh, Bd.state]; rfl
  have N0 := Fr.nil n0
  have K0 : Keep h0 h0 [] := Keep.refl h0 _
  refine own_i (own_s (fun t k => castTop (ef_rm9 m a) k) ?_)
  show Go p.tables e below _ (s₁.setTop (mkF m 0 #[.val (.ref a)] []))
  refine own_s (fun t k => XS.aloadN X0.here hx rfl (hb hby d9_0) rfl rfl k) ?_
  show Go p.tables e below _ (s₁.setTop (mkF m 1 #[.val (.ref a)] [(.ref a)]))
  obtain ⟨T1, X1, e1, st1⟩ := getF X0 hx hZ hown (host := "") (Or.inl (hw _ (List.mem_of_getElem? (i := 20) rfl))) Via.refl e0 F_isPresent_a (g := (mkF m 1 #[.val (.ref a)] [(.ref a)])) rfl rfl (hb hby d9_1)
  refine own_s st1 ?_
  show Go p.tables e below _ (T1.setTop (mkF m 4 #[.val (.ref a)] [(.int w_isPresent_a)]))
  obtain ⟨fs, hr, hrun, hended, hW, hsame⟩ := X1.leave (v := (some (.int (nar .boolean w_isPresent_a)))) (fun h => by first | rfl | (rw [Bd.returns] at h; cases h))
  refine own_e ?_ hrun hended ⟨_, _, rfl, ?_, ⟨_, rfl⟩, hW, hsame.mono (by decide) (by decide)⟩
  · exact retN X1 hx (t := .boolean) Bd.returns (by simp) (hb hby d9_4) hr
  · show Q_rm9 Z a w_isPresent_a h0 n0 _ T1.heap _
    rw [e1]
    exact ⟨rfl, N0, rfl⟩
theorem d10_0 : decode jdk_2650_method_5_code 0 = .ok (.aload_n 0, 1) := by decide +kernel
theorem d10_1 : decode jdk_2650_method_5_code 1 = .ok (.getfield 7, 3) := by decide +kernel
theorem d10_4 : decode jdk_2650_method_5_code 4 = .ok (.ifCond .ne 13, 3) := by decide +kernel
theorem d10_17 : decode jdk_2650_method_5_code 17 = .ok (.aload_n 0, 1) := by decide +kernel
theorem d10_18 : decode jdk_2650_method_5_code 18 = .ok (.getfield 13, 3) := by decide +kernel
theorem d10_21 : decode jdk_2650_method_5_code 21 = .ok (.lreturn, 1) := by decide +kernel
theorem ef_rm10 (m : MethodId) (a : Addr) : entryFrame m #[(.ref a)] 1 = mkF m 0 #[.val (.ref a)] [] := by first | (simp [entryFrame, mkF, argsToLocals, Value.category]; done) | rfl
def Q_rm10 (Z : State) (a : Addr) (w_isPresent_a : Int32) (w_value_a : Int64) (h0 : Heap) (n0 : Nat) (v : Option Value) (h : Heap) (L : List Loc) : Prop := v = some (.long w_value_a) ∧ Fr n0 L ∧ h = h0
set_option maxRecDepth 65536 in
set_option maxHeartbeats 40000000 in
theorem rm10 (l : Launch) (Z : State) (a0 : Array Value) (hw : ∀ d ∈ tables_1, d.before a0 Z = true) (ws : List Jvm.Cond) (a : Addr) (w_isPresent_a : Int32) (w_value_a : Int64) (h0 : Heap) (n0 : Nat) (O0 : Old Z n0 h0) (F_isPresent_a : Fld Z h0 a "java/util/OptionalLong" "isPresent" "Z" (.int w_isPresent_a)) (hc4 : ¬ (w_isPresent_a = (0 : Int32))) (F_value_a : Fld Z h0 a "java/util/OptionalLong" "value" "J" (.long w_value_a)) :
    MetFree l (⟨"java/util/OptionalLong", "getAsLong", "()J"⟩ : MethodName) (head1 (Jvm.Cond.code (⟨"java/util/OptionalLong", "getAsLong", "()J"⟩ : MethodName) jdk_2650_method_5_code 1 (some .long) :: ws) ({ frames := 0, cells := 0, slots := 0, locals := 0 } : Room)) (fun aa_ U => aa_ = #[(.ref a)] ∧ Z.Warmed39 U.vm ∧ U.heap = h0) (fun _ _ _ _ _ => True) (fun _ U o U' => ∃ v L, o = .returned v ∧ Q_rm10 Z a w_isPresent_a w_value_a h0 n0 v U'.heap L ∧ FrameEnd U o U' L ({ frames := 0, cells := 0, slots := 0, locals := 0 } : Room).cells ({ frames := 0, cells := 0, slots := 0, locals := 0 } : Room).slots) := by
  refine MetFree.of_bodySF (plainFor_of_name pn_java_util_OptionalLong) hisR ?_
  intro p e s m args below meth c s₁ Bd hml0 hP hK
  obtain ⟨rfl, hZ, hh⟩ := hP
  have hx := Bd.exec
  have hby := Bd.bytes
  have hml : c.maxLocals = 1 := hml0
  have hown : s.vm.findClass "java/util/OptionalLong" = some m.cls := findClass_of_methodNamed Bd.named
  have hnm := (name_of_methodNamed Bd.named Bd.method).1
  have X0 : Stand p l e ({ frames := 0, cells := 0, slots := 0, locals := 0 } : Room) s m #[(.ref a)] below meth c s₁ [] 0 0 := Stand.of_body Bd
  have e0 : s₁.heap = h0 := by rw [← hh, Bd.state]; rfl
  have N0 := Fr.nil n0
  have K0 : Keep h0 h0 [] := Keep.refl h0 _
  refine own_i (own_s (fun t k => castTop (ef_rm10 m a) k) ?_)
  show Go p.tables e below _ (s₁.setTop (mkF m 0 #[.val (.ref a)] []))
  refine own_s (fun t k => XS.aloadN X0.here hx rfl (hb hby d10_0) rfl rfl k) ?_
  show Go p.tables e below _ (s₁.setTop (mkF m 1 #[.val (.ref a)] [(.ref a)]))
  obtain ⟨T1, X1, e1, st1⟩ := getF X0 hx hZ hown (host := "") (Or.inl (hw _ (List.mem_of_getElem? (i := 20) rfl))) Via.refl e0 F_isPresent_a (g := (mkF m 1 #[.val (.ref a)] [(.ref a)])) rfl rfl (hb hby d10_1)
  refine own_s st1 ?_
  show Go p.tables e below _ (T1.setTop (mkF m 4 #[.val (.ref a)] [(.int w_isPresent_a)]))
  refine own_s (fun t k => XS.ifYes X1.here hx rfl (pc0 := 4) (pc' := 17) rfl (hb hby d10_4) rfl ((if0 _ _).trans (feq hc4).2) (by decide) (by decide) k) ?_
  show Go p.tables e below _ (T1.setTop (mkF m 17 #[.val (.ref a)] []))
  refine own_s (fun t k => XS.aloadN X1.here hx rfl (hb hby d10_17) rfl rfl k) ?_
  show Go p.tables e below _ (T1.setTop (mkF m 18 #[.val (.ref a)] [(.ref a)]))
  obtain ⟨T2, X2, e2, st2⟩ := getF X1 hx hZ hown (host := "") (Or.inl (hw _ (List.mem_of_getElem? (i := 22) rfl))) Via.refl e1 F_value_a (g := (mkF m 18 #[.val (.ref a)] [(.ref a)])) rfl rfl (hb hby d10_18)
  refine own_s st2 ?_
  show Go p.tables e below _ (T2.setTop (mkF m 21 #[.val (.ref a)] [(.long w_value_a)]))
  obtain ⟨fs, hr, hrun, hended, hW, hsame⟩ := X2.leave (v := (some (.long w_value_a))) (fun h => by first | rfl | (rw [Bd.returns] at h; cases h))
  refine own_e ?_ hrun hended ⟨_, _, rfl, ?_, ⟨_, rfl⟩, hW, hsame.mono (by decide) (by decide)⟩
  · exact retOut X2 hx (t := .long) Bd.returns rfl (Or.inr (Or.inl ⟨rfl, rfl, _, rfl⟩)) (hb hby d10_21) hr
  · show Q_rm10 Z a w_isPresent_a w_value_a h0 n0 _ T2.heap _
    rw [e2]
    exact ⟨rfl, N0, rfl⟩
theorem d11_0 : decode jdk_32_method_6_code 0 = .ok (.aload_n 0, 1) := by decide +kernel
theorem d11_1 : decode jdk_32_method_6_code 1 = .ok (.getfield 13, 3) := by decide +kernel
theorem d11_4 : decode jdk_32_method_6_code 4 = .ok (.ifnull 7, 3) := by decide +kernel
theorem d11_11 : decode jdk_32_method_6_code 11 = .ok (.iconst 0, 1) := by decide +kernel
theorem d11_12 : decode jdk_32_method_6_code 12 = .ok (.ireturn, 1) := by decide +kernel
theorem ef_rm11 (m : MethodId) (a : Addr) : entryFrame m #[(.ref a)] 1 = mkF m 0 #[.val (.ref a)] [] := by first | (simp [entryFrame, mkF, argsToLocals, Value.category]; done) | rfl
def Q_rm11 (Z : State) (a : Addr) (h0 : Heap) (n0 : Nat) (v : Option Value) (h : Heap) (L : List Loc) : Prop := v = some (.int (0 : Int32)) ∧ Fr n0 L ∧ h = h0
set_option maxRecDepth 65536 in
set_option maxHeartbeats 40000000 in
theorem rm11 (l : Launch) (Z : State) (a0 : Array Value) (hw : ∀ d ∈ tables_1, d.before a0 Z = true) (ws : List Jvm.Cond) (a : Addr) (h0 : Heap) (n0 : Nat) (O0 : Old Z n0 h0) (F_v : Fld Z h0 a "java/util/Optional" "value" "Ljava/lang/Object;" .null) :
    MetFree l (⟨"java/util/Optional", "isPresent", "()Z"⟩ : MethodName) (head1 (Jvm.Cond.code (⟨"java/util/Optional", "isPresent", "()Z"⟩ : MethodName) jdk_32_method_6_code 1 (some .boolean) :: ws) ({ frames := 0, cells := 0, slots := 0, locals := 0 } : Room)) (fun aa_ U => aa_ = #[(.ref a)] ∧ Z.Warmed39 U.vm ∧ U.heap = h0) (fun _ _ _ _ _ => True) (fun _ U o U' => ∃ v L, o = .returned v ∧ Q_rm11 Z a h0 n0 v U'.heap L ∧ FrameEnd U o U' L ({ frames := 0, cells := 0, slots := 0, locals := 0 } : Room).cells ({ frames := 0, cells := 0, slots := 0, locals := 0 } : Room).slots) := by
  refine MetFree.of_bodySF (plainFor_of_name pn_java_util_Optional) hisR ?_
  intro p e s m args below meth c s₁ Bd hml0 hP hK
  obtain ⟨rfl, hZ, hh⟩ := hP
  have hx := Bd.exec
  have hby := Bd.bytes
  have hml : c.maxLocals = 1 := hml0
  have hown : s.vm.findClass "java/util/Optional" = some m.cls := findClass_of_methodNamed Bd.named
  have hnm := (name_of_methodNamed Bd.named Bd.method).1
  have X0 : Stand p l e ({ frames := 0, cells := 0, slots := 0, locals := 0 } : Room) s m #[(.ref a)] below meth c s₁ [] 0 0 := Stand.of_body Bd
  have e0 : s₁.heap = h0 := by rw [← hh, Bd.state]; rfl
  have N0 := Fr.nil n0
  have K0 : Keep h0 h0 [] := Keep.refl h0 _
  refine own_i (own_s (fun t k => castTop (ef_rm11 m a) k) ?_)
  show Go p.tables e below _ (s₁.setTop (mkF m 0 #[.val (.ref a)] []))
  refine own_s (fun t k => XS.aloadN X0.here hx rfl (hb hby d11_0) rfl rfl k) ?_
  show Go p.tables e below _ (s₁.setTop (mkF m 1 #[.val (.ref a)] [(.ref a)]))
  obtain ⟨T1, X1, e1, st1⟩ := getF X0 hx hZ hown (host := "") (Or.inl (hw _ (List.mem_of_getElem? (i := 66) rfl))) Via.refl e0 F_v (g := (mkF m 1 #[.val (.ref a)] [(.ref a)])) rfl rfl (hb hby d11_1)
  refine own_s st1 ?_
  show Go p.tables e below _ (T1.setTop (mkF m 4 #[.val (.ref a)] [.null]))
  refine own_s (fun t k => XS.ifnullYes X1.here hx rfl (pc0 := 4) (pc' := 11) rfl (hb hby d11_4) rfl (by decide) (by decide) k) ?_
  show Go p.tables e below _ (T1.setTop (mkF m 11 #[.val (.ref a)] []))
  refine own_s (fun t k => XS.iconst X1.here hx rfl (hb hby d11_11) k) ?_
  show Go p.tables e below _ (T1.setTop (mkF m 12 #[.val (.ref a)] [(.int (0 : Int32))]))
  obtain ⟨fs, hr, hrun, hended, hW, hsame⟩ := X1.leave (v := (some (.int (0 : Int32)))) (fun h => by first | rfl | (rw [Bd.returns] at h; cases h))
  refine own_e ?_ hrun hended ⟨_, _, rfl, ?_, ⟨_, rfl⟩, hW, hsame.mono (by decide) (by decide)⟩
  · exact retN X1 hx (t := .boolean) Bd.returns (by simp) (hb hby d11_12) hr
  · show Q_rm11 Z a h0 n0 _ T1.heap _
    rw [e1]
    exact ⟨rfl, N0, rfl⟩
theorem d12_0 : decode prog_3_method_8_code 0 = .ok (.aload_n 0, 1) := by decide +kernel
theorem d12_1 : decode prog_3_method_8_code 1 = .ok (.getfield 59, 3) := by decide +kernel
theorem d12_4 : decode prog_3_method_8_code 4 = .ok (.areturn, 1) := by decide +kernel
theorem pn_com_example_lock_by_lease_lockbylease_GrantResult : plainName "com/example/lock_by_lease/lockbylease/GrantResult" = true := by first | (simp [plainName, overriddenIn]; done) | decide +kernel
theorem ef_rm12 (m : MethodId) (a : Addr) : entryFrame m #[(.ref a)] 1 = mkF m 0 #[.val (.ref a)] [] := by first | (simp [entryFrame, mkF, argsToLocals, Value.category]; done) | rfl
def Q_rm12 (Z : State) (a : Addr) (w_fence_a : Addr) (h0 : Heap) (n0 : Nat) (v : Option Value) (h : Heap) (L : List Loc) : Prop := v = some (.ref w_fence_a) ∧ Fr n0 L ∧ h = h0
set_option maxRecDepth 65536 in
set_option maxHeartbeats 40000000 in
theorem rm12 (l : Launch) (Z : State) (a0 : Array Value) (hw : ∀ d ∈ tables_1, d.before a0 Z = true) (ws : List Jvm.Cond) (a : Addr) (w_fence_a : Addr) (h0 : Heap) (n0 : Nat) (O0 : Old Z n0 h0) (F_fence_a : Fld Z h0 a "com/example/lock_by_lease/lockbylease/GrantResult" "fence" "Ljava/util/OptionalLong;" (.ref w_fence_a)) :
    MetFree l (⟨"com/example/lock_by_lease/lockbylease/GrantResult", "fence", "()Ljava/util/OptionalLong;"⟩ : MethodName) (head1 (Jvm.Cond.code (⟨"com/example/lock_by_lease/lockbylease/GrantResult", "fence", "()Ljava/util/OptionalLong;"⟩ : MethodName) prog_3_method_8_code 1 (some (.object "java/util/OptionalLong")) :: ws) ({ frames := 0, cells := 0, slots := 0, locals := 0 } : Room)) (fun aa_ U => aa_ = #[(.ref a)] ∧ Z.Warmed39 U.vm ∧ U.heap = h0) (fun _ _ _ _ _ => True) (fun _ U o U' => ∃ v L, o = .returned v ∧ Q_rm12 Z a w_fence_a h0 n0 v U'.heap L ∧ FrameEnd U o U' L ({ frames := 0, cells := 0, slots := 0, locals := 0 } : Room).cells ({ frames := 0, cells := 0, slots := 0, locals := 0 } : Room).slots) := by
  refine MetFree.of_bodySF (plainFor_of_name pn_com_example_lock_by_lease_lockbylease_GrantResult) hisR ?_
  intro p e s m args below meth c s₁ Bd hml0 hP hK
  obtain ⟨rfl, hZ, hh⟩ := hP
  have hx := Bd.exec
  have hby := Bd.bytes
  have hml : c.maxLocals = 1 := hml0
  have hown : s.vm.findClass "com/example/lock_by_lease/lockbylease/GrantResult" = some m.cls := findClass_of_methodNamed Bd.named
  have hnm := (name_of_methodNamed Bd.named Bd.method).1
  have X0 : Stand p l e ({ frames := 0, cells := 0, slots := 0, locals := 0 } : Room) s m #[(.ref a)] below meth c s₁ [] 0 0 := Stand.of_body Bd
  have e0 : s₁.heap = h0 := by rw [← hh, Bd.state]; rfl
  have N0 := Fr.nil n0
  have K0 : Keep h0 h0 [] := Keep.refl h0 _
  refine own_i (own_s (fun t k => castTop (ef_rm12 m a) k) ?_)
  show Go p.tables e below _ (s₁.setTop (mkF m 0 #[.val (.ref a)] []))
  refine own_s (fun t k => XS.aloadN X0.here hx rfl (hb hby d12_0) rfl rfl k) ?_
  show Go p.tables e below _ (s₁.setTop (mkF m 1 #[.val (.ref a)] [(.ref a)]))
  obtain ⟨T1, X1, e1, st1⟩ := getF X0 hx hZ hown (host := "") (Or.inl (hw _ (List.mem_of_getElem? (i := 68) rfl))) Via.refl e0 F_fence_a (g := (mkF m 1 #[.val (.ref a)] [(.ref a)])) rfl rfl (hb hby d12_1)
  refine own_s st1 ?_
  show Go p.tables e below _ (T1.setTop (mkF m 4 #[.val (.ref a)] [(.ref w_fence_a)]))
  obtain ⟨fs, hr, hrun, hended, hW, hsame⟩ := X1.leave (v := (some (.ref w_fence_a))) (fun h => by first | rfl | (rw [Bd.returns] at h; cases h))
  refine own_e ?_ hrun hended ⟨_, _, rfl, ?_, ⟨_, rfl⟩, hW, hsame.mono (by decide) (by decide)⟩
  · exact retOut X1 hx Bd.returns rfl (Or.inr (Or.inr (Or.inr (Or.inr ⟨rfl, rfl, rfl⟩)))) (hb hby d12_4) hr
  · show Q_rm12 Z a w_fence_a h0 n0 _ T1.heap _
    rw [e1]
    exact ⟨rfl, N0, rfl⟩
theorem d13_0 : decode prog_3_method_9_code 0 = .ok (.aload_n 0, 1) := by decide +kernel
theorem d13_1 : decode prog_3_method_9_code 1 = .ok (.getfield 65, 3) := by decide +kernel
theorem d13_4 : decode prog_3_method_9_code 4 = .ok (.areturn, 1) := by decide +kernel
theorem ef_rm13 (m : MethodId) (a : Addr) : entryFrame m #[(.ref a)] 1 = mkF m 0 #[.val (.ref a)] [] := by first | (simp [entryFrame, mkF, argsToLocals, Value.category]; done) | rfl
def Q_rm13 (Z : State) (a : Addr) (w_remaining_a : Addr) (h0 : Heap) (n0 : Nat) (v : Option Value) (h : Heap) (L : List Loc) : Prop := v = some (.ref w_remaining_a) ∧ Fr n0 L ∧ h = h0
set_option maxRecDepth 65536 in
set_option maxHeartbeats 40000000 in
theorem rm13 (l : Launch) (Z : State) (a0 : Array Value) (hw : ∀ d ∈ tables_1, d.before a0 Z = true) (ws : List Jvm.Cond) (a : Addr) (w_remaining_a : Addr) (h0 : Heap) (n0 : Nat) (O0 : Old Z n0 h0) (F_remaining_a : Fld Z h0 a "com/example/lock_by_lease/lockbylease/GrantResult" "remaining" "Ljava/util/Optional;" (.ref w_remaining_a)) :
    MetFree l (⟨"com/example/lock_by_lease/lockbylease/GrantResult", "remaining", "()Ljava/util/Optional;"⟩ : MethodName) (head1 (Jvm.Cond.code (⟨"com/example/lock_by_lease/lockbylease/GrantResult", "remaining", "()Ljava/util/Optional;"⟩ : MethodName) prog_3_method_9_code 1 (some (.object "java/util/Optional")) :: ws) ({ frames := 0, cells := 0, slots := 0, locals := 0 } : Room)) (fun aa_ U => aa_ = #[(.ref a)] ∧ Z.Warmed39 U.vm ∧ U.heap = h0) (fun _ _ _ _ _ => True) (fun _ U o U' => ∃ v L, o = .returned v ∧ Q_rm13 Z a w_remaining_a h0 n0 v U'.heap L ∧ FrameEnd U o U' L ({ frames := 0, cells := 0, slots := 0, locals := 0 } : Room).cells ({ frames := 0, cells := 0, slots := 0, locals := 0 } : Room).slots) := by
  refine MetFree.of_bodySF (plainFor_of_name pn_com_example_lock_by_lease_lockbylease_GrantResult) hisR ?_
  intro p e s m args below meth c s₁ Bd hml0 hP hK
  obtain ⟨rfl, hZ, hh⟩ := hP
  have hx := Bd.exec
  have hby := Bd.bytes
  have hml : c.maxLocals = 1 := hml0
  have hown : s.vm.findClass "com/example/lock_by_lease/lockbylease/GrantResult" = some m.cls := findClass_of_methodNamed Bd.named
  have hnm := (name_of_methodNamed Bd.named Bd.method).1
  have X0 : Stand p l e ({ frames := 0, cells := 0, slots := 0, locals := 0 } : Room) s m #[(.ref a)] below meth c s₁ [] 0 0 := Stand.of_body Bd
  have e0 : s₁.heap = h0 := by rw [← hh, Bd.state]; rfl
  have N0 := Fr.nil n0
  have K0 : Keep h0 h0 [] := Keep.refl h0 _
  refine own_i (own_s (fun t k => castTop (ef_rm13 m a) k) ?_)
  show Go p.tables e below _ (s₁.setTop (mkF m 0 #[.val (.ref a)] []))
  refine own_s (fun t k => XS.aloadN X0.here hx rfl (hb hby d13_0) rfl rfl k) ?_
  show Go p.tables e below _ (s₁.setTop (mkF m 1 #[.val (.ref a)] [(.ref a)]))
  obtain ⟨T1, X1, e1, st1⟩ := getF X0 hx hZ hown (host := "") (Or.inl (hw _ (List.mem_of_getElem? (i := 70) rfl))) Via.refl e0 F_remaining_a (g := (mkF m 1 #[.val (.ref a)] [(.ref a)])) rfl rfl (hb hby d13_1)
  refine own_s st1 ?_
  show Go p.tables e below _ (T1.setTop (mkF m 4 #[.val (.ref a)] [(.ref w_remaining_a)]))
  obtain ⟨fs, hr, hrun, hended, hW, hsame⟩ := X1.leave (v := (some (.ref w_remaining_a))) (fun h => by first | rfl | (rw [Bd.returns] at h; cases h))
  refine own_e ?_ hrun hended ⟨_, _, rfl, ?_, ⟨_, rfl⟩, hW, hsame.mono (by decide) (by decide)⟩
  · exact retOut X1 hx Bd.returns rfl (Or.inr (Or.inr (Or.inr (Or.inr ⟨rfl, rfl, rfl⟩)))) (hb hby d13_4) hr
  · show Q_rm13 Z a w_remaining_a h0 n0 _ T1.heap _
    rw [e1]
    exact ⟨rfl, N0, rfl⟩
theorem d6_0 : decode prog_3_method_1_code 0 = .ok (.aload_n 0, 1) := by decide +kernel
theorem d6_1 : decode prog_3_method_1_code 1 = .ok (.invokespecial 1, 3) := by decide +kernel
theorem pd___V : parseMethodDescriptor "()V" = some ⟨[], none⟩ := by decide +kernel
theorem d6_4 : decode prog_3_method_1_code 4 = .ok (.aload_n 1, 1) := by decide +kernel
theorem d6_5 : decode prog_3_method_1_code 5 = .ok (.ldc 7, 2) := by decide +kernel
theorem d6_7 : decode prog_3_method_1_code 7 = .ok (.invokestatic 9, 3) := by decide +kernel
theorem pd__Ljava_lang_Object_Ljava_lang_String__Ljava_lang_Object_ : parseMethodDescriptor "(Ljava/lang/Object;Ljava/lang/String;)Ljava/lang/Object;" = some ⟨[(.object "java/lang/Object"), (.object "java/lang/String")], some (.object "java/lang/Object")⟩ := by decide +kernel
theorem d6_10 : decode prog_3_method_1_code 10 = .ok (.pop, 1) := by decide +kernel
theorem d6_11 : decode prog_3_method_1_code 11 = .ok (.aload_n 2, 1) := by decide +kernel
theorem d6_12 : decode prog_3_method_1_code 12 = .ok (.ldc 15, 2) := by decide +kernel
theorem d6_14 : decode prog_3_method_1_code 14 = .ok (.invokestatic 9, 3) := by decide +kernel
theorem d6_17 : decode prog_3_method_1_code 17 = .ok (.pop, 1) := by decide +kernel
theorem d6_18 : decode prog_3_method_1_code 18 = .ok (.aload_n 1, 1) := by decide +kernel
theorem d6_19 : decode prog_3_method_1_code 19 = .ok (.invokevirtual 17, 3) := by decide +kernel
theorem pd___Z : parseMethodDescriptor "()Z" = some ⟨[], some .boolean⟩ := by decide +kernel
theorem d6_22 : decode prog_3_method_1_code 22 = .ok (.ifCond .eq 29, 3) := by decide +kernel
theorem d6_25 : decode prog_3_method_1_code 25 = .ok (.aload_n 1, 1) := by decide +kernel
theorem d6_26 : decode prog_3_method_1_code 26 = .ok (.invokevirtual 23, 3) := by decide +kernel
theorem pd___J : parseMethodDescriptor "()J" = some ⟨[], some .long⟩ := by decide +kernel
theorem d6_29 : decode prog_3_method_1_code 29 = .ok (.lconst 1, 1) := by decide +kernel
theorem d6_30 : decode prog_3_method_1_code 30 = .ok (.lcmp, 1) := by decide +kernel
theorem d6_31 : decode prog_3_method_1_code 31 = .ok (.ifCond .ge 20, 3) := by decide +kernel
theorem d6_51 : decode prog_3_method_1_code 51 = .ok (.aload_n 2, 1) := by decide +kernel
theorem d6_52 : decode prog_3_method_1_code 52 = .ok (.invokevirtual 36, 3) := by decide +kernel
theorem d6_55 : decode prog_3_method_1_code 55 = .ok (.ifCond .eq 36, 3) := by decide +kernel
theorem d6_91 : decode prog_3_method_1_code 91 = .ok (.aload_n 1, 1) := by decide +kernel
theorem d6_92 : decode prog_3_method_1_code 92 = .ok (.invokevirtual 17, 3) := by decide +kernel
theorem d6_95 : decode prog_3_method_1_code 95 = .ok (.ifCond .eq 20, 3) := by decide +kernel
theorem d6_98 : decode prog_3_method_1_code 98 = .ok (.aload_n 2, 1) := by decide +kernel
theorem d6_99 : decode prog_3_method_1_code 99 = .ok (.invokevirtual 36, 3) := by decide +kernel
theorem d6_102 : decode prog_3_method_1_code 102 = .ok (.ifCond .eq 13, 3) := by decide +kernel
theorem d6_115 : decode prog_3_method_1_code 115 = .ok (.aload_n 0, 1) := by decide +kernel
theorem d6_116 : decode prog_3_method_1_code 116 = .ok (.aload_n 1, 1) := by decide +kernel
theorem d6_117 : decode prog_3_method_1_code 117 = .ok (.putfield 59, 3) := by decide +kernel
theorem d6_120 : decode prog_3_method_1_code 120 = .ok (.aload_n 0, 1) := by decide +kernel
theorem d6_121 : decode prog_3_method_1_code 121 = .ok (.aload_n 2, 1) := by decide +kernel
theorem d6_122 : decode prog_3_method_1_code 122 = .ok (.putfield 65, 3) := by decide +kernel
theorem d6_125 : decode prog_3_method_1_code 125 = .ok (.return_, 1) := by decide +kernel
theorem ef_rm6 (m : MethodId) (a : Addr) (f : Addr) (r : Addr) : entryFrame m #[(.ref a), (.ref f), (.ref r)] 3 = mkF m 0 #[.val (.ref a), .val (.ref f), .val (.ref r)] [] := by first | (simp [entryFrame, mkF, argsToLocals, Value.category]; done) | rfl
def Q_rm6 (Z : State) (q : Int64) (a : Addr) (f : Addr) (r : Addr) (u_fence_a : Value) (u_remaining_a : Value) (h0 : Heap) (n0 : Nat) (v : Option Value) (h : Heap) (L : List Loc) : Prop := v = none ∧ Fr n0 L ∧ Keep h0 h [a] ∧ Exa Z h a "com/example/lock_by_lease/lockbylease/GrantResult" ∧ Fld Z h a "com/example/lock_by_lease/lockbylease/GrantResult" "fence" "Ljava/util/OptionalLong;" (.ref f) ∧ Fld Z h a "com/example/lock_by_lease/lockbylease/GrantResult" "remaining" "Ljava/util/Optional;" (.ref r)
set_option maxRecDepth 65536 in
set_option maxHeartbeats 40000000 in
theorem rm6 (l : Launch) (Z : State) (a0 : Array Value) (hw : ∀ d ∈ tables_1, d.before a0 Z = true) (ws : List Jvm.Cond) (q : Int64) (a : Addr) (f : Addr) (r : Addr) (u_fence_a : Value) (u_remaining_a : Value) (h0 : Heap) (n0 : Nat) (O0 : Old Z n0 h0) (F1 : Fld Z h0 f "java/util/OptionalLong" "isPresent" "Z" (.int (1 : Int32))) (F2 : Fld Z h0 f "java/util/OptionalLong" "value" "J" (.long q)) (F3 : Fld Z h0 r "java/util/Optional" "value" "Ljava/lang/Object;" .null) (E_f : Exa Z h0 f "java/util/OptionalLong") (E_r : Exa Z h0 r "java/util/Optional") (E_a : Exa Z h0 a "com/example/lock_by_lease/lockbylease/GrantResult") (hq : ¬ (q < (1 : Int64))) (F_fence_a : Fld Z h0 a "com/example/lock_by_lease/lockbylease/GrantResult" "fence" "Ljava/util/OptionalLong;" u_fence_a) (g_a : n0 ≤ a) (F_remaining_a : Fld Z h0 a "com/example/lock_by_lease/lockbylease/GrantResult" "remaining" "Ljava/util/Optional;" u_remaining_a) :
    MetFree l (⟨"com/example/lock_by_lease/lockbylease/GrantResult", "<init>", "(Ljava/util/OptionalLong;Ljava/util/Optional;)V"⟩ : MethodName) (head1 (Jvm.Cond.code (⟨"com/example/lock_by_lease/lockbylease/GrantResult", "<init>", "(Ljava/util/OptionalLong;Ljava/util/Optional;)V"⟩ : MethodName) prog_3_method_1_code 3 none :: ws) ({ frames := 2, cells := 4, slots := 128, locals := 24 } : Room)) (fun aa_ U => aa_ = #[(.ref a), (.ref f), (.ref r)] ∧ Z.Warmed39 U.vm ∧ U.heap = h0) (fun _ _ _ _ _ => True) (fun _ U o U' => ∃ v L, o = .returned v ∧ Q_rm6 Z q a f r u_fence_a u_remaining_a h0 n0 v U'.heap L ∧ ReturnedEndW U o U' L ({ frames := 2, cells := 4, slots := 128, locals := 24 } : Room).cells ({ frames := 2, cells := 4, slots := 128, locals := 24 } : Room).slots) := by
  refine MetFree.of_bodySF (plainFor_of_name pn_com_example_lock_by_lease_lockbylease_GrantResult) hisR ?_
  intro p e s m args below meth c s₁ Bd hml0 hP hK
  obtain ⟨rfl, hZ, hh⟩ := hP
  have hx := Bd.exec
  have hby := Bd.bytes
  have hml : c.maxLocals = 3 := hml0
  have hown : s.vm.findClass "com/example/lock_by_lease/lockbylease/GrantResult" = some m.cls := findClass_of_methodNamed Bd.named
  have hnm := (name_of_methodNamed Bd.named Bd.method).1
  have X0 : Stand p l e ({ frames := 2, cells := 4, slots := 128, locals := 24 } : Room) (s.setVm s.vm) m #[(.ref a), (.ref f), (.ref r)] below meth c s₁ [] 0 0 := Stand.of_body Bd
  have e0 : s₁.heap = h0 := by rw [← hh, Bd.state]; rfl
  have N0 := Fr.nil n0
  have K0 : Keep h0 h0 [a] := Keep.refl h0 _
  have hS0 : s.Since s.vm 0 := (State.WarmedH.refl s).since 0
  refine own_i (own_s (fun t k => castTop (ef_rm6 m a f r) k) ?_)
  show Go p.tables e below _ (s₁.setTop (mkF m 0 #[.val (.ref a), .val (.ref f), .val (.ref r)] []))
  refine own_s (fun t k => XS.aloadN X0.here hx rfl (hb hby d6_0) rfl rfl k) ?_
  show Go p.tables e below _ (s₁.setTop (mkF m 1 #[.val (.ref a), .val (.ref f), .val (.ref r)] [(.ref a)]))
  obtain ⟨_, _, ⟨T1, L1, k1, n1⟩, -, X1, ⟨Lc1, hQ1, l1, y1, z1⟩, st1⟩ := X0.specialBack hx (y := (⟨"java/lang/Record", "<init>", "()V"⟩ : MethodName)) rfl hown (mvT hZ (hw _ (List.mem_of_getElem? (i := 32) rfl))) (mvT hZ (hw _ (List.mem_of_getElem? (i := 33) rfl))) (mvT hZ (hw _ (List.mem_of_getElem? (i := 36) rfl))) (by decide) (backOf (W := 0) (rm7 l Z a0 hw [] a h0 n0 O0 ) hZ (hw _ (List.mem_of_getElem? (i := 36) rfl)) (hw _ (List.mem_of_getElem? (i := 35) rfl)) (by decide) (by decide)) (g := (mkF m 1 #[.val (.ref a), .val (.ref f), .val (.ref r)] [(.ref a)])) rfl (by rw [hml]; rfl) (Steps.refl _) (a := a) (argsL := []) (rest := []) (lenOf pd___V rfl) rfl (by show 2 * 0 + _ ≤ _; exact Nat.le_of_eq rfl) (hb hby d6_1) (fun _ _ => ⟨rfl, e0, (by decide : 0 + 0 ≤ _), (by decide : 0 + 0 ≤ _)⟩)
  dsimp only [Pt.U, Pt.locs, Pt.cells, Pt.slots] at X1 l1 y1 z1 st1 hQ1
  subst l1 y1 z1
  obtain ⟨rfl, N1q, eq1⟩ := hQ1
  have N1 := Fr.app N0 N1q
  refine own_t st1 ?_
  show Go p.tables e below _ (T1.setTop (mkF m 4 #[.val (.ref a), .val (.ref f), .val (.ref r)] []))
  refine own_s (fun t k => XS.aloadN X1.here hx rfl (hb hby d6_4) rfl rfl k) ?_
  show Go p.tables e below _ (T1.setTop (mkF m 5 #[.val (.ref a), .val (.ref f), .val (.ref r)] [(.ref f)]))
  obtain ⟨x2, T2, h2, k2, X2, e2, E2, hS2, hk2, hZ2, hown2, st2⟩ := ldcS X1 hx hZ hown (hw _ (List.mem_of_getElem? (i := 38) rfl)) (own_sa hw) eq1 hS0 (k0 := _) (Nat.zero_le _) (g := (mkF m 5 #[.val (.ref a), .val (.ref f), .val (.ref r)] [(.ref f)])) rfl (hb hby d6_5) (n := 52) (by decide) (by decide) (by decide) (by decide)
  refine own_s st2 ?_
  have K2 : Keep h0 h2 [a] := K0.ext E2
  show Go p.tables e below _ (T2.setTop (mkF m 7 #[.val (.ref a), .val (.ref f), .val (.ref r)] [(.ref x2), (.ref f)]))
  have O4 : Old Z n0 h2 := (O0.ext E2)
  obtain ⟨_, _, ⟨T3, L3, k3, n3⟩, -, X3, ⟨Lc3, hQ3, l3, y3, z3⟩, st3⟩ := Jvm.LawKit.callS X2 hx (y := (⟨"java/util/Objects", "requireNonNull", "(Ljava/lang/Object;Ljava/lang/String;)Ljava/lang/Object;"⟩ : MethodName)) hown2 (mvT hZ2 (hw _ (List.mem_of_getElem? (i := 46) rfl))) (mvT hZ2 (hw _ (List.mem_of_getElem? (i := 47) rfl))) (mvT hZ2 (hw _ (List.mem_of_getElem? (i := 48) rfl))) (mvT hZ2 (hw _ (List.mem_of_getElem? (i := 49) rfl))) (by decide) (backOf (W := 0) (rm8 l Z a0 hw [] f x2 h2 n0 O4 ) hZ2 (hw _ (List.mem_of_getElem? (i := 49) rfl)) (hw _ (List.mem_of_getElem? (i := 48) rfl)) (by decide) (by decide)) (g := (mkF m 7 #[.val (.ref a), .val (.ref f), .val (.ref r)] [(.ref x2), (.ref f)])) rfl (by rw [hml]; rfl) (argsL := [(.ref f), (.ref x2)]) (rest := []) (lenOf pd__Ljava_lang_Object_Ljava_lang_String__Ljava_lang_Object_ rfl) rfl (by show 2 * 0 + _ ≤ _; exact Nat.le_of_eq rfl) (hb hby d6_7) (fun _ _ => ⟨rfl, e2, (by decide : 2 + 0 ≤ _), (by decide : 56 + 0 ≤ _)⟩)
  dsimp only [Pt.U, Pt.locs, Pt.cells, Pt.slots] at X3 l3 y3 z3 st3 hQ3
  subst l3 y3 z3
  obtain ⟨rfl, N3q, eq3⟩ := hQ3
  have N3 := Fr.app N1 N3q
  refine own_s st3 ?_
  show Go p.tables e below _ (T3.setTop (mkF m 10 #[.val (.ref a), .val (.ref f), .val (.ref r)] [(.ref f)]))
  refine own_s (fun t k => XS.pop X3.here hx rfl (hb hby d6_10) rfl rfl k) ?_
  show Go p.tables e below _ (T3.setTop (mkF m 11 #[.val (.ref a), .val (.ref f), .val (.ref r)] []))
  refine own_s (fun t k => XS.aloadN X3.here hx rfl (hb hby d6_11) rfl rfl k) ?_
  show Go p.tables e below _ (T3.setTop (mkF m 12 #[.val (.ref a), .val (.ref f), .val (.ref r)] [(.ref r)]))
  obtain ⟨x5, T5, h5, k5, X5, e5, E5, hS5, hk5, hZ5, hown5, st5⟩ := ldcS X3 hx hZ2 hown2 (hw _ (List.mem_of_getElem? (i := 50) rfl)) (own_sa hw) eq3 hS2 (k0 := _) hk2 (g := (mkF m 12 #[.val (.ref a), .val (.ref f), .val (.ref r)] [(.ref r)])) rfl (hb hby d6_12) (n := 68) (by decide) (by decide) (by decide) (by decide)
  refine own_s st5 ?_
  have K5 : Keep h0 h5 [a] := K2.ext E5
  show Go p.tables e below _ (T5.setTop (mkF m 14 #[.val (.ref a), .val (.ref f), .val (.ref r)] [(.ref x5), (.ref r)]))
  have O7 : Old Z n0 h5 := (O4.ext E5)
  obtain ⟨_, _, ⟨T6, L6, k6, n6⟩, -, X6, ⟨Lc6, hQ6, l6, y6, z6⟩, st6⟩ := Jvm.LawKit.callS X5 hx (y := (⟨"java/util/Objects", "requireNonNull", "(Ljava/lang/Object;Ljava/lang/String;)Ljava/lang/Object;"⟩ : MethodName)) hown5 (mvT hZ5 (hw _ (List.mem_of_getElem? (i := 46) rfl))) (mvT hZ5 (hw _ (List.mem_of_getElem? (i := 47) rfl))) (mvT hZ5 (hw _ (List.mem_of_getElem? (i := 48) rfl))) (mvT hZ5 (hw _ (List.mem_of_getElem? (i := 49) rfl))) (by decide) (backOf (W := 0) (rm8 l Z a0 hw [] r x5 h5 n0 O7 ) hZ5 (hw _ (List.mem_of_getElem? (i := 49) rfl)) (hw _ (List.mem_of_getElem? (i := 48) rfl)) (by decide) (by decide)) (g := (mkF m 14 #[.val (.ref a), .val (.ref f), .val (.ref r)] [(.ref x5), (.ref r)])) rfl (by rw [hml]; rfl) (argsL := [(.ref r), (.ref x5)]) (rest := []) (lenOf pd__Ljava_lang_Object_Ljava_lang_String__Ljava_lang_Object_ rfl) rfl (by show 2 * 0 + _ ≤ _; exact Nat.le_of_eq rfl) (hb hby d6_14) (fun _ _ => ⟨rfl, e5, (by decide : 4 + 0 ≤ _), (by decide : 128 + 0 ≤ _)⟩)
  dsimp only [Pt.U, Pt.locs, Pt.cells, Pt.slots] at X6 l6 y6 z6 st6 hQ6
  subst l6 y6 z6
  obtain ⟨rfl, N6q, eq6⟩ := hQ6
  have N6 := Fr.app N3 N6q
  refine own_s st6 ?_
  show Go p.tables e below _ (T6.setTop (mkF m 17 #[.val (.ref a), .val (.ref f), .val (.ref r)] [(.ref r)]))
  refine own_s (fun t k => XS.pop X6.here hx rfl (hb hby d6_17) rfl rfl k) ?_
  show Go p.tables e below _ (T6.setTop (mkF m 18 #[.val (.ref a), .val (.ref f), .val (.ref r)] []))
  refine own_s (fun t k => XS.aloadN X6.here hx rfl (hb hby d6_18) rfl rfl k) ?_
  show Go p.tables e below _ (T6.setTop (mkF m 19 #[.val (.ref a), .val (.ref f), .val (.ref r)] [(.ref f)]))
  have F9 : Fld Z h5 f "java/util/OptionalLong" "isPresent" "Z" (.int (1 : Int32)) := ((F1.ext E2).ext E5)
  have Q10 : Exa Z h5 f "java/util/OptionalLong" := ((E_f.ext E2).ext E5)
  obtain ⟨cq8, kq8, q8a, q8b, q8c⟩ := isOf hZ5 eq6 Q10
  obtain ⟨_, _, ⟨T8, L8, k8, n8⟩, -, X8, ⟨Lc8, hQ8, l8, y8, z8⟩, st8⟩ := X6.virtualBack hx (y := (⟨"java/util/OptionalLong", "isPresent", "()Z"⟩ : MethodName)) (z := (⟨"java/util/OptionalLong", "isPresent", "()Z"⟩ : MethodName)) hown5 (mvT hZ5 (hw _ (List.mem_of_getElem? (i := 51) rfl))) (mvT hZ5 (hw _ (List.mem_of_getElem? (i := 52) rfl))) (notFace_of_selects (args := #[]) (mvT hZ5 (hw _ (List.mem_of_getElem? (i := 54) rfl)))) (mvT hZ5 (hw _ (List.mem_of_getElem? (i := 54) rfl))) (mvT hZ5 (hw _ (List.mem_of_getElem? (i := 53) rfl))) (by decide) (backOf (W := 0) (rm9 l Z a0 hw [] f (1 : Int32) h5 n0 O7 F9) hZ5 (hw _ (List.mem_of_getElem? (i := 55) rfl)) (hw _ (List.mem_of_getElem? (i := 9) rfl)) (by decide) (by decide)) q8a q8c (g := (mkF m 19 #[.val (.ref a), .val (.ref f), .val (.ref r)] [(.ref f)])) rfl (by rw [hml]; rfl) (Steps.refl _) (argsL := []) (rest := []) (lenOf pd___Z rfl) rfl (by show 2 * 0 + _ ≤ _; exact Nat.le_of_eq rfl) (hb hby d6_19) (fun _ _ => ⟨rfl, eq6, (by decide : 4 + 0 ≤ _), (by decide : 128 + 0 ≤ _)⟩)
  dsimp only [Pt.U, Pt.locs, Pt.cells, Pt.slots] at X8 l8 y8 z8 st8 hQ8
  subst l8 y8 z8
  obtain ⟨rfl, N8q, eq8⟩ := hQ8
  have N8 := Fr.app N6 N8q
  refine own_t st8 ?_
  show Go p.tables e below _ (T8.setTop (mkF m 22 #[.val (.ref a), .val (.ref f), .val (.ref r)] [(.int (1 : Int32))]))
  refine own_s (fun t k => XS.ifNo X8.here hx rfl (hb hby d6_22) rfl ((if0 _ _).trans (feq (by decide : ¬ ((1 : Int32) = (0 : Int32)))).1) k) ?_
  show Go p.tables e below _ (T8.setTop (mkF m 25 #[.val (.ref a), .val (.ref f), .val (.ref r)] []))
  refine own_s (fun t k => XS.aloadN X8.here hx rfl (hb hby d6_25) rfl rfl k) ?_
  show Go p.tables e below _ (T8.setTop (mkF m 26 #[.val (.ref a), .val (.ref f), .val (.ref r)] [(.ref f)]))
  have F12 : Fld Z h5 f "java/util/OptionalLong" "value" "J" (.long q) := ((F2.ext E2).ext E5)
  obtain ⟨cq11, kq11, q11a, q11b, q11c⟩ := isOf hZ5 eq8 Q10
  obtain ⟨_, _, ⟨T11, L11, k11, n11⟩, -, X11, ⟨Lc11, hQ11, l11, y11, z11⟩, st11⟩ := X8.virtualBack hx (y := (⟨"java/util/OptionalLong", "getAsLong", "()J"⟩ : MethodName)) (z := (⟨"java/util/OptionalLong", "getAsLong", "()J"⟩ : MethodName)) hown5 (mvT hZ5 (hw _ (List.mem_of_getElem? (i := 56) rfl))) (mvT hZ5 (hw _ (List.mem_of_getElem? (i := 57) rfl))) (notFace_of_selects (args := #[]) (mvT hZ5 (hw _ (List.mem_of_getElem? (i := 59) rfl)))) (mvT hZ5 (hw _ (List.mem_of_getElem? (i := 59) rfl))) (mvT hZ5 (hw _ (List.mem_of_getElem? (i := 58) rfl))) (by decide) (backOf (W := 0) (rm10 l Z a0 hw [] f (1 : Int32) q h5 n0 O7 F9 (by decide) F12) hZ5 (hw _ (List.mem_of_getElem? (i := 60) rfl)) (hw _ (List.mem_of_getElem? (i := 9) rfl)) (by decide) (by decide)) q11a q11c (g := (mkF m 26 #[.val (.ref a), .val (.ref f), .val (.ref r)] [(.ref f)])) rfl (by rw [hml]; rfl) (Steps.refl _) (argsL := []) (rest := []) (lenOf pd___J rfl) rfl (by show 2 * 0 + _ ≤ _; exact Nat.le_of_eq rfl) (hb hby d6_26) (fun _ _ => ⟨rfl, eq8, (by decide : 4 + 0 ≤ _), (by decide : 128 + 0 ≤ _)⟩)
  dsimp only [Pt.U, Pt.locs, Pt.cells, Pt.slots] at X11 l11 y11 z11 st11 hQ11
  subst l11 y11 z11
  obtain ⟨rfl, N11q, eq11⟩ := hQ11
  have N11 := Fr.app N8 N11q
  refine own_t st11 ?_
  show Go p.tables e below _ (T11.setTop (mkF m 29 #[.val (.ref a), .val (.ref f), .val (.ref r)] [(.long q)]))
  refine own_s (fun t k => XS.lconst X11.here hx rfl (hb hby d6_29) k) ?_
  show Go p.tables e below _ (T11.setTop (mkF m 30 #[.val (.ref a), .val (.ref f), .val (.ref r)] [(.long (1 : Int64)), (.long q)]))
  refine own_s (fun t k => XS.lcmp X11.here hx rfl (hb hby d6_30) rfl k) ?_
  show Go p.tables e below _ (T11.setTop (mkF m 31 #[.val (.ref a), .val (.ref f), .val (.ref r)] [(.int (lcmpW q (1 : Int64)))]))
  refine own_s (fun t k => XS.ifYes X11.here hx rfl (pc0 := 31) (pc' := 51) rfl (hb hby d6_31) rfl ((if0 _ _).trans (flt (fun z => hq ((lw_lt _ _).mp z))).2.1) (by decide) (by decide) k) ?_
  show Go p.tables e below _ (T11.setTop (mkF m 51 #[.val (.ref a), .val (.ref f), .val (.ref r)] []))
  refine own_s (fun t k => XS.aloadN X11.here hx rfl (hb hby d6_51) rfl rfl k) ?_
  show Go p.tables e below _ (T11.setTop (mkF m 52 #[.val (.ref a), .val (.ref f), .val (.ref r)] [(.ref r)]))
  have F14 : Fld Z h5 r "java/util/Optional" "value" "Ljava/lang/Object;" .null := ((F3.ext E2).ext E5)
  have Q15 : Exa Z h5 r "java/util/Optional" := ((E_r.ext E2).ext E5)
  obtain ⟨cq13, kq13, q13a, q13b, q13c⟩ := isOf hZ5 eq11 Q15
  obtain ⟨_, _, ⟨T13, L13, k13, n13⟩, -, X13, ⟨Lc13, hQ13, l13, y13, z13⟩, st13⟩ := X11.virtualBack hx (y := (⟨"java/util/Optional", "isPresent", "()Z"⟩ : MethodName)) (z := (⟨"java/util/Optional", "isPresent", "()Z"⟩ : MethodName)) hown5 (mvT hZ5 (hw _ (List.mem_of_getElem? (i := 61) rfl))) (mvT hZ5 (hw _ (List.mem_of_getElem? (i := 62) rfl))) (notFace_of_selects (args := #[]) (mvT hZ5 (hw _ (List.mem_of_getElem? (i := 64) rfl)))) (mvT hZ5 (hw _ (List.mem_of_getElem? (i := 64) rfl))) (mvT hZ5 (hw _ (List.mem_of_getElem? (i := 63) rfl))) (by decide) (backOf (W := 0) (rm11 l Z a0 hw [] r h5 n0 O7 F14) hZ5 (hw _ (List.mem_of_getElem? (i := 65) rfl)) (hw _ (List.mem_of_getElem? (i := 26) rfl)) (by decide) (by decide)) q13a q13c (g := (mkF m 52 #[.val (.ref a), .val (.ref f), .val (.ref r)] [(.ref r)])) rfl (by rw [hml]; rfl) (Steps.refl _) (argsL := []) (rest := []) (lenOf pd___Z rfl) rfl (by show 2 * 0 + _ ≤ _; exact Nat.le_of_eq rfl) (hb hby d6_52) (fun _ _ => ⟨rfl, eq11, (by decide : 4 + 0 ≤ _), (by decide : 128 + 0 ≤ _)⟩)
  dsimp only [Pt.U, Pt.locs, Pt.cells, Pt.slots] at X13 l13 y13 z13 st13 hQ13
  subst l13 y13 z13
  obtain ⟨rfl, N13q, eq13⟩ := hQ13
  have N13 := Fr.app N11 N13q
  refine own_t st13 ?_
  show Go p.tables e below _ (T13.setTop (mkF m 55 #[.val (.ref a), .val (.ref f), .val (.ref r)] [(.int (0 : Int32))]))
  refine own_s (fun t k => XS.ifYes X13.here hx rfl (pc0 := 55) (pc' := 91) rfl (hb hby d6_55) rfl ((if0 _ _).trans (teq (rfl : (0 : Int32) = (0 : Int32))).1) (by decide) (by decide) k) ?_
  show Go p.tables e below _ (T13.setTop (mkF m 91 #[.val (.ref a), .val (.ref f), .val (.ref r)] []))
  refine own_s (fun t k => XS.aloadN X13.here hx rfl (hb hby d6_91) rfl rfl k) ?_
  show Go p.tables e below _ (T13.setTop (mkF m 92 #[.val (.ref a), .val (.ref f), .val (.ref r)] [(.ref f)]))
  obtain ⟨cq16, kq16, q16a, q16b, q16c⟩ := isOf hZ5 eq13 Q10
  obtain ⟨_, _, ⟨T16, L16, k16, n16⟩, -, X16, ⟨Lc16, hQ16, l16, y16, z16⟩, st16⟩ := X13.virtualBack hx (y := (⟨"java/util/OptionalLong", "isPresent", "()Z"⟩ : MethodName)) (z := (⟨"java/util/OptionalLong", "isPresent", "()Z"⟩ : MethodName)) hown5 (mvT hZ5 (hw _ (List.mem_of_getElem? (i := 51) rfl))) (mvT hZ5 (hw _ (List.mem_of_getElem? (i := 52) rfl))) (notFace_of_selects (args := #[]) (mvT hZ5 (hw _ (List.mem_of_getElem? (i := 54) rfl)))) (mvT hZ5 (hw _ (List.mem_of_getElem? (i := 54) rfl))) (mvT hZ5 (hw _ (List.mem_of_getElem? (i := 53) rfl))) (by decide) (backOf (W := 0) (rm9 l Z a0 hw [] f (1 : Int32) h5 n0 O7 F9) hZ5 (hw _ (List.mem_of_getElem? (i := 55) rfl)) (hw _ (List.mem_of_getElem? (i := 9) rfl)) (by decide) (by decide)) q16a q16c (g := (mkF m 92 #[.val (.ref a), .val (.ref f), .val (.ref r)] [(.ref f)])) rfl (by rw [hml]; rfl) (Steps.refl _) (argsL := []) (rest := []) (lenOf pd___Z rfl) rfl (by show 2 * 0 + _ ≤ _; exact Nat.le_of_eq rfl) (hb hby d6_92) (fun _ _ => ⟨rfl, eq13, (by decide : 4 + 0 ≤ _), (by decide : 128 + 0 ≤ _)⟩)
  dsimp only [Pt.U, Pt.locs, Pt.cells, Pt.slots] at X16 l16 y16 z16 st16 hQ16
  subst l16 y16 z16
  obtain ⟨rfl, N16q, eq16⟩ := hQ16
  have N16 := Fr.app N13 N16q
  refine own_t st16 ?_
  show Go p.tables e below _ (T16.setTop (mkF m 95 #[.val (.ref a), .val (.ref f), .val (.ref r)] [(.int (1 : Int32))]))
  refine own_s (fun t k => XS.ifNo X16.here hx rfl (hb hby d6_95) rfl ((if0 _ _).trans (feq (by decide : ¬ ((1 : Int32) = (0 : Int32)))).1) k) ?_
  show Go p.tables e below _ (T16.setTop (mkF m 98 #[.val (.ref a), .val (.ref f), .val (.ref r)] []))
  refine own_s (fun t k => XS.aloadN X16.here hx rfl (hb hby d6_98) rfl rfl k) ?_
  show Go p.tables e below _ (T16.setTop (mkF m 99 #[.val (.ref a), .val (.ref f), .val (.ref r)] [(.ref r)]))
  obtain ⟨cq17, kq17, q17a, q17b, q17c⟩ := isOf hZ5 eq16 Q15
  obtain ⟨_, _, ⟨T17, L17, k17, n17⟩, -, X17, ⟨Lc17, hQ17, l17, y17, z17⟩, st17⟩ := X16.virtualBack hx (y := (⟨"java/util/Optional", "isPresent", "()Z"⟩ : MethodName)) (z := (⟨"java/util/Optional", "isPresent", "()Z"⟩ : MethodName)) hown5 (mvT hZ5 (hw _ (List.mem_of_getElem? (i := 61) rfl))) (mvT hZ5 (hw _ (List.mem_of_getElem? (i := 62) rfl))) (notFace_of_selects (args := #[]) (mvT hZ5 (hw _ (List.mem_of_getElem? (i := 64) rfl)))) (mvT hZ5 (hw _ (List.mem_of_getElem? (i := 64) rfl))) (mvT hZ5 (hw _ (List.mem_of_getElem? (i := 63) rfl))) (by decide) (backOf (W := 0) (rm11 l Z a0 hw [] r h5 n0 O7 F14) hZ5 (hw _ (List.mem_of_getElem? (i := 65) rfl)) (hw _ (List.mem_of_getElem? (i := 26) rfl)) (by decide) (by decide)) q17a q17c (g := (mkF m 99 #[.val (.ref a), .val (.ref f), .val (.ref r)] [(.ref r)])) rfl (by rw [hml]; rfl) (Steps.refl _) (argsL := []) (rest := []) (lenOf pd___Z rfl) rfl (by show 2 * 0 + _ ≤ _; exact Nat.le_of_eq rfl) (hb hby d6_99) (fun _ _ => ⟨rfl, eq16, (by decide : 4 + 0 ≤ _), (by decide : 128 + 0 ≤ _)⟩)
  dsimp only [Pt.U, Pt.locs, Pt.cells, Pt.slots] at X17 l17 y17 z17 st17 hQ17
  subst l17 y17 z17
  obtain ⟨rfl, N17q, eq17⟩ := hQ17
  have N17 := Fr.app N16 N17q
  refine own_t st17 ?_
  show Go p.tables e below _ (T17.setTop (mkF m 102 #[.val (.ref a), .val (.ref f), .val (.ref r)] [(.int (0 : Int32))]))
  refine own_s (fun t k => XS.ifYes X17.here hx rfl (pc0 := 102) (pc' := 115) rfl (hb hby d6_102) rfl ((if0 _ _).trans (teq (rfl : (0 : Int32) = (0 : Int32))).1) (by decide) (by decide) k) ?_
  show Go p.tables e below _ (T17.setTop (mkF m 115 #[.val (.ref a), .val (.ref f), .val (.ref r)] []))
  refine own_s (fun t k => XS.aloadN X17.here hx rfl (hb hby d6_115) rfl rfl k) ?_
  show Go p.tables e below _ (T17.setTop (mkF m 116 #[.val (.ref a), .val (.ref f), .val (.ref r)] [(.ref a)]))
  refine own_s (fun t k => XS.aloadN X17.here hx rfl (hb hby d6_116) rfl rfl k) ?_
  show Go p.tables e below _ (T17.setTop (mkF m 117 #[.val (.ref a), .val (.ref f), .val (.ref r)] [(.ref f), (.ref a)]))
  have Q18 : Exa Z h5 a "com/example/lock_by_lease/lockbylease/GrantResult" := ((E_a.ext E2).ext E5)
  have F19 : Fld Z h5 a "com/example/lock_by_lease/lockbylease/GrantResult" "fence" "Ljava/util/OptionalLong;" u_fence_a := ((F_fence_a.ext E2).ext E5)
  obtain ⟨T20, h20, X20, e20, W20, st20⟩ := putF X17 hx hZ5 hown5 (host := "") (Or.inl (hw _ (List.mem_of_getElem? (i := 68) rfl))) Via.refl eq17 F19 Q18 (Or.inr ⟨(hw _ (List.mem_of_getElem? (i := 69) rfl)), rfl, hnm⟩) (hw _ (List.mem_of_getElem? (i := 6) rfl)) (ty := (.object "java/util/OptionalLong")) (by decide) rfl rfl (g := (mkF m 117 #[.val (.ref a), .val (.ref f), .val (.ref r)] [(.ref f), (.ref a)])) rfl rfl (hb hby d6_117)
  refine own_s st20 ?_
  have K20 : Keep h0 h20 [a] := K5.wr W20 (Or.inl (List.mem_of_getElem? (i := 0) rfl))
  have N20 := Fr.snoc X20 N17 g_a
  have Fw20 := F19.same W20
  show Go p.tables e below _ (T20.setTop (mkF m 120 #[.val (.ref a), .val (.ref f), .val (.ref r)] []))
  refine own_s (fun t k => XS.aloadN X20.here hx rfl (hb hby d6_120) rfl rfl k) ?_
  show Go p.tables e below _ (T20.setTop (mkF m 121 #[.val (.ref a), .val (.ref f), .val (.ref r)] [(.ref a)]))
  refine own_s (fun t k => XS.aloadN X20.here hx rfl (hb hby d6_121) rfl rfl k) ?_
  show Go p.tables e below _ (T20.setTop (mkF m 122 #[.val (.ref a), .val (.ref f), .val (.ref r)] [(.ref r), (.ref a)]))
  have Q21 : Exa Z h20 a "com/example/lock_by_lease/lockbylease/GrantResult" := (Q18.wr W20)
  have F22 : Fld Z h20 a "com/example/lock_by_lease/lockbylease/GrantResult" "remaining" "Ljava/util/Optional;" u_remaining_a := (((F_remaining_a.ext E2).ext E5).other W20 (Or.inr (slot_ne (Or.inr (hw _ (List.mem_of_getElem? (i := 71) rfl))) (Or.inr (hw _ (List.mem_of_getElem? (i := 69) rfl))) (by decide) (t := (.object "java/util/Optional")) (t' := (.object "java/util/OptionalLong")) (by decide) (by decide))))
  obtain ⟨T23, h23, X23, e23, W23, st23⟩ := putF X20 hx hZ5 hown5 (host := "") (Or.inl (hw _ (List.mem_of_getElem? (i := 70) rfl))) Via.refl e20 F22 Q21 (Or.inr ⟨(hw _ (List.mem_of_getElem? (i := 71) rfl)), rfl, hnm⟩) (hw _ (List.mem_of_getElem? (i := 6) rfl)) (ty := (.object "java/util/Optional")) (by decide) rfl rfl (g := (mkF m 122 #[.val (.ref a), .val (.ref f), .val (.ref r)] [(.ref r), (.ref a)])) rfl rfl (hb hby d6_122)
  refine own_s st23 ?_
  have K23 : Keep h0 h23 [a] := K20.wr W23 (Or.inl (List.mem_of_getElem? (i := 0) rfl))
  have N23 := Fr.snoc X23 N20 g_a
  have Fw23 := F22.same W23
  show Go p.tables e below _ (T23.setTop (mkF m 125 #[.val (.ref a), .val (.ref f), .val (.ref r)] []))
  obtain ⟨fs, hr, hrun, hended, hEnd⟩ := X23.leaveW hS5 (show _ ≤ T23.heap.size from (by rw [e23]; exact (Nat.le_trans (Nat.le_trans hk5 (Keep.of_wr W20).1) (Keep.of_wr W23).1))) (v := none) (fun h => by first | rfl | (rw [Bd.returns] at h; cases h))
  have Q24 : Exa Z h23 a "com/example/lock_by_lease/lockbylease/GrantResult" := (Q21.wr W23)
  have F25 : Fld Z h23 a "com/example/lock_by_lease/lockbylease/GrantResult" "fence" "Ljava/util/OptionalLong;" (.ref f) := (Fw20.other W23 (Or.inr (slot_ne (Or.inr (hw _ (List.mem_of_getElem? (i := 69) rfl))) (Or.inr (hw _ (List.mem_of_getElem? (i := 71) rfl))) (by decide) (t := (.object "java/util/OptionalLong")) (t' := (.object "java/util/Optional")) (by decide) (by decide))))
  refine own_e ?_ hrun hended ⟨_, _, rfl, ?_, hEnd.1, hEnd.2.1, hEnd.2.2.1, hEnd.2.2.2.mono (by decide) (by decide)⟩
  · exact X23.returnOut hx Bd.returns (hb hby d6_125) hr
  · show Q_rm6 Z q a f r u_fence_a u_remaining_a h0 n0 _ T23.heap _
    rw [e23]
    exact ⟨rfl, N23, K23, Q24, F25, Fw23⟩
theorem d1_0 : decode prog_3_method_2_code 0 = .ok (.new 60, 3) := by decide +kernel
theorem d1_3 : decode prog_3_method_2_code 3 = .ok (.dup, 1) := by decide +kernel
theorem d1_4 : decode prog_3_method_2_code 4 = .ok (.lload_n 0, 1) := by decide +kernel
theorem d1_5 : decode prog_3_method_2_code 5 = .ok (.invokestatic 69, 3) := by decide +kernel
theorem pd__J_Ljava_util_OptionalLong_ : parseMethodDescriptor "(J)Ljava/util/OptionalLong;" = some ⟨[.long], some (.object "java/util/OptionalLong")⟩ := by decide +kernel
theorem d1_8 : decode prog_3_method_2_code 8 = .ok (.invokestatic 73, 3) := by decide +kernel
theorem pd___Ljava_util_Optional_ : parseMethodDescriptor "()Ljava/util/Optional;" = some ⟨[], some (.object "java/util/Optional")⟩ := by decide +kernel
theorem d1_11 : decode prog_3_method_2_code 11 = .ok (.invokespecial 77, 3) := by decide +kernel
theorem pd__Ljava_util_OptionalLong_Ljava_util_Optional__V : parseMethodDescriptor "(Ljava/util/OptionalLong;Ljava/util/Optional;)V" = some ⟨[(.object "java/util/OptionalLong"), (.object "java/util/Optional")], none⟩ := by decide +kernel
theorem d1_14 : decode prog_3_method_2_code 14 = .ok (.areturn, 1) := by decide +kernel
theorem ef_rm1 (m : MethodId) (q : Int64) : entryFrame m #[(.long q)] 2 = mkF m 0 #[.val (.long q), .second] [] := by first | (simp [entryFrame, mkF, argsToLocals, Value.category]; done) | rfl
def Q_rm1 (Z : State) (uE : Addr) (q : Int64) (h0 : Heap) (n0 : Nat) (v : Option Value) (h : Heap) (L : List Loc) : Prop := ∃ b1 : Addr, ∃ b1_2 : Addr, v = some (.ref b1) ∧ Fr n0 L ∧ Keep h0 h [] ∧ h0.size ≤ b1 ∧ h0.size ≤ b1_2 ∧ Exa Z h b1 "com/example/lock_by_lease/lockbylease/GrantResult" ∧ Fld Z h b1 "com/example/lock_by_lease/lockbylease/GrantResult" "fence" "Ljava/util/OptionalLong;" (.ref b1_2) ∧ Fld Z h b1 "com/example/lock_by_lease/lockbylease/GrantResult" "remaining" "Ljava/util/Optional;" (.ref uE) ∧ Exa Z h b1_2 "java/util/OptionalLong" ∧ Fld Z h b1_2 "java/util/OptionalLong" "isPresent" "Z" (.int (1 : Int32)) ∧ Fld Z h b1_2 "java/util/OptionalLong" "value" "J" (.long q)
set_option maxRecDepth 65536 in
set_option maxHeartbeats 40000000 in
theorem rm1 (l : Launch) (Z : State) (a0 : Array Value) (hw : ∀ d ∈ tables_1, d.before a0 Z = true) (ws : List Jvm.Cond) (uE : Addr) (q : Int64) (h0 : Heap) (n0 : Nat) (O0 : Old Z n0 h0) (S_EMPTY : Sta Z Z.heap "java/util/Optional" "EMPTY" "Ljava/util/Optional;" (.ref uE)) (OE_uE : Exa Z Z.heap uE "java/util/Optional") (OF_uE : Fld Z Z.heap uE "java/util/Optional" "value" "Ljava/lang/Object;" .null) (hq : ¬ (q < (1 : Int64))) :
    MetFree l (⟨"com/example/lock_by_lease/lockbylease/GrantResult", "granted", "(J)Lcom/example/lock_by_lease/lockbylease/GrantResult;"⟩ : MethodName) (head1 (Jvm.Cond.code (⟨"com/example/lock_by_lease/lockbylease/GrantResult", "granted", "(J)Lcom/example/lock_by_lease/lockbylease/GrantResult;"⟩ : MethodName) prog_3_method_2_code 2 (some (.object "com/example/lock_by_lease/lockbylease/GrantResult")) :: ws) ({ frames := 3, cells := 6, slots := 132, locals := 42 } : Room)) (fun aa_ U => aa_ = #[(.long q)] ∧ Z.Warmed39 U.vm ∧ U.heap = h0) (fun _ _ _ _ _ => True) (fun _ U o U' => ∃ v L, o = .returned v ∧ Q_rm1 Z uE q h0 n0 v U'.heap L ∧ ReturnedEndW U o U' L ({ frames := 3, cells := 6, slots := 132, locals := 42 } : Room).cells ({ frames := 3, cells := 6, slots := 132, locals := 42 } : Room).slots) := by
  refine MetFree.of_bodySF (plainFor_of_name pn_com_example_lock_by_lease_lockbylease_GrantResult) hisR ?_
  intro p e s m args below meth c s₁ Bd hml0 hP hK
  obtain ⟨rfl, hZ, hh⟩ := hP
  have hx := Bd.exec
  have hby := Bd.bytes
  have hml : c.maxLocals = 2 := hml0
  have hown : s.vm.findClass "com/example/lock_by_lease/lockbylease/GrantResult" = some m.cls := findClass_of_methodNamed Bd.named
  have hnm := (name_of_methodNamed Bd.named Bd.method).1
  have X0 : Stand p l e ({ frames := 3, cells := 6, slots := 132, locals := 42 } : Room) (s.setVm s.vm) m #[(.long q)] below meth c s₁ [] 0 0 := Stand.of_body Bd
  have e0 : s₁.heap = h0 := by rw [← hh, Bd.state]; rfl
  have N0 := Fr.nil n0
  have K0 : Keep h0 h0 [] := Keep.refl h0 _
  have hS0 : s.Since s.vm 0 := (State.WarmedH.refl s).since 0
  refine own_i (own_s (fun t k => castTop (ef_rm1 m q) k) ?_)
  show Go p.tables e below _ (s₁.setTop (mkF m 0 #[.val (.long q), .second] []))
  obtain ⟨T1, h1, X1, e1, E1, A1, D1, -, st1⟩ := newO X0 hx hZ hown (hw _ (List.mem_of_getElem? (i := 5) rfl)) (hw _ (List.mem_of_getElem? (i := 6) rfl)) (hw _ (List.mem_of_getElem? (i := 3) rfl)) e0 (g := (mkF m 0 #[.val (.long q), .second] [])) rfl (hb hby d1_0) (by decide) (by decide)
  obtain ⟨b1, gg1⟩ : ∃ z, z = h0.size := ⟨_, rfl⟩
  rw [← gg1] at A1 D1 st1
  have g_b1 : n0 ≤ b1 := Nat.le_trans (Nat.le_of_eq O0.1.symm) (Nat.le_trans O0.2.1 (Nat.le_of_eq gg1.symm))
  have sz_b1 : h0.size ≤ b1 := Nat.le_trans K0.1 (Nat.le_of_eq gg1.symm)
  have K1 : Keep h0 h1 [] := K0.ext E1
  have F_fence_b1 : Fld Z h1 b1 "com/example/lock_by_lease/lockbylease/GrantResult" "fence" "Ljava/util/OptionalLong;" .null := D1 (Or.inr (hw _ (List.mem_of_getElem? (i := 69) rfl))) (ty := (.object "java/util/OptionalLong")) (by decide)
  have F_remaining_b1 : Fld Z h1 b1 "com/example/lock_by_lease/lockbylease/GrantResult" "remaining" "Ljava/util/Optional;" .null := D1 (Or.inr (hw _ (List.mem_of_getElem? (i := 71) rfl))) (ty := (.object "java/util/Optional")) (by decide)
  refine own_s st1 ?_
  show Go p.tables e below _ (T1.setTop (mkF m 3 #[.val (.long q), .second] [(.ref b1)]))
  refine own_s (fun t k => XS.dup X1.here hx rfl (hb hby d1_3) rfl rfl k) ?_
  show Go p.tables e below _ (T1.setTop (mkF m 4 #[.val (.long q), .second] [(.ref b1), (.ref b1)]))
  refine own_s (fun t k => XS.lloadN X1.here hx rfl (hb hby d1_4) rfl k) ?_
  show Go p.tables e below _ (T1.setTop (mkF m 5 #[.val (.long q), .second] [(.long q), (.ref b1), (.ref b1)]))
  have O3 : Old Z n0 h1 := (O0.ext E1)
  obtain ⟨_, _, ⟨T2, L2, k2, n2⟩, -, X2, ⟨Lc2, hQ2, l2, y2, z2⟩, st2⟩ := Jvm.LawKit.callS X1 hx (y := (⟨"java/util/OptionalLong", "of", "(J)Ljava/util/OptionalLong;"⟩ : MethodName)) hown (mvT hZ (hw _ (List.mem_of_getElem? (i := 7) rfl))) (mvT hZ (hw _ (List.mem_of_getElem? (i := 8) rfl))) (mvT hZ (hw _ (List.mem_of_getElem? (i := 9) rfl))) (mvT hZ (hw _ (List.mem_of_getElem? (i := 10) rfl))) (by decide) (backOf (W := 2) (rm2 l Z a0 hw [] q h1 n0 O3 ) hZ (hw _ (List.mem_of_getElem? (i := 10) rfl)) (hw _ (List.mem_of_getElem? (i := 9) rfl)) (by decide) (by decide)) (g := (mkF m 5 #[.val (.long q), .second] [(.long q), (.ref b1), (.ref b1)])) rfl (by rw [hml]; rfl) (argsL := [(.long q)]) (rest := [(.ref b1), (.ref b1)]) (lenOf pd__J_Ljava_util_OptionalLong_ rfl) rfl (by show 2 * 0 + _ ≤ _; exact Nat.le_of_eq rfl) (hb hby d1_5) (fun _ _ => ⟨rfl, e1, (by decide : 1 + 1 ≤ _), (by decide : 2 + 2 ≤ _)⟩)
  dsimp only [Pt.U, Pt.locs, Pt.cells, Pt.slots] at X2 l2 y2 z2 st2 hQ2
  subst l2 y2 z2
  obtain ⟨b1_2, rfl, N2q, Kc2, bz_b1_2, fc2_0, fc2_1, fc2_2⟩ := hQ2
  have g_b1_2 : n0 ≤ b1_2 := Nat.le_trans (Nat.le_of_eq O3.1.symm) (Nat.le_trans O3.2.1 bz_b1_2)
  have sz_b1_2 : h0.size ≤ b1_2 := Nat.le_trans K1.1 bz_b1_2
  have K2 : Keep h0 T2.heap [] := K1.trans Kc2 all0
  have N2 := Fr.app N0 N2q
  refine own_s st2 ?_
  show Go p.tables e below _ (T2.setTop (mkF m 8 #[.val (.long q), .second] [(.ref b1_2), (.ref b1), (.ref b1)]))
  have O5 : Old Z n0 T2.heap := (O3.keep Kc2 all0)
  obtain ⟨_, _, ⟨T4, L4, k4, n4⟩, -, X4, ⟨Lc4, hQ4, l4, y4, z4⟩, st4⟩ := Jvm.LawKit.callS X2 hx (y := (⟨"java/util/Optional", "empty", "()Ljava/util/Optional;"⟩ : MethodName)) hown (mvT hZ (hw _ (List.mem_of_getElem? (i := 24) rfl))) (mvT hZ (hw _ (List.mem_of_getElem? (i := 25) rfl))) (mvT hZ (hw _ (List.mem_of_getElem? (i := 26) rfl))) (mvT hZ (hw _ (List.mem_of_getElem? (i := 27) rfl))) (by decide) (backOf (W := 3) (rm5 l Z a0 hw [] uE T2.heap n0 O5 S_EMPTY) hZ (hw _ (List.mem_of_getElem? (i := 27) rfl)) (hw _ (List.mem_of_getElem? (i := 26) rfl)) (by decide) (by decide)) (g := (mkF m 8 #[.val (.long q), .second] [(.ref b1_2), (.ref b1), (.ref b1)])) rfl (by rw [hml]; rfl) (argsL := []) (rest := [(.ref b1_2), (.ref b1), (.ref b1)]) (lenOf pd___Ljava_util_Optional_ rfl) rfl (by show 2 * 0 + _ ≤ _; exact Nat.le_of_eq rfl) (hb hby d1_8) (fun _ _ => ⟨rfl, rfl, (by decide : 2 + 0 ≤ _), (by decide : 4 + 0 ≤ _)⟩)
  dsimp only [Pt.U, Pt.locs, Pt.cells, Pt.slots] at X4 l4 y4 z4 st4 hQ4
  subst l4 y4 z4
  obtain ⟨rfl, N4q, eq4⟩ := hQ4
  have N4 := Fr.app N2 N4q
  refine own_s st4 ?_
  show Go p.tables e below _ (T4.setTop (mkF m 11 #[.val (.long q), .second] [(.ref uE), (.ref b1_2), (.ref b1), (.ref b1)]))
  have Q7 : Exa Z T2.heap b1 "com/example/lock_by_lease/lockbylease/GrantResult" := (A1.keep Kc2)
  have F8 : Fld Z T2.heap b1 "com/example/lock_by_lease/lockbylease/GrantResult" "fence" "Ljava/util/OptionalLong;" .null := (F_fence_b1.keep Kc2 nin0)
  have F9 : Fld Z T2.heap b1 "com/example/lock_by_lease/lockbylease/GrantResult" "remaining" "Ljava/util/Optional;" .null := (F_remaining_b1.keep Kc2 nin0)
  obtain ⟨_, _, ⟨T6, L6, k6, n6⟩, -, Xr6, hSr6, gr6, ⟨Lc6, hQ6, l6, y6, z6⟩, st6⟩ := X4.specialBackS hx (y := (⟨"com/example/lock_by_lease/lockbylease/GrantResult", "<init>", "(Ljava/util/OptionalLong;Ljava/util/Optional;)V"⟩ : MethodName)) rfl hown (mvT hZ (hw _ (List.mem_of_getElem? (i := 29) rfl))) (mvT hZ (hw _ (List.mem_of_getElem? (i := 30) rfl))) (mvT hZ (hw _ (List.mem_of_getElem? (i := 31) rfl))) (by decide) (backOfS (W := 1) (rm6 l Z a0 hw [] q b1 b1_2 uE .null .null T2.heap n0 O5 fc2_1 fc2_2 (OF_uE.ext O5.2) fc2_0 (OE_uE.ext O5.2) Q7 hq F8 g_b1 F9) hZ (hw _ (List.mem_of_getElem? (i := 31) rfl)) (hw _ (List.mem_of_getElem? (i := 3) rfl)) (by decide) (by decide)) (g := (mkF m 11 #[.val (.long q), .second] [(.ref uE), (.ref b1_2), (.ref b1), (.ref b1)])) rfl (by rw [hml]; rfl) (Steps.refl _) (a := b1) (argsL := [(.ref b1_2), (.ref uE)]) (rest := [(.ref b1)]) (lenOf pd__Ljava_util_OptionalLong_Ljava_util_Optional__V rfl) rfl (by show 2 * 0 + _ ≤ _; exact Nat.le_of_eq rfl) (hb hby d1_11) (fun _ _ => ⟨rfl, eq4, (by decide : 2 + 4 ≤ _), (by decide : 4 + 128 ≤ _)⟩)
  dsimp only [Pt.U, Pt.locs, Pt.cells, Pt.slots] at Xr6 l6 y6 z6 st6 hQ6 hSr6 gr6
  subst l6 y6 z6
  obtain ⟨X6, hS6, hZ6, hown6⟩ := rebS hS0 (show _ ≤ T4.heap.size from (by rw [eq4]; exact (Nat.le_trans (Nat.le_trans (Nat.zero_le _) E1.1) Kc2.1))) Xr6 hSr6 gr6 hZ hown
  obtain ⟨rfl, N6q, Kc6, fc6_0, fc6_1, fc6_2⟩ := hQ6
  have K6 : Keep h0 T6.heap [] := K2.trans Kc6 (allS (Or.inr sz_b1) all0)
  have N6 := Fr.app N4 N6q
  refine own_t st6 ?_
  show Go p.tables e below _ (T6.setTop (mkF m 14 #[.val (.long q), .second] [(.ref b1)]))
  obtain ⟨fs, hr, hrun, hended, hEnd⟩ := X6.leaveW hS6 (show _ ≤ T6.heap.size from (Nat.le_refl _)) (v := (some (.ref b1))) (fun h => by first | rfl | (rw [Bd.returns] at h; cases h))
  have Q10 : Exa Z T6.heap b1_2 "java/util/OptionalLong" := (fc2_0.keep Kc6)
  have ne11 : b1 ≠ b1_2 := ne_exa fc6_0 Q10 (by decide)
  have F12 : Fld Z T6.heap b1_2 "java/util/OptionalLong" "isPresent" "Z" (.int (1 : Int32)) := (fc2_1.keep Kc6 (ninS (Ne.symm ne11) nin0))
  have F13 : Fld Z T6.heap b1_2 "java/util/OptionalLong" "value" "J" (.long q) := (fc2_2.keep Kc6 (ninS (Ne.symm ne11) nin0))
  refine own_e ?_ hrun hended ⟨_, _, rfl, ?_, hEnd.1, hEnd.2.1, hEnd.2.2.1, hEnd.2.2.2.mono (by decide) (by decide)⟩
  · exact retOut X6 hx Bd.returns rfl (Or.inr (Or.inr (Or.inr (Or.inr ⟨rfl, rfl, rfl⟩)))) (hb hby d1_14) hr
  · show Q_rm1 Z uE q h0 n0 _ T6.heap _
    exact ⟨b1, b1_2, rfl, N6, K6, sz_b1, sz_b1_2, fc6_0, fc6_1, fc6_2, Q10, F12, F13⟩
theorem own_pos (x : Int64) (h : ¬ (lcmpW (x &&& (9223372036854775807 : Int64)) (0 : Int64)) = (0 : Int32)) : ¬ ((x &&& (9223372036854775807 : Int64)) < (1 : Int64)) := by
  have h0 : ¬ (x &&& (9223372036854775807 : Int64)) = 0 := fun q => h ((lw_eq _ _).mpr q)
  have e := c_maskL x 9223372036854775807 63 (by decide) (by decide)
  rw [Int64.lt_iff_toInt_lt]
  intro h1
  have h2 : (x &&& (9223372036854775807 : Int64)).toInt < 1 := h1
  have h3 : 0 ≤ x.toInt % ((2 ^ 63 : Nat) : Int) := Int.emod_nonneg _ (by decide)
  exact h0 (Int64.toInt_inj.mp (by rw [e] at h2 ⊢; show _ = (0 : Int); omega))
theorem pd__J_Lcom_example_lock_by_lease_lockbylease_GrantResult_ : parseMethodDescriptor "(J)Lcom/example/lock_by_lease/lockbylease/GrantResult;" = some ⟨[.long], some (.object "com/example/lock_by_lease/lockbylease/GrantResult")⟩ := by decide +kernel
theorem pd___Ljava_util_OptionalLong_ : parseMethodDescriptor "()Ljava/util/OptionalLong;" = some ⟨[], some (.object "java/util/OptionalLong")⟩ := by decide +kernel
theorem pn_com_example_lock_by_lease_lockbylease_GrantResultGrantedPinLaw : plainName "com/example/lock_by_lease/lockbylease/GrantResultGrantedPinLaw" = true := by first | (simp [plainName, overriddenIn]; done) | decide +kernel
theorem ef_rm0 (m : MethodId) (x0 : Int64) : entryFrame m #[(.long x0)] maxLocals = mkF m 0 #[.val (.long x0), .second, .unset, .unset, .unset] [] := by first | (simp [entryFrame, mkF, argsToLocals, Value.category, maxLocals]; done) | rfl
def Q_rm0 (Z : State) (uE : Addr) (x0 : Int64) (h0 : Heap) (n0 : Nat) (v : Option Value) (h : Heap) (L : List Loc) : Prop := v = some (.int (1 : Int32)) ∧ Fr n0 L
set_option maxRecDepth 65536 in
set_option maxHeartbeats 40000000 in
theorem rm0 (l : Launch) (Z : State) (a0 : Array Value) (hw : ∀ d ∈ tables_1, d.before a0 Z = true) (ws : List Jvm.Cond) (uE : Addr) (x0 : Int64) (h0 : Heap) (n0 : Nat) (O0 : Old Z n0 h0) (S_EMPTY : Sta Z Z.heap "java/util/Optional" "EMPTY" "Ljava/util/Optional;" (.ref uE)) (OE_uE : Exa Z Z.heap uE "java/util/Optional") (OF_uE : Fld Z Z.heap uE "java/util/Optional" "value" "Ljava/lang/Object;" .null) :
    MetFree l x (head1 (Jvm.Cond.code x code maxLocals ret :: ws) room_1) (fun aa_ U => aa_ = #[(.long x0)] ∧ Z.Warmed39 U.vm ∧ U.heap = h0) (fun _ _ _ _ _ => True) (fun _ U o U' => ∃ v L, o = .returned v ∧ Q_rm0 Z uE x0 h0 n0 v U'.heap L ∧ ReturnedEndW U o U' L room_1.cells room_1.slots) := by
  refine MetFree.of_bodySF (plainFor_of_name pn_com_example_lock_by_lease_lockbylease_GrantResultGrantedPinLaw) hisR ?_
  intro p e s m args below meth c s₁ Bd hml0 hP hK
  obtain ⟨rfl, hZ, hh⟩ := hP
  have hx := Bd.exec
  have hby := Bd.bytes
  have hml : c.maxLocals = 5 := hml0
  have hown : s.vm.findClass "com/example/lock_by_lease/lockbylease/GrantResultGrantedPinLaw" = some m.cls := findClass_of_methodNamed Bd.named
  have hnm := (name_of_methodNamed Bd.named Bd.method).1
  have X0 : Stand p l e room_1 (s.setVm s.vm) m #[(.long x0)] below meth c s₁ [] 0 0 := Stand.of_body Bd
  have e0 : s₁.heap = h0 := by rw [← hh, Bd.state]; rfl
  have N0 := Fr.nil n0
  have K0 : Keep h0 h0 [] := Keep.refl h0 _
  have hS0 : s.Since s.vm 0 := (State.WarmedH.refl s).since 0
  refine own_i (own_s (fun t k => castTop (ef_rm0 m x0) k) ?_)
  show Go p.tables e below _ (s₁.setTop (mkF m 0 #[.val (.long x0), .second, .unset, .unset, .unset] []))
  refine own_s (fun t k => XS.lloadN X0.here hx rfl (hb hby at_0) rfl k) ?_
  show Go p.tables e below _ (s₁.setTop (mkF m 1 #[.val (.long x0), .second, .unset, .unset, .unset] [(.long x0)]))
  refine own_s (X0.ldc2Long hx hown (mvT hZ (hw _ (List.mem_of_getElem? (i := 0) rfl))) (g := (mkF m 1 #[.val (.long x0), .second, .unset, .unset, .unset] [(.long x0)])) rfl (hb hby at_1)) ?_
  show Go p.tables e below _ (s₁.setTop (mkF m 4 #[.val (.long x0), .second, .unset, .unset, .unset] [(.long (9223372036854775807 : Int64)), (.long x0)]))
  refine own_s (fun t k => XS.land X0.here hx rfl (hb hby at_4) rfl k) ?_
  show Go p.tables e below _ (s₁.setTop (mkF m 5 #[.val (.long x0), .second, .unset, .unset, .unset] [(.long (x0 &&& (9223372036854775807 : Int64)))]))
  refine own_s (fun t k => XS.lstoreN X0.here hx rfl (hb hby at_5) rfl (l' := #[.val (.long x0), .second, .val (.long (x0 &&& (9223372036854775807 : Int64))), .second, .unset]) rfl k) ?_
  show Go p.tables e below _ (s₁.setTop (mkF m 6 #[.val (.long x0), .second, .val (.long (x0 &&& (9223372036854775807 : Int64))), .second, .unset] []))
  refine own_s (fun t k => XS.lloadN X0.here hx rfl (hb hby at_6) rfl k) ?_
  show Go p.tables e below _ (s₁.setTop (mkF m 7 #[.val (.long x0), .second, .val (.long (x0 &&& (9223372036854775807 : Int64))), .second, .unset] [(.long (x0 &&& (9223372036854775807 : Int64)))]))
  refine own_s (fun t k => XS.lconst X0.here hx rfl (hb hby at_7) k) ?_
  show Go p.tables e below _ (s₁.setTop (mkF m 8 #[.val (.long x0), .second, .val (.long (x0 &&& (9223372036854775807 : Int64))), .second, .unset] [(.long (0 : Int64)), (.long (x0 &&& (9223372036854775807 : Int64)))]))
  refine own_s (fun t k => XS.lcmp X0.here hx rfl (hb hby at_8) rfl k) ?_
  show Go p.tables e below _ (s₁.setTop (mkF m 9 #[.val (.long x0), .second, .val (.long (x0 &&& (9223372036854775807 : Int64))), .second, .unset] [(.int (lcmpW (x0 &&& (9223372036854775807 : Int64)) (0 : Int64)))]))
  by_cases hc1 : (lcmpW (x0 &&& (9223372036854775807 : Int64)) (0 : Int64)) = (0 : Int32)
  ·
    refine own_s (fun t k => XS.ifNo X0.here hx rfl (hb hby at_9) rfl ((if0 _ _).trans (teq hc1).2) k) ?_
    show Go p.tables e below _ (s₁.setTop (mkF m 12 #[.val (.long x0), .second, .val (.long (x0 &&& (9223372036854775807 : Int64))), .second, .unset] []))
    refine own_s (fun t k => XS.lconst X0.here hx rfl (hb hby at_12) k) ?_
    show Go p.tables e below _ (s₁.setTop (mkF m 13 #[.val (.long x0), .second, .val (.long (x0 &&& (9223372036854775807 : Int64))), .second, .unset] [(.long (1 : Int64))]))
    refine own_s (fun t k => XS.lstoreN X0.here hx rfl (hb hby at_13) rfl (l' := #[.val (.long x0), .second, .val (.long (1 : Int64)), .second, .unset]) rfl k) ?_
    show Go p.tables e below _ (s₁.setTop (mkF m 14 #[.val (.long x0), .second, .val (.long (1 : Int64)), .second, .unset] []))
    refine own_s (fun t k => XS.lloadN X0.here hx rfl (hb hby at_14) rfl k) ?_
    show Go p.tables e below _ (s₁.setTop (mkF m 15 #[.val (.long x0), .second, .val (.long (1 : Int64)), .second, .unset] [(.long (1 : Int64))]))
    obtain ⟨_, _, ⟨T2, L2, k2, n2⟩, -, Xr2, hSr2, gr2, ⟨Lc2, hQ2, l2, y2, z2⟩, st2⟩ := callSS X0 hx (y := (⟨"com/example/lock_by_lease/lockbylease/GrantResult", "granted", "(J)Lcom/example/lock_by_lease/lockbylease/GrantResult;"⟩ : MethodName)) hown (mvT hZ (hw _ (List.mem_of_getElem? (i := 1) rfl))) (mvT hZ (hw _ (List.mem_of_getElem? (i := 2) rfl))) (mvT hZ (hw _ (List.mem_of_getElem? (i := 3) rfl))) (mvT hZ (hw _ (List.mem_of_getElem? (i := 4) rfl))) (by decide) (backOfS (W := 0) (rm1 l Z a0 hw [] uE (1 : Int64) h0 n0 O0 S_EMPTY OE_uE OF_uE (by decide)) hZ (hw _ (List.mem_of_getElem? (i := 4) rfl)) (hw _ (List.mem_of_getElem? (i := 3) rfl)) (by decide) (by decide)) (g := (mkF m 15 #[.val (.long x0), .second, .val (.long (1 : Int64)), .second, .unset] [(.long (1 : Int64))])) rfl (by rw [hml]; rfl) (argsL := [(.long (1 : Int64))]) (rest := []) (lenOf pd__J_Lcom_example_lock_by_lease_lockbylease_GrantResult_ rfl) rfl (by show 2 * 0 + _ ≤ _; exact Nat.le_of_eq rfl) (hb hby at_15) (fun _ _ => ⟨rfl, e0, (by decide : 0 + 6 ≤ _), (by decide : 0 + 132 ≤ _)⟩)
    dsimp only [Pt.U, Pt.locs, Pt.cells, Pt.slots] at Xr2 l2 y2 z2 st2 hQ2 hSr2 gr2
    subst l2 y2 z2
    obtain ⟨X2, hS2, hZ2, hown2⟩ := rebS hS0 (show _ ≤ s₁.heap.size from (by rw [e0]; exact (Nat.zero_le _))) Xr2 hSr2 gr2 hZ hown
    obtain ⟨b1_2, b1_2_2, rfl, N2q, Kc2, bz_b1_2, bz_b1_2_2, fc2_0, fc2_1, fc2_2, fc2_3, fc2_4, fc2_5⟩ := hQ2
    have g_b1_2 : n0 ≤ b1_2 := Nat.le_trans (Nat.le_of_eq O0.1.symm) (Nat.le_trans O0.2.1 bz_b1_2)
    have sz_b1_2 : h0.size ≤ b1_2 := Nat.le_trans K0.1 bz_b1_2
    have g_b1_2_2 : n0 ≤ b1_2_2 := Nat.le_trans (Nat.le_of_eq O0.1.symm) (Nat.le_trans O0.2.1 bz_b1_2_2)
    have sz_b1_2_2 : h0.size ≤ b1_2_2 := Nat.le_trans K0.1 bz_b1_2_2
    have K2 : Keep h0 T2.heap [] := K0.trans Kc2 all0
    have N2 := Fr.app N0 N2q
    refine own_t st2 ?_
    show Go p.tables e below _ (T2.setTop (mkF m 18 #[.val (.long x0), .second, .val (.long (1 : Int64)), .second, .unset] [(.ref b1_2)]))
    refine own_s (fun t k => XS.astore X2.here hx rfl (hb hby at_18) rfl rfl (l' := #[.val (.long x0), .second, .val (.long (1 : Int64)), .second, .val (.ref b1_2)]) rfl k) ?_
    show Go p.tables e below _ (T2.setTop (mkF m 20 #[.val (.long x0), .second, .val (.long (1 : Int64)), .second, .val (.ref b1_2)] []))
    refine own_s (fun t k => XS.aload X2.here hx rfl (hb hby at_20) rfl rfl k) ?_
    show Go p.tables e below _ (T2.setTop (mkF m 22 #[.val (.long x0), .second, .val (.long (1 : Int64)), .second, .val (.ref b1_2)] [(.ref b1_2)]))
    refine own_s (fun t k => XS.ifnonnullYes X2.here hx rfl (pc0 := 22) (pc' := 27) rfl (hb hby at_22) rfl (by decide) (by decide) k) ?_
    show Go p.tables e below _ (T2.setTop (mkF m 27 #[.val (.long x0), .second, .val (.long (1 : Int64)), .second, .val (.ref b1_2)] []))
    refine own_s (fun t k => XS.aload X2.here hx rfl (hb hby at_27) rfl rfl k) ?_
    show Go p.tables e below _ (T2.setTop (mkF m 29 #[.val (.long x0), .second, .val (.long (1 : Int64)), .second, .val (.ref b1_2)] [(.ref b1_2)]))
    have O4 : Old Z n0 T2.heap := (O0.keep Kc2 all0)
    obtain ⟨cq3, kq3, q3a, q3b, q3c⟩ := isOf hZ2 rfl fc2_0
    obtain ⟨_, _, ⟨T3, L3, k3, n3⟩, -, X3, ⟨Lc3, hQ3, l3, y3, z3⟩, st3⟩ := X2.virtualBack hx (y := (⟨"com/example/lock_by_lease/lockbylease/GrantResult", "fence", "()Ljava/util/OptionalLong;"⟩ : MethodName)) (z := (⟨"com/example/lock_by_lease/lockbylease/GrantResult", "fence", "()Ljava/util/OptionalLong;"⟩ : MethodName)) hown2 (mvT hZ2 (hw _ (List.mem_of_getElem? (i := 72) rfl))) (mvT hZ2 (hw _ (List.mem_of_getElem? (i := 73) rfl))) (notFace_of_selects (args := #[]) (mvT hZ2 (hw _ (List.mem_of_getElem? (i := 75) rfl)))) (mvT hZ2 (hw _ (List.mem_of_getElem? (i := 75) rfl))) (mvT hZ2 (hw _ (List.mem_of_getElem? (i := 74) rfl))) (by decide) (backOf (W := 0) (rm12 l Z a0 hw [] b1_2 b1_2_2 T2.heap n0 O4 fc2_1) hZ2 (hw _ (List.mem_of_getElem? (i := 76) rfl)) (hw _ (List.mem_of_getElem? (i := 3) rfl)) (by decide) (by decide)) q3a q3c (g := (mkF m 29 #[.val (.long x0), .second, .val (.long (1 : Int64)), .second, .val (.ref b1_2)] [(.ref b1_2)])) rfl (by rw [hml]; rfl) (Steps.refl _) (argsL := []) (rest := []) (lenOf pd___Ljava_util_OptionalLong_ rfl) rfl (by show 2 * 0 + _ ≤ _; exact Nat.le_of_eq rfl) (hb hby at_29) (fun _ _ => ⟨rfl, rfl, (by decide : 6 + 0 ≤ _), (by decide : 132 + 0 ≤ _)⟩)
    dsimp only [Pt.U, Pt.locs, Pt.cells, Pt.slots] at X3 l3 y3 z3 st3 hQ3
    subst l3 y3 z3
    obtain ⟨rfl, N3q, eq3⟩ := hQ3
    have N3 := Fr.app N2 N3q
    refine own_t st3 ?_
    show Go p.tables e below _ (T3.setTop (mkF m 32 #[.val (.long x0), .second, .val (.long (1 : Int64)), .second, .val (.ref b1_2)] [(.ref b1_2_2)]))
    obtain ⟨cq5, kq5, q5a, q5b, q5c⟩ := isOf hZ2 eq3 fc2_3
    obtain ⟨_, _, ⟨T5, L5, k5, n5⟩, -, X5, ⟨Lc5, hQ5, l5, y5, z5⟩, st5⟩ := X3.virtualBack hx (y := (⟨"java/util/OptionalLong", "isPresent", "()Z"⟩ : MethodName)) (z := (⟨"java/util/OptionalLong", "isPresent", "()Z"⟩ : MethodName)) hown2 (mvT hZ2 (hw _ (List.mem_of_getElem? (i := 77) rfl))) (mvT hZ2 (hw _ (List.mem_of_getElem? (i := 52) rfl))) (notFace_of_selects (args := #[]) (mvT hZ2 (hw _ (List.mem_of_getElem? (i := 54) rfl)))) (mvT hZ2 (hw _ (List.mem_of_getElem? (i := 54) rfl))) (mvT hZ2 (hw _ (List.mem_of_getElem? (i := 53) rfl))) (by decide) (backOf (W := 0) (rm9 l Z a0 hw [] b1_2_2 (1 : Int32) T2.heap n0 O4 fc2_4) hZ2 (hw _ (List.mem_of_getElem? (i := 55) rfl)) (hw _ (List.mem_of_getElem? (i := 9) rfl)) (by decide) (by decide)) q5a q5c (g := (mkF m 32 #[.val (.long x0), .second, .val (.long (1 : Int64)), .second, .val (.ref b1_2)] [(.ref b1_2_2)])) rfl (by rw [hml]; rfl) (Steps.refl _) (argsL := []) (rest := []) (lenOf pd___Z rfl) rfl (by show 2 * 0 + _ ≤ _; exact Nat.le_of_eq rfl) (hb hby at_32) (fun _ _ => ⟨rfl, eq3, (by decide : 6 + 0 ≤ _), (by decide : 132 + 0 ≤ _)⟩)
    dsimp only [Pt.U, Pt.locs, Pt.cells, Pt.slots] at X5 l5 y5 z5 st5 hQ5
    subst l5 y5 z5
    obtain ⟨rfl, N5q, eq5⟩ := hQ5
    have N5 := Fr.app N3 N5q
    refine own_t st5 ?_
    show Go p.tables e below _ (T5.setTop (mkF m 35 #[.val (.long x0), .second, .val (.long (1 : Int64)), .second, .val (.ref b1_2)] [(.int (1 : Int32))]))
    refine own_s (fun t k => XS.ifYes X5.here hx rfl (pc0 := 35) (pc' := 40) rfl (hb hby at_35) rfl ((if0 _ _).trans (feq (by decide : ¬ ((1 : Int32) = (0 : Int32)))).2) (by decide) (by decide) k) ?_
    show Go p.tables e below _ (T5.setTop (mkF m 40 #[.val (.long x0), .second, .val (.long (1 : Int64)), .second, .val (.ref b1_2)] []))
    refine own_s (fun t k => XS.aload X5.here hx rfl (hb hby at_40) rfl rfl k) ?_
    show Go p.tables e below _ (T5.setTop (mkF m 42 #[.val (.long x0), .second, .val (.long (1 : Int64)), .second, .val (.ref b1_2)] [(.ref b1_2)]))
    obtain ⟨cq6, kq6, q6a, q6b, q6c⟩ := isOf hZ2 eq5 fc2_0
    obtain ⟨_, _, ⟨T6, L6, k6, n6⟩, -, X6, ⟨Lc6, hQ6, l6, y6, z6⟩, st6⟩ := X5.virtualBack hx (y := (⟨"com/example/lock_by_lease/lockbylease/GrantResult", "fence", "()Ljava/util/OptionalLong;"⟩ : MethodName)) (z := (⟨"com/example/lock_by_lease/lockbylease/GrantResult", "fence", "()Ljava/util/OptionalLong;"⟩ : MethodName)) hown2 (mvT hZ2 (hw _ (List.mem_of_getElem? (i := 72) rfl))) (mvT hZ2 (hw _ (List.mem_of_getElem? (i := 73) rfl))) (notFace_of_selects (args := #[]) (mvT hZ2 (hw _ (List.mem_of_getElem? (i := 75) rfl)))) (mvT hZ2 (hw _ (List.mem_of_getElem? (i := 75) rfl))) (mvT hZ2 (hw _ (List.mem_of_getElem? (i := 74) rfl))) (by decide) (backOf (W := 0) (rm12 l Z a0 hw [] b1_2 b1_2_2 T2.heap n0 O4 fc2_1) hZ2 (hw _ (List.mem_of_getElem? (i := 76) rfl)) (hw _ (List.mem_of_getElem? (i := 3) rfl)) (by decide) (by decide)) q6a q6c (g := (mkF m 42 #[.val (.long x0), .second, .val (.long (1 : Int64)), .second, .val (.ref b1_2)] [(.ref b1_2)])) rfl (by rw [hml]; rfl) (Steps.refl _) (argsL := []) (rest := []) (lenOf pd___Ljava_util_OptionalLong_ rfl) rfl (by show 2 * 0 + _ ≤ _; exact Nat.le_of_eq rfl) (hb hby at_42) (fun _ _ => ⟨rfl, eq5, (by decide : 6 + 0 ≤ _), (by decide : 132 + 0 ≤ _)⟩)
    dsimp only [Pt.U, Pt.locs, Pt.cells, Pt.slots] at X6 l6 y6 z6 st6 hQ6
    subst l6 y6 z6
    obtain ⟨rfl, N6q, eq6⟩ := hQ6
    have N6 := Fr.app N5 N6q
    refine own_t st6 ?_
    show Go p.tables e below _ (T6.setTop (mkF m 45 #[.val (.long x0), .second, .val (.long (1 : Int64)), .second, .val (.ref b1_2)] [(.ref b1_2_2)]))
    obtain ⟨cq7, kq7, q7a, q7b, q7c⟩ := isOf hZ2 eq6 fc2_3
    obtain ⟨_, _, ⟨T7, L7, k7, n7⟩, -, X7, ⟨Lc7, hQ7, l7, y7, z7⟩, st7⟩ := X6.virtualBack hx (y := (⟨"java/util/OptionalLong", "getAsLong", "()J"⟩ : MethodName)) (z := (⟨"java/util/OptionalLong", "getAsLong", "()J"⟩ : MethodName)) hown2 (mvT hZ2 (hw _ (List.mem_of_getElem? (i := 78) rfl))) (mvT hZ2 (hw _ (List.mem_of_getElem? (i := 57) rfl))) (notFace_of_selects (args := #[]) (mvT hZ2 (hw _ (List.mem_of_getElem? (i := 59) rfl)))) (mvT hZ2 (hw _ (List.mem_of_getElem? (i := 59) rfl))) (mvT hZ2 (hw _ (List.mem_of_getElem? (i := 58) rfl))) (by decide) (backOf (W := 0) (rm10 l Z a0 hw [] b1_2_2 (1 : Int32) (1 : Int64) T2.heap n0 O4 fc2_4 (by decide) fc2_5) hZ2 (hw _ (List.mem_of_getElem? (i := 60) rfl)) (hw _ (List.mem_of_getElem? (i := 9) rfl)) (by decide) (by decide)) q7a q7c (g := (mkF m 45 #[.val (.long x0), .second, .val (.long (1 : Int64)), .second, .val (.ref b1_2)] [(.ref b1_2_2)])) rfl (by rw [hml]; rfl) (Steps.refl _) (argsL := []) (rest := []) (lenOf pd___J rfl) rfl (by show 2 * 0 + _ ≤ _; exact Nat.le_of_eq rfl) (hb hby at_45) (fun _ _ => ⟨rfl, eq6, (by decide : 6 + 0 ≤ _), (by decide : 132 + 0 ≤ _)⟩)
    dsimp only [Pt.U, Pt.locs, Pt.cells, Pt.slots] at X7 l7 y7 z7 st7 hQ7
    subst l7 y7 z7
    obtain ⟨rfl, N7q, eq7⟩ := hQ7
    have N7 := Fr.app N6 N7q
    refine own_t st7 ?_
    show Go p.tables e below _ (T7.setTop (mkF m 48 #[.val (.long x0), .second, .val (.long (1 : Int64)), .second, .val (.ref b1_2)] [(.long (1 : Int64))]))
    refine own_s (fun t k => XS.lloadN X7.here hx rfl (hb hby at_48) rfl k) ?_
    show Go p.tables e below _ (T7.setTop (mkF m 49 #[.val (.long x0), .second, .val (.long (1 : Int64)), .second, .val (.ref b1_2)] [(.long (1 : Int64)), (.long (1 : Int64))]))
    refine own_s (fun t k => XS.lcmp X7.here hx rfl (hb hby at_49) rfl k) ?_
    show Go p.tables e below _ (T7.setTop (mkF m 50 #[.val (.long x0), .second, .val (.long (1 : Int64)), .second, .val (.ref b1_2)] [(.int (0 : Int32))]))
    refine own_s (fun t k => XS.ifYes X7.here hx rfl (pc0 := 50) (pc' := 55) rfl (hb hby at_50) rfl ((if0 _ _).trans (teq (rfl : (0 : Int32) = (0 : Int32))).1) (by decide) (by decide) k) ?_
    show Go p.tables e below _ (T7.setTop (mkF m 55 #[.val (.long x0), .second, .val (.long (1 : Int64)), .second, .val (.ref b1_2)] []))
    refine own_s (fun t k => XS.aload X7.here hx rfl (hb hby at_55) rfl rfl k) ?_
    show Go p.tables e below _ (T7.setTop (mkF m 57 #[.val (.long x0), .second, .val (.long (1 : Int64)), .second, .val (.ref b1_2)] [(.ref b1_2)]))
    obtain ⟨cq8, kq8, q8a, q8b, q8c⟩ := isOf hZ2 eq7 fc2_0
    obtain ⟨_, _, ⟨T8, L8, k8, n8⟩, -, X8, ⟨Lc8, hQ8, l8, y8, z8⟩, st8⟩ := X7.virtualBack hx (y := (⟨"com/example/lock_by_lease/lockbylease/GrantResult", "remaining", "()Ljava/util/Optional;"⟩ : MethodName)) (z := (⟨"com/example/lock_by_lease/lockbylease/GrantResult", "remaining", "()Ljava/util/Optional;"⟩ : MethodName)) hown2 (mvT hZ2 (hw _ (List.mem_of_getElem? (i := 79) rfl))) (mvT hZ2 (hw _ (List.mem_of_getElem? (i := 80) rfl))) (notFace_of_selects (args := #[]) (mvT hZ2 (hw _ (List.mem_of_getElem? (i := 82) rfl)))) (mvT hZ2 (hw _ (List.mem_of_getElem? (i := 82) rfl))) (mvT hZ2 (hw _ (List.mem_of_getElem? (i := 81) rfl))) (by decide) (backOf (W := 0) (rm13 l Z a0 hw [] b1_2 uE T2.heap n0 O4 fc2_2) hZ2 (hw _ (List.mem_of_getElem? (i := 83) rfl)) (hw _ (List.mem_of_getElem? (i := 3) rfl)) (by decide) (by decide)) q8a q8c (g := (mkF m 57 #[.val (.long x0), .second, .val (.long (1 : Int64)), .second, .val (.ref b1_2)] [(.ref b1_2)])) rfl (by rw [hml]; rfl) (Steps.refl _) (argsL := []) (rest := []) (lenOf pd___Ljava_util_Optional_ rfl) rfl (by show 2 * 0 + _ ≤ _; exact Nat.le_of_eq rfl) (hb hby at_57) (fun _ _ => ⟨rfl, eq7, (by decide : 6 + 0 ≤ _), (by decide : 132 + 0 ≤ _)⟩)
    dsimp only [Pt.U, Pt.locs, Pt.cells, Pt.slots] at X8 l8 y8 z8 st8 hQ8
    subst l8 y8 z8
    obtain ⟨rfl, N8q, eq8⟩ := hQ8
    have N8 := Fr.app N7 N8q
    refine own_t st8 ?_
    show Go p.tables e below _ (T8.setTop (mkF m 60 #[.val (.long x0), .second, .val (.long (1 : Int64)), .second, .val (.ref b1_2)] [(.ref uE)]))
    obtain ⟨cq9, kq9, q9a, q9b, q9c⟩ := isOf hZ2 eq8 (OE_uE.ext O4.2)
    obtain ⟨_, _, ⟨T9, L9, k9, n9⟩, -, X9, ⟨Lc9, hQ9, l9, y9, z9⟩, st9⟩ := X8.virtualBack hx (y := (⟨"java/util/Optional", "isPresent", "()Z"⟩ : MethodName)) (z := (⟨"java/util/Optional", "isPresent", "()Z"⟩ : MethodName)) hown2 (mvT hZ2 (hw _ (List.mem_of_getElem? (i := 84) rfl))) (mvT hZ2 (hw _ (List.mem_of_getElem? (i := 62) rfl))) (notFace_of_selects (args := #[]) (mvT hZ2 (hw _ (List.mem_of_getElem? (i := 64) rfl)))) (mvT hZ2 (hw _ (List.mem_of_getElem? (i := 64) rfl))) (mvT hZ2 (hw _ (List.mem_of_getElem? (i := 63) rfl))) (by decide) (backOf (W := 0) (rm11 l Z a0 hw [] uE T2.heap n0 O4 (OF_uE.ext O4.2)) hZ2 (hw _ (List.mem_of_getElem? (i := 65) rfl)) (hw _ (List.mem_of_getElem? (i := 26) rfl)) (by decide) (by decide)) q9a q9c (g := (mkF m 60 #[.val (.long x0), .second, .val (.long (1 : Int64)), .second, .val (.ref b1_2)] [(.ref uE)])) rfl (by rw [hml]; rfl) (Steps.refl _) (argsL := []) (rest := []) (lenOf pd___Z rfl) rfl (by show 2 * 0 + _ ≤ _; exact Nat.le_of_eq rfl) (hb hby at_60) (fun _ _ => ⟨rfl, eq8, (by decide : 6 + 0 ≤ _), (by decide : 132 + 0 ≤ _)⟩)
    dsimp only [Pt.U, Pt.locs, Pt.cells, Pt.slots] at X9 l9 y9 z9 st9 hQ9
    subst l9 y9 z9
    obtain ⟨rfl, N9q, eq9⟩ := hQ9
    have N9 := Fr.app N8 N9q
    refine own_t st9 ?_
    show Go p.tables e below _ (T9.setTop (mkF m 63 #[.val (.long x0), .second, .val (.long (1 : Int64)), .second, .val (.ref b1_2)] [(.int (0 : Int32))]))
    refine own_s (fun t k => XS.ifNo X9.here hx rfl (hb hby at_63) rfl ((if0 _ _).trans (teq (rfl : (0 : Int32) = (0 : Int32))).2) k) ?_
    show Go p.tables e below _ (T9.setTop (mkF m 66 #[.val (.long x0), .second, .val (.long (1 : Int64)), .second, .val (.ref b1_2)] []))
    refine own_s (fun t k => XS.iconst X9.here hx rfl (hb hby at_66) k) ?_
    show Go p.tables e below _ (T9.setTop (mkF m 67 #[.val (.long x0), .second, .val (.long (1 : Int64)), .second, .val (.ref b1_2)] [(.int (1 : Int32))]))
    refine own_s (fun t k => XS.goto X9.here hx rfl (pc0 := 67) (pc' := 71) rfl (hb hby at_67) (by decide) (by decide) k) ?_
    show Go p.tables e below _ (T9.setTop (mkF m 71 #[.val (.long x0), .second, .val (.long (1 : Int64)), .second, .val (.ref b1_2)] [(.int (1 : Int32))]))
    obtain ⟨fs, hr, hrun, hended, hEnd⟩ := X9.leaveW hS2 (show _ ≤ T9.heap.size from (by rw [eq9]; exact (Nat.le_refl _))) (v := (some (.int (1 : Int32)))) (fun h => by first | rfl | (rw [Bd.returns] at h; cases h))
    refine own_e ?_ hrun hended ⟨_, _, rfl, ?_, hEnd.1, hEnd.2.1, hEnd.2.2.1, hEnd.2.2.2.mono (by decide) (by decide)⟩
    · exact retN X9 hx (t := .boolean) Bd.returns (by simp) (hb hby at_71) hr
    · show Q_rm0 Z uE x0 h0 n0 _ T9.heap _
      rw [eq9]
      exact ⟨rfl, N9⟩
  ·
    refine own_s (fun t k => XS.ifYes X0.here hx rfl (pc0 := 9) (pc' := 14) rfl (hb hby at_9) rfl ((if0 _ _).trans (feq hc1).2) (by decide) (by decide) k) ?_
    show Go p.tables e below _ (s₁.setTop (mkF m 14 #[.val (.long x0), .second, .val (.long (x0 &&& (9223372036854775807 : Int64))), .second, .unset] []))
    refine own_s (fun t k => XS.lloadN X0.here hx rfl (hb hby at_14) rfl k) ?_
    show Go p.tables e below _ (s₁.setTop (mkF m 15 #[.val (.long x0), .second, .val (.long (x0 &&& (9223372036854775807 : Int64))), .second, .unset] [(.long (x0 &&& (9223372036854775807 : Int64)))]))
    obtain ⟨_, _, ⟨T10, L10, k10, n10⟩, -, Xr10, hSr10, gr10, ⟨Lc10, hQ10, l10, y10, z10⟩, st10⟩ := callSS X0 hx (y := (⟨"com/example/lock_by_lease/lockbylease/GrantResult", "granted", "(J)Lcom/example/lock_by_lease/lockbylease/GrantResult;"⟩ : MethodName)) hown (mvT hZ (hw _ (List.mem_of_getElem? (i := 1) rfl))) (mvT hZ (hw _ (List.mem_of_getElem? (i := 2) rfl))) (mvT hZ (hw _ (List.mem_of_getElem? (i := 3) rfl))) (mvT hZ (hw _ (List.mem_of_getElem? (i := 4) rfl))) (by decide) (backOfS (W := 0) (rm1 l Z a0 hw [] uE (x0 &&& (9223372036854775807 : Int64)) h0 n0 O0 S_EMPTY OE_uE OF_uE (own_pos _ hc1)) hZ (hw _ (List.mem_of_getElem? (i := 4) rfl)) (hw _ (List.mem_of_getElem? (i := 3) rfl)) (by decide) (by decide)) (g := (mkF m 15 #[.val (.long x0), .second, .val (.long (x0 &&& (9223372036854775807 : Int64))), .second, .unset] [(.long (x0 &&& (9223372036854775807 : Int64)))])) rfl (by rw [hml]; rfl) (argsL := [(.long (x0 &&& (9223372036854775807 : Int64)))]) (rest := []) (lenOf pd__J_Lcom_example_lock_by_lease_lockbylease_GrantResult_ rfl) rfl (by show 2 * 0 + _ ≤ _; exact Nat.le_of_eq rfl) (hb hby at_15) (fun _ _ => ⟨rfl, e0, (by decide : 0 + 6 ≤ _), (by decide : 0 + 132 ≤ _)⟩)
    dsimp only [Pt.U, Pt.locs, Pt.cells, Pt.slots] at Xr10 l10 y10 z10 st10 hQ10 hSr10 gr10
    subst l10 y10 z10
    obtain ⟨X10, hS10, hZ10, hown10⟩ := rebS hS0 (show _ ≤ s₁.heap.size from (by rw [e0]; exact (Nat.zero_le _))) Xr10 hSr10 gr10 hZ hown
    obtain ⟨b1_10, b1_2_10, rfl, N10q, Kc10, bz_b1_10, bz_b1_2_10, fc10_0, fc10_1, fc10_2, fc10_3, fc10_4, fc10_5⟩ := hQ10
    have g_b1_10 : n0 ≤ b1_10 := Nat.le_trans (Nat.le_of_eq O0.1.symm) (Nat.le_trans O0.2.1 bz_b1_10)
    have sz_b1_10 : h0.size ≤ b1_10 := Nat.le_trans K0.1 bz_b1_10
    have g_b1_2_10 : n0 ≤ b1_2_10 := Nat.le_trans (Nat.le_of_eq O0.1.symm) (Nat.le_trans O0.2.1 bz_b1_2_10)
    have sz_b1_2_10 : h0.size ≤ b1_2_10 := Nat.le_trans K0.1 bz_b1_2_10
    have K10 : Keep h0 T10.heap [] := K0.trans Kc10 all0
    have N10 := Fr.app N0 N10q
    refine own_t st10 ?_
    show Go p.tables e below _ (T10.setTop (mkF m 18 #[.val (.long x0), .second, .val (.long (x0 &&& (9223372036854775807 : Int64))), .second, .unset] [(.ref b1_10)]))
    refine own_s (fun t k => XS.astore X10.here hx rfl (hb hby at_18) rfl rfl (l' := #[.val (.long x0), .second, .val (.long (x0 &&& (9223372036854775807 : Int64))), .second, .val (.ref b1_10)]) rfl k) ?_
    show Go p.tables e below _ (T10.setTop (mkF m 20 #[.val (.long x0), .second, .val (.long (x0 &&& (9223372036854775807 : Int64))), .second, .val (.ref b1_10)] []))
    refine own_s (fun t k => XS.aload X10.here hx rfl (hb hby at_20) rfl rfl k) ?_
    show Go p.tables e below _ (T10.setTop (mkF m 22 #[.val (.long x0), .second, .val (.long (x0 &&& (9223372036854775807 : Int64))), .second, .val (.ref b1_10)] [(.ref b1_10)]))
    refine own_s (fun t k => XS.ifnonnullYes X10.here hx rfl (pc0 := 22) (pc' := 27) rfl (hb hby at_22) rfl (by decide) (by decide) k) ?_
    show Go p.tables e below _ (T10.setTop (mkF m 27 #[.val (.long x0), .second, .val (.long (x0 &&& (9223372036854775807 : Int64))), .second, .val (.ref b1_10)] []))
    refine own_s (fun t k => XS.aload X10.here hx rfl (hb hby at_27) rfl rfl k) ?_
    show Go p.tables e below _ (T10.setTop (mkF m 29 #[.val (.long x0), .second, .val (.long (x0 &&& (9223372036854775807 : Int64))), .second, .val (.ref b1_10)] [(.ref b1_10)]))
    have O12 : Old Z n0 T10.heap := (O0.keep Kc10 all0)
    obtain ⟨cq11, kq11, q11a, q11b, q11c⟩ := isOf hZ10 rfl fc10_0
    obtain ⟨_, _, ⟨T11, L11, k11, n11⟩, -, X11, ⟨Lc11, hQ11, l11, y11, z11⟩, st11⟩ := X10.virtualBack hx (y := (⟨"com/example/lock_by_lease/lockbylease/GrantResult", "fence", "()Ljava/util/OptionalLong;"⟩ : MethodName)) (z := (⟨"com/example/lock_by_lease/lockbylease/GrantResult", "fence", "()Ljava/util/OptionalLong;"⟩ : MethodName)) hown10 (mvT hZ10 (hw _ (List.mem_of_getElem? (i := 72) rfl))) (mvT hZ10 (hw _ (List.mem_of_getElem? (i := 73) rfl))) (notFace_of_selects (args := #[]) (mvT hZ10 (hw _ (List.mem_of_getElem? (i := 75) rfl)))) (mvT hZ10 (hw _ (List.mem_of_getElem? (i := 75) rfl))) (mvT hZ10 (hw _ (List.mem_of_getElem? (i := 74) rfl))) (by decide) (backOf (W := 0) (rm12 l Z a0 hw [] b1_10 b1_2_10 T10.heap n0 O12 fc10_1) hZ10 (hw _ (List.mem_of_getElem? (i := 76) rfl)) (hw _ (List.mem_of_getElem? (i := 3) rfl)) (by decide) (by decide)) q11a q11c (g := (mkF m 29 #[.val (.long x0), .second, .val (.long (x0 &&& (9223372036854775807 : Int64))), .second, .val (.ref b1_10)] [(.ref b1_10)])) rfl (by rw [hml]; rfl) (Steps.refl _) (argsL := []) (rest := []) (lenOf pd___Ljava_util_OptionalLong_ rfl) rfl (by show 2 * 0 + _ ≤ _; exact Nat.le_of_eq rfl) (hb hby at_29) (fun _ _ => ⟨rfl, rfl, (by decide : 6 + 0 ≤ _), (by decide : 132 + 0 ≤ _)⟩)
    dsimp only [Pt.U, Pt.locs, Pt.cells, Pt.slots] at X11 l11 y11 z11 st11 hQ11
    subst l11 y11 z11
    obtain ⟨rfl, N11q, eq11⟩ := hQ11
    have N11 := Fr.app N10 N11q
    refine own_t st11 ?_
    show Go p.tables e below _ (T11.setTop (mkF m 32 #[.val (.long x0), .second, .val (.long (x0 &&& (9223372036854775807 : Int64))), .second, .val (.ref b1_10)] [(.ref b1_2_10)]))
    obtain ⟨cq13, kq13, q13a, q13b, q13c⟩ := isOf hZ10 eq11 fc10_3
    obtain ⟨_, _, ⟨T13, L13, k13, n13⟩, -, X13, ⟨Lc13, hQ13, l13, y13, z13⟩, st13⟩ := X11.virtualBack hx (y := (⟨"java/util/OptionalLong", "isPresent", "()Z"⟩ : MethodName)) (z := (⟨"java/util/OptionalLong", "isPresent", "()Z"⟩ : MethodName)) hown10 (mvT hZ10 (hw _ (List.mem_of_getElem? (i := 77) rfl))) (mvT hZ10 (hw _ (List.mem_of_getElem? (i := 52) rfl))) (notFace_of_selects (args := #[]) (mvT hZ10 (hw _ (List.mem_of_getElem? (i := 54) rfl)))) (mvT hZ10 (hw _ (List.mem_of_getElem? (i := 54) rfl))) (mvT hZ10 (hw _ (List.mem_of_getElem? (i := 53) rfl))) (by decide) (backOf (W := 0) (rm9 l Z a0 hw [] b1_2_10 (1 : Int32) T10.heap n0 O12 fc10_4) hZ10 (hw _ (List.mem_of_getElem? (i := 55) rfl)) (hw _ (List.mem_of_getElem? (i := 9) rfl)) (by decide) (by decide)) q13a q13c (g := (mkF m 32 #[.val (.long x0), .second, .val (.long (x0 &&& (9223372036854775807 : Int64))), .second, .val (.ref b1_10)] [(.ref b1_2_10)])) rfl (by rw [hml]; rfl) (Steps.refl _) (argsL := []) (rest := []) (lenOf pd___Z rfl) rfl (by show 2 * 0 + _ ≤ _; exact Nat.le_of_eq rfl) (hb hby at_32) (fun _ _ => ⟨rfl, eq11, (by decide : 6 + 0 ≤ _), (by decide : 132 + 0 ≤ _)⟩)
    dsimp only [Pt.U, Pt.locs, Pt.cells, Pt.slots] at X13 l13 y13 z13 st13 hQ13
    subst l13 y13 z13
    obtain ⟨rfl, N13q, eq13⟩ := hQ13
    have N13 := Fr.app N11 N13q
    refine own_t st13 ?_
    show Go p.tables e below _ (T13.setTop (mkF m 35 #[.val (.long x0), .second, .val (.long (x0 &&& (9223372036854775807 : Int64))), .second, .val (.ref b1_10)] [(.int (1 : Int32))]))
    refine own_s (fun t k => XS.ifYes X13.here hx rfl (pc0 := 35) (pc' := 40) rfl (hb hby at_35) rfl ((if0 _ _).trans (feq (by decide : ¬ ((1 : Int32) = (0 : Int32)))).2) (by decide) (by decide) k) ?_
    show Go p.tables e below _ (T13.setTop (mkF m 40 #[.val (.long x0), .second, .val (.long (x0 &&& (9223372036854775807 : Int64))), .second, .val (.ref b1_10)] []))
    refine own_s (fun t k => XS.aload X13.here hx rfl (hb hby at_40) rfl rfl k) ?_
    show Go p.tables e below _ (T13.setTop (mkF m 42 #[.val (.long x0), .second, .val (.long (x0 &&& (9223372036854775807 : Int64))), .second, .val (.ref b1_10)] [(.ref b1_10)]))
    obtain ⟨cq14, kq14, q14a, q14b, q14c⟩ := isOf hZ10 eq13 fc10_0
    obtain ⟨_, _, ⟨T14, L14, k14, n14⟩, -, X14, ⟨Lc14, hQ14, l14, y14, z14⟩, st14⟩ := X13.virtualBack hx (y := (⟨"com/example/lock_by_lease/lockbylease/GrantResult", "fence", "()Ljava/util/OptionalLong;"⟩ : MethodName)) (z := (⟨"com/example/lock_by_lease/lockbylease/GrantResult", "fence", "()Ljava/util/OptionalLong;"⟩ : MethodName)) hown10 (mvT hZ10 (hw _ (List.mem_of_getElem? (i := 72) rfl))) (mvT hZ10 (hw _ (List.mem_of_getElem? (i := 73) rfl))) (notFace_of_selects (args := #[]) (mvT hZ10 (hw _ (List.mem_of_getElem? (i := 75) rfl)))) (mvT hZ10 (hw _ (List.mem_of_getElem? (i := 75) rfl))) (mvT hZ10 (hw _ (List.mem_of_getElem? (i := 74) rfl))) (by decide) (backOf (W := 0) (rm12 l Z a0 hw [] b1_10 b1_2_10 T10.heap n0 O12 fc10_1) hZ10 (hw _ (List.mem_of_getElem? (i := 76) rfl)) (hw _ (List.mem_of_getElem? (i := 3) rfl)) (by decide) (by decide)) q14a q14c (g := (mkF m 42 #[.val (.long x0), .second, .val (.long (x0 &&& (9223372036854775807 : Int64))), .second, .val (.ref b1_10)] [(.ref b1_10)])) rfl (by rw [hml]; rfl) (Steps.refl _) (argsL := []) (rest := []) (lenOf pd___Ljava_util_OptionalLong_ rfl) rfl (by show 2 * 0 + _ ≤ _; exact Nat.le_of_eq rfl) (hb hby at_42) (fun _ _ => ⟨rfl, eq13, (by decide : 6 + 0 ≤ _), (by decide : 132 + 0 ≤ _)⟩)
    dsimp only [Pt.U, Pt.locs, Pt.cells, Pt.slots] at X14 l14 y14 z14 st14 hQ14
    subst l14 y14 z14
    obtain ⟨rfl, N14q, eq14⟩ := hQ14
    have N14 := Fr.app N13 N14q
    refine own_t st14 ?_
    show Go p.tables e below _ (T14.setTop (mkF m 45 #[.val (.long x0), .second, .val (.long (x0 &&& (9223372036854775807 : Int64))), .second, .val (.ref b1_10)] [(.ref b1_2_10)]))
    obtain ⟨cq15, kq15, q15a, q15b, q15c⟩ := isOf hZ10 eq14 fc10_3
    obtain ⟨_, _, ⟨T15, L15, k15, n15⟩, -, X15, ⟨Lc15, hQ15, l15, y15, z15⟩, st15⟩ := X14.virtualBack hx (y := (⟨"java/util/OptionalLong", "getAsLong", "()J"⟩ : MethodName)) (z := (⟨"java/util/OptionalLong", "getAsLong", "()J"⟩ : MethodName)) hown10 (mvT hZ10 (hw _ (List.mem_of_getElem? (i := 78) rfl))) (mvT hZ10 (hw _ (List.mem_of_getElem? (i := 57) rfl))) (notFace_of_selects (args := #[]) (mvT hZ10 (hw _ (List.mem_of_getElem? (i := 59) rfl)))) (mvT hZ10 (hw _ (List.mem_of_getElem? (i := 59) rfl))) (mvT hZ10 (hw _ (List.mem_of_getElem? (i := 58) rfl))) (by decide) (backOf (W := 0) (rm10 l Z a0 hw [] b1_2_10 (1 : Int32) (x0 &&& (9223372036854775807 : Int64)) T10.heap n0 O12 fc10_4 (by decide) fc10_5) hZ10 (hw _ (List.mem_of_getElem? (i := 60) rfl)) (hw _ (List.mem_of_getElem? (i := 9) rfl)) (by decide) (by decide)) q15a q15c (g := (mkF m 45 #[.val (.long x0), .second, .val (.long (x0 &&& (9223372036854775807 : Int64))), .second, .val (.ref b1_10)] [(.ref b1_2_10)])) rfl (by rw [hml]; rfl) (Steps.refl _) (argsL := []) (rest := []) (lenOf pd___J rfl) rfl (by show 2 * 0 + _ ≤ _; exact Nat.le_of_eq rfl) (hb hby at_45) (fun _ _ => ⟨rfl, eq14, (by decide : 6 + 0 ≤ _), (by decide : 132 + 0 ≤ _)⟩)
    dsimp only [Pt.U, Pt.locs, Pt.cells, Pt.slots] at X15 l15 y15 z15 st15 hQ15
    subst l15 y15 z15
    obtain ⟨rfl, N15q, eq15⟩ := hQ15
    have N15 := Fr.app N14 N15q
    refine own_t st15 ?_
    show Go p.tables e below _ (T15.setTop (mkF m 48 #[.val (.long x0), .second, .val (.long (x0 &&& (9223372036854775807 : Int64))), .second, .val (.ref b1_10)] [(.long (x0 &&& (9223372036854775807 : Int64)))]))
    refine own_s (fun t k => XS.lloadN X15.here hx rfl (hb hby at_48) rfl k) ?_
    show Go p.tables e below _ (T15.setTop (mkF m 49 #[.val (.long x0), .second, .val (.long (x0 &&& (9223372036854775807 : Int64))), .second, .val (.ref b1_10)] [(.long (x0 &&& (9223372036854775807 : Int64))), (.long (x0 &&& (9223372036854775807 : Int64)))]))
    refine own_s (fun t k => XS.lcmp X15.here hx rfl (hb hby at_49) rfl k) ?_
    show Go p.tables e below _ (T15.setTop (mkF m 50 #[.val (.long x0), .second, .val (.long (x0 &&& (9223372036854775807 : Int64))), .second, .val (.ref b1_10)] [(.int (lcmpW (x0 &&& (9223372036854775807 : Int64)) (x0 &&& (9223372036854775807 : Int64))))]))
    refine own_s (fun t k => XS.ifYes X15.here hx rfl (pc0 := 50) (pc' := 55) rfl (hb hby at_50) rfl ((if0 _ _).trans (teq ((lw_eq _ _).mpr rfl)).1) (by decide) (by decide) k) ?_
    show Go p.tables e below _ (T15.setTop (mkF m 55 #[.val (.long x0), .second, .val (.long (x0 &&& (9223372036854775807 : Int64))), .second, .val (.ref b1_10)] []))
    refine own_s (fun t k => XS.aload X15.here hx rfl (hb hby at_55) rfl rfl k) ?_
    show Go p.tables e below _ (T15.setTop (mkF m 57 #[.val (.long x0), .second, .val (.long (x0 &&& (9223372036854775807 : Int64))), .second, .val (.ref b1_10)] [(.ref b1_10)]))
    obtain ⟨cq16, kq16, q16a, q16b, q16c⟩ := isOf hZ10 eq15 fc10_0
    obtain ⟨_, _, ⟨T16, L16, k16, n16⟩, -, X16, ⟨Lc16, hQ16, l16, y16, z16⟩, st16⟩ := X15.virtualBack hx (y := (⟨"com/example/lock_by_lease/lockbylease/GrantResult", "remaining", "()Ljava/util/Optional;"⟩ : MethodName)) (z := (⟨"com/example/lock_by_lease/lockbylease/GrantResult", "remaining", "()Ljava/util/Optional;"⟩ : MethodName)) hown10 (mvT hZ10 (hw _ (List.mem_of_getElem? (i := 79) rfl))) (mvT hZ10 (hw _ (List.mem_of_getElem? (i := 80) rfl))) (notFace_of_selects (args := #[]) (mvT hZ10 (hw _ (List.mem_of_getElem? (i := 82) rfl)))) (mvT hZ10 (hw _ (List.mem_of_getElem? (i := 82) rfl))) (mvT hZ10 (hw _ (List.mem_of_getElem? (i := 81) rfl))) (by decide) (backOf (W := 0) (rm13 l Z a0 hw [] b1_10 uE T10.heap n0 O12 fc10_2) hZ10 (hw _ (List.mem_of_getElem? (i := 83) rfl)) (hw _ (List.mem_of_getElem? (i := 3) rfl)) (by decide) (by decide)) q16a q16c (g := (mkF m 57 #[.val (.long x0), .second, .val (.long (x0 &&& (9223372036854775807 : Int64))), .second, .val (.ref b1_10)] [(.ref b1_10)])) rfl (by rw [hml]; rfl) (Steps.refl _) (argsL := []) (rest := []) (lenOf pd___Ljava_util_Optional_ rfl) rfl (by show 2 * 0 + _ ≤ _; exact Nat.le_of_eq rfl) (hb hby at_57) (fun _ _ => ⟨rfl, eq15, (by decide : 6 + 0 ≤ _), (by decide : 132 + 0 ≤ _)⟩)
    dsimp only [Pt.U, Pt.locs, Pt.cells, Pt.slots] at X16 l16 y16 z16 st16 hQ16
    subst l16 y16 z16
    obtain ⟨rfl, N16q, eq16⟩ := hQ16
    have N16 := Fr.app N15 N16q
    refine own_t st16 ?_
    show Go p.tables e below _ (T16.setTop (mkF m 60 #[.val (.long x0), .second, .val (.long (x0 &&& (9223372036854775807 : Int64))), .second, .val (.ref b1_10)] [(.ref uE)]))
    obtain ⟨cq17, kq17, q17a, q17b, q17c⟩ := isOf hZ10 eq16 (OE_uE.ext O12.2)
    obtain ⟨_, _, ⟨T17, L17, k17, n17⟩, -, X17, ⟨Lc17, hQ17, l17, y17, z17⟩, st17⟩ := X16.virtualBack hx (y := (⟨"java/util/Optional", "isPresent", "()Z"⟩ : MethodName)) (z := (⟨"java/util/Optional", "isPresent", "()Z"⟩ : MethodName)) hown10 (mvT hZ10 (hw _ (List.mem_of_getElem? (i := 84) rfl))) (mvT hZ10 (hw _ (List.mem_of_getElem? (i := 62) rfl))) (notFace_of_selects (args := #[]) (mvT hZ10 (hw _ (List.mem_of_getElem? (i := 64) rfl)))) (mvT hZ10 (hw _ (List.mem_of_getElem? (i := 64) rfl))) (mvT hZ10 (hw _ (List.mem_of_getElem? (i := 63) rfl))) (by decide) (backOf (W := 0) (rm11 l Z a0 hw [] uE T10.heap n0 O12 (OF_uE.ext O12.2)) hZ10 (hw _ (List.mem_of_getElem? (i := 65) rfl)) (hw _ (List.mem_of_getElem? (i := 26) rfl)) (by decide) (by decide)) q17a q17c (g := (mkF m 60 #[.val (.long x0), .second, .val (.long (x0 &&& (9223372036854775807 : Int64))), .second, .val (.ref b1_10)] [(.ref uE)])) rfl (by rw [hml]; rfl) (Steps.refl _) (argsL := []) (rest := []) (lenOf pd___Z rfl) rfl (by show 2 * 0 + _ ≤ _; exact Nat.le_of_eq rfl) (hb hby at_60) (fun _ _ => ⟨rfl, eq16, (by decide : 6 + 0 ≤ _), (by decide : 132 + 0 ≤ _)⟩)
    dsimp only [Pt.U, Pt.locs, Pt.cells, Pt.slots] at X17 l17 y17 z17 st17 hQ17
    subst l17 y17 z17
    obtain ⟨rfl, N17q, eq17⟩ := hQ17
    have N17 := Fr.app N16 N17q
    refine own_t st17 ?_
    show Go p.tables e below _ (T17.setTop (mkF m 63 #[.val (.long x0), .second, .val (.long (x0 &&& (9223372036854775807 : Int64))), .second, .val (.ref b1_10)] [(.int (0 : Int32))]))
    refine own_s (fun t k => XS.ifNo X17.here hx rfl (hb hby at_63) rfl ((if0 _ _).trans (teq (rfl : (0 : Int32) = (0 : Int32))).2) k) ?_
    show Go p.tables e below _ (T17.setTop (mkF m 66 #[.val (.long x0), .second, .val (.long (x0 &&& (9223372036854775807 : Int64))), .second, .val (.ref b1_10)] []))
    refine own_s (fun t k => XS.iconst X17.here hx rfl (hb hby at_66) k) ?_
    show Go p.tables e below _ (T17.setTop (mkF m 67 #[.val (.long x0), .second, .val (.long (x0 &&& (9223372036854775807 : Int64))), .second, .val (.ref b1_10)] [(.int (1 : Int32))]))
    refine own_s (fun t k => XS.goto X17.here hx rfl (pc0 := 67) (pc' := 71) rfl (hb hby at_67) (by decide) (by decide) k) ?_
    show Go p.tables e below _ (T17.setTop (mkF m 71 #[.val (.long x0), .second, .val (.long (x0 &&& (9223372036854775807 : Int64))), .second, .val (.ref b1_10)] [(.int (1 : Int32))]))
    obtain ⟨fs, hr, hrun, hended, hEnd⟩ := X17.leaveW hS10 (show _ ≤ T17.heap.size from (by rw [eq17]; exact (Nat.le_refl _))) (v := (some (.int (1 : Int32)))) (fun h => by first | rfl | (rw [Bd.returns] at h; cases h))
    refine own_e ?_ hrun hended ⟨_, _, rfl, ?_, hEnd.1, hEnd.2.1, hEnd.2.2.1, hEnd.2.2.2.mono (by decide) (by decide)⟩
    · exact retN X17 hx (t := .boolean) Bd.returns (by simp) (hb hby at_71) hr
    · show Q_rm0 Z uE x0 h0 n0 _ T17.heap _
      rw [eq17]
      exact ⟨rfl, N17⟩
set_option maxRecDepth 65536 in
set_option maxHeartbeats 40000000 in
theorem comes_1 {Post : Tables → Env → Array Value → State → Outcome → State → Prop} (hpost : ∀ tb e args s v u, (limb_1_1.after args s (.returned v) u = true ∧ limb_1_2.after args s (.returned v) u = true ∧ True) → ReturnedEndW s (.returned v) u (Jvm.fieldLocs frame_1_writes args s ++ Jvm.arrayLocs frame_1_arrays args s ++ Jvm.staticLocs frame_1_statics s) 16 2176 → Post tb e args s (.returned v) u) :
    ArmFor flags0 classFile x code maxLocals ret World_1 tables_1 room_1 Calls_1 rest_1 Pre_1 Post := by
  intro l hfl _ _ p e ha hc hk s m args below hf hA hF happ hP
  obtain ⟨hcalls, hrest, hpre⟩ := hP
  obtain ⟨-, -, -, hnamed, -, -, -, hat⟩ := (Spec.applies_iff hf).mp happ
  obtain ⟨hg, hn⟩ := and_e (Cond.before_iff.mp (show (Jvm.Cond.and given_1 narrow_1).before args s = true from hpre))
  obtain ⟨g5, g6⟩ := and_e hg
  obtain ⟨w0, rfl⟩ : ∃ w0 : Value, args = #[w0] := by
    have hs : args.size = 1 := by simpa [Cond.value, given_1] using g5
    obtain ⟨L⟩ := args
    match L, hs with
    | [w0], _ => exact ⟨w0, rfl⟩
  have hw := fun d (hd : d ∈ tables_1) => atoms_spec (ws := Jvm.Cond.code x code maxLocals ret :: tables_1) hat d (List.mem_cons_of_mem _ hd)
  obtain ⟨i0, ei0⟩ := isL_v g6
  obtain rfl : w0 = (.long i0) := Option.some.inj ei0
  have hr0 := Cond.before_iff.mp (show rest_1_c.before #[.long i0] s = true from hrest)
  obtain ⟨r1, hr0⟩ := and_e hr0
  obtain ⟨r2, hr0⟩ := and_e hr0
  obtain ⟨r3, hr0⟩ := and_e hr0
  obtain ⟨r4, -⟩ := and_e hr0
  obtain ⟨uE, eE⟩ := exa_v r3
  have S1 := Sta.start eE (Or.inl (Cond.before_iff.mpr r2))
  have E1 := Exa.start eE r3
  have F1 : Fld s s.heap uE "java/util/Optional" "value" "Ljava/lang/Object;" .null := Fld.start (by have q := null_v r4; rw [fld_at eE] at q; exact q)
  obtain ⟨n, o, h1, h2, h3, _, L, rfl, ⟨rfl, N⟩, hq⟩ := rm0 l s _ hw tables_1 uE i0 s.heap s.heap.size (Old.start s) S1 E1 F1 p e ha hc hk s m _ below hf ((Spec.applies_iff_loose hf).mp happ).1 ⟨rfl, State.Warmed39.refl s, rfl⟩ trivial
  refine ⟨n, _, h1, h2, h3, hpost _ _ _ _ _ _ ⟨Cond.after_iff.mpr rfl, Cond.after_iff.mpr (eq_i res_at (Term.int_eval (1)) rfl), trivial⟩ ⟨hq.1, hq.2.1, hq.2.2.1, (hq.2.2.2.sift fun y hy => Or.inr (N y hy)).mono (by decide) (by decide)⟩⟩
theorem main_1_1 : Claimed_1_1 := comes_1 fun _ _ _ _ _ _ h hF => ⟨h.1, hF⟩
theorem main_1_2 : Claimed_1_2 := comes_1 fun _ _ _ _ _ _ h hF => ⟨h.2.1, hF⟩
end Jvm.Pilot.@@N@@
namespace Jvm.Pilot.@@N@@
open Jvm Jvm.ClassFile Sem Op Lib Jvm.Free Jvm.Stand Jvm.Pilot.@@N@@.Jvm.D
/-! MADE BY PROGRAM (witnessworld.py) out of the Statement's table words and the real class files: 18 classes; the members and pool entries that the words name. The judged class is class 1, her method 1. -/
namespace start1
open Jvm.ClassFile
def u (s : String) : CpInfo := .utf8 (stringToUtf16 s)
/-- a pool by its gaps: so many unusable entries, then the entry; so many at the end -/
def gap : Nat → List CpInfo → List CpInfo
  | 0, r => r
  | n + 1, r => .unusable :: gap n r
def poolList (es : List (Nat × CpInfo)) (last : Nat) : List CpInfo := es.foldr (fun e r => gap e.1 (e.2 :: r)) (gap last [])
def pool (es : List (Nat × CpInfo)) (last : Nat) : Array CpInfo := ⟨poolList es last⟩
def fileOf (pool : Array CpInfo) (this : Nat) (attrs : Array Attribute := #[]) (ms : Array MethodInfo := #[]) (fl : Nat := 33) (sup : Nat := 0) (ifs : Array Nat := #[]) (fds : Array FieldInfo := #[]) : ClassFile where
  minorVersion := 0
  majorVersion := 65
  constantPool := pool
  accessFlags := fl
  thisClass := this
  superClass := sup
  interfaces := ifs
  fields := fds
  methods := ms
  attributes := attrs
def plain (name : String) (sup : Option ClassId) : Class where
  name := name
  kind := .ordinary
  loader := none
  accessFlags := 33
  super := sup
  interfaces := #[]
  cf := none
  fields := #[]
  methods := #[]
  instanceTypes := #[]
  staticTypes := #[]
  resolved := #[]
  callSites := []
  init := .initialized
  statics := none
  mirror := none

def pool0 : Array CpInfo := pool [(5, u "<init>"), (0, u "()V"), (1, .class_ 10), (1, u "java/lang/Object")] 113

def k0c0 : Code := { maxStack := 0, maxLocals := 1, code := object_method_1_code, exceptionTable := #[], attributes := #[] }
def k0m0 : Method := { name := "<init>", desc := "()V", sig := { parameters := [], returnType := none }, accessFlags := 1, code := some k0c0 }
/-- java/lang/Object -/
def k0 : Class := { plain "java/lang/Object" none with
  accessFlags := 33
  interfaces := #[]
  cf := some (fileOf pool0 8 #[] #[{ accessFlags := 1, nameIndex := 5, descriptorIndex := 6, attributes := #[] }] 33 0 #[] #[])
  fields := #[]
  methods := #[k0m0]
  instanceTypes := #[]
  staticTypes := #[]
  resolved := Array.replicate 124 none
  statics := none }

def pool1 : Array CpInfo := pool [(2, .class_ 4), (1, u "java/lang/Object"), (0, u "<init>"), (0, u "()V"), (2, .long 9223372036854775807), (1, .methodref 12 13), (0, .class_ 14), (0, .nameAndType 15 16), (0, u "com/example/lock_by_lease/lockbylease/GrantResult"), (0, u "granted"), (0, u "(J)Lcom/example/lock_by_lease/lockbylease/GrantResult;"), (0, .methodref 12 18), (0, .nameAndType 19 20), (0, u "fence"), (0, u "()Ljava/util/OptionalLong;"), (0, .methodref 22 23), (0, .class_ 24), (0, .nameAndType 25 26), (0, u "java/util/OptionalLong"), (0, u "isPresent"), (0, u "()Z"), (0, .methodref 22 28), (0, .nameAndType 29 30), (0, u "getAsLong"), (0, u "()J"), (0, .methodref 12 32), (0, .nameAndType 33 34), (0, u "remaining"), (0, u "()Ljava/util/Optional;"), (0, .methodref 36 23), (0, .class_ 37), (0, u "java/util/Optional"), (0, .class_ 39), (0, u "com/example/lock_by_lease/lockbylease/GrantResultGrantedPinLaw"), (2, u "law"), (0, u "(J)Z")] 3

def k1m0 : Method := { name := "<init>", desc := "()V", sig := { parameters := [], returnType := none }, accessFlags := 1, code := none }
def k1c1 : Code := { maxStack := 4, maxLocals := 5, code := code, exceptionTable := #[], attributes := #[] }
def k1m1 : Method := { name := "law", desc := "(J)Z", sig := { parameters := [.long], returnType := some .boolean }, accessFlags := 9, code := some k1c1 }
/-- com/example/lock_by_lease/lockbylease/GrantResultGrantedPinLaw -/
def k1 : Class := { plain "com/example/lock_by_lease/lockbylease/GrantResultGrantedPinLaw" (some 0) with
  accessFlags := 49
  interfaces := #[]
  cf := some (fileOf pool1 38 #[] #[{ accessFlags := 1, nameIndex := 5, descriptorIndex := 6, attributes := #[] }, { accessFlags := 9, nameIndex := 42, descriptorIndex := 43, attributes := #[] }] 49 2 #[] #[])
  fields := #[]
  methods := #[k1m0, k1m1]
  instanceTypes := #[]
  staticTypes := #[]
  resolved := Array.replicate 47 none
  statics := none }

def pool2 : Array CpInfo := pool [(1, .methodref 2 3), (0, .class_ 4), (0, .nameAndType 5 6), (0, u "java/lang/Object"), (0, u "<init>"), (0, u "()V"), (0, .class_ 8), (0, u "java/lang/Record")] 13

def k2c0 : Code := { maxStack := 1, maxLocals := 1, code := jdk_30_method_1_code, exceptionTable := #[], attributes := #[] }
def k2m0 : Method := { name := "<init>", desc := "()V", sig := { parameters := [], returnType := none }, accessFlags := 4, code := some k2c0 }
/-- java/lang/Record -/
def k2 : Class := { plain "java/lang/Record" (some 0) with
  accessFlags := 1057
  interfaces := #[]
  cf := some (fileOf pool2 7 #[] #[{ accessFlags := 4, nameIndex := 5, descriptorIndex := 6, attributes := #[] }] 1057 2 #[] #[])
  fields := #[]
  methods := #[k2m0]
  instanceTypes := #[]
  staticTypes := #[]
  resolved := Array.replicate 22 none
  statics := none }

def pool3 : Array CpInfo := pool [(1, .methodref 2 3), (0, .class_ 4), (0, .nameAndType 5 6), (0, u "java/lang/Record"), (0, u "<init>"), (0, u "()V"), (0, .string 8), (0, u "fence is null"), (0, .methodref 10 11), (0, .class_ 12), (0, .nameAndType 13 14), (0, u "java/util/Objects"), (0, u "requireNonNull"), (0, u "(Ljava/lang/Object;Ljava/lang/String;)Ljava/lang/Object;"), (0, .string 16), (0, u "remaining is null"), (0, .methodref 18 19), (0, .class_ 20), (0, .nameAndType 21 22), (0, u "java/util/OptionalLong"), (0, u "isPresent"), (0, u "()Z"), (0, .methodref 18 24), (0, .nameAndType 25 26), (0, u "getAsLong"), (0, u "()J"), (9, .methodref 37 19), (0, .class_ 38), (0, u "java/util/Optional"), (20, .fieldref 60 61), (0, .class_ 62), (0, .nameAndType 63 64), (0, u "com/example/lock_by_lease/lockbylease/GrantResult"), (0, u "fence"), (0, u "Ljava/util/OptionalLong;"), (0, .fieldref 60 66), (0, .nameAndType 67 68), (0, u "remaining"), (0, u "Ljava/util/Optional;"), (0, .methodref 18 70), (0, .nameAndType 71 72), (0, u "of"), (0, u "(J)Ljava/util/OptionalLong;"), (0, .methodref 37 74), (0, .nameAndType 75 76), (0, u "empty"), (0, u "()Ljava/util/Optional;"), (0, .methodref 60 78), (0, .nameAndType 5 79), (0, u "(Ljava/util/OptionalLong;Ljava/util/Optional;)V"), (2, u "()Ljava/util/OptionalLong;"), (22, u "granted"), (0, u "(J)Lcom/example/lock_by_lease/lockbylease/GrantResult;")] 38

def k3c0 : Code := { maxStack := 4, maxLocals := 3, code := prog_3_method_1_code, exceptionTable := #[], attributes := #[] }
def k3m0 : Method := { name := "<init>", desc := "(Ljava/util/OptionalLong;Ljava/util/Optional;)V", sig := { parameters := [(.object "java/util/OptionalLong"), (.object "java/util/Optional")], returnType := none }, accessFlags := 1, code := some k3c0 }
def k3c1 : Code := { maxStack := 4, maxLocals := 2, code := prog_3_method_2_code, exceptionTable := #[], attributes := #[] }
def k3m1 : Method := { name := "granted", desc := "(J)Lcom/example/lock_by_lease/lockbylease/GrantResult;", sig := { parameters := [.long], returnType := some (.object "com/example/lock_by_lease/lockbylease/GrantResult") }, accessFlags := 9, code := some k3c1 }
def k3c2 : Code := { maxStack := 1, maxLocals := 1, code := prog_3_method_8_code, exceptionTable := #[], attributes := #[] }
def k3m2 : Method := { name := "fence", desc := "()Ljava/util/OptionalLong;", sig := { parameters := [], returnType := some (.object "java/util/OptionalLong") }, accessFlags := 1, code := some k3c2 }
def k3c3 : Code := { maxStack := 1, maxLocals := 1, code := prog_3_method_9_code, exceptionTable := #[], attributes := #[] }
def k3m3 : Method := { name := "remaining", desc := "()Ljava/util/Optional;", sig := { parameters := [], returnType := some (.object "java/util/Optional") }, accessFlags := 1, code := some k3c3 }
/-- com/example/lock_by_lease/lockbylease/GrantResult -/
def k3 : Class := { plain "com/example/lock_by_lease/lockbylease/GrantResult" (some 2) with
  accessFlags := 49
  interfaces := #[]
  cf := some (fileOf pool3 60 #[] #[{ accessFlags := 1, nameIndex := 5, descriptorIndex := 79, attributes := #[] }, { accessFlags := 9, nameIndex := 105, descriptorIndex := 106, attributes := #[] }, { accessFlags := 1, nameIndex := 63, descriptorIndex := 82, attributes := #[] }, { accessFlags := 1, nameIndex := 67, descriptorIndex := 76, attributes := #[] }] 49 2 #[] #[{ accessFlags := 18, nameIndex := 63, descriptorIndex := 64, attributes := #[] }, { accessFlags := 18, nameIndex := 67, descriptorIndex := 68, attributes := #[] }])
  fields := #[{ name := "fence", type := (.object "java/util/OptionalLong"), accessFlags := 18, slot := 0, constantValue := 0 }, { name := "remaining", type := (.object "java/util/Optional"), accessFlags := 18, slot := 1, constantValue := 0 }]
  methods := #[k3m0, k3m1, k3m2, k3m3]
  instanceTypes := #[(.object "java/util/OptionalLong"), (.object "java/util/Optional")]
  staticTypes := #[]
  resolved := Array.replicate 145 none
  statics := none }

def pool4 : Array CpInfo := pool [(1, .methodref 2 3), (0, .class_ 4), (0, .nameAndType 5 6), (0, u "java/lang/Object"), (0, u "<init>"), (0, u "()V"), (0, .fieldref 8 9), (0, .class_ 10), (0, .nameAndType 11 12), (0, u "java/util/OptionalLong"), (0, u "isPresent"), (0, u "Z"), (0, .fieldref 8 14), (0, .nameAndType 15 16), (0, u "value"), (0, u "J"), (2, u "EMPTY"), (0, u "Ljava/util/OptionalLong;"), (0, .methodref 8 22), (0, .nameAndType 5 23), (0, u "(J)V"), (21, u "of"), (9, u "getAsLong"), (0, u "()J"), (40, u "(J)Ljava/util/OptionalLong;"), (1, u "()Z")] 38

def k4m0 : Method := { name := "<init>", desc := "()V", sig := { parameters := [], returnType := none }, accessFlags := 2, code := none }
def k4c1 : Code := { maxStack := 3, maxLocals := 3, code := jdk_2650_method_3_code, exceptionTable := #[], attributes := #[] }
def k4m1 : Method := { name := "<init>", desc := "(J)V", sig := { parameters := [.long], returnType := none }, accessFlags := 2, code := some k4c1 }
def k4c2 : Code := { maxStack := 4, maxLocals := 2, code := jdk_2650_method_4_code, exceptionTable := #[], attributes := #[] }
def k4m2 : Method := { name := "of", desc := "(J)Ljava/util/OptionalLong;", sig := { parameters := [.long], returnType := some (.object "java/util/OptionalLong") }, accessFlags := 9, code := some k4c2 }
def k4c3 : Code := { maxStack := 3, maxLocals := 1, code := jdk_2650_method_5_code, exceptionTable := #[], attributes := #[] }
def k4m3 : Method := { name := "getAsLong", desc := "()J", sig := { parameters := [], returnType := some .long }, accessFlags := 1, code := some k4c3 }
def k4c4 : Code := { maxStack := 1, maxLocals := 1, code := jdk_2650_method_6_code, exceptionTable := #[], attributes := #[] }
def k4m4 : Method := { name := "isPresent", desc := "()Z", sig := { parameters := [], returnType := some .boolean }, accessFlags := 1, code := some k4c4 }
/-- java/util/OptionalLong -/
def k4 : Class := { plain "java/util/OptionalLong" (some 0) with
  accessFlags := 49
  interfaces := #[]
  cf := some (fileOf pool4 8 #[] #[{ accessFlags := 2, nameIndex := 5, descriptorIndex := 6, attributes := #[] }, { accessFlags := 2, nameIndex := 5, descriptorIndex := 23, attributes := #[] }, { accessFlags := 9, nameIndex := 45, descriptorIndex := 97, attributes := #[] }, { accessFlags := 1, nameIndex := 55, descriptorIndex := 56, attributes := #[] }, { accessFlags := 1, nameIndex := 11, descriptorIndex := 99, attributes := #[] }] 49 2 #[] #[{ accessFlags := 26, nameIndex := 19, descriptorIndex := 20, attributes := #[] }, { accessFlags := 18, nameIndex := 11, descriptorIndex := 12, attributes := #[] }, { accessFlags := 18, nameIndex := 15, descriptorIndex := 16, attributes := #[] }])
  fields := #[{ name := "EMPTY", type := (.object "java/util/OptionalLong"), accessFlags := 26, slot := 0, constantValue := 0 }, { name := "isPresent", type := .boolean, accessFlags := 18, slot := 0, constantValue := 0 }, { name := "value", type := .long, accessFlags := 18, slot := 1, constantValue := 0 }]
  methods := #[k4m0, k4m1, k4m2, k4m3, k4m4]
  instanceTypes := #[.boolean, .long]
  staticTypes := #[(.object "java/util/OptionalLong")]
  resolved := Array.replicate 138 none
  statics := none }

def pool5 : Array CpInfo := pool [(1, .fieldref 2 3), (0, .class_ 4), (0, .nameAndType 5 6), (0, u "java/util/Optional"), (0, u "EMPTY"), (0, u "Ljava/util/Optional;"), (1, .class_ 10), (1, u "java/lang/Object"), (2, .fieldref 2 14), (0, .nameAndType 15 16), (0, u "value"), (0, u "Ljava/lang/Object;"), (29, u "()Z"), (8, u "empty"), (0, u "()Ljava/util/Optional;"), (11, u "isPresent")] 118

def k5c0 : Code := { maxStack := 1, maxLocals := 1, code := jdk_32_method_1_code, exceptionTable := #[], attributes := #[] }
def k5m0 : Method := { name := "empty", desc := "()Ljava/util/Optional;", sig := { parameters := [], returnType := some (.object "java/util/Optional") }, accessFlags := 9, code := some k5c0 }
def k5c1 : Code := { maxStack := 1, maxLocals := 1, code := jdk_32_method_6_code, exceptionTable := #[], attributes := #[] }
def k5m1 : Method := { name := "isPresent", desc := "()Z", sig := { parameters := [], returnType := some .boolean }, accessFlags := 1, code := some k5c1 }
/-- java/util/Optional -/
def k5 : Class := { plain "java/util/Optional" (some 0) with
  accessFlags := 49
  interfaces := #[]
  cf := some (fileOf pool5 2 #[] #[{ accessFlags := 9, nameIndex := 55, descriptorIndex := 56, attributes := #[] }, { accessFlags := 1, nameIndex := 68, descriptorIndex := 46, attributes := #[] }] 49 8 #[] #[{ accessFlags := 26, nameIndex := 5, descriptorIndex := 6, attributes := #[] }, { accessFlags := 18, nameIndex := 15, descriptorIndex := 16, attributes := #[] }])
  fields := #[{ name := "EMPTY", type := (.object "java/util/Optional"), accessFlags := 26, slot := 0, constantValue := 0 }, { name := "value", type := (.object "java/lang/Object"), accessFlags := 18, slot := 0, constantValue := 0 }]
  methods := #[k5m0, k5m1]
  instanceTypes := #[(.object "java/lang/Object")]
  staticTypes := #[(.object "java/util/Optional")]
  resolved := Array.replicate 187 none
  statics := some 0 }

def pool6 : Array CpInfo := pool [(1, .class_ 2), (0, u "java/io/Serializable"), (0, .class_ 4), (0, u "java/lang/Object")] 2

/-- java/io/Serializable -/
def k6 : Class := { plain "java/io/Serializable" (some 0) with
  accessFlags := 1537
  interfaces := #[]
  cf := some (fileOf pool6 1 #[] #[] 1537 3 #[] #[])
  fields := #[]
  methods := #[]
  instanceTypes := #[]
  staticTypes := #[]
  resolved := Array.replicate 7 none
  statics := none }

def pool7 : Array CpInfo := pool [(1, .class_ 2), (0, u "java/lang/Comparable"), (0, .class_ 4), (0, u "java/lang/Object")] 7

/-- java/lang/Comparable -/
def k7 : Class := { plain "java/lang/Comparable" (some 0) with
  accessFlags := 1537
  interfaces := #[]
  cf := some (fileOf pool7 1 #[] #[] 1537 3 #[] #[])
  fields := #[]
  methods := #[]
  instanceTypes := #[]
  staticTypes := #[]
  resolved := Array.replicate 12 none
  statics := none }

def pool8 : Array CpInfo := pool [(2, .class_ 4), (1, u "java/lang/CharSequence"), (42, .class_ 48), (0, u "java/lang/CharSequence$1CodePointIterator"), (10, .class_ 60), (0, u "java/lang/CharSequence$1CharIterator"), (5, .class_ 67), (0, u "java/lang/Object")] 63

/-- java/lang/CharSequence -/
def k8 : Class := { plain "java/lang/CharSequence" (some 0) with
  accessFlags := 1537
  interfaces := #[]
  cf := some (fileOf pool8 2 #[.nestMembers #[47, 59]] #[] 1537 66 #[] #[])
  fields := #[]
  methods := #[]
  instanceTypes := #[]
  staticTypes := #[]
  resolved := Array.replicate 131 none
  statics := none }

def pool9 : Array CpInfo := pool [(1, .class_ 2), (0, u "java/lang/constant/Constable"), (0, .class_ 4), (0, u "java/lang/Object")] 6

/-- java/lang/constant/Constable -/
def k9 : Class := { plain "java/lang/constant/Constable" (some 0) with
  accessFlags := 1537
  interfaces := #[]
  cf := some (fileOf pool9 1 #[] #[] 1537 3 #[] #[])
  fields := #[]
  methods := #[]
  instanceTypes := #[]
  staticTypes := #[]
  resolved := Array.replicate 11 none
  statics := none }

def pool10 : Array CpInfo := pool [(1, .class_ 2), (0, u "java/lang/constant/ConstantDesc"), (0, .class_ 4), (0, u "java/lang/Object")] 32

/-- java/lang/constant/ConstantDesc -/
def k10 : Class := { plain "java/lang/constant/ConstantDesc" (some 0) with
  accessFlags := 1537
  interfaces := #[]
  cf := some (fileOf pool10 1 #[] #[] 1537 3 #[] #[])
  fields := #[]
  methods := #[]
  instanceTypes := #[]
  staticTypes := #[]
  resolved := Array.replicate 37 none
  statics := none }

def pool11 : Array CpInfo := pool [(2, .class_ 4), (1, u "java/lang/Object"), (0, u "<init>"), (0, u "()V"), (3, .class_ 12), (1, u "java/lang/String"), (0, u "value"), (0, u "[B"), (2, u "coder"), (0, u "B"), (2, u "hash"), (0, u "I"), (2, u "hashIsZero"), (0, u "Z"), (13, u "COMPACT_STRINGS"), (534, .class_ 576), (0, u "java/lang/CharSequence"), (22, u "CASE_INSENSITIVE_ORDER"), (0, u "Ljava/util/Comparator;"), (500, u "serialPersistentFields"), (0, u "[Ljava/io/ObjectStreamField;"), (0, .class_ 1104), (0, u "java/lang/String$CaseInsensitiveComparator"), (1, .class_ 1107), (0, u "java/io/Serializable"), (0, .class_ 1109), (0, u "java/lang/Comparable"), (0, .class_ 1111), (0, u "java/lang/constant/Constable"), (0, .class_ 1113), (0, u "java/lang/constant/ConstantDesc"), (2, u "serialVersionUID"), (0, u "J"), (3, u "REPL"), (0, u "C"), (2, u "LATIN1"), (1, u "UTF16")] 323

def k11m0 : Method := { name := "<init>", desc := "()V", sig := { parameters := [], returnType := none }, accessFlags := 1, code := none }
/-- java/lang/String -/
def k11 : Class := { plain "java/lang/String" (some 0) with
  accessFlags := 49
  interfaces := #[6, 7, 8, 9, 10]
  cf := some (fileOf pool11 10 #[.nestMembers #[1103]] #[{ accessFlags := 1, nameIndex := 5, descriptorIndex := 6, attributes := #[] }] 49 2 #[1106, 1108, 575, 1110, 1112] #[{ accessFlags := 18, nameIndex := 13, descriptorIndex := 14, attributes := #[] }, { accessFlags := 18, nameIndex := 17, descriptorIndex := 18, attributes := #[] }, { accessFlags := 2, nameIndex := 21, descriptorIndex := 22, attributes := #[] }, { accessFlags := 2, nameIndex := 25, descriptorIndex := 26, attributes := #[] }, { accessFlags := 26, nameIndex := 1116, descriptorIndex := 1117, attributes := #[] }, { accessFlags := 24, nameIndex := 40, descriptorIndex := 26, attributes := #[] }, { accessFlags := 26, nameIndex := 1101, descriptorIndex := 1102, attributes := #[] }, { accessFlags := 26, nameIndex := 1121, descriptorIndex := 1122, attributes := #[] }, { accessFlags := 25, nameIndex := 599, descriptorIndex := 600, attributes := #[] }, { accessFlags := 24, nameIndex := 1125, descriptorIndex := 18, attributes := #[] }, { accessFlags := 24, nameIndex := 1127, descriptorIndex := 18, attributes := #[] }])
  fields := #[{ name := "value", type := (.array .byte), accessFlags := 18, slot := 0, constantValue := 0 }, { name := "coder", type := .byte, accessFlags := 18, slot := 1, constantValue := 0 }, { name := "hash", type := .int, accessFlags := 2, slot := 2, constantValue := 0 }, { name := "hashIsZero", type := .boolean, accessFlags := 2, slot := 3, constantValue := 0 }, { name := "serialVersionUID", type := .long, accessFlags := 26, slot := 0, constantValue := 0 }, { name := "COMPACT_STRINGS", type := .boolean, accessFlags := 24, slot := 1, constantValue := 0 }, { name := "serialPersistentFields", type := (.array (.object "java/io/ObjectStreamField")), accessFlags := 26, slot := 2, constantValue := 0 }, { name := "REPL", type := .char, accessFlags := 26, slot := 3, constantValue := 0 }, { name := "CASE_INSENSITIVE_ORDER", type := (.object "java/util/Comparator"), accessFlags := 25, slot := 4, constantValue := 0 }, { name := "LATIN1", type := .byte, accessFlags := 24, slot := 5, constantValue := 0 }, { name := "UTF16", type := .byte, accessFlags := 24, slot := 6, constantValue := 0 }]
  methods := #[k11m0]
  instanceTypes := #[(.array .byte), .byte, .int, .boolean]
  staticTypes := #[.long, .boolean, (.array (.object "java/io/ObjectStreamField")), .char, (.object "java/util/Comparator"), .byte, .byte]
  resolved := Array.replicate 1451 none
  statics := none }

def pool12 : Array CpInfo := pool [(2, .class_ 4), (1, u "java/lang/Object"), (0, u "<init>"), (0, u "()V"), (35, .class_ 44), (1, u "java/util/Objects"), (0, u "requireNonNull"), (48, u "(Ljava/lang/Object;Ljava/lang/String;)Ljava/lang/Object;")] 89

def k12m0 : Method := { name := "<init>", desc := "()V", sig := { parameters := [], returnType := none }, accessFlags := 2, code := none }
def k12c1 : Code := { maxStack := 3, maxLocals := 2, code := jdk_31_method_11_code, exceptionTable := #[], attributes := #[] }
def k12m1 : Method := { name := "requireNonNull", desc := "(Ljava/lang/Object;Ljava/lang/String;)Ljava/lang/Object;", sig := { parameters := [(.object "java/lang/Object"), (.object "java/lang/String")], returnType := some (.object "java/lang/Object") }, accessFlags := 9, code := some k12c1 }
/-- java/util/Objects -/
def k12 : Class := { plain "java/util/Objects" (some 0) with
  accessFlags := 49
  interfaces := #[]
  cf := some (fileOf pool12 42 #[] #[{ accessFlags := 2, nameIndex := 5, descriptorIndex := 6, attributes := #[] }, { accessFlags := 9, nameIndex := 45, descriptorIndex := 94, attributes := #[] }] 49 2 #[] #[])
  fields := #[]
  methods := #[k12m0, k12m1]
  instanceTypes := #[]
  staticTypes := #[]
  resolved := Array.replicate 184 none
  statics := none }

def pool13 : Array CpInfo := pool [(1, u "java/lang/Cloneable"), (0, .class_ 1), (0, u "java/lang/Object"), (0, .class_ 3)] 3

/-- java/lang/Cloneable -/
def k13 : Class := { plain "java/lang/Cloneable" (some 0) with
  accessFlags := 1537
  interfaces := #[]
  cf := some (fileOf pool13 2 #[] #[] 1537 4 #[] #[])
  fields := #[]
  methods := #[]
  instanceTypes := #[]
  staticTypes := #[]
  resolved := Array.replicate 8 none
  statics := none }

/-- the primitive byte -/
def k14 : Class := { plain "byte" none with kind := .primitive 'B', accessFlags := 0x411 }
/-- [B -/
def k15 : Class := { plain "[B" (some 0) with kind := .array 14 .byte, interfaces := #[13, 6], accessFlags := 1041 }

/-- the primitive int -/
def k16 : Class := { plain "int" none with kind := .primitive 'I', accessFlags := 0x411 }
/-- [I -/
def k17 : Class := { plain "[I" (some 0) with kind := .array 16 .int, interfaces := #[13, 6], accessFlags := 1041 }

def heap : Heap := #[{ cls := 5, slots := #[.ref 1], vm := .statics 5 },
  { cls := 5, slots := #[.null], vm := .none }]
def classes : Array Class := #[k0, k1, k2, k3, k4, k5, k6, k7, k8, k9, k10, k11, k12, k13, k14, k15, k16, k17]
def interned : List (Array UInt16 × Addr) := []
def slotsUsed : Nat := 2
def theMethod : MethodId := ⟨1, 1⟩
def args0 : Array Value := #[.long 5]
def aboutOver (below : List Frame) : State where
  vm := { classes := classes, interned := interned.toArray }
  heap := heap
  slotsUsed := slotsUsed
  threads := #[{ frames := .invoking theMethod args0 :: below }]
def below0 : List Frame := [.native { method := ⟨0, 0⟩, args := #[] }]
def about1 : State := aboutOver below0
def p0 : Program := .bare "" "" ""
def e0 : Env := launch0.env 0 0 0
theorem w_frames : about1.frames = Frame.invoking theMethod args0 :: below0 := rfl
set_option maxRecDepth 65536 in
theorem w_args : argsFit about1.vm theMethod args0 = true := by decide +kernel
set_option maxRecDepth 65536 in
theorem w_heap : heapFits about1 = true := by decide +kernel
set_option maxRecDepth 65536 in
theorem w_runnable : about1.curStatus? = some .runnable := by decide +kernel
set_option maxRecDepth 65536 in
theorem w_alone : about1.alone = true := by decide +kernel
set_option maxRecDepth 65536 in
theorem w_named : about1.methodNamed? x = some theMethod := by decide +kernel
set_option maxRecDepth 65536 in
theorem w_hears : about1.hears theMethod below0 = true := by decide +kernel
set_option maxRecDepth 65536 in
theorem w_ripe : about1.ripe theMethod args0 below0 = true := by decide +kernel
theorem w_running : about1.status = .running := rfl
set_option maxRecDepth 65536 in
theorem w_room : about1.hasRoom e0.platform room_1 = true :=
  launch0.hasRoom_least _ room_1 (by decide +kernel) (by decide +kernel) (by decide +kernel) (by decide +kernel) (by decide +kernel) (by decide +kernel)
theorem allAtoms_all (ts : List Jvm.Cond) (a : Array Jvm.Value) (st : Jvm.State) : (allAtoms ts).before a st = ts.all (fun c => c.before a st) := by
  induction ts with
  | nil => rfl
  | cons c t ih =>
    show (Jvm.Cond.and c (allAtoms t)).before a st = _
    rw [Jvm.Cond.before_and, ih, List.all_cons]
def words1 : List Jvm.Cond := Jvm.Cond.code x code maxLocals ret :: tables_1
/-- a 'code' word, met by the world's own term for the bytes: nothing is compared byte by byte -/
theorem code_word {y : MethodName} {bytes : ByteArray} {mx : Nat} {rt : Option FieldType} {a : Array Value} {s : State} {m : MethodId} {meth : Method} {c : Code} (h1 : s.methodNamed? y = some m) (h2 : s.vm.method? m = some meth) (h3 : meth.code = some c) (h4 : c.code = bytes)
    (h5 : (c.maxLocals == mx && c.exceptionTable.isEmpty && decide (c.maxStack ≤ mostOperands) && decide (meth.sig.returnType = rt) && !meth.locks && decide (parseMethodDescriptor y.desc = some meth.sig)) = true) : (Jvm.Cond.code y bytes mx rt).before a s = true := by
  simp only [Bool.and_eq_true, beq_iff_eq, Bool.not_eq_true', decide_eq_true_eq] at h5
  obtain ⟨⟨⟨⟨⟨g1, g2⟩, g3⟩, g4⟩, g5⟩, g6⟩ := h5
  simp [Cond.before, Cond.holds, Cond.value, h1, h2, h3, h4, g1, g2, g3, g4, g5, g6]
def isCode : Jvm.Cond → Bool
  | .code _ _ _ _ => true
  | _ => false
theorem all_split {L : List Jvm.Cond} {P : Jvm.Cond → Bool} (h1 : L.all (fun c => isCode c || P c) = true) (h2 : ∀ c ∈ L.filter isCode, P c = true) : L.all P = true := by
  refine List.all_eq_true.mpr fun c hc => ?_
  have h := List.all_eq_true.mp h1 c hc
  rcases Bool.eq_false_or_eq_true (isCode c) with hi | hi
  · exact h2 c (List.mem_filter.mpr ⟨hc, hi⟩)
  · simpa [hi] using h
set_option maxRecDepth 65536 in
theorem w_c0 : (Jvm.Cond.code x code maxLocals ret).before args0 about1 = true := code_word (m := ⟨1, 1⟩) (meth := k1m1) (c := k1c1) (by decide +kernel) rfl rfl rfl (by decide +kernel)
set_option maxRecDepth 65536 in
theorem w_c1 : (Jvm.Cond.code ({ cls := "com/example/lock_by_lease/lockbylease/GrantResult", name := "granted", desc := "(J)Lcom/example/lock_by_lease/lockbylease/GrantResult;" } : Jvm.MethodName) prog_3_method_2_code (2 : Nat) (Option.some (Jvm.ClassFile.FieldType.object "com/example/lock_by_lease/lockbylease/GrantResult"))).before args0 about1 = true := code_word (m := ⟨3, 1⟩) (meth := k3m1) (c := k3c1) (by decide +kernel) rfl rfl rfl (by decide +kernel)
set_option maxRecDepth 65536 in
theorem w_c2 : (Jvm.Cond.code ({ cls := "java/util/OptionalLong", name := "of", desc := "(J)Ljava/util/OptionalLong;" } : Jvm.MethodName) jdk_2650_method_4_code (2 : Nat) (Option.some (Jvm.ClassFile.FieldType.object "java/util/OptionalLong"))).before args0 about1 = true := code_word (m := ⟨4, 2⟩) (meth := k4m2) (c := k4c2) (by decide +kernel) rfl rfl rfl (by decide +kernel)
set_option maxRecDepth 65536 in
theorem w_c3 : (Jvm.Cond.code ({ cls := "java/util/OptionalLong", name := "<init>", desc := "(J)V" } : Jvm.MethodName) jdk_2650_method_3_code (3 : Nat) (Option.none : Option Jvm.ClassFile.FieldType)).before args0 about1 = true := code_word (m := ⟨4, 1⟩) (meth := k4m1) (c := k4c1) (by decide +kernel) rfl rfl rfl (by decide +kernel)
set_option maxRecDepth 65536 in
theorem w_c4 : (Jvm.Cond.code ({ cls := "java/lang/Object", name := "<init>", desc := "()V" } : Jvm.MethodName) object_method_1_code (1 : Nat) (Option.none : Option Jvm.ClassFile.FieldType)).before args0 about1 = true := code_word (m := ⟨0, 0⟩) (meth := k0m0) (c := k0c0) (by decide +kernel) rfl rfl rfl (by decide +kernel)
set_option maxRecDepth 65536 in
theorem w_c5 : (Jvm.Cond.code ({ cls := "java/util/Optional", name := "empty", desc := "()Ljava/util/Optional;" } : Jvm.MethodName) jdk_32_method_1_code (1 : Nat) (Option.some (Jvm.ClassFile.FieldType.object "java/util/Optional"))).before args0 about1 = true := code_word (m := ⟨5, 0⟩) (meth := k5m0) (c := k5c0) (by decide +kernel) rfl rfl rfl (by decide +kernel)
set_option maxRecDepth 65536 in
theorem w_c6 : (Jvm.Cond.code ({ cls := "com/example/lock_by_lease/lockbylease/GrantResult", name := "<init>", desc := "(Ljava/util/OptionalLong;Ljava/util/Optional;)V" } : Jvm.MethodName) prog_3_method_1_code (3 : Nat) (Option.none : Option Jvm.ClassFile.FieldType)).before args0 about1 = true := code_word (m := ⟨3, 0⟩) (meth := k3m0) (c := k3c0) (by decide +kernel) rfl rfl rfl (by decide +kernel)
set_option maxRecDepth 65536 in
theorem w_c7 : (Jvm.Cond.code ({ cls := "java/lang/Record", name := "<init>", desc := "()V" } : Jvm.MethodName) jdk_30_method_1_code (1 : Nat) (Option.none : Option Jvm.ClassFile.FieldType)).before args0 about1 = true := code_word (m := ⟨2, 0⟩) (meth := k2m0) (c := k2c0) (by decide +kernel) rfl rfl rfl (by decide +kernel)
set_option maxRecDepth 65536 in
theorem w_c8 : (Jvm.Cond.code ({ cls := "java/util/Objects", name := "requireNonNull", desc := "(Ljava/lang/Object;Ljava/lang/String;)Ljava/lang/Object;" } : Jvm.MethodName) jdk_31_method_11_code (2 : Nat) (Option.some (Jvm.ClassFile.FieldType.object "java/lang/Object"))).before args0 about1 = true := code_word (m := ⟨12, 1⟩) (meth := k12m1) (c := k12c1) (by decide +kernel) rfl rfl rfl (by decide +kernel)
set_option maxRecDepth 65536 in
theorem w_c9 : (Jvm.Cond.code ({ cls := "java/util/OptionalLong", name := "isPresent", desc := "()Z" } : Jvm.MethodName) jdk_2650_method_6_code (1 : Nat) (Option.some Jvm.ClassFile.FieldType.boolean)).before args0 about1 = true := code_word (m := ⟨4, 4⟩) (meth := k4m4) (c := k4c4) (by decide +kernel) rfl rfl rfl (by decide +kernel)
set_option maxRecDepth 65536 in
theorem w_c10 : (Jvm.Cond.code ({ cls := "java/util/OptionalLong", name := "getAsLong", desc := "()J" } : Jvm.MethodName) jdk_2650_method_5_code (1 : Nat) (Option.some Jvm.ClassFile.FieldType.long)).before args0 about1 = true := code_word (m := ⟨4, 3⟩) (meth := k4m3) (c := k4c3) (by decide +kernel) rfl rfl rfl (by decide +kernel)
set_option maxRecDepth 65536 in
theorem w_c11 : (Jvm.Cond.code ({ cls := "java/util/Optional", name := "isPresent", desc := "()Z" } : Jvm.MethodName) jdk_32_method_6_code (1 : Nat) (Option.some Jvm.ClassFile.FieldType.boolean)).before args0 about1 = true := code_word (m := ⟨5, 1⟩) (meth := k5m1) (c := k5c1) (by decide +kernel) rfl rfl rfl (by decide +kernel)
set_option maxRecDepth 65536 in
theorem w_c12 : (Jvm.Cond.code ({ cls := "com/example/lock_by_lease/lockbylease/GrantResult", name := "fence", desc := "()Ljava/util/OptionalLong;" } : Jvm.MethodName) prog_3_method_8_code (1 : Nat) (Option.some (Jvm.ClassFile.FieldType.object "java/util/OptionalLong"))).before args0 about1 = true := code_word (m := ⟨3, 2⟩) (meth := k3m2) (c := k3c2) (by decide +kernel) rfl rfl rfl (by decide +kernel)
set_option maxRecDepth 65536 in
theorem w_c13 : (Jvm.Cond.code ({ cls := "com/example/lock_by_lease/lockbylease/GrantResult", name := "remaining", desc := "()Ljava/util/Optional;" } : Jvm.MethodName) prog_3_method_9_code (1 : Nat) (Option.some (Jvm.ClassFile.FieldType.object "java/util/Optional"))).before args0 about1 = true := code_word (m := ⟨3, 3⟩) (meth := k3m3) (c := k3c3) (by decide +kernel) rfl rfl rfl (by decide +kernel)
def codes1 : List Jvm.Cond := [Jvm.Cond.code x code maxLocals ret, Jvm.Cond.code ({ cls := "com/example/lock_by_lease/lockbylease/GrantResult", name := "granted", desc := "(J)Lcom/example/lock_by_lease/lockbylease/GrantResult;" } : Jvm.MethodName) prog_3_method_2_code (2 : Nat) (Option.some (Jvm.ClassFile.FieldType.object "com/example/lock_by_lease/lockbylease/GrantResult")), Jvm.Cond.code ({ cls := "java/util/OptionalLong", name := "of", desc := "(J)Ljava/util/OptionalLong;" } : Jvm.MethodName) jdk_2650_method_4_code (2 : Nat) (Option.some (Jvm.ClassFile.FieldType.object "java/util/OptionalLong")), Jvm.Cond.code ({ cls := "java/util/OptionalLong", name := "<init>", desc := "(J)V" } : Jvm.MethodName) jdk_2650_method_3_code (3 : Nat) (Option.none : Option Jvm.ClassFile.FieldType), Jvm.Cond.code ({ cls := "java/lang/Object", name := "<init>", desc := "()V" } : Jvm.MethodName) object_method_1_code (1 : Nat) (Option.none : Option Jvm.ClassFile.FieldType), Jvm.Cond.code ({ cls := "java/util/Optional", name := "empty", desc := "()Ljava/util/Optional;" } : Jvm.MethodName) jdk_32_method_1_code (1 : Nat) (Option.some (Jvm.ClassFile.FieldType.object "java/util/Optional")), Jvm.Cond.code ({ cls := "com/example/lock_by_lease/lockbylease/GrantResult", name := "<init>", desc := "(Ljava/util/OptionalLong;Ljava/util/Optional;)V" } : Jvm.MethodName) prog_3_method_1_code (3 : Nat) (Option.none : Option Jvm.ClassFile.FieldType), Jvm.Cond.code ({ cls := "java/lang/Record", name := "<init>", desc := "()V" } : Jvm.MethodName) jdk_30_method_1_code (1 : Nat) (Option.none : Option Jvm.ClassFile.FieldType), Jvm.Cond.code ({ cls := "java/util/Objects", name := "requireNonNull", desc := "(Ljava/lang/Object;Ljava/lang/String;)Ljava/lang/Object;" } : Jvm.MethodName) jdk_31_method_11_code (2 : Nat) (Option.some (Jvm.ClassFile.FieldType.object "java/lang/Object")), Jvm.Cond.code ({ cls := "java/util/OptionalLong", name := "isPresent", desc := "()Z" } : Jvm.MethodName) jdk_2650_method_6_code (1 : Nat) (Option.some Jvm.ClassFile.FieldType.boolean), Jvm.Cond.code ({ cls := "java/util/OptionalLong", name := "getAsLong", desc := "()J" } : Jvm.MethodName) jdk_2650_method_5_code (1 : Nat) (Option.some Jvm.ClassFile.FieldType.long), Jvm.Cond.code ({ cls := "java/util/Optional", name := "isPresent", desc := "()Z" } : Jvm.MethodName) jdk_32_method_6_code (1 : Nat) (Option.some Jvm.ClassFile.FieldType.boolean), Jvm.Cond.code ({ cls := "com/example/lock_by_lease/lockbylease/GrantResult", name := "fence", desc := "()Ljava/util/OptionalLong;" } : Jvm.MethodName) prog_3_method_8_code (1 : Nat) (Option.some (Jvm.ClassFile.FieldType.object "java/util/OptionalLong")), Jvm.Cond.code ({ cls := "com/example/lock_by_lease/lockbylease/GrantResult", name := "remaining", desc := "()Ljava/util/Optional;" } : Jvm.MethodName) prog_3_method_9_code (1 : Nat) (Option.some (Jvm.ClassFile.FieldType.object "java/util/Optional"))]
set_option maxRecDepth 65536 in
theorem codes_eq : words1.filter isCode = codes1 := rfl
theorem w_codes : ∀ c ∈ words1.filter isCode, c.before args0 about1 = true := by
  rw [codes_eq]
  intro c hc
  simp only [codes1, List.mem_cons, List.not_mem_nil, or_false] at hc
  rcases hc with rfl | rfl | rfl | rfl | rfl | rfl | rfl | rfl | rfl | rfl | rfl | rfl | rfl | rfl
  · exact w_c0
  · exact w_c1
  · exact w_c2
  · exact w_c3
  · exact w_c4
  · exact w_c5
  · exact w_c6
  · exact w_c7
  · exact w_c8
  · exact w_c9
  · exact w_c10
  · exact w_c11
  · exact w_c12
  · exact w_c13
set_option maxRecDepth 65536 in
theorem w_t1 : (words1.take 24).all (fun c => isCode c || c.before args0 about1) = true := by decide +kernel
set_option maxRecDepth 65536 in
theorem w_t2 : ((words1.drop 24).take 24).all (fun c => isCode c || c.before args0 about1) = true := by decide +kernel
set_option maxRecDepth 65536 in
theorem w_t3 : (((words1.drop 24).drop 24).take 24).all (fun c => isCode c || c.before args0 about1) = true := by decide +kernel
set_option maxRecDepth 65536 in
theorem w_t4 : (((words1.drop 24).drop 24).drop 24).all (fun c => isCode c || c.before args0 about1) = true := by decide +kernel
theorem w_tables : (allAtoms (Jvm.Cond.code x code maxLocals ret :: tables_1)).before args0 about1 = true := by
  rw [allAtoms_all]
  show words1.all (fun c => c.before args0 about1) = true
  refine all_split ?_ w_codes
  rw [← List.take_append_drop 24 words1, List.all_append, w_t1, ← List.take_append_drop 24 (words1.drop 24), List.all_append, w_t2, ← List.take_append_drop 24 ((words1.drop 24).drop 24), List.all_append, w_t3, w_t4]
  rfl
set_option maxRecDepth 65536 in
theorem w_rest : rest_1_c.before args0 about1 = true := by decide +kernel
set_option maxRecDepth 65536 in
theorem w_case : (Jvm.Cond.and given_1 narrow_1).before args0 about1 = true := by decide +kernel
theorem w_applies : (headSpec (Jvm.Cond.code x code maxLocals ret :: tables_1) room_1).applies x e0.platform about1 = true :=
  (Spec.applies_iff w_frames).mpr ⟨w_running, w_runnable, w_alone, w_named, w_hears, w_ripe, w_room, w_tables⟩
theorem atStart : AtStart classFile x code maxLocals ret World_1 tables_1 room_1 Calls_1 rest_1 Pre_1 launch0 p0 e0 about1 theMethod args0 below0 :=
  ⟨lists_1, trivial, launch0.admits_env _ _ _, launch0.least_env, fairChoices_fair.cas, fairChoices_fair.clock, w_frames, w_args, w_heap, w_applies, trivial, w_rest, w_case⟩
end start1
theorem witness_1 : WitnessClaimed_1 := ⟨start1.p0, start1.e0, start1.about1, start1.theMethod, start1.args0, start1.below0, start1.atStart⟩
end Jvm.Pilot.@@N@@
