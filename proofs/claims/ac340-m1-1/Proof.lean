import JvmDerived
import JvmDerived.Pilot.@@N@@Statement
import JvmDerived.Pilot.@@N@@Code
set_option linter.unusedVariables false
set_option linter.unusedSimpArgs false
namespace Jvm.RoadKit
open Sem ClassFile Op Lib Jvm.Stand Jvm.Free Jvm.LawKit
section New
variable {p : Program} {l : Launch} {e : Env} {R : Room} {s : State} {m : MethodId} {args : Array Value} {below : List Frame} {meth : Method} {c : Code} {T : State} {locs : List Loc} {cells slots : Nat}
theorem retI (X : Stand p l e R s m args below meth c T locs cells slots) (hx : p.tables.exec = Jvm.exec) {pc : Nat} {Ls : Array Slot} {z : Int32} {rest : List Value} (hret : meth.sig.returnType = some .int) (hd : decode c.code pc = .ok (.ireturn, 1)) {fs : List Frame}
    (hl : ∀ (f : JFrame) (acts : List Action), f.method = m → f.locked = none → f.entered = [] → (doReturn e (T.setTop f) acts (some (.int z))).1 = T.setFrames fs) : Steps p.tables e below (T.setTop (mkF m pc Ls (.int z :: rest))) (T.setFrames fs) :=
  retOut X hx hret rfl (Or.inl ⟨rfl, Or.inl rfl, _, rfl⟩) hd hl
end New
end Jvm.RoadKit
namespace Jvm.Pilot.@@N@@
open Jvm Jvm.ClassFile Sem Op Lib Jvm.Free Jvm.Stand Jvm.LawKit Jvm.RoadKit Bundle Jvm.Pilot.@@N@@.Jvm.D
/-- the run goes on from T to an end of which P holds -/
def Go (tb : Tables) (e : Env) (below : List Frame) (P : Outcome → State → Prop) (T : State) : Prop := ∃ s₂ o, Steps tb e below T s₂ ∧ s₂.status = .running ∧ Ended s₂ below o ∧ P o s₂
theorem own_i {tb : Tables} {e : Env} {below : List Frame} {P : Outcome → State → Prop} {T : State} (h : Go tb e below P T) : ∃ s₂ o, Steps tb e below T s₂ ∧ s₂.status = .running ∧ Ended s₂ below o ∧ P o s₂ := h
theorem own_s {tb : Tables} {e : Env} {below : List Frame} {P : Outcome → State → Prop} {T T' : State} (h : ∀ t, Steps tb e below T' t → Steps tb e below T t) (g : Go tb e below P T') : Go tb e below P T := by
  obtain ⟨s₂, o, h1, r⟩ := g; exact ⟨s₂, o, h _ h1, r⟩
theorem own_t {tb : Tables} {e : Env} {below : List Frame} {P : Outcome → State → Prop} {T T' : State} (h : Steps tb e below T T') (g : Go tb e below P T') : Go tb e below P T := by
  obtain ⟨s₂, o, h1, r⟩ := g; exact ⟨s₂, o, h.trans h1, r⟩
theorem own_e {tb : Tables} {e : Env} {below : List Frame} {P : Outcome → State → Prop} {T s₂ : State} {o : Outcome} (h : Steps tb e below T s₂) (h1 : s₂.status = .running) (h2 : Ended s₂ below o) (h3 : P o s₂) : Go tb e below P T := ⟨s₂, o, h, h1, h2, h3⟩
theorem own_eqI {a : Term} {k : Int32} {args : Array Value} {s : State} (h : (Cond.eq a (.int k)).value args s none s [] = some true) : a.eval args s none [] s = some (.int k) := by
  obtain ⟨x, y, hx, hy, -, hk⟩ := cmp_v (Or.inl h)
  obtain rfl : y = .int k := (Option.some.inj hy).symm
  obtain ⟨z, rfl⟩ := hk
  have q := gotT (Cond.eq_ints hx hy) h
  rw [hx, q]
theorem own_eqJ {a : Term} {k : Int64} {args : Array Value} {s : State} (h : (Cond.eq a (.long k)).value args s none s [] = some true) : a.eval args s none [] s = some (.long k) := by
  obtain ⟨x, y, hx, hy, -, hk⟩ := cmp_v (Or.inl h)
  obtain rfl : y = .long k := (Option.some.inj hy).symm
  obtain ⟨z, rfl⟩ := hk
  have q := gotT (eq_L hx hy) h
  rw [hx, q]
theorem own_eqR {a b : Term} {u : Addr} {args : Array Value} {s : State} (hb : b.eval args s none [] s = some (.ref u)) (h : (Cond.eq a b).value args s none s [] = some true) : a.eval args s none [] s = some (.ref u) := by
  obtain ⟨x, y, hx, hy, -, hk⟩ := cmp_v (Or.inl h)
  obtain rfl : y = .ref u := Option.some.inj (hy.symm.trans hb)
  have hr : x.isRef = true := hk.2
  have q := gotT (eq_R hx hy hr rfl) h
  rw [hx, q]
theorem own_fI {t : Term} {a : Addr} {k : Int32} {args : Array Value} {s : State} {C n d : String} (ht : t.eval args s none [] s = some (.ref a)) (h : (Cond.eq (.field t C n d) (.int k)).value args s none s [] = some true) : Fld s s.heap a C n d (.int k) :=
  Fld.start (by have q := own_eqI h; rw [fld_at ht] at q; exact q)
theorem own_fJ {t : Term} {a : Addr} {k : Int64} {args : Array Value} {s : State} {C n d : String} (ht : t.eval args s none [] s = some (.ref a)) (h : (Cond.eq (.field t C n d) (.long k)).value args s none s [] = some true) : Fld s s.heap a C n d (.long k) :=
  Fld.start (by have q := own_eqJ h; rw [fld_at ht] at q; exact q)
theorem own_fit {s : State} (hF : heapFits s = true) : Fit s := fun {y c} hc i hi => by
  obtain ⟨ha, rfl⟩ := Array.getElem?_eq_some_iff.mp hc
  have q := List.all_eq_true.mp ((Array.all_eq_true_iff_forall_mem.mp hF) _ (Array.getElem_mem ha)) i (List.mem_range.mpr hi)
  simpa [Array.getElem?_eq_getElem hi] using q
theorem own_len {t : Term} {a : Addr} {c : Cell} {ty : FieldType} {k : Int32} {args : Array Value} {s : State} (A : Arr s s.heap a c ty) (ht : t.eval args s none [] s = some (.ref a)) (h : (Cond.eq (.length t) (.int k)).value args s none s [] = some true) : c.slots.size < 2 ^ 31 ∧ c.slots.size.toInt32 = k := by
  have q := own_eqI h
  have hA := A.fin (Vm.Alike.refl _)
  by_cases hl : c.slots.size < 2 ^ 31
  · exact ⟨hl, Value.int.inj (Option.some.inj ((len_f ht hA hl).symm.trans q))⟩
  · exfalso
    have hl' : ¬ c.slots.size < 2147483648 := hl
    simp [Term.eval, ht, hA, hl'] at q
theorem own_el {t : Term} {a : Addr} {c : Cell} {ty : FieldType} {j : Int32} {v : Value} {args : Array Value} {s : State} (A : Arr s s.heap a c ty) (ht : t.eval args s none [] s = some (.ref a)) (h : (Term.elem t (.int j)).eval args s none [] s = some v) : c.slots[j.toNatClampNeg]? = some v :=
  (elem_in h ht (Term.int_eval j) A.1).2
theorem d2_0 : decode prog_16_method_1_code 0 = .ok (.getstatic 10, 3) := by decide +kernel
theorem d2_3 : decode prog_16_method_1_code 3 = .ok (.invokevirtual 14, 3) := by decide +kernel
theorem d2_6 : decode prog_16_method_1_code 6 = .ok (.checkcast 15, 3) := by decide +kernel
theorem d2_9 : decode prog_16_method_1_code 9 = .ok (.areturn, 1) := by decide +kernel
theorem pn_com_example_watthour_watthour_tariff_Phases : plainName "com/example/watthour/watthour/tariff/Phases" = true := by first | (simp [plainName, overriddenIn]; done) | decide +kernel
theorem ef_rm2 (m : MethodId)  : entryFrame m #[] 0 = mkF m 0 #[] [] := by first | (simp [entryFrame, mkF, argsToLocals, Value.category]; done) | rfl
def Q_rm2 (Z : State) (uV : Addr) (kV : ClassId) (u1 : Addr) (u3 : Addr) (h0 : Heap) (n0 : Nat) (v : Option Value) (h : Heap) (L : List Loc) : Prop := ∃ b2 : Addr, v = some (.ref b2) ∧ Fr n0 L ∧ Keep h0 h [] ∧ h0.size ≤ b2 ∧ Arv Z h b2 kV (.object "com/example/watthour/watthour/tariff/Phases") (2 : Int32) [(.ref u1), (.ref u3)] .null
set_option maxRecDepth 65536 in
set_option maxHeartbeats 40000000 in
theorem rm2 (l : Launch) (Z : State) (a0 : Array Value) (hw : ∀ d ∈ tables_1, d.before a0 Z = true) (ws : List Jvm.Cond) (uV : Addr) (kV : ClassId) (u1 : Addr) (u3 : Addr) (h0 : Heap) (n0 : Nat) (O0 : Old Z n0 h0) (S_V : Sta Z Z.heap "com/example/watthour/watthour/tariff/Phases" "$VALUES" "[Lcom/example/watthour/watthour/tariff/Phases;" (.ref uV)) (OV_V : Arv Z Z.heap uV kV (.object "com/example/watthour/watthour/tariff/Phases") (2 : Int32) [(.ref u1), (.ref u3)] .null) (OE_V : Exa Z Z.heap uV "[Lcom/example/watthour/watthour/tariff/Phases;") :
    MetFree l (⟨"com/example/watthour/watthour/tariff/Phases", "values", "()[Lcom/example/watthour/watthour/tariff/Phases;"⟩ : MethodName) (head1 (Jvm.Cond.code (⟨"com/example/watthour/watthour/tariff/Phases", "values", "()[Lcom/example/watthour/watthour/tariff/Phases;"⟩ : MethodName) prog_16_method_1_code 0 (some (.array (.object "com/example/watthour/watthour/tariff/Phases"))) :: ws) ({ frames := 1, cells := 1, slots := 2, locals := 14 } : Room)) (fun aa_ U => aa_ = #[] ∧ Z.Warmed39 U.vm ∧ U.heap = h0) (fun _ _ _ _ _ => True) (fun _ U oo_ U' => ∃ vv_ LL_, oo_ = .returned vv_ ∧ Q_rm2 Z uV kV u1 u3 h0 n0 vv_ U'.heap LL_ ∧ FrameEnd U oo_ U' LL_ ({ frames := 1, cells := 1, slots := 2, locals := 14 } : Room).cells ({ frames := 1, cells := 1, slots := 2, locals := 14 } : Room).slots) := by
  refine MetFree.of_bodySF (plainFor_of_name pn_com_example_watthour_watthour_tariff_Phases) hisR ?_
  intro p e s m args below meth c s₁ Bd hml0 hP hK
  obtain ⟨rfl, hZ, hh⟩ := hP
  have hx := Bd.exec
  have hby := Bd.bytes
  have hml : c.maxLocals = 0 := hml0
  have hown : s.vm.findClass "com/example/watthour/watthour/tariff/Phases" = some m.cls := findClass_of_methodNamed Bd.named
  have hnm := (name_of_methodNamed Bd.named Bd.method).1
  have X0 : Stand p l e ({ frames := 1, cells := 1, slots := 2, locals := 14 } : Room) s m #[] below meth c s₁ [] 0 0 := Stand.of_body Bd
  have e0 : s₁.heap = h0 := by rw [← hh, Bd.state]; rfl
  have N0 := Fr.nil n0
  have K0 : Keep h0 h0 [] := Keep.refl h0 _
  refine own_i (own_s (fun t k => castTop (ef_rm2 m) k) ?_)
  show Go p.tables e below _ (s₁.setTop (mkF m 0 #[] []))
  obtain ⟨T1, X1, e1, st1⟩ := getS2 X0 hx hZ hown (host := "") (Or.inl (hw _ (List.mem_of_getElem? (i := 9) rfl))) Via.refl e0 (S_V.ext O0.2) (g := (mkF m 0 #[] [])) rfl (hb hby d2_0)
  refine own_s st1 ?_
  show Go p.tables e below _ (T1.setTop (mkF m 3 #[] [(.ref uV)]))
  obtain ⟨T2, h2, X2, e2, E2, A2, B2, st2⟩ := cloneH X1 hx hZ hown (hw _ (List.mem_of_getElem? (i := 11) rfl)) (hw _ (List.mem_of_getElem? (i := 12) rfl)) (hw _ (List.mem_of_getElem? (i := 16) rfl)) (hw _ (List.mem_of_getElem? (i := 14) rfl)) (hw _ (List.mem_of_getElem? (i := 15) rfl)) (hw _ (List.mem_of_getElem? (i := 17) rfl)) e1 (Arv.arh (OV_V.ext O0.2)) (OE_V.ext O0.2) (g := (mkF m 3 #[] [(.ref uV)])) rfl (by rw [hml]; rfl) rfl (hb hby d2_3) (by decide) (W := 0) (by show 2 * 0 + _ ≤ _; exact Nat.le_of_eq rfl) (by decide) (cap := 2) (by decide) (by decide) (by decide)
  obtain ⟨b2, gg2⟩ : ∃ z, z = h0.size := ⟨_, rfl⟩
  rw [← gg2] at A2 B2 st2
  have g_b2 : n0 ≤ b2 := Nat.le_trans (Nat.le_of_eq O0.1.symm) (Nat.le_trans O0.2.1 (Nat.le_of_eq gg2.symm))
  have sz_b2 : h0.size ≤ b2 := Nat.le_trans K0.1 (Nat.le_of_eq gg2.symm)
  have K2 : Keep h0 h2 [] := K0.ext E2
  have V2 : Arv Z h2 b2 kV (.object "com/example/watthour/watthour/tariff/Phases") (2 : Int32) [(.ref u1), (.ref u3)] .null := A2
  refine own_s st2 ?_
  show Go p.tables e below _ (T2.setTop (mkF m 6 #[] [(.ref b2)]))
  obtain ⟨T3, X3, e3, st3⟩ := castY X2 hx hZ hown (hw _ (List.mem_of_getElem? (i := 20) rfl)) e2 (Ins.self B2) (g := (mkF m 6 #[] [(.ref b2)])) rfl rfl (hb hby d2_6)
  refine own_s st3 ?_
  show Go p.tables e below _ (T3.setTop (mkF m 9 #[] [(.ref b2)]))
  obtain ⟨fs, hr, hrun, hended, hW, hsame⟩ := X3.leave (v := (some (.ref b2))) (fun h => by first | rfl | (rw [Bd.returns] at h; cases h))
  refine own_e ?_ hrun hended ⟨_, _, rfl, ?_, ⟨_, rfl⟩, hW, hsame.mono (by decide) (by decide)⟩
  · exact retOut X3 hx Bd.returns rfl (Or.inr (Or.inr (Or.inr (Or.inr ⟨rfl, rfl, rfl⟩)))) (hb hby d2_9) hr
  · show Q_rm2 Z uV kV u1 u3 h0 n0 _ T3.heap _
    rw [e3]
    exact ⟨b2, rfl, N0, K2, sz_b2, V2⟩
theorem d3_0 : decode prog_16_method_5_code 0 = .ok (.aload_n 0, 1) := by decide +kernel
theorem d3_1 : decode prog_16_method_5_code 1 = .ok (.getfield 29, 3) := by decide +kernel
theorem d3_4 : decode prog_16_method_5_code 4 = .ok (.ireturn, 1) := by decide +kernel
theorem ef_rm3 (m : MethodId) (a : Addr) : entryFrame m #[(.ref a)] 1 = mkF m 0 #[.val (.ref a)] [] := by first | (simp [entryFrame, mkF, argsToLocals, Value.category]; done) | rfl
def Q_rm3 (Z : State) (a : Addr) (w_count_a : Int32) (h0 : Heap) (n0 : Nat) (v : Option Value) (h : Heap) (L : List Loc) : Prop := v = some (.int w_count_a) ∧ Fr n0 L ∧ h = h0
set_option maxRecDepth 65536 in
set_option maxHeartbeats 40000000 in
theorem rm3 (l : Launch) (Z : State) (a0 : Array Value) (hw : ∀ d ∈ tables_1, d.before a0 Z = true) (ws : List Jvm.Cond) (a : Addr) (w_count_a : Int32) (h0 : Heap) (n0 : Nat) (O0 : Old Z n0 h0) (F_count_a : Fld Z h0 a "com/example/watthour/watthour/tariff/Phases" "count" "I" (.int w_count_a)) :
    MetFree l (⟨"com/example/watthour/watthour/tariff/Phases", "getCount", "()I"⟩ : MethodName) (head1 (Jvm.Cond.code (⟨"com/example/watthour/watthour/tariff/Phases", "getCount", "()I"⟩ : MethodName) prog_16_method_5_code 1 (some .int) :: ws) ({ frames := 0, cells := 0, slots := 0, locals := 0 } : Room)) (fun aa_ U => aa_ = #[(.ref a)] ∧ Z.Warmed39 U.vm ∧ U.heap = h0) (fun _ _ _ _ _ => True) (fun _ U oo_ U' => ∃ vv_ LL_, oo_ = .returned vv_ ∧ Q_rm3 Z a w_count_a h0 n0 vv_ U'.heap LL_ ∧ FrameEnd U oo_ U' LL_ ({ frames := 0, cells := 0, slots := 0, locals := 0 } : Room).cells ({ frames := 0, cells := 0, slots := 0, locals := 0 } : Room).slots) := by
  refine MetFree.of_bodySF (plainFor_of_name pn_com_example_watthour_watthour_tariff_Phases) hisR ?_
  intro p e s m args below meth c s₁ Bd hml0 hP hK
  obtain ⟨rfl, hZ, hh⟩ := hP
  have hx := Bd.exec
  have hby := Bd.bytes
  have hml : c.maxLocals = 1 := hml0
  have hown : s.vm.findClass "com/example/watthour/watthour/tariff/Phases" = some m.cls := findClass_of_methodNamed Bd.named
  have hnm := (name_of_methodNamed Bd.named Bd.method).1
  have X0 : Stand p l e ({ frames := 0, cells := 0, slots := 0, locals := 0 } : Room) s m #[(.ref a)] below meth c s₁ [] 0 0 := Stand.of_body Bd
  have e0 : s₁.heap = h0 := by rw [← hh, Bd.state]; rfl
  have N0 := Fr.nil n0
  have K0 : Keep h0 h0 [] := Keep.refl h0 _
  refine own_i (own_s (fun t k => castTop (ef_rm3 m a) k) ?_)
  show Go p.tables e below _ (s₁.setTop (mkF m 0 #[.val (.ref a)] []))
  refine own_s (fun t k => XS.aloadN X0.here hx rfl (hb hby d3_0) rfl rfl k) ?_
  show Go p.tables e below _ (s₁.setTop (mkF m 1 #[.val (.ref a)] [(.ref a)]))
  obtain ⟨T1, X1, e1, st1⟩ := getF X0 hx hZ hown (host := "") (Or.inl (hw _ (List.mem_of_getElem? (i := 22) rfl))) Via.refl e0 F_count_a (g := (mkF m 1 #[.val (.ref a)] [(.ref a)])) rfl rfl (hb hby d3_1)
  refine own_s st1 ?_
  show Go p.tables e below _ (T1.setTop (mkF m 4 #[.val (.ref a)] [(.int w_count_a)]))
  obtain ⟨fs, hr, hrun, hended, hW, hsame⟩ := X1.leave (v := (some (.int w_count_a))) (fun h => by first | rfl | (rw [Bd.returns] at h; cases h))
  refine own_e ?_ hrun hended ⟨_, _, rfl, ?_, ⟨_, rfl⟩, hW, hsame.mono (by decide) (by decide)⟩
  · exact retI X1 hx Bd.returns (hb hby d3_4) hr
  · show Q_rm3 Z a w_count_a h0 n0 _ T1.heap _
    rw [e1]
    exact ⟨rfl, N0, rfl⟩
theorem d1_0 : decode prog_16_method_4_code 0 = .ok (.invokestatic 33, 3) := by decide +kernel
theorem pd____Lcom_example_watthour_watthour_tariff_Phases_ : parseMethodDescriptor "()[Lcom/example/watthour/watthour/tariff/Phases;" = some ⟨[], some (.array (.object "com/example/watthour/watthour/tariff/Phases"))⟩ := by decide +kernel
theorem d1_3 : decode prog_16_method_4_code 3 = .ok (.astore_n 1, 1) := by decide +kernel
theorem d1_4 : decode prog_16_method_4_code 4 = .ok (.aload_n 1, 1) := by decide +kernel
theorem d1_5 : decode prog_16_method_4_code 5 = .ok (.arraylength, 1) := by decide +kernel
theorem d1_6 : decode prog_16_method_4_code 6 = .ok (.istore_n 2, 1) := by decide +kernel
theorem d1_7 : decode prog_16_method_4_code 7 = .ok (.iconst 0, 1) := by decide +kernel
theorem d1_8 : decode prog_16_method_4_code 8 = .ok (.istore_n 3, 1) := by decide +kernel
theorem d1_9 : decode prog_16_method_4_code 9 = .ok (.iload_n 3, 1) := by decide +kernel
theorem d1_10 : decode prog_16_method_4_code 10 = .ok (.iload_n 2, 1) := by decide +kernel
theorem d1_11 : decode prog_16_method_4_code 11 = .ok (.if_icmp .ge 26, 3) := by decide +kernel
theorem d1_14 : decode prog_16_method_4_code 14 = .ok (.aload_n 1, 1) := by decide +kernel
theorem d1_15 : decode prog_16_method_4_code 15 = .ok (.iload_n 3, 1) := by decide +kernel
theorem d1_16 : decode prog_16_method_4_code 16 = .ok (.aaload, 1) := by decide +kernel
theorem d1_17 : decode prog_16_method_4_code 17 = .ok (.astore 4, 2) := by decide +kernel
theorem d1_19 : decode prog_16_method_4_code 19 = .ok (.aload 4, 2) := by decide +kernel
theorem d1_21 : decode prog_16_method_4_code 21 = .ok (.getfield 29, 3) := by decide +kernel
theorem d1_24 : decode prog_16_method_4_code 24 = .ok (.iload_n 0, 1) := by decide +kernel
theorem d1_25 : decode prog_16_method_4_code 25 = .ok (.if_icmp .ne 6, 3) := by decide +kernel
theorem d1_28 : decode prog_16_method_4_code 28 = .ok (.aload 4, 2) := by decide +kernel
theorem d1_30 : decode prog_16_method_4_code 30 = .ok (.areturn, 1) := by decide +kernel
theorem ef_rm1_1 (m : MethodId)  : entryFrame m #[(.int (1 : Int32))] 5 = mkF m 0 #[.val (.int (1 : Int32)), .unset, .unset, .unset, .unset] [] := by first | (simp [entryFrame, mkF, argsToLocals, Value.category]; done) | rfl
def Q_rm1_1 (Z : State) (uV : Addr) (kV : ClassId) (u1 : Addr) (u3 : Addr) (h0 : Heap) (n0 : Nat) (v : Option Value) (h : Heap) (L : List Loc) : Prop := v = some (.ref u1) ∧ Fr n0 L ∧ Keep h0 h []
set_option maxRecDepth 65536 in
set_option maxHeartbeats 40000000 in
theorem rm1_1 (l : Launch) (Z : State) (a0 : Array Value) (hw : ∀ d ∈ tables_1, d.before a0 Z = true) (ws : List Jvm.Cond) (uV : Addr) (kV : ClassId) (u1 : Addr) (u3 : Addr) (h0 : Heap) (n0 : Nat) (O0 : Old Z n0 h0) (S_V : Sta Z Z.heap "com/example/watthour/watthour/tariff/Phases" "$VALUES" "[Lcom/example/watthour/watthour/tariff/Phases;" (.ref uV)) (OV_V : Arv Z Z.heap uV kV (.object "com/example/watthour/watthour/tariff/Phases") (2 : Int32) [(.ref u1), (.ref u3)] .null) (OE_V : Exa Z Z.heap uV "[Lcom/example/watthour/watthour/tariff/Phases;") (OF_1 : Fld Z Z.heap u1 "com/example/watthour/watthour/tariff/Phases" "count" "I" (.int (1 : Int32))) (OF_3 : Fld Z Z.heap u3 "com/example/watthour/watthour/tariff/Phases" "count" "I" (.int (3 : Int32))) :
    MetFree l (⟨"com/example/watthour/watthour/tariff/Phases", "of", "(I)Lcom/example/watthour/watthour/tariff/Phases;"⟩ : MethodName) (head1 (Jvm.Cond.code (⟨"com/example/watthour/watthour/tariff/Phases", "of", "(I)Lcom/example/watthour/watthour/tariff/Phases;"⟩ : MethodName) prog_16_method_4_code 5 (some (.object "com/example/watthour/watthour/tariff/Phases")) :: ws) ({ frames := 2, cells := 1, slots := 2, locals := 25 } : Room)) (fun aa_ U => aa_ = #[(.int (1 : Int32))] ∧ Z.Warmed39 U.vm ∧ U.heap = h0) (fun _ _ _ _ _ => True) (fun _ U oo_ U' => ∃ vv_ LL_, oo_ = .returned vv_ ∧ Q_rm1_1 Z uV kV u1 u3 h0 n0 vv_ U'.heap LL_ ∧ FrameEnd U oo_ U' LL_ ({ frames := 2, cells := 1, slots := 2, locals := 25 } : Room).cells ({ frames := 2, cells := 1, slots := 2, locals := 25 } : Room).slots) := by
  refine MetFree.of_bodySF (plainFor_of_name pn_com_example_watthour_watthour_tariff_Phases) hisR ?_
  intro p e s m args below meth c s₁ Bd hml0 hP hK
  obtain ⟨rfl, hZ, hh⟩ := hP
  have hx := Bd.exec
  have hby := Bd.bytes
  have hml : c.maxLocals = 5 := hml0
  have hown : s.vm.findClass "com/example/watthour/watthour/tariff/Phases" = some m.cls := findClass_of_methodNamed Bd.named
  have hnm := (name_of_methodNamed Bd.named Bd.method).1
  have X0 : Stand p l e ({ frames := 2, cells := 1, slots := 2, locals := 25 } : Room) s m #[(.int (1 : Int32))] below meth c s₁ [] 0 0 := Stand.of_body Bd
  have e0 : s₁.heap = h0 := by rw [← hh, Bd.state]; rfl
  have N0 := Fr.nil n0
  have K0 : Keep h0 h0 [] := Keep.refl h0 _
  refine own_i (own_s (fun t k => castTop (ef_rm1_1 m) k) ?_)
  show Go p.tables e below _ (s₁.setTop (mkF m 0 #[.val (.int (1 : Int32)), .unset, .unset, .unset, .unset] []))
  obtain ⟨_, _, ⟨T1, L1, k1, n1⟩, -, X1, ⟨Lc1, hQ1, l1, y1, z1⟩, st1⟩ := Jvm.LawKit.callS X0 hx (y := (⟨"com/example/watthour/watthour/tariff/Phases", "values", "()[Lcom/example/watthour/watthour/tariff/Phases;"⟩ : MethodName)) hown (mvT hZ (hw _ (List.mem_of_getElem? (i := 6) rfl))) (mvT hZ (hw _ (List.mem_of_getElem? (i := 7) rfl))) (mvT hZ (hw _ (List.mem_of_getElem? (i := 1) rfl))) (mvT hZ (hw _ (List.mem_of_getElem? (i := 8) rfl))) (by decide) (backOf (W := 0) (rm2 l Z a0 hw [] uV kV u1 u3 h0 n0 O0 S_V OV_V OE_V) hZ (hw _ (List.mem_of_getElem? (i := 8) rfl)) (hw _ (List.mem_of_getElem? (i := 1) rfl)) (by decide) (by decide)) (g := (mkF m 0 #[.val (.int (1 : Int32)), .unset, .unset, .unset, .unset] [])) rfl (by rw [hml]; rfl) (argsL := []) (rest := []) (lenOf pd____Lcom_example_watthour_watthour_tariff_Phases_ rfl) rfl (by show 2 * 0 + _ ≤ _; exact Nat.le_of_eq rfl) (hb hby d1_0) (fun _ _ => ⟨rfl, e0, (by decide : 0 + 1 ≤ _), (by decide : 0 + 2 ≤ _)⟩)
  dsimp only [Pt.U, Pt.locs, Pt.cells, Pt.slots] at X1 l1 y1 z1 st1 hQ1
  subst l1 y1 z1
  obtain ⟨b2_1, rfl, N1q, Kc1, bz_b2_1, fc1_0⟩ := hQ1
  have g_b2_1 : n0 ≤ b2_1 := Nat.le_trans (Nat.le_of_eq O0.1.symm) (Nat.le_trans O0.2.1 bz_b2_1)
  have sz_b2_1 : h0.size ≤ b2_1 := Nat.le_trans K0.1 bz_b2_1
  have K1 : Keep h0 T1.heap [] := K0.trans Kc1 all0
  have N1 := Fr.app N0 N1q
  refine own_s st1 ?_
  show Go p.tables e below _ (T1.setTop (mkF m 3 #[.val (.int (1 : Int32)), .unset, .unset, .unset, .unset] [(.ref b2_1)]))
  refine own_s (fun t k => XS.astoreN X1.here hx rfl (hb hby d1_3) rfl rfl (l' := #[.val (.int (1 : Int32)), .val (.ref b2_1), .unset, .unset, .unset]) rfl k) ?_
  show Go p.tables e below _ (T1.setTop (mkF m 4 #[.val (.int (1 : Int32)), .val (.ref b2_1), .unset, .unset, .unset] []))
  refine own_s (fun t k => XS.aloadN X1.here hx rfl (hb hby d1_4) rfl rfl k) ?_
  show Go p.tables e below _ (T1.setTop (mkF m 5 #[.val (.int (1 : Int32)), .val (.ref b2_1), .unset, .unset, .unset] [(.ref b2_1)]))
  obtain ⟨cl2, Ar2, qk2, Sz2, Nn2, Hs2, Gf2⟩ := id fc1_0
  refine own_s (X1.arraylength hx Ar2.1 (State.isArrayOf_alike hZ.alike Ar2.2.1) (g := (mkF m 5 #[.val (.int (1 : Int32)), .val (.ref b2_1), .unset, .unset, .unset] [(.ref b2_1)])) rfl rfl (hb hby d1_5)) ?_
  rw [len_of Sz2 Nn2]
  show Go p.tables e below _ (T1.setTop (mkF m 6 #[.val (.int (1 : Int32)), .val (.ref b2_1), .unset, .unset, .unset] [(.int (2 : Int32))]))
  refine own_s (fun t k => XS.istoreN X1.here hx rfl (hb hby d1_6) rfl (l' := #[.val (.int (1 : Int32)), .val (.ref b2_1), .val (.int (2 : Int32)), .unset, .unset]) rfl k) ?_
  show Go p.tables e below _ (T1.setTop (mkF m 7 #[.val (.int (1 : Int32)), .val (.ref b2_1), .val (.int (2 : Int32)), .unset, .unset] []))
  refine own_s (fun t k => XS.iconst X1.here hx rfl (hb hby d1_7) k) ?_
  show Go p.tables e below _ (T1.setTop (mkF m 8 #[.val (.int (1 : Int32)), .val (.ref b2_1), .val (.int (2 : Int32)), .unset, .unset] [(.int (0 : Int32))]))
  refine own_s (fun t k => XS.istoreN X1.here hx rfl (hb hby d1_8) rfl (l' := #[.val (.int (1 : Int32)), .val (.ref b2_1), .val (.int (2 : Int32)), .val (.int (0 : Int32)), .unset]) rfl k) ?_
  show Go p.tables e below _ (T1.setTop (mkF m 9 #[.val (.int (1 : Int32)), .val (.ref b2_1), .val (.int (2 : Int32)), .val (.int (0 : Int32)), .unset] []))
  refine own_s (fun t k => XS.iloadN X1.here hx rfl (hb hby d1_9) rfl k) ?_
  show Go p.tables e below _ (T1.setTop (mkF m 10 #[.val (.int (1 : Int32)), .val (.ref b2_1), .val (.int (2 : Int32)), .val (.int (0 : Int32)), .unset] [(.int (0 : Int32))]))
  refine own_s (fun t k => XS.iloadN X1.here hx rfl (hb hby d1_10) rfl k) ?_
  show Go p.tables e below _ (T1.setTop (mkF m 11 #[.val (.int (1 : Int32)), .val (.ref b2_1), .val (.int (2 : Int32)), .val (.int (0 : Int32)), .unset] [(.int (2 : Int32)), (.int (0 : Int32))]))
  refine own_s (fun t k => XS.icmpNo X1.here hx rfl (hb hby d1_11) rfl (tlt (by decide : (0 : Int32) < (2 : Int32))).2.1 k) ?_
  show Go p.tables e below _ (T1.setTop (mkF m 14 #[.val (.int (1 : Int32)), .val (.ref b2_1), .val (.int (2 : Int32)), .val (.int (0 : Int32)), .unset] []))
  refine own_s (fun t k => XS.aloadN X1.here hx rfl (hb hby d1_14) rfl rfl k) ?_
  show Go p.tables e below _ (T1.setTop (mkF m 15 #[.val (.int (1 : Int32)), .val (.ref b2_1), .val (.int (2 : Int32)), .val (.int (0 : Int32)), .unset] [(.ref b2_1)]))
  refine own_s (fun t k => XS.iloadN X1.here hx rfl (hb hby d1_15) rfl k) ?_
  show Go p.tables e below _ (T1.setTop (mkF m 16 #[.val (.int (1 : Int32)), .val (.ref b2_1), .val (.int (2 : Int32)), .val (.int (0 : Int32)), .unset] [(.int (0 : Int32)), (.ref b2_1)]))
  obtain ⟨cl3, Ar3, qk3, Sz3, Nn3, Hs3, Gf3⟩ := id fc1_0
  have hin3 : ¬ ((0 : Int32) < 0 ∨ cl3.slots.size ≤ ((0 : Int32)).toNatClampNeg) := inb_of Sz3 ⟨by decide, by decide⟩
  have hat3 : cl3.slots[((0 : Int32)).toNatClampNeg]? = some (.ref u1) := Has.at Hs3 hin3 rfl
  refine own_s (X1.aaload hx (j := (0 : Int32)) (v := (.ref u1)) Ar3.1 (State.isArrayOf_alike hZ.alike Ar3.2.1) rfl Ar3.2.2 hin3 hat3 (g := (mkF m 16 #[.val (.int (1 : Int32)), .val (.ref b2_1), .val (.int (2 : Int32)), .val (.int (0 : Int32)), .unset] [(.int (0 : Int32)), (.ref b2_1)])) rfl rfl (hb hby d1_16)) ?_
  show Go p.tables e below _ (T1.setTop (mkF m 17 #[.val (.int (1 : Int32)), .val (.ref b2_1), .val (.int (2 : Int32)), .val (.int (0 : Int32)), .unset] [(.ref u1)]))
  refine own_s (fun t k => XS.astore X1.here hx rfl (hb hby d1_17) rfl rfl (l' := #[.val (.int (1 : Int32)), .val (.ref b2_1), .val (.int (2 : Int32)), .val (.int (0 : Int32)), .val (.ref u1)]) rfl k) ?_
  show Go p.tables e below _ (T1.setTop (mkF m 19 #[.val (.int (1 : Int32)), .val (.ref b2_1), .val (.int (2 : Int32)), .val (.int (0 : Int32)), .val (.ref u1)] []))
  refine own_s (fun t k => XS.aload X1.here hx rfl (hb hby d1_19) rfl rfl k) ?_
  show Go p.tables e below _ (T1.setTop (mkF m 21 #[.val (.int (1 : Int32)), .val (.ref b2_1), .val (.int (2 : Int32)), .val (.int (0 : Int32)), .val (.ref u1)] [(.ref u1)]))
  have O4 : Old Z n0 T1.heap := (O0.keep Kc1 all0)
  obtain ⟨T5, X5, e5, st5⟩ := getF X1 hx hZ hown (host := "") (Or.inl (hw _ (List.mem_of_getElem? (i := 22) rfl))) Via.refl rfl (OF_1.ext O4.2) (g := (mkF m 21 #[.val (.int (1 : Int32)), .val (.ref b2_1), .val (.int (2 : Int32)), .val (.int (0 : Int32)), .val (.ref u1)] [(.ref u1)])) rfl rfl (hb hby d1_21)
  refine own_s st5 ?_
  show Go p.tables e below _ (T5.setTop (mkF m 24 #[.val (.int (1 : Int32)), .val (.ref b2_1), .val (.int (2 : Int32)), .val (.int (0 : Int32)), .val (.ref u1)] [(.int (1 : Int32))]))
  refine own_s (fun t k => XS.iloadN X5.here hx rfl (hb hby d1_24) rfl k) ?_
  show Go p.tables e below _ (T5.setTop (mkF m 25 #[.val (.int (1 : Int32)), .val (.ref b2_1), .val (.int (2 : Int32)), .val (.int (0 : Int32)), .val (.ref u1)] [(.int (1 : Int32)), (.int (1 : Int32))]))
  refine own_s (fun t k => XS.icmpNo X5.here hx rfl (hb hby d1_25) rfl (teq (by decide : (1 : Int32) = (1 : Int32))).2 k) ?_
  show Go p.tables e below _ (T5.setTop (mkF m 28 #[.val (.int (1 : Int32)), .val (.ref b2_1), .val (.int (2 : Int32)), .val (.int (0 : Int32)), .val (.ref u1)] []))
  refine own_s (fun t k => XS.aload X5.here hx rfl (hb hby d1_28) rfl rfl k) ?_
  show Go p.tables e below _ (T5.setTop (mkF m 30 #[.val (.int (1 : Int32)), .val (.ref b2_1), .val (.int (2 : Int32)), .val (.int (0 : Int32)), .val (.ref u1)] [(.ref u1)]))
  obtain ⟨fs, hr, hrun, hended, hW, hsame⟩ := X5.leave (v := (some (.ref u1))) (fun h => by first | rfl | (rw [Bd.returns] at h; cases h))
  refine own_e ?_ hrun hended ⟨_, _, rfl, ?_, ⟨_, rfl⟩, hW, hsame.mono (by decide) (by decide)⟩
  · exact retOut X5 hx Bd.returns rfl (Or.inr (Or.inr (Or.inr (Or.inr ⟨rfl, rfl, rfl⟩)))) (hb hby d1_30) hr
  · show Q_rm1_1 Z uV kV u1 u3 h0 n0 _ T5.heap _
    rw [e5]
    exact ⟨rfl, N1, K1⟩
theorem d1_31 : decode prog_16_method_4_code 31 = .ok (.iinc 3 1, 3) := by decide +kernel
theorem d1_34 : decode prog_16_method_4_code 34 = .ok (.goto (-25), 3) := by decide +kernel
theorem ef_rm1_3 (m : MethodId)  : entryFrame m #[(.int (3 : Int32))] 5 = mkF m 0 #[.val (.int (3 : Int32)), .unset, .unset, .unset, .unset] [] := by first | (simp [entryFrame, mkF, argsToLocals, Value.category]; done) | rfl
def Q_rm1_3 (Z : State) (uV : Addr) (kV : ClassId) (u1 : Addr) (u3 : Addr) (h0 : Heap) (n0 : Nat) (v : Option Value) (h : Heap) (L : List Loc) : Prop := v = some (.ref u3) ∧ Fr n0 L ∧ Keep h0 h []
set_option maxRecDepth 65536 in
set_option maxHeartbeats 40000000 in
theorem rm1_3 (l : Launch) (Z : State) (a0 : Array Value) (hw : ∀ d ∈ tables_1, d.before a0 Z = true) (ws : List Jvm.Cond) (uV : Addr) (kV : ClassId) (u1 : Addr) (u3 : Addr) (h0 : Heap) (n0 : Nat) (O0 : Old Z n0 h0) (S_V : Sta Z Z.heap "com/example/watthour/watthour/tariff/Phases" "$VALUES" "[Lcom/example/watthour/watthour/tariff/Phases;" (.ref uV)) (OV_V : Arv Z Z.heap uV kV (.object "com/example/watthour/watthour/tariff/Phases") (2 : Int32) [(.ref u1), (.ref u3)] .null) (OE_V : Exa Z Z.heap uV "[Lcom/example/watthour/watthour/tariff/Phases;") (OF_1 : Fld Z Z.heap u1 "com/example/watthour/watthour/tariff/Phases" "count" "I" (.int (1 : Int32))) (OF_3 : Fld Z Z.heap u3 "com/example/watthour/watthour/tariff/Phases" "count" "I" (.int (3 : Int32))) :
    MetFree l (⟨"com/example/watthour/watthour/tariff/Phases", "of", "(I)Lcom/example/watthour/watthour/tariff/Phases;"⟩ : MethodName) (head1 (Jvm.Cond.code (⟨"com/example/watthour/watthour/tariff/Phases", "of", "(I)Lcom/example/watthour/watthour/tariff/Phases;"⟩ : MethodName) prog_16_method_4_code 5 (some (.object "com/example/watthour/watthour/tariff/Phases")) :: ws) ({ frames := 2, cells := 1, slots := 2, locals := 25 } : Room)) (fun aa_ U => aa_ = #[(.int (3 : Int32))] ∧ Z.Warmed39 U.vm ∧ U.heap = h0) (fun _ _ _ _ _ => True) (fun _ U oo_ U' => ∃ vv_ LL_, oo_ = .returned vv_ ∧ Q_rm1_3 Z uV kV u1 u3 h0 n0 vv_ U'.heap LL_ ∧ FrameEnd U oo_ U' LL_ ({ frames := 2, cells := 1, slots := 2, locals := 25 } : Room).cells ({ frames := 2, cells := 1, slots := 2, locals := 25 } : Room).slots) := by
  refine MetFree.of_bodySF (plainFor_of_name pn_com_example_watthour_watthour_tariff_Phases) hisR ?_
  intro p e s m args below meth c s₁ Bd hml0 hP hK
  obtain ⟨rfl, hZ, hh⟩ := hP
  have hx := Bd.exec
  have hby := Bd.bytes
  have hml : c.maxLocals = 5 := hml0
  have hown : s.vm.findClass "com/example/watthour/watthour/tariff/Phases" = some m.cls := findClass_of_methodNamed Bd.named
  have hnm := (name_of_methodNamed Bd.named Bd.method).1
  have X0 : Stand p l e ({ frames := 2, cells := 1, slots := 2, locals := 25 } : Room) s m #[(.int (3 : Int32))] below meth c s₁ [] 0 0 := Stand.of_body Bd
  have e0 : s₁.heap = h0 := by rw [← hh, Bd.state]; rfl
  have N0 := Fr.nil n0
  have K0 : Keep h0 h0 [] := Keep.refl h0 _
  refine own_i (own_s (fun t k => castTop (ef_rm1_3 m) k) ?_)
  show Go p.tables e below _ (s₁.setTop (mkF m 0 #[.val (.int (3 : Int32)), .unset, .unset, .unset, .unset] []))
  obtain ⟨_, _, ⟨T1, L1, k1, n1⟩, -, X1, ⟨Lc1, hQ1, l1, y1, z1⟩, st1⟩ := Jvm.LawKit.callS X0 hx (y := (⟨"com/example/watthour/watthour/tariff/Phases", "values", "()[Lcom/example/watthour/watthour/tariff/Phases;"⟩ : MethodName)) hown (mvT hZ (hw _ (List.mem_of_getElem? (i := 6) rfl))) (mvT hZ (hw _ (List.mem_of_getElem? (i := 7) rfl))) (mvT hZ (hw _ (List.mem_of_getElem? (i := 1) rfl))) (mvT hZ (hw _ (List.mem_of_getElem? (i := 8) rfl))) (by decide) (backOf (W := 0) (rm2 l Z a0 hw [] uV kV u1 u3 h0 n0 O0 S_V OV_V OE_V) hZ (hw _ (List.mem_of_getElem? (i := 8) rfl)) (hw _ (List.mem_of_getElem? (i := 1) rfl)) (by decide) (by decide)) (g := (mkF m 0 #[.val (.int (3 : Int32)), .unset, .unset, .unset, .unset] [])) rfl (by rw [hml]; rfl) (argsL := []) (rest := []) (lenOf pd____Lcom_example_watthour_watthour_tariff_Phases_ rfl) rfl (by show 2 * 0 + _ ≤ _; exact Nat.le_of_eq rfl) (hb hby d1_0) (fun _ _ => ⟨rfl, e0, (by decide : 0 + 1 ≤ _), (by decide : 0 + 2 ≤ _)⟩)
  dsimp only [Pt.U, Pt.locs, Pt.cells, Pt.slots] at X1 l1 y1 z1 st1 hQ1
  subst l1 y1 z1
  obtain ⟨b2_1, rfl, N1q, Kc1, bz_b2_1, fc1_0⟩ := hQ1
  have g_b2_1 : n0 ≤ b2_1 := Nat.le_trans (Nat.le_of_eq O0.1.symm) (Nat.le_trans O0.2.1 bz_b2_1)
  have sz_b2_1 : h0.size ≤ b2_1 := Nat.le_trans K0.1 bz_b2_1
  have K1 : Keep h0 T1.heap [] := K0.trans Kc1 all0
  have N1 := Fr.app N0 N1q
  refine own_s st1 ?_
  show Go p.tables e below _ (T1.setTop (mkF m 3 #[.val (.int (3 : Int32)), .unset, .unset, .unset, .unset] [(.ref b2_1)]))
  refine own_s (fun t k => XS.astoreN X1.here hx rfl (hb hby d1_3) rfl rfl (l' := #[.val (.int (3 : Int32)), .val (.ref b2_1), .unset, .unset, .unset]) rfl k) ?_
  show Go p.tables e below _ (T1.setTop (mkF m 4 #[.val (.int (3 : Int32)), .val (.ref b2_1), .unset, .unset, .unset] []))
  refine own_s (fun t k => XS.aloadN X1.here hx rfl (hb hby d1_4) rfl rfl k) ?_
  show Go p.tables e below _ (T1.setTop (mkF m 5 #[.val (.int (3 : Int32)), .val (.ref b2_1), .unset, .unset, .unset] [(.ref b2_1)]))
  obtain ⟨cl2, Ar2, qk2, Sz2, Nn2, Hs2, Gf2⟩ := id fc1_0
  refine own_s (X1.arraylength hx Ar2.1 (State.isArrayOf_alike hZ.alike Ar2.2.1) (g := (mkF m 5 #[.val (.int (3 : Int32)), .val (.ref b2_1), .unset, .unset, .unset] [(.ref b2_1)])) rfl rfl (hb hby d1_5)) ?_
  rw [len_of Sz2 Nn2]
  show Go p.tables e below _ (T1.setTop (mkF m 6 #[.val (.int (3 : Int32)), .val (.ref b2_1), .unset, .unset, .unset] [(.int (2 : Int32))]))
  refine own_s (fun t k => XS.istoreN X1.here hx rfl (hb hby d1_6) rfl (l' := #[.val (.int (3 : Int32)), .val (.ref b2_1), .val (.int (2 : Int32)), .unset, .unset]) rfl k) ?_
  show Go p.tables e below _ (T1.setTop (mkF m 7 #[.val (.int (3 : Int32)), .val (.ref b2_1), .val (.int (2 : Int32)), .unset, .unset] []))
  refine own_s (fun t k => XS.iconst X1.here hx rfl (hb hby d1_7) k) ?_
  show Go p.tables e below _ (T1.setTop (mkF m 8 #[.val (.int (3 : Int32)), .val (.ref b2_1), .val (.int (2 : Int32)), .unset, .unset] [(.int (0 : Int32))]))
  refine own_s (fun t k => XS.istoreN X1.here hx rfl (hb hby d1_8) rfl (l' := #[.val (.int (3 : Int32)), .val (.ref b2_1), .val (.int (2 : Int32)), .val (.int (0 : Int32)), .unset]) rfl k) ?_
  show Go p.tables e below _ (T1.setTop (mkF m 9 #[.val (.int (3 : Int32)), .val (.ref b2_1), .val (.int (2 : Int32)), .val (.int (0 : Int32)), .unset] []))
  refine own_s (fun t k => XS.iloadN X1.here hx rfl (hb hby d1_9) rfl k) ?_
  show Go p.tables e below _ (T1.setTop (mkF m 10 #[.val (.int (3 : Int32)), .val (.ref b2_1), .val (.int (2 : Int32)), .val (.int (0 : Int32)), .unset] [(.int (0 : Int32))]))
  refine own_s (fun t k => XS.iloadN X1.here hx rfl (hb hby d1_10) rfl k) ?_
  show Go p.tables e below _ (T1.setTop (mkF m 11 #[.val (.int (3 : Int32)), .val (.ref b2_1), .val (.int (2 : Int32)), .val (.int (0 : Int32)), .unset] [(.int (2 : Int32)), (.int (0 : Int32))]))
  refine own_s (fun t k => XS.icmpNo X1.here hx rfl (hb hby d1_11) rfl (tlt (by decide : (0 : Int32) < (2 : Int32))).2.1 k) ?_
  show Go p.tables e below _ (T1.setTop (mkF m 14 #[.val (.int (3 : Int32)), .val (.ref b2_1), .val (.int (2 : Int32)), .val (.int (0 : Int32)), .unset] []))
  refine own_s (fun t k => XS.aloadN X1.here hx rfl (hb hby d1_14) rfl rfl k) ?_
  show Go p.tables e below _ (T1.setTop (mkF m 15 #[.val (.int (3 : Int32)), .val (.ref b2_1), .val (.int (2 : Int32)), .val (.int (0 : Int32)), .unset] [(.ref b2_1)]))
  refine own_s (fun t k => XS.iloadN X1.here hx rfl (hb hby d1_15) rfl k) ?_
  show Go p.tables e below _ (T1.setTop (mkF m 16 #[.val (.int (3 : Int32)), .val (.ref b2_1), .val (.int (2 : Int32)), .val (.int (0 : Int32)), .unset] [(.int (0 : Int32)), (.ref b2_1)]))
  obtain ⟨cl3, Ar3, qk3, Sz3, Nn3, Hs3, Gf3⟩ := id fc1_0
  have hin3 : ¬ ((0 : Int32) < 0 ∨ cl3.slots.size ≤ ((0 : Int32)).toNatClampNeg) := inb_of Sz3 ⟨by decide, by decide⟩
  have hat3 : cl3.slots[((0 : Int32)).toNatClampNeg]? = some (.ref u1) := Has.at Hs3 hin3 rfl
  refine own_s (X1.aaload hx (j := (0 : Int32)) (v := (.ref u1)) Ar3.1 (State.isArrayOf_alike hZ.alike Ar3.2.1) rfl Ar3.2.2 hin3 hat3 (g := (mkF m 16 #[.val (.int (3 : Int32)), .val (.ref b2_1), .val (.int (2 : Int32)), .val (.int (0 : Int32)), .unset] [(.int (0 : Int32)), (.ref b2_1)])) rfl rfl (hb hby d1_16)) ?_
  show Go p.tables e below _ (T1.setTop (mkF m 17 #[.val (.int (3 : Int32)), .val (.ref b2_1), .val (.int (2 : Int32)), .val (.int (0 : Int32)), .unset] [(.ref u1)]))
  refine own_s (fun t k => XS.astore X1.here hx rfl (hb hby d1_17) rfl rfl (l' := #[.val (.int (3 : Int32)), .val (.ref b2_1), .val (.int (2 : Int32)), .val (.int (0 : Int32)), .val (.ref u1)]) rfl k) ?_
  show Go p.tables e below _ (T1.setTop (mkF m 19 #[.val (.int (3 : Int32)), .val (.ref b2_1), .val (.int (2 : Int32)), .val (.int (0 : Int32)), .val (.ref u1)] []))
  refine own_s (fun t k => XS.aload X1.here hx rfl (hb hby d1_19) rfl rfl k) ?_
  show Go p.tables e below _ (T1.setTop (mkF m 21 #[.val (.int (3 : Int32)), .val (.ref b2_1), .val (.int (2 : Int32)), .val (.int (0 : Int32)), .val (.ref u1)] [(.ref u1)]))
  have O4 : Old Z n0 T1.heap := (O0.keep Kc1 all0)
  obtain ⟨T5, X5, e5, st5⟩ := getF X1 hx hZ hown (host := "") (Or.inl (hw _ (List.mem_of_getElem? (i := 22) rfl))) Via.refl rfl (OF_1.ext O4.2) (g := (mkF m 21 #[.val (.int (3 : Int32)), .val (.ref b2_1), .val (.int (2 : Int32)), .val (.int (0 : Int32)), .val (.ref u1)] [(.ref u1)])) rfl rfl (hb hby d1_21)
  refine own_s st5 ?_
  show Go p.tables e below _ (T5.setTop (mkF m 24 #[.val (.int (3 : Int32)), .val (.ref b2_1), .val (.int (2 : Int32)), .val (.int (0 : Int32)), .val (.ref u1)] [(.int (1 : Int32))]))
  refine own_s (fun t k => XS.iloadN X5.here hx rfl (hb hby d1_24) rfl k) ?_
  show Go p.tables e below _ (T5.setTop (mkF m 25 #[.val (.int (3 : Int32)), .val (.ref b2_1), .val (.int (2 : Int32)), .val (.int (0 : Int32)), .val (.ref u1)] [(.int (3 : Int32)), (.int (1 : Int32))]))
  refine own_s (fun t k => XS.icmpYes X5.here hx rfl (pc0 := 25) (pc' := 31) rfl (hb hby d1_25) rfl (feq (by decide : ¬ ((1 : Int32) = (3 : Int32)))).2 (by decide) (by decide) k) ?_
  show Go p.tables e below _ (T5.setTop (mkF m 31 #[.val (.int (3 : Int32)), .val (.ref b2_1), .val (.int (2 : Int32)), .val (.int (0 : Int32)), .val (.ref u1)] []))
  refine own_s (fun t k => XS.iinc X5.here hx rfl (hb hby d1_31) rfl (l' := #[.val (.int (3 : Int32)), .val (.ref b2_1), .val (.int (2 : Int32)), .val (.int (1 : Int32)), .val (.ref u1)]) rfl k) ?_
  show Go p.tables e below _ (T5.setTop (mkF m 34 #[.val (.int (3 : Int32)), .val (.ref b2_1), .val (.int (2 : Int32)), .val (.int (1 : Int32)), .val (.ref u1)] []))
  refine own_s (fun t k => XS.goto X5.here hx rfl (pc0 := 34) (pc' := 9) rfl (hb hby d1_34) (by decide) (by decide) k) ?_
  show Go p.tables e below _ (T5.setTop (mkF m 9 #[.val (.int (3 : Int32)), .val (.ref b2_1), .val (.int (2 : Int32)), .val (.int (1 : Int32)), .val (.ref u1)] []))
  refine own_s (fun t k => XS.iloadN X5.here hx rfl (hb hby d1_9) rfl k) ?_
  show Go p.tables e below _ (T5.setTop (mkF m 10 #[.val (.int (3 : Int32)), .val (.ref b2_1), .val (.int (2 : Int32)), .val (.int (1 : Int32)), .val (.ref u1)] [(.int (1 : Int32))]))
  refine own_s (fun t k => XS.iloadN X5.here hx rfl (hb hby d1_10) rfl k) ?_
  show Go p.tables e below _ (T5.setTop (mkF m 11 #[.val (.int (3 : Int32)), .val (.ref b2_1), .val (.int (2 : Int32)), .val (.int (1 : Int32)), .val (.ref u1)] [(.int (2 : Int32)), (.int (1 : Int32))]))
  refine own_s (fun t k => XS.icmpNo X5.here hx rfl (hb hby d1_11) rfl (tlt (by decide : (1 : Int32) < (2 : Int32))).2.1 k) ?_
  show Go p.tables e below _ (T5.setTop (mkF m 14 #[.val (.int (3 : Int32)), .val (.ref b2_1), .val (.int (2 : Int32)), .val (.int (1 : Int32)), .val (.ref u1)] []))
  refine own_s (fun t k => XS.aloadN X5.here hx rfl (hb hby d1_14) rfl rfl k) ?_
  show Go p.tables e below _ (T5.setTop (mkF m 15 #[.val (.int (3 : Int32)), .val (.ref b2_1), .val (.int (2 : Int32)), .val (.int (1 : Int32)), .val (.ref u1)] [(.ref b2_1)]))
  refine own_s (fun t k => XS.iloadN X5.here hx rfl (hb hby d1_15) rfl k) ?_
  show Go p.tables e below _ (T5.setTop (mkF m 16 #[.val (.int (3 : Int32)), .val (.ref b2_1), .val (.int (2 : Int32)), .val (.int (1 : Int32)), .val (.ref u1)] [(.int (1 : Int32)), (.ref b2_1)]))
  obtain ⟨cl6, Ar6, qk6, Sz6, Nn6, Hs6, Gf6⟩ := id fc1_0
  have hin6 : ¬ ((1 : Int32) < 0 ∨ cl6.slots.size ≤ ((1 : Int32)).toNatClampNeg) := inb_of Sz6 ⟨by decide, by decide⟩
  have hat6 : cl6.slots[((1 : Int32)).toNatClampNeg]? = some (.ref u3) := Has.at Hs6 hin6 rfl
  refine own_s (X5.aaload hx (j := (1 : Int32)) (v := (.ref u3)) (by rw [e5]; exact Ar6.1) (State.isArrayOf_alike hZ.alike Ar6.2.1) rfl Ar6.2.2 hin6 hat6 (g := (mkF m 16 #[.val (.int (3 : Int32)), .val (.ref b2_1), .val (.int (2 : Int32)), .val (.int (1 : Int32)), .val (.ref u1)] [(.int (1 : Int32)), (.ref b2_1)])) rfl rfl (hb hby d1_16)) ?_
  show Go p.tables e below _ (T5.setTop (mkF m 17 #[.val (.int (3 : Int32)), .val (.ref b2_1), .val (.int (2 : Int32)), .val (.int (1 : Int32)), .val (.ref u1)] [(.ref u3)]))
  refine own_s (fun t k => XS.astore X5.here hx rfl (hb hby d1_17) rfl rfl (l' := #[.val (.int (3 : Int32)), .val (.ref b2_1), .val (.int (2 : Int32)), .val (.int (1 : Int32)), .val (.ref u3)]) rfl k) ?_
  show Go p.tables e below _ (T5.setTop (mkF m 19 #[.val (.int (3 : Int32)), .val (.ref b2_1), .val (.int (2 : Int32)), .val (.int (1 : Int32)), .val (.ref u3)] []))
  refine own_s (fun t k => XS.aload X5.here hx rfl (hb hby d1_19) rfl rfl k) ?_
  show Go p.tables e below _ (T5.setTop (mkF m 21 #[.val (.int (3 : Int32)), .val (.ref b2_1), .val (.int (2 : Int32)), .val (.int (1 : Int32)), .val (.ref u3)] [(.ref u3)]))
  obtain ⟨T7, X7, e7, st7⟩ := getF X5 hx hZ hown (host := "") (Or.inl (hw _ (List.mem_of_getElem? (i := 22) rfl))) Via.refl e5 (OF_3.ext O4.2) (g := (mkF m 21 #[.val (.int (3 : Int32)), .val (.ref b2_1), .val (.int (2 : Int32)), .val (.int (1 : Int32)), .val (.ref u3)] [(.ref u3)])) rfl rfl (hb hby d1_21)
  refine own_s st7 ?_
  show Go p.tables e below _ (T7.setTop (mkF m 24 #[.val (.int (3 : Int32)), .val (.ref b2_1), .val (.int (2 : Int32)), .val (.int (1 : Int32)), .val (.ref u3)] [(.int (3 : Int32))]))
  refine own_s (fun t k => XS.iloadN X7.here hx rfl (hb hby d1_24) rfl k) ?_
  show Go p.tables e below _ (T7.setTop (mkF m 25 #[.val (.int (3 : Int32)), .val (.ref b2_1), .val (.int (2 : Int32)), .val (.int (1 : Int32)), .val (.ref u3)] [(.int (3 : Int32)), (.int (3 : Int32))]))
  refine own_s (fun t k => XS.icmpNo X7.here hx rfl (hb hby d1_25) rfl (teq (by decide : (3 : Int32) = (3 : Int32))).2 k) ?_
  show Go p.tables e below _ (T7.setTop (mkF m 28 #[.val (.int (3 : Int32)), .val (.ref b2_1), .val (.int (2 : Int32)), .val (.int (1 : Int32)), .val (.ref u3)] []))
  refine own_s (fun t k => XS.aload X7.here hx rfl (hb hby d1_28) rfl rfl k) ?_
  show Go p.tables e below _ (T7.setTop (mkF m 30 #[.val (.int (3 : Int32)), .val (.ref b2_1), .val (.int (2 : Int32)), .val (.int (1 : Int32)), .val (.ref u3)] [(.ref u3)]))
  obtain ⟨fs, hr, hrun, hended, hW, hsame⟩ := X7.leave (v := (some (.ref u3))) (fun h => by first | rfl | (rw [Bd.returns] at h; cases h))
  refine own_e ?_ hrun hended ⟨_, _, rfl, ?_, ⟨_, rfl⟩, hW, hsame.mono (by decide) (by decide)⟩
  · exact retOut X7 hx Bd.returns rfl (Or.inr (Or.inr (Or.inr (Or.inr ⟨rfl, rfl, rfl⟩)))) (hb hby d1_30) hr
  · show Q_rm1_3 Z uV kV u1 u3 h0 n0 _ T7.heap _
    rw [e7]
    exact ⟨rfl, N1, K1⟩
theorem pd__I_Lcom_example_watthour_watthour_tariff_Phases_ : parseMethodDescriptor "(I)Lcom/example/watthour/watthour/tariff/Phases;" = some ⟨[.int], some (.object "com/example/watthour/watthour/tariff/Phases")⟩ := by decide +kernel
theorem pd___I : parseMethodDescriptor "()I" = some ⟨[], some .int⟩ := by decide +kernel
theorem pn_com_example_watthour_watthour_tariff_PhasesOfPinLaw : plainName "com/example/watthour/watthour/tariff/PhasesOfPinLaw" = true := by first | (simp [plainName, overriddenIn]; done) | decide +kernel
theorem ef_rm0 (m : MethodId) (x0 : Int32) : entryFrame m #[(.int x0)] maxLocals = mkF m 0 #[.val (.int x0), .unset, .unset, .unset, .unset] [] := by first | (simp [entryFrame, mkF, argsToLocals, Value.category, maxLocals]; done) | rfl
def Q_rm0 (Z : State) (uV : Addr) (kV : ClassId) (u1 : Addr) (u3 : Addr) (x0 : Int32) (h0 : Heap) (n0 : Nat) (v : Option Value) (h : Heap) (L : List Loc) : Prop := v = some (.int (1 : Int32)) ∧ Fr n0 L
set_option maxRecDepth 65536 in
set_option maxHeartbeats 40000000 in
theorem rm0 (l : Launch) (Z : State) (a0 : Array Value) (hw : ∀ d ∈ tables_1, d.before a0 Z = true) (ws : List Jvm.Cond) (uV : Addr) (kV : ClassId) (u1 : Addr) (u3 : Addr) (x0 : Int32) (h0 : Heap) (n0 : Nat) (O0 : Old Z n0 h0) (S_V : Sta Z Z.heap "com/example/watthour/watthour/tariff/Phases" "$VALUES" "[Lcom/example/watthour/watthour/tariff/Phases;" (.ref uV)) (S_1 : Sta Z Z.heap "com/example/watthour/watthour/tariff/Phases" "SINGLE" "Lcom/example/watthour/watthour/tariff/Phases;" (.ref u1)) (S_3 : Sta Z Z.heap "com/example/watthour/watthour/tariff/Phases" "THREE" "Lcom/example/watthour/watthour/tariff/Phases;" (.ref u3)) (OV_V : Arv Z Z.heap uV kV (.object "com/example/watthour/watthour/tariff/Phases") (2 : Int32) [(.ref u1), (.ref u3)] .null) (OE_V : Exa Z Z.heap uV "[Lcom/example/watthour/watthour/tariff/Phases;") (OF_1 : Fld Z Z.heap u1 "com/example/watthour/watthour/tariff/Phases" "count" "I" (.int (1 : Int32))) (OF_3 : Fld Z Z.heap u3 "com/example/watthour/watthour/tariff/Phases" "count" "I" (.int (3 : Int32))) (OE_1 : Exa Z Z.heap u1 "com/example/watthour/watthour/tariff/Phases") (OE_3 : Exa Z Z.heap u3 "com/example/watthour/watthour/tariff/Phases") :
    MetFree l x (head1 (Jvm.Cond.code x code maxLocals ret :: ws) room_1) (fun aa_ U => aa_ = #[(.int x0)] ∧ Z.Warmed39 U.vm ∧ U.heap = h0) (fun _ _ _ _ _ => True) (fun _ U oo_ U' => ∃ vv_ LL_, oo_ = .returned vv_ ∧ Q_rm0 Z uV kV u1 u3 x0 h0 n0 vv_ U'.heap LL_ ∧ FrameEnd U oo_ U' LL_ room_1.cells room_1.slots) := by
  refine MetFree.of_bodySF (plainFor_of_name pn_com_example_watthour_watthour_tariff_PhasesOfPinLaw) hisR ?_
  intro p e s m args below meth c s₁ Bd hml0 hP hK
  obtain ⟨rfl, hZ, hh⟩ := hP
  have hx := Bd.exec
  have hby := Bd.bytes
  have hml : c.maxLocals = 5 := hml0
  have hown : s.vm.findClass "com/example/watthour/watthour/tariff/PhasesOfPinLaw" = some m.cls := findClass_of_methodNamed Bd.named
  have hnm := (name_of_methodNamed Bd.named Bd.method).1
  have X0 : Stand p l e room_1 s m #[(.int x0)] below meth c s₁ [] 0 0 := Stand.of_body Bd
  have e0 : s₁.heap = h0 := by rw [← hh, Bd.state]; rfl
  have N0 := Fr.nil n0
  have K0 : Keep h0 h0 [] := Keep.refl h0 _
  refine own_i (own_s (fun t k => castTop (ef_rm0 m x0) k) ?_)
  show Go p.tables e below _ (s₁.setTop (mkF m 0 #[.val (.int x0), .unset, .unset, .unset, .unset] []))
  refine own_s (fun t k => XS.iloadN X0.here hx rfl (hb hby at_0) rfl k) ?_
  show Go p.tables e below _ (s₁.setTop (mkF m 1 #[.val (.int x0), .unset, .unset, .unset, .unset] [(.int x0)]))
  refine own_s (fun t k => XS.iconst X0.here hx rfl (hb hby at_1) k) ?_
  show Go p.tables e below _ (s₁.setTop (mkF m 2 #[.val (.int x0), .unset, .unset, .unset, .unset] [(.int (1 : Int32)), (.int x0)]))
  refine own_s (fun t k => XS.iand X0.here hx rfl (hb hby at_2) rfl k) ?_
  show Go p.tables e below _ (s₁.setTop (mkF m 3 #[.val (.int x0), .unset, .unset, .unset, .unset] [(.int (x0 &&& (1 : Int32)))]))
  by_cases hc1 : (x0 &&& (1 : Int32)) = (0 : Int32)
  ·
    refine own_s (fun t k => XS.ifYes X0.here hx rfl (pc0 := 3) (pc' := 10) rfl (hb hby at_3) rfl ((if0 _ _).trans (teq hc1).1) (by decide) (by decide) k) ?_
    show Go p.tables e below _ (s₁.setTop (mkF m 10 #[.val (.int x0), .unset, .unset, .unset, .unset] []))
    refine own_s (fun t k => XS.iconst X0.here hx rfl (hb hby at_10) k) ?_
    show Go p.tables e below _ (s₁.setTop (mkF m 11 #[.val (.int x0), .unset, .unset, .unset, .unset] [(.int (0 : Int32))]))
    refine own_s (fun t k => XS.istoreN X0.here hx rfl (hb hby at_11) rfl (l' := #[.val (.int x0), .val (.int (0 : Int32)), .unset, .unset, .unset]) rfl k) ?_
    show Go p.tables e below _ (s₁.setTop (mkF m 12 #[.val (.int x0), .val (.int (0 : Int32)), .unset, .unset, .unset] []))
    refine own_s (fun t k => XS.iloadN X0.here hx rfl (hb hby at_12) rfl k) ?_
    show Go p.tables e below _ (s₁.setTop (mkF m 13 #[.val (.int x0), .val (.int (0 : Int32)), .unset, .unset, .unset] [(.int (0 : Int32))]))
    refine own_s (fun t k => XS.ifYes X0.here hx rfl (pc0 := 13) (pc' := 20) rfl (hb hby at_13) rfl ((if0 _ _).trans (teq (by decide : (0 : Int32) = (0 : Int32))).1) (by decide) (by decide) k) ?_
    show Go p.tables e below _ (s₁.setTop (mkF m 20 #[.val (.int x0), .val (.int (0 : Int32)), .unset, .unset, .unset] []))
    refine own_s (fun t k => XS.iconst X0.here hx rfl (hb hby at_20) k) ?_
    show Go p.tables e below _ (s₁.setTop (mkF m 21 #[.val (.int x0), .val (.int (0 : Int32)), .unset, .unset, .unset] [(.int (1 : Int32))]))
    refine own_s (fun t k => XS.istoreN X0.here hx rfl (hb hby at_21) rfl (l' := #[.val (.int x0), .val (.int (0 : Int32)), .val (.int (1 : Int32)), .unset, .unset]) rfl k) ?_
    show Go p.tables e below _ (s₁.setTop (mkF m 22 #[.val (.int x0), .val (.int (0 : Int32)), .val (.int (1 : Int32)), .unset, .unset] []))
    refine own_s (fun t k => XS.iloadN X0.here hx rfl (hb hby at_22) rfl k) ?_
    show Go p.tables e below _ (s₁.setTop (mkF m 23 #[.val (.int x0), .val (.int (0 : Int32)), .val (.int (1 : Int32)), .unset, .unset] [(.int (0 : Int32))]))
    refine own_s (fun t k => XS.ifYes X0.here hx rfl (pc0 := 23) (pc' := 32) rfl (hb hby at_23) rfl ((if0 _ _).trans (teq (by decide : (0 : Int32) = (0 : Int32))).1) (by decide) (by decide) k) ?_
    show Go p.tables e below _ (s₁.setTop (mkF m 32 #[.val (.int x0), .val (.int (0 : Int32)), .val (.int (1 : Int32)), .unset, .unset] []))
    obtain ⟨T2, X2, e2, st2⟩ := getS2 X0 hx hZ hown (host := "") (Or.inl (hw _ (List.mem_of_getElem? (i := 0) rfl))) Via.refl e0 (S_1.ext O0.2) (g := (mkF m 32 #[.val (.int x0), .val (.int (0 : Int32)), .val (.int (1 : Int32)), .unset, .unset] [])) rfl (hb hby at_32)
    refine own_s st2 ?_
    show Go p.tables e below _ (T2.setTop (mkF m 35 #[.val (.int x0), .val (.int (0 : Int32)), .val (.int (1 : Int32)), .unset, .unset] [(.ref u1)]))
    refine own_s (fun t k => XS.astoreN X2.here hx rfl (hb hby at_35) rfl rfl (l' := #[.val (.int x0), .val (.int (0 : Int32)), .val (.int (1 : Int32)), .val (.ref u1), .unset]) rfl k) ?_
    show Go p.tables e below _ (T2.setTop (mkF m 36 #[.val (.int x0), .val (.int (0 : Int32)), .val (.int (1 : Int32)), .val (.ref u1), .unset] []))
    refine own_s (fun t k => XS.iloadN X2.here hx rfl (hb hby at_36) rfl k) ?_
    show Go p.tables e below _ (T2.setTop (mkF m 37 #[.val (.int x0), .val (.int (0 : Int32)), .val (.int (1 : Int32)), .val (.ref u1), .unset] [(.int (1 : Int32))]))
    obtain ⟨_, _, ⟨T3, L3, k3, n3⟩, -, X3, ⟨Lc3, hQ3, l3, y3, z3⟩, st3⟩ := Jvm.LawKit.callS X2 hx (y := (⟨"com/example/watthour/watthour/tariff/Phases", "of", "(I)Lcom/example/watthour/watthour/tariff/Phases;"⟩ : MethodName)) hown (mvT hZ (hw _ (List.mem_of_getElem? (i := 3) rfl))) (mvT hZ (hw _ (List.mem_of_getElem? (i := 4) rfl))) (mvT hZ (hw _ (List.mem_of_getElem? (i := 1) rfl))) (mvT hZ (hw _ (List.mem_of_getElem? (i := 5) rfl))) (by decide) (backOf (W := 0) (rm1_1 l Z a0 hw [] uV kV u1 u3 h0 n0 O0 S_V OV_V OE_V OF_1 OF_3) hZ (hw _ (List.mem_of_getElem? (i := 5) rfl)) (hw _ (List.mem_of_getElem? (i := 1) rfl)) (by decide) (by decide)) (g := (mkF m 37 #[.val (.int x0), .val (.int (0 : Int32)), .val (.int (1 : Int32)), .val (.ref u1), .unset] [(.int (1 : Int32))])) rfl (by rw [hml]; rfl) (argsL := [(.int (1 : Int32))]) (rest := []) (lenOf pd__I_Lcom_example_watthour_watthour_tariff_Phases_ rfl) rfl (by show 2 * 0 + _ ≤ _; exact Nat.le_of_eq rfl) (hb hby at_37) (fun _ _ => ⟨rfl, e2, (by decide : 0 + 1 ≤ _), (by decide : 0 + 2 ≤ _)⟩)
    dsimp only [Pt.U, Pt.locs, Pt.cells, Pt.slots] at X3 l3 y3 z3 st3 hQ3
    subst l3 y3 z3
    obtain ⟨rfl, N3q, Kc3⟩ := hQ3
    have K3 : Keep h0 T3.heap [] := K0.trans Kc3 all0
    have N3 := Fr.app N0 N3q
    refine own_s st3 ?_
    show Go p.tables e below _ (T3.setTop (mkF m 40 #[.val (.int x0), .val (.int (0 : Int32)), .val (.int (1 : Int32)), .val (.ref u1), .unset] [(.ref u1)]))
    refine own_s (fun t k => XS.astore X3.here hx rfl (hb hby at_40) rfl rfl (l' := #[.val (.int x0), .val (.int (0 : Int32)), .val (.int (1 : Int32)), .val (.ref u1), .val (.ref u1)]) rfl k) ?_
    show Go p.tables e below _ (T3.setTop (mkF m 42 #[.val (.int x0), .val (.int (0 : Int32)), .val (.int (1 : Int32)), .val (.ref u1), .val (.ref u1)] []))
    refine own_s (fun t k => XS.aload X3.here hx rfl (hb hby at_42) rfl rfl k) ?_
    show Go p.tables e below _ (T3.setTop (mkF m 44 #[.val (.int x0), .val (.int (0 : Int32)), .val (.int (1 : Int32)), .val (.ref u1), .val (.ref u1)] [(.ref u1)]))
    refine own_s (fun t k => XS.aloadN X3.here hx rfl (hb hby at_44) rfl rfl k) ?_
    show Go p.tables e below _ (T3.setTop (mkF m 45 #[.val (.int x0), .val (.int (0 : Int32)), .val (.int (1 : Int32)), .val (.ref u1), .val (.ref u1)] [(.ref u1), (.ref u1)]))
    refine own_s (fun t k => Jvm.RoadKit.acmp (g := (mkF m 45 #[.val (.int x0), .val (.int (0 : Int32)), .val (.int (1 : Int32)), .val (.ref u1), .val (.ref u1)] [(.ref u1), (.ref u1)])) X3 hx rfl rfl rfl (pc0 := 45) (pc' := 50) (same := true) rfl (hb hby at_45) rfl (decide_eq_true rfl) (by decide) (by decide) k) ?_
    show Go p.tables e below _ (T3.setTop (mkF m 50 #[.val (.int x0), .val (.int (0 : Int32)), .val (.int (1 : Int32)), .val (.ref u1), .val (.ref u1)] []))
    refine own_s (fun t k => XS.aload X3.here hx rfl (hb hby at_50) rfl rfl k) ?_
    show Go p.tables e below _ (T3.setTop (mkF m 52 #[.val (.int x0), .val (.int (0 : Int32)), .val (.int (1 : Int32)), .val (.ref u1), .val (.ref u1)] [(.ref u1)]))
    have O5 : Old Z n0 T3.heap := (O0.keep Kc3 all0)
    obtain ⟨cq4, kq4, q4a, q4b, q4c⟩ := isOf hZ rfl (OE_1.ext O5.2)
    obtain ⟨_, _, ⟨T4, L4, k4, n4⟩, -, X4, ⟨Lc4, hQ4, l4, y4, z4⟩, st4⟩ := X3.virtualBack hx (y := (⟨"com/example/watthour/watthour/tariff/Phases", "getCount", "()I"⟩ : MethodName)) (z := (⟨"com/example/watthour/watthour/tariff/Phases", "getCount", "()I"⟩ : MethodName)) hown (mvT hZ (hw _ (List.mem_of_getElem? (i := 24) rfl))) (mvT hZ (hw _ (List.mem_of_getElem? (i := 25) rfl))) (notFace_of_selects (args := #[]) (mvT hZ (hw _ (List.mem_of_getElem? (i := 27) rfl)))) (mvT hZ (hw _ (List.mem_of_getElem? (i := 27) rfl))) (mvT hZ (hw _ (List.mem_of_getElem? (i := 26) rfl))) (by decide) (backOf (W := 0) (rm3 l Z a0 hw [] u1 (1 : Int32) T3.heap n0 O5 (OF_1.ext O5.2)) hZ (hw _ (List.mem_of_getElem? (i := 28) rfl)) (hw _ (List.mem_of_getElem? (i := 1) rfl)) (by decide) (by decide)) q4a q4c (g := (mkF m 52 #[.val (.int x0), .val (.int (0 : Int32)), .val (.int (1 : Int32)), .val (.ref u1), .val (.ref u1)] [(.ref u1)])) rfl (by rw [hml]; rfl) (Steps.refl _) (argsL := []) (rest := []) (lenOf pd___I rfl) rfl (by show 2 * 0 + _ ≤ _; exact Nat.le_of_eq rfl) (hb hby at_52) (fun _ _ => ⟨rfl, rfl, (by decide : 1 + 0 ≤ _), (by decide : 2 + 0 ≤ _)⟩)
    dsimp only [Pt.U, Pt.locs, Pt.cells, Pt.slots] at X4 l4 y4 z4 st4 hQ4
    subst l4 y4 z4
    obtain ⟨rfl, N4q, eq4⟩ := hQ4
    have N4 := Fr.app N3 N4q
    refine own_t st4 ?_
    show Go p.tables e below _ (T4.setTop (mkF m 55 #[.val (.int x0), .val (.int (0 : Int32)), .val (.int (1 : Int32)), .val (.ref u1), .val (.ref u1)] [(.int (1 : Int32))]))
    refine own_s (fun t k => XS.iloadN X4.here hx rfl (hb hby at_55) rfl k) ?_
    show Go p.tables e below _ (T4.setTop (mkF m 56 #[.val (.int x0), .val (.int (0 : Int32)), .val (.int (1 : Int32)), .val (.ref u1), .val (.ref u1)] [(.int (1 : Int32)), (.int (1 : Int32))]))
    refine own_s (fun t k => XS.icmpNo X4.here hx rfl (hb hby at_56) rfl (teq (by decide : (1 : Int32) = (1 : Int32))).2 k) ?_
    show Go p.tables e below _ (T4.setTop (mkF m 59 #[.val (.int x0), .val (.int (0 : Int32)), .val (.int (1 : Int32)), .val (.ref u1), .val (.ref u1)] []))
    refine own_s (fun t k => XS.iconst X4.here hx rfl (hb hby at_59) k) ?_
    show Go p.tables e below _ (T4.setTop (mkF m 60 #[.val (.int x0), .val (.int (0 : Int32)), .val (.int (1 : Int32)), .val (.ref u1), .val (.ref u1)] [(.int (1 : Int32))]))
    refine own_s (fun t k => XS.goto X4.here hx rfl (pc0 := 60) (pc' := 64) rfl (hb hby at_60) (by decide) (by decide) k) ?_
    show Go p.tables e below _ (T4.setTop (mkF m 64 #[.val (.int x0), .val (.int (0 : Int32)), .val (.int (1 : Int32)), .val (.ref u1), .val (.ref u1)] [(.int (1 : Int32))]))
    obtain ⟨fs, hr, hrun, hended, hW, hsame⟩ := X4.leave (v := (some (.int (1 : Int32)))) (fun h => by first | rfl | (rw [Bd.returns] at h; cases h))
    refine own_e ?_ hrun hended ⟨_, _, rfl, ?_, ⟨_, rfl⟩, hW, hsame.mono (by decide) (by decide)⟩
    · exact retN X4 hx (t := .boolean) Bd.returns (by simp) (hb hby at_64) hr
    · show Q_rm0 Z uV kV u1 u3 x0 h0 n0 _ T4.heap _
      rw [eq4]
      exact ⟨rfl, N4⟩
  ·
    refine own_s (fun t k => XS.ifNo X0.here hx rfl (hb hby at_3) rfl ((if0 _ _).trans (feq hc1).1) k) ?_
    show Go p.tables e below _ (s₁.setTop (mkF m 6 #[.val (.int x0), .unset, .unset, .unset, .unset] []))
    refine own_s (fun t k => XS.iconst X0.here hx rfl (hb hby at_6) k) ?_
    show Go p.tables e below _ (s₁.setTop (mkF m 7 #[.val (.int x0), .unset, .unset, .unset, .unset] [(.int (1 : Int32))]))
    refine own_s (fun t k => XS.goto X0.here hx rfl (pc0 := 7) (pc' := 11) rfl (hb hby at_7) (by decide) (by decide) k) ?_
    show Go p.tables e below _ (s₁.setTop (mkF m 11 #[.val (.int x0), .unset, .unset, .unset, .unset] [(.int (1 : Int32))]))
    refine own_s (fun t k => XS.istoreN X0.here hx rfl (hb hby at_11) rfl (l' := #[.val (.int x0), .val (.int (1 : Int32)), .unset, .unset, .unset]) rfl k) ?_
    show Go p.tables e below _ (s₁.setTop (mkF m 12 #[.val (.int x0), .val (.int (1 : Int32)), .unset, .unset, .unset] []))
    refine own_s (fun t k => XS.iloadN X0.here hx rfl (hb hby at_12) rfl k) ?_
    show Go p.tables e below _ (s₁.setTop (mkF m 13 #[.val (.int x0), .val (.int (1 : Int32)), .unset, .unset, .unset] [(.int (1 : Int32))]))
    refine own_s (fun t k => XS.ifNo X0.here hx rfl (hb hby at_13) rfl ((if0 _ _).trans (feq (by decide : ¬ ((1 : Int32) = (0 : Int32)))).1) k) ?_
    show Go p.tables e below _ (s₁.setTop (mkF m 16 #[.val (.int x0), .val (.int (1 : Int32)), .unset, .unset, .unset] []))
    refine own_s (fun t k => XS.iconst X0.here hx rfl (hb hby at_16) k) ?_
    show Go p.tables e below _ (s₁.setTop (mkF m 17 #[.val (.int x0), .val (.int (1 : Int32)), .unset, .unset, .unset] [(.int (3 : Int32))]))
    refine own_s (fun t k => XS.goto X0.here hx rfl (pc0 := 17) (pc' := 21) rfl (hb hby at_17) (by decide) (by decide) k) ?_
    show Go p.tables e below _ (s₁.setTop (mkF m 21 #[.val (.int x0), .val (.int (1 : Int32)), .unset, .unset, .unset] [(.int (3 : Int32))]))
    refine own_s (fun t k => XS.istoreN X0.here hx rfl (hb hby at_21) rfl (l' := #[.val (.int x0), .val (.int (1 : Int32)), .val (.int (3 : Int32)), .unset, .unset]) rfl k) ?_
    show Go p.tables e below _ (s₁.setTop (mkF m 22 #[.val (.int x0), .val (.int (1 : Int32)), .val (.int (3 : Int32)), .unset, .unset] []))
    refine own_s (fun t k => XS.iloadN X0.here hx rfl (hb hby at_22) rfl k) ?_
    show Go p.tables e below _ (s₁.setTop (mkF m 23 #[.val (.int x0), .val (.int (1 : Int32)), .val (.int (3 : Int32)), .unset, .unset] [(.int (1 : Int32))]))
    refine own_s (fun t k => XS.ifNo X0.here hx rfl (hb hby at_23) rfl ((if0 _ _).trans (feq (by decide : ¬ ((1 : Int32) = (0 : Int32)))).1) k) ?_
    show Go p.tables e below _ (s₁.setTop (mkF m 26 #[.val (.int x0), .val (.int (1 : Int32)), .val (.int (3 : Int32)), .unset, .unset] []))
    obtain ⟨T6, X6, e6, st6⟩ := getS2 X0 hx hZ hown (host := "") (Or.inl (hw _ (List.mem_of_getElem? (i := 29) rfl))) Via.refl e0 (S_3.ext O0.2) (g := (mkF m 26 #[.val (.int x0), .val (.int (1 : Int32)), .val (.int (3 : Int32)), .unset, .unset] [])) rfl (hb hby at_26)
    refine own_s st6 ?_
    show Go p.tables e below _ (T6.setTop (mkF m 29 #[.val (.int x0), .val (.int (1 : Int32)), .val (.int (3 : Int32)), .unset, .unset] [(.ref u3)]))
    refine own_s (fun t k => XS.goto X6.here hx rfl (pc0 := 29) (pc' := 35) rfl (hb hby at_29) (by decide) (by decide) k) ?_
    show Go p.tables e below _ (T6.setTop (mkF m 35 #[.val (.int x0), .val (.int (1 : Int32)), .val (.int (3 : Int32)), .unset, .unset] [(.ref u3)]))
    refine own_s (fun t k => XS.astoreN X6.here hx rfl (hb hby at_35) rfl rfl (l' := #[.val (.int x0), .val (.int (1 : Int32)), .val (.int (3 : Int32)), .val (.ref u3), .unset]) rfl k) ?_
    show Go p.tables e below _ (T6.setTop (mkF m 36 #[.val (.int x0), .val (.int (1 : Int32)), .val (.int (3 : Int32)), .val (.ref u3), .unset] []))
    refine own_s (fun t k => XS.iloadN X6.here hx rfl (hb hby at_36) rfl k) ?_
    show Go p.tables e below _ (T6.setTop (mkF m 37 #[.val (.int x0), .val (.int (1 : Int32)), .val (.int (3 : Int32)), .val (.ref u3), .unset] [(.int (3 : Int32))]))
    obtain ⟨_, _, ⟨T7, L7, k7, n7⟩, -, X7, ⟨Lc7, hQ7, l7, y7, z7⟩, st7⟩ := Jvm.LawKit.callS X6 hx (y := (⟨"com/example/watthour/watthour/tariff/Phases", "of", "(I)Lcom/example/watthour/watthour/tariff/Phases;"⟩ : MethodName)) hown (mvT hZ (hw _ (List.mem_of_getElem? (i := 3) rfl))) (mvT hZ (hw _ (List.mem_of_getElem? (i := 4) rfl))) (mvT hZ (hw _ (List.mem_of_getElem? (i := 1) rfl))) (mvT hZ (hw _ (List.mem_of_getElem? (i := 5) rfl))) (by decide) (backOf (W := 0) (rm1_3 l Z a0 hw [] uV kV u1 u3 h0 n0 O0 S_V OV_V OE_V OF_1 OF_3) hZ (hw _ (List.mem_of_getElem? (i := 5) rfl)) (hw _ (List.mem_of_getElem? (i := 1) rfl)) (by decide) (by decide)) (g := (mkF m 37 #[.val (.int x0), .val (.int (1 : Int32)), .val (.int (3 : Int32)), .val (.ref u3), .unset] [(.int (3 : Int32))])) rfl (by rw [hml]; rfl) (argsL := [(.int (3 : Int32))]) (rest := []) (lenOf pd__I_Lcom_example_watthour_watthour_tariff_Phases_ rfl) rfl (by show 2 * 0 + _ ≤ _; exact Nat.le_of_eq rfl) (hb hby at_37) (fun _ _ => ⟨rfl, e6, (by decide : 0 + 1 ≤ _), (by decide : 0 + 2 ≤ _)⟩)
    dsimp only [Pt.U, Pt.locs, Pt.cells, Pt.slots] at X7 l7 y7 z7 st7 hQ7
    subst l7 y7 z7
    obtain ⟨rfl, N7q, Kc7⟩ := hQ7
    have K7 : Keep h0 T7.heap [] := K0.trans Kc7 all0
    have N7 := Fr.app N0 N7q
    refine own_s st7 ?_
    show Go p.tables e below _ (T7.setTop (mkF m 40 #[.val (.int x0), .val (.int (1 : Int32)), .val (.int (3 : Int32)), .val (.ref u3), .unset] [(.ref u3)]))
    refine own_s (fun t k => XS.astore X7.here hx rfl (hb hby at_40) rfl rfl (l' := #[.val (.int x0), .val (.int (1 : Int32)), .val (.int (3 : Int32)), .val (.ref u3), .val (.ref u3)]) rfl k) ?_
    show Go p.tables e below _ (T7.setTop (mkF m 42 #[.val (.int x0), .val (.int (1 : Int32)), .val (.int (3 : Int32)), .val (.ref u3), .val (.ref u3)] []))
    refine own_s (fun t k => XS.aload X7.here hx rfl (hb hby at_42) rfl rfl k) ?_
    show Go p.tables e below _ (T7.setTop (mkF m 44 #[.val (.int x0), .val (.int (1 : Int32)), .val (.int (3 : Int32)), .val (.ref u3), .val (.ref u3)] [(.ref u3)]))
    refine own_s (fun t k => XS.aloadN X7.here hx rfl (hb hby at_44) rfl rfl k) ?_
    show Go p.tables e below _ (T7.setTop (mkF m 45 #[.val (.int x0), .val (.int (1 : Int32)), .val (.int (3 : Int32)), .val (.ref u3), .val (.ref u3)] [(.ref u3), (.ref u3)]))
    refine own_s (fun t k => Jvm.RoadKit.acmp (g := (mkF m 45 #[.val (.int x0), .val (.int (1 : Int32)), .val (.int (3 : Int32)), .val (.ref u3), .val (.ref u3)] [(.ref u3), (.ref u3)])) X7 hx rfl rfl rfl (pc0 := 45) (pc' := 50) (same := true) rfl (hb hby at_45) rfl (decide_eq_true rfl) (by decide) (by decide) k) ?_
    show Go p.tables e below _ (T7.setTop (mkF m 50 #[.val (.int x0), .val (.int (1 : Int32)), .val (.int (3 : Int32)), .val (.ref u3), .val (.ref u3)] []))
    refine own_s (fun t k => XS.aload X7.here hx rfl (hb hby at_50) rfl rfl k) ?_
    show Go p.tables e below _ (T7.setTop (mkF m 52 #[.val (.int x0), .val (.int (1 : Int32)), .val (.int (3 : Int32)), .val (.ref u3), .val (.ref u3)] [(.ref u3)]))
    have O9 : Old Z n0 T7.heap := (O0.keep Kc7 all0)
    obtain ⟨cq8, kq8, q8a, q8b, q8c⟩ := isOf hZ rfl (OE_3.ext O9.2)
    obtain ⟨_, _, ⟨T8, L8, k8, n8⟩, -, X8, ⟨Lc8, hQ8, l8, y8, z8⟩, st8⟩ := X7.virtualBack hx (y := (⟨"com/example/watthour/watthour/tariff/Phases", "getCount", "()I"⟩ : MethodName)) (z := (⟨"com/example/watthour/watthour/tariff/Phases", "getCount", "()I"⟩ : MethodName)) hown (mvT hZ (hw _ (List.mem_of_getElem? (i := 24) rfl))) (mvT hZ (hw _ (List.mem_of_getElem? (i := 25) rfl))) (notFace_of_selects (args := #[]) (mvT hZ (hw _ (List.mem_of_getElem? (i := 27) rfl)))) (mvT hZ (hw _ (List.mem_of_getElem? (i := 27) rfl))) (mvT hZ (hw _ (List.mem_of_getElem? (i := 26) rfl))) (by decide) (backOf (W := 0) (rm3 l Z a0 hw [] u3 (3 : Int32) T7.heap n0 O9 (OF_3.ext O9.2)) hZ (hw _ (List.mem_of_getElem? (i := 28) rfl)) (hw _ (List.mem_of_getElem? (i := 1) rfl)) (by decide) (by decide)) q8a q8c (g := (mkF m 52 #[.val (.int x0), .val (.int (1 : Int32)), .val (.int (3 : Int32)), .val (.ref u3), .val (.ref u3)] [(.ref u3)])) rfl (by rw [hml]; rfl) (Steps.refl _) (argsL := []) (rest := []) (lenOf pd___I rfl) rfl (by show 2 * 0 + _ ≤ _; exact Nat.le_of_eq rfl) (hb hby at_52) (fun _ _ => ⟨rfl, rfl, (by decide : 1 + 0 ≤ _), (by decide : 2 + 0 ≤ _)⟩)
    dsimp only [Pt.U, Pt.locs, Pt.cells, Pt.slots] at X8 l8 y8 z8 st8 hQ8
    subst l8 y8 z8
    obtain ⟨rfl, N8q, eq8⟩ := hQ8
    have N8 := Fr.app N7 N8q
    refine own_t st8 ?_
    show Go p.tables e below _ (T8.setTop (mkF m 55 #[.val (.int x0), .val (.int (1 : Int32)), .val (.int (3 : Int32)), .val (.ref u3), .val (.ref u3)] [(.int (3 : Int32))]))
    refine own_s (fun t k => XS.iloadN X8.here hx rfl (hb hby at_55) rfl k) ?_
    show Go p.tables e below _ (T8.setTop (mkF m 56 #[.val (.int x0), .val (.int (1 : Int32)), .val (.int (3 : Int32)), .val (.ref u3), .val (.ref u3)] [(.int (3 : Int32)), (.int (3 : Int32))]))
    refine own_s (fun t k => XS.icmpNo X8.here hx rfl (hb hby at_56) rfl (teq (by decide : (3 : Int32) = (3 : Int32))).2 k) ?_
    show Go p.tables e below _ (T8.setTop (mkF m 59 #[.val (.int x0), .val (.int (1 : Int32)), .val (.int (3 : Int32)), .val (.ref u3), .val (.ref u3)] []))
    refine own_s (fun t k => XS.iconst X8.here hx rfl (hb hby at_59) k) ?_
    show Go p.tables e below _ (T8.setTop (mkF m 60 #[.val (.int x0), .val (.int (1 : Int32)), .val (.int (3 : Int32)), .val (.ref u3), .val (.ref u3)] [(.int (1 : Int32))]))
    refine own_s (fun t k => XS.goto X8.here hx rfl (pc0 := 60) (pc' := 64) rfl (hb hby at_60) (by decide) (by decide) k) ?_
    show Go p.tables e below _ (T8.setTop (mkF m 64 #[.val (.int x0), .val (.int (1 : Int32)), .val (.int (3 : Int32)), .val (.ref u3), .val (.ref u3)] [(.int (1 : Int32))]))
    obtain ⟨fs, hr, hrun, hended, hW, hsame⟩ := X8.leave (v := (some (.int (1 : Int32)))) (fun h => by first | rfl | (rw [Bd.returns] at h; cases h))
    refine own_e ?_ hrun hended ⟨_, _, rfl, ?_, ⟨_, rfl⟩, hW, hsame.mono (by decide) (by decide)⟩
    · exact retN X8 hx (t := .boolean) Bd.returns (by simp) (hb hby at_64) hr
    · show Q_rm0 Z uV kV u1 u3 x0 h0 n0 _ T8.heap _
      rw [eq8]
      exact ⟨rfl, N8⟩
set_option maxRecDepth 65536 in
set_option maxHeartbeats 40000000 in
theorem comes_1 {Post : Tables → Env → Array Value → State → Outcome → State → Prop} (hpost : ∀ tb e args s v u, (limb_1_1.after args s (.returned v) u = true ∧ limb_1_2.after args s (.returned v) u = true ∧ True) → FrameEnd s (.returned v) u (Jvm.fieldLocs frame_1_writes args s ++ Jvm.arrayLocs frame_1_arrays args s ++ Jvm.staticLocs frame_1_statics s) 16 128 → Post tb e args s (.returned v) u) :
    ArmFor flags0 classFile x code maxLocals ret World_1 tables_1 room_1 Calls_1 rest_1 Pre_1 Post := by
  intro l hfl _ _ p e ha hc hk s m args below hf hA hF happ hP
  obtain ⟨hcalls, hrest, hpre⟩ := hP
  obtain ⟨-, -, -, hnamed, -, -, -, hat⟩ := (Spec.applies_iff hf).mp happ
  obtain ⟨hg, hn⟩ := and_e (Cond.before_iff.mp (show (Jvm.Cond.and given_1 narrow_1).before args s = true from hpre))
  obtain ⟨g5, g6⟩ := and_e hg
  obtain ⟨w0, rfl⟩ : ∃ w0 : Value, args = #[w0] := by
    have hs : args.size = 1 := by simpa [Cond.value, given_1] using g5
    obtain ⟨L⟩ := args
    match L, hs with
    | [w0], _ => exact ⟨w0, rfl⟩
  have hw := fun d (hd : d ∈ tables_1) => atoms_spec (ws := Jvm.Cond.code x code maxLocals ret :: tables_1) hat d (List.mem_cons_of_mem _ hd)
  obtain ⟨i0, ei0⟩ := is_v g6
  obtain rfl : w0 = (.int i0) := Option.some.inj ei0
  obtain ⟨n1, hn⟩ := and_e hn
  obtain ⟨n2, hn⟩ := and_e hn
  obtain ⟨n3, hn⟩ := and_e hn
  obtain ⟨n4, hn⟩ := and_e hn
  obtain ⟨n5, hn⟩ := and_e hn
  obtain ⟨n6, hn⟩ := and_e hn
  obtain ⟨n7, hn⟩ := and_e hn
  obtain ⟨n8, n9⟩ := and_e hn
  obtain ⟨u1, e1⟩ := exa_v n1
  obtain ⟨uV, eV⟩ := exa_v n3
  obtain ⟨u3, e3⟩ := exa_v n6
  obtain ⟨cV, AV⟩ := Arr.start eV n2
  obtain ⟨q1, q2⟩ := own_len AV eV n4
  have VV : Arv s s.heap uV cV.cls (.object "com/example/watthour/watthour/tariff/Phases") (2 : Int32) [(.ref u1), (.ref u3)] .null := Arv.start (own_fit hF) AV q1 q2 (by decide) rfl ⟨own_el AV eV (own_eqR e1 n5), own_el AV eV (own_eqR e3 n7), trivial⟩
  obtain ⟨n, o, h1, h2, h3, _, L, rfl, ⟨rfl, N⟩, hq⟩ := rm0 l s _ hw tables_1 uV cV.cls u1 u3 i0 s.heap s.heap.size (Old.start s) (Sta.start eV (Or.inr ⟨(hw _ (List.mem_of_getElem? (i := 1) rfl)), (hw _ (List.mem_of_getElem? (i := 10) rfl))⟩)) (Sta.start e1 (Or.inr ⟨(hw _ (List.mem_of_getElem? (i := 1) rfl)), (hw _ (List.mem_of_getElem? (i := 2) rfl))⟩)) (Sta.start e3 (Or.inr ⟨(hw _ (List.mem_of_getElem? (i := 1) rfl)), (hw _ (List.mem_of_getElem? (i := 18) rfl))⟩)) VV (Exa.start eV n3) (own_fI e1 n8) (own_fI e3 n9) (Exa.start e1 n1) (Exa.start e3 n6) p e ha hc hk s m _ below hf ((Spec.applies_iff_loose hf).mp happ).1 ⟨rfl, State.Warmed39.refl s, rfl⟩ trivial
  refine ⟨n, _, h1, h2, h3, hpost _ _ _ _ _ _ ⟨Cond.after_iff.mpr rfl, Cond.after_iff.mpr (eq_i res_at (Term.int_eval (1)) rfl), trivial⟩ ⟨hq.1, hq.2.1, (hq.2.2.sift fun y hy => Or.inr (N y hy)).mono (by decide) (by decide)⟩⟩
theorem main_1_1 : Claimed_1_1 := comes_1 fun _ _ _ _ _ _ h hF => ⟨h.1, hF⟩
theorem main_1_2 : Claimed_1_2 := comes_1 fun _ _ _ _ _ _ h hF => ⟨h.2.1, hF⟩
end Jvm.Pilot.@@N@@
namespace Jvm.Pilot.@@N@@
open Jvm Jvm.ClassFile Sem Op Lib Jvm.Free Jvm.Stand Jvm.Pilot.@@N@@.Jvm.D
/-! MADE BY PROGRAM (witnessworld.py) out of the Statement's table words and the real class files: 13 classes; the members and pool entries that the words name. The judged class is class 1, her method 1. -/
namespace start1
open Jvm.ClassFile
def u (s : String) : CpInfo := .utf8 (stringToUtf16 s)
/-- a pool by its gaps: so many unusable entries, then the entry; so many at the end -/
def gap : Nat → List CpInfo → List CpInfo
  | 0, r => r
  | n + 1, r => .unusable :: gap n r
def poolList (es : List (Nat × CpInfo)) (last : Nat) : List CpInfo := es.foldr (fun e r => gap e.1 (e.2 :: r)) (gap last [])
def pool (es : List (Nat × CpInfo)) (last : Nat) : Array CpInfo := ⟨poolList es last⟩
def fileOf (pool : Array CpInfo) (this : Nat) (attrs : Array Attribute := #[]) (ms : Array MethodInfo := #[]) (fl : Nat := 33) (sup : Nat := 0) (ifs : Array Nat := #[]) (fds : Array FieldInfo := #[]) : ClassFile where
  minorVersion := 0
  majorVersion := 65
  constantPool := pool
  accessFlags := fl
  thisClass := this
  superClass := sup
  interfaces := ifs
  fields := fds
  methods := ms
  attributes := attrs
def plain (name : String) (sup : Option ClassId) : Class where
  name := name
  kind := .ordinary
  loader := none
  accessFlags := 33
  super := sup
  interfaces := #[]
  cf := none
  fields := #[]
  methods := #[]
  instanceTypes := #[]
  staticTypes := #[]
  resolved := #[]
  callSites := []
  init := .initialized
  statics := none
  mirror := none

def pool0 : Array CpInfo := pool [(5, u "<init>"), (0, u "()V"), (1, .class_ 10), (1, u "java/lang/Object"), (85, u "clone"), (0, u "()Ljava/lang/Object;")] 26

def k0m0 : Method := { name := "<init>", desc := "()V", sig := { parameters := [], returnType := none }, accessFlags := 1, code := none }
def k0m1 : Method := { name := "clone", desc := "()Ljava/lang/Object;", sig := { parameters := [], returnType := some (.object "java/lang/Object") }, accessFlags := 260, code := none }
/-- java/lang/Object -/
def k0 : Class := { plain "java/lang/Object" none with
  accessFlags := 33
  interfaces := #[]
  cf := some (fileOf pool0 8 #[] #[{ accessFlags := 1, nameIndex := 5, descriptorIndex := 6, attributes := #[] }, { accessFlags := 260, nameIndex := 96, descriptorIndex := 97, attributes := #[] }] 33 0 #[] #[])
  fields := #[]
  methods := #[k0m0, k0m1]
  instanceTypes := #[]
  staticTypes := #[]
  resolved := Array.replicate 124 none
  statics := none }

def pool1 : Array CpInfo := pool [(2, .class_ 4), (1, u "java/lang/Object"), (0, u "<init>"), (0, u "()V"), (0, .fieldref 8 9), (0, .class_ 10), (0, .nameAndType 11 12), (0, u "com/example/watthour/watthour/tariff/Phases"), (0, u "THREE"), (0, u "Lcom/example/watthour/watthour/tariff/Phases;"), (0, .fieldref 8 14), (0, .nameAndType 15 12), (0, u "SINGLE"), (0, .methodref 8 17), (0, .nameAndType 18 19), (0, u "of"), (0, u "(I)Lcom/example/watthour/watthour/tariff/Phases;"), (0, .methodref 8 21), (0, .nameAndType 22 23), (0, u "getCount"), (0, u "()I"), (0, .class_ 25), (0, u "com/example/watthour/watthour/tariff/PhasesOfPinLaw"), (2, u "law"), (0, u "(I)Z")] 3

def k1m0 : Method := { name := "<init>", desc := "()V", sig := { parameters := [], returnType := none }, accessFlags := 1, code := none }
def k1c1 : Code := { maxStack := 2, maxLocals := 5, code := code, exceptionTable := #[], attributes := #[] }
def k1m1 : Method := { name := "law", desc := "(I)Z", sig := { parameters := [.int], returnType := some .boolean }, accessFlags := 9, code := some k1c1 }
/-- com/example/watthour/watthour/tariff/PhasesOfPinLaw -/
def k1 : Class := { plain "com/example/watthour/watthour/tariff/PhasesOfPinLaw" (some 0) with
  accessFlags := 49
  interfaces := #[]
  cf := some (fileOf pool1 24 #[] #[{ accessFlags := 1, nameIndex := 5, descriptorIndex := 6, attributes := #[] }, { accessFlags := 9, nameIndex := 28, descriptorIndex := 29, attributes := #[] }] 49 2 #[] #[])
  fields := #[]
  methods := #[k1m0, k1m1]
  instanceTypes := #[]
  staticTypes := #[]
  resolved := Array.replicate 33 none
  statics := none }

def pool2 : Array CpInfo := pool [(1, .class_ 2), (0, u "java/lang/constant/Constable"), (0, .class_ 4), (0, u "java/lang/Object")] 6

/-- java/lang/constant/Constable -/
def k2 : Class := { plain "java/lang/constant/Constable" (some 0) with
  accessFlags := 1537
  interfaces := #[]
  cf := some (fileOf pool2 1 #[] #[] 1537 3 #[] #[])
  fields := #[]
  methods := #[]
  instanceTypes := #[]
  staticTypes := #[]
  resolved := Array.replicate 11 none
  statics := none }

def pool3 : Array CpInfo := pool [(1, .class_ 2), (0, u "java/lang/Comparable"), (0, .class_ 4), (0, u "java/lang/Object")] 7

/-- java/lang/Comparable -/
def k3 : Class := { plain "java/lang/Comparable" (some 0) with
  accessFlags := 1537
  interfaces := #[]
  cf := some (fileOf pool3 1 #[] #[] 1537 3 #[] #[])
  fields := #[]
  methods := #[]
  instanceTypes := #[]
  staticTypes := #[]
  resolved := Array.replicate 12 none
  statics := none }

def pool4 : Array CpInfo := pool [(1, .class_ 2), (0, u "java/io/Serializable"), (0, .class_ 4), (0, u "java/lang/Object")] 2

/-- java/io/Serializable -/
def k4 : Class := { plain "java/io/Serializable" (some 0) with
  accessFlags := 1537
  interfaces := #[]
  cf := some (fileOf pool4 1 #[] #[] 1537 3 #[] #[])
  fields := #[]
  methods := #[]
  instanceTypes := #[]
  staticTypes := #[]
  resolved := Array.replicate 7 none
  statics := none }

def pool5 : Array CpInfo := pool [(2, .class_ 4), (1, u "java/lang/Enum"), (0, u "name"), (0, u "Ljava/lang/String;"), (2, u "ordinal"), (0, u "I"), (1, .class_ 14), (1, u "java/lang/Object"), (4, u "hash"), (86, .class_ 108), (1, u "java/lang/Enum$EnumDesc"), (2, .class_ 112), (0, u "java/lang/constant/Constable"), (0, .class_ 114), (0, u "java/lang/Comparable"), (0, .class_ 116), (0, u "java/io/Serializable")] 87

/-- java/lang/Enum -/
def k5 : Class := { plain "java/lang/Enum" (some 0) with
  accessFlags := 1057
  interfaces := #[2, 3, 4]
  cf := some (fileOf pool5 2 #[.nestMembers #[106]] #[] 1057 12 #[111, 113, 115] #[{ accessFlags := 18, nameIndex := 5, descriptorIndex := 6, attributes := #[] }, { accessFlags := 18, nameIndex := 9, descriptorIndex := 10, attributes := #[] }, { accessFlags := 2, nameIndex := 19, descriptorIndex := 10, attributes := #[] }])
  fields := #[{ name := "name", type := (.object "java/lang/String"), accessFlags := 18, slot := 0, constantValue := 0 }, { name := "ordinal", type := .int, accessFlags := 18, slot := 1, constantValue := 0 }, { name := "hash", type := .int, accessFlags := 2, slot := 2, constantValue := 0 }]
  methods := #[]
  instanceTypes := #[(.object "java/lang/String"), .int, .int]
  staticTypes := #[]
  resolved := Array.replicate 204 none
  statics := none }

def pool6 : Array CpInfo := pool [(1, .class_ 2), (0, u "com/example/watthour/watthour/tariff/Phases"), (2, u "SINGLE"), (0, u "Lcom/example/watthour/watthour/tariff/Phases;"), (2, u "THREE"), (0, .fieldref 1 11), (0, .nameAndType 12 13), (0, u "$VALUES"), (0, u "[Lcom/example/watthour/watthour/tariff/Phases;"), (0, .methodref 15 16), (0, .class_ 13), (0, .nameAndType 17 18), (0, u "clone"), (0, u "()Ljava/lang/Object;"), (1, .class_ 22), (1, u "java/lang/Enum"), (6, .fieldref 1 30), (0, .nameAndType 31 32), (0, u "count"), (0, u "I"), (0, .methodref 1 34), (0, .nameAndType 35 36), (0, u "values"), (0, u "()[Lcom/example/watthour/watthour/tariff/Phases;"), (23, u "of"), (0, u "(I)Lcom/example/watthour/watthour/tariff/Phases;"), (1, u "getCount"), (0, u "()I")] 20

def k6c0 : Code := { maxStack := 1, maxLocals := 0, code := prog_16_method_1_code, exceptionTable := #[], attributes := #[] }
def k6m0 : Method := { name := "values", desc := "()[Lcom/example/watthour/watthour/tariff/Phases;", sig := { parameters := [], returnType := some (.array (.object "com/example/watthour/watthour/tariff/Phases")) }, accessFlags := 9, code := some k6c0 }
def k6c1 : Code := { maxStack := 3, maxLocals := 5, code := prog_16_method_4_code, exceptionTable := #[], attributes := #[] }
def k6m1 : Method := { name := "of", desc := "(I)Lcom/example/watthour/watthour/tariff/Phases;", sig := { parameters := [.int], returnType := some (.object "com/example/watthour/watthour/tariff/Phases") }, accessFlags := 9, code := some k6c1 }
def k6c2 : Code := { maxStack := 1, maxLocals := 1, code := prog_16_method_5_code, exceptionTable := #[], attributes := #[] }
def k6m2 : Method := { name := "getCount", desc := "()I", sig := { parameters := [], returnType := some .int }, accessFlags := 1, code := some k6c2 }
/-- com/example/watthour/watthour/tariff/Phases -/
def k6 : Class := { plain "com/example/watthour/watthour/tariff/Phases" (some 5) with
  accessFlags := 16433
  interfaces := #[]
  cf := some (fileOf pool6 1 #[] #[{ accessFlags := 9, nameIndex := 35, descriptorIndex := 36, attributes := #[] }, { accessFlags := 9, nameIndex := 60, descriptorIndex := 61, attributes := #[] }, { accessFlags := 1, nameIndex := 63, descriptorIndex := 64, attributes := #[] }] 16433 20 #[] #[{ accessFlags := 16409, nameIndex := 5, descriptorIndex := 6, attributes := #[] }, { accessFlags := 16409, nameIndex := 9, descriptorIndex := 6, attributes := #[] }, { accessFlags := 18, nameIndex := 31, descriptorIndex := 32, attributes := #[] }, { accessFlags := 4122, nameIndex := 12, descriptorIndex := 13, attributes := #[] }])
  fields := #[{ name := "SINGLE", type := (.object "com/example/watthour/watthour/tariff/Phases"), accessFlags := 16409, slot := 0, constantValue := 0 }, { name := "THREE", type := (.object "com/example/watthour/watthour/tariff/Phases"), accessFlags := 16409, slot := 1, constantValue := 0 }, { name := "count", type := .int, accessFlags := 18, slot := 3, constantValue := 0 }, { name := "$VALUES", type := (.array (.object "com/example/watthour/watthour/tariff/Phases")), accessFlags := 4122, slot := 2, constantValue := 0 }]
  methods := #[k6m0, k6m1, k6m2]
  instanceTypes := #[(.object "java/lang/String"), .int, .int, .int]
  staticTypes := #[(.object "com/example/watthour/watthour/tariff/Phases"), (.object "com/example/watthour/watthour/tariff/Phases"), (.array (.object "com/example/watthour/watthour/tariff/Phases"))]
  resolved := Array.replicate 85 none
  statics := some 0 }

def pool7 : Array CpInfo := pool [(1, .class_ 2), (0, u "java/lang/Cloneable"), (0, .class_ 4), (0, u "java/lang/Object")] 2

/-- java/lang/Cloneable -/
def k7 : Class := { plain "java/lang/Cloneable" (some 0) with
  accessFlags := 1537
  interfaces := #[]
  cf := some (fileOf pool7 1 #[] #[] 1537 3 #[] #[])
  fields := #[]
  methods := #[]
  instanceTypes := #[]
  staticTypes := #[]
  resolved := Array.replicate 7 none
  statics := none }

/-- the primitive byte -/
def k8 : Class := { plain "byte" none with kind := .primitive 'B', accessFlags := 0x411 }
/-- [B -/
def k9 : Class := { plain "[B" (some 0) with kind := .array 8 .byte, interfaces := #[7, 4], accessFlags := 1041 }

/-- the primitive int -/
def k10 : Class := { plain "int" none with kind := .primitive 'I', accessFlags := 0x411 }
/-- [I -/
def k11 : Class := { plain "[I" (some 0) with kind := .array 10 .int, interfaces := #[7, 4], accessFlags := 1041 }

/-- [Lcom/example/watthour/watthour/tariff/Phases; -/
def k12 : Class := { plain "[Lcom/example/watthour/watthour/tariff/Phases;" (some 0) with kind := .array 6 (.object "com/example/watthour/watthour/tariff/Phases"), interfaces := #[7, 4], accessFlags := 1041 }

def heap : Heap := #[{ cls := 6, slots := #[.ref 2, .ref 3, .ref 1], vm := .statics 6 },
  { cls := 12, slots := #[.ref 2, .ref 3], vm := .none },
  { cls := 6, slots := #[.null, .int 0, .int 0, .int 1], vm := .none },
  { cls := 6, slots := #[.null, .int 1, .int 0, .int 3], vm := .none }]
def classes : Array Class := #[k0, k1, k2, k3, k4, k5, k6, k7, k8, k9, k10, k11, k12]
def interned : List (Array UInt16 × Addr) := []
def slotsUsed : Nat := 13
def theMethod : MethodId := ⟨1, 1⟩
def args0 : Array Value := #[.int 5]
def aboutOver (below : List Frame) : State where
  vm := { classes := classes, interned := interned.toArray }
  heap := heap
  slotsUsed := slotsUsed
  threads := #[{ frames := .invoking theMethod args0 :: below }]
def below0 : List Frame := [.native { method := ⟨0, 0⟩, args := #[] }]
def about1 : State := aboutOver below0
def p0 : Program := .bare "" "" ""
def e0 : Env := launch0.env 0 0 0
theorem w_frames : about1.frames = Frame.invoking theMethod args0 :: below0 := rfl
set_option maxRecDepth 65536 in
theorem w_args : argsFit about1.vm theMethod args0 = true := by decide +kernel
set_option maxRecDepth 65536 in
theorem w_heap : heapFits about1 = true := by decide +kernel
set_option maxRecDepth 65536 in
theorem w_runnable : about1.curStatus? = some .runnable := by decide +kernel
set_option maxRecDepth 65536 in
theorem w_alone : about1.alone = true := by decide +kernel
set_option maxRecDepth 65536 in
theorem w_named : about1.methodNamed? x = some theMethod := by decide +kernel
set_option maxRecDepth 65536 in
theorem w_hears : about1.hears theMethod below0 = true := by decide +kernel
set_option maxRecDepth 65536 in
theorem w_ripe : about1.ripe theMethod args0 below0 = true := by decide +kernel
theorem w_running : about1.status = .running := rfl
set_option maxRecDepth 65536 in
theorem w_room : about1.hasRoom e0.platform room_1 = true :=
  launch0.hasRoom_least _ room_1 (by decide +kernel) (by decide +kernel) (by decide +kernel) (by decide +kernel) (by decide +kernel) (by decide +kernel)
theorem allAtoms_all (ts : List Jvm.Cond) (a : Array Jvm.Value) (st : Jvm.State) : (allAtoms ts).before a st = ts.all (fun c => c.before a st) := by
  induction ts with
  | nil => rfl
  | cons c t ih =>
    show (Jvm.Cond.and c (allAtoms t)).before a st = _
    rw [Jvm.Cond.before_and, ih, List.all_cons]
def words1 : List Jvm.Cond := Jvm.Cond.code x code maxLocals ret :: tables_1
/-- a 'code' word, met by the world's own term for the bytes: nothing is compared byte by byte -/
theorem code_word {y : MethodName} {bytes : ByteArray} {mx : Nat} {rt : Option FieldType} {a : Array Value} {s : State} {m : MethodId} {meth : Method} {c : Code} (h1 : s.methodNamed? y = some m) (h2 : s.vm.method? m = some meth) (h3 : meth.code = some c) (h4 : c.code = bytes)
    (h5 : (c.maxLocals == mx && c.exceptionTable.isEmpty && decide (c.maxStack ≤ mostOperands) && decide (meth.sig.returnType = rt) && !meth.locks && decide (parseMethodDescriptor y.desc = some meth.sig)) = true) : (Jvm.Cond.code y bytes mx rt).before a s = true := by
  simp only [Bool.and_eq_true, beq_iff_eq, Bool.not_eq_true', decide_eq_true_eq] at h5
  obtain ⟨⟨⟨⟨⟨g1, g2⟩, g3⟩, g4⟩, g5⟩, g6⟩ := h5
  simp [Cond.before, Cond.holds, Cond.value, h1, h2, h3, h4, g1, g2, g3, g4, g5, g6]
def isCode : Jvm.Cond → Bool
  | .code _ _ _ _ => true
  | _ => false
theorem all_split {L : List Jvm.Cond} {P : Jvm.Cond → Bool} (h1 : L.all (fun c => isCode c || P c) = true) (h2 : ∀ c ∈ L.filter isCode, P c = true) : L.all P = true := by
  refine List.all_eq_true.mpr fun c hc => ?_
  have h := List.all_eq_true.mp h1 c hc
  rcases Bool.eq_false_or_eq_true (isCode c) with hi | hi
  · exact h2 c (List.mem_filter.mpr ⟨hc, hi⟩)
  · simpa [hi] using h
set_option maxRecDepth 65536 in
theorem w_c0 : (Jvm.Cond.code x code maxLocals ret).before args0 about1 = true := code_word (m := ⟨1, 1⟩) (meth := k1m1) (c := k1c1) (by decide +kernel) rfl rfl rfl (by decide +kernel)
set_option maxRecDepth 65536 in
theorem w_c1 : (Jvm.Cond.code ({ cls := "com/example/watthour/watthour/tariff/Phases", name := "of", desc := "(I)Lcom/example/watthour/watthour/tariff/Phases;" } : Jvm.MethodName) prog_16_method_4_code (5 : Nat) (Option.some (Jvm.ClassFile.FieldType.object "com/example/watthour/watthour/tariff/Phases"))).before args0 about1 = true := code_word (m := ⟨6, 1⟩) (meth := k6m1) (c := k6c1) (by decide +kernel) rfl rfl rfl (by decide +kernel)
set_option maxRecDepth 65536 in
theorem w_c2 : (Jvm.Cond.code ({ cls := "com/example/watthour/watthour/tariff/Phases", name := "values", desc := "()[Lcom/example/watthour/watthour/tariff/Phases;" } : Jvm.MethodName) prog_16_method_1_code (0 : Nat) (Option.some (Jvm.ClassFile.FieldType.array (Jvm.ClassFile.FieldType.object "com/example/watthour/watthour/tariff/Phases")))).before args0 about1 = true := code_word (m := ⟨6, 0⟩) (meth := k6m0) (c := k6c0) (by decide +kernel) rfl rfl rfl (by decide +kernel)
set_option maxRecDepth 65536 in
theorem w_c3 : (Jvm.Cond.code ({ cls := "com/example/watthour/watthour/tariff/Phases", name := "getCount", desc := "()I" } : Jvm.MethodName) prog_16_method_5_code (1 : Nat) (Option.some Jvm.ClassFile.FieldType.int)).before args0 about1 = true := code_word (m := ⟨6, 2⟩) (meth := k6m2) (c := k6c2) (by decide +kernel) rfl rfl rfl (by decide +kernel)
def codes1 : List Jvm.Cond := [Jvm.Cond.code x code maxLocals ret, Jvm.Cond.code ({ cls := "com/example/watthour/watthour/tariff/Phases", name := "of", desc := "(I)Lcom/example/watthour/watthour/tariff/Phases;" } : Jvm.MethodName) prog_16_method_4_code (5 : Nat) (Option.some (Jvm.ClassFile.FieldType.object "com/example/watthour/watthour/tariff/Phases")), Jvm.Cond.code ({ cls := "com/example/watthour/watthour/tariff/Phases", name := "values", desc := "()[Lcom/example/watthour/watthour/tariff/Phases;" } : Jvm.MethodName) prog_16_method_1_code (0 : Nat) (Option.some (Jvm.ClassFile.FieldType.array (Jvm.ClassFile.FieldType.object "com/example/watthour/watthour/tariff/Phases"))), Jvm.Cond.code ({ cls := "com/example/watthour/watthour/tariff/Phases", name := "getCount", desc := "()I" } : Jvm.MethodName) prog_16_method_5_code (1 : Nat) (Option.some Jvm.ClassFile.FieldType.int)]
set_option maxRecDepth 65536 in
theorem codes_eq : words1.filter isCode = codes1 := rfl
theorem w_codes : ∀ c ∈ words1.filter isCode, c.before args0 about1 = true := by
  rw [codes_eq]
  intro c hc
  simp only [codes1, List.mem_cons, List.not_mem_nil, or_false] at hc
  rcases hc with rfl | rfl | rfl | rfl
  · exact w_c0
  · exact w_c1
  · exact w_c2
  · exact w_c3
set_option maxRecDepth 65536 in
theorem w_t1 : (words1.take 24).all (fun c => isCode c || c.before args0 about1) = true := by decide +kernel
set_option maxRecDepth 65536 in
theorem w_t2 : (words1.drop 24).all (fun c => isCode c || c.before args0 about1) = true := by decide +kernel
theorem w_tables : (allAtoms (Jvm.Cond.code x code maxLocals ret :: tables_1)).before args0 about1 = true := by
  rw [allAtoms_all]
  show words1.all (fun c => c.before args0 about1) = true
  refine all_split ?_ w_codes
  rw [← List.take_append_drop 24 words1, List.all_append, w_t1, w_t2]
  rfl
set_option maxRecDepth 65536 in
theorem w_case : (Jvm.Cond.and given_1 narrow_1).before args0 about1 = true := by decide +kernel
theorem w_applies : (headSpec (Jvm.Cond.code x code maxLocals ret :: tables_1) room_1).applies x e0.platform about1 = true :=
  (Spec.applies_iff w_frames).mpr ⟨w_running, w_runnable, w_alone, w_named, w_hears, w_ripe, w_room, w_tables⟩
theorem atStart : AtStart classFile x code maxLocals ret World_1 tables_1 room_1 Calls_1 rest_1 Pre_1 launch0 p0 e0 about1 theMethod args0 below0 :=
  ⟨lists_1, trivial, launch0.admits_env _ _ _, launch0.least_env, fairChoices_fair.cas, fairChoices_fair.clock, w_frames, w_args, w_heap, w_applies, trivial, trivial, w_case⟩
end start1
theorem witness_1 : WitnessClaimed_1 := ⟨start1.p0, start1.e0, start1.about1, start1.theMethod, start1.args0, start1.below0, start1.atStart⟩
end Jvm.Pilot.@@N@@
