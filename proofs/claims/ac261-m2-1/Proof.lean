import JvmDerived
import JvmDerived.Pilot.@@N@@Statement
import JvmDerived.Pilot.@@N@@Code
set_option linter.unusedVariables false
set_option linter.unusedSimpArgs false
namespace Jvm.RoadKit
open Sem ClassFile Op Lib Jvm.Stand Jvm.Free Jvm.LawKit
section New
variable {p : Program} {l : Launch} {e : Env} {R : Room} {s : State} {m : MethodId} {args : Array Value} {below : List Frame} {meth : Method} {c : Code} {T : State} {locs : List Loc} {cells slots : Nat}
theorem retI (X : Stand p l e R s m args below meth c T locs cells slots) (hx : p.tables.exec = Jvm.exec) {pc : Nat} {Ls : Array Slot} {z : Int32} {rest : List Value} (hret : meth.sig.returnType = some .int) (hd : decode c.code pc = .ok (.ireturn, 1)) {fs : List Frame}
    (hl : ∀ (f : JFrame) (acts : List Action), f.method = m → f.locked = none → f.entered = [] → (doReturn e (T.setTop f) acts (some (.int z))).1 = T.setFrames fs) : Steps p.tables e below (T.setTop (mkF m pc Ls (.int z :: rest))) (T.setFrames fs) :=
  retOut X hx hret rfl (Or.inl ⟨rfl, Or.inl rfl, _, rfl⟩) hd hl
end New
end Jvm.RoadKit
namespace Jvm.Pilot.@@N@@
open Jvm Jvm.ClassFile Sem Op Lib Jvm.Free Jvm.Stand Jvm.LawKit Jvm.RoadKit Bundle Jvm.Pilot.@@N@@.Jvm.D
/-- the run goes on from T to an end of which P holds -/
def Go (tb : Tables) (e : Env) (below : List Frame) (P : Outcome → State → Prop) (T : State) : Prop := ∃ s₂ o, Steps tb e below T s₂ ∧ s₂.status = .running ∧ Ended s₂ below o ∧ P o s₂
theorem own_i {tb : Tables} {e : Env} {below : List Frame} {P : Outcome → State → Prop} {T : State} (h : ∀ PP : Outcome → State → Prop, PP = P → Go tb e below PP T) : ∃ s₂ o, Steps tb e below T s₂ ∧ s₂.status = .running ∧ Ended s₂ below o ∧ P o s₂ := h P rfl
theorem own_s {tb : Tables} {e : Env} {below : List Frame} {P : Outcome → State → Prop} {T T' : State} (h : ∀ t, Steps tb e below T' t → Steps tb e below T t) (g : Go tb e below P T') : Go tb e below P T := by
  obtain ⟨s₂, o, h1, r⟩ := g; exact ⟨s₂, o, h _ h1, r⟩
theorem own_t {tb : Tables} {e : Env} {below : List Frame} {P : Outcome → State → Prop} {T T' : State} (h : Steps tb e below T T') (g : Go tb e below P T') : Go tb e below P T := by
  obtain ⟨s₂, o, h1, r⟩ := g; exact ⟨s₂, o, h.trans h1, r⟩
theorem own_e {tb : Tables} {e : Env} {below : List Frame} {P PP : Outcome → State → Prop} {T s₂ : State} {o : Outcome} (hP : PP = P) (h : Steps tb e below T s₂) (h1 : s₂.status = .running) (h2 : Ended s₂ below o) (h3 : P o s₂) : Go tb e below PP T := hP ▸ ⟨s₂, o, h, h1, h2, h3⟩
theorem own_eqI {a : Term} {k : Int32} {args : Array Value} {s : State} (h : (Cond.eq a (.int k)).value args s none s [] = some true) : a.eval args s none [] s = some (.int k) := by
  obtain ⟨x, y, hx, hy, -, hk⟩ := cmp_v (Or.inl h)
  obtain rfl : y = .int k := (Option.some.inj hy).symm
  obtain ⟨z, rfl⟩ := hk
  have q := gotT (Cond.eq_ints hx hy) h
  rw [hx, q]
theorem own_eqJ {a : Term} {k : Int64} {args : Array Value} {s : State} (h : (Cond.eq a (.long k)).value args s none s [] = some true) : a.eval args s none [] s = some (.long k) := by
  obtain ⟨x, y, hx, hy, -, hk⟩ := cmp_v (Or.inl h)
  obtain rfl : y = .long k := (Option.some.inj hy).symm
  obtain ⟨z, rfl⟩ := hk
  have q := gotT (eq_L hx hy) h
  rw [hx, q]
theorem own_eqR {a b : Term} {u : Addr} {args : Array Value} {s : State} (hb : b.eval args s none [] s = some (.ref u)) (h : (Cond.eq a b).value args s none s [] = some true) : a.eval args s none [] s = some (.ref u) := by
  obtain ⟨x, y, hx, hy, -, hk⟩ := cmp_v (Or.inl h)
  obtain rfl : y = .ref u := Option.some.inj (hy.symm.trans hb)
  have hr : x.isRef = true := hk.2
  have q := gotT (eq_R hx hy hr rfl) h
  rw [hx, q]
theorem own_fI {t : Term} {a : Addr} {k : Int32} {args : Array Value} {s : State} {C n d : String} (ht : t.eval args s none [] s = some (.ref a)) (h : (Cond.eq (.field t C n d) (.int k)).value args s none s [] = some true) : Fld s s.heap a C n d (.int k) :=
  Fld.start (by have q := own_eqI h; rw [fld_at ht] at q; exact q)
theorem own_fJ {t : Term} {a : Addr} {k : Int64} {args : Array Value} {s : State} {C n d : String} (ht : t.eval args s none [] s = some (.ref a)) (h : (Cond.eq (.field t C n d) (.long k)).value args s none s [] = some true) : Fld s s.heap a C n d (.long k) :=
  Fld.start (by have q := own_eqJ h; rw [fld_at ht] at q; exact q)
theorem own_fit {s : State} (hF : heapFits s = true) : Fit s := fun {y c} hc i hi => by
  obtain ⟨ha, rfl⟩ := Array.getElem?_eq_some_iff.mp hc
  have q := List.all_eq_true.mp ((Array.all_eq_true_iff_forall_mem.mp hF) _ (Array.getElem_mem ha)) i (List.mem_range.mpr hi)
  simpa [Array.getElem?_eq_getElem hi] using q
theorem own_len {t : Term} {a : Addr} {c : Cell} {ty : FieldType} {k : Int32} {args : Array Value} {s : State} (A : Arr s s.heap a c ty) (ht : t.eval args s none [] s = some (.ref a)) (h : (Cond.eq (.length t) (.int k)).value args s none s [] = some true) : c.slots.size < 2 ^ 31 ∧ c.slots.size.toInt32 = k := by
  have q := own_eqI h
  have hA := A.fin (Vm.Alike.refl _)
  by_cases hl : c.slots.size < 2 ^ 31
  · exact ⟨hl, Value.int.inj (Option.some.inj ((len_f ht hA hl).symm.trans q))⟩
  · exfalso
    have hl' : ¬ c.slots.size < 2147483648 := hl
    simp [Term.eval, ht, hA, hl'] at q
theorem own_el {t : Term} {a : Addr} {c : Cell} {ty : FieldType} {j : Int32} {v : Value} {args : Array Value} {s : State} (A : Arr s s.heap a c ty) (ht : t.eval args s none [] s = some (.ref a)) (h : (Term.elem t (.int j)).eval args s none [] s = some v) : c.slots[j.toNatClampNeg]? = some v :=
  (elem_in h ht (Term.int_eval j) A.1).2
def own_vs (cs : List Int32) : List Value := cs.map Value.int
def own_pad (cs : List Int32) : List Value := own_vs (cs ++ List.replicate (16 - cs.length) 0)
theorem own_oi {n : Nat} (h : n < 2 ^ 31) : (Int32.ofNat n).toInt = n := len_toInt h
theorem own_tn {n : Nat} (h : n < 2 ^ 31) : (Int32.ofNat n).toNatClampNeg = n := by
  simp only [Int32.toNatClampNeg, own_oi h]; rfl
theorem own_nn {n : Nat} (h : n < 2 ^ 31) : ¬ (Int32.ofNat n < 0) := by
  rw [Int32.lt_iff_toInt_lt, own_oi h]; have : (0 : Int32).toInt = 0 := rfl; omega
theorem own_ltn {i n : Nat} (hi : i < n) (hn : n < 2 ^ 31) : Int32.ofNat i < Int32.ofNat n := by
  rw [Int32.lt_iff_toInt_lt, own_oi hn, own_oi (Nat.lt_trans hi hn)]; omega
theorem own_i8 (x : Int32) : x.toInt8.toInt32.toInt8.toInt32 = x.toInt8.toInt32 := by simp
theorem own_succ {n : Nat} (h : n < 2 ^ 30) : Int32.ofNat n + 1 = Int32.ofNat (n + 1) := by
  apply Int32.toInt_inj.mp
  rw [own_oi (by omega)]
  have q := c_iadd (Int32.ofNat n) 1
  have r := rng32 (Int32.ofNat n + 1)
  rw [own_oi (by omega)] at q
  have : (1 : Int32).toInt = 1 := rfl
  omega
theorem own_cap {n : Nat} (h : n ≤ 14) : ¬ ((0 : Int32) < ((Int32.ofNat n + (1 : Int32)) - (16 : Int32))) := by
  rw [own_succ (by omega)]
  rw [Int32.lt_iff_toInt_lt]
  have q := c_isub (Int32.ofNat (n + 1)) 16
  have r := rng32 (Int32.ofNat (n + 1) - 16)
  rw [own_oi (by omega)] at q
  have h0 : (0 : Int32).toInt = 0 := rfl
  have h16 : (16 : Int32).toInt = 16 := rfl
  omega
theorem own_pad_len (cs : List Int32) (h : cs.length ≤ 16) : (own_pad cs).length = 16 := by
  simp [own_pad, own_vs]; omega
theorem own_pad_set (cs : List Int32) (x : Int32) (h : cs.length ≤ 14) : (own_pad cs).set cs.length (.int x) = own_pad (cs ++ [x]) := by
  unfold own_pad own_vs
  have e : 16 - cs.length = (16 - (cs ++ [x]).length) + 1 := by simp; omega
  rw [e, List.replicate_succ, List.map_append, List.map_cons, List.set_append_right _ _ (by simp)]
  simp
theorem own_sub0 (x : Int32) : x - 0 = x := by simp
theorem own_shr0 (x : Int32) : x >>> ((0 : Int32) &&& 31) = x := by
  have : ((0 : Int32) &&& 31) = 0 := rfl
  rw [this]; simp
theorem own_vs_get (cs : List Int32) (n : Nat) : (own_vs cs).getD n (Value.int 0) = Value.int (cs.getD n 0) := by
  unfold own_vs
  simp only [List.getD_eq_getElem?_getD, List.getElem?_map]
  cases cs[n]? <;> rfl
theorem own_pad_get (cs : List Int32) (n : Nat) (h : n < cs.length) : (own_pad cs).getD n (Value.int 0) = Value.int (cs.getD n 0) := by
  unfold own_pad; rw [own_vs_get]
  simp only [List.getD_eq_getElem?_getD, List.getElem?_append_left h]
theorem own_copy (cs : List Int32) (h : cs.length ≤ 15) : ((([] : List Value) ++ List.replicate cs.length (Value.int (0 : Int32))).take (0 : Int32).toNatClampNeg ++ (List.range (Int32.ofNat cs.length).toNatClampNeg).map (fun i => (own_pad cs).getD ((0 : Int32).toNatClampNeg + i) (Value.int (0 : Int32))) ++ (([] : List Value) ++ List.replicate cs.length (Value.int (0 : Int32))).drop ((0 : Int32).toNatClampNeg + (Int32.ofNat cs.length).toNatClampNeg)) = own_vs cs := by
  have e0 : (0 : Int32).toNatClampNeg = 0 := rfl
  rw [e0, own_tn (by omega)]
  have e1 : (List.range cs.length).map (fun i => (own_pad cs).getD (0 + i) (Value.int (0 : Int32))) = own_vs cs := by
    apply List.ext_getElem
    · simp [own_vs]
    · intro i h1 h2
      have hi : i < cs.length := by simpa using h1
      simp only [List.getElem_map, List.getElem_range, Nat.zero_add]
      rw [own_pad_get _ _ hi]
      simp [own_vs, List.getD_eq_getElem?_getD, hi]
  rw [e1]; simp
theorem own_same {s : State} {args : Array Value} {C : String} {y z : MethodName} (h1 : (Cond.instanceMethod y).before args s = true) (h2 : (Cond.selects C z z).before args s = true) (hc : z.cls = y.cls) (hy : y.cls ≠ "java/lang/invoke/MethodHandle" ∧ y.cls ≠ "java/lang/invoke/VarHandle") : (Cond.sameMethod y.cls y.cls y.name y.desc).before args s = true := by
  obtain ⟨mk, meth, hn, -⟩ := Cond.instanceMethod_spec h1
  have hf := State.methodFound?_of_named hn hy
  obtain ⟨-, -, m2, -, -, q3, -, kP, hkP, hkPi⟩ := Cond.selects_spec h2
  have e1 := findClass_of_methodNamed q3
  have e2 := findClass_of_methodNamed hn
  rw [hc] at e1
  rw [Option.some.inj (e1.symm.trans e2)] at hkP
  have hn' : s.methodNamed? ⟨y.cls, y.name, y.desc⟩ = some mk := hn
  simp [Cond.before, Cond.holds, Cond.value, e2, hf, hn', hkP, hkPi]
theorem own_nf {s : State} {args : Array Value} {C : String} {y z : MethodName} (h2 : (Cond.selects C z z).before args s = true) (hc : z.cls = y.cls) : NotFace s y := fun r0 h0 => by
  obtain ⟨-, -, m2, -, -, q3, -, kP, hkP, hkPi⟩ := Cond.selects_spec h2
  have e1 := findClass_of_methodNamed q3
  have e2 := findClass_of_methodNamed h0
  rw [hc] at e1
  rw [Option.some.inj (e1.symm.trans e2)] at hkP
  exact ⟨kP, hkP, hkPi⟩
theorem own_decl {s : State} {args : Array Value} {y : MethodName} {bytes : ByteArray} {mx : Nat} {rt : Option FieldType} (h1 : (Cond.instanceMethod y).before args s = true) (h2 : (Cond.code y bytes mx rt).before args s = true) : (Cond.declares y).before args s = true := by
  obtain ⟨mk, meth, hn, hm, hst, -⟩ := Cond.instanceMethod_spec h1
  obtain ⟨meth', cM, hm', -, -, -, -, -, -, hsig⟩ := Cond.code_spec hn h2
  cases hm.symm.trans hm'
  simp [Cond.before, Cond.holds, Cond.value, hn, hm, hst, hsig]
/-- a walk that has written no cell of its start has no places to name -/
theorem own_clear {p : Program} {l : Launch} {e : Env} {R : Room} {s : State} {m : MethodId} {args : Array Value} {below : List Frame} {meth : Method} {c : Code} {T : State} {locs : List Loc} {cells slots : Nat}
    (X : Stand p l e R s m args below meth c T locs cells slots) (hold : ∀ (b : Addr) (cl : Cell), s.heap[b]? = some cl → T.heap[b]? = some cl) : Stand p l e R s m args below meth c T [] cells slots :=
  ⟨X.admits, X.cas, X.clock, X.frames, X.room, X.hears, X.method, X.code, X.here, X.tail, X.warmed, X.limits, X.bytes,
    ⟨X.same.1, X.same.2.1, X.same.2.2.1, X.same.2.2.2.1, X.same.2.2.2.2.1, fun b cl h => ⟨cl, hold b cl h, rfl, rfl, fun _ _ => rfl⟩⟩⟩
theorem own_neA {Z : State} {h : Heap} {a b : Addr} {k k' : ClassId} {ty ty' : FieldType} {z z' : Int32} {vs vs' : List Value} {d d' : Value} (A : Arv Z h a k ty z vs d) (B : Arv Z h b k' ty' z' vs' d') (hn : z.toNatClampNeg ≠ z'.toNatClampNeg) : a ≠ b := fun q => by
  subst q
  obtain ⟨c1, ⟨e1, -⟩, -, s1, -⟩ := A
  obtain ⟨c2, ⟨e2, -⟩, -, s2, -⟩ := B
  cases e1.symm.trans e2
  exact hn (s1.symm.trans s2)
theorem own_IB {Z : State} {vm vm' : Vm} {Ts : List String} (h : IB Z vm Ts) (e : vm'.interned = vm.interned) : IB Z vm' Ts := by
  obtain ⟨more, e1, r⟩ := h; exact ⟨more, e.trans e1, r⟩
theorem own_backI {p : Program} {l : Launch} {e : Env} {R : Room} {s : State} {args : Array Value} {below : List Frame} {Z : State} {a0 : Array Value} {h : Heap} {y : MethodName} {bytes : ByteArray} {maxL : Nat} {ret : Option FieldType} {rm : Room} {len W : Nat} {as' : Array Value} {Q : Option Value → Heap → List Loc → Prop}
    (hI : IB Z s.vm []) (hM : MetFree l y (head1 [Cond.code y bytes maxL ret] rm) (fun a U => a = as' ∧ Z.Warmed39 U.vm ∧ U.heap = h ∧ IB Z U.vm []) (fun _ _ _ _ _ => True) (fun _ U o U' => ∃ v L, o = .returned v ∧ Q v U'.heap L ∧ ReturnedEndW U o U' L rm.cells rm.slots))
    (hZ : Z.Warmed39 s.vm) (wc : (Cond.code y bytes maxL ret).before a0 Z = true) (wz : (Cond.initialized y.cls).before a0 Z = true) (hf : rm.frames + 1 ≤ R.frames) (hl : W + (maxL + 11) + rm.locals ≤ R.locals) :
    BackS l R p e below s args y len W (fun A a => a = as' ∧ A.U.heap = h ∧ A.cells + rm.cells ≤ R.cells ∧ A.slots + rm.slots ≤ R.slots)
      (fun A _ v B => ∃ L, Q v B.U.heap L ∧ B.locs = A.locs ++ L ∧ B.cells = A.cells + rm.cells ∧ B.slots = A.slots + rm.slots) := by
  refine BackS.of_freeW (bytes := bytes) (maxL := maxL) (ret := ret) (E := fun _ _ o t L k n => k = rm.cells ∧ n = rm.slots ∧ ∃ v, o = .returned v ∧ Q v t.heap L) hM hf hl ?_ ?_ ?_ ?_ ?_
  · intro m meth c A a Y hp
    have hU : Z.Warmed39 A.U.vm := wtrans hZ Y.warmed
    refine ⟨?_, mv hU wc, mv hU wz, hp.2.2.1, hp.2.2.2⟩
    show (Cond.and _ .tt).before a A.U = true
    rw [Cond.before_and, mv hU wc]; rfl
  · intro m meth c A a g mk Y hp
    exact ⟨hp.1, wtrans hZ Y.warmed, hp.2.1, own_IB hI Y.warmed.interned_eq⟩
  · intros; trivial
  · rintro _ _ _ _ ⟨v, L, h1, h2, h3⟩
    exact ⟨L, _, _, h3, rfl, rfl, v, h1, h2⟩
  · rintro m meth c A a g mk v t L k n Y hp _ _ ⟨e1, e2, v', e3, e4⟩
    cases e3; subst e1 e2; exact ⟨L, e4, rfl, rfl, rfl⟩

theorem d15_0 : decode jdk_29_method_69_code 0 = .ok (.iload_n 0, 1) := by decide +kernel
theorem d15_1 : decode jdk_29_method_69_code 1 = .ok (.iload_n 1, 1) := by decide +kernel
theorem d15_2 : decode jdk_29_method_69_code 2 = .ok (.if_icmp .gt 7, 3) := by decide +kernel
theorem d15_9 : decode jdk_29_method_69_code 9 = .ok (.iload_n 1, 1) := by decide +kernel
theorem d15_10 : decode jdk_29_method_69_code 10 = .ok (.ireturn, 1) := by decide +kernel
theorem d15_5 : decode jdk_29_method_69_code 5 = .ok (.iload_n 0, 1) := by decide +kernel
theorem d15_6 : decode jdk_29_method_69_code 6 = .ok (.goto 4, 3) := by decide +kernel
def own_min (pa : Int32) (qa : Int32) : Int32 := (if qa < pa then qa else pa)
theorem ef_rm15 (m : MethodId) (pa : Int32) (qa : Int32) : entryFrame m #[(.int pa), (.int qa)] 2 = mkF m 0 #[.val (.int pa), .val (.int qa)] [] := by first | (simp [entryFrame, mkF, argsToLocals, Value.category]; done) | rfl
def Q_rm15 (Z : State) (pa : Int32) (qa : Int32) (h0 : Heap) (n0 : Nat) (v : Option Value) (h : Heap) (L : List Loc) : Prop := v = some (.int (own_min pa qa)) ∧ Fr n0 L ∧ h = h0
set_option maxRecDepth 65536 in
set_option maxHeartbeats 40000000 in
theorem rm15 (l : Launch) (Z : State) (a0 : Array Value) (hw : ∀ d ∈ tables_1, d.before a0 Z = true) (ws : List Jvm.Cond) (pa : Int32) (qa : Int32) (h0 : Heap) (n0 : Nat) (O0 : Old Z n0 h0)  :
    MetFree l (⟨"java/lang/Math", "min", "(II)I"⟩ : MethodName) (head1 (Jvm.Cond.code (⟨"java/lang/Math", "min", "(II)I"⟩ : MethodName) jdk_29_method_69_code 2 (some .int) :: ws) ({ frames := 0, cells := 0, slots := 0, locals := 0 } : Room)) (fun aa_ U => aa_ = #[(.int pa), (.int qa)] ∧ Z.Warmed39 U.vm ∧ U.heap = h0) (fun _ _ _ _ _ => True) (fun _ U oo_ U' => ∃ vv_ LL_, oo_ = .returned vv_ ∧ Q_rm15 Z pa qa h0 n0 vv_ U'.heap LL_ ∧ FrameEnd U oo_ U' LL_ ({ frames := 0, cells := 0, slots := 0, locals := 0 } : Room).cells ({ frames := 0, cells := 0, slots := 0, locals := 0 } : Room).slots) := by
  refine MetFree.of_bodySF (by decide +kernel) hisR ?_
  intro p e s m args below meth c s₁ Bd hml0 hP hK
  obtain ⟨rfl, hZ, hh⟩ := hP
  have hx := Bd.exec
  have hby := Bd.bytes
  have hml : c.maxLocals = 2 := hml0
  have hown : s.vm.findClass "java/lang/Math" = some m.cls := findClass_of_methodNamed Bd.named
  have hnm := (name_of_methodNamed Bd.named Bd.method).1
  have X0 : Stand p l e ({ frames := 0, cells := 0, slots := 0, locals := 0 } : Room) s m #[(.int pa), (.int qa)] below meth c s₁ [] 0 0 := Stand.of_body Bd
  have e0 : s₁.heap = h0 := by rw [← hh, Bd.state]; rfl
  have N0 := Fr.nil n0
  have K0 : Keep h0 h0 [] := Keep.refl h0 _
  refine own_i fun PP hPP => own_s (fun t k => castTop (ef_rm15 m pa qa) k) ?_
  show Go p.tables e below _ (s₁.setTop (mkF m 0 #[.val (.int pa), .val (.int qa)] []))
  refine own_s (fun t k => XS.iloadN X0.here hx rfl (hb hby d15_0) rfl k) ?_
  show Go p.tables e below _ (s₁.setTop (mkF m 1 #[.val (.int pa), .val (.int qa)] [(.int pa)]))
  refine own_s (fun t k => XS.iloadN X0.here hx rfl (hb hby d15_1) rfl k) ?_
  show Go p.tables e below _ (s₁.setTop (mkF m 2 #[.val (.int pa), .val (.int qa)] [(.int qa), (.int pa)]))
  by_cases hc1 : qa < pa
  ·
    refine own_s (fun t k => XS.icmpYes X0.here hx rfl (pc0 := 2) (pc' := 9) rfl (hb hby d15_2) rfl (tlt hc1).2.2.1 (by decide) (by decide) k) ?_
    show Go p.tables e below _ (s₁.setTop (mkF m 9 #[.val (.int pa), .val (.int qa)] []))
    refine own_s (fun t k => XS.iloadN X0.here hx rfl (hb hby d15_9) rfl k) ?_
    show Go p.tables e below _ (s₁.setTop (mkF m 10 #[.val (.int pa), .val (.int qa)] [(.int qa)]))
    obtain ⟨fs, hr, hrun, hended, hW, hsame⟩ := X0.leave (v := (some (.int qa))) (fun h => by first | rfl | (rw [Bd.returns] at h; cases h))
    refine own_e hPP ?_ hrun hended ⟨_, _, rfl, ?_, ⟨_, rfl⟩, hW, hsame.mono (by decide) (by decide)⟩
    · exact retI X0 hx Bd.returns (hb hby d15_10) hr
    · show Q_rm15 Z pa qa h0 n0 _ s₁.heap _
      rw [e0]
      exact ⟨congrArg (fun z => some (Value.int z)) (show qa = (own_min pa qa) from by rw [own_min, if_pos hc1]), N0, rfl⟩
  ·
    refine own_s (fun t k => XS.icmpNo X0.here hx rfl (hb hby d15_2) rfl (flt hc1).2.2.1 k) ?_
    show Go p.tables e below _ (s₁.setTop (mkF m 5 #[.val (.int pa), .val (.int qa)] []))
    refine own_s (fun t k => XS.iloadN X0.here hx rfl (hb hby d15_5) rfl k) ?_
    show Go p.tables e below _ (s₁.setTop (mkF m 6 #[.val (.int pa), .val (.int qa)] [(.int pa)]))
    refine own_s (fun t k => XS.goto X0.here hx rfl (pc0 := 6) (pc' := 10) rfl (hb hby d15_6) (by decide) (by decide) k) ?_
    show Go p.tables e below _ (s₁.setTop (mkF m 10 #[.val (.int pa), .val (.int qa)] [(.int pa)]))
    obtain ⟨fs, hr, hrun, hended, hW, hsame⟩ := X0.leave (v := (some (.int pa))) (fun h => by first | rfl | (rw [Bd.returns] at h; cases h))
    refine own_e hPP ?_ hrun hended ⟨_, _, rfl, ?_, ⟨_, rfl⟩, hW, hsame.mono (by decide) (by decide)⟩
    · exact retI X0 hx Bd.returns (hb hby d15_10) hr
    · show Q_rm15 Z pa qa h0 n0 _ s₁.heap _
      rw [e0]
      exact ⟨congrArg (fun z => some (Value.int z)) (show pa = (own_min pa qa) from by rw [own_min, if_neg hc1]), N0, rfl⟩
theorem d35_0 : decode jdk_29_method_65_code 0 = .ok (.iload_n 0, 1) := by decide +kernel
theorem d35_1 : decode jdk_29_method_65_code 1 = .ok (.iload_n 1, 1) := by decide +kernel
theorem d35_2 : decode jdk_29_method_65_code 2 = .ok (.if_icmp .lt 7, 3) := by decide +kernel
theorem d35_9 : decode jdk_29_method_65_code 9 = .ok (.iload_n 1, 1) := by decide +kernel
theorem d35_10 : decode jdk_29_method_65_code 10 = .ok (.ireturn, 1) := by decide +kernel
theorem d35_5 : decode jdk_29_method_65_code 5 = .ok (.iload_n 0, 1) := by decide +kernel
theorem d35_6 : decode jdk_29_method_65_code 6 = .ok (.goto 4, 3) := by decide +kernel
def own_max (pa : Int32) (qa : Int32) : Int32 := (if pa < qa then qa else pa)
theorem ef_rm35 (m : MethodId) (pa : Int32) (qa : Int32) : entryFrame m #[(.int pa), (.int qa)] 2 = mkF m 0 #[.val (.int pa), .val (.int qa)] [] := by first | (simp [entryFrame, mkF, argsToLocals, Value.category]; done) | rfl
def Q_rm35 (Z : State) (pa : Int32) (qa : Int32) (h0 : Heap) (n0 : Nat) (v : Option Value) (h : Heap) (L : List Loc) : Prop := v = some (.int (own_max pa qa)) ∧ Fr n0 L ∧ h = h0
set_option maxRecDepth 65536 in
set_option maxHeartbeats 40000000 in
theorem rm35 (l : Launch) (Z : State) (a0 : Array Value) (hw : ∀ d ∈ tables_1, d.before a0 Z = true) (ws : List Jvm.Cond) (pa : Int32) (qa : Int32) (h0 : Heap) (n0 : Nat) (O0 : Old Z n0 h0)  :
    MetFree l (⟨"java/lang/Math", "max", "(II)I"⟩ : MethodName) (head1 (Jvm.Cond.code (⟨"java/lang/Math", "max", "(II)I"⟩ : MethodName) jdk_29_method_65_code 2 (some .int) :: ws) ({ frames := 0, cells := 0, slots := 0, locals := 0 } : Room)) (fun aa_ U => aa_ = #[(.int pa), (.int qa)] ∧ Z.Warmed39 U.vm ∧ U.heap = h0) (fun _ _ _ _ _ => True) (fun _ U oo_ U' => ∃ vv_ LL_, oo_ = .returned vv_ ∧ Q_rm35 Z pa qa h0 n0 vv_ U'.heap LL_ ∧ FrameEnd U oo_ U' LL_ ({ frames := 0, cells := 0, slots := 0, locals := 0 } : Room).cells ({ frames := 0, cells := 0, slots := 0, locals := 0 } : Room).slots) := by
  refine MetFree.of_bodySF (by decide +kernel) hisR ?_
  intro p e s m args below meth c s₁ Bd hml0 hP hK
  obtain ⟨rfl, hZ, hh⟩ := hP
  have hx := Bd.exec
  have hby := Bd.bytes
  have hml : c.maxLocals = 2 := hml0
  have hown : s.vm.findClass "java/lang/Math" = some m.cls := findClass_of_methodNamed Bd.named
  have hnm := (name_of_methodNamed Bd.named Bd.method).1
  have X0 : Stand p l e ({ frames := 0, cells := 0, slots := 0, locals := 0 } : Room) s m #[(.int pa), (.int qa)] below meth c s₁ [] 0 0 := Stand.of_body Bd
  have e0 : s₁.heap = h0 := by rw [← hh, Bd.state]; rfl
  have N0 := Fr.nil n0
  have K0 : Keep h0 h0 [] := Keep.refl h0 _
  refine own_i fun PP hPP => own_s (fun t k => castTop (ef_rm35 m pa qa) k) ?_
  show Go p.tables e below _ (s₁.setTop (mkF m 0 #[.val (.int pa), .val (.int qa)] []))
  refine own_s (fun t k => XS.iloadN X0.here hx rfl (hb hby d35_0) rfl k) ?_
  show Go p.tables e below _ (s₁.setTop (mkF m 1 #[.val (.int pa), .val (.int qa)] [(.int pa)]))
  refine own_s (fun t k => XS.iloadN X0.here hx rfl (hb hby d35_1) rfl k) ?_
  show Go p.tables e below _ (s₁.setTop (mkF m 2 #[.val (.int pa), .val (.int qa)] [(.int qa), (.int pa)]))
  by_cases hc1 : pa < qa
  ·
    refine own_s (fun t k => XS.icmpYes X0.here hx rfl (pc0 := 2) (pc' := 9) rfl (hb hby d35_2) rfl (tlt hc1).1 (by decide) (by decide) k) ?_
    show Go p.tables e below _ (s₁.setTop (mkF m 9 #[.val (.int pa), .val (.int qa)] []))
    refine own_s (fun t k => XS.iloadN X0.here hx rfl (hb hby d35_9) rfl k) ?_
    show Go p.tables e below _ (s₁.setTop (mkF m 10 #[.val (.int pa), .val (.int qa)] [(.int qa)]))
    obtain ⟨fs, hr, hrun, hended, hW, hsame⟩ := X0.leave (v := (some (.int qa))) (fun h => by first | rfl | (rw [Bd.returns] at h; cases h))
    refine own_e hPP ?_ hrun hended ⟨_, _, rfl, ?_, ⟨_, rfl⟩, hW, hsame.mono (by decide) (by decide)⟩
    · exact retI X0 hx Bd.returns (hb hby d35_10) hr
    · show Q_rm35 Z pa qa h0 n0 _ s₁.heap _
      rw [e0]
      exact ⟨congrArg (fun z => some (Value.int z)) (show qa = (own_max pa qa) from by rw [own_max, if_pos hc1]), N0, rfl⟩
  ·
    refine own_s (fun t k => XS.icmpNo X0.here hx rfl (hb hby d35_2) rfl (flt hc1).1 k) ?_
    show Go p.tables e below _ (s₁.setTop (mkF m 5 #[.val (.int pa), .val (.int qa)] []))
    refine own_s (fun t k => XS.iloadN X0.here hx rfl (hb hby d35_5) rfl k) ?_
    show Go p.tables e below _ (s₁.setTop (mkF m 6 #[.val (.int pa), .val (.int qa)] [(.int pa)]))
    refine own_s (fun t k => XS.goto X0.here hx rfl (pc0 := 6) (pc' := 10) rfl (hb hby d35_6) (by decide) (by decide) k) ?_
    show Go p.tables e below _ (s₁.setTop (mkF m 10 #[.val (.int pa), .val (.int qa)] [(.int pa)]))
    obtain ⟨fs, hr, hrun, hended, hW, hsame⟩ := X0.leave (v := (some (.int pa))) (fun h => by first | rfl | (rw [Bd.returns] at h; cases h))
    refine own_e hPP ?_ hrun hended ⟨_, _, rfl, ?_, ⟨_, rfl⟩, hW, hsame.mono (by decide) (by decide)⟩
    · exact retI X0 hx Bd.returns (hb hby d35_10) hr
    · show Q_rm35 Z pa qa h0 n0 _ s₁.heap _
      rw [e0]
      exact ⟨congrArg (fun z => some (Value.int z)) (show pa = (own_max pa qa) from by rw [own_max, if_neg hc1]), N0, rfl⟩
theorem d14_0 : decode jdk_65_method_131_code 0 = .ok (.iload_n 1, 1) := by decide +kernel
theorem d14_1 : decode jdk_65_method_131_code 1 = .ok (.iload_n 0, 1) := by decide +kernel
theorem d14_2 : decode jdk_65_method_131_code 2 = .ok (.if_icmp .ge 35, 3) := by decide +kernel
theorem d14_37 : decode jdk_65_method_131_code 37 = .ok (.return_, 1) := by decide +kernel
theorem pn_java_util_Arrays : plainName "java/util/Arrays" = true := by first | (simp [plainName, overriddenIn]; done) | decide +kernel
theorem ef_rm14 (m : MethodId) (pa : Int32) (qa : Int32) : entryFrame m #[(.int pa), (.int qa)] 2 = mkF m 0 #[.val (.int pa), .val (.int qa)] [] := by first | (simp [entryFrame, mkF, argsToLocals, Value.category]; done) | rfl
def Q_rm14 (Z : State) (pa : Int32) (qa : Int32) (h0 : Heap) (n0 : Nat) (v : Option Value) (h : Heap) (L : List Loc) : Prop := v = none ∧ Fr n0 L ∧ h = h0
set_option maxRecDepth 65536 in
set_option maxHeartbeats 40000000 in
theorem rm14 (l : Launch) (Z : State) (a0 : Array Value) (hw : ∀ d ∈ tables_1, d.before a0 Z = true) (ws : List Jvm.Cond) (pa : Int32) (qa : Int32) (h0 : Heap) (n0 : Nat) (O0 : Old Z n0 h0) (hc2 : ¬ (qa < pa)) :
    MetFree l (⟨"java/util/Arrays", "checkLength", "(II)V"⟩ : MethodName) (head1 (Jvm.Cond.code (⟨"java/util/Arrays", "checkLength", "(II)V"⟩ : MethodName) jdk_65_method_131_code 2 none :: ws) ({ frames := 0, cells := 0, slots := 0, locals := 0 } : Room)) (fun aa_ U => aa_ = #[(.int pa), (.int qa)] ∧ Z.Warmed39 U.vm ∧ U.heap = h0) (fun _ _ _ _ _ => True) (fun _ U oo_ U' => ∃ vv_ LL_, oo_ = .returned vv_ ∧ Q_rm14 Z pa qa h0 n0 vv_ U'.heap LL_ ∧ FrameEnd U oo_ U' LL_ ({ frames := 0, cells := 0, slots := 0, locals := 0 } : Room).cells ({ frames := 0, cells := 0, slots := 0, locals := 0 } : Room).slots) := by
  refine MetFree.of_bodySF (plainFor_of_name pn_java_util_Arrays) hisR ?_
  intro p e s m args below meth c s₁ Bd hml0 hP hK
  obtain ⟨rfl, hZ, hh⟩ := hP
  have hx := Bd.exec
  have hby := Bd.bytes
  have hml : c.maxLocals = 2 := hml0
  have hown : s.vm.findClass "java/util/Arrays" = some m.cls := findClass_of_methodNamed Bd.named
  have hnm := (name_of_methodNamed Bd.named Bd.method).1
  have X0 : Stand p l e ({ frames := 0, cells := 0, slots := 0, locals := 0 } : Room) s m #[(.int pa), (.int qa)] below meth c s₁ [] 0 0 := Stand.of_body Bd
  have e0 : s₁.heap = h0 := by rw [← hh, Bd.state]; rfl
  have N0 := Fr.nil n0
  have K0 : Keep h0 h0 [] := Keep.refl h0 _
  refine own_i fun PP hPP => own_s (fun t k => castTop (ef_rm14 m pa qa) k) ?_
  show Go p.tables e below _ (s₁.setTop (mkF m 0 #[.val (.int pa), .val (.int qa)] []))
  refine own_s (fun t k => XS.iloadN X0.here hx rfl (hb hby d14_0) rfl k) ?_
  show Go p.tables e below _ (s₁.setTop (mkF m 1 #[.val (.int pa), .val (.int qa)] [(.int qa)]))
  refine own_s (fun t k => XS.iloadN X0.here hx rfl (hb hby d14_1) rfl k) ?_
  show Go p.tables e below _ (s₁.setTop (mkF m 2 #[.val (.int pa), .val (.int qa)] [(.int pa), (.int qa)]))
  refine own_s (fun t k => XS.icmpYes X0.here hx rfl (pc0 := 2) (pc' := 37) rfl (hb hby d14_2) rfl (flt hc2).2.1 (by decide) (by decide) k) ?_
  show Go p.tables e below _ (s₁.setTop (mkF m 37 #[.val (.int pa), .val (.int qa)] []))
  obtain ⟨fs, hr, hrun, hended, hW, hsame⟩ := X0.leave (v := none) (fun h => by first | rfl | (rw [Bd.returns] at h; cases h))
  refine own_e hPP ?_ hrun hended ⟨_, _, rfl, ?_, ⟨_, rfl⟩, hW, hsame.mono (by decide) (by decide)⟩
  · exact X0.returnOut hx Bd.returns (hb hby d14_37) hr
  · show Q_rm14 Z pa qa h0 n0 _ s₁.heap _
    rw [e0]
    exact ⟨rfl, N0, rfl⟩
theorem d3_0 : decode jdk_68_method_2_code 0 = .ok (.aload_n 0, 1) := by decide +kernel
theorem d3_1 : decode jdk_68_method_2_code 1 = .ok (.invokespecial 3, 3) := by decide +kernel
theorem d3_4 : decode jdk_68_method_2_code 4 = .ok (.getstatic 18, 3) := by decide +kernel
theorem d3_7 : decode jdk_68_method_2_code 7 = .ok (.ifCond .eq 18, 3) := by decide +kernel
theorem d3_10 : decode jdk_68_method_2_code 10 = .ok (.aload_n 0, 1) := by decide +kernel
theorem d3_11 : decode jdk_68_method_2_code 11 = .ok (.iload_n 1, 1) := by decide +kernel
theorem d3_12 : decode jdk_68_method_2_code 12 = .ok (.newarray .byte, 2) := by decide +kernel
theorem d3_14 : decode jdk_68_method_2_code 14 = .ok (.putfield 15, 3) := by decide +kernel
theorem d3_17 : decode jdk_68_method_2_code 17 = .ok (.aload_n 0, 1) := by decide +kernel
theorem d3_18 : decode jdk_68_method_2_code 18 = .ok (.iconst 0, 1) := by decide +kernel
theorem d3_19 : decode jdk_68_method_2_code 19 = .ok (.putfield 22, 3) := by decide +kernel
theorem d3_22 : decode jdk_68_method_2_code 22 = .ok (.goto 16, 3) := by decide +kernel
theorem d3_38 : decode jdk_68_method_2_code 38 = .ok (.return_, 1) := by decide +kernel
theorem pn_java_lang_AbstractStringBuilder : plainName "java/lang/AbstractStringBuilder" = true := by first | (simp [plainName, overriddenIn]; done) | decide +kernel
theorem ef_rm3 (m : MethodId) (a : Addr) : entryFrame m #[(.ref a), (.int (16 : Int32))] 2 = mkF m 0 #[.val (.ref a), .val (.int (16 : Int32))] [] := by first | (simp [entryFrame, mkF, argsToLocals, Value.category]; done) | rfl
def Q_rm3 (Z : State) (cz : Int32) (a : Addr) (u_value_a : Value) (u_coder_a : Value) (h0 : Heap) (n0 : Nat) (v : Option Value) (h : Heap) (L : List Loc) : Prop := ∃ b3 : Addr, ∃ k3 : ClassId, v = none ∧ Fr n0 L ∧ Keep h0 h [a] ∧ h0.size ≤ b3 ∧ Fld Z h a "java/lang/AbstractStringBuilder" "count" "I" (.int (0 : Int32)) ∧ Fld Z h a "java/lang/AbstractStringBuilder" "value" "[B" (.ref b3) ∧ Fld Z h a "java/lang/AbstractStringBuilder" "coder" "B" (.int (0 : Int32)) ∧ Arv Z h b3 k3 .byte (16 : Int32) [(.int (0 : Int32)), (.int (0 : Int32)), (.int (0 : Int32)), (.int (0 : Int32)), (.int (0 : Int32)), (.int (0 : Int32)), (.int (0 : Int32)), (.int (0 : Int32)), (.int (0 : Int32)), (.int (0 : Int32)), (.int (0 : Int32)), (.int (0 : Int32)), (.int (0 : Int32)), (.int (0 : Int32)), (.int (0 : Int32)), (.int (0 : Int32))] (.int (0 : Int32))
set_option maxRecDepth 65536 in
set_option maxHeartbeats 40000000 in
theorem rm3 (l : Launch) (Z : State) (a0 : Array Value) (hw : ∀ d ∈ tables_1, d.before a0 Z = true) (ws : List Jvm.Cond) (cz : Int32) (a : Addr) (u_value_a : Value) (u_coder_a : Value) (h0 : Heap) (n0 : Nat) (O0 : Old Z n0 h0) (S_C : Sta Z Z.heap "java/lang/String" "COMPACT_STRINGS" "Z" (.int cz)) (hcz : ¬ (cz = (0 : Int32))) (E_a : Exa Z h0 a "java/lang/StringBuilder") (F_count_a : Fld Z h0 a "java/lang/AbstractStringBuilder" "count" "I" (.int (0 : Int32))) (F_value_a : Fld Z h0 a "java/lang/AbstractStringBuilder" "value" "[B" u_value_a) (g_a : n0 ≤ a) (F_coder_a : Fld Z h0 a "java/lang/AbstractStringBuilder" "coder" "B" u_coder_a) :
    MetFree l (⟨"java/lang/AbstractStringBuilder", "<init>", "(I)V"⟩ : MethodName) (head1 (Jvm.Cond.code (⟨"java/lang/AbstractStringBuilder", "<init>", "(I)V"⟩ : MethodName) jdk_68_method_2_code 2 none :: ws) ({ frames := 1, cells := 1, slots := 16, locals := 12 } : Room)) (fun aa_ U => aa_ = #[(.ref a), (.int (16 : Int32))] ∧ Z.Warmed39 U.vm ∧ U.heap = h0) (fun _ _ _ _ _ => True) (fun _ U oo_ U' => ∃ vv_ LL_, oo_ = .returned vv_ ∧ Q_rm3 Z cz a u_value_a u_coder_a h0 n0 vv_ U'.heap LL_ ∧ FrameEnd U oo_ U' LL_ ({ frames := 1, cells := 1, slots := 16, locals := 12 } : Room).cells ({ frames := 1, cells := 1, slots := 16, locals := 12 } : Room).slots) := by
  refine MetFree.of_bodySF (plainFor_of_name pn_java_lang_AbstractStringBuilder) hisR ?_
  intro p e s m args below meth c s₁ Bd hml0 hP hK
  obtain ⟨rfl, hZ, hh⟩ := hP
  have hx := Bd.exec
  have hby := Bd.bytes
  have hml : c.maxLocals = 2 := hml0
  have hown : s.vm.findClass "java/lang/AbstractStringBuilder" = some m.cls := findClass_of_methodNamed Bd.named
  have hnm := (name_of_methodNamed Bd.named Bd.method).1
  have X0 : Stand p l e ({ frames := 1, cells := 1, slots := 16, locals := 12 } : Room) s m #[(.ref a), (.int (16 : Int32))] below meth c s₁ [] 0 0 := Stand.of_body Bd
  have e0 : s₁.heap = h0 := by rw [← hh, Bd.state]; rfl
  have N0 := Fr.nil n0
  have K0 : Keep h0 h0 [a] := Keep.refl h0 _
  refine own_i fun PP hPP => own_s (fun t k => castTop (ef_rm3 m a) k) ?_
  show Go p.tables e below _ (s₁.setTop (mkF m 0 #[.val (.ref a), .val (.int (16 : Int32))] []))
  refine own_s (fun t k => XS.aloadN X0.here hx rfl (hb hby d3_0) rfl rfl k) ?_
  show Go p.tables e below _ (s₁.setTop (mkF m 1 #[.val (.ref a), .val (.int (16 : Int32))] [(.ref a)]))
  obtain ⟨T1, X1, e1, st1⟩ := initO X0 hx hZ hown (hw _ (List.mem_of_getElem? (i := 17) rfl)) (hw _ (List.mem_of_getElem? (i := 18) rfl)) (hw _ (List.mem_of_getElem? (i := 19) rfl)) e0 (g := (mkF m 1 #[.val (.ref a), .val (.int (16 : Int32))] [(.ref a)])) rfl (by rw [hml]; rfl) rfl (hb hby d3_1) (by decide) (W := 0) (by show 2 * 0 + _ ≤ _; exact Nat.le_of_eq rfl) (by decide)
  refine own_s st1 ?_
  show Go p.tables e below _ (T1.setTop (mkF m 4 #[.val (.ref a), .val (.int (16 : Int32))] []))
  obtain ⟨T2, X2, e2, st2⟩ := getS2 X1 hx hZ hown (host := "") (Or.inl (hw _ (List.mem_of_getElem? (i := 20) rfl))) Via.refl e1 (S_C.ext O0.2) (g := (mkF m 4 #[.val (.ref a), .val (.int (16 : Int32))] [])) rfl (hb hby d3_4)
  refine own_s st2 ?_
  show Go p.tables e below _ (T2.setTop (mkF m 7 #[.val (.ref a), .val (.int (16 : Int32))] [(.int cz)]))
  refine own_s (fun t k => XS.ifNo X2.here hx rfl (hb hby d3_7) rfl ((if0 _ _).trans (feq hcz).1) k) ?_
  show Go p.tables e below _ (T2.setTop (mkF m 10 #[.val (.ref a), .val (.int (16 : Int32))] []))
  refine own_s (fun t k => XS.aloadN X2.here hx rfl (hb hby d3_10) rfl rfl k) ?_
  show Go p.tables e below _ (T2.setTop (mkF m 11 #[.val (.ref a), .val (.int (16 : Int32))] [(.ref a)]))
  refine own_s (fun t k => XS.iloadN X2.here hx rfl (hb hby d3_11) rfl k) ?_
  show Go p.tables e below _ (T2.setTop (mkF m 12 #[.val (.ref a), .val (.int (16 : Int32))] [(.int (16 : Int32)), (.ref a)]))
  obtain ⟨T3, h3, k3, X3, e3, E3, A3, st3⟩ := newP X2 hx hZ (hw _ (List.mem_of_getElem? (i := 0) rfl)) e2 (g := (mkF m 12 #[.val (.ref a), .val (.int (16 : Int32))] [(.int (16 : Int32)), (.ref a)])) rfl (hb hby d3_12) rfl (by decide) (cap := 16) (by decide) (by decide) (by decide) (by decide)
  obtain ⟨b3, gg3⟩ : ∃ z, z = h0.size := ⟨_, rfl⟩
  rw [← gg3] at A3 st3
  have g_b3 : n0 ≤ b3 := Nat.le_trans (Nat.le_of_eq O0.1.symm) (Nat.le_trans O0.2.1 (Nat.le_of_eq gg3.symm))
  have sz_b3 : h0.size ≤ b3 := Nat.le_trans K0.1 (Nat.le_of_eq gg3.symm)
  have K3 : Keep h0 h3 [a] := K0.ext E3
  have V3 : Arv Z h3 b3 k3 .byte (16 : Int32) [(.int (0 : Int32)), (.int (0 : Int32)), (.int (0 : Int32)), (.int (0 : Int32)), (.int (0 : Int32)), (.int (0 : Int32)), (.int (0 : Int32)), (.int (0 : Int32)), (.int (0 : Int32)), (.int (0 : Int32)), (.int (0 : Int32)), (.int (0 : Int32)), (.int (0 : Int32)), (.int (0 : Int32)), (.int (0 : Int32)), (.int (0 : Int32))] (.int (0 : Int32)) := (Arv.new A3 (by decide)).pad (pad_rep [] (.int (0 : Int32)) 16)
  refine own_s st3 ?_
  show Go p.tables e below _ (T3.setTop (mkF m 14 #[.val (.ref a), .val (.int (16 : Int32))] [(.ref b3), (.ref a)]))
  have Q4 : Exa Z h3 a "java/lang/StringBuilder" := (E_a.ext E3)
  have F5 : Fld Z h3 a "java/lang/AbstractStringBuilder" "value" "[B" u_value_a := (F_value_a.ext E3)
  obtain ⟨T6, h6, X6, e6, W6, st6⟩ := putF X3 hx hZ hown (host := "") (Or.inl (hw _ (List.mem_of_getElem? (i := 22) rfl))) Via.refl e3 F5 Q4 (Or.inl (hw _ (List.mem_of_getElem? (i := 23) rfl))) (hw _ (List.mem_of_getElem? (i := 6) rfl)) (ty := (.array .byte)) (by decide) rfl rfl (g := (mkF m 14 #[.val (.ref a), .val (.int (16 : Int32))] [(.ref b3), (.ref a)])) rfl rfl (hb hby d3_14)
  refine own_s st6 ?_
  have K6 : Keep h0 h6 [a] := K3.wr W6 (Or.inl (List.mem_of_getElem? (i := 0) rfl))
  have N6 := Fr.snoc X6 N0 g_a
  have Fw6 := F5.same W6
  show Go p.tables e below _ (T6.setTop (mkF m 17 #[.val (.ref a), .val (.int (16 : Int32))] []))
  refine own_s (fun t k => XS.aloadN X6.here hx rfl (hb hby d3_17) rfl rfl k) ?_
  show Go p.tables e below _ (T6.setTop (mkF m 18 #[.val (.ref a), .val (.int (16 : Int32))] [(.ref a)]))
  refine own_s (fun t k => XS.iconst X6.here hx rfl (hb hby d3_18) k) ?_
  show Go p.tables e below _ (T6.setTop (mkF m 19 #[.val (.ref a), .val (.int (16 : Int32))] [(.int (0 : Int32)), (.ref a)]))
  have Q7 : Exa Z h6 a "java/lang/StringBuilder" := (Q4.wr W6)
  have F8 : Fld Z h6 a "java/lang/AbstractStringBuilder" "coder" "B" u_coder_a := ((F_coder_a.ext E3).other W6 (Or.inr (slot_ne (Or.inl (hw _ (List.mem_of_getElem? (i := 25) rfl))) (Or.inl (hw _ (List.mem_of_getElem? (i := 23) rfl))) (by decide) (t := .byte) (t' := (.array .byte)) (by decide) (by decide))))
  obtain ⟨T9, h9, X9, e9, W9, st9⟩ := putFN X6 hx hZ hown (hw _ (List.mem_of_getElem? (i := 24) rfl)) Via.refl e6 F8 Q7 (Or.inl (hw _ (List.mem_of_getElem? (i := 25) rfl))) (hw _ (List.mem_of_getElem? (i := 6) rfl)) (ty := .byte) (v' := (.int (0 : Int32))) (by decide) rfl rfl (g := (mkF m 19 #[.val (.ref a), .val (.int (16 : Int32))] [(.int (0 : Int32)), (.ref a)])) rfl rfl (hb hby d3_19)
  refine own_s st9 ?_
  have K9 : Keep h0 h9 [a] := K6.wr W9 (Or.inl (List.mem_of_getElem? (i := 0) rfl))
  have N9 := Fr.snoc X9 N6 g_a
  have Fw9 := F8.same W9
  show Go p.tables e below _ (T9.setTop (mkF m 22 #[.val (.ref a), .val (.int (16 : Int32))] []))
  refine own_s (fun t k => XS.goto X9.here hx rfl (pc0 := 22) (pc' := 38) rfl (hb hby d3_22) (by decide) (by decide) k) ?_
  show Go p.tables e below _ (T9.setTop (mkF m 38 #[.val (.ref a), .val (.int (16 : Int32))] []))
  obtain ⟨fs, hr, hrun, hended, hW, hsame⟩ := X9.leave (v := none) (fun h => by first | rfl | (rw [Bd.returns] at h; cases h))
  have F10 : Fld Z h9 a "java/lang/AbstractStringBuilder" "count" "I" (.int (0 : Int32)) := (((F_count_a.ext E3).other W6 (Or.inr (slot_ne (Or.inl (hw _ (List.mem_of_getElem? (i := 56) rfl))) (Or.inl (hw _ (List.mem_of_getElem? (i := 23) rfl))) (by decide) (t := .int) (t' := (.array .byte)) (by decide) (by decide)))).other W9 (Or.inr (slot_ne (Or.inl (hw _ (List.mem_of_getElem? (i := 56) rfl))) (Or.inl (hw _ (List.mem_of_getElem? (i := 25) rfl))) (by decide) (t := .int) (t' := .byte) (by decide) (by decide))))
  have F11 : Fld Z h9 a "java/lang/AbstractStringBuilder" "value" "[B" (.ref b3) := (Fw6.other W9 (Or.inr (slot_ne (Or.inl (hw _ (List.mem_of_getElem? (i := 23) rfl))) (Or.inl (hw _ (List.mem_of_getElem? (i := 25) rfl))) (by decide) (t := (.array .byte)) (t' := .byte) (by decide) (by decide))))
  have ne12 : a ≠ b3 := Nat.ne_of_lt (Nat.lt_of_lt_of_le E_a.lt (Nat.le_of_eq gg3.symm))
  have V13 : Arv Z h9 b3 k3 .byte (16 : Int32) [(.int (0 : Int32)), (.int (0 : Int32)), (.int (0 : Int32)), (.int (0 : Int32)), (.int (0 : Int32)), (.int (0 : Int32)), (.int (0 : Int32)), (.int (0 : Int32)), (.int (0 : Int32)), (.int (0 : Int32)), (.int (0 : Int32)), (.int (0 : Int32)), (.int (0 : Int32)), (.int (0 : Int32)), (.int (0 : Int32)), (.int (0 : Int32))] (.int (0 : Int32)) := ((V3.other W6 (Ne.symm ne12)).other W9 (Ne.symm ne12))
  refine own_e hPP ?_ hrun hended ⟨_, _, rfl, ?_, ⟨_, rfl⟩, hW, hsame.mono (by decide) (by decide)⟩
  · exact X9.returnOut hx Bd.returns (hb hby d3_38) hr
  · show Q_rm3 Z cz a u_value_a u_coder_a h0 n0 _ T9.heap _
    rw [e9]
    exact ⟨b3, k3, rfl, N9, K9, sz_b3, F10, F11, Fw9, V13⟩
theorem d2_0 : decode jdk_67_method_1_code 0 = .ok (.aload_n 0, 1) := by decide +kernel
theorem d2_1 : decode jdk_67_method_1_code 1 = .ok (.bipush 16, 2) := by decide +kernel
theorem d2_3 : decode jdk_67_method_1_code 3 = .ok (.invokespecial 1, 3) := by decide +kernel
theorem pd__I_V : parseMethodDescriptor "(I)V" = some ⟨[.int], none⟩ := by decide +kernel
theorem d2_6 : decode jdk_67_method_1_code 6 = .ok (.return_, 1) := by decide +kernel
theorem pn_java_lang_StringBuilder : plainName "java/lang/StringBuilder" = true := by first | (simp [plainName, overriddenIn]; done) | decide +kernel
theorem ef_rm2 (m : MethodId) (a : Addr) : entryFrame m #[(.ref a)] 1 = mkF m 0 #[.val (.ref a)] [] := by first | (simp [entryFrame, mkF, argsToLocals, Value.category]; done) | rfl
def Q_rm2 (Z : State) (cz : Int32) (a : Addr) (u_value_a : Value) (u_coder_a : Value) (h0 : Heap) (n0 : Nat) (v : Option Value) (h : Heap) (L : List Loc) : Prop := ∃ b3_1 : Addr, ∃ k3_1 : ClassId, v = none ∧ Fr n0 L ∧ Keep h0 h [a] ∧ h0.size ≤ b3_1 ∧ Fld Z h a "java/lang/AbstractStringBuilder" "count" "I" (.int (0 : Int32)) ∧ Fld Z h a "java/lang/AbstractStringBuilder" "value" "[B" (.ref b3_1) ∧ Fld Z h a "java/lang/AbstractStringBuilder" "coder" "B" (.int (0 : Int32)) ∧ Arv Z h b3_1 k3_1 .byte (16 : Int32) [(.int (0 : Int32)), (.int (0 : Int32)), (.int (0 : Int32)), (.int (0 : Int32)), (.int (0 : Int32)), (.int (0 : Int32)), (.int (0 : Int32)), (.int (0 : Int32)), (.int (0 : Int32)), (.int (0 : Int32)), (.int (0 : Int32)), (.int (0 : Int32)), (.int (0 : Int32)), (.int (0 : Int32)), (.int (0 : Int32)), (.int (0 : Int32))] (.int (0 : Int32))
set_option maxRecDepth 65536 in
set_option maxHeartbeats 40000000 in
theorem rm2 (l : Launch) (Z : State) (a0 : Array Value) (hw : ∀ d ∈ tables_1, d.before a0 Z = true) (ws : List Jvm.Cond) (cz : Int32) (a : Addr) (u_value_a : Value) (u_coder_a : Value) (h0 : Heap) (n0 : Nat) (O0 : Old Z n0 h0) (S_C : Sta Z Z.heap "java/lang/String" "COMPACT_STRINGS" "Z" (.int cz)) (hcz : ¬ (cz = (0 : Int32))) (E_a : Exa Z h0 a "java/lang/StringBuilder") (F_count_a : Fld Z h0 a "java/lang/AbstractStringBuilder" "count" "I" (.int (0 : Int32))) (F_value_a : Fld Z h0 a "java/lang/AbstractStringBuilder" "value" "[B" u_value_a) (g_a : n0 ≤ a) (F_coder_a : Fld Z h0 a "java/lang/AbstractStringBuilder" "coder" "B" u_coder_a) :
    MetFree l (⟨"java/lang/StringBuilder", "<init>", "()V"⟩ : MethodName) (head1 (Jvm.Cond.code (⟨"java/lang/StringBuilder", "<init>", "()V"⟩ : MethodName) jdk_67_method_1_code 1 none :: ws) ({ frames := 2, cells := 1, slots := 16, locals := 25 } : Room)) (fun aa_ U => aa_ = #[(.ref a)] ∧ Z.Warmed39 U.vm ∧ U.heap = h0) (fun _ _ _ _ _ => True) (fun _ U oo_ U' => ∃ vv_ LL_, oo_ = .returned vv_ ∧ Q_rm2 Z cz a u_value_a u_coder_a h0 n0 vv_ U'.heap LL_ ∧ FrameEnd U oo_ U' LL_ ({ frames := 2, cells := 1, slots := 16, locals := 25 } : Room).cells ({ frames := 2, cells := 1, slots := 16, locals := 25 } : Room).slots) := by
  refine MetFree.of_bodySF (plainFor_of_name pn_java_lang_StringBuilder) hisR ?_
  intro p e s m args below meth c s₁ Bd hml0 hP hK
  obtain ⟨rfl, hZ, hh⟩ := hP
  have hx := Bd.exec
  have hby := Bd.bytes
  have hml : c.maxLocals = 1 := hml0
  have hown : s.vm.findClass "java/lang/StringBuilder" = some m.cls := findClass_of_methodNamed Bd.named
  have hnm := (name_of_methodNamed Bd.named Bd.method).1
  have X0 : Stand p l e ({ frames := 2, cells := 1, slots := 16, locals := 25 } : Room) s m #[(.ref a)] below meth c s₁ [] 0 0 := Stand.of_body Bd
  have e0 : s₁.heap = h0 := by rw [← hh, Bd.state]; rfl
  have N0 := Fr.nil n0
  have K0 : Keep h0 h0 [a] := Keep.refl h0 _
  refine own_i fun PP hPP => own_s (fun t k => castTop (ef_rm2 m a) k) ?_
  show Go p.tables e below _ (s₁.setTop (mkF m 0 #[.val (.ref a)] []))
  refine own_s (fun t k => XS.aloadN X0.here hx rfl (hb hby d2_0) rfl rfl k) ?_
  show Go p.tables e below _ (s₁.setTop (mkF m 1 #[.val (.ref a)] [(.ref a)]))
  refine own_s (fun t k => XS.bipush X0.here hx rfl (hb hby d2_1) k) ?_
  show Go p.tables e below _ (s₁.setTop (mkF m 3 #[.val (.ref a)] [(.int (16 : Int32)), (.ref a)]))
  obtain ⟨_, _, ⟨T1, L1, k1, n1⟩, -, X1, ⟨Lc1, hQ1, l1, y1, z1⟩, st1⟩ := X0.specialBack hx (y := (⟨"java/lang/AbstractStringBuilder", "<init>", "(I)V"⟩ : MethodName)) rfl hown (mvT hZ (hw _ (List.mem_of_getElem? (i := 11) rfl))) (mvT hZ (hw _ (List.mem_of_getElem? (i := 12) rfl))) (mvT hZ (hw _ (List.mem_of_getElem? (i := 16) rfl))) (by decide) (backOf (W := 0) (rm3 l Z a0 hw [] cz a u_value_a u_coder_a h0 n0 O0 S_C hcz E_a F_count_a F_value_a g_a F_coder_a) hZ (hw _ (List.mem_of_getElem? (i := 16) rfl)) (hw _ (List.mem_of_getElem? (i := 15) rfl)) (by decide) (by decide)) (g := (mkF m 3 #[.val (.ref a)] [(.int (16 : Int32)), (.ref a)])) rfl (by rw [hml]; rfl) (Steps.refl _) (a := a) (argsL := [(.int (16 : Int32))]) (rest := []) (lenOf pd__I_V rfl) rfl (by show 2 * 0 + _ ≤ _; exact Nat.le_of_eq rfl) (hb hby d2_3) (fun _ _ => ⟨rfl, e0, (by decide : 0 + 1 ≤ _), (by decide : 0 + 16 ≤ _)⟩)
  dsimp only [Pt.U, Pt.locs, Pt.cells, Pt.slots] at X1 l1 y1 z1 st1 hQ1
  subst l1 y1 z1
  obtain ⟨b3_1, k3_1, rfl, N1q, Kc1, bz_b3_1, fc1_0, fc1_1, fc1_2, fc1_3⟩ := hQ1
  have g_b3_1 : n0 ≤ b3_1 := Nat.le_trans (Nat.le_of_eq O0.1.symm) (Nat.le_trans O0.2.1 bz_b3_1)
  have sz_b3_1 : h0.size ≤ b3_1 := Nat.le_trans K0.1 bz_b3_1
  have K1 : Keep h0 T1.heap [a] := K0.trans Kc1 (allS (Or.inl (List.mem_of_getElem? (i := 0) rfl)) all0)
  have N1 := Fr.app N0 N1q
  refine own_t st1 ?_
  show Go p.tables e below _ (T1.setTop (mkF m 6 #[.val (.ref a)] []))
  obtain ⟨fs, hr, hrun, hended, hW, hsame⟩ := X1.leave (v := none) (fun h => by first | rfl | (rw [Bd.returns] at h; cases h))
  refine own_e hPP ?_ hrun hended ⟨_, _, rfl, ?_, ⟨_, rfl⟩, hW, hsame.mono (by decide) (by decide)⟩
  · exact X1.returnOut hx Bd.returns (hb hby d2_6) hr
  · show Q_rm2 Z cz a u_value_a u_coder_a h0 n0 _ T1.heap _
    exact ⟨b3_1, k3_1, rfl, N1, K1, sz_b3_1, fc1_0, fc1_1, fc1_2, fc1_3⟩
theorem d20_0 : decode jdk_68_method_9_code 0 = .ok (.aload_n 0, 1) := by decide +kernel
theorem d20_1 : decode jdk_68_method_9_code 1 = .ok (.getfield 15, 3) := by decide +kernel
theorem d20_4 : decode jdk_68_method_9_code 4 = .ok (.arraylength, 1) := by decide +kernel
theorem d20_5 : decode jdk_68_method_9_code 5 = .ok (.aload_n 0, 1) := by decide +kernel
theorem d20_6 : decode jdk_68_method_9_code 6 = .ok (.getfield 22, 3) := by decide +kernel
theorem d20_9 : decode jdk_68_method_9_code 9 = .ok (.ishr, 1) := by decide +kernel
theorem d20_10 : decode jdk_68_method_9_code 10 = .ok (.istore_n 2, 1) := by decide +kernel
theorem d20_11 : decode jdk_68_method_9_code 11 = .ok (.iload_n 1, 1) := by decide +kernel
theorem d20_12 : decode jdk_68_method_9_code 12 = .ok (.iload_n 2, 1) := by decide +kernel
theorem d20_13 : decode jdk_68_method_9_code 13 = .ok (.isub, 1) := by decide +kernel
theorem d20_14 : decode jdk_68_method_9_code 14 = .ok (.ifCond .le 24, 3) := by decide +kernel
theorem d20_38 : decode jdk_68_method_9_code 38 = .ok (.return_, 1) := by decide +kernel
theorem ef_rm20 (m : MethodId) (a : Addr) (mc : Int32) : entryFrame m #[(.ref a), (.int mc)] 3 = mkF m 0 #[.val (.ref a), .val (.int mc), .unset] [] := by first | (simp [entryFrame, mkF, argsToLocals, Value.category]; done) | rfl
def Q_rm20 (Z : State) (bv : Addr) (kb : ClassId) (vs : List Value) (a : Addr) (mc : Int32) (h0 : Heap) (n0 : Nat) (v : Option Value) (h : Heap) (L : List Loc) : Prop := v = none ∧ Fr n0 L ∧ h = h0
set_option maxRecDepth 65536 in
set_option maxHeartbeats 40000000 in
theorem rm20 (l : Launch) (Z : State) (a0 : Array Value) (hw : ∀ d ∈ tables_1, d.before a0 Z = true) (ws : List Jvm.Cond) (bv : Addr) (kb : ClassId) (vs : List Value) (a : Addr) (mc : Int32) (h0 : Heap) (n0 : Nat) (O0 : Old Z n0 h0) (F_value_a : Fld Z h0 a "java/lang/AbstractStringBuilder" "value" "[B" (.ref bv)) (F_coder_a : Fld Z h0 a "java/lang/AbstractStringBuilder" "coder" "B" (.int (0 : Int32))) (V_bv : Arv Z h0 bv kb .byte (16 : Int32) vs (.int (0 : Int32))) (hcap : ¬ ((0 : Int32) < (mc - (16 : Int32)))) :
    MetFree l (⟨"java/lang/AbstractStringBuilder", "ensureCapacityInternal", "(I)V"⟩ : MethodName) (head1 (Jvm.Cond.code (⟨"java/lang/AbstractStringBuilder", "ensureCapacityInternal", "(I)V"⟩ : MethodName) jdk_68_method_9_code 3 none :: ws) ({ frames := 0, cells := 0, slots := 0, locals := 0 } : Room)) (fun aa_ U => aa_ = #[(.ref a), (.int mc)] ∧ Z.Warmed39 U.vm ∧ U.heap = h0) (fun _ _ _ _ _ => True) (fun _ U oo_ U' => ∃ vv_ LL_, oo_ = .returned vv_ ∧ Q_rm20 Z bv kb vs a mc h0 n0 vv_ U'.heap LL_ ∧ FrameEnd U oo_ U' LL_ ({ frames := 0, cells := 0, slots := 0, locals := 0 } : Room).cells ({ frames := 0, cells := 0, slots := 0, locals := 0 } : Room).slots) := by
  refine MetFree.of_bodySF (plainFor_of_name pn_java_lang_AbstractStringBuilder) hisR ?_
  intro p e s m args below meth c s₁ Bd hml0 hP hK
  obtain ⟨rfl, hZ, hh⟩ := hP
  have hx := Bd.exec
  have hby := Bd.bytes
  have hml : c.maxLocals = 3 := hml0
  have hown : s.vm.findClass "java/lang/AbstractStringBuilder" = some m.cls := findClass_of_methodNamed Bd.named
  have hnm := (name_of_methodNamed Bd.named Bd.method).1
  have X0 : Stand p l e ({ frames := 0, cells := 0, slots := 0, locals := 0 } : Room) s m #[(.ref a), (.int mc)] below meth c s₁ [] 0 0 := Stand.of_body Bd
  have e0 : s₁.heap = h0 := by rw [← hh, Bd.state]; rfl
  have N0 := Fr.nil n0
  have K0 : Keep h0 h0 [] := Keep.refl h0 _
  refine own_i fun PP hPP => own_s (fun t k => castTop (ef_rm20 m a mc) k) ?_
  show Go p.tables e below _ (s₁.setTop (mkF m 0 #[.val (.ref a), .val (.int mc), .unset] []))
  refine own_s (fun t k => XS.aloadN X0.here hx rfl (hb hby d20_0) rfl rfl k) ?_
  show Go p.tables e below _ (s₁.setTop (mkF m 1 #[.val (.ref a), .val (.int mc), .unset] [(.ref a)]))
  obtain ⟨T1, X1, e1, st1⟩ := getF X0 hx hZ hown (host := "") (Or.inl (hw _ (List.mem_of_getElem? (i := 22) rfl))) Via.refl e0 F_value_a (g := (mkF m 1 #[.val (.ref a), .val (.int mc), .unset] [(.ref a)])) rfl rfl (hb hby d20_1)
  refine own_s st1 ?_
  show Go p.tables e below _ (T1.setTop (mkF m 4 #[.val (.ref a), .val (.int mc), .unset] [(.ref bv)]))
  obtain ⟨cl2, Ar2, qk2, Sz2, Nn2, Hs2, Gf2⟩ := id V_bv
  refine own_s (X1.arraylength hx (by rw [e1]; exact Ar2.1) (State.isArrayOf_alike hZ.alike Ar2.2.1) (g := (mkF m 4 #[.val (.ref a), .val (.int mc), .unset] [(.ref bv)])) rfl rfl (hb hby d20_4)) ?_
  rw [len_of Sz2 Nn2]
  show Go p.tables e below _ (T1.setTop (mkF m 5 #[.val (.ref a), .val (.int mc), .unset] [(.int (16 : Int32))]))
  refine own_s (fun t k => XS.aloadN X1.here hx rfl (hb hby d20_5) rfl rfl k) ?_
  show Go p.tables e below _ (T1.setTop (mkF m 6 #[.val (.ref a), .val (.int mc), .unset] [(.ref a), (.int (16 : Int32))]))
  obtain ⟨T3, X3, e3, st3⟩ := getF X1 hx hZ hown (host := "") (Or.inl (hw _ (List.mem_of_getElem? (i := 24) rfl))) Via.refl e1 F_coder_a (g := (mkF m 6 #[.val (.ref a), .val (.int mc), .unset] [(.ref a), (.int (16 : Int32))])) rfl rfl (hb hby d20_6)
  refine own_s st3 ?_
  show Go p.tables e below _ (T3.setTop (mkF m 9 #[.val (.ref a), .val (.int mc), .unset] [(.int (0 : Int32)), (.int (16 : Int32))]))
  refine own_s (fun t k => XS.ishr X3.here hx rfl (hb hby d20_9) rfl k) ?_
  show Go p.tables e below _ (T3.setTop (mkF m 10 #[.val (.ref a), .val (.int mc), .unset] [(.int (16 : Int32))]))
  refine own_s (fun t k => XS.istoreN X3.here hx rfl (hb hby d20_10) rfl (l' := #[.val (.ref a), .val (.int mc), .val (.int (16 : Int32))]) rfl k) ?_
  show Go p.tables e below _ (T3.setTop (mkF m 11 #[.val (.ref a), .val (.int mc), .val (.int (16 : Int32))] []))
  refine own_s (fun t k => XS.iloadN X3.here hx rfl (hb hby d20_11) rfl k) ?_
  show Go p.tables e below _ (T3.setTop (mkF m 12 #[.val (.ref a), .val (.int mc), .val (.int (16 : Int32))] [(.int mc)]))
  refine own_s (fun t k => XS.iloadN X3.here hx rfl (hb hby d20_12) rfl k) ?_
  show Go p.tables e below _ (T3.setTop (mkF m 13 #[.val (.ref a), .val (.int mc), .val (.int (16 : Int32))] [(.int (16 : Int32)), (.int mc)]))
  refine own_s (fun t k => XS.isub X3.here hx rfl (hb hby d20_13) rfl k) ?_
  show Go p.tables e below _ (T3.setTop (mkF m 14 #[.val (.ref a), .val (.int mc), .val (.int (16 : Int32))] [(.int (mc - (16 : Int32)))]))
  refine own_s (fun t k => XS.ifYes X3.here hx rfl (pc0 := 14) (pc' := 38) rfl (hb hby d20_14) rfl ((if0 _ _).trans (flt hcap).2.2.2) (by decide) (by decide) k) ?_
  show Go p.tables e below _ (T3.setTop (mkF m 38 #[.val (.ref a), .val (.int mc), .val (.int (16 : Int32))] []))
  obtain ⟨fs, hr, hrun, hended, hW, hsame⟩ := X3.leave (v := none) (fun h => by first | rfl | (rw [Bd.returns] at h; cases h))
  refine own_e hPP ?_ hrun hended ⟨_, _, rfl, ?_, ⟨_, rfl⟩, hW, hsame.mono (by decide) (by decide)⟩
  · exact X3.returnOut hx Bd.returns (hb hby d20_38) hr
  · show Q_rm20 Z bv kb vs a mc h0 n0 _ T3.heap _
    rw [e3]
    exact ⟨rfl, N0, rfl⟩
theorem d11_0 : decode jdk_68_method_68_code 0 = .ok (.getstatic 18, 3) := by decide +kernel
theorem d11_3 : decode jdk_68_method_68_code 3 = .ok (.ifCond .eq 14, 3) := by decide +kernel
theorem d11_6 : decode jdk_68_method_68_code 6 = .ok (.aload_n 0, 1) := by decide +kernel
theorem d11_7 : decode jdk_68_method_68_code 7 = .ok (.getfield 22, 3) := by decide +kernel
theorem d11_10 : decode jdk_68_method_68_code 10 = .ok (.ifCond .ne 7, 3) := by decide +kernel
theorem d11_13 : decode jdk_68_method_68_code 13 = .ok (.iconst 1, 1) := by decide +kernel
theorem d11_14 : decode jdk_68_method_68_code 14 = .ok (.goto 4, 3) := by decide +kernel
theorem d11_18 : decode jdk_68_method_68_code 18 = .ok (.ireturn, 1) := by decide +kernel
theorem ef_rm11 (m : MethodId) (a : Addr) : entryFrame m #[(.ref a)] 1 = mkF m 0 #[.val (.ref a)] [] := by first | (simp [entryFrame, mkF, argsToLocals, Value.category]; done) | rfl
def Q_rm11 (Z : State) (cz : Int32) (a : Addr) (h0 : Heap) (n0 : Nat) (v : Option Value) (h : Heap) (L : List Loc) : Prop := v = some (.int (1 : Int32)) ∧ Fr n0 L ∧ h = h0
set_option maxRecDepth 65536 in
set_option maxHeartbeats 40000000 in
theorem rm11 (l : Launch) (Z : State) (a0 : Array Value) (hw : ∀ d ∈ tables_1, d.before a0 Z = true) (ws : List Jvm.Cond) (cz : Int32) (a : Addr) (h0 : Heap) (n0 : Nat) (O0 : Old Z n0 h0) (S_C : Sta Z Z.heap "java/lang/String" "COMPACT_STRINGS" "Z" (.int cz)) (hcz : ¬ (cz = (0 : Int32))) (F_coder_a : Fld Z h0 a "java/lang/AbstractStringBuilder" "coder" "B" (.int (0 : Int32))) :
    MetFree l (⟨"java/lang/AbstractStringBuilder", "isLatin1", "()Z"⟩ : MethodName) (head1 (Jvm.Cond.code (⟨"java/lang/AbstractStringBuilder", "isLatin1", "()Z"⟩ : MethodName) jdk_68_method_68_code 1 (some .boolean) :: ws) ({ frames := 0, cells := 0, slots := 0, locals := 0 } : Room)) (fun aa_ U => aa_ = #[(.ref a)] ∧ Z.Warmed39 U.vm ∧ U.heap = h0) (fun _ _ _ _ _ => True) (fun _ U oo_ U' => ∃ vv_ LL_, oo_ = .returned vv_ ∧ Q_rm11 Z cz a h0 n0 vv_ U'.heap LL_ ∧ FrameEnd U oo_ U' LL_ ({ frames := 0, cells := 0, slots := 0, locals := 0 } : Room).cells ({ frames := 0, cells := 0, slots := 0, locals := 0 } : Room).slots) := by
  refine MetFree.of_bodySF (plainFor_of_name pn_java_lang_AbstractStringBuilder) hisR ?_
  intro p e s m args below meth c s₁ Bd hml0 hP hK
  obtain ⟨rfl, hZ, hh⟩ := hP
  have hx := Bd.exec
  have hby := Bd.bytes
  have hml : c.maxLocals = 1 := hml0
  have hown : s.vm.findClass "java/lang/AbstractStringBuilder" = some m.cls := findClass_of_methodNamed Bd.named
  have hnm := (name_of_methodNamed Bd.named Bd.method).1
  have X0 : Stand p l e ({ frames := 0, cells := 0, slots := 0, locals := 0 } : Room) s m #[(.ref a)] below meth c s₁ [] 0 0 := Stand.of_body Bd
  have e0 : s₁.heap = h0 := by rw [← hh, Bd.state]; rfl
  have N0 := Fr.nil n0
  have K0 : Keep h0 h0 [] := Keep.refl h0 _
  refine own_i fun PP hPP => own_s (fun t k => castTop (ef_rm11 m a) k) ?_
  show Go p.tables e below _ (s₁.setTop (mkF m 0 #[.val (.ref a)] []))
  obtain ⟨T1, X1, e1, st1⟩ := getS2 X0 hx hZ hown (host := "") (Or.inl (hw _ (List.mem_of_getElem? (i := 20) rfl))) Via.refl e0 (S_C.ext O0.2) (g := (mkF m 0 #[.val (.ref a)] [])) rfl (hb hby d11_0)
  refine own_s st1 ?_
  show Go p.tables e below _ (T1.setTop (mkF m 3 #[.val (.ref a)] [(.int cz)]))
  refine own_s (fun t k => XS.ifNo X1.here hx rfl (hb hby d11_3) rfl ((if0 _ _).trans (feq hcz).1) k) ?_
  show Go p.tables e below _ (T1.setTop (mkF m 6 #[.val (.ref a)] []))
  refine own_s (fun t k => XS.aloadN X1.here hx rfl (hb hby d11_6) rfl rfl k) ?_
  show Go p.tables e below _ (T1.setTop (mkF m 7 #[.val (.ref a)] [(.ref a)]))
  obtain ⟨T2, X2, e2, st2⟩ := getF X1 hx hZ hown (host := "") (Or.inl (hw _ (List.mem_of_getElem? (i := 24) rfl))) Via.refl e1 F_coder_a (g := (mkF m 7 #[.val (.ref a)] [(.ref a)])) rfl rfl (hb hby d11_7)
  refine own_s st2 ?_
  show Go p.tables e below _ (T2.setTop (mkF m 10 #[.val (.ref a)] [(.int (0 : Int32))]))
  refine own_s (fun t k => XS.ifNo X2.here hx rfl (hb hby d11_10) rfl ((if0 _ _).trans (teq (by decide : (0 : Int32) = (0 : Int32))).2) k) ?_
  show Go p.tables e below _ (T2.setTop (mkF m 13 #[.val (.ref a)] []))
  refine own_s (fun t k => XS.iconst X2.here hx rfl (hb hby d11_13) k) ?_
  show Go p.tables e below _ (T2.setTop (mkF m 14 #[.val (.ref a)] [(.int (1 : Int32))]))
  refine own_s (fun t k => XS.goto X2.here hx rfl (pc0 := 14) (pc' := 18) rfl (hb hby d11_14) (by decide) (by decide) k) ?_
  show Go p.tables e below _ (T2.setTop (mkF m 18 #[.val (.ref a)] [(.int (1 : Int32))]))
  obtain ⟨fs, hr, hrun, hended, hW, hsame⟩ := X2.leave (v := (some (.int (1 : Int32)))) (fun h => by first | rfl | (rw [Bd.returns] at h; cases h))
  refine own_e hPP ?_ hrun hended ⟨_, _, rfl, ?_, ⟨_, rfl⟩, hW, hsame.mono (by decide) (by decide)⟩
  · exact retN X2 hx (t := .boolean) Bd.returns (by simp) (hb hby d11_18) hr
  · show Q_rm11 Z cz a h0 n0 _ T2.heap _
    rw [e2]
    exact ⟨rfl, N0, rfl⟩
theorem d21_0 : decode jdk_43_method_3_code 0 = .ok (.iload_n 0, 1) := by decide +kernel
theorem d21_1 : decode jdk_43_method_3_code 1 = .ok (.sipush 255, 3) := by decide +kernel
theorem d21_4 : decode jdk_43_method_3_code 4 = .ok (.if_icmp .gt 7, 3) := by decide +kernel
theorem d21_7 : decode jdk_43_method_3_code 7 = .ok (.iconst 1, 1) := by decide +kernel
theorem d21_8 : decode jdk_43_method_3_code 8 = .ok (.goto 4, 3) := by decide +kernel
theorem d21_12 : decode jdk_43_method_3_code 12 = .ok (.ireturn, 1) := by decide +kernel
theorem pn_java_lang_StringLatin1 : plainName "java/lang/StringLatin1" = true := by first | (simp [plainName, overriddenIn]; done) | decide +kernel
theorem ef_rm21 (m : MethodId) (ch : Int32) : entryFrame m #[(.int ch)] 1 = mkF m 0 #[.val (.int ch)] [] := by first | (simp [entryFrame, mkF, argsToLocals, Value.category]; done) | rfl
def Q_rm21 (Z : State) (ch : Int32) (h0 : Heap) (n0 : Nat) (v : Option Value) (h : Heap) (L : List Loc) : Prop := v = some (.int (1 : Int32)) ∧ Fr n0 L ∧ h = h0
set_option maxRecDepth 65536 in
set_option maxHeartbeats 40000000 in
theorem rm21 (l : Launch) (Z : State) (a0 : Array Value) (hw : ∀ d ∈ tables_1, d.before a0 Z = true) (ws : List Jvm.Cond) (ch : Int32) (h0 : Heap) (n0 : Nat) (O0 : Old Z n0 h0) (hc4 : ¬ ((255 : Int32) < ch)) :
    MetFree l (⟨"java/lang/StringLatin1", "canEncode", "(C)Z"⟩ : MethodName) (head1 (Jvm.Cond.code (⟨"java/lang/StringLatin1", "canEncode", "(C)Z"⟩ : MethodName) jdk_43_method_3_code 1 (some .boolean) :: ws) ({ frames := 0, cells := 0, slots := 0, locals := 0 } : Room)) (fun aa_ U => aa_ = #[(.int ch)] ∧ Z.Warmed39 U.vm ∧ U.heap = h0) (fun _ _ _ _ _ => True) (fun _ U oo_ U' => ∃ vv_ LL_, oo_ = .returned vv_ ∧ Q_rm21 Z ch h0 n0 vv_ U'.heap LL_ ∧ FrameEnd U oo_ U' LL_ ({ frames := 0, cells := 0, slots := 0, locals := 0 } : Room).cells ({ frames := 0, cells := 0, slots := 0, locals := 0 } : Room).slots) := by
  refine MetFree.of_bodySF (plainFor_of_name pn_java_lang_StringLatin1) hisR ?_
  intro p e s m args below meth c s₁ Bd hml0 hP hK
  obtain ⟨rfl, hZ, hh⟩ := hP
  have hx := Bd.exec
  have hby := Bd.bytes
  have hml : c.maxLocals = 1 := hml0
  have hown : s.vm.findClass "java/lang/StringLatin1" = some m.cls := findClass_of_methodNamed Bd.named
  have hnm := (name_of_methodNamed Bd.named Bd.method).1
  have X0 : Stand p l e ({ frames := 0, cells := 0, slots := 0, locals := 0 } : Room) s m #[(.int ch)] below meth c s₁ [] 0 0 := Stand.of_body Bd
  have e0 : s₁.heap = h0 := by rw [← hh, Bd.state]; rfl
  have N0 := Fr.nil n0
  have K0 : Keep h0 h0 [] := Keep.refl h0 _
  refine own_i fun PP hPP => own_s (fun t k => castTop (ef_rm21 m ch) k) ?_
  show Go p.tables e below _ (s₁.setTop (mkF m 0 #[.val (.int ch)] []))
  refine own_s (fun t k => XS.iloadN X0.here hx rfl (hb hby d21_0) rfl k) ?_
  show Go p.tables e below _ (s₁.setTop (mkF m 1 #[.val (.int ch)] [(.int ch)]))
  refine own_s (fun t k => XS.sipush X0.here hx rfl (hb hby d21_1) k) ?_
  show Go p.tables e below _ (s₁.setTop (mkF m 4 #[.val (.int ch)] [(.int (255 : Int32)), (.int ch)]))
  refine own_s (fun t k => XS.icmpNo X0.here hx rfl (hb hby d21_4) rfl (flt hc4).2.2.1 k) ?_
  show Go p.tables e below _ (s₁.setTop (mkF m 7 #[.val (.int ch)] []))
  refine own_s (fun t k => XS.iconst X0.here hx rfl (hb hby d21_7) k) ?_
  show Go p.tables e below _ (s₁.setTop (mkF m 8 #[.val (.int ch)] [(.int (1 : Int32))]))
  refine own_s (fun t k => XS.goto X0.here hx rfl (pc0 := 8) (pc' := 12) rfl (hb hby d21_8) (by decide) (by decide) k) ?_
  show Go p.tables e below _ (s₁.setTop (mkF m 12 #[.val (.int ch)] [(.int (1 : Int32))]))
  obtain ⟨fs, hr, hrun, hended, hW, hsame⟩ := X0.leave (v := (some (.int (1 : Int32)))) (fun h => by first | rfl | (rw [Bd.returns] at h; cases h))
  refine own_e hPP ?_ hrun hended ⟨_, _, rfl, ?_, ⟨_, rfl⟩, hW, hsame.mono (by decide) (by decide)⟩
  · exact retN X0 hx (t := .boolean) Bd.returns (by simp) (hb hby d21_12) hr
  · show Q_rm21 Z ch h0 n0 _ s₁.heap _
    rw [e0]
    exact ⟨rfl, N0, rfl⟩
theorem d19_0 : decode jdk_68_method_31_code 0 = .ok (.aload_n 0, 1) := by decide +kernel
theorem d19_1 : decode jdk_68_method_31_code 1 = .ok (.aload_n 0, 1) := by decide +kernel
theorem d19_2 : decode jdk_68_method_31_code 2 = .ok (.getfield 79, 3) := by decide +kernel
theorem d19_5 : decode jdk_68_method_31_code 5 = .ok (.iconst 1, 1) := by decide +kernel
theorem d19_6 : decode jdk_68_method_31_code 6 = .ok (.iadd, 1) := by decide +kernel
theorem d19_7 : decode jdk_68_method_31_code 7 = .ok (.invokevirtual 100, 3) := by decide +kernel
theorem d19_10 : decode jdk_68_method_31_code 10 = .ok (.aload_n 0, 1) := by decide +kernel
theorem d19_11 : decode jdk_68_method_31_code 11 = .ok (.invokevirtual 83, 3) := by decide +kernel
theorem pd___Z : parseMethodDescriptor "()Z" = some ⟨[], some .boolean⟩ := by decide +kernel
theorem d19_14 : decode jdk_68_method_31_code 14 = .ok (.ifCond .eq 31, 3) := by decide +kernel
theorem d19_17 : decode jdk_68_method_31_code 17 = .ok (.iload_n 1, 1) := by decide +kernel
theorem d19_18 : decode jdk_68_method_31_code 18 = .ok (.invokestatic 191, 3) := by decide +kernel
theorem pd__C_Z : parseMethodDescriptor "(C)Z" = some ⟨[.char], some .boolean⟩ := by decide +kernel
theorem d19_21 : decode jdk_68_method_31_code 21 = .ok (.ifCond .eq 24, 3) := by decide +kernel
theorem d19_24 : decode jdk_68_method_31_code 24 = .ok (.aload_n 0, 1) := by decide +kernel
theorem d19_25 : decode jdk_68_method_31_code 25 = .ok (.getfield 15, 3) := by decide +kernel
theorem d19_28 : decode jdk_68_method_31_code 28 = .ok (.aload_n 0, 1) := by decide +kernel
theorem d19_29 : decode jdk_68_method_31_code 29 = .ok (.dup, 1) := by decide +kernel
theorem d19_30 : decode jdk_68_method_31_code 30 = .ok (.getfield 79, 3) := by decide +kernel
theorem d19_33 : decode jdk_68_method_31_code 33 = .ok (.dup_x1, 1) := by decide +kernel
theorem d19_34 : decode jdk_68_method_31_code 34 = .ok (.iconst 1, 1) := by decide +kernel
theorem d19_35 : decode jdk_68_method_31_code 35 = .ok (.iadd, 1) := by decide +kernel
theorem d19_36 : decode jdk_68_method_31_code 36 = .ok (.putfield 79, 3) := by decide +kernel
theorem d19_39 : decode jdk_68_method_31_code 39 = .ok (.iload_n 1, 1) := by decide +kernel
theorem d19_40 : decode jdk_68_method_31_code 40 = .ok (.i2b, 1) := by decide +kernel
theorem d19_41 : decode jdk_68_method_31_code 41 = .ok (.bastore, 1) := by decide +kernel
theorem d19_42 : decode jdk_68_method_31_code 42 = .ok (.goto 33, 3) := by decide +kernel
theorem d19_75 : decode jdk_68_method_31_code 75 = .ok (.aload_n 0, 1) := by decide +kernel
theorem d19_76 : decode jdk_68_method_31_code 76 = .ok (.areturn, 1) := by decide +kernel
theorem ef_rm19 (m : MethodId) (a : Addr) (ch : Int32) : entryFrame m #[(.ref a), (.int ch)] 2 = mkF m 0 #[.val (.ref a), .val (.int ch)] [] := by first | (simp [entryFrame, mkF, argsToLocals, Value.category]; done) | rfl
def Q_rm19 (Z : State) (bv : Addr) (kb : ClassId) (cs : List Int32) (cz : Int32) (a : Addr) (ch : Int32) (h0 : Heap) (n0 : Nat) (v : Option Value) (h : Heap) (L : List Loc) : Prop := v = some (.ref a) ∧ Fr n0 L ∧ Keep h0 h [a, bv] ∧ Fld Z h a "java/lang/AbstractStringBuilder" "value" "[B" (.ref bv) ∧ Fld Z h a "java/lang/AbstractStringBuilder" "coder" "B" (.int (0 : Int32)) ∧ Fld Z h a "java/lang/AbstractStringBuilder" "count" "I" (.int (Int32.ofNat (cs ++ [ch.toInt8.toInt32]).length)) ∧ Arv Z h bv kb .byte (16 : Int32) (own_pad (cs ++ [ch.toInt8.toInt32])) (.int (0 : Int32))
set_option maxRecDepth 65536 in
set_option maxHeartbeats 40000000 in
theorem rm19 (l : Launch) (Z : State) (a0 : Array Value) (hw : ∀ d ∈ tables_1, d.before a0 Z = true) (ws : List Jvm.Cond) (bv : Addr) (kb : ClassId) (cs : List Int32) (cz : Int32) (a : Addr) (ch : Int32) (h0 : Heap) (n0 : Nat) (O0 : Old Z n0 h0) (S_C : Sta Z Z.heap "java/lang/String" "COMPACT_STRINGS" "Z" (.int cz)) (hcz : ¬ (cz = (0 : Int32))) (E_a : Exa Z h0 a "java/lang/StringBuilder") (F_value_a : Fld Z h0 a "java/lang/AbstractStringBuilder" "value" "[B" (.ref bv)) (F_coder_a : Fld Z h0 a "java/lang/AbstractStringBuilder" "coder" "B" (.int (0 : Int32))) (F_count_a : Fld Z h0 a "java/lang/AbstractStringBuilder" "count" "I" (.int (Int32.ofNat cs.length))) (V_bv : Arv Z h0 bv kb .byte (16 : Int32) (own_pad cs) (.int (0 : Int32))) (hl : cs.length ≤ 14) (hch : ¬ ((255 : Int32) < ch)) (g_a : n0 ≤ a) (g_bv : n0 ≤ bv) (ne_ab : a ≠ bv) :
    MetFree l (⟨"java/lang/AbstractStringBuilder", "append", "(C)Ljava/lang/AbstractStringBuilder;"⟩ : MethodName) (head1 (Jvm.Cond.code (⟨"java/lang/AbstractStringBuilder", "append", "(C)Ljava/lang/AbstractStringBuilder;"⟩ : MethodName) jdk_68_method_31_code 2 (some (.object "java/lang/AbstractStringBuilder")) :: ws) ({ frames := 1, cells := 0, slots := 0, locals := 14 } : Room)) (fun aa_ U => aa_ = #[(.ref a), (.int ch)] ∧ Z.Warmed39 U.vm ∧ U.heap = h0) (fun _ _ _ _ _ => True) (fun _ U oo_ U' => ∃ vv_ LL_, oo_ = .returned vv_ ∧ Q_rm19 Z bv kb cs cz a ch h0 n0 vv_ U'.heap LL_ ∧ FrameEnd U oo_ U' LL_ ({ frames := 1, cells := 0, slots := 0, locals := 14 } : Room).cells ({ frames := 1, cells := 0, slots := 0, locals := 14 } : Room).slots) := by
  refine MetFree.of_bodySF (plainFor_of_name pn_java_lang_AbstractStringBuilder) hisR ?_
  intro p e s m args below meth c s₁ Bd hml0 hP hK
  obtain ⟨rfl, hZ, hh⟩ := hP
  have hx := Bd.exec
  have hby := Bd.bytes
  have hml : c.maxLocals = 2 := hml0
  have hown : s.vm.findClass "java/lang/AbstractStringBuilder" = some m.cls := findClass_of_methodNamed Bd.named
  have hnm := (name_of_methodNamed Bd.named Bd.method).1
  have X0 : Stand p l e ({ frames := 1, cells := 0, slots := 0, locals := 14 } : Room) s m #[(.ref a), (.int ch)] below meth c s₁ [] 0 0 := Stand.of_body Bd
  have e0 : s₁.heap = h0 := by rw [← hh, Bd.state]; rfl
  have N0 := Fr.nil n0
  have K0 : Keep h0 h0 [a, bv] := Keep.refl h0 _
  refine own_i fun PP hPP => own_s (fun t k => castTop (ef_rm19 m a ch) k) ?_
  show Go p.tables e below _ (s₁.setTop (mkF m 0 #[.val (.ref a), .val (.int ch)] []))
  refine own_s (fun t k => XS.aloadN X0.here hx rfl (hb hby d19_0) rfl rfl k) ?_
  show Go p.tables e below _ (s₁.setTop (mkF m 1 #[.val (.ref a), .val (.int ch)] [(.ref a)]))
  refine own_s (fun t k => XS.aloadN X0.here hx rfl (hb hby d19_1) rfl rfl k) ?_
  show Go p.tables e below _ (s₁.setTop (mkF m 2 #[.val (.ref a), .val (.int ch)] [(.ref a), (.ref a)]))
  obtain ⟨T1, X1, e1, st1⟩ := getF X0 hx hZ hown (host := "") (Or.inl (hw _ (List.mem_of_getElem? (i := 55) rfl))) Via.refl e0 F_count_a (g := (mkF m 2 #[.val (.ref a), .val (.int ch)] [(.ref a), (.ref a)])) rfl rfl (hb hby d19_2)
  refine own_s st1 ?_
  show Go p.tables e below _ (T1.setTop (mkF m 5 #[.val (.ref a), .val (.int ch)] [(.int (Int32.ofNat cs.length)), (.ref a)]))
  refine own_s (fun t k => XS.iconst X1.here hx rfl (hb hby d19_5) k) ?_
  show Go p.tables e below _ (T1.setTop (mkF m 6 #[.val (.ref a), .val (.int ch)] [(.int (1 : Int32)), (.int (Int32.ofNat cs.length)), (.ref a)]))
  refine own_s (fun t k => XS.iadd X1.here hx rfl (hb hby d19_6) rfl k) ?_
  show Go p.tables e below _ (T1.setTop (mkF m 7 #[.val (.ref a), .val (.int ch)] [(.int ((Int32.ofNat cs.length) + (1 : Int32))), (.ref a)]))
  obtain ⟨cq2, kq2, q2a, q2b, q2c⟩ := isOf hZ e1 E_a
  obtain ⟨_, _, ⟨T2, L2, k2, n2⟩, -, X2, ⟨Lc2, hQ2, l2, y2, z2⟩, st2⟩ := X1.virtualBack hx (y := (⟨"java/lang/AbstractStringBuilder", "ensureCapacityInternal", "(I)V"⟩ : MethodName)) (z := (⟨"java/lang/AbstractStringBuilder", "ensureCapacityInternal", "(I)V"⟩ : MethodName)) hown (mvT hZ (hw _ (List.mem_of_getElem? (i := 104) rfl))) (mvT hZ (own_decl (hw _ (List.mem_of_getElem? (i := 105) rfl)) (hw _ (List.mem_of_getElem? (i := 108) rfl)))) (notFace_of_selects (args := #[]) (mvT hZ (hw _ (List.mem_of_getElem? (i := 107) rfl)))) (mvT hZ (hw _ (List.mem_of_getElem? (i := 107) rfl))) (mvT hZ (hw _ (List.mem_of_getElem? (i := 105) rfl))) (by decide) (backOf (W := 0) (rm20 l Z a0 hw [] bv kb (own_pad cs) a ((Int32.ofNat cs.length) + (1 : Int32)) h0 n0 O0 F_value_a F_coder_a V_bv (own_cap hl)) hZ (hw _ (List.mem_of_getElem? (i := 108) rfl)) (hw _ (List.mem_of_getElem? (i := 15) rfl)) (by decide) (by decide)) q2a q2c (g := (mkF m 7 #[.val (.ref a), .val (.int ch)] [(.int ((Int32.ofNat cs.length) + (1 : Int32))), (.ref a)])) rfl (by rw [hml]; rfl) (Steps.refl _) (argsL := [(.int ((Int32.ofNat cs.length) + (1 : Int32)))]) (rest := []) (lenOf pd__I_V rfl) rfl (by show 2 * 0 + _ ≤ _; exact Nat.le_of_eq rfl) (hb hby d19_7) (fun _ _ => ⟨rfl, e1, (by decide : 0 + 0 ≤ _), (by decide : 0 + 0 ≤ _)⟩)
  dsimp only [Pt.U, Pt.locs, Pt.cells, Pt.slots] at X2 l2 y2 z2 st2 hQ2
  subst l2 y2 z2
  obtain ⟨rfl, N2q, eq2⟩ := hQ2
  have N2 := Fr.app N0 N2q
  refine own_t st2 ?_
  show Go p.tables e below _ (T2.setTop (mkF m 10 #[.val (.ref a), .val (.int ch)] []))
  refine own_s (fun t k => XS.aloadN X2.here hx rfl (hb hby d19_10) rfl rfl k) ?_
  show Go p.tables e below _ (T2.setTop (mkF m 11 #[.val (.ref a), .val (.int ch)] [(.ref a)]))
  obtain ⟨cq3, kq3, q3a, q3b, q3c⟩ := isOf hZ eq2 E_a
  obtain ⟨_, _, ⟨T3, L3, k3, n3⟩, -, X3, ⟨Lc3, hQ3, l3, y3, z3⟩, st3⟩ := X2.virtualBack hx (y := (⟨"java/lang/AbstractStringBuilder", "isLatin1", "()Z"⟩ : MethodName)) (z := (⟨"java/lang/AbstractStringBuilder", "isLatin1", "()Z"⟩ : MethodName)) hown (mvT hZ (hw _ (List.mem_of_getElem? (i := 109) rfl))) (mvT hZ (hw _ (List.mem_of_getElem? (i := 58) rfl))) (notFace_of_selects (args := #[]) (mvT hZ (hw _ (List.mem_of_getElem? (i := 60) rfl)))) (mvT hZ (hw _ (List.mem_of_getElem? (i := 60) rfl))) (mvT hZ (hw _ (List.mem_of_getElem? (i := 59) rfl))) (by decide) (backOf (W := 0) (rm11 l Z a0 hw [] cz a h0 n0 O0 S_C hcz F_coder_a) hZ (hw _ (List.mem_of_getElem? (i := 61) rfl)) (hw _ (List.mem_of_getElem? (i := 15) rfl)) (by decide) (by decide)) q3a q3c (g := (mkF m 11 #[.val (.ref a), .val (.int ch)] [(.ref a)])) rfl (by rw [hml]; rfl) (Steps.refl _) (argsL := []) (rest := []) (lenOf pd___Z rfl) rfl (by show 2 * 0 + _ ≤ _; exact Nat.le_of_eq rfl) (hb hby d19_11) (fun _ _ => ⟨rfl, eq2, (by decide : 0 + 0 ≤ _), (by decide : 0 + 0 ≤ _)⟩)
  dsimp only [Pt.U, Pt.locs, Pt.cells, Pt.slots] at X3 l3 y3 z3 st3 hQ3
  subst l3 y3 z3
  obtain ⟨rfl, N3q, eq3⟩ := hQ3
  have N3 := Fr.app N2 N3q
  refine own_t st3 ?_
  show Go p.tables e below _ (T3.setTop (mkF m 14 #[.val (.ref a), .val (.int ch)] [(.int (1 : Int32))]))
  refine own_s (fun t k => XS.ifNo X3.here hx rfl (hb hby d19_14) rfl ((if0 _ _).trans (feq (by decide : ¬ ((1 : Int32) = (0 : Int32)))).1) k) ?_
  show Go p.tables e below _ (T3.setTop (mkF m 17 #[.val (.ref a), .val (.int ch)] []))
  refine own_s (fun t k => XS.iloadN X3.here hx rfl (hb hby d19_17) rfl k) ?_
  show Go p.tables e below _ (T3.setTop (mkF m 18 #[.val (.ref a), .val (.int ch)] [(.int ch)]))
  obtain ⟨_, _, ⟨T4, L4, k4, n4⟩, -, X4, ⟨Lc4, hQ4, l4, y4, z4⟩, st4⟩ := Jvm.LawKit.callS X3 hx (y := (⟨"java/lang/StringLatin1", "canEncode", "(C)Z"⟩ : MethodName)) hown (mvT hZ (hw _ (List.mem_of_getElem? (i := 110) rfl))) (mvT hZ (hw _ (List.mem_of_getElem? (i := 111) rfl))) (mvT hZ (hw _ (List.mem_of_getElem? (i := 112) rfl))) (mvT hZ (hw _ (List.mem_of_getElem? (i := 113) rfl))) (by decide) (backOf (W := 0) (rm21 l Z a0 hw [] ch h0 n0 O0 hch) hZ (hw _ (List.mem_of_getElem? (i := 113) rfl)) (hw _ (List.mem_of_getElem? (i := 112) rfl)) (by decide) (by decide)) (g := (mkF m 18 #[.val (.ref a), .val (.int ch)] [(.int ch)])) rfl (by rw [hml]; rfl) (argsL := [(.int ch)]) (rest := []) (lenOf pd__C_Z rfl) rfl (by show 2 * 0 + _ ≤ _; exact Nat.le_of_eq rfl) (hb hby d19_18) (fun _ _ => ⟨rfl, eq3, (by decide : 0 + 0 ≤ _), (by decide : 0 + 0 ≤ _)⟩)
  dsimp only [Pt.U, Pt.locs, Pt.cells, Pt.slots] at X4 l4 y4 z4 st4 hQ4
  subst l4 y4 z4
  obtain ⟨rfl, N4q, eq4⟩ := hQ4
  have N4 := Fr.app N3 N4q
  refine own_s st4 ?_
  show Go p.tables e below _ (T4.setTop (mkF m 21 #[.val (.ref a), .val (.int ch)] [(.int (1 : Int32))]))
  refine own_s (fun t k => XS.ifNo X4.here hx rfl (hb hby d19_21) rfl ((if0 _ _).trans (feq (by decide : ¬ ((1 : Int32) = (0 : Int32)))).1) k) ?_
  show Go p.tables e below _ (T4.setTop (mkF m 24 #[.val (.ref a), .val (.int ch)] []))
  refine own_s (fun t k => XS.aloadN X4.here hx rfl (hb hby d19_24) rfl rfl k) ?_
  show Go p.tables e below _ (T4.setTop (mkF m 25 #[.val (.ref a), .val (.int ch)] [(.ref a)]))
  obtain ⟨T5, X5, e5, st5⟩ := getF X4 hx hZ hown (host := "") (Or.inl (hw _ (List.mem_of_getElem? (i := 22) rfl))) Via.refl eq4 F_value_a (g := (mkF m 25 #[.val (.ref a), .val (.int ch)] [(.ref a)])) rfl rfl (hb hby d19_25)
  refine own_s st5 ?_
  show Go p.tables e below _ (T5.setTop (mkF m 28 #[.val (.ref a), .val (.int ch)] [(.ref bv)]))
  refine own_s (fun t k => XS.aloadN X5.here hx rfl (hb hby d19_28) rfl rfl k) ?_
  show Go p.tables e below _ (T5.setTop (mkF m 29 #[.val (.ref a), .val (.int ch)] [(.ref a), (.ref bv)]))
  refine own_s (fun t k => XS.dup X5.here hx rfl (hb hby d19_29) rfl rfl k) ?_
  show Go p.tables e below _ (T5.setTop (mkF m 30 #[.val (.ref a), .val (.int ch)] [(.ref a), (.ref a), (.ref bv)]))
  obtain ⟨T6, X6, e6, st6⟩ := getF X5 hx hZ hown (host := "") (Or.inl (hw _ (List.mem_of_getElem? (i := 55) rfl))) Via.refl e5 F_count_a (g := (mkF m 30 #[.val (.ref a), .val (.int ch)] [(.ref a), (.ref a), (.ref bv)])) rfl rfl (hb hby d19_30)
  refine own_s st6 ?_
  show Go p.tables e below _ (T6.setTop (mkF m 33 #[.val (.ref a), .val (.int ch)] [(.int (Int32.ofNat cs.length)), (.ref a), (.ref bv)]))
  refine own_s (fun t k => XS.dupX1 X6.here hx rfl (hb hby d19_33) rfl rfl rfl k) ?_
  show Go p.tables e below _ (T6.setTop (mkF m 34 #[.val (.ref a), .val (.int ch)] [(.int (Int32.ofNat cs.length)), (.ref a), (.int (Int32.ofNat cs.length)), (.ref bv)]))
  refine own_s (fun t k => XS.iconst X6.here hx rfl (hb hby d19_34) k) ?_
  show Go p.tables e below _ (T6.setTop (mkF m 35 #[.val (.ref a), .val (.int ch)] [(.int (1 : Int32)), (.int (Int32.ofNat cs.length)), (.ref a), (.int (Int32.ofNat cs.length)), (.ref bv)]))
  refine own_s (fun t k => XS.iadd X6.here hx rfl (hb hby d19_35) rfl k) ?_
  show Go p.tables e below _ (T6.setTop (mkF m 36 #[.val (.ref a), .val (.int ch)] [(.int ((Int32.ofNat cs.length) + (1 : Int32))), (.ref a), (.int (Int32.ofNat cs.length)), (.ref bv)]))
  obtain ⟨T7, h7, X7, e7, W7, st7⟩ := putF X6 hx hZ hown (host := "") (Or.inl (hw _ (List.mem_of_getElem? (i := 55) rfl))) Via.refl e6 F_count_a E_a (Or.inl (hw _ (List.mem_of_getElem? (i := 56) rfl))) (hw _ (List.mem_of_getElem? (i := 6) rfl)) (ty := .int) (by decide) rfl rfl (g := (mkF m 36 #[.val (.ref a), .val (.int ch)] [(.int ((Int32.ofNat cs.length) + (1 : Int32))), (.ref a), (.int (Int32.ofNat cs.length)), (.ref bv)])) rfl rfl (hb hby d19_36)
  refine own_s st7 ?_
  have K7 : Keep h0 h7 [a, bv] := K0.wr W7 (Or.inl (List.mem_of_getElem? (i := 0) rfl))
  have N7 := Fr.snoc X7 N4 g_a
  have Fw7 := F_count_a.same W7
  show Go p.tables e below _ (T7.setTop (mkF m 39 #[.val (.ref a), .val (.int ch)] [(.int (Int32.ofNat cs.length)), (.ref bv)]))
  refine own_s (fun t k => XS.iloadN X7.here hx rfl (hb hby d19_39) rfl k) ?_
  show Go p.tables e below _ (T7.setTop (mkF m 40 #[.val (.ref a), .val (.int ch)] [(.int ch), (.int (Int32.ofNat cs.length)), (.ref bv)]))
  refine own_s (fun t k => XS.i2b X7.here hx rfl (hb hby d19_40) rfl k) ?_
  show Go p.tables e below _ (T7.setTop (mkF m 41 #[.val (.ref a), .val (.int ch)] [(.int (ch.toInt8.toInt32)), (.int (Int32.ofNat cs.length)), (.ref bv)]))
  have V8 : Arv Z h7 bv kb .byte (16 : Int32) (own_pad cs) (.int (0 : Int32)) := (V_bv.other W7 (Ne.symm ne_ab))
  obtain ⟨cl9, Ar9, qk9, Sz9, Nn9, Hs9, Gf9⟩ := id V8
  have hin9 : ¬ ((Int32.ofNat cs.length) < 0 ∨ cl9.slots.size ≤ ((Int32.ofNat cs.length)).toNatClampNeg) := inb_of Sz9 ⟨own_nn (by omega), own_ltn (n := 16) (by omega) (by decide)⟩
  obtain ⟨T10, h10, X10, e10, W10, st10⟩ := stB X7 hx hZ e7 Ar9 (j := (Int32.ofNat cs.length)) hin9 (g := (mkF m 41 #[.val (.ref a), .val (.int ch)] [(.int (ch.toInt8.toInt32)), (.int (Int32.ofNat cs.length)), (.ref bv)])) rfl rfl (hb hby d19_41)
  refine own_s st10 ?_
  have K10 : Keep h0 h10 [a, bv] := K7.wr W10 (Or.inl (List.mem_of_getElem? (i := 1) rfl))
  have N10 := Fr.snoc X10 N7 g_bv
  have V10 : Arv Z h10 bv kb .byte (16 : Int32) ((own_pad cs).set cs.length (.int (nar .byte (ch.toInt8.toInt32)))) (.int (0 : Int32)) := Arv.set Ar9 qk9 Sz9 Nn9 Hs9 Gf9 (fits_nar_byte _) W10 cs.length (own_tn (by omega)) (by rw [own_pad_len _ (by omega)]; omega)
  show Go p.tables e below _ (T10.setTop (mkF m 42 #[.val (.ref a), .val (.int ch)] []))
  refine own_s (fun t k => XS.goto X10.here hx rfl (pc0 := 42) (pc' := 75) rfl (hb hby d19_42) (by decide) (by decide) k) ?_
  have F11 : Fld Z h10 a "java/lang/AbstractStringBuilder" "count" "I" (.int ((Int32.ofNat cs.length) + (1 : Int32))) := (Fw7.other W10 (Or.inl ne_ab))
  have Fk : Fld Z h10 a "java/lang/AbstractStringBuilder" "count" "I" (.int (Int32.ofNat (cs ++ [ch.toInt8.toInt32]).length)) := by rw [List.length_append, List.length_singleton, ← own_succ (by omega)]; exact F11
  have Vk : Arv Z h10 bv kb .byte (16 : Int32) (own_pad (cs ++ [ch.toInt8.toInt32])) (.int (0 : Int32)) := by rw [← own_pad_set cs _ hl]; exact own_i8 ch ▸ V10
  show Go p.tables e below _ (T10.setTop (mkF m 75 #[.val (.ref a), .val (.int ch)] []))
  refine own_s (fun t k => XS.aloadN X10.here hx rfl (hb hby d19_75) rfl rfl k) ?_
  show Go p.tables e below _ (T10.setTop (mkF m 76 #[.val (.ref a), .val (.int ch)] [(.ref a)]))
  obtain ⟨fs, hr, hrun, hended, hW, hsame⟩ := X10.leave (v := (some (.ref a))) (fun h => by first | rfl | (rw [Bd.returns] at h; cases h))
  have F12 : Fld Z h10 a "java/lang/AbstractStringBuilder" "value" "[B" (.ref bv) := ((F_value_a.other W7 (Or.inr (slot_ne (Or.inl (hw _ (List.mem_of_getElem? (i := 23) rfl))) (Or.inl (hw _ (List.mem_of_getElem? (i := 56) rfl))) (by decide) (t := (.array .byte)) (t' := .int) (by decide) (by decide)))).other W10 (Or.inl ne_ab))
  have F13 : Fld Z h10 a "java/lang/AbstractStringBuilder" "coder" "B" (.int (0 : Int32)) := ((F_coder_a.other W7 (Or.inr (slot_ne (Or.inl (hw _ (List.mem_of_getElem? (i := 25) rfl))) (Or.inl (hw _ (List.mem_of_getElem? (i := 56) rfl))) (by decide) (t := .byte) (t' := .int) (by decide) (by decide)))).other W10 (Or.inl ne_ab))
  refine own_e hPP ?_ hrun hended ⟨_, _, rfl, ?_, ⟨_, rfl⟩, hW, hsame.mono (by decide) (by decide)⟩
  · exact retOut X10 hx Bd.returns rfl (Or.inr (Or.inr (Or.inr (Or.inr ⟨rfl, rfl, rfl⟩)))) (hb hby d19_76) hr
  · show Q_rm19 Z bv kb cs cz a ch h0 n0 _ T10.heap _
    rw [e10]
    exact ⟨rfl, N10, K10, F12, F13, Fk, Vk⟩
theorem d18_0 : decode jdk_67_method_14_code 0 = .ok (.aload_n 0, 1) := by decide +kernel
theorem d18_1 : decode jdk_67_method_14_code 1 = .ok (.iload_n 1, 1) := by decide +kernel
theorem d18_2 : decode jdk_67_method_14_code 2 = .ok (.invokespecial 50, 3) := by decide +kernel
theorem pd__C_Ljava_lang_AbstractStringBuilder_ : parseMethodDescriptor "(C)Ljava/lang/AbstractStringBuilder;" = some ⟨[.char], some (.object "java/lang/AbstractStringBuilder")⟩ := by decide +kernel
theorem d18_5 : decode jdk_67_method_14_code 5 = .ok (.pop, 1) := by decide +kernel
theorem d18_6 : decode jdk_67_method_14_code 6 = .ok (.aload_n 0, 1) := by decide +kernel
theorem d18_7 : decode jdk_67_method_14_code 7 = .ok (.areturn, 1) := by decide +kernel
theorem ef_rm18 (m : MethodId) (a : Addr) (ch : Int32) : entryFrame m #[(.ref a), (.int ch)] 2 = mkF m 0 #[.val (.ref a), .val (.int ch)] [] := by first | (simp [entryFrame, mkF, argsToLocals, Value.category]; done) | rfl
def Q_rm18 (Z : State) (bv : Addr) (kb : ClassId) (cs : List Int32) (cz : Int32) (a : Addr) (ch : Int32) (h0 : Heap) (n0 : Nat) (v : Option Value) (h : Heap) (L : List Loc) : Prop := v = some (.ref a) ∧ Fr n0 L ∧ Keep h0 h [a, bv] ∧ Fld Z h a "java/lang/AbstractStringBuilder" "value" "[B" (.ref bv) ∧ Fld Z h a "java/lang/AbstractStringBuilder" "coder" "B" (.int (0 : Int32)) ∧ Fld Z h a "java/lang/AbstractStringBuilder" "count" "I" (.int (Int32.ofNat (cs ++ [ch.toInt8.toInt32]).length)) ∧ Arv Z h bv kb .byte (16 : Int32) (own_pad (cs ++ [ch.toInt8.toInt32])) (.int (0 : Int32))
set_option maxRecDepth 65536 in
set_option maxHeartbeats 40000000 in
theorem rm18 (l : Launch) (Z : State) (a0 : Array Value) (hw : ∀ d ∈ tables_1, d.before a0 Z = true) (ws : List Jvm.Cond) (bv : Addr) (kb : ClassId) (cs : List Int32) (cz : Int32) (a : Addr) (ch : Int32) (h0 : Heap) (n0 : Nat) (O0 : Old Z n0 h0) (S_C : Sta Z Z.heap "java/lang/String" "COMPACT_STRINGS" "Z" (.int cz)) (hcz : ¬ (cz = (0 : Int32))) (E_a : Exa Z h0 a "java/lang/StringBuilder") (F_value_a : Fld Z h0 a "java/lang/AbstractStringBuilder" "value" "[B" (.ref bv)) (F_coder_a : Fld Z h0 a "java/lang/AbstractStringBuilder" "coder" "B" (.int (0 : Int32))) (F_count_a : Fld Z h0 a "java/lang/AbstractStringBuilder" "count" "I" (.int (Int32.ofNat cs.length))) (V_bv : Arv Z h0 bv kb .byte (16 : Int32) (own_pad cs) (.int (0 : Int32))) (hl : cs.length ≤ 14) (hch : ¬ ((255 : Int32) < ch)) (g_a : n0 ≤ a) (g_bv : n0 ≤ bv) (ne_ab : a ≠ bv) :
    MetFree l (⟨"java/lang/StringBuilder", "append", "(C)Ljava/lang/StringBuilder;"⟩ : MethodName) (head1 (Jvm.Cond.code (⟨"java/lang/StringBuilder", "append", "(C)Ljava/lang/StringBuilder;"⟩ : MethodName) jdk_67_method_14_code 2 (some (.object "java/lang/StringBuilder")) :: ws) ({ frames := 2, cells := 0, slots := 0, locals := 27 } : Room)) (fun aa_ U => aa_ = #[(.ref a), (.int ch)] ∧ Z.Warmed39 U.vm ∧ U.heap = h0) (fun _ _ _ _ _ => True) (fun _ U oo_ U' => ∃ vv_ LL_, oo_ = .returned vv_ ∧ Q_rm18 Z bv kb cs cz a ch h0 n0 vv_ U'.heap LL_ ∧ FrameEnd U oo_ U' LL_ ({ frames := 2, cells := 0, slots := 0, locals := 27 } : Room).cells ({ frames := 2, cells := 0, slots := 0, locals := 27 } : Room).slots) := by
  refine MetFree.of_bodySF (plainFor_of_name pn_java_lang_StringBuilder) hisR ?_
  intro p e s m args below meth c s₁ Bd hml0 hP hK
  obtain ⟨rfl, hZ, hh⟩ := hP
  have hx := Bd.exec
  have hby := Bd.bytes
  have hml : c.maxLocals = 2 := hml0
  have hown : s.vm.findClass "java/lang/StringBuilder" = some m.cls := findClass_of_methodNamed Bd.named
  have hnm := (name_of_methodNamed Bd.named Bd.method).1
  have X0 : Stand p l e ({ frames := 2, cells := 0, slots := 0, locals := 27 } : Room) s m #[(.ref a), (.int ch)] below meth c s₁ [] 0 0 := Stand.of_body Bd
  have e0 : s₁.heap = h0 := by rw [← hh, Bd.state]; rfl
  have N0 := Fr.nil n0
  have K0 : Keep h0 h0 [a, bv] := Keep.refl h0 _
  refine own_i fun PP hPP => own_s (fun t k => castTop (ef_rm18 m a ch) k) ?_
  show Go p.tables e below _ (s₁.setTop (mkF m 0 #[.val (.ref a), .val (.int ch)] []))
  refine own_s (fun t k => XS.aloadN X0.here hx rfl (hb hby d18_0) rfl rfl k) ?_
  show Go p.tables e below _ (s₁.setTop (mkF m 1 #[.val (.ref a), .val (.int ch)] [(.ref a)]))
  refine own_s (fun t k => XS.iloadN X0.here hx rfl (hb hby d18_1) rfl k) ?_
  show Go p.tables e below _ (s₁.setTop (mkF m 2 #[.val (.ref a), .val (.int ch)] [(.int ch), (.ref a)]))
  obtain ⟨_, _, ⟨T1, L1, k1, n1⟩, -, X1, ⟨Lc1, hQ1, l1, y1, z1⟩, st1⟩ := superBack X0 hx hZ (y := (⟨"java/lang/AbstractStringBuilder", "append", "(C)Ljava/lang/AbstractStringBuilder;"⟩ : MethodName)) hown (hw _ (List.mem_of_getElem? (i := 100) rfl)) (own_same (hw _ (List.mem_of_getElem? (i := 101) rfl)) (hw _ (List.mem_of_getElem? (i := 44) rfl)) rfl (by decide)) (hw _ (List.mem_of_getElem? (i := 101) rfl)) (hw _ (List.mem_of_getElem? (i := 53) rfl)) (by decide) (backOf (W := 0) (rm19 l Z a0 hw [] bv kb cs cz a ch h0 n0 O0 S_C hcz E_a F_value_a F_coder_a F_count_a V_bv hl hch g_a g_bv ne_ab) hZ (hw _ (List.mem_of_getElem? (i := 103) rfl)) (hw _ (List.mem_of_getElem? (i := 15) rfl)) (by decide) (by decide)) e0 (Ins.self E_a) (g := (mkF m 2 #[.val (.ref a), .val (.int ch)] [(.int ch), (.ref a)])) rfl (by rw [hml]; rfl) (hw _ (List.mem_of_getElem? (i := 103) rfl)) (argsL := [(.int ch)]) (rest := []) (lenOf pd__C_Ljava_lang_AbstractStringBuilder_ rfl) rfl (by show 2 * 0 + _ ≤ _; exact Nat.le_of_eq rfl) (hb hby d18_2) (fun _ _ => ⟨rfl, e0, (by decide : 0 + 0 ≤ _), (by decide : 0 + 0 ≤ _)⟩)
  dsimp only [Pt.U, Pt.locs, Pt.cells, Pt.slots] at X1 l1 y1 z1 st1 hQ1
  subst l1 y1 z1
  obtain ⟨rfl, N1q, Kc1, fc1_0, fc1_1, fc1_2, fc1_3⟩ := hQ1
  have K1 : Keep h0 T1.heap [a, bv] := K0.trans Kc1 (allS (Or.inl (List.mem_of_getElem? (i := 0) rfl)) (allS (Or.inl (List.mem_of_getElem? (i := 1) rfl)) all0))
  have N1 := Fr.app N0 N1q
  refine own_t st1 ?_
  show Go p.tables e below _ (T1.setTop (mkF m 5 #[.val (.ref a), .val (.int ch)] [(.ref a)]))
  refine own_s (fun t k => XS.pop X1.here hx rfl (hb hby d18_5) rfl rfl k) ?_
  show Go p.tables e below _ (T1.setTop (mkF m 6 #[.val (.ref a), .val (.int ch)] []))
  refine own_s (fun t k => XS.aloadN X1.here hx rfl (hb hby d18_6) rfl rfl k) ?_
  show Go p.tables e below _ (T1.setTop (mkF m 7 #[.val (.ref a), .val (.int ch)] [(.ref a)]))
  obtain ⟨fs, hr, hrun, hended, hW, hsame⟩ := X1.leave (v := (some (.ref a))) (fun h => by first | rfl | (rw [Bd.returns] at h; cases h))
  refine own_e hPP ?_ hrun hended ⟨_, _, rfl, ?_, ⟨_, rfl⟩, hW, hsame.mono (by decide) (by decide)⟩
  · exact retOut X1 hx Bd.returns rfl (Or.inr (Or.inr (Or.inr (Or.inr ⟨rfl, rfl, rfl⟩)))) (hb hby d18_7) hr
  · show Q_rm18 Z bv kb cs cz a ch h0 n0 _ T1.heap _
    exact ⟨rfl, N1, K1, fc1_0, fc1_1, fc1_2, fc1_3⟩
theorem d8_0 : decode jdk_68_method_64_code 0 = .ok (.aload_n 0, 1) := by decide +kernel
theorem d8_1 : decode jdk_68_method_64_code 1 = .ok (.getfield 15, 3) := by decide +kernel
theorem d8_4 : decode jdk_68_method_64_code 4 = .ok (.areturn, 1) := by decide +kernel
theorem ef_rm8 (m : MethodId) (a : Addr) : entryFrame m #[(.ref a)] 1 = mkF m 0 #[.val (.ref a)] [] := by first | (simp [entryFrame, mkF, argsToLocals, Value.category]; done) | rfl
def Q_rm8 (Z : State) (a : Addr) (w_value_a : Addr) (h0 : Heap) (n0 : Nat) (v : Option Value) (h : Heap) (L : List Loc) : Prop := v = some (.ref w_value_a) ∧ Fr n0 L ∧ h = h0
set_option maxRecDepth 65536 in
set_option maxHeartbeats 40000000 in
theorem rm8 (l : Launch) (Z : State) (a0 : Array Value) (hw : ∀ d ∈ tables_1, d.before a0 Z = true) (ws : List Jvm.Cond) (a : Addr) (w_value_a : Addr) (h0 : Heap) (n0 : Nat) (O0 : Old Z n0 h0) (F_value_a : Fld Z h0 a "java/lang/AbstractStringBuilder" "value" "[B" (.ref w_value_a)) :
    MetFree l (⟨"java/lang/AbstractStringBuilder", "getValue", "()[B"⟩ : MethodName) (head1 (Jvm.Cond.code (⟨"java/lang/AbstractStringBuilder", "getValue", "()[B"⟩ : MethodName) jdk_68_method_64_code 1 (some (.array .byte)) :: ws) ({ frames := 0, cells := 0, slots := 0, locals := 0 } : Room)) (fun aa_ U => aa_ = #[(.ref a)] ∧ Z.Warmed39 U.vm ∧ U.heap = h0) (fun _ _ _ _ _ => True) (fun _ U oo_ U' => ∃ vv_ LL_, oo_ = .returned vv_ ∧ Q_rm8 Z a w_value_a h0 n0 vv_ U'.heap LL_ ∧ FrameEnd U oo_ U' LL_ ({ frames := 0, cells := 0, slots := 0, locals := 0 } : Room).cells ({ frames := 0, cells := 0, slots := 0, locals := 0 } : Room).slots) := by
  refine MetFree.of_bodySF (plainFor_of_name pn_java_lang_AbstractStringBuilder) hisR ?_
  intro p e s m args below meth c s₁ Bd hml0 hP hK
  obtain ⟨rfl, hZ, hh⟩ := hP
  have hx := Bd.exec
  have hby := Bd.bytes
  have hml : c.maxLocals = 1 := hml0
  have hown : s.vm.findClass "java/lang/AbstractStringBuilder" = some m.cls := findClass_of_methodNamed Bd.named
  have hnm := (name_of_methodNamed Bd.named Bd.method).1
  have X0 : Stand p l e ({ frames := 0, cells := 0, slots := 0, locals := 0 } : Room) s m #[(.ref a)] below meth c s₁ [] 0 0 := Stand.of_body Bd
  have e0 : s₁.heap = h0 := by rw [← hh, Bd.state]; rfl
  have N0 := Fr.nil n0
  have K0 : Keep h0 h0 [] := Keep.refl h0 _
  refine own_i fun PP hPP => own_s (fun t k => castTop (ef_rm8 m a) k) ?_
  show Go p.tables e below _ (s₁.setTop (mkF m 0 #[.val (.ref a)] []))
  refine own_s (fun t k => XS.aloadN X0.here hx rfl (hb hby d8_0) rfl rfl k) ?_
  show Go p.tables e below _ (s₁.setTop (mkF m 1 #[.val (.ref a)] [(.ref a)]))
  obtain ⟨T1, X1, e1, st1⟩ := getF X0 hx hZ hown (host := "") (Or.inl (hw _ (List.mem_of_getElem? (i := 22) rfl))) Via.refl e0 F_value_a (g := (mkF m 1 #[.val (.ref a)] [(.ref a)])) rfl rfl (hb hby d8_1)
  refine own_s st1 ?_
  show Go p.tables e below _ (T1.setTop (mkF m 4 #[.val (.ref a)] [(.ref w_value_a)]))
  obtain ⟨fs, hr, hrun, hended, hW, hsame⟩ := X1.leave (v := (some (.ref w_value_a))) (fun h => by first | rfl | (rw [Bd.returns] at h; cases h))
  refine own_e hPP ?_ hrun hended ⟨_, _, rfl, ?_, ⟨_, rfl⟩, hW, hsame.mono (by decide) (by decide)⟩
  · exact retOut X1 hx Bd.returns rfl (Or.inr (Or.inr (Or.inr (Or.inr ⟨rfl, rfl, rfl⟩)))) (hb hby d8_4) hr
  · show Q_rm8 Z a w_value_a h0 n0 _ T1.heap _
    rw [e1]
    exact ⟨rfl, N0, rfl⟩
theorem d10_0 : decode jdk_68_method_6_code 0 = .ok (.aload_n 0, 1) := by decide +kernel
theorem d10_1 : decode jdk_68_method_6_code 1 = .ok (.getfield 79, 3) := by decide +kernel
theorem d10_4 : decode jdk_68_method_6_code 4 = .ok (.ireturn, 1) := by decide +kernel
theorem ef_rm10 (m : MethodId) (a : Addr) : entryFrame m #[(.ref a)] 1 = mkF m 0 #[.val (.ref a)] [] := by first | (simp [entryFrame, mkF, argsToLocals, Value.category]; done) | rfl
def Q_rm10 (Z : State) (a : Addr) (w_count_a : Int32) (h0 : Heap) (n0 : Nat) (v : Option Value) (h : Heap) (L : List Loc) : Prop := v = some (.int w_count_a) ∧ Fr n0 L ∧ h = h0
set_option maxRecDepth 65536 in
set_option maxHeartbeats 40000000 in
theorem rm10 (l : Launch) (Z : State) (a0 : Array Value) (hw : ∀ d ∈ tables_1, d.before a0 Z = true) (ws : List Jvm.Cond) (a : Addr) (w_count_a : Int32) (h0 : Heap) (n0 : Nat) (O0 : Old Z n0 h0) (F_count_a : Fld Z h0 a "java/lang/AbstractStringBuilder" "count" "I" (.int w_count_a)) :
    MetFree l (⟨"java/lang/AbstractStringBuilder", "length", "()I"⟩ : MethodName) (head1 (Jvm.Cond.code (⟨"java/lang/AbstractStringBuilder", "length", "()I"⟩ : MethodName) jdk_68_method_6_code 1 (some .int) :: ws) ({ frames := 0, cells := 0, slots := 0, locals := 0 } : Room)) (fun aa_ U => aa_ = #[(.ref a)] ∧ Z.Warmed39 U.vm ∧ U.heap = h0) (fun _ _ _ _ _ => True) (fun _ U oo_ U' => ∃ vv_ LL_, oo_ = .returned vv_ ∧ Q_rm10 Z a w_count_a h0 n0 vv_ U'.heap LL_ ∧ FrameEnd U oo_ U' LL_ ({ frames := 0, cells := 0, slots := 0, locals := 0 } : Room).cells ({ frames := 0, cells := 0, slots := 0, locals := 0 } : Room).slots) := by
  refine MetFree.of_bodySF (plainFor_of_name pn_java_lang_AbstractStringBuilder) hisR ?_
  intro p e s m args below meth c s₁ Bd hml0 hP hK
  obtain ⟨rfl, hZ, hh⟩ := hP
  have hx := Bd.exec
  have hby := Bd.bytes
  have hml : c.maxLocals = 1 := hml0
  have hown : s.vm.findClass "java/lang/AbstractStringBuilder" = some m.cls := findClass_of_methodNamed Bd.named
  have hnm := (name_of_methodNamed Bd.named Bd.method).1
  have X0 : Stand p l e ({ frames := 0, cells := 0, slots := 0, locals := 0 } : Room) s m #[(.ref a)] below meth c s₁ [] 0 0 := Stand.of_body Bd
  have e0 : s₁.heap = h0 := by rw [← hh, Bd.state]; rfl
  have N0 := Fr.nil n0
  have K0 : Keep h0 h0 [] := Keep.refl h0 _
  refine own_i fun PP hPP => own_s (fun t k => castTop (ef_rm10 m a) k) ?_
  show Go p.tables e below _ (s₁.setTop (mkF m 0 #[.val (.ref a)] []))
  refine own_s (fun t k => XS.aloadN X0.here hx rfl (hb hby d10_0) rfl rfl k) ?_
  show Go p.tables e below _ (s₁.setTop (mkF m 1 #[.val (.ref a)] [(.ref a)]))
  obtain ⟨T1, X1, e1, st1⟩ := getF X0 hx hZ hown (host := "") (Or.inl (hw _ (List.mem_of_getElem? (i := 55) rfl))) Via.refl e0 F_count_a (g := (mkF m 1 #[.val (.ref a)] [(.ref a)])) rfl rfl (hb hby d10_1)
  refine own_s st1 ?_
  show Go p.tables e below _ (T1.setTop (mkF m 4 #[.val (.ref a)] [(.int w_count_a)]))
  obtain ⟨fs, hr, hrun, hended, hW, hsame⟩ := X1.leave (v := (some (.int w_count_a))) (fun h => by first | rfl | (rw [Bd.returns] at h; cases h))
  refine own_e hPP ?_ hrun hended ⟨_, _, rfl, ?_, ⟨_, rfl⟩, hW, hsame.mono (by decide) (by decide)⟩
  · exact retI X1 hx Bd.returns (hb hby d10_4) hr
  · show Q_rm10 Z a w_count_a h0 n0 _ T1.heap _
    rw [e1]
    exact ⟨rfl, N0, rfl⟩
theorem d9_0 : decode jdk_67_method_93_code 0 = .ok (.aload_n 0, 1) := by decide +kernel
theorem d9_1 : decode jdk_67_method_93_code 1 = .ok (.invokespecial 343, 3) := by decide +kernel
theorem pd___I : parseMethodDescriptor "()I" = some ⟨[], some .int⟩ := by decide +kernel
theorem d9_4 : decode jdk_67_method_93_code 4 = .ok (.ireturn, 1) := by decide +kernel
theorem ef_rm9 (m : MethodId) (a : Addr) : entryFrame m #[(.ref a)] 1 = mkF m 0 #[.val (.ref a)] [] := by first | (simp [entryFrame, mkF, argsToLocals, Value.category]; done) | rfl
def Q_rm9 (Z : State) (a : Addr) (w_count_a : Int32) (h0 : Heap) (n0 : Nat) (v : Option Value) (h : Heap) (L : List Loc) : Prop := v = some (.int w_count_a) ∧ Fr n0 L ∧ h = h0
set_option maxRecDepth 65536 in
set_option maxHeartbeats 40000000 in
theorem rm9 (l : Launch) (Z : State) (a0 : Array Value) (hw : ∀ d ∈ tables_1, d.before a0 Z = true) (ws : List Jvm.Cond) (a : Addr) (w_count_a : Int32) (h0 : Heap) (n0 : Nat) (O0 : Old Z n0 h0) (E_a : Exa Z h0 a "java/lang/StringBuilder") (F_count_a : Fld Z h0 a "java/lang/AbstractStringBuilder" "count" "I" (.int w_count_a)) :
    MetFree l (⟨"java/lang/StringBuilder", "length", "()I"⟩ : MethodName) (head1 (Jvm.Cond.code (⟨"java/lang/StringBuilder", "length", "()I"⟩ : MethodName) jdk_67_method_93_code 1 (some .int) :: ws) ({ frames := 1, cells := 0, slots := 0, locals := 12 } : Room)) (fun aa_ U => aa_ = #[(.ref a)] ∧ Z.Warmed39 U.vm ∧ U.heap = h0) (fun _ _ _ _ _ => True) (fun _ U oo_ U' => ∃ vv_ LL_, oo_ = .returned vv_ ∧ Q_rm9 Z a w_count_a h0 n0 vv_ U'.heap LL_ ∧ FrameEnd U oo_ U' LL_ ({ frames := 1, cells := 0, slots := 0, locals := 12 } : Room).cells ({ frames := 1, cells := 0, slots := 0, locals := 12 } : Room).slots) := by
  refine MetFree.of_bodySF (plainFor_of_name pn_java_lang_StringBuilder) hisR ?_
  intro p e s m args below meth c s₁ Bd hml0 hP hK
  obtain ⟨rfl, hZ, hh⟩ := hP
  have hx := Bd.exec
  have hby := Bd.bytes
  have hml : c.maxLocals = 1 := hml0
  have hown : s.vm.findClass "java/lang/StringBuilder" = some m.cls := findClass_of_methodNamed Bd.named
  have hnm := (name_of_methodNamed Bd.named Bd.method).1
  have X0 : Stand p l e ({ frames := 1, cells := 0, slots := 0, locals := 12 } : Room) s m #[(.ref a)] below meth c s₁ [] 0 0 := Stand.of_body Bd
  have e0 : s₁.heap = h0 := by rw [← hh, Bd.state]; rfl
  have N0 := Fr.nil n0
  have K0 : Keep h0 h0 [] := Keep.refl h0 _
  refine own_i fun PP hPP => own_s (fun t k => castTop (ef_rm9 m a) k) ?_
  show Go p.tables e below _ (s₁.setTop (mkF m 0 #[.val (.ref a)] []))
  refine own_s (fun t k => XS.aloadN X0.here hx rfl (hb hby d9_0) rfl rfl k) ?_
  show Go p.tables e below _ (s₁.setTop (mkF m 1 #[.val (.ref a)] [(.ref a)]))
  obtain ⟨_, _, ⟨T1, L1, k1, n1⟩, -, X1, ⟨Lc1, hQ1, l1, y1, z1⟩, st1⟩ := superBack X0 hx hZ (y := (⟨"java/lang/AbstractStringBuilder", "length", "()I"⟩ : MethodName)) hown (hw _ (List.mem_of_getElem? (i := 52) rfl)) (own_same (hw _ (List.mem_of_getElem? (i := 48) rfl)) (hw _ (List.mem_of_getElem? (i := 44) rfl)) rfl (by decide)) (hw _ (List.mem_of_getElem? (i := 48) rfl)) (hw _ (List.mem_of_getElem? (i := 53) rfl)) (by decide) (backOf (W := 0) (rm10 l Z a0 hw [] a w_count_a h0 n0 O0 F_count_a) hZ (hw _ (List.mem_of_getElem? (i := 54) rfl)) (hw _ (List.mem_of_getElem? (i := 15) rfl)) (by decide) (by decide)) e0 (Ins.self E_a) (g := (mkF m 1 #[.val (.ref a)] [(.ref a)])) rfl (by rw [hml]; rfl) (hw _ (List.mem_of_getElem? (i := 54) rfl)) (argsL := []) (rest := []) (lenOf pd___I rfl) rfl (by show 2 * 0 + _ ≤ _; exact Nat.le_of_eq rfl) (hb hby d9_1) (fun _ _ => ⟨rfl, e0, (by decide : 0 + 0 ≤ _), (by decide : 0 + 0 ≤ _)⟩)
  dsimp only [Pt.U, Pt.locs, Pt.cells, Pt.slots] at X1 l1 y1 z1 st1 hQ1
  subst l1 y1 z1
  obtain ⟨rfl, N1q, eq1⟩ := hQ1
  have N1 := Fr.app N0 N1q
  refine own_t st1 ?_
  show Go p.tables e below _ (T1.setTop (mkF m 4 #[.val (.ref a)] [(.int w_count_a)]))
  obtain ⟨fs, hr, hrun, hended, hW, hsame⟩ := X1.leave (v := (some (.int w_count_a))) (fun h => by first | rfl | (rw [Bd.returns] at h; cases h))
  refine own_e hPP ?_ hrun hended ⟨_, _, rfl, ?_, ⟨_, rfl⟩, hW, hsame.mono (by decide) (by decide)⟩
  · exact retI X1 hx Bd.returns (hb hby d9_4) hr
  · show Q_rm9 Z a w_count_a h0 n0 _ T1.heap _
    rw [eq1]
    exact ⟨rfl, N1, rfl⟩
theorem own_min16 {n : Nat} (h : n ≤ 15) : own_min (16 : Int32) (Int32.ofNat n) = Int32.ofNat n := by
  unfold own_min; exact if_pos (show Int32.ofNat n < 16 from own_ltn (n := 16) (by omega) (by decide))
theorem own_min_self (x : Int32) : own_min x x = x := by unfold own_min; split <;> rfl
theorem d13_0 : decode jdk_65_method_133_code 0 = .ok (.iload_n 1, 1) := by decide +kernel
theorem d13_1 : decode jdk_65_method_133_code 1 = .ok (.iload_n 2, 1) := by decide +kernel
theorem d13_2 : decode jdk_65_method_133_code 2 = .ok (.invokestatic 343, 3) := by decide +kernel
theorem pd__II_V : parseMethodDescriptor "(II)V" = some ⟨[.int, .int], none⟩ := by decide +kernel
theorem d13_5 : decode jdk_65_method_133_code 5 = .ok (.iload_n 2, 1) := by decide +kernel
theorem d13_6 : decode jdk_65_method_133_code 6 = .ok (.iload_n 1, 1) := by decide +kernel
theorem d13_7 : decode jdk_65_method_133_code 7 = .ok (.isub, 1) := by decide +kernel
theorem d13_8 : decode jdk_65_method_133_code 8 = .ok (.istore_n 3, 1) := by decide +kernel
theorem d13_9 : decode jdk_65_method_133_code 9 = .ok (.iload_n 3, 1) := by decide +kernel
theorem d13_10 : decode jdk_65_method_133_code 10 = .ok (.newarray .byte, 2) := by decide +kernel
theorem d13_12 : decode jdk_65_method_133_code 12 = .ok (.astore 4, 2) := by decide +kernel
theorem d13_14 : decode jdk_65_method_133_code 14 = .ok (.aload_n 0, 1) := by decide +kernel
theorem d13_15 : decode jdk_65_method_133_code 15 = .ok (.iload_n 1, 1) := by decide +kernel
theorem d13_16 : decode jdk_65_method_133_code 16 = .ok (.aload 4, 2) := by decide +kernel
theorem d13_18 : decode jdk_65_method_133_code 18 = .ok (.iconst 0, 1) := by decide +kernel
theorem d13_19 : decode jdk_65_method_133_code 19 = .ok (.aload_n 0, 1) := by decide +kernel
theorem d13_20 : decode jdk_65_method_133_code 20 = .ok (.arraylength, 1) := by decide +kernel
theorem d13_21 : decode jdk_65_method_133_code 21 = .ok (.iload_n 1, 1) := by decide +kernel
theorem d13_22 : decode jdk_65_method_133_code 22 = .ok (.isub, 1) := by decide +kernel
theorem d13_23 : decode jdk_65_method_133_code 23 = .ok (.iload_n 3, 1) := by decide +kernel
theorem d13_24 : decode jdk_65_method_133_code 24 = .ok (.invokestatic 304, 3) := by decide +kernel
theorem pd__II_I : parseMethodDescriptor "(II)I" = some ⟨[.int, .int], some .int⟩ := by decide +kernel
theorem d13_27 : decode jdk_65_method_133_code 27 = .ok (.invokestatic 150, 3) := by decide +kernel
theorem d13_30 : decode jdk_65_method_133_code 30 = .ok (.aload 4, 2) := by decide +kernel
theorem d13_32 : decode jdk_65_method_133_code 32 = .ok (.areturn, 1) := by decide +kernel
theorem ef_rm13 (m : MethodId) (a : Addr) (cs : List Int32) : entryFrame m #[(.ref a), (.int (0 : Int32)), (.int (Int32.ofNat cs.length))] 5 = mkF m 0 #[.val (.ref a), .val (.int (0 : Int32)), .val (.int (Int32.ofNat cs.length)), .unset, .unset] [] := by first | (simp [entryFrame, mkF, argsToLocals, Value.category]; done) | rfl
def Q_rm13 (Z : State) (kb : ClassId) (cs : List Int32) (a : Addr) (h0 : Heap) (n0 : Nat) (v : Option Value) (h : Heap) (L : List Loc) : Prop := ∃ b2 : Addr, ∃ k2 : ClassId, v = some (.ref b2) ∧ Fr n0 L ∧ Keep h0 h [] ∧ h0.size ≤ b2 ∧ Arv Z h b2 k2 .byte (Int32.ofNat cs.length) (own_vs cs) (.int (0 : Int32))
set_option maxRecDepth 65536 in
set_option maxHeartbeats 40000000 in
theorem rm13 (l : Launch) (Z : State) (a0 : Array Value) (hw : ∀ d ∈ tables_1, d.before a0 Z = true) (ws : List Jvm.Cond) (kb : ClassId) (cs : List Int32) (a : Addr) (h0 : Heap) (n0 : Nat) (O0 : Old Z n0 h0) (V_a : Arv Z h0 a kb .byte (16 : Int32) (own_pad cs) (.int (0 : Int32))) (hl15 : cs.length ≤ 15) :
    MetFree l (⟨"java/util/Arrays", "copyOfRangeByte", "([BII)[B"⟩ : MethodName) (head1 (Jvm.Cond.code (⟨"java/util/Arrays", "copyOfRangeByte", "([BII)[B"⟩ : MethodName) jdk_65_method_133_code 5 (some (.array .byte)) :: ws) ({ frames := 1, cells := 1, slots := 16, locals := 40 } : Room)) (fun aa_ U => aa_ = #[(.ref a), (.int (0 : Int32)), (.int (Int32.ofNat cs.length))] ∧ Z.Warmed39 U.vm ∧ U.heap = h0) (fun _ _ _ _ _ => True) (fun _ U oo_ U' => ∃ vv_ LL_, oo_ = .returned vv_ ∧ Q_rm13 Z kb cs a h0 n0 vv_ U'.heap LL_ ∧ FrameEnd U oo_ U' LL_ ({ frames := 1, cells := 1, slots := 16, locals := 40 } : Room).cells ({ frames := 1, cells := 1, slots := 16, locals := 40 } : Room).slots) := by
  refine MetFree.of_bodySF (plainFor_of_name pn_java_util_Arrays) hisR ?_
  intro p e s m args below meth c s₁ Bd hml0 hP hK
  obtain ⟨rfl, hZ, hh⟩ := hP
  have hx := Bd.exec
  have hby := Bd.bytes
  have hml : c.maxLocals = 5 := hml0
  have hown : s.vm.findClass "java/util/Arrays" = some m.cls := findClass_of_methodNamed Bd.named
  have hnm := (name_of_methodNamed Bd.named Bd.method).1
  have X0 : Stand p l e ({ frames := 1, cells := 1, slots := 16, locals := 40 } : Room) s m #[(.ref a), (.int (0 : Int32)), (.int (Int32.ofNat cs.length))] below meth c s₁ [] 0 0 := Stand.of_body Bd
  have e0 : s₁.heap = h0 := by rw [← hh, Bd.state]; rfl
  have N0 := Fr.nil n0
  have K0 : Keep h0 h0 [] := Keep.refl h0 _
  refine own_i fun PP hPP => own_s (fun t k => castTop (ef_rm13 m a cs) k) ?_
  show Go p.tables e below _ (s₁.setTop (mkF m 0 #[.val (.ref a), .val (.int (0 : Int32)), .val (.int (Int32.ofNat cs.length)), .unset, .unset] []))
  refine own_s (fun t k => XS.iloadN X0.here hx rfl (hb hby d13_0) rfl k) ?_
  show Go p.tables e below _ (s₁.setTop (mkF m 1 #[.val (.ref a), .val (.int (0 : Int32)), .val (.int (Int32.ofNat cs.length)), .unset, .unset] [(.int (0 : Int32))]))
  refine own_s (fun t k => XS.iloadN X0.here hx rfl (hb hby d13_1) rfl k) ?_
  show Go p.tables e below _ (s₁.setTop (mkF m 2 #[.val (.ref a), .val (.int (0 : Int32)), .val (.int (Int32.ofNat cs.length)), .unset, .unset] [(.int (Int32.ofNat cs.length)), (.int (0 : Int32))]))
  obtain ⟨_, _, ⟨T1, L1, k1, n1⟩, -, X1, ⟨Lc1, hQ1, l1, y1, z1⟩, st1⟩ := Jvm.LawKit.callS X0 hx (y := (⟨"java/util/Arrays", "checkLength", "(II)V"⟩ : MethodName)) hown (mvT hZ (hw _ (List.mem_of_getElem? (i := 71) rfl))) (mvT hZ (hw _ (List.mem_of_getElem? (i := 72) rfl))) (mvT hZ (hw _ (List.mem_of_getElem? (i := 66) rfl))) (mvT hZ (hw _ (List.mem_of_getElem? (i := 73) rfl))) (by decide) (backOf (W := 0) (rm14 l Z a0 hw [] (0 : Int32) (Int32.ofNat cs.length) h0 n0 O0 (own_nn (by omega))) hZ (hw _ (List.mem_of_getElem? (i := 73) rfl)) (hw _ (List.mem_of_getElem? (i := 66) rfl)) (by decide) (by decide)) (g := (mkF m 2 #[.val (.ref a), .val (.int (0 : Int32)), .val (.int (Int32.ofNat cs.length)), .unset, .unset] [(.int (Int32.ofNat cs.length)), (.int (0 : Int32))])) rfl (by rw [hml]; rfl) (argsL := [(.int (0 : Int32)), (.int (Int32.ofNat cs.length))]) (rest := []) (lenOf pd__II_V rfl) rfl (by show 2 * 0 + _ ≤ _; exact Nat.le_of_eq rfl) (hb hby d13_2) (fun _ _ => ⟨rfl, e0, (by decide : 0 + 0 ≤ _), (by decide : 0 + 0 ≤ _)⟩)
  dsimp only [Pt.U, Pt.locs, Pt.cells, Pt.slots] at X1 l1 y1 z1 st1 hQ1
  subst l1 y1 z1
  obtain ⟨rfl, N1q, eq1⟩ := hQ1
  have N1 := Fr.app N0 N1q
  refine own_s st1 ?_
  show Go p.tables e below _ (T1.setTop (mkF m 5 #[.val (.ref a), .val (.int (0 : Int32)), .val (.int (Int32.ofNat cs.length)), .unset, .unset] []))
  refine own_s (fun t k => XS.iloadN X1.here hx rfl (hb hby d13_5) rfl k) ?_
  show Go p.tables e below _ (T1.setTop (mkF m 6 #[.val (.ref a), .val (.int (0 : Int32)), .val (.int (Int32.ofNat cs.length)), .unset, .unset] [(.int (Int32.ofNat cs.length))]))
  refine own_s (fun t k => XS.iloadN X1.here hx rfl (hb hby d13_6) rfl k) ?_
  show Go p.tables e below _ (T1.setTop (mkF m 7 #[.val (.ref a), .val (.int (0 : Int32)), .val (.int (Int32.ofNat cs.length)), .unset, .unset] [(.int (0 : Int32)), (.int (Int32.ofNat cs.length))]))
  refine own_s (fun t k => XS.isub X1.here hx rfl (hb hby d13_7) rfl k) ?_
  show Go p.tables e below _ (T1.setTop (mkF m 8 #[.val (.ref a), .val (.int (0 : Int32)), .val (.int (Int32.ofNat cs.length)), .unset, .unset] [(.int ((Int32.ofNat cs.length) - (0 : Int32)))]))
  refine own_s (fun t k => XS.istoreN X1.here hx rfl (hb hby d13_8) rfl (l' := #[.val (.ref a), .val (.int (0 : Int32)), .val (.int (Int32.ofNat cs.length)), .val (.int ((Int32.ofNat cs.length) - (0 : Int32))), .unset]) rfl k) ?_
  show Go p.tables e below _ (T1.setTop (mkF m 9 #[.val (.ref a), .val (.int (0 : Int32)), .val (.int (Int32.ofNat cs.length)), .val (.int ((Int32.ofNat cs.length) - (0 : Int32))), .unset] []))
  rw [own_sub0]
  show Go p.tables e below _ (T1.setTop (mkF m 9 #[.val (.ref a), .val (.int (0 : Int32)), .val (.int (Int32.ofNat cs.length)), .val (.int (Int32.ofNat cs.length)), .unset] []))
  refine own_s (fun t k => XS.iloadN X1.here hx rfl (hb hby d13_9) rfl k) ?_
  show Go p.tables e below _ (T1.setTop (mkF m 10 #[.val (.ref a), .val (.int (0 : Int32)), .val (.int (Int32.ofNat cs.length)), .val (.int (Int32.ofNat cs.length)), .unset] [(.int (Int32.ofNat cs.length))]))
  obtain ⟨T2, h2, k2, X2, e2, E2, A2, st2⟩ := newP X1 hx hZ (hw _ (List.mem_of_getElem? (i := 0) rfl)) eq1 (g := (mkF m 10 #[.val (.ref a), .val (.int (0 : Int32)), .val (.int (Int32.ofNat cs.length)), .val (.int (Int32.ofNat cs.length)), .unset] [(.int (Int32.ofNat cs.length))])) rfl (hb hby d13_10) rfl (own_nn (by omega)) (cap := 16) (by rw [own_tn (by omega)]; omega) (by decide) (by decide) (by decide)
  obtain ⟨b2, gg2⟩ : ∃ z, z = h0.size := ⟨_, rfl⟩
  rw [← gg2] at A2 st2
  have g_b2 : n0 ≤ b2 := Nat.le_trans (Nat.le_of_eq O0.1.symm) (Nat.le_trans O0.2.1 (Nat.le_of_eq gg2.symm))
  have sz_b2 : h0.size ≤ b2 := Nat.le_trans K0.1 (Nat.le_of_eq gg2.symm)
  have K2 : Keep h0 h2 [] := K0.ext E2
  have V2 : Arv Z h2 b2 k2 .byte (Int32.ofNat cs.length) (([] : List Value) ++ List.replicate cs.length (.int (0 : Int32))) (.int (0 : Int32)) := (Arv.new A2 (own_nn (by omega))).pad (pad_rep [] (.int (0 : Int32)) cs.length)
  refine own_s st2 ?_
  show Go p.tables e below _ (T2.setTop (mkF m 12 #[.val (.ref a), .val (.int (0 : Int32)), .val (.int (Int32.ofNat cs.length)), .val (.int (Int32.ofNat cs.length)), .unset] [(.ref b2)]))
  refine own_s (fun t k => XS.astore X2.here hx rfl (hb hby d13_12) rfl rfl (l' := #[.val (.ref a), .val (.int (0 : Int32)), .val (.int (Int32.ofNat cs.length)), .val (.int (Int32.ofNat cs.length)), .val (.ref b2)]) rfl k) ?_
  show Go p.tables e below _ (T2.setTop (mkF m 14 #[.val (.ref a), .val (.int (0 : Int32)), .val (.int (Int32.ofNat cs.length)), .val (.int (Int32.ofNat cs.length)), .val (.ref b2)] []))
  refine own_s (fun t k => XS.aloadN X2.here hx rfl (hb hby d13_14) rfl rfl k) ?_
  show Go p.tables e below _ (T2.setTop (mkF m 15 #[.val (.ref a), .val (.int (0 : Int32)), .val (.int (Int32.ofNat cs.length)), .val (.int (Int32.ofNat cs.length)), .val (.ref b2)] [(.ref a)]))
  refine own_s (fun t k => XS.iloadN X2.here hx rfl (hb hby d13_15) rfl k) ?_
  show Go p.tables e below _ (T2.setTop (mkF m 16 #[.val (.ref a), .val (.int (0 : Int32)), .val (.int (Int32.ofNat cs.length)), .val (.int (Int32.ofNat cs.length)), .val (.ref b2)] [(.int (0 : Int32)), (.ref a)]))
  refine own_s (fun t k => XS.aload X2.here hx rfl (hb hby d13_16) rfl rfl k) ?_
  show Go p.tables e below _ (T2.setTop (mkF m 18 #[.val (.ref a), .val (.int (0 : Int32)), .val (.int (Int32.ofNat cs.length)), .val (.int (Int32.ofNat cs.length)), .val (.ref b2)] [(.ref b2), (.int (0 : Int32)), (.ref a)]))
  refine own_s (fun t k => XS.iconst X2.here hx rfl (hb hby d13_18) k) ?_
  show Go p.tables e below _ (T2.setTop (mkF m 19 #[.val (.ref a), .val (.int (0 : Int32)), .val (.int (Int32.ofNat cs.length)), .val (.int (Int32.ofNat cs.length)), .val (.ref b2)] [(.int (0 : Int32)), (.ref b2), (.int (0 : Int32)), (.ref a)]))
  refine own_s (fun t k => XS.aloadN X2.here hx rfl (hb hby d13_19) rfl rfl k) ?_
  show Go p.tables e below _ (T2.setTop (mkF m 20 #[.val (.ref a), .val (.int (0 : Int32)), .val (.int (Int32.ofNat cs.length)), .val (.int (Int32.ofNat cs.length)), .val (.ref b2)] [(.ref a), (.int (0 : Int32)), (.ref b2), (.int (0 : Int32)), (.ref a)]))
  have V3 : Arv Z h2 a kb .byte (16 : Int32) (own_pad cs) (.int (0 : Int32)) := (V_a.ext E2)
  obtain ⟨cl4, Ar4, qk4, Sz4, Nn4, Hs4, Gf4⟩ := id V3
  refine own_s (X2.arraylength hx (by rw [e2]; exact Ar4.1) (State.isArrayOf_alike hZ.alike Ar4.2.1) (g := (mkF m 20 #[.val (.ref a), .val (.int (0 : Int32)), .val (.int (Int32.ofNat cs.length)), .val (.int (Int32.ofNat cs.length)), .val (.ref b2)] [(.ref a), (.int (0 : Int32)), (.ref b2), (.int (0 : Int32)), (.ref a)])) rfl rfl (hb hby d13_20)) ?_
  rw [len_of Sz4 Nn4]
  show Go p.tables e below _ (T2.setTop (mkF m 21 #[.val (.ref a), .val (.int (0 : Int32)), .val (.int (Int32.ofNat cs.length)), .val (.int (Int32.ofNat cs.length)), .val (.ref b2)] [(.int (16 : Int32)), (.int (0 : Int32)), (.ref b2), (.int (0 : Int32)), (.ref a)]))
  refine own_s (fun t k => XS.iloadN X2.here hx rfl (hb hby d13_21) rfl k) ?_
  show Go p.tables e below _ (T2.setTop (mkF m 22 #[.val (.ref a), .val (.int (0 : Int32)), .val (.int (Int32.ofNat cs.length)), .val (.int (Int32.ofNat cs.length)), .val (.ref b2)] [(.int (0 : Int32)), (.int (16 : Int32)), (.int (0 : Int32)), (.ref b2), (.int (0 : Int32)), (.ref a)]))
  refine own_s (fun t k => XS.isub X2.here hx rfl (hb hby d13_22) rfl k) ?_
  show Go p.tables e below _ (T2.setTop (mkF m 23 #[.val (.ref a), .val (.int (0 : Int32)), .val (.int (Int32.ofNat cs.length)), .val (.int (Int32.ofNat cs.length)), .val (.ref b2)] [(.int (16 : Int32)), (.int (0 : Int32)), (.ref b2), (.int (0 : Int32)), (.ref a)]))
  refine own_s (fun t k => XS.iloadN X2.here hx rfl (hb hby d13_23) rfl k) ?_
  show Go p.tables e below _ (T2.setTop (mkF m 24 #[.val (.ref a), .val (.int (0 : Int32)), .val (.int (Int32.ofNat cs.length)), .val (.int (Int32.ofNat cs.length)), .val (.ref b2)] [(.int (Int32.ofNat cs.length)), (.int (16 : Int32)), (.int (0 : Int32)), (.ref b2), (.int (0 : Int32)), (.ref a)]))
  have O6 : Old Z n0 h2 := (O0.ext E2)
  obtain ⟨_, _, ⟨T5, L5, k5, n5⟩, -, X5, ⟨Lc5, hQ5, l5, y5, z5⟩, st5⟩ := Jvm.LawKit.callS X2 hx (y := (⟨"java/lang/Math", "min", "(II)I"⟩ : MethodName)) hown (mvT hZ (hw _ (List.mem_of_getElem? (i := 74) rfl))) (mvT hZ (hw _ (List.mem_of_getElem? (i := 75) rfl))) (mvT hZ (hw _ (List.mem_of_getElem? (i := 76) rfl))) (mvT hZ (hw _ (List.mem_of_getElem? (i := 77) rfl))) (by decide) (backOf (W := 4) (rm15 l Z a0 hw [] (16 : Int32) (Int32.ofNat cs.length) h2 n0 O6 ) hZ (hw _ (List.mem_of_getElem? (i := 77) rfl)) (hw _ (List.mem_of_getElem? (i := 76) rfl)) (by decide) (by decide)) (g := (mkF m 24 #[.val (.ref a), .val (.int (0 : Int32)), .val (.int (Int32.ofNat cs.length)), .val (.int (Int32.ofNat cs.length)), .val (.ref b2)] [(.int (Int32.ofNat cs.length)), (.int (16 : Int32)), (.int (0 : Int32)), (.ref b2), (.int (0 : Int32)), (.ref a)])) rfl (by rw [hml]; rfl) (argsL := [(.int (16 : Int32)), (.int (Int32.ofNat cs.length))]) (rest := [(.int (0 : Int32)), (.ref b2), (.int (0 : Int32)), (.ref a)]) (lenOf pd__II_I rfl) rfl (by show 2 * 0 + _ ≤ _; exact Nat.le_of_eq rfl) (hb hby d13_24) (fun _ _ => ⟨rfl, e2, (by decide : 1 + 0 ≤ _), (by decide : 16 + 0 ≤ _)⟩)
  dsimp only [Pt.U, Pt.locs, Pt.cells, Pt.slots] at X5 l5 y5 z5 st5 hQ5
  subst l5 y5 z5
  obtain ⟨rfl, N5q, eq5⟩ := hQ5
  have N5 := Fr.app N1 N5q
  refine own_s st5 ?_
  show Go p.tables e below _ (T5.setTop (mkF m 27 #[.val (.ref a), .val (.int (0 : Int32)), .val (.int (Int32.ofNat cs.length)), .val (.int (Int32.ofNat cs.length)), .val (.ref b2)] [(.int (own_min (16 : Int32) (Int32.ofNat cs.length))), (.int (0 : Int32)), (.ref b2), (.int (0 : Int32)), (.ref a)]))
  rw [own_min16 hl15]
  show Go p.tables e below _ (T5.setTop (mkF m 27 #[.val (.ref a), .val (.int (0 : Int32)), .val (.int (Int32.ofNat cs.length)), .val (.int (Int32.ofNat cs.length)), .val (.ref b2)] [(.int (Int32.ofNat cs.length)), (.int (0 : Int32)), (.ref b2), (.int (0 : Int32)), (.ref a)]))
  obtain ⟨T7, h7, L7, X7, e7, N7, Kc7, Va7, st7⟩ := cpA X5 hx hZ hown (hw _ (List.mem_of_getElem? (i := 78) rfl)) (hw _ (List.mem_of_getElem? (i := 81) rfl)) (hw _ (List.mem_of_getElem? (i := 79) rfl)) (hw _ (List.mem_of_getElem? (i := 80) rfl)) eq5 V3 V2 (Or.inl ⟨rfl, rfl⟩) (by decide) (by decide) (own_nn (by omega)) (by rw [own_tn (by omega)]; show 0 + cs.length ≤ 16; omega) (by rw [own_tn (by omega)]; show 0 + cs.length ≤ cs.length; omega) rfl (by rw [own_tn (by omega)]; simp) N5 g_b2 (g := (mkF m 27 #[.val (.ref a), .val (.int (0 : Int32)), .val (.int (Int32.ofNat cs.length)), .val (.int (Int32.ofNat cs.length)), .val (.ref b2)] [(.int (Int32.ofNat cs.length)), (.int (0 : Int32)), (.ref b2), (.int (0 : Int32)), (.ref a)])) rfl (by rw [hml]; rfl) rfl (hb hby d13_27) (by decide) (W := 0) (by show 2 * 0 + _ ≤ _; exact Nat.le_of_eq rfl) (by decide)
  refine own_s st7 ?_
  have K7 : Keep h0 h7 [] := K2.trans Kc7 (allS (Or.inr sz_b2) all0)
  have V7 : Arv Z h7 b2 k2 .byte (Int32.ofNat cs.length) (own_vs cs) (.int (0 : Int32)) := own_copy cs hl15 ▸ Va7
  show Go p.tables e below _ (T7.setTop (mkF m 30 #[.val (.ref a), .val (.int (0 : Int32)), .val (.int (Int32.ofNat cs.length)), .val (.int (Int32.ofNat cs.length)), .val (.ref b2)] []))
  refine own_s (fun t k => XS.aload X7.here hx rfl (hb hby d13_30) rfl rfl k) ?_
  show Go p.tables e below _ (T7.setTop (mkF m 32 #[.val (.ref a), .val (.int (0 : Int32)), .val (.int (Int32.ofNat cs.length)), .val (.int (Int32.ofNat cs.length)), .val (.ref b2)] [(.ref b2)]))
  obtain ⟨fs, hr, hrun, hended, hW, hsame⟩ := X7.leave (v := (some (.ref b2))) (fun h => by first | rfl | (rw [Bd.returns] at h; cases h))
  refine own_e hPP ?_ hrun hended ⟨_, _, rfl, ?_, ⟨_, rfl⟩, hW, hsame.mono (by decide) (by decide)⟩
  · exact retOut X7 hx Bd.returns rfl (Or.inr (Or.inr (Or.inr (Or.inr ⟨rfl, rfl, rfl⟩)))) (hb hby d13_32) hr
  · show Q_rm13 Z kb cs a h0 n0 _ T7.heap _
    rw [e7]
    exact ⟨b2, k2, rfl, N7, K7, sz_b2, V7⟩
theorem own_ne16 {n : Nat} (h : n ≤ 15) : ¬ (Int32.ofNat n = (16 : Int32)) := fun q => by
  have := congrArg Int32.toInt q; rw [own_oi (by omega)] at this; have e : (16 : Int32).toInt = 16 := rfl; omega
theorem d12_0 : decode jdk_65_method_132_code 0 = .ok (.iload_n 1, 1) := by decide +kernel
theorem d12_1 : decode jdk_65_method_132_code 1 = .ok (.ifCond .ne 9, 3) := by decide +kernel
theorem d12_4 : decode jdk_65_method_132_code 4 = .ok (.iload_n 2, 1) := by decide +kernel
theorem d12_5 : decode jdk_65_method_132_code 5 = .ok (.aload_n 0, 1) := by decide +kernel
theorem d12_6 : decode jdk_65_method_132_code 6 = .ok (.arraylength, 1) := by decide +kernel
theorem d12_7 : decode jdk_65_method_132_code 7 = .ok (.if_icmp .eq 10, 3) := by decide +kernel
theorem d12_10 : decode jdk_65_method_132_code 10 = .ok (.aload_n 0, 1) := by decide +kernel
theorem d12_11 : decode jdk_65_method_132_code 11 = .ok (.iload_n 1, 1) := by decide +kernel
theorem d12_12 : decode jdk_65_method_132_code 12 = .ok (.iload_n 2, 1) := by decide +kernel
theorem d12_13 : decode jdk_65_method_132_code 13 = .ok (.invokestatic 339, 3) := by decide +kernel
theorem pd___BII__B : parseMethodDescriptor "([BII)[B" = some ⟨[(.array .byte), .int, .int], some (.array .byte)⟩ := by decide +kernel
theorem d12_16 : decode jdk_65_method_132_code 16 = .ok (.areturn, 1) := by decide +kernel
theorem ef_rm12 (m : MethodId) (a : Addr) (cs : List Int32) : entryFrame m #[(.ref a), (.int (0 : Int32)), (.int (Int32.ofNat cs.length))] 3 = mkF m 0 #[.val (.ref a), .val (.int (0 : Int32)), .val (.int (Int32.ofNat cs.length))] [] := by first | (simp [entryFrame, mkF, argsToLocals, Value.category]; done) | rfl
def Q_rm12 (Z : State) (kb : ClassId) (cs : List Int32) (a : Addr) (h0 : Heap) (n0 : Nat) (v : Option Value) (h : Heap) (L : List Loc) : Prop := ∃ b2_2 : Addr, ∃ k2_2 : ClassId, v = some (.ref b2_2) ∧ Fr n0 L ∧ Keep h0 h [] ∧ h0.size ≤ b2_2 ∧ Arv Z h b2_2 k2_2 .byte (Int32.ofNat cs.length) (own_vs cs) (.int (0 : Int32))
set_option maxRecDepth 65536 in
set_option maxHeartbeats 40000000 in
theorem rm12 (l : Launch) (Z : State) (a0 : Array Value) (hw : ∀ d ∈ tables_1, d.before a0 Z = true) (ws : List Jvm.Cond) (kb : ClassId) (cs : List Int32) (a : Addr) (h0 : Heap) (n0 : Nat) (O0 : Old Z n0 h0) (V_a : Arv Z h0 a kb .byte (16 : Int32) (own_pad cs) (.int (0 : Int32))) (hl15 : cs.length ≤ 15) :
    MetFree l (⟨"java/util/Arrays", "copyOfRange", "([BII)[B"⟩ : MethodName) (head1 (Jvm.Cond.code (⟨"java/util/Arrays", "copyOfRange", "([BII)[B"⟩ : MethodName) jdk_65_method_132_code 3 (some (.array .byte)) :: ws) ({ frames := 2, cells := 1, slots := 16, locals := 56 } : Room)) (fun aa_ U => aa_ = #[(.ref a), (.int (0 : Int32)), (.int (Int32.ofNat cs.length))] ∧ Z.Warmed39 U.vm ∧ U.heap = h0) (fun _ _ _ _ _ => True) (fun _ U oo_ U' => ∃ vv_ LL_, oo_ = .returned vv_ ∧ Q_rm12 Z kb cs a h0 n0 vv_ U'.heap LL_ ∧ FrameEnd U oo_ U' LL_ ({ frames := 2, cells := 1, slots := 16, locals := 56 } : Room).cells ({ frames := 2, cells := 1, slots := 16, locals := 56 } : Room).slots) := by
  refine MetFree.of_bodySF (plainFor_of_name pn_java_util_Arrays) hisR ?_
  intro p e s m args below meth c s₁ Bd hml0 hP hK
  obtain ⟨rfl, hZ, hh⟩ := hP
  have hx := Bd.exec
  have hby := Bd.bytes
  have hml : c.maxLocals = 3 := hml0
  have hown : s.vm.findClass "java/util/Arrays" = some m.cls := findClass_of_methodNamed Bd.named
  have hnm := (name_of_methodNamed Bd.named Bd.method).1
  have X0 : Stand p l e ({ frames := 2, cells := 1, slots := 16, locals := 56 } : Room) s m #[(.ref a), (.int (0 : Int32)), (.int (Int32.ofNat cs.length))] below meth c s₁ [] 0 0 := Stand.of_body Bd
  have e0 : s₁.heap = h0 := by rw [← hh, Bd.state]; rfl
  have N0 := Fr.nil n0
  have K0 : Keep h0 h0 [] := Keep.refl h0 _
  refine own_i fun PP hPP => own_s (fun t k => castTop (ef_rm12 m a cs) k) ?_
  show Go p.tables e below _ (s₁.setTop (mkF m 0 #[.val (.ref a), .val (.int (0 : Int32)), .val (.int (Int32.ofNat cs.length))] []))
  refine own_s (fun t k => XS.iloadN X0.here hx rfl (hb hby d12_0) rfl k) ?_
  show Go p.tables e below _ (s₁.setTop (mkF m 1 #[.val (.ref a), .val (.int (0 : Int32)), .val (.int (Int32.ofNat cs.length))] [(.int (0 : Int32))]))
  refine own_s (fun t k => XS.ifNo X0.here hx rfl (hb hby d12_1) rfl ((if0 _ _).trans (teq (by decide : (0 : Int32) = (0 : Int32))).2) k) ?_
  show Go p.tables e below _ (s₁.setTop (mkF m 4 #[.val (.ref a), .val (.int (0 : Int32)), .val (.int (Int32.ofNat cs.length))] []))
  refine own_s (fun t k => XS.iloadN X0.here hx rfl (hb hby d12_4) rfl k) ?_
  show Go p.tables e below _ (s₁.setTop (mkF m 5 #[.val (.ref a), .val (.int (0 : Int32)), .val (.int (Int32.ofNat cs.length))] [(.int (Int32.ofNat cs.length))]))
  refine own_s (fun t k => XS.aloadN X0.here hx rfl (hb hby d12_5) rfl rfl k) ?_
  show Go p.tables e below _ (s₁.setTop (mkF m 6 #[.val (.ref a), .val (.int (0 : Int32)), .val (.int (Int32.ofNat cs.length))] [(.ref a), (.int (Int32.ofNat cs.length))]))
  obtain ⟨cl1, Ar1, qk1, Sz1, Nn1, Hs1, Gf1⟩ := id V_a
  refine own_s (X0.arraylength hx (by rw [e0]; exact Ar1.1) (State.isArrayOf_alike hZ.alike Ar1.2.1) (g := (mkF m 6 #[.val (.ref a), .val (.int (0 : Int32)), .val (.int (Int32.ofNat cs.length))] [(.ref a), (.int (Int32.ofNat cs.length))])) rfl rfl (hb hby d12_6)) ?_
  rw [len_of Sz1 Nn1]
  show Go p.tables e below _ (s₁.setTop (mkF m 7 #[.val (.ref a), .val (.int (0 : Int32)), .val (.int (Int32.ofNat cs.length))] [(.int (16 : Int32)), (.int (Int32.ofNat cs.length))]))
  refine own_s (fun t k => XS.icmpNo X0.here hx rfl (hb hby d12_7) rfl (feq (own_ne16 hl15)).1 k) ?_
  show Go p.tables e below _ (s₁.setTop (mkF m 10 #[.val (.ref a), .val (.int (0 : Int32)), .val (.int (Int32.ofNat cs.length))] []))
  refine own_s (fun t k => XS.aloadN X0.here hx rfl (hb hby d12_10) rfl rfl k) ?_
  show Go p.tables e below _ (s₁.setTop (mkF m 11 #[.val (.ref a), .val (.int (0 : Int32)), .val (.int (Int32.ofNat cs.length))] [(.ref a)]))
  refine own_s (fun t k => XS.iloadN X0.here hx rfl (hb hby d12_11) rfl k) ?_
  show Go p.tables e below _ (s₁.setTop (mkF m 12 #[.val (.ref a), .val (.int (0 : Int32)), .val (.int (Int32.ofNat cs.length))] [(.int (0 : Int32)), (.ref a)]))
  refine own_s (fun t k => XS.iloadN X0.here hx rfl (hb hby d12_12) rfl k) ?_
  show Go p.tables e below _ (s₁.setTop (mkF m 13 #[.val (.ref a), .val (.int (0 : Int32)), .val (.int (Int32.ofNat cs.length))] [(.int (Int32.ofNat cs.length)), (.int (0 : Int32)), (.ref a)]))
  obtain ⟨_, _, ⟨T2, L2, k2, n2⟩, -, X2, ⟨Lc2, hQ2, l2, y2, z2⟩, st2⟩ := Jvm.LawKit.callS X0 hx (y := (⟨"java/util/Arrays", "copyOfRangeByte", "([BII)[B"⟩ : MethodName)) hown (mvT hZ (hw _ (List.mem_of_getElem? (i := 68) rfl))) (mvT hZ (hw _ (List.mem_of_getElem? (i := 69) rfl))) (mvT hZ (hw _ (List.mem_of_getElem? (i := 66) rfl))) (mvT hZ (hw _ (List.mem_of_getElem? (i := 70) rfl))) (by decide) (backOf (W := 0) (rm13 l Z a0 hw [] kb cs a h0 n0 O0 V_a hl15) hZ (hw _ (List.mem_of_getElem? (i := 70) rfl)) (hw _ (List.mem_of_getElem? (i := 66) rfl)) (by decide) (by decide)) (g := (mkF m 13 #[.val (.ref a), .val (.int (0 : Int32)), .val (.int (Int32.ofNat cs.length))] [(.int (Int32.ofNat cs.length)), (.int (0 : Int32)), (.ref a)])) rfl (by rw [hml]; rfl) (argsL := [(.ref a), (.int (0 : Int32)), (.int (Int32.ofNat cs.length))]) (rest := []) (lenOf pd___BII__B rfl) rfl (by show 2 * 0 + _ ≤ _; exact Nat.le_of_eq rfl) (hb hby d12_13) (fun _ _ => ⟨rfl, e0, (by decide : 0 + 1 ≤ _), (by decide : 0 + 16 ≤ _)⟩)
  dsimp only [Pt.U, Pt.locs, Pt.cells, Pt.slots] at X2 l2 y2 z2 st2 hQ2
  subst l2 y2 z2
  obtain ⟨b2_2, k2_2, rfl, N2q, Kc2, bz_b2_2, fc2_0⟩ := hQ2
  have g_b2_2 : n0 ≤ b2_2 := Nat.le_trans (Nat.le_of_eq O0.1.symm) (Nat.le_trans O0.2.1 bz_b2_2)
  have sz_b2_2 : h0.size ≤ b2_2 := Nat.le_trans K0.1 bz_b2_2
  have K2 : Keep h0 T2.heap [] := K0.trans Kc2 all0
  have N2 := Fr.app N0 N2q
  refine own_s st2 ?_
  show Go p.tables e below _ (T2.setTop (mkF m 16 #[.val (.ref a), .val (.int (0 : Int32)), .val (.int (Int32.ofNat cs.length))] [(.ref b2_2)]))
  obtain ⟨fs, hr, hrun, hended, hW, hsame⟩ := X2.leave (v := (some (.ref b2_2))) (fun h => by first | rfl | (rw [Bd.returns] at h; cases h))
  refine own_e hPP ?_ hrun hended ⟨_, _, rfl, ?_, ⟨_, rfl⟩, hW, hsame.mono (by decide) (by decide)⟩
  · exact retOut X2 hx Bd.returns rfl (Or.inr (Or.inr (Or.inr (Or.inr ⟨rfl, rfl, rfl⟩)))) (hb hby d12_16) hr
  · show Q_rm12 Z kb cs a h0 n0 _ T2.heap _
    exact ⟨b2_2, k2_2, rfl, N2, K2, sz_b2_2, fc2_0⟩
theorem d7_0 : decode jdk_42_method_150_code 0 = .ok (.aload_n 0, 1) := by decide +kernel
theorem d7_1 : decode jdk_42_method_150_code 1 = .ok (.invokespecial 1, 3) := by decide +kernel
theorem d7_4 : decode jdk_42_method_150_code 4 = .ok (.aload_n 1, 1) := by decide +kernel
theorem d7_5 : decode jdk_42_method_150_code 5 = .ok (.invokevirtual 552, 3) := by decide +kernel
theorem pd____B : parseMethodDescriptor "()[B" = some ⟨[], some (.array .byte)⟩ := by decide +kernel
theorem d7_8 : decode jdk_42_method_150_code 8 = .ok (.astore_n 3, 1) := by decide +kernel
theorem d7_9 : decode jdk_42_method_150_code 9 = .ok (.aload_n 1, 1) := by decide +kernel
theorem d7_10 : decode jdk_42_method_150_code 10 = .ok (.invokevirtual 549, 3) := by decide +kernel
theorem d7_13 : decode jdk_42_method_150_code 13 = .ok (.istore 4, 2) := by decide +kernel
theorem d7_15 : decode jdk_42_method_150_code 15 = .ok (.aload_n 1, 1) := by decide +kernel
theorem d7_16 : decode jdk_42_method_150_code 16 = .ok (.invokevirtual 1047, 3) := by decide +kernel
theorem d7_19 : decode jdk_42_method_150_code 19 = .ok (.ifCond .eq 22, 3) := by decide +kernel
theorem d7_22 : decode jdk_42_method_150_code 22 = .ok (.aload_n 0, 1) := by decide +kernel
theorem d7_23 : decode jdk_42_method_150_code 23 = .ok (.iconst 0, 1) := by decide +kernel
theorem d7_24 : decode jdk_42_method_150_code 24 = .ok (.putfield 15, 3) := by decide +kernel
theorem d7_27 : decode jdk_42_method_150_code 27 = .ok (.aload_n 0, 1) := by decide +kernel
theorem d7_28 : decode jdk_42_method_150_code 28 = .ok (.aload_n 3, 1) := by decide +kernel
theorem d7_29 : decode jdk_42_method_150_code 29 = .ok (.iconst 0, 1) := by decide +kernel
theorem d7_30 : decode jdk_42_method_150_code 30 = .ok (.iload 4, 2) := by decide +kernel
theorem d7_32 : decode jdk_42_method_150_code 32 = .ok (.invokestatic 54, 3) := by decide +kernel
theorem d7_35 : decode jdk_42_method_150_code 35 = .ok (.putfield 9, 3) := by decide +kernel
theorem d7_38 : decode jdk_42_method_150_code 38 = .ok (.goto 59, 3) := by decide +kernel
theorem d7_97 : decode jdk_42_method_150_code 97 = .ok (.return_, 1) := by decide +kernel
theorem pn_java_lang_String : plainName "java/lang/String" = true := by first | (simp [plainName, overriddenIn]; done) | decide +kernel
theorem ef_rm7 (m : MethodId) (a : Addr) (sb : Addr) : entryFrame m #[(.ref a), (.ref sb), .null] 5 = mkF m 0 #[.val (.ref a), .val (.ref sb), .val .null, .unset, .unset] [] := by first | (simp [entryFrame, mkF, argsToLocals, Value.category]; done) | rfl
def Q_rm7 (Z : State) (cz : Int32) (bv : Addr) (kb : ClassId) (cs : List Int32) (a : Addr) (sb : Addr) (u_coder_a : Value) (u_value_a : Value) (h0 : Heap) (n0 : Nat) (v : Option Value) (h : Heap) (L : List Loc) : Prop := ∃ b2_2_6 : Addr, ∃ k2_2_6 : ClassId, v = none ∧ Fr n0 L ∧ Keep h0 h [a] ∧ h0.size ≤ b2_2_6 ∧ Fld Z h a "java/lang/String" "coder" "B" (.int (0 : Int32)) ∧ Fld Z h a "java/lang/String" "value" "[B" (.ref b2_2_6) ∧ Arv Z h b2_2_6 k2_2_6 .byte (Int32.ofNat cs.length) (own_vs cs) (.int (0 : Int32))
set_option maxRecDepth 65536 in
set_option maxHeartbeats 40000000 in
theorem rm7 (l : Launch) (Z : State) (a0 : Array Value) (hw : ∀ d ∈ tables_1, d.before a0 Z = true) (ws : List Jvm.Cond) (cz : Int32) (bv : Addr) (kb : ClassId) (cs : List Int32) (a : Addr) (sb : Addr) (u_coder_a : Value) (u_value_a : Value) (h0 : Heap) (n0 : Nat) (O0 : Old Z n0 h0) (S_C : Sta Z Z.heap "java/lang/String" "COMPACT_STRINGS" "Z" (.int cz)) (hcz : ¬ (cz = (0 : Int32))) (hl15 : cs.length ≤ 15) (E_a : Exa Z h0 a "java/lang/String") (V_bv : Arv Z h0 bv kb .byte (16 : Int32) (own_pad cs) (.int (0 : Int32))) (F_v_sb : Fld Z h0 sb "java/lang/AbstractStringBuilder" "value" "[B" (.ref bv)) (F_c_sb : Fld Z h0 sb "java/lang/AbstractStringBuilder" "coder" "B" (.int (0 : Int32))) (F_n_sb : Fld Z h0 sb "java/lang/AbstractStringBuilder" "count" "I" (.int (Int32.ofNat cs.length))) (E_sb : Exa Z h0 sb "java/lang/StringBuilder") (F_coder_a : Fld Z h0 a "java/lang/String" "coder" "B" u_coder_a) (g_a : n0 ≤ a) (F_value_a : Fld Z h0 a "java/lang/String" "value" "[B" u_value_a) :
    MetFree l (⟨"java/lang/String", "<init>", "(Ljava/lang/AbstractStringBuilder;Ljava/lang/Void;)V"⟩ : MethodName) (head1 (Jvm.Cond.code (⟨"java/lang/String", "<init>", "(Ljava/lang/AbstractStringBuilder;Ljava/lang/Void;)V"⟩ : MethodName) jdk_42_method_150_code 5 none :: ws) ({ frames := 3, cells := 1, slots := 16, locals := 71 } : Room)) (fun aa_ U => aa_ = #[(.ref a), (.ref sb), .null] ∧ Z.Warmed39 U.vm ∧ U.heap = h0) (fun _ _ _ _ _ => True) (fun _ U oo_ U' => ∃ vv_ LL_, oo_ = .returned vv_ ∧ Q_rm7 Z cz bv kb cs a sb u_coder_a u_value_a h0 n0 vv_ U'.heap LL_ ∧ FrameEnd U oo_ U' LL_ ({ frames := 3, cells := 1, slots := 16, locals := 71 } : Room).cells ({ frames := 3, cells := 1, slots := 16, locals := 71 } : Room).slots) := by
  refine MetFree.of_bodySF (plainFor_of_name pn_java_lang_String) hisR ?_
  intro p e s m args below meth c s₁ Bd hml0 hP hK
  obtain ⟨rfl, hZ, hh⟩ := hP
  have hx := Bd.exec
  have hby := Bd.bytes
  have hml : c.maxLocals = 5 := hml0
  have hown : s.vm.findClass "java/lang/String" = some m.cls := findClass_of_methodNamed Bd.named
  have hnm := (name_of_methodNamed Bd.named Bd.method).1
  have X0 : Stand p l e ({ frames := 3, cells := 1, slots := 16, locals := 71 } : Room) s m #[(.ref a), (.ref sb), .null] below meth c s₁ [] 0 0 := Stand.of_body Bd
  have e0 : s₁.heap = h0 := by rw [← hh, Bd.state]; rfl
  have N0 := Fr.nil n0
  have K0 : Keep h0 h0 [a] := Keep.refl h0 _
  refine own_i fun PP hPP => own_s (fun t k => castTop (ef_rm7 m a sb) k) ?_
  show Go p.tables e below _ (s₁.setTop (mkF m 0 #[.val (.ref a), .val (.ref sb), .val .null, .unset, .unset] []))
  refine own_s (fun t k => XS.aloadN X0.here hx rfl (hb hby d7_0) rfl rfl k) ?_
  show Go p.tables e below _ (s₁.setTop (mkF m 1 #[.val (.ref a), .val (.ref sb), .val .null, .unset, .unset] [(.ref a)]))
  obtain ⟨T1, X1, e1, st1⟩ := initO X0 hx hZ hown (hw _ (List.mem_of_getElem? (i := 40) rfl)) (hw _ (List.mem_of_getElem? (i := 18) rfl)) (hw _ (List.mem_of_getElem? (i := 19) rfl)) e0 (g := (mkF m 1 #[.val (.ref a), .val (.ref sb), .val .null, .unset, .unset] [(.ref a)])) rfl (by rw [hml]; rfl) rfl (hb hby d7_1) (by decide) (W := 0) (by show 2 * 0 + _ ≤ _; exact Nat.le_of_eq rfl) (by decide)
  refine own_s st1 ?_
  show Go p.tables e below _ (T1.setTop (mkF m 4 #[.val (.ref a), .val (.ref sb), .val .null, .unset, .unset] []))
  refine own_s (fun t k => XS.aloadN X1.here hx rfl (hb hby d7_4) rfl rfl k) ?_
  show Go p.tables e below _ (T1.setTop (mkF m 5 #[.val (.ref a), .val (.ref sb), .val .null, .unset, .unset] [(.ref sb)]))
  obtain ⟨cq2, kq2, q2a, q2b, q2c⟩ := isOf hZ e1 E_sb
  obtain ⟨_, _, ⟨T2, L2, k2, n2⟩, -, X2, ⟨Lc2, hQ2, l2, y2, z2⟩, st2⟩ := X1.virtualBack hx (y := (⟨"java/lang/AbstractStringBuilder", "getValue", "()[B"⟩ : MethodName)) (z := (⟨"java/lang/AbstractStringBuilder", "getValue", "()[B"⟩ : MethodName)) hown (mvT hZ (hw _ (List.mem_of_getElem? (i := 41) rfl))) (mvT hZ (hw _ (List.mem_of_getElem? (i := 42) rfl))) (notFace_of_selects (args := #[]) (mvT hZ (hw _ (List.mem_of_getElem? (i := 44) rfl)))) (mvT hZ (hw _ (List.mem_of_getElem? (i := 44) rfl))) (mvT hZ (hw _ (List.mem_of_getElem? (i := 43) rfl))) (by decide) (backOf (W := 0) (rm8 l Z a0 hw [] sb bv h0 n0 O0 F_v_sb) hZ (hw _ (List.mem_of_getElem? (i := 45) rfl)) (hw _ (List.mem_of_getElem? (i := 15) rfl)) (by decide) (by decide)) q2a q2c (g := (mkF m 5 #[.val (.ref a), .val (.ref sb), .val .null, .unset, .unset] [(.ref sb)])) rfl (by rw [hml]; rfl) (Steps.refl _) (argsL := []) (rest := []) (lenOf pd____B rfl) rfl (by show 2 * 0 + _ ≤ _; exact Nat.le_of_eq rfl) (hb hby d7_5) (fun _ _ => ⟨rfl, e1, (by decide : 0 + 0 ≤ _), (by decide : 0 + 0 ≤ _)⟩)
  dsimp only [Pt.U, Pt.locs, Pt.cells, Pt.slots] at X2 l2 y2 z2 st2 hQ2
  subst l2 y2 z2
  obtain ⟨rfl, N2q, eq2⟩ := hQ2
  have N2 := Fr.app N0 N2q
  refine own_t st2 ?_
  show Go p.tables e below _ (T2.setTop (mkF m 8 #[.val (.ref a), .val (.ref sb), .val .null, .unset, .unset] [(.ref bv)]))
  refine own_s (fun t k => XS.astoreN X2.here hx rfl (hb hby d7_8) rfl rfl (l' := #[.val (.ref a), .val (.ref sb), .val .null, .val (.ref bv), .unset]) rfl k) ?_
  show Go p.tables e below _ (T2.setTop (mkF m 9 #[.val (.ref a), .val (.ref sb), .val .null, .val (.ref bv), .unset] []))
  refine own_s (fun t k => XS.aloadN X2.here hx rfl (hb hby d7_9) rfl rfl k) ?_
  show Go p.tables e below _ (T2.setTop (mkF m 10 #[.val (.ref a), .val (.ref sb), .val .null, .val (.ref bv), .unset] [(.ref sb)]))
  obtain ⟨cq3, kq3, q3a, q3b, q3c⟩ := isOf hZ eq2 E_sb
  obtain ⟨_, _, ⟨T3, L3, k3, n3⟩, -, X3, ⟨Lc3, hQ3, l3, y3, z3⟩, st3⟩ := X2.virtualBack hx (y := (⟨"java/lang/AbstractStringBuilder", "length", "()I"⟩ : MethodName)) (z := (⟨"java/lang/StringBuilder", "length", "()I"⟩ : MethodName)) hown (mvT hZ (hw _ (List.mem_of_getElem? (i := 46) rfl))) (mvT hZ (hw _ (List.mem_of_getElem? (i := 47) rfl))) (own_nf (args := #[]) (mvT hZ (hw _ (List.mem_of_getElem? (i := 44) rfl))) rfl) (mvT hZ (hw _ (List.mem_of_getElem? (i := 49) rfl))) (mvT hZ (hw _ (List.mem_of_getElem? (i := 50) rfl))) (by decide) (backOf (W := 0) (rm9 l Z a0 hw [] sb (Int32.ofNat cs.length) h0 n0 O0 E_sb F_n_sb) hZ (hw _ (List.mem_of_getElem? (i := 51) rfl)) (hw _ (List.mem_of_getElem? (i := 7) rfl)) (by decide) (by decide)) q3a q3c (g := (mkF m 10 #[.val (.ref a), .val (.ref sb), .val .null, .val (.ref bv), .unset] [(.ref sb)])) rfl (by rw [hml]; rfl) (Steps.refl _) (argsL := []) (rest := []) (lenOf pd___I rfl) rfl (by show 2 * 0 + _ ≤ _; exact Nat.le_of_eq rfl) (hb hby d7_10) (fun _ _ => ⟨rfl, eq2, (by decide : 0 + 0 ≤ _), (by decide : 0 + 0 ≤ _)⟩)
  dsimp only [Pt.U, Pt.locs, Pt.cells, Pt.slots] at X3 l3 y3 z3 st3 hQ3
  subst l3 y3 z3
  obtain ⟨rfl, N3q, eq3⟩ := hQ3
  have N3 := Fr.app N2 N3q
  refine own_t st3 ?_
  show Go p.tables e below _ (T3.setTop (mkF m 13 #[.val (.ref a), .val (.ref sb), .val .null, .val (.ref bv), .unset] [(.int (Int32.ofNat cs.length))]))
  refine own_s (fun t k => XS.istore X3.here hx rfl (hb hby d7_13) rfl (l' := #[.val (.ref a), .val (.ref sb), .val .null, .val (.ref bv), .val (.int (Int32.ofNat cs.length))]) rfl k) ?_
  show Go p.tables e below _ (T3.setTop (mkF m 15 #[.val (.ref a), .val (.ref sb), .val .null, .val (.ref bv), .val (.int (Int32.ofNat cs.length))] []))
  refine own_s (fun t k => XS.aloadN X3.here hx rfl (hb hby d7_15) rfl rfl k) ?_
  show Go p.tables e below _ (T3.setTop (mkF m 16 #[.val (.ref a), .val (.ref sb), .val .null, .val (.ref bv), .val (.int (Int32.ofNat cs.length))] [(.ref sb)]))
  obtain ⟨cq4, kq4, q4a, q4b, q4c⟩ := isOf hZ eq3 E_sb
  obtain ⟨_, _, ⟨T4, L4, k4, n4⟩, -, X4, ⟨Lc4, hQ4, l4, y4, z4⟩, st4⟩ := X3.virtualBack hx (y := (⟨"java/lang/AbstractStringBuilder", "isLatin1", "()Z"⟩ : MethodName)) (z := (⟨"java/lang/AbstractStringBuilder", "isLatin1", "()Z"⟩ : MethodName)) hown (mvT hZ (hw _ (List.mem_of_getElem? (i := 57) rfl))) (mvT hZ (hw _ (List.mem_of_getElem? (i := 58) rfl))) (notFace_of_selects (args := #[]) (mvT hZ (hw _ (List.mem_of_getElem? (i := 60) rfl)))) (mvT hZ (hw _ (List.mem_of_getElem? (i := 60) rfl))) (mvT hZ (hw _ (List.mem_of_getElem? (i := 59) rfl))) (by decide) (backOf (W := 0) (rm11 l Z a0 hw [] cz sb h0 n0 O0 S_C hcz F_c_sb) hZ (hw _ (List.mem_of_getElem? (i := 61) rfl)) (hw _ (List.mem_of_getElem? (i := 15) rfl)) (by decide) (by decide)) q4a q4c (g := (mkF m 16 #[.val (.ref a), .val (.ref sb), .val .null, .val (.ref bv), .val (.int (Int32.ofNat cs.length))] [(.ref sb)])) rfl (by rw [hml]; rfl) (Steps.refl _) (argsL := []) (rest := []) (lenOf pd___Z rfl) rfl (by show 2 * 0 + _ ≤ _; exact Nat.le_of_eq rfl) (hb hby d7_16) (fun _ _ => ⟨rfl, eq3, (by decide : 0 + 0 ≤ _), (by decide : 0 + 0 ≤ _)⟩)
  dsimp only [Pt.U, Pt.locs, Pt.cells, Pt.slots] at X4 l4 y4 z4 st4 hQ4
  subst l4 y4 z4
  obtain ⟨rfl, N4q, eq4⟩ := hQ4
  have N4 := Fr.app N3 N4q
  refine own_t st4 ?_
  show Go p.tables e below _ (T4.setTop (mkF m 19 #[.val (.ref a), .val (.ref sb), .val .null, .val (.ref bv), .val (.int (Int32.ofNat cs.length))] [(.int (1 : Int32))]))
  refine own_s (fun t k => XS.ifNo X4.here hx rfl (hb hby d7_19) rfl ((if0 _ _).trans (feq (by decide : ¬ ((1 : Int32) = (0 : Int32)))).1) k) ?_
  show Go p.tables e below _ (T4.setTop (mkF m 22 #[.val (.ref a), .val (.ref sb), .val .null, .val (.ref bv), .val (.int (Int32.ofNat cs.length))] []))
  refine own_s (fun t k => XS.aloadN X4.here hx rfl (hb hby d7_22) rfl rfl k) ?_
  show Go p.tables e below _ (T4.setTop (mkF m 23 #[.val (.ref a), .val (.ref sb), .val .null, .val (.ref bv), .val (.int (Int32.ofNat cs.length))] [(.ref a)]))
  refine own_s (fun t k => XS.iconst X4.here hx rfl (hb hby d7_23) k) ?_
  show Go p.tables e below _ (T4.setTop (mkF m 24 #[.val (.ref a), .val (.ref sb), .val .null, .val (.ref bv), .val (.int (Int32.ofNat cs.length))] [(.int (0 : Int32)), (.ref a)]))
  obtain ⟨T5, h5, X5, e5, W5, st5⟩ := putFN X4 hx hZ hown (hw _ (List.mem_of_getElem? (i := 62) rfl)) Via.refl eq4 F_coder_a E_a (Or.inr ⟨(hw _ (List.mem_of_getElem? (i := 63) rfl)), rfl, hnm⟩) (hw _ (List.mem_of_getElem? (i := 32) rfl)) (ty := .byte) (v' := (.int (0 : Int32))) (by decide) rfl rfl (g := (mkF m 24 #[.val (.ref a), .val (.ref sb), .val .null, .val (.ref bv), .val (.int (Int32.ofNat cs.length))] [(.int (0 : Int32)), (.ref a)])) rfl rfl (hb hby d7_24)
  refine own_s st5 ?_
  have K5 : Keep h0 h5 [a] := K0.wr W5 (Or.inl (List.mem_of_getElem? (i := 0) rfl))
  have N5 := Fr.snoc X5 N4 g_a
  have Fw5 := F_coder_a.same W5
  show Go p.tables e below _ (T5.setTop (mkF m 27 #[.val (.ref a), .val (.ref sb), .val .null, .val (.ref bv), .val (.int (Int32.ofNat cs.length))] []))
  refine own_s (fun t k => XS.aloadN X5.here hx rfl (hb hby d7_27) rfl rfl k) ?_
  show Go p.tables e below _ (T5.setTop (mkF m 28 #[.val (.ref a), .val (.ref sb), .val .null, .val (.ref bv), .val (.int (Int32.ofNat cs.length))] [(.ref a)]))
  refine own_s (fun t k => XS.aloadN X5.here hx rfl (hb hby d7_28) rfl rfl k) ?_
  show Go p.tables e below _ (T5.setTop (mkF m 29 #[.val (.ref a), .val (.ref sb), .val .null, .val (.ref bv), .val (.int (Int32.ofNat cs.length))] [(.ref bv), (.ref a)]))
  refine own_s (fun t k => XS.iconst X5.here hx rfl (hb hby d7_29) k) ?_
  show Go p.tables e below _ (T5.setTop (mkF m 30 #[.val (.ref a), .val (.ref sb), .val .null, .val (.ref bv), .val (.int (Int32.ofNat cs.length))] [(.int (0 : Int32)), (.ref bv), (.ref a)]))
  refine own_s (fun t k => XS.iload X5.here hx rfl (hb hby d7_30) rfl k) ?_
  show Go p.tables e below _ (T5.setTop (mkF m 32 #[.val (.ref a), .val (.ref sb), .val .null, .val (.ref bv), .val (.int (Int32.ofNat cs.length))] [(.int (Int32.ofNat cs.length)), (.int (0 : Int32)), (.ref bv), (.ref a)]))
  have ne7 : a ≠ bv := Exa.neArv E_a V_bv (hw _ (List.mem_of_getElem? (i := 32) rfl))
  have V8 : Arv Z h5 bv kb .byte (16 : Int32) (own_pad cs) (.int (0 : Int32)) := (V_bv.other W5 (Ne.symm ne7))
  have O9 : Old Z n0 h5 := (O0.wr W5 g_a)
  obtain ⟨_, _, ⟨T6, L6, k6, n6⟩, -, X6, ⟨Lc6, hQ6, l6, y6, z6⟩, st6⟩ := Jvm.LawKit.callS X5 hx (y := (⟨"java/util/Arrays", "copyOfRange", "([BII)[B"⟩ : MethodName)) hown (mvT hZ (hw _ (List.mem_of_getElem? (i := 64) rfl))) (mvT hZ (hw _ (List.mem_of_getElem? (i := 65) rfl))) (mvT hZ (hw _ (List.mem_of_getElem? (i := 66) rfl))) (mvT hZ (hw _ (List.mem_of_getElem? (i := 67) rfl))) (by decide) (backOf (W := 1) (rm12 l Z a0 hw [] kb cs bv h5 n0 O9 V8 hl15) hZ (hw _ (List.mem_of_getElem? (i := 67) rfl)) (hw _ (List.mem_of_getElem? (i := 66) rfl)) (by decide) (by decide)) (g := (mkF m 32 #[.val (.ref a), .val (.ref sb), .val .null, .val (.ref bv), .val (.int (Int32.ofNat cs.length))] [(.int (Int32.ofNat cs.length)), (.int (0 : Int32)), (.ref bv), (.ref a)])) rfl (by rw [hml]; rfl) (argsL := [(.ref bv), (.int (0 : Int32)), (.int (Int32.ofNat cs.length))]) (rest := [(.ref a)]) (lenOf pd___BII__B rfl) rfl (by show 2 * 0 + _ ≤ _; exact Nat.le_of_eq rfl) (hb hby d7_32) (fun _ _ => ⟨rfl, e5, (by decide : 0 + 1 ≤ _), (by decide : 0 + 16 ≤ _)⟩)
  dsimp only [Pt.U, Pt.locs, Pt.cells, Pt.slots] at X6 l6 y6 z6 st6 hQ6
  subst l6 y6 z6
  obtain ⟨b2_2_6, k2_2_6, rfl, N6q, Kc6, bz_b2_2_6, fc6_0⟩ := hQ6
  have g_b2_2_6 : n0 ≤ b2_2_6 := Nat.le_trans (Nat.le_of_eq O9.1.symm) (Nat.le_trans O9.2.1 bz_b2_2_6)
  have sz_b2_2_6 : h0.size ≤ b2_2_6 := Nat.le_trans K5.1 bz_b2_2_6
  have K6 : Keep h0 T6.heap [a] := K5.trans Kc6 all0
  have N6 := Fr.app N5 N6q
  refine own_s st6 ?_
  show Go p.tables e below _ (T6.setTop (mkF m 35 #[.val (.ref a), .val (.ref sb), .val .null, .val (.ref bv), .val (.int (Int32.ofNat cs.length))] [(.ref b2_2_6), (.ref a)]))
  have Q10 : Exa Z T6.heap a "java/lang/String" := ((E_a.wr W5).keep Kc6)
  have F11 : Fld Z T6.heap a "java/lang/String" "value" "[B" u_value_a := ((F_value_a.other W5 (Or.inr (slot_ne (Or.inr (hw _ (List.mem_of_getElem? (i := 83) rfl))) (Or.inr (hw _ (List.mem_of_getElem? (i := 63) rfl))) (by decide) (t := (.array .byte)) (t' := .byte) (by decide) (by decide)))).keep Kc6 nin0)
  obtain ⟨T12, h12, X12, e12, W12, st12⟩ := putF X6 hx hZ hown (host := "") (Or.inl (hw _ (List.mem_of_getElem? (i := 82) rfl))) Via.refl rfl F11 Q10 (Or.inr ⟨(hw _ (List.mem_of_getElem? (i := 83) rfl)), rfl, hnm⟩) (hw _ (List.mem_of_getElem? (i := 32) rfl)) (ty := (.array .byte)) (by decide) rfl rfl (g := (mkF m 35 #[.val (.ref a), .val (.ref sb), .val .null, .val (.ref bv), .val (.int (Int32.ofNat cs.length))] [(.ref b2_2_6), (.ref a)])) rfl rfl (hb hby d7_35)
  refine own_s st12 ?_
  have K12 : Keep h0 h12 [a] := K6.wr W12 (Or.inl (List.mem_of_getElem? (i := 0) rfl))
  have N12 := Fr.snoc X12 N6 g_a
  have Fw12 := F11.same W12
  show Go p.tables e below _ (T12.setTop (mkF m 38 #[.val (.ref a), .val (.ref sb), .val .null, .val (.ref bv), .val (.int (Int32.ofNat cs.length))] []))
  refine own_s (fun t k => XS.goto X12.here hx rfl (pc0 := 38) (pc' := 97) rfl (hb hby d7_38) (by decide) (by decide) k) ?_
  show Go p.tables e below _ (T12.setTop (mkF m 97 #[.val (.ref a), .val (.ref sb), .val .null, .val (.ref bv), .val (.int (Int32.ofNat cs.length))] []))
  obtain ⟨fs, hr, hrun, hended, hW, hsame⟩ := X12.leave (v := none) (fun h => by first | rfl | (rw [Bd.returns] at h; cases h))
  have F13 : Fld Z h12 a "java/lang/String" "coder" "B" (.int (0 : Int32)) := ((Fw5.keep Kc6 nin0).other W12 (Or.inr (slot_ne (Or.inr (hw _ (List.mem_of_getElem? (i := 63) rfl))) (Or.inr (hw _ (List.mem_of_getElem? (i := 83) rfl))) (by decide) (t := .byte) (t' := (.array .byte)) (by decide) (by decide))))
  have ne14 : a ≠ b2_2_6 := Nat.ne_of_lt (Nat.lt_of_lt_of_le (E_a.wr W5).lt bz_b2_2_6)
  have V15 : Arv Z h12 b2_2_6 k2_2_6 .byte (Int32.ofNat cs.length) (own_vs cs) (.int (0 : Int32)) := (fc6_0.other W12 (Ne.symm ne14))
  refine own_e hPP ?_ hrun hended ⟨_, _, rfl, ?_, ⟨_, rfl⟩, hW, hsame.mono (by decide) (by decide)⟩
  · exact X12.returnOut hx Bd.returns (hb hby d7_97) hr
  · show Q_rm7 Z cz bv kb cs a sb u_coder_a u_value_a h0 n0 _ T12.heap _
    rw [e12]
    exact ⟨b2_2_6, k2_2_6, rfl, N12, K12, sz_b2_2_6, F13, Fw12, V15⟩
theorem d6_0 : decode jdk_42_method_53_code 0 = .ok (.aload_n 0, 1) := by decide +kernel
theorem d6_1 : decode jdk_42_method_53_code 1 = .ok (.aload_n 1, 1) := by decide +kernel
theorem d6_2 : decode jdk_42_method_53_code 2 = .ok (.aconst_null, 1) := by decide +kernel
theorem d6_3 : decode jdk_42_method_53_code 3 = .ok (.invokespecial 489, 3) := by decide +kernel
theorem pd__Ljava_lang_AbstractStringBuilder_Ljava_lang_Void__V : parseMethodDescriptor "(Ljava/lang/AbstractStringBuilder;Ljava/lang/Void;)V" = some ⟨[(.object "java/lang/AbstractStringBuilder"), (.object "java/lang/Void")], none⟩ := by decide +kernel
theorem d6_6 : decode jdk_42_method_53_code 6 = .ok (.return_, 1) := by decide +kernel
theorem ef_rm6 (m : MethodId) (a : Addr) (sb : Addr) : entryFrame m #[(.ref a), (.ref sb)] 2 = mkF m 0 #[.val (.ref a), .val (.ref sb)] [] := by first | (simp [entryFrame, mkF, argsToLocals, Value.category]; done) | rfl
def Q_rm6 (Z : State) (cz : Int32) (bv : Addr) (kb : ClassId) (cs : List Int32) (a : Addr) (sb : Addr) (u_coder_a : Value) (u_value_a : Value) (h0 : Heap) (n0 : Nat) (v : Option Value) (h : Heap) (L : List Loc) : Prop := ∃ b2_2_6_1 : Addr, ∃ k2_2_6_1 : ClassId, v = none ∧ Fr n0 L ∧ Keep h0 h [a] ∧ h0.size ≤ b2_2_6_1 ∧ Fld Z h a "java/lang/String" "coder" "B" (.int (0 : Int32)) ∧ Fld Z h a "java/lang/String" "value" "[B" (.ref b2_2_6_1) ∧ Arv Z h b2_2_6_1 k2_2_6_1 .byte (Int32.ofNat cs.length) (own_vs cs) (.int (0 : Int32))
set_option maxRecDepth 65536 in
set_option maxHeartbeats 40000000 in
theorem rm6 (l : Launch) (Z : State) (a0 : Array Value) (hw : ∀ d ∈ tables_1, d.before a0 Z = true) (ws : List Jvm.Cond) (cz : Int32) (bv : Addr) (kb : ClassId) (cs : List Int32) (a : Addr) (sb : Addr) (u_coder_a : Value) (u_value_a : Value) (h0 : Heap) (n0 : Nat) (O0 : Old Z n0 h0) (S_C : Sta Z Z.heap "java/lang/String" "COMPACT_STRINGS" "Z" (.int cz)) (hcz : ¬ (cz = (0 : Int32))) (hl15 : cs.length ≤ 15) (E_a : Exa Z h0 a "java/lang/String") (V_bv : Arv Z h0 bv kb .byte (16 : Int32) (own_pad cs) (.int (0 : Int32))) (F_v_sb : Fld Z h0 sb "java/lang/AbstractStringBuilder" "value" "[B" (.ref bv)) (F_c_sb : Fld Z h0 sb "java/lang/AbstractStringBuilder" "coder" "B" (.int (0 : Int32))) (F_n_sb : Fld Z h0 sb "java/lang/AbstractStringBuilder" "count" "I" (.int (Int32.ofNat cs.length))) (E_sb : Exa Z h0 sb "java/lang/StringBuilder") (F_coder_a : Fld Z h0 a "java/lang/String" "coder" "B" u_coder_a) (g_a : n0 ≤ a) (F_value_a : Fld Z h0 a "java/lang/String" "value" "[B" u_value_a) :
    MetFree l (⟨"java/lang/String", "<init>", "(Ljava/lang/StringBuilder;)V"⟩ : MethodName) (head1 (Jvm.Cond.code (⟨"java/lang/String", "<init>", "(Ljava/lang/StringBuilder;)V"⟩ : MethodName) jdk_42_method_53_code 2 none :: ws) ({ frames := 4, cells := 1, slots := 16, locals := 87 } : Room)) (fun aa_ U => aa_ = #[(.ref a), (.ref sb)] ∧ Z.Warmed39 U.vm ∧ U.heap = h0) (fun _ _ _ _ _ => True) (fun _ U oo_ U' => ∃ vv_ LL_, oo_ = .returned vv_ ∧ Q_rm6 Z cz bv kb cs a sb u_coder_a u_value_a h0 n0 vv_ U'.heap LL_ ∧ FrameEnd U oo_ U' LL_ ({ frames := 4, cells := 1, slots := 16, locals := 87 } : Room).cells ({ frames := 4, cells := 1, slots := 16, locals := 87 } : Room).slots) := by
  refine MetFree.of_bodySF (plainFor_of_name pn_java_lang_String) hisR ?_
  intro p e s m args below meth c s₁ Bd hml0 hP hK
  obtain ⟨rfl, hZ, hh⟩ := hP
  have hx := Bd.exec
  have hby := Bd.bytes
  have hml : c.maxLocals = 2 := hml0
  have hown : s.vm.findClass "java/lang/String" = some m.cls := findClass_of_methodNamed Bd.named
  have hnm := (name_of_methodNamed Bd.named Bd.method).1
  have X0 : Stand p l e ({ frames := 4, cells := 1, slots := 16, locals := 87 } : Room) s m #[(.ref a), (.ref sb)] below meth c s₁ [] 0 0 := Stand.of_body Bd
  have e0 : s₁.heap = h0 := by rw [← hh, Bd.state]; rfl
  have N0 := Fr.nil n0
  have K0 : Keep h0 h0 [a] := Keep.refl h0 _
  refine own_i fun PP hPP => own_s (fun t k => castTop (ef_rm6 m a sb) k) ?_
  show Go p.tables e below _ (s₁.setTop (mkF m 0 #[.val (.ref a), .val (.ref sb)] []))
  refine own_s (fun t k => XS.aloadN X0.here hx rfl (hb hby d6_0) rfl rfl k) ?_
  show Go p.tables e below _ (s₁.setTop (mkF m 1 #[.val (.ref a), .val (.ref sb)] [(.ref a)]))
  refine own_s (fun t k => XS.aloadN X0.here hx rfl (hb hby d6_1) rfl rfl k) ?_
  show Go p.tables e below _ (s₁.setTop (mkF m 2 #[.val (.ref a), .val (.ref sb)] [(.ref sb), (.ref a)]))
  refine own_s (fun t k => XS.aconstNull X0.here hx rfl (hb hby d6_2) k) ?_
  show Go p.tables e below _ (s₁.setTop (mkF m 3 #[.val (.ref a), .val (.ref sb)] [.null, (.ref sb), (.ref a)]))
  obtain ⟨_, _, ⟨T1, L1, k1, n1⟩, -, X1, ⟨Lc1, hQ1, l1, y1, z1⟩, st1⟩ := X0.specialBack hx (y := (⟨"java/lang/String", "<init>", "(Ljava/lang/AbstractStringBuilder;Ljava/lang/Void;)V"⟩ : MethodName)) rfl hown (mvT hZ (hw _ (List.mem_of_getElem? (i := 37) rfl))) (mvT hZ (hw _ (List.mem_of_getElem? (i := 38) rfl))) (mvT hZ (hw _ (List.mem_of_getElem? (i := 39) rfl))) (by decide) (backOf (W := 0) (rm7 l Z a0 hw [] cz bv kb cs a sb u_coder_a u_value_a h0 n0 O0 S_C hcz hl15 E_a V_bv F_v_sb F_c_sb F_n_sb E_sb F_coder_a g_a F_value_a) hZ (hw _ (List.mem_of_getElem? (i := 39) rfl)) (hw _ (List.mem_of_getElem? (i := 21) rfl)) (by decide) (by decide)) (g := (mkF m 3 #[.val (.ref a), .val (.ref sb)] [.null, (.ref sb), (.ref a)])) rfl (by rw [hml]; rfl) (Steps.refl _) (a := a) (argsL := [(.ref sb), .null]) (rest := []) (lenOf pd__Ljava_lang_AbstractStringBuilder_Ljava_lang_Void__V rfl) rfl (by show 2 * 0 + _ ≤ _; exact Nat.le_of_eq rfl) (hb hby d6_3) (fun _ _ => ⟨rfl, e0, (by decide : 0 + 1 ≤ _), (by decide : 0 + 16 ≤ _)⟩)
  dsimp only [Pt.U, Pt.locs, Pt.cells, Pt.slots] at X1 l1 y1 z1 st1 hQ1
  subst l1 y1 z1
  obtain ⟨b2_2_6_1, k2_2_6_1, rfl, N1q, Kc1, bz_b2_2_6_1, fc1_0, fc1_1, fc1_2⟩ := hQ1
  have g_b2_2_6_1 : n0 ≤ b2_2_6_1 := Nat.le_trans (Nat.le_of_eq O0.1.symm) (Nat.le_trans O0.2.1 bz_b2_2_6_1)
  have sz_b2_2_6_1 : h0.size ≤ b2_2_6_1 := Nat.le_trans K0.1 bz_b2_2_6_1
  have K1 : Keep h0 T1.heap [a] := K0.trans Kc1 (allS (Or.inl (List.mem_of_getElem? (i := 0) rfl)) all0)
  have N1 := Fr.app N0 N1q
  refine own_t st1 ?_
  show Go p.tables e below _ (T1.setTop (mkF m 6 #[.val (.ref a), .val (.ref sb)] []))
  obtain ⟨fs, hr, hrun, hended, hW, hsame⟩ := X1.leave (v := none) (fun h => by first | rfl | (rw [Bd.returns] at h; cases h))
  refine own_e hPP ?_ hrun hended ⟨_, _, rfl, ?_, ⟨_, rfl⟩, hW, hsame.mono (by decide) (by decide)⟩
  · exact X1.returnOut hx Bd.returns (hb hby d6_6) hr
  · show Q_rm6 Z cz bv kb cs a sb u_coder_a u_value_a h0 n0 _ T1.heap _
    exact ⟨b2_2_6_1, k2_2_6_1, rfl, N1, K1, sz_b2_2_6_1, fc1_0, fc1_1, fc1_2⟩
theorem d5_0 : decode jdk_67_method_42_code 0 = .ok (.new 18, 3) := by decide +kernel
theorem d5_3 : decode jdk_67_method_42_code 3 = .ok (.dup, 1) := by decide +kernel
theorem d5_4 : decode jdk_67_method_42_code 4 = .ok (.aload_n 0, 1) := by decide +kernel
theorem d5_5 : decode jdk_67_method_42_code 5 = .ok (.invokespecial 137, 3) := by decide +kernel
theorem pd__Ljava_lang_StringBuilder__V : parseMethodDescriptor "(Ljava/lang/StringBuilder;)V" = some ⟨[(.object "java/lang/StringBuilder")], none⟩ := by decide +kernel
theorem d5_8 : decode jdk_67_method_42_code 8 = .ok (.areturn, 1) := by decide +kernel
theorem ef_rm5 (m : MethodId) (sb : Addr) : entryFrame m #[(.ref sb)] 1 = mkF m 0 #[.val (.ref sb)] [] := by first | (simp [entryFrame, mkF, argsToLocals, Value.category]; done) | rfl
def Q_rm5 (Z : State) (cz : Int32) (bv : Addr) (kb : ClassId) (cs : List Int32) (sb : Addr) (h0 : Heap) (n0 : Nat) (v : Option Value) (h : Heap) (L : List Loc) : Prop := ∃ b1 : Addr, ∃ b2_2_6_1_2 : Addr, ∃ k2_2_6_1_2 : ClassId, v = some (.ref b1) ∧ Fr n0 L ∧ Keep h0 h [] ∧ h0.size ≤ b1 ∧ h0.size ≤ b2_2_6_1_2 ∧ Exa Z h b1 "java/lang/String" ∧ Fld Z h b1 "java/lang/String" "coder" "B" (.int (0 : Int32)) ∧ Fld Z h b1 "java/lang/String" "value" "[B" (.ref b2_2_6_1_2) ∧ Arv Z h b2_2_6_1_2 k2_2_6_1_2 .byte (Int32.ofNat cs.length) (own_vs cs) (.int (0 : Int32))
set_option maxRecDepth 65536 in
set_option maxHeartbeats 40000000 in
theorem rm5 (l : Launch) (Z : State) (a0 : Array Value) (hw : ∀ d ∈ tables_1, d.before a0 Z = true) (ws : List Jvm.Cond) (cz : Int32) (bv : Addr) (kb : ClassId) (cs : List Int32) (sb : Addr) (h0 : Heap) (n0 : Nat) (O0 : Old Z n0 h0) (S_C : Sta Z Z.heap "java/lang/String" "COMPACT_STRINGS" "Z" (.int cz)) (hcz : ¬ (cz = (0 : Int32))) (hl15 : cs.length ≤ 15) (V_bv : Arv Z h0 bv kb .byte (16 : Int32) (own_pad cs) (.int (0 : Int32))) (F_v_sb : Fld Z h0 sb "java/lang/AbstractStringBuilder" "value" "[B" (.ref bv)) (F_c_sb : Fld Z h0 sb "java/lang/AbstractStringBuilder" "coder" "B" (.int (0 : Int32))) (F_n_sb : Fld Z h0 sb "java/lang/AbstractStringBuilder" "count" "I" (.int (Int32.ofNat cs.length))) (E_sb : Exa Z h0 sb "java/lang/StringBuilder") :
    MetFree l (⟨"java/lang/StringBuilder", "toString", "()Ljava/lang/String;"⟩ : MethodName) (head1 (Jvm.Cond.code (⟨"java/lang/StringBuilder", "toString", "()Ljava/lang/String;"⟩ : MethodName) jdk_67_method_42_code 1 (some (.object "java/lang/String")) :: ws) ({ frames := 5, cells := 2, slots := 20, locals := 101 } : Room)) (fun aa_ U => aa_ = #[(.ref sb)] ∧ Z.Warmed39 U.vm ∧ U.heap = h0) (fun _ _ _ _ _ => True) (fun _ U oo_ U' => ∃ vv_ LL_, oo_ = .returned vv_ ∧ Q_rm5 Z cz bv kb cs sb h0 n0 vv_ U'.heap LL_ ∧ FrameEnd U oo_ U' LL_ ({ frames := 5, cells := 2, slots := 20, locals := 101 } : Room).cells ({ frames := 5, cells := 2, slots := 20, locals := 101 } : Room).slots) := by
  refine MetFree.of_bodySF (plainFor_of_name pn_java_lang_StringBuilder) hisR ?_
  intro p e s m args below meth c s₁ Bd hml0 hP hK
  obtain ⟨rfl, hZ, hh⟩ := hP
  have hx := Bd.exec
  have hby := Bd.bytes
  have hml : c.maxLocals = 1 := hml0
  have hown : s.vm.findClass "java/lang/StringBuilder" = some m.cls := findClass_of_methodNamed Bd.named
  have hnm := (name_of_methodNamed Bd.named Bd.method).1
  have X0 : Stand p l e ({ frames := 5, cells := 2, slots := 20, locals := 101 } : Room) s m #[(.ref sb)] below meth c s₁ [] 0 0 := Stand.of_body Bd
  have e0 : s₁.heap = h0 := by rw [← hh, Bd.state]; rfl
  have N0 := Fr.nil n0
  have K0 : Keep h0 h0 [] := Keep.refl h0 _
  refine own_i fun PP hPP => own_s (fun t k => castTop (ef_rm5 m sb) k) ?_
  show Go p.tables e below _ (s₁.setTop (mkF m 0 #[.val (.ref sb)] []))
  obtain ⟨T1, h1, X1, e1, E1, A1, D1, -, st1⟩ := newO X0 hx hZ hown (hw _ (List.mem_of_getElem? (i := 31) rfl)) (hw _ (List.mem_of_getElem? (i := 32) rfl)) (hw _ (List.mem_of_getElem? (i := 21) rfl)) e0 (g := (mkF m 0 #[.val (.ref sb)] [])) rfl (hb hby d5_0) (by decide) (by decide)
  obtain ⟨b1, gg1⟩ : ∃ z, z = h0.size := ⟨_, rfl⟩
  rw [← gg1] at A1 D1 st1
  have g_b1 : n0 ≤ b1 := Nat.le_trans (Nat.le_of_eq O0.1.symm) (Nat.le_trans O0.2.1 (Nat.le_of_eq gg1.symm))
  have sz_b1 : h0.size ≤ b1 := Nat.le_trans K0.1 (Nat.le_of_eq gg1.symm)
  have K1 : Keep h0 h1 [] := K0.ext E1
  have F_coder_b1 : Fld Z h1 b1 "java/lang/String" "coder" "B" (.int (0 : Int32)) := D1 (Or.inr (hw _ (List.mem_of_getElem? (i := 63) rfl))) (ty := .byte) (by decide)
  have F_value_b1 : Fld Z h1 b1 "java/lang/String" "value" "[B" .null := D1 (Or.inr (hw _ (List.mem_of_getElem? (i := 83) rfl))) (ty := (.array .byte)) (by decide)
  refine own_s st1 ?_
  show Go p.tables e below _ (T1.setTop (mkF m 3 #[.val (.ref sb)] [(.ref b1)]))
  refine own_s (fun t k => XS.dup X1.here hx rfl (hb hby d5_3) rfl rfl k) ?_
  show Go p.tables e below _ (T1.setTop (mkF m 4 #[.val (.ref sb)] [(.ref b1), (.ref b1)]))
  refine own_s (fun t k => XS.aloadN X1.here hx rfl (hb hby d5_4) rfl rfl k) ?_
  show Go p.tables e below _ (T1.setTop (mkF m 5 #[.val (.ref sb)] [(.ref sb), (.ref b1), (.ref b1)]))
  have V3 : Arv Z h1 bv kb .byte (16 : Int32) (own_pad cs) (.int (0 : Int32)) := (V_bv.ext E1)
  have F4 : Fld Z h1 sb "java/lang/AbstractStringBuilder" "value" "[B" (.ref bv) := (F_v_sb.ext E1)
  have F5 : Fld Z h1 sb "java/lang/AbstractStringBuilder" "coder" "B" (.int (0 : Int32)) := (F_c_sb.ext E1)
  have F6 : Fld Z h1 sb "java/lang/AbstractStringBuilder" "count" "I" (.int (Int32.ofNat cs.length)) := (F_n_sb.ext E1)
  have Q7 : Exa Z h1 sb "java/lang/StringBuilder" := (E_sb.ext E1)
  have O8 : Old Z n0 h1 := (O0.ext E1)
  obtain ⟨_, _, ⟨T2, L2, k2, n2⟩, -, X2, ⟨Lc2, hQ2, l2, y2, z2⟩, st2⟩ := X1.specialBack hx (y := (⟨"java/lang/String", "<init>", "(Ljava/lang/StringBuilder;)V"⟩ : MethodName)) rfl hown (mvT hZ (hw _ (List.mem_of_getElem? (i := 33) rfl))) (mvT hZ (hw _ (List.mem_of_getElem? (i := 34) rfl))) (mvT hZ (hw _ (List.mem_of_getElem? (i := 36) rfl))) (by decide) (backOf (W := 1) (rm6 l Z a0 hw [] cz bv kb cs b1 sb (.int (0 : Int32)) .null h1 n0 O8 S_C hcz hl15 A1 V3 F4 F5 F6 Q7 F_coder_b1 g_b1 F_value_b1) hZ (hw _ (List.mem_of_getElem? (i := 36) rfl)) (hw _ (List.mem_of_getElem? (i := 21) rfl)) (by decide) (by decide)) (g := (mkF m 5 #[.val (.ref sb)] [(.ref sb), (.ref b1), (.ref b1)])) rfl (by rw [hml]; rfl) (Steps.refl _) (a := b1) (argsL := [(.ref sb)]) (rest := [(.ref b1)]) (lenOf pd__Ljava_lang_StringBuilder__V rfl) rfl (by show 2 * 0 + _ ≤ _; exact Nat.le_of_eq rfl) (hb hby d5_5) (fun _ _ => ⟨rfl, e1, (by decide : 1 + 1 ≤ _), (by decide : 4 + 16 ≤ _)⟩)
  dsimp only [Pt.U, Pt.locs, Pt.cells, Pt.slots] at X2 l2 y2 z2 st2 hQ2
  subst l2 y2 z2
  obtain ⟨b2_2_6_1_2, k2_2_6_1_2, rfl, N2q, Kc2, bz_b2_2_6_1_2, fc2_0, fc2_1, fc2_2⟩ := hQ2
  have g_b2_2_6_1_2 : n0 ≤ b2_2_6_1_2 := Nat.le_trans (Nat.le_of_eq O8.1.symm) (Nat.le_trans O8.2.1 bz_b2_2_6_1_2)
  have sz_b2_2_6_1_2 : h0.size ≤ b2_2_6_1_2 := Nat.le_trans K1.1 bz_b2_2_6_1_2
  have K2 : Keep h0 T2.heap [] := K1.trans Kc2 (allS (Or.inr sz_b1) all0)
  have N2 := Fr.app N0 N2q
  refine own_t st2 ?_
  show Go p.tables e below _ (T2.setTop (mkF m 8 #[.val (.ref sb)] [(.ref b1)]))
  obtain ⟨fs, hr, hrun, hended, hW, hsame⟩ := X2.leave (v := (some (.ref b1))) (fun h => by first | rfl | (rw [Bd.returns] at h; cases h))
  have Q9 : Exa Z T2.heap b1 "java/lang/String" := (A1.keep Kc2)
  refine own_e hPP ?_ hrun hended ⟨_, _, rfl, ?_, ⟨_, rfl⟩, hW, hsame.mono (by decide) (by decide)⟩
  · exact retOut X2 hx Bd.returns rfl (Or.inr (Or.inr (Or.inr (Or.inr ⟨rfl, rfl, rfl⟩)))) (hb hby d5_8) hr
  · show Q_rm5 Z cz bv kb cs sb h0 n0 _ T2.heap _
    exact ⟨b1, b2_2_6_1_2, k2_2_6_1_2, rfl, N2, K2, sz_b1, sz_b2_2_6_1_2, Q9, fc2_0, fc2_1, fc2_2⟩
theorem d17_0 : decode jdk_42_method_152_code 0 = .ok (.getstatic 38, 3) := by decide +kernel
theorem d17_3 : decode jdk_42_method_152_code 3 = .ok (.ifCond .eq 10, 3) := by decide +kernel
theorem d17_6 : decode jdk_42_method_152_code 6 = .ok (.aload_n 0, 1) := by decide +kernel
theorem d17_7 : decode jdk_42_method_152_code 7 = .ok (.getfield 15, 3) := by decide +kernel
theorem d17_10 : decode jdk_42_method_152_code 10 = .ok (.goto 4, 3) := by decide +kernel
theorem d17_14 : decode jdk_42_method_152_code 14 = .ok (.ireturn, 1) := by decide +kernel
theorem ef_rm17 (m : MethodId) (a : Addr) : entryFrame m #[(.ref a)] 1 = mkF m 0 #[.val (.ref a)] [] := by first | (simp [entryFrame, mkF, argsToLocals, Value.category]; done) | rfl
def Q_rm17 (Z : State) (cz : Int32) (a : Addr) (h0 : Heap) (n0 : Nat) (v : Option Value) (h : Heap) (L : List Loc) : Prop := v = some (.int (0 : Int32)) ∧ Fr n0 L ∧ h = h0
set_option maxRecDepth 65536 in
set_option maxHeartbeats 40000000 in
theorem rm17 (l : Launch) (Z : State) (a0 : Array Value) (hw : ∀ d ∈ tables_1, d.before a0 Z = true) (ws : List Jvm.Cond) (cz : Int32) (a : Addr) (h0 : Heap) (n0 : Nat) (O0 : Old Z n0 h0) (S_C : Sta Z Z.heap "java/lang/String" "COMPACT_STRINGS" "Z" (.int cz)) (hcz : ¬ (cz = (0 : Int32))) (F_c_a : Fld Z h0 a "java/lang/String" "coder" "B" (.int (0 : Int32))) :
    MetFree l (⟨"java/lang/String", "coder", "()B"⟩ : MethodName) (head1 (Jvm.Cond.code (⟨"java/lang/String", "coder", "()B"⟩ : MethodName) jdk_42_method_152_code 1 (some .byte) :: ws) ({ frames := 0, cells := 0, slots := 0, locals := 0 } : Room)) (fun aa_ U => aa_ = #[(.ref a)] ∧ Z.Warmed39 U.vm ∧ U.heap = h0) (fun _ _ _ _ _ => True) (fun _ U oo_ U' => ∃ vv_ LL_, oo_ = .returned vv_ ∧ Q_rm17 Z cz a h0 n0 vv_ U'.heap LL_ ∧ FrameEnd U oo_ U' LL_ ({ frames := 0, cells := 0, slots := 0, locals := 0 } : Room).cells ({ frames := 0, cells := 0, slots := 0, locals := 0 } : Room).slots) := by
  refine MetFree.of_bodySF (plainFor_of_name pn_java_lang_String) hisR ?_
  intro p e s m args below meth c s₁ Bd hml0 hP hK
  obtain ⟨rfl, hZ, hh⟩ := hP
  have hx := Bd.exec
  have hby := Bd.bytes
  have hml : c.maxLocals = 1 := hml0
  have hown : s.vm.findClass "java/lang/String" = some m.cls := findClass_of_methodNamed Bd.named
  have hnm := (name_of_methodNamed Bd.named Bd.method).1
  have X0 : Stand p l e ({ frames := 0, cells := 0, slots := 0, locals := 0 } : Room) s m #[(.ref a)] below meth c s₁ [] 0 0 := Stand.of_body Bd
  have e0 : s₁.heap = h0 := by rw [← hh, Bd.state]; rfl
  have N0 := Fr.nil n0
  have K0 : Keep h0 h0 [] := Keep.refl h0 _
  refine own_i fun PP hPP => own_s (fun t k => castTop (ef_rm17 m a) k) ?_
  show Go p.tables e below _ (s₁.setTop (mkF m 0 #[.val (.ref a)] []))
  obtain ⟨T1, X1, e1, st1⟩ := getS2 X0 hx hZ hown (host := "") (Or.inl (hw _ (List.mem_of_getElem? (i := 94) rfl))) Via.refl e0 (S_C.ext O0.2) (g := (mkF m 0 #[.val (.ref a)] [])) rfl (hb hby d17_0)
  refine own_s st1 ?_
  show Go p.tables e below _ (T1.setTop (mkF m 3 #[.val (.ref a)] [(.int cz)]))
  refine own_s (fun t k => XS.ifNo X1.here hx rfl (hb hby d17_3) rfl ((if0 _ _).trans (feq hcz).1) k) ?_
  show Go p.tables e below _ (T1.setTop (mkF m 6 #[.val (.ref a)] []))
  refine own_s (fun t k => XS.aloadN X1.here hx rfl (hb hby d17_6) rfl rfl k) ?_
  show Go p.tables e below _ (T1.setTop (mkF m 7 #[.val (.ref a)] [(.ref a)]))
  obtain ⟨T2, X2, e2, st2⟩ := getF X1 hx hZ hown (host := "") (Or.inl (hw _ (List.mem_of_getElem? (i := 62) rfl))) Via.refl e1 F_c_a (g := (mkF m 7 #[.val (.ref a)] [(.ref a)])) rfl rfl (hb hby d17_7)
  refine own_s st2 ?_
  show Go p.tables e below _ (T2.setTop (mkF m 10 #[.val (.ref a)] [(.int (0 : Int32))]))
  refine own_s (fun t k => XS.goto X2.here hx rfl (pc0 := 10) (pc' := 14) rfl (hb hby d17_10) (by decide) (by decide) k) ?_
  show Go p.tables e below _ (T2.setTop (mkF m 14 #[.val (.ref a)] [(.int (0 : Int32))]))
  obtain ⟨fs, hr, hrun, hended, hW, hsame⟩ := X2.leave (v := (some (.int (0 : Int32)))) (fun h => by first | rfl | (rw [Bd.returns] at h; cases h))
  refine own_e hPP ?_ hrun hended ⟨_, _, rfl, ?_, ⟨_, rfl⟩, hW, hsame.mono (by decide) (by decide)⟩
  · exact retN X2 hx (t := .byte) Bd.returns (by simp) (hb hby d17_14) hr
  · show Q_rm17 Z cz a h0 n0 _ T2.heap _
    rw [e2]
    exact ⟨rfl, N0, rfl⟩
theorem d16_0 : decode jdk_42_method_54_code 0 = .ok (.aload_n 0, 1) := by decide +kernel
theorem d16_1 : decode jdk_42_method_54_code 1 = .ok (.getfield 9, 3) := by decide +kernel
theorem d16_4 : decode jdk_42_method_54_code 4 = .ok (.arraylength, 1) := by decide +kernel
theorem d16_5 : decode jdk_42_method_54_code 5 = .ok (.aload_n 0, 1) := by decide +kernel
theorem d16_6 : decode jdk_42_method_54_code 6 = .ok (.invokevirtual 335, 3) := by decide +kernel
theorem pd___B : parseMethodDescriptor "()B" = some ⟨[], some .byte⟩ := by decide +kernel
theorem d16_9 : decode jdk_42_method_54_code 9 = .ok (.ishr, 1) := by decide +kernel
theorem d16_10 : decode jdk_42_method_54_code 10 = .ok (.ireturn, 1) := by decide +kernel
theorem ef_rm16 (m : MethodId) (a : Addr) : entryFrame m #[(.ref a)] 1 = mkF m 0 #[.val (.ref a)] [] := by first | (simp [entryFrame, mkF, argsToLocals, Value.category]; done) | rfl
def Q_rm16 (Z : State) (cz : Int32) (cs : List Int32) (t_a : Addr) (k_a : ClassId) (a : Addr) (h0 : Heap) (n0 : Nat) (v : Option Value) (h : Heap) (L : List Loc) : Prop := v = some (.int (Int32.ofNat cs.length)) ∧ Fr n0 L ∧ h = h0
set_option maxRecDepth 65536 in
set_option maxHeartbeats 40000000 in
theorem rm16 (l : Launch) (Z : State) (a0 : Array Value) (hw : ∀ d ∈ tables_1, d.before a0 Z = true) (ws : List Jvm.Cond) (cz : Int32) (cs : List Int32) (t_a : Addr) (k_a : ClassId) (a : Addr) (h0 : Heap) (n0 : Nat) (O0 : Old Z n0 h0) (S_C : Sta Z Z.heap "java/lang/String" "COMPACT_STRINGS" "Z" (.int cz)) (hcz : ¬ (cz = (0 : Int32))) (hbig : cs.length < 1000) (F_v_a : Fld Z h0 a "java/lang/String" "value" "[B" (.ref t_a)) (F_c_a : Fld Z h0 a "java/lang/String" "coder" "B" (.int (0 : Int32))) (E_a : Exa Z h0 a "java/lang/String") (V_a : Arv Z h0 t_a k_a .byte (Int32.ofNat cs.length) (own_vs cs) (.int (0 : Int32))) :
    MetFree l (⟨"java/lang/String", "length", "()I"⟩ : MethodName) (head1 (Jvm.Cond.code (⟨"java/lang/String", "length", "()I"⟩ : MethodName) jdk_42_method_54_code 1 (some .int) :: ws) ({ frames := 1, cells := 0, slots := 0, locals := 13 } : Room)) (fun aa_ U => aa_ = #[(.ref a)] ∧ Z.Warmed39 U.vm ∧ U.heap = h0) (fun _ _ _ _ _ => True) (fun _ U oo_ U' => ∃ vv_ LL_, oo_ = .returned vv_ ∧ Q_rm16 Z cz cs t_a k_a a h0 n0 vv_ U'.heap LL_ ∧ FrameEnd U oo_ U' LL_ ({ frames := 1, cells := 0, slots := 0, locals := 13 } : Room).cells ({ frames := 1, cells := 0, slots := 0, locals := 13 } : Room).slots) := by
  refine MetFree.of_bodySF (plainFor_of_name pn_java_lang_String) hisR ?_
  intro p e s m args below meth c s₁ Bd hml0 hP hK
  obtain ⟨rfl, hZ, hh⟩ := hP
  have hx := Bd.exec
  have hby := Bd.bytes
  have hml : c.maxLocals = 1 := hml0
  have hown : s.vm.findClass "java/lang/String" = some m.cls := findClass_of_methodNamed Bd.named
  have hnm := (name_of_methodNamed Bd.named Bd.method).1
  have X0 : Stand p l e ({ frames := 1, cells := 0, slots := 0, locals := 13 } : Room) s m #[(.ref a)] below meth c s₁ [] 0 0 := Stand.of_body Bd
  have e0 : s₁.heap = h0 := by rw [← hh, Bd.state]; rfl
  have N0 := Fr.nil n0
  have K0 : Keep h0 h0 [] := Keep.refl h0 _
  refine own_i fun PP hPP => own_s (fun t k => castTop (ef_rm16 m a) k) ?_
  show Go p.tables e below _ (s₁.setTop (mkF m 0 #[.val (.ref a)] []))
  refine own_s (fun t k => XS.aloadN X0.here hx rfl (hb hby d16_0) rfl rfl k) ?_
  show Go p.tables e below _ (s₁.setTop (mkF m 1 #[.val (.ref a)] [(.ref a)]))
  obtain ⟨T1, X1, e1, st1⟩ := getF X0 hx hZ hown (host := "") (Or.inl (hw _ (List.mem_of_getElem? (i := 82) rfl))) Via.refl e0 F_v_a (g := (mkF m 1 #[.val (.ref a)] [(.ref a)])) rfl rfl (hb hby d16_1)
  refine own_s st1 ?_
  show Go p.tables e below _ (T1.setTop (mkF m 4 #[.val (.ref a)] [(.ref t_a)]))
  obtain ⟨cl2, Ar2, qk2, Sz2, Nn2, Hs2, Gf2⟩ := id V_a
  refine own_s (X1.arraylength hx (by rw [e1]; exact Ar2.1) (State.isArrayOf_alike hZ.alike Ar2.2.1) (g := (mkF m 4 #[.val (.ref a)] [(.ref t_a)])) rfl rfl (hb hby d16_4)) ?_
  rw [len_of Sz2 Nn2]
  show Go p.tables e below _ (T1.setTop (mkF m 5 #[.val (.ref a)] [(.int (Int32.ofNat cs.length))]))
  refine own_s (fun t k => XS.aloadN X1.here hx rfl (hb hby d16_5) rfl rfl k) ?_
  show Go p.tables e below _ (T1.setTop (mkF m 6 #[.val (.ref a)] [(.ref a), (.int (Int32.ofNat cs.length))]))
  obtain ⟨cq3, kq3, q3a, q3b, q3c⟩ := isOf hZ e1 E_a
  obtain ⟨_, _, ⟨T3, L3, k3, n3⟩, -, X3, ⟨Lc3, hQ3, l3, y3, z3⟩, st3⟩ := X1.virtualBack hx (y := (⟨"java/lang/String", "coder", "()B"⟩ : MethodName)) (z := (⟨"java/lang/String", "coder", "()B"⟩ : MethodName)) hown (mvT hZ (hw _ (List.mem_of_getElem? (i := 89) rfl))) (mvT hZ (hw _ (List.mem_of_getElem? (i := 90) rfl))) (notFace_of_selects (args := #[]) (mvT hZ (hw _ (List.mem_of_getElem? (i := 92) rfl)))) (mvT hZ (hw _ (List.mem_of_getElem? (i := 92) rfl))) (mvT hZ (hw _ (List.mem_of_getElem? (i := 91) rfl))) (by decide) (backOf (W := 1) (rm17 l Z a0 hw [] cz a h0 n0 O0 S_C hcz F_c_a) hZ (hw _ (List.mem_of_getElem? (i := 93) rfl)) (hw _ (List.mem_of_getElem? (i := 21) rfl)) (by decide) (by decide)) q3a q3c (g := (mkF m 6 #[.val (.ref a)] [(.ref a), (.int (Int32.ofNat cs.length))])) rfl (by rw [hml]; rfl) (Steps.refl _) (argsL := []) (rest := [(.int (Int32.ofNat cs.length))]) (lenOf pd___B rfl) rfl (by show 2 * 0 + _ ≤ _; exact Nat.le_of_eq rfl) (hb hby d16_6) (fun _ _ => ⟨rfl, e1, (by decide : 0 + 0 ≤ _), (by decide : 0 + 0 ≤ _)⟩)
  dsimp only [Pt.U, Pt.locs, Pt.cells, Pt.slots] at X3 l3 y3 z3 st3 hQ3
  subst l3 y3 z3
  obtain ⟨rfl, N3q, eq3⟩ := hQ3
  have N3 := Fr.app N0 N3q
  refine own_t st3 ?_
  show Go p.tables e below _ (T3.setTop (mkF m 9 #[.val (.ref a)] [(.int (0 : Int32)), (.int (Int32.ofNat cs.length))]))
  refine own_s (fun t k => XS.ishr X3.here hx rfl (hb hby d16_9) rfl k) ?_
  show Go p.tables e below _ (T3.setTop (mkF m 10 #[.val (.ref a)] [(.int ((Int32.ofNat cs.length) >>> ((0 : Int32) &&& 31)))]))
  rw [own_shr0]
  show Go p.tables e below _ (T3.setTop (mkF m 10 #[.val (.ref a)] [(.int (Int32.ofNat cs.length))]))
  obtain ⟨fs, hr, hrun, hended, hW, hsame⟩ := X3.leave (v := (some (.int (Int32.ofNat cs.length)))) (fun h => by first | rfl | (rw [Bd.returns] at h; cases h))
  refine own_e hPP ?_ hrun hended ⟨_, _, rfl, ?_, ⟨_, rfl⟩, hW, hsame.mono (by decide) (by decide)⟩
  · exact retI X3 hx Bd.returns (hb hby d16_10) hr
  · show Q_rm16 Z cz cs t_a k_a a h0 n0 _ T3.heap _
    rw [eq3]
    exact ⟨rfl, N3, rfl⟩
theorem d26_0 : decode jdk_42_method_154_code 0 = .ok (.getstatic 38, 3) := by decide +kernel
theorem d26_3 : decode jdk_42_method_154_code 3 = .ok (.ifCond .eq 14, 3) := by decide +kernel
theorem d26_6 : decode jdk_42_method_154_code 6 = .ok (.aload_n 0, 1) := by decide +kernel
theorem d26_7 : decode jdk_42_method_154_code 7 = .ok (.getfield 15, 3) := by decide +kernel
theorem d26_10 : decode jdk_42_method_154_code 10 = .ok (.ifCond .ne 7, 3) := by decide +kernel
theorem d26_13 : decode jdk_42_method_154_code 13 = .ok (.iconst 1, 1) := by decide +kernel
theorem d26_14 : decode jdk_42_method_154_code 14 = .ok (.goto 4, 3) := by decide +kernel
theorem d26_18 : decode jdk_42_method_154_code 18 = .ok (.ireturn, 1) := by decide +kernel
theorem ef_rm26 (m : MethodId) (a : Addr) : entryFrame m #[(.ref a)] 1 = mkF m 0 #[.val (.ref a)] [] := by first | (simp [entryFrame, mkF, argsToLocals, Value.category]; done) | rfl
def Q_rm26 (Z : State) (cz : Int32) (a : Addr) (h0 : Heap) (n0 : Nat) (v : Option Value) (h : Heap) (L : List Loc) : Prop := v = some (.int (1 : Int32)) ∧ Fr n0 L ∧ h = h0
set_option maxRecDepth 65536 in
set_option maxHeartbeats 40000000 in
theorem rm26 (l : Launch) (Z : State) (a0 : Array Value) (hw : ∀ d ∈ tables_1, d.before a0 Z = true) (ws : List Jvm.Cond) (cz : Int32) (a : Addr) (h0 : Heap) (n0 : Nat) (O0 : Old Z n0 h0) (S_C : Sta Z Z.heap "java/lang/String" "COMPACT_STRINGS" "Z" (.int cz)) (hcz : ¬ (cz = (0 : Int32))) (F_c_a : Fld Z h0 a "java/lang/String" "coder" "B" (.int (0 : Int32))) :
    MetFree l (⟨"java/lang/String", "isLatin1", "()Z"⟩ : MethodName) (head1 (Jvm.Cond.code (⟨"java/lang/String", "isLatin1", "()Z"⟩ : MethodName) jdk_42_method_154_code 1 (some .boolean) :: ws) ({ frames := 0, cells := 0, slots := 0, locals := 0 } : Room)) (fun aa_ U => aa_ = #[(.ref a)] ∧ Z.Warmed39 U.vm ∧ U.heap = h0) (fun _ _ _ _ _ => True) (fun _ U oo_ U' => ∃ vv_ LL_, oo_ = .returned vv_ ∧ Q_rm26 Z cz a h0 n0 vv_ U'.heap LL_ ∧ FrameEnd U oo_ U' LL_ ({ frames := 0, cells := 0, slots := 0, locals := 0 } : Room).cells ({ frames := 0, cells := 0, slots := 0, locals := 0 } : Room).slots) := by
  refine MetFree.of_bodySF (plainFor_of_name pn_java_lang_String) hisR ?_
  intro p e s m args below meth c s₁ Bd hml0 hP hK
  obtain ⟨rfl, hZ, hh⟩ := hP
  have hx := Bd.exec
  have hby := Bd.bytes
  have hml : c.maxLocals = 1 := hml0
  have hown : s.vm.findClass "java/lang/String" = some m.cls := findClass_of_methodNamed Bd.named
  have hnm := (name_of_methodNamed Bd.named Bd.method).1
  have X0 : Stand p l e ({ frames := 0, cells := 0, slots := 0, locals := 0 } : Room) s m #[(.ref a)] below meth c s₁ [] 0 0 := Stand.of_body Bd
  have e0 : s₁.heap = h0 := by rw [← hh, Bd.state]; rfl
  have N0 := Fr.nil n0
  have K0 : Keep h0 h0 [] := Keep.refl h0 _
  refine own_i fun PP hPP => own_s (fun t k => castTop (ef_rm26 m a) k) ?_
  show Go p.tables e below _ (s₁.setTop (mkF m 0 #[.val (.ref a)] []))
  obtain ⟨T1, X1, e1, st1⟩ := getS2 X0 hx hZ hown (host := "") (Or.inl (hw _ (List.mem_of_getElem? (i := 94) rfl))) Via.refl e0 (S_C.ext O0.2) (g := (mkF m 0 #[.val (.ref a)] [])) rfl (hb hby d26_0)
  refine own_s st1 ?_
  show Go p.tables e below _ (T1.setTop (mkF m 3 #[.val (.ref a)] [(.int cz)]))
  refine own_s (fun t k => XS.ifNo X1.here hx rfl (hb hby d26_3) rfl ((if0 _ _).trans (feq hcz).1) k) ?_
  show Go p.tables e below _ (T1.setTop (mkF m 6 #[.val (.ref a)] []))
  refine own_s (fun t k => XS.aloadN X1.here hx rfl (hb hby d26_6) rfl rfl k) ?_
  show Go p.tables e below _ (T1.setTop (mkF m 7 #[.val (.ref a)] [(.ref a)]))
  obtain ⟨T2, X2, e2, st2⟩ := getF X1 hx hZ hown (host := "") (Or.inl (hw _ (List.mem_of_getElem? (i := 62) rfl))) Via.refl e1 F_c_a (g := (mkF m 7 #[.val (.ref a)] [(.ref a)])) rfl rfl (hb hby d26_7)
  refine own_s st2 ?_
  show Go p.tables e below _ (T2.setTop (mkF m 10 #[.val (.ref a)] [(.int (0 : Int32))]))
  refine own_s (fun t k => XS.ifNo X2.here hx rfl (hb hby d26_10) rfl ((if0 _ _).trans (teq (by decide : (0 : Int32) = (0 : Int32))).2) k) ?_
  show Go p.tables e below _ (T2.setTop (mkF m 13 #[.val (.ref a)] []))
  refine own_s (fun t k => XS.iconst X2.here hx rfl (hb hby d26_13) k) ?_
  show Go p.tables e below _ (T2.setTop (mkF m 14 #[.val (.ref a)] [(.int (1 : Int32))]))
  refine own_s (fun t k => XS.goto X2.here hx rfl (pc0 := 14) (pc' := 18) rfl (hb hby d26_14) (by decide) (by decide) k) ?_
  show Go p.tables e below _ (T2.setTop (mkF m 18 #[.val (.ref a)] [(.int (1 : Int32))]))
  obtain ⟨fs, hr, hrun, hended, hW, hsame⟩ := X2.leave (v := (some (.int (1 : Int32)))) (fun h => by first | rfl | (rw [Bd.returns] at h; cases h))
  refine own_e hPP ?_ hrun hended ⟨_, _, rfl, ?_, ⟨_, rfl⟩, hW, hsame.mono (by decide) (by decide)⟩
  · exact retN X2 hx (t := .boolean) Bd.returns (by simp) (hb hby d26_18) hr
  · show Q_rm26 Z cz a h0 n0 _ T2.heap _
    rw [e2]
    exact ⟨rfl, N0, rfl⟩
theorem d29_0 : decode jdk_41_method_11_code 0 = .ok (.iload_n 0, 1) := by decide +kernel
theorem d29_1 : decode jdk_41_method_11_code 1 = .ok (.ifCond .lt 8, 3) := by decide +kernel
theorem d29_4 : decode jdk_41_method_11_code 4 = .ok (.iload_n 0, 1) := by decide +kernel
theorem d29_5 : decode jdk_41_method_11_code 5 = .ok (.iload_n 1, 1) := by decide +kernel
theorem d29_6 : decode jdk_41_method_11_code 6 = .ok (.if_icmp .lt 10, 3) := by decide +kernel
theorem d29_16 : decode jdk_41_method_11_code 16 = .ok (.iload_n 0, 1) := by decide +kernel
theorem d29_17 : decode jdk_41_method_11_code 17 = .ok (.ireturn, 1) := by decide +kernel
theorem pn_jdk_internal_util_Preconditions : plainName "jdk/internal/util/Preconditions" = true := by first | (simp [plainName, overriddenIn]; done) | decide +kernel
theorem ef_rm29 (m : MethodId) (pa : Int32) (qa : Int32) (f : Addr) : entryFrame m #[(.int pa), (.int qa), (.ref f)] 3 = mkF m 0 #[.val (.int pa), .val (.int qa), .val (.ref f)] [] := by first | (simp [entryFrame, mkF, argsToLocals, Value.category]; done) | rfl
def Q_rm29 (Z : State) (pa : Int32) (qa : Int32) (f : Addr) (h0 : Heap) (n0 : Nat) (v : Option Value) (h : Heap) (L : List Loc) : Prop := v = some (.int pa) ∧ Fr n0 L ∧ h = h0
set_option maxRecDepth 65536 in
set_option maxHeartbeats 40000000 in
theorem rm29 (l : Launch) (Z : State) (a0 : Array Value) (hw : ∀ d ∈ tables_1, d.before a0 Z = true) (ws : List Jvm.Cond) (pa : Int32) (qa : Int32) (f : Addr) (h0 : Heap) (n0 : Nat) (O0 : Old Z n0 h0) (hc1 : ¬ (pa < (0 : Int32))) (hc6 : pa < qa) :
    MetFree l (⟨"jdk/internal/util/Preconditions", "checkIndex", "(IILjava/util/function/BiFunction;)I"⟩ : MethodName) (head1 (Jvm.Cond.code (⟨"jdk/internal/util/Preconditions", "checkIndex", "(IILjava/util/function/BiFunction;)I"⟩ : MethodName) jdk_41_method_11_code 3 (some .int) :: ws) ({ frames := 0, cells := 0, slots := 0, locals := 0 } : Room)) (fun aa_ U => aa_ = #[(.int pa), (.int qa), (.ref f)] ∧ Z.Warmed39 U.vm ∧ U.heap = h0) (fun _ _ _ _ _ => True) (fun _ U oo_ U' => ∃ vv_ LL_, oo_ = .returned vv_ ∧ Q_rm29 Z pa qa f h0 n0 vv_ U'.heap LL_ ∧ FrameEnd U oo_ U' LL_ ({ frames := 0, cells := 0, slots := 0, locals := 0 } : Room).cells ({ frames := 0, cells := 0, slots := 0, locals := 0 } : Room).slots) := by
  refine MetFree.of_bodySF (plainFor_of_name pn_jdk_internal_util_Preconditions) hisR ?_
  intro p e s m args below meth c s₁ Bd hml0 hP hK
  obtain ⟨rfl, hZ, hh⟩ := hP
  have hx := Bd.exec
  have hby := Bd.bytes
  have hml : c.maxLocals = 3 := hml0
  have hown : s.vm.findClass "jdk/internal/util/Preconditions" = some m.cls := findClass_of_methodNamed Bd.named
  have hnm := (name_of_methodNamed Bd.named Bd.method).1
  have X0 : Stand p l e ({ frames := 0, cells := 0, slots := 0, locals := 0 } : Room) s m #[(.int pa), (.int qa), (.ref f)] below meth c s₁ [] 0 0 := Stand.of_body Bd
  have e0 : s₁.heap = h0 := by rw [← hh, Bd.state]; rfl
  have N0 := Fr.nil n0
  have K0 : Keep h0 h0 [] := Keep.refl h0 _
  refine own_i fun PP hPP => own_s (fun t k => castTop (ef_rm29 m pa qa f) k) ?_
  show Go p.tables e below _ (s₁.setTop (mkF m 0 #[.val (.int pa), .val (.int qa), .val (.ref f)] []))
  refine own_s (fun t k => XS.iloadN X0.here hx rfl (hb hby d29_0) rfl k) ?_
  show Go p.tables e below _ (s₁.setTop (mkF m 1 #[.val (.int pa), .val (.int qa), .val (.ref f)] [(.int pa)]))
  refine own_s (fun t k => XS.ifNo X0.here hx rfl (hb hby d29_1) rfl ((if0 _ _).trans (flt hc1).1) k) ?_
  show Go p.tables e below _ (s₁.setTop (mkF m 4 #[.val (.int pa), .val (.int qa), .val (.ref f)] []))
  refine own_s (fun t k => XS.iloadN X0.here hx rfl (hb hby d29_4) rfl k) ?_
  show Go p.tables e below _ (s₁.setTop (mkF m 5 #[.val (.int pa), .val (.int qa), .val (.ref f)] [(.int pa)]))
  refine own_s (fun t k => XS.iloadN X0.here hx rfl (hb hby d29_5) rfl k) ?_
  show Go p.tables e below _ (s₁.setTop (mkF m 6 #[.val (.int pa), .val (.int qa), .val (.ref f)] [(.int qa), (.int pa)]))
  refine own_s (fun t k => XS.icmpYes X0.here hx rfl (pc0 := 6) (pc' := 16) rfl (hb hby d29_6) rfl (tlt hc6).1 (by decide) (by decide) k) ?_
  show Go p.tables e below _ (s₁.setTop (mkF m 16 #[.val (.int pa), .val (.int qa), .val (.ref f)] []))
  refine own_s (fun t k => XS.iloadN X0.here hx rfl (hb hby d29_16) rfl k) ?_
  show Go p.tables e below _ (s₁.setTop (mkF m 17 #[.val (.int pa), .val (.int qa), .val (.ref f)] [(.int pa)]))
  obtain ⟨fs, hr, hrun, hended, hW, hsame⟩ := X0.leave (v := (some (.int pa))) (fun h => by first | rfl | (rw [Bd.returns] at h; cases h))
  refine own_e hPP ?_ hrun hended ⟨_, _, rfl, ?_, ⟨_, rfl⟩, hW, hsame.mono (by decide) (by decide)⟩
  · exact retI X0 hx Bd.returns (hb hby d29_17) hr
  · show Q_rm29 Z pa qa f h0 n0 _ s₁.heap _
    rw [e0]
    exact ⟨rfl, N0, rfl⟩
theorem ef_rm29n (m : MethodId) (pa : Int32) (qa : Int32) : entryFrame m #[(.int pa), (.int qa), .null] 3 = mkF m 0 #[.val (.int pa), .val (.int qa), .val .null] [] := by first | (simp [entryFrame, mkF, argsToLocals, Value.category]; done) | rfl
def Q_rm29n (Z : State) (pa : Int32) (qa : Int32) (h0 : Heap) (n0 : Nat) (v : Option Value) (h : Heap) (L : List Loc) : Prop := v = some (.int pa) ∧ Fr n0 L ∧ h = h0
set_option maxRecDepth 65536 in
set_option maxHeartbeats 40000000 in
theorem rm29n (l : Launch) (Z : State) (a0 : Array Value) (hw : ∀ d ∈ tables_1, d.before a0 Z = true) (ws : List Jvm.Cond) (pa : Int32) (qa : Int32) (h0 : Heap) (n0 : Nat) (O0 : Old Z n0 h0) (hc1 : ¬ (pa < (0 : Int32))) (hc6 : pa < qa) :
    MetFree l (⟨"jdk/internal/util/Preconditions", "checkIndex", "(IILjava/util/function/BiFunction;)I"⟩ : MethodName) (head1 (Jvm.Cond.code (⟨"jdk/internal/util/Preconditions", "checkIndex", "(IILjava/util/function/BiFunction;)I"⟩ : MethodName) jdk_41_method_11_code 3 (some .int) :: ws) ({ frames := 0, cells := 0, slots := 0, locals := 0 } : Room)) (fun aa_ U => aa_ = #[(.int pa), (.int qa), .null] ∧ Z.Warmed39 U.vm ∧ U.heap = h0) (fun _ _ _ _ _ => True) (fun _ U oo_ U' => ∃ vv_ LL_, oo_ = .returned vv_ ∧ Q_rm29n Z pa qa h0 n0 vv_ U'.heap LL_ ∧ FrameEnd U oo_ U' LL_ ({ frames := 0, cells := 0, slots := 0, locals := 0 } : Room).cells ({ frames := 0, cells := 0, slots := 0, locals := 0 } : Room).slots) := by
  refine MetFree.of_bodySF (plainFor_of_name pn_jdk_internal_util_Preconditions) hisR ?_
  intro p e s m args below meth c s₁ Bd hml0 hP hK
  obtain ⟨rfl, hZ, hh⟩ := hP
  have hx := Bd.exec
  have hby := Bd.bytes
  have hml : c.maxLocals = 3 := hml0
  have hown : s.vm.findClass "jdk/internal/util/Preconditions" = some m.cls := findClass_of_methodNamed Bd.named
  have hnm := (name_of_methodNamed Bd.named Bd.method).1
  have X0 : Stand p l e ({ frames := 0, cells := 0, slots := 0, locals := 0 } : Room) s m #[(.int pa), (.int qa), .null] below meth c s₁ [] 0 0 := Stand.of_body Bd
  have e0 : s₁.heap = h0 := by rw [← hh, Bd.state]; rfl
  have N0 := Fr.nil n0
  have K0 : Keep h0 h0 [] := Keep.refl h0 _
  refine own_i fun PP hPP => own_s (fun t k => castTop (ef_rm29n m pa qa) k) ?_
  show Go p.tables e below _ (s₁.setTop (mkF m 0 #[.val (.int pa), .val (.int qa), .val .null] []))
  refine own_s (fun t k => XS.iloadN X0.here hx rfl (hb hby d29_0) rfl k) ?_
  show Go p.tables e below _ (s₁.setTop (mkF m 1 #[.val (.int pa), .val (.int qa), .val .null] [(.int pa)]))
  refine own_s (fun t k => XS.ifNo X0.here hx rfl (hb hby d29_1) rfl ((if0 _ _).trans (flt hc1).1) k) ?_
  show Go p.tables e below _ (s₁.setTop (mkF m 4 #[.val (.int pa), .val (.int qa), .val .null] []))
  refine own_s (fun t k => XS.iloadN X0.here hx rfl (hb hby d29_4) rfl k) ?_
  show Go p.tables e below _ (s₁.setTop (mkF m 5 #[.val (.int pa), .val (.int qa), .val .null] [(.int pa)]))
  refine own_s (fun t k => XS.iloadN X0.here hx rfl (hb hby d29_5) rfl k) ?_
  show Go p.tables e below _ (s₁.setTop (mkF m 6 #[.val (.int pa), .val (.int qa), .val .null] [(.int qa), (.int pa)]))
  refine own_s (fun t k => XS.icmpYes X0.here hx rfl (pc0 := 6) (pc' := 16) rfl (hb hby d29_6) rfl (tlt hc6).1 (by decide) (by decide) k) ?_
  show Go p.tables e below _ (s₁.setTop (mkF m 16 #[.val (.int pa), .val (.int qa), .val .null] []))
  refine own_s (fun t k => XS.iloadN X0.here hx rfl (hb hby d29_16) rfl k) ?_
  show Go p.tables e below _ (s₁.setTop (mkF m 17 #[.val (.int pa), .val (.int qa), .val .null] [(.int pa)]))
  obtain ⟨fs, hr, hrun, hended, hW, hsame⟩ := X0.leave (v := (some (.int pa))) (fun h => by first | rfl | (rw [Bd.returns] at h; cases h))
  refine own_e hPP ?_ hrun hended ⟨_, _, rfl, ?_, ⟨_, rfl⟩, hW, hsame.mono (by decide) (by decide)⟩
  · exact retI X0 hx Bd.returns (hb hby d29_17) hr
  · show Q_rm29n Z pa qa h0 n0 _ s₁.heap _
    rw [e0]
    exact ⟨rfl, N0, rfl⟩
theorem d28_0 : decode jdk_42_method_155_code 0 = .ok (.iload_n 0, 1) := by decide +kernel
theorem d28_1 : decode jdk_42_method_155_code 1 = .ok (.iload_n 1, 1) := by decide +kernel
theorem d28_2 : decode jdk_42_method_155_code 2 = .ok (.getstatic 1053, 3) := by decide +kernel
theorem d28_5 : decode jdk_42_method_155_code 5 = .ok (.invokestatic 1059, 3) := by decide +kernel
theorem pd__IILjava_util_function_BiFunction__I : parseMethodDescriptor "(IILjava/util/function/BiFunction;)I" = some ⟨[.int, .int, (.object "java/util/function/BiFunction")], some .int⟩ := by decide +kernel
theorem d28_8 : decode jdk_42_method_155_code 8 = .ok (.pop, 1) := by decide +kernel
theorem d28_9 : decode jdk_42_method_155_code 9 = .ok (.return_, 1) := by decide +kernel
theorem ef_rm28 (m : MethodId) (pa : Int32) (qa : Int32) : entryFrame m #[(.int pa), (.int qa)] 2 = mkF m 0 #[.val (.int pa), .val (.int qa)] [] := by first | (simp [entryFrame, mkF, argsToLocals, Value.category]; done) | rfl
def Q_rm28 (Z : State) (vF : Value) (pa : Int32) (qa : Int32) (h0 : Heap) (n0 : Nat) (v : Option Value) (h : Heap) (L : List Loc) : Prop := v = none ∧ Fr n0 L ∧ h = h0
set_option maxRecDepth 65536 in
set_option maxHeartbeats 40000000 in
theorem rm28 (l : Launch) (Z : State) (a0 : Array Value) (hw : ∀ d ∈ tables_1, d.before a0 Z = true) (ws : List Jvm.Cond) (vF : Value) (pa : Int32) (qa : Int32) (h0 : Heap) (n0 : Nat) (O0 : Old Z n0 h0) (S_F : Sta Z Z.heap "jdk/internal/util/Preconditions" "SIOOBE_FORMATTER" "Ljava/util/function/BiFunction;" vF) (hvF : vF.isRef = true) (hc1 : ¬ (pa < (0 : Int32))) (hc6 : pa < qa) :
    MetFree l (⟨"java/lang/String", "checkIndex", "(II)V"⟩ : MethodName) (head1 (Jvm.Cond.code (⟨"java/lang/String", "checkIndex", "(II)V"⟩ : MethodName) jdk_42_method_155_code 2 none :: ws) ({ frames := 1, cells := 0, slots := 0, locals := 14 } : Room)) (fun aa_ U => aa_ = #[(.int pa), (.int qa)] ∧ Z.Warmed39 U.vm ∧ U.heap = h0) (fun _ _ _ _ _ => True) (fun _ U oo_ U' => ∃ vv_ LL_, oo_ = .returned vv_ ∧ Q_rm28 Z vF pa qa h0 n0 vv_ U'.heap LL_ ∧ FrameEnd U oo_ U' LL_ ({ frames := 1, cells := 0, slots := 0, locals := 14 } : Room).cells ({ frames := 1, cells := 0, slots := 0, locals := 14 } : Room).slots) := by
  refine MetFree.of_bodySF (plainFor_of_name pn_java_lang_String) hisR ?_
  intro p e s m args below meth c s₁ Bd hml0 hP hK
  obtain ⟨rfl, hZ, hh⟩ := hP
  have hx := Bd.exec
  have hby := Bd.bytes
  have hml : c.maxLocals = 2 := hml0
  have hown : s.vm.findClass "java/lang/String" = some m.cls := findClass_of_methodNamed Bd.named
  have hnm := (name_of_methodNamed Bd.named Bd.method).1
  have X0 : Stand p l e ({ frames := 1, cells := 0, slots := 0, locals := 14 } : Room) s m #[(.int pa), (.int qa)] below meth c s₁ [] 0 0 := Stand.of_body Bd
  have e0 : s₁.heap = h0 := by rw [← hh, Bd.state]; rfl
  have N0 := Fr.nil n0
  have K0 : Keep h0 h0 [] := Keep.refl h0 _
  refine own_i fun PP hPP => own_s (fun t k => castTop (ef_rm28 m pa qa) k) ?_
  show Go p.tables e below _ (s₁.setTop (mkF m 0 #[.val (.int pa), .val (.int qa)] []))
  refine own_s (fun t k => XS.iloadN X0.here hx rfl (hb hby d28_0) rfl k) ?_
  show Go p.tables e below _ (s₁.setTop (mkF m 1 #[.val (.int pa), .val (.int qa)] [(.int pa)]))
  refine own_s (fun t k => XS.iloadN X0.here hx rfl (hb hby d28_1) rfl k) ?_
  show Go p.tables e below _ (s₁.setTop (mkF m 2 #[.val (.int pa), .val (.int qa)] [(.int qa), (.int pa)]))
  rcases ref_cases hvF with hv | ⟨uF, hv⟩
  ·
    have S_F0 : Sta Z Z.heap "jdk/internal/util/Preconditions" "SIOOBE_FORMATTER" "Ljava/util/function/BiFunction;" .null := hv ▸ S_F
    show Go p.tables e below _ (s₁.setTop (mkF m 2 #[.val (.int pa), .val (.int qa)] [(.int qa), (.int pa)]))
    obtain ⟨T1, X1, e1, st1⟩ := getS2 X0 hx hZ hown (host := "") (Or.inl (hw _ (List.mem_of_getElem? (i := 142) rfl))) Via.refl e0 (S_F0.ext O0.2) (g := (mkF m 2 #[.val (.int pa), .val (.int qa)] [(.int qa), (.int pa)])) rfl (hb hby d28_2)
    refine own_s st1 ?_
    show Go p.tables e below _ (T1.setTop (mkF m 5 #[.val (.int pa), .val (.int qa)] [.null, (.int qa), (.int pa)]))
    obtain ⟨_, _, ⟨T2, L2, k2, n2⟩, -, X2, ⟨Lc2, hQ2, l2, y2, z2⟩, st2⟩ := Jvm.LawKit.callS X1 hx (y := (⟨"jdk/internal/util/Preconditions", "checkIndex", "(IILjava/util/function/BiFunction;)I"⟩ : MethodName)) hown (mvT hZ (hw _ (List.mem_of_getElem? (i := 144) rfl))) (mvT hZ (hw _ (List.mem_of_getElem? (i := 145) rfl))) (mvT hZ (hw _ (List.mem_of_getElem? (i := 143) rfl))) (mvT hZ (hw _ (List.mem_of_getElem? (i := 146) rfl))) (by decide) (backOf (W := 0) (rm29n l Z a0 hw [] pa qa h0 n0 O0 hc1 hc6) hZ (hw _ (List.mem_of_getElem? (i := 146) rfl)) (hw _ (List.mem_of_getElem? (i := 143) rfl)) (by decide) (by decide)) (g := (mkF m 5 #[.val (.int pa), .val (.int qa)] [.null, (.int qa), (.int pa)])) rfl (by rw [hml]; rfl) (argsL := [(.int pa), (.int qa), .null]) (rest := []) (lenOf pd__IILjava_util_function_BiFunction__I rfl) rfl (by show 2 * 0 + _ ≤ _; exact Nat.le_of_eq rfl) (hb hby d28_5) (fun _ _ => ⟨rfl, e1, (by decide : 0 + 0 ≤ _), (by decide : 0 + 0 ≤ _)⟩)
    dsimp only [Pt.U, Pt.locs, Pt.cells, Pt.slots] at X2 l2 y2 z2 st2 hQ2
    subst l2 y2 z2
    obtain ⟨rfl, N2q, eq2⟩ := hQ2
    have N2 := Fr.app N0 N2q
    refine own_s st2 ?_
    show Go p.tables e below _ (T2.setTop (mkF m 8 #[.val (.int pa), .val (.int qa)] [(.int pa)]))
    refine own_s (fun t k => XS.pop X2.here hx rfl (hb hby d28_8) rfl rfl k) ?_
    show Go p.tables e below _ (T2.setTop (mkF m 9 #[.val (.int pa), .val (.int qa)] []))
    obtain ⟨fs, hr, hrun, hended, hW, hsame⟩ := X2.leave (v := none) (fun h => by first | rfl | (rw [Bd.returns] at h; cases h))
    refine own_e hPP ?_ hrun hended ⟨_, _, rfl, ?_, ⟨_, rfl⟩, hW, hsame.mono (by decide) (by decide)⟩
    · exact X2.returnOut hx Bd.returns (hb hby d28_9) hr
    · show Q_rm28 Z vF pa qa h0 n0 _ T2.heap _
      rw [eq2]
      exact ⟨rfl, N2, rfl⟩
  ·
    have S_F1 : Sta Z Z.heap "jdk/internal/util/Preconditions" "SIOOBE_FORMATTER" "Ljava/util/function/BiFunction;" (.ref uF) := hv ▸ S_F
    show Go p.tables e below _ (s₁.setTop (mkF m 2 #[.val (.int pa), .val (.int qa)] [(.int qa), (.int pa)]))
    obtain ⟨T3, X3, e3, st3⟩ := getS2 X0 hx hZ hown (host := "") (Or.inl (hw _ (List.mem_of_getElem? (i := 142) rfl))) Via.refl e0 (S_F1.ext O0.2) (g := (mkF m 2 #[.val (.int pa), .val (.int qa)] [(.int qa), (.int pa)])) rfl (hb hby d28_2)
    refine own_s st3 ?_
    show Go p.tables e below _ (T3.setTop (mkF m 5 #[.val (.int pa), .val (.int qa)] [(.ref uF), (.int qa), (.int pa)]))
    obtain ⟨_, _, ⟨T4, L4, k4, n4⟩, -, X4, ⟨Lc4, hQ4, l4, y4, z4⟩, st4⟩ := Jvm.LawKit.callS X3 hx (y := (⟨"jdk/internal/util/Preconditions", "checkIndex", "(IILjava/util/function/BiFunction;)I"⟩ : MethodName)) hown (mvT hZ (hw _ (List.mem_of_getElem? (i := 144) rfl))) (mvT hZ (hw _ (List.mem_of_getElem? (i := 145) rfl))) (mvT hZ (hw _ (List.mem_of_getElem? (i := 143) rfl))) (mvT hZ (hw _ (List.mem_of_getElem? (i := 146) rfl))) (by decide) (backOf (W := 0) (rm29 l Z a0 hw [] pa qa uF h0 n0 O0 hc1 hc6) hZ (hw _ (List.mem_of_getElem? (i := 146) rfl)) (hw _ (List.mem_of_getElem? (i := 143) rfl)) (by decide) (by decide)) (g := (mkF m 5 #[.val (.int pa), .val (.int qa)] [(.ref uF), (.int qa), (.int pa)])) rfl (by rw [hml]; rfl) (argsL := [(.int pa), (.int qa), (.ref uF)]) (rest := []) (lenOf pd__IILjava_util_function_BiFunction__I rfl) rfl (by show 2 * 0 + _ ≤ _; exact Nat.le_of_eq rfl) (hb hby d28_5) (fun _ _ => ⟨rfl, e3, (by decide : 0 + 0 ≤ _), (by decide : 0 + 0 ≤ _)⟩)
    dsimp only [Pt.U, Pt.locs, Pt.cells, Pt.slots] at X4 l4 y4 z4 st4 hQ4
    subst l4 y4 z4
    obtain ⟨rfl, N4q, eq4⟩ := hQ4
    have N4 := Fr.app N0 N4q
    refine own_s st4 ?_
    show Go p.tables e below _ (T4.setTop (mkF m 8 #[.val (.int pa), .val (.int qa)] [(.int pa)]))
    refine own_s (fun t k => XS.pop X4.here hx rfl (hb hby d28_8) rfl rfl k) ?_
    show Go p.tables e below _ (T4.setTop (mkF m 9 #[.val (.int pa), .val (.int qa)] []))
    obtain ⟨fs, hr, hrun, hended, hW, hsame⟩ := X4.leave (v := none) (fun h => by first | rfl | (rw [Bd.returns] at h; cases h))
    refine own_e hPP ?_ hrun hended ⟨_, _, rfl, ?_, ⟨_, rfl⟩, hW, hsame.mono (by decide) (by decide)⟩
    · exact X4.returnOut hx Bd.returns (hb hby d28_9) hr
    · show Q_rm28 Z vF pa qa h0 n0 _ T4.heap _
      rw [eq4]
      exact ⟨rfl, N4, rfl⟩
def own_gb (cs : List Int32) (off : Int32) : Int32 := cs.getD off.toNatClampNeg 0
theorem d27_0 : decode jdk_43_method_2_code 0 = .ok (.iload_n 1, 1) := by decide +kernel
theorem d27_1 : decode jdk_43_method_2_code 1 = .ok (.aload_n 0, 1) := by decide +kernel
theorem d27_2 : decode jdk_43_method_2_code 2 = .ok (.arraylength, 1) := by decide +kernel
theorem d27_3 : decode jdk_43_method_2_code 3 = .ok (.invokestatic 9, 3) := by decide +kernel
theorem d27_6 : decode jdk_43_method_2_code 6 = .ok (.aload_n 0, 1) := by decide +kernel
theorem d27_7 : decode jdk_43_method_2_code 7 = .ok (.iload_n 1, 1) := by decide +kernel
theorem d27_8 : decode jdk_43_method_2_code 8 = .ok (.baload, 1) := by decide +kernel
theorem d27_9 : decode jdk_43_method_2_code 9 = .ok (.sipush 255, 3) := by decide +kernel
theorem d27_12 : decode jdk_43_method_2_code 12 = .ok (.iand, 1) := by decide +kernel
theorem d27_13 : decode jdk_43_method_2_code 13 = .ok (.i2c, 1) := by decide +kernel
theorem d27_14 : decode jdk_43_method_2_code 14 = .ok (.ireturn, 1) := by decide +kernel
def own_ch (cs : List Int32) (off : Int32) : Int32 := (nar .char (((own_gb cs off) &&& (255 : Int32)).toUInt32.toUInt16.toUInt32.toInt32))
theorem ef_rm27 (m : MethodId) (a : Addr) (off : Int32) : entryFrame m #[(.ref a), (.int off)] 2 = mkF m 0 #[.val (.ref a), .val (.int off)] [] := by first | (simp [entryFrame, mkF, argsToLocals, Value.category]; done) | rfl
def Q_rm27 (Z : State) (cs : List Int32) (ka : ClassId) (vF : Value) (a : Addr) (off : Int32) (h0 : Heap) (n0 : Nat) (v : Option Value) (h : Heap) (L : List Loc) : Prop := v = some (.int (own_ch cs off)) ∧ Fr n0 L ∧ h = h0
set_option maxRecDepth 65536 in
set_option maxHeartbeats 40000000 in
theorem rm27 (l : Launch) (Z : State) (a0 : Array Value) (hw : ∀ d ∈ tables_1, d.before a0 Z = true) (ws : List Jvm.Cond) (cs : List Int32) (ka : ClassId) (vF : Value) (a : Addr) (off : Int32) (h0 : Heap) (n0 : Nat) (O0 : Old Z n0 h0) (S_F : Sta Z Z.heap "jdk/internal/util/Preconditions" "SIOOBE_FORMATTER" "Ljava/util/function/BiFunction;" vF) (hvF : vF.isRef = true) (V_a : Arv Z h0 a ka .byte (Int32.ofNat cs.length) (own_vs cs) (.int (0 : Int32))) (hbig : cs.length < 1000) (h1 : ¬ (off < (0 : Int32))) (h2 : off < (Int32.ofNat cs.length)) :
    MetFree l (⟨"java/lang/StringLatin1", "charAt", "([BI)C"⟩ : MethodName) (head1 (Jvm.Cond.code (⟨"java/lang/StringLatin1", "charAt", "([BI)C"⟩ : MethodName) jdk_43_method_2_code 2 (some .char) :: ws) ({ frames := 2, cells := 0, slots := 0, locals := 27 } : Room)) (fun aa_ U => aa_ = #[(.ref a), (.int off)] ∧ Z.Warmed39 U.vm ∧ U.heap = h0) (fun _ _ _ _ _ => True) (fun _ U oo_ U' => ∃ vv_ LL_, oo_ = .returned vv_ ∧ Q_rm27 Z cs ka vF a off h0 n0 vv_ U'.heap LL_ ∧ FrameEnd U oo_ U' LL_ ({ frames := 2, cells := 0, slots := 0, locals := 27 } : Room).cells ({ frames := 2, cells := 0, slots := 0, locals := 27 } : Room).slots) := by
  refine MetFree.of_bodySF (plainFor_of_name pn_java_lang_StringLatin1) hisR ?_
  intro p e s m args below meth c s₁ Bd hml0 hP hK
  obtain ⟨rfl, hZ, hh⟩ := hP
  have hx := Bd.exec
  have hby := Bd.bytes
  have hml : c.maxLocals = 2 := hml0
  have hown : s.vm.findClass "java/lang/StringLatin1" = some m.cls := findClass_of_methodNamed Bd.named
  have hnm := (name_of_methodNamed Bd.named Bd.method).1
  have X0 : Stand p l e ({ frames := 2, cells := 0, slots := 0, locals := 27 } : Room) s m #[(.ref a), (.int off)] below meth c s₁ [] 0 0 := Stand.of_body Bd
  have e0 : s₁.heap = h0 := by rw [← hh, Bd.state]; rfl
  have N0 := Fr.nil n0
  have K0 : Keep h0 h0 [] := Keep.refl h0 _
  refine own_i fun PP hPP => own_s (fun t k => castTop (ef_rm27 m a off) k) ?_
  show Go p.tables e below _ (s₁.setTop (mkF m 0 #[.val (.ref a), .val (.int off)] []))
  refine own_s (fun t k => XS.iloadN X0.here hx rfl (hb hby d27_0) rfl k) ?_
  show Go p.tables e below _ (s₁.setTop (mkF m 1 #[.val (.ref a), .val (.int off)] [(.int off)]))
  refine own_s (fun t k => XS.aloadN X0.here hx rfl (hb hby d27_1) rfl rfl k) ?_
  show Go p.tables e below _ (s₁.setTop (mkF m 2 #[.val (.ref a), .val (.int off)] [(.ref a), (.int off)]))
  obtain ⟨cl1, Ar1, qk1, Sz1, Nn1, Hs1, Gf1⟩ := id V_a
  refine own_s (X0.arraylength hx (by rw [e0]; exact Ar1.1) (State.isArrayOf_alike hZ.alike Ar1.2.1) (g := (mkF m 2 #[.val (.ref a), .val (.int off)] [(.ref a), (.int off)])) rfl rfl (hb hby d27_2)) ?_
  rw [len_of Sz1 Nn1]
  show Go p.tables e below _ (s₁.setTop (mkF m 3 #[.val (.ref a), .val (.int off)] [(.int (Int32.ofNat cs.length)), (.int off)]))
  obtain ⟨_, _, ⟨T2, L2, k2, n2⟩, -, X2, ⟨Lc2, hQ2, l2, y2, z2⟩, st2⟩ := Jvm.LawKit.callS X0 hx (y := (⟨"java/lang/String", "checkIndex", "(II)V"⟩ : MethodName)) hown (mvT hZ (hw _ (List.mem_of_getElem? (i := 139) rfl))) (mvT hZ (hw _ (List.mem_of_getElem? (i := 140) rfl))) (mvT hZ (hw _ (List.mem_of_getElem? (i := 21) rfl))) (mvT hZ (hw _ (List.mem_of_getElem? (i := 141) rfl))) (by decide) (backOf (W := 0) (rm28 l Z a0 hw [] vF off (Int32.ofNat cs.length) h0 n0 O0 S_F hvF h1 h2) hZ (hw _ (List.mem_of_getElem? (i := 141) rfl)) (hw _ (List.mem_of_getElem? (i := 21) rfl)) (by decide) (by decide)) (g := (mkF m 3 #[.val (.ref a), .val (.int off)] [(.int (Int32.ofNat cs.length)), (.int off)])) rfl (by rw [hml]; rfl) (argsL := [(.int off), (.int (Int32.ofNat cs.length))]) (rest := []) (lenOf pd__II_V rfl) rfl (by show 2 * 0 + _ ≤ _; exact Nat.le_of_eq rfl) (hb hby d27_3) (fun _ _ => ⟨rfl, e0, (by decide : 0 + 0 ≤ _), (by decide : 0 + 0 ≤ _)⟩)
  dsimp only [Pt.U, Pt.locs, Pt.cells, Pt.slots] at X2 l2 y2 z2 st2 hQ2
  subst l2 y2 z2
  obtain ⟨rfl, N2q, eq2⟩ := hQ2
  have N2 := Fr.app N0 N2q
  refine own_s st2 ?_
  show Go p.tables e below _ (T2.setTop (mkF m 6 #[.val (.ref a), .val (.int off)] []))
  refine own_s (fun t k => XS.aloadN X2.here hx rfl (hb hby d27_6) rfl rfl k) ?_
  show Go p.tables e below _ (T2.setTop (mkF m 7 #[.val (.ref a), .val (.int off)] [(.ref a)]))
  refine own_s (fun t k => XS.iloadN X2.here hx rfl (hb hby d27_7) rfl k) ?_
  show Go p.tables e below _ (T2.setTop (mkF m 8 #[.val (.ref a), .val (.int off)] [(.int off), (.ref a)]))
  obtain ⟨cl3, Ar3, qk3, Sz3, Nn3, Hs3, Gf3⟩ := id V_a
  have hin3 : ¬ (off < 0 ∨ cl3.slots.size ≤ (off).toNatClampNeg) := inb_of Sz3 ⟨h1, h2⟩
  have hat3 : cl3.slots[(off).toNatClampNeg]? = some (.int (own_gb cs off)) := Has.at Hs3 hin3 (own_vs_get _ _)
  refine own_s (X2.baloadBytes hx (j := off) (v := (.int (own_gb cs off))) (by rw [eq2]; exact Ar3.1) (State.isArrayOf_alike hZ.alike Ar3.2.1) Ar3.2.2 hin3 hat3 (g := (mkF m 8 #[.val (.ref a), .val (.int off)] [(.int off), (.ref a)])) rfl rfl (hb hby d27_8)) ?_
  show Go p.tables e below _ (T2.setTop (mkF m 9 #[.val (.ref a), .val (.int off)] [(.int (own_gb cs off))]))
  refine own_s (fun t k => XS.sipush X2.here hx rfl (hb hby d27_9) k) ?_
  show Go p.tables e below _ (T2.setTop (mkF m 12 #[.val (.ref a), .val (.int off)] [(.int (255 : Int32)), (.int (own_gb cs off))]))
  refine own_s (fun t k => XS.iand X2.here hx rfl (hb hby d27_12) rfl k) ?_
  show Go p.tables e below _ (T2.setTop (mkF m 13 #[.val (.ref a), .val (.int off)] [(.int ((own_gb cs off) &&& (255 : Int32)))]))
  refine own_s (fun t k => XS.i2c X2.here hx rfl (hb hby d27_13) rfl k) ?_
  show Go p.tables e below _ (T2.setTop (mkF m 14 #[.val (.ref a), .val (.int off)] [(.int (((own_gb cs off) &&& (255 : Int32)).toUInt32.toUInt16.toUInt32.toInt32))]))
  obtain ⟨fs, hr, hrun, hended, hW, hsame⟩ := X2.leave (v := (some (.int (nar .char (((own_gb cs off) &&& (255 : Int32)).toUInt32.toUInt16.toUInt32.toInt32))))) (fun h => by first | rfl | (rw [Bd.returns] at h; cases h))
  refine own_e hPP ?_ hrun hended ⟨_, _, rfl, ?_, ⟨_, rfl⟩, hW, hsame.mono (by decide) (by decide)⟩
  · exact retN X2 hx (t := .char) Bd.returns (by simp) (hb hby d27_14) hr
  · show Q_rm27 Z cs ka vF a off h0 n0 _ T2.heap _
    rw [eq2]
    exact ⟨congrArg (fun z => some (Value.int z)) (show (nar .char (((own_gb cs off) &&& (255 : Int32)).toUInt32.toUInt16.toUInt32.toInt32)) = (own_ch cs off) from by rw [own_ch]), N2, rfl⟩
theorem d25_0 : decode jdk_42_method_56_code 0 = .ok (.aload_n 0, 1) := by decide +kernel
theorem d25_1 : decode jdk_42_method_56_code 1 = .ok (.invokevirtual 492, 3) := by decide +kernel
theorem d25_4 : decode jdk_42_method_56_code 4 = .ok (.ifCond .eq 12, 3) := by decide +kernel
theorem d25_7 : decode jdk_42_method_56_code 7 = .ok (.aload_n 0, 1) := by decide +kernel
theorem d25_8 : decode jdk_42_method_56_code 8 = .ok (.getfield 9, 3) := by decide +kernel
theorem d25_11 : decode jdk_42_method_56_code 11 = .ok (.iload_n 1, 1) := by decide +kernel
theorem d25_12 : decode jdk_42_method_56_code 12 = .ok (.invokestatic 495, 3) := by decide +kernel
theorem pd___BI_C : parseMethodDescriptor "([BI)C" = some ⟨[(.array .byte), .int], some .char⟩ := by decide +kernel
theorem d25_15 : decode jdk_42_method_56_code 15 = .ok (.ireturn, 1) := by decide +kernel
def own_charAt (cs : List Int32) (off : Int32) : Int32 := (nar .char (own_ch cs off))
theorem ef_rm25 (m : MethodId) (a : Addr) (off : Int32) : entryFrame m #[(.ref a), (.int off)] 2 = mkF m 0 #[.val (.ref a), .val (.int off)] [] := by first | (simp [entryFrame, mkF, argsToLocals, Value.category]; done) | rfl
def Q_rm25 (Z : State) (cz : Int32) (cs : List Int32) (t_a : Addr) (k_a : ClassId) (vF : Value) (a : Addr) (off : Int32) (h0 : Heap) (n0 : Nat) (v : Option Value) (h : Heap) (L : List Loc) : Prop := v = some (.int (own_charAt cs off)) ∧ Fr n0 L ∧ h = h0
set_option maxRecDepth 65536 in
set_option maxHeartbeats 40000000 in
theorem rm25 (l : Launch) (Z : State) (a0 : Array Value) (hw : ∀ d ∈ tables_1, d.before a0 Z = true) (ws : List Jvm.Cond) (cz : Int32) (cs : List Int32) (t_a : Addr) (k_a : ClassId) (vF : Value) (a : Addr) (off : Int32) (h0 : Heap) (n0 : Nat) (O0 : Old Z n0 h0) (S_C : Sta Z Z.heap "java/lang/String" "COMPACT_STRINGS" "Z" (.int cz)) (hcz : ¬ (cz = (0 : Int32))) (S_F : Sta Z Z.heap "jdk/internal/util/Preconditions" "SIOOBE_FORMATTER" "Ljava/util/function/BiFunction;" vF) (hvF : vF.isRef = true) (hbig : cs.length < 1000) (F_v_a : Fld Z h0 a "java/lang/String" "value" "[B" (.ref t_a)) (F_c_a : Fld Z h0 a "java/lang/String" "coder" "B" (.int (0 : Int32))) (E_a : Exa Z h0 a "java/lang/String") (V_a : Arv Z h0 t_a k_a .byte (Int32.ofNat cs.length) (own_vs cs) (.int (0 : Int32))) (h1 : ¬ (off < (0 : Int32))) (h2 : off < (Int32.ofNat cs.length)) :
    MetFree l (⟨"java/lang/String", "charAt", "(I)C"⟩ : MethodName) (head1 (Jvm.Cond.code (⟨"java/lang/String", "charAt", "(I)C"⟩ : MethodName) jdk_42_method_56_code 2 (some .char) :: ws) ({ frames := 3, cells := 0, slots := 0, locals := 40 } : Room)) (fun aa_ U => aa_ = #[(.ref a), (.int off)] ∧ Z.Warmed39 U.vm ∧ U.heap = h0) (fun _ _ _ _ _ => True) (fun _ U oo_ U' => ∃ vv_ LL_, oo_ = .returned vv_ ∧ Q_rm25 Z cz cs t_a k_a vF a off h0 n0 vv_ U'.heap LL_ ∧ FrameEnd U oo_ U' LL_ ({ frames := 3, cells := 0, slots := 0, locals := 40 } : Room).cells ({ frames := 3, cells := 0, slots := 0, locals := 40 } : Room).slots) := by
  refine MetFree.of_bodySF (plainFor_of_name pn_java_lang_String) hisR ?_
  intro p e s m args below meth c s₁ Bd hml0 hP hK
  obtain ⟨rfl, hZ, hh⟩ := hP
  have hx := Bd.exec
  have hby := Bd.bytes
  have hml : c.maxLocals = 2 := hml0
  have hown : s.vm.findClass "java/lang/String" = some m.cls := findClass_of_methodNamed Bd.named
  have hnm := (name_of_methodNamed Bd.named Bd.method).1
  have X0 : Stand p l e ({ frames := 3, cells := 0, slots := 0, locals := 40 } : Room) s m #[(.ref a), (.int off)] below meth c s₁ [] 0 0 := Stand.of_body Bd
  have e0 : s₁.heap = h0 := by rw [← hh, Bd.state]; rfl
  have N0 := Fr.nil n0
  have K0 : Keep h0 h0 [] := Keep.refl h0 _
  refine own_i fun PP hPP => own_s (fun t k => castTop (ef_rm25 m a off) k) ?_
  show Go p.tables e below _ (s₁.setTop (mkF m 0 #[.val (.ref a), .val (.int off)] []))
  refine own_s (fun t k => XS.aloadN X0.here hx rfl (hb hby d25_0) rfl rfl k) ?_
  show Go p.tables e below _ (s₁.setTop (mkF m 1 #[.val (.ref a), .val (.int off)] [(.ref a)]))
  obtain ⟨cq1, kq1, q1a, q1b, q1c⟩ := isOf hZ e0 E_a
  obtain ⟨_, _, ⟨T1, L1, k1, n1⟩, -, X1, ⟨Lc1, hQ1, l1, y1, z1⟩, st1⟩ := X0.virtualBack hx (y := (⟨"java/lang/String", "isLatin1", "()Z"⟩ : MethodName)) (z := (⟨"java/lang/String", "isLatin1", "()Z"⟩ : MethodName)) hown (mvT hZ (hw _ (List.mem_of_getElem? (i := 131) rfl))) (mvT hZ (hw _ (List.mem_of_getElem? (i := 132) rfl))) (notFace_of_selects (args := #[]) (mvT hZ (hw _ (List.mem_of_getElem? (i := 134) rfl)))) (mvT hZ (hw _ (List.mem_of_getElem? (i := 134) rfl))) (mvT hZ (hw _ (List.mem_of_getElem? (i := 133) rfl))) (by decide) (backOf (W := 0) (rm26 l Z a0 hw [] cz a h0 n0 O0 S_C hcz F_c_a) hZ (hw _ (List.mem_of_getElem? (i := 135) rfl)) (hw _ (List.mem_of_getElem? (i := 21) rfl)) (by decide) (by decide)) q1a q1c (g := (mkF m 1 #[.val (.ref a), .val (.int off)] [(.ref a)])) rfl (by rw [hml]; rfl) (Steps.refl _) (argsL := []) (rest := []) (lenOf pd___Z rfl) rfl (by show 2 * 0 + _ ≤ _; exact Nat.le_of_eq rfl) (hb hby d25_1) (fun _ _ => ⟨rfl, e0, (by decide : 0 + 0 ≤ _), (by decide : 0 + 0 ≤ _)⟩)
  dsimp only [Pt.U, Pt.locs, Pt.cells, Pt.slots] at X1 l1 y1 z1 st1 hQ1
  subst l1 y1 z1
  obtain ⟨rfl, N1q, eq1⟩ := hQ1
  have N1 := Fr.app N0 N1q
  refine own_t st1 ?_
  show Go p.tables e below _ (T1.setTop (mkF m 4 #[.val (.ref a), .val (.int off)] [(.int (1 : Int32))]))
  refine own_s (fun t k => XS.ifNo X1.here hx rfl (hb hby d25_4) rfl ((if0 _ _).trans (feq (by decide : ¬ ((1 : Int32) = (0 : Int32)))).1) k) ?_
  show Go p.tables e below _ (T1.setTop (mkF m 7 #[.val (.ref a), .val (.int off)] []))
  refine own_s (fun t k => XS.aloadN X1.here hx rfl (hb hby d25_7) rfl rfl k) ?_
  show Go p.tables e below _ (T1.setTop (mkF m 8 #[.val (.ref a), .val (.int off)] [(.ref a)]))
  obtain ⟨T2, X2, e2, st2⟩ := getF X1 hx hZ hown (host := "") (Or.inl (hw _ (List.mem_of_getElem? (i := 82) rfl))) Via.refl eq1 F_v_a (g := (mkF m 8 #[.val (.ref a), .val (.int off)] [(.ref a)])) rfl rfl (hb hby d25_8)
  refine own_s st2 ?_
  show Go p.tables e below _ (T2.setTop (mkF m 11 #[.val (.ref a), .val (.int off)] [(.ref t_a)]))
  refine own_s (fun t k => XS.iloadN X2.here hx rfl (hb hby d25_11) rfl k) ?_
  show Go p.tables e below _ (T2.setTop (mkF m 12 #[.val (.ref a), .val (.int off)] [(.int off), (.ref t_a)]))
  obtain ⟨_, _, ⟨T3, L3, k3, n3⟩, -, X3, ⟨Lc3, hQ3, l3, y3, z3⟩, st3⟩ := Jvm.LawKit.callS X2 hx (y := (⟨"java/lang/StringLatin1", "charAt", "([BI)C"⟩ : MethodName)) hown (mvT hZ (hw _ (List.mem_of_getElem? (i := 136) rfl))) (mvT hZ (hw _ (List.mem_of_getElem? (i := 137) rfl))) (mvT hZ (hw _ (List.mem_of_getElem? (i := 112) rfl))) (mvT hZ (hw _ (List.mem_of_getElem? (i := 138) rfl))) (by decide) (backOf (W := 0) (rm27 l Z a0 hw [] cs k_a vF t_a off h0 n0 O0 S_F hvF V_a hbig h1 h2) hZ (hw _ (List.mem_of_getElem? (i := 138) rfl)) (hw _ (List.mem_of_getElem? (i := 112) rfl)) (by decide) (by decide)) (g := (mkF m 12 #[.val (.ref a), .val (.int off)] [(.int off), (.ref t_a)])) rfl (by rw [hml]; rfl) (argsL := [(.ref t_a), (.int off)]) (rest := []) (lenOf pd___BI_C rfl) rfl (by show 2 * 0 + _ ≤ _; exact Nat.le_of_eq rfl) (hb hby d25_12) (fun _ _ => ⟨rfl, e2, (by decide : 0 + 0 ≤ _), (by decide : 0 + 0 ≤ _)⟩)
  dsimp only [Pt.U, Pt.locs, Pt.cells, Pt.slots] at X3 l3 y3 z3 st3 hQ3
  subst l3 y3 z3
  obtain ⟨rfl, N3q, eq3⟩ := hQ3
  have N3 := Fr.app N1 N3q
  refine own_s st3 ?_
  show Go p.tables e below _ (T3.setTop (mkF m 15 #[.val (.ref a), .val (.int off)] [(.int (own_ch cs off))]))
  obtain ⟨fs, hr, hrun, hended, hW, hsame⟩ := X3.leave (v := (some (.int (nar .char (own_ch cs off))))) (fun h => by first | rfl | (rw [Bd.returns] at h; cases h))
  refine own_e hPP ?_ hrun hended ⟨_, _, rfl, ?_, ⟨_, rfl⟩, hW, hsame.mono (by decide) (by decide)⟩
  · exact retN X3 hx (t := .char) Bd.returns (by simp) (hb hby d25_15) hr
  · show Q_rm25 Z cz cs t_a k_a vF a off h0 n0 _ T3.heap _
    rw [eq3]
    exact ⟨congrArg (fun z => some (Value.int z)) (show (nar .char (own_ch cs off)) = (own_charAt cs off) from by rw [own_charAt]), N3, rfl⟩
def own_find : List Int32 → Int32 → Nat → Int32
  | [], _, _ => -1
  | x :: xs, t, i => if x = t then Int32.ofNat i else own_find xs t (i + 1)
theorem own_find_end {cs : List Int32} {t : Int32} {i : Nat} (h : cs.length ≤ i) : own_find (cs.drop i) t i = -1 := by rw [List.drop_eq_nil_of_le h]; rfl
theorem own_drop_cons {cs : List Int32} {i : Nat} (h : i < cs.length) : cs.drop i = cs.getD i 0 :: cs.drop (i + 1) := by
  rw [List.drop_eq_getElem_cons h, List.getD_eq_getElem?_getD, List.getElem?_eq_getElem h]; rfl
theorem own_find_hit {cs : List Int32} {t : Int32} {i : Nat} (h : i < cs.length) (e : cs.getD i 0 = t) : own_find (cs.drop i) t i = Int32.ofNat i := by
  rw [own_drop_cons h]; exact if_pos e
theorem own_find_miss {cs : List Int32} {t : Int32} {i : Nat} (h : i < cs.length) (e : ¬ (cs.getD i 0 = t)) : own_find (cs.drop i) t i = own_find (cs.drop (i + 1)) t (i + 1) := by
  rw [own_drop_cons h]; exact if_neg e
theorem own_nlt {i n : Nat} (h : n ≤ i) (hi : i < 2 ^ 31) : ¬ (Int32.ofNat i < Int32.ofNat n) := by
  rw [Int32.lt_iff_toInt_lt, own_oi hi, own_oi (Nat.lt_of_le_of_lt h hi)]; omega
theorem d36_0 : decode jdk_43_method_23_code 0 = .ok (.iload_n 1, 1) := by decide +kernel
theorem d36_1 : decode jdk_43_method_23_code 1 = .ok (.i2b, 1) := by decide +kernel
theorem d36_2 : decode jdk_43_method_23_code 2 = .ok (.istore 4, 2) := by decide +kernel
theorem d36_4 : decode jdk_43_method_23_code 4 = .ok (.iload_n 2, 1) := by decide +kernel
theorem d36_5 : decode jdk_43_method_23_code 5 = .ok (.istore 5, 2) := by decide +kernel
theorem d36_7 : decode jdk_43_method_23_code 7 = .ok (.iload 5, 2) := by decide +kernel
theorem d36_9 : decode jdk_43_method_23_code 9 = .ok (.iload_n 3, 1) := by decide +kernel
theorem d36_10 : decode jdk_43_method_23_code 10 = .ok (.if_icmp .ge 21, 3) := by decide +kernel
theorem d36_31 : decode jdk_43_method_23_code 31 = .ok (.iconst (-1), 1) := by decide +kernel
theorem d36_32 : decode jdk_43_method_23_code 32 = .ok (.ireturn, 1) := by decide +kernel
theorem d36_13 : decode jdk_43_method_23_code 13 = .ok (.aload_n 0, 1) := by decide +kernel
theorem d36_14 : decode jdk_43_method_23_code 14 = .ok (.iload 5, 2) := by decide +kernel
theorem d36_16 : decode jdk_43_method_23_code 16 = .ok (.baload, 1) := by decide +kernel
theorem d36_17 : decode jdk_43_method_23_code 17 = .ok (.iload 4, 2) := by decide +kernel
theorem d36_19 : decode jdk_43_method_23_code 19 = .ok (.if_icmp .ne 6, 3) := by decide +kernel
theorem d36_22 : decode jdk_43_method_23_code 22 = .ok (.iload 5, 2) := by decide +kernel
theorem d36_24 : decode jdk_43_method_23_code 24 = .ok (.ireturn, 1) := by decide +kernel
theorem d36_25 : decode jdk_43_method_23_code 25 = .ok (.iinc 5 1, 3) := by decide +kernel
theorem d36_28 : decode jdk_43_method_23_code 28 = .ok (.goto (-21), 3) := by decide +kernel
theorem ef_rm36 (m : MethodId) (a : Addr) (ch : Int32) (cs : List Int32) : entryFrame m #[(.ref a), (.int ch), (.int (0 : Int32)), (.int (Int32.ofNat cs.length))] 6 = mkF m 0 #[.val (.ref a), .val (.int ch), .val (.int (0 : Int32)), .val (.int (Int32.ofNat cs.length)), .unset, .unset] [] := by first | (simp [entryFrame, mkF, argsToLocals, Value.category]; done) | rfl
def Q_rm36 (Z : State) (cs : List Int32) (ka : ClassId) (a : Addr) (ch : Int32) (h0 : Heap) (n0 : Nat) (v : Option Value) (h : Heap) (L : List Loc) : Prop := v = some (.int (own_find cs (ch.toInt8.toInt32) 0)) ∧ Fr n0 L ∧ h = h0
set_option maxRecDepth 65536 in
set_option maxHeartbeats 40000000 in
theorem rm36 (l : Launch) (Z : State) (a0 : Array Value) (hw : ∀ d ∈ tables_1, d.before a0 Z = true) (ws : List Jvm.Cond) (cs : List Int32) (ka : ClassId) (a : Addr) (ch : Int32) (h0 : Heap) (n0 : Nat) (O0 : Old Z n0 h0) (V_a : Arv Z h0 a ka .byte (Int32.ofNat cs.length) (own_vs cs) (.int (0 : Int32))) (hbig : cs.length < 1000) :
    MetFree l (⟨"java/lang/StringLatin1", "indexOfChar", "([BIII)I"⟩ : MethodName) (head1 (Jvm.Cond.code (⟨"java/lang/StringLatin1", "indexOfChar", "([BIII)I"⟩ : MethodName) jdk_43_method_23_code 6 (some .int) :: ws) ({ frames := 0, cells := 0, slots := 0, locals := 0 } : Room)) (fun aa_ U => aa_ = #[(.ref a), (.int ch), (.int (0 : Int32)), (.int (Int32.ofNat cs.length))] ∧ Z.Warmed39 U.vm ∧ U.heap = h0) (fun _ _ _ _ _ => True) (fun _ U oo_ U' => ∃ vv_ LL_, oo_ = .returned vv_ ∧ Q_rm36 Z cs ka a ch h0 n0 vv_ U'.heap LL_ ∧ FrameEnd U oo_ U' LL_ ({ frames := 0, cells := 0, slots := 0, locals := 0 } : Room).cells ({ frames := 0, cells := 0, slots := 0, locals := 0 } : Room).slots) := by
  refine MetFree.of_bodySF (plainFor_of_name pn_java_lang_StringLatin1) hisR ?_
  intro p e s m args below meth c s₁ Bd hml0 hP hK
  obtain ⟨rfl, hZ, hh⟩ := hP
  have hx := Bd.exec
  have hby := Bd.bytes
  have hml : c.maxLocals = 6 := hml0
  have hown : s.vm.findClass "java/lang/StringLatin1" = some m.cls := findClass_of_methodNamed Bd.named
  have hnm := (name_of_methodNamed Bd.named Bd.method).1
  have X0 : Stand p l e ({ frames := 0, cells := 0, slots := 0, locals := 0 } : Room) s m #[(.ref a), (.int ch), (.int (0 : Int32)), (.int (Int32.ofNat cs.length))] below meth c s₁ [] 0 0 := Stand.of_body Bd
  have e0 : s₁.heap = h0 := by rw [← hh, Bd.state]; rfl
  have N0 := Fr.nil n0
  have K0 : Keep h0 h0 [] := Keep.refl h0 _
  refine own_i fun PP hPP => own_s (fun t k => castTop (ef_rm36 m a ch cs) k) ?_
  show Go p.tables e below _ (s₁.setTop (mkF m 0 #[.val (.ref a), .val (.int ch), .val (.int (0 : Int32)), .val (.int (Int32.ofNat cs.length)), .unset, .unset] []))
  refine own_s (fun t k => XS.iloadN X0.here hx rfl (hb hby d36_0) rfl k) ?_
  show Go p.tables e below _ (s₁.setTop (mkF m 1 #[.val (.ref a), .val (.int ch), .val (.int (0 : Int32)), .val (.int (Int32.ofNat cs.length)), .unset, .unset] [(.int ch)]))
  refine own_s (fun t k => XS.i2b X0.here hx rfl (hb hby d36_1) rfl k) ?_
  show Go p.tables e below _ (s₁.setTop (mkF m 2 #[.val (.ref a), .val (.int ch), .val (.int (0 : Int32)), .val (.int (Int32.ofNat cs.length)), .unset, .unset] [(.int (ch.toInt8.toInt32))]))
  refine own_s (fun t k => XS.istore X0.here hx rfl (hb hby d36_2) rfl (l' := #[.val (.ref a), .val (.int ch), .val (.int (0 : Int32)), .val (.int (Int32.ofNat cs.length)), .val (.int (ch.toInt8.toInt32)), .unset]) rfl k) ?_
  show Go p.tables e below _ (s₁.setTop (mkF m 4 #[.val (.ref a), .val (.int ch), .val (.int (0 : Int32)), .val (.int (Int32.ofNat cs.length)), .val (.int (ch.toInt8.toInt32)), .unset] []))
  refine own_s (fun t k => XS.iloadN X0.here hx rfl (hb hby d36_4) rfl k) ?_
  show Go p.tables e below _ (s₁.setTop (mkF m 5 #[.val (.ref a), .val (.int ch), .val (.int (0 : Int32)), .val (.int (Int32.ofNat cs.length)), .val (.int (ch.toInt8.toInt32)), .unset] [(.int (0 : Int32))]))
  refine own_s (fun t k => XS.istore X0.here hx rfl (hb hby d36_5) rfl (l' := #[.val (.ref a), .val (.int ch), .val (.int (0 : Int32)), .val (.int (Int32.ofNat cs.length)), .val (.int (ch.toInt8.toInt32)), .val (.int (0 : Int32))]) rfl k) ?_
  have loop : ∀ (n i : Nat), i + n = cs.length → own_find (cs.drop i) (ch.toInt8.toInt32) i = (own_find cs (ch.toInt8.toInt32) 0) → Go p.tables e below PP (s₁.setTop (mkF m 7 #[.val (.ref a), .val (.int ch), .val (.int (0 : Int32)), .val (.int (Int32.ofNat cs.length)), .val (.int (ch.toInt8.toInt32)), .val (.int (Int32.ofNat i))] [])) := by
    intro n
    induction n with
    | zero =>
      intro i hi hf
      show Go p.tables e below _ (s₁.setTop (mkF m 7 #[.val (.ref a), .val (.int ch), .val (.int (0 : Int32)), .val (.int (Int32.ofNat cs.length)), .val (.int (ch.toInt8.toInt32)), .val (.int (Int32.ofNat i))] []))
      refine own_s (fun t k => XS.iload X0.here hx rfl (hb hby d36_7) rfl k) ?_
      show Go p.tables e below _ (s₁.setTop (mkF m 9 #[.val (.ref a), .val (.int ch), .val (.int (0 : Int32)), .val (.int (Int32.ofNat cs.length)), .val (.int (ch.toInt8.toInt32)), .val (.int (Int32.ofNat i))] [(.int (Int32.ofNat i))]))
      refine own_s (fun t k => XS.iloadN X0.here hx rfl (hb hby d36_9) rfl k) ?_
      show Go p.tables e below _ (s₁.setTop (mkF m 10 #[.val (.ref a), .val (.int ch), .val (.int (0 : Int32)), .val (.int (Int32.ofNat cs.length)), .val (.int (ch.toInt8.toInt32)), .val (.int (Int32.ofNat i))] [(.int (Int32.ofNat cs.length)), (.int (Int32.ofNat i))]))
      refine own_s (fun t k => XS.icmpYes X0.here hx rfl (pc0 := 10) (pc' := 31) rfl (hb hby d36_10) rfl (flt (own_nlt (by omega) (by omega))).2.1 (by decide) (by decide) k) ?_
      show Go p.tables e below _ (s₁.setTop (mkF m 31 #[.val (.ref a), .val (.int ch), .val (.int (0 : Int32)), .val (.int (Int32.ofNat cs.length)), .val (.int (ch.toInt8.toInt32)), .val (.int (Int32.ofNat i))] []))
      refine own_s (fun t k => XS.iconst X0.here hx rfl (hb hby d36_31) k) ?_
      show Go p.tables e below _ (s₁.setTop (mkF m 32 #[.val (.ref a), .val (.int ch), .val (.int (0 : Int32)), .val (.int (Int32.ofNat cs.length)), .val (.int (ch.toInt8.toInt32)), .val (.int (Int32.ofNat i))] [(.int (-1 : Int32))]))
      obtain ⟨fs, hr, hrun, hended, hW, hsame⟩ := X0.leave (v := (some (.int (-1 : Int32)))) (fun h => by first | rfl | (rw [Bd.returns] at h; cases h))
      refine own_e hPP ?_ hrun hended ⟨_, _, rfl, ?_, ⟨_, rfl⟩, hW, hsame.mono (by decide) (by decide)⟩
      · exact retI X0 hx Bd.returns (hb hby d36_32) hr
      · show Q_rm36 Z cs ka a ch h0 n0 _ s₁.heap _
        rw [e0]
        exact ⟨congrArg (fun z => some (Value.int z)) (show (-1 : Int32) = (own_find cs (ch.toInt8.toInt32) 0) from (hf.symm.trans (own_find_end (by omega))).symm), N0, rfl⟩
    | succ n ih =>
      intro i hi hf
      show Go p.tables e below _ (s₁.setTop (mkF m 7 #[.val (.ref a), .val (.int ch), .val (.int (0 : Int32)), .val (.int (Int32.ofNat cs.length)), .val (.int (ch.toInt8.toInt32)), .val (.int (Int32.ofNat i))] []))
      refine own_s (fun t k => XS.iload X0.here hx rfl (hb hby d36_7) rfl k) ?_
      show Go p.tables e below _ (s₁.setTop (mkF m 9 #[.val (.ref a), .val (.int ch), .val (.int (0 : Int32)), .val (.int (Int32.ofNat cs.length)), .val (.int (ch.toInt8.toInt32)), .val (.int (Int32.ofNat i))] [(.int (Int32.ofNat i))]))
      refine own_s (fun t k => XS.iloadN X0.here hx rfl (hb hby d36_9) rfl k) ?_
      show Go p.tables e below _ (s₁.setTop (mkF m 10 #[.val (.ref a), .val (.int ch), .val (.int (0 : Int32)), .val (.int (Int32.ofNat cs.length)), .val (.int (ch.toInt8.toInt32)), .val (.int (Int32.ofNat i))] [(.int (Int32.ofNat cs.length)), (.int (Int32.ofNat i))]))
      refine own_s (fun t k => XS.icmpNo X0.here hx rfl (hb hby d36_10) rfl (tlt (own_ltn (by omega) (by omega))).2.1 k) ?_
      show Go p.tables e below _ (s₁.setTop (mkF m 13 #[.val (.ref a), .val (.int ch), .val (.int (0 : Int32)), .val (.int (Int32.ofNat cs.length)), .val (.int (ch.toInt8.toInt32)), .val (.int (Int32.ofNat i))] []))
      refine own_s (fun t k => XS.aloadN X0.here hx rfl (hb hby d36_13) rfl rfl k) ?_
      show Go p.tables e below _ (s₁.setTop (mkF m 14 #[.val (.ref a), .val (.int ch), .val (.int (0 : Int32)), .val (.int (Int32.ofNat cs.length)), .val (.int (ch.toInt8.toInt32)), .val (.int (Int32.ofNat i))] [(.ref a)]))
      refine own_s (fun t k => XS.iload X0.here hx rfl (hb hby d36_14) rfl k) ?_
      show Go p.tables e below _ (s₁.setTop (mkF m 16 #[.val (.ref a), .val (.int ch), .val (.int (0 : Int32)), .val (.int (Int32.ofNat cs.length)), .val (.int (ch.toInt8.toInt32)), .val (.int (Int32.ofNat i))] [(.int (Int32.ofNat i)), (.ref a)]))
      obtain ⟨cl1, Ar1, qk1, Sz1, Nn1, Hs1, Gf1⟩ := id V_a
      have hin1 : ¬ ((Int32.ofNat i) < 0 ∨ cl1.slots.size ≤ ((Int32.ofNat i)).toNatClampNeg) := inb_of Sz1 ⟨own_nn (by omega), own_ltn (by omega) (by omega)⟩
      have hat1 : cl1.slots[((Int32.ofNat i)).toNatClampNeg]? = some (.int (cs.getD i 0)) := Has.at Hs1 hin1 (by rw [own_tn (by omega)]; exact own_vs_get _ _)
      refine own_s (X0.baloadBytes hx (j := (Int32.ofNat i)) (v := (.int (cs.getD i 0))) (by rw [e0]; exact Ar1.1) (State.isArrayOf_alike hZ.alike Ar1.2.1) Ar1.2.2 hin1 hat1 (g := (mkF m 16 #[.val (.ref a), .val (.int ch), .val (.int (0 : Int32)), .val (.int (Int32.ofNat cs.length)), .val (.int (ch.toInt8.toInt32)), .val (.int (Int32.ofNat i))] [(.int (Int32.ofNat i)), (.ref a)])) rfl rfl (hb hby d36_16)) ?_
      show Go p.tables e below _ (s₁.setTop (mkF m 17 #[.val (.ref a), .val (.int ch), .val (.int (0 : Int32)), .val (.int (Int32.ofNat cs.length)), .val (.int (ch.toInt8.toInt32)), .val (.int (Int32.ofNat i))] [(.int (cs.getD i 0))]))
      refine own_s (fun t k => XS.iload X0.here hx rfl (hb hby d36_17) rfl k) ?_
      show Go p.tables e below _ (s₁.setTop (mkF m 19 #[.val (.ref a), .val (.int ch), .val (.int (0 : Int32)), .val (.int (Int32.ofNat cs.length)), .val (.int (ch.toInt8.toInt32)), .val (.int (Int32.ofNat i))] [(.int (ch.toInt8.toInt32)), (.int (cs.getD i 0))]))
      by_cases hc2 : (cs.getD i 0) = (ch.toInt8.toInt32)
      ·
        refine own_s (fun t k => XS.icmpNo X0.here hx rfl (hb hby d36_19) rfl (teq hc2).2 k) ?_
        show Go p.tables e below _ (s₁.setTop (mkF m 22 #[.val (.ref a), .val (.int ch), .val (.int (0 : Int32)), .val (.int (Int32.ofNat cs.length)), .val (.int (ch.toInt8.toInt32)), .val (.int (Int32.ofNat i))] []))
        refine own_s (fun t k => XS.iload X0.here hx rfl (hb hby d36_22) rfl k) ?_
        show Go p.tables e below _ (s₁.setTop (mkF m 24 #[.val (.ref a), .val (.int ch), .val (.int (0 : Int32)), .val (.int (Int32.ofNat cs.length)), .val (.int (ch.toInt8.toInt32)), .val (.int (Int32.ofNat i))] [(.int (Int32.ofNat i))]))
        obtain ⟨fs, hr, hrun, hended, hW, hsame⟩ := X0.leave (v := (some (.int (Int32.ofNat i)))) (fun h => by first | rfl | (rw [Bd.returns] at h; cases h))
        refine own_e hPP ?_ hrun hended ⟨_, _, rfl, ?_, ⟨_, rfl⟩, hW, hsame.mono (by decide) (by decide)⟩
        · exact retI X0 hx Bd.returns (hb hby d36_24) hr
        · show Q_rm36 Z cs ka a ch h0 n0 _ s₁.heap _
          rw [e0]
          exact ⟨congrArg (fun z => some (Value.int z)) (show (Int32.ofNat i) = (own_find cs (ch.toInt8.toInt32) 0) from (hf.symm.trans (own_find_hit (by omega) hc2)).symm), N0, rfl⟩
      ·
        refine own_s (fun t k => XS.icmpYes X0.here hx rfl (pc0 := 19) (pc' := 25) rfl (hb hby d36_19) rfl (feq hc2).2 (by decide) (by decide) k) ?_
        show Go p.tables e below _ (s₁.setTop (mkF m 25 #[.val (.ref a), .val (.int ch), .val (.int (0 : Int32)), .val (.int (Int32.ofNat cs.length)), .val (.int (ch.toInt8.toInt32)), .val (.int (Int32.ofNat i))] []))
        refine own_s (fun t k => XS.iinc X0.here hx rfl (hb hby d36_25) rfl (l' := #[.val (.ref a), .val (.int ch), .val (.int (0 : Int32)), .val (.int (Int32.ofNat cs.length)), .val (.int (ch.toInt8.toInt32)), .val (.int ((Int32.ofNat i) + (1 : Int32)))]) rfl k) ?_
        show Go p.tables e below _ (s₁.setTop (mkF m 28 #[.val (.ref a), .val (.int ch), .val (.int (0 : Int32)), .val (.int (Int32.ofNat cs.length)), .val (.int (ch.toInt8.toInt32)), .val (.int ((Int32.ofNat i) + (1 : Int32)))] []))
        refine own_s (fun t k => XS.goto X0.here hx rfl (pc0 := 28) (pc' := 7) rfl (hb hby d36_28) (by decide) (by decide) k) ?_
        show Go p.tables e below _ (s₁.setTop (mkF m 7 #[.val (.ref a), .val (.int ch), .val (.int (0 : Int32)), .val (.int (Int32.ofNat cs.length)), .val (.int (ch.toInt8.toInt32)), .val (.int ((Int32.ofNat i) + (1 : Int32)))] []))
        rw [own_succ (by omega)]
        exact ih (i + 1) (by omega) ((own_find_miss (by omega) hc2).symm.trans hf)
  show Go p.tables e below _ (s₁.setTop (mkF m 7 #[.val (.ref a), .val (.int ch), .val (.int (0 : Int32)), .val (.int (Int32.ofNat cs.length)), .val (.int (ch.toInt8.toInt32)), .val (.int (0 : Int32))] []))
  exact loop cs.length 0 (by omega) rfl
theorem d34_0 : decode jdk_43_method_4_code 0 = .ok (.iload_n 0, 1) := by decide +kernel
theorem d34_1 : decode jdk_43_method_4_code 1 = .ok (.ifCond .lt 14, 3) := by decide +kernel
theorem d34_4 : decode jdk_43_method_4_code 4 = .ok (.iload_n 0, 1) := by decide +kernel
theorem d34_5 : decode jdk_43_method_4_code 5 = .ok (.sipush 255, 3) := by decide +kernel
theorem d34_8 : decode jdk_43_method_4_code 8 = .ok (.if_icmp .gt 7, 3) := by decide +kernel
theorem d34_11 : decode jdk_43_method_4_code 11 = .ok (.iconst 1, 1) := by decide +kernel
theorem d34_12 : decode jdk_43_method_4_code 12 = .ok (.goto 4, 3) := by decide +kernel
theorem d34_16 : decode jdk_43_method_4_code 16 = .ok (.ireturn, 1) := by decide +kernel
theorem ef_rm34 (m : MethodId) (ch : Int32) : entryFrame m #[(.int ch)] 1 = mkF m 0 #[.val (.int ch)] [] := by first | (simp [entryFrame, mkF, argsToLocals, Value.category]; done) | rfl
def Q_rm34 (Z : State) (ch : Int32) (h0 : Heap) (n0 : Nat) (v : Option Value) (h : Heap) (L : List Loc) : Prop := v = some (.int (1 : Int32)) ∧ Fr n0 L ∧ h = h0
set_option maxRecDepth 65536 in
set_option maxHeartbeats 40000000 in
theorem rm34 (l : Launch) (Z : State) (a0 : Array Value) (hw : ∀ d ∈ tables_1, d.before a0 Z = true) (ws : List Jvm.Cond) (ch : Int32) (h0 : Heap) (n0 : Nat) (O0 : Old Z n0 h0) (hc1 : ¬ (ch < (0 : Int32))) (hc8 : ¬ ((255 : Int32) < ch)) :
    MetFree l (⟨"java/lang/StringLatin1", "canEncode", "(I)Z"⟩ : MethodName) (head1 (Jvm.Cond.code (⟨"java/lang/StringLatin1", "canEncode", "(I)Z"⟩ : MethodName) jdk_43_method_4_code 1 (some .boolean) :: ws) ({ frames := 0, cells := 0, slots := 0, locals := 0 } : Room)) (fun aa_ U => aa_ = #[(.int ch)] ∧ Z.Warmed39 U.vm ∧ U.heap = h0) (fun _ _ _ _ _ => True) (fun _ U oo_ U' => ∃ vv_ LL_, oo_ = .returned vv_ ∧ Q_rm34 Z ch h0 n0 vv_ U'.heap LL_ ∧ FrameEnd U oo_ U' LL_ ({ frames := 0, cells := 0, slots := 0, locals := 0 } : Room).cells ({ frames := 0, cells := 0, slots := 0, locals := 0 } : Room).slots) := by
  refine MetFree.of_bodySF (plainFor_of_name pn_java_lang_StringLatin1) hisR ?_
  intro p e s m args below meth c s₁ Bd hml0 hP hK
  obtain ⟨rfl, hZ, hh⟩ := hP
  have hx := Bd.exec
  have hby := Bd.bytes
  have hml : c.maxLocals = 1 := hml0
  have hown : s.vm.findClass "java/lang/StringLatin1" = some m.cls := findClass_of_methodNamed Bd.named
  have hnm := (name_of_methodNamed Bd.named Bd.method).1
  have X0 : Stand p l e ({ frames := 0, cells := 0, slots := 0, locals := 0 } : Room) s m #[(.int ch)] below meth c s₁ [] 0 0 := Stand.of_body Bd
  have e0 : s₁.heap = h0 := by rw [← hh, Bd.state]; rfl
  have N0 := Fr.nil n0
  have K0 : Keep h0 h0 [] := Keep.refl h0 _
  refine own_i fun PP hPP => own_s (fun t k => castTop (ef_rm34 m ch) k) ?_
  show Go p.tables e below _ (s₁.setTop (mkF m 0 #[.val (.int ch)] []))
  refine own_s (fun t k => XS.iloadN X0.here hx rfl (hb hby d34_0) rfl k) ?_
  show Go p.tables e below _ (s₁.setTop (mkF m 1 #[.val (.int ch)] [(.int ch)]))
  refine own_s (fun t k => XS.ifNo X0.here hx rfl (hb hby d34_1) rfl ((if0 _ _).trans (flt hc1).1) k) ?_
  show Go p.tables e below _ (s₁.setTop (mkF m 4 #[.val (.int ch)] []))
  refine own_s (fun t k => XS.iloadN X0.here hx rfl (hb hby d34_4) rfl k) ?_
  show Go p.tables e below _ (s₁.setTop (mkF m 5 #[.val (.int ch)] [(.int ch)]))
  refine own_s (fun t k => XS.sipush X0.here hx rfl (hb hby d34_5) k) ?_
  show Go p.tables e below _ (s₁.setTop (mkF m 8 #[.val (.int ch)] [(.int (255 : Int32)), (.int ch)]))
  refine own_s (fun t k => XS.icmpNo X0.here hx rfl (hb hby d34_8) rfl (flt hc8).2.2.1 k) ?_
  show Go p.tables e below _ (s₁.setTop (mkF m 11 #[.val (.int ch)] []))
  refine own_s (fun t k => XS.iconst X0.here hx rfl (hb hby d34_11) k) ?_
  show Go p.tables e below _ (s₁.setTop (mkF m 12 #[.val (.int ch)] [(.int (1 : Int32))]))
  refine own_s (fun t k => XS.goto X0.here hx rfl (pc0 := 12) (pc' := 16) rfl (hb hby d34_12) (by decide) (by decide) k) ?_
  show Go p.tables e below _ (s₁.setTop (mkF m 16 #[.val (.int ch)] [(.int (1 : Int32))]))
  obtain ⟨fs, hr, hrun, hended, hW, hsame⟩ := X0.leave (v := (some (.int (1 : Int32)))) (fun h => by first | rfl | (rw [Bd.returns] at h; cases h))
  refine own_e hPP ?_ hrun hended ⟨_, _, rfl, ?_, ⟨_, rfl⟩, hW, hsame.mono (by decide) (by decide)⟩
  · exact retN X0 hx (t := .boolean) Bd.returns (by simp) (hb hby d34_16) hr
  · show Q_rm34 Z ch h0 n0 _ s₁.heap _
    rw [e0]
    exact ⟨rfl, N0, rfl⟩
theorem d33_0 : decode jdk_43_method_22_code 0 = .ok (.iload_n 1, 1) := by decide +kernel
theorem d33_1 : decode jdk_43_method_22_code 1 = .ok (.invokestatic 88, 3) := by decide +kernel
theorem pd__I_Z : parseMethodDescriptor "(I)Z" = some ⟨[.int], some .boolean⟩ := by decide +kernel
theorem d33_4 : decode jdk_43_method_22_code 4 = .ok (.ifCond .ne 5, 3) := by decide +kernel
theorem d33_9 : decode jdk_43_method_22_code 9 = .ok (.iload_n 2, 1) := by decide +kernel
theorem d33_10 : decode jdk_43_method_22_code 10 = .ok (.iconst 0, 1) := by decide +kernel
theorem d33_11 : decode jdk_43_method_22_code 11 = .ok (.invokestatic 92, 3) := by decide +kernel
theorem d33_14 : decode jdk_43_method_22_code 14 = .ok (.istore_n 2, 1) := by decide +kernel
theorem d33_15 : decode jdk_43_method_22_code 15 = .ok (.iload_n 3, 1) := by decide +kernel
theorem d33_16 : decode jdk_43_method_22_code 16 = .ok (.aload_n 0, 1) := by decide +kernel
theorem d33_17 : decode jdk_43_method_22_code 17 = .ok (.arraylength, 1) := by decide +kernel
theorem d33_18 : decode jdk_43_method_22_code 18 = .ok (.invokestatic 38, 3) := by decide +kernel
theorem d33_21 : decode jdk_43_method_22_code 21 = .ok (.istore_n 3, 1) := by decide +kernel
theorem d33_22 : decode jdk_43_method_22_code 22 = .ok (.iload_n 2, 1) := by decide +kernel
theorem d33_23 : decode jdk_43_method_22_code 23 = .ok (.iload_n 3, 1) := by decide +kernel
theorem d33_24 : decode jdk_43_method_22_code 24 = .ok (.if_icmp .lt 5, 3) := by decide +kernel
theorem d33_29 : decode jdk_43_method_22_code 29 = .ok (.aload_n 0, 1) := by decide +kernel
theorem d33_30 : decode jdk_43_method_22_code 30 = .ok (.iload_n 1, 1) := by decide +kernel
theorem d33_31 : decode jdk_43_method_22_code 31 = .ok (.iload_n 2, 1) := by decide +kernel
theorem d33_32 : decode jdk_43_method_22_code 32 = .ok (.iload_n 3, 1) := by decide +kernel
theorem d33_33 : decode jdk_43_method_22_code 33 = .ok (.invokestatic 95, 3) := by decide +kernel
theorem pd___BIII_I : parseMethodDescriptor "([BIII)I" = some ⟨[(.array .byte), .int, .int, .int], some .int⟩ := by decide +kernel
theorem d33_36 : decode jdk_43_method_22_code 36 = .ok (.ireturn, 1) := by decide +kernel
theorem ef_rm33 (m : MethodId) (a : Addr) (ch : Int32) (cs : List Int32) : entryFrame m #[(.ref a), (.int ch), (.int (0 : Int32)), (.int (Int32.ofNat cs.length))] 4 = mkF m 0 #[.val (.ref a), .val (.int ch), .val (.int (0 : Int32)), .val (.int (Int32.ofNat cs.length))] [] := by first | (simp [entryFrame, mkF, argsToLocals, Value.category]; done) | rfl
def Q_rm33 (Z : State) (cs : List Int32) (ka : ClassId) (a : Addr) (ch : Int32) (h0 : Heap) (n0 : Nat) (v : Option Value) (h : Heap) (L : List Loc) : Prop := v = some (.int (own_find cs (ch.toInt8.toInt32) 0)) ∧ Fr n0 L ∧ h = h0
set_option maxRecDepth 65536 in
set_option maxHeartbeats 40000000 in
theorem rm33 (l : Launch) (Z : State) (a0 : Array Value) (hw : ∀ d ∈ tables_1, d.before a0 Z = true) (ws : List Jvm.Cond) (cs : List Int32) (ka : ClassId) (a : Addr) (ch : Int32) (h0 : Heap) (n0 : Nat) (O0 : Old Z n0 h0) (V_a : Arv Z h0 a ka .byte (Int32.ofNat cs.length) (own_vs cs) (.int (0 : Int32))) (hbig : cs.length < 1000) (hc1 : ¬ (ch < (0 : Int32))) (hc8 : ¬ ((255 : Int32) < ch)) (hne : 0 < cs.length) :
    MetFree l (⟨"java/lang/StringLatin1", "indexOf", "([BIII)I"⟩ : MethodName) (head1 (Jvm.Cond.code (⟨"java/lang/StringLatin1", "indexOf", "([BIII)I"⟩ : MethodName) jdk_43_method_22_code 4 (some .int) :: ws) ({ frames := 1, cells := 0, slots := 0, locals := 17 } : Room)) (fun aa_ U => aa_ = #[(.ref a), (.int ch), (.int (0 : Int32)), (.int (Int32.ofNat cs.length))] ∧ Z.Warmed39 U.vm ∧ U.heap = h0) (fun _ _ _ _ _ => True) (fun _ U oo_ U' => ∃ vv_ LL_, oo_ = .returned vv_ ∧ Q_rm33 Z cs ka a ch h0 n0 vv_ U'.heap LL_ ∧ FrameEnd U oo_ U' LL_ ({ frames := 1, cells := 0, slots := 0, locals := 17 } : Room).cells ({ frames := 1, cells := 0, slots := 0, locals := 17 } : Room).slots) := by
  refine MetFree.of_bodySF (plainFor_of_name pn_java_lang_StringLatin1) hisR ?_
  intro p e s m args below meth c s₁ Bd hml0 hP hK
  obtain ⟨rfl, hZ, hh⟩ := hP
  have hx := Bd.exec
  have hby := Bd.bytes
  have hml : c.maxLocals = 4 := hml0
  have hown : s.vm.findClass "java/lang/StringLatin1" = some m.cls := findClass_of_methodNamed Bd.named
  have hnm := (name_of_methodNamed Bd.named Bd.method).1
  have X0 : Stand p l e ({ frames := 1, cells := 0, slots := 0, locals := 17 } : Room) s m #[(.ref a), (.int ch), (.int (0 : Int32)), (.int (Int32.ofNat cs.length))] below meth c s₁ [] 0 0 := Stand.of_body Bd
  have e0 : s₁.heap = h0 := by rw [← hh, Bd.state]; rfl
  have N0 := Fr.nil n0
  have K0 : Keep h0 h0 [] := Keep.refl h0 _
  refine own_i fun PP hPP => own_s (fun t k => castTop (ef_rm33 m a ch cs) k) ?_
  show Go p.tables e below _ (s₁.setTop (mkF m 0 #[.val (.ref a), .val (.int ch), .val (.int (0 : Int32)), .val (.int (Int32.ofNat cs.length))] []))
  refine own_s (fun t k => XS.iloadN X0.here hx rfl (hb hby d33_0) rfl k) ?_
  show Go p.tables e below _ (s₁.setTop (mkF m 1 #[.val (.ref a), .val (.int ch), .val (.int (0 : Int32)), .val (.int (Int32.ofNat cs.length))] [(.int ch)]))
  obtain ⟨_, _, ⟨T1, L1, k1, n1⟩, -, X1, ⟨Lc1, hQ1, l1, y1, z1⟩, st1⟩ := Jvm.LawKit.callS X0 hx (y := (⟨"java/lang/StringLatin1", "canEncode", "(I)Z"⟩ : MethodName)) hown (mvT hZ (hw _ (List.mem_of_getElem? (i := 167) rfl))) (mvT hZ (hw _ (List.mem_of_getElem? (i := 168) rfl))) (mvT hZ (hw _ (List.mem_of_getElem? (i := 112) rfl))) (mvT hZ (hw _ (List.mem_of_getElem? (i := 169) rfl))) (by decide) (backOf (W := 0) (rm34 l Z a0 hw [] ch h0 n0 O0 hc1 hc8) hZ (hw _ (List.mem_of_getElem? (i := 169) rfl)) (hw _ (List.mem_of_getElem? (i := 112) rfl)) (by decide) (by decide)) (g := (mkF m 1 #[.val (.ref a), .val (.int ch), .val (.int (0 : Int32)), .val (.int (Int32.ofNat cs.length))] [(.int ch)])) rfl (by rw [hml]; rfl) (argsL := [(.int ch)]) (rest := []) (lenOf pd__I_Z rfl) rfl (by show 2 * 0 + _ ≤ _; exact Nat.le_of_eq rfl) (hb hby d33_1) (fun _ _ => ⟨rfl, e0, (by decide : 0 + 0 ≤ _), (by decide : 0 + 0 ≤ _)⟩)
  dsimp only [Pt.U, Pt.locs, Pt.cells, Pt.slots] at X1 l1 y1 z1 st1 hQ1
  subst l1 y1 z1
  obtain ⟨rfl, N1q, eq1⟩ := hQ1
  have N1 := Fr.app N0 N1q
  refine own_s st1 ?_
  show Go p.tables e below _ (T1.setTop (mkF m 4 #[.val (.ref a), .val (.int ch), .val (.int (0 : Int32)), .val (.int (Int32.ofNat cs.length))] [(.int (1 : Int32))]))
  refine own_s (fun t k => XS.ifYes X1.here hx rfl (pc0 := 4) (pc' := 9) rfl (hb hby d33_4) rfl ((if0 _ _).trans (feq (by decide : ¬ ((1 : Int32) = (0 : Int32)))).2) (by decide) (by decide) k) ?_
  show Go p.tables e below _ (T1.setTop (mkF m 9 #[.val (.ref a), .val (.int ch), .val (.int (0 : Int32)), .val (.int (Int32.ofNat cs.length))] []))
  refine own_s (fun t k => XS.iloadN X1.here hx rfl (hb hby d33_9) rfl k) ?_
  show Go p.tables e below _ (T1.setTop (mkF m 10 #[.val (.ref a), .val (.int ch), .val (.int (0 : Int32)), .val (.int (Int32.ofNat cs.length))] [(.int (0 : Int32))]))
  refine own_s (fun t k => XS.iconst X1.here hx rfl (hb hby d33_10) k) ?_
  show Go p.tables e below _ (T1.setTop (mkF m 11 #[.val (.ref a), .val (.int ch), .val (.int (0 : Int32)), .val (.int (Int32.ofNat cs.length))] [(.int (0 : Int32)), (.int (0 : Int32))]))
  obtain ⟨_, _, ⟨T2, L2, k2, n2⟩, -, X2, ⟨Lc2, hQ2, l2, y2, z2⟩, st2⟩ := Jvm.LawKit.callS X1 hx (y := (⟨"java/lang/Math", "max", "(II)I"⟩ : MethodName)) hown (mvT hZ (hw _ (List.mem_of_getElem? (i := 170) rfl))) (mvT hZ (hw _ (List.mem_of_getElem? (i := 171) rfl))) (mvT hZ (hw _ (List.mem_of_getElem? (i := 76) rfl))) (mvT hZ (hw _ (List.mem_of_getElem? (i := 172) rfl))) (by decide) (backOf (W := 0) (rm35 l Z a0 hw [] (0 : Int32) (0 : Int32) h0 n0 O0 ) hZ (hw _ (List.mem_of_getElem? (i := 172) rfl)) (hw _ (List.mem_of_getElem? (i := 76) rfl)) (by decide) (by decide)) (g := (mkF m 11 #[.val (.ref a), .val (.int ch), .val (.int (0 : Int32)), .val (.int (Int32.ofNat cs.length))] [(.int (0 : Int32)), (.int (0 : Int32))])) rfl (by rw [hml]; rfl) (argsL := [(.int (0 : Int32)), (.int (0 : Int32))]) (rest := []) (lenOf pd__II_I rfl) rfl (by show 2 * 0 + _ ≤ _; exact Nat.le_of_eq rfl) (hb hby d33_11) (fun _ _ => ⟨rfl, eq1, (by decide : 0 + 0 ≤ _), (by decide : 0 + 0 ≤ _)⟩)
  dsimp only [Pt.U, Pt.locs, Pt.cells, Pt.slots] at X2 l2 y2 z2 st2 hQ2
  subst l2 y2 z2
  obtain ⟨rfl, N2q, eq2⟩ := hQ2
  have N2 := Fr.app N1 N2q
  refine own_s st2 ?_
  show Go p.tables e below _ (T2.setTop (mkF m 14 #[.val (.ref a), .val (.int ch), .val (.int (0 : Int32)), .val (.int (Int32.ofNat cs.length))] [(.int (own_max (0 : Int32) (0 : Int32)))]))
  show Go p.tables e below _ (T2.setTop (mkF m 14 #[.val (.ref a), .val (.int ch), .val (.int (0 : Int32)), .val (.int (Int32.ofNat cs.length))] [(.int (0 : Int32))]))
  refine own_s (fun t k => XS.istoreN X2.here hx rfl (hb hby d33_14) rfl (l' := #[.val (.ref a), .val (.int ch), .val (.int (0 : Int32)), .val (.int (Int32.ofNat cs.length))]) rfl k) ?_
  show Go p.tables e below _ (T2.setTop (mkF m 15 #[.val (.ref a), .val (.int ch), .val (.int (0 : Int32)), .val (.int (Int32.ofNat cs.length))] []))
  refine own_s (fun t k => XS.iloadN X2.here hx rfl (hb hby d33_15) rfl k) ?_
  show Go p.tables e below _ (T2.setTop (mkF m 16 #[.val (.ref a), .val (.int ch), .val (.int (0 : Int32)), .val (.int (Int32.ofNat cs.length))] [(.int (Int32.ofNat cs.length))]))
  refine own_s (fun t k => XS.aloadN X2.here hx rfl (hb hby d33_16) rfl rfl k) ?_
  show Go p.tables e below _ (T2.setTop (mkF m 17 #[.val (.ref a), .val (.int ch), .val (.int (0 : Int32)), .val (.int (Int32.ofNat cs.length))] [(.ref a), (.int (Int32.ofNat cs.length))]))
  obtain ⟨cl3, Ar3, qk3, Sz3, Nn3, Hs3, Gf3⟩ := id V_a
  refine own_s (X2.arraylength hx (by rw [eq2]; exact Ar3.1) (State.isArrayOf_alike hZ.alike Ar3.2.1) (g := (mkF m 17 #[.val (.ref a), .val (.int ch), .val (.int (0 : Int32)), .val (.int (Int32.ofNat cs.length))] [(.ref a), (.int (Int32.ofNat cs.length))])) rfl rfl (hb hby d33_17)) ?_
  rw [len_of Sz3 Nn3]
  show Go p.tables e below _ (T2.setTop (mkF m 18 #[.val (.ref a), .val (.int ch), .val (.int (0 : Int32)), .val (.int (Int32.ofNat cs.length))] [(.int (Int32.ofNat cs.length)), (.int (Int32.ofNat cs.length))]))
  obtain ⟨_, _, ⟨T4, L4, k4, n4⟩, -, X4, ⟨Lc4, hQ4, l4, y4, z4⟩, st4⟩ := Jvm.LawKit.callS X2 hx (y := (⟨"java/lang/Math", "min", "(II)I"⟩ : MethodName)) hown (mvT hZ (hw _ (List.mem_of_getElem? (i := 173) rfl))) (mvT hZ (hw _ (List.mem_of_getElem? (i := 75) rfl))) (mvT hZ (hw _ (List.mem_of_getElem? (i := 76) rfl))) (mvT hZ (hw _ (List.mem_of_getElem? (i := 77) rfl))) (by decide) (backOf (W := 0) (rm15 l Z a0 hw [] (Int32.ofNat cs.length) (Int32.ofNat cs.length) h0 n0 O0 ) hZ (hw _ (List.mem_of_getElem? (i := 77) rfl)) (hw _ (List.mem_of_getElem? (i := 76) rfl)) (by decide) (by decide)) (g := (mkF m 18 #[.val (.ref a), .val (.int ch), .val (.int (0 : Int32)), .val (.int (Int32.ofNat cs.length))] [(.int (Int32.ofNat cs.length)), (.int (Int32.ofNat cs.length))])) rfl (by rw [hml]; rfl) (argsL := [(.int (Int32.ofNat cs.length)), (.int (Int32.ofNat cs.length))]) (rest := []) (lenOf pd__II_I rfl) rfl (by show 2 * 0 + _ ≤ _; exact Nat.le_of_eq rfl) (hb hby d33_18) (fun _ _ => ⟨rfl, eq2, (by decide : 0 + 0 ≤ _), (by decide : 0 + 0 ≤ _)⟩)
  dsimp only [Pt.U, Pt.locs, Pt.cells, Pt.slots] at X4 l4 y4 z4 st4 hQ4
  subst l4 y4 z4
  obtain ⟨rfl, N4q, eq4⟩ := hQ4
  have N4 := Fr.app N2 N4q
  refine own_s st4 ?_
  show Go p.tables e below _ (T4.setTop (mkF m 21 #[.val (.ref a), .val (.int ch), .val (.int (0 : Int32)), .val (.int (Int32.ofNat cs.length))] [(.int (own_min (Int32.ofNat cs.length) (Int32.ofNat cs.length)))]))
  rw [own_min_self]
  show Go p.tables e below _ (T4.setTop (mkF m 21 #[.val (.ref a), .val (.int ch), .val (.int (0 : Int32)), .val (.int (Int32.ofNat cs.length))] [(.int (Int32.ofNat cs.length))]))
  refine own_s (fun t k => XS.istoreN X4.here hx rfl (hb hby d33_21) rfl (l' := #[.val (.ref a), .val (.int ch), .val (.int (0 : Int32)), .val (.int (Int32.ofNat cs.length))]) rfl k) ?_
  show Go p.tables e below _ (T4.setTop (mkF m 22 #[.val (.ref a), .val (.int ch), .val (.int (0 : Int32)), .val (.int (Int32.ofNat cs.length))] []))
  refine own_s (fun t k => XS.iloadN X4.here hx rfl (hb hby d33_22) rfl k) ?_
  show Go p.tables e below _ (T4.setTop (mkF m 23 #[.val (.ref a), .val (.int ch), .val (.int (0 : Int32)), .val (.int (Int32.ofNat cs.length))] [(.int (0 : Int32))]))
  refine own_s (fun t k => XS.iloadN X4.here hx rfl (hb hby d33_23) rfl k) ?_
  show Go p.tables e below _ (T4.setTop (mkF m 24 #[.val (.ref a), .val (.int ch), .val (.int (0 : Int32)), .val (.int (Int32.ofNat cs.length))] [(.int (Int32.ofNat cs.length)), (.int (0 : Int32))]))
  refine own_s (fun t k => XS.icmpYes X4.here hx rfl (pc0 := 24) (pc' := 29) rfl (hb hby d33_24) rfl (tlt (own_ltn (i := 0) hne (by omega))).1 (by decide) (by decide) k) ?_
  show Go p.tables e below _ (T4.setTop (mkF m 29 #[.val (.ref a), .val (.int ch), .val (.int (0 : Int32)), .val (.int (Int32.ofNat cs.length))] []))
  refine own_s (fun t k => XS.aloadN X4.here hx rfl (hb hby d33_29) rfl rfl k) ?_
  show Go p.tables e below _ (T4.setTop (mkF m 30 #[.val (.ref a), .val (.int ch), .val (.int (0 : Int32)), .val (.int (Int32.ofNat cs.length))] [(.ref a)]))
  refine own_s (fun t k => XS.iloadN X4.here hx rfl (hb hby d33_30) rfl k) ?_
  show Go p.tables e below _ (T4.setTop (mkF m 31 #[.val (.ref a), .val (.int ch), .val (.int (0 : Int32)), .val (.int (Int32.ofNat cs.length))] [(.int ch), (.ref a)]))
  refine own_s (fun t k => XS.iloadN X4.here hx rfl (hb hby d33_31) rfl k) ?_
  show Go p.tables e below _ (T4.setTop (mkF m 32 #[.val (.ref a), .val (.int ch), .val (.int (0 : Int32)), .val (.int (Int32.ofNat cs.length))] [(.int (0 : Int32)), (.int ch), (.ref a)]))
  refine own_s (fun t k => XS.iloadN X4.here hx rfl (hb hby d33_32) rfl k) ?_
  show Go p.tables e below _ (T4.setTop (mkF m 33 #[.val (.ref a), .val (.int ch), .val (.int (0 : Int32)), .val (.int (Int32.ofNat cs.length))] [(.int (Int32.ofNat cs.length)), (.int (0 : Int32)), (.int ch), (.ref a)]))
  obtain ⟨_, _, ⟨T5, L5, k5, n5⟩, -, X5, ⟨Lc5, hQ5, l5, y5, z5⟩, st5⟩ := Jvm.LawKit.callS X4 hx (y := (⟨"java/lang/StringLatin1", "indexOfChar", "([BIII)I"⟩ : MethodName)) hown (mvT hZ (hw _ (List.mem_of_getElem? (i := 174) rfl))) (mvT hZ (hw _ (List.mem_of_getElem? (i := 175) rfl))) (mvT hZ (hw _ (List.mem_of_getElem? (i := 112) rfl))) (mvT hZ (hw _ (List.mem_of_getElem? (i := 176) rfl))) (by decide) (backOf (W := 0) (rm36 l Z a0 hw [] cs ka a ch h0 n0 O0 V_a hbig) hZ (hw _ (List.mem_of_getElem? (i := 176) rfl)) (hw _ (List.mem_of_getElem? (i := 112) rfl)) (by decide) (by decide)) (g := (mkF m 33 #[.val (.ref a), .val (.int ch), .val (.int (0 : Int32)), .val (.int (Int32.ofNat cs.length))] [(.int (Int32.ofNat cs.length)), (.int (0 : Int32)), (.int ch), (.ref a)])) rfl (by rw [hml]; rfl) (argsL := [(.ref a), (.int ch), (.int (0 : Int32)), (.int (Int32.ofNat cs.length))]) (rest := []) (lenOf pd___BIII_I rfl) rfl (by show 2 * 0 + _ ≤ _; exact Nat.le_of_eq rfl) (hb hby d33_33) (fun _ _ => ⟨rfl, eq4, (by decide : 0 + 0 ≤ _), (by decide : 0 + 0 ≤ _)⟩)
  dsimp only [Pt.U, Pt.locs, Pt.cells, Pt.slots] at X5 l5 y5 z5 st5 hQ5
  subst l5 y5 z5
  obtain ⟨rfl, N5q, eq5⟩ := hQ5
  have N5 := Fr.app N4 N5q
  refine own_s st5 ?_
  show Go p.tables e below _ (T5.setTop (mkF m 36 #[.val (.ref a), .val (.int ch), .val (.int (0 : Int32)), .val (.int (Int32.ofNat cs.length))] [(.int (own_find cs (ch.toInt8.toInt32) 0))]))
  obtain ⟨fs, hr, hrun, hended, hW, hsame⟩ := X5.leave (v := (some (.int (own_find cs (ch.toInt8.toInt32) 0)))) (fun h => by first | rfl | (rw [Bd.returns] at h; cases h))
  refine own_e hPP ?_ hrun hended ⟨_, _, rfl, ?_, ⟨_, rfl⟩, hW, hsame.mono (by decide) (by decide)⟩
  · exact retI X5 hx Bd.returns (hb hby d33_36) hr
  · show Q_rm33 Z cs ka a ch h0 n0 _ T5.heap _
    rw [eq5]
    exact ⟨rfl, N5, rfl⟩
theorem d32_0 : decode jdk_42_method_80_code 0 = .ok (.aload_n 0, 1) := by decide +kernel
theorem d32_1 : decode jdk_42_method_80_code 1 = .ok (.invokevirtual 492, 3) := by decide +kernel
theorem d32_4 : decode jdk_42_method_80_code 4 = .ok (.ifCond .eq 19, 3) := by decide +kernel
theorem d32_7 : decode jdk_42_method_80_code 7 = .ok (.aload_n 0, 1) := by decide +kernel
theorem d32_8 : decode jdk_42_method_80_code 8 = .ok (.getfield 9, 3) := by decide +kernel
theorem d32_11 : decode jdk_42_method_80_code 11 = .ok (.iload_n 1, 1) := by decide +kernel
theorem d32_12 : decode jdk_42_method_80_code 12 = .ok (.iload_n 2, 1) := by decide +kernel
theorem d32_13 : decode jdk_42_method_80_code 13 = .ok (.aload_n 0, 1) := by decide +kernel
theorem d32_14 : decode jdk_42_method_80_code 14 = .ok (.invokevirtual 505, 3) := by decide +kernel
theorem d32_17 : decode jdk_42_method_80_code 17 = .ok (.invokestatic 637, 3) := by decide +kernel
theorem d32_20 : decode jdk_42_method_80_code 20 = .ok (.goto 16, 3) := by decide +kernel
theorem d32_36 : decode jdk_42_method_80_code 36 = .ok (.ireturn, 1) := by decide +kernel
theorem ef_rm32 (m : MethodId) (a : Addr) (ch : Int32) : entryFrame m #[(.ref a), (.int ch), (.int (0 : Int32))] 3 = mkF m 0 #[.val (.ref a), .val (.int ch), .val (.int (0 : Int32))] [] := by first | (simp [entryFrame, mkF, argsToLocals, Value.category]; done) | rfl
def Q_rm32 (Z : State) (cz : Int32) (cs : List Int32) (t_a : Addr) (k_a : ClassId) (a : Addr) (ch : Int32) (h0 : Heap) (n0 : Nat) (v : Option Value) (h : Heap) (L : List Loc) : Prop := v = some (.int (own_find cs (ch.toInt8.toInt32) 0)) ∧ Fr n0 L ∧ h = h0
set_option maxRecDepth 65536 in
set_option maxHeartbeats 40000000 in
theorem rm32 (l : Launch) (Z : State) (a0 : Array Value) (hw : ∀ d ∈ tables_1, d.before a0 Z = true) (ws : List Jvm.Cond) (cz : Int32) (cs : List Int32) (t_a : Addr) (k_a : ClassId) (a : Addr) (ch : Int32) (h0 : Heap) (n0 : Nat) (O0 : Old Z n0 h0) (S_C : Sta Z Z.heap "java/lang/String" "COMPACT_STRINGS" "Z" (.int cz)) (hcz : ¬ (cz = (0 : Int32))) (hbig : cs.length < 1000) (hc1 : ¬ (ch < (0 : Int32))) (hc8 : ¬ ((255 : Int32) < ch)) (hne : 0 < cs.length) (F_v_a : Fld Z h0 a "java/lang/String" "value" "[B" (.ref t_a)) (F_c_a : Fld Z h0 a "java/lang/String" "coder" "B" (.int (0 : Int32))) (E_a : Exa Z h0 a "java/lang/String") (V_a : Arv Z h0 t_a k_a .byte (Int32.ofNat cs.length) (own_vs cs) (.int (0 : Int32))) :
    MetFree l (⟨"java/lang/String", "indexOf", "(II)I"⟩ : MethodName) (head1 (Jvm.Cond.code (⟨"java/lang/String", "indexOf", "(II)I"⟩ : MethodName) jdk_42_method_80_code 3 (some .int) :: ws) ({ frames := 2, cells := 0, slots := 0, locals := 32 } : Room)) (fun aa_ U => aa_ = #[(.ref a), (.int ch), (.int (0 : Int32))] ∧ Z.Warmed39 U.vm ∧ U.heap = h0) (fun _ _ _ _ _ => True) (fun _ U oo_ U' => ∃ vv_ LL_, oo_ = .returned vv_ ∧ Q_rm32 Z cz cs t_a k_a a ch h0 n0 vv_ U'.heap LL_ ∧ FrameEnd U oo_ U' LL_ ({ frames := 2, cells := 0, slots := 0, locals := 32 } : Room).cells ({ frames := 2, cells := 0, slots := 0, locals := 32 } : Room).slots) := by
  refine MetFree.of_bodySF (plainFor_of_name pn_java_lang_String) hisR ?_
  intro p e s m args below meth c s₁ Bd hml0 hP hK
  obtain ⟨rfl, hZ, hh⟩ := hP
  have hx := Bd.exec
  have hby := Bd.bytes
  have hml : c.maxLocals = 3 := hml0
  have hown : s.vm.findClass "java/lang/String" = some m.cls := findClass_of_methodNamed Bd.named
  have hnm := (name_of_methodNamed Bd.named Bd.method).1
  have X0 : Stand p l e ({ frames := 2, cells := 0, slots := 0, locals := 32 } : Room) s m #[(.ref a), (.int ch), (.int (0 : Int32))] below meth c s₁ [] 0 0 := Stand.of_body Bd
  have e0 : s₁.heap = h0 := by rw [← hh, Bd.state]; rfl
  have N0 := Fr.nil n0
  have K0 : Keep h0 h0 [] := Keep.refl h0 _
  refine own_i fun PP hPP => own_s (fun t k => castTop (ef_rm32 m a ch) k) ?_
  show Go p.tables e below _ (s₁.setTop (mkF m 0 #[.val (.ref a), .val (.int ch), .val (.int (0 : Int32))] []))
  refine own_s (fun t k => XS.aloadN X0.here hx rfl (hb hby d32_0) rfl rfl k) ?_
  show Go p.tables e below _ (s₁.setTop (mkF m 1 #[.val (.ref a), .val (.int ch), .val (.int (0 : Int32))] [(.ref a)]))
  obtain ⟨cq1, kq1, q1a, q1b, q1c⟩ := isOf hZ e0 E_a
  obtain ⟨_, _, ⟨T1, L1, k1, n1⟩, -, X1, ⟨Lc1, hQ1, l1, y1, z1⟩, st1⟩ := X0.virtualBack hx (y := (⟨"java/lang/String", "isLatin1", "()Z"⟩ : MethodName)) (z := (⟨"java/lang/String", "isLatin1", "()Z"⟩ : MethodName)) hown (mvT hZ (hw _ (List.mem_of_getElem? (i := 131) rfl))) (mvT hZ (hw _ (List.mem_of_getElem? (i := 132) rfl))) (notFace_of_selects (args := #[]) (mvT hZ (hw _ (List.mem_of_getElem? (i := 134) rfl)))) (mvT hZ (hw _ (List.mem_of_getElem? (i := 134) rfl))) (mvT hZ (hw _ (List.mem_of_getElem? (i := 133) rfl))) (by decide) (backOf (W := 0) (rm26 l Z a0 hw [] cz a h0 n0 O0 S_C hcz F_c_a) hZ (hw _ (List.mem_of_getElem? (i := 135) rfl)) (hw _ (List.mem_of_getElem? (i := 21) rfl)) (by decide) (by decide)) q1a q1c (g := (mkF m 1 #[.val (.ref a), .val (.int ch), .val (.int (0 : Int32))] [(.ref a)])) rfl (by rw [hml]; rfl) (Steps.refl _) (argsL := []) (rest := []) (lenOf pd___Z rfl) rfl (by show 2 * 0 + _ ≤ _; exact Nat.le_of_eq rfl) (hb hby d32_1) (fun _ _ => ⟨rfl, e0, (by decide : 0 + 0 ≤ _), (by decide : 0 + 0 ≤ _)⟩)
  dsimp only [Pt.U, Pt.locs, Pt.cells, Pt.slots] at X1 l1 y1 z1 st1 hQ1
  subst l1 y1 z1
  obtain ⟨rfl, N1q, eq1⟩ := hQ1
  have N1 := Fr.app N0 N1q
  refine own_t st1 ?_
  show Go p.tables e below _ (T1.setTop (mkF m 4 #[.val (.ref a), .val (.int ch), .val (.int (0 : Int32))] [(.int (1 : Int32))]))
  refine own_s (fun t k => XS.ifNo X1.here hx rfl (hb hby d32_4) rfl ((if0 _ _).trans (feq (by decide : ¬ ((1 : Int32) = (0 : Int32)))).1) k) ?_
  show Go p.tables e below _ (T1.setTop (mkF m 7 #[.val (.ref a), .val (.int ch), .val (.int (0 : Int32))] []))
  refine own_s (fun t k => XS.aloadN X1.here hx rfl (hb hby d32_7) rfl rfl k) ?_
  show Go p.tables e below _ (T1.setTop (mkF m 8 #[.val (.ref a), .val (.int ch), .val (.int (0 : Int32))] [(.ref a)]))
  obtain ⟨T2, X2, e2, st2⟩ := getF X1 hx hZ hown (host := "") (Or.inl (hw _ (List.mem_of_getElem? (i := 82) rfl))) Via.refl eq1 F_v_a (g := (mkF m 8 #[.val (.ref a), .val (.int ch), .val (.int (0 : Int32))] [(.ref a)])) rfl rfl (hb hby d32_8)
  refine own_s st2 ?_
  show Go p.tables e below _ (T2.setTop (mkF m 11 #[.val (.ref a), .val (.int ch), .val (.int (0 : Int32))] [(.ref t_a)]))
  refine own_s (fun t k => XS.iloadN X2.here hx rfl (hb hby d32_11) rfl k) ?_
  show Go p.tables e below _ (T2.setTop (mkF m 12 #[.val (.ref a), .val (.int ch), .val (.int (0 : Int32))] [(.int ch), (.ref t_a)]))
  refine own_s (fun t k => XS.iloadN X2.here hx rfl (hb hby d32_12) rfl k) ?_
  show Go p.tables e below _ (T2.setTop (mkF m 13 #[.val (.ref a), .val (.int ch), .val (.int (0 : Int32))] [(.int (0 : Int32)), (.int ch), (.ref t_a)]))
  refine own_s (fun t k => XS.aloadN X2.here hx rfl (hb hby d32_13) rfl rfl k) ?_
  show Go p.tables e below _ (T2.setTop (mkF m 14 #[.val (.ref a), .val (.int ch), .val (.int (0 : Int32))] [(.ref a), (.int (0 : Int32)), (.int ch), (.ref t_a)]))
  obtain ⟨cq3, kq3, q3a, q3b, q3c⟩ := isOf hZ e2 E_a
  obtain ⟨_, _, ⟨T3, L3, k3, n3⟩, -, X3, ⟨Lc3, hQ3, l3, y3, z3⟩, st3⟩ := X2.virtualBack hx (y := (⟨"java/lang/String", "length", "()I"⟩ : MethodName)) (z := (⟨"java/lang/String", "length", "()I"⟩ : MethodName)) hown (mvT hZ (hw _ (List.mem_of_getElem? (i := 163) rfl))) (mvT hZ (hw _ (List.mem_of_getElem? (i := 85) rfl))) (notFace_of_selects (args := #[]) (mvT hZ (hw _ (List.mem_of_getElem? (i := 87) rfl)))) (mvT hZ (hw _ (List.mem_of_getElem? (i := 87) rfl))) (mvT hZ (hw _ (List.mem_of_getElem? (i := 86) rfl))) (by decide) (backOf (W := 3) (rm16 l Z a0 hw [] cz cs t_a k_a a h0 n0 O0 S_C hcz hbig F_v_a F_c_a E_a V_a) hZ (hw _ (List.mem_of_getElem? (i := 88) rfl)) (hw _ (List.mem_of_getElem? (i := 21) rfl)) (by decide) (by decide)) q3a q3c (g := (mkF m 14 #[.val (.ref a), .val (.int ch), .val (.int (0 : Int32))] [(.ref a), (.int (0 : Int32)), (.int ch), (.ref t_a)])) rfl (by rw [hml]; rfl) (Steps.refl _) (argsL := []) (rest := [(.int (0 : Int32)), (.int ch), (.ref t_a)]) (lenOf pd___I rfl) rfl (by show 2 * 0 + _ ≤ _; exact Nat.le_of_eq rfl) (hb hby d32_14) (fun _ _ => ⟨rfl, e2, (by decide : 0 + 0 ≤ _), (by decide : 0 + 0 ≤ _)⟩)
  dsimp only [Pt.U, Pt.locs, Pt.cells, Pt.slots] at X3 l3 y3 z3 st3 hQ3
  subst l3 y3 z3
  obtain ⟨rfl, N3q, eq3⟩ := hQ3
  have N3 := Fr.app N1 N3q
  refine own_t st3 ?_
  show Go p.tables e below _ (T3.setTop (mkF m 17 #[.val (.ref a), .val (.int ch), .val (.int (0 : Int32))] [(.int (Int32.ofNat cs.length)), (.int (0 : Int32)), (.int ch), (.ref t_a)]))
  obtain ⟨_, _, ⟨T4, L4, k4, n4⟩, -, X4, ⟨Lc4, hQ4, l4, y4, z4⟩, st4⟩ := Jvm.LawKit.callS X3 hx (y := (⟨"java/lang/StringLatin1", "indexOf", "([BIII)I"⟩ : MethodName)) hown (mvT hZ (hw _ (List.mem_of_getElem? (i := 164) rfl))) (mvT hZ (hw _ (List.mem_of_getElem? (i := 165) rfl))) (mvT hZ (hw _ (List.mem_of_getElem? (i := 112) rfl))) (mvT hZ (hw _ (List.mem_of_getElem? (i := 166) rfl))) (by decide) (backOf (W := 0) (rm33 l Z a0 hw [] cs k_a t_a ch h0 n0 O0 V_a hbig hc1 hc8 hne) hZ (hw _ (List.mem_of_getElem? (i := 166) rfl)) (hw _ (List.mem_of_getElem? (i := 112) rfl)) (by decide) (by decide)) (g := (mkF m 17 #[.val (.ref a), .val (.int ch), .val (.int (0 : Int32))] [(.int (Int32.ofNat cs.length)), (.int (0 : Int32)), (.int ch), (.ref t_a)])) rfl (by rw [hml]; rfl) (argsL := [(.ref t_a), (.int ch), (.int (0 : Int32)), (.int (Int32.ofNat cs.length))]) (rest := []) (lenOf pd___BIII_I rfl) rfl (by show 2 * 0 + _ ≤ _; exact Nat.le_of_eq rfl) (hb hby d32_17) (fun _ _ => ⟨rfl, eq3, (by decide : 0 + 0 ≤ _), (by decide : 0 + 0 ≤ _)⟩)
  dsimp only [Pt.U, Pt.locs, Pt.cells, Pt.slots] at X4 l4 y4 z4 st4 hQ4
  subst l4 y4 z4
  obtain ⟨rfl, N4q, eq4⟩ := hQ4
  have N4 := Fr.app N3 N4q
  refine own_s st4 ?_
  show Go p.tables e below _ (T4.setTop (mkF m 20 #[.val (.ref a), .val (.int ch), .val (.int (0 : Int32))] [(.int (own_find cs (ch.toInt8.toInt32) 0))]))
  refine own_s (fun t k => XS.goto X4.here hx rfl (pc0 := 20) (pc' := 36) rfl (hb hby d32_20) (by decide) (by decide) k) ?_
  show Go p.tables e below _ (T4.setTop (mkF m 36 #[.val (.ref a), .val (.int ch), .val (.int (0 : Int32))] [(.int (own_find cs (ch.toInt8.toInt32) 0))]))
  obtain ⟨fs, hr, hrun, hended, hW, hsame⟩ := X4.leave (v := (some (.int (own_find cs (ch.toInt8.toInt32) 0)))) (fun h => by first | rfl | (rw [Bd.returns] at h; cases h))
  refine own_e hPP ?_ hrun hended ⟨_, _, rfl, ?_, ⟨_, rfl⟩, hW, hsame.mono (by decide) (by decide)⟩
  · exact retI X4 hx Bd.returns (hb hby d32_36) hr
  · show Q_rm32 Z cz cs t_a k_a a ch h0 n0 _ T4.heap _
    rw [eq4]
    exact ⟨rfl, N4, rfl⟩
theorem d31_0 : decode jdk_42_method_79_code 0 = .ok (.aload_n 0, 1) := by decide +kernel
theorem d31_1 : decode jdk_42_method_79_code 1 = .ok (.iload_n 1, 1) := by decide +kernel
theorem d31_2 : decode jdk_42_method_79_code 2 = .ok (.iconst 0, 1) := by decide +kernel
theorem d31_3 : decode jdk_42_method_79_code 3 = .ok (.invokevirtual 633, 3) := by decide +kernel
theorem d31_6 : decode jdk_42_method_79_code 6 = .ok (.ireturn, 1) := by decide +kernel
theorem ef_rm31 (m : MethodId) (a : Addr) (ch : Int32) : entryFrame m #[(.ref a), (.int ch)] 2 = mkF m 0 #[.val (.ref a), .val (.int ch)] [] := by first | (simp [entryFrame, mkF, argsToLocals, Value.category]; done) | rfl
def Q_rm31 (Z : State) (cz : Int32) (cs : List Int32) (t_a : Addr) (k_a : ClassId) (a : Addr) (ch : Int32) (h0 : Heap) (n0 : Nat) (v : Option Value) (h : Heap) (L : List Loc) : Prop := v = some (.int (own_find cs (ch.toInt8.toInt32) 0)) ∧ Fr n0 L ∧ h = h0
set_option maxRecDepth 65536 in
set_option maxHeartbeats 40000000 in
theorem rm31 (l : Launch) (Z : State) (a0 : Array Value) (hw : ∀ d ∈ tables_1, d.before a0 Z = true) (ws : List Jvm.Cond) (cz : Int32) (cs : List Int32) (t_a : Addr) (k_a : ClassId) (a : Addr) (ch : Int32) (h0 : Heap) (n0 : Nat) (O0 : Old Z n0 h0) (S_C : Sta Z Z.heap "java/lang/String" "COMPACT_STRINGS" "Z" (.int cz)) (hcz : ¬ (cz = (0 : Int32))) (hbig : cs.length < 1000) (hc1 : ¬ (ch < (0 : Int32))) (hc8 : ¬ ((255 : Int32) < ch)) (hne : 0 < cs.length) (F_v_a : Fld Z h0 a "java/lang/String" "value" "[B" (.ref t_a)) (F_c_a : Fld Z h0 a "java/lang/String" "coder" "B" (.int (0 : Int32))) (E_a : Exa Z h0 a "java/lang/String") (V_a : Arv Z h0 t_a k_a .byte (Int32.ofNat cs.length) (own_vs cs) (.int (0 : Int32))) :
    MetFree l (⟨"java/lang/String", "indexOf", "(I)I"⟩ : MethodName) (head1 (Jvm.Cond.code (⟨"java/lang/String", "indexOf", "(I)I"⟩ : MethodName) jdk_42_method_79_code 2 (some .int) :: ws) ({ frames := 3, cells := 0, slots := 0, locals := 46 } : Room)) (fun aa_ U => aa_ = #[(.ref a), (.int ch)] ∧ Z.Warmed39 U.vm ∧ U.heap = h0) (fun _ _ _ _ _ => True) (fun _ U oo_ U' => ∃ vv_ LL_, oo_ = .returned vv_ ∧ Q_rm31 Z cz cs t_a k_a a ch h0 n0 vv_ U'.heap LL_ ∧ FrameEnd U oo_ U' LL_ ({ frames := 3, cells := 0, slots := 0, locals := 46 } : Room).cells ({ frames := 3, cells := 0, slots := 0, locals := 46 } : Room).slots) := by
  refine MetFree.of_bodySF (plainFor_of_name pn_java_lang_String) hisR ?_
  intro p e s m args below meth c s₁ Bd hml0 hP hK
  obtain ⟨rfl, hZ, hh⟩ := hP
  have hx := Bd.exec
  have hby := Bd.bytes
  have hml : c.maxLocals = 2 := hml0
  have hown : s.vm.findClass "java/lang/String" = some m.cls := findClass_of_methodNamed Bd.named
  have hnm := (name_of_methodNamed Bd.named Bd.method).1
  have X0 : Stand p l e ({ frames := 3, cells := 0, slots := 0, locals := 46 } : Room) s m #[(.ref a), (.int ch)] below meth c s₁ [] 0 0 := Stand.of_body Bd
  have e0 : s₁.heap = h0 := by rw [← hh, Bd.state]; rfl
  have N0 := Fr.nil n0
  have K0 : Keep h0 h0 [] := Keep.refl h0 _
  refine own_i fun PP hPP => own_s (fun t k => castTop (ef_rm31 m a ch) k) ?_
  show Go p.tables e below _ (s₁.setTop (mkF m 0 #[.val (.ref a), .val (.int ch)] []))
  refine own_s (fun t k => XS.aloadN X0.here hx rfl (hb hby d31_0) rfl rfl k) ?_
  show Go p.tables e below _ (s₁.setTop (mkF m 1 #[.val (.ref a), .val (.int ch)] [(.ref a)]))
  refine own_s (fun t k => XS.iloadN X0.here hx rfl (hb hby d31_1) rfl k) ?_
  show Go p.tables e below _ (s₁.setTop (mkF m 2 #[.val (.ref a), .val (.int ch)] [(.int ch), (.ref a)]))
  refine own_s (fun t k => XS.iconst X0.here hx rfl (hb hby d31_2) k) ?_
  show Go p.tables e below _ (s₁.setTop (mkF m 3 #[.val (.ref a), .val (.int ch)] [(.int (0 : Int32)), (.int ch), (.ref a)]))
  obtain ⟨cq1, kq1, q1a, q1b, q1c⟩ := isOf hZ e0 E_a
  obtain ⟨_, _, ⟨T1, L1, k1, n1⟩, -, X1, ⟨Lc1, hQ1, l1, y1, z1⟩, st1⟩ := X0.virtualBack hx (y := (⟨"java/lang/String", "indexOf", "(II)I"⟩ : MethodName)) (z := (⟨"java/lang/String", "indexOf", "(II)I"⟩ : MethodName)) hown (mvT hZ (hw _ (List.mem_of_getElem? (i := 158) rfl))) (mvT hZ (hw _ (List.mem_of_getElem? (i := 159) rfl))) (notFace_of_selects (args := #[]) (mvT hZ (hw _ (List.mem_of_getElem? (i := 161) rfl)))) (mvT hZ (hw _ (List.mem_of_getElem? (i := 161) rfl))) (mvT hZ (hw _ (List.mem_of_getElem? (i := 160) rfl))) (by decide) (backOf (W := 0) (rm32 l Z a0 hw [] cz cs t_a k_a a ch h0 n0 O0 S_C hcz hbig hc1 hc8 hne F_v_a F_c_a E_a V_a) hZ (hw _ (List.mem_of_getElem? (i := 162) rfl)) (hw _ (List.mem_of_getElem? (i := 21) rfl)) (by decide) (by decide)) q1a q1c (g := (mkF m 3 #[.val (.ref a), .val (.int ch)] [(.int (0 : Int32)), (.int ch), (.ref a)])) rfl (by rw [hml]; rfl) (Steps.refl _) (argsL := [(.int ch), (.int (0 : Int32))]) (rest := []) (lenOf pd__II_I rfl) rfl (by show 2 * 0 + _ ≤ _; exact Nat.le_of_eq rfl) (hb hby d31_3) (fun _ _ => ⟨rfl, e0, (by decide : 0 + 0 ≤ _), (by decide : 0 + 0 ≤ _)⟩)
  dsimp only [Pt.U, Pt.locs, Pt.cells, Pt.slots] at X1 l1 y1 z1 st1 hQ1
  subst l1 y1 z1
  obtain ⟨rfl, N1q, eq1⟩ := hQ1
  have N1 := Fr.app N0 N1q
  refine own_t st1 ?_
  show Go p.tables e below _ (T1.setTop (mkF m 6 #[.val (.ref a), .val (.int ch)] [(.int (own_find cs (ch.toInt8.toInt32) 0))]))
  obtain ⟨fs, hr, hrun, hended, hW, hsame⟩ := X1.leave (v := (some (.int (own_find cs (ch.toInt8.toInt32) 0)))) (fun h => by first | rfl | (rw [Bd.returns] at h; cases h))
  refine own_e hPP ?_ hrun hended ⟨_, _, rfl, ?_, ⟨_, rfl⟩, hW, hsame.mono (by decide) (by decide)⟩
  · exact retI X1 hx Bd.returns (hb hby d31_6) hr
  · show Q_rm31 Z cz cs t_a k_a a ch h0 n0 _ T1.heap _
    rw [eq1]
    exact ⟨rfl, N1, rfl⟩
theorem d23_144 : decode method_3_code 144 = .ok (.iconst 1, 1) := by decide +kernel
theorem d23_145 : decode method_3_code 145 = .ok (.goto 4, 3) := by decide +kernel
theorem d23_149 : decode method_3_code 149 = .ok (.ireturn, 1) := by decide +kernel
theorem d23_36 : decode method_3_code 36 = .ok (.iload_n 0, 1) := by decide +kernel
theorem d23_37 : decode method_3_code 37 = .ok (.bipush 45, 2) := by decide +kernel
theorem d23_39 : decode method_3_code 39 = .ok (.if_icmp .eq 105, 3) := by decide +kernel
theorem d23_42 : decode method_3_code 42 = .ok (.iload_n 0, 1) := by decide +kernel
theorem d23_43 : decode method_3_code 43 = .ok (.bipush 46, 2) := by decide +kernel
theorem d23_45 : decode method_3_code 45 = .ok (.if_icmp .eq 99, 3) := by decide +kernel
theorem d23_48 : decode method_3_code 48 = .ok (.iload_n 0, 1) := by decide +kernel
theorem d23_49 : decode method_3_code 49 = .ok (.bipush 95, 2) := by decide +kernel
theorem d23_51 : decode method_3_code 51 = .ok (.if_icmp .eq 93, 3) := by decide +kernel
theorem d23_54 : decode method_3_code 54 = .ok (.iload_n 0, 1) := by decide +kernel
theorem d23_55 : decode method_3_code 55 = .ok (.bipush 126, 2) := by decide +kernel
theorem d23_57 : decode method_3_code 57 = .ok (.if_icmp .eq 87, 3) := by decide +kernel
theorem d23_60 : decode method_3_code 60 = .ok (.iload_n 0, 1) := by decide +kernel
theorem d23_61 : decode method_3_code 61 = .ok (.bipush 33, 2) := by decide +kernel
theorem d23_63 : decode method_3_code 63 = .ok (.if_icmp .eq 81, 3) := by decide +kernel
theorem d23_66 : decode method_3_code 66 = .ok (.iload_n 0, 1) := by decide +kernel
theorem d23_67 : decode method_3_code 67 = .ok (.bipush 36, 2) := by decide +kernel
theorem d23_69 : decode method_3_code 69 = .ok (.if_icmp .eq 75, 3) := by decide +kernel
theorem d23_72 : decode method_3_code 72 = .ok (.iload_n 0, 1) := by decide +kernel
theorem d23_73 : decode method_3_code 73 = .ok (.bipush 38, 2) := by decide +kernel
theorem d23_75 : decode method_3_code 75 = .ok (.if_icmp .eq 69, 3) := by decide +kernel
theorem d23_78 : decode method_3_code 78 = .ok (.iload_n 0, 1) := by decide +kernel
theorem d23_79 : decode method_3_code 79 = .ok (.bipush 39, 2) := by decide +kernel
theorem d23_81 : decode method_3_code 81 = .ok (.if_icmp .eq 63, 3) := by decide +kernel
theorem d23_84 : decode method_3_code 84 = .ok (.iload_n 0, 1) := by decide +kernel
theorem d23_85 : decode method_3_code 85 = .ok (.bipush 40, 2) := by decide +kernel
theorem d23_87 : decode method_3_code 87 = .ok (.if_icmp .eq 57, 3) := by decide +kernel
theorem d23_90 : decode method_3_code 90 = .ok (.iload_n 0, 1) := by decide +kernel
theorem d23_91 : decode method_3_code 91 = .ok (.bipush 41, 2) := by decide +kernel
theorem d23_93 : decode method_3_code 93 = .ok (.if_icmp .eq 51, 3) := by decide +kernel
theorem d23_96 : decode method_3_code 96 = .ok (.iload_n 0, 1) := by decide +kernel
theorem d23_97 : decode method_3_code 97 = .ok (.bipush 42, 2) := by decide +kernel
theorem d23_99 : decode method_3_code 99 = .ok (.if_icmp .eq 45, 3) := by decide +kernel
theorem d23_102 : decode method_3_code 102 = .ok (.iload_n 0, 1) := by decide +kernel
theorem d23_103 : decode method_3_code 103 = .ok (.bipush 43, 2) := by decide +kernel
theorem d23_105 : decode method_3_code 105 = .ok (.if_icmp .eq 39, 3) := by decide +kernel
theorem d23_108 : decode method_3_code 108 = .ok (.iload_n 0, 1) := by decide +kernel
theorem d23_109 : decode method_3_code 109 = .ok (.bipush 44, 2) := by decide +kernel
theorem d23_111 : decode method_3_code 111 = .ok (.if_icmp .eq 33, 3) := by decide +kernel
theorem d23_114 : decode method_3_code 114 = .ok (.iload_n 0, 1) := by decide +kernel
theorem d23_115 : decode method_3_code 115 = .ok (.bipush 59, 2) := by decide +kernel
theorem d23_117 : decode method_3_code 117 = .ok (.if_icmp .eq 27, 3) := by decide +kernel
theorem d23_120 : decode method_3_code 120 = .ok (.iload_n 0, 1) := by decide +kernel
theorem d23_121 : decode method_3_code 121 = .ok (.bipush 61, 2) := by decide +kernel
theorem d23_123 : decode method_3_code 123 = .ok (.if_icmp .eq 21, 3) := by decide +kernel
theorem d23_126 : decode method_3_code 126 = .ok (.iload_n 0, 1) := by decide +kernel
theorem d23_127 : decode method_3_code 127 = .ok (.bipush 58, 2) := by decide +kernel
theorem d23_129 : decode method_3_code 129 = .ok (.if_icmp .eq 15, 3) := by decide +kernel
theorem d23_132 : decode method_3_code 132 = .ok (.iload_n 0, 1) := by decide +kernel
theorem d23_133 : decode method_3_code 133 = .ok (.bipush 64, 2) := by decide +kernel
theorem d23_135 : decode method_3_code 135 = .ok (.if_icmp .eq 9, 3) := by decide +kernel
theorem d23_138 : decode method_3_code 138 = .ok (.iload_n 0, 1) := by decide +kernel
theorem d23_139 : decode method_3_code 139 = .ok (.bipush 47, 2) := by decide +kernel
theorem d23_141 : decode method_3_code 141 = .ok (.if_icmp .ne 7, 3) := by decide +kernel
theorem d23_148 : decode method_3_code 148 = .ok (.iconst 0, 1) := by decide +kernel
theorem d23_24 : decode method_3_code 24 = .ok (.iload_n 0, 1) := by decide +kernel
theorem d23_25 : decode method_3_code 25 = .ok (.bipush 48, 2) := by decide +kernel
theorem d23_27 : decode method_3_code 27 = .ok (.if_icmp .lt 9, 3) := by decide +kernel
theorem d23_30 : decode method_3_code 30 = .ok (.iload_n 0, 1) := by decide +kernel
theorem d23_31 : decode method_3_code 31 = .ok (.bipush 57, 2) := by decide +kernel
theorem d23_33 : decode method_3_code 33 = .ok (.if_icmp .le 111, 3) := by decide +kernel
theorem d23_12 : decode method_3_code 12 = .ok (.iload_n 0, 1) := by decide +kernel
theorem d23_13 : decode method_3_code 13 = .ok (.bipush 65, 2) := by decide +kernel
theorem d23_15 : decode method_3_code 15 = .ok (.if_icmp .lt 9, 3) := by decide +kernel
theorem d23_18 : decode method_3_code 18 = .ok (.iload_n 0, 1) := by decide +kernel
theorem d23_19 : decode method_3_code 19 = .ok (.bipush 90, 2) := by decide +kernel
theorem d23_21 : decode method_3_code 21 = .ok (.if_icmp .le 123, 3) := by decide +kernel
theorem d23_0 : decode method_3_code 0 = .ok (.iload_n 0, 1) := by decide +kernel
theorem d23_1 : decode method_3_code 1 = .ok (.bipush 97, 2) := by decide +kernel
theorem d23_3 : decode method_3_code 3 = .ok (.if_icmp .lt 9, 3) := by decide +kernel
theorem d23_6 : decode method_3_code 6 = .ok (.iload_n 0, 1) := by decide +kernel
theorem d23_7 : decode method_3_code 7 = .ok (.bipush 122, 2) := by decide +kernel
theorem d23_9 : decode method_3_code 9 = .ok (.if_icmp .le 135, 3) := by decide +kernel
def own_plain_144  : Int32 := (1 : Int32)
def own_plain_36 (by_ : Int32) : Int32 := (if by_ = (45 : Int32) then own_plain_144 else (if by_ = (46 : Int32) then own_plain_144 else (if by_ = (95 : Int32) then own_plain_144 else (if by_ = (126 : Int32) then own_plain_144 else (if by_ = (33 : Int32) then own_plain_144 else (if by_ = (36 : Int32) then own_plain_144 else (if by_ = (38 : Int32) then own_plain_144 else (if by_ = (39 : Int32) then own_plain_144 else (if by_ = (40 : Int32) then own_plain_144 else (if by_ = (41 : Int32) then own_plain_144 else (if by_ = (42 : Int32) then own_plain_144 else (if by_ = (43 : Int32) then own_plain_144 else (if by_ = (44 : Int32) then own_plain_144 else (if by_ = (59 : Int32) then own_plain_144 else (if by_ = (61 : Int32) then own_plain_144 else (if by_ = (58 : Int32) then own_plain_144 else (if by_ = (64 : Int32) then own_plain_144 else (if by_ = (47 : Int32) then own_plain_144 else (0 : Int32)))))))))))))))))))
def own_plain_24 (by_ : Int32) : Int32 := (if by_ < (48 : Int32) then (own_plain_36 by_) else (if (57 : Int32) < by_ then (own_plain_36 by_) else own_plain_144))
def own_plain_12 (by_ : Int32) : Int32 := (if by_ < (65 : Int32) then (own_plain_24 by_) else (if (90 : Int32) < by_ then (own_plain_24 by_) else own_plain_144))
def own_plain (by_ : Int32) : Int32 := (if by_ < (97 : Int32) then (own_plain_12 by_) else (if (122 : Int32) < by_ then (own_plain_12 by_) else own_plain_144))
theorem pn_com_example_birep_birep_rrdp_RsyncBaseEncodedPinLaw : plainName "com/example/birep/birep/rrdp/RsyncBaseEncodedPinLaw" = true := by first | (simp [plainName, overriddenIn]; done) | decide +kernel
theorem ef_rm23 (m : MethodId) (by_ : Int32) : entryFrame m #[(.int by_)] 1 = mkF m 0 #[.val (.int by_)] [] := by first | (simp [entryFrame, mkF, argsToLocals, Value.category]; done) | rfl
def Q_rm23 (Z : State) (by_ : Int32) (h0 : Heap) (n0 : Nat) (v : Option Value) (h : Heap) (L : List Loc) : Prop := v = some (.int (own_plain by_)) ∧ Fr n0 L ∧ h = h0
set_option maxRecDepth 65536 in
set_option maxHeartbeats 40000000 in
theorem rm23 (l : Launch) (Z : State) (a0 : Array Value) (hw : ∀ d ∈ tables_1, d.before a0 Z = true) (ws : List Jvm.Cond) (by_ : Int32) (h0 : Heap) (n0 : Nat) (O0 : Old Z n0 h0)  :
    MetFree l (⟨"com/example/birep/birep/rrdp/RsyncBaseEncodedPinLaw", "plain", "(I)Z"⟩ : MethodName) (head1 (Jvm.Cond.code (⟨"com/example/birep/birep/rrdp/RsyncBaseEncodedPinLaw", "plain", "(I)Z"⟩ : MethodName) method_3_code 1 (some .boolean) :: ws) ({ frames := 0, cells := 0, slots := 0, locals := 0 } : Room)) (fun aa_ U => aa_ = #[(.int by_)] ∧ Z.Warmed39 U.vm ∧ U.heap = h0) (fun _ _ _ _ _ => True) (fun _ U oo_ U' => ∃ vv_ LL_, oo_ = .returned vv_ ∧ Q_rm23 Z by_ h0 n0 vv_ U'.heap LL_ ∧ FrameEnd U oo_ U' LL_ ({ frames := 0, cells := 0, slots := 0, locals := 0 } : Room).cells ({ frames := 0, cells := 0, slots := 0, locals := 0 } : Room).slots) := by
  refine MetFree.of_bodySF (plainFor_of_name pn_com_example_birep_birep_rrdp_RsyncBaseEncodedPinLaw) hisR ?_
  intro p e s m args below meth c s₁ Bd hml0 hP hK
  obtain ⟨rfl, hZ, hh⟩ := hP
  have hx := Bd.exec
  have hby := Bd.bytes
  have hml : c.maxLocals = 1 := hml0
  have hown : s.vm.findClass "com/example/birep/birep/rrdp/RsyncBaseEncodedPinLaw" = some m.cls := findClass_of_methodNamed Bd.named
  have hnm := (name_of_methodNamed Bd.named Bd.method).1
  have X0 : Stand p l e ({ frames := 0, cells := 0, slots := 0, locals := 0 } : Room) s m #[(.int by_)] below meth c s₁ [] 0 0 := Stand.of_body Bd
  have e0 : s₁.heap = h0 := by rw [← hh, Bd.state]; rfl
  have N0 := Fr.nil n0
  have K0 : Keep h0 h0 [] := Keep.refl h0 _
  refine own_i fun PP hPP => own_s (fun t k => castTop (ef_rm23 m by_) k) ?_
  have j144 : own_plain_144 = (own_plain by_) → Go p.tables e below PP (s₁.setTop (mkF m 144 #[.val (.int by_)] [])) := by
    intro hE
    show Go p.tables e below _ (s₁.setTop (mkF m 144 #[.val (.int by_)] []))
    refine own_s (fun t k => XS.iconst X0.here hx rfl (hb hby d23_144) k) ?_
    show Go p.tables e below _ (s₁.setTop (mkF m 145 #[.val (.int by_)] [(.int (1 : Int32))]))
    refine own_s (fun t k => XS.goto X0.here hx rfl (pc0 := 145) (pc' := 149) rfl (hb hby d23_145) (by decide) (by decide) k) ?_
    show Go p.tables e below _ (s₁.setTop (mkF m 149 #[.val (.int by_)] [(.int (1 : Int32))]))
    obtain ⟨fs, hr, hrun, hended, hW, hsame⟩ := X0.leave (v := (some (.int (1 : Int32)))) (fun h => by first | rfl | (rw [Bd.returns] at h; cases h))
    refine own_e hPP ?_ hrun hended ⟨_, _, rfl, ?_, ⟨_, rfl⟩, hW, hsame.mono (by decide) (by decide)⟩
    · exact retN X0 hx (t := .boolean) Bd.returns (by simp) (hb hby d23_149) hr
    · show Q_rm23 Z by_ h0 n0 _ s₁.heap _
      rw [e0]
      exact ⟨congrArg (fun z => some (Value.int z)) (show (1 : Int32) = (own_plain by_) from (show (1 : Int32) = own_plain_144 from by rw [own_plain_144]).trans hE), N0, rfl⟩
  have j36 : (own_plain_36 by_) = (own_plain by_) → Go p.tables e below PP (s₁.setTop (mkF m 36 #[.val (.int by_)] [])) := by
    intro hE
    show Go p.tables e below _ (s₁.setTop (mkF m 36 #[.val (.int by_)] []))
    refine own_s (fun t k => XS.iloadN X0.here hx rfl (hb hby d23_36) rfl k) ?_
    show Go p.tables e below _ (s₁.setTop (mkF m 37 #[.val (.int by_)] [(.int by_)]))
    refine own_s (fun t k => XS.bipush X0.here hx rfl (hb hby d23_37) k) ?_
    show Go p.tables e below _ (s₁.setTop (mkF m 39 #[.val (.int by_)] [(.int (45 : Int32)), (.int by_)]))
    by_cases hc1 : by_ = (45 : Int32)
    ·
      refine own_s (fun t k => XS.icmpYes X0.here hx rfl (pc0 := 39) (pc' := 144) rfl (hb hby d23_39) rfl (teq hc1).1 (by decide) (by decide) k) ?_
      exact j144 ((show own_plain_144 = (own_plain_36 by_) from by rw [own_plain_36, if_pos hc1]).trans hE)
    ·
      refine own_s (fun t k => XS.icmpNo X0.here hx rfl (hb hby d23_39) rfl (feq hc1).1 k) ?_
      show Go p.tables e below _ (s₁.setTop (mkF m 42 #[.val (.int by_)] []))
      refine own_s (fun t k => XS.iloadN X0.here hx rfl (hb hby d23_42) rfl k) ?_
      show Go p.tables e below _ (s₁.setTop (mkF m 43 #[.val (.int by_)] [(.int by_)]))
      refine own_s (fun t k => XS.bipush X0.here hx rfl (hb hby d23_43) k) ?_
      show Go p.tables e below _ (s₁.setTop (mkF m 45 #[.val (.int by_)] [(.int (46 : Int32)), (.int by_)]))
      by_cases hc2 : by_ = (46 : Int32)
      ·
        refine own_s (fun t k => XS.icmpYes X0.here hx rfl (pc0 := 45) (pc' := 144) rfl (hb hby d23_45) rfl (teq hc2).1 (by decide) (by decide) k) ?_
        exact j144 ((show own_plain_144 = (own_plain_36 by_) from by rw [own_plain_36, if_neg hc1, if_pos hc2]).trans hE)
      ·
        refine own_s (fun t k => XS.icmpNo X0.here hx rfl (hb hby d23_45) rfl (feq hc2).1 k) ?_
        show Go p.tables e below _ (s₁.setTop (mkF m 48 #[.val (.int by_)] []))
        refine own_s (fun t k => XS.iloadN X0.here hx rfl (hb hby d23_48) rfl k) ?_
        show Go p.tables e below _ (s₁.setTop (mkF m 49 #[.val (.int by_)] [(.int by_)]))
        refine own_s (fun t k => XS.bipush X0.here hx rfl (hb hby d23_49) k) ?_
        show Go p.tables e below _ (s₁.setTop (mkF m 51 #[.val (.int by_)] [(.int (95 : Int32)), (.int by_)]))
        by_cases hc3 : by_ = (95 : Int32)
        ·
          refine own_s (fun t k => XS.icmpYes X0.here hx rfl (pc0 := 51) (pc' := 144) rfl (hb hby d23_51) rfl (teq hc3).1 (by decide) (by decide) k) ?_
          exact j144 ((show own_plain_144 = (own_plain_36 by_) from by rw [own_plain_36, if_neg hc1, if_neg hc2, if_pos hc3]).trans hE)
        ·
          refine own_s (fun t k => XS.icmpNo X0.here hx rfl (hb hby d23_51) rfl (feq hc3).1 k) ?_
          show Go p.tables e below _ (s₁.setTop (mkF m 54 #[.val (.int by_)] []))
          refine own_s (fun t k => XS.iloadN X0.here hx rfl (hb hby d23_54) rfl k) ?_
          show Go p.tables e below _ (s₁.setTop (mkF m 55 #[.val (.int by_)] [(.int by_)]))
          refine own_s (fun t k => XS.bipush X0.here hx rfl (hb hby d23_55) k) ?_
          show Go p.tables e below _ (s₁.setTop (mkF m 57 #[.val (.int by_)] [(.int (126 : Int32)), (.int by_)]))
          by_cases hc4 : by_ = (126 : Int32)
          ·
            refine own_s (fun t k => XS.icmpYes X0.here hx rfl (pc0 := 57) (pc' := 144) rfl (hb hby d23_57) rfl (teq hc4).1 (by decide) (by decide) k) ?_
            exact j144 ((show own_plain_144 = (own_plain_36 by_) from by rw [own_plain_36, if_neg hc1, if_neg hc2, if_neg hc3, if_pos hc4]).trans hE)
          ·
            refine own_s (fun t k => XS.icmpNo X0.here hx rfl (hb hby d23_57) rfl (feq hc4).1 k) ?_
            show Go p.tables e below _ (s₁.setTop (mkF m 60 #[.val (.int by_)] []))
            refine own_s (fun t k => XS.iloadN X0.here hx rfl (hb hby d23_60) rfl k) ?_
            show Go p.tables e below _ (s₁.setTop (mkF m 61 #[.val (.int by_)] [(.int by_)]))
            refine own_s (fun t k => XS.bipush X0.here hx rfl (hb hby d23_61) k) ?_
            show Go p.tables e below _ (s₁.setTop (mkF m 63 #[.val (.int by_)] [(.int (33 : Int32)), (.int by_)]))
            by_cases hc5 : by_ = (33 : Int32)
            ·
              refine own_s (fun t k => XS.icmpYes X0.here hx rfl (pc0 := 63) (pc' := 144) rfl (hb hby d23_63) rfl (teq hc5).1 (by decide) (by decide) k) ?_
              exact j144 ((show own_plain_144 = (own_plain_36 by_) from by rw [own_plain_36, if_neg hc1, if_neg hc2, if_neg hc3, if_neg hc4, if_pos hc5]).trans hE)
            ·
              refine own_s (fun t k => XS.icmpNo X0.here hx rfl (hb hby d23_63) rfl (feq hc5).1 k) ?_
              show Go p.tables e below _ (s₁.setTop (mkF m 66 #[.val (.int by_)] []))
              refine own_s (fun t k => XS.iloadN X0.here hx rfl (hb hby d23_66) rfl k) ?_
              show Go p.tables e below _ (s₁.setTop (mkF m 67 #[.val (.int by_)] [(.int by_)]))
              refine own_s (fun t k => XS.bipush X0.here hx rfl (hb hby d23_67) k) ?_
              show Go p.tables e below _ (s₁.setTop (mkF m 69 #[.val (.int by_)] [(.int (36 : Int32)), (.int by_)]))
              by_cases hc6 : by_ = (36 : Int32)
              ·
                refine own_s (fun t k => XS.icmpYes X0.here hx rfl (pc0 := 69) (pc' := 144) rfl (hb hby d23_69) rfl (teq hc6).1 (by decide) (by decide) k) ?_
                exact j144 ((show own_plain_144 = (own_plain_36 by_) from by rw [own_plain_36, if_neg hc1, if_neg hc2, if_neg hc3, if_neg hc4, if_neg hc5, if_pos hc6]).trans hE)
              ·
                refine own_s (fun t k => XS.icmpNo X0.here hx rfl (hb hby d23_69) rfl (feq hc6).1 k) ?_
                show Go p.tables e below _ (s₁.setTop (mkF m 72 #[.val (.int by_)] []))
                refine own_s (fun t k => XS.iloadN X0.here hx rfl (hb hby d23_72) rfl k) ?_
                show Go p.tables e below _ (s₁.setTop (mkF m 73 #[.val (.int by_)] [(.int by_)]))
                refine own_s (fun t k => XS.bipush X0.here hx rfl (hb hby d23_73) k) ?_
                show Go p.tables e below _ (s₁.setTop (mkF m 75 #[.val (.int by_)] [(.int (38 : Int32)), (.int by_)]))
                by_cases hc7 : by_ = (38 : Int32)
                ·
                  refine own_s (fun t k => XS.icmpYes X0.here hx rfl (pc0 := 75) (pc' := 144) rfl (hb hby d23_75) rfl (teq hc7).1 (by decide) (by decide) k) ?_
                  exact j144 ((show own_plain_144 = (own_plain_36 by_) from by rw [own_plain_36, if_neg hc1, if_neg hc2, if_neg hc3, if_neg hc4, if_neg hc5, if_neg hc6, if_pos hc7]).trans hE)
                ·
                  refine own_s (fun t k => XS.icmpNo X0.here hx rfl (hb hby d23_75) rfl (feq hc7).1 k) ?_
                  show Go p.tables e below _ (s₁.setTop (mkF m 78 #[.val (.int by_)] []))
                  refine own_s (fun t k => XS.iloadN X0.here hx rfl (hb hby d23_78) rfl k) ?_
                  show Go p.tables e below _ (s₁.setTop (mkF m 79 #[.val (.int by_)] [(.int by_)]))
                  refine own_s (fun t k => XS.bipush X0.here hx rfl (hb hby d23_79) k) ?_
                  show Go p.tables e below _ (s₁.setTop (mkF m 81 #[.val (.int by_)] [(.int (39 : Int32)), (.int by_)]))
                  by_cases hc8 : by_ = (39 : Int32)
                  ·
                    refine own_s (fun t k => XS.icmpYes X0.here hx rfl (pc0 := 81) (pc' := 144) rfl (hb hby d23_81) rfl (teq hc8).1 (by decide) (by decide) k) ?_
                    exact j144 ((show own_plain_144 = (own_plain_36 by_) from by rw [own_plain_36, if_neg hc1, if_neg hc2, if_neg hc3, if_neg hc4, if_neg hc5, if_neg hc6, if_neg hc7, if_pos hc8]).trans hE)
                  ·
                    refine own_s (fun t k => XS.icmpNo X0.here hx rfl (hb hby d23_81) rfl (feq hc8).1 k) ?_
                    show Go p.tables e below _ (s₁.setTop (mkF m 84 #[.val (.int by_)] []))
                    refine own_s (fun t k => XS.iloadN X0.here hx rfl (hb hby d23_84) rfl k) ?_
                    show Go p.tables e below _ (s₁.setTop (mkF m 85 #[.val (.int by_)] [(.int by_)]))
                    refine own_s (fun t k => XS.bipush X0.here hx rfl (hb hby d23_85) k) ?_
                    show Go p.tables e below _ (s₁.setTop (mkF m 87 #[.val (.int by_)] [(.int (40 : Int32)), (.int by_)]))
                    by_cases hc9 : by_ = (40 : Int32)
                    ·
                      refine own_s (fun t k => XS.icmpYes X0.here hx rfl (pc0 := 87) (pc' := 144) rfl (hb hby d23_87) rfl (teq hc9).1 (by decide) (by decide) k) ?_
                      exact j144 ((show own_plain_144 = (own_plain_36 by_) from by rw [own_plain_36, if_neg hc1, if_neg hc2, if_neg hc3, if_neg hc4, if_neg hc5, if_neg hc6, if_neg hc7, if_neg hc8, if_pos hc9]).trans hE)
                    ·
                      refine own_s (fun t k => XS.icmpNo X0.here hx rfl (hb hby d23_87) rfl (feq hc9).1 k) ?_
                      show Go p.tables e below _ (s₁.setTop (mkF m 90 #[.val (.int by_)] []))
                      refine own_s (fun t k => XS.iloadN X0.here hx rfl (hb hby d23_90) rfl k) ?_
                      show Go p.tables e below _ (s₁.setTop (mkF m 91 #[.val (.int by_)] [(.int by_)]))
                      refine own_s (fun t k => XS.bipush X0.here hx rfl (hb hby d23_91) k) ?_
                      show Go p.tables e below _ (s₁.setTop (mkF m 93 #[.val (.int by_)] [(.int (41 : Int32)), (.int by_)]))
                      by_cases hc10 : by_ = (41 : Int32)
                      ·
                        refine own_s (fun t k => XS.icmpYes X0.here hx rfl (pc0 := 93) (pc' := 144) rfl (hb hby d23_93) rfl (teq hc10).1 (by decide) (by decide) k) ?_
                        exact j144 ((show own_plain_144 = (own_plain_36 by_) from by rw [own_plain_36, if_neg hc1, if_neg hc2, if_neg hc3, if_neg hc4, if_neg hc5, if_neg hc6, if_neg hc7, if_neg hc8, if_neg hc9, if_pos hc10]).trans hE)
                      ·
                        refine own_s (fun t k => XS.icmpNo X0.here hx rfl (hb hby d23_93) rfl (feq hc10).1 k) ?_
                        show Go p.tables e below _ (s₁.setTop (mkF m 96 #[.val (.int by_)] []))
                        refine own_s (fun t k => XS.iloadN X0.here hx rfl (hb hby d23_96) rfl k) ?_
                        show Go p.tables e below _ (s₁.setTop (mkF m 97 #[.val (.int by_)] [(.int by_)]))
                        refine own_s (fun t k => XS.bipush X0.here hx rfl (hb hby d23_97) k) ?_
                        show Go p.tables e below _ (s₁.setTop (mkF m 99 #[.val (.int by_)] [(.int (42 : Int32)), (.int by_)]))
                        by_cases hc11 : by_ = (42 : Int32)
                        ·
                          refine own_s (fun t k => XS.icmpYes X0.here hx rfl (pc0 := 99) (pc' := 144) rfl (hb hby d23_99) rfl (teq hc11).1 (by decide) (by decide) k) ?_
                          exact j144 ((show own_plain_144 = (own_plain_36 by_) from by rw [own_plain_36, if_neg hc1, if_neg hc2, if_neg hc3, if_neg hc4, if_neg hc5, if_neg hc6, if_neg hc7, if_neg hc8, if_neg hc9, if_neg hc10, if_pos hc11]).trans hE)
                        ·
                          refine own_s (fun t k => XS.icmpNo X0.here hx rfl (hb hby d23_99) rfl (feq hc11).1 k) ?_
                          show Go p.tables e below _ (s₁.setTop (mkF m 102 #[.val (.int by_)] []))
                          refine own_s (fun t k => XS.iloadN X0.here hx rfl (hb hby d23_102) rfl k) ?_
                          show Go p.tables e below _ (s₁.setTop (mkF m 103 #[.val (.int by_)] [(.int by_)]))
                          refine own_s (fun t k => XS.bipush X0.here hx rfl (hb hby d23_103) k) ?_
                          show Go p.tables e below _ (s₁.setTop (mkF m 105 #[.val (.int by_)] [(.int (43 : Int32)), (.int by_)]))
                          by_cases hc12 : by_ = (43 : Int32)
                          ·
                            refine own_s (fun t k => XS.icmpYes X0.here hx rfl (pc0 := 105) (pc' := 144) rfl (hb hby d23_105) rfl (teq hc12).1 (by decide) (by decide) k) ?_
                            exact j144 ((show own_plain_144 = (own_plain_36 by_) from by rw [own_plain_36, if_neg hc1, if_neg hc2, if_neg hc3, if_neg hc4, if_neg hc5, if_neg hc6, if_neg hc7, if_neg hc8, if_neg hc9, if_neg hc10, if_neg hc11, if_pos hc12]).trans hE)
                          ·
                            refine own_s (fun t k => XS.icmpNo X0.here hx rfl (hb hby d23_105) rfl (feq hc12).1 k) ?_
                            show Go p.tables e below _ (s₁.setTop (mkF m 108 #[.val (.int by_)] []))
                            refine own_s (fun t k => XS.iloadN X0.here hx rfl (hb hby d23_108) rfl k) ?_
                            show Go p.tables e below _ (s₁.setTop (mkF m 109 #[.val (.int by_)] [(.int by_)]))
                            refine own_s (fun t k => XS.bipush X0.here hx rfl (hb hby d23_109) k) ?_
                            show Go p.tables e below _ (s₁.setTop (mkF m 111 #[.val (.int by_)] [(.int (44 : Int32)), (.int by_)]))
                            by_cases hc13 : by_ = (44 : Int32)
                            ·
                              refine own_s (fun t k => XS.icmpYes X0.here hx rfl (pc0 := 111) (pc' := 144) rfl (hb hby d23_111) rfl (teq hc13).1 (by decide) (by decide) k) ?_
                              exact j144 ((show own_plain_144 = (own_plain_36 by_) from by rw [own_plain_36, if_neg hc1, if_neg hc2, if_neg hc3, if_neg hc4, if_neg hc5, if_neg hc6, if_neg hc7, if_neg hc8, if_neg hc9, if_neg hc10, if_neg hc11, if_neg hc12, if_pos hc13]).trans hE)
                            ·
                              refine own_s (fun t k => XS.icmpNo X0.here hx rfl (hb hby d23_111) rfl (feq hc13).1 k) ?_
                              show Go p.tables e below _ (s₁.setTop (mkF m 114 #[.val (.int by_)] []))
                              refine own_s (fun t k => XS.iloadN X0.here hx rfl (hb hby d23_114) rfl k) ?_
                              show Go p.tables e below _ (s₁.setTop (mkF m 115 #[.val (.int by_)] [(.int by_)]))
                              refine own_s (fun t k => XS.bipush X0.here hx rfl (hb hby d23_115) k) ?_
                              show Go p.tables e below _ (s₁.setTop (mkF m 117 #[.val (.int by_)] [(.int (59 : Int32)), (.int by_)]))
                              by_cases hc14 : by_ = (59 : Int32)
                              ·
                                refine own_s (fun t k => XS.icmpYes X0.here hx rfl (pc0 := 117) (pc' := 144) rfl (hb hby d23_117) rfl (teq hc14).1 (by decide) (by decide) k) ?_
                                exact j144 ((show own_plain_144 = (own_plain_36 by_) from by rw [own_plain_36, if_neg hc1, if_neg hc2, if_neg hc3, if_neg hc4, if_neg hc5, if_neg hc6, if_neg hc7, if_neg hc8, if_neg hc9, if_neg hc10, if_neg hc11, if_neg hc12, if_neg hc13, if_pos hc14]).trans hE)
                              ·
                                refine own_s (fun t k => XS.icmpNo X0.here hx rfl (hb hby d23_117) rfl (feq hc14).1 k) ?_
                                show Go p.tables e below _ (s₁.setTop (mkF m 120 #[.val (.int by_)] []))
                                refine own_s (fun t k => XS.iloadN X0.here hx rfl (hb hby d23_120) rfl k) ?_
                                show Go p.tables e below _ (s₁.setTop (mkF m 121 #[.val (.int by_)] [(.int by_)]))
                                refine own_s (fun t k => XS.bipush X0.here hx rfl (hb hby d23_121) k) ?_
                                show Go p.tables e below _ (s₁.setTop (mkF m 123 #[.val (.int by_)] [(.int (61 : Int32)), (.int by_)]))
                                by_cases hc15 : by_ = (61 : Int32)
                                ·
                                  refine own_s (fun t k => XS.icmpYes X0.here hx rfl (pc0 := 123) (pc' := 144) rfl (hb hby d23_123) rfl (teq hc15).1 (by decide) (by decide) k) ?_
                                  exact j144 ((show own_plain_144 = (own_plain_36 by_) from by rw [own_plain_36, if_neg hc1, if_neg hc2, if_neg hc3, if_neg hc4, if_neg hc5, if_neg hc6, if_neg hc7, if_neg hc8, if_neg hc9, if_neg hc10, if_neg hc11, if_neg hc12, if_neg hc13, if_neg hc14, if_pos hc15]).trans hE)
                                ·
                                  refine own_s (fun t k => XS.icmpNo X0.here hx rfl (hb hby d23_123) rfl (feq hc15).1 k) ?_
                                  show Go p.tables e below _ (s₁.setTop (mkF m 126 #[.val (.int by_)] []))
                                  refine own_s (fun t k => XS.iloadN X0.here hx rfl (hb hby d23_126) rfl k) ?_
                                  show Go p.tables e below _ (s₁.setTop (mkF m 127 #[.val (.int by_)] [(.int by_)]))
                                  refine own_s (fun t k => XS.bipush X0.here hx rfl (hb hby d23_127) k) ?_
                                  show Go p.tables e below _ (s₁.setTop (mkF m 129 #[.val (.int by_)] [(.int (58 : Int32)), (.int by_)]))
                                  by_cases hc16 : by_ = (58 : Int32)
                                  ·
                                    refine own_s (fun t k => XS.icmpYes X0.here hx rfl (pc0 := 129) (pc' := 144) rfl (hb hby d23_129) rfl (teq hc16).1 (by decide) (by decide) k) ?_
                                    exact j144 ((show own_plain_144 = (own_plain_36 by_) from by rw [own_plain_36, if_neg hc1, if_neg hc2, if_neg hc3, if_neg hc4, if_neg hc5, if_neg hc6, if_neg hc7, if_neg hc8, if_neg hc9, if_neg hc10, if_neg hc11, if_neg hc12, if_neg hc13, if_neg hc14, if_neg hc15, if_pos hc16]).trans hE)
                                  ·
                                    refine own_s (fun t k => XS.icmpNo X0.here hx rfl (hb hby d23_129) rfl (feq hc16).1 k) ?_
                                    show Go p.tables e below _ (s₁.setTop (mkF m 132 #[.val (.int by_)] []))
                                    refine own_s (fun t k => XS.iloadN X0.here hx rfl (hb hby d23_132) rfl k) ?_
                                    show Go p.tables e below _ (s₁.setTop (mkF m 133 #[.val (.int by_)] [(.int by_)]))
                                    refine own_s (fun t k => XS.bipush X0.here hx rfl (hb hby d23_133) k) ?_
                                    show Go p.tables e below _ (s₁.setTop (mkF m 135 #[.val (.int by_)] [(.int (64 : Int32)), (.int by_)]))
                                    by_cases hc17 : by_ = (64 : Int32)
                                    ·
                                      refine own_s (fun t k => XS.icmpYes X0.here hx rfl (pc0 := 135) (pc' := 144) rfl (hb hby d23_135) rfl (teq hc17).1 (by decide) (by decide) k) ?_
                                      exact j144 ((show own_plain_144 = (own_plain_36 by_) from by rw [own_plain_36, if_neg hc1, if_neg hc2, if_neg hc3, if_neg hc4, if_neg hc5, if_neg hc6, if_neg hc7, if_neg hc8, if_neg hc9, if_neg hc10, if_neg hc11, if_neg hc12, if_neg hc13, if_neg hc14, if_neg hc15, if_neg hc16, if_pos hc17]).trans hE)
                                    ·
                                      refine own_s (fun t k => XS.icmpNo X0.here hx rfl (hb hby d23_135) rfl (feq hc17).1 k) ?_
                                      show Go p.tables e below _ (s₁.setTop (mkF m 138 #[.val (.int by_)] []))
                                      refine own_s (fun t k => XS.iloadN X0.here hx rfl (hb hby d23_138) rfl k) ?_
                                      show Go p.tables e below _ (s₁.setTop (mkF m 139 #[.val (.int by_)] [(.int by_)]))
                                      refine own_s (fun t k => XS.bipush X0.here hx rfl (hb hby d23_139) k) ?_
                                      show Go p.tables e below _ (s₁.setTop (mkF m 141 #[.val (.int by_)] [(.int (47 : Int32)), (.int by_)]))
                                      by_cases hc18 : by_ = (47 : Int32)
                                      ·
                                        refine own_s (fun t k => XS.icmpNo X0.here hx rfl (hb hby d23_141) rfl (teq hc18).2 k) ?_
                                        exact j144 ((show own_plain_144 = (own_plain_36 by_) from by rw [own_plain_36, if_neg hc1, if_neg hc2, if_neg hc3, if_neg hc4, if_neg hc5, if_neg hc6, if_neg hc7, if_neg hc8, if_neg hc9, if_neg hc10, if_neg hc11, if_neg hc12, if_neg hc13, if_neg hc14, if_neg hc15, if_neg hc16, if_neg hc17, if_pos hc18]).trans hE)
                                      ·
                                        refine own_s (fun t k => XS.icmpYes X0.here hx rfl (pc0 := 141) (pc' := 148) rfl (hb hby d23_141) rfl (feq hc18).2 (by decide) (by decide) k) ?_
                                        show Go p.tables e below _ (s₁.setTop (mkF m 148 #[.val (.int by_)] []))
                                        refine own_s (fun t k => XS.iconst X0.here hx rfl (hb hby d23_148) k) ?_
                                        show Go p.tables e below _ (s₁.setTop (mkF m 149 #[.val (.int by_)] [(.int (0 : Int32))]))
                                        obtain ⟨fs, hr, hrun, hended, hW, hsame⟩ := X0.leave (v := (some (.int (0 : Int32)))) (fun h => by first | rfl | (rw [Bd.returns] at h; cases h))
                                        refine own_e hPP ?_ hrun hended ⟨_, _, rfl, ?_, ⟨_, rfl⟩, hW, hsame.mono (by decide) (by decide)⟩
                                        · exact retN X0 hx (t := .boolean) Bd.returns (by simp) (hb hby d23_149) hr
                                        · show Q_rm23 Z by_ h0 n0 _ s₁.heap _
                                          rw [e0]
                                          exact ⟨congrArg (fun z => some (Value.int z)) (show (0 : Int32) = (own_plain by_) from (show (0 : Int32) = (own_plain_36 by_) from by rw [own_plain_36, if_neg hc1, if_neg hc2, if_neg hc3, if_neg hc4, if_neg hc5, if_neg hc6, if_neg hc7, if_neg hc8, if_neg hc9, if_neg hc10, if_neg hc11, if_neg hc12, if_neg hc13, if_neg hc14, if_neg hc15, if_neg hc16, if_neg hc17, if_neg hc18]).trans hE), N0, rfl⟩
  have j24 : (own_plain_24 by_) = (own_plain by_) → Go p.tables e below PP (s₁.setTop (mkF m 24 #[.val (.int by_)] [])) := by
    intro hE
    show Go p.tables e below _ (s₁.setTop (mkF m 24 #[.val (.int by_)] []))
    refine own_s (fun t k => XS.iloadN X0.here hx rfl (hb hby d23_24) rfl k) ?_
    show Go p.tables e below _ (s₁.setTop (mkF m 25 #[.val (.int by_)] [(.int by_)]))
    refine own_s (fun t k => XS.bipush X0.here hx rfl (hb hby d23_25) k) ?_
    show Go p.tables e below _ (s₁.setTop (mkF m 27 #[.val (.int by_)] [(.int (48 : Int32)), (.int by_)]))
    by_cases hc19 : by_ < (48 : Int32)
    ·
      refine own_s (fun t k => XS.icmpYes X0.here hx rfl (pc0 := 27) (pc' := 36) rfl (hb hby d23_27) rfl (tlt hc19).1 (by decide) (by decide) k) ?_
      exact j36 ((show (own_plain_36 by_) = (own_plain_24 by_) from by rw [own_plain_24, if_pos hc19]).trans hE)
    ·
      refine own_s (fun t k => XS.icmpNo X0.here hx rfl (hb hby d23_27) rfl (flt hc19).1 k) ?_
      show Go p.tables e below _ (s₁.setTop (mkF m 30 #[.val (.int by_)] []))
      refine own_s (fun t k => XS.iloadN X0.here hx rfl (hb hby d23_30) rfl k) ?_
      show Go p.tables e below _ (s₁.setTop (mkF m 31 #[.val (.int by_)] [(.int by_)]))
      refine own_s (fun t k => XS.bipush X0.here hx rfl (hb hby d23_31) k) ?_
      show Go p.tables e below _ (s₁.setTop (mkF m 33 #[.val (.int by_)] [(.int (57 : Int32)), (.int by_)]))
      by_cases hc20 : (57 : Int32) < by_
      ·
        refine own_s (fun t k => XS.icmpNo X0.here hx rfl (hb hby d23_33) rfl (tlt hc20).2.2.2 k) ?_
        exact j36 ((show (own_plain_36 by_) = (own_plain_24 by_) from by rw [own_plain_24, if_neg hc19, if_pos hc20]).trans hE)
      ·
        refine own_s (fun t k => XS.icmpYes X0.here hx rfl (pc0 := 33) (pc' := 144) rfl (hb hby d23_33) rfl (flt hc20).2.2.2 (by decide) (by decide) k) ?_
        exact j144 ((show own_plain_144 = (own_plain_24 by_) from by rw [own_plain_24, if_neg hc19, if_neg hc20]).trans hE)
  have j12 : (own_plain_12 by_) = (own_plain by_) → Go p.tables e below PP (s₁.setTop (mkF m 12 #[.val (.int by_)] [])) := by
    intro hE
    show Go p.tables e below _ (s₁.setTop (mkF m 12 #[.val (.int by_)] []))
    refine own_s (fun t k => XS.iloadN X0.here hx rfl (hb hby d23_12) rfl k) ?_
    show Go p.tables e below _ (s₁.setTop (mkF m 13 #[.val (.int by_)] [(.int by_)]))
    refine own_s (fun t k => XS.bipush X0.here hx rfl (hb hby d23_13) k) ?_
    show Go p.tables e below _ (s₁.setTop (mkF m 15 #[.val (.int by_)] [(.int (65 : Int32)), (.int by_)]))
    by_cases hc21 : by_ < (65 : Int32)
    ·
      refine own_s (fun t k => XS.icmpYes X0.here hx rfl (pc0 := 15) (pc' := 24) rfl (hb hby d23_15) rfl (tlt hc21).1 (by decide) (by decide) k) ?_
      exact j24 ((show (own_plain_24 by_) = (own_plain_12 by_) from by rw [own_plain_12, if_pos hc21]).trans hE)
    ·
      refine own_s (fun t k => XS.icmpNo X0.here hx rfl (hb hby d23_15) rfl (flt hc21).1 k) ?_
      show Go p.tables e below _ (s₁.setTop (mkF m 18 #[.val (.int by_)] []))
      refine own_s (fun t k => XS.iloadN X0.here hx rfl (hb hby d23_18) rfl k) ?_
      show Go p.tables e below _ (s₁.setTop (mkF m 19 #[.val (.int by_)] [(.int by_)]))
      refine own_s (fun t k => XS.bipush X0.here hx rfl (hb hby d23_19) k) ?_
      show Go p.tables e below _ (s₁.setTop (mkF m 21 #[.val (.int by_)] [(.int (90 : Int32)), (.int by_)]))
      by_cases hc22 : (90 : Int32) < by_
      ·
        refine own_s (fun t k => XS.icmpNo X0.here hx rfl (hb hby d23_21) rfl (tlt hc22).2.2.2 k) ?_
        exact j24 ((show (own_plain_24 by_) = (own_plain_12 by_) from by rw [own_plain_12, if_neg hc21, if_pos hc22]).trans hE)
      ·
        refine own_s (fun t k => XS.icmpYes X0.here hx rfl (pc0 := 21) (pc' := 144) rfl (hb hby d23_21) rfl (flt hc22).2.2.2 (by decide) (by decide) k) ?_
        exact j144 ((show own_plain_144 = (own_plain_12 by_) from by rw [own_plain_12, if_neg hc21, if_neg hc22]).trans hE)
  show Go p.tables e below _ (s₁.setTop (mkF m 0 #[.val (.int by_)] []))
  refine own_s (fun t k => XS.iloadN X0.here hx rfl (hb hby d23_0) rfl k) ?_
  show Go p.tables e below _ (s₁.setTop (mkF m 1 #[.val (.int by_)] [(.int by_)]))
  refine own_s (fun t k => XS.bipush X0.here hx rfl (hb hby d23_1) k) ?_
  show Go p.tables e below _ (s₁.setTop (mkF m 3 #[.val (.int by_)] [(.int (97 : Int32)), (.int by_)]))
  by_cases hc23 : by_ < (97 : Int32)
  ·
    refine own_s (fun t k => XS.icmpYes X0.here hx rfl (pc0 := 3) (pc' := 12) rfl (hb hby d23_3) rfl (tlt hc23).1 (by decide) (by decide) k) ?_
    exact j12 (show (own_plain_12 by_) = (own_plain by_) from by rw [own_plain, if_pos hc23])
  ·
    refine own_s (fun t k => XS.icmpNo X0.here hx rfl (hb hby d23_3) rfl (flt hc23).1 k) ?_
    show Go p.tables e below _ (s₁.setTop (mkF m 6 #[.val (.int by_)] []))
    refine own_s (fun t k => XS.iloadN X0.here hx rfl (hb hby d23_6) rfl k) ?_
    show Go p.tables e below _ (s₁.setTop (mkF m 7 #[.val (.int by_)] [(.int by_)]))
    refine own_s (fun t k => XS.bipush X0.here hx rfl (hb hby d23_7) k) ?_
    show Go p.tables e below _ (s₁.setTop (mkF m 9 #[.val (.int by_)] [(.int (122 : Int32)), (.int by_)]))
    by_cases hc24 : (122 : Int32) < by_
    ·
      refine own_s (fun t k => XS.icmpNo X0.here hx rfl (hb hby d23_9) rfl (tlt hc24).2.2.2 k) ?_
      exact j12 (show (own_plain_12 by_) = (own_plain by_) from by rw [own_plain, if_neg hc23, if_pos hc24])
    ·
      refine own_s (fun t k => XS.icmpYes X0.here hx rfl (pc0 := 9) (pc' := 144) rfl (hb hby d23_9) rfl (flt hc24).2.2.2 (by decide) (by decide) k) ?_
      exact j144 (show own_plain_144 = (own_plain by_) from by rw [own_plain, if_neg hc23, if_neg hc24])
theorem d22_0 : decode method_4_code 0 = .ok (.iload_n 0, 1) := by decide +kernel
theorem d22_1 : decode method_4_code 1 = .ok (.invokestatic 29, 3) := by decide +kernel
theorem d22_4 : decode method_4_code 4 = .ok (.ifCond .eq 7, 3) := by decide +kernel
theorem d22_11 : decode method_4_code 11 = .ok (.iconst 3, 1) := by decide +kernel
theorem d22_12 : decode method_4_code 12 = .ok (.ireturn, 1) := by decide +kernel
theorem d22_7 : decode method_4_code 7 = .ok (.iconst 1, 1) := by decide +kernel
theorem d22_8 : decode method_4_code 8 = .ok (.goto 4, 3) := by decide +kernel
def own_width (by_ : Int32) : Int32 := (if (own_plain by_) = (0 : Int32) then (3 : Int32) else (1 : Int32))
theorem ef_rm22 (m : MethodId) (by_ : Int32) : entryFrame m #[(.int by_)] 1 = mkF m 0 #[.val (.int by_)] [] := by first | (simp [entryFrame, mkF, argsToLocals, Value.category]; done) | rfl
def Q_rm22 (Z : State) (by_ : Int32) (h0 : Heap) (n0 : Nat) (v : Option Value) (h : Heap) (L : List Loc) : Prop := v = some (.int (own_width by_)) ∧ Fr n0 L ∧ h = h0
set_option maxRecDepth 65536 in
set_option maxHeartbeats 40000000 in
theorem rm22 (l : Launch) (Z : State) (a0 : Array Value) (hw : ∀ d ∈ tables_1, d.before a0 Z = true) (ws : List Jvm.Cond) (by_ : Int32) (h0 : Heap) (n0 : Nat) (O0 : Old Z n0 h0)  :
    MetFree l (⟨"com/example/birep/birep/rrdp/RsyncBaseEncodedPinLaw", "width", "(B)I"⟩ : MethodName) (head1 (Jvm.Cond.code (⟨"com/example/birep/birep/rrdp/RsyncBaseEncodedPinLaw", "width", "(B)I"⟩ : MethodName) method_4_code 1 (some .int) :: ws) ({ frames := 1, cells := 0, slots := 0, locals := 12 } : Room)) (fun aa_ U => aa_ = #[(.int by_)] ∧ Z.Warmed39 U.vm ∧ U.heap = h0) (fun _ _ _ _ _ => True) (fun _ U oo_ U' => ∃ vv_ LL_, oo_ = .returned vv_ ∧ Q_rm22 Z by_ h0 n0 vv_ U'.heap LL_ ∧ FrameEnd U oo_ U' LL_ ({ frames := 1, cells := 0, slots := 0, locals := 12 } : Room).cells ({ frames := 1, cells := 0, slots := 0, locals := 12 } : Room).slots) := by
  refine MetFree.of_bodySF (plainFor_of_name pn_com_example_birep_birep_rrdp_RsyncBaseEncodedPinLaw) hisR ?_
  intro p e s m args below meth c s₁ Bd hml0 hP hK
  obtain ⟨rfl, hZ, hh⟩ := hP
  have hx := Bd.exec
  have hby := Bd.bytes
  have hml : c.maxLocals = 1 := hml0
  have hown : s.vm.findClass "com/example/birep/birep/rrdp/RsyncBaseEncodedPinLaw" = some m.cls := findClass_of_methodNamed Bd.named
  have hnm := (name_of_methodNamed Bd.named Bd.method).1
  have X0 : Stand p l e ({ frames := 1, cells := 0, slots := 0, locals := 12 } : Room) s m #[(.int by_)] below meth c s₁ [] 0 0 := Stand.of_body Bd
  have e0 : s₁.heap = h0 := by rw [← hh, Bd.state]; rfl
  have N0 := Fr.nil n0
  have K0 : Keep h0 h0 [] := Keep.refl h0 _
  refine own_i fun PP hPP => own_s (fun t k => castTop (ef_rm22 m by_) k) ?_
  show Go p.tables e below _ (s₁.setTop (mkF m 0 #[.val (.int by_)] []))
  refine own_s (fun t k => XS.iloadN X0.here hx rfl (hb hby d22_0) rfl k) ?_
  show Go p.tables e below _ (s₁.setTop (mkF m 1 #[.val (.int by_)] [(.int by_)]))
  obtain ⟨_, _, ⟨T1, L1, k1, n1⟩, -, X1, ⟨Lc1, hQ1, l1, y1, z1⟩, st1⟩ := Jvm.LawKit.callS X0 hx (y := (⟨"com/example/birep/birep/rrdp/RsyncBaseEncodedPinLaw", "plain", "(I)Z"⟩ : MethodName)) hown (mvT hZ (hw _ (List.mem_of_getElem? (i := 120) rfl))) (mvT hZ (hw _ (List.mem_of_getElem? (i := 121) rfl))) (mvT hZ (hw _ (List.mem_of_getElem? (i := 118) rfl))) (mvT hZ (hw _ (List.mem_of_getElem? (i := 122) rfl))) (by decide) (backOf (W := 0) (rm23 l Z a0 hw [] by_ h0 n0 O0 ) hZ (hw _ (List.mem_of_getElem? (i := 122) rfl)) (hw _ (List.mem_of_getElem? (i := 118) rfl)) (by decide) (by decide)) (g := (mkF m 1 #[.val (.int by_)] [(.int by_)])) rfl (by rw [hml]; rfl) (argsL := [(.int by_)]) (rest := []) (lenOf pd__I_Z rfl) rfl (by show 2 * 0 + _ ≤ _; exact Nat.le_of_eq rfl) (hb hby d22_1) (fun _ _ => ⟨rfl, e0, (by decide : 0 + 0 ≤ _), (by decide : 0 + 0 ≤ _)⟩)
  dsimp only [Pt.U, Pt.locs, Pt.cells, Pt.slots] at X1 l1 y1 z1 st1 hQ1
  subst l1 y1 z1
  obtain ⟨rfl, N1q, eq1⟩ := hQ1
  have N1 := Fr.app N0 N1q
  refine own_s st1 ?_
  show Go p.tables e below _ (T1.setTop (mkF m 4 #[.val (.int by_)] [(.int (own_plain by_))]))
  by_cases hc2 : (own_plain by_) = (0 : Int32)
  ·
    refine own_s (fun t k => XS.ifYes X1.here hx rfl (pc0 := 4) (pc' := 11) rfl (hb hby d22_4) rfl ((if0 _ _).trans (teq hc2).1) (by decide) (by decide) k) ?_
    show Go p.tables e below _ (T1.setTop (mkF m 11 #[.val (.int by_)] []))
    refine own_s (fun t k => XS.iconst X1.here hx rfl (hb hby d22_11) k) ?_
    show Go p.tables e below _ (T1.setTop (mkF m 12 #[.val (.int by_)] [(.int (3 : Int32))]))
    obtain ⟨fs, hr, hrun, hended, hW, hsame⟩ := X1.leave (v := (some (.int (3 : Int32)))) (fun h => by first | rfl | (rw [Bd.returns] at h; cases h))
    refine own_e hPP ?_ hrun hended ⟨_, _, rfl, ?_, ⟨_, rfl⟩, hW, hsame.mono (by decide) (by decide)⟩
    · exact retI X1 hx Bd.returns (hb hby d22_12) hr
    · show Q_rm22 Z by_ h0 n0 _ T1.heap _
      rw [eq1]
      exact ⟨congrArg (fun z => some (Value.int z)) (show (3 : Int32) = (own_width by_) from by rw [own_width, if_pos hc2]), N1, rfl⟩
  ·
    refine own_s (fun t k => XS.ifNo X1.here hx rfl (hb hby d22_4) rfl ((if0 _ _).trans (feq hc2).1) k) ?_
    show Go p.tables e below _ (T1.setTop (mkF m 7 #[.val (.int by_)] []))
    refine own_s (fun t k => XS.iconst X1.here hx rfl (hb hby d22_7) k) ?_
    show Go p.tables e below _ (T1.setTop (mkF m 8 #[.val (.int by_)] [(.int (1 : Int32))]))
    refine own_s (fun t k => XS.goto X1.here hx rfl (pc0 := 8) (pc' := 12) rfl (hb hby d22_8) (by decide) (by decide) k) ?_
    show Go p.tables e below _ (T1.setTop (mkF m 12 #[.val (.int by_)] [(.int (1 : Int32))]))
    obtain ⟨fs, hr, hrun, hended, hW, hsame⟩ := X1.leave (v := (some (.int (1 : Int32)))) (fun h => by first | rfl | (rw [Bd.returns] at h; cases h))
    refine own_e hPP ?_ hrun hended ⟨_, _, rfl, ?_, ⟨_, rfl⟩, hW, hsame.mono (by decide) (by decide)⟩
    · exact retI X1 hx Bd.returns (hb hby d22_12) hr
    · show Q_rm22 Z by_ h0 n0 _ T1.heap _
      rw [eq1]
      exact ⟨congrArg (fun z => some (Value.int z)) (show (1 : Int32) = (own_width by_) from by rw [own_width, if_neg hc2]), N1, rfl⟩
theorem d30_0 : decode method_5_code 0 = .ok (.iload_n 0, 1) := by decide +kernel
theorem d30_1 : decode method_5_code 1 = .ok (.bipush 10, 2) := by decide +kernel
theorem d30_3 : decode method_5_code 3 = .ok (.if_icmp .ge 11, 3) := by decide +kernel
theorem d30_6 : decode method_5_code 6 = .ok (.bipush 48, 2) := by decide +kernel
theorem d30_8 : decode method_5_code 8 = .ok (.iload_n 0, 1) := by decide +kernel
theorem d30_9 : decode method_5_code 9 = .ok (.iadd, 1) := by decide +kernel
theorem d30_10 : decode method_5_code 10 = .ok (.i2c, 1) := by decide +kernel
theorem d30_11 : decode method_5_code 11 = .ok (.goto 11, 3) := by decide +kernel
theorem d30_22 : decode method_5_code 22 = .ok (.ireturn, 1) := by decide +kernel
theorem d30_14 : decode method_5_code 14 = .ok (.bipush 65, 2) := by decide +kernel
theorem d30_16 : decode method_5_code 16 = .ok (.iload_n 0, 1) := by decide +kernel
theorem d30_17 : decode method_5_code 17 = .ok (.bipush 10, 2) := by decide +kernel
theorem d30_19 : decode method_5_code 19 = .ok (.isub, 1) := by decide +kernel
theorem d30_20 : decode method_5_code 20 = .ok (.iadd, 1) := by decide +kernel
theorem d30_21 : decode method_5_code 21 = .ok (.i2c, 1) := by decide +kernel
def own_hex (dd : Int32) : Int32 := (if dd < (10 : Int32) then (nar .char (((48 : Int32) + dd).toUInt32.toUInt16.toUInt32.toInt32)) else (nar .char (((65 : Int32) + (dd - (10 : Int32))).toUInt32.toUInt16.toUInt32.toInt32)))
theorem ef_rm30 (m : MethodId) (dd : Int32) : entryFrame m #[(.int dd)] 1 = mkF m 0 #[.val (.int dd)] [] := by first | (simp [entryFrame, mkF, argsToLocals, Value.category]; done) | rfl
def Q_rm30 (Z : State) (dd : Int32) (h0 : Heap) (n0 : Nat) (v : Option Value) (h : Heap) (L : List Loc) : Prop := v = some (.int (own_hex dd)) ∧ Fr n0 L ∧ h = h0
set_option maxRecDepth 65536 in
set_option maxHeartbeats 40000000 in
theorem rm30 (l : Launch) (Z : State) (a0 : Array Value) (hw : ∀ d ∈ tables_1, d.before a0 Z = true) (ws : List Jvm.Cond) (dd : Int32) (h0 : Heap) (n0 : Nat) (O0 : Old Z n0 h0)  :
    MetFree l (⟨"com/example/birep/birep/rrdp/RsyncBaseEncodedPinLaw", "hex", "(I)C"⟩ : MethodName) (head1 (Jvm.Cond.code (⟨"com/example/birep/birep/rrdp/RsyncBaseEncodedPinLaw", "hex", "(I)C"⟩ : MethodName) method_5_code 1 (some .char) :: ws) ({ frames := 0, cells := 0, slots := 0, locals := 0 } : Room)) (fun aa_ U => aa_ = #[(.int dd)] ∧ Z.Warmed39 U.vm ∧ U.heap = h0) (fun _ _ _ _ _ => True) (fun _ U oo_ U' => ∃ vv_ LL_, oo_ = .returned vv_ ∧ Q_rm30 Z dd h0 n0 vv_ U'.heap LL_ ∧ FrameEnd U oo_ U' LL_ ({ frames := 0, cells := 0, slots := 0, locals := 0 } : Room).cells ({ frames := 0, cells := 0, slots := 0, locals := 0 } : Room).slots) := by
  refine MetFree.of_bodySF (plainFor_of_name pn_com_example_birep_birep_rrdp_RsyncBaseEncodedPinLaw) hisR ?_
  intro p e s m args below meth c s₁ Bd hml0 hP hK
  obtain ⟨rfl, hZ, hh⟩ := hP
  have hx := Bd.exec
  have hby := Bd.bytes
  have hml : c.maxLocals = 1 := hml0
  have hown : s.vm.findClass "com/example/birep/birep/rrdp/RsyncBaseEncodedPinLaw" = some m.cls := findClass_of_methodNamed Bd.named
  have hnm := (name_of_methodNamed Bd.named Bd.method).1
  have X0 : Stand p l e ({ frames := 0, cells := 0, slots := 0, locals := 0 } : Room) s m #[(.int dd)] below meth c s₁ [] 0 0 := Stand.of_body Bd
  have e0 : s₁.heap = h0 := by rw [← hh, Bd.state]; rfl
  have N0 := Fr.nil n0
  have K0 : Keep h0 h0 [] := Keep.refl h0 _
  refine own_i fun PP hPP => own_s (fun t k => castTop (ef_rm30 m dd) k) ?_
  show Go p.tables e below _ (s₁.setTop (mkF m 0 #[.val (.int dd)] []))
  refine own_s (fun t k => XS.iloadN X0.here hx rfl (hb hby d30_0) rfl k) ?_
  show Go p.tables e below _ (s₁.setTop (mkF m 1 #[.val (.int dd)] [(.int dd)]))
  refine own_s (fun t k => XS.bipush X0.here hx rfl (hb hby d30_1) k) ?_
  show Go p.tables e below _ (s₁.setTop (mkF m 3 #[.val (.int dd)] [(.int (10 : Int32)), (.int dd)]))
  by_cases hc1 : dd < (10 : Int32)
  ·
    refine own_s (fun t k => XS.icmpNo X0.here hx rfl (hb hby d30_3) rfl (tlt hc1).2.1 k) ?_
    show Go p.tables e below _ (s₁.setTop (mkF m 6 #[.val (.int dd)] []))
    refine own_s (fun t k => XS.bipush X0.here hx rfl (hb hby d30_6) k) ?_
    show Go p.tables e below _ (s₁.setTop (mkF m 8 #[.val (.int dd)] [(.int (48 : Int32))]))
    refine own_s (fun t k => XS.iloadN X0.here hx rfl (hb hby d30_8) rfl k) ?_
    show Go p.tables e below _ (s₁.setTop (mkF m 9 #[.val (.int dd)] [(.int dd), (.int (48 : Int32))]))
    refine own_s (fun t k => XS.iadd X0.here hx rfl (hb hby d30_9) rfl k) ?_
    show Go p.tables e below _ (s₁.setTop (mkF m 10 #[.val (.int dd)] [(.int ((48 : Int32) + dd))]))
    refine own_s (fun t k => XS.i2c X0.here hx rfl (hb hby d30_10) rfl k) ?_
    show Go p.tables e below _ (s₁.setTop (mkF m 11 #[.val (.int dd)] [(.int (((48 : Int32) + dd).toUInt32.toUInt16.toUInt32.toInt32))]))
    refine own_s (fun t k => XS.goto X0.here hx rfl (pc0 := 11) (pc' := 22) rfl (hb hby d30_11) (by decide) (by decide) k) ?_
    show Go p.tables e below _ (s₁.setTop (mkF m 22 #[.val (.int dd)] [(.int (((48 : Int32) + dd).toUInt32.toUInt16.toUInt32.toInt32))]))
    obtain ⟨fs, hr, hrun, hended, hW, hsame⟩ := X0.leave (v := (some (.int (nar .char (((48 : Int32) + dd).toUInt32.toUInt16.toUInt32.toInt32))))) (fun h => by first | rfl | (rw [Bd.returns] at h; cases h))
    refine own_e hPP ?_ hrun hended ⟨_, _, rfl, ?_, ⟨_, rfl⟩, hW, hsame.mono (by decide) (by decide)⟩
    · exact retN X0 hx (t := .char) Bd.returns (by simp) (hb hby d30_22) hr
    · show Q_rm30 Z dd h0 n0 _ s₁.heap _
      rw [e0]
      exact ⟨congrArg (fun z => some (Value.int z)) (show (nar .char (((48 : Int32) + dd).toUInt32.toUInt16.toUInt32.toInt32)) = (own_hex dd) from by rw [own_hex, if_pos hc1]), N0, rfl⟩
  ·
    refine own_s (fun t k => XS.icmpYes X0.here hx rfl (pc0 := 3) (pc' := 14) rfl (hb hby d30_3) rfl (flt hc1).2.1 (by decide) (by decide) k) ?_
    show Go p.tables e below _ (s₁.setTop (mkF m 14 #[.val (.int dd)] []))
    refine own_s (fun t k => XS.bipush X0.here hx rfl (hb hby d30_14) k) ?_
    show Go p.tables e below _ (s₁.setTop (mkF m 16 #[.val (.int dd)] [(.int (65 : Int32))]))
    refine own_s (fun t k => XS.iloadN X0.here hx rfl (hb hby d30_16) rfl k) ?_
    show Go p.tables e below _ (s₁.setTop (mkF m 17 #[.val (.int dd)] [(.int dd), (.int (65 : Int32))]))
    refine own_s (fun t k => XS.bipush X0.here hx rfl (hb hby d30_17) k) ?_
    show Go p.tables e below _ (s₁.setTop (mkF m 19 #[.val (.int dd)] [(.int (10 : Int32)), (.int dd), (.int (65 : Int32))]))
    refine own_s (fun t k => XS.isub X0.here hx rfl (hb hby d30_19) rfl k) ?_
    show Go p.tables e below _ (s₁.setTop (mkF m 20 #[.val (.int dd)] [(.int (dd - (10 : Int32))), (.int (65 : Int32))]))
    refine own_s (fun t k => XS.iadd X0.here hx rfl (hb hby d30_20) rfl k) ?_
    show Go p.tables e below _ (s₁.setTop (mkF m 21 #[.val (.int dd)] [(.int ((65 : Int32) + (dd - (10 : Int32))))]))
    refine own_s (fun t k => XS.i2c X0.here hx rfl (hb hby d30_21) rfl k) ?_
    show Go p.tables e below _ (s₁.setTop (mkF m 22 #[.val (.int dd)] [(.int (((65 : Int32) + (dd - (10 : Int32))).toUInt32.toUInt16.toUInt32.toInt32))]))
    obtain ⟨fs, hr, hrun, hended, hW, hsame⟩ := X0.leave (v := (some (.int (nar .char (((65 : Int32) + (dd - (10 : Int32))).toUInt32.toUInt16.toUInt32.toInt32))))) (fun h => by first | rfl | (rw [Bd.returns] at h; cases h))
    refine own_e hPP ?_ hrun hended ⟨_, _, rfl, ?_, ⟨_, rfl⟩, hW, hsame.mono (by decide) (by decide)⟩
    · exact retN X0 hx (t := .char) Bd.returns (by simp) (hb hby d30_22) hr
    · show Q_rm30 Z dd h0 n0 _ s₁.heap _
      rw [e0]
      exact ⟨congrArg (fun z => some (Value.int z)) (show (nar .char (((65 : Int32) + (dd - (10 : Int32))).toUInt32.toUInt16.toUInt32.toInt32)) = (own_hex dd) from by rw [own_hex, if_neg hc1]), N0, rfl⟩
/-- the signs of a byte's segment lie inside -/
def own_segok (cs : List Int32) (off by_ : Int32) : Prop := 0 ≤ off.toInt ∧ off.toInt + (if own_plain by_ = 0 then 3 else 1) ≤ cs.length ∧ cs.length < 1000
theorem own_so1 {cs : List Int32} {off by_ : Int32} (h : own_segok cs off by_) : ¬ (off < 0) := by
  rw [Int32.lt_iff_toInt_lt]; have : (0 : Int32).toInt = 0 := rfl; have := h.1; omega
theorem own_so2 {cs : List Int32} {off by_ : Int32} (h : own_segok cs off by_) : off < Int32.ofNat cs.length := by
  obtain ⟨h1, h2, h3⟩ := h
  rw [Int32.lt_iff_toInt_lt, own_oi (by omega)]; split at h2 <;> omega
theorem own_so3 {cs : List Int32} {off by_ : Int32} (h : own_segok cs off by_) (hp : own_plain by_ = 0) (k : Int32) (K : Nat) (hk : k.toInt = K) (hK : K < 3) : ¬ (off + k < 0) ∧ off + k < Int32.ofNat cs.length := by
  obtain ⟨h1, h2, h3⟩ := h
  rw [if_pos hp] at h2
  have q := c_iadd off k
  have r := rng32 (off + k)
  rw [Int32.lt_iff_toInt_lt, Int32.lt_iff_toInt_lt, own_oi (by omega)]; have : (0 : Int32).toInt = 0 := rfl; omega
theorem d24_0 : decode method_6_code 0 = .ok (.iload_n 2, 1) := by decide +kernel
theorem d24_1 : decode method_6_code 1 = .ok (.invokestatic 29, 3) := by decide +kernel
theorem d24_4 : decode method_6_code 4 = .ok (.ifCond .eq 19, 3) := by decide +kernel
theorem d24_23 : decode method_6_code 23 = .ok (.iload_n 2, 1) := by decide +kernel
theorem d24_24 : decode method_6_code 24 = .ok (.sipush 255, 3) := by decide +kernel
theorem d24_27 : decode method_6_code 27 = .ok (.iand, 1) := by decide +kernel
theorem d24_28 : decode method_6_code 28 = .ok (.istore_n 3, 1) := by decide +kernel
theorem d24_29 : decode method_6_code 29 = .ok (.aload_n 0, 1) := by decide +kernel
theorem d24_30 : decode method_6_code 30 = .ok (.iload_n 1, 1) := by decide +kernel
theorem d24_31 : decode method_6_code 31 = .ok (.invokevirtual 33, 3) := by decide +kernel
theorem pd__I_C : parseMethodDescriptor "(I)C" = some ⟨[.int], some .char⟩ := by decide +kernel
theorem d24_34 : decode method_6_code 34 = .ok (.bipush 37, 2) := by decide +kernel
theorem d24_36 : decode method_6_code 36 = .ok (.if_icmp .ne 40, 3) := by decide +kernel
theorem d24_39 : decode method_6_code 39 = .ok (.aload_n 0, 1) := by decide +kernel
theorem d24_40 : decode method_6_code 40 = .ok (.iload_n 1, 1) := by decide +kernel
theorem d24_41 : decode method_6_code 41 = .ok (.iconst 1, 1) := by decide +kernel
theorem d24_42 : decode method_6_code 42 = .ok (.iadd, 1) := by decide +kernel
theorem d24_43 : decode method_6_code 43 = .ok (.invokevirtual 33, 3) := by decide +kernel
theorem d24_46 : decode method_6_code 46 = .ok (.iload_n 3, 1) := by decide +kernel
theorem d24_47 : decode method_6_code 47 = .ok (.iconst 4, 1) := by decide +kernel
theorem d24_48 : decode method_6_code 48 = .ok (.ishr, 1) := by decide +kernel
theorem d24_49 : decode method_6_code 49 = .ok (.invokestatic 37, 3) := by decide +kernel
theorem d24_52 : decode method_6_code 52 = .ok (.if_icmp .ne 24, 3) := by decide +kernel
theorem d24_55 : decode method_6_code 55 = .ok (.aload_n 0, 1) := by decide +kernel
theorem d24_56 : decode method_6_code 56 = .ok (.iload_n 1, 1) := by decide +kernel
theorem d24_57 : decode method_6_code 57 = .ok (.iconst 2, 1) := by decide +kernel
theorem d24_58 : decode method_6_code 58 = .ok (.iadd, 1) := by decide +kernel
theorem d24_59 : decode method_6_code 59 = .ok (.invokevirtual 33, 3) := by decide +kernel
theorem d24_62 : decode method_6_code 62 = .ok (.iload_n 3, 1) := by decide +kernel
theorem d24_63 : decode method_6_code 63 = .ok (.bipush 15, 2) := by decide +kernel
theorem d24_65 : decode method_6_code 65 = .ok (.iand, 1) := by decide +kernel
theorem d24_66 : decode method_6_code 66 = .ok (.invokestatic 37, 3) := by decide +kernel
theorem d24_69 : decode method_6_code 69 = .ok (.if_icmp .ne 7, 3) := by decide +kernel
theorem d24_72 : decode method_6_code 72 = .ok (.iconst 1, 1) := by decide +kernel
theorem d24_73 : decode method_6_code 73 = .ok (.goto 4, 3) := by decide +kernel
theorem d24_77 : decode method_6_code 77 = .ok (.ireturn, 1) := by decide +kernel
theorem d24_76 : decode method_6_code 76 = .ok (.iconst 0, 1) := by decide +kernel
theorem d24_7 : decode method_6_code 7 = .ok (.aload_n 0, 1) := by decide +kernel
theorem d24_8 : decode method_6_code 8 = .ok (.iload_n 1, 1) := by decide +kernel
theorem d24_9 : decode method_6_code 9 = .ok (.invokevirtual 33, 3) := by decide +kernel
theorem d24_12 : decode method_6_code 12 = .ok (.iload_n 2, 1) := by decide +kernel
theorem d24_13 : decode method_6_code 13 = .ok (.i2c, 1) := by decide +kernel
theorem d24_14 : decode method_6_code 14 = .ok (.if_icmp .ne 7, 3) := by decide +kernel
theorem d24_17 : decode method_6_code 17 = .ok (.iconst 1, 1) := by decide +kernel
theorem d24_18 : decode method_6_code 18 = .ok (.goto 4, 3) := by decide +kernel
theorem d24_22 : decode method_6_code 22 = .ok (.ireturn, 1) := by decide +kernel
theorem d24_21 : decode method_6_code 21 = .ok (.iconst 0, 1) := by decide +kernel
def own_seg (cs : List Int32) (off : Int32) (by_ : Int32) : Int32 := (if (own_plain by_) = (0 : Int32) then (if (own_charAt cs off) = (37 : Int32) then (if (own_charAt cs (off + (1 : Int32))) = (own_hex ((by_ &&& (255 : Int32)) >>> ((4 : Int32) &&& 31))) then (if (own_charAt cs (off + (2 : Int32))) = (own_hex ((by_ &&& (255 : Int32)) &&& (15 : Int32))) then (1 : Int32) else (0 : Int32)) else (0 : Int32)) else (0 : Int32)) else (if (own_charAt cs off) = (by_.toUInt32.toUInt16.toUInt32.toInt32) then (1 : Int32) else (0 : Int32)))
theorem ef_rm24 (m : MethodId) (r : Addr) (off : Int32) (by_ : Int32) : entryFrame m #[(.ref r), (.int off), (.int by_)] 4 = mkF m 0 #[.val (.ref r), .val (.int off), .val (.int by_), .unset] [] := by first | (simp [entryFrame, mkF, argsToLocals, Value.category]; done) | rfl
def Q_rm24 (Z : State) (cz : Int32) (cs : List Int32) (t_r : Addr) (k_r : ClassId) (vF : Value) (r : Addr) (off : Int32) (by_ : Int32) (h0 : Heap) (n0 : Nat) (v : Option Value) (h : Heap) (L : List Loc) : Prop := v = some (.int (own_seg cs off by_)) ∧ Fr n0 L ∧ h = h0
set_option maxRecDepth 65536 in
set_option maxHeartbeats 40000000 in
theorem rm24 (l : Launch) (Z : State) (a0 : Array Value) (hw : ∀ d ∈ tables_1, d.before a0 Z = true) (ws : List Jvm.Cond) (cz : Int32) (cs : List Int32) (t_r : Addr) (k_r : ClassId) (vF : Value) (r : Addr) (off : Int32) (by_ : Int32) (h0 : Heap) (n0 : Nat) (O0 : Old Z n0 h0) (S_C : Sta Z Z.heap "java/lang/String" "COMPACT_STRINGS" "Z" (.int cz)) (hcz : ¬ (cz = (0 : Int32))) (S_F : Sta Z Z.heap "jdk/internal/util/Preconditions" "SIOOBE_FORMATTER" "Ljava/util/function/BiFunction;" vF) (hvF : vF.isRef = true) (hbig : cs.length < 1000) (F_v_r : Fld Z h0 r "java/lang/String" "value" "[B" (.ref t_r)) (F_c_r : Fld Z h0 r "java/lang/String" "coder" "B" (.int (0 : Int32))) (E_r : Exa Z h0 r "java/lang/String") (V_r : Arv Z h0 t_r k_r .byte (Int32.ofNat cs.length) (own_vs cs) (.int (0 : Int32))) (hs : own_segok cs off by_) :
    MetFree l (⟨"com/example/birep/birep/rrdp/RsyncBaseEncodedPinLaw", "seg", "(Ljava/lang/String;IB)Z"⟩ : MethodName) (head1 (Jvm.Cond.code (⟨"com/example/birep/birep/rrdp/RsyncBaseEncodedPinLaw", "seg", "(Ljava/lang/String;IB)Z"⟩ : MethodName) method_6_code 4 (some .boolean) :: ws) ({ frames := 4, cells := 0, slots := 0, locals := 53 } : Room)) (fun aa_ U => aa_ = #[(.ref r), (.int off), (.int by_)] ∧ Z.Warmed39 U.vm ∧ U.heap = h0) (fun _ _ _ _ _ => True) (fun _ U oo_ U' => ∃ vv_ LL_, oo_ = .returned vv_ ∧ Q_rm24 Z cz cs t_r k_r vF r off by_ h0 n0 vv_ U'.heap LL_ ∧ FrameEnd U oo_ U' LL_ ({ frames := 4, cells := 0, slots := 0, locals := 53 } : Room).cells ({ frames := 4, cells := 0, slots := 0, locals := 53 } : Room).slots) := by
  refine MetFree.of_bodySF (plainFor_of_name pn_com_example_birep_birep_rrdp_RsyncBaseEncodedPinLaw) hisR ?_
  intro p e s m args below meth c s₁ Bd hml0 hP hK
  obtain ⟨rfl, hZ, hh⟩ := hP
  have hx := Bd.exec
  have hby := Bd.bytes
  have hml : c.maxLocals = 4 := hml0
  have hown : s.vm.findClass "com/example/birep/birep/rrdp/RsyncBaseEncodedPinLaw" = some m.cls := findClass_of_methodNamed Bd.named
  have hnm := (name_of_methodNamed Bd.named Bd.method).1
  have X0 : Stand p l e ({ frames := 4, cells := 0, slots := 0, locals := 53 } : Room) s m #[(.ref r), (.int off), (.int by_)] below meth c s₁ [] 0 0 := Stand.of_body Bd
  have e0 : s₁.heap = h0 := by rw [← hh, Bd.state]; rfl
  have N0 := Fr.nil n0
  have K0 : Keep h0 h0 [] := Keep.refl h0 _
  refine own_i fun PP hPP => own_s (fun t k => castTop (ef_rm24 m r off by_) k) ?_
  show Go p.tables e below _ (s₁.setTop (mkF m 0 #[.val (.ref r), .val (.int off), .val (.int by_), .unset] []))
  refine own_s (fun t k => XS.iloadN X0.here hx rfl (hb hby d24_0) rfl k) ?_
  show Go p.tables e below _ (s₁.setTop (mkF m 1 #[.val (.ref r), .val (.int off), .val (.int by_), .unset] [(.int by_)]))
  obtain ⟨_, _, ⟨T1, L1, k1, n1⟩, -, X1, ⟨Lc1, hQ1, l1, y1, z1⟩, st1⟩ := Jvm.LawKit.callS X0 hx (y := (⟨"com/example/birep/birep/rrdp/RsyncBaseEncodedPinLaw", "plain", "(I)Z"⟩ : MethodName)) hown (mvT hZ (hw _ (List.mem_of_getElem? (i := 120) rfl))) (mvT hZ (hw _ (List.mem_of_getElem? (i := 121) rfl))) (mvT hZ (hw _ (List.mem_of_getElem? (i := 118) rfl))) (mvT hZ (hw _ (List.mem_of_getElem? (i := 122) rfl))) (by decide) (backOf (W := 0) (rm23 l Z a0 hw [] by_ h0 n0 O0 ) hZ (hw _ (List.mem_of_getElem? (i := 122) rfl)) (hw _ (List.mem_of_getElem? (i := 118) rfl)) (by decide) (by decide)) (g := (mkF m 1 #[.val (.ref r), .val (.int off), .val (.int by_), .unset] [(.int by_)])) rfl (by rw [hml]; rfl) (argsL := [(.int by_)]) (rest := []) (lenOf pd__I_Z rfl) rfl (by show 2 * 0 + _ ≤ _; exact Nat.le_of_eq rfl) (hb hby d24_1) (fun _ _ => ⟨rfl, e0, (by decide : 0 + 0 ≤ _), (by decide : 0 + 0 ≤ _)⟩)
  dsimp only [Pt.U, Pt.locs, Pt.cells, Pt.slots] at X1 l1 y1 z1 st1 hQ1
  subst l1 y1 z1
  obtain ⟨rfl, N1q, eq1⟩ := hQ1
  have N1 := Fr.app N0 N1q
  refine own_s st1 ?_
  show Go p.tables e below _ (T1.setTop (mkF m 4 #[.val (.ref r), .val (.int off), .val (.int by_), .unset] [(.int (own_plain by_))]))
  by_cases hc2 : (own_plain by_) = (0 : Int32)
  ·
    refine own_s (fun t k => XS.ifYes X1.here hx rfl (pc0 := 4) (pc' := 23) rfl (hb hby d24_4) rfl ((if0 _ _).trans (teq hc2).1) (by decide) (by decide) k) ?_
    show Go p.tables e below _ (T1.setTop (mkF m 23 #[.val (.ref r), .val (.int off), .val (.int by_), .unset] []))
    refine own_s (fun t k => XS.iloadN X1.here hx rfl (hb hby d24_23) rfl k) ?_
    show Go p.tables e below _ (T1.setTop (mkF m 24 #[.val (.ref r), .val (.int off), .val (.int by_), .unset] [(.int by_)]))
    refine own_s (fun t k => XS.sipush X1.here hx rfl (hb hby d24_24) k) ?_
    show Go p.tables e below _ (T1.setTop (mkF m 27 #[.val (.ref r), .val (.int off), .val (.int by_), .unset] [(.int (255 : Int32)), (.int by_)]))
    refine own_s (fun t k => XS.iand X1.here hx rfl (hb hby d24_27) rfl k) ?_
    show Go p.tables e below _ (T1.setTop (mkF m 28 #[.val (.ref r), .val (.int off), .val (.int by_), .unset] [(.int (by_ &&& (255 : Int32)))]))
    refine own_s (fun t k => XS.istoreN X1.here hx rfl (hb hby d24_28) rfl (l' := #[.val (.ref r), .val (.int off), .val (.int by_), .val (.int (by_ &&& (255 : Int32)))]) rfl k) ?_
    show Go p.tables e below _ (T1.setTop (mkF m 29 #[.val (.ref r), .val (.int off), .val (.int by_), .val (.int (by_ &&& (255 : Int32)))] []))
    refine own_s (fun t k => XS.aloadN X1.here hx rfl (hb hby d24_29) rfl rfl k) ?_
    show Go p.tables e below _ (T1.setTop (mkF m 30 #[.val (.ref r), .val (.int off), .val (.int by_), .val (.int (by_ &&& (255 : Int32)))] [(.ref r)]))
    refine own_s (fun t k => XS.iloadN X1.here hx rfl (hb hby d24_30) rfl k) ?_
    show Go p.tables e below _ (T1.setTop (mkF m 31 #[.val (.ref r), .val (.int off), .val (.int by_), .val (.int (by_ &&& (255 : Int32)))] [(.int off), (.ref r)]))
    obtain ⟨cq3, kq3, q3a, q3b, q3c⟩ := isOf hZ eq1 E_r
    obtain ⟨_, _, ⟨T3, L3, k3, n3⟩, -, X3, ⟨Lc3, hQ3, l3, y3, z3⟩, st3⟩ := X1.virtualBack hx (y := (⟨"java/lang/String", "charAt", "(I)C"⟩ : MethodName)) (z := (⟨"java/lang/String", "charAt", "(I)C"⟩ : MethodName)) hown (mvT hZ (hw _ (List.mem_of_getElem? (i := 126) rfl))) (mvT hZ (hw _ (List.mem_of_getElem? (i := 127) rfl))) (notFace_of_selects (args := #[]) (mvT hZ (hw _ (List.mem_of_getElem? (i := 129) rfl)))) (mvT hZ (hw _ (List.mem_of_getElem? (i := 129) rfl))) (mvT hZ (hw _ (List.mem_of_getElem? (i := 128) rfl))) (by decide) (backOf (W := 0) (rm25 l Z a0 hw [] cz cs t_r k_r vF r off h0 n0 O0 S_C hcz S_F hvF hbig F_v_r F_c_r E_r V_r (own_so1 hs) (own_so2 hs)) hZ (hw _ (List.mem_of_getElem? (i := 130) rfl)) (hw _ (List.mem_of_getElem? (i := 21) rfl)) (by decide) (by decide)) q3a q3c (g := (mkF m 31 #[.val (.ref r), .val (.int off), .val (.int by_), .val (.int (by_ &&& (255 : Int32)))] [(.int off), (.ref r)])) rfl (by rw [hml]; rfl) (Steps.refl _) (argsL := [(.int off)]) (rest := []) (lenOf pd__I_C rfl) rfl (by show 2 * 0 + _ ≤ _; exact Nat.le_of_eq rfl) (hb hby d24_31) (fun _ _ => ⟨rfl, eq1, (by decide : 0 + 0 ≤ _), (by decide : 0 + 0 ≤ _)⟩)
    dsimp only [Pt.U, Pt.locs, Pt.cells, Pt.slots] at X3 l3 y3 z3 st3 hQ3
    subst l3 y3 z3
    obtain ⟨rfl, N3q, eq3⟩ := hQ3
    have N3 := Fr.app N1 N3q
    refine own_t st3 ?_
    show Go p.tables e below _ (T3.setTop (mkF m 34 #[.val (.ref r), .val (.int off), .val (.int by_), .val (.int (by_ &&& (255 : Int32)))] [(.int (own_charAt cs off))]))
    refine own_s (fun t k => XS.bipush X3.here hx rfl (hb hby d24_34) k) ?_
    show Go p.tables e below _ (T3.setTop (mkF m 36 #[.val (.ref r), .val (.int off), .val (.int by_), .val (.int (by_ &&& (255 : Int32)))] [(.int (37 : Int32)), (.int (own_charAt cs off))]))
    by_cases hc4 : (own_charAt cs off) = (37 : Int32)
    ·
      refine own_s (fun t k => XS.icmpNo X3.here hx rfl (hb hby d24_36) rfl (teq hc4).2 k) ?_
      show Go p.tables e below _ (T3.setTop (mkF m 39 #[.val (.ref r), .val (.int off), .val (.int by_), .val (.int (by_ &&& (255 : Int32)))] []))
      refine own_s (fun t k => XS.aloadN X3.here hx rfl (hb hby d24_39) rfl rfl k) ?_
      show Go p.tables e below _ (T3.setTop (mkF m 40 #[.val (.ref r), .val (.int off), .val (.int by_), .val (.int (by_ &&& (255 : Int32)))] [(.ref r)]))
      refine own_s (fun t k => XS.iloadN X3.here hx rfl (hb hby d24_40) rfl k) ?_
      show Go p.tables e below _ (T3.setTop (mkF m 41 #[.val (.ref r), .val (.int off), .val (.int by_), .val (.int (by_ &&& (255 : Int32)))] [(.int off), (.ref r)]))
      refine own_s (fun t k => XS.iconst X3.here hx rfl (hb hby d24_41) k) ?_
      show Go p.tables e below _ (T3.setTop (mkF m 42 #[.val (.ref r), .val (.int off), .val (.int by_), .val (.int (by_ &&& (255 : Int32)))] [(.int (1 : Int32)), (.int off), (.ref r)]))
      refine own_s (fun t k => XS.iadd X3.here hx rfl (hb hby d24_42) rfl k) ?_
      show Go p.tables e below _ (T3.setTop (mkF m 43 #[.val (.ref r), .val (.int off), .val (.int by_), .val (.int (by_ &&& (255 : Int32)))] [(.int (off + (1 : Int32))), (.ref r)]))
      obtain ⟨cq5, kq5, q5a, q5b, q5c⟩ := isOf hZ eq3 E_r
      obtain ⟨_, _, ⟨T5, L5, k5, n5⟩, -, X5, ⟨Lc5, hQ5, l5, y5, z5⟩, st5⟩ := X3.virtualBack hx (y := (⟨"java/lang/String", "charAt", "(I)C"⟩ : MethodName)) (z := (⟨"java/lang/String", "charAt", "(I)C"⟩ : MethodName)) hown (mvT hZ (hw _ (List.mem_of_getElem? (i := 126) rfl))) (mvT hZ (hw _ (List.mem_of_getElem? (i := 127) rfl))) (notFace_of_selects (args := #[]) (mvT hZ (hw _ (List.mem_of_getElem? (i := 129) rfl)))) (mvT hZ (hw _ (List.mem_of_getElem? (i := 129) rfl))) (mvT hZ (hw _ (List.mem_of_getElem? (i := 128) rfl))) (by decide) (backOf (W := 0) (rm25 l Z a0 hw [] cz cs t_r k_r vF r (off + (1 : Int32)) h0 n0 O0 S_C hcz S_F hvF hbig F_v_r F_c_r E_r V_r (own_so3 hs hc2 1 1 rfl (by decide)).1 (own_so3 hs hc2 1 1 rfl (by decide)).2) hZ (hw _ (List.mem_of_getElem? (i := 130) rfl)) (hw _ (List.mem_of_getElem? (i := 21) rfl)) (by decide) (by decide)) q5a q5c (g := (mkF m 43 #[.val (.ref r), .val (.int off), .val (.int by_), .val (.int (by_ &&& (255 : Int32)))] [(.int (off + (1 : Int32))), (.ref r)])) rfl (by rw [hml]; rfl) (Steps.refl _) (argsL := [(.int (off + (1 : Int32)))]) (rest := []) (lenOf pd__I_C rfl) rfl (by show 2 * 0 + _ ≤ _; exact Nat.le_of_eq rfl) (hb hby d24_43) (fun _ _ => ⟨rfl, eq3, (by decide : 0 + 0 ≤ _), (by decide : 0 + 0 ≤ _)⟩)
      dsimp only [Pt.U, Pt.locs, Pt.cells, Pt.slots] at X5 l5 y5 z5 st5 hQ5
      subst l5 y5 z5
      obtain ⟨rfl, N5q, eq5⟩ := hQ5
      have N5 := Fr.app N3 N5q
      refine own_t st5 ?_
      show Go p.tables e below _ (T5.setTop (mkF m 46 #[.val (.ref r), .val (.int off), .val (.int by_), .val (.int (by_ &&& (255 : Int32)))] [(.int (own_charAt cs (off + (1 : Int32))))]))
      refine own_s (fun t k => XS.iloadN X5.here hx rfl (hb hby d24_46) rfl k) ?_
      show Go p.tables e below _ (T5.setTop (mkF m 47 #[.val (.ref r), .val (.int off), .val (.int by_), .val (.int (by_ &&& (255 : Int32)))] [(.int (by_ &&& (255 : Int32))), (.int (own_charAt cs (off + (1 : Int32))))]))
      refine own_s (fun t k => XS.iconst X5.here hx rfl (hb hby d24_47) k) ?_
      show Go p.tables e below _ (T5.setTop (mkF m 48 #[.val (.ref r), .val (.int off), .val (.int by_), .val (.int (by_ &&& (255 : Int32)))] [(.int (4 : Int32)), (.int (by_ &&& (255 : Int32))), (.int (own_charAt cs (off + (1 : Int32))))]))
      refine own_s (fun t k => XS.ishr X5.here hx rfl (hb hby d24_48) rfl k) ?_
      show Go p.tables e below _ (T5.setTop (mkF m 49 #[.val (.ref r), .val (.int off), .val (.int by_), .val (.int (by_ &&& (255 : Int32)))] [(.int ((by_ &&& (255 : Int32)) >>> ((4 : Int32) &&& 31))), (.int (own_charAt cs (off + (1 : Int32))))]))
      obtain ⟨_, _, ⟨T6, L6, k6, n6⟩, -, X6, ⟨Lc6, hQ6, l6, y6, z6⟩, st6⟩ := Jvm.LawKit.callS X5 hx (y := (⟨"com/example/birep/birep/rrdp/RsyncBaseEncodedPinLaw", "hex", "(I)C"⟩ : MethodName)) hown (mvT hZ (hw _ (List.mem_of_getElem? (i := 147) rfl))) (mvT hZ (hw _ (List.mem_of_getElem? (i := 148) rfl))) (mvT hZ (hw _ (List.mem_of_getElem? (i := 118) rfl))) (mvT hZ (hw _ (List.mem_of_getElem? (i := 149) rfl))) (by decide) (backOf (W := 1) (rm30 l Z a0 hw [] ((by_ &&& (255 : Int32)) >>> ((4 : Int32) &&& 31)) h0 n0 O0 ) hZ (hw _ (List.mem_of_getElem? (i := 149) rfl)) (hw _ (List.mem_of_getElem? (i := 118) rfl)) (by decide) (by decide)) (g := (mkF m 49 #[.val (.ref r), .val (.int off), .val (.int by_), .val (.int (by_ &&& (255 : Int32)))] [(.int ((by_ &&& (255 : Int32)) >>> ((4 : Int32) &&& 31))), (.int (own_charAt cs (off + (1 : Int32))))])) rfl (by rw [hml]; rfl) (argsL := [(.int ((by_ &&& (255 : Int32)) >>> ((4 : Int32) &&& 31)))]) (rest := [(.int (own_charAt cs (off + (1 : Int32))))]) (lenOf pd__I_C rfl) rfl (by show 2 * 0 + _ ≤ _; exact Nat.le_of_eq rfl) (hb hby d24_49) (fun _ _ => ⟨rfl, eq5, (by decide : 0 + 0 ≤ _), (by decide : 0 + 0 ≤ _)⟩)
      dsimp only [Pt.U, Pt.locs, Pt.cells, Pt.slots] at X6 l6 y6 z6 st6 hQ6
      subst l6 y6 z6
      obtain ⟨rfl, N6q, eq6⟩ := hQ6
      have N6 := Fr.app N5 N6q
      refine own_s st6 ?_
      show Go p.tables e below _ (T6.setTop (mkF m 52 #[.val (.ref r), .val (.int off), .val (.int by_), .val (.int (by_ &&& (255 : Int32)))] [(.int (own_hex ((by_ &&& (255 : Int32)) >>> ((4 : Int32) &&& 31)))), (.int (own_charAt cs (off + (1 : Int32))))]))
      by_cases hc7 : (own_charAt cs (off + (1 : Int32))) = (own_hex ((by_ &&& (255 : Int32)) >>> ((4 : Int32) &&& 31)))
      ·
        refine own_s (fun t k => XS.icmpNo X6.here hx rfl (hb hby d24_52) rfl (teq hc7).2 k) ?_
        show Go p.tables e below _ (T6.setTop (mkF m 55 #[.val (.ref r), .val (.int off), .val (.int by_), .val (.int (by_ &&& (255 : Int32)))] []))
        refine own_s (fun t k => XS.aloadN X6.here hx rfl (hb hby d24_55) rfl rfl k) ?_
        show Go p.tables e below _ (T6.setTop (mkF m 56 #[.val (.ref r), .val (.int off), .val (.int by_), .val (.int (by_ &&& (255 : Int32)))] [(.ref r)]))
        refine own_s (fun t k => XS.iloadN X6.here hx rfl (hb hby d24_56) rfl k) ?_
        show Go p.tables e below _ (T6.setTop (mkF m 57 #[.val (.ref r), .val (.int off), .val (.int by_), .val (.int (by_ &&& (255 : Int32)))] [(.int off), (.ref r)]))
        refine own_s (fun t k => XS.iconst X6.here hx rfl (hb hby d24_57) k) ?_
        show Go p.tables e below _ (T6.setTop (mkF m 58 #[.val (.ref r), .val (.int off), .val (.int by_), .val (.int (by_ &&& (255 : Int32)))] [(.int (2 : Int32)), (.int off), (.ref r)]))
        refine own_s (fun t k => XS.iadd X6.here hx rfl (hb hby d24_58) rfl k) ?_
        show Go p.tables e below _ (T6.setTop (mkF m 59 #[.val (.ref r), .val (.int off), .val (.int by_), .val (.int (by_ &&& (255 : Int32)))] [(.int (off + (2 : Int32))), (.ref r)]))
        obtain ⟨cq8, kq8, q8a, q8b, q8c⟩ := isOf hZ eq6 E_r
        obtain ⟨_, _, ⟨T8, L8, k8, n8⟩, -, X8, ⟨Lc8, hQ8, l8, y8, z8⟩, st8⟩ := X6.virtualBack hx (y := (⟨"java/lang/String", "charAt", "(I)C"⟩ : MethodName)) (z := (⟨"java/lang/String", "charAt", "(I)C"⟩ : MethodName)) hown (mvT hZ (hw _ (List.mem_of_getElem? (i := 126) rfl))) (mvT hZ (hw _ (List.mem_of_getElem? (i := 127) rfl))) (notFace_of_selects (args := #[]) (mvT hZ (hw _ (List.mem_of_getElem? (i := 129) rfl)))) (mvT hZ (hw _ (List.mem_of_getElem? (i := 129) rfl))) (mvT hZ (hw _ (List.mem_of_getElem? (i := 128) rfl))) (by decide) (backOf (W := 0) (rm25 l Z a0 hw [] cz cs t_r k_r vF r (off + (2 : Int32)) h0 n0 O0 S_C hcz S_F hvF hbig F_v_r F_c_r E_r V_r (own_so3 hs hc2 2 2 rfl (by decide)).1 (own_so3 hs hc2 2 2 rfl (by decide)).2) hZ (hw _ (List.mem_of_getElem? (i := 130) rfl)) (hw _ (List.mem_of_getElem? (i := 21) rfl)) (by decide) (by decide)) q8a q8c (g := (mkF m 59 #[.val (.ref r), .val (.int off), .val (.int by_), .val (.int (by_ &&& (255 : Int32)))] [(.int (off + (2 : Int32))), (.ref r)])) rfl (by rw [hml]; rfl) (Steps.refl _) (argsL := [(.int (off + (2 : Int32)))]) (rest := []) (lenOf pd__I_C rfl) rfl (by show 2 * 0 + _ ≤ _; exact Nat.le_of_eq rfl) (hb hby d24_59) (fun _ _ => ⟨rfl, eq6, (by decide : 0 + 0 ≤ _), (by decide : 0 + 0 ≤ _)⟩)
        dsimp only [Pt.U, Pt.locs, Pt.cells, Pt.slots] at X8 l8 y8 z8 st8 hQ8
        subst l8 y8 z8
        obtain ⟨rfl, N8q, eq8⟩ := hQ8
        have N8 := Fr.app N6 N8q
        refine own_t st8 ?_
        show Go p.tables e below _ (T8.setTop (mkF m 62 #[.val (.ref r), .val (.int off), .val (.int by_), .val (.int (by_ &&& (255 : Int32)))] [(.int (own_charAt cs (off + (2 : Int32))))]))
        refine own_s (fun t k => XS.iloadN X8.here hx rfl (hb hby d24_62) rfl k) ?_
        show Go p.tables e below _ (T8.setTop (mkF m 63 #[.val (.ref r), .val (.int off), .val (.int by_), .val (.int (by_ &&& (255 : Int32)))] [(.int (by_ &&& (255 : Int32))), (.int (own_charAt cs (off + (2 : Int32))))]))
        refine own_s (fun t k => XS.bipush X8.here hx rfl (hb hby d24_63) k) ?_
        show Go p.tables e below _ (T8.setTop (mkF m 65 #[.val (.ref r), .val (.int off), .val (.int by_), .val (.int (by_ &&& (255 : Int32)))] [(.int (15 : Int32)), (.int (by_ &&& (255 : Int32))), (.int (own_charAt cs (off + (2 : Int32))))]))
        refine own_s (fun t k => XS.iand X8.here hx rfl (hb hby d24_65) rfl k) ?_
        show Go p.tables e below _ (T8.setTop (mkF m 66 #[.val (.ref r), .val (.int off), .val (.int by_), .val (.int (by_ &&& (255 : Int32)))] [(.int ((by_ &&& (255 : Int32)) &&& (15 : Int32))), (.int (own_charAt cs (off + (2 : Int32))))]))
        obtain ⟨_, _, ⟨T9, L9, k9, n9⟩, -, X9, ⟨Lc9, hQ9, l9, y9, z9⟩, st9⟩ := Jvm.LawKit.callS X8 hx (y := (⟨"com/example/birep/birep/rrdp/RsyncBaseEncodedPinLaw", "hex", "(I)C"⟩ : MethodName)) hown (mvT hZ (hw _ (List.mem_of_getElem? (i := 147) rfl))) (mvT hZ (hw _ (List.mem_of_getElem? (i := 148) rfl))) (mvT hZ (hw _ (List.mem_of_getElem? (i := 118) rfl))) (mvT hZ (hw _ (List.mem_of_getElem? (i := 149) rfl))) (by decide) (backOf (W := 1) (rm30 l Z a0 hw [] ((by_ &&& (255 : Int32)) &&& (15 : Int32)) h0 n0 O0 ) hZ (hw _ (List.mem_of_getElem? (i := 149) rfl)) (hw _ (List.mem_of_getElem? (i := 118) rfl)) (by decide) (by decide)) (g := (mkF m 66 #[.val (.ref r), .val (.int off), .val (.int by_), .val (.int (by_ &&& (255 : Int32)))] [(.int ((by_ &&& (255 : Int32)) &&& (15 : Int32))), (.int (own_charAt cs (off + (2 : Int32))))])) rfl (by rw [hml]; rfl) (argsL := [(.int ((by_ &&& (255 : Int32)) &&& (15 : Int32)))]) (rest := [(.int (own_charAt cs (off + (2 : Int32))))]) (lenOf pd__I_C rfl) rfl (by show 2 * 0 + _ ≤ _; exact Nat.le_of_eq rfl) (hb hby d24_66) (fun _ _ => ⟨rfl, eq8, (by decide : 0 + 0 ≤ _), (by decide : 0 + 0 ≤ _)⟩)
        dsimp only [Pt.U, Pt.locs, Pt.cells, Pt.slots] at X9 l9 y9 z9 st9 hQ9
        subst l9 y9 z9
        obtain ⟨rfl, N9q, eq9⟩ := hQ9
        have N9 := Fr.app N8 N9q
        refine own_s st9 ?_
        show Go p.tables e below _ (T9.setTop (mkF m 69 #[.val (.ref r), .val (.int off), .val (.int by_), .val (.int (by_ &&& (255 : Int32)))] [(.int (own_hex ((by_ &&& (255 : Int32)) &&& (15 : Int32)))), (.int (own_charAt cs (off + (2 : Int32))))]))
        by_cases hc10 : (own_charAt cs (off + (2 : Int32))) = (own_hex ((by_ &&& (255 : Int32)) &&& (15 : Int32)))
        ·
          refine own_s (fun t k => XS.icmpNo X9.here hx rfl (hb hby d24_69) rfl (teq hc10).2 k) ?_
          show Go p.tables e below _ (T9.setTop (mkF m 72 #[.val (.ref r), .val (.int off), .val (.int by_), .val (.int (by_ &&& (255 : Int32)))] []))
          refine own_s (fun t k => XS.iconst X9.here hx rfl (hb hby d24_72) k) ?_
          show Go p.tables e below _ (T9.setTop (mkF m 73 #[.val (.ref r), .val (.int off), .val (.int by_), .val (.int (by_ &&& (255 : Int32)))] [(.int (1 : Int32))]))
          refine own_s (fun t k => XS.goto X9.here hx rfl (pc0 := 73) (pc' := 77) rfl (hb hby d24_73) (by decide) (by decide) k) ?_
          show Go p.tables e below _ (T9.setTop (mkF m 77 #[.val (.ref r), .val (.int off), .val (.int by_), .val (.int (by_ &&& (255 : Int32)))] [(.int (1 : Int32))]))
          obtain ⟨fs, hr, hrun, hended, hW, hsame⟩ := X9.leave (v := (some (.int (1 : Int32)))) (fun h => by first | rfl | (rw [Bd.returns] at h; cases h))
          refine own_e hPP ?_ hrun hended ⟨_, _, rfl, ?_, ⟨_, rfl⟩, hW, hsame.mono (by decide) (by decide)⟩
          · exact retN X9 hx (t := .boolean) Bd.returns (by simp) (hb hby d24_77) hr
          · show Q_rm24 Z cz cs t_r k_r vF r off by_ h0 n0 _ T9.heap _
            rw [eq9]
            exact ⟨congrArg (fun z => some (Value.int z)) (show (1 : Int32) = (own_seg cs off by_) from by rw [own_seg, if_pos hc2, if_pos hc4, if_pos hc7, if_pos hc10]), N9, rfl⟩
        ·
          refine own_s (fun t k => XS.icmpYes X9.here hx rfl (pc0 := 69) (pc' := 76) rfl (hb hby d24_69) rfl (feq hc10).2 (by decide) (by decide) k) ?_
          show Go p.tables e below _ (T9.setTop (mkF m 76 #[.val (.ref r), .val (.int off), .val (.int by_), .val (.int (by_ &&& (255 : Int32)))] []))
          refine own_s (fun t k => XS.iconst X9.here hx rfl (hb hby d24_76) k) ?_
          show Go p.tables e below _ (T9.setTop (mkF m 77 #[.val (.ref r), .val (.int off), .val (.int by_), .val (.int (by_ &&& (255 : Int32)))] [(.int (0 : Int32))]))
          obtain ⟨fs, hr, hrun, hended, hW, hsame⟩ := X9.leave (v := (some (.int (0 : Int32)))) (fun h => by first | rfl | (rw [Bd.returns] at h; cases h))
          refine own_e hPP ?_ hrun hended ⟨_, _, rfl, ?_, ⟨_, rfl⟩, hW, hsame.mono (by decide) (by decide)⟩
          · exact retN X9 hx (t := .boolean) Bd.returns (by simp) (hb hby d24_77) hr
          · show Q_rm24 Z cz cs t_r k_r vF r off by_ h0 n0 _ T9.heap _
            rw [eq9]
            exact ⟨congrArg (fun z => some (Value.int z)) (show (0 : Int32) = (own_seg cs off by_) from by rw [own_seg, if_pos hc2, if_pos hc4, if_pos hc7, if_neg hc10]), N9, rfl⟩
      ·
        refine own_s (fun t k => XS.icmpYes X6.here hx rfl (pc0 := 52) (pc' := 76) rfl (hb hby d24_52) rfl (feq hc7).2 (by decide) (by decide) k) ?_
        show Go p.tables e below _ (T6.setTop (mkF m 76 #[.val (.ref r), .val (.int off), .val (.int by_), .val (.int (by_ &&& (255 : Int32)))] []))
        refine own_s (fun t k => XS.iconst X6.here hx rfl (hb hby d24_76) k) ?_
        show Go p.tables e below _ (T6.setTop (mkF m 77 #[.val (.ref r), .val (.int off), .val (.int by_), .val (.int (by_ &&& (255 : Int32)))] [(.int (0 : Int32))]))
        obtain ⟨fs, hr, hrun, hended, hW, hsame⟩ := X6.leave (v := (some (.int (0 : Int32)))) (fun h => by first | rfl | (rw [Bd.returns] at h; cases h))
        refine own_e hPP ?_ hrun hended ⟨_, _, rfl, ?_, ⟨_, rfl⟩, hW, hsame.mono (by decide) (by decide)⟩
        · exact retN X6 hx (t := .boolean) Bd.returns (by simp) (hb hby d24_77) hr
        · show Q_rm24 Z cz cs t_r k_r vF r off by_ h0 n0 _ T6.heap _
          rw [eq6]
          exact ⟨congrArg (fun z => some (Value.int z)) (show (0 : Int32) = (own_seg cs off by_) from by rw [own_seg, if_pos hc2, if_pos hc4, if_neg hc7]), N6, rfl⟩
    ·
      refine own_s (fun t k => XS.icmpYes X3.here hx rfl (pc0 := 36) (pc' := 76) rfl (hb hby d24_36) rfl (feq hc4).2 (by decide) (by decide) k) ?_
      show Go p.tables e below _ (T3.setTop (mkF m 76 #[.val (.ref r), .val (.int off), .val (.int by_), .val (.int (by_ &&& (255 : Int32)))] []))
      refine own_s (fun t k => XS.iconst X3.here hx rfl (hb hby d24_76) k) ?_
      show Go p.tables e below _ (T3.setTop (mkF m 77 #[.val (.ref r), .val (.int off), .val (.int by_), .val (.int (by_ &&& (255 : Int32)))] [(.int (0 : Int32))]))
      obtain ⟨fs, hr, hrun, hended, hW, hsame⟩ := X3.leave (v := (some (.int (0 : Int32)))) (fun h => by first | rfl | (rw [Bd.returns] at h; cases h))
      refine own_e hPP ?_ hrun hended ⟨_, _, rfl, ?_, ⟨_, rfl⟩, hW, hsame.mono (by decide) (by decide)⟩
      · exact retN X3 hx (t := .boolean) Bd.returns (by simp) (hb hby d24_77) hr
      · show Q_rm24 Z cz cs t_r k_r vF r off by_ h0 n0 _ T3.heap _
        rw [eq3]
        exact ⟨congrArg (fun z => some (Value.int z)) (show (0 : Int32) = (own_seg cs off by_) from by rw [own_seg, if_pos hc2, if_neg hc4]), N3, rfl⟩
  ·
    refine own_s (fun t k => XS.ifNo X1.here hx rfl (hb hby d24_4) rfl ((if0 _ _).trans (feq hc2).1) k) ?_
    show Go p.tables e below _ (T1.setTop (mkF m 7 #[.val (.ref r), .val (.int off), .val (.int by_), .unset] []))
    refine own_s (fun t k => XS.aloadN X1.here hx rfl (hb hby d24_7) rfl rfl k) ?_
    show Go p.tables e below _ (T1.setTop (mkF m 8 #[.val (.ref r), .val (.int off), .val (.int by_), .unset] [(.ref r)]))
    refine own_s (fun t k => XS.iloadN X1.here hx rfl (hb hby d24_8) rfl k) ?_
    show Go p.tables e below _ (T1.setTop (mkF m 9 #[.val (.ref r), .val (.int off), .val (.int by_), .unset] [(.int off), (.ref r)]))
    obtain ⟨cq11, kq11, q11a, q11b, q11c⟩ := isOf hZ eq1 E_r
    obtain ⟨_, _, ⟨T11, L11, k11, n11⟩, -, X11, ⟨Lc11, hQ11, l11, y11, z11⟩, st11⟩ := X1.virtualBack hx (y := (⟨"java/lang/String", "charAt", "(I)C"⟩ : MethodName)) (z := (⟨"java/lang/String", "charAt", "(I)C"⟩ : MethodName)) hown (mvT hZ (hw _ (List.mem_of_getElem? (i := 126) rfl))) (mvT hZ (hw _ (List.mem_of_getElem? (i := 127) rfl))) (notFace_of_selects (args := #[]) (mvT hZ (hw _ (List.mem_of_getElem? (i := 129) rfl)))) (mvT hZ (hw _ (List.mem_of_getElem? (i := 129) rfl))) (mvT hZ (hw _ (List.mem_of_getElem? (i := 128) rfl))) (by decide) (backOf (W := 0) (rm25 l Z a0 hw [] cz cs t_r k_r vF r off h0 n0 O0 S_C hcz S_F hvF hbig F_v_r F_c_r E_r V_r (own_so1 hs) (own_so2 hs)) hZ (hw _ (List.mem_of_getElem? (i := 130) rfl)) (hw _ (List.mem_of_getElem? (i := 21) rfl)) (by decide) (by decide)) q11a q11c (g := (mkF m 9 #[.val (.ref r), .val (.int off), .val (.int by_), .unset] [(.int off), (.ref r)])) rfl (by rw [hml]; rfl) (Steps.refl _) (argsL := [(.int off)]) (rest := []) (lenOf pd__I_C rfl) rfl (by show 2 * 0 + _ ≤ _; exact Nat.le_of_eq rfl) (hb hby d24_9) (fun _ _ => ⟨rfl, eq1, (by decide : 0 + 0 ≤ _), (by decide : 0 + 0 ≤ _)⟩)
    dsimp only [Pt.U, Pt.locs, Pt.cells, Pt.slots] at X11 l11 y11 z11 st11 hQ11
    subst l11 y11 z11
    obtain ⟨rfl, N11q, eq11⟩ := hQ11
    have N11 := Fr.app N1 N11q
    refine own_t st11 ?_
    show Go p.tables e below _ (T11.setTop (mkF m 12 #[.val (.ref r), .val (.int off), .val (.int by_), .unset] [(.int (own_charAt cs off))]))
    refine own_s (fun t k => XS.iloadN X11.here hx rfl (hb hby d24_12) rfl k) ?_
    show Go p.tables e below _ (T11.setTop (mkF m 13 #[.val (.ref r), .val (.int off), .val (.int by_), .unset] [(.int by_), (.int (own_charAt cs off))]))
    refine own_s (fun t k => XS.i2c X11.here hx rfl (hb hby d24_13) rfl k) ?_
    show Go p.tables e below _ (T11.setTop (mkF m 14 #[.val (.ref r), .val (.int off), .val (.int by_), .unset] [(.int (by_.toUInt32.toUInt16.toUInt32.toInt32)), (.int (own_charAt cs off))]))
    by_cases hc12 : (own_charAt cs off) = (by_.toUInt32.toUInt16.toUInt32.toInt32)
    ·
      refine own_s (fun t k => XS.icmpNo X11.here hx rfl (hb hby d24_14) rfl (teq hc12).2 k) ?_
      show Go p.tables e below _ (T11.setTop (mkF m 17 #[.val (.ref r), .val (.int off), .val (.int by_), .unset] []))
      refine own_s (fun t k => XS.iconst X11.here hx rfl (hb hby d24_17) k) ?_
      show Go p.tables e below _ (T11.setTop (mkF m 18 #[.val (.ref r), .val (.int off), .val (.int by_), .unset] [(.int (1 : Int32))]))
      refine own_s (fun t k => XS.goto X11.here hx rfl (pc0 := 18) (pc' := 22) rfl (hb hby d24_18) (by decide) (by decide) k) ?_
      show Go p.tables e below _ (T11.setTop (mkF m 22 #[.val (.ref r), .val (.int off), .val (.int by_), .unset] [(.int (1 : Int32))]))
      obtain ⟨fs, hr, hrun, hended, hW, hsame⟩ := X11.leave (v := (some (.int (1 : Int32)))) (fun h => by first | rfl | (rw [Bd.returns] at h; cases h))
      refine own_e hPP ?_ hrun hended ⟨_, _, rfl, ?_, ⟨_, rfl⟩, hW, hsame.mono (by decide) (by decide)⟩
      · exact retN X11 hx (t := .boolean) Bd.returns (by simp) (hb hby d24_22) hr
      · show Q_rm24 Z cz cs t_r k_r vF r off by_ h0 n0 _ T11.heap _
        rw [eq11]
        exact ⟨congrArg (fun z => some (Value.int z)) (show (1 : Int32) = (own_seg cs off by_) from by rw [own_seg, if_neg hc2, if_pos hc12]), N11, rfl⟩
    ·
      refine own_s (fun t k => XS.icmpYes X11.here hx rfl (pc0 := 14) (pc' := 21) rfl (hb hby d24_14) rfl (feq hc12).2 (by decide) (by decide) k) ?_
      show Go p.tables e below _ (T11.setTop (mkF m 21 #[.val (.ref r), .val (.int off), .val (.int by_), .unset] []))
      refine own_s (fun t k => XS.iconst X11.here hx rfl (hb hby d24_21) k) ?_
      show Go p.tables e below _ (T11.setTop (mkF m 22 #[.val (.ref r), .val (.int off), .val (.int by_), .unset] [(.int (0 : Int32))]))
      obtain ⟨fs, hr, hrun, hended, hW, hsame⟩ := X11.leave (v := (some (.int (0 : Int32)))) (fun h => by first | rfl | (rw [Bd.returns] at h; cases h))
      refine own_e hPP ?_ hrun hended ⟨_, _, rfl, ?_, ⟨_, rfl⟩, hW, hsame.mono (by decide) (by decide)⟩
      · exact retN X11 hx (t := .boolean) Bd.returns (by simp) (hb hby d24_22) hr
      · show Q_rm24 Z cz cs t_r k_r vF r off by_ h0 n0 _ T11.heap _
        rw [eq11]
        exact ⟨congrArg (fun z => some (Value.int z)) (show (0 : Int32) = (own_seg cs off by_) from by rw [own_seg, if_neg hc2, if_neg hc12]), N11, rfl⟩
theorem own_sa {Z : State} {a0 : Array Value} (hw : ∀ d ∈ tables_1, d.before a0 Z = true) : ∀ a ∈ Bundle.stringAtoms, a.before a0 Z = true := fun d hd => by
  simp only [Bundle.stringAtoms, List.mem_cons, List.not_mem_nil, or_false] at hd
  rcases hd with rfl | rfl | rfl | rfl | rfl | rfl | rfl
  · exact (hw _ (List.mem_of_getElem? (i := 21) rfl))
  · exact (hw _ (List.mem_of_getElem? (i := 32) rfl))
  · exact (hw _ (List.mem_of_getElem? (i := 0) rfl))
  · exact (hw _ (List.mem_of_getElem? (i := 83) rfl))
  · exact (hw _ (List.mem_of_getElem? (i := 63) rfl))
  · exact (hw _ (List.mem_of_getElem? (i := 151) rfl))
  · exact (hw _ (List.mem_of_getElem? (i := 152) rfl))
def own_PL : List Int32 := [97, 98, 99, 100, 101, 102, 103, 104, 105, 106, 107, 108, 109, 110, 111, 112, 113, 114, 115, 116, 117, 118, 119, 120, 121, 122, 65, 66, 67, 68, 69, 70, 71, 72, 73, 74, 75, 76, 77, 78, 79, 80, 81, 82, 83, 84, 85, 86, 87, 88, 89, 90, 48, 49, 50, 51, 52, 53, 54, 55, 56, 57, 45, 46, 95, 126, 33, 36, 38, 39, 40, 41, 42, 43, 44, 59, 61, 58, 64]
def own_HX : List Int32 := [48, 49, 50, 51, 52, 53, 54, 55, 56, 57, 65, 66, 67, 68, 69, 70]
def own_isp (b : Int32) : Bool := decide (b = 47) || (decide (0 < b) && !decide (own_find own_PL (b.toInt8.toInt32) 0 < 0))
def own_enc1 (b : Int32) : List Int32 := if own_isp b = true then [(b.toUInt32.toUInt16.toUInt32.toInt32).toInt8.toInt32] else [(37 : Int32).toInt8.toInt32, (own_gb own_HX ((b >>> ((4 : Int32) &&& 31)) &&& (15 : Int32))).toInt8.toInt32, (own_gb own_HX (b &&& (15 : Int32))).toInt8.toInt32]
def own_encL (l : List Int32) : List Int32 := l.flatMap own_enc1
theorem own_enc1_len (b : Int32) : (own_enc1 b).length ≤ 3 := by unfold own_enc1; split <;> simp
theorem own_encL_len (l : List Int32) : (own_encL l).length ≤ 3 * l.length := by
  induction l with
  | nil => simp [own_encL]
  | cons b r ih => have := own_enc1_len b; simp only [own_encL, List.flatMap_cons, List.length_append, List.length_cons] at *; omega
theorem own_enc_step {ps : List Int32} {i : Nat} (h : i < ps.length) : own_encL (ps.take (i + 1)) = own_encL (ps.take i) ++ own_enc1 (ps.getD i 0) := by
  have e : ps.getD i 0 = ps[i] := by rw [List.getD_eq_getElem?_getD, List.getElem?_eq_getElem h]; rfl
  unfold own_encL
  rw [List.take_succ_eq_append_getElem h, List.flatMap_append, e, List.flatMap_singleton]
theorem own_p1 {b : Int32} (h : b = (47 : Int32)) : own_enc1 b = [(b.toUInt32.toUInt16.toUInt32.toInt32).toInt8.toInt32] := if_pos (by simp [own_isp, h])
theorem own_p2 {b : Int32} (h1 : (0 : Int32) < b) (h2 : ¬ ((own_find own_PL (b.toInt8.toInt32) 0) < (0 : Int32))) : own_enc1 b = [(b.toUInt32.toUInt16.toUInt32.toInt32).toInt8.toInt32] := if_pos (by simp [own_isp, h1, h2])
theorem own_p3 {b : Int32} (h : ¬ (b = (47 : Int32))) (h1 : ¬ ((0 : Int32) < b)) : own_enc1 b = [(37 : Int32).toInt8.toInt32, (own_gb own_HX ((b >>> ((4 : Int32) &&& 31)) &&& (15 : Int32))).toInt8.toInt32, (own_gb own_HX (b &&& (15 : Int32))).toInt8.toInt32] := if_neg (by simp [own_isp, h, h1])
theorem own_p4 {b : Int32} (h : ¬ (b = (47 : Int32))) (h2 : (own_find own_PL (b.toInt8.toInt32) 0) < (0 : Int32)) : own_enc1 b = [(37 : Int32).toInt8.toInt32, (own_gb own_HX ((b >>> ((4 : Int32) &&& 31)) &&& (15 : Int32))).toInt8.toInt32, (own_gb own_HX (b &&& (15 : Int32))).toInt8.toInt32] := if_neg (by simp [own_isp, h, h2])
theorem own_nib (x : Int32) : ¬ ((x &&& (15 : Int32)) < 0) ∧ (x &&& (15 : Int32)) < (16 : Int32) := by
  have e := c_mask x 15 4 (by decide) (by decide)
  rw [Int32.lt_iff_toInt_lt, Int32.lt_iff_toInt_lt, e]
  have h0 : (0 : Int32).toInt = 0 := rfl
  have h1 : (16 : Int32).toInt = 16 := rfl
  omega
theorem own_hx (j : Int32) : ¬ ((255 : Int32) < own_gb own_HX j) := by
  unfold own_gb
  generalize j.toNatClampNeg = n
  by_cases h : n < 16
  · have : ∀ k : Fin 16, ¬ ((255 : Int32) < own_HX.getD k.1 0) := by decide
    exact this ⟨n, h⟩
  · have : own_HX.getD n 0 = 0 := by
      rw [List.getD_eq_getElem?_getD, List.getElem?_eq_none (by show 16 ≤ n; omega)]; rfl
    rw [this]; decide
def own_rng (ps : List Int32) : Prop := ∀ i, -128 ≤ (ps.getD i 0).toInt ∧ (ps.getD i 0).toInt < 128
theorem own_r1 {b : Int32} (h : -128 ≤ b.toInt ∧ b.toInt < 128) : ¬ ((255 : Int32) < b) := by
  rw [Int32.lt_iff_toInt_lt]; have : (255 : Int32).toInt = 255 := rfl; omega
theorem own_r2 {b : Int32} (h1 : (0 : Int32) < b) : ¬ (b < (0 : Int32)) := by
  rw [Int32.lt_iff_toInt_lt] at h1 ⊢; omega
theorem own_r3 {b : Int32} (h : -128 ≤ b.toInt ∧ b.toInt < 128) (h1 : (0 : Int32) < b) : ¬ ((255 : Int32) < (b.toUInt32.toUInt16.toUInt32.toInt32)) := by
  have q := c_i2c b
  rw [Int32.lt_iff_toInt_lt] at h1 ⊢
  have e : (255 : Int32).toInt = 255 := rfl
  have e0 : (0 : Int32).toInt = 0 := rfl
  omega
theorem own_r4 {b : Int32} (h : b = (47 : Int32)) : (0 : Int32) < b := by rw [h]; decide
/-- the constant is booked already, or nothing of it is -/
def own_Ld (Z s : State) (vm : Vm) (h : Heap) : Prop := IB Z vm [] ∨ ∃ (x t : Addr) (k : ClassId), Lit (s.setVm vm) "com/example/birep/birep/rrdp/RsyncBase" 87 x ∧ Exa Z h x "java/lang/String" ∧ Fld Z h x "java/lang/String" "coder" "B" (.int (0 : Int32)) ∧ Fld Z h x "java/lang/String" "value" "[B" (.ref t) ∧ Arv Z h t k .byte (Int32.ofNat own_PL.length) (own_vs own_PL) (.int (0 : Int32))
theorem d1_0 : decode prog_56_method_3_code 0 = .ok (.new 84, 3) := by decide +kernel
theorem d1_3 : decode prog_56_method_3_code 3 = .ok (.dup, 1) := by decide +kernel
theorem d1_4 : decode prog_56_method_3_code 4 = .ok (.invokespecial 86, 3) := by decide +kernel
theorem pd___V : parseMethodDescriptor "()V" = some ⟨[], none⟩ := by decide +kernel
theorem d1_7 : decode prog_56_method_3_code 7 = .ok (.astore_n 1, 1) := by decide +kernel
theorem d1_8 : decode prog_56_method_3_code 8 = .ok (.aload_n 0, 1) := by decide +kernel
theorem d1_9 : decode prog_56_method_3_code 9 = .ok (.astore_n 2, 1) := by decide +kernel
theorem d1_10 : decode prog_56_method_3_code 10 = .ok (.aload_n 2, 1) := by decide +kernel
theorem d1_11 : decode prog_56_method_3_code 11 = .ok (.arraylength, 1) := by decide +kernel
theorem d1_12 : decode prog_56_method_3_code 12 = .ok (.istore_n 3, 1) := by decide +kernel
theorem d1_13 : decode prog_56_method_3_code 13 = .ok (.iconst 0, 1) := by decide +kernel
theorem d1_14 : decode prog_56_method_3_code 14 = .ok (.istore 4, 2) := by decide +kernel
theorem d1_16 : decode prog_56_method_3_code 16 = .ok (.iload 4, 2) := by decide +kernel
theorem d1_18 : decode prog_56_method_3_code 18 = .ok (.iload_n 3, 1) := by decide +kernel
theorem d1_19 : decode prog_56_method_3_code 19 = .ok (.if_icmp .ge 81, 3) := by decide +kernel
theorem d1_100 : decode prog_56_method_3_code 100 = .ok (.aload_n 1, 1) := by decide +kernel
theorem d1_101 : decode prog_56_method_3_code 101 = .ok (.invokevirtual 101, 3) := by decide +kernel
theorem pd___Ljava_lang_String_ : parseMethodDescriptor "()Ljava/lang/String;" = some ⟨[], some (.object "java/lang/String")⟩ := by decide +kernel
theorem d1_104 : decode prog_56_method_3_code 104 = .ok (.areturn, 1) := by decide +kernel
theorem d1_22 : decode prog_56_method_3_code 22 = .ok (.aload_n 2, 1) := by decide +kernel
theorem d1_23 : decode prog_56_method_3_code 23 = .ok (.iload 4, 2) := by decide +kernel
theorem d1_25 : decode prog_56_method_3_code 25 = .ok (.baload, 1) := by decide +kernel
theorem d1_26 : decode prog_56_method_3_code 26 = .ok (.istore 5, 2) := by decide +kernel
theorem d1_28 : decode prog_56_method_3_code 28 = .ok (.iload 5, 2) := by decide +kernel
theorem d1_30 : decode prog_56_method_3_code 30 = .ok (.bipush 47, 2) := by decide +kernel
theorem d1_32 : decode prog_56_method_3_code 32 = .ok (.if_icmp .eq 18, 3) := by decide +kernel
theorem d1_50 : decode prog_56_method_3_code 50 = .ok (.aload_n 1, 1) := by decide +kernel
theorem d1_51 : decode prog_56_method_3_code 51 = .ok (.iload 5, 2) := by decide +kernel
theorem d1_53 : decode prog_56_method_3_code 53 = .ok (.i2c, 1) := by decide +kernel
theorem d1_54 : decode prog_56_method_3_code 54 = .ok (.invokevirtual 93, 3) := by decide +kernel
theorem pd__C_Ljava_lang_StringBuilder_ : parseMethodDescriptor "(C)Ljava/lang/StringBuilder;" = some ⟨[.char], some (.object "java/lang/StringBuilder")⟩ := by decide +kernel
theorem d1_57 : decode prog_56_method_3_code 57 = .ok (.pop, 1) := by decide +kernel
theorem d1_58 : decode prog_56_method_3_code 58 = .ok (.goto 36, 3) := by decide +kernel
theorem d1_94 : decode prog_56_method_3_code 94 = .ok (.iinc 4 1, 3) := by decide +kernel
theorem d1_97 : decode prog_56_method_3_code 97 = .ok (.goto (-81), 3) := by decide +kernel
theorem d1_35 : decode prog_56_method_3_code 35 = .ok (.iload 5, 2) := by decide +kernel
theorem d1_37 : decode prog_56_method_3_code 37 = .ok (.ifCond .le 24, 3) := by decide +kernel
theorem d1_40 : decode prog_56_method_3_code 40 = .ok (.ldc 87, 2) := by decide +kernel
theorem d1_42 : decode prog_56_method_3_code 42 = .ok (.iload 5, 2) := by decide +kernel
theorem d1_44 : decode prog_56_method_3_code 44 = .ok (.invokevirtual 89, 3) := by decide +kernel
theorem pd__I_I : parseMethodDescriptor "(I)I" = some ⟨[.int], some .int⟩ := by decide +kernel
theorem d1_47 : decode prog_56_method_3_code 47 = .ok (.ifCond .lt 14, 3) := by decide +kernel
theorem d1_61 : decode prog_56_method_3_code 61 = .ok (.aload_n 1, 1) := by decide +kernel
theorem d1_62 : decode prog_56_method_3_code 62 = .ok (.bipush 37, 2) := by decide +kernel
theorem d1_64 : decode prog_56_method_3_code 64 = .ok (.invokevirtual 93, 3) := by decide +kernel
theorem d1_67 : decode prog_56_method_3_code 67 = .ok (.getstatic 97, 3) := by decide +kernel
theorem d1_70 : decode prog_56_method_3_code 70 = .ok (.iload 5, 2) := by decide +kernel
theorem d1_72 : decode prog_56_method_3_code 72 = .ok (.iconst 4, 1) := by decide +kernel
theorem d1_73 : decode prog_56_method_3_code 73 = .ok (.ishr, 1) := by decide +kernel
theorem d1_74 : decode prog_56_method_3_code 74 = .ok (.bipush 15, 2) := by decide +kernel
theorem d1_76 : decode prog_56_method_3_code 76 = .ok (.iand, 1) := by decide +kernel
theorem d1_77 : decode prog_56_method_3_code 77 = .ok (.caload, 1) := by decide +kernel
theorem d1_78 : decode prog_56_method_3_code 78 = .ok (.invokevirtual 93, 3) := by decide +kernel
theorem d1_81 : decode prog_56_method_3_code 81 = .ok (.getstatic 97, 3) := by decide +kernel
theorem d1_84 : decode prog_56_method_3_code 84 = .ok (.iload 5, 2) := by decide +kernel
theorem d1_86 : decode prog_56_method_3_code 86 = .ok (.bipush 15, 2) := by decide +kernel
theorem d1_88 : decode prog_56_method_3_code 88 = .ok (.iand, 1) := by decide +kernel
theorem d1_89 : decode prog_56_method_3_code 89 = .ok (.caload, 1) := by decide +kernel
theorem d1_90 : decode prog_56_method_3_code 90 = .ok (.invokevirtual 93, 3) := by decide +kernel
theorem d1_93 : decode prog_56_method_3_code 93 = .ok (.pop, 1) := by decide +kernel
theorem pn_com_example_birep_birep_rrdp_RsyncBase : plainName "com/example/birep/birep/rrdp/RsyncBase" = true := by first | (simp [plainName, overriddenIn]; done) | decide +kernel
theorem ef_rm1 (m : MethodId) (a : Addr) : entryFrame m #[(.ref a)] 6 = mkF m 0 #[.val (.ref a), .unset, .unset, .unset, .unset, .unset] [] := by first | (simp [entryFrame, mkF, argsToLocals, Value.category]; done) | rfl
def Q_rm1 (Z : State) (cz : Int32) (uH : Addr) (kH : ClassId) (ps : List Int32) (ka : ClassId) (a : Addr) (h0 : Heap) (n0 : Nat) (v : Option Value) (h : Heap) (L : List Loc) : Prop := ∃ b1_11 : Addr, ∃ b2_2_6_1_2_11 : Addr, ∃ k2_2_6_1_2_11 : ClassId, v = some (.ref b1_11) ∧ Fr n0 L ∧ Keep h0 h [] ∧ h0.size ≤ b1_11 ∧ h0.size ≤ b2_2_6_1_2_11 ∧ Exa Z h b1_11 "java/lang/String" ∧ Fld Z h b1_11 "java/lang/String" "coder" "B" (.int (0 : Int32)) ∧ Fld Z h b1_11 "java/lang/String" "value" "[B" (.ref b2_2_6_1_2_11) ∧ Arv Z h b2_2_6_1_2_11 k2_2_6_1_2_11 .byte (Int32.ofNat (own_encL ps).length) (own_vs (own_encL ps)) (.int (0 : Int32))
set_option maxRecDepth 65536 in
set_option maxHeartbeats 40000000 in
theorem rm1 (l : Launch) (Z : State) (a0 : Array Value) (hw : ∀ d ∈ tables_1, d.before a0 Z = true) (ws : List Jvm.Cond) (cz : Int32) (uH : Addr) (kH : ClassId) (ps : List Int32) (ka : ClassId) (a : Addr) (h0 : Heap) (n0 : Nat) (O0 : Old Z n0 h0) (S_C : Sta Z Z.heap "java/lang/String" "COMPACT_STRINGS" "Z" (.int cz)) (hcz : ¬ (cz = (0 : Int32))) (S_H : Sta Z Z.heap "com/example/birep/birep/rrdp/RsyncBase" "HEX" "[C" (.ref uH)) (OV_H : Arv Z Z.heap uH kH .char (16 : Int32) (own_vs own_HX) (.int (0 : Int32))) (V_a : Arv Z h0 a ka .byte (Int32.ofNat ps.length) (own_vs ps) (.int (0 : Int32))) (hlen : ps.length ≤ 3) (hrng : own_rng ps) (hheld : Jvm.Lit.constHeld Z "com/example/birep/birep/rrdp/RsyncBase" 87) (hcw : Jvm.Lit.compactW.before a0 Z = true) :
    MetFree l (⟨"com/example/birep/birep/rrdp/RsyncBase", "encoded", "([B)Ljava/lang/String;"⟩ : MethodName) (head1 (Jvm.Cond.code (⟨"com/example/birep/birep/rrdp/RsyncBase", "encoded", "([B)Ljava/lang/String;"⟩ : MethodName) prog_56_method_3_code 6 (some (.object "java/lang/String")) :: ws) ({ frames := 8, cells := 10, slots := 1020, locals := 150 } : Room)) (fun aa_ U => aa_ = #[(.ref a)] ∧ Z.Warmed39 U.vm ∧ U.heap = h0 ∧ IB Z U.vm []) (fun _ _ _ _ _ => True) (fun _ U oo_ U' => ∃ vv_ LL_, oo_ = .returned vv_ ∧ Q_rm1 Z cz uH kH ps ka a h0 n0 vv_ U'.heap LL_ ∧ ReturnedEndW U oo_ U' LL_ ({ frames := 8, cells := 10, slots := 1020, locals := 150 } : Room).cells ({ frames := 8, cells := 10, slots := 1020, locals := 150 } : Room).slots) := by
  refine MetFree.of_bodySF (plainFor_of_name pn_com_example_birep_birep_rrdp_RsyncBase) hisR ?_
  intro p e s m args below meth c s₁ Bd hml0 hP hK
  obtain ⟨rfl, hZ, hh, hIB⟩ := hP
  have hx := Bd.exec
  have hby := Bd.bytes
  have hml : c.maxLocals = 6 := hml0
  have hown : s.vm.findClass "com/example/birep/birep/rrdp/RsyncBase" = some m.cls := findClass_of_methodNamed Bd.named
  have hnm := (name_of_methodNamed Bd.named Bd.method).1
  have X0 : Stand p l e ({ frames := 8, cells := 10, slots := 1020, locals := 150 } : Room) (s.setVm s.vm) m #[(.ref a)] below meth c s₁ [] 0 0 := Stand.of_body Bd
  have e0 : s₁.heap = h0 := by rw [← hh, Bd.state]; rfl
  have N0 := Fr.nil n0
  have K0 : Keep h0 h0 [] := Keep.refl h0 _
  have hS0 : s.Since s.vm 0 := (State.WarmedH.refl s).since 0
  refine own_i fun PP hPP => own_s (fun t k => castTop (ef_rm1 m a) k) ?_
  show Go p.tables e below _ (s₁.setTop (mkF m 0 #[.val (.ref a), .unset, .unset, .unset, .unset, .unset] []))
  obtain ⟨T1, h1, X1, e1, E1, A1, D1, -, st1⟩ := newO X0 hx hZ hown (hw _ (List.mem_of_getElem? (i := 5) rfl)) (hw _ (List.mem_of_getElem? (i := 6) rfl)) (hw _ (List.mem_of_getElem? (i := 7) rfl)) e0 (g := (mkF m 0 #[.val (.ref a), .unset, .unset, .unset, .unset, .unset] [])) rfl (hb hby d1_0) (by decide) (by decide)
  obtain ⟨b1, gg1⟩ : ∃ z, z = h0.size := ⟨_, rfl⟩
  rw [← gg1] at A1 D1 st1
  have g_b1 : n0 ≤ b1 := Nat.le_trans (Nat.le_of_eq O0.1.symm) (Nat.le_trans O0.2.1 (Nat.le_of_eq gg1.symm))
  have sz_b1 : h0.size ≤ b1 := Nat.le_trans K0.1 (Nat.le_of_eq gg1.symm)
  have K1 : Keep h0 h1 [] := K0.ext E1
  have F_value_b1 : Fld Z h1 b1 "java/lang/AbstractStringBuilder" "value" "[B" .null := D1 (Or.inl (hw _ (List.mem_of_getElem? (i := 23) rfl))) (ty := (.array .byte)) (by decide)
  have F_coder_b1 : Fld Z h1 b1 "java/lang/AbstractStringBuilder" "coder" "B" (.int (0 : Int32)) := D1 (Or.inl (hw _ (List.mem_of_getElem? (i := 25) rfl))) (ty := .byte) (by decide)
  have F_count_b1 : Fld Z h1 b1 "java/lang/AbstractStringBuilder" "count" "I" (.int (0 : Int32)) := D1 (Or.inl (hw _ (List.mem_of_getElem? (i := 56) rfl))) (ty := .int) (by decide)
  refine own_s st1 ?_
  show Go p.tables e below _ (T1.setTop (mkF m 3 #[.val (.ref a), .unset, .unset, .unset, .unset, .unset] [(.ref b1)]))
  refine own_s (fun t k => XS.dup X1.here hx rfl (hb hby d1_3) rfl rfl k) ?_
  show Go p.tables e below _ (T1.setTop (mkF m 4 #[.val (.ref a), .unset, .unset, .unset, .unset, .unset] [(.ref b1), (.ref b1)]))
  have O3 : Old Z n0 h1 := (O0.ext E1)
  obtain ⟨_, _, ⟨T2, L2, k2, n2⟩, -, X2, ⟨Lc2, hQ2, l2, y2, z2⟩, st2⟩ := X1.specialBack hx (y := (⟨"java/lang/StringBuilder", "<init>", "()V"⟩ : MethodName)) rfl hown (mvT hZ (hw _ (List.mem_of_getElem? (i := 8) rfl))) (mvT hZ (hw _ (List.mem_of_getElem? (i := 9) rfl))) (mvT hZ (hw _ (List.mem_of_getElem? (i := 10) rfl))) (by decide) (backOf (W := 1) (rm2 l Z a0 hw [] cz b1 .null (.int (0 : Int32)) h1 n0 O3 S_C hcz A1 F_count_b1 F_value_b1 g_b1 F_coder_b1) hZ (hw _ (List.mem_of_getElem? (i := 10) rfl)) (hw _ (List.mem_of_getElem? (i := 7) rfl)) (by decide) (by decide)) (g := (mkF m 4 #[.val (.ref a), .unset, .unset, .unset, .unset, .unset] [(.ref b1), (.ref b1)])) rfl (by rw [hml]; rfl) (Steps.refl _) (a := b1) (argsL := []) (rest := [(.ref b1)]) (lenOf pd___V rfl) rfl (by show 2 * 0 + _ ≤ _; exact Nat.le_of_eq rfl) (hb hby d1_4) (fun _ _ => ⟨rfl, e1, (by decide : 1 + 1 ≤ _), (by decide : 4 + 16 ≤ _)⟩)
  dsimp only [Pt.U, Pt.locs, Pt.cells, Pt.slots] at X2 l2 y2 z2 st2 hQ2
  subst l2 y2 z2
  obtain ⟨b3_1_2, k3_1_2, rfl, N2q, Kc2, bz_b3_1_2, fc2_0, fc2_1, fc2_2, fc2_3⟩ := hQ2
  have g_b3_1_2 : n0 ≤ b3_1_2 := Nat.le_trans (Nat.le_of_eq O3.1.symm) (Nat.le_trans O3.2.1 bz_b3_1_2)
  have sz_b3_1_2 : h0.size ≤ b3_1_2 := Nat.le_trans K1.1 bz_b3_1_2
  have K2 : Keep h0 T2.heap [] := K1.trans Kc2 (allS (Or.inr sz_b1) all0)
  have N2 := Fr.app N0 N2q
  refine own_t st2 ?_
  show Go p.tables e below _ (T2.setTop (mkF m 7 #[.val (.ref a), .unset, .unset, .unset, .unset, .unset] [(.ref b1)]))
  refine own_s (fun t k => XS.astoreN X2.here hx rfl (hb hby d1_7) rfl rfl (l' := #[.val (.ref a), .val (.ref b1), .unset, .unset, .unset, .unset]) rfl k) ?_
  show Go p.tables e below _ (T2.setTop (mkF m 8 #[.val (.ref a), .val (.ref b1), .unset, .unset, .unset, .unset] []))
  refine own_s (fun t k => XS.aloadN X2.here hx rfl (hb hby d1_8) rfl rfl k) ?_
  show Go p.tables e below _ (T2.setTop (mkF m 9 #[.val (.ref a), .val (.ref b1), .unset, .unset, .unset, .unset] [(.ref a)]))
  refine own_s (fun t k => XS.astoreN X2.here hx rfl (hb hby d1_9) rfl rfl (l' := #[.val (.ref a), .val (.ref b1), .val (.ref a), .unset, .unset, .unset]) rfl k) ?_
  show Go p.tables e below _ (T2.setTop (mkF m 10 #[.val (.ref a), .val (.ref b1), .val (.ref a), .unset, .unset, .unset] []))
  refine own_s (fun t k => XS.aloadN X2.here hx rfl (hb hby d1_10) rfl rfl k) ?_
  show Go p.tables e below _ (T2.setTop (mkF m 11 #[.val (.ref a), .val (.ref b1), .val (.ref a), .unset, .unset, .unset] [(.ref a)]))
  have ne4 : a ≠ b1 := Nat.ne_of_lt (Nat.lt_of_lt_of_le V_a.lt (Nat.le_of_eq gg1.symm))
  have V5 : Arv Z T2.heap a ka .byte (Int32.ofNat ps.length) (own_vs ps) (.int (0 : Int32)) := ((V_a.ext E1).keep Kc2 (ninS ne4 nin0))
  obtain ⟨cl6, Ar6, qk6, Sz6, Nn6, Hs6, Gf6⟩ := id V5
  refine own_s (X2.arraylength hx Ar6.1 (State.isArrayOf_alike hZ.alike Ar6.2.1) (g := (mkF m 11 #[.val (.ref a), .val (.ref b1), .val (.ref a), .unset, .unset, .unset] [(.ref a)])) rfl rfl (hb hby d1_11)) ?_
  rw [len_of Sz6 Nn6]
  show Go p.tables e below _ (T2.setTop (mkF m 12 #[.val (.ref a), .val (.ref b1), .val (.ref a), .unset, .unset, .unset] [(.int (Int32.ofNat ps.length))]))
  refine own_s (fun t k => XS.istoreN X2.here hx rfl (hb hby d1_12) rfl (l' := #[.val (.ref a), .val (.ref b1), .val (.ref a), .val (.int (Int32.ofNat ps.length)), .unset, .unset]) rfl k) ?_
  show Go p.tables e below _ (T2.setTop (mkF m 13 #[.val (.ref a), .val (.ref b1), .val (.ref a), .val (.int (Int32.ofNat ps.length)), .unset, .unset] []))
  refine own_s (fun t k => XS.iconst X2.here hx rfl (hb hby d1_13) k) ?_
  show Go p.tables e below _ (T2.setTop (mkF m 14 #[.val (.ref a), .val (.ref b1), .val (.ref a), .val (.int (Int32.ofNat ps.length)), .unset, .unset] [(.int (0 : Int32))]))
  refine own_s (fun t k => XS.istore X2.here hx rfl (hb hby d1_14) rfl (l' := #[.val (.ref a), .val (.ref b1), .val (.ref a), .val (.int (Int32.ofNat ps.length)), .val (.int (0 : Int32)), .unset]) rfl k) ?_
  have Q7 : Exa Z T2.heap b1 "java/lang/StringBuilder" := (A1.keep Kc2)
  have O8 : Old Z n0 T2.heap := (O3.keep Kc2 (allS g_b1 all0))
  have ne9 : a ≠ b3_1_2 := Nat.ne_of_lt (Nat.lt_of_lt_of_le (V_a.ext E1).lt bz_b3_1_2)
  have ne10 : b1 ≠ b3_1_2 := Nat.ne_of_lt (Nat.lt_of_lt_of_le F_value_b1.lt bz_b3_1_2)
  have loop : ∀ (n i : Nat) (T : State) (h : Heap) (locs : List Loc) (vm : Vm) (k0 : Nat) (cs : List Int32) (b5 : Slot), i + n = ps.length → cs = own_encL (ps.take i) → Stand p l e ({ frames := 8, cells := 10, slots := 1020, locals := 150 } : Room) (s.setVm vm) m #[.ref a] below meth c T locs (2 + 2 * i) (20 + 324 * i) → T.heap = h → s.Since vm k0 → k0 ≤ h.size → Z.Warmed39 (s.setVm vm).vm → (s.setVm vm).vm.findClass "com/example/birep/birep/rrdp/RsyncBase" = some m.cls → Fr n0 locs → Keep h0 h [] → Old Z n0 h → Exa Z h b1 "java/lang/StringBuilder" → Fld Z h b1 "java/lang/AbstractStringBuilder" "value" "[B" (.ref b3_1_2) → Fld Z h b1 "java/lang/AbstractStringBuilder" "coder" "B" (.int (0 : Int32)) → Fld Z h b1 "java/lang/AbstractStringBuilder" "count" "I" (.int (Int32.ofNat cs.length)) → Arv Z h b3_1_2 k3_1_2 .byte (16 : Int32) (own_pad cs) (.int (0 : Int32)) → Arv Z h a ka .byte (Int32.ofNat ps.length) (own_vs ps) (.int (0 : Int32)) → own_Ld Z s vm h → One b5 → Go p.tables e below PP (T.setTop (mkF m 16 #[.val (.ref a), .val (.ref b1), .val (.ref a), .val (.int (Int32.ofNat ps.length)), .val (.int (Int32.ofNat i)), b5] [])) := by
    intro n
    induction n with
    | zero =>
      intro i T h locs vm k0 cs b5 hi hcs X eT hS hk hZv hov N K O E Fv Fc Fn Vb Va hLd hb5
      have hcs' : cs = own_encL ps := by rw [hcs, List.take_of_length_le (by omega)]
      subst hcs'
      have hcl : (own_encL ps).length ≤ 9 := Nat.le_trans (own_encL_len ps) (by omega)
      show Go p.tables e below _ (T.setTop (mkF m 16 #[.val (.ref a), .val (.ref b1), .val (.ref a), .val (.int (Int32.ofNat ps.length)), .val (.int (Int32.ofNat i)), b5] []))
      refine own_s (fun t k => XS.iload X.here hx rfl (hb hby d1_16) rfl k) ?_
      show Go p.tables e below _ (T.setTop (mkF m 18 #[.val (.ref a), .val (.ref b1), .val (.ref a), .val (.int (Int32.ofNat ps.length)), .val (.int (Int32.ofNat i)), b5] [(.int (Int32.ofNat i))]))
      refine own_s (fun t k => XS.iloadN X.here hx rfl (hb hby d1_18) rfl k) ?_
      show Go p.tables e below _ (T.setTop (mkF m 19 #[.val (.ref a), .val (.ref b1), .val (.ref a), .val (.int (Int32.ofNat ps.length)), .val (.int (Int32.ofNat i)), b5] [(.int (Int32.ofNat ps.length)), (.int (Int32.ofNat i))]))
      refine own_s (fun t k => XS.icmpYes X.here hx rfl (pc0 := 19) (pc' := 100) rfl (hb hby d1_19) rfl (flt (own_nlt (by omega) (by omega))).2.1 (by decide) (by decide) k) ?_
      show Go p.tables e below _ (T.setTop (mkF m 100 #[.val (.ref a), .val (.ref b1), .val (.ref a), .val (.int (Int32.ofNat ps.length)), .val (.int (Int32.ofNat i)), b5] []))
      refine own_s (fun t k => XS.aloadN X.here hx rfl (hb hby d1_100) rfl rfl k) ?_
      show Go p.tables e below _ (T.setTop (mkF m 101 #[.val (.ref a), .val (.ref b1), .val (.ref a), .val (.int (Int32.ofNat ps.length)), .val (.int (Int32.ofNat i)), b5] [(.ref b1)]))
      obtain ⟨cq11, kq11, q11a, q11b, q11c⟩ := isOf hZv eT E
      obtain ⟨_, _, ⟨T11, L11, k11, n11⟩, -, X11, ⟨Lc11, hQ11, l11, y11, z11⟩, st11⟩ := X.virtualBack hx (y := (⟨"java/lang/StringBuilder", "toString", "()Ljava/lang/String;"⟩ : MethodName)) (z := (⟨"java/lang/StringBuilder", "toString", "()Ljava/lang/String;"⟩ : MethodName)) hov (mvT hZv (hw _ (List.mem_of_getElem? (i := 26) rfl))) (mvT hZv (hw _ (List.mem_of_getElem? (i := 27) rfl))) (notFace_of_selects (args := #[]) (mvT hZv (hw _ (List.mem_of_getElem? (i := 29) rfl)))) (mvT hZv (hw _ (List.mem_of_getElem? (i := 29) rfl))) (mvT hZv (hw _ (List.mem_of_getElem? (i := 28) rfl))) (by decide) (backOf (W := 0) (rm5 l Z a0 hw [] cz b3_1_2 k3_1_2 (own_encL ps) b1 h n0 O S_C hcz (by omega) Vb Fv Fc Fn E) hZv (hw _ (List.mem_of_getElem? (i := 30) rfl)) (hw _ (List.mem_of_getElem? (i := 7) rfl)) (by decide) (by decide)) q11a q11c (g := (mkF m 101 #[.val (.ref a), .val (.ref b1), .val (.ref a), .val (.int (Int32.ofNat ps.length)), .val (.int (Int32.ofNat i)), b5] [(.ref b1)])) rfl (by rw [hml]; rfl) (Steps.refl _) (argsL := []) (rest := []) (lenOf pd___Ljava_lang_String_ rfl) rfl (by show 2 * 0 + _ ≤ _; exact Nat.le_of_eq rfl) (hb hby d1_101) (fun _ _ => ⟨rfl, eT, (by show 2 + 2 * i + 2 ≤ 10; omega), (by show 20 + 324 * i + 20 ≤ 1020; omega)⟩)
      dsimp only [Pt.U, Pt.locs, Pt.cells, Pt.slots] at X11 l11 y11 z11 st11 hQ11
      subst l11 y11 z11
      obtain ⟨b1_11, b2_2_6_1_2_11, k2_2_6_1_2_11, rfl, N11q, Kc11, bz_b1_11, bz_b2_2_6_1_2_11, fc11_0, fc11_1, fc11_2, fc11_3⟩ := hQ11
      have g_b1_11 : n0 ≤ b1_11 := Nat.le_trans (Nat.le_of_eq O.1.symm) (Nat.le_trans O.2.1 bz_b1_11)
      have sz_b1_11 : h0.size ≤ b1_11 := Nat.le_trans K.1 bz_b1_11
      have g_b2_2_6_1_2_11 : n0 ≤ b2_2_6_1_2_11 := Nat.le_trans (Nat.le_of_eq O.1.symm) (Nat.le_trans O.2.1 bz_b2_2_6_1_2_11)
      have sz_b2_2_6_1_2_11 : h0.size ≤ b2_2_6_1_2_11 := Nat.le_trans K.1 bz_b2_2_6_1_2_11
      have K11 : Keep h0 T11.heap [] := K.trans Kc11 all0
      have N11 := Fr.app N N11q
      refine own_t st11 ?_
      show Go p.tables e below _ (T11.setTop (mkF m 104 #[.val (.ref a), .val (.ref b1), .val (.ref a), .val (.int (Int32.ofNat ps.length)), .val (.int (Int32.ofNat i)), b5] [(.ref b1_11)]))
      obtain ⟨fs, hr, hrun, hended, hEnd⟩ := X11.leaveW hS (show _ ≤ T11.heap.size from (Nat.le_trans hk Kc11.1)) (v := (some (.ref b1_11))) (fun h => by first | rfl | (rw [Bd.returns] at h; cases h))
      refine own_e hPP ?_ hrun hended ⟨_, _, rfl, ?_, hEnd.1, hEnd.2.1, hEnd.2.2.1, hEnd.2.2.2.mono (by show 2 + 2 * i + 2 ≤ 10; omega) (by show 20 + 324 * i + 20 ≤ 1020; omega)⟩
      · exact retOut X11 hx Bd.returns rfl (Or.inr (Or.inr (Or.inr (Or.inr ⟨rfl, rfl, rfl⟩)))) (hb hby d1_104) hr
      · show Q_rm1 Z cz uH kH ps ka a h0 n0 _ T11.heap _
        exact ⟨b1_11, b2_2_6_1_2_11, k2_2_6_1_2_11, rfl, N11, K11, sz_b1_11, sz_b2_2_6_1_2_11, fc11_0, fc11_1, fc11_2, fc11_3⟩
    | succ n ih =>
      intro i T h locs vm k0 cs b5 hi hcs X eT hS hk hZv hov N K O E Fv Fc Fn Vb Va hLd hb5
      have hcl : cs.length ≤ 6 := by rw [hcs]; have q := own_encL_len (ps.take i); rw [List.length_take] at q; omega
      have hbr := hrng i
      rcases hLd with hI | ⟨x, t, kx, hL, Ex, Fxc, Fxv, Vx⟩
      ·
        show Go p.tables e below _ (T.setTop (mkF m 16 #[.val (.ref a), .val (.ref b1), .val (.ref a), .val (.int (Int32.ofNat ps.length)), .val (.int (Int32.ofNat i)), b5] []))
        refine own_s (fun t k => XS.iload X.here hx rfl (hb hby d1_16) rfl k) ?_
        show Go p.tables e below _ (T.setTop (mkF m 18 #[.val (.ref a), .val (.ref b1), .val (.ref a), .val (.int (Int32.ofNat ps.length)), .val (.int (Int32.ofNat i)), b5] [(.int (Int32.ofNat i))]))
        refine own_s (fun t k => XS.iloadN X.here hx rfl (hb hby d1_18) rfl k) ?_
        show Go p.tables e below _ (T.setTop (mkF m 19 #[.val (.ref a), .val (.ref b1), .val (.ref a), .val (.int (Int32.ofNat ps.length)), .val (.int (Int32.ofNat i)), b5] [(.int (Int32.ofNat ps.length)), (.int (Int32.ofNat i))]))
        refine own_s (fun t k => XS.icmpNo X.here hx rfl (hb hby d1_19) rfl (tlt (own_ltn (by omega) (by omega))).2.1 k) ?_
        show Go p.tables e below _ (T.setTop (mkF m 22 #[.val (.ref a), .val (.ref b1), .val (.ref a), .val (.int (Int32.ofNat ps.length)), .val (.int (Int32.ofNat i)), b5] []))
        refine own_s (fun t k => XS.aloadN X.here hx rfl (hb hby d1_22) rfl rfl k) ?_
        show Go p.tables e below _ (T.setTop (mkF m 23 #[.val (.ref a), .val (.ref b1), .val (.ref a), .val (.int (Int32.ofNat ps.length)), .val (.int (Int32.ofNat i)), b5] [(.ref a)]))
        refine own_s (fun t k => XS.iload X.here hx rfl (hb hby d1_23) rfl k) ?_
        show Go p.tables e below _ (T.setTop (mkF m 25 #[.val (.ref a), .val (.ref b1), .val (.ref a), .val (.int (Int32.ofNat ps.length)), .val (.int (Int32.ofNat i)), b5] [(.int (Int32.ofNat i)), (.ref a)]))
        obtain ⟨cl12, Ar12, qk12, Sz12, Nn12, Hs12, Gf12⟩ := id Va
        have hin12 : ¬ ((Int32.ofNat i) < 0 ∨ cl12.slots.size ≤ ((Int32.ofNat i)).toNatClampNeg) := inb_of Sz12 ⟨own_nn (by omega), own_ltn (by omega) (by omega)⟩
        have hat12 : cl12.slots[((Int32.ofNat i)).toNatClampNeg]? = some (.int (ps.getD i 0)) := Has.at Hs12 hin12 (by rw [own_tn (by omega)]; exact own_vs_get _ _)
        refine own_s (X.baloadBytes hx (j := (Int32.ofNat i)) (v := (.int (ps.getD i 0))) (by rw [eT]; exact Ar12.1) (State.isArrayOf_alike hZv.alike Ar12.2.1) Ar12.2.2 hin12 hat12 (g := (mkF m 25 #[.val (.ref a), .val (.ref b1), .val (.ref a), .val (.int (Int32.ofNat ps.length)), .val (.int (Int32.ofNat i)), b5] [(.int (Int32.ofNat i)), (.ref a)])) rfl rfl (hb hby d1_25)) ?_
        show Go p.tables e below _ (T.setTop (mkF m 26 #[.val (.ref a), .val (.ref b1), .val (.ref a), .val (.int (Int32.ofNat ps.length)), .val (.int (Int32.ofNat i)), b5] [(.int (ps.getD i 0))]))
        refine own_s (fun t k => XS.istoreS X.here hx rfl (hb hby d1_26) rfl (o := b5) rfl hb5 k) ?_
        show Go p.tables e below _ (T.setTop (mkF m 28 #[.val (.ref a), .val (.ref b1), .val (.ref a), .val (.int (Int32.ofNat ps.length)), .val (.int (Int32.ofNat i)), .val (.int (ps.getD i 0))] []))
        refine own_s (fun t k => XS.iload X.here hx rfl (hb hby d1_28) rfl k) ?_
        show Go p.tables e below _ (T.setTop (mkF m 30 #[.val (.ref a), .val (.ref b1), .val (.ref a), .val (.int (Int32.ofNat ps.length)), .val (.int (Int32.ofNat i)), .val (.int (ps.getD i 0))] [(.int (ps.getD i 0))]))
        refine own_s (fun t k => XS.bipush X.here hx rfl (hb hby d1_30) k) ?_
        show Go p.tables e below _ (T.setTop (mkF m 32 #[.val (.ref a), .val (.ref b1), .val (.ref a), .val (.int (Int32.ofNat ps.length)), .val (.int (Int32.ofNat i)), .val (.int (ps.getD i 0))] [(.int (47 : Int32)), (.int (ps.getD i 0))]))
        by_cases hc13 : (ps.getD i 0) = (47 : Int32)
        ·
          refine own_s (fun t k => XS.icmpYes X.here hx rfl (pc0 := 32) (pc' := 50) rfl (hb hby d1_32) rfl (teq hc13).1 (by decide) (by decide) k) ?_
          show Go p.tables e below _ (T.setTop (mkF m 50 #[.val (.ref a), .val (.ref b1), .val (.ref a), .val (.int (Int32.ofNat ps.length)), .val (.int (Int32.ofNat i)), .val (.int (ps.getD i 0))] []))
          refine own_s (fun t k => XS.aloadN X.here hx rfl (hb hby d1_50) rfl rfl k) ?_
          show Go p.tables e below _ (T.setTop (mkF m 51 #[.val (.ref a), .val (.ref b1), .val (.ref a), .val (.int (Int32.ofNat ps.length)), .val (.int (Int32.ofNat i)), .val (.int (ps.getD i 0))] [(.ref b1)]))
          refine own_s (fun t k => XS.iload X.here hx rfl (hb hby d1_51) rfl k) ?_
          show Go p.tables e below _ (T.setTop (mkF m 53 #[.val (.ref a), .val (.ref b1), .val (.ref a), .val (.int (Int32.ofNat ps.length)), .val (.int (Int32.ofNat i)), .val (.int (ps.getD i 0))] [(.int (ps.getD i 0)), (.ref b1)]))
          refine own_s (fun t k => XS.i2c X.here hx rfl (hb hby d1_53) rfl k) ?_
          show Go p.tables e below _ (T.setTop (mkF m 54 #[.val (.ref a), .val (.ref b1), .val (.ref a), .val (.int (Int32.ofNat ps.length)), .val (.int (Int32.ofNat i)), .val (.int (ps.getD i 0))] [(.int ((ps.getD i 0).toUInt32.toUInt16.toUInt32.toInt32)), (.ref b1)]))
          obtain ⟨cq14, kq14, q14a, q14b, q14c⟩ := isOf hZv eT E
          obtain ⟨_, _, ⟨T14, L14, k14, n14⟩, -, X14, ⟨Lc14, hQ14, l14, y14, z14⟩, st14⟩ := X.virtualBack hx (y := (⟨"java/lang/StringBuilder", "append", "(C)Ljava/lang/StringBuilder;"⟩ : MethodName)) (z := (⟨"java/lang/StringBuilder", "append", "(C)Ljava/lang/StringBuilder;"⟩ : MethodName)) hov (mvT hZv (hw _ (List.mem_of_getElem? (i := 95) rfl))) (mvT hZv (hw _ (List.mem_of_getElem? (i := 96) rfl))) (notFace_of_selects (args := #[]) (mvT hZv (hw _ (List.mem_of_getElem? (i := 98) rfl)))) (mvT hZv (hw _ (List.mem_of_getElem? (i := 98) rfl))) (mvT hZv (hw _ (List.mem_of_getElem? (i := 97) rfl))) (by decide) (backOf (W := 0) (rm18 l Z a0 hw [] b3_1_2 k3_1_2 cs cz b1 ((ps.getD i 0).toUInt32.toUInt16.toUInt32.toInt32) h n0 O S_C hcz E Fv Fc Fn Vb (by first | omega | (simp only [List.length_append, List.length_singleton]; omega)) (own_r3 hbr (own_r4 hc13)) g_b1 g_b3_1_2 ne10) hZv (hw _ (List.mem_of_getElem? (i := 99) rfl)) (hw _ (List.mem_of_getElem? (i := 7) rfl)) (by decide) (by decide)) q14a q14c (g := (mkF m 54 #[.val (.ref a), .val (.ref b1), .val (.ref a), .val (.int (Int32.ofNat ps.length)), .val (.int (Int32.ofNat i)), .val (.int (ps.getD i 0))] [(.int ((ps.getD i 0).toUInt32.toUInt16.toUInt32.toInt32)), (.ref b1)])) rfl (by rw [hml]; rfl) (Steps.refl _) (argsL := [(.int ((ps.getD i 0).toUInt32.toUInt16.toUInt32.toInt32))]) (rest := []) (lenOf pd__C_Ljava_lang_StringBuilder_ rfl) rfl (by show 2 * 0 + _ ≤ _; exact Nat.le_of_eq rfl) (hb hby d1_54) (fun _ _ => ⟨rfl, eT, (by show 2 + 2 * i + 0 ≤ 10; omega), (by show 20 + 324 * i + 0 ≤ 1020; omega)⟩)
          dsimp only [Pt.U, Pt.locs, Pt.cells, Pt.slots] at X14 l14 y14 z14 st14 hQ14
          subst l14 y14 z14
          obtain ⟨rfl, N14q, Kc14, fc14_0, fc14_1, fc14_2, fc14_3⟩ := hQ14
          have K14 : Keep h0 T14.heap [] := K.trans Kc14 (allS (Or.inr sz_b1) (allS (Or.inr sz_b3_1_2) all0))
          have N14 := Fr.app N N14q
          refine own_t st14 ?_
          show Go p.tables e below _ (T14.setTop (mkF m 57 #[.val (.ref a), .val (.ref b1), .val (.ref a), .val (.int (Int32.ofNat ps.length)), .val (.int (Int32.ofNat i)), .val (.int (ps.getD i 0))] [(.ref b1)]))
          refine own_s (fun t k => XS.pop X14.here hx rfl (hb hby d1_57) rfl rfl k) ?_
          show Go p.tables e below _ (T14.setTop (mkF m 58 #[.val (.ref a), .val (.ref b1), .val (.ref a), .val (.int (Int32.ofNat ps.length)), .val (.int (Int32.ofNat i)), .val (.int (ps.getD i 0))] []))
          refine own_s (fun t k => XS.goto X14.here hx rfl (pc0 := 58) (pc' := 94) rfl (hb hby d1_58) (by decide) (by decide) k) ?_
          show Go p.tables e below _ (T14.setTop (mkF m 94 #[.val (.ref a), .val (.ref b1), .val (.ref a), .val (.int (Int32.ofNat ps.length)), .val (.int (Int32.ofNat i)), .val (.int (ps.getD i 0))] []))
          refine own_s (fun t k => XS.iinc X14.here hx rfl (hb hby d1_94) rfl (l' := #[.val (.ref a), .val (.ref b1), .val (.ref a), .val (.int (Int32.ofNat ps.length)), .val (.int ((Int32.ofNat i) + (1 : Int32))), .val (.int (ps.getD i 0))]) rfl k) ?_
          show Go p.tables e below _ (T14.setTop (mkF m 97 #[.val (.ref a), .val (.ref b1), .val (.ref a), .val (.int (Int32.ofNat ps.length)), .val (.int ((Int32.ofNat i) + (1 : Int32))), .val (.int (ps.getD i 0))] []))
          refine own_s (fun t k => XS.goto X14.here hx rfl (pc0 := 97) (pc' := 16) rfl (hb hby d1_97) (by decide) (by decide) k) ?_
          show Go p.tables e below _ (T14.setTop (mkF m 16 #[.val (.ref a), .val (.ref b1), .val (.ref a), .val (.int (Int32.ofNat ps.length)), .val (.int ((Int32.ofNat i) + (1 : Int32))), .val (.int (ps.getD i 0))] []))
          rw [own_succ (by omega)]
          have Q15 : Exa Z T14.heap b1 "java/lang/StringBuilder" := (E.keep Kc14)
          have V16 : Arv Z T14.heap a ka .byte (Int32.ofNat ps.length) (own_vs ps) (.int (0 : Int32)) := (Va.keep Kc14 (ninS ne4 (ninS ne9 nin0)))
          have O17 : Old Z n0 T14.heap := (O.keep Kc14 (allS g_b1 (allS g_b3_1_2 all0)))
          exact ih (i + 1) T14 T14.heap _ vm _ (cs ++ [((ps.getD i 0).toUInt32.toUInt16.toUInt32.toInt32).toInt8.toInt32]) (.val (.int (ps.getD i 0))) (by omega) (by rw [own_enc_step (by omega), ← hcs, (own_p1 hc13)]; try simp only [List.append_assoc, List.cons_append, List.nil_append]) (X14.more (by show 2 + 2 * i + 0 ≤ 2 + 2 * (i + 1); omega) (by show 20 + 324 * i + 0 ≤ 20 + 324 * (i + 1); omega)) rfl hS (Nat.le_trans hk Kc14.1) hZv hov N14 K14 O17 Q15 fc14_0 fc14_1 fc14_2 fc14_3 V16 (Or.inl hI) (One.val rfl)
        ·
          refine own_s (fun t k => XS.icmpNo X.here hx rfl (hb hby d1_32) rfl (feq hc13).1 k) ?_
          show Go p.tables e below _ (T.setTop (mkF m 35 #[.val (.ref a), .val (.ref b1), .val (.ref a), .val (.int (Int32.ofNat ps.length)), .val (.int (Int32.ofNat i)), .val (.int (ps.getD i 0))] []))
          refine own_s (fun t k => XS.iload X.here hx rfl (hb hby d1_35) rfl k) ?_
          show Go p.tables e below _ (T.setTop (mkF m 37 #[.val (.ref a), .val (.ref b1), .val (.ref a), .val (.int (Int32.ofNat ps.length)), .val (.int (Int32.ofNat i)), .val (.int (ps.getD i 0))] [(.int (ps.getD i 0))]))
          by_cases hc18 : (0 : Int32) < (ps.getD i 0)
          ·
            refine own_s (fun t k => XS.ifNo X.here hx rfl (hb hby d1_37) rfl ((if0 _ _).trans (tlt hc18).2.2.2) k) ?_
            show Go p.tables e below _ (T.setTop (mkF m 40 #[.val (.ref a), .val (.ref b1), .val (.ref a), .val (.int (Int32.ofNat ps.length)), .val (.int (Int32.ofNat i)), .val (.int (ps.getD i 0))] []))
            have Xc19 := own_clear X (fun u cl q => by rw [eT]; exact K.2.1 u cl (by rw [← hh]; exact q) (fun z => nomatch z))
            obtain ⟨x, T19, h19, k19, t, kx, X19, e19, E19, hS19, hk19, hZ19, hown19, Ex, Fxc, Fxv, Vx, -, -, -, hL, st19⟩ := ldcSVL (Ts := []) Xc19 hx hZv hov (hw _ (List.mem_of_getElem? (i := 150) rfl)) (own_sa hw) eT hS hk (Fr.nil _) (fun u cl q => by show s.heap[u]? = some cl; rw [hh]; exact O0.2.2 u cl q) hI (fun z => nomatch z) hheld hcw (vs := own_vs own_PL) (z := (Int32.ofNat own_PL.length)) ⟨by decide, by decide⟩ (by decide) rfl (g := (mkF m 40 #[.val (.ref a), .val (.ref b1), .val (.ref a), .val (.int (Int32.ofNat ps.length)), .val (.int (Int32.ofNat i)), .val (.int (ps.getD i 0))] [])) rfl (hb hby d1_40) (n := 320) (by decide) (by decide) (by show 2 + 2 * i + 2 ≤ 10; omega) (by show 20 + 324 * i + 324 ≤ 1020; omega)
            refine own_s st19 ?_
            have K19 : Keep h0 h19 [] := K.ext E19
            have ne20 : t ≠ b3_1_2 := own_neA Vx (Vb.ext E19) (by decide)
            have ne21 : b1 ≠ t := Exa.neArv (E.ext E19) Vx (hw _ (List.mem_of_getElem? (i := 6) rfl))
            have ne22 : x ≠ b3_1_2 := Exa.neArv Ex (Vb.ext E19) (hw _ (List.mem_of_getElem? (i := 32) rfl))
            have Q24 : Exa Z h19 b1 "java/lang/StringBuilder" := (E.ext E19)
            have ne23 : x ≠ b1 := ne_exa Ex Q24 (by decide)
            show Go p.tables e below _ (T19.setTop (mkF m 42 #[.val (.ref a), .val (.ref b1), .val (.ref a), .val (.int (Int32.ofNat ps.length)), .val (.int (Int32.ofNat i)), .val (.int (ps.getD i 0))] [(.ref x)]))
            refine own_s (fun t k => XS.iload X19.here hx rfl (hb hby d1_42) rfl k) ?_
            show Go p.tables e below _ (T19.setTop (mkF m 44 #[.val (.ref a), .val (.ref b1), .val (.ref a), .val (.int (Int32.ofNat ps.length)), .val (.int (Int32.ofNat i)), .val (.int (ps.getD i 0))] [(.int (ps.getD i 0)), (.ref x)]))
            have O26 : Old Z n0 h19 := (O.ext E19)
            obtain ⟨cq25, kq25, q25a, q25b, q25c⟩ := isOf hZ19 e19 Ex
            obtain ⟨_, _, ⟨T25, L25, k25, n25⟩, -, X25, ⟨Lc25, hQ25, l25, y25, z25⟩, st25⟩ := X19.virtualBack hx (y := (⟨"java/lang/String", "indexOf", "(I)I"⟩ : MethodName)) (z := (⟨"java/lang/String", "indexOf", "(I)I"⟩ : MethodName)) hown19 (mvT hZ19 (hw _ (List.mem_of_getElem? (i := 153) rfl))) (mvT hZ19 (hw _ (List.mem_of_getElem? (i := 154) rfl))) (notFace_of_selects (args := #[]) (mvT hZ19 (hw _ (List.mem_of_getElem? (i := 156) rfl)))) (mvT hZ19 (hw _ (List.mem_of_getElem? (i := 156) rfl))) (mvT hZ19 (hw _ (List.mem_of_getElem? (i := 155) rfl))) (by decide) (backOf (W := 0) (rm31 l Z a0 hw [] cz own_PL t kx x (ps.getD i 0) h19 n0 O26 S_C hcz (by decide) (own_r2 hc18) (own_r1 hbr) (by decide) Fxv Fxc Ex Vx) hZ19 (hw _ (List.mem_of_getElem? (i := 157) rfl)) (hw _ (List.mem_of_getElem? (i := 21) rfl)) (by decide) (by decide)) q25a q25c (g := (mkF m 44 #[.val (.ref a), .val (.ref b1), .val (.ref a), .val (.int (Int32.ofNat ps.length)), .val (.int (Int32.ofNat i)), .val (.int (ps.getD i 0))] [(.int (ps.getD i 0)), (.ref x)])) rfl (by rw [hml]; rfl) (Steps.refl _) (argsL := [(.int (ps.getD i 0))]) (rest := []) (lenOf pd__I_I rfl) rfl (by show 2 * 0 + _ ≤ _; exact Nat.le_of_eq rfl) (hb hby d1_44) (fun _ _ => ⟨rfl, e19, (by show 2 + 2 * i + 2 + 0 ≤ 10; omega), (by show 20 + 324 * i + 324 + 0 ≤ 1020; omega)⟩)
            dsimp only [Pt.U, Pt.locs, Pt.cells, Pt.slots] at X25 l25 y25 z25 st25 hQ25
            subst l25 y25 z25
            obtain ⟨rfl, N25q, eq25⟩ := hQ25
            have N25 := Fr.app (Fr.nil n0) N25q
            refine own_t st25 ?_
            show Go p.tables e below _ (T25.setTop (mkF m 47 #[.val (.ref a), .val (.ref b1), .val (.ref a), .val (.int (Int32.ofNat ps.length)), .val (.int (Int32.ofNat i)), .val (.int (ps.getD i 0))] [(.int (own_find own_PL ((ps.getD i 0).toInt8.toInt32) 0))]))
            by_cases hc27 : (own_find own_PL ((ps.getD i 0).toInt8.toInt32) 0) < (0 : Int32)
            ·
              refine own_s (fun t k => XS.ifYes X25.here hx rfl (pc0 := 47) (pc' := 61) rfl (hb hby d1_47) rfl ((if0 _ _).trans (tlt hc27).1) (by decide) (by decide) k) ?_
              show Go p.tables e below _ (T25.setTop (mkF m 61 #[.val (.ref a), .val (.ref b1), .val (.ref a), .val (.int (Int32.ofNat ps.length)), .val (.int (Int32.ofNat i)), .val (.int (ps.getD i 0))] []))
              refine own_s (fun t k => XS.aloadN X25.here hx rfl (hb hby d1_61) rfl rfl k) ?_
              show Go p.tables e below _ (T25.setTop (mkF m 62 #[.val (.ref a), .val (.ref b1), .val (.ref a), .val (.int (Int32.ofNat ps.length)), .val (.int (Int32.ofNat i)), .val (.int (ps.getD i 0))] [(.ref b1)]))
              refine own_s (fun t k => XS.bipush X25.here hx rfl (hb hby d1_62) k) ?_
              show Go p.tables e below _ (T25.setTop (mkF m 64 #[.val (.ref a), .val (.ref b1), .val (.ref a), .val (.int (Int32.ofNat ps.length)), .val (.int (Int32.ofNat i)), .val (.int (ps.getD i 0))] [(.int (37 : Int32)), (.ref b1)]))
              have F29 : Fld Z h19 b1 "java/lang/AbstractStringBuilder" "value" "[B" (.ref b3_1_2) := (Fv.ext E19)
              have F30 : Fld Z h19 b1 "java/lang/AbstractStringBuilder" "coder" "B" (.int (0 : Int32)) := (Fc.ext E19)
              have F31 : Fld Z h19 b1 "java/lang/AbstractStringBuilder" "count" "I" (.int (Int32.ofNat cs.length)) := (Fn.ext E19)
              have V32 : Arv Z h19 b3_1_2 k3_1_2 .byte (16 : Int32) (own_pad cs) (.int (0 : Int32)) := (Vb.ext E19)
              obtain ⟨cq28, kq28, q28a, q28b, q28c⟩ := isOf hZ19 eq25 Q24
              obtain ⟨_, _, ⟨T28, L28, k28, n28⟩, -, X28, ⟨Lc28, hQ28, l28, y28, z28⟩, st28⟩ := X25.virtualBack hx (y := (⟨"java/lang/StringBuilder", "append", "(C)Ljava/lang/StringBuilder;"⟩ : MethodName)) (z := (⟨"java/lang/StringBuilder", "append", "(C)Ljava/lang/StringBuilder;"⟩ : MethodName)) hown19 (mvT hZ19 (hw _ (List.mem_of_getElem? (i := 95) rfl))) (mvT hZ19 (hw _ (List.mem_of_getElem? (i := 96) rfl))) (notFace_of_selects (args := #[]) (mvT hZ19 (hw _ (List.mem_of_getElem? (i := 98) rfl)))) (mvT hZ19 (hw _ (List.mem_of_getElem? (i := 98) rfl))) (mvT hZ19 (hw _ (List.mem_of_getElem? (i := 97) rfl))) (by decide) (backOf (W := 0) (rm18 l Z a0 hw [] b3_1_2 k3_1_2 cs cz b1 (37 : Int32) h19 n0 O26 S_C hcz Q24 F29 F30 F31 V32 (by first | omega | (simp only [List.length_append, List.length_singleton]; omega)) (by decide) g_b1 g_b3_1_2 ne10) hZ19 (hw _ (List.mem_of_getElem? (i := 99) rfl)) (hw _ (List.mem_of_getElem? (i := 7) rfl)) (by decide) (by decide)) q28a q28c (g := (mkF m 64 #[.val (.ref a), .val (.ref b1), .val (.ref a), .val (.int (Int32.ofNat ps.length)), .val (.int (Int32.ofNat i)), .val (.int (ps.getD i 0))] [(.int (37 : Int32)), (.ref b1)])) rfl (by rw [hml]; rfl) (Steps.refl _) (argsL := [(.int (37 : Int32))]) (rest := []) (lenOf pd__C_Ljava_lang_StringBuilder_ rfl) rfl (by show 2 * 0 + _ ≤ _; exact Nat.le_of_eq rfl) (hb hby d1_64) (fun _ _ => ⟨rfl, eq25, (by show 2 + 2 * i + 2 + 0 ≤ 10; omega), (by show 20 + 324 * i + 324 + 0 ≤ 1020; omega)⟩)
              dsimp only [Pt.U, Pt.locs, Pt.cells, Pt.slots] at X28 l28 y28 z28 st28 hQ28
              subst l28 y28 z28
              obtain ⟨rfl, N28q, Kc28, fc28_0, fc28_1, fc28_2, fc28_3⟩ := hQ28
              have K28 : Keep h0 T28.heap [] := K19.trans Kc28 (allS (Or.inr sz_b1) (allS (Or.inr sz_b3_1_2) all0))
              have N28 := Fr.app N25 N28q
              refine own_t st28 ?_
              show Go p.tables e below _ (T28.setTop (mkF m 67 #[.val (.ref a), .val (.ref b1), .val (.ref a), .val (.int (Int32.ofNat ps.length)), .val (.int (Int32.ofNat i)), .val (.int (ps.getD i 0))] [(.ref b1)]))
              have O33 : Old Z n0 T28.heap := (O26.keep Kc28 (allS g_b1 (allS g_b3_1_2 all0)))
              obtain ⟨T34, X34, e34, st34⟩ := getS2 X28 hx hZ19 hown19 (host := "") (Or.inl (hw _ (List.mem_of_getElem? (i := 114) rfl))) Via.refl rfl (S_H.ext O33.2) (g := (mkF m 67 #[.val (.ref a), .val (.ref b1), .val (.ref a), .val (.int (Int32.ofNat ps.length)), .val (.int (Int32.ofNat i)), .val (.int (ps.getD i 0))] [(.ref b1)])) rfl (hb hby d1_67)
              refine own_s st34 ?_
              show Go p.tables e below _ (T34.setTop (mkF m 70 #[.val (.ref a), .val (.ref b1), .val (.ref a), .val (.int (Int32.ofNat ps.length)), .val (.int (Int32.ofNat i)), .val (.int (ps.getD i 0))] [(.ref uH), (.ref b1)]))
              refine own_s (fun t k => XS.iload X34.here hx rfl (hb hby d1_70) rfl k) ?_
              show Go p.tables e below _ (T34.setTop (mkF m 72 #[.val (.ref a), .val (.ref b1), .val (.ref a), .val (.int (Int32.ofNat ps.length)), .val (.int (Int32.ofNat i)), .val (.int (ps.getD i 0))] [(.int (ps.getD i 0)), (.ref uH), (.ref b1)]))
              refine own_s (fun t k => XS.iconst X34.here hx rfl (hb hby d1_72) k) ?_
              show Go p.tables e below _ (T34.setTop (mkF m 73 #[.val (.ref a), .val (.ref b1), .val (.ref a), .val (.int (Int32.ofNat ps.length)), .val (.int (Int32.ofNat i)), .val (.int (ps.getD i 0))] [(.int (4 : Int32)), (.int (ps.getD i 0)), (.ref uH), (.ref b1)]))
              refine own_s (fun t k => XS.ishr X34.here hx rfl (hb hby d1_73) rfl k) ?_
              show Go p.tables e below _ (T34.setTop (mkF m 74 #[.val (.ref a), .val (.ref b1), .val (.ref a), .val (.int (Int32.ofNat ps.length)), .val (.int (Int32.ofNat i)), .val (.int (ps.getD i 0))] [(.int ((ps.getD i 0) >>> ((4 : Int32) &&& 31))), (.ref uH), (.ref b1)]))
              refine own_s (fun t k => XS.bipush X34.here hx rfl (hb hby d1_74) k) ?_
              show Go p.tables e below _ (T34.setTop (mkF m 76 #[.val (.ref a), .val (.ref b1), .val (.ref a), .val (.int (Int32.ofNat ps.length)), .val (.int (Int32.ofNat i)), .val (.int (ps.getD i 0))] [(.int (15 : Int32)), (.int ((ps.getD i 0) >>> ((4 : Int32) &&& 31))), (.ref uH), (.ref b1)]))
              refine own_s (fun t k => XS.iand X34.here hx rfl (hb hby d1_76) rfl k) ?_
              show Go p.tables e below _ (T34.setTop (mkF m 77 #[.val (.ref a), .val (.ref b1), .val (.ref a), .val (.int (Int32.ofNat ps.length)), .val (.int (Int32.ofNat i)), .val (.int (ps.getD i 0))] [(.int (((ps.getD i 0) >>> ((4 : Int32) &&& 31)) &&& (15 : Int32))), (.ref uH), (.ref b1)]))
              obtain ⟨cl35, Ar35, qk35, Sz35, Nn35, Hs35, Gf35⟩ := id (OV_H.ext O33.2)
              have hin35 : ¬ ((((ps.getD i 0) >>> ((4 : Int32) &&& 31)) &&& (15 : Int32)) < 0 ∨ cl35.slots.size ≤ ((((ps.getD i 0) >>> ((4 : Int32) &&& 31)) &&& (15 : Int32))).toNatClampNeg) := inb_of Sz35 (own_nib _)
              have hat35 : cl35.slots[((((ps.getD i 0) >>> ((4 : Int32) &&& 31)) &&& (15 : Int32))).toNatClampNeg]? = some (.int (own_gb own_HX (((ps.getD i 0) >>> ((4 : Int32) &&& 31)) &&& (15 : Int32)))) := Has.at Hs35 hin35 (own_vs_get _ _)
              refine own_s (X34.caload hx (j := (((ps.getD i 0) >>> ((4 : Int32) &&& 31)) &&& (15 : Int32))) (v := (.int (own_gb own_HX (((ps.getD i 0) >>> ((4 : Int32) &&& 31)) &&& (15 : Int32))))) (by rw [e34]; exact Ar35.1) (State.isArrayOf_alike hZ19.alike Ar35.2.1) Ar35.2.2 hin35 hat35 (g := (mkF m 77 #[.val (.ref a), .val (.ref b1), .val (.ref a), .val (.int (Int32.ofNat ps.length)), .val (.int (Int32.ofNat i)), .val (.int (ps.getD i 0))] [(.int (((ps.getD i 0) >>> ((4 : Int32) &&& 31)) &&& (15 : Int32))), (.ref uH), (.ref b1)])) rfl rfl (hb hby d1_77)) ?_
              show Go p.tables e below _ (T34.setTop (mkF m 78 #[.val (.ref a), .val (.ref b1), .val (.ref a), .val (.int (Int32.ofNat ps.length)), .val (.int (Int32.ofNat i)), .val (.int (ps.getD i 0))] [(.int (own_gb own_HX (((ps.getD i 0) >>> ((4 : Int32) &&& 31)) &&& (15 : Int32)))), (.ref b1)]))
              have Q37 : Exa Z T28.heap b1 "java/lang/StringBuilder" := (Q24.keep Kc28)
              obtain ⟨cq36, kq36, q36a, q36b, q36c⟩ := isOf hZ19 e34 Q37
              obtain ⟨_, _, ⟨T36, L36, k36, n36⟩, -, X36, ⟨Lc36, hQ36, l36, y36, z36⟩, st36⟩ := X34.virtualBack hx (y := (⟨"java/lang/StringBuilder", "append", "(C)Ljava/lang/StringBuilder;"⟩ : MethodName)) (z := (⟨"java/lang/StringBuilder", "append", "(C)Ljava/lang/StringBuilder;"⟩ : MethodName)) hown19 (mvT hZ19 (hw _ (List.mem_of_getElem? (i := 95) rfl))) (mvT hZ19 (hw _ (List.mem_of_getElem? (i := 96) rfl))) (notFace_of_selects (args := #[]) (mvT hZ19 (hw _ (List.mem_of_getElem? (i := 98) rfl)))) (mvT hZ19 (hw _ (List.mem_of_getElem? (i := 98) rfl))) (mvT hZ19 (hw _ (List.mem_of_getElem? (i := 97) rfl))) (by decide) (backOf (W := 0) (rm18 l Z a0 hw [] b3_1_2 k3_1_2 (cs ++ [(37 : Int32).toInt8.toInt32]) cz b1 (own_gb own_HX (((ps.getD i 0) >>> ((4 : Int32) &&& 31)) &&& (15 : Int32))) T28.heap n0 O33 S_C hcz Q37 fc28_0 fc28_1 fc28_2 fc28_3 (by first | omega | (simp only [List.length_append, List.length_singleton]; omega)) (own_hx _) g_b1 g_b3_1_2 ne10) hZ19 (hw _ (List.mem_of_getElem? (i := 99) rfl)) (hw _ (List.mem_of_getElem? (i := 7) rfl)) (by decide) (by decide)) q36a q36c (g := (mkF m 78 #[.val (.ref a), .val (.ref b1), .val (.ref a), .val (.int (Int32.ofNat ps.length)), .val (.int (Int32.ofNat i)), .val (.int (ps.getD i 0))] [(.int (own_gb own_HX (((ps.getD i 0) >>> ((4 : Int32) &&& 31)) &&& (15 : Int32)))), (.ref b1)])) rfl (by rw [hml]; rfl) (Steps.refl _) (argsL := [(.int (own_gb own_HX (((ps.getD i 0) >>> ((4 : Int32) &&& 31)) &&& (15 : Int32))))]) (rest := []) (lenOf pd__C_Ljava_lang_StringBuilder_ rfl) rfl (by show 2 * 0 + _ ≤ _; exact Nat.le_of_eq rfl) (hb hby d1_78) (fun _ _ => ⟨rfl, e34, (by show 2 + 2 * i + 2 + 0 ≤ 10; omega), (by show 20 + 324 * i + 324 + 0 ≤ 1020; omega)⟩)
              dsimp only [Pt.U, Pt.locs, Pt.cells, Pt.slots] at X36 l36 y36 z36 st36 hQ36
              subst l36 y36 z36
              obtain ⟨rfl, N36q, Kc36, fc36_0, fc36_1, fc36_2, fc36_3⟩ := hQ36
              have K36 : Keep h0 T36.heap [] := K28.trans Kc36 (allS (Or.inr sz_b1) (allS (Or.inr sz_b3_1_2) all0))
              have N36 := Fr.app N28 N36q
              refine own_t st36 ?_
              show Go p.tables e below _ (T36.setTop (mkF m 81 #[.val (.ref a), .val (.ref b1), .val (.ref a), .val (.int (Int32.ofNat ps.length)), .val (.int (Int32.ofNat i)), .val (.int (ps.getD i 0))] [(.ref b1)]))
              have O38 : Old Z n0 T36.heap := (O33.keep Kc36 (allS g_b1 (allS g_b3_1_2 all0)))
              obtain ⟨T39, X39, e39, st39⟩ := getS2 X36 hx hZ19 hown19 (host := "") (Or.inl (hw _ (List.mem_of_getElem? (i := 114) rfl))) Via.refl rfl (S_H.ext O38.2) (g := (mkF m 81 #[.val (.ref a), .val (.ref b1), .val (.ref a), .val (.int (Int32.ofNat ps.length)), .val (.int (Int32.ofNat i)), .val (.int (ps.getD i 0))] [(.ref b1)])) rfl (hb hby d1_81)
              refine own_s st39 ?_
              show Go p.tables e below _ (T39.setTop (mkF m 84 #[.val (.ref a), .val (.ref b1), .val (.ref a), .val (.int (Int32.ofNat ps.length)), .val (.int (Int32.ofNat i)), .val (.int (ps.getD i 0))] [(.ref uH), (.ref b1)]))
              refine own_s (fun t k => XS.iload X39.here hx rfl (hb hby d1_84) rfl k) ?_
              show Go p.tables e below _ (T39.setTop (mkF m 86 #[.val (.ref a), .val (.ref b1), .val (.ref a), .val (.int (Int32.ofNat ps.length)), .val (.int (Int32.ofNat i)), .val (.int (ps.getD i 0))] [(.int (ps.getD i 0)), (.ref uH), (.ref b1)]))
              refine own_s (fun t k => XS.bipush X39.here hx rfl (hb hby d1_86) k) ?_
              show Go p.tables e below _ (T39.setTop (mkF m 88 #[.val (.ref a), .val (.ref b1), .val (.ref a), .val (.int (Int32.ofNat ps.length)), .val (.int (Int32.ofNat i)), .val (.int (ps.getD i 0))] [(.int (15 : Int32)), (.int (ps.getD i 0)), (.ref uH), (.ref b1)]))
              refine own_s (fun t k => XS.iand X39.here hx rfl (hb hby d1_88) rfl k) ?_
              show Go p.tables e below _ (T39.setTop (mkF m 89 #[.val (.ref a), .val (.ref b1), .val (.ref a), .val (.int (Int32.ofNat ps.length)), .val (.int (Int32.ofNat i)), .val (.int (ps.getD i 0))] [(.int ((ps.getD i 0) &&& (15 : Int32))), (.ref uH), (.ref b1)]))
              obtain ⟨cl40, Ar40, qk40, Sz40, Nn40, Hs40, Gf40⟩ := id (OV_H.ext O38.2)
              have hin40 : ¬ (((ps.getD i 0) &&& (15 : Int32)) < 0 ∨ cl40.slots.size ≤ (((ps.getD i 0) &&& (15 : Int32))).toNatClampNeg) := inb_of Sz40 (own_nib _)
              have hat40 : cl40.slots[(((ps.getD i 0) &&& (15 : Int32))).toNatClampNeg]? = some (.int (own_gb own_HX ((ps.getD i 0) &&& (15 : Int32)))) := Has.at Hs40 hin40 (own_vs_get _ _)
              refine own_s (X39.caload hx (j := ((ps.getD i 0) &&& (15 : Int32))) (v := (.int (own_gb own_HX ((ps.getD i 0) &&& (15 : Int32))))) (by rw [e39]; exact Ar40.1) (State.isArrayOf_alike hZ19.alike Ar40.2.1) Ar40.2.2 hin40 hat40 (g := (mkF m 89 #[.val (.ref a), .val (.ref b1), .val (.ref a), .val (.int (Int32.ofNat ps.length)), .val (.int (Int32.ofNat i)), .val (.int (ps.getD i 0))] [(.int ((ps.getD i 0) &&& (15 : Int32))), (.ref uH), (.ref b1)])) rfl rfl (hb hby d1_89)) ?_
              show Go p.tables e below _ (T39.setTop (mkF m 90 #[.val (.ref a), .val (.ref b1), .val (.ref a), .val (.int (Int32.ofNat ps.length)), .val (.int (Int32.ofNat i)), .val (.int (ps.getD i 0))] [(.int (own_gb own_HX ((ps.getD i 0) &&& (15 : Int32)))), (.ref b1)]))
              have Q42 : Exa Z T36.heap b1 "java/lang/StringBuilder" := (Q37.keep Kc36)
              obtain ⟨cq41, kq41, q41a, q41b, q41c⟩ := isOf hZ19 e39 Q42
              obtain ⟨_, _, ⟨T41, L41, k41, n41⟩, -, X41, ⟨Lc41, hQ41, l41, y41, z41⟩, st41⟩ := X39.virtualBack hx (y := (⟨"java/lang/StringBuilder", "append", "(C)Ljava/lang/StringBuilder;"⟩ : MethodName)) (z := (⟨"java/lang/StringBuilder", "append", "(C)Ljava/lang/StringBuilder;"⟩ : MethodName)) hown19 (mvT hZ19 (hw _ (List.mem_of_getElem? (i := 95) rfl))) (mvT hZ19 (hw _ (List.mem_of_getElem? (i := 96) rfl))) (notFace_of_selects (args := #[]) (mvT hZ19 (hw _ (List.mem_of_getElem? (i := 98) rfl)))) (mvT hZ19 (hw _ (List.mem_of_getElem? (i := 98) rfl))) (mvT hZ19 (hw _ (List.mem_of_getElem? (i := 97) rfl))) (by decide) (backOf (W := 0) (rm18 l Z a0 hw [] b3_1_2 k3_1_2 ((cs ++ [(37 : Int32).toInt8.toInt32]) ++ [(own_gb own_HX (((ps.getD i 0) >>> ((4 : Int32) &&& 31)) &&& (15 : Int32))).toInt8.toInt32]) cz b1 (own_gb own_HX ((ps.getD i 0) &&& (15 : Int32))) T36.heap n0 O38 S_C hcz Q42 fc36_0 fc36_1 fc36_2 fc36_3 (by first | omega | (simp only [List.length_append, List.length_singleton]; omega)) (own_hx _) g_b1 g_b3_1_2 ne10) hZ19 (hw _ (List.mem_of_getElem? (i := 99) rfl)) (hw _ (List.mem_of_getElem? (i := 7) rfl)) (by decide) (by decide)) q41a q41c (g := (mkF m 90 #[.val (.ref a), .val (.ref b1), .val (.ref a), .val (.int (Int32.ofNat ps.length)), .val (.int (Int32.ofNat i)), .val (.int (ps.getD i 0))] [(.int (own_gb own_HX ((ps.getD i 0) &&& (15 : Int32)))), (.ref b1)])) rfl (by rw [hml]; rfl) (Steps.refl _) (argsL := [(.int (own_gb own_HX ((ps.getD i 0) &&& (15 : Int32))))]) (rest := []) (lenOf pd__C_Ljava_lang_StringBuilder_ rfl) rfl (by show 2 * 0 + _ ≤ _; exact Nat.le_of_eq rfl) (hb hby d1_90) (fun _ _ => ⟨rfl, e39, (by show 2 + 2 * i + 2 + 0 ≤ 10; omega), (by show 20 + 324 * i + 324 + 0 ≤ 1020; omega)⟩)
              dsimp only [Pt.U, Pt.locs, Pt.cells, Pt.slots] at X41 l41 y41 z41 st41 hQ41
              subst l41 y41 z41
              obtain ⟨rfl, N41q, Kc41, fc41_0, fc41_1, fc41_2, fc41_3⟩ := hQ41
              have K41 : Keep h0 T41.heap [] := K36.trans Kc41 (allS (Or.inr sz_b1) (allS (Or.inr sz_b3_1_2) all0))
              have N41 := Fr.app N36 N41q
              refine own_t st41 ?_
              show Go p.tables e below _ (T41.setTop (mkF m 93 #[.val (.ref a), .val (.ref b1), .val (.ref a), .val (.int (Int32.ofNat ps.length)), .val (.int (Int32.ofNat i)), .val (.int (ps.getD i 0))] [(.ref b1)]))
              refine own_s (fun t k => XS.pop X41.here hx rfl (hb hby d1_93) rfl rfl k) ?_
              show Go p.tables e below _ (T41.setTop (mkF m 94 #[.val (.ref a), .val (.ref b1), .val (.ref a), .val (.int (Int32.ofNat ps.length)), .val (.int (Int32.ofNat i)), .val (.int (ps.getD i 0))] []))
              refine own_s (fun t k => XS.iinc X41.here hx rfl (hb hby d1_94) rfl (l' := #[.val (.ref a), .val (.ref b1), .val (.ref a), .val (.int (Int32.ofNat ps.length)), .val (.int ((Int32.ofNat i) + (1 : Int32))), .val (.int (ps.getD i 0))]) rfl k) ?_
              show Go p.tables e below _ (T41.setTop (mkF m 97 #[.val (.ref a), .val (.ref b1), .val (.ref a), .val (.int (Int32.ofNat ps.length)), .val (.int ((Int32.ofNat i) + (1 : Int32))), .val (.int (ps.getD i 0))] []))
              refine own_s (fun t k => XS.goto X41.here hx rfl (pc0 := 97) (pc' := 16) rfl (hb hby d1_97) (by decide) (by decide) k) ?_
              show Go p.tables e below _ (T41.setTop (mkF m 16 #[.val (.ref a), .val (.ref b1), .val (.ref a), .val (.int (Int32.ofNat ps.length)), .val (.int ((Int32.ofNat i) + (1 : Int32))), .val (.int (ps.getD i 0))] []))
              rw [own_succ (by omega)]
              have Q43 : Exa Z T41.heap b1 "java/lang/StringBuilder" := (Q42.keep Kc41)
              have V44 : Arv Z T41.heap a ka .byte (Int32.ofNat ps.length) (own_vs ps) (.int (0 : Int32)) := ((((Va.ext E19).keep Kc28 (ninS ne4 (ninS ne9 nin0))).keep Kc36 (ninS ne4 (ninS ne9 nin0))).keep Kc41 (ninS ne4 (ninS ne9 nin0)))
              have O45 : Old Z n0 T41.heap := (O38.keep Kc41 (allS g_b1 (allS g_b3_1_2 all0)))
              have Q46 : Exa Z T41.heap x "java/lang/String" := (((Ex.keep Kc28).keep Kc36).keep Kc41)
              have F47 : Fld Z T41.heap x "java/lang/String" "coder" "B" (.int (0 : Int32)) := (((Fxc.keep Kc28 (ninS ne23 (ninS ne22 nin0))).keep Kc36 (ninS ne23 (ninS ne22 nin0))).keep Kc41 (ninS ne23 (ninS ne22 nin0)))
              have F48 : Fld Z T41.heap x "java/lang/String" "value" "[B" (.ref t) := (((Fxv.keep Kc28 (ninS ne23 (ninS ne22 nin0))).keep Kc36 (ninS ne23 (ninS ne22 nin0))).keep Kc41 (ninS ne23 (ninS ne22 nin0)))
              have V49 : Arv Z T41.heap t kx .byte (Int32.ofNat own_PL.length) (own_vs own_PL) (.int (0 : Int32)) := (((Vx.keep Kc28 (ninS (Ne.symm ne21) (ninS ne20 nin0))).keep Kc36 (ninS (Ne.symm ne21) (ninS ne20 nin0))).keep Kc41 (ninS (Ne.symm ne21) (ninS ne20 nin0)))
              exact ih (i + 1) T41 T41.heap _ T19.vm _ (((cs ++ [(37 : Int32).toInt8.toInt32]) ++ [(own_gb own_HX (((ps.getD i 0) >>> ((4 : Int32) &&& 31)) &&& (15 : Int32))).toInt8.toInt32]) ++ [(own_gb own_HX ((ps.getD i 0) &&& (15 : Int32))).toInt8.toInt32]) (.val (.int (ps.getD i 0))) (by omega) (by rw [own_enc_step (by omega), ← hcs, (own_p4 hc13 hc27)]; try simp only [List.append_assoc, List.cons_append, List.nil_append]) (X41.more (by show 2 + 2 * i + 2 ≤ 2 + 2 * (i + 1); omega) (by show 20 + 324 * i + 324 ≤ 20 + 324 * (i + 1); omega)) rfl hS19 (Nat.le_trans (Nat.le_trans (Nat.le_trans hk19 Kc28.1) Kc36.1) Kc41.1) hZ19 hown19 N41 K41 O45 Q43 fc41_0 fc41_1 fc41_2 fc41_3 V44 (Or.inr ⟨x, t, kx, hL, Q46, F47, F48, V49⟩) (One.val rfl)
            ·
              refine own_s (fun t k => XS.ifNo X25.here hx rfl (hb hby d1_47) rfl ((if0 _ _).trans (flt hc27).1) k) ?_
              show Go p.tables e below _ (T25.setTop (mkF m 50 #[.val (.ref a), .val (.ref b1), .val (.ref a), .val (.int (Int32.ofNat ps.length)), .val (.int (Int32.ofNat i)), .val (.int (ps.getD i 0))] []))
              refine own_s (fun t k => XS.aloadN X25.here hx rfl (hb hby d1_50) rfl rfl k) ?_
              show Go p.tables e below _ (T25.setTop (mkF m 51 #[.val (.ref a), .val (.ref b1), .val (.ref a), .val (.int (Int32.ofNat ps.length)), .val (.int (Int32.ofNat i)), .val (.int (ps.getD i 0))] [(.ref b1)]))
              refine own_s (fun t k => XS.iload X25.here hx rfl (hb hby d1_51) rfl k) ?_
              show Go p.tables e below _ (T25.setTop (mkF m 53 #[.val (.ref a), .val (.ref b1), .val (.ref a), .val (.int (Int32.ofNat ps.length)), .val (.int (Int32.ofNat i)), .val (.int (ps.getD i 0))] [(.int (ps.getD i 0)), (.ref b1)]))
              refine own_s (fun t k => XS.i2c X25.here hx rfl (hb hby d1_53) rfl k) ?_
              show Go p.tables e below _ (T25.setTop (mkF m 54 #[.val (.ref a), .val (.ref b1), .val (.ref a), .val (.int (Int32.ofNat ps.length)), .val (.int (Int32.ofNat i)), .val (.int (ps.getD i 0))] [(.int ((ps.getD i 0).toUInt32.toUInt16.toUInt32.toInt32)), (.ref b1)]))
              have F51 : Fld Z h19 b1 "java/lang/AbstractStringBuilder" "value" "[B" (.ref b3_1_2) := (Fv.ext E19)
              have F52 : Fld Z h19 b1 "java/lang/AbstractStringBuilder" "coder" "B" (.int (0 : Int32)) := (Fc.ext E19)
              have F53 : Fld Z h19 b1 "java/lang/AbstractStringBuilder" "count" "I" (.int (Int32.ofNat cs.length)) := (Fn.ext E19)
              have V54 : Arv Z h19 b3_1_2 k3_1_2 .byte (16 : Int32) (own_pad cs) (.int (0 : Int32)) := (Vb.ext E19)
              obtain ⟨cq50, kq50, q50a, q50b, q50c⟩ := isOf hZ19 eq25 Q24
              obtain ⟨_, _, ⟨T50, L50, k50, n50⟩, -, X50, ⟨Lc50, hQ50, l50, y50, z50⟩, st50⟩ := X25.virtualBack hx (y := (⟨"java/lang/StringBuilder", "append", "(C)Ljava/lang/StringBuilder;"⟩ : MethodName)) (z := (⟨"java/lang/StringBuilder", "append", "(C)Ljava/lang/StringBuilder;"⟩ : MethodName)) hown19 (mvT hZ19 (hw _ (List.mem_of_getElem? (i := 95) rfl))) (mvT hZ19 (hw _ (List.mem_of_getElem? (i := 96) rfl))) (notFace_of_selects (args := #[]) (mvT hZ19 (hw _ (List.mem_of_getElem? (i := 98) rfl)))) (mvT hZ19 (hw _ (List.mem_of_getElem? (i := 98) rfl))) (mvT hZ19 (hw _ (List.mem_of_getElem? (i := 97) rfl))) (by decide) (backOf (W := 0) (rm18 l Z a0 hw [] b3_1_2 k3_1_2 cs cz b1 ((ps.getD i 0).toUInt32.toUInt16.toUInt32.toInt32) h19 n0 O26 S_C hcz Q24 F51 F52 F53 V54 (by first | omega | (simp only [List.length_append, List.length_singleton]; omega)) (own_r3 hbr hc18) g_b1 g_b3_1_2 ne10) hZ19 (hw _ (List.mem_of_getElem? (i := 99) rfl)) (hw _ (List.mem_of_getElem? (i := 7) rfl)) (by decide) (by decide)) q50a q50c (g := (mkF m 54 #[.val (.ref a), .val (.ref b1), .val (.ref a), .val (.int (Int32.ofNat ps.length)), .val (.int (Int32.ofNat i)), .val (.int (ps.getD i 0))] [(.int ((ps.getD i 0).toUInt32.toUInt16.toUInt32.toInt32)), (.ref b1)])) rfl (by rw [hml]; rfl) (Steps.refl _) (argsL := [(.int ((ps.getD i 0).toUInt32.toUInt16.toUInt32.toInt32))]) (rest := []) (lenOf pd__C_Ljava_lang_StringBuilder_ rfl) rfl (by show 2 * 0 + _ ≤ _; exact Nat.le_of_eq rfl) (hb hby d1_54) (fun _ _ => ⟨rfl, eq25, (by show 2 + 2 * i + 2 + 0 ≤ 10; omega), (by show 20 + 324 * i + 324 + 0 ≤ 1020; omega)⟩)
              dsimp only [Pt.U, Pt.locs, Pt.cells, Pt.slots] at X50 l50 y50 z50 st50 hQ50
              subst l50 y50 z50
              obtain ⟨rfl, N50q, Kc50, fc50_0, fc50_1, fc50_2, fc50_3⟩ := hQ50
              have K50 : Keep h0 T50.heap [] := K19.trans Kc50 (allS (Or.inr sz_b1) (allS (Or.inr sz_b3_1_2) all0))
              have N50 := Fr.app N25 N50q
              refine own_t st50 ?_
              show Go p.tables e below _ (T50.setTop (mkF m 57 #[.val (.ref a), .val (.ref b1), .val (.ref a), .val (.int (Int32.ofNat ps.length)), .val (.int (Int32.ofNat i)), .val (.int (ps.getD i 0))] [(.ref b1)]))
              refine own_s (fun t k => XS.pop X50.here hx rfl (hb hby d1_57) rfl rfl k) ?_
              show Go p.tables e below _ (T50.setTop (mkF m 58 #[.val (.ref a), .val (.ref b1), .val (.ref a), .val (.int (Int32.ofNat ps.length)), .val (.int (Int32.ofNat i)), .val (.int (ps.getD i 0))] []))
              refine own_s (fun t k => XS.goto X50.here hx rfl (pc0 := 58) (pc' := 94) rfl (hb hby d1_58) (by decide) (by decide) k) ?_
              show Go p.tables e below _ (T50.setTop (mkF m 94 #[.val (.ref a), .val (.ref b1), .val (.ref a), .val (.int (Int32.ofNat ps.length)), .val (.int (Int32.ofNat i)), .val (.int (ps.getD i 0))] []))
              refine own_s (fun t k => XS.iinc X50.here hx rfl (hb hby d1_94) rfl (l' := #[.val (.ref a), .val (.ref b1), .val (.ref a), .val (.int (Int32.ofNat ps.length)), .val (.int ((Int32.ofNat i) + (1 : Int32))), .val (.int (ps.getD i 0))]) rfl k) ?_
              show Go p.tables e below _ (T50.setTop (mkF m 97 #[.val (.ref a), .val (.ref b1), .val (.ref a), .val (.int (Int32.ofNat ps.length)), .val (.int ((Int32.ofNat i) + (1 : Int32))), .val (.int (ps.getD i 0))] []))
              refine own_s (fun t k => XS.goto X50.here hx rfl (pc0 := 97) (pc' := 16) rfl (hb hby d1_97) (by decide) (by decide) k) ?_
              show Go p.tables e below _ (T50.setTop (mkF m 16 #[.val (.ref a), .val (.ref b1), .val (.ref a), .val (.int (Int32.ofNat ps.length)), .val (.int ((Int32.ofNat i) + (1 : Int32))), .val (.int (ps.getD i 0))] []))
              rw [own_succ (by omega)]
              have Q55 : Exa Z T50.heap b1 "java/lang/StringBuilder" := (Q24.keep Kc50)
              have V56 : Arv Z T50.heap a ka .byte (Int32.ofNat ps.length) (own_vs ps) (.int (0 : Int32)) := ((Va.ext E19).keep Kc50 (ninS ne4 (ninS ne9 nin0)))
              have O57 : Old Z n0 T50.heap := (O26.keep Kc50 (allS g_b1 (allS g_b3_1_2 all0)))
              have Q58 : Exa Z T50.heap x "java/lang/String" := (Ex.keep Kc50)
              have F59 : Fld Z T50.heap x "java/lang/String" "coder" "B" (.int (0 : Int32)) := (Fxc.keep Kc50 (ninS ne23 (ninS ne22 nin0)))
              have F60 : Fld Z T50.heap x "java/lang/String" "value" "[B" (.ref t) := (Fxv.keep Kc50 (ninS ne23 (ninS ne22 nin0)))
              have V61 : Arv Z T50.heap t kx .byte (Int32.ofNat own_PL.length) (own_vs own_PL) (.int (0 : Int32)) := (Vx.keep Kc50 (ninS (Ne.symm ne21) (ninS ne20 nin0)))
              exact ih (i + 1) T50 T50.heap _ T19.vm _ (cs ++ [((ps.getD i 0).toUInt32.toUInt16.toUInt32.toInt32).toInt8.toInt32]) (.val (.int (ps.getD i 0))) (by omega) (by rw [own_enc_step (by omega), ← hcs, (own_p2 hc18 hc27)]; try simp only [List.append_assoc, List.cons_append, List.nil_append]) (X50.more (by show 2 + 2 * i + 2 ≤ 2 + 2 * (i + 1); omega) (by show 20 + 324 * i + 324 ≤ 20 + 324 * (i + 1); omega)) rfl hS19 (Nat.le_trans hk19 Kc50.1) hZ19 hown19 N50 K50 O57 Q55 fc50_0 fc50_1 fc50_2 fc50_3 V56 (Or.inr ⟨x, t, kx, hL, Q58, F59, F60, V61⟩) (One.val rfl)
          ·
            refine own_s (fun t k => XS.ifYes X.here hx rfl (pc0 := 37) (pc' := 61) rfl (hb hby d1_37) rfl ((if0 _ _).trans (flt hc18).2.2.2) (by decide) (by decide) k) ?_
            show Go p.tables e below _ (T.setTop (mkF m 61 #[.val (.ref a), .val (.ref b1), .val (.ref a), .val (.int (Int32.ofNat ps.length)), .val (.int (Int32.ofNat i)), .val (.int (ps.getD i 0))] []))
            refine own_s (fun t k => XS.aloadN X.here hx rfl (hb hby d1_61) rfl rfl k) ?_
            show Go p.tables e below _ (T.setTop (mkF m 62 #[.val (.ref a), .val (.ref b1), .val (.ref a), .val (.int (Int32.ofNat ps.length)), .val (.int (Int32.ofNat i)), .val (.int (ps.getD i 0))] [(.ref b1)]))
            refine own_s (fun t k => XS.bipush X.here hx rfl (hb hby d1_62) k) ?_
            show Go p.tables e below _ (T.setTop (mkF m 64 #[.val (.ref a), .val (.ref b1), .val (.ref a), .val (.int (Int32.ofNat ps.length)), .val (.int (Int32.ofNat i)), .val (.int (ps.getD i 0))] [(.int (37 : Int32)), (.ref b1)]))
            obtain ⟨cq62, kq62, q62a, q62b, q62c⟩ := isOf hZv eT E
            obtain ⟨_, _, ⟨T62, L62, k62, n62⟩, -, X62, ⟨Lc62, hQ62, l62, y62, z62⟩, st62⟩ := X.virtualBack hx (y := (⟨"java/lang/StringBuilder", "append", "(C)Ljava/lang/StringBuilder;"⟩ : MethodName)) (z := (⟨"java/lang/StringBuilder", "append", "(C)Ljava/lang/StringBuilder;"⟩ : MethodName)) hov (mvT hZv (hw _ (List.mem_of_getElem? (i := 95) rfl))) (mvT hZv (hw _ (List.mem_of_getElem? (i := 96) rfl))) (notFace_of_selects (args := #[]) (mvT hZv (hw _ (List.mem_of_getElem? (i := 98) rfl)))) (mvT hZv (hw _ (List.mem_of_getElem? (i := 98) rfl))) (mvT hZv (hw _ (List.mem_of_getElem? (i := 97) rfl))) (by decide) (backOf (W := 0) (rm18 l Z a0 hw [] b3_1_2 k3_1_2 cs cz b1 (37 : Int32) h n0 O S_C hcz E Fv Fc Fn Vb (by first | omega | (simp only [List.length_append, List.length_singleton]; omega)) (by decide) g_b1 g_b3_1_2 ne10) hZv (hw _ (List.mem_of_getElem? (i := 99) rfl)) (hw _ (List.mem_of_getElem? (i := 7) rfl)) (by decide) (by decide)) q62a q62c (g := (mkF m 64 #[.val (.ref a), .val (.ref b1), .val (.ref a), .val (.int (Int32.ofNat ps.length)), .val (.int (Int32.ofNat i)), .val (.int (ps.getD i 0))] [(.int (37 : Int32)), (.ref b1)])) rfl (by rw [hml]; rfl) (Steps.refl _) (argsL := [(.int (37 : Int32))]) (rest := []) (lenOf pd__C_Ljava_lang_StringBuilder_ rfl) rfl (by show 2 * 0 + _ ≤ _; exact Nat.le_of_eq rfl) (hb hby d1_64) (fun _ _ => ⟨rfl, eT, (by show 2 + 2 * i + 0 ≤ 10; omega), (by show 20 + 324 * i + 0 ≤ 1020; omega)⟩)
            dsimp only [Pt.U, Pt.locs, Pt.cells, Pt.slots] at X62 l62 y62 z62 st62 hQ62
            subst l62 y62 z62
            obtain ⟨rfl, N62q, Kc62, fc62_0, fc62_1, fc62_2, fc62_3⟩ := hQ62
            have K62 : Keep h0 T62.heap [] := K.trans Kc62 (allS (Or.inr sz_b1) (allS (Or.inr sz_b3_1_2) all0))
            have N62 := Fr.app N N62q
            refine own_t st62 ?_
            show Go p.tables e below _ (T62.setTop (mkF m 67 #[.val (.ref a), .val (.ref b1), .val (.ref a), .val (.int (Int32.ofNat ps.length)), .val (.int (Int32.ofNat i)), .val (.int (ps.getD i 0))] [(.ref b1)]))
            have O63 : Old Z n0 T62.heap := (O.keep Kc62 (allS g_b1 (allS g_b3_1_2 all0)))
            obtain ⟨T64, X64, e64, st64⟩ := getS2 X62 hx hZv hov (host := "") (Or.inl (hw _ (List.mem_of_getElem? (i := 114) rfl))) Via.refl rfl (S_H.ext O63.2) (g := (mkF m 67 #[.val (.ref a), .val (.ref b1), .val (.ref a), .val (.int (Int32.ofNat ps.length)), .val (.int (Int32.ofNat i)), .val (.int (ps.getD i 0))] [(.ref b1)])) rfl (hb hby d1_67)
            refine own_s st64 ?_
            show Go p.tables e below _ (T64.setTop (mkF m 70 #[.val (.ref a), .val (.ref b1), .val (.ref a), .val (.int (Int32.ofNat ps.length)), .val (.int (Int32.ofNat i)), .val (.int (ps.getD i 0))] [(.ref uH), (.ref b1)]))
            refine own_s (fun t k => XS.iload X64.here hx rfl (hb hby d1_70) rfl k) ?_
            show Go p.tables e below _ (T64.setTop (mkF m 72 #[.val (.ref a), .val (.ref b1), .val (.ref a), .val (.int (Int32.ofNat ps.length)), .val (.int (Int32.ofNat i)), .val (.int (ps.getD i 0))] [(.int (ps.getD i 0)), (.ref uH), (.ref b1)]))
            refine own_s (fun t k => XS.iconst X64.here hx rfl (hb hby d1_72) k) ?_
            show Go p.tables e below _ (T64.setTop (mkF m 73 #[.val (.ref a), .val (.ref b1), .val (.ref a), .val (.int (Int32.ofNat ps.length)), .val (.int (Int32.ofNat i)), .val (.int (ps.getD i 0))] [(.int (4 : Int32)), (.int (ps.getD i 0)), (.ref uH), (.ref b1)]))
            refine own_s (fun t k => XS.ishr X64.here hx rfl (hb hby d1_73) rfl k) ?_
            show Go p.tables e below _ (T64.setTop (mkF m 74 #[.val (.ref a), .val (.ref b1), .val (.ref a), .val (.int (Int32.ofNat ps.length)), .val (.int (Int32.ofNat i)), .val (.int (ps.getD i 0))] [(.int ((ps.getD i 0) >>> ((4 : Int32) &&& 31))), (.ref uH), (.ref b1)]))
            refine own_s (fun t k => XS.bipush X64.here hx rfl (hb hby d1_74) k) ?_
            show Go p.tables e below _ (T64.setTop (mkF m 76 #[.val (.ref a), .val (.ref b1), .val (.ref a), .val (.int (Int32.ofNat ps.length)), .val (.int (Int32.ofNat i)), .val (.int (ps.getD i 0))] [(.int (15 : Int32)), (.int ((ps.getD i 0) >>> ((4 : Int32) &&& 31))), (.ref uH), (.ref b1)]))
            refine own_s (fun t k => XS.iand X64.here hx rfl (hb hby d1_76) rfl k) ?_
            show Go p.tables e below _ (T64.setTop (mkF m 77 #[.val (.ref a), .val (.ref b1), .val (.ref a), .val (.int (Int32.ofNat ps.length)), .val (.int (Int32.ofNat i)), .val (.int (ps.getD i 0))] [(.int (((ps.getD i 0) >>> ((4 : Int32) &&& 31)) &&& (15 : Int32))), (.ref uH), (.ref b1)]))
            obtain ⟨cl65, Ar65, qk65, Sz65, Nn65, Hs65, Gf65⟩ := id (OV_H.ext O63.2)
            have hin65 : ¬ ((((ps.getD i 0) >>> ((4 : Int32) &&& 31)) &&& (15 : Int32)) < 0 ∨ cl65.slots.size ≤ ((((ps.getD i 0) >>> ((4 : Int32) &&& 31)) &&& (15 : Int32))).toNatClampNeg) := inb_of Sz65 (own_nib _)
            have hat65 : cl65.slots[((((ps.getD i 0) >>> ((4 : Int32) &&& 31)) &&& (15 : Int32))).toNatClampNeg]? = some (.int (own_gb own_HX (((ps.getD i 0) >>> ((4 : Int32) &&& 31)) &&& (15 : Int32)))) := Has.at Hs65 hin65 (own_vs_get _ _)
            refine own_s (X64.caload hx (j := (((ps.getD i 0) >>> ((4 : Int32) &&& 31)) &&& (15 : Int32))) (v := (.int (own_gb own_HX (((ps.getD i 0) >>> ((4 : Int32) &&& 31)) &&& (15 : Int32))))) (by rw [e64]; exact Ar65.1) (State.isArrayOf_alike hZv.alike Ar65.2.1) Ar65.2.2 hin65 hat65 (g := (mkF m 77 #[.val (.ref a), .val (.ref b1), .val (.ref a), .val (.int (Int32.ofNat ps.length)), .val (.int (Int32.ofNat i)), .val (.int (ps.getD i 0))] [(.int (((ps.getD i 0) >>> ((4 : Int32) &&& 31)) &&& (15 : Int32))), (.ref uH), (.ref b1)])) rfl rfl (hb hby d1_77)) ?_
            show Go p.tables e below _ (T64.setTop (mkF m 78 #[.val (.ref a), .val (.ref b1), .val (.ref a), .val (.int (Int32.ofNat ps.length)), .val (.int (Int32.ofNat i)), .val (.int (ps.getD i 0))] [(.int (own_gb own_HX (((ps.getD i 0) >>> ((4 : Int32) &&& 31)) &&& (15 : Int32)))), (.ref b1)]))
            have Q67 : Exa Z T62.heap b1 "java/lang/StringBuilder" := (E.keep Kc62)
            obtain ⟨cq66, kq66, q66a, q66b, q66c⟩ := isOf hZv e64 Q67
            obtain ⟨_, _, ⟨T66, L66, k66, n66⟩, -, X66, ⟨Lc66, hQ66, l66, y66, z66⟩, st66⟩ := X64.virtualBack hx (y := (⟨"java/lang/StringBuilder", "append", "(C)Ljava/lang/StringBuilder;"⟩ : MethodName)) (z := (⟨"java/lang/StringBuilder", "append", "(C)Ljava/lang/StringBuilder;"⟩ : MethodName)) hov (mvT hZv (hw _ (List.mem_of_getElem? (i := 95) rfl))) (mvT hZv (hw _ (List.mem_of_getElem? (i := 96) rfl))) (notFace_of_selects (args := #[]) (mvT hZv (hw _ (List.mem_of_getElem? (i := 98) rfl)))) (mvT hZv (hw _ (List.mem_of_getElem? (i := 98) rfl))) (mvT hZv (hw _ (List.mem_of_getElem? (i := 97) rfl))) (by decide) (backOf (W := 0) (rm18 l Z a0 hw [] b3_1_2 k3_1_2 (cs ++ [(37 : Int32).toInt8.toInt32]) cz b1 (own_gb own_HX (((ps.getD i 0) >>> ((4 : Int32) &&& 31)) &&& (15 : Int32))) T62.heap n0 O63 S_C hcz Q67 fc62_0 fc62_1 fc62_2 fc62_3 (by first | omega | (simp only [List.length_append, List.length_singleton]; omega)) (own_hx _) g_b1 g_b3_1_2 ne10) hZv (hw _ (List.mem_of_getElem? (i := 99) rfl)) (hw _ (List.mem_of_getElem? (i := 7) rfl)) (by decide) (by decide)) q66a q66c (g := (mkF m 78 #[.val (.ref a), .val (.ref b1), .val (.ref a), .val (.int (Int32.ofNat ps.length)), .val (.int (Int32.ofNat i)), .val (.int (ps.getD i 0))] [(.int (own_gb own_HX (((ps.getD i 0) >>> ((4 : Int32) &&& 31)) &&& (15 : Int32)))), (.ref b1)])) rfl (by rw [hml]; rfl) (Steps.refl _) (argsL := [(.int (own_gb own_HX (((ps.getD i 0) >>> ((4 : Int32) &&& 31)) &&& (15 : Int32))))]) (rest := []) (lenOf pd__C_Ljava_lang_StringBuilder_ rfl) rfl (by show 2 * 0 + _ ≤ _; exact Nat.le_of_eq rfl) (hb hby d1_78) (fun _ _ => ⟨rfl, e64, (by show 2 + 2 * i + 0 ≤ 10; omega), (by show 20 + 324 * i + 0 ≤ 1020; omega)⟩)
            dsimp only [Pt.U, Pt.locs, Pt.cells, Pt.slots] at X66 l66 y66 z66 st66 hQ66
            subst l66 y66 z66
            obtain ⟨rfl, N66q, Kc66, fc66_0, fc66_1, fc66_2, fc66_3⟩ := hQ66
            have K66 : Keep h0 T66.heap [] := K62.trans Kc66 (allS (Or.inr sz_b1) (allS (Or.inr sz_b3_1_2) all0))
            have N66 := Fr.app N62 N66q
            refine own_t st66 ?_
            show Go p.tables e below _ (T66.setTop (mkF m 81 #[.val (.ref a), .val (.ref b1), .val (.ref a), .val (.int (Int32.ofNat ps.length)), .val (.int (Int32.ofNat i)), .val (.int (ps.getD i 0))] [(.ref b1)]))
            have O68 : Old Z n0 T66.heap := (O63.keep Kc66 (allS g_b1 (allS g_b3_1_2 all0)))
            obtain ⟨T69, X69, e69, st69⟩ := getS2 X66 hx hZv hov (host := "") (Or.inl (hw _ (List.mem_of_getElem? (i := 114) rfl))) Via.refl rfl (S_H.ext O68.2) (g := (mkF m 81 #[.val (.ref a), .val (.ref b1), .val (.ref a), .val (.int (Int32.ofNat ps.length)), .val (.int (Int32.ofNat i)), .val (.int (ps.getD i 0))] [(.ref b1)])) rfl (hb hby d1_81)
            refine own_s st69 ?_
            show Go p.tables e below _ (T69.setTop (mkF m 84 #[.val (.ref a), .val (.ref b1), .val (.ref a), .val (.int (Int32.ofNat ps.length)), .val (.int (Int32.ofNat i)), .val (.int (ps.getD i 0))] [(.ref uH), (.ref b1)]))
            refine own_s (fun t k => XS.iload X69.here hx rfl (hb hby d1_84) rfl k) ?_
            show Go p.tables e below _ (T69.setTop (mkF m 86 #[.val (.ref a), .val (.ref b1), .val (.ref a), .val (.int (Int32.ofNat ps.length)), .val (.int (Int32.ofNat i)), .val (.int (ps.getD i 0))] [(.int (ps.getD i 0)), (.ref uH), (.ref b1)]))
            refine own_s (fun t k => XS.bipush X69.here hx rfl (hb hby d1_86) k) ?_
            show Go p.tables e below _ (T69.setTop (mkF m 88 #[.val (.ref a), .val (.ref b1), .val (.ref a), .val (.int (Int32.ofNat ps.length)), .val (.int (Int32.ofNat i)), .val (.int (ps.getD i 0))] [(.int (15 : Int32)), (.int (ps.getD i 0)), (.ref uH), (.ref b1)]))
            refine own_s (fun t k => XS.iand X69.here hx rfl (hb hby d1_88) rfl k) ?_
            show Go p.tables e below _ (T69.setTop (mkF m 89 #[.val (.ref a), .val (.ref b1), .val (.ref a), .val (.int (Int32.ofNat ps.length)), .val (.int (Int32.ofNat i)), .val (.int (ps.getD i 0))] [(.int ((ps.getD i 0) &&& (15 : Int32))), (.ref uH), (.ref b1)]))
            obtain ⟨cl70, Ar70, qk70, Sz70, Nn70, Hs70, Gf70⟩ := id (OV_H.ext O68.2)
            have hin70 : ¬ (((ps.getD i 0) &&& (15 : Int32)) < 0 ∨ cl70.slots.size ≤ (((ps.getD i 0) &&& (15 : Int32))).toNatClampNeg) := inb_of Sz70 (own_nib _)
            have hat70 : cl70.slots[(((ps.getD i 0) &&& (15 : Int32))).toNatClampNeg]? = some (.int (own_gb own_HX ((ps.getD i 0) &&& (15 : Int32)))) := Has.at Hs70 hin70 (own_vs_get _ _)
            refine own_s (X69.caload hx (j := ((ps.getD i 0) &&& (15 : Int32))) (v := (.int (own_gb own_HX ((ps.getD i 0) &&& (15 : Int32))))) (by rw [e69]; exact Ar70.1) (State.isArrayOf_alike hZv.alike Ar70.2.1) Ar70.2.2 hin70 hat70 (g := (mkF m 89 #[.val (.ref a), .val (.ref b1), .val (.ref a), .val (.int (Int32.ofNat ps.length)), .val (.int (Int32.ofNat i)), .val (.int (ps.getD i 0))] [(.int ((ps.getD i 0) &&& (15 : Int32))), (.ref uH), (.ref b1)])) rfl rfl (hb hby d1_89)) ?_
            show Go p.tables e below _ (T69.setTop (mkF m 90 #[.val (.ref a), .val (.ref b1), .val (.ref a), .val (.int (Int32.ofNat ps.length)), .val (.int (Int32.ofNat i)), .val (.int (ps.getD i 0))] [(.int (own_gb own_HX ((ps.getD i 0) &&& (15 : Int32)))), (.ref b1)]))
            have Q72 : Exa Z T66.heap b1 "java/lang/StringBuilder" := (Q67.keep Kc66)
            obtain ⟨cq71, kq71, q71a, q71b, q71c⟩ := isOf hZv e69 Q72
            obtain ⟨_, _, ⟨T71, L71, k71, n71⟩, -, X71, ⟨Lc71, hQ71, l71, y71, z71⟩, st71⟩ := X69.virtualBack hx (y := (⟨"java/lang/StringBuilder", "append", "(C)Ljava/lang/StringBuilder;"⟩ : MethodName)) (z := (⟨"java/lang/StringBuilder", "append", "(C)Ljava/lang/StringBuilder;"⟩ : MethodName)) hov (mvT hZv (hw _ (List.mem_of_getElem? (i := 95) rfl))) (mvT hZv (hw _ (List.mem_of_getElem? (i := 96) rfl))) (notFace_of_selects (args := #[]) (mvT hZv (hw _ (List.mem_of_getElem? (i := 98) rfl)))) (mvT hZv (hw _ (List.mem_of_getElem? (i := 98) rfl))) (mvT hZv (hw _ (List.mem_of_getElem? (i := 97) rfl))) (by decide) (backOf (W := 0) (rm18 l Z a0 hw [] b3_1_2 k3_1_2 ((cs ++ [(37 : Int32).toInt8.toInt32]) ++ [(own_gb own_HX (((ps.getD i 0) >>> ((4 : Int32) &&& 31)) &&& (15 : Int32))).toInt8.toInt32]) cz b1 (own_gb own_HX ((ps.getD i 0) &&& (15 : Int32))) T66.heap n0 O68 S_C hcz Q72 fc66_0 fc66_1 fc66_2 fc66_3 (by first | omega | (simp only [List.length_append, List.length_singleton]; omega)) (own_hx _) g_b1 g_b3_1_2 ne10) hZv (hw _ (List.mem_of_getElem? (i := 99) rfl)) (hw _ (List.mem_of_getElem? (i := 7) rfl)) (by decide) (by decide)) q71a q71c (g := (mkF m 90 #[.val (.ref a), .val (.ref b1), .val (.ref a), .val (.int (Int32.ofNat ps.length)), .val (.int (Int32.ofNat i)), .val (.int (ps.getD i 0))] [(.int (own_gb own_HX ((ps.getD i 0) &&& (15 : Int32)))), (.ref b1)])) rfl (by rw [hml]; rfl) (Steps.refl _) (argsL := [(.int (own_gb own_HX ((ps.getD i 0) &&& (15 : Int32))))]) (rest := []) (lenOf pd__C_Ljava_lang_StringBuilder_ rfl) rfl (by show 2 * 0 + _ ≤ _; exact Nat.le_of_eq rfl) (hb hby d1_90) (fun _ _ => ⟨rfl, e69, (by show 2 + 2 * i + 0 ≤ 10; omega), (by show 20 + 324 * i + 0 ≤ 1020; omega)⟩)
            dsimp only [Pt.U, Pt.locs, Pt.cells, Pt.slots] at X71 l71 y71 z71 st71 hQ71
            subst l71 y71 z71
            obtain ⟨rfl, N71q, Kc71, fc71_0, fc71_1, fc71_2, fc71_3⟩ := hQ71
            have K71 : Keep h0 T71.heap [] := K66.trans Kc71 (allS (Or.inr sz_b1) (allS (Or.inr sz_b3_1_2) all0))
            have N71 := Fr.app N66 N71q
            refine own_t st71 ?_
            show Go p.tables e below _ (T71.setTop (mkF m 93 #[.val (.ref a), .val (.ref b1), .val (.ref a), .val (.int (Int32.ofNat ps.length)), .val (.int (Int32.ofNat i)), .val (.int (ps.getD i 0))] [(.ref b1)]))
            refine own_s (fun t k => XS.pop X71.here hx rfl (hb hby d1_93) rfl rfl k) ?_
            show Go p.tables e below _ (T71.setTop (mkF m 94 #[.val (.ref a), .val (.ref b1), .val (.ref a), .val (.int (Int32.ofNat ps.length)), .val (.int (Int32.ofNat i)), .val (.int (ps.getD i 0))] []))
            refine own_s (fun t k => XS.iinc X71.here hx rfl (hb hby d1_94) rfl (l' := #[.val (.ref a), .val (.ref b1), .val (.ref a), .val (.int (Int32.ofNat ps.length)), .val (.int ((Int32.ofNat i) + (1 : Int32))), .val (.int (ps.getD i 0))]) rfl k) ?_
            show Go p.tables e below _ (T71.setTop (mkF m 97 #[.val (.ref a), .val (.ref b1), .val (.ref a), .val (.int (Int32.ofNat ps.length)), .val (.int ((Int32.ofNat i) + (1 : Int32))), .val (.int (ps.getD i 0))] []))
            refine own_s (fun t k => XS.goto X71.here hx rfl (pc0 := 97) (pc' := 16) rfl (hb hby d1_97) (by decide) (by decide) k) ?_
            show Go p.tables e below _ (T71.setTop (mkF m 16 #[.val (.ref a), .val (.ref b1), .val (.ref a), .val (.int (Int32.ofNat ps.length)), .val (.int ((Int32.ofNat i) + (1 : Int32))), .val (.int (ps.getD i 0))] []))
            rw [own_succ (by omega)]
            have Q73 : Exa Z T71.heap b1 "java/lang/StringBuilder" := (Q72.keep Kc71)
            have V74 : Arv Z T71.heap a ka .byte (Int32.ofNat ps.length) (own_vs ps) (.int (0 : Int32)) := (((Va.keep Kc62 (ninS ne4 (ninS ne9 nin0))).keep Kc66 (ninS ne4 (ninS ne9 nin0))).keep Kc71 (ninS ne4 (ninS ne9 nin0)))
            have O75 : Old Z n0 T71.heap := (O68.keep Kc71 (allS g_b1 (allS g_b3_1_2 all0)))
            exact ih (i + 1) T71 T71.heap _ vm _ (((cs ++ [(37 : Int32).toInt8.toInt32]) ++ [(own_gb own_HX (((ps.getD i 0) >>> ((4 : Int32) &&& 31)) &&& (15 : Int32))).toInt8.toInt32]) ++ [(own_gb own_HX ((ps.getD i 0) &&& (15 : Int32))).toInt8.toInt32]) (.val (.int (ps.getD i 0))) (by omega) (by rw [own_enc_step (by omega), ← hcs, (own_p3 hc13 hc18)]; try simp only [List.append_assoc, List.cons_append, List.nil_append]) (X71.more (by show 2 + 2 * i + 0 ≤ 2 + 2 * (i + 1); omega) (by show 20 + 324 * i + 0 ≤ 20 + 324 * (i + 1); omega)) rfl hS (Nat.le_trans (Nat.le_trans (Nat.le_trans hk Kc62.1) Kc66.1) Kc71.1) hZv hov N71 K71 O75 Q73 fc71_0 fc71_1 fc71_2 fc71_3 V74 (Or.inl hI) (One.val rfl)
      ·
        have ne76 : t ≠ b3_1_2 := own_neA Vx Vb (by decide)
        have ne77 : b1 ≠ t := Exa.neArv E Vx (hw _ (List.mem_of_getElem? (i := 6) rfl))
        have ne78 : x ≠ b3_1_2 := Exa.neArv Ex Vb (hw _ (List.mem_of_getElem? (i := 32) rfl))
        have ne79 : x ≠ b1 := ne_exa Ex E (by decide)
        show Go p.tables e below _ (T.setTop (mkF m 16 #[.val (.ref a), .val (.ref b1), .val (.ref a), .val (.int (Int32.ofNat ps.length)), .val (.int (Int32.ofNat i)), b5] []))
        refine own_s (fun t k => XS.iload X.here hx rfl (hb hby d1_16) rfl k) ?_
        show Go p.tables e below _ (T.setTop (mkF m 18 #[.val (.ref a), .val (.ref b1), .val (.ref a), .val (.int (Int32.ofNat ps.length)), .val (.int (Int32.ofNat i)), b5] [(.int (Int32.ofNat i))]))
        refine own_s (fun t k => XS.iloadN X.here hx rfl (hb hby d1_18) rfl k) ?_
        show Go p.tables e below _ (T.setTop (mkF m 19 #[.val (.ref a), .val (.ref b1), .val (.ref a), .val (.int (Int32.ofNat ps.length)), .val (.int (Int32.ofNat i)), b5] [(.int (Int32.ofNat ps.length)), (.int (Int32.ofNat i))]))
        refine own_s (fun t k => XS.icmpNo X.here hx rfl (hb hby d1_19) rfl (tlt (own_ltn (by omega) (by omega))).2.1 k) ?_
        show Go p.tables e below _ (T.setTop (mkF m 22 #[.val (.ref a), .val (.ref b1), .val (.ref a), .val (.int (Int32.ofNat ps.length)), .val (.int (Int32.ofNat i)), b5] []))
        refine own_s (fun t k => XS.aloadN X.here hx rfl (hb hby d1_22) rfl rfl k) ?_
        show Go p.tables e below _ (T.setTop (mkF m 23 #[.val (.ref a), .val (.ref b1), .val (.ref a), .val (.int (Int32.ofNat ps.length)), .val (.int (Int32.ofNat i)), b5] [(.ref a)]))
        refine own_s (fun t k => XS.iload X.here hx rfl (hb hby d1_23) rfl k) ?_
        show Go p.tables e below _ (T.setTop (mkF m 25 #[.val (.ref a), .val (.ref b1), .val (.ref a), .val (.int (Int32.ofNat ps.length)), .val (.int (Int32.ofNat i)), b5] [(.int (Int32.ofNat i)), (.ref a)]))
        obtain ⟨cl80, Ar80, qk80, Sz80, Nn80, Hs80, Gf80⟩ := id Va
        have hin80 : ¬ ((Int32.ofNat i) < 0 ∨ cl80.slots.size ≤ ((Int32.ofNat i)).toNatClampNeg) := inb_of Sz80 ⟨own_nn (by omega), own_ltn (by omega) (by omega)⟩
        have hat80 : cl80.slots[((Int32.ofNat i)).toNatClampNeg]? = some (.int (ps.getD i 0)) := Has.at Hs80 hin80 (by rw [own_tn (by omega)]; exact own_vs_get _ _)
        refine own_s (X.baloadBytes hx (j := (Int32.ofNat i)) (v := (.int (ps.getD i 0))) (by rw [eT]; exact Ar80.1) (State.isArrayOf_alike hZv.alike Ar80.2.1) Ar80.2.2 hin80 hat80 (g := (mkF m 25 #[.val (.ref a), .val (.ref b1), .val (.ref a), .val (.int (Int32.ofNat ps.length)), .val (.int (Int32.ofNat i)), b5] [(.int (Int32.ofNat i)), (.ref a)])) rfl rfl (hb hby d1_25)) ?_
        show Go p.tables e below _ (T.setTop (mkF m 26 #[.val (.ref a), .val (.ref b1), .val (.ref a), .val (.int (Int32.ofNat ps.length)), .val (.int (Int32.ofNat i)), b5] [(.int (ps.getD i 0))]))
        refine own_s (fun t k => XS.istoreS X.here hx rfl (hb hby d1_26) rfl (o := b5) rfl hb5 k) ?_
        show Go p.tables e below _ (T.setTop (mkF m 28 #[.val (.ref a), .val (.ref b1), .val (.ref a), .val (.int (Int32.ofNat ps.length)), .val (.int (Int32.ofNat i)), .val (.int (ps.getD i 0))] []))
        refine own_s (fun t k => XS.iload X.here hx rfl (hb hby d1_28) rfl k) ?_
        show Go p.tables e below _ (T.setTop (mkF m 30 #[.val (.ref a), .val (.ref b1), .val (.ref a), .val (.int (Int32.ofNat ps.length)), .val (.int (Int32.ofNat i)), .val (.int (ps.getD i 0))] [(.int (ps.getD i 0))]))
        refine own_s (fun t k => XS.bipush X.here hx rfl (hb hby d1_30) k) ?_
        show Go p.tables e below _ (T.setTop (mkF m 32 #[.val (.ref a), .val (.ref b1), .val (.ref a), .val (.int (Int32.ofNat ps.length)), .val (.int (Int32.ofNat i)), .val (.int (ps.getD i 0))] [(.int (47 : Int32)), (.int (ps.getD i 0))]))
        by_cases hc81 : (ps.getD i 0) = (47 : Int32)
        ·
          refine own_s (fun t k => XS.icmpYes X.here hx rfl (pc0 := 32) (pc' := 50) rfl (hb hby d1_32) rfl (teq hc81).1 (by decide) (by decide) k) ?_
          show Go p.tables e below _ (T.setTop (mkF m 50 #[.val (.ref a), .val (.ref b1), .val (.ref a), .val (.int (Int32.ofNat ps.length)), .val (.int (Int32.ofNat i)), .val (.int (ps.getD i 0))] []))
          refine own_s (fun t k => XS.aloadN X.here hx rfl (hb hby d1_50) rfl rfl k) ?_
          show Go p.tables e below _ (T.setTop (mkF m 51 #[.val (.ref a), .val (.ref b1), .val (.ref a), .val (.int (Int32.ofNat ps.length)), .val (.int (Int32.ofNat i)), .val (.int (ps.getD i 0))] [(.ref b1)]))
          refine own_s (fun t k => XS.iload X.here hx rfl (hb hby d1_51) rfl k) ?_
          show Go p.tables e below _ (T.setTop (mkF m 53 #[.val (.ref a), .val (.ref b1), .val (.ref a), .val (.int (Int32.ofNat ps.length)), .val (.int (Int32.ofNat i)), .val (.int (ps.getD i 0))] [(.int (ps.getD i 0)), (.ref b1)]))
          refine own_s (fun t k => XS.i2c X.here hx rfl (hb hby d1_53) rfl k) ?_
          show Go p.tables e below _ (T.setTop (mkF m 54 #[.val (.ref a), .val (.ref b1), .val (.ref a), .val (.int (Int32.ofNat ps.length)), .val (.int (Int32.ofNat i)), .val (.int (ps.getD i 0))] [(.int ((ps.getD i 0).toUInt32.toUInt16.toUInt32.toInt32)), (.ref b1)]))
          obtain ⟨cq82, kq82, q82a, q82b, q82c⟩ := isOf hZv eT E
          obtain ⟨_, _, ⟨T82, L82, k82, n82⟩, -, X82, ⟨Lc82, hQ82, l82, y82, z82⟩, st82⟩ := X.virtualBack hx (y := (⟨"java/lang/StringBuilder", "append", "(C)Ljava/lang/StringBuilder;"⟩ : MethodName)) (z := (⟨"java/lang/StringBuilder", "append", "(C)Ljava/lang/StringBuilder;"⟩ : MethodName)) hov (mvT hZv (hw _ (List.mem_of_getElem? (i := 95) rfl))) (mvT hZv (hw _ (List.mem_of_getElem? (i := 96) rfl))) (notFace_of_selects (args := #[]) (mvT hZv (hw _ (List.mem_of_getElem? (i := 98) rfl)))) (mvT hZv (hw _ (List.mem_of_getElem? (i := 98) rfl))) (mvT hZv (hw _ (List.mem_of_getElem? (i := 97) rfl))) (by decide) (backOf (W := 0) (rm18 l Z a0 hw [] b3_1_2 k3_1_2 cs cz b1 ((ps.getD i 0).toUInt32.toUInt16.toUInt32.toInt32) h n0 O S_C hcz E Fv Fc Fn Vb (by first | omega | (simp only [List.length_append, List.length_singleton]; omega)) (own_r3 hbr (own_r4 hc81)) g_b1 g_b3_1_2 ne10) hZv (hw _ (List.mem_of_getElem? (i := 99) rfl)) (hw _ (List.mem_of_getElem? (i := 7) rfl)) (by decide) (by decide)) q82a q82c (g := (mkF m 54 #[.val (.ref a), .val (.ref b1), .val (.ref a), .val (.int (Int32.ofNat ps.length)), .val (.int (Int32.ofNat i)), .val (.int (ps.getD i 0))] [(.int ((ps.getD i 0).toUInt32.toUInt16.toUInt32.toInt32)), (.ref b1)])) rfl (by rw [hml]; rfl) (Steps.refl _) (argsL := [(.int ((ps.getD i 0).toUInt32.toUInt16.toUInt32.toInt32))]) (rest := []) (lenOf pd__C_Ljava_lang_StringBuilder_ rfl) rfl (by show 2 * 0 + _ ≤ _; exact Nat.le_of_eq rfl) (hb hby d1_54) (fun _ _ => ⟨rfl, eT, (by show 2 + 2 * i + 0 ≤ 10; omega), (by show 20 + 324 * i + 0 ≤ 1020; omega)⟩)
          dsimp only [Pt.U, Pt.locs, Pt.cells, Pt.slots] at X82 l82 y82 z82 st82 hQ82
          subst l82 y82 z82
          obtain ⟨rfl, N82q, Kc82, fc82_0, fc82_1, fc82_2, fc82_3⟩ := hQ82
          have K82 : Keep h0 T82.heap [] := K.trans Kc82 (allS (Or.inr sz_b1) (allS (Or.inr sz_b3_1_2) all0))
          have N82 := Fr.app N N82q
          refine own_t st82 ?_
          show Go p.tables e below _ (T82.setTop (mkF m 57 #[.val (.ref a), .val (.ref b1), .val (.ref a), .val (.int (Int32.ofNat ps.length)), .val (.int (Int32.ofNat i)), .val (.int (ps.getD i 0))] [(.ref b1)]))
          refine own_s (fun t k => XS.pop X82.here hx rfl (hb hby d1_57) rfl rfl k) ?_
          show Go p.tables e below _ (T82.setTop (mkF m 58 #[.val (.ref a), .val (.ref b1), .val (.ref a), .val (.int (Int32.ofNat ps.length)), .val (.int (Int32.ofNat i)), .val (.int (ps.getD i 0))] []))
          refine own_s (fun t k => XS.goto X82.here hx rfl (pc0 := 58) (pc' := 94) rfl (hb hby d1_58) (by decide) (by decide) k) ?_
          show Go p.tables e below _ (T82.setTop (mkF m 94 #[.val (.ref a), .val (.ref b1), .val (.ref a), .val (.int (Int32.ofNat ps.length)), .val (.int (Int32.ofNat i)), .val (.int (ps.getD i 0))] []))
          refine own_s (fun t k => XS.iinc X82.here hx rfl (hb hby d1_94) rfl (l' := #[.val (.ref a), .val (.ref b1), .val (.ref a), .val (.int (Int32.ofNat ps.length)), .val (.int ((Int32.ofNat i) + (1 : Int32))), .val (.int (ps.getD i 0))]) rfl k) ?_
          show Go p.tables e below _ (T82.setTop (mkF m 97 #[.val (.ref a), .val (.ref b1), .val (.ref a), .val (.int (Int32.ofNat ps.length)), .val (.int ((Int32.ofNat i) + (1 : Int32))), .val (.int (ps.getD i 0))] []))
          refine own_s (fun t k => XS.goto X82.here hx rfl (pc0 := 97) (pc' := 16) rfl (hb hby d1_97) (by decide) (by decide) k) ?_
          show Go p.tables e below _ (T82.setTop (mkF m 16 #[.val (.ref a), .val (.ref b1), .val (.ref a), .val (.int (Int32.ofNat ps.length)), .val (.int ((Int32.ofNat i) + (1 : Int32))), .val (.int (ps.getD i 0))] []))
          rw [own_succ (by omega)]
          have Q83 : Exa Z T82.heap b1 "java/lang/StringBuilder" := (E.keep Kc82)
          have V84 : Arv Z T82.heap a ka .byte (Int32.ofNat ps.length) (own_vs ps) (.int (0 : Int32)) := (Va.keep Kc82 (ninS ne4 (ninS ne9 nin0)))
          have O85 : Old Z n0 T82.heap := (O.keep Kc82 (allS g_b1 (allS g_b3_1_2 all0)))
          have Q86 : Exa Z T82.heap x "java/lang/String" := (Ex.keep Kc82)
          have F87 : Fld Z T82.heap x "java/lang/String" "coder" "B" (.int (0 : Int32)) := (Fxc.keep Kc82 (ninS ne79 (ninS ne78 nin0)))
          have F88 : Fld Z T82.heap x "java/lang/String" "value" "[B" (.ref t) := (Fxv.keep Kc82 (ninS ne79 (ninS ne78 nin0)))
          have V89 : Arv Z T82.heap t kx .byte (Int32.ofNat own_PL.length) (own_vs own_PL) (.int (0 : Int32)) := (Vx.keep Kc82 (ninS (Ne.symm ne77) (ninS ne76 nin0)))
          exact ih (i + 1) T82 T82.heap _ vm _ (cs ++ [((ps.getD i 0).toUInt32.toUInt16.toUInt32.toInt32).toInt8.toInt32]) (.val (.int (ps.getD i 0))) (by omega) (by rw [own_enc_step (by omega), ← hcs, (own_p1 hc81)]; try simp only [List.append_assoc, List.cons_append, List.nil_append]) (X82.more (by show 2 + 2 * i + 0 ≤ 2 + 2 * (i + 1); omega) (by show 20 + 324 * i + 0 ≤ 20 + 324 * (i + 1); omega)) rfl hS (Nat.le_trans hk Kc82.1) hZv hov N82 K82 O85 Q83 fc82_0 fc82_1 fc82_2 fc82_3 V84 (Or.inr ⟨x, t, kx, hL, Q86, F87, F88, V89⟩) (One.val rfl)
        ·
          refine own_s (fun t k => XS.icmpNo X.here hx rfl (hb hby d1_32) rfl (feq hc81).1 k) ?_
          show Go p.tables e below _ (T.setTop (mkF m 35 #[.val (.ref a), .val (.ref b1), .val (.ref a), .val (.int (Int32.ofNat ps.length)), .val (.int (Int32.ofNat i)), .val (.int (ps.getD i 0))] []))
          refine own_s (fun t k => XS.iload X.here hx rfl (hb hby d1_35) rfl k) ?_
          show Go p.tables e below _ (T.setTop (mkF m 37 #[.val (.ref a), .val (.ref b1), .val (.ref a), .val (.int (Int32.ofNat ps.length)), .val (.int (Int32.ofNat i)), .val (.int (ps.getD i 0))] [(.int (ps.getD i 0))]))
          by_cases hc90 : (0 : Int32) < (ps.getD i 0)
          ·
            refine own_s (fun t k => XS.ifNo X.here hx rfl (hb hby d1_37) rfl ((if0 _ _).trans (tlt hc90).2.2.2) k) ?_
            show Go p.tables e below _ (T.setTop (mkF m 40 #[.val (.ref a), .val (.ref b1), .val (.ref a), .val (.int (Int32.ofNat ps.length)), .val (.int (Int32.ofNat i)), .val (.int (ps.getD i 0))] []))
            refine own_s (ldcAgain X hx hZv hov (hw _ (List.mem_of_getElem? (i := 150) rfl)) hL (g := (mkF m 40 #[.val (.ref a), .val (.ref b1), .val (.ref a), .val (.int (Int32.ofNat ps.length)), .val (.int (Int32.ofNat i)), .val (.int (ps.getD i 0))] [])) rfl (hb hby d1_40)) ?_
            show Go p.tables e below _ (T.setTop (mkF m 42 #[.val (.ref a), .val (.ref b1), .val (.ref a), .val (.int (Int32.ofNat ps.length)), .val (.int (Int32.ofNat i)), .val (.int (ps.getD i 0))] [(.ref x)]))
            refine own_s (fun t k => XS.iload X.here hx rfl (hb hby d1_42) rfl k) ?_
            show Go p.tables e below _ (T.setTop (mkF m 44 #[.val (.ref a), .val (.ref b1), .val (.ref a), .val (.int (Int32.ofNat ps.length)), .val (.int (Int32.ofNat i)), .val (.int (ps.getD i 0))] [(.int (ps.getD i 0)), (.ref x)]))
            obtain ⟨cq91, kq91, q91a, q91b, q91c⟩ := isOf hZv eT Ex
            obtain ⟨_, _, ⟨T91, L91, k91, n91⟩, -, X91, ⟨Lc91, hQ91, l91, y91, z91⟩, st91⟩ := X.virtualBack hx (y := (⟨"java/lang/String", "indexOf", "(I)I"⟩ : MethodName)) (z := (⟨"java/lang/String", "indexOf", "(I)I"⟩ : MethodName)) hov (mvT hZv (hw _ (List.mem_of_getElem? (i := 153) rfl))) (mvT hZv (hw _ (List.mem_of_getElem? (i := 154) rfl))) (notFace_of_selects (args := #[]) (mvT hZv (hw _ (List.mem_of_getElem? (i := 156) rfl)))) (mvT hZv (hw _ (List.mem_of_getElem? (i := 156) rfl))) (mvT hZv (hw _ (List.mem_of_getElem? (i := 155) rfl))) (by decide) (backOf (W := 0) (rm31 l Z a0 hw [] cz own_PL t kx x (ps.getD i 0) h n0 O S_C hcz (by decide) (own_r2 hc90) (own_r1 hbr) (by decide) Fxv Fxc Ex Vx) hZv (hw _ (List.mem_of_getElem? (i := 157) rfl)) (hw _ (List.mem_of_getElem? (i := 21) rfl)) (by decide) (by decide)) q91a q91c (g := (mkF m 44 #[.val (.ref a), .val (.ref b1), .val (.ref a), .val (.int (Int32.ofNat ps.length)), .val (.int (Int32.ofNat i)), .val (.int (ps.getD i 0))] [(.int (ps.getD i 0)), (.ref x)])) rfl (by rw [hml]; rfl) (Steps.refl _) (argsL := [(.int (ps.getD i 0))]) (rest := []) (lenOf pd__I_I rfl) rfl (by show 2 * 0 + _ ≤ _; exact Nat.le_of_eq rfl) (hb hby d1_44) (fun _ _ => ⟨rfl, eT, (by show 2 + 2 * i + 0 ≤ 10; omega), (by show 20 + 324 * i + 0 ≤ 1020; omega)⟩)
            dsimp only [Pt.U, Pt.locs, Pt.cells, Pt.slots] at X91 l91 y91 z91 st91 hQ91
            subst l91 y91 z91
            obtain ⟨rfl, N91q, eq91⟩ := hQ91
            have N91 := Fr.app N N91q
            refine own_t st91 ?_
            show Go p.tables e below _ (T91.setTop (mkF m 47 #[.val (.ref a), .val (.ref b1), .val (.ref a), .val (.int (Int32.ofNat ps.length)), .val (.int (Int32.ofNat i)), .val (.int (ps.getD i 0))] [(.int (own_find own_PL ((ps.getD i 0).toInt8.toInt32) 0))]))
            by_cases hc92 : (own_find own_PL ((ps.getD i 0).toInt8.toInt32) 0) < (0 : Int32)
            ·
              refine own_s (fun t k => XS.ifYes X91.here hx rfl (pc0 := 47) (pc' := 61) rfl (hb hby d1_47) rfl ((if0 _ _).trans (tlt hc92).1) (by decide) (by decide) k) ?_
              show Go p.tables e below _ (T91.setTop (mkF m 61 #[.val (.ref a), .val (.ref b1), .val (.ref a), .val (.int (Int32.ofNat ps.length)), .val (.int (Int32.ofNat i)), .val (.int (ps.getD i 0))] []))
              refine own_s (fun t k => XS.aloadN X91.here hx rfl (hb hby d1_61) rfl rfl k) ?_
              show Go p.tables e below _ (T91.setTop (mkF m 62 #[.val (.ref a), .val (.ref b1), .val (.ref a), .val (.int (Int32.ofNat ps.length)), .val (.int (Int32.ofNat i)), .val (.int (ps.getD i 0))] [(.ref b1)]))
              refine own_s (fun t k => XS.bipush X91.here hx rfl (hb hby d1_62) k) ?_
              show Go p.tables e below _ (T91.setTop (mkF m 64 #[.val (.ref a), .val (.ref b1), .val (.ref a), .val (.int (Int32.ofNat ps.length)), .val (.int (Int32.ofNat i)), .val (.int (ps.getD i 0))] [(.int (37 : Int32)), (.ref b1)]))
              obtain ⟨cq93, kq93, q93a, q93b, q93c⟩ := isOf hZv eq91 E
              obtain ⟨_, _, ⟨T93, L93, k93, n93⟩, -, X93, ⟨Lc93, hQ93, l93, y93, z93⟩, st93⟩ := X91.virtualBack hx (y := (⟨"java/lang/StringBuilder", "append", "(C)Ljava/lang/StringBuilder;"⟩ : MethodName)) (z := (⟨"java/lang/StringBuilder", "append", "(C)Ljava/lang/StringBuilder;"⟩ : MethodName)) hov (mvT hZv (hw _ (List.mem_of_getElem? (i := 95) rfl))) (mvT hZv (hw _ (List.mem_of_getElem? (i := 96) rfl))) (notFace_of_selects (args := #[]) (mvT hZv (hw _ (List.mem_of_getElem? (i := 98) rfl)))) (mvT hZv (hw _ (List.mem_of_getElem? (i := 98) rfl))) (mvT hZv (hw _ (List.mem_of_getElem? (i := 97) rfl))) (by decide) (backOf (W := 0) (rm18 l Z a0 hw [] b3_1_2 k3_1_2 cs cz b1 (37 : Int32) h n0 O S_C hcz E Fv Fc Fn Vb (by first | omega | (simp only [List.length_append, List.length_singleton]; omega)) (by decide) g_b1 g_b3_1_2 ne10) hZv (hw _ (List.mem_of_getElem? (i := 99) rfl)) (hw _ (List.mem_of_getElem? (i := 7) rfl)) (by decide) (by decide)) q93a q93c (g := (mkF m 64 #[.val (.ref a), .val (.ref b1), .val (.ref a), .val (.int (Int32.ofNat ps.length)), .val (.int (Int32.ofNat i)), .val (.int (ps.getD i 0))] [(.int (37 : Int32)), (.ref b1)])) rfl (by rw [hml]; rfl) (Steps.refl _) (argsL := [(.int (37 : Int32))]) (rest := []) (lenOf pd__C_Ljava_lang_StringBuilder_ rfl) rfl (by show 2 * 0 + _ ≤ _; exact Nat.le_of_eq rfl) (hb hby d1_64) (fun _ _ => ⟨rfl, eq91, (by show 2 + 2 * i + 0 ≤ 10; omega), (by show 20 + 324 * i + 0 ≤ 1020; omega)⟩)
              dsimp only [Pt.U, Pt.locs, Pt.cells, Pt.slots] at X93 l93 y93 z93 st93 hQ93
              subst l93 y93 z93
              obtain ⟨rfl, N93q, Kc93, fc93_0, fc93_1, fc93_2, fc93_3⟩ := hQ93
              have K93 : Keep h0 T93.heap [] := K.trans Kc93 (allS (Or.inr sz_b1) (allS (Or.inr sz_b3_1_2) all0))
              have N93 := Fr.app N91 N93q
              refine own_t st93 ?_
              show Go p.tables e below _ (T93.setTop (mkF m 67 #[.val (.ref a), .val (.ref b1), .val (.ref a), .val (.int (Int32.ofNat ps.length)), .val (.int (Int32.ofNat i)), .val (.int (ps.getD i 0))] [(.ref b1)]))
              have O94 : Old Z n0 T93.heap := (O.keep Kc93 (allS g_b1 (allS g_b3_1_2 all0)))
              obtain ⟨T95, X95, e95, st95⟩ := getS2 X93 hx hZv hov (host := "") (Or.inl (hw _ (List.mem_of_getElem? (i := 114) rfl))) Via.refl rfl (S_H.ext O94.2) (g := (mkF m 67 #[.val (.ref a), .val (.ref b1), .val (.ref a), .val (.int (Int32.ofNat ps.length)), .val (.int (Int32.ofNat i)), .val (.int (ps.getD i 0))] [(.ref b1)])) rfl (hb hby d1_67)
              refine own_s st95 ?_
              show Go p.tables e below _ (T95.setTop (mkF m 70 #[.val (.ref a), .val (.ref b1), .val (.ref a), .val (.int (Int32.ofNat ps.length)), .val (.int (Int32.ofNat i)), .val (.int (ps.getD i 0))] [(.ref uH), (.ref b1)]))
              refine own_s (fun t k => XS.iload X95.here hx rfl (hb hby d1_70) rfl k) ?_
              show Go p.tables e below _ (T95.setTop (mkF m 72 #[.val (.ref a), .val (.ref b1), .val (.ref a), .val (.int (Int32.ofNat ps.length)), .val (.int (Int32.ofNat i)), .val (.int (ps.getD i 0))] [(.int (ps.getD i 0)), (.ref uH), (.ref b1)]))
              refine own_s (fun t k => XS.iconst X95.here hx rfl (hb hby d1_72) k) ?_
              show Go p.tables e below _ (T95.setTop (mkF m 73 #[.val (.ref a), .val (.ref b1), .val (.ref a), .val (.int (Int32.ofNat ps.length)), .val (.int (Int32.ofNat i)), .val (.int (ps.getD i 0))] [(.int (4 : Int32)), (.int (ps.getD i 0)), (.ref uH), (.ref b1)]))
              refine own_s (fun t k => XS.ishr X95.here hx rfl (hb hby d1_73) rfl k) ?_
              show Go p.tables e below _ (T95.setTop (mkF m 74 #[.val (.ref a), .val (.ref b1), .val (.ref a), .val (.int (Int32.ofNat ps.length)), .val (.int (Int32.ofNat i)), .val (.int (ps.getD i 0))] [(.int ((ps.getD i 0) >>> ((4 : Int32) &&& 31))), (.ref uH), (.ref b1)]))
              refine own_s (fun t k => XS.bipush X95.here hx rfl (hb hby d1_74) k) ?_
              show Go p.tables e below _ (T95.setTop (mkF m 76 #[.val (.ref a), .val (.ref b1), .val (.ref a), .val (.int (Int32.ofNat ps.length)), .val (.int (Int32.ofNat i)), .val (.int (ps.getD i 0))] [(.int (15 : Int32)), (.int ((ps.getD i 0) >>> ((4 : Int32) &&& 31))), (.ref uH), (.ref b1)]))
              refine own_s (fun t k => XS.iand X95.here hx rfl (hb hby d1_76) rfl k) ?_
              show Go p.tables e below _ (T95.setTop (mkF m 77 #[.val (.ref a), .val (.ref b1), .val (.ref a), .val (.int (Int32.ofNat ps.length)), .val (.int (Int32.ofNat i)), .val (.int (ps.getD i 0))] [(.int (((ps.getD i 0) >>> ((4 : Int32) &&& 31)) &&& (15 : Int32))), (.ref uH), (.ref b1)]))
              obtain ⟨cl96, Ar96, qk96, Sz96, Nn96, Hs96, Gf96⟩ := id (OV_H.ext O94.2)
              have hin96 : ¬ ((((ps.getD i 0) >>> ((4 : Int32) &&& 31)) &&& (15 : Int32)) < 0 ∨ cl96.slots.size ≤ ((((ps.getD i 0) >>> ((4 : Int32) &&& 31)) &&& (15 : Int32))).toNatClampNeg) := inb_of Sz96 (own_nib _)
              have hat96 : cl96.slots[((((ps.getD i 0) >>> ((4 : Int32) &&& 31)) &&& (15 : Int32))).toNatClampNeg]? = some (.int (own_gb own_HX (((ps.getD i 0) >>> ((4 : Int32) &&& 31)) &&& (15 : Int32)))) := Has.at Hs96 hin96 (own_vs_get _ _)
              refine own_s (X95.caload hx (j := (((ps.getD i 0) >>> ((4 : Int32) &&& 31)) &&& (15 : Int32))) (v := (.int (own_gb own_HX (((ps.getD i 0) >>> ((4 : Int32) &&& 31)) &&& (15 : Int32))))) (by rw [e95]; exact Ar96.1) (State.isArrayOf_alike hZv.alike Ar96.2.1) Ar96.2.2 hin96 hat96 (g := (mkF m 77 #[.val (.ref a), .val (.ref b1), .val (.ref a), .val (.int (Int32.ofNat ps.length)), .val (.int (Int32.ofNat i)), .val (.int (ps.getD i 0))] [(.int (((ps.getD i 0) >>> ((4 : Int32) &&& 31)) &&& (15 : Int32))), (.ref uH), (.ref b1)])) rfl rfl (hb hby d1_77)) ?_
              show Go p.tables e below _ (T95.setTop (mkF m 78 #[.val (.ref a), .val (.ref b1), .val (.ref a), .val (.int (Int32.ofNat ps.length)), .val (.int (Int32.ofNat i)), .val (.int (ps.getD i 0))] [(.int (own_gb own_HX (((ps.getD i 0) >>> ((4 : Int32) &&& 31)) &&& (15 : Int32)))), (.ref b1)]))
              have Q98 : Exa Z T93.heap b1 "java/lang/StringBuilder" := (E.keep Kc93)
              obtain ⟨cq97, kq97, q97a, q97b, q97c⟩ := isOf hZv e95 Q98
              obtain ⟨_, _, ⟨T97, L97, k97, n97⟩, -, X97, ⟨Lc97, hQ97, l97, y97, z97⟩, st97⟩ := X95.virtualBack hx (y := (⟨"java/lang/StringBuilder", "append", "(C)Ljava/lang/StringBuilder;"⟩ : MethodName)) (z := (⟨"java/lang/StringBuilder", "append", "(C)Ljava/lang/StringBuilder;"⟩ : MethodName)) hov (mvT hZv (hw _ (List.mem_of_getElem? (i := 95) rfl))) (mvT hZv (hw _ (List.mem_of_getElem? (i := 96) rfl))) (notFace_of_selects (args := #[]) (mvT hZv (hw _ (List.mem_of_getElem? (i := 98) rfl)))) (mvT hZv (hw _ (List.mem_of_getElem? (i := 98) rfl))) (mvT hZv (hw _ (List.mem_of_getElem? (i := 97) rfl))) (by decide) (backOf (W := 0) (rm18 l Z a0 hw [] b3_1_2 k3_1_2 (cs ++ [(37 : Int32).toInt8.toInt32]) cz b1 (own_gb own_HX (((ps.getD i 0) >>> ((4 : Int32) &&& 31)) &&& (15 : Int32))) T93.heap n0 O94 S_C hcz Q98 fc93_0 fc93_1 fc93_2 fc93_3 (by first | omega | (simp only [List.length_append, List.length_singleton]; omega)) (own_hx _) g_b1 g_b3_1_2 ne10) hZv (hw _ (List.mem_of_getElem? (i := 99) rfl)) (hw _ (List.mem_of_getElem? (i := 7) rfl)) (by decide) (by decide)) q97a q97c (g := (mkF m 78 #[.val (.ref a), .val (.ref b1), .val (.ref a), .val (.int (Int32.ofNat ps.length)), .val (.int (Int32.ofNat i)), .val (.int (ps.getD i 0))] [(.int (own_gb own_HX (((ps.getD i 0) >>> ((4 : Int32) &&& 31)) &&& (15 : Int32)))), (.ref b1)])) rfl (by rw [hml]; rfl) (Steps.refl _) (argsL := [(.int (own_gb own_HX (((ps.getD i 0) >>> ((4 : Int32) &&& 31)) &&& (15 : Int32))))]) (rest := []) (lenOf pd__C_Ljava_lang_StringBuilder_ rfl) rfl (by show 2 * 0 + _ ≤ _; exact Nat.le_of_eq rfl) (hb hby d1_78) (fun _ _ => ⟨rfl, e95, (by show 2 + 2 * i + 0 ≤ 10; omega), (by show 20 + 324 * i + 0 ≤ 1020; omega)⟩)
              dsimp only [Pt.U, Pt.locs, Pt.cells, Pt.slots] at X97 l97 y97 z97 st97 hQ97
              subst l97 y97 z97
              obtain ⟨rfl, N97q, Kc97, fc97_0, fc97_1, fc97_2, fc97_3⟩ := hQ97
              have K97 : Keep h0 T97.heap [] := K93.trans Kc97 (allS (Or.inr sz_b1) (allS (Or.inr sz_b3_1_2) all0))
              have N97 := Fr.app N93 N97q
              refine own_t st97 ?_
              show Go p.tables e below _ (T97.setTop (mkF m 81 #[.val (.ref a), .val (.ref b1), .val (.ref a), .val (.int (Int32.ofNat ps.length)), .val (.int (Int32.ofNat i)), .val (.int (ps.getD i 0))] [(.ref b1)]))
              have O99 : Old Z n0 T97.heap := (O94.keep Kc97 (allS g_b1 (allS g_b3_1_2 all0)))
              obtain ⟨T100, X100, e100, st100⟩ := getS2 X97 hx hZv hov (host := "") (Or.inl (hw _ (List.mem_of_getElem? (i := 114) rfl))) Via.refl rfl (S_H.ext O99.2) (g := (mkF m 81 #[.val (.ref a), .val (.ref b1), .val (.ref a), .val (.int (Int32.ofNat ps.length)), .val (.int (Int32.ofNat i)), .val (.int (ps.getD i 0))] [(.ref b1)])) rfl (hb hby d1_81)
              refine own_s st100 ?_
              show Go p.tables e below _ (T100.setTop (mkF m 84 #[.val (.ref a), .val (.ref b1), .val (.ref a), .val (.int (Int32.ofNat ps.length)), .val (.int (Int32.ofNat i)), .val (.int (ps.getD i 0))] [(.ref uH), (.ref b1)]))
              refine own_s (fun t k => XS.iload X100.here hx rfl (hb hby d1_84) rfl k) ?_
              show Go p.tables e below _ (T100.setTop (mkF m 86 #[.val (.ref a), .val (.ref b1), .val (.ref a), .val (.int (Int32.ofNat ps.length)), .val (.int (Int32.ofNat i)), .val (.int (ps.getD i 0))] [(.int (ps.getD i 0)), (.ref uH), (.ref b1)]))
              refine own_s (fun t k => XS.bipush X100.here hx rfl (hb hby d1_86) k) ?_
              show Go p.tables e below _ (T100.setTop (mkF m 88 #[.val (.ref a), .val (.ref b1), .val (.ref a), .val (.int (Int32.ofNat ps.length)), .val (.int (Int32.ofNat i)), .val (.int (ps.getD i 0))] [(.int (15 : Int32)), (.int (ps.getD i 0)), (.ref uH), (.ref b1)]))
              refine own_s (fun t k => XS.iand X100.here hx rfl (hb hby d1_88) rfl k) ?_
              show Go p.tables e below _ (T100.setTop (mkF m 89 #[.val (.ref a), .val (.ref b1), .val (.ref a), .val (.int (Int32.ofNat ps.length)), .val (.int (Int32.ofNat i)), .val (.int (ps.getD i 0))] [(.int ((ps.getD i 0) &&& (15 : Int32))), (.ref uH), (.ref b1)]))
              obtain ⟨cl101, Ar101, qk101, Sz101, Nn101, Hs101, Gf101⟩ := id (OV_H.ext O99.2)
              have hin101 : ¬ (((ps.getD i 0) &&& (15 : Int32)) < 0 ∨ cl101.slots.size ≤ (((ps.getD i 0) &&& (15 : Int32))).toNatClampNeg) := inb_of Sz101 (own_nib _)
              have hat101 : cl101.slots[(((ps.getD i 0) &&& (15 : Int32))).toNatClampNeg]? = some (.int (own_gb own_HX ((ps.getD i 0) &&& (15 : Int32)))) := Has.at Hs101 hin101 (own_vs_get _ _)
              refine own_s (X100.caload hx (j := ((ps.getD i 0) &&& (15 : Int32))) (v := (.int (own_gb own_HX ((ps.getD i 0) &&& (15 : Int32))))) (by rw [e100]; exact Ar101.1) (State.isArrayOf_alike hZv.alike Ar101.2.1) Ar101.2.2 hin101 hat101 (g := (mkF m 89 #[.val (.ref a), .val (.ref b1), .val (.ref a), .val (.int (Int32.ofNat ps.length)), .val (.int (Int32.ofNat i)), .val (.int (ps.getD i 0))] [(.int ((ps.getD i 0) &&& (15 : Int32))), (.ref uH), (.ref b1)])) rfl rfl (hb hby d1_89)) ?_
              show Go p.tables e below _ (T100.setTop (mkF m 90 #[.val (.ref a), .val (.ref b1), .val (.ref a), .val (.int (Int32.ofNat ps.length)), .val (.int (Int32.ofNat i)), .val (.int (ps.getD i 0))] [(.int (own_gb own_HX ((ps.getD i 0) &&& (15 : Int32)))), (.ref b1)]))
              have Q103 : Exa Z T97.heap b1 "java/lang/StringBuilder" := (Q98.keep Kc97)
              obtain ⟨cq102, kq102, q102a, q102b, q102c⟩ := isOf hZv e100 Q103
              obtain ⟨_, _, ⟨T102, L102, k102, n102⟩, -, X102, ⟨Lc102, hQ102, l102, y102, z102⟩, st102⟩ := X100.virtualBack hx (y := (⟨"java/lang/StringBuilder", "append", "(C)Ljava/lang/StringBuilder;"⟩ : MethodName)) (z := (⟨"java/lang/StringBuilder", "append", "(C)Ljava/lang/StringBuilder;"⟩ : MethodName)) hov (mvT hZv (hw _ (List.mem_of_getElem? (i := 95) rfl))) (mvT hZv (hw _ (List.mem_of_getElem? (i := 96) rfl))) (notFace_of_selects (args := #[]) (mvT hZv (hw _ (List.mem_of_getElem? (i := 98) rfl)))) (mvT hZv (hw _ (List.mem_of_getElem? (i := 98) rfl))) (mvT hZv (hw _ (List.mem_of_getElem? (i := 97) rfl))) (by decide) (backOf (W := 0) (rm18 l Z a0 hw [] b3_1_2 k3_1_2 ((cs ++ [(37 : Int32).toInt8.toInt32]) ++ [(own_gb own_HX (((ps.getD i 0) >>> ((4 : Int32) &&& 31)) &&& (15 : Int32))).toInt8.toInt32]) cz b1 (own_gb own_HX ((ps.getD i 0) &&& (15 : Int32))) T97.heap n0 O99 S_C hcz Q103 fc97_0 fc97_1 fc97_2 fc97_3 (by first | omega | (simp only [List.length_append, List.length_singleton]; omega)) (own_hx _) g_b1 g_b3_1_2 ne10) hZv (hw _ (List.mem_of_getElem? (i := 99) rfl)) (hw _ (List.mem_of_getElem? (i := 7) rfl)) (by decide) (by decide)) q102a q102c (g := (mkF m 90 #[.val (.ref a), .val (.ref b1), .val (.ref a), .val (.int (Int32.ofNat ps.length)), .val (.int (Int32.ofNat i)), .val (.int (ps.getD i 0))] [(.int (own_gb own_HX ((ps.getD i 0) &&& (15 : Int32)))), (.ref b1)])) rfl (by rw [hml]; rfl) (Steps.refl _) (argsL := [(.int (own_gb own_HX ((ps.getD i 0) &&& (15 : Int32))))]) (rest := []) (lenOf pd__C_Ljava_lang_StringBuilder_ rfl) rfl (by show 2 * 0 + _ ≤ _; exact Nat.le_of_eq rfl) (hb hby d1_90) (fun _ _ => ⟨rfl, e100, (by show 2 + 2 * i + 0 ≤ 10; omega), (by show 20 + 324 * i + 0 ≤ 1020; omega)⟩)
              dsimp only [Pt.U, Pt.locs, Pt.cells, Pt.slots] at X102 l102 y102 z102 st102 hQ102
              subst l102 y102 z102
              obtain ⟨rfl, N102q, Kc102, fc102_0, fc102_1, fc102_2, fc102_3⟩ := hQ102
              have K102 : Keep h0 T102.heap [] := K97.trans Kc102 (allS (Or.inr sz_b1) (allS (Or.inr sz_b3_1_2) all0))
              have N102 := Fr.app N97 N102q
              refine own_t st102 ?_
              show Go p.tables e below _ (T102.setTop (mkF m 93 #[.val (.ref a), .val (.ref b1), .val (.ref a), .val (.int (Int32.ofNat ps.length)), .val (.int (Int32.ofNat i)), .val (.int (ps.getD i 0))] [(.ref b1)]))
              refine own_s (fun t k => XS.pop X102.here hx rfl (hb hby d1_93) rfl rfl k) ?_
              show Go p.tables e below _ (T102.setTop (mkF m 94 #[.val (.ref a), .val (.ref b1), .val (.ref a), .val (.int (Int32.ofNat ps.length)), .val (.int (Int32.ofNat i)), .val (.int (ps.getD i 0))] []))
              refine own_s (fun t k => XS.iinc X102.here hx rfl (hb hby d1_94) rfl (l' := #[.val (.ref a), .val (.ref b1), .val (.ref a), .val (.int (Int32.ofNat ps.length)), .val (.int ((Int32.ofNat i) + (1 : Int32))), .val (.int (ps.getD i 0))]) rfl k) ?_
              show Go p.tables e below _ (T102.setTop (mkF m 97 #[.val (.ref a), .val (.ref b1), .val (.ref a), .val (.int (Int32.ofNat ps.length)), .val (.int ((Int32.ofNat i) + (1 : Int32))), .val (.int (ps.getD i 0))] []))
              refine own_s (fun t k => XS.goto X102.here hx rfl (pc0 := 97) (pc' := 16) rfl (hb hby d1_97) (by decide) (by decide) k) ?_
              show Go p.tables e below _ (T102.setTop (mkF m 16 #[.val (.ref a), .val (.ref b1), .val (.ref a), .val (.int (Int32.ofNat ps.length)), .val (.int ((Int32.ofNat i) + (1 : Int32))), .val (.int (ps.getD i 0))] []))
              rw [own_succ (by omega)]
              have Q104 : Exa Z T102.heap b1 "java/lang/StringBuilder" := (Q103.keep Kc102)
              have V105 : Arv Z T102.heap a ka .byte (Int32.ofNat ps.length) (own_vs ps) (.int (0 : Int32)) := (((Va.keep Kc93 (ninS ne4 (ninS ne9 nin0))).keep Kc97 (ninS ne4 (ninS ne9 nin0))).keep Kc102 (ninS ne4 (ninS ne9 nin0)))
              have O106 : Old Z n0 T102.heap := (O99.keep Kc102 (allS g_b1 (allS g_b3_1_2 all0)))
              have Q107 : Exa Z T102.heap x "java/lang/String" := (((Ex.keep Kc93).keep Kc97).keep Kc102)
              have F108 : Fld Z T102.heap x "java/lang/String" "coder" "B" (.int (0 : Int32)) := (((Fxc.keep Kc93 (ninS ne79 (ninS ne78 nin0))).keep Kc97 (ninS ne79 (ninS ne78 nin0))).keep Kc102 (ninS ne79 (ninS ne78 nin0)))
              have F109 : Fld Z T102.heap x "java/lang/String" "value" "[B" (.ref t) := (((Fxv.keep Kc93 (ninS ne79 (ninS ne78 nin0))).keep Kc97 (ninS ne79 (ninS ne78 nin0))).keep Kc102 (ninS ne79 (ninS ne78 nin0)))
              have V110 : Arv Z T102.heap t kx .byte (Int32.ofNat own_PL.length) (own_vs own_PL) (.int (0 : Int32)) := (((Vx.keep Kc93 (ninS (Ne.symm ne77) (ninS ne76 nin0))).keep Kc97 (ninS (Ne.symm ne77) (ninS ne76 nin0))).keep Kc102 (ninS (Ne.symm ne77) (ninS ne76 nin0)))
              exact ih (i + 1) T102 T102.heap _ vm _ (((cs ++ [(37 : Int32).toInt8.toInt32]) ++ [(own_gb own_HX (((ps.getD i 0) >>> ((4 : Int32) &&& 31)) &&& (15 : Int32))).toInt8.toInt32]) ++ [(own_gb own_HX ((ps.getD i 0) &&& (15 : Int32))).toInt8.toInt32]) (.val (.int (ps.getD i 0))) (by omega) (by rw [own_enc_step (by omega), ← hcs, (own_p4 hc81 hc92)]; try simp only [List.append_assoc, List.cons_append, List.nil_append]) (X102.more (by show 2 + 2 * i + 0 ≤ 2 + 2 * (i + 1); omega) (by show 20 + 324 * i + 0 ≤ 20 + 324 * (i + 1); omega)) rfl hS (Nat.le_trans (Nat.le_trans (Nat.le_trans hk Kc93.1) Kc97.1) Kc102.1) hZv hov N102 K102 O106 Q104 fc102_0 fc102_1 fc102_2 fc102_3 V105 (Or.inr ⟨x, t, kx, hL, Q107, F108, F109, V110⟩) (One.val rfl)
            ·
              refine own_s (fun t k => XS.ifNo X91.here hx rfl (hb hby d1_47) rfl ((if0 _ _).trans (flt hc92).1) k) ?_
              show Go p.tables e below _ (T91.setTop (mkF m 50 #[.val (.ref a), .val (.ref b1), .val (.ref a), .val (.int (Int32.ofNat ps.length)), .val (.int (Int32.ofNat i)), .val (.int (ps.getD i 0))] []))
              refine own_s (fun t k => XS.aloadN X91.here hx rfl (hb hby d1_50) rfl rfl k) ?_
              show Go p.tables e below _ (T91.setTop (mkF m 51 #[.val (.ref a), .val (.ref b1), .val (.ref a), .val (.int (Int32.ofNat ps.length)), .val (.int (Int32.ofNat i)), .val (.int (ps.getD i 0))] [(.ref b1)]))
              refine own_s (fun t k => XS.iload X91.here hx rfl (hb hby d1_51) rfl k) ?_
              show Go p.tables e below _ (T91.setTop (mkF m 53 #[.val (.ref a), .val (.ref b1), .val (.ref a), .val (.int (Int32.ofNat ps.length)), .val (.int (Int32.ofNat i)), .val (.int (ps.getD i 0))] [(.int (ps.getD i 0)), (.ref b1)]))
              refine own_s (fun t k => XS.i2c X91.here hx rfl (hb hby d1_53) rfl k) ?_
              show Go p.tables e below _ (T91.setTop (mkF m 54 #[.val (.ref a), .val (.ref b1), .val (.ref a), .val (.int (Int32.ofNat ps.length)), .val (.int (Int32.ofNat i)), .val (.int (ps.getD i 0))] [(.int ((ps.getD i 0).toUInt32.toUInt16.toUInt32.toInt32)), (.ref b1)]))
              obtain ⟨cq111, kq111, q111a, q111b, q111c⟩ := isOf hZv eq91 E
              obtain ⟨_, _, ⟨T111, L111, k111, n111⟩, -, X111, ⟨Lc111, hQ111, l111, y111, z111⟩, st111⟩ := X91.virtualBack hx (y := (⟨"java/lang/StringBuilder", "append", "(C)Ljava/lang/StringBuilder;"⟩ : MethodName)) (z := (⟨"java/lang/StringBuilder", "append", "(C)Ljava/lang/StringBuilder;"⟩ : MethodName)) hov (mvT hZv (hw _ (List.mem_of_getElem? (i := 95) rfl))) (mvT hZv (hw _ (List.mem_of_getElem? (i := 96) rfl))) (notFace_of_selects (args := #[]) (mvT hZv (hw _ (List.mem_of_getElem? (i := 98) rfl)))) (mvT hZv (hw _ (List.mem_of_getElem? (i := 98) rfl))) (mvT hZv (hw _ (List.mem_of_getElem? (i := 97) rfl))) (by decide) (backOf (W := 0) (rm18 l Z a0 hw [] b3_1_2 k3_1_2 cs cz b1 ((ps.getD i 0).toUInt32.toUInt16.toUInt32.toInt32) h n0 O S_C hcz E Fv Fc Fn Vb (by first | omega | (simp only [List.length_append, List.length_singleton]; omega)) (own_r3 hbr hc90) g_b1 g_b3_1_2 ne10) hZv (hw _ (List.mem_of_getElem? (i := 99) rfl)) (hw _ (List.mem_of_getElem? (i := 7) rfl)) (by decide) (by decide)) q111a q111c (g := (mkF m 54 #[.val (.ref a), .val (.ref b1), .val (.ref a), .val (.int (Int32.ofNat ps.length)), .val (.int (Int32.ofNat i)), .val (.int (ps.getD i 0))] [(.int ((ps.getD i 0).toUInt32.toUInt16.toUInt32.toInt32)), (.ref b1)])) rfl (by rw [hml]; rfl) (Steps.refl _) (argsL := [(.int ((ps.getD i 0).toUInt32.toUInt16.toUInt32.toInt32))]) (rest := []) (lenOf pd__C_Ljava_lang_StringBuilder_ rfl) rfl (by show 2 * 0 + _ ≤ _; exact Nat.le_of_eq rfl) (hb hby d1_54) (fun _ _ => ⟨rfl, eq91, (by show 2 + 2 * i + 0 ≤ 10; omega), (by show 20 + 324 * i + 0 ≤ 1020; omega)⟩)
              dsimp only [Pt.U, Pt.locs, Pt.cells, Pt.slots] at X111 l111 y111 z111 st111 hQ111
              subst l111 y111 z111
              obtain ⟨rfl, N111q, Kc111, fc111_0, fc111_1, fc111_2, fc111_3⟩ := hQ111
              have K111 : Keep h0 T111.heap [] := K.trans Kc111 (allS (Or.inr sz_b1) (allS (Or.inr sz_b3_1_2) all0))
              have N111 := Fr.app N91 N111q
              refine own_t st111 ?_
              show Go p.tables e below _ (T111.setTop (mkF m 57 #[.val (.ref a), .val (.ref b1), .val (.ref a), .val (.int (Int32.ofNat ps.length)), .val (.int (Int32.ofNat i)), .val (.int (ps.getD i 0))] [(.ref b1)]))
              refine own_s (fun t k => XS.pop X111.here hx rfl (hb hby d1_57) rfl rfl k) ?_
              show Go p.tables e below _ (T111.setTop (mkF m 58 #[.val (.ref a), .val (.ref b1), .val (.ref a), .val (.int (Int32.ofNat ps.length)), .val (.int (Int32.ofNat i)), .val (.int (ps.getD i 0))] []))
              refine own_s (fun t k => XS.goto X111.here hx rfl (pc0 := 58) (pc' := 94) rfl (hb hby d1_58) (by decide) (by decide) k) ?_
              show Go p.tables e below _ (T111.setTop (mkF m 94 #[.val (.ref a), .val (.ref b1), .val (.ref a), .val (.int (Int32.ofNat ps.length)), .val (.int (Int32.ofNat i)), .val (.int (ps.getD i 0))] []))
              refine own_s (fun t k => XS.iinc X111.here hx rfl (hb hby d1_94) rfl (l' := #[.val (.ref a), .val (.ref b1), .val (.ref a), .val (.int (Int32.ofNat ps.length)), .val (.int ((Int32.ofNat i) + (1 : Int32))), .val (.int (ps.getD i 0))]) rfl k) ?_
              show Go p.tables e below _ (T111.setTop (mkF m 97 #[.val (.ref a), .val (.ref b1), .val (.ref a), .val (.int (Int32.ofNat ps.length)), .val (.int ((Int32.ofNat i) + (1 : Int32))), .val (.int (ps.getD i 0))] []))
              refine own_s (fun t k => XS.goto X111.here hx rfl (pc0 := 97) (pc' := 16) rfl (hb hby d1_97) (by decide) (by decide) k) ?_
              show Go p.tables e below _ (T111.setTop (mkF m 16 #[.val (.ref a), .val (.ref b1), .val (.ref a), .val (.int (Int32.ofNat ps.length)), .val (.int ((Int32.ofNat i) + (1 : Int32))), .val (.int (ps.getD i 0))] []))
              rw [own_succ (by omega)]
              have Q112 : Exa Z T111.heap b1 "java/lang/StringBuilder" := (E.keep Kc111)
              have V113 : Arv Z T111.heap a ka .byte (Int32.ofNat ps.length) (own_vs ps) (.int (0 : Int32)) := (Va.keep Kc111 (ninS ne4 (ninS ne9 nin0)))
              have O114 : Old Z n0 T111.heap := (O.keep Kc111 (allS g_b1 (allS g_b3_1_2 all0)))
              have Q115 : Exa Z T111.heap x "java/lang/String" := (Ex.keep Kc111)
              have F116 : Fld Z T111.heap x "java/lang/String" "coder" "B" (.int (0 : Int32)) := (Fxc.keep Kc111 (ninS ne79 (ninS ne78 nin0)))
              have F117 : Fld Z T111.heap x "java/lang/String" "value" "[B" (.ref t) := (Fxv.keep Kc111 (ninS ne79 (ninS ne78 nin0)))
              have V118 : Arv Z T111.heap t kx .byte (Int32.ofNat own_PL.length) (own_vs own_PL) (.int (0 : Int32)) := (Vx.keep Kc111 (ninS (Ne.symm ne77) (ninS ne76 nin0)))
              exact ih (i + 1) T111 T111.heap _ vm _ (cs ++ [((ps.getD i 0).toUInt32.toUInt16.toUInt32.toInt32).toInt8.toInt32]) (.val (.int (ps.getD i 0))) (by omega) (by rw [own_enc_step (by omega), ← hcs, (own_p2 hc90 hc92)]; try simp only [List.append_assoc, List.cons_append, List.nil_append]) (X111.more (by show 2 + 2 * i + 0 ≤ 2 + 2 * (i + 1); omega) (by show 20 + 324 * i + 0 ≤ 20 + 324 * (i + 1); omega)) rfl hS (Nat.le_trans hk Kc111.1) hZv hov N111 K111 O114 Q112 fc111_0 fc111_1 fc111_2 fc111_3 V113 (Or.inr ⟨x, t, kx, hL, Q115, F116, F117, V118⟩) (One.val rfl)
          ·
            refine own_s (fun t k => XS.ifYes X.here hx rfl (pc0 := 37) (pc' := 61) rfl (hb hby d1_37) rfl ((if0 _ _).trans (flt hc90).2.2.2) (by decide) (by decide) k) ?_
            show Go p.tables e below _ (T.setTop (mkF m 61 #[.val (.ref a), .val (.ref b1), .val (.ref a), .val (.int (Int32.ofNat ps.length)), .val (.int (Int32.ofNat i)), .val (.int (ps.getD i 0))] []))
            refine own_s (fun t k => XS.aloadN X.here hx rfl (hb hby d1_61) rfl rfl k) ?_
            show Go p.tables e below _ (T.setTop (mkF m 62 #[.val (.ref a), .val (.ref b1), .val (.ref a), .val (.int (Int32.ofNat ps.length)), .val (.int (Int32.ofNat i)), .val (.int (ps.getD i 0))] [(.ref b1)]))
            refine own_s (fun t k => XS.bipush X.here hx rfl (hb hby d1_62) k) ?_
            show Go p.tables e below _ (T.setTop (mkF m 64 #[.val (.ref a), .val (.ref b1), .val (.ref a), .val (.int (Int32.ofNat ps.length)), .val (.int (Int32.ofNat i)), .val (.int (ps.getD i 0))] [(.int (37 : Int32)), (.ref b1)]))
            obtain ⟨cq119, kq119, q119a, q119b, q119c⟩ := isOf hZv eT E
            obtain ⟨_, _, ⟨T119, L119, k119, n119⟩, -, X119, ⟨Lc119, hQ119, l119, y119, z119⟩, st119⟩ := X.virtualBack hx (y := (⟨"java/lang/StringBuilder", "append", "(C)Ljava/lang/StringBuilder;"⟩ : MethodName)) (z := (⟨"java/lang/StringBuilder", "append", "(C)Ljava/lang/StringBuilder;"⟩ : MethodName)) hov (mvT hZv (hw _ (List.mem_of_getElem? (i := 95) rfl))) (mvT hZv (hw _ (List.mem_of_getElem? (i := 96) rfl))) (notFace_of_selects (args := #[]) (mvT hZv (hw _ (List.mem_of_getElem? (i := 98) rfl)))) (mvT hZv (hw _ (List.mem_of_getElem? (i := 98) rfl))) (mvT hZv (hw _ (List.mem_of_getElem? (i := 97) rfl))) (by decide) (backOf (W := 0) (rm18 l Z a0 hw [] b3_1_2 k3_1_2 cs cz b1 (37 : Int32) h n0 O S_C hcz E Fv Fc Fn Vb (by first | omega | (simp only [List.length_append, List.length_singleton]; omega)) (by decide) g_b1 g_b3_1_2 ne10) hZv (hw _ (List.mem_of_getElem? (i := 99) rfl)) (hw _ (List.mem_of_getElem? (i := 7) rfl)) (by decide) (by decide)) q119a q119c (g := (mkF m 64 #[.val (.ref a), .val (.ref b1), .val (.ref a), .val (.int (Int32.ofNat ps.length)), .val (.int (Int32.ofNat i)), .val (.int (ps.getD i 0))] [(.int (37 : Int32)), (.ref b1)])) rfl (by rw [hml]; rfl) (Steps.refl _) (argsL := [(.int (37 : Int32))]) (rest := []) (lenOf pd__C_Ljava_lang_StringBuilder_ rfl) rfl (by show 2 * 0 + _ ≤ _; exact Nat.le_of_eq rfl) (hb hby d1_64) (fun _ _ => ⟨rfl, eT, (by show 2 + 2 * i + 0 ≤ 10; omega), (by show 20 + 324 * i + 0 ≤ 1020; omega)⟩)
            dsimp only [Pt.U, Pt.locs, Pt.cells, Pt.slots] at X119 l119 y119 z119 st119 hQ119
            subst l119 y119 z119
            obtain ⟨rfl, N119q, Kc119, fc119_0, fc119_1, fc119_2, fc119_3⟩ := hQ119
            have K119 : Keep h0 T119.heap [] := K.trans Kc119 (allS (Or.inr sz_b1) (allS (Or.inr sz_b3_1_2) all0))
            have N119 := Fr.app N N119q
            refine own_t st119 ?_
            show Go p.tables e below _ (T119.setTop (mkF m 67 #[.val (.ref a), .val (.ref b1), .val (.ref a), .val (.int (Int32.ofNat ps.length)), .val (.int (Int32.ofNat i)), .val (.int (ps.getD i 0))] [(.ref b1)]))
            have O120 : Old Z n0 T119.heap := (O.keep Kc119 (allS g_b1 (allS g_b3_1_2 all0)))
            obtain ⟨T121, X121, e121, st121⟩ := getS2 X119 hx hZv hov (host := "") (Or.inl (hw _ (List.mem_of_getElem? (i := 114) rfl))) Via.refl rfl (S_H.ext O120.2) (g := (mkF m 67 #[.val (.ref a), .val (.ref b1), .val (.ref a), .val (.int (Int32.ofNat ps.length)), .val (.int (Int32.ofNat i)), .val (.int (ps.getD i 0))] [(.ref b1)])) rfl (hb hby d1_67)
            refine own_s st121 ?_
            show Go p.tables e below _ (T121.setTop (mkF m 70 #[.val (.ref a), .val (.ref b1), .val (.ref a), .val (.int (Int32.ofNat ps.length)), .val (.int (Int32.ofNat i)), .val (.int (ps.getD i 0))] [(.ref uH), (.ref b1)]))
            refine own_s (fun t k => XS.iload X121.here hx rfl (hb hby d1_70) rfl k) ?_
            show Go p.tables e below _ (T121.setTop (mkF m 72 #[.val (.ref a), .val (.ref b1), .val (.ref a), .val (.int (Int32.ofNat ps.length)), .val (.int (Int32.ofNat i)), .val (.int (ps.getD i 0))] [(.int (ps.getD i 0)), (.ref uH), (.ref b1)]))
            refine own_s (fun t k => XS.iconst X121.here hx rfl (hb hby d1_72) k) ?_
            show Go p.tables e below _ (T121.setTop (mkF m 73 #[.val (.ref a), .val (.ref b1), .val (.ref a), .val (.int (Int32.ofNat ps.length)), .val (.int (Int32.ofNat i)), .val (.int (ps.getD i 0))] [(.int (4 : Int32)), (.int (ps.getD i 0)), (.ref uH), (.ref b1)]))
            refine own_s (fun t k => XS.ishr X121.here hx rfl (hb hby d1_73) rfl k) ?_
            show Go p.tables e below _ (T121.setTop (mkF m 74 #[.val (.ref a), .val (.ref b1), .val (.ref a), .val (.int (Int32.ofNat ps.length)), .val (.int (Int32.ofNat i)), .val (.int (ps.getD i 0))] [(.int ((ps.getD i 0) >>> ((4 : Int32) &&& 31))), (.ref uH), (.ref b1)]))
            refine own_s (fun t k => XS.bipush X121.here hx rfl (hb hby d1_74) k) ?_
            show Go p.tables e below _ (T121.setTop (mkF m 76 #[.val (.ref a), .val (.ref b1), .val (.ref a), .val (.int (Int32.ofNat ps.length)), .val (.int (Int32.ofNat i)), .val (.int (ps.getD i 0))] [(.int (15 : Int32)), (.int ((ps.getD i 0) >>> ((4 : Int32) &&& 31))), (.ref uH), (.ref b1)]))
            refine own_s (fun t k => XS.iand X121.here hx rfl (hb hby d1_76) rfl k) ?_
            show Go p.tables e below _ (T121.setTop (mkF m 77 #[.val (.ref a), .val (.ref b1), .val (.ref a), .val (.int (Int32.ofNat ps.length)), .val (.int (Int32.ofNat i)), .val (.int (ps.getD i 0))] [(.int (((ps.getD i 0) >>> ((4 : Int32) &&& 31)) &&& (15 : Int32))), (.ref uH), (.ref b1)]))
            obtain ⟨cl122, Ar122, qk122, Sz122, Nn122, Hs122, Gf122⟩ := id (OV_H.ext O120.2)
            have hin122 : ¬ ((((ps.getD i 0) >>> ((4 : Int32) &&& 31)) &&& (15 : Int32)) < 0 ∨ cl122.slots.size ≤ ((((ps.getD i 0) >>> ((4 : Int32) &&& 31)) &&& (15 : Int32))).toNatClampNeg) := inb_of Sz122 (own_nib _)
            have hat122 : cl122.slots[((((ps.getD i 0) >>> ((4 : Int32) &&& 31)) &&& (15 : Int32))).toNatClampNeg]? = some (.int (own_gb own_HX (((ps.getD i 0) >>> ((4 : Int32) &&& 31)) &&& (15 : Int32)))) := Has.at Hs122 hin122 (own_vs_get _ _)
            refine own_s (X121.caload hx (j := (((ps.getD i 0) >>> ((4 : Int32) &&& 31)) &&& (15 : Int32))) (v := (.int (own_gb own_HX (((ps.getD i 0) >>> ((4 : Int32) &&& 31)) &&& (15 : Int32))))) (by rw [e121]; exact Ar122.1) (State.isArrayOf_alike hZv.alike Ar122.2.1) Ar122.2.2 hin122 hat122 (g := (mkF m 77 #[.val (.ref a), .val (.ref b1), .val (.ref a), .val (.int (Int32.ofNat ps.length)), .val (.int (Int32.ofNat i)), .val (.int (ps.getD i 0))] [(.int (((ps.getD i 0) >>> ((4 : Int32) &&& 31)) &&& (15 : Int32))), (.ref uH), (.ref b1)])) rfl rfl (hb hby d1_77)) ?_
            show Go p.tables e below _ (T121.setTop (mkF m 78 #[.val (.ref a), .val (.ref b1), .val (.ref a), .val (.int (Int32.ofNat ps.length)), .val (.int (Int32.ofNat i)), .val (.int (ps.getD i 0))] [(.int (own_gb own_HX (((ps.getD i 0) >>> ((4 : Int32) &&& 31)) &&& (15 : Int32)))), (.ref b1)]))
            have Q124 : Exa Z T119.heap b1 "java/lang/StringBuilder" := (E.keep Kc119)
            obtain ⟨cq123, kq123, q123a, q123b, q123c⟩ := isOf hZv e121 Q124
            obtain ⟨_, _, ⟨T123, L123, k123, n123⟩, -, X123, ⟨Lc123, hQ123, l123, y123, z123⟩, st123⟩ := X121.virtualBack hx (y := (⟨"java/lang/StringBuilder", "append", "(C)Ljava/lang/StringBuilder;"⟩ : MethodName)) (z := (⟨"java/lang/StringBuilder", "append", "(C)Ljava/lang/StringBuilder;"⟩ : MethodName)) hov (mvT hZv (hw _ (List.mem_of_getElem? (i := 95) rfl))) (mvT hZv (hw _ (List.mem_of_getElem? (i := 96) rfl))) (notFace_of_selects (args := #[]) (mvT hZv (hw _ (List.mem_of_getElem? (i := 98) rfl)))) (mvT hZv (hw _ (List.mem_of_getElem? (i := 98) rfl))) (mvT hZv (hw _ (List.mem_of_getElem? (i := 97) rfl))) (by decide) (backOf (W := 0) (rm18 l Z a0 hw [] b3_1_2 k3_1_2 (cs ++ [(37 : Int32).toInt8.toInt32]) cz b1 (own_gb own_HX (((ps.getD i 0) >>> ((4 : Int32) &&& 31)) &&& (15 : Int32))) T119.heap n0 O120 S_C hcz Q124 fc119_0 fc119_1 fc119_2 fc119_3 (by first | omega | (simp only [List.length_append, List.length_singleton]; omega)) (own_hx _) g_b1 g_b3_1_2 ne10) hZv (hw _ (List.mem_of_getElem? (i := 99) rfl)) (hw _ (List.mem_of_getElem? (i := 7) rfl)) (by decide) (by decide)) q123a q123c (g := (mkF m 78 #[.val (.ref a), .val (.ref b1), .val (.ref a), .val (.int (Int32.ofNat ps.length)), .val (.int (Int32.ofNat i)), .val (.int (ps.getD i 0))] [(.int (own_gb own_HX (((ps.getD i 0) >>> ((4 : Int32) &&& 31)) &&& (15 : Int32)))), (.ref b1)])) rfl (by rw [hml]; rfl) (Steps.refl _) (argsL := [(.int (own_gb own_HX (((ps.getD i 0) >>> ((4 : Int32) &&& 31)) &&& (15 : Int32))))]) (rest := []) (lenOf pd__C_Ljava_lang_StringBuilder_ rfl) rfl (by show 2 * 0 + _ ≤ _; exact Nat.le_of_eq rfl) (hb hby d1_78) (fun _ _ => ⟨rfl, e121, (by show 2 + 2 * i + 0 ≤ 10; omega), (by show 20 + 324 * i + 0 ≤ 1020; omega)⟩)
            dsimp only [Pt.U, Pt.locs, Pt.cells, Pt.slots] at X123 l123 y123 z123 st123 hQ123
            subst l123 y123 z123
            obtain ⟨rfl, N123q, Kc123, fc123_0, fc123_1, fc123_2, fc123_3⟩ := hQ123
            have K123 : Keep h0 T123.heap [] := K119.trans Kc123 (allS (Or.inr sz_b1) (allS (Or.inr sz_b3_1_2) all0))
            have N123 := Fr.app N119 N123q
            refine own_t st123 ?_
            show Go p.tables e below _ (T123.setTop (mkF m 81 #[.val (.ref a), .val (.ref b1), .val (.ref a), .val (.int (Int32.ofNat ps.length)), .val (.int (Int32.ofNat i)), .val (.int (ps.getD i 0))] [(.ref b1)]))
            have O125 : Old Z n0 T123.heap := (O120.keep Kc123 (allS g_b1 (allS g_b3_1_2 all0)))
            obtain ⟨T126, X126, e126, st126⟩ := getS2 X123 hx hZv hov (host := "") (Or.inl (hw _ (List.mem_of_getElem? (i := 114) rfl))) Via.refl rfl (S_H.ext O125.2) (g := (mkF m 81 #[.val (.ref a), .val (.ref b1), .val (.ref a), .val (.int (Int32.ofNat ps.length)), .val (.int (Int32.ofNat i)), .val (.int (ps.getD i 0))] [(.ref b1)])) rfl (hb hby d1_81)
            refine own_s st126 ?_
            show Go p.tables e below _ (T126.setTop (mkF m 84 #[.val (.ref a), .val (.ref b1), .val (.ref a), .val (.int (Int32.ofNat ps.length)), .val (.int (Int32.ofNat i)), .val (.int (ps.getD i 0))] [(.ref uH), (.ref b1)]))
            refine own_s (fun t k => XS.iload X126.here hx rfl (hb hby d1_84) rfl k) ?_
            show Go p.tables e below _ (T126.setTop (mkF m 86 #[.val (.ref a), .val (.ref b1), .val (.ref a), .val (.int (Int32.ofNat ps.length)), .val (.int (Int32.ofNat i)), .val (.int (ps.getD i 0))] [(.int (ps.getD i 0)), (.ref uH), (.ref b1)]))
            refine own_s (fun t k => XS.bipush X126.here hx rfl (hb hby d1_86) k) ?_
            show Go p.tables e below _ (T126.setTop (mkF m 88 #[.val (.ref a), .val (.ref b1), .val (.ref a), .val (.int (Int32.ofNat ps.length)), .val (.int (Int32.ofNat i)), .val (.int (ps.getD i 0))] [(.int (15 : Int32)), (.int (ps.getD i 0)), (.ref uH), (.ref b1)]))
            refine own_s (fun t k => XS.iand X126.here hx rfl (hb hby d1_88) rfl k) ?_
            show Go p.tables e below _ (T126.setTop (mkF m 89 #[.val (.ref a), .val (.ref b1), .val (.ref a), .val (.int (Int32.ofNat ps.length)), .val (.int (Int32.ofNat i)), .val (.int (ps.getD i 0))] [(.int ((ps.getD i 0) &&& (15 : Int32))), (.ref uH), (.ref b1)]))
            obtain ⟨cl127, Ar127, qk127, Sz127, Nn127, Hs127, Gf127⟩ := id (OV_H.ext O125.2)
            have hin127 : ¬ (((ps.getD i 0) &&& (15 : Int32)) < 0 ∨ cl127.slots.size ≤ (((ps.getD i 0) &&& (15 : Int32))).toNatClampNeg) := inb_of Sz127 (own_nib _)
            have hat127 : cl127.slots[(((ps.getD i 0) &&& (15 : Int32))).toNatClampNeg]? = some (.int (own_gb own_HX ((ps.getD i 0) &&& (15 : Int32)))) := Has.at Hs127 hin127 (own_vs_get _ _)
            refine own_s (X126.caload hx (j := ((ps.getD i 0) &&& (15 : Int32))) (v := (.int (own_gb own_HX ((ps.getD i 0) &&& (15 : Int32))))) (by rw [e126]; exact Ar127.1) (State.isArrayOf_alike hZv.alike Ar127.2.1) Ar127.2.2 hin127 hat127 (g := (mkF m 89 #[.val (.ref a), .val (.ref b1), .val (.ref a), .val (.int (Int32.ofNat ps.length)), .val (.int (Int32.ofNat i)), .val (.int (ps.getD i 0))] [(.int ((ps.getD i 0) &&& (15 : Int32))), (.ref uH), (.ref b1)])) rfl rfl (hb hby d1_89)) ?_
            show Go p.tables e below _ (T126.setTop (mkF m 90 #[.val (.ref a), .val (.ref b1), .val (.ref a), .val (.int (Int32.ofNat ps.length)), .val (.int (Int32.ofNat i)), .val (.int (ps.getD i 0))] [(.int (own_gb own_HX ((ps.getD i 0) &&& (15 : Int32)))), (.ref b1)]))
            have Q129 : Exa Z T123.heap b1 "java/lang/StringBuilder" := (Q124.keep Kc123)
            obtain ⟨cq128, kq128, q128a, q128b, q128c⟩ := isOf hZv e126 Q129
            obtain ⟨_, _, ⟨T128, L128, k128, n128⟩, -, X128, ⟨Lc128, hQ128, l128, y128, z128⟩, st128⟩ := X126.virtualBack hx (y := (⟨"java/lang/StringBuilder", "append", "(C)Ljava/lang/StringBuilder;"⟩ : MethodName)) (z := (⟨"java/lang/StringBuilder", "append", "(C)Ljava/lang/StringBuilder;"⟩ : MethodName)) hov (mvT hZv (hw _ (List.mem_of_getElem? (i := 95) rfl))) (mvT hZv (hw _ (List.mem_of_getElem? (i := 96) rfl))) (notFace_of_selects (args := #[]) (mvT hZv (hw _ (List.mem_of_getElem? (i := 98) rfl)))) (mvT hZv (hw _ (List.mem_of_getElem? (i := 98) rfl))) (mvT hZv (hw _ (List.mem_of_getElem? (i := 97) rfl))) (by decide) (backOf (W := 0) (rm18 l Z a0 hw [] b3_1_2 k3_1_2 ((cs ++ [(37 : Int32).toInt8.toInt32]) ++ [(own_gb own_HX (((ps.getD i 0) >>> ((4 : Int32) &&& 31)) &&& (15 : Int32))).toInt8.toInt32]) cz b1 (own_gb own_HX ((ps.getD i 0) &&& (15 : Int32))) T123.heap n0 O125 S_C hcz Q129 fc123_0 fc123_1 fc123_2 fc123_3 (by first | omega | (simp only [List.length_append, List.length_singleton]; omega)) (own_hx _) g_b1 g_b3_1_2 ne10) hZv (hw _ (List.mem_of_getElem? (i := 99) rfl)) (hw _ (List.mem_of_getElem? (i := 7) rfl)) (by decide) (by decide)) q128a q128c (g := (mkF m 90 #[.val (.ref a), .val (.ref b1), .val (.ref a), .val (.int (Int32.ofNat ps.length)), .val (.int (Int32.ofNat i)), .val (.int (ps.getD i 0))] [(.int (own_gb own_HX ((ps.getD i 0) &&& (15 : Int32)))), (.ref b1)])) rfl (by rw [hml]; rfl) (Steps.refl _) (argsL := [(.int (own_gb own_HX ((ps.getD i 0) &&& (15 : Int32))))]) (rest := []) (lenOf pd__C_Ljava_lang_StringBuilder_ rfl) rfl (by show 2 * 0 + _ ≤ _; exact Nat.le_of_eq rfl) (hb hby d1_90) (fun _ _ => ⟨rfl, e126, (by show 2 + 2 * i + 0 ≤ 10; omega), (by show 20 + 324 * i + 0 ≤ 1020; omega)⟩)
            dsimp only [Pt.U, Pt.locs, Pt.cells, Pt.slots] at X128 l128 y128 z128 st128 hQ128
            subst l128 y128 z128
            obtain ⟨rfl, N128q, Kc128, fc128_0, fc128_1, fc128_2, fc128_3⟩ := hQ128
            have K128 : Keep h0 T128.heap [] := K123.trans Kc128 (allS (Or.inr sz_b1) (allS (Or.inr sz_b3_1_2) all0))
            have N128 := Fr.app N123 N128q
            refine own_t st128 ?_
            show Go p.tables e below _ (T128.setTop (mkF m 93 #[.val (.ref a), .val (.ref b1), .val (.ref a), .val (.int (Int32.ofNat ps.length)), .val (.int (Int32.ofNat i)), .val (.int (ps.getD i 0))] [(.ref b1)]))
            refine own_s (fun t k => XS.pop X128.here hx rfl (hb hby d1_93) rfl rfl k) ?_
            show Go p.tables e below _ (T128.setTop (mkF m 94 #[.val (.ref a), .val (.ref b1), .val (.ref a), .val (.int (Int32.ofNat ps.length)), .val (.int (Int32.ofNat i)), .val (.int (ps.getD i 0))] []))
            refine own_s (fun t k => XS.iinc X128.here hx rfl (hb hby d1_94) rfl (l' := #[.val (.ref a), .val (.ref b1), .val (.ref a), .val (.int (Int32.ofNat ps.length)), .val (.int ((Int32.ofNat i) + (1 : Int32))), .val (.int (ps.getD i 0))]) rfl k) ?_
            show Go p.tables e below _ (T128.setTop (mkF m 97 #[.val (.ref a), .val (.ref b1), .val (.ref a), .val (.int (Int32.ofNat ps.length)), .val (.int ((Int32.ofNat i) + (1 : Int32))), .val (.int (ps.getD i 0))] []))
            refine own_s (fun t k => XS.goto X128.here hx rfl (pc0 := 97) (pc' := 16) rfl (hb hby d1_97) (by decide) (by decide) k) ?_
            show Go p.tables e below _ (T128.setTop (mkF m 16 #[.val (.ref a), .val (.ref b1), .val (.ref a), .val (.int (Int32.ofNat ps.length)), .val (.int ((Int32.ofNat i) + (1 : Int32))), .val (.int (ps.getD i 0))] []))
            rw [own_succ (by omega)]
            have Q130 : Exa Z T128.heap b1 "java/lang/StringBuilder" := (Q129.keep Kc128)
            have V131 : Arv Z T128.heap a ka .byte (Int32.ofNat ps.length) (own_vs ps) (.int (0 : Int32)) := (((Va.keep Kc119 (ninS ne4 (ninS ne9 nin0))).keep Kc123 (ninS ne4 (ninS ne9 nin0))).keep Kc128 (ninS ne4 (ninS ne9 nin0)))
            have O132 : Old Z n0 T128.heap := (O125.keep Kc128 (allS g_b1 (allS g_b3_1_2 all0)))
            have Q133 : Exa Z T128.heap x "java/lang/String" := (((Ex.keep Kc119).keep Kc123).keep Kc128)
            have F134 : Fld Z T128.heap x "java/lang/String" "coder" "B" (.int (0 : Int32)) := (((Fxc.keep Kc119 (ninS ne79 (ninS ne78 nin0))).keep Kc123 (ninS ne79 (ninS ne78 nin0))).keep Kc128 (ninS ne79 (ninS ne78 nin0)))
            have F135 : Fld Z T128.heap x "java/lang/String" "value" "[B" (.ref t) := (((Fxv.keep Kc119 (ninS ne79 (ninS ne78 nin0))).keep Kc123 (ninS ne79 (ninS ne78 nin0))).keep Kc128 (ninS ne79 (ninS ne78 nin0)))
            have V136 : Arv Z T128.heap t kx .byte (Int32.ofNat own_PL.length) (own_vs own_PL) (.int (0 : Int32)) := (((Vx.keep Kc119 (ninS (Ne.symm ne77) (ninS ne76 nin0))).keep Kc123 (ninS (Ne.symm ne77) (ninS ne76 nin0))).keep Kc128 (ninS (Ne.symm ne77) (ninS ne76 nin0)))
            exact ih (i + 1) T128 T128.heap _ vm _ (((cs ++ [(37 : Int32).toInt8.toInt32]) ++ [(own_gb own_HX (((ps.getD i 0) >>> ((4 : Int32) &&& 31)) &&& (15 : Int32))).toInt8.toInt32]) ++ [(own_gb own_HX ((ps.getD i 0) &&& (15 : Int32))).toInt8.toInt32]) (.val (.int (ps.getD i 0))) (by omega) (by rw [own_enc_step (by omega), ← hcs, (own_p3 hc81 hc90)]; try simp only [List.append_assoc, List.cons_append, List.nil_append]) (X128.more (by show 2 + 2 * i + 0 ≤ 2 + 2 * (i + 1); omega) (by show 20 + 324 * i + 0 ≤ 20 + 324 * (i + 1); omega)) rfl hS (Nat.le_trans (Nat.le_trans (Nat.le_trans hk Kc119.1) Kc123.1) Kc128.1) hZv hov N128 K128 O132 Q130 fc128_0 fc128_1 fc128_2 fc128_3 V131 (Or.inr ⟨x, t, kx, hL, Q133, F134, F135, V136⟩) (One.val rfl)
  show Go p.tables e below _ (T2.setTop (mkF m 16 #[.val (.ref a), .val (.ref b1), .val (.ref a), .val (.int (Int32.ofNat ps.length)), .val (.int (0 : Int32)), .unset] []))
  exact loop ps.length 0 T2 T2.heap _ s.vm 0 [] .unset (by omega) rfl X2 rfl hS0 (Nat.zero_le _) hZ hown N2 K2 O8 Q7 fc2_1 fc2_2 fc2_0 fc2_3 V5 (Or.inl hIB) One.u
def own_cv (x : Int32) : Int32 := nar .char (nar .char ((x &&& (255 : Int32)).toUInt32.toUInt16.toUInt32.toInt32))
theorem own_cAt (cs : List Int32) (off : Int32) : own_charAt cs off = own_cv (cs.getD off.toNatClampNeg 0) := rfl
set_option maxRecDepth 65536 in
theorem own_tab : ∀ k : Fin 256, (own_plain (Int32.ofInt ((k.1 : Int) - 128)) = 0 → (own_enc1 (Int32.ofInt ((k.1 : Int) - 128))).length = 3 ∧ own_cv ((own_enc1 (Int32.ofInt ((k.1 : Int) - 128))).getD 0 0) = 37 ∧ own_cv ((own_enc1 (Int32.ofInt ((k.1 : Int) - 128))).getD 1 0) = own_hex (((Int32.ofInt ((k.1 : Int) - 128)) &&& (255 : Int32)) >>> ((4 : Int32) &&& 31)) ∧ own_cv ((own_enc1 (Int32.ofInt ((k.1 : Int) - 128))).getD 2 0) = own_hex (((Int32.ofInt ((k.1 : Int) - 128)) &&& (255 : Int32)) &&& (15 : Int32))) ∧
    (¬ own_plain (Int32.ofInt ((k.1 : Int) - 128)) = 0 → (own_enc1 (Int32.ofInt ((k.1 : Int) - 128))).length = 1 ∧ own_cv ((own_enc1 (Int32.ofInt ((k.1 : Int) - 128))).getD 0 0) = (Int32.ofInt ((k.1 : Int) - 128)).toUInt32.toUInt16.toUInt32.toInt32) := by decide +kernel
theorem own_tabB {b : Int32} (h : -128 ≤ b.toInt ∧ b.toInt < 128) : (own_plain b = 0 → (own_enc1 b).length = 3 ∧ own_cv ((own_enc1 b).getD 0 0) = 37 ∧ own_cv ((own_enc1 b).getD 1 0) = own_hex ((b &&& (255 : Int32)) >>> ((4 : Int32) &&& 31)) ∧ own_cv ((own_enc1 b).getD 2 0) = own_hex ((b &&& (255 : Int32)) &&& (15 : Int32))) ∧
    (¬ own_plain b = 0 → (own_enc1 b).length = 1 ∧ own_cv ((own_enc1 b).getD 0 0) = b.toUInt32.toUInt16.toUInt32.toInt32) := by
  have q := own_tab ⟨(b.toInt + 128).toNat, by omega⟩
  have e : Int32.ofInt ((((b.toInt + 128).toNat : Nat) : Int) - 128) = b := by
    rw [show (((b.toInt + 128).toNat : Nat) : Int) - 128 = b.toInt by omega]; exact Int32.ofInt_toInt b
  simp only [e] at q
  exact q
theorem own_wl {b : Int32} (h : -128 ≤ b.toInt ∧ b.toInt < 128) : own_width b = Int32.ofNat (own_enc1 b).length := by
  unfold own_width
  by_cases hp : own_plain b = 0
  · rw [if_pos hp, ((own_tabB h).1 hp).1]; rfl
  · rw [if_neg hp, ((own_tabB h).2 hp).1]; rfl
theorem own_wi {b : Int32} (h : -128 ≤ b.toInt ∧ b.toInt < 128) : (own_width b).toInt = (own_enc1 b).length := by
  rw [own_wl h, own_oi (Nat.lt_of_le_of_lt (own_enc1_len b) (by decide))]
theorem own_mid (pre e post : List Int32) (j : Nat) (hj : j < e.length) : (pre ++ e ++ post).getD (pre.length + j) 0 = e.getD j 0 := by
  simp only [List.getD_eq_getElem?_getD]
  rw [List.append_assoc, List.getElem?_append_right (by omega), Nat.add_sub_cancel_left, List.getElem?_append_left hj]
theorem own_segP {pre post : List Int32} {b off : Int32} (hb : -128 ≤ b.toInt ∧ b.toInt < 128) (hoff : off.toInt = pre.length) (hl : (pre ++ own_enc1 b ++ post).length < 1000) :
    own_segok (pre ++ own_enc1 b ++ post) off b ∧ ¬ (own_seg (pre ++ own_enc1 b ++ post) off b = (0 : Int32)) := by
  have T := own_tabB hb
  have hL : (pre ++ own_enc1 b ++ post).length = pre.length + (own_enc1 b).length + post.length := by simp; omega
  have at_ (j : Int32) (J : Nat) (hJ : j.toInt = J) (hj : J < (own_enc1 b).length) : own_charAt (pre ++ own_enc1 b ++ post) (off + j) = own_cv ((own_enc1 b).getD J 0) := by
    have q := c_iadd off j
    have r := rng32 (off + j)
    have e : (off + j).toNatClampNeg = pre.length + J := by simp only [Int32.toNatClampNeg]; omega
    rw [own_cAt, e, own_mid _ _ _ _ hj]
  have at0 (hj : 0 < (own_enc1 b).length) : own_charAt (pre ++ own_enc1 b ++ post) off = own_cv ((own_enc1 b).getD 0 0) := by
    have e : off.toNatClampNeg = pre.length + 0 := by simp only [Int32.toNatClampNeg]; omega
    rw [own_cAt, e, own_mid _ _ _ _ hj]
  by_cases hp : own_plain b = 0
  · obtain ⟨t1, t2, t3, t4⟩ := T.1 hp
    refine ⟨⟨by omega, by rw [if_pos hp]; omega, hl⟩, ?_⟩
    unfold own_seg
    rw [if_pos hp, if_pos (by rw [at0 (by omega), t2]), if_pos (by rw [at_ 1 1 rfl (by omega), t3]), if_pos (by rw [at_ 2 2 rfl (by omega), t4])]
    decide
  · obtain ⟨t1, t2⟩ := T.2 hp
    refine ⟨⟨by omega, by rw [if_neg hp]; omega, hl⟩, ?_⟩
    unfold own_seg
    rw [if_neg hp, if_pos (by rw [at0 (by omega), t2])]
    decide
def own_b (x : Int32) : Int32 := nar .byte (x.toInt8.toInt32)
theorem own_bR (x : Int32) : -128 ≤ (own_b x).toInt ∧ (own_b x).toInt < 128 := (c_i2b (x.toInt8.toInt32)).2
theorem own_rng0 : own_rng [] := fun i => by simp
theorem own_rngS {b : Int32} {l : List Int32} (h : -128 ≤ b.toInt ∧ b.toInt < 128) (r : own_rng l) : own_rng (b :: l) := fun i => by
  cases i with
  | zero => exact h
  | succ i => exact r i
theorem own_n4 (x : Int32) : (x &&& 3) = 0 ∨ (x &&& 3) = 1 ∨ (x &&& 3) = 2 ∨ (x &&& 3) = 3 := by
  have e := c_mask x 3 2 (by decide) (by decide)
  have h : x.toInt % ((2 ^ 2 : Nat) : Int) = 0 ∨ x.toInt % ((2 ^ 2 : Nat) : Int) = 1 ∨ x.toInt % ((2 ^ 2 : Nat) : Int) = 2 ∨ x.toInt % ((2 ^ 2 : Nat) : Int) = 3 := by omega
  rcases h with h | h | h | h
  · exact Or.inl (Int32.toInt_inj.mp (by rw [e, h]; rfl))
  · exact Or.inr (Or.inl (Int32.toInt_inj.mp (by rw [e, h]; rfl)))
  · exact Or.inr (Or.inr (Or.inl (Int32.toInt_inj.mp (by rw [e, h]; rfl))))
  · exact Or.inr (Or.inr (Or.inr (Int32.toInt_inj.mp (by rw [e, h]; rfl))))
theorem own_hb (l : List Int32) (h : l.length ≤ 3) : (own_encL l).length < 1000 := Nat.lt_of_le_of_lt (own_encL_len l) (by omega)
theorem own_wadd {a b : Int32} (ha : -128 ≤ a.toInt ∧ a.toInt < 128) (hb : -128 ≤ b.toInt ∧ b.toInt < 128) : (own_width a + own_width b).toInt = (own_enc1 a).length + (own_enc1 b).length := by
  have q := c_iadd (own_width a) (own_width b); have r := rng32 (own_width a + own_width b)
  rw [own_wi ha, own_wi hb] at q
  have := own_enc1_len a; have := own_enc1_len b; omega
theorem own_E1 (a : Int32) : own_encL [a] = [] ++ own_enc1 a ++ [] := by simp [own_encL]
theorem own_E20 (a b : Int32) : own_encL [a, b] = [] ++ own_enc1 a ++ own_enc1 b := by simp [own_encL]
theorem own_E21 (a b : Int32) : own_encL [a, b] = own_enc1 a ++ own_enc1 b ++ [] := by simp [own_encL]
theorem own_E30 (a b d : Int32) : own_encL [a, b, d] = [] ++ own_enc1 a ++ (own_enc1 b ++ own_enc1 d) := by simp [own_encL]
theorem own_E31 (a b d : Int32) : own_encL [a, b, d] = own_enc1 a ++ own_enc1 b ++ own_enc1 d := by simp [own_encL]
theorem own_E32 (a b d : Int32) : own_encL [a, b, d] = (own_enc1 a ++ own_enc1 b) ++ own_enc1 d ++ [] := by simp [own_encL]
theorem own_seg_of {cs pre post : List Int32} {b off : Int32} (e : cs = pre ++ own_enc1 b ++ post) (hb : -128 ≤ b.toInt ∧ b.toInt < 128) (hoff : off.toInt = pre.length) (hl : cs.length < 1000) : own_segok cs off b ∧ ¬ (own_seg cs off b = (0 : Int32)) := by
  subst e; exact own_segP hb hoff hl
theorem own_S0 {cs post : List Int32} {b : Int32} (e : cs = [] ++ own_enc1 b ++ post) (hb : -128 ≤ b.toInt ∧ b.toInt < 128) (hl : cs.length < 1000) : own_segok cs (0 : Int32) b ∧ ¬ (own_seg cs (0 : Int32) b = (0 : Int32)) := own_seg_of e hb rfl hl
theorem own_S1 {cs post : List Int32} {a b : Int32} (e : cs = own_enc1 a ++ own_enc1 b ++ post) (ha : -128 ≤ a.toInt ∧ a.toInt < 128) (hb : -128 ≤ b.toInt ∧ b.toInt < 128) (hl : cs.length < 1000) : own_segok cs (own_width a) b ∧ ¬ (own_seg cs (own_width a) b = (0 : Int32)) := own_seg_of e hb (own_wi ha) hl
theorem own_S2 {cs post : List Int32} {a b d : Int32} (e : cs = (own_enc1 a ++ own_enc1 b) ++ own_enc1 d ++ post) (ha : -128 ≤ a.toInt ∧ a.toInt < 128) (hb : -128 ≤ b.toInt ∧ b.toInt < 128) (hd : -128 ≤ d.toInt ∧ d.toInt < 128) (hl : cs.length < 1000) : own_segok cs ((own_width a) + (own_width b)) d ∧ ¬ (own_seg cs ((own_width a) + (own_width b)) d = (0 : Int32)) := own_seg_of e hd (by rw [own_wadd ha hb, List.length_append]; omega) hl
theorem own_L0 : Int32.ofNat (own_encL ([] : List Int32)).length = (0 : Int32) := rfl
theorem own_L3 {a b d : Int32} (ha : -128 ≤ a.toInt ∧ a.toInt < 128) (hb : -128 ≤ b.toInt ∧ b.toInt < 128) (hd : -128 ≤ d.toInt ∧ d.toInt < 128) : Int32.ofNat (own_encL [a, b, d]).length = (((own_width a) + (own_width b)) + (own_width d)) := by
  rw [own_E31, own_wl ha, own_wl hb, own_wl hd, ← Int32.ofNat_add, ← Int32.ofNat_add, List.length_append, List.length_append]
theorem own_L2 {a b : Int32} (ha : -128 ≤ a.toInt ∧ a.toInt < 128) (hb : -128 ≤ b.toInt ∧ b.toInt < 128) : Int32.ofNat (own_encL [a, b]).length = (((own_width a) + (own_width b)) + (0 : Int32)) := by
  rw [own_E21, own_wl ha, own_wl hb, ← Int32.ofNat_add, List.length_append, List.length_append]; simp
theorem own_L1 {a : Int32} (ha : -128 ≤ a.toInt ∧ a.toInt < 128) : Int32.ofNat (own_encL [a]).length = (((own_width a) + (0 : Int32)) + (0 : Int32)) := by
  rw [own_E1, own_wl ha, List.length_append, List.length_append]; simp

theorem pd___B_Ljava_lang_String_ : parseMethodDescriptor "([B)Ljava/lang/String;" = some ⟨[(.array .byte)], some (.object "java/lang/String")⟩ := by decide +kernel
theorem pd__B_I : parseMethodDescriptor "(B)I" = some ⟨[.byte], some .int⟩ := by decide +kernel
theorem pd__Ljava_lang_String_IB_Z : parseMethodDescriptor "(Ljava/lang/String;IB)Z" = some ⟨[(.object "java/lang/String"), .int, .byte], some .boolean⟩ := by decide +kernel
theorem ef_rm0 (m : MethodId) (x0 : Int32) (x1 : Int32) (x2 : Int32) (x3 : Int32) : entryFrame m #[(.int x0), (.int x1), (.int x2), (.int x3)] maxLocals = mkF m 0 #[.val (.int x0), .val (.int x1), .val (.int x2), .val (.int x3), .unset, .unset, .unset, .unset, .unset, .unset, .unset] [] := by first | (simp [entryFrame, mkF, argsToLocals, Value.category, maxLocals]; done) | rfl
def Q_rm0 (Z : State) (cz : Int32) (uH : Addr) (kH : ClassId) (vF : Value) (x0 : Int32) (x1 : Int32) (x2 : Int32) (x3 : Int32) (h0 : Heap) (n0 : Nat) (v : Option Value) (h : Heap) (L : List Loc) : Prop := v = some (.int (1 : Int32)) ∧ Fr n0 L
set_option maxRecDepth 65536 in
set_option maxHeartbeats 40000000 in
theorem rm0 (l : Launch) (Z : State) (a0 : Array Value) (hw : ∀ d ∈ tables_1, d.before a0 Z = true) (ws : List Jvm.Cond) (cz : Int32) (uH : Addr) (kH : ClassId) (vF : Value) (x0 : Int32) (x1 : Int32) (x2 : Int32) (x3 : Int32) (h0 : Heap) (n0 : Nat) (O0 : Old Z n0 h0) (S_C : Sta Z Z.heap "java/lang/String" "COMPACT_STRINGS" "Z" (.int cz)) (hcz : ¬ (cz = (0 : Int32))) (S_F : Sta Z Z.heap "jdk/internal/util/Preconditions" "SIOOBE_FORMATTER" "Ljava/util/function/BiFunction;" vF) (hvF : vF.isRef = true) (S_H : Sta Z Z.heap "com/example/birep/birep/rrdp/RsyncBase" "HEX" "[C" (.ref uH)) (OV_H : Arv Z Z.heap uH kH .char (16 : Int32) (own_vs own_HX) (.int (0 : Int32))) (hheld : Jvm.Lit.constHeld Z "com/example/birep/birep/rrdp/RsyncBase" 87) (hcw : Jvm.Lit.compactW.before a0 Z = true) :
    MetFree l x (head1 (Jvm.Cond.code x code maxLocals ret :: ws) room_1) (fun aa_ U => aa_ = #[(.int x0), (.int x1), (.int x2), (.int x3)] ∧ Z.Warmed39 U.vm ∧ U.heap = h0 ∧ IB Z U.vm []) (fun _ _ _ _ _ => True) (fun _ U oo_ U' => ∃ vv_ LL_, oo_ = .returned vv_ ∧ Q_rm0 Z cz uH kH vF x0 x1 x2 x3 h0 n0 vv_ U'.heap LL_ ∧ ReturnedEndW U oo_ U' LL_ room_1.cells room_1.slots) := by
  refine MetFree.of_bodySF (plainFor_of_name pn_com_example_birep_birep_rrdp_RsyncBaseEncodedPinLaw) hisR ?_
  intro p e s m args below meth c s₁ Bd hml0 hP hK
  obtain ⟨rfl, hZ, hh, hIB⟩ := hP
  have hx := Bd.exec
  have hby := Bd.bytes
  have hml : c.maxLocals = 11 := hml0
  have hown : s.vm.findClass "com/example/birep/birep/rrdp/RsyncBaseEncodedPinLaw" = some m.cls := findClass_of_methodNamed Bd.named
  have hnm := (name_of_methodNamed Bd.named Bd.method).1
  have X0 : Stand p l e room_1 (s.setVm s.vm) m #[(.int x0), (.int x1), (.int x2), (.int x3)] below meth c s₁ [] 0 0 := Stand.of_body Bd
  have e0 : s₁.heap = h0 := by rw [← hh, Bd.state]; rfl
  have N0 := Fr.nil n0
  have K0 : Keep h0 h0 [] := Keep.refl h0 _
  have hS0 : s.Since s.vm 0 := (State.WarmedH.refl s).since 0
  refine own_i fun PP hPP => own_s (fun t k => castTop (ef_rm0 m x0 x1 x2 x3) k) ?_
  show Go p.tables e below _ (s₁.setTop (mkF m 0 #[.val (.int x0), .val (.int x1), .val (.int x2), .val (.int x3), .unset, .unset, .unset, .unset, .unset, .unset, .unset] []))
  refine own_s (fun t k => XS.iloadN X0.here hx rfl (hb hby at_0) rfl k) ?_
  show Go p.tables e below _ (s₁.setTop (mkF m 1 #[.val (.int x0), .val (.int x1), .val (.int x2), .val (.int x3), .unset, .unset, .unset, .unset, .unset, .unset, .unset] [(.int x0)]))
  refine own_s (fun t k => XS.iconst X0.here hx rfl (hb hby at_1) k) ?_
  show Go p.tables e below _ (s₁.setTop (mkF m 2 #[.val (.int x0), .val (.int x1), .val (.int x2), .val (.int x3), .unset, .unset, .unset, .unset, .unset, .unset, .unset] [(.int (3 : Int32)), (.int x0)]))
  refine own_s (fun t k => XS.iand X0.here hx rfl (hb hby at_2) rfl k) ?_
  show Go p.tables e below _ (s₁.setTop (mkF m 3 #[.val (.int x0), .val (.int x1), .val (.int x2), .val (.int x3), .unset, .unset, .unset, .unset, .unset, .unset, .unset] [(.int (x0 &&& (3 : Int32)))]))
  refine own_s (fun t k => XS.istore X0.here hx rfl (hb hby at_3) rfl (l' := #[.val (.int x0), .val (.int x1), .val (.int x2), .val (.int x3), .val (.int (x0 &&& (3 : Int32))), .unset, .unset, .unset, .unset, .unset, .unset]) rfl k) ?_
  show Go p.tables e below _ (s₁.setTop (mkF m 5 #[.val (.int x0), .val (.int x1), .val (.int x2), .val (.int x3), .val (.int (x0 &&& (3 : Int32))), .unset, .unset, .unset, .unset, .unset, .unset] []))
  rcases own_n4 x0 with q | q | q | q
  ·
    rw [q]
    show Go p.tables e below _ (s₁.setTop (mkF m 5 #[.val (.int x0), .val (.int x1), .val (.int x2), .val (.int x3), .val (.int (0 : Int32)), .unset, .unset, .unset, .unset, .unset, .unset] []))
    refine own_s (fun t k => XS.iload X0.here hx rfl (hb hby at_5) rfl k) ?_
    show Go p.tables e below _ (s₁.setTop (mkF m 7 #[.val (.int x0), .val (.int x1), .val (.int x2), .val (.int x3), .val (.int (0 : Int32)), .unset, .unset, .unset, .unset, .unset, .unset] [(.int (0 : Int32))]))
    obtain ⟨T1, h1, k1, X1, e1, E1, A1, st1⟩ := newP X0 hx hZ (hw _ (List.mem_of_getElem? (i := 0) rfl)) e0 (g := (mkF m 7 #[.val (.int x0), .val (.int x1), .val (.int x2), .val (.int x3), .val (.int (0 : Int32)), .unset, .unset, .unset, .unset, .unset, .unset] [(.int (0 : Int32))])) rfl (hb hby at_7) rfl (by decide) (cap := 0) (by decide) (by decide) (by decide) (by decide)
    obtain ⟨b1, gg1⟩ : ∃ z, z = h0.size := ⟨_, rfl⟩
    rw [← gg1] at A1 st1
    have g_b1 : n0 ≤ b1 := Nat.le_trans (Nat.le_of_eq O0.1.symm) (Nat.le_trans O0.2.1 (Nat.le_of_eq gg1.symm))
    have sz_b1 : h0.size ≤ b1 := Nat.le_trans K0.1 (Nat.le_of_eq gg1.symm)
    have K1 : Keep h0 h1 [] := K0.ext E1
    have V1 : Arv Z h1 b1 k1 .byte (0 : Int32) [] (.int (0 : Int32)) := (Arv.new A1 (by decide)).pad (pad_rep [] (.int (0 : Int32)) 0)
    refine own_s st1 ?_
    show Go p.tables e below _ (T1.setTop (mkF m 9 #[.val (.int x0), .val (.int x1), .val (.int x2), .val (.int x3), .val (.int (0 : Int32)), .unset, .unset, .unset, .unset, .unset, .unset] [(.ref b1)]))
    refine own_s (fun t k => XS.astore X1.here hx rfl (hb hby at_9) rfl rfl (l' := #[.val (.int x0), .val (.int x1), .val (.int x2), .val (.int x3), .val (.int (0 : Int32)), .val (.ref b1), .unset, .unset, .unset, .unset, .unset]) rfl k) ?_
    show Go p.tables e below _ (T1.setTop (mkF m 11 #[.val (.int x0), .val (.int x1), .val (.int x2), .val (.int x3), .val (.int (0 : Int32)), .val (.ref b1), .unset, .unset, .unset, .unset, .unset] []))
    refine own_s (fun t k => XS.iload X1.here hx rfl (hb hby at_11) rfl k) ?_
    show Go p.tables e below _ (T1.setTop (mkF m 13 #[.val (.int x0), .val (.int x1), .val (.int x2), .val (.int x3), .val (.int (0 : Int32)), .val (.ref b1), .unset, .unset, .unset, .unset, .unset] [(.int (0 : Int32))]))
    refine own_s (fun t k => XS.ifYes X1.here hx rfl (pc0 := 13) (pc' := 22) rfl (hb hby at_13) rfl ((if0 _ _).trans (flt (by decide : ¬ ((0 : Int32) < (0 : Int32)))).2.2.2) (by decide) (by decide) k) ?_
    show Go p.tables e below _ (T1.setTop (mkF m 22 #[.val (.int x0), .val (.int x1), .val (.int x2), .val (.int x3), .val (.int (0 : Int32)), .val (.ref b1), .unset, .unset, .unset, .unset, .unset] []))
    refine own_s (fun t k => XS.iload X1.here hx rfl (hb hby at_22) rfl k) ?_
    show Go p.tables e below _ (T1.setTop (mkF m 24 #[.val (.int x0), .val (.int x1), .val (.int x2), .val (.int x3), .val (.int (0 : Int32)), .val (.ref b1), .unset, .unset, .unset, .unset, .unset] [(.int (0 : Int32))]))
    refine own_s (fun t k => XS.iconst X1.here hx rfl (hb hby at_24) k) ?_
    show Go p.tables e below _ (T1.setTop (mkF m 25 #[.val (.int x0), .val (.int x1), .val (.int x2), .val (.int x3), .val (.int (0 : Int32)), .val (.ref b1), .unset, .unset, .unset, .unset, .unset] [(.int (1 : Int32)), (.int (0 : Int32))]))
    refine own_s (fun t k => XS.icmpYes X1.here hx rfl (pc0 := 25) (pc' := 34) rfl (hb hby at_25) rfl (flt (by decide : ¬ ((1 : Int32) < (0 : Int32)))).2.2.2 (by decide) (by decide) k) ?_
    show Go p.tables e below _ (T1.setTop (mkF m 34 #[.val (.int x0), .val (.int x1), .val (.int x2), .val (.int x3), .val (.int (0 : Int32)), .val (.ref b1), .unset, .unset, .unset, .unset, .unset] []))
    refine own_s (fun t k => XS.iload X1.here hx rfl (hb hby at_34) rfl k) ?_
    show Go p.tables e below _ (T1.setTop (mkF m 36 #[.val (.int x0), .val (.int x1), .val (.int x2), .val (.int x3), .val (.int (0 : Int32)), .val (.ref b1), .unset, .unset, .unset, .unset, .unset] [(.int (0 : Int32))]))
    refine own_s (fun t k => XS.iconst X1.here hx rfl (hb hby at_36) k) ?_
    show Go p.tables e below _ (T1.setTop (mkF m 37 #[.val (.int x0), .val (.int x1), .val (.int x2), .val (.int x3), .val (.int (0 : Int32)), .val (.ref b1), .unset, .unset, .unset, .unset, .unset] [(.int (2 : Int32)), (.int (0 : Int32))]))
    refine own_s (fun t k => XS.icmpYes X1.here hx rfl (pc0 := 37) (pc' := 46) rfl (hb hby at_37) rfl (flt (by decide : ¬ ((2 : Int32) < (0 : Int32)))).2.2.2 (by decide) (by decide) k) ?_
    show Go p.tables e below _ (T1.setTop (mkF m 46 #[.val (.int x0), .val (.int x1), .val (.int x2), .val (.int x3), .val (.int (0 : Int32)), .val (.ref b1), .unset, .unset, .unset, .unset, .unset] []))
    refine own_s (fun t k => XS.aload X1.here hx rfl (hb hby at_46) rfl rfl k) ?_
    have Vp2 : Arv Z h1 b1 k1 .byte (Int32.ofNat ([] : List Int32).length) (own_vs ([] : List Int32)) (.int (0 : Int32)) := V1
    show Go p.tables e below _ (T1.setTop (mkF m 48 #[.val (.int x0), .val (.int x1), .val (.int x2), .val (.int x3), .val (.int (0 : Int32)), .val (.ref b1), .unset, .unset, .unset, .unset, .unset] [(.ref b1)]))
    have O4 : Old Z n0 h1 := (O0.ext E1)
    obtain ⟨_, _, ⟨T3, L3, k3, n3⟩, -, Xr3, hSr3, gr3, ⟨Lc3, hQ3, l3, y3, z3⟩, st3⟩ := callSS X1 hx (y := (⟨"com/example/birep/birep/rrdp/RsyncBase", "encoded", "([B)Ljava/lang/String;"⟩ : MethodName)) hown (mvT hZ (hw _ (List.mem_of_getElem? (i := 1) rfl))) (mvT hZ (hw _ (List.mem_of_getElem? (i := 2) rfl))) (mvT hZ (hw _ (List.mem_of_getElem? (i := 3) rfl))) (mvT hZ (hw _ (List.mem_of_getElem? (i := 4) rfl))) (by decide) (own_backI (W := 0) hIB (rm1 l Z a0 hw [] cz uH kH ([] : List Int32) k1 b1 h1 n0 O4 S_C hcz S_H OV_H Vp2 (Nat.le_of_ble_eq_true rfl) own_rng0 hheld hcw) hZ (hw _ (List.mem_of_getElem? (i := 4) rfl)) (hw _ (List.mem_of_getElem? (i := 3) rfl)) (by decide) (by decide)) (g := (mkF m 48 #[.val (.int x0), .val (.int x1), .val (.int x2), .val (.int x3), .val (.int (0 : Int32)), .val (.ref b1), .unset, .unset, .unset, .unset, .unset] [(.ref b1)])) rfl (by rw [hml]; rfl) (argsL := [(.ref b1)]) (rest := []) (lenOf pd___B_Ljava_lang_String_ rfl) rfl (by show 2 * 0 + _ ≤ _; exact Nat.le_of_eq rfl) (hb hby at_48) (fun _ _ => ⟨rfl, e1, (by decide : 1 + 10 ≤ _), (by decide : 0 + 1020 ≤ _)⟩)
    dsimp only [Pt.U, Pt.locs, Pt.cells, Pt.slots] at Xr3 l3 y3 z3 st3 hQ3 hSr3 gr3
    subst l3 y3 z3
    obtain ⟨X3, hS3, hZ3, hown3⟩ := rebS hS0 (show _ ≤ T1.heap.size from (by rw [e1]; exact (Nat.le_trans (Nat.zero_le _) E1.1))) Xr3 hSr3 gr3 hZ hown
    obtain ⟨b1_11_3, b2_2_6_1_2_11_3, k2_2_6_1_2_11_3, rfl, N3q, Kc3, bz_b1_11_3, bz_b2_2_6_1_2_11_3, fc3_0, fc3_1, fc3_2, fc3_3⟩ := hQ3
    have g_b1_11_3 : n0 ≤ b1_11_3 := Nat.le_trans (Nat.le_of_eq O4.1.symm) (Nat.le_trans O4.2.1 bz_b1_11_3)
    have sz_b1_11_3 : h0.size ≤ b1_11_3 := Nat.le_trans K1.1 bz_b1_11_3
    have g_b2_2_6_1_2_11_3 : n0 ≤ b2_2_6_1_2_11_3 := Nat.le_trans (Nat.le_of_eq O4.1.symm) (Nat.le_trans O4.2.1 bz_b2_2_6_1_2_11_3)
    have sz_b2_2_6_1_2_11_3 : h0.size ≤ b2_2_6_1_2_11_3 := Nat.le_trans K1.1 bz_b2_2_6_1_2_11_3
    have K3 : Keep h0 T3.heap [] := K1.trans Kc3 all0
    have N3 := Fr.app N0 N3q
    refine own_t st3 ?_
    show Go p.tables e below _ (T3.setTop (mkF m 51 #[.val (.int x0), .val (.int x1), .val (.int x2), .val (.int x3), .val (.int (0 : Int32)), .val (.ref b1), .unset, .unset, .unset, .unset, .unset] [(.ref b1_11_3)]))
    refine own_s (fun t k => XS.astore X3.here hx rfl (hb hby at_51) rfl rfl (l' := #[.val (.int x0), .val (.int x1), .val (.int x2), .val (.int x3), .val (.int (0 : Int32)), .val (.ref b1), .val (.ref b1_11_3), .unset, .unset, .unset, .unset]) rfl k) ?_
    show Go p.tables e below _ (T3.setTop (mkF m 53 #[.val (.int x0), .val (.int x1), .val (.int x2), .val (.int x3), .val (.int (0 : Int32)), .val (.ref b1), .val (.ref b1_11_3), .unset, .unset, .unset, .unset] []))
    refine own_s (fun t k => XS.iload X3.here hx rfl (hb hby at_53) rfl k) ?_
    show Go p.tables e below _ (T3.setTop (mkF m 55 #[.val (.int x0), .val (.int x1), .val (.int x2), .val (.int x3), .val (.int (0 : Int32)), .val (.ref b1), .val (.ref b1_11_3), .unset, .unset, .unset, .unset] [(.int (0 : Int32))]))
    refine own_s (fun t k => XS.ifYes X3.here hx rfl (pc0 := 55) (pc' := 68) rfl (hb hby at_55) rfl ((if0 _ _).trans (flt (by decide : ¬ ((0 : Int32) < (0 : Int32)))).2.2.2) (by decide) (by decide) k) ?_
    show Go p.tables e below _ (T3.setTop (mkF m 68 #[.val (.int x0), .val (.int x1), .val (.int x2), .val (.int x3), .val (.int (0 : Int32)), .val (.ref b1), .val (.ref b1_11_3), .unset, .unset, .unset, .unset] []))
    refine own_s (fun t k => XS.iconst X3.here hx rfl (hb hby at_68) k) ?_
    show Go p.tables e below _ (T3.setTop (mkF m 69 #[.val (.int x0), .val (.int x1), .val (.int x2), .val (.int x3), .val (.int (0 : Int32)), .val (.ref b1), .val (.ref b1_11_3), .unset, .unset, .unset, .unset] [(.int (0 : Int32))]))
    refine own_s (fun t k => XS.istore X3.here hx rfl (hb hby at_69) rfl (l' := #[.val (.int x0), .val (.int x1), .val (.int x2), .val (.int x3), .val (.int (0 : Int32)), .val (.ref b1), .val (.ref b1_11_3), .val (.int (0 : Int32)), .unset, .unset, .unset]) rfl k) ?_
    show Go p.tables e below _ (T3.setTop (mkF m 71 #[.val (.int x0), .val (.int x1), .val (.int x2), .val (.int x3), .val (.int (0 : Int32)), .val (.ref b1), .val (.ref b1_11_3), .val (.int (0 : Int32)), .unset, .unset, .unset] []))
    refine own_s (fun t k => XS.iload X3.here hx rfl (hb hby at_71) rfl k) ?_
    show Go p.tables e below _ (T3.setTop (mkF m 73 #[.val (.int x0), .val (.int x1), .val (.int x2), .val (.int x3), .val (.int (0 : Int32)), .val (.ref b1), .val (.ref b1_11_3), .val (.int (0 : Int32)), .unset, .unset, .unset] [(.int (0 : Int32))]))
    refine own_s (fun t k => XS.iconst X3.here hx rfl (hb hby at_73) k) ?_
    show Go p.tables e below _ (T3.setTop (mkF m 74 #[.val (.int x0), .val (.int x1), .val (.int x2), .val (.int x3), .val (.int (0 : Int32)), .val (.ref b1), .val (.ref b1_11_3), .val (.int (0 : Int32)), .unset, .unset, .unset] [(.int (1 : Int32)), (.int (0 : Int32))]))
    refine own_s (fun t k => XS.icmpYes X3.here hx rfl (pc0 := 74) (pc' := 87) rfl (hb hby at_74) rfl (flt (by decide : ¬ ((1 : Int32) < (0 : Int32)))).2.2.2 (by decide) (by decide) k) ?_
    show Go p.tables e below _ (T3.setTop (mkF m 87 #[.val (.int x0), .val (.int x1), .val (.int x2), .val (.int x3), .val (.int (0 : Int32)), .val (.ref b1), .val (.ref b1_11_3), .val (.int (0 : Int32)), .unset, .unset, .unset] []))
    refine own_s (fun t k => XS.iconst X3.here hx rfl (hb hby at_87) k) ?_
    show Go p.tables e below _ (T3.setTop (mkF m 88 #[.val (.int x0), .val (.int x1), .val (.int x2), .val (.int x3), .val (.int (0 : Int32)), .val (.ref b1), .val (.ref b1_11_3), .val (.int (0 : Int32)), .unset, .unset, .unset] [(.int (0 : Int32))]))
    refine own_s (fun t k => XS.istore X3.here hx rfl (hb hby at_88) rfl (l' := #[.val (.int x0), .val (.int x1), .val (.int x2), .val (.int x3), .val (.int (0 : Int32)), .val (.ref b1), .val (.ref b1_11_3), .val (.int (0 : Int32)), .val (.int (0 : Int32)), .unset, .unset]) rfl k) ?_
    show Go p.tables e below _ (T3.setTop (mkF m 90 #[.val (.int x0), .val (.int x1), .val (.int x2), .val (.int x3), .val (.int (0 : Int32)), .val (.ref b1), .val (.ref b1_11_3), .val (.int (0 : Int32)), .val (.int (0 : Int32)), .unset, .unset] []))
    refine own_s (fun t k => XS.iload X3.here hx rfl (hb hby at_90) rfl k) ?_
    show Go p.tables e below _ (T3.setTop (mkF m 92 #[.val (.int x0), .val (.int x1), .val (.int x2), .val (.int x3), .val (.int (0 : Int32)), .val (.ref b1), .val (.ref b1_11_3), .val (.int (0 : Int32)), .val (.int (0 : Int32)), .unset, .unset] [(.int (0 : Int32))]))
    refine own_s (fun t k => XS.iconst X3.here hx rfl (hb hby at_92) k) ?_
    show Go p.tables e below _ (T3.setTop (mkF m 93 #[.val (.int x0), .val (.int x1), .val (.int x2), .val (.int x3), .val (.int (0 : Int32)), .val (.ref b1), .val (.ref b1_11_3), .val (.int (0 : Int32)), .val (.int (0 : Int32)), .unset, .unset] [(.int (2 : Int32)), (.int (0 : Int32))]))
    refine own_s (fun t k => XS.icmpYes X3.here hx rfl (pc0 := 93) (pc' := 106) rfl (hb hby at_93) rfl (flt (by decide : ¬ ((2 : Int32) < (0 : Int32)))).2.2.2 (by decide) (by decide) k) ?_
    show Go p.tables e below _ (T3.setTop (mkF m 106 #[.val (.int x0), .val (.int x1), .val (.int x2), .val (.int x3), .val (.int (0 : Int32)), .val (.ref b1), .val (.ref b1_11_3), .val (.int (0 : Int32)), .val (.int (0 : Int32)), .unset, .unset] []))
    refine own_s (fun t k => XS.iconst X3.here hx rfl (hb hby at_106) k) ?_
    show Go p.tables e below _ (T3.setTop (mkF m 107 #[.val (.int x0), .val (.int x1), .val (.int x2), .val (.int x3), .val (.int (0 : Int32)), .val (.ref b1), .val (.ref b1_11_3), .val (.int (0 : Int32)), .val (.int (0 : Int32)), .unset, .unset] [(.int (0 : Int32))]))
    refine own_s (fun t k => XS.istore X3.here hx rfl (hb hby at_107) rfl (l' := #[.val (.int x0), .val (.int x1), .val (.int x2), .val (.int x3), .val (.int (0 : Int32)), .val (.ref b1), .val (.ref b1_11_3), .val (.int (0 : Int32)), .val (.int (0 : Int32)), .val (.int (0 : Int32)), .unset]) rfl k) ?_
    show Go p.tables e below _ (T3.setTop (mkF m 109 #[.val (.int x0), .val (.int x1), .val (.int x2), .val (.int x3), .val (.int (0 : Int32)), .val (.ref b1), .val (.ref b1_11_3), .val (.int (0 : Int32)), .val (.int (0 : Int32)), .val (.int (0 : Int32)), .unset] []))
    refine own_s (fun t k => XS.aload X3.here hx rfl (hb hby at_109) rfl rfl k) ?_
    show Go p.tables e below _ (T3.setTop (mkF m 111 #[.val (.int x0), .val (.int x1), .val (.int x2), .val (.int x3), .val (.int (0 : Int32)), .val (.ref b1), .val (.ref b1_11_3), .val (.int (0 : Int32)), .val (.int (0 : Int32)), .val (.int (0 : Int32)), .unset] [(.ref b1_11_3)]))
    have O6 : Old Z n0 T3.heap := (O4.keep Kc3 all0)
    obtain ⟨cq5, kq5, q5a, q5b, q5c⟩ := isOf hZ3 rfl fc3_0
    obtain ⟨_, _, ⟨T5, L5, k5, n5⟩, -, X5, ⟨Lc5, hQ5, l5, y5, z5⟩, st5⟩ := X3.virtualBack hx (y := (⟨"java/lang/String", "length", "()I"⟩ : MethodName)) (z := (⟨"java/lang/String", "length", "()I"⟩ : MethodName)) hown3 (mvT hZ3 (hw _ (List.mem_of_getElem? (i := 84) rfl))) (mvT hZ3 (hw _ (List.mem_of_getElem? (i := 85) rfl))) (notFace_of_selects (args := #[]) (mvT hZ3 (hw _ (List.mem_of_getElem? (i := 87) rfl)))) (mvT hZ3 (hw _ (List.mem_of_getElem? (i := 87) rfl))) (mvT hZ3 (hw _ (List.mem_of_getElem? (i := 86) rfl))) (by decide) (backOf (W := 0) (rm16 l Z a0 hw [] cz (own_encL ([] : List Int32)) b2_2_6_1_2_11_3 k2_2_6_1_2_11_3 b1_11_3 T3.heap n0 O6 S_C hcz (own_hb _ (Nat.le_of_ble_eq_true rfl)) fc3_2 fc3_1 fc3_0 fc3_3) hZ3 (hw _ (List.mem_of_getElem? (i := 88) rfl)) (hw _ (List.mem_of_getElem? (i := 21) rfl)) (by decide) (by decide)) q5a q5c (g := (mkF m 111 #[.val (.int x0), .val (.int x1), .val (.int x2), .val (.int x3), .val (.int (0 : Int32)), .val (.ref b1), .val (.ref b1_11_3), .val (.int (0 : Int32)), .val (.int (0 : Int32)), .val (.int (0 : Int32)), .unset] [(.ref b1_11_3)])) rfl (by rw [hml]; rfl) (Steps.refl _) (argsL := []) (rest := []) (lenOf pd___I rfl) rfl (by show 2 * 0 + _ ≤ _; exact Nat.le_of_eq rfl) (hb hby at_111) (fun _ _ => ⟨rfl, rfl, (by decide : 11 + 0 ≤ _), (by decide : 1020 + 0 ≤ _)⟩)
    dsimp only [Pt.U, Pt.locs, Pt.cells, Pt.slots] at X5 l5 y5 z5 st5 hQ5
    subst l5 y5 z5
    obtain ⟨rfl, N5q, eq5⟩ := hQ5
    have N5 := Fr.app N3 N5q
    refine own_t st5 ?_
    show Go p.tables e below _ (T5.setTop (mkF m 114 #[.val (.int x0), .val (.int x1), .val (.int x2), .val (.int x3), .val (.int (0 : Int32)), .val (.ref b1), .val (.ref b1_11_3), .val (.int (0 : Int32)), .val (.int (0 : Int32)), .val (.int (0 : Int32)), .unset] [(.int (Int32.ofNat (own_encL ([] : List Int32)).length))]))
    refine own_s (fun t k => XS.iload X5.here hx rfl (hb hby at_114) rfl k) ?_
    show Go p.tables e below _ (T5.setTop (mkF m 116 #[.val (.int x0), .val (.int x1), .val (.int x2), .val (.int x3), .val (.int (0 : Int32)), .val (.ref b1), .val (.ref b1_11_3), .val (.int (0 : Int32)), .val (.int (0 : Int32)), .val (.int (0 : Int32)), .unset] [(.int (0 : Int32)), (.int (Int32.ofNat (own_encL ([] : List Int32)).length))]))
    refine own_s (fun t k => XS.iload X5.here hx rfl (hb hby at_116) rfl k) ?_
    show Go p.tables e below _ (T5.setTop (mkF m 118 #[.val (.int x0), .val (.int x1), .val (.int x2), .val (.int x3), .val (.int (0 : Int32)), .val (.ref b1), .val (.ref b1_11_3), .val (.int (0 : Int32)), .val (.int (0 : Int32)), .val (.int (0 : Int32)), .unset] [(.int (0 : Int32)), (.int (0 : Int32)), (.int (Int32.ofNat (own_encL ([] : List Int32)).length))]))
    refine own_s (fun t k => XS.iadd X5.here hx rfl (hb hby at_118) rfl k) ?_
    show Go p.tables e below _ (T5.setTop (mkF m 119 #[.val (.int x0), .val (.int x1), .val (.int x2), .val (.int x3), .val (.int (0 : Int32)), .val (.ref b1), .val (.ref b1_11_3), .val (.int (0 : Int32)), .val (.int (0 : Int32)), .val (.int (0 : Int32)), .unset] [(.int (0 : Int32)), (.int (Int32.ofNat (own_encL ([] : List Int32)).length))]))
    refine own_s (fun t k => XS.iload X5.here hx rfl (hb hby at_119) rfl k) ?_
    show Go p.tables e below _ (T5.setTop (mkF m 121 #[.val (.int x0), .val (.int x1), .val (.int x2), .val (.int x3), .val (.int (0 : Int32)), .val (.ref b1), .val (.ref b1_11_3), .val (.int (0 : Int32)), .val (.int (0 : Int32)), .val (.int (0 : Int32)), .unset] [(.int (0 : Int32)), (.int (0 : Int32)), (.int (Int32.ofNat (own_encL ([] : List Int32)).length))]))
    refine own_s (fun t k => XS.iadd X5.here hx rfl (hb hby at_121) rfl k) ?_
    show Go p.tables e below _ (T5.setTop (mkF m 122 #[.val (.int x0), .val (.int x1), .val (.int x2), .val (.int x3), .val (.int (0 : Int32)), .val (.ref b1), .val (.ref b1_11_3), .val (.int (0 : Int32)), .val (.int (0 : Int32)), .val (.int (0 : Int32)), .unset] [(.int (0 : Int32)), (.int (Int32.ofNat (own_encL ([] : List Int32)).length))]))
    refine own_s (fun t k => XS.icmpYes X5.here hx rfl (pc0 := 122) (pc' := 127) rfl (hb hby at_122) rfl (teq own_L0).1 (by decide) (by decide) k) ?_
    show Go p.tables e below _ (T5.setTop (mkF m 127 #[.val (.int x0), .val (.int x1), .val (.int x2), .val (.int x3), .val (.int (0 : Int32)), .val (.ref b1), .val (.ref b1_11_3), .val (.int (0 : Int32)), .val (.int (0 : Int32)), .val (.int (0 : Int32)), .unset] []))
    refine own_s (fun t k => XS.iconst X5.here hx rfl (hb hby at_127) k) ?_
    show Go p.tables e below _ (T5.setTop (mkF m 128 #[.val (.int x0), .val (.int x1), .val (.int x2), .val (.int x3), .val (.int (0 : Int32)), .val (.ref b1), .val (.ref b1_11_3), .val (.int (0 : Int32)), .val (.int (0 : Int32)), .val (.int (0 : Int32)), .unset] [(.int (1 : Int32))]))
    refine own_s (fun t k => XS.istore X5.here hx rfl (hb hby at_128) rfl (l' := #[.val (.int x0), .val (.int x1), .val (.int x2), .val (.int x3), .val (.int (0 : Int32)), .val (.ref b1), .val (.ref b1_11_3), .val (.int (0 : Int32)), .val (.int (0 : Int32)), .val (.int (0 : Int32)), .val (.int (1 : Int32))]) rfl k) ?_
    show Go p.tables e below _ (T5.setTop (mkF m 130 #[.val (.int x0), .val (.int x1), .val (.int x2), .val (.int x3), .val (.int (0 : Int32)), .val (.ref b1), .val (.ref b1_11_3), .val (.int (0 : Int32)), .val (.int (0 : Int32)), .val (.int (0 : Int32)), .val (.int (1 : Int32))] []))
    refine own_s (fun t k => XS.iload X5.here hx rfl (hb hby at_130) rfl k) ?_
    show Go p.tables e below _ (T5.setTop (mkF m 132 #[.val (.int x0), .val (.int x1), .val (.int x2), .val (.int x3), .val (.int (0 : Int32)), .val (.ref b1), .val (.ref b1_11_3), .val (.int (0 : Int32)), .val (.int (0 : Int32)), .val (.int (0 : Int32)), .val (.int (1 : Int32))] [(.int (0 : Int32))]))
    refine own_s (fun t k => XS.ifYes X5.here hx rfl (pc0 := 132) (pc' := 160) rfl (hb hby at_132) rfl ((if0 _ _).trans (flt (by decide : ¬ ((0 : Int32) < (0 : Int32)))).2.2.2) (by decide) (by decide) k) ?_
    show Go p.tables e below _ (T5.setTop (mkF m 160 #[.val (.int x0), .val (.int x1), .val (.int x2), .val (.int x3), .val (.int (0 : Int32)), .val (.ref b1), .val (.ref b1_11_3), .val (.int (0 : Int32)), .val (.int (0 : Int32)), .val (.int (0 : Int32)), .val (.int (1 : Int32))] []))
    refine own_s (fun t k => XS.iload X5.here hx rfl (hb hby at_160) rfl k) ?_
    show Go p.tables e below _ (T5.setTop (mkF m 162 #[.val (.int x0), .val (.int x1), .val (.int x2), .val (.int x3), .val (.int (0 : Int32)), .val (.ref b1), .val (.ref b1_11_3), .val (.int (0 : Int32)), .val (.int (0 : Int32)), .val (.int (0 : Int32)), .val (.int (1 : Int32))] [(.int (0 : Int32))]))
    refine own_s (fun t k => XS.iconst X5.here hx rfl (hb hby at_162) k) ?_
    show Go p.tables e below _ (T5.setTop (mkF m 163 #[.val (.int x0), .val (.int x1), .val (.int x2), .val (.int x3), .val (.int (0 : Int32)), .val (.ref b1), .val (.ref b1_11_3), .val (.int (0 : Int32)), .val (.int (0 : Int32)), .val (.int (0 : Int32)), .val (.int (1 : Int32))] [(.int (1 : Int32)), (.int (0 : Int32))]))
    refine own_s (fun t k => XS.icmpYes X5.here hx rfl (pc0 := 163) (pc' := 192) rfl (hb hby at_163) rfl (flt (by decide : ¬ ((1 : Int32) < (0 : Int32)))).2.2.2 (by decide) (by decide) k) ?_
    show Go p.tables e below _ (T5.setTop (mkF m 192 #[.val (.int x0), .val (.int x1), .val (.int x2), .val (.int x3), .val (.int (0 : Int32)), .val (.ref b1), .val (.ref b1_11_3), .val (.int (0 : Int32)), .val (.int (0 : Int32)), .val (.int (0 : Int32)), .val (.int (1 : Int32))] []))
    refine own_s (fun t k => XS.iload X5.here hx rfl (hb hby at_192) rfl k) ?_
    show Go p.tables e below _ (T5.setTop (mkF m 194 #[.val (.int x0), .val (.int x1), .val (.int x2), .val (.int x3), .val (.int (0 : Int32)), .val (.ref b1), .val (.ref b1_11_3), .val (.int (0 : Int32)), .val (.int (0 : Int32)), .val (.int (0 : Int32)), .val (.int (1 : Int32))] [(.int (0 : Int32))]))
    refine own_s (fun t k => XS.iconst X5.here hx rfl (hb hby at_194) k) ?_
    show Go p.tables e below _ (T5.setTop (mkF m 195 #[.val (.int x0), .val (.int x1), .val (.int x2), .val (.int x3), .val (.int (0 : Int32)), .val (.ref b1), .val (.ref b1_11_3), .val (.int (0 : Int32)), .val (.int (0 : Int32)), .val (.int (0 : Int32)), .val (.int (1 : Int32))] [(.int (2 : Int32)), (.int (0 : Int32))]))
    refine own_s (fun t k => XS.icmpYes X5.here hx rfl (pc0 := 195) (pc' := 227) rfl (hb hby at_195) rfl (flt (by decide : ¬ ((2 : Int32) < (0 : Int32)))).2.2.2 (by decide) (by decide) k) ?_
    show Go p.tables e below _ (T5.setTop (mkF m 227 #[.val (.int x0), .val (.int x1), .val (.int x2), .val (.int x3), .val (.int (0 : Int32)), .val (.ref b1), .val (.ref b1_11_3), .val (.int (0 : Int32)), .val (.int (0 : Int32)), .val (.int (0 : Int32)), .val (.int (1 : Int32))] []))
    refine own_s (fun t k => XS.iload X5.here hx rfl (hb hby at_227) rfl k) ?_
    show Go p.tables e below _ (T5.setTop (mkF m 229 #[.val (.int x0), .val (.int x1), .val (.int x2), .val (.int x3), .val (.int (0 : Int32)), .val (.ref b1), .val (.ref b1_11_3), .val (.int (0 : Int32)), .val (.int (0 : Int32)), .val (.int (0 : Int32)), .val (.int (1 : Int32))] [(.int (1 : Int32))]))
    obtain ⟨fs, hr, hrun, hended, hEnd⟩ := X5.leaveW hS3 (show _ ≤ T5.heap.size from (by rw [eq5]; exact (Nat.le_refl _))) (v := (some (.int (1 : Int32)))) (fun h => by first | rfl | (rw [Bd.returns] at h; cases h))
    refine own_e hPP ?_ hrun hended ⟨_, _, rfl, ?_, hEnd.1, hEnd.2.1, hEnd.2.2.1, hEnd.2.2.2.mono (by decide) (by decide)⟩
    · exact retN X5 hx (t := .boolean) Bd.returns (by simp) (hb hby at_229) hr
    · show Q_rm0 Z cz uH kH vF x0 x1 x2 x3 h0 n0 _ T5.heap _
      rw [eq5]
      exact ⟨rfl, N5⟩
  ·
    rw [q]
    show Go p.tables e below _ (s₁.setTop (mkF m 5 #[.val (.int x0), .val (.int x1), .val (.int x2), .val (.int x3), .val (.int (1 : Int32)), .unset, .unset, .unset, .unset, .unset, .unset] []))
    refine own_s (fun t k => XS.iload X0.here hx rfl (hb hby at_5) rfl k) ?_
    show Go p.tables e below _ (s₁.setTop (mkF m 7 #[.val (.int x0), .val (.int x1), .val (.int x2), .val (.int x3), .val (.int (1 : Int32)), .unset, .unset, .unset, .unset, .unset, .unset] [(.int (1 : Int32))]))
    obtain ⟨T7, h7, k7, X7, e7, E7, A7, st7⟩ := newP X0 hx hZ (hw _ (List.mem_of_getElem? (i := 0) rfl)) e0 (g := (mkF m 7 #[.val (.int x0), .val (.int x1), .val (.int x2), .val (.int x3), .val (.int (1 : Int32)), .unset, .unset, .unset, .unset, .unset, .unset] [(.int (1 : Int32))])) rfl (hb hby at_7) rfl (by decide) (cap := 1) (by decide) (by decide) (by decide) (by decide)
    obtain ⟨b7, gg7⟩ : ∃ z, z = h0.size := ⟨_, rfl⟩
    rw [← gg7] at A7 st7
    have g_b7 : n0 ≤ b7 := Nat.le_trans (Nat.le_of_eq O0.1.symm) (Nat.le_trans O0.2.1 (Nat.le_of_eq gg7.symm))
    have sz_b7 : h0.size ≤ b7 := Nat.le_trans K0.1 (Nat.le_of_eq gg7.symm)
    have K7 : Keep h0 h7 [] := K0.ext E7
    have V7 : Arv Z h7 b7 k7 .byte (1 : Int32) [(.int (0 : Int32))] (.int (0 : Int32)) := (Arv.new A7 (by decide)).pad (pad_rep [] (.int (0 : Int32)) 1)
    refine own_s st7 ?_
    show Go p.tables e below _ (T7.setTop (mkF m 9 #[.val (.int x0), .val (.int x1), .val (.int x2), .val (.int x3), .val (.int (1 : Int32)), .unset, .unset, .unset, .unset, .unset, .unset] [(.ref b7)]))
    refine own_s (fun t k => XS.astore X7.here hx rfl (hb hby at_9) rfl rfl (l' := #[.val (.int x0), .val (.int x1), .val (.int x2), .val (.int x3), .val (.int (1 : Int32)), .val (.ref b7), .unset, .unset, .unset, .unset, .unset]) rfl k) ?_
    show Go p.tables e below _ (T7.setTop (mkF m 11 #[.val (.int x0), .val (.int x1), .val (.int x2), .val (.int x3), .val (.int (1 : Int32)), .val (.ref b7), .unset, .unset, .unset, .unset, .unset] []))
    refine own_s (fun t k => XS.iload X7.here hx rfl (hb hby at_11) rfl k) ?_
    show Go p.tables e below _ (T7.setTop (mkF m 13 #[.val (.int x0), .val (.int x1), .val (.int x2), .val (.int x3), .val (.int (1 : Int32)), .val (.ref b7), .unset, .unset, .unset, .unset, .unset] [(.int (1 : Int32))]))
    refine own_s (fun t k => XS.ifNo X7.here hx rfl (hb hby at_13) rfl ((if0 _ _).trans (tlt (by decide : (0 : Int32) < (1 : Int32))).2.2.2) k) ?_
    show Go p.tables e below _ (T7.setTop (mkF m 16 #[.val (.int x0), .val (.int x1), .val (.int x2), .val (.int x3), .val (.int (1 : Int32)), .val (.ref b7), .unset, .unset, .unset, .unset, .unset] []))
    refine own_s (fun t k => XS.aload X7.here hx rfl (hb hby at_16) rfl rfl k) ?_
    show Go p.tables e below _ (T7.setTop (mkF m 18 #[.val (.int x0), .val (.int x1), .val (.int x2), .val (.int x3), .val (.int (1 : Int32)), .val (.ref b7), .unset, .unset, .unset, .unset, .unset] [(.ref b7)]))
    refine own_s (fun t k => XS.iconst X7.here hx rfl (hb hby at_18) k) ?_
    show Go p.tables e below _ (T7.setTop (mkF m 19 #[.val (.int x0), .val (.int x1), .val (.int x2), .val (.int x3), .val (.int (1 : Int32)), .val (.ref b7), .unset, .unset, .unset, .unset, .unset] [(.int (0 : Int32)), (.ref b7)]))
    refine own_s (fun t k => XS.iloadN X7.here hx rfl (hb hby at_19) rfl k) ?_
    show Go p.tables e below _ (T7.setTop (mkF m 20 #[.val (.int x0), .val (.int x1), .val (.int x2), .val (.int x3), .val (.int (1 : Int32)), .val (.ref b7), .unset, .unset, .unset, .unset, .unset] [(.int x1), (.int (0 : Int32)), (.ref b7)]))
    refine own_s (fun t k => XS.i2b X7.here hx rfl (hb hby at_20) rfl k) ?_
    show Go p.tables e below _ (T7.setTop (mkF m 21 #[.val (.int x0), .val (.int x1), .val (.int x2), .val (.int x3), .val (.int (1 : Int32)), .val (.ref b7), .unset, .unset, .unset, .unset, .unset] [(.int (x1.toInt8.toInt32)), (.int (0 : Int32)), (.ref b7)]))
    obtain ⟨cl8, Ar8, qk8, Sz8, Nn8, Hs8, Gf8⟩ := id V7
    have hin8 : ¬ ((0 : Int32) < 0 ∨ cl8.slots.size ≤ ((0 : Int32)).toNatClampNeg) := inb_of Sz8 ⟨by decide, by decide⟩
    obtain ⟨T9, h9, X9, e9, W9, st9⟩ := stB X7 hx hZ e7 Ar8 (j := (0 : Int32)) hin8 (g := (mkF m 21 #[.val (.int x0), .val (.int x1), .val (.int x2), .val (.int x3), .val (.int (1 : Int32)), .val (.ref b7), .unset, .unset, .unset, .unset, .unset] [(.int (x1.toInt8.toInt32)), (.int (0 : Int32)), (.ref b7)])) rfl rfl (hb hby at_21)
    refine own_s st9 ?_
    have K9 : Keep h0 h9 [] := K7.wr W9 (Or.inr sz_b7)
    have N9 := Fr.snoc X9 N0 g_b7
    have V9 : Arv Z h9 b7 k7 .byte (1 : Int32) [(.int (own_b x1))] (.int (0 : Int32)) := Arv.set Ar8 qk8 Sz8 Nn8 Hs8 Gf8 (fits_nar_byte _) W9 0 rfl (Nat.le_of_ble_eq_true rfl)
    show Go p.tables e below _ (T9.setTop (mkF m 22 #[.val (.int x0), .val (.int x1), .val (.int x2), .val (.int x3), .val (.int (1 : Int32)), .val (.ref b7), .unset, .unset, .unset, .unset, .unset] []))
    refine own_s (fun t k => XS.iload X9.here hx rfl (hb hby at_22) rfl k) ?_
    show Go p.tables e below _ (T9.setTop (mkF m 24 #[.val (.int x0), .val (.int x1), .val (.int x2), .val (.int x3), .val (.int (1 : Int32)), .val (.ref b7), .unset, .unset, .unset, .unset, .unset] [(.int (1 : Int32))]))
    refine own_s (fun t k => XS.iconst X9.here hx rfl (hb hby at_24) k) ?_
    show Go p.tables e below _ (T9.setTop (mkF m 25 #[.val (.int x0), .val (.int x1), .val (.int x2), .val (.int x3), .val (.int (1 : Int32)), .val (.ref b7), .unset, .unset, .unset, .unset, .unset] [(.int (1 : Int32)), (.int (1 : Int32))]))
    refine own_s (fun t k => XS.icmpYes X9.here hx rfl (pc0 := 25) (pc' := 34) rfl (hb hby at_25) rfl (flt (by decide : ¬ ((1 : Int32) < (1 : Int32)))).2.2.2 (by decide) (by decide) k) ?_
    show Go p.tables e below _ (T9.setTop (mkF m 34 #[.val (.int x0), .val (.int x1), .val (.int x2), .val (.int x3), .val (.int (1 : Int32)), .val (.ref b7), .unset, .unset, .unset, .unset, .unset] []))
    refine own_s (fun t k => XS.iload X9.here hx rfl (hb hby at_34) rfl k) ?_
    show Go p.tables e below _ (T9.setTop (mkF m 36 #[.val (.int x0), .val (.int x1), .val (.int x2), .val (.int x3), .val (.int (1 : Int32)), .val (.ref b7), .unset, .unset, .unset, .unset, .unset] [(.int (1 : Int32))]))
    refine own_s (fun t k => XS.iconst X9.here hx rfl (hb hby at_36) k) ?_
    show Go p.tables e below _ (T9.setTop (mkF m 37 #[.val (.int x0), .val (.int x1), .val (.int x2), .val (.int x3), .val (.int (1 : Int32)), .val (.ref b7), .unset, .unset, .unset, .unset, .unset] [(.int (2 : Int32)), (.int (1 : Int32))]))
    refine own_s (fun t k => XS.icmpYes X9.here hx rfl (pc0 := 37) (pc' := 46) rfl (hb hby at_37) rfl (flt (by decide : ¬ ((2 : Int32) < (1 : Int32)))).2.2.2 (by decide) (by decide) k) ?_
    show Go p.tables e below _ (T9.setTop (mkF m 46 #[.val (.int x0), .val (.int x1), .val (.int x2), .val (.int x3), .val (.int (1 : Int32)), .val (.ref b7), .unset, .unset, .unset, .unset, .unset] []))
    refine own_s (fun t k => XS.aload X9.here hx rfl (hb hby at_46) rfl rfl k) ?_
    have Vp10 : Arv Z h9 b7 k7 .byte (Int32.ofNat [own_b x1].length) (own_vs [own_b x1]) (.int (0 : Int32)) := V9
    show Go p.tables e below _ (T9.setTop (mkF m 48 #[.val (.int x0), .val (.int x1), .val (.int x2), .val (.int x3), .val (.int (1 : Int32)), .val (.ref b7), .unset, .unset, .unset, .unset, .unset] [(.ref b7)]))
    have O12 : Old Z n0 h9 := ((O0.ext E7).wr W9 g_b7)
    obtain ⟨_, _, ⟨T11, L11, k11, n11⟩, -, Xr11, hSr11, gr11, ⟨Lc11, hQ11, l11, y11, z11⟩, st11⟩ := callSS X9 hx (y := (⟨"com/example/birep/birep/rrdp/RsyncBase", "encoded", "([B)Ljava/lang/String;"⟩ : MethodName)) hown (mvT hZ (hw _ (List.mem_of_getElem? (i := 1) rfl))) (mvT hZ (hw _ (List.mem_of_getElem? (i := 2) rfl))) (mvT hZ (hw _ (List.mem_of_getElem? (i := 3) rfl))) (mvT hZ (hw _ (List.mem_of_getElem? (i := 4) rfl))) (by decide) (own_backI (W := 0) hIB (rm1 l Z a0 hw [] cz uH kH ([own_b x1]) k7 b7 h9 n0 O12 S_C hcz S_H OV_H Vp10 (Nat.le_of_ble_eq_true rfl) (own_rngS (own_bR x1) own_rng0) hheld hcw) hZ (hw _ (List.mem_of_getElem? (i := 4) rfl)) (hw _ (List.mem_of_getElem? (i := 3) rfl)) (by decide) (by decide)) (g := (mkF m 48 #[.val (.int x0), .val (.int x1), .val (.int x2), .val (.int x3), .val (.int (1 : Int32)), .val (.ref b7), .unset, .unset, .unset, .unset, .unset] [(.ref b7)])) rfl (by rw [hml]; rfl) (argsL := [(.ref b7)]) (rest := []) (lenOf pd___B_Ljava_lang_String_ rfl) rfl (by show 2 * 0 + _ ≤ _; exact Nat.le_of_eq rfl) (hb hby at_48) (fun _ _ => ⟨rfl, e9, (by decide : 1 + 10 ≤ _), (by decide : 1 + 1020 ≤ _)⟩)
    dsimp only [Pt.U, Pt.locs, Pt.cells, Pt.slots] at Xr11 l11 y11 z11 st11 hQ11 hSr11 gr11
    subst l11 y11 z11
    obtain ⟨X11, hS11, hZ11, hown11⟩ := rebS hS0 (show _ ≤ T9.heap.size from (by rw [e9]; exact (Nat.le_trans (Nat.le_trans (Nat.zero_le _) E7.1) (Keep.of_wr W9).1))) Xr11 hSr11 gr11 hZ hown
    obtain ⟨b1_11_11, b2_2_6_1_2_11_11, k2_2_6_1_2_11_11, rfl, N11q, Kc11, bz_b1_11_11, bz_b2_2_6_1_2_11_11, fc11_0, fc11_1, fc11_2, fc11_3⟩ := hQ11
    have g_b1_11_11 : n0 ≤ b1_11_11 := Nat.le_trans (Nat.le_of_eq O12.1.symm) (Nat.le_trans O12.2.1 bz_b1_11_11)
    have sz_b1_11_11 : h0.size ≤ b1_11_11 := Nat.le_trans K9.1 bz_b1_11_11
    have g_b2_2_6_1_2_11_11 : n0 ≤ b2_2_6_1_2_11_11 := Nat.le_trans (Nat.le_of_eq O12.1.symm) (Nat.le_trans O12.2.1 bz_b2_2_6_1_2_11_11)
    have sz_b2_2_6_1_2_11_11 : h0.size ≤ b2_2_6_1_2_11_11 := Nat.le_trans K9.1 bz_b2_2_6_1_2_11_11
    have K11 : Keep h0 T11.heap [] := K9.trans Kc11 all0
    have N11 := Fr.app N9 N11q
    refine own_t st11 ?_
    show Go p.tables e below _ (T11.setTop (mkF m 51 #[.val (.int x0), .val (.int x1), .val (.int x2), .val (.int x3), .val (.int (1 : Int32)), .val (.ref b7), .unset, .unset, .unset, .unset, .unset] [(.ref b1_11_11)]))
    refine own_s (fun t k => XS.astore X11.here hx rfl (hb hby at_51) rfl rfl (l' := #[.val (.int x0), .val (.int x1), .val (.int x2), .val (.int x3), .val (.int (1 : Int32)), .val (.ref b7), .val (.ref b1_11_11), .unset, .unset, .unset, .unset]) rfl k) ?_
    show Go p.tables e below _ (T11.setTop (mkF m 53 #[.val (.int x0), .val (.int x1), .val (.int x2), .val (.int x3), .val (.int (1 : Int32)), .val (.ref b7), .val (.ref b1_11_11), .unset, .unset, .unset, .unset] []))
    refine own_s (fun t k => XS.iload X11.here hx rfl (hb hby at_53) rfl k) ?_
    show Go p.tables e below _ (T11.setTop (mkF m 55 #[.val (.int x0), .val (.int x1), .val (.int x2), .val (.int x3), .val (.int (1 : Int32)), .val (.ref b7), .val (.ref b1_11_11), .unset, .unset, .unset, .unset] [(.int (1 : Int32))]))
    refine own_s (fun t k => XS.ifNo X11.here hx rfl (hb hby at_55) rfl ((if0 _ _).trans (tlt (by decide : (0 : Int32) < (1 : Int32))).2.2.2) k) ?_
    show Go p.tables e below _ (T11.setTop (mkF m 58 #[.val (.int x0), .val (.int x1), .val (.int x2), .val (.int x3), .val (.int (1 : Int32)), .val (.ref b7), .val (.ref b1_11_11), .unset, .unset, .unset, .unset] []))
    refine own_s (fun t k => XS.aload X11.here hx rfl (hb hby at_58) rfl rfl k) ?_
    show Go p.tables e below _ (T11.setTop (mkF m 60 #[.val (.int x0), .val (.int x1), .val (.int x2), .val (.int x3), .val (.int (1 : Int32)), .val (.ref b7), .val (.ref b1_11_11), .unset, .unset, .unset, .unset] [(.ref b7)]))
    refine own_s (fun t k => XS.iconst X11.here hx rfl (hb hby at_60) k) ?_
    show Go p.tables e below _ (T11.setTop (mkF m 61 #[.val (.int x0), .val (.int x1), .val (.int x2), .val (.int x3), .val (.int (1 : Int32)), .val (.ref b7), .val (.ref b1_11_11), .unset, .unset, .unset, .unset] [(.int (0 : Int32)), (.ref b7)]))
    have V13 : Arv Z T11.heap b7 k7 .byte (Int32.ofNat [own_b x1].length) (own_vs [own_b x1]) (.int (0 : Int32)) := (Vp10.keep Kc11 nin0)
    obtain ⟨cl14, Ar14, qk14, Sz14, Nn14, Hs14, Gf14⟩ := id V13
    have hin14 : ¬ ((0 : Int32) < 0 ∨ cl14.slots.size ≤ ((0 : Int32)).toNatClampNeg) := inb_of Sz14 ⟨by decide, (by show (0 : Int32) < (1 : Int32); decide)⟩
    have hat14 : cl14.slots[((0 : Int32)).toNatClampNeg]? = some (.int (own_b x1)) := Has.at Hs14 hin14 rfl
    refine own_s (X11.baloadBytes hx (j := (0 : Int32)) (v := (.int (own_b x1))) Ar14.1 (State.isArrayOf_alike hZ11.alike Ar14.2.1) Ar14.2.2 hin14 hat14 (g := (mkF m 61 #[.val (.int x0), .val (.int x1), .val (.int x2), .val (.int x3), .val (.int (1 : Int32)), .val (.ref b7), .val (.ref b1_11_11), .unset, .unset, .unset, .unset] [(.int (0 : Int32)), (.ref b7)])) rfl rfl (hb hby at_61)) ?_
    show Go p.tables e below _ (T11.setTop (mkF m 62 #[.val (.int x0), .val (.int x1), .val (.int x2), .val (.int x3), .val (.int (1 : Int32)), .val (.ref b7), .val (.ref b1_11_11), .unset, .unset, .unset, .unset] [(.int (own_b x1))]))
    have O16 : Old Z n0 T11.heap := (O12.keep Kc11 all0)
    obtain ⟨_, _, ⟨T15, L15, k15, n15⟩, -, X15, ⟨Lc15, hQ15, l15, y15, z15⟩, st15⟩ := Jvm.LawKit.callS X11 hx (y := (⟨"com/example/birep/birep/rrdp/RsyncBaseEncodedPinLaw", "width", "(B)I"⟩ : MethodName)) hown11 (mvT hZ11 (hw _ (List.mem_of_getElem? (i := 116) rfl))) (mvT hZ11 (hw _ (List.mem_of_getElem? (i := 117) rfl))) (mvT hZ11 (hw _ (List.mem_of_getElem? (i := 118) rfl))) (mvT hZ11 (hw _ (List.mem_of_getElem? (i := 119) rfl))) (by decide) (backOf (W := 0) (rm22 l Z a0 hw [] (own_b x1) T11.heap n0 O16 ) hZ11 (hw _ (List.mem_of_getElem? (i := 119) rfl)) (hw _ (List.mem_of_getElem? (i := 118) rfl)) (by decide) (by decide)) (g := (mkF m 62 #[.val (.int x0), .val (.int x1), .val (.int x2), .val (.int x3), .val (.int (1 : Int32)), .val (.ref b7), .val (.ref b1_11_11), .unset, .unset, .unset, .unset] [(.int (own_b x1))])) rfl (by rw [hml]; rfl) (argsL := [(.int (own_b x1))]) (rest := []) (lenOf pd__B_I rfl) rfl (by show 2 * 0 + _ ≤ _; exact Nat.le_of_eq rfl) (hb hby at_62) (fun _ _ => ⟨rfl, rfl, (by decide : 11 + 0 ≤ _), (by decide : 1021 + 0 ≤ _)⟩)
    dsimp only [Pt.U, Pt.locs, Pt.cells, Pt.slots] at X15 l15 y15 z15 st15 hQ15
    subst l15 y15 z15
    obtain ⟨rfl, N15q, eq15⟩ := hQ15
    have N15 := Fr.app N11 N15q
    refine own_s st15 ?_
    show Go p.tables e below _ (T15.setTop (mkF m 65 #[.val (.int x0), .val (.int x1), .val (.int x2), .val (.int x3), .val (.int (1 : Int32)), .val (.ref b7), .val (.ref b1_11_11), .unset, .unset, .unset, .unset] [(.int (own_width (own_b x1)))]))
    refine own_s (fun t k => XS.goto X15.here hx rfl (pc0 := 65) (pc' := 69) rfl (hb hby at_65) (by decide) (by decide) k) ?_
    show Go p.tables e below _ (T15.setTop (mkF m 69 #[.val (.int x0), .val (.int x1), .val (.int x2), .val (.int x3), .val (.int (1 : Int32)), .val (.ref b7), .val (.ref b1_11_11), .unset, .unset, .unset, .unset] [(.int (own_width (own_b x1)))]))
    refine own_s (fun t k => XS.istore X15.here hx rfl (hb hby at_69) rfl (l' := #[.val (.int x0), .val (.int x1), .val (.int x2), .val (.int x3), .val (.int (1 : Int32)), .val (.ref b7), .val (.ref b1_11_11), .val (.int (own_width (own_b x1))), .unset, .unset, .unset]) rfl k) ?_
    show Go p.tables e below _ (T15.setTop (mkF m 71 #[.val (.int x0), .val (.int x1), .val (.int x2), .val (.int x3), .val (.int (1 : Int32)), .val (.ref b7), .val (.ref b1_11_11), .val (.int (own_width (own_b x1))), .unset, .unset, .unset] []))
    refine own_s (fun t k => XS.iload X15.here hx rfl (hb hby at_71) rfl k) ?_
    show Go p.tables e below _ (T15.setTop (mkF m 73 #[.val (.int x0), .val (.int x1), .val (.int x2), .val (.int x3), .val (.int (1 : Int32)), .val (.ref b7), .val (.ref b1_11_11), .val (.int (own_width (own_b x1))), .unset, .unset, .unset] [(.int (1 : Int32))]))
    refine own_s (fun t k => XS.iconst X15.here hx rfl (hb hby at_73) k) ?_
    show Go p.tables e below _ (T15.setTop (mkF m 74 #[.val (.int x0), .val (.int x1), .val (.int x2), .val (.int x3), .val (.int (1 : Int32)), .val (.ref b7), .val (.ref b1_11_11), .val (.int (own_width (own_b x1))), .unset, .unset, .unset] [(.int (1 : Int32)), (.int (1 : Int32))]))
    refine own_s (fun t k => XS.icmpYes X15.here hx rfl (pc0 := 74) (pc' := 87) rfl (hb hby at_74) rfl (flt (by decide : ¬ ((1 : Int32) < (1 : Int32)))).2.2.2 (by decide) (by decide) k) ?_
    show Go p.tables e below _ (T15.setTop (mkF m 87 #[.val (.int x0), .val (.int x1), .val (.int x2), .val (.int x3), .val (.int (1 : Int32)), .val (.ref b7), .val (.ref b1_11_11), .val (.int (own_width (own_b x1))), .unset, .unset, .unset] []))
    refine own_s (fun t k => XS.iconst X15.here hx rfl (hb hby at_87) k) ?_
    show Go p.tables e below _ (T15.setTop (mkF m 88 #[.val (.int x0), .val (.int x1), .val (.int x2), .val (.int x3), .val (.int (1 : Int32)), .val (.ref b7), .val (.ref b1_11_11), .val (.int (own_width (own_b x1))), .unset, .unset, .unset] [(.int (0 : Int32))]))
    refine own_s (fun t k => XS.istore X15.here hx rfl (hb hby at_88) rfl (l' := #[.val (.int x0), .val (.int x1), .val (.int x2), .val (.int x3), .val (.int (1 : Int32)), .val (.ref b7), .val (.ref b1_11_11), .val (.int (own_width (own_b x1))), .val (.int (0 : Int32)), .unset, .unset]) rfl k) ?_
    show Go p.tables e below _ (T15.setTop (mkF m 90 #[.val (.int x0), .val (.int x1), .val (.int x2), .val (.int x3), .val (.int (1 : Int32)), .val (.ref b7), .val (.ref b1_11_11), .val (.int (own_width (own_b x1))), .val (.int (0 : Int32)), .unset, .unset] []))
    refine own_s (fun t k => XS.iload X15.here hx rfl (hb hby at_90) rfl k) ?_
    show Go p.tables e below _ (T15.setTop (mkF m 92 #[.val (.int x0), .val (.int x1), .val (.int x2), .val (.int x3), .val (.int (1 : Int32)), .val (.ref b7), .val (.ref b1_11_11), .val (.int (own_width (own_b x1))), .val (.int (0 : Int32)), .unset, .unset] [(.int (1 : Int32))]))
    refine own_s (fun t k => XS.iconst X15.here hx rfl (hb hby at_92) k) ?_
    show Go p.tables e below _ (T15.setTop (mkF m 93 #[.val (.int x0), .val (.int x1), .val (.int x2), .val (.int x3), .val (.int (1 : Int32)), .val (.ref b7), .val (.ref b1_11_11), .val (.int (own_width (own_b x1))), .val (.int (0 : Int32)), .unset, .unset] [(.int (2 : Int32)), (.int (1 : Int32))]))
    refine own_s (fun t k => XS.icmpYes X15.here hx rfl (pc0 := 93) (pc' := 106) rfl (hb hby at_93) rfl (flt (by decide : ¬ ((2 : Int32) < (1 : Int32)))).2.2.2 (by decide) (by decide) k) ?_
    show Go p.tables e below _ (T15.setTop (mkF m 106 #[.val (.int x0), .val (.int x1), .val (.int x2), .val (.int x3), .val (.int (1 : Int32)), .val (.ref b7), .val (.ref b1_11_11), .val (.int (own_width (own_b x1))), .val (.int (0 : Int32)), .unset, .unset] []))
    refine own_s (fun t k => XS.iconst X15.here hx rfl (hb hby at_106) k) ?_
    show Go p.tables e below _ (T15.setTop (mkF m 107 #[.val (.int x0), .val (.int x1), .val (.int x2), .val (.int x3), .val (.int (1 : Int32)), .val (.ref b7), .val (.ref b1_11_11), .val (.int (own_width (own_b x1))), .val (.int (0 : Int32)), .unset, .unset] [(.int (0 : Int32))]))
    refine own_s (fun t k => XS.istore X15.here hx rfl (hb hby at_107) rfl (l' := #[.val (.int x0), .val (.int x1), .val (.int x2), .val (.int x3), .val (.int (1 : Int32)), .val (.ref b7), .val (.ref b1_11_11), .val (.int (own_width (own_b x1))), .val (.int (0 : Int32)), .val (.int (0 : Int32)), .unset]) rfl k) ?_
    show Go p.tables e below _ (T15.setTop (mkF m 109 #[.val (.int x0), .val (.int x1), .val (.int x2), .val (.int x3), .val (.int (1 : Int32)), .val (.ref b7), .val (.ref b1_11_11), .val (.int (own_width (own_b x1))), .val (.int (0 : Int32)), .val (.int (0 : Int32)), .unset] []))
    refine own_s (fun t k => XS.aload X15.here hx rfl (hb hby at_109) rfl rfl k) ?_
    show Go p.tables e below _ (T15.setTop (mkF m 111 #[.val (.int x0), .val (.int x1), .val (.int x2), .val (.int x3), .val (.int (1 : Int32)), .val (.ref b7), .val (.ref b1_11_11), .val (.int (own_width (own_b x1))), .val (.int (0 : Int32)), .val (.int (0 : Int32)), .unset] [(.ref b1_11_11)]))
    obtain ⟨cq17, kq17, q17a, q17b, q17c⟩ := isOf hZ11 eq15 fc11_0
    obtain ⟨_, _, ⟨T17, L17, k17, n17⟩, -, X17, ⟨Lc17, hQ17, l17, y17, z17⟩, st17⟩ := X15.virtualBack hx (y := (⟨"java/lang/String", "length", "()I"⟩ : MethodName)) (z := (⟨"java/lang/String", "length", "()I"⟩ : MethodName)) hown11 (mvT hZ11 (hw _ (List.mem_of_getElem? (i := 84) rfl))) (mvT hZ11 (hw _ (List.mem_of_getElem? (i := 85) rfl))) (notFace_of_selects (args := #[]) (mvT hZ11 (hw _ (List.mem_of_getElem? (i := 87) rfl)))) (mvT hZ11 (hw _ (List.mem_of_getElem? (i := 87) rfl))) (mvT hZ11 (hw _ (List.mem_of_getElem? (i := 86) rfl))) (by decide) (backOf (W := 0) (rm16 l Z a0 hw [] cz (own_encL [own_b x1]) b2_2_6_1_2_11_11 k2_2_6_1_2_11_11 b1_11_11 T11.heap n0 O16 S_C hcz (own_hb _ (Nat.le_of_ble_eq_true rfl)) fc11_2 fc11_1 fc11_0 fc11_3) hZ11 (hw _ (List.mem_of_getElem? (i := 88) rfl)) (hw _ (List.mem_of_getElem? (i := 21) rfl)) (by decide) (by decide)) q17a q17c (g := (mkF m 111 #[.val (.int x0), .val (.int x1), .val (.int x2), .val (.int x3), .val (.int (1 : Int32)), .val (.ref b7), .val (.ref b1_11_11), .val (.int (own_width (own_b x1))), .val (.int (0 : Int32)), .val (.int (0 : Int32)), .unset] [(.ref b1_11_11)])) rfl (by rw [hml]; rfl) (Steps.refl _) (argsL := []) (rest := []) (lenOf pd___I rfl) rfl (by show 2 * 0 + _ ≤ _; exact Nat.le_of_eq rfl) (hb hby at_111) (fun _ _ => ⟨rfl, eq15, (by decide : 11 + 0 ≤ _), (by decide : 1021 + 0 ≤ _)⟩)
    dsimp only [Pt.U, Pt.locs, Pt.cells, Pt.slots] at X17 l17 y17 z17 st17 hQ17
    subst l17 y17 z17
    obtain ⟨rfl, N17q, eq17⟩ := hQ17
    have N17 := Fr.app N15 N17q
    refine own_t st17 ?_
    show Go p.tables e below _ (T17.setTop (mkF m 114 #[.val (.int x0), .val (.int x1), .val (.int x2), .val (.int x3), .val (.int (1 : Int32)), .val (.ref b7), .val (.ref b1_11_11), .val (.int (own_width (own_b x1))), .val (.int (0 : Int32)), .val (.int (0 : Int32)), .unset] [(.int (Int32.ofNat (own_encL [own_b x1]).length))]))
    refine own_s (fun t k => XS.iload X17.here hx rfl (hb hby at_114) rfl k) ?_
    show Go p.tables e below _ (T17.setTop (mkF m 116 #[.val (.int x0), .val (.int x1), .val (.int x2), .val (.int x3), .val (.int (1 : Int32)), .val (.ref b7), .val (.ref b1_11_11), .val (.int (own_width (own_b x1))), .val (.int (0 : Int32)), .val (.int (0 : Int32)), .unset] [(.int (own_width (own_b x1))), (.int (Int32.ofNat (own_encL [own_b x1]).length))]))
    refine own_s (fun t k => XS.iload X17.here hx rfl (hb hby at_116) rfl k) ?_
    show Go p.tables e below _ (T17.setTop (mkF m 118 #[.val (.int x0), .val (.int x1), .val (.int x2), .val (.int x3), .val (.int (1 : Int32)), .val (.ref b7), .val (.ref b1_11_11), .val (.int (own_width (own_b x1))), .val (.int (0 : Int32)), .val (.int (0 : Int32)), .unset] [(.int (0 : Int32)), (.int (own_width (own_b x1))), (.int (Int32.ofNat (own_encL [own_b x1]).length))]))
    refine own_s (fun t k => XS.iadd X17.here hx rfl (hb hby at_118) rfl k) ?_
    show Go p.tables e below _ (T17.setTop (mkF m 119 #[.val (.int x0), .val (.int x1), .val (.int x2), .val (.int x3), .val (.int (1 : Int32)), .val (.ref b7), .val (.ref b1_11_11), .val (.int (own_width (own_b x1))), .val (.int (0 : Int32)), .val (.int (0 : Int32)), .unset] [(.int ((own_width (own_b x1)) + (0 : Int32))), (.int (Int32.ofNat (own_encL [own_b x1]).length))]))
    refine own_s (fun t k => XS.iload X17.here hx rfl (hb hby at_119) rfl k) ?_
    show Go p.tables e below _ (T17.setTop (mkF m 121 #[.val (.int x0), .val (.int x1), .val (.int x2), .val (.int x3), .val (.int (1 : Int32)), .val (.ref b7), .val (.ref b1_11_11), .val (.int (own_width (own_b x1))), .val (.int (0 : Int32)), .val (.int (0 : Int32)), .unset] [(.int (0 : Int32)), (.int ((own_width (own_b x1)) + (0 : Int32))), (.int (Int32.ofNat (own_encL [own_b x1]).length))]))
    refine own_s (fun t k => XS.iadd X17.here hx rfl (hb hby at_121) rfl k) ?_
    show Go p.tables e below _ (T17.setTop (mkF m 122 #[.val (.int x0), .val (.int x1), .val (.int x2), .val (.int x3), .val (.int (1 : Int32)), .val (.ref b7), .val (.ref b1_11_11), .val (.int (own_width (own_b x1))), .val (.int (0 : Int32)), .val (.int (0 : Int32)), .unset] [(.int (((own_width (own_b x1)) + (0 : Int32)) + (0 : Int32))), (.int (Int32.ofNat (own_encL [own_b x1]).length))]))
    refine own_s (fun t k => XS.icmpYes X17.here hx rfl (pc0 := 122) (pc' := 127) rfl (hb hby at_122) rfl (teq (own_L1 (own_bR x1))).1 (by decide) (by decide) k) ?_
    show Go p.tables e below _ (T17.setTop (mkF m 127 #[.val (.int x0), .val (.int x1), .val (.int x2), .val (.int x3), .val (.int (1 : Int32)), .val (.ref b7), .val (.ref b1_11_11), .val (.int (own_width (own_b x1))), .val (.int (0 : Int32)), .val (.int (0 : Int32)), .unset] []))
    refine own_s (fun t k => XS.iconst X17.here hx rfl (hb hby at_127) k) ?_
    show Go p.tables e below _ (T17.setTop (mkF m 128 #[.val (.int x0), .val (.int x1), .val (.int x2), .val (.int x3), .val (.int (1 : Int32)), .val (.ref b7), .val (.ref b1_11_11), .val (.int (own_width (own_b x1))), .val (.int (0 : Int32)), .val (.int (0 : Int32)), .unset] [(.int (1 : Int32))]))
    refine own_s (fun t k => XS.istore X17.here hx rfl (hb hby at_128) rfl (l' := #[.val (.int x0), .val (.int x1), .val (.int x2), .val (.int x3), .val (.int (1 : Int32)), .val (.ref b7), .val (.ref b1_11_11), .val (.int (own_width (own_b x1))), .val (.int (0 : Int32)), .val (.int (0 : Int32)), .val (.int (1 : Int32))]) rfl k) ?_
    show Go p.tables e below _ (T17.setTop (mkF m 130 #[.val (.int x0), .val (.int x1), .val (.int x2), .val (.int x3), .val (.int (1 : Int32)), .val (.ref b7), .val (.ref b1_11_11), .val (.int (own_width (own_b x1))), .val (.int (0 : Int32)), .val (.int (0 : Int32)), .val (.int (1 : Int32))] []))
    refine own_s (fun t k => XS.iload X17.here hx rfl (hb hby at_130) rfl k) ?_
    show Go p.tables e below _ (T17.setTop (mkF m 132 #[.val (.int x0), .val (.int x1), .val (.int x2), .val (.int x3), .val (.int (1 : Int32)), .val (.ref b7), .val (.ref b1_11_11), .val (.int (own_width (own_b x1))), .val (.int (0 : Int32)), .val (.int (0 : Int32)), .val (.int (1 : Int32))] [(.int (1 : Int32))]))
    refine own_s (fun t k => XS.ifNo X17.here hx rfl (hb hby at_132) rfl ((if0 _ _).trans (tlt (by decide : (0 : Int32) < (1 : Int32))).2.2.2) k) ?_
    show Go p.tables e below _ (T17.setTop (mkF m 135 #[.val (.int x0), .val (.int x1), .val (.int x2), .val (.int x3), .val (.int (1 : Int32)), .val (.ref b7), .val (.ref b1_11_11), .val (.int (own_width (own_b x1))), .val (.int (0 : Int32)), .val (.int (0 : Int32)), .val (.int (1 : Int32))] []))
    refine own_s (fun t k => XS.iload X17.here hx rfl (hb hby at_135) rfl k) ?_
    show Go p.tables e below _ (T17.setTop (mkF m 137 #[.val (.int x0), .val (.int x1), .val (.int x2), .val (.int x3), .val (.int (1 : Int32)), .val (.ref b7), .val (.ref b1_11_11), .val (.int (own_width (own_b x1))), .val (.int (0 : Int32)), .val (.int (0 : Int32)), .val (.int (1 : Int32))] [(.int (1 : Int32))]))
    refine own_s (fun t k => XS.ifNo X17.here hx rfl (hb hby at_137) rfl ((if0 _ _).trans (feq (by decide : ¬ ((1 : Int32) = (0 : Int32)))).1) k) ?_
    show Go p.tables e below _ (T17.setTop (mkF m 140 #[.val (.int x0), .val (.int x1), .val (.int x2), .val (.int x3), .val (.int (1 : Int32)), .val (.ref b7), .val (.ref b1_11_11), .val (.int (own_width (own_b x1))), .val (.int (0 : Int32)), .val (.int (0 : Int32)), .val (.int (1 : Int32))] []))
    refine own_s (fun t k => XS.aload X17.here hx rfl (hb hby at_140) rfl rfl k) ?_
    show Go p.tables e below _ (T17.setTop (mkF m 142 #[.val (.int x0), .val (.int x1), .val (.int x2), .val (.int x3), .val (.int (1 : Int32)), .val (.ref b7), .val (.ref b1_11_11), .val (.int (own_width (own_b x1))), .val (.int (0 : Int32)), .val (.int (0 : Int32)), .val (.int (1 : Int32))] [(.ref b1_11_11)]))
    refine own_s (fun t k => XS.iconst X17.here hx rfl (hb hby at_142) k) ?_
    show Go p.tables e below _ (T17.setTop (mkF m 143 #[.val (.int x0), .val (.int x1), .val (.int x2), .val (.int x3), .val (.int (1 : Int32)), .val (.ref b7), .val (.ref b1_11_11), .val (.int (own_width (own_b x1))), .val (.int (0 : Int32)), .val (.int (0 : Int32)), .val (.int (1 : Int32))] [(.int (0 : Int32)), (.ref b1_11_11)]))
    refine own_s (fun t k => XS.aload X17.here hx rfl (hb hby at_143) rfl rfl k) ?_
    show Go p.tables e below _ (T17.setTop (mkF m 145 #[.val (.int x0), .val (.int x1), .val (.int x2), .val (.int x3), .val (.int (1 : Int32)), .val (.ref b7), .val (.ref b1_11_11), .val (.int (own_width (own_b x1))), .val (.int (0 : Int32)), .val (.int (0 : Int32)), .val (.int (1 : Int32))] [(.ref b7), (.int (0 : Int32)), (.ref b1_11_11)]))
    refine own_s (fun t k => XS.iconst X17.here hx rfl (hb hby at_145) k) ?_
    show Go p.tables e below _ (T17.setTop (mkF m 146 #[.val (.int x0), .val (.int x1), .val (.int x2), .val (.int x3), .val (.int (1 : Int32)), .val (.ref b7), .val (.ref b1_11_11), .val (.int (own_width (own_b x1))), .val (.int (0 : Int32)), .val (.int (0 : Int32)), .val (.int (1 : Int32))] [(.int (0 : Int32)), (.ref b7), (.int (0 : Int32)), (.ref b1_11_11)]))
    obtain ⟨cl18, Ar18, qk18, Sz18, Nn18, Hs18, Gf18⟩ := id V13
    have hin18 : ¬ ((0 : Int32) < 0 ∨ cl18.slots.size ≤ ((0 : Int32)).toNatClampNeg) := inb_of Sz18 ⟨by decide, (by show (0 : Int32) < (1 : Int32); decide)⟩
    have hat18 : cl18.slots[((0 : Int32)).toNatClampNeg]? = some (.int (own_b x1)) := Has.at Hs18 hin18 rfl
    refine own_s (X17.baloadBytes hx (j := (0 : Int32)) (v := (.int (own_b x1))) (by rw [eq17]; exact Ar18.1) (State.isArrayOf_alike hZ11.alike Ar18.2.1) Ar18.2.2 hin18 hat18 (g := (mkF m 146 #[.val (.int x0), .val (.int x1), .val (.int x2), .val (.int x3), .val (.int (1 : Int32)), .val (.ref b7), .val (.ref b1_11_11), .val (.int (own_width (own_b x1))), .val (.int (0 : Int32)), .val (.int (0 : Int32)), .val (.int (1 : Int32))] [(.int (0 : Int32)), (.ref b7), (.int (0 : Int32)), (.ref b1_11_11)])) rfl rfl (hb hby at_146)) ?_
    show Go p.tables e below _ (T17.setTop (mkF m 147 #[.val (.int x0), .val (.int x1), .val (.int x2), .val (.int x3), .val (.int (1 : Int32)), .val (.ref b7), .val (.ref b1_11_11), .val (.int (own_width (own_b x1))), .val (.int (0 : Int32)), .val (.int (0 : Int32)), .val (.int (1 : Int32))] [(.int (own_b x1)), (.int (0 : Int32)), (.ref b1_11_11)]))
    obtain ⟨_, _, ⟨T19, L19, k19, n19⟩, -, X19, ⟨Lc19, hQ19, l19, y19, z19⟩, st19⟩ := Jvm.LawKit.callS X17 hx (y := (⟨"com/example/birep/birep/rrdp/RsyncBaseEncodedPinLaw", "seg", "(Ljava/lang/String;IB)Z"⟩ : MethodName)) hown11 (mvT hZ11 (hw _ (List.mem_of_getElem? (i := 123) rfl))) (mvT hZ11 (hw _ (List.mem_of_getElem? (i := 124) rfl))) (mvT hZ11 (hw _ (List.mem_of_getElem? (i := 118) rfl))) (mvT hZ11 (hw _ (List.mem_of_getElem? (i := 125) rfl))) (by decide) (backOf (W := 0) (rm24 l Z a0 hw [] cz (own_encL [own_b x1]) b2_2_6_1_2_11_11 k2_2_6_1_2_11_11 vF b1_11_11 (0 : Int32) (own_b x1) T11.heap n0 O16 S_C hcz S_F hvF (own_hb _ (Nat.le_of_ble_eq_true rfl)) fc11_2 fc11_1 fc11_0 fc11_3 (own_S0 (own_E1 (own_b x1)) (own_bR x1) (own_hb _ (Nat.le_of_ble_eq_true rfl))).1) hZ11 (hw _ (List.mem_of_getElem? (i := 125) rfl)) (hw _ (List.mem_of_getElem? (i := 118) rfl)) (by decide) (by decide)) (g := (mkF m 147 #[.val (.int x0), .val (.int x1), .val (.int x2), .val (.int x3), .val (.int (1 : Int32)), .val (.ref b7), .val (.ref b1_11_11), .val (.int (own_width (own_b x1))), .val (.int (0 : Int32)), .val (.int (0 : Int32)), .val (.int (1 : Int32))] [(.int (own_b x1)), (.int (0 : Int32)), (.ref b1_11_11)])) rfl (by rw [hml]; rfl) (argsL := [(.ref b1_11_11), (.int (0 : Int32)), (.int (own_b x1))]) (rest := []) (lenOf pd__Ljava_lang_String_IB_Z rfl) rfl (by show 2 * 0 + _ ≤ _; exact Nat.le_of_eq rfl) (hb hby at_147) (fun _ _ => ⟨rfl, eq17, (by decide : 11 + 0 ≤ _), (by decide : 1021 + 0 ≤ _)⟩)
    dsimp only [Pt.U, Pt.locs, Pt.cells, Pt.slots] at X19 l19 y19 z19 st19 hQ19
    subst l19 y19 z19
    obtain ⟨rfl, N19q, eq19⟩ := hQ19
    have N19 := Fr.app N17 N19q
    refine own_s st19 ?_
    show Go p.tables e below _ (T19.setTop (mkF m 150 #[.val (.int x0), .val (.int x1), .val (.int x2), .val (.int x3), .val (.int (1 : Int32)), .val (.ref b7), .val (.ref b1_11_11), .val (.int (own_width (own_b x1))), .val (.int (0 : Int32)), .val (.int (0 : Int32)), .val (.int (1 : Int32))] [(.int (own_seg (own_encL [own_b x1]) (0 : Int32) (own_b x1)))]))
    refine own_s (fun t k => XS.ifNo X19.here hx rfl (hb hby at_150) rfl ((if0 _ _).trans (feq (own_S0 (own_E1 (own_b x1)) (own_bR x1) (own_hb _ (Nat.le_of_ble_eq_true rfl))).2).1) k) ?_
    show Go p.tables e below _ (T19.setTop (mkF m 153 #[.val (.int x0), .val (.int x1), .val (.int x2), .val (.int x3), .val (.int (1 : Int32)), .val (.ref b7), .val (.ref b1_11_11), .val (.int (own_width (own_b x1))), .val (.int (0 : Int32)), .val (.int (0 : Int32)), .val (.int (1 : Int32))] []))
    refine own_s (fun t k => XS.iconst X19.here hx rfl (hb hby at_153) k) ?_
    show Go p.tables e below _ (T19.setTop (mkF m 154 #[.val (.int x0), .val (.int x1), .val (.int x2), .val (.int x3), .val (.int (1 : Int32)), .val (.ref b7), .val (.ref b1_11_11), .val (.int (own_width (own_b x1))), .val (.int (0 : Int32)), .val (.int (0 : Int32)), .val (.int (1 : Int32))] [(.int (1 : Int32))]))
    refine own_s (fun t k => XS.goto X19.here hx rfl (pc0 := 154) (pc' := 158) rfl (hb hby at_154) (by decide) (by decide) k) ?_
    show Go p.tables e below _ (T19.setTop (mkF m 158 #[.val (.int x0), .val (.int x1), .val (.int x2), .val (.int x3), .val (.int (1 : Int32)), .val (.ref b7), .val (.ref b1_11_11), .val (.int (own_width (own_b x1))), .val (.int (0 : Int32)), .val (.int (0 : Int32)), .val (.int (1 : Int32))] [(.int (1 : Int32))]))
    refine own_s (fun t k => XS.istore X19.here hx rfl (hb hby at_158) rfl (l' := #[.val (.int x0), .val (.int x1), .val (.int x2), .val (.int x3), .val (.int (1 : Int32)), .val (.ref b7), .val (.ref b1_11_11), .val (.int (own_width (own_b x1))), .val (.int (0 : Int32)), .val (.int (0 : Int32)), .val (.int (1 : Int32))]) rfl k) ?_
    show Go p.tables e below _ (T19.setTop (mkF m 160 #[.val (.int x0), .val (.int x1), .val (.int x2), .val (.int x3), .val (.int (1 : Int32)), .val (.ref b7), .val (.ref b1_11_11), .val (.int (own_width (own_b x1))), .val (.int (0 : Int32)), .val (.int (0 : Int32)), .val (.int (1 : Int32))] []))
    refine own_s (fun t k => XS.iload X19.here hx rfl (hb hby at_160) rfl k) ?_
    show Go p.tables e below _ (T19.setTop (mkF m 162 #[.val (.int x0), .val (.int x1), .val (.int x2), .val (.int x3), .val (.int (1 : Int32)), .val (.ref b7), .val (.ref b1_11_11), .val (.int (own_width (own_b x1))), .val (.int (0 : Int32)), .val (.int (0 : Int32)), .val (.int (1 : Int32))] [(.int (1 : Int32))]))
    refine own_s (fun t k => XS.iconst X19.here hx rfl (hb hby at_162) k) ?_
    show Go p.tables e below _ (T19.setTop (mkF m 163 #[.val (.int x0), .val (.int x1), .val (.int x2), .val (.int x3), .val (.int (1 : Int32)), .val (.ref b7), .val (.ref b1_11_11), .val (.int (own_width (own_b x1))), .val (.int (0 : Int32)), .val (.int (0 : Int32)), .val (.int (1 : Int32))] [(.int (1 : Int32)), (.int (1 : Int32))]))
    refine own_s (fun t k => XS.icmpYes X19.here hx rfl (pc0 := 163) (pc' := 192) rfl (hb hby at_163) rfl (flt (by decide : ¬ ((1 : Int32) < (1 : Int32)))).2.2.2 (by decide) (by decide) k) ?_
    show Go p.tables e below _ (T19.setTop (mkF m 192 #[.val (.int x0), .val (.int x1), .val (.int x2), .val (.int x3), .val (.int (1 : Int32)), .val (.ref b7), .val (.ref b1_11_11), .val (.int (own_width (own_b x1))), .val (.int (0 : Int32)), .val (.int (0 : Int32)), .val (.int (1 : Int32))] []))
    refine own_s (fun t k => XS.iload X19.here hx rfl (hb hby at_192) rfl k) ?_
    show Go p.tables e below _ (T19.setTop (mkF m 194 #[.val (.int x0), .val (.int x1), .val (.int x2), .val (.int x3), .val (.int (1 : Int32)), .val (.ref b7), .val (.ref b1_11_11), .val (.int (own_width (own_b x1))), .val (.int (0 : Int32)), .val (.int (0 : Int32)), .val (.int (1 : Int32))] [(.int (1 : Int32))]))
    refine own_s (fun t k => XS.iconst X19.here hx rfl (hb hby at_194) k) ?_
    show Go p.tables e below _ (T19.setTop (mkF m 195 #[.val (.int x0), .val (.int x1), .val (.int x2), .val (.int x3), .val (.int (1 : Int32)), .val (.ref b7), .val (.ref b1_11_11), .val (.int (own_width (own_b x1))), .val (.int (0 : Int32)), .val (.int (0 : Int32)), .val (.int (1 : Int32))] [(.int (2 : Int32)), (.int (1 : Int32))]))
    refine own_s (fun t k => XS.icmpYes X19.here hx rfl (pc0 := 195) (pc' := 227) rfl (hb hby at_195) rfl (flt (by decide : ¬ ((2 : Int32) < (1 : Int32)))).2.2.2 (by decide) (by decide) k) ?_
    show Go p.tables e below _ (T19.setTop (mkF m 227 #[.val (.int x0), .val (.int x1), .val (.int x2), .val (.int x3), .val (.int (1 : Int32)), .val (.ref b7), .val (.ref b1_11_11), .val (.int (own_width (own_b x1))), .val (.int (0 : Int32)), .val (.int (0 : Int32)), .val (.int (1 : Int32))] []))
    refine own_s (fun t k => XS.iload X19.here hx rfl (hb hby at_227) rfl k) ?_
    show Go p.tables e below _ (T19.setTop (mkF m 229 #[.val (.int x0), .val (.int x1), .val (.int x2), .val (.int x3), .val (.int (1 : Int32)), .val (.ref b7), .val (.ref b1_11_11), .val (.int (own_width (own_b x1))), .val (.int (0 : Int32)), .val (.int (0 : Int32)), .val (.int (1 : Int32))] [(.int (1 : Int32))]))
    obtain ⟨fs, hr, hrun, hended, hEnd⟩ := X19.leaveW hS11 (show _ ≤ T19.heap.size from (by rw [eq19]; exact (Nat.le_refl _))) (v := (some (.int (1 : Int32)))) (fun h => by first | rfl | (rw [Bd.returns] at h; cases h))
    refine own_e hPP ?_ hrun hended ⟨_, _, rfl, ?_, hEnd.1, hEnd.2.1, hEnd.2.2.1, hEnd.2.2.2.mono (by decide) (by decide)⟩
    · exact retN X19 hx (t := .boolean) Bd.returns (by simp) (hb hby at_229) hr
    · show Q_rm0 Z cz uH kH vF x0 x1 x2 x3 h0 n0 _ T19.heap _
      rw [eq19]
      exact ⟨rfl, N19⟩
  ·
    rw [q]
    show Go p.tables e below _ (s₁.setTop (mkF m 5 #[.val (.int x0), .val (.int x1), .val (.int x2), .val (.int x3), .val (.int (2 : Int32)), .unset, .unset, .unset, .unset, .unset, .unset] []))
    refine own_s (fun t k => XS.iload X0.here hx rfl (hb hby at_5) rfl k) ?_
    show Go p.tables e below _ (s₁.setTop (mkF m 7 #[.val (.int x0), .val (.int x1), .val (.int x2), .val (.int x3), .val (.int (2 : Int32)), .unset, .unset, .unset, .unset, .unset, .unset] [(.int (2 : Int32))]))
    obtain ⟨T20, h20, k20, X20, e20, E20, A20, st20⟩ := newP X0 hx hZ (hw _ (List.mem_of_getElem? (i := 0) rfl)) e0 (g := (mkF m 7 #[.val (.int x0), .val (.int x1), .val (.int x2), .val (.int x3), .val (.int (2 : Int32)), .unset, .unset, .unset, .unset, .unset, .unset] [(.int (2 : Int32))])) rfl (hb hby at_7) rfl (by decide) (cap := 2) (by decide) (by decide) (by decide) (by decide)
    obtain ⟨b20, gg20⟩ : ∃ z, z = h0.size := ⟨_, rfl⟩
    rw [← gg20] at A20 st20
    have g_b20 : n0 ≤ b20 := Nat.le_trans (Nat.le_of_eq O0.1.symm) (Nat.le_trans O0.2.1 (Nat.le_of_eq gg20.symm))
    have sz_b20 : h0.size ≤ b20 := Nat.le_trans K0.1 (Nat.le_of_eq gg20.symm)
    have K20 : Keep h0 h20 [] := K0.ext E20
    have V20 : Arv Z h20 b20 k20 .byte (2 : Int32) [(.int (0 : Int32)), (.int (0 : Int32))] (.int (0 : Int32)) := (Arv.new A20 (by decide)).pad (pad_rep [] (.int (0 : Int32)) 2)
    refine own_s st20 ?_
    show Go p.tables e below _ (T20.setTop (mkF m 9 #[.val (.int x0), .val (.int x1), .val (.int x2), .val (.int x3), .val (.int (2 : Int32)), .unset, .unset, .unset, .unset, .unset, .unset] [(.ref b20)]))
    refine own_s (fun t k => XS.astore X20.here hx rfl (hb hby at_9) rfl rfl (l' := #[.val (.int x0), .val (.int x1), .val (.int x2), .val (.int x3), .val (.int (2 : Int32)), .val (.ref b20), .unset, .unset, .unset, .unset, .unset]) rfl k) ?_
    show Go p.tables e below _ (T20.setTop (mkF m 11 #[.val (.int x0), .val (.int x1), .val (.int x2), .val (.int x3), .val (.int (2 : Int32)), .val (.ref b20), .unset, .unset, .unset, .unset, .unset] []))
    refine own_s (fun t k => XS.iload X20.here hx rfl (hb hby at_11) rfl k) ?_
    show Go p.tables e below _ (T20.setTop (mkF m 13 #[.val (.int x0), .val (.int x1), .val (.int x2), .val (.int x3), .val (.int (2 : Int32)), .val (.ref b20), .unset, .unset, .unset, .unset, .unset] [(.int (2 : Int32))]))
    refine own_s (fun t k => XS.ifNo X20.here hx rfl (hb hby at_13) rfl ((if0 _ _).trans (tlt (by decide : (0 : Int32) < (2 : Int32))).2.2.2) k) ?_
    show Go p.tables e below _ (T20.setTop (mkF m 16 #[.val (.int x0), .val (.int x1), .val (.int x2), .val (.int x3), .val (.int (2 : Int32)), .val (.ref b20), .unset, .unset, .unset, .unset, .unset] []))
    refine own_s (fun t k => XS.aload X20.here hx rfl (hb hby at_16) rfl rfl k) ?_
    show Go p.tables e below _ (T20.setTop (mkF m 18 #[.val (.int x0), .val (.int x1), .val (.int x2), .val (.int x3), .val (.int (2 : Int32)), .val (.ref b20), .unset, .unset, .unset, .unset, .unset] [(.ref b20)]))
    refine own_s (fun t k => XS.iconst X20.here hx rfl (hb hby at_18) k) ?_
    show Go p.tables e below _ (T20.setTop (mkF m 19 #[.val (.int x0), .val (.int x1), .val (.int x2), .val (.int x3), .val (.int (2 : Int32)), .val (.ref b20), .unset, .unset, .unset, .unset, .unset] [(.int (0 : Int32)), (.ref b20)]))
    refine own_s (fun t k => XS.iloadN X20.here hx rfl (hb hby at_19) rfl k) ?_
    show Go p.tables e below _ (T20.setTop (mkF m 20 #[.val (.int x0), .val (.int x1), .val (.int x2), .val (.int x3), .val (.int (2 : Int32)), .val (.ref b20), .unset, .unset, .unset, .unset, .unset] [(.int x1), (.int (0 : Int32)), (.ref b20)]))
    refine own_s (fun t k => XS.i2b X20.here hx rfl (hb hby at_20) rfl k) ?_
    show Go p.tables e below _ (T20.setTop (mkF m 21 #[.val (.int x0), .val (.int x1), .val (.int x2), .val (.int x3), .val (.int (2 : Int32)), .val (.ref b20), .unset, .unset, .unset, .unset, .unset] [(.int (x1.toInt8.toInt32)), (.int (0 : Int32)), (.ref b20)]))
    obtain ⟨cl21, Ar21, qk21, Sz21, Nn21, Hs21, Gf21⟩ := id V20
    have hin21 : ¬ ((0 : Int32) < 0 ∨ cl21.slots.size ≤ ((0 : Int32)).toNatClampNeg) := inb_of Sz21 ⟨by decide, by decide⟩
    obtain ⟨T22, h22, X22, e22, W22, st22⟩ := stB X20 hx hZ e20 Ar21 (j := (0 : Int32)) hin21 (g := (mkF m 21 #[.val (.int x0), .val (.int x1), .val (.int x2), .val (.int x3), .val (.int (2 : Int32)), .val (.ref b20), .unset, .unset, .unset, .unset, .unset] [(.int (x1.toInt8.toInt32)), (.int (0 : Int32)), (.ref b20)])) rfl rfl (hb hby at_21)
    refine own_s st22 ?_
    have K22 : Keep h0 h22 [] := K20.wr W22 (Or.inr sz_b20)
    have N22 := Fr.snoc X22 N0 g_b20
    have V22 : Arv Z h22 b20 k20 .byte (2 : Int32) [(.int (own_b x1)), (.int (0 : Int32))] (.int (0 : Int32)) := Arv.set Ar21 qk21 Sz21 Nn21 Hs21 Gf21 (fits_nar_byte _) W22 0 rfl (Nat.le_of_ble_eq_true rfl)
    show Go p.tables e below _ (T22.setTop (mkF m 22 #[.val (.int x0), .val (.int x1), .val (.int x2), .val (.int x3), .val (.int (2 : Int32)), .val (.ref b20), .unset, .unset, .unset, .unset, .unset] []))
    refine own_s (fun t k => XS.iload X22.here hx rfl (hb hby at_22) rfl k) ?_
    show Go p.tables e below _ (T22.setTop (mkF m 24 #[.val (.int x0), .val (.int x1), .val (.int x2), .val (.int x3), .val (.int (2 : Int32)), .val (.ref b20), .unset, .unset, .unset, .unset, .unset] [(.int (2 : Int32))]))
    refine own_s (fun t k => XS.iconst X22.here hx rfl (hb hby at_24) k) ?_
    show Go p.tables e below _ (T22.setTop (mkF m 25 #[.val (.int x0), .val (.int x1), .val (.int x2), .val (.int x3), .val (.int (2 : Int32)), .val (.ref b20), .unset, .unset, .unset, .unset, .unset] [(.int (1 : Int32)), (.int (2 : Int32))]))
    refine own_s (fun t k => XS.icmpNo X22.here hx rfl (hb hby at_25) rfl (tlt (by decide : (1 : Int32) < (2 : Int32))).2.2.2 k) ?_
    show Go p.tables e below _ (T22.setTop (mkF m 28 #[.val (.int x0), .val (.int x1), .val (.int x2), .val (.int x3), .val (.int (2 : Int32)), .val (.ref b20), .unset, .unset, .unset, .unset, .unset] []))
    refine own_s (fun t k => XS.aload X22.here hx rfl (hb hby at_28) rfl rfl k) ?_
    show Go p.tables e below _ (T22.setTop (mkF m 30 #[.val (.int x0), .val (.int x1), .val (.int x2), .val (.int x3), .val (.int (2 : Int32)), .val (.ref b20), .unset, .unset, .unset, .unset, .unset] [(.ref b20)]))
    refine own_s (fun t k => XS.iconst X22.here hx rfl (hb hby at_30) k) ?_
    show Go p.tables e below _ (T22.setTop (mkF m 31 #[.val (.int x0), .val (.int x1), .val (.int x2), .val (.int x3), .val (.int (2 : Int32)), .val (.ref b20), .unset, .unset, .unset, .unset, .unset] [(.int (1 : Int32)), (.ref b20)]))
    refine own_s (fun t k => XS.iloadN X22.here hx rfl (hb hby at_31) rfl k) ?_
    show Go p.tables e below _ (T22.setTop (mkF m 32 #[.val (.int x0), .val (.int x1), .val (.int x2), .val (.int x3), .val (.int (2 : Int32)), .val (.ref b20), .unset, .unset, .unset, .unset, .unset] [(.int x2), (.int (1 : Int32)), (.ref b20)]))
    refine own_s (fun t k => XS.i2b X22.here hx rfl (hb hby at_32) rfl k) ?_
    show Go p.tables e below _ (T22.setTop (mkF m 33 #[.val (.int x0), .val (.int x1), .val (.int x2), .val (.int x3), .val (.int (2 : Int32)), .val (.ref b20), .unset, .unset, .unset, .unset, .unset] [(.int (x2.toInt8.toInt32)), (.int (1 : Int32)), (.ref b20)]))
    obtain ⟨cl23, Ar23, qk23, Sz23, Nn23, Hs23, Gf23⟩ := id V22
    have hin23 : ¬ ((1 : Int32) < 0 ∨ cl23.slots.size ≤ ((1 : Int32)).toNatClampNeg) := inb_of Sz23 ⟨by decide, by decide⟩
    obtain ⟨T24, h24, X24, e24, W24, st24⟩ := stB X22 hx hZ e22 Ar23 (j := (1 : Int32)) hin23 (g := (mkF m 33 #[.val (.int x0), .val (.int x1), .val (.int x2), .val (.int x3), .val (.int (2 : Int32)), .val (.ref b20), .unset, .unset, .unset, .unset, .unset] [(.int (x2.toInt8.toInt32)), (.int (1 : Int32)), (.ref b20)])) rfl rfl (hb hby at_33)
    refine own_s st24 ?_
    have K24 : Keep h0 h24 [] := K22.wr W24 (Or.inr sz_b20)
    have N24 := Fr.snoc X24 N22 g_b20
    have V24 : Arv Z h24 b20 k20 .byte (2 : Int32) [(.int (own_b x1)), (.int (own_b x2))] (.int (0 : Int32)) := Arv.set Ar23 qk23 Sz23 Nn23 Hs23 Gf23 (fits_nar_byte _) W24 1 rfl (Nat.le_of_ble_eq_true rfl)
    show Go p.tables e below _ (T24.setTop (mkF m 34 #[.val (.int x0), .val (.int x1), .val (.int x2), .val (.int x3), .val (.int (2 : Int32)), .val (.ref b20), .unset, .unset, .unset, .unset, .unset] []))
    refine own_s (fun t k => XS.iload X24.here hx rfl (hb hby at_34) rfl k) ?_
    show Go p.tables e below _ (T24.setTop (mkF m 36 #[.val (.int x0), .val (.int x1), .val (.int x2), .val (.int x3), .val (.int (2 : Int32)), .val (.ref b20), .unset, .unset, .unset, .unset, .unset] [(.int (2 : Int32))]))
    refine own_s (fun t k => XS.iconst X24.here hx rfl (hb hby at_36) k) ?_
    show Go p.tables e below _ (T24.setTop (mkF m 37 #[.val (.int x0), .val (.int x1), .val (.int x2), .val (.int x3), .val (.int (2 : Int32)), .val (.ref b20), .unset, .unset, .unset, .unset, .unset] [(.int (2 : Int32)), (.int (2 : Int32))]))
    refine own_s (fun t k => XS.icmpYes X24.here hx rfl (pc0 := 37) (pc' := 46) rfl (hb hby at_37) rfl (flt (by decide : ¬ ((2 : Int32) < (2 : Int32)))).2.2.2 (by decide) (by decide) k) ?_
    show Go p.tables e below _ (T24.setTop (mkF m 46 #[.val (.int x0), .val (.int x1), .val (.int x2), .val (.int x3), .val (.int (2 : Int32)), .val (.ref b20), .unset, .unset, .unset, .unset, .unset] []))
    refine own_s (fun t k => XS.aload X24.here hx rfl (hb hby at_46) rfl rfl k) ?_
    have Vp25 : Arv Z h24 b20 k20 .byte (Int32.ofNat [own_b x1, own_b x2].length) (own_vs [own_b x1, own_b x2]) (.int (0 : Int32)) := V24
    show Go p.tables e below _ (T24.setTop (mkF m 48 #[.val (.int x0), .val (.int x1), .val (.int x2), .val (.int x3), .val (.int (2 : Int32)), .val (.ref b20), .unset, .unset, .unset, .unset, .unset] [(.ref b20)]))
    have O27 : Old Z n0 h24 := (((O0.ext E20).wr W22 g_b20).wr W24 g_b20)
    obtain ⟨_, _, ⟨T26, L26, k26, n26⟩, -, Xr26, hSr26, gr26, ⟨Lc26, hQ26, l26, y26, z26⟩, st26⟩ := callSS X24 hx (y := (⟨"com/example/birep/birep/rrdp/RsyncBase", "encoded", "([B)Ljava/lang/String;"⟩ : MethodName)) hown (mvT hZ (hw _ (List.mem_of_getElem? (i := 1) rfl))) (mvT hZ (hw _ (List.mem_of_getElem? (i := 2) rfl))) (mvT hZ (hw _ (List.mem_of_getElem? (i := 3) rfl))) (mvT hZ (hw _ (List.mem_of_getElem? (i := 4) rfl))) (by decide) (own_backI (W := 0) hIB (rm1 l Z a0 hw [] cz uH kH ([own_b x1, own_b x2]) k20 b20 h24 n0 O27 S_C hcz S_H OV_H Vp25 (Nat.le_of_ble_eq_true rfl) (own_rngS (own_bR x1) (own_rngS (own_bR x2) own_rng0)) hheld hcw) hZ (hw _ (List.mem_of_getElem? (i := 4) rfl)) (hw _ (List.mem_of_getElem? (i := 3) rfl)) (by decide) (by decide)) (g := (mkF m 48 #[.val (.int x0), .val (.int x1), .val (.int x2), .val (.int x3), .val (.int (2 : Int32)), .val (.ref b20), .unset, .unset, .unset, .unset, .unset] [(.ref b20)])) rfl (by rw [hml]; rfl) (argsL := [(.ref b20)]) (rest := []) (lenOf pd___B_Ljava_lang_String_ rfl) rfl (by show 2 * 0 + _ ≤ _; exact Nat.le_of_eq rfl) (hb hby at_48) (fun _ _ => ⟨rfl, e24, (by decide : 1 + 10 ≤ _), (by decide : 2 + 1020 ≤ _)⟩)
    dsimp only [Pt.U, Pt.locs, Pt.cells, Pt.slots] at Xr26 l26 y26 z26 st26 hQ26 hSr26 gr26
    subst l26 y26 z26
    obtain ⟨X26, hS26, hZ26, hown26⟩ := rebS hS0 (show _ ≤ T24.heap.size from (by rw [e24]; exact (Nat.le_trans (Nat.le_trans (Nat.le_trans (Nat.zero_le _) E20.1) (Keep.of_wr W22).1) (Keep.of_wr W24).1))) Xr26 hSr26 gr26 hZ hown
    obtain ⟨b1_11_26, b2_2_6_1_2_11_26, k2_2_6_1_2_11_26, rfl, N26q, Kc26, bz_b1_11_26, bz_b2_2_6_1_2_11_26, fc26_0, fc26_1, fc26_2, fc26_3⟩ := hQ26
    have g_b1_11_26 : n0 ≤ b1_11_26 := Nat.le_trans (Nat.le_of_eq O27.1.symm) (Nat.le_trans O27.2.1 bz_b1_11_26)
    have sz_b1_11_26 : h0.size ≤ b1_11_26 := Nat.le_trans K24.1 bz_b1_11_26
    have g_b2_2_6_1_2_11_26 : n0 ≤ b2_2_6_1_2_11_26 := Nat.le_trans (Nat.le_of_eq O27.1.symm) (Nat.le_trans O27.2.1 bz_b2_2_6_1_2_11_26)
    have sz_b2_2_6_1_2_11_26 : h0.size ≤ b2_2_6_1_2_11_26 := Nat.le_trans K24.1 bz_b2_2_6_1_2_11_26
    have K26 : Keep h0 T26.heap [] := K24.trans Kc26 all0
    have N26 := Fr.app N24 N26q
    refine own_t st26 ?_
    show Go p.tables e below _ (T26.setTop (mkF m 51 #[.val (.int x0), .val (.int x1), .val (.int x2), .val (.int x3), .val (.int (2 : Int32)), .val (.ref b20), .unset, .unset, .unset, .unset, .unset] [(.ref b1_11_26)]))
    refine own_s (fun t k => XS.astore X26.here hx rfl (hb hby at_51) rfl rfl (l' := #[.val (.int x0), .val (.int x1), .val (.int x2), .val (.int x3), .val (.int (2 : Int32)), .val (.ref b20), .val (.ref b1_11_26), .unset, .unset, .unset, .unset]) rfl k) ?_
    show Go p.tables e below _ (T26.setTop (mkF m 53 #[.val (.int x0), .val (.int x1), .val (.int x2), .val (.int x3), .val (.int (2 : Int32)), .val (.ref b20), .val (.ref b1_11_26), .unset, .unset, .unset, .unset] []))
    refine own_s (fun t k => XS.iload X26.here hx rfl (hb hby at_53) rfl k) ?_
    show Go p.tables e below _ (T26.setTop (mkF m 55 #[.val (.int x0), .val (.int x1), .val (.int x2), .val (.int x3), .val (.int (2 : Int32)), .val (.ref b20), .val (.ref b1_11_26), .unset, .unset, .unset, .unset] [(.int (2 : Int32))]))
    refine own_s (fun t k => XS.ifNo X26.here hx rfl (hb hby at_55) rfl ((if0 _ _).trans (tlt (by decide : (0 : Int32) < (2 : Int32))).2.2.2) k) ?_
    show Go p.tables e below _ (T26.setTop (mkF m 58 #[.val (.int x0), .val (.int x1), .val (.int x2), .val (.int x3), .val (.int (2 : Int32)), .val (.ref b20), .val (.ref b1_11_26), .unset, .unset, .unset, .unset] []))
    refine own_s (fun t k => XS.aload X26.here hx rfl (hb hby at_58) rfl rfl k) ?_
    show Go p.tables e below _ (T26.setTop (mkF m 60 #[.val (.int x0), .val (.int x1), .val (.int x2), .val (.int x3), .val (.int (2 : Int32)), .val (.ref b20), .val (.ref b1_11_26), .unset, .unset, .unset, .unset] [(.ref b20)]))
    refine own_s (fun t k => XS.iconst X26.here hx rfl (hb hby at_60) k) ?_
    show Go p.tables e below _ (T26.setTop (mkF m 61 #[.val (.int x0), .val (.int x1), .val (.int x2), .val (.int x3), .val (.int (2 : Int32)), .val (.ref b20), .val (.ref b1_11_26), .unset, .unset, .unset, .unset] [(.int (0 : Int32)), (.ref b20)]))
    have V28 : Arv Z T26.heap b20 k20 .byte (Int32.ofNat [own_b x1, own_b x2].length) (own_vs [own_b x1, own_b x2]) (.int (0 : Int32)) := (Vp25.keep Kc26 nin0)
    obtain ⟨cl29, Ar29, qk29, Sz29, Nn29, Hs29, Gf29⟩ := id V28
    have hin29 : ¬ ((0 : Int32) < 0 ∨ cl29.slots.size ≤ ((0 : Int32)).toNatClampNeg) := inb_of Sz29 ⟨by decide, (by show (0 : Int32) < (2 : Int32); decide)⟩
    have hat29 : cl29.slots[((0 : Int32)).toNatClampNeg]? = some (.int (own_b x1)) := Has.at Hs29 hin29 rfl
    refine own_s (X26.baloadBytes hx (j := (0 : Int32)) (v := (.int (own_b x1))) Ar29.1 (State.isArrayOf_alike hZ26.alike Ar29.2.1) Ar29.2.2 hin29 hat29 (g := (mkF m 61 #[.val (.int x0), .val (.int x1), .val (.int x2), .val (.int x3), .val (.int (2 : Int32)), .val (.ref b20), .val (.ref b1_11_26), .unset, .unset, .unset, .unset] [(.int (0 : Int32)), (.ref b20)])) rfl rfl (hb hby at_61)) ?_
    show Go p.tables e below _ (T26.setTop (mkF m 62 #[.val (.int x0), .val (.int x1), .val (.int x2), .val (.int x3), .val (.int (2 : Int32)), .val (.ref b20), .val (.ref b1_11_26), .unset, .unset, .unset, .unset] [(.int (own_b x1))]))
    have O31 : Old Z n0 T26.heap := (O27.keep Kc26 all0)
    obtain ⟨_, _, ⟨T30, L30, k30, n30⟩, -, X30, ⟨Lc30, hQ30, l30, y30, z30⟩, st30⟩ := Jvm.LawKit.callS X26 hx (y := (⟨"com/example/birep/birep/rrdp/RsyncBaseEncodedPinLaw", "width", "(B)I"⟩ : MethodName)) hown26 (mvT hZ26 (hw _ (List.mem_of_getElem? (i := 116) rfl))) (mvT hZ26 (hw _ (List.mem_of_getElem? (i := 117) rfl))) (mvT hZ26 (hw _ (List.mem_of_getElem? (i := 118) rfl))) (mvT hZ26 (hw _ (List.mem_of_getElem? (i := 119) rfl))) (by decide) (backOf (W := 0) (rm22 l Z a0 hw [] (own_b x1) T26.heap n0 O31 ) hZ26 (hw _ (List.mem_of_getElem? (i := 119) rfl)) (hw _ (List.mem_of_getElem? (i := 118) rfl)) (by decide) (by decide)) (g := (mkF m 62 #[.val (.int x0), .val (.int x1), .val (.int x2), .val (.int x3), .val (.int (2 : Int32)), .val (.ref b20), .val (.ref b1_11_26), .unset, .unset, .unset, .unset] [(.int (own_b x1))])) rfl (by rw [hml]; rfl) (argsL := [(.int (own_b x1))]) (rest := []) (lenOf pd__B_I rfl) rfl (by show 2 * 0 + _ ≤ _; exact Nat.le_of_eq rfl) (hb hby at_62) (fun _ _ => ⟨rfl, rfl, (by decide : 11 + 0 ≤ _), (by decide : 1022 + 0 ≤ _)⟩)
    dsimp only [Pt.U, Pt.locs, Pt.cells, Pt.slots] at X30 l30 y30 z30 st30 hQ30
    subst l30 y30 z30
    obtain ⟨rfl, N30q, eq30⟩ := hQ30
    have N30 := Fr.app N26 N30q
    refine own_s st30 ?_
    show Go p.tables e below _ (T30.setTop (mkF m 65 #[.val (.int x0), .val (.int x1), .val (.int x2), .val (.int x3), .val (.int (2 : Int32)), .val (.ref b20), .val (.ref b1_11_26), .unset, .unset, .unset, .unset] [(.int (own_width (own_b x1)))]))
    refine own_s (fun t k => XS.goto X30.here hx rfl (pc0 := 65) (pc' := 69) rfl (hb hby at_65) (by decide) (by decide) k) ?_
    show Go p.tables e below _ (T30.setTop (mkF m 69 #[.val (.int x0), .val (.int x1), .val (.int x2), .val (.int x3), .val (.int (2 : Int32)), .val (.ref b20), .val (.ref b1_11_26), .unset, .unset, .unset, .unset] [(.int (own_width (own_b x1)))]))
    refine own_s (fun t k => XS.istore X30.here hx rfl (hb hby at_69) rfl (l' := #[.val (.int x0), .val (.int x1), .val (.int x2), .val (.int x3), .val (.int (2 : Int32)), .val (.ref b20), .val (.ref b1_11_26), .val (.int (own_width (own_b x1))), .unset, .unset, .unset]) rfl k) ?_
    show Go p.tables e below _ (T30.setTop (mkF m 71 #[.val (.int x0), .val (.int x1), .val (.int x2), .val (.int x3), .val (.int (2 : Int32)), .val (.ref b20), .val (.ref b1_11_26), .val (.int (own_width (own_b x1))), .unset, .unset, .unset] []))
    refine own_s (fun t k => XS.iload X30.here hx rfl (hb hby at_71) rfl k) ?_
    show Go p.tables e below _ (T30.setTop (mkF m 73 #[.val (.int x0), .val (.int x1), .val (.int x2), .val (.int x3), .val (.int (2 : Int32)), .val (.ref b20), .val (.ref b1_11_26), .val (.int (own_width (own_b x1))), .unset, .unset, .unset] [(.int (2 : Int32))]))
    refine own_s (fun t k => XS.iconst X30.here hx rfl (hb hby at_73) k) ?_
    show Go p.tables e below _ (T30.setTop (mkF m 74 #[.val (.int x0), .val (.int x1), .val (.int x2), .val (.int x3), .val (.int (2 : Int32)), .val (.ref b20), .val (.ref b1_11_26), .val (.int (own_width (own_b x1))), .unset, .unset, .unset] [(.int (1 : Int32)), (.int (2 : Int32))]))
    refine own_s (fun t k => XS.icmpNo X30.here hx rfl (hb hby at_74) rfl (tlt (by decide : (1 : Int32) < (2 : Int32))).2.2.2 k) ?_
    show Go p.tables e below _ (T30.setTop (mkF m 77 #[.val (.int x0), .val (.int x1), .val (.int x2), .val (.int x3), .val (.int (2 : Int32)), .val (.ref b20), .val (.ref b1_11_26), .val (.int (own_width (own_b x1))), .unset, .unset, .unset] []))
    refine own_s (fun t k => XS.aload X30.here hx rfl (hb hby at_77) rfl rfl k) ?_
    show Go p.tables e below _ (T30.setTop (mkF m 79 #[.val (.int x0), .val (.int x1), .val (.int x2), .val (.int x3), .val (.int (2 : Int32)), .val (.ref b20), .val (.ref b1_11_26), .val (.int (own_width (own_b x1))), .unset, .unset, .unset] [(.ref b20)]))
    refine own_s (fun t k => XS.iconst X30.here hx rfl (hb hby at_79) k) ?_
    show Go p.tables e below _ (T30.setTop (mkF m 80 #[.val (.int x0), .val (.int x1), .val (.int x2), .val (.int x3), .val (.int (2 : Int32)), .val (.ref b20), .val (.ref b1_11_26), .val (.int (own_width (own_b x1))), .unset, .unset, .unset] [(.int (1 : Int32)), (.ref b20)]))
    obtain ⟨cl32, Ar32, qk32, Sz32, Nn32, Hs32, Gf32⟩ := id V28
    have hin32 : ¬ ((1 : Int32) < 0 ∨ cl32.slots.size ≤ ((1 : Int32)).toNatClampNeg) := inb_of Sz32 ⟨by decide, (by show (1 : Int32) < (2 : Int32); decide)⟩
    have hat32 : cl32.slots[((1 : Int32)).toNatClampNeg]? = some (.int (own_b x2)) := Has.at Hs32 hin32 rfl
    refine own_s (X30.baloadBytes hx (j := (1 : Int32)) (v := (.int (own_b x2))) (by rw [eq30]; exact Ar32.1) (State.isArrayOf_alike hZ26.alike Ar32.2.1) Ar32.2.2 hin32 hat32 (g := (mkF m 80 #[.val (.int x0), .val (.int x1), .val (.int x2), .val (.int x3), .val (.int (2 : Int32)), .val (.ref b20), .val (.ref b1_11_26), .val (.int (own_width (own_b x1))), .unset, .unset, .unset] [(.int (1 : Int32)), (.ref b20)])) rfl rfl (hb hby at_80)) ?_
    show Go p.tables e below _ (T30.setTop (mkF m 81 #[.val (.int x0), .val (.int x1), .val (.int x2), .val (.int x3), .val (.int (2 : Int32)), .val (.ref b20), .val (.ref b1_11_26), .val (.int (own_width (own_b x1))), .unset, .unset, .unset] [(.int (own_b x2))]))
    obtain ⟨_, _, ⟨T33, L33, k33, n33⟩, -, X33, ⟨Lc33, hQ33, l33, y33, z33⟩, st33⟩ := Jvm.LawKit.callS X30 hx (y := (⟨"com/example/birep/birep/rrdp/RsyncBaseEncodedPinLaw", "width", "(B)I"⟩ : MethodName)) hown26 (mvT hZ26 (hw _ (List.mem_of_getElem? (i := 116) rfl))) (mvT hZ26 (hw _ (List.mem_of_getElem? (i := 117) rfl))) (mvT hZ26 (hw _ (List.mem_of_getElem? (i := 118) rfl))) (mvT hZ26 (hw _ (List.mem_of_getElem? (i := 119) rfl))) (by decide) (backOf (W := 0) (rm22 l Z a0 hw [] (own_b x2) T26.heap n0 O31 ) hZ26 (hw _ (List.mem_of_getElem? (i := 119) rfl)) (hw _ (List.mem_of_getElem? (i := 118) rfl)) (by decide) (by decide)) (g := (mkF m 81 #[.val (.int x0), .val (.int x1), .val (.int x2), .val (.int x3), .val (.int (2 : Int32)), .val (.ref b20), .val (.ref b1_11_26), .val (.int (own_width (own_b x1))), .unset, .unset, .unset] [(.int (own_b x2))])) rfl (by rw [hml]; rfl) (argsL := [(.int (own_b x2))]) (rest := []) (lenOf pd__B_I rfl) rfl (by show 2 * 0 + _ ≤ _; exact Nat.le_of_eq rfl) (hb hby at_81) (fun _ _ => ⟨rfl, eq30, (by decide : 11 + 0 ≤ _), (by decide : 1022 + 0 ≤ _)⟩)
    dsimp only [Pt.U, Pt.locs, Pt.cells, Pt.slots] at X33 l33 y33 z33 st33 hQ33
    subst l33 y33 z33
    obtain ⟨rfl, N33q, eq33⟩ := hQ33
    have N33 := Fr.app N30 N33q
    refine own_s st33 ?_
    show Go p.tables e below _ (T33.setTop (mkF m 84 #[.val (.int x0), .val (.int x1), .val (.int x2), .val (.int x3), .val (.int (2 : Int32)), .val (.ref b20), .val (.ref b1_11_26), .val (.int (own_width (own_b x1))), .unset, .unset, .unset] [(.int (own_width (own_b x2)))]))
    refine own_s (fun t k => XS.goto X33.here hx rfl (pc0 := 84) (pc' := 88) rfl (hb hby at_84) (by decide) (by decide) k) ?_
    show Go p.tables e below _ (T33.setTop (mkF m 88 #[.val (.int x0), .val (.int x1), .val (.int x2), .val (.int x3), .val (.int (2 : Int32)), .val (.ref b20), .val (.ref b1_11_26), .val (.int (own_width (own_b x1))), .unset, .unset, .unset] [(.int (own_width (own_b x2)))]))
    refine own_s (fun t k => XS.istore X33.here hx rfl (hb hby at_88) rfl (l' := #[.val (.int x0), .val (.int x1), .val (.int x2), .val (.int x3), .val (.int (2 : Int32)), .val (.ref b20), .val (.ref b1_11_26), .val (.int (own_width (own_b x1))), .val (.int (own_width (own_b x2))), .unset, .unset]) rfl k) ?_
    show Go p.tables e below _ (T33.setTop (mkF m 90 #[.val (.int x0), .val (.int x1), .val (.int x2), .val (.int x3), .val (.int (2 : Int32)), .val (.ref b20), .val (.ref b1_11_26), .val (.int (own_width (own_b x1))), .val (.int (own_width (own_b x2))), .unset, .unset] []))
    refine own_s (fun t k => XS.iload X33.here hx rfl (hb hby at_90) rfl k) ?_
    show Go p.tables e below _ (T33.setTop (mkF m 92 #[.val (.int x0), .val (.int x1), .val (.int x2), .val (.int x3), .val (.int (2 : Int32)), .val (.ref b20), .val (.ref b1_11_26), .val (.int (own_width (own_b x1))), .val (.int (own_width (own_b x2))), .unset, .unset] [(.int (2 : Int32))]))
    refine own_s (fun t k => XS.iconst X33.here hx rfl (hb hby at_92) k) ?_
    show Go p.tables e below _ (T33.setTop (mkF m 93 #[.val (.int x0), .val (.int x1), .val (.int x2), .val (.int x3), .val (.int (2 : Int32)), .val (.ref b20), .val (.ref b1_11_26), .val (.int (own_width (own_b x1))), .val (.int (own_width (own_b x2))), .unset, .unset] [(.int (2 : Int32)), (.int (2 : Int32))]))
    refine own_s (fun t k => XS.icmpYes X33.here hx rfl (pc0 := 93) (pc' := 106) rfl (hb hby at_93) rfl (flt (by decide : ¬ ((2 : Int32) < (2 : Int32)))).2.2.2 (by decide) (by decide) k) ?_
    show Go p.tables e below _ (T33.setTop (mkF m 106 #[.val (.int x0), .val (.int x1), .val (.int x2), .val (.int x3), .val (.int (2 : Int32)), .val (.ref b20), .val (.ref b1_11_26), .val (.int (own_width (own_b x1))), .val (.int (own_width (own_b x2))), .unset, .unset] []))
    refine own_s (fun t k => XS.iconst X33.here hx rfl (hb hby at_106) k) ?_
    show Go p.tables e below _ (T33.setTop (mkF m 107 #[.val (.int x0), .val (.int x1), .val (.int x2), .val (.int x3), .val (.int (2 : Int32)), .val (.ref b20), .val (.ref b1_11_26), .val (.int (own_width (own_b x1))), .val (.int (own_width (own_b x2))), .unset, .unset] [(.int (0 : Int32))]))
    refine own_s (fun t k => XS.istore X33.here hx rfl (hb hby at_107) rfl (l' := #[.val (.int x0), .val (.int x1), .val (.int x2), .val (.int x3), .val (.int (2 : Int32)), .val (.ref b20), .val (.ref b1_11_26), .val (.int (own_width (own_b x1))), .val (.int (own_width (own_b x2))), .val (.int (0 : Int32)), .unset]) rfl k) ?_
    show Go p.tables e below _ (T33.setTop (mkF m 109 #[.val (.int x0), .val (.int x1), .val (.int x2), .val (.int x3), .val (.int (2 : Int32)), .val (.ref b20), .val (.ref b1_11_26), .val (.int (own_width (own_b x1))), .val (.int (own_width (own_b x2))), .val (.int (0 : Int32)), .unset] []))
    refine own_s (fun t k => XS.aload X33.here hx rfl (hb hby at_109) rfl rfl k) ?_
    show Go p.tables e below _ (T33.setTop (mkF m 111 #[.val (.int x0), .val (.int x1), .val (.int x2), .val (.int x3), .val (.int (2 : Int32)), .val (.ref b20), .val (.ref b1_11_26), .val (.int (own_width (own_b x1))), .val (.int (own_width (own_b x2))), .val (.int (0 : Int32)), .unset] [(.ref b1_11_26)]))
    obtain ⟨cq34, kq34, q34a, q34b, q34c⟩ := isOf hZ26 eq33 fc26_0
    obtain ⟨_, _, ⟨T34, L34, k34, n34⟩, -, X34, ⟨Lc34, hQ34, l34, y34, z34⟩, st34⟩ := X33.virtualBack hx (y := (⟨"java/lang/String", "length", "()I"⟩ : MethodName)) (z := (⟨"java/lang/String", "length", "()I"⟩ : MethodName)) hown26 (mvT hZ26 (hw _ (List.mem_of_getElem? (i := 84) rfl))) (mvT hZ26 (hw _ (List.mem_of_getElem? (i := 85) rfl))) (notFace_of_selects (args := #[]) (mvT hZ26 (hw _ (List.mem_of_getElem? (i := 87) rfl)))) (mvT hZ26 (hw _ (List.mem_of_getElem? (i := 87) rfl))) (mvT hZ26 (hw _ (List.mem_of_getElem? (i := 86) rfl))) (by decide) (backOf (W := 0) (rm16 l Z a0 hw [] cz (own_encL [own_b x1, own_b x2]) b2_2_6_1_2_11_26 k2_2_6_1_2_11_26 b1_11_26 T26.heap n0 O31 S_C hcz (own_hb _ (Nat.le_of_ble_eq_true rfl)) fc26_2 fc26_1 fc26_0 fc26_3) hZ26 (hw _ (List.mem_of_getElem? (i := 88) rfl)) (hw _ (List.mem_of_getElem? (i := 21) rfl)) (by decide) (by decide)) q34a q34c (g := (mkF m 111 #[.val (.int x0), .val (.int x1), .val (.int x2), .val (.int x3), .val (.int (2 : Int32)), .val (.ref b20), .val (.ref b1_11_26), .val (.int (own_width (own_b x1))), .val (.int (own_width (own_b x2))), .val (.int (0 : Int32)), .unset] [(.ref b1_11_26)])) rfl (by rw [hml]; rfl) (Steps.refl _) (argsL := []) (rest := []) (lenOf pd___I rfl) rfl (by show 2 * 0 + _ ≤ _; exact Nat.le_of_eq rfl) (hb hby at_111) (fun _ _ => ⟨rfl, eq33, (by decide : 11 + 0 ≤ _), (by decide : 1022 + 0 ≤ _)⟩)
    dsimp only [Pt.U, Pt.locs, Pt.cells, Pt.slots] at X34 l34 y34 z34 st34 hQ34
    subst l34 y34 z34
    obtain ⟨rfl, N34q, eq34⟩ := hQ34
    have N34 := Fr.app N33 N34q
    refine own_t st34 ?_
    show Go p.tables e below _ (T34.setTop (mkF m 114 #[.val (.int x0), .val (.int x1), .val (.int x2), .val (.int x3), .val (.int (2 : Int32)), .val (.ref b20), .val (.ref b1_11_26), .val (.int (own_width (own_b x1))), .val (.int (own_width (own_b x2))), .val (.int (0 : Int32)), .unset] [(.int (Int32.ofNat (own_encL [own_b x1, own_b x2]).length))]))
    refine own_s (fun t k => XS.iload X34.here hx rfl (hb hby at_114) rfl k) ?_
    show Go p.tables e below _ (T34.setTop (mkF m 116 #[.val (.int x0), .val (.int x1), .val (.int x2), .val (.int x3), .val (.int (2 : Int32)), .val (.ref b20), .val (.ref b1_11_26), .val (.int (own_width (own_b x1))), .val (.int (own_width (own_b x2))), .val (.int (0 : Int32)), .unset] [(.int (own_width (own_b x1))), (.int (Int32.ofNat (own_encL [own_b x1, own_b x2]).length))]))
    refine own_s (fun t k => XS.iload X34.here hx rfl (hb hby at_116) rfl k) ?_
    show Go p.tables e below _ (T34.setTop (mkF m 118 #[.val (.int x0), .val (.int x1), .val (.int x2), .val (.int x3), .val (.int (2 : Int32)), .val (.ref b20), .val (.ref b1_11_26), .val (.int (own_width (own_b x1))), .val (.int (own_width (own_b x2))), .val (.int (0 : Int32)), .unset] [(.int (own_width (own_b x2))), (.int (own_width (own_b x1))), (.int (Int32.ofNat (own_encL [own_b x1, own_b x2]).length))]))
    refine own_s (fun t k => XS.iadd X34.here hx rfl (hb hby at_118) rfl k) ?_
    show Go p.tables e below _ (T34.setTop (mkF m 119 #[.val (.int x0), .val (.int x1), .val (.int x2), .val (.int x3), .val (.int (2 : Int32)), .val (.ref b20), .val (.ref b1_11_26), .val (.int (own_width (own_b x1))), .val (.int (own_width (own_b x2))), .val (.int (0 : Int32)), .unset] [(.int ((own_width (own_b x1)) + (own_width (own_b x2)))), (.int (Int32.ofNat (own_encL [own_b x1, own_b x2]).length))]))
    refine own_s (fun t k => XS.iload X34.here hx rfl (hb hby at_119) rfl k) ?_
    show Go p.tables e below _ (T34.setTop (mkF m 121 #[.val (.int x0), .val (.int x1), .val (.int x2), .val (.int x3), .val (.int (2 : Int32)), .val (.ref b20), .val (.ref b1_11_26), .val (.int (own_width (own_b x1))), .val (.int (own_width (own_b x2))), .val (.int (0 : Int32)), .unset] [(.int (0 : Int32)), (.int ((own_width (own_b x1)) + (own_width (own_b x2)))), (.int (Int32.ofNat (own_encL [own_b x1, own_b x2]).length))]))
    refine own_s (fun t k => XS.iadd X34.here hx rfl (hb hby at_121) rfl k) ?_
    show Go p.tables e below _ (T34.setTop (mkF m 122 #[.val (.int x0), .val (.int x1), .val (.int x2), .val (.int x3), .val (.int (2 : Int32)), .val (.ref b20), .val (.ref b1_11_26), .val (.int (own_width (own_b x1))), .val (.int (own_width (own_b x2))), .val (.int (0 : Int32)), .unset] [(.int (((own_width (own_b x1)) + (own_width (own_b x2))) + (0 : Int32))), (.int (Int32.ofNat (own_encL [own_b x1, own_b x2]).length))]))
    refine own_s (fun t k => XS.icmpYes X34.here hx rfl (pc0 := 122) (pc' := 127) rfl (hb hby at_122) rfl (teq (own_L2 (own_bR x1) (own_bR x2))).1 (by decide) (by decide) k) ?_
    show Go p.tables e below _ (T34.setTop (mkF m 127 #[.val (.int x0), .val (.int x1), .val (.int x2), .val (.int x3), .val (.int (2 : Int32)), .val (.ref b20), .val (.ref b1_11_26), .val (.int (own_width (own_b x1))), .val (.int (own_width (own_b x2))), .val (.int (0 : Int32)), .unset] []))
    refine own_s (fun t k => XS.iconst X34.here hx rfl (hb hby at_127) k) ?_
    show Go p.tables e below _ (T34.setTop (mkF m 128 #[.val (.int x0), .val (.int x1), .val (.int x2), .val (.int x3), .val (.int (2 : Int32)), .val (.ref b20), .val (.ref b1_11_26), .val (.int (own_width (own_b x1))), .val (.int (own_width (own_b x2))), .val (.int (0 : Int32)), .unset] [(.int (1 : Int32))]))
    refine own_s (fun t k => XS.istore X34.here hx rfl (hb hby at_128) rfl (l' := #[.val (.int x0), .val (.int x1), .val (.int x2), .val (.int x3), .val (.int (2 : Int32)), .val (.ref b20), .val (.ref b1_11_26), .val (.int (own_width (own_b x1))), .val (.int (own_width (own_b x2))), .val (.int (0 : Int32)), .val (.int (1 : Int32))]) rfl k) ?_
    show Go p.tables e below _ (T34.setTop (mkF m 130 #[.val (.int x0), .val (.int x1), .val (.int x2), .val (.int x3), .val (.int (2 : Int32)), .val (.ref b20), .val (.ref b1_11_26), .val (.int (own_width (own_b x1))), .val (.int (own_width (own_b x2))), .val (.int (0 : Int32)), .val (.int (1 : Int32))] []))
    refine own_s (fun t k => XS.iload X34.here hx rfl (hb hby at_130) rfl k) ?_
    show Go p.tables e below _ (T34.setTop (mkF m 132 #[.val (.int x0), .val (.int x1), .val (.int x2), .val (.int x3), .val (.int (2 : Int32)), .val (.ref b20), .val (.ref b1_11_26), .val (.int (own_width (own_b x1))), .val (.int (own_width (own_b x2))), .val (.int (0 : Int32)), .val (.int (1 : Int32))] [(.int (2 : Int32))]))
    refine own_s (fun t k => XS.ifNo X34.here hx rfl (hb hby at_132) rfl ((if0 _ _).trans (tlt (by decide : (0 : Int32) < (2 : Int32))).2.2.2) k) ?_
    show Go p.tables e below _ (T34.setTop (mkF m 135 #[.val (.int x0), .val (.int x1), .val (.int x2), .val (.int x3), .val (.int (2 : Int32)), .val (.ref b20), .val (.ref b1_11_26), .val (.int (own_width (own_b x1))), .val (.int (own_width (own_b x2))), .val (.int (0 : Int32)), .val (.int (1 : Int32))] []))
    refine own_s (fun t k => XS.iload X34.here hx rfl (hb hby at_135) rfl k) ?_
    show Go p.tables e below _ (T34.setTop (mkF m 137 #[.val (.int x0), .val (.int x1), .val (.int x2), .val (.int x3), .val (.int (2 : Int32)), .val (.ref b20), .val (.ref b1_11_26), .val (.int (own_width (own_b x1))), .val (.int (own_width (own_b x2))), .val (.int (0 : Int32)), .val (.int (1 : Int32))] [(.int (1 : Int32))]))
    refine own_s (fun t k => XS.ifNo X34.here hx rfl (hb hby at_137) rfl ((if0 _ _).trans (feq (by decide : ¬ ((1 : Int32) = (0 : Int32)))).1) k) ?_
    show Go p.tables e below _ (T34.setTop (mkF m 140 #[.val (.int x0), .val (.int x1), .val (.int x2), .val (.int x3), .val (.int (2 : Int32)), .val (.ref b20), .val (.ref b1_11_26), .val (.int (own_width (own_b x1))), .val (.int (own_width (own_b x2))), .val (.int (0 : Int32)), .val (.int (1 : Int32))] []))
    refine own_s (fun t k => XS.aload X34.here hx rfl (hb hby at_140) rfl rfl k) ?_
    show Go p.tables e below _ (T34.setTop (mkF m 142 #[.val (.int x0), .val (.int x1), .val (.int x2), .val (.int x3), .val (.int (2 : Int32)), .val (.ref b20), .val (.ref b1_11_26), .val (.int (own_width (own_b x1))), .val (.int (own_width (own_b x2))), .val (.int (0 : Int32)), .val (.int (1 : Int32))] [(.ref b1_11_26)]))
    refine own_s (fun t k => XS.iconst X34.here hx rfl (hb hby at_142) k) ?_
    show Go p.tables e below _ (T34.setTop (mkF m 143 #[.val (.int x0), .val (.int x1), .val (.int x2), .val (.int x3), .val (.int (2 : Int32)), .val (.ref b20), .val (.ref b1_11_26), .val (.int (own_width (own_b x1))), .val (.int (own_width (own_b x2))), .val (.int (0 : Int32)), .val (.int (1 : Int32))] [(.int (0 : Int32)), (.ref b1_11_26)]))
    refine own_s (fun t k => XS.aload X34.here hx rfl (hb hby at_143) rfl rfl k) ?_
    show Go p.tables e below _ (T34.setTop (mkF m 145 #[.val (.int x0), .val (.int x1), .val (.int x2), .val (.int x3), .val (.int (2 : Int32)), .val (.ref b20), .val (.ref b1_11_26), .val (.int (own_width (own_b x1))), .val (.int (own_width (own_b x2))), .val (.int (0 : Int32)), .val (.int (1 : Int32))] [(.ref b20), (.int (0 : Int32)), (.ref b1_11_26)]))
    refine own_s (fun t k => XS.iconst X34.here hx rfl (hb hby at_145) k) ?_
    show Go p.tables e below _ (T34.setTop (mkF m 146 #[.val (.int x0), .val (.int x1), .val (.int x2), .val (.int x3), .val (.int (2 : Int32)), .val (.ref b20), .val (.ref b1_11_26), .val (.int (own_width (own_b x1))), .val (.int (own_width (own_b x2))), .val (.int (0 : Int32)), .val (.int (1 : Int32))] [(.int (0 : Int32)), (.ref b20), (.int (0 : Int32)), (.ref b1_11_26)]))
    obtain ⟨cl35, Ar35, qk35, Sz35, Nn35, Hs35, Gf35⟩ := id V28
    have hin35 : ¬ ((0 : Int32) < 0 ∨ cl35.slots.size ≤ ((0 : Int32)).toNatClampNeg) := inb_of Sz35 ⟨by decide, (by show (0 : Int32) < (2 : Int32); decide)⟩
    have hat35 : cl35.slots[((0 : Int32)).toNatClampNeg]? = some (.int (own_b x1)) := Has.at Hs35 hin35 rfl
    refine own_s (X34.baloadBytes hx (j := (0 : Int32)) (v := (.int (own_b x1))) (by rw [eq34]; exact Ar35.1) (State.isArrayOf_alike hZ26.alike Ar35.2.1) Ar35.2.2 hin35 hat35 (g := (mkF m 146 #[.val (.int x0), .val (.int x1), .val (.int x2), .val (.int x3), .val (.int (2 : Int32)), .val (.ref b20), .val (.ref b1_11_26), .val (.int (own_width (own_b x1))), .val (.int (own_width (own_b x2))), .val (.int (0 : Int32)), .val (.int (1 : Int32))] [(.int (0 : Int32)), (.ref b20), (.int (0 : Int32)), (.ref b1_11_26)])) rfl rfl (hb hby at_146)) ?_
    show Go p.tables e below _ (T34.setTop (mkF m 147 #[.val (.int x0), .val (.int x1), .val (.int x2), .val (.int x3), .val (.int (2 : Int32)), .val (.ref b20), .val (.ref b1_11_26), .val (.int (own_width (own_b x1))), .val (.int (own_width (own_b x2))), .val (.int (0 : Int32)), .val (.int (1 : Int32))] [(.int (own_b x1)), (.int (0 : Int32)), (.ref b1_11_26)]))
    obtain ⟨_, _, ⟨T36, L36, k36, n36⟩, -, X36, ⟨Lc36, hQ36, l36, y36, z36⟩, st36⟩ := Jvm.LawKit.callS X34 hx (y := (⟨"com/example/birep/birep/rrdp/RsyncBaseEncodedPinLaw", "seg", "(Ljava/lang/String;IB)Z"⟩ : MethodName)) hown26 (mvT hZ26 (hw _ (List.mem_of_getElem? (i := 123) rfl))) (mvT hZ26 (hw _ (List.mem_of_getElem? (i := 124) rfl))) (mvT hZ26 (hw _ (List.mem_of_getElem? (i := 118) rfl))) (mvT hZ26 (hw _ (List.mem_of_getElem? (i := 125) rfl))) (by decide) (backOf (W := 0) (rm24 l Z a0 hw [] cz (own_encL [own_b x1, own_b x2]) b2_2_6_1_2_11_26 k2_2_6_1_2_11_26 vF b1_11_26 (0 : Int32) (own_b x1) T26.heap n0 O31 S_C hcz S_F hvF (own_hb _ (Nat.le_of_ble_eq_true rfl)) fc26_2 fc26_1 fc26_0 fc26_3 (own_S0 (own_E20 (own_b x1) (own_b x2)) (own_bR x1) (own_hb _ (Nat.le_of_ble_eq_true rfl))).1) hZ26 (hw _ (List.mem_of_getElem? (i := 125) rfl)) (hw _ (List.mem_of_getElem? (i := 118) rfl)) (by decide) (by decide)) (g := (mkF m 147 #[.val (.int x0), .val (.int x1), .val (.int x2), .val (.int x3), .val (.int (2 : Int32)), .val (.ref b20), .val (.ref b1_11_26), .val (.int (own_width (own_b x1))), .val (.int (own_width (own_b x2))), .val (.int (0 : Int32)), .val (.int (1 : Int32))] [(.int (own_b x1)), (.int (0 : Int32)), (.ref b1_11_26)])) rfl (by rw [hml]; rfl) (argsL := [(.ref b1_11_26), (.int (0 : Int32)), (.int (own_b x1))]) (rest := []) (lenOf pd__Ljava_lang_String_IB_Z rfl) rfl (by show 2 * 0 + _ ≤ _; exact Nat.le_of_eq rfl) (hb hby at_147) (fun _ _ => ⟨rfl, eq34, (by decide : 11 + 0 ≤ _), (by decide : 1022 + 0 ≤ _)⟩)
    dsimp only [Pt.U, Pt.locs, Pt.cells, Pt.slots] at X36 l36 y36 z36 st36 hQ36
    subst l36 y36 z36
    obtain ⟨rfl, N36q, eq36⟩ := hQ36
    have N36 := Fr.app N34 N36q
    refine own_s st36 ?_
    show Go p.tables e below _ (T36.setTop (mkF m 150 #[.val (.int x0), .val (.int x1), .val (.int x2), .val (.int x3), .val (.int (2 : Int32)), .val (.ref b20), .val (.ref b1_11_26), .val (.int (own_width (own_b x1))), .val (.int (own_width (own_b x2))), .val (.int (0 : Int32)), .val (.int (1 : Int32))] [(.int (own_seg (own_encL [own_b x1, own_b x2]) (0 : Int32) (own_b x1)))]))
    refine own_s (fun t k => XS.ifNo X36.here hx rfl (hb hby at_150) rfl ((if0 _ _).trans (feq (own_S0 (own_E20 (own_b x1) (own_b x2)) (own_bR x1) (own_hb _ (Nat.le_of_ble_eq_true rfl))).2).1) k) ?_
    show Go p.tables e below _ (T36.setTop (mkF m 153 #[.val (.int x0), .val (.int x1), .val (.int x2), .val (.int x3), .val (.int (2 : Int32)), .val (.ref b20), .val (.ref b1_11_26), .val (.int (own_width (own_b x1))), .val (.int (own_width (own_b x2))), .val (.int (0 : Int32)), .val (.int (1 : Int32))] []))
    refine own_s (fun t k => XS.iconst X36.here hx rfl (hb hby at_153) k) ?_
    show Go p.tables e below _ (T36.setTop (mkF m 154 #[.val (.int x0), .val (.int x1), .val (.int x2), .val (.int x3), .val (.int (2 : Int32)), .val (.ref b20), .val (.ref b1_11_26), .val (.int (own_width (own_b x1))), .val (.int (own_width (own_b x2))), .val (.int (0 : Int32)), .val (.int (1 : Int32))] [(.int (1 : Int32))]))
    refine own_s (fun t k => XS.goto X36.here hx rfl (pc0 := 154) (pc' := 158) rfl (hb hby at_154) (by decide) (by decide) k) ?_
    show Go p.tables e below _ (T36.setTop (mkF m 158 #[.val (.int x0), .val (.int x1), .val (.int x2), .val (.int x3), .val (.int (2 : Int32)), .val (.ref b20), .val (.ref b1_11_26), .val (.int (own_width (own_b x1))), .val (.int (own_width (own_b x2))), .val (.int (0 : Int32)), .val (.int (1 : Int32))] [(.int (1 : Int32))]))
    refine own_s (fun t k => XS.istore X36.here hx rfl (hb hby at_158) rfl (l' := #[.val (.int x0), .val (.int x1), .val (.int x2), .val (.int x3), .val (.int (2 : Int32)), .val (.ref b20), .val (.ref b1_11_26), .val (.int (own_width (own_b x1))), .val (.int (own_width (own_b x2))), .val (.int (0 : Int32)), .val (.int (1 : Int32))]) rfl k) ?_
    show Go p.tables e below _ (T36.setTop (mkF m 160 #[.val (.int x0), .val (.int x1), .val (.int x2), .val (.int x3), .val (.int (2 : Int32)), .val (.ref b20), .val (.ref b1_11_26), .val (.int (own_width (own_b x1))), .val (.int (own_width (own_b x2))), .val (.int (0 : Int32)), .val (.int (1 : Int32))] []))
    refine own_s (fun t k => XS.iload X36.here hx rfl (hb hby at_160) rfl k) ?_
    show Go p.tables e below _ (T36.setTop (mkF m 162 #[.val (.int x0), .val (.int x1), .val (.int x2), .val (.int x3), .val (.int (2 : Int32)), .val (.ref b20), .val (.ref b1_11_26), .val (.int (own_width (own_b x1))), .val (.int (own_width (own_b x2))), .val (.int (0 : Int32)), .val (.int (1 : Int32))] [(.int (2 : Int32))]))
    refine own_s (fun t k => XS.iconst X36.here hx rfl (hb hby at_162) k) ?_
    show Go p.tables e below _ (T36.setTop (mkF m 163 #[.val (.int x0), .val (.int x1), .val (.int x2), .val (.int x3), .val (.int (2 : Int32)), .val (.ref b20), .val (.ref b1_11_26), .val (.int (own_width (own_b x1))), .val (.int (own_width (own_b x2))), .val (.int (0 : Int32)), .val (.int (1 : Int32))] [(.int (1 : Int32)), (.int (2 : Int32))]))
    refine own_s (fun t k => XS.icmpNo X36.here hx rfl (hb hby at_163) rfl (tlt (by decide : (1 : Int32) < (2 : Int32))).2.2.2 k) ?_
    show Go p.tables e below _ (T36.setTop (mkF m 166 #[.val (.int x0), .val (.int x1), .val (.int x2), .val (.int x3), .val (.int (2 : Int32)), .val (.ref b20), .val (.ref b1_11_26), .val (.int (own_width (own_b x1))), .val (.int (own_width (own_b x2))), .val (.int (0 : Int32)), .val (.int (1 : Int32))] []))
    refine own_s (fun t k => XS.iload X36.here hx rfl (hb hby at_166) rfl k) ?_
    show Go p.tables e below _ (T36.setTop (mkF m 168 #[.val (.int x0), .val (.int x1), .val (.int x2), .val (.int x3), .val (.int (2 : Int32)), .val (.ref b20), .val (.ref b1_11_26), .val (.int (own_width (own_b x1))), .val (.int (own_width (own_b x2))), .val (.int (0 : Int32)), .val (.int (1 : Int32))] [(.int (1 : Int32))]))
    refine own_s (fun t k => XS.ifNo X36.here hx rfl (hb hby at_168) rfl ((if0 _ _).trans (feq (by decide : ¬ ((1 : Int32) = (0 : Int32)))).1) k) ?_
    show Go p.tables e below _ (T36.setTop (mkF m 171 #[.val (.int x0), .val (.int x1), .val (.int x2), .val (.int x3), .val (.int (2 : Int32)), .val (.ref b20), .val (.ref b1_11_26), .val (.int (own_width (own_b x1))), .val (.int (own_width (own_b x2))), .val (.int (0 : Int32)), .val (.int (1 : Int32))] []))
    refine own_s (fun t k => XS.aload X36.here hx rfl (hb hby at_171) rfl rfl k) ?_
    show Go p.tables e below _ (T36.setTop (mkF m 173 #[.val (.int x0), .val (.int x1), .val (.int x2), .val (.int x3), .val (.int (2 : Int32)), .val (.ref b20), .val (.ref b1_11_26), .val (.int (own_width (own_b x1))), .val (.int (own_width (own_b x2))), .val (.int (0 : Int32)), .val (.int (1 : Int32))] [(.ref b1_11_26)]))
    refine own_s (fun t k => XS.iload X36.here hx rfl (hb hby at_173) rfl k) ?_
    show Go p.tables e below _ (T36.setTop (mkF m 175 #[.val (.int x0), .val (.int x1), .val (.int x2), .val (.int x3), .val (.int (2 : Int32)), .val (.ref b20), .val (.ref b1_11_26), .val (.int (own_width (own_b x1))), .val (.int (own_width (own_b x2))), .val (.int (0 : Int32)), .val (.int (1 : Int32))] [(.int (own_width (own_b x1))), (.ref b1_11_26)]))
    refine own_s (fun t k => XS.aload X36.here hx rfl (hb hby at_175) rfl rfl k) ?_
    show Go p.tables e below _ (T36.setTop (mkF m 177 #[.val (.int x0), .val (.int x1), .val (.int x2), .val (.int x3), .val (.int (2 : Int32)), .val (.ref b20), .val (.ref b1_11_26), .val (.int (own_width (own_b x1))), .val (.int (own_width (own_b x2))), .val (.int (0 : Int32)), .val (.int (1 : Int32))] [(.ref b20), (.int (own_width (own_b x1))), (.ref b1_11_26)]))
    refine own_s (fun t k => XS.iconst X36.here hx rfl (hb hby at_177) k) ?_
    show Go p.tables e below _ (T36.setTop (mkF m 178 #[.val (.int x0), .val (.int x1), .val (.int x2), .val (.int x3), .val (.int (2 : Int32)), .val (.ref b20), .val (.ref b1_11_26), .val (.int (own_width (own_b x1))), .val (.int (own_width (own_b x2))), .val (.int (0 : Int32)), .val (.int (1 : Int32))] [(.int (1 : Int32)), (.ref b20), (.int (own_width (own_b x1))), (.ref b1_11_26)]))
    obtain ⟨cl37, Ar37, qk37, Sz37, Nn37, Hs37, Gf37⟩ := id V28
    have hin37 : ¬ ((1 : Int32) < 0 ∨ cl37.slots.size ≤ ((1 : Int32)).toNatClampNeg) := inb_of Sz37 ⟨by decide, (by show (1 : Int32) < (2 : Int32); decide)⟩
    have hat37 : cl37.slots[((1 : Int32)).toNatClampNeg]? = some (.int (own_b x2)) := Has.at Hs37 hin37 rfl
    refine own_s (X36.baloadBytes hx (j := (1 : Int32)) (v := (.int (own_b x2))) (by rw [eq36]; exact Ar37.1) (State.isArrayOf_alike hZ26.alike Ar37.2.1) Ar37.2.2 hin37 hat37 (g := (mkF m 178 #[.val (.int x0), .val (.int x1), .val (.int x2), .val (.int x3), .val (.int (2 : Int32)), .val (.ref b20), .val (.ref b1_11_26), .val (.int (own_width (own_b x1))), .val (.int (own_width (own_b x2))), .val (.int (0 : Int32)), .val (.int (1 : Int32))] [(.int (1 : Int32)), (.ref b20), (.int (own_width (own_b x1))), (.ref b1_11_26)])) rfl rfl (hb hby at_178)) ?_
    show Go p.tables e below _ (T36.setTop (mkF m 179 #[.val (.int x0), .val (.int x1), .val (.int x2), .val (.int x3), .val (.int (2 : Int32)), .val (.ref b20), .val (.ref b1_11_26), .val (.int (own_width (own_b x1))), .val (.int (own_width (own_b x2))), .val (.int (0 : Int32)), .val (.int (1 : Int32))] [(.int (own_b x2)), (.int (own_width (own_b x1))), (.ref b1_11_26)]))
    obtain ⟨_, _, ⟨T38, L38, k38, n38⟩, -, X38, ⟨Lc38, hQ38, l38, y38, z38⟩, st38⟩ := Jvm.LawKit.callS X36 hx (y := (⟨"com/example/birep/birep/rrdp/RsyncBaseEncodedPinLaw", "seg", "(Ljava/lang/String;IB)Z"⟩ : MethodName)) hown26 (mvT hZ26 (hw _ (List.mem_of_getElem? (i := 123) rfl))) (mvT hZ26 (hw _ (List.mem_of_getElem? (i := 124) rfl))) (mvT hZ26 (hw _ (List.mem_of_getElem? (i := 118) rfl))) (mvT hZ26 (hw _ (List.mem_of_getElem? (i := 125) rfl))) (by decide) (backOf (W := 0) (rm24 l Z a0 hw [] cz (own_encL [own_b x1, own_b x2]) b2_2_6_1_2_11_26 k2_2_6_1_2_11_26 vF b1_11_26 (own_width (own_b x1)) (own_b x2) T26.heap n0 O31 S_C hcz S_F hvF (own_hb _ (Nat.le_of_ble_eq_true rfl)) fc26_2 fc26_1 fc26_0 fc26_3 (own_S1 (own_E21 (own_b x1) (own_b x2)) (own_bR x1) (own_bR x2) (own_hb _ (Nat.le_of_ble_eq_true rfl))).1) hZ26 (hw _ (List.mem_of_getElem? (i := 125) rfl)) (hw _ (List.mem_of_getElem? (i := 118) rfl)) (by decide) (by decide)) (g := (mkF m 179 #[.val (.int x0), .val (.int x1), .val (.int x2), .val (.int x3), .val (.int (2 : Int32)), .val (.ref b20), .val (.ref b1_11_26), .val (.int (own_width (own_b x1))), .val (.int (own_width (own_b x2))), .val (.int (0 : Int32)), .val (.int (1 : Int32))] [(.int (own_b x2)), (.int (own_width (own_b x1))), (.ref b1_11_26)])) rfl (by rw [hml]; rfl) (argsL := [(.ref b1_11_26), (.int (own_width (own_b x1))), (.int (own_b x2))]) (rest := []) (lenOf pd__Ljava_lang_String_IB_Z rfl) rfl (by show 2 * 0 + _ ≤ _; exact Nat.le_of_eq rfl) (hb hby at_179) (fun _ _ => ⟨rfl, eq36, (by decide : 11 + 0 ≤ _), (by decide : 1022 + 0 ≤ _)⟩)
    dsimp only [Pt.U, Pt.locs, Pt.cells, Pt.slots] at X38 l38 y38 z38 st38 hQ38
    subst l38 y38 z38
    obtain ⟨rfl, N38q, eq38⟩ := hQ38
    have N38 := Fr.app N36 N38q
    refine own_s st38 ?_
    show Go p.tables e below _ (T38.setTop (mkF m 182 #[.val (.int x0), .val (.int x1), .val (.int x2), .val (.int x3), .val (.int (2 : Int32)), .val (.ref b20), .val (.ref b1_11_26), .val (.int (own_width (own_b x1))), .val (.int (own_width (own_b x2))), .val (.int (0 : Int32)), .val (.int (1 : Int32))] [(.int (own_seg (own_encL [own_b x1, own_b x2]) (own_width (own_b x1)) (own_b x2)))]))
    refine own_s (fun t k => XS.ifNo X38.here hx rfl (hb hby at_182) rfl ((if0 _ _).trans (feq (own_S1 (own_E21 (own_b x1) (own_b x2)) (own_bR x1) (own_bR x2) (own_hb _ (Nat.le_of_ble_eq_true rfl))).2).1) k) ?_
    show Go p.tables e below _ (T38.setTop (mkF m 185 #[.val (.int x0), .val (.int x1), .val (.int x2), .val (.int x3), .val (.int (2 : Int32)), .val (.ref b20), .val (.ref b1_11_26), .val (.int (own_width (own_b x1))), .val (.int (own_width (own_b x2))), .val (.int (0 : Int32)), .val (.int (1 : Int32))] []))
    refine own_s (fun t k => XS.iconst X38.here hx rfl (hb hby at_185) k) ?_
    show Go p.tables e below _ (T38.setTop (mkF m 186 #[.val (.int x0), .val (.int x1), .val (.int x2), .val (.int x3), .val (.int (2 : Int32)), .val (.ref b20), .val (.ref b1_11_26), .val (.int (own_width (own_b x1))), .val (.int (own_width (own_b x2))), .val (.int (0 : Int32)), .val (.int (1 : Int32))] [(.int (1 : Int32))]))
    refine own_s (fun t k => XS.goto X38.here hx rfl (pc0 := 186) (pc' := 190) rfl (hb hby at_186) (by decide) (by decide) k) ?_
    show Go p.tables e below _ (T38.setTop (mkF m 190 #[.val (.int x0), .val (.int x1), .val (.int x2), .val (.int x3), .val (.int (2 : Int32)), .val (.ref b20), .val (.ref b1_11_26), .val (.int (own_width (own_b x1))), .val (.int (own_width (own_b x2))), .val (.int (0 : Int32)), .val (.int (1 : Int32))] [(.int (1 : Int32))]))
    refine own_s (fun t k => XS.istore X38.here hx rfl (hb hby at_190) rfl (l' := #[.val (.int x0), .val (.int x1), .val (.int x2), .val (.int x3), .val (.int (2 : Int32)), .val (.ref b20), .val (.ref b1_11_26), .val (.int (own_width (own_b x1))), .val (.int (own_width (own_b x2))), .val (.int (0 : Int32)), .val (.int (1 : Int32))]) rfl k) ?_
    show Go p.tables e below _ (T38.setTop (mkF m 192 #[.val (.int x0), .val (.int x1), .val (.int x2), .val (.int x3), .val (.int (2 : Int32)), .val (.ref b20), .val (.ref b1_11_26), .val (.int (own_width (own_b x1))), .val (.int (own_width (own_b x2))), .val (.int (0 : Int32)), .val (.int (1 : Int32))] []))
    refine own_s (fun t k => XS.iload X38.here hx rfl (hb hby at_192) rfl k) ?_
    show Go p.tables e below _ (T38.setTop (mkF m 194 #[.val (.int x0), .val (.int x1), .val (.int x2), .val (.int x3), .val (.int (2 : Int32)), .val (.ref b20), .val (.ref b1_11_26), .val (.int (own_width (own_b x1))), .val (.int (own_width (own_b x2))), .val (.int (0 : Int32)), .val (.int (1 : Int32))] [(.int (2 : Int32))]))
    refine own_s (fun t k => XS.iconst X38.here hx rfl (hb hby at_194) k) ?_
    show Go p.tables e below _ (T38.setTop (mkF m 195 #[.val (.int x0), .val (.int x1), .val (.int x2), .val (.int x3), .val (.int (2 : Int32)), .val (.ref b20), .val (.ref b1_11_26), .val (.int (own_width (own_b x1))), .val (.int (own_width (own_b x2))), .val (.int (0 : Int32)), .val (.int (1 : Int32))] [(.int (2 : Int32)), (.int (2 : Int32))]))
    refine own_s (fun t k => XS.icmpYes X38.here hx rfl (pc0 := 195) (pc' := 227) rfl (hb hby at_195) rfl (flt (by decide : ¬ ((2 : Int32) < (2 : Int32)))).2.2.2 (by decide) (by decide) k) ?_
    show Go p.tables e below _ (T38.setTop (mkF m 227 #[.val (.int x0), .val (.int x1), .val (.int x2), .val (.int x3), .val (.int (2 : Int32)), .val (.ref b20), .val (.ref b1_11_26), .val (.int (own_width (own_b x1))), .val (.int (own_width (own_b x2))), .val (.int (0 : Int32)), .val (.int (1 : Int32))] []))
    refine own_s (fun t k => XS.iload X38.here hx rfl (hb hby at_227) rfl k) ?_
    show Go p.tables e below _ (T38.setTop (mkF m 229 #[.val (.int x0), .val (.int x1), .val (.int x2), .val (.int x3), .val (.int (2 : Int32)), .val (.ref b20), .val (.ref b1_11_26), .val (.int (own_width (own_b x1))), .val (.int (own_width (own_b x2))), .val (.int (0 : Int32)), .val (.int (1 : Int32))] [(.int (1 : Int32))]))
    obtain ⟨fs, hr, hrun, hended, hEnd⟩ := X38.leaveW hS26 (show _ ≤ T38.heap.size from (by rw [eq38]; exact (Nat.le_refl _))) (v := (some (.int (1 : Int32)))) (fun h => by first | rfl | (rw [Bd.returns] at h; cases h))
    refine own_e hPP ?_ hrun hended ⟨_, _, rfl, ?_, hEnd.1, hEnd.2.1, hEnd.2.2.1, hEnd.2.2.2.mono (by decide) (by decide)⟩
    · exact retN X38 hx (t := .boolean) Bd.returns (by simp) (hb hby at_229) hr
    · show Q_rm0 Z cz uH kH vF x0 x1 x2 x3 h0 n0 _ T38.heap _
      rw [eq38]
      exact ⟨rfl, N38⟩
  ·
    rw [q]
    show Go p.tables e below _ (s₁.setTop (mkF m 5 #[.val (.int x0), .val (.int x1), .val (.int x2), .val (.int x3), .val (.int (3 : Int32)), .unset, .unset, .unset, .unset, .unset, .unset] []))
    refine own_s (fun t k => XS.iload X0.here hx rfl (hb hby at_5) rfl k) ?_
    show Go p.tables e below _ (s₁.setTop (mkF m 7 #[.val (.int x0), .val (.int x1), .val (.int x2), .val (.int x3), .val (.int (3 : Int32)), .unset, .unset, .unset, .unset, .unset, .unset] [(.int (3 : Int32))]))
    obtain ⟨T39, h39, k39, X39, e39, E39, A39, st39⟩ := newP X0 hx hZ (hw _ (List.mem_of_getElem? (i := 0) rfl)) e0 (g := (mkF m 7 #[.val (.int x0), .val (.int x1), .val (.int x2), .val (.int x3), .val (.int (3 : Int32)), .unset, .unset, .unset, .unset, .unset, .unset] [(.int (3 : Int32))])) rfl (hb hby at_7) rfl (by decide) (cap := 3) (by decide) (by decide) (by decide) (by decide)
    obtain ⟨b39, gg39⟩ : ∃ z, z = h0.size := ⟨_, rfl⟩
    rw [← gg39] at A39 st39
    have g_b39 : n0 ≤ b39 := Nat.le_trans (Nat.le_of_eq O0.1.symm) (Nat.le_trans O0.2.1 (Nat.le_of_eq gg39.symm))
    have sz_b39 : h0.size ≤ b39 := Nat.le_trans K0.1 (Nat.le_of_eq gg39.symm)
    have K39 : Keep h0 h39 [] := K0.ext E39
    have V39 : Arv Z h39 b39 k39 .byte (3 : Int32) [(.int (0 : Int32)), (.int (0 : Int32)), (.int (0 : Int32))] (.int (0 : Int32)) := (Arv.new A39 (by decide)).pad (pad_rep [] (.int (0 : Int32)) 3)
    refine own_s st39 ?_
    show Go p.tables e below _ (T39.setTop (mkF m 9 #[.val (.int x0), .val (.int x1), .val (.int x2), .val (.int x3), .val (.int (3 : Int32)), .unset, .unset, .unset, .unset, .unset, .unset] [(.ref b39)]))
    refine own_s (fun t k => XS.astore X39.here hx rfl (hb hby at_9) rfl rfl (l' := #[.val (.int x0), .val (.int x1), .val (.int x2), .val (.int x3), .val (.int (3 : Int32)), .val (.ref b39), .unset, .unset, .unset, .unset, .unset]) rfl k) ?_
    show Go p.tables e below _ (T39.setTop (mkF m 11 #[.val (.int x0), .val (.int x1), .val (.int x2), .val (.int x3), .val (.int (3 : Int32)), .val (.ref b39), .unset, .unset, .unset, .unset, .unset] []))
    refine own_s (fun t k => XS.iload X39.here hx rfl (hb hby at_11) rfl k) ?_
    show Go p.tables e below _ (T39.setTop (mkF m 13 #[.val (.int x0), .val (.int x1), .val (.int x2), .val (.int x3), .val (.int (3 : Int32)), .val (.ref b39), .unset, .unset, .unset, .unset, .unset] [(.int (3 : Int32))]))
    refine own_s (fun t k => XS.ifNo X39.here hx rfl (hb hby at_13) rfl ((if0 _ _).trans (tlt (by decide : (0 : Int32) < (3 : Int32))).2.2.2) k) ?_
    show Go p.tables e below _ (T39.setTop (mkF m 16 #[.val (.int x0), .val (.int x1), .val (.int x2), .val (.int x3), .val (.int (3 : Int32)), .val (.ref b39), .unset, .unset, .unset, .unset, .unset] []))
    refine own_s (fun t k => XS.aload X39.here hx rfl (hb hby at_16) rfl rfl k) ?_
    show Go p.tables e below _ (T39.setTop (mkF m 18 #[.val (.int x0), .val (.int x1), .val (.int x2), .val (.int x3), .val (.int (3 : Int32)), .val (.ref b39), .unset, .unset, .unset, .unset, .unset] [(.ref b39)]))
    refine own_s (fun t k => XS.iconst X39.here hx rfl (hb hby at_18) k) ?_
    show Go p.tables e below _ (T39.setTop (mkF m 19 #[.val (.int x0), .val (.int x1), .val (.int x2), .val (.int x3), .val (.int (3 : Int32)), .val (.ref b39), .unset, .unset, .unset, .unset, .unset] [(.int (0 : Int32)), (.ref b39)]))
    refine own_s (fun t k => XS.iloadN X39.here hx rfl (hb hby at_19) rfl k) ?_
    show Go p.tables e below _ (T39.setTop (mkF m 20 #[.val (.int x0), .val (.int x1), .val (.int x2), .val (.int x3), .val (.int (3 : Int32)), .val (.ref b39), .unset, .unset, .unset, .unset, .unset] [(.int x1), (.int (0 : Int32)), (.ref b39)]))
    refine own_s (fun t k => XS.i2b X39.here hx rfl (hb hby at_20) rfl k) ?_
    show Go p.tables e below _ (T39.setTop (mkF m 21 #[.val (.int x0), .val (.int x1), .val (.int x2), .val (.int x3), .val (.int (3 : Int32)), .val (.ref b39), .unset, .unset, .unset, .unset, .unset] [(.int (x1.toInt8.toInt32)), (.int (0 : Int32)), (.ref b39)]))
    obtain ⟨cl40, Ar40, qk40, Sz40, Nn40, Hs40, Gf40⟩ := id V39
    have hin40 : ¬ ((0 : Int32) < 0 ∨ cl40.slots.size ≤ ((0 : Int32)).toNatClampNeg) := inb_of Sz40 ⟨by decide, by decide⟩
    obtain ⟨T41, h41, X41, e41, W41, st41⟩ := stB X39 hx hZ e39 Ar40 (j := (0 : Int32)) hin40 (g := (mkF m 21 #[.val (.int x0), .val (.int x1), .val (.int x2), .val (.int x3), .val (.int (3 : Int32)), .val (.ref b39), .unset, .unset, .unset, .unset, .unset] [(.int (x1.toInt8.toInt32)), (.int (0 : Int32)), (.ref b39)])) rfl rfl (hb hby at_21)
    refine own_s st41 ?_
    have K41 : Keep h0 h41 [] := K39.wr W41 (Or.inr sz_b39)
    have N41 := Fr.snoc X41 N0 g_b39
    have V41 : Arv Z h41 b39 k39 .byte (3 : Int32) [(.int (own_b x1)), (.int (0 : Int32)), (.int (0 : Int32))] (.int (0 : Int32)) := Arv.set Ar40 qk40 Sz40 Nn40 Hs40 Gf40 (fits_nar_byte _) W41 0 rfl (Nat.le_of_ble_eq_true rfl)
    show Go p.tables e below _ (T41.setTop (mkF m 22 #[.val (.int x0), .val (.int x1), .val (.int x2), .val (.int x3), .val (.int (3 : Int32)), .val (.ref b39), .unset, .unset, .unset, .unset, .unset] []))
    refine own_s (fun t k => XS.iload X41.here hx rfl (hb hby at_22) rfl k) ?_
    show Go p.tables e below _ (T41.setTop (mkF m 24 #[.val (.int x0), .val (.int x1), .val (.int x2), .val (.int x3), .val (.int (3 : Int32)), .val (.ref b39), .unset, .unset, .unset, .unset, .unset] [(.int (3 : Int32))]))
    refine own_s (fun t k => XS.iconst X41.here hx rfl (hb hby at_24) k) ?_
    show Go p.tables e below _ (T41.setTop (mkF m 25 #[.val (.int x0), .val (.int x1), .val (.int x2), .val (.int x3), .val (.int (3 : Int32)), .val (.ref b39), .unset, .unset, .unset, .unset, .unset] [(.int (1 : Int32)), (.int (3 : Int32))]))
    refine own_s (fun t k => XS.icmpNo X41.here hx rfl (hb hby at_25) rfl (tlt (by decide : (1 : Int32) < (3 : Int32))).2.2.2 k) ?_
    show Go p.tables e below _ (T41.setTop (mkF m 28 #[.val (.int x0), .val (.int x1), .val (.int x2), .val (.int x3), .val (.int (3 : Int32)), .val (.ref b39), .unset, .unset, .unset, .unset, .unset] []))
    refine own_s (fun t k => XS.aload X41.here hx rfl (hb hby at_28) rfl rfl k) ?_
    show Go p.tables e below _ (T41.setTop (mkF m 30 #[.val (.int x0), .val (.int x1), .val (.int x2), .val (.int x3), .val (.int (3 : Int32)), .val (.ref b39), .unset, .unset, .unset, .unset, .unset] [(.ref b39)]))
    refine own_s (fun t k => XS.iconst X41.here hx rfl (hb hby at_30) k) ?_
    show Go p.tables e below _ (T41.setTop (mkF m 31 #[.val (.int x0), .val (.int x1), .val (.int x2), .val (.int x3), .val (.int (3 : Int32)), .val (.ref b39), .unset, .unset, .unset, .unset, .unset] [(.int (1 : Int32)), (.ref b39)]))
    refine own_s (fun t k => XS.iloadN X41.here hx rfl (hb hby at_31) rfl k) ?_
    show Go p.tables e below _ (T41.setTop (mkF m 32 #[.val (.int x0), .val (.int x1), .val (.int x2), .val (.int x3), .val (.int (3 : Int32)), .val (.ref b39), .unset, .unset, .unset, .unset, .unset] [(.int x2), (.int (1 : Int32)), (.ref b39)]))
    refine own_s (fun t k => XS.i2b X41.here hx rfl (hb hby at_32) rfl k) ?_
    show Go p.tables e below _ (T41.setTop (mkF m 33 #[.val (.int x0), .val (.int x1), .val (.int x2), .val (.int x3), .val (.int (3 : Int32)), .val (.ref b39), .unset, .unset, .unset, .unset, .unset] [(.int (x2.toInt8.toInt32)), (.int (1 : Int32)), (.ref b39)]))
    obtain ⟨cl42, Ar42, qk42, Sz42, Nn42, Hs42, Gf42⟩ := id V41
    have hin42 : ¬ ((1 : Int32) < 0 ∨ cl42.slots.size ≤ ((1 : Int32)).toNatClampNeg) := inb_of Sz42 ⟨by decide, by decide⟩
    obtain ⟨T43, h43, X43, e43, W43, st43⟩ := stB X41 hx hZ e41 Ar42 (j := (1 : Int32)) hin42 (g := (mkF m 33 #[.val (.int x0), .val (.int x1), .val (.int x2), .val (.int x3), .val (.int (3 : Int32)), .val (.ref b39), .unset, .unset, .unset, .unset, .unset] [(.int (x2.toInt8.toInt32)), (.int (1 : Int32)), (.ref b39)])) rfl rfl (hb hby at_33)
    refine own_s st43 ?_
    have K43 : Keep h0 h43 [] := K41.wr W43 (Or.inr sz_b39)
    have N43 := Fr.snoc X43 N41 g_b39
    have V43 : Arv Z h43 b39 k39 .byte (3 : Int32) [(.int (own_b x1)), (.int (own_b x2)), (.int (0 : Int32))] (.int (0 : Int32)) := Arv.set Ar42 qk42 Sz42 Nn42 Hs42 Gf42 (fits_nar_byte _) W43 1 rfl (Nat.le_of_ble_eq_true rfl)
    show Go p.tables e below _ (T43.setTop (mkF m 34 #[.val (.int x0), .val (.int x1), .val (.int x2), .val (.int x3), .val (.int (3 : Int32)), .val (.ref b39), .unset, .unset, .unset, .unset, .unset] []))
    refine own_s (fun t k => XS.iload X43.here hx rfl (hb hby at_34) rfl k) ?_
    show Go p.tables e below _ (T43.setTop (mkF m 36 #[.val (.int x0), .val (.int x1), .val (.int x2), .val (.int x3), .val (.int (3 : Int32)), .val (.ref b39), .unset, .unset, .unset, .unset, .unset] [(.int (3 : Int32))]))
    refine own_s (fun t k => XS.iconst X43.here hx rfl (hb hby at_36) k) ?_
    show Go p.tables e below _ (T43.setTop (mkF m 37 #[.val (.int x0), .val (.int x1), .val (.int x2), .val (.int x3), .val (.int (3 : Int32)), .val (.ref b39), .unset, .unset, .unset, .unset, .unset] [(.int (2 : Int32)), (.int (3 : Int32))]))
    refine own_s (fun t k => XS.icmpNo X43.here hx rfl (hb hby at_37) rfl (tlt (by decide : (2 : Int32) < (3 : Int32))).2.2.2 k) ?_
    show Go p.tables e below _ (T43.setTop (mkF m 40 #[.val (.int x0), .val (.int x1), .val (.int x2), .val (.int x3), .val (.int (3 : Int32)), .val (.ref b39), .unset, .unset, .unset, .unset, .unset] []))
    refine own_s (fun t k => XS.aload X43.here hx rfl (hb hby at_40) rfl rfl k) ?_
    show Go p.tables e below _ (T43.setTop (mkF m 42 #[.val (.int x0), .val (.int x1), .val (.int x2), .val (.int x3), .val (.int (3 : Int32)), .val (.ref b39), .unset, .unset, .unset, .unset, .unset] [(.ref b39)]))
    refine own_s (fun t k => XS.iconst X43.here hx rfl (hb hby at_42) k) ?_
    show Go p.tables e below _ (T43.setTop (mkF m 43 #[.val (.int x0), .val (.int x1), .val (.int x2), .val (.int x3), .val (.int (3 : Int32)), .val (.ref b39), .unset, .unset, .unset, .unset, .unset] [(.int (2 : Int32)), (.ref b39)]))
    refine own_s (fun t k => XS.iloadN X43.here hx rfl (hb hby at_43) rfl k) ?_
    show Go p.tables e below _ (T43.setTop (mkF m 44 #[.val (.int x0), .val (.int x1), .val (.int x2), .val (.int x3), .val (.int (3 : Int32)), .val (.ref b39), .unset, .unset, .unset, .unset, .unset] [(.int x3), (.int (2 : Int32)), (.ref b39)]))
    refine own_s (fun t k => XS.i2b X43.here hx rfl (hb hby at_44) rfl k) ?_
    show Go p.tables e below _ (T43.setTop (mkF m 45 #[.val (.int x0), .val (.int x1), .val (.int x2), .val (.int x3), .val (.int (3 : Int32)), .val (.ref b39), .unset, .unset, .unset, .unset, .unset] [(.int (x3.toInt8.toInt32)), (.int (2 : Int32)), (.ref b39)]))
    obtain ⟨cl44, Ar44, qk44, Sz44, Nn44, Hs44, Gf44⟩ := id V43
    have hin44 : ¬ ((2 : Int32) < 0 ∨ cl44.slots.size ≤ ((2 : Int32)).toNatClampNeg) := inb_of Sz44 ⟨by decide, by decide⟩
    obtain ⟨T45, h45, X45, e45, W45, st45⟩ := stB X43 hx hZ e43 Ar44 (j := (2 : Int32)) hin44 (g := (mkF m 45 #[.val (.int x0), .val (.int x1), .val (.int x2), .val (.int x3), .val (.int (3 : Int32)), .val (.ref b39), .unset, .unset, .unset, .unset, .unset] [(.int (x3.toInt8.toInt32)), (.int (2 : Int32)), (.ref b39)])) rfl rfl (hb hby at_45)
    refine own_s st45 ?_
    have K45 : Keep h0 h45 [] := K43.wr W45 (Or.inr sz_b39)
    have N45 := Fr.snoc X45 N43 g_b39
    have V45 : Arv Z h45 b39 k39 .byte (3 : Int32) [(.int (own_b x1)), (.int (own_b x2)), (.int (own_b x3))] (.int (0 : Int32)) := Arv.set Ar44 qk44 Sz44 Nn44 Hs44 Gf44 (fits_nar_byte _) W45 2 rfl (Nat.le_of_ble_eq_true rfl)
    show Go p.tables e below _ (T45.setTop (mkF m 46 #[.val (.int x0), .val (.int x1), .val (.int x2), .val (.int x3), .val (.int (3 : Int32)), .val (.ref b39), .unset, .unset, .unset, .unset, .unset] []))
    refine own_s (fun t k => XS.aload X45.here hx rfl (hb hby at_46) rfl rfl k) ?_
    have Vp46 : Arv Z h45 b39 k39 .byte (Int32.ofNat [own_b x1, own_b x2, own_b x3].length) (own_vs [own_b x1, own_b x2, own_b x3]) (.int (0 : Int32)) := V45
    show Go p.tables e below _ (T45.setTop (mkF m 48 #[.val (.int x0), .val (.int x1), .val (.int x2), .val (.int x3), .val (.int (3 : Int32)), .val (.ref b39), .unset, .unset, .unset, .unset, .unset] [(.ref b39)]))
    have O48 : Old Z n0 h45 := ((((O0.ext E39).wr W41 g_b39).wr W43 g_b39).wr W45 g_b39)
    obtain ⟨_, _, ⟨T47, L47, k47, n47⟩, -, Xr47, hSr47, gr47, ⟨Lc47, hQ47, l47, y47, z47⟩, st47⟩ := callSS X45 hx (y := (⟨"com/example/birep/birep/rrdp/RsyncBase", "encoded", "([B)Ljava/lang/String;"⟩ : MethodName)) hown (mvT hZ (hw _ (List.mem_of_getElem? (i := 1) rfl))) (mvT hZ (hw _ (List.mem_of_getElem? (i := 2) rfl))) (mvT hZ (hw _ (List.mem_of_getElem? (i := 3) rfl))) (mvT hZ (hw _ (List.mem_of_getElem? (i := 4) rfl))) (by decide) (own_backI (W := 0) hIB (rm1 l Z a0 hw [] cz uH kH ([own_b x1, own_b x2, own_b x3]) k39 b39 h45 n0 O48 S_C hcz S_H OV_H Vp46 (Nat.le_of_ble_eq_true rfl) (own_rngS (own_bR x1) (own_rngS (own_bR x2) (own_rngS (own_bR x3) own_rng0))) hheld hcw) hZ (hw _ (List.mem_of_getElem? (i := 4) rfl)) (hw _ (List.mem_of_getElem? (i := 3) rfl)) (by decide) (by decide)) (g := (mkF m 48 #[.val (.int x0), .val (.int x1), .val (.int x2), .val (.int x3), .val (.int (3 : Int32)), .val (.ref b39), .unset, .unset, .unset, .unset, .unset] [(.ref b39)])) rfl (by rw [hml]; rfl) (argsL := [(.ref b39)]) (rest := []) (lenOf pd___B_Ljava_lang_String_ rfl) rfl (by show 2 * 0 + _ ≤ _; exact Nat.le_of_eq rfl) (hb hby at_48) (fun _ _ => ⟨rfl, e45, (by decide : 1 + 10 ≤ _), (by decide : 3 + 1020 ≤ _)⟩)
    dsimp only [Pt.U, Pt.locs, Pt.cells, Pt.slots] at Xr47 l47 y47 z47 st47 hQ47 hSr47 gr47
    subst l47 y47 z47
    obtain ⟨X47, hS47, hZ47, hown47⟩ := rebS hS0 (show _ ≤ T45.heap.size from (by rw [e45]; exact (Nat.le_trans (Nat.le_trans (Nat.le_trans (Nat.le_trans (Nat.zero_le _) E39.1) (Keep.of_wr W41).1) (Keep.of_wr W43).1) (Keep.of_wr W45).1))) Xr47 hSr47 gr47 hZ hown
    obtain ⟨b1_11_47, b2_2_6_1_2_11_47, k2_2_6_1_2_11_47, rfl, N47q, Kc47, bz_b1_11_47, bz_b2_2_6_1_2_11_47, fc47_0, fc47_1, fc47_2, fc47_3⟩ := hQ47
    have g_b1_11_47 : n0 ≤ b1_11_47 := Nat.le_trans (Nat.le_of_eq O48.1.symm) (Nat.le_trans O48.2.1 bz_b1_11_47)
    have sz_b1_11_47 : h0.size ≤ b1_11_47 := Nat.le_trans K45.1 bz_b1_11_47
    have g_b2_2_6_1_2_11_47 : n0 ≤ b2_2_6_1_2_11_47 := Nat.le_trans (Nat.le_of_eq O48.1.symm) (Nat.le_trans O48.2.1 bz_b2_2_6_1_2_11_47)
    have sz_b2_2_6_1_2_11_47 : h0.size ≤ b2_2_6_1_2_11_47 := Nat.le_trans K45.1 bz_b2_2_6_1_2_11_47
    have K47 : Keep h0 T47.heap [] := K45.trans Kc47 all0
    have N47 := Fr.app N45 N47q
    refine own_t st47 ?_
    show Go p.tables e below _ (T47.setTop (mkF m 51 #[.val (.int x0), .val (.int x1), .val (.int x2), .val (.int x3), .val (.int (3 : Int32)), .val (.ref b39), .unset, .unset, .unset, .unset, .unset] [(.ref b1_11_47)]))
    refine own_s (fun t k => XS.astore X47.here hx rfl (hb hby at_51) rfl rfl (l' := #[.val (.int x0), .val (.int x1), .val (.int x2), .val (.int x3), .val (.int (3 : Int32)), .val (.ref b39), .val (.ref b1_11_47), .unset, .unset, .unset, .unset]) rfl k) ?_
    show Go p.tables e below _ (T47.setTop (mkF m 53 #[.val (.int x0), .val (.int x1), .val (.int x2), .val (.int x3), .val (.int (3 : Int32)), .val (.ref b39), .val (.ref b1_11_47), .unset, .unset, .unset, .unset] []))
    refine own_s (fun t k => XS.iload X47.here hx rfl (hb hby at_53) rfl k) ?_
    show Go p.tables e below _ (T47.setTop (mkF m 55 #[.val (.int x0), .val (.int x1), .val (.int x2), .val (.int x3), .val (.int (3 : Int32)), .val (.ref b39), .val (.ref b1_11_47), .unset, .unset, .unset, .unset] [(.int (3 : Int32))]))
    refine own_s (fun t k => XS.ifNo X47.here hx rfl (hb hby at_55) rfl ((if0 _ _).trans (tlt (by decide : (0 : Int32) < (3 : Int32))).2.2.2) k) ?_
    show Go p.tables e below _ (T47.setTop (mkF m 58 #[.val (.int x0), .val (.int x1), .val (.int x2), .val (.int x3), .val (.int (3 : Int32)), .val (.ref b39), .val (.ref b1_11_47), .unset, .unset, .unset, .unset] []))
    refine own_s (fun t k => XS.aload X47.here hx rfl (hb hby at_58) rfl rfl k) ?_
    show Go p.tables e below _ (T47.setTop (mkF m 60 #[.val (.int x0), .val (.int x1), .val (.int x2), .val (.int x3), .val (.int (3 : Int32)), .val (.ref b39), .val (.ref b1_11_47), .unset, .unset, .unset, .unset] [(.ref b39)]))
    refine own_s (fun t k => XS.iconst X47.here hx rfl (hb hby at_60) k) ?_
    show Go p.tables e below _ (T47.setTop (mkF m 61 #[.val (.int x0), .val (.int x1), .val (.int x2), .val (.int x3), .val (.int (3 : Int32)), .val (.ref b39), .val (.ref b1_11_47), .unset, .unset, .unset, .unset] [(.int (0 : Int32)), (.ref b39)]))
    have V49 : Arv Z T47.heap b39 k39 .byte (Int32.ofNat [own_b x1, own_b x2, own_b x3].length) (own_vs [own_b x1, own_b x2, own_b x3]) (.int (0 : Int32)) := (Vp46.keep Kc47 nin0)
    obtain ⟨cl50, Ar50, qk50, Sz50, Nn50, Hs50, Gf50⟩ := id V49
    have hin50 : ¬ ((0 : Int32) < 0 ∨ cl50.slots.size ≤ ((0 : Int32)).toNatClampNeg) := inb_of Sz50 ⟨by decide, (by show (0 : Int32) < (3 : Int32); decide)⟩
    have hat50 : cl50.slots[((0 : Int32)).toNatClampNeg]? = some (.int (own_b x1)) := Has.at Hs50 hin50 rfl
    refine own_s (X47.baloadBytes hx (j := (0 : Int32)) (v := (.int (own_b x1))) Ar50.1 (State.isArrayOf_alike hZ47.alike Ar50.2.1) Ar50.2.2 hin50 hat50 (g := (mkF m 61 #[.val (.int x0), .val (.int x1), .val (.int x2), .val (.int x3), .val (.int (3 : Int32)), .val (.ref b39), .val (.ref b1_11_47), .unset, .unset, .unset, .unset] [(.int (0 : Int32)), (.ref b39)])) rfl rfl (hb hby at_61)) ?_
    show Go p.tables e below _ (T47.setTop (mkF m 62 #[.val (.int x0), .val (.int x1), .val (.int x2), .val (.int x3), .val (.int (3 : Int32)), .val (.ref b39), .val (.ref b1_11_47), .unset, .unset, .unset, .unset] [(.int (own_b x1))]))
    have O52 : Old Z n0 T47.heap := (O48.keep Kc47 all0)
    obtain ⟨_, _, ⟨T51, L51, k51, n51⟩, -, X51, ⟨Lc51, hQ51, l51, y51, z51⟩, st51⟩ := Jvm.LawKit.callS X47 hx (y := (⟨"com/example/birep/birep/rrdp/RsyncBaseEncodedPinLaw", "width", "(B)I"⟩ : MethodName)) hown47 (mvT hZ47 (hw _ (List.mem_of_getElem? (i := 116) rfl))) (mvT hZ47 (hw _ (List.mem_of_getElem? (i := 117) rfl))) (mvT hZ47 (hw _ (List.mem_of_getElem? (i := 118) rfl))) (mvT hZ47 (hw _ (List.mem_of_getElem? (i := 119) rfl))) (by decide) (backOf (W := 0) (rm22 l Z a0 hw [] (own_b x1) T47.heap n0 O52 ) hZ47 (hw _ (List.mem_of_getElem? (i := 119) rfl)) (hw _ (List.mem_of_getElem? (i := 118) rfl)) (by decide) (by decide)) (g := (mkF m 62 #[.val (.int x0), .val (.int x1), .val (.int x2), .val (.int x3), .val (.int (3 : Int32)), .val (.ref b39), .val (.ref b1_11_47), .unset, .unset, .unset, .unset] [(.int (own_b x1))])) rfl (by rw [hml]; rfl) (argsL := [(.int (own_b x1))]) (rest := []) (lenOf pd__B_I rfl) rfl (by show 2 * 0 + _ ≤ _; exact Nat.le_of_eq rfl) (hb hby at_62) (fun _ _ => ⟨rfl, rfl, (by decide : 11 + 0 ≤ _), (by decide : 1023 + 0 ≤ _)⟩)
    dsimp only [Pt.U, Pt.locs, Pt.cells, Pt.slots] at X51 l51 y51 z51 st51 hQ51
    subst l51 y51 z51
    obtain ⟨rfl, N51q, eq51⟩ := hQ51
    have N51 := Fr.app N47 N51q
    refine own_s st51 ?_
    show Go p.tables e below _ (T51.setTop (mkF m 65 #[.val (.int x0), .val (.int x1), .val (.int x2), .val (.int x3), .val (.int (3 : Int32)), .val (.ref b39), .val (.ref b1_11_47), .unset, .unset, .unset, .unset] [(.int (own_width (own_b x1)))]))
    refine own_s (fun t k => XS.goto X51.here hx rfl (pc0 := 65) (pc' := 69) rfl (hb hby at_65) (by decide) (by decide) k) ?_
    show Go p.tables e below _ (T51.setTop (mkF m 69 #[.val (.int x0), .val (.int x1), .val (.int x2), .val (.int x3), .val (.int (3 : Int32)), .val (.ref b39), .val (.ref b1_11_47), .unset, .unset, .unset, .unset] [(.int (own_width (own_b x1)))]))
    refine own_s (fun t k => XS.istore X51.here hx rfl (hb hby at_69) rfl (l' := #[.val (.int x0), .val (.int x1), .val (.int x2), .val (.int x3), .val (.int (3 : Int32)), .val (.ref b39), .val (.ref b1_11_47), .val (.int (own_width (own_b x1))), .unset, .unset, .unset]) rfl k) ?_
    show Go p.tables e below _ (T51.setTop (mkF m 71 #[.val (.int x0), .val (.int x1), .val (.int x2), .val (.int x3), .val (.int (3 : Int32)), .val (.ref b39), .val (.ref b1_11_47), .val (.int (own_width (own_b x1))), .unset, .unset, .unset] []))
    refine own_s (fun t k => XS.iload X51.here hx rfl (hb hby at_71) rfl k) ?_
    show Go p.tables e below _ (T51.setTop (mkF m 73 #[.val (.int x0), .val (.int x1), .val (.int x2), .val (.int x3), .val (.int (3 : Int32)), .val (.ref b39), .val (.ref b1_11_47), .val (.int (own_width (own_b x1))), .unset, .unset, .unset] [(.int (3 : Int32))]))
    refine own_s (fun t k => XS.iconst X51.here hx rfl (hb hby at_73) k) ?_
    show Go p.tables e below _ (T51.setTop (mkF m 74 #[.val (.int x0), .val (.int x1), .val (.int x2), .val (.int x3), .val (.int (3 : Int32)), .val (.ref b39), .val (.ref b1_11_47), .val (.int (own_width (own_b x1))), .unset, .unset, .unset] [(.int (1 : Int32)), (.int (3 : Int32))]))
    refine own_s (fun t k => XS.icmpNo X51.here hx rfl (hb hby at_74) rfl (tlt (by decide : (1 : Int32) < (3 : Int32))).2.2.2 k) ?_
    show Go p.tables e below _ (T51.setTop (mkF m 77 #[.val (.int x0), .val (.int x1), .val (.int x2), .val (.int x3), .val (.int (3 : Int32)), .val (.ref b39), .val (.ref b1_11_47), .val (.int (own_width (own_b x1))), .unset, .unset, .unset] []))
    refine own_s (fun t k => XS.aload X51.here hx rfl (hb hby at_77) rfl rfl k) ?_
    show Go p.tables e below _ (T51.setTop (mkF m 79 #[.val (.int x0), .val (.int x1), .val (.int x2), .val (.int x3), .val (.int (3 : Int32)), .val (.ref b39), .val (.ref b1_11_47), .val (.int (own_width (own_b x1))), .unset, .unset, .unset] [(.ref b39)]))
    refine own_s (fun t k => XS.iconst X51.here hx rfl (hb hby at_79) k) ?_
    show Go p.tables e below _ (T51.setTop (mkF m 80 #[.val (.int x0), .val (.int x1), .val (.int x2), .val (.int x3), .val (.int (3 : Int32)), .val (.ref b39), .val (.ref b1_11_47), .val (.int (own_width (own_b x1))), .unset, .unset, .unset] [(.int (1 : Int32)), (.ref b39)]))
    obtain ⟨cl53, Ar53, qk53, Sz53, Nn53, Hs53, Gf53⟩ := id V49
    have hin53 : ¬ ((1 : Int32) < 0 ∨ cl53.slots.size ≤ ((1 : Int32)).toNatClampNeg) := inb_of Sz53 ⟨by decide, (by show (1 : Int32) < (3 : Int32); decide)⟩
    have hat53 : cl53.slots[((1 : Int32)).toNatClampNeg]? = some (.int (own_b x2)) := Has.at Hs53 hin53 rfl
    refine own_s (X51.baloadBytes hx (j := (1 : Int32)) (v := (.int (own_b x2))) (by rw [eq51]; exact Ar53.1) (State.isArrayOf_alike hZ47.alike Ar53.2.1) Ar53.2.2 hin53 hat53 (g := (mkF m 80 #[.val (.int x0), .val (.int x1), .val (.int x2), .val (.int x3), .val (.int (3 : Int32)), .val (.ref b39), .val (.ref b1_11_47), .val (.int (own_width (own_b x1))), .unset, .unset, .unset] [(.int (1 : Int32)), (.ref b39)])) rfl rfl (hb hby at_80)) ?_
    show Go p.tables e below _ (T51.setTop (mkF m 81 #[.val (.int x0), .val (.int x1), .val (.int x2), .val (.int x3), .val (.int (3 : Int32)), .val (.ref b39), .val (.ref b1_11_47), .val (.int (own_width (own_b x1))), .unset, .unset, .unset] [(.int (own_b x2))]))
    obtain ⟨_, _, ⟨T54, L54, k54, n54⟩, -, X54, ⟨Lc54, hQ54, l54, y54, z54⟩, st54⟩ := Jvm.LawKit.callS X51 hx (y := (⟨"com/example/birep/birep/rrdp/RsyncBaseEncodedPinLaw", "width", "(B)I"⟩ : MethodName)) hown47 (mvT hZ47 (hw _ (List.mem_of_getElem? (i := 116) rfl))) (mvT hZ47 (hw _ (List.mem_of_getElem? (i := 117) rfl))) (mvT hZ47 (hw _ (List.mem_of_getElem? (i := 118) rfl))) (mvT hZ47 (hw _ (List.mem_of_getElem? (i := 119) rfl))) (by decide) (backOf (W := 0) (rm22 l Z a0 hw [] (own_b x2) T47.heap n0 O52 ) hZ47 (hw _ (List.mem_of_getElem? (i := 119) rfl)) (hw _ (List.mem_of_getElem? (i := 118) rfl)) (by decide) (by decide)) (g := (mkF m 81 #[.val (.int x0), .val (.int x1), .val (.int x2), .val (.int x3), .val (.int (3 : Int32)), .val (.ref b39), .val (.ref b1_11_47), .val (.int (own_width (own_b x1))), .unset, .unset, .unset] [(.int (own_b x2))])) rfl (by rw [hml]; rfl) (argsL := [(.int (own_b x2))]) (rest := []) (lenOf pd__B_I rfl) rfl (by show 2 * 0 + _ ≤ _; exact Nat.le_of_eq rfl) (hb hby at_81) (fun _ _ => ⟨rfl, eq51, (by decide : 11 + 0 ≤ _), (by decide : 1023 + 0 ≤ _)⟩)
    dsimp only [Pt.U, Pt.locs, Pt.cells, Pt.slots] at X54 l54 y54 z54 st54 hQ54
    subst l54 y54 z54
    obtain ⟨rfl, N54q, eq54⟩ := hQ54
    have N54 := Fr.app N51 N54q
    refine own_s st54 ?_
    show Go p.tables e below _ (T54.setTop (mkF m 84 #[.val (.int x0), .val (.int x1), .val (.int x2), .val (.int x3), .val (.int (3 : Int32)), .val (.ref b39), .val (.ref b1_11_47), .val (.int (own_width (own_b x1))), .unset, .unset, .unset] [(.int (own_width (own_b x2)))]))
    refine own_s (fun t k => XS.goto X54.here hx rfl (pc0 := 84) (pc' := 88) rfl (hb hby at_84) (by decide) (by decide) k) ?_
    show Go p.tables e below _ (T54.setTop (mkF m 88 #[.val (.int x0), .val (.int x1), .val (.int x2), .val (.int x3), .val (.int (3 : Int32)), .val (.ref b39), .val (.ref b1_11_47), .val (.int (own_width (own_b x1))), .unset, .unset, .unset] [(.int (own_width (own_b x2)))]))
    refine own_s (fun t k => XS.istore X54.here hx rfl (hb hby at_88) rfl (l' := #[.val (.int x0), .val (.int x1), .val (.int x2), .val (.int x3), .val (.int (3 : Int32)), .val (.ref b39), .val (.ref b1_11_47), .val (.int (own_width (own_b x1))), .val (.int (own_width (own_b x2))), .unset, .unset]) rfl k) ?_
    show Go p.tables e below _ (T54.setTop (mkF m 90 #[.val (.int x0), .val (.int x1), .val (.int x2), .val (.int x3), .val (.int (3 : Int32)), .val (.ref b39), .val (.ref b1_11_47), .val (.int (own_width (own_b x1))), .val (.int (own_width (own_b x2))), .unset, .unset] []))
    refine own_s (fun t k => XS.iload X54.here hx rfl (hb hby at_90) rfl k) ?_
    show Go p.tables e below _ (T54.setTop (mkF m 92 #[.val (.int x0), .val (.int x1), .val (.int x2), .val (.int x3), .val (.int (3 : Int32)), .val (.ref b39), .val (.ref b1_11_47), .val (.int (own_width (own_b x1))), .val (.int (own_width (own_b x2))), .unset, .unset] [(.int (3 : Int32))]))
    refine own_s (fun t k => XS.iconst X54.here hx rfl (hb hby at_92) k) ?_
    show Go p.tables e below _ (T54.setTop (mkF m 93 #[.val (.int x0), .val (.int x1), .val (.int x2), .val (.int x3), .val (.int (3 : Int32)), .val (.ref b39), .val (.ref b1_11_47), .val (.int (own_width (own_b x1))), .val (.int (own_width (own_b x2))), .unset, .unset] [(.int (2 : Int32)), (.int (3 : Int32))]))
    refine own_s (fun t k => XS.icmpNo X54.here hx rfl (hb hby at_93) rfl (tlt (by decide : (2 : Int32) < (3 : Int32))).2.2.2 k) ?_
    show Go p.tables e below _ (T54.setTop (mkF m 96 #[.val (.int x0), .val (.int x1), .val (.int x2), .val (.int x3), .val (.int (3 : Int32)), .val (.ref b39), .val (.ref b1_11_47), .val (.int (own_width (own_b x1))), .val (.int (own_width (own_b x2))), .unset, .unset] []))
    refine own_s (fun t k => XS.aload X54.here hx rfl (hb hby at_96) rfl rfl k) ?_
    show Go p.tables e below _ (T54.setTop (mkF m 98 #[.val (.int x0), .val (.int x1), .val (.int x2), .val (.int x3), .val (.int (3 : Int32)), .val (.ref b39), .val (.ref b1_11_47), .val (.int (own_width (own_b x1))), .val (.int (own_width (own_b x2))), .unset, .unset] [(.ref b39)]))
    refine own_s (fun t k => XS.iconst X54.here hx rfl (hb hby at_98) k) ?_
    show Go p.tables e below _ (T54.setTop (mkF m 99 #[.val (.int x0), .val (.int x1), .val (.int x2), .val (.int x3), .val (.int (3 : Int32)), .val (.ref b39), .val (.ref b1_11_47), .val (.int (own_width (own_b x1))), .val (.int (own_width (own_b x2))), .unset, .unset] [(.int (2 : Int32)), (.ref b39)]))
    obtain ⟨cl55, Ar55, qk55, Sz55, Nn55, Hs55, Gf55⟩ := id V49
    have hin55 : ¬ ((2 : Int32) < 0 ∨ cl55.slots.size ≤ ((2 : Int32)).toNatClampNeg) := inb_of Sz55 ⟨by decide, (by show (2 : Int32) < (3 : Int32); decide)⟩
    have hat55 : cl55.slots[((2 : Int32)).toNatClampNeg]? = some (.int (own_b x3)) := Has.at Hs55 hin55 rfl
    refine own_s (X54.baloadBytes hx (j := (2 : Int32)) (v := (.int (own_b x3))) (by rw [eq54]; exact Ar55.1) (State.isArrayOf_alike hZ47.alike Ar55.2.1) Ar55.2.2 hin55 hat55 (g := (mkF m 99 #[.val (.int x0), .val (.int x1), .val (.int x2), .val (.int x3), .val (.int (3 : Int32)), .val (.ref b39), .val (.ref b1_11_47), .val (.int (own_width (own_b x1))), .val (.int (own_width (own_b x2))), .unset, .unset] [(.int (2 : Int32)), (.ref b39)])) rfl rfl (hb hby at_99)) ?_
    show Go p.tables e below _ (T54.setTop (mkF m 100 #[.val (.int x0), .val (.int x1), .val (.int x2), .val (.int x3), .val (.int (3 : Int32)), .val (.ref b39), .val (.ref b1_11_47), .val (.int (own_width (own_b x1))), .val (.int (own_width (own_b x2))), .unset, .unset] [(.int (own_b x3))]))
    obtain ⟨_, _, ⟨T56, L56, k56, n56⟩, -, X56, ⟨Lc56, hQ56, l56, y56, z56⟩, st56⟩ := Jvm.LawKit.callS X54 hx (y := (⟨"com/example/birep/birep/rrdp/RsyncBaseEncodedPinLaw", "width", "(B)I"⟩ : MethodName)) hown47 (mvT hZ47 (hw _ (List.mem_of_getElem? (i := 116) rfl))) (mvT hZ47 (hw _ (List.mem_of_getElem? (i := 117) rfl))) (mvT hZ47 (hw _ (List.mem_of_getElem? (i := 118) rfl))) (mvT hZ47 (hw _ (List.mem_of_getElem? (i := 119) rfl))) (by decide) (backOf (W := 0) (rm22 l Z a0 hw [] (own_b x3) T47.heap n0 O52 ) hZ47 (hw _ (List.mem_of_getElem? (i := 119) rfl)) (hw _ (List.mem_of_getElem? (i := 118) rfl)) (by decide) (by decide)) (g := (mkF m 100 #[.val (.int x0), .val (.int x1), .val (.int x2), .val (.int x3), .val (.int (3 : Int32)), .val (.ref b39), .val (.ref b1_11_47), .val (.int (own_width (own_b x1))), .val (.int (own_width (own_b x2))), .unset, .unset] [(.int (own_b x3))])) rfl (by rw [hml]; rfl) (argsL := [(.int (own_b x3))]) (rest := []) (lenOf pd__B_I rfl) rfl (by show 2 * 0 + _ ≤ _; exact Nat.le_of_eq rfl) (hb hby at_100) (fun _ _ => ⟨rfl, eq54, (by decide : 11 + 0 ≤ _), (by decide : 1023 + 0 ≤ _)⟩)
    dsimp only [Pt.U, Pt.locs, Pt.cells, Pt.slots] at X56 l56 y56 z56 st56 hQ56
    subst l56 y56 z56
    obtain ⟨rfl, N56q, eq56⟩ := hQ56
    have N56 := Fr.app N54 N56q
    refine own_s st56 ?_
    show Go p.tables e below _ (T56.setTop (mkF m 103 #[.val (.int x0), .val (.int x1), .val (.int x2), .val (.int x3), .val (.int (3 : Int32)), .val (.ref b39), .val (.ref b1_11_47), .val (.int (own_width (own_b x1))), .val (.int (own_width (own_b x2))), .unset, .unset] [(.int (own_width (own_b x3)))]))
    refine own_s (fun t k => XS.goto X56.here hx rfl (pc0 := 103) (pc' := 107) rfl (hb hby at_103) (by decide) (by decide) k) ?_
    show Go p.tables e below _ (T56.setTop (mkF m 107 #[.val (.int x0), .val (.int x1), .val (.int x2), .val (.int x3), .val (.int (3 : Int32)), .val (.ref b39), .val (.ref b1_11_47), .val (.int (own_width (own_b x1))), .val (.int (own_width (own_b x2))), .unset, .unset] [(.int (own_width (own_b x3)))]))
    refine own_s (fun t k => XS.istore X56.here hx rfl (hb hby at_107) rfl (l' := #[.val (.int x0), .val (.int x1), .val (.int x2), .val (.int x3), .val (.int (3 : Int32)), .val (.ref b39), .val (.ref b1_11_47), .val (.int (own_width (own_b x1))), .val (.int (own_width (own_b x2))), .val (.int (own_width (own_b x3))), .unset]) rfl k) ?_
    show Go p.tables e below _ (T56.setTop (mkF m 109 #[.val (.int x0), .val (.int x1), .val (.int x2), .val (.int x3), .val (.int (3 : Int32)), .val (.ref b39), .val (.ref b1_11_47), .val (.int (own_width (own_b x1))), .val (.int (own_width (own_b x2))), .val (.int (own_width (own_b x3))), .unset] []))
    refine own_s (fun t k => XS.aload X56.here hx rfl (hb hby at_109) rfl rfl k) ?_
    show Go p.tables e below _ (T56.setTop (mkF m 111 #[.val (.int x0), .val (.int x1), .val (.int x2), .val (.int x3), .val (.int (3 : Int32)), .val (.ref b39), .val (.ref b1_11_47), .val (.int (own_width (own_b x1))), .val (.int (own_width (own_b x2))), .val (.int (own_width (own_b x3))), .unset] [(.ref b1_11_47)]))
    obtain ⟨cq57, kq57, q57a, q57b, q57c⟩ := isOf hZ47 eq56 fc47_0
    obtain ⟨_, _, ⟨T57, L57, k57, n57⟩, -, X57, ⟨Lc57, hQ57, l57, y57, z57⟩, st57⟩ := X56.virtualBack hx (y := (⟨"java/lang/String", "length", "()I"⟩ : MethodName)) (z := (⟨"java/lang/String", "length", "()I"⟩ : MethodName)) hown47 (mvT hZ47 (hw _ (List.mem_of_getElem? (i := 84) rfl))) (mvT hZ47 (hw _ (List.mem_of_getElem? (i := 85) rfl))) (notFace_of_selects (args := #[]) (mvT hZ47 (hw _ (List.mem_of_getElem? (i := 87) rfl)))) (mvT hZ47 (hw _ (List.mem_of_getElem? (i := 87) rfl))) (mvT hZ47 (hw _ (List.mem_of_getElem? (i := 86) rfl))) (by decide) (backOf (W := 0) (rm16 l Z a0 hw [] cz (own_encL [own_b x1, own_b x2, own_b x3]) b2_2_6_1_2_11_47 k2_2_6_1_2_11_47 b1_11_47 T47.heap n0 O52 S_C hcz (own_hb _ (Nat.le_of_ble_eq_true rfl)) fc47_2 fc47_1 fc47_0 fc47_3) hZ47 (hw _ (List.mem_of_getElem? (i := 88) rfl)) (hw _ (List.mem_of_getElem? (i := 21) rfl)) (by decide) (by decide)) q57a q57c (g := (mkF m 111 #[.val (.int x0), .val (.int x1), .val (.int x2), .val (.int x3), .val (.int (3 : Int32)), .val (.ref b39), .val (.ref b1_11_47), .val (.int (own_width (own_b x1))), .val (.int (own_width (own_b x2))), .val (.int (own_width (own_b x3))), .unset] [(.ref b1_11_47)])) rfl (by rw [hml]; rfl) (Steps.refl _) (argsL := []) (rest := []) (lenOf pd___I rfl) rfl (by show 2 * 0 + _ ≤ _; exact Nat.le_of_eq rfl) (hb hby at_111) (fun _ _ => ⟨rfl, eq56, (by decide : 11 + 0 ≤ _), (by decide : 1023 + 0 ≤ _)⟩)
    dsimp only [Pt.U, Pt.locs, Pt.cells, Pt.slots] at X57 l57 y57 z57 st57 hQ57
    subst l57 y57 z57
    obtain ⟨rfl, N57q, eq57⟩ := hQ57
    have N57 := Fr.app N56 N57q
    refine own_t st57 ?_
    show Go p.tables e below _ (T57.setTop (mkF m 114 #[.val (.int x0), .val (.int x1), .val (.int x2), .val (.int x3), .val (.int (3 : Int32)), .val (.ref b39), .val (.ref b1_11_47), .val (.int (own_width (own_b x1))), .val (.int (own_width (own_b x2))), .val (.int (own_width (own_b x3))), .unset] [(.int (Int32.ofNat (own_encL [own_b x1, own_b x2, own_b x3]).length))]))
    refine own_s (fun t k => XS.iload X57.here hx rfl (hb hby at_114) rfl k) ?_
    show Go p.tables e below _ (T57.setTop (mkF m 116 #[.val (.int x0), .val (.int x1), .val (.int x2), .val (.int x3), .val (.int (3 : Int32)), .val (.ref b39), .val (.ref b1_11_47), .val (.int (own_width (own_b x1))), .val (.int (own_width (own_b x2))), .val (.int (own_width (own_b x3))), .unset] [(.int (own_width (own_b x1))), (.int (Int32.ofNat (own_encL [own_b x1, own_b x2, own_b x3]).length))]))
    refine own_s (fun t k => XS.iload X57.here hx rfl (hb hby at_116) rfl k) ?_
    show Go p.tables e below _ (T57.setTop (mkF m 118 #[.val (.int x0), .val (.int x1), .val (.int x2), .val (.int x3), .val (.int (3 : Int32)), .val (.ref b39), .val (.ref b1_11_47), .val (.int (own_width (own_b x1))), .val (.int (own_width (own_b x2))), .val (.int (own_width (own_b x3))), .unset] [(.int (own_width (own_b x2))), (.int (own_width (own_b x1))), (.int (Int32.ofNat (own_encL [own_b x1, own_b x2, own_b x3]).length))]))
    refine own_s (fun t k => XS.iadd X57.here hx rfl (hb hby at_118) rfl k) ?_
    show Go p.tables e below _ (T57.setTop (mkF m 119 #[.val (.int x0), .val (.int x1), .val (.int x2), .val (.int x3), .val (.int (3 : Int32)), .val (.ref b39), .val (.ref b1_11_47), .val (.int (own_width (own_b x1))), .val (.int (own_width (own_b x2))), .val (.int (own_width (own_b x3))), .unset] [(.int ((own_width (own_b x1)) + (own_width (own_b x2)))), (.int (Int32.ofNat (own_encL [own_b x1, own_b x2, own_b x3]).length))]))
    refine own_s (fun t k => XS.iload X57.here hx rfl (hb hby at_119) rfl k) ?_
    show Go p.tables e below _ (T57.setTop (mkF m 121 #[.val (.int x0), .val (.int x1), .val (.int x2), .val (.int x3), .val (.int (3 : Int32)), .val (.ref b39), .val (.ref b1_11_47), .val (.int (own_width (own_b x1))), .val (.int (own_width (own_b x2))), .val (.int (own_width (own_b x3))), .unset] [(.int (own_width (own_b x3))), (.int ((own_width (own_b x1)) + (own_width (own_b x2)))), (.int (Int32.ofNat (own_encL [own_b x1, own_b x2, own_b x3]).length))]))
    refine own_s (fun t k => XS.iadd X57.here hx rfl (hb hby at_121) rfl k) ?_
    show Go p.tables e below _ (T57.setTop (mkF m 122 #[.val (.int x0), .val (.int x1), .val (.int x2), .val (.int x3), .val (.int (3 : Int32)), .val (.ref b39), .val (.ref b1_11_47), .val (.int (own_width (own_b x1))), .val (.int (own_width (own_b x2))), .val (.int (own_width (own_b x3))), .unset] [(.int (((own_width (own_b x1)) + (own_width (own_b x2))) + (own_width (own_b x3)))), (.int (Int32.ofNat (own_encL [own_b x1, own_b x2, own_b x3]).length))]))
    refine own_s (fun t k => XS.icmpYes X57.here hx rfl (pc0 := 122) (pc' := 127) rfl (hb hby at_122) rfl (teq (own_L3 (own_bR x1) (own_bR x2) (own_bR x3))).1 (by decide) (by decide) k) ?_
    show Go p.tables e below _ (T57.setTop (mkF m 127 #[.val (.int x0), .val (.int x1), .val (.int x2), .val (.int x3), .val (.int (3 : Int32)), .val (.ref b39), .val (.ref b1_11_47), .val (.int (own_width (own_b x1))), .val (.int (own_width (own_b x2))), .val (.int (own_width (own_b x3))), .unset] []))
    refine own_s (fun t k => XS.iconst X57.here hx rfl (hb hby at_127) k) ?_
    show Go p.tables e below _ (T57.setTop (mkF m 128 #[.val (.int x0), .val (.int x1), .val (.int x2), .val (.int x3), .val (.int (3 : Int32)), .val (.ref b39), .val (.ref b1_11_47), .val (.int (own_width (own_b x1))), .val (.int (own_width (own_b x2))), .val (.int (own_width (own_b x3))), .unset] [(.int (1 : Int32))]))
    refine own_s (fun t k => XS.istore X57.here hx rfl (hb hby at_128) rfl (l' := #[.val (.int x0), .val (.int x1), .val (.int x2), .val (.int x3), .val (.int (3 : Int32)), .val (.ref b39), .val (.ref b1_11_47), .val (.int (own_width (own_b x1))), .val (.int (own_width (own_b x2))), .val (.int (own_width (own_b x3))), .val (.int (1 : Int32))]) rfl k) ?_
    show Go p.tables e below _ (T57.setTop (mkF m 130 #[.val (.int x0), .val (.int x1), .val (.int x2), .val (.int x3), .val (.int (3 : Int32)), .val (.ref b39), .val (.ref b1_11_47), .val (.int (own_width (own_b x1))), .val (.int (own_width (own_b x2))), .val (.int (own_width (own_b x3))), .val (.int (1 : Int32))] []))
    refine own_s (fun t k => XS.iload X57.here hx rfl (hb hby at_130) rfl k) ?_
    show Go p.tables e below _ (T57.setTop (mkF m 132 #[.val (.int x0), .val (.int x1), .val (.int x2), .val (.int x3), .val (.int (3 : Int32)), .val (.ref b39), .val (.ref b1_11_47), .val (.int (own_width (own_b x1))), .val (.int (own_width (own_b x2))), .val (.int (own_width (own_b x3))), .val (.int (1 : Int32))] [(.int (3 : Int32))]))
    refine own_s (fun t k => XS.ifNo X57.here hx rfl (hb hby at_132) rfl ((if0 _ _).trans (tlt (by decide : (0 : Int32) < (3 : Int32))).2.2.2) k) ?_
    show Go p.tables e below _ (T57.setTop (mkF m 135 #[.val (.int x0), .val (.int x1), .val (.int x2), .val (.int x3), .val (.int (3 : Int32)), .val (.ref b39), .val (.ref b1_11_47), .val (.int (own_width (own_b x1))), .val (.int (own_width (own_b x2))), .val (.int (own_width (own_b x3))), .val (.int (1 : Int32))] []))
    refine own_s (fun t k => XS.iload X57.here hx rfl (hb hby at_135) rfl k) ?_
    show Go p.tables e below _ (T57.setTop (mkF m 137 #[.val (.int x0), .val (.int x1), .val (.int x2), .val (.int x3), .val (.int (3 : Int32)), .val (.ref b39), .val (.ref b1_11_47), .val (.int (own_width (own_b x1))), .val (.int (own_width (own_b x2))), .val (.int (own_width (own_b x3))), .val (.int (1 : Int32))] [(.int (1 : Int32))]))
    refine own_s (fun t k => XS.ifNo X57.here hx rfl (hb hby at_137) rfl ((if0 _ _).trans (feq (by decide : ¬ ((1 : Int32) = (0 : Int32)))).1) k) ?_
    show Go p.tables e below _ (T57.setTop (mkF m 140 #[.val (.int x0), .val (.int x1), .val (.int x2), .val (.int x3), .val (.int (3 : Int32)), .val (.ref b39), .val (.ref b1_11_47), .val (.int (own_width (own_b x1))), .val (.int (own_width (own_b x2))), .val (.int (own_width (own_b x3))), .val (.int (1 : Int32))] []))
    refine own_s (fun t k => XS.aload X57.here hx rfl (hb hby at_140) rfl rfl k) ?_
    show Go p.tables e below _ (T57.setTop (mkF m 142 #[.val (.int x0), .val (.int x1), .val (.int x2), .val (.int x3), .val (.int (3 : Int32)), .val (.ref b39), .val (.ref b1_11_47), .val (.int (own_width (own_b x1))), .val (.int (own_width (own_b x2))), .val (.int (own_width (own_b x3))), .val (.int (1 : Int32))] [(.ref b1_11_47)]))
    refine own_s (fun t k => XS.iconst X57.here hx rfl (hb hby at_142) k) ?_
    show Go p.tables e below _ (T57.setTop (mkF m 143 #[.val (.int x0), .val (.int x1), .val (.int x2), .val (.int x3), .val (.int (3 : Int32)), .val (.ref b39), .val (.ref b1_11_47), .val (.int (own_width (own_b x1))), .val (.int (own_width (own_b x2))), .val (.int (own_width (own_b x3))), .val (.int (1 : Int32))] [(.int (0 : Int32)), (.ref b1_11_47)]))
    refine own_s (fun t k => XS.aload X57.here hx rfl (hb hby at_143) rfl rfl k) ?_
    show Go p.tables e below _ (T57.setTop (mkF m 145 #[.val (.int x0), .val (.int x1), .val (.int x2), .val (.int x3), .val (.int (3 : Int32)), .val (.ref b39), .val (.ref b1_11_47), .val (.int (own_width (own_b x1))), .val (.int (own_width (own_b x2))), .val (.int (own_width (own_b x3))), .val (.int (1 : Int32))] [(.ref b39), (.int (0 : Int32)), (.ref b1_11_47)]))
    refine own_s (fun t k => XS.iconst X57.here hx rfl (hb hby at_145) k) ?_
    show Go p.tables e below _ (T57.setTop (mkF m 146 #[.val (.int x0), .val (.int x1), .val (.int x2), .val (.int x3), .val (.int (3 : Int32)), .val (.ref b39), .val (.ref b1_11_47), .val (.int (own_width (own_b x1))), .val (.int (own_width (own_b x2))), .val (.int (own_width (own_b x3))), .val (.int (1 : Int32))] [(.int (0 : Int32)), (.ref b39), (.int (0 : Int32)), (.ref b1_11_47)]))
    obtain ⟨cl58, Ar58, qk58, Sz58, Nn58, Hs58, Gf58⟩ := id V49
    have hin58 : ¬ ((0 : Int32) < 0 ∨ cl58.slots.size ≤ ((0 : Int32)).toNatClampNeg) := inb_of Sz58 ⟨by decide, (by show (0 : Int32) < (3 : Int32); decide)⟩
    have hat58 : cl58.slots[((0 : Int32)).toNatClampNeg]? = some (.int (own_b x1)) := Has.at Hs58 hin58 rfl
    refine own_s (X57.baloadBytes hx (j := (0 : Int32)) (v := (.int (own_b x1))) (by rw [eq57]; exact Ar58.1) (State.isArrayOf_alike hZ47.alike Ar58.2.1) Ar58.2.2 hin58 hat58 (g := (mkF m 146 #[.val (.int x0), .val (.int x1), .val (.int x2), .val (.int x3), .val (.int (3 : Int32)), .val (.ref b39), .val (.ref b1_11_47), .val (.int (own_width (own_b x1))), .val (.int (own_width (own_b x2))), .val (.int (own_width (own_b x3))), .val (.int (1 : Int32))] [(.int (0 : Int32)), (.ref b39), (.int (0 : Int32)), (.ref b1_11_47)])) rfl rfl (hb hby at_146)) ?_
    show Go p.tables e below _ (T57.setTop (mkF m 147 #[.val (.int x0), .val (.int x1), .val (.int x2), .val (.int x3), .val (.int (3 : Int32)), .val (.ref b39), .val (.ref b1_11_47), .val (.int (own_width (own_b x1))), .val (.int (own_width (own_b x2))), .val (.int (own_width (own_b x3))), .val (.int (1 : Int32))] [(.int (own_b x1)), (.int (0 : Int32)), (.ref b1_11_47)]))
    obtain ⟨_, _, ⟨T59, L59, k59, n59⟩, -, X59, ⟨Lc59, hQ59, l59, y59, z59⟩, st59⟩ := Jvm.LawKit.callS X57 hx (y := (⟨"com/example/birep/birep/rrdp/RsyncBaseEncodedPinLaw", "seg", "(Ljava/lang/String;IB)Z"⟩ : MethodName)) hown47 (mvT hZ47 (hw _ (List.mem_of_getElem? (i := 123) rfl))) (mvT hZ47 (hw _ (List.mem_of_getElem? (i := 124) rfl))) (mvT hZ47 (hw _ (List.mem_of_getElem? (i := 118) rfl))) (mvT hZ47 (hw _ (List.mem_of_getElem? (i := 125) rfl))) (by decide) (backOf (W := 0) (rm24 l Z a0 hw [] cz (own_encL [own_b x1, own_b x2, own_b x3]) b2_2_6_1_2_11_47 k2_2_6_1_2_11_47 vF b1_11_47 (0 : Int32) (own_b x1) T47.heap n0 O52 S_C hcz S_F hvF (own_hb _ (Nat.le_of_ble_eq_true rfl)) fc47_2 fc47_1 fc47_0 fc47_3 (own_S0 (own_E30 (own_b x1) (own_b x2) (own_b x3)) (own_bR x1) (own_hb _ (Nat.le_of_ble_eq_true rfl))).1) hZ47 (hw _ (List.mem_of_getElem? (i := 125) rfl)) (hw _ (List.mem_of_getElem? (i := 118) rfl)) (by decide) (by decide)) (g := (mkF m 147 #[.val (.int x0), .val (.int x1), .val (.int x2), .val (.int x3), .val (.int (3 : Int32)), .val (.ref b39), .val (.ref b1_11_47), .val (.int (own_width (own_b x1))), .val (.int (own_width (own_b x2))), .val (.int (own_width (own_b x3))), .val (.int (1 : Int32))] [(.int (own_b x1)), (.int (0 : Int32)), (.ref b1_11_47)])) rfl (by rw [hml]; rfl) (argsL := [(.ref b1_11_47), (.int (0 : Int32)), (.int (own_b x1))]) (rest := []) (lenOf pd__Ljava_lang_String_IB_Z rfl) rfl (by show 2 * 0 + _ ≤ _; exact Nat.le_of_eq rfl) (hb hby at_147) (fun _ _ => ⟨rfl, eq57, (by decide : 11 + 0 ≤ _), (by decide : 1023 + 0 ≤ _)⟩)
    dsimp only [Pt.U, Pt.locs, Pt.cells, Pt.slots] at X59 l59 y59 z59 st59 hQ59
    subst l59 y59 z59
    obtain ⟨rfl, N59q, eq59⟩ := hQ59
    have N59 := Fr.app N57 N59q
    refine own_s st59 ?_
    show Go p.tables e below _ (T59.setTop (mkF m 150 #[.val (.int x0), .val (.int x1), .val (.int x2), .val (.int x3), .val (.int (3 : Int32)), .val (.ref b39), .val (.ref b1_11_47), .val (.int (own_width (own_b x1))), .val (.int (own_width (own_b x2))), .val (.int (own_width (own_b x3))), .val (.int (1 : Int32))] [(.int (own_seg (own_encL [own_b x1, own_b x2, own_b x3]) (0 : Int32) (own_b x1)))]))
    refine own_s (fun t k => XS.ifNo X59.here hx rfl (hb hby at_150) rfl ((if0 _ _).trans (feq (own_S0 (own_E30 (own_b x1) (own_b x2) (own_b x3)) (own_bR x1) (own_hb _ (Nat.le_of_ble_eq_true rfl))).2).1) k) ?_
    show Go p.tables e below _ (T59.setTop (mkF m 153 #[.val (.int x0), .val (.int x1), .val (.int x2), .val (.int x3), .val (.int (3 : Int32)), .val (.ref b39), .val (.ref b1_11_47), .val (.int (own_width (own_b x1))), .val (.int (own_width (own_b x2))), .val (.int (own_width (own_b x3))), .val (.int (1 : Int32))] []))
    refine own_s (fun t k => XS.iconst X59.here hx rfl (hb hby at_153) k) ?_
    show Go p.tables e below _ (T59.setTop (mkF m 154 #[.val (.int x0), .val (.int x1), .val (.int x2), .val (.int x3), .val (.int (3 : Int32)), .val (.ref b39), .val (.ref b1_11_47), .val (.int (own_width (own_b x1))), .val (.int (own_width (own_b x2))), .val (.int (own_width (own_b x3))), .val (.int (1 : Int32))] [(.int (1 : Int32))]))
    refine own_s (fun t k => XS.goto X59.here hx rfl (pc0 := 154) (pc' := 158) rfl (hb hby at_154) (by decide) (by decide) k) ?_
    show Go p.tables e below _ (T59.setTop (mkF m 158 #[.val (.int x0), .val (.int x1), .val (.int x2), .val (.int x3), .val (.int (3 : Int32)), .val (.ref b39), .val (.ref b1_11_47), .val (.int (own_width (own_b x1))), .val (.int (own_width (own_b x2))), .val (.int (own_width (own_b x3))), .val (.int (1 : Int32))] [(.int (1 : Int32))]))
    refine own_s (fun t k => XS.istore X59.here hx rfl (hb hby at_158) rfl (l' := #[.val (.int x0), .val (.int x1), .val (.int x2), .val (.int x3), .val (.int (3 : Int32)), .val (.ref b39), .val (.ref b1_11_47), .val (.int (own_width (own_b x1))), .val (.int (own_width (own_b x2))), .val (.int (own_width (own_b x3))), .val (.int (1 : Int32))]) rfl k) ?_
    show Go p.tables e below _ (T59.setTop (mkF m 160 #[.val (.int x0), .val (.int x1), .val (.int x2), .val (.int x3), .val (.int (3 : Int32)), .val (.ref b39), .val (.ref b1_11_47), .val (.int (own_width (own_b x1))), .val (.int (own_width (own_b x2))), .val (.int (own_width (own_b x3))), .val (.int (1 : Int32))] []))
    refine own_s (fun t k => XS.iload X59.here hx rfl (hb hby at_160) rfl k) ?_
    show Go p.tables e below _ (T59.setTop (mkF m 162 #[.val (.int x0), .val (.int x1), .val (.int x2), .val (.int x3), .val (.int (3 : Int32)), .val (.ref b39), .val (.ref b1_11_47), .val (.int (own_width (own_b x1))), .val (.int (own_width (own_b x2))), .val (.int (own_width (own_b x3))), .val (.int (1 : Int32))] [(.int (3 : Int32))]))
    refine own_s (fun t k => XS.iconst X59.here hx rfl (hb hby at_162) k) ?_
    show Go p.tables e below _ (T59.setTop (mkF m 163 #[.val (.int x0), .val (.int x1), .val (.int x2), .val (.int x3), .val (.int (3 : Int32)), .val (.ref b39), .val (.ref b1_11_47), .val (.int (own_width (own_b x1))), .val (.int (own_width (own_b x2))), .val (.int (own_width (own_b x3))), .val (.int (1 : Int32))] [(.int (1 : Int32)), (.int (3 : Int32))]))
    refine own_s (fun t k => XS.icmpNo X59.here hx rfl (hb hby at_163) rfl (tlt (by decide : (1 : Int32) < (3 : Int32))).2.2.2 k) ?_
    show Go p.tables e below _ (T59.setTop (mkF m 166 #[.val (.int x0), .val (.int x1), .val (.int x2), .val (.int x3), .val (.int (3 : Int32)), .val (.ref b39), .val (.ref b1_11_47), .val (.int (own_width (own_b x1))), .val (.int (own_width (own_b x2))), .val (.int (own_width (own_b x3))), .val (.int (1 : Int32))] []))
    refine own_s (fun t k => XS.iload X59.here hx rfl (hb hby at_166) rfl k) ?_
    show Go p.tables e below _ (T59.setTop (mkF m 168 #[.val (.int x0), .val (.int x1), .val (.int x2), .val (.int x3), .val (.int (3 : Int32)), .val (.ref b39), .val (.ref b1_11_47), .val (.int (own_width (own_b x1))), .val (.int (own_width (own_b x2))), .val (.int (own_width (own_b x3))), .val (.int (1 : Int32))] [(.int (1 : Int32))]))
    refine own_s (fun t k => XS.ifNo X59.here hx rfl (hb hby at_168) rfl ((if0 _ _).trans (feq (by decide : ¬ ((1 : Int32) = (0 : Int32)))).1) k) ?_
    show Go p.tables e below _ (T59.setTop (mkF m 171 #[.val (.int x0), .val (.int x1), .val (.int x2), .val (.int x3), .val (.int (3 : Int32)), .val (.ref b39), .val (.ref b1_11_47), .val (.int (own_width (own_b x1))), .val (.int (own_width (own_b x2))), .val (.int (own_width (own_b x3))), .val (.int (1 : Int32))] []))
    refine own_s (fun t k => XS.aload X59.here hx rfl (hb hby at_171) rfl rfl k) ?_
    show Go p.tables e below _ (T59.setTop (mkF m 173 #[.val (.int x0), .val (.int x1), .val (.int x2), .val (.int x3), .val (.int (3 : Int32)), .val (.ref b39), .val (.ref b1_11_47), .val (.int (own_width (own_b x1))), .val (.int (own_width (own_b x2))), .val (.int (own_width (own_b x3))), .val (.int (1 : Int32))] [(.ref b1_11_47)]))
    refine own_s (fun t k => XS.iload X59.here hx rfl (hb hby at_173) rfl k) ?_
    show Go p.tables e below _ (T59.setTop (mkF m 175 #[.val (.int x0), .val (.int x1), .val (.int x2), .val (.int x3), .val (.int (3 : Int32)), .val (.ref b39), .val (.ref b1_11_47), .val (.int (own_width (own_b x1))), .val (.int (own_width (own_b x2))), .val (.int (own_width (own_b x3))), .val (.int (1 : Int32))] [(.int (own_width (own_b x1))), (.ref b1_11_47)]))
    refine own_s (fun t k => XS.aload X59.here hx rfl (hb hby at_175) rfl rfl k) ?_
    show Go p.tables e below _ (T59.setTop (mkF m 177 #[.val (.int x0), .val (.int x1), .val (.int x2), .val (.int x3), .val (.int (3 : Int32)), .val (.ref b39), .val (.ref b1_11_47), .val (.int (own_width (own_b x1))), .val (.int (own_width (own_b x2))), .val (.int (own_width (own_b x3))), .val (.int (1 : Int32))] [(.ref b39), (.int (own_width (own_b x1))), (.ref b1_11_47)]))
    refine own_s (fun t k => XS.iconst X59.here hx rfl (hb hby at_177) k) ?_
    show Go p.tables e below _ (T59.setTop (mkF m 178 #[.val (.int x0), .val (.int x1), .val (.int x2), .val (.int x3), .val (.int (3 : Int32)), .val (.ref b39), .val (.ref b1_11_47), .val (.int (own_width (own_b x1))), .val (.int (own_width (own_b x2))), .val (.int (own_width (own_b x3))), .val (.int (1 : Int32))] [(.int (1 : Int32)), (.ref b39), (.int (own_width (own_b x1))), (.ref b1_11_47)]))
    obtain ⟨cl60, Ar60, qk60, Sz60, Nn60, Hs60, Gf60⟩ := id V49
    have hin60 : ¬ ((1 : Int32) < 0 ∨ cl60.slots.size ≤ ((1 : Int32)).toNatClampNeg) := inb_of Sz60 ⟨by decide, (by show (1 : Int32) < (3 : Int32); decide)⟩
    have hat60 : cl60.slots[((1 : Int32)).toNatClampNeg]? = some (.int (own_b x2)) := Has.at Hs60 hin60 rfl
    refine own_s (X59.baloadBytes hx (j := (1 : Int32)) (v := (.int (own_b x2))) (by rw [eq59]; exact Ar60.1) (State.isArrayOf_alike hZ47.alike Ar60.2.1) Ar60.2.2 hin60 hat60 (g := (mkF m 178 #[.val (.int x0), .val (.int x1), .val (.int x2), .val (.int x3), .val (.int (3 : Int32)), .val (.ref b39), .val (.ref b1_11_47), .val (.int (own_width (own_b x1))), .val (.int (own_width (own_b x2))), .val (.int (own_width (own_b x3))), .val (.int (1 : Int32))] [(.int (1 : Int32)), (.ref b39), (.int (own_width (own_b x1))), (.ref b1_11_47)])) rfl rfl (hb hby at_178)) ?_
    show Go p.tables e below _ (T59.setTop (mkF m 179 #[.val (.int x0), .val (.int x1), .val (.int x2), .val (.int x3), .val (.int (3 : Int32)), .val (.ref b39), .val (.ref b1_11_47), .val (.int (own_width (own_b x1))), .val (.int (own_width (own_b x2))), .val (.int (own_width (own_b x3))), .val (.int (1 : Int32))] [(.int (own_b x2)), (.int (own_width (own_b x1))), (.ref b1_11_47)]))
    obtain ⟨_, _, ⟨T61, L61, k61, n61⟩, -, X61, ⟨Lc61, hQ61, l61, y61, z61⟩, st61⟩ := Jvm.LawKit.callS X59 hx (y := (⟨"com/example/birep/birep/rrdp/RsyncBaseEncodedPinLaw", "seg", "(Ljava/lang/String;IB)Z"⟩ : MethodName)) hown47 (mvT hZ47 (hw _ (List.mem_of_getElem? (i := 123) rfl))) (mvT hZ47 (hw _ (List.mem_of_getElem? (i := 124) rfl))) (mvT hZ47 (hw _ (List.mem_of_getElem? (i := 118) rfl))) (mvT hZ47 (hw _ (List.mem_of_getElem? (i := 125) rfl))) (by decide) (backOf (W := 0) (rm24 l Z a0 hw [] cz (own_encL [own_b x1, own_b x2, own_b x3]) b2_2_6_1_2_11_47 k2_2_6_1_2_11_47 vF b1_11_47 (own_width (own_b x1)) (own_b x2) T47.heap n0 O52 S_C hcz S_F hvF (own_hb _ (Nat.le_of_ble_eq_true rfl)) fc47_2 fc47_1 fc47_0 fc47_3 (own_S1 (own_E31 (own_b x1) (own_b x2) (own_b x3)) (own_bR x1) (own_bR x2) (own_hb _ (Nat.le_of_ble_eq_true rfl))).1) hZ47 (hw _ (List.mem_of_getElem? (i := 125) rfl)) (hw _ (List.mem_of_getElem? (i := 118) rfl)) (by decide) (by decide)) (g := (mkF m 179 #[.val (.int x0), .val (.int x1), .val (.int x2), .val (.int x3), .val (.int (3 : Int32)), .val (.ref b39), .val (.ref b1_11_47), .val (.int (own_width (own_b x1))), .val (.int (own_width (own_b x2))), .val (.int (own_width (own_b x3))), .val (.int (1 : Int32))] [(.int (own_b x2)), (.int (own_width (own_b x1))), (.ref b1_11_47)])) rfl (by rw [hml]; rfl) (argsL := [(.ref b1_11_47), (.int (own_width (own_b x1))), (.int (own_b x2))]) (rest := []) (lenOf pd__Ljava_lang_String_IB_Z rfl) rfl (by show 2 * 0 + _ ≤ _; exact Nat.le_of_eq rfl) (hb hby at_179) (fun _ _ => ⟨rfl, eq59, (by decide : 11 + 0 ≤ _), (by decide : 1023 + 0 ≤ _)⟩)
    dsimp only [Pt.U, Pt.locs, Pt.cells, Pt.slots] at X61 l61 y61 z61 st61 hQ61
    subst l61 y61 z61
    obtain ⟨rfl, N61q, eq61⟩ := hQ61
    have N61 := Fr.app N59 N61q
    refine own_s st61 ?_
    show Go p.tables e below _ (T61.setTop (mkF m 182 #[.val (.int x0), .val (.int x1), .val (.int x2), .val (.int x3), .val (.int (3 : Int32)), .val (.ref b39), .val (.ref b1_11_47), .val (.int (own_width (own_b x1))), .val (.int (own_width (own_b x2))), .val (.int (own_width (own_b x3))), .val (.int (1 : Int32))] [(.int (own_seg (own_encL [own_b x1, own_b x2, own_b x3]) (own_width (own_b x1)) (own_b x2)))]))
    refine own_s (fun t k => XS.ifNo X61.here hx rfl (hb hby at_182) rfl ((if0 _ _).trans (feq (own_S1 (own_E31 (own_b x1) (own_b x2) (own_b x3)) (own_bR x1) (own_bR x2) (own_hb _ (Nat.le_of_ble_eq_true rfl))).2).1) k) ?_
    show Go p.tables e below _ (T61.setTop (mkF m 185 #[.val (.int x0), .val (.int x1), .val (.int x2), .val (.int x3), .val (.int (3 : Int32)), .val (.ref b39), .val (.ref b1_11_47), .val (.int (own_width (own_b x1))), .val (.int (own_width (own_b x2))), .val (.int (own_width (own_b x3))), .val (.int (1 : Int32))] []))
    refine own_s (fun t k => XS.iconst X61.here hx rfl (hb hby at_185) k) ?_
    show Go p.tables e below _ (T61.setTop (mkF m 186 #[.val (.int x0), .val (.int x1), .val (.int x2), .val (.int x3), .val (.int (3 : Int32)), .val (.ref b39), .val (.ref b1_11_47), .val (.int (own_width (own_b x1))), .val (.int (own_width (own_b x2))), .val (.int (own_width (own_b x3))), .val (.int (1 : Int32))] [(.int (1 : Int32))]))
    refine own_s (fun t k => XS.goto X61.here hx rfl (pc0 := 186) (pc' := 190) rfl (hb hby at_186) (by decide) (by decide) k) ?_
    show Go p.tables e below _ (T61.setTop (mkF m 190 #[.val (.int x0), .val (.int x1), .val (.int x2), .val (.int x3), .val (.int (3 : Int32)), .val (.ref b39), .val (.ref b1_11_47), .val (.int (own_width (own_b x1))), .val (.int (own_width (own_b x2))), .val (.int (own_width (own_b x3))), .val (.int (1 : Int32))] [(.int (1 : Int32))]))
    refine own_s (fun t k => XS.istore X61.here hx rfl (hb hby at_190) rfl (l' := #[.val (.int x0), .val (.int x1), .val (.int x2), .val (.int x3), .val (.int (3 : Int32)), .val (.ref b39), .val (.ref b1_11_47), .val (.int (own_width (own_b x1))), .val (.int (own_width (own_b x2))), .val (.int (own_width (own_b x3))), .val (.int (1 : Int32))]) rfl k) ?_
    show Go p.tables e below _ (T61.setTop (mkF m 192 #[.val (.int x0), .val (.int x1), .val (.int x2), .val (.int x3), .val (.int (3 : Int32)), .val (.ref b39), .val (.ref b1_11_47), .val (.int (own_width (own_b x1))), .val (.int (own_width (own_b x2))), .val (.int (own_width (own_b x3))), .val (.int (1 : Int32))] []))
    refine own_s (fun t k => XS.iload X61.here hx rfl (hb hby at_192) rfl k) ?_
    show Go p.tables e below _ (T61.setTop (mkF m 194 #[.val (.int x0), .val (.int x1), .val (.int x2), .val (.int x3), .val (.int (3 : Int32)), .val (.ref b39), .val (.ref b1_11_47), .val (.int (own_width (own_b x1))), .val (.int (own_width (own_b x2))), .val (.int (own_width (own_b x3))), .val (.int (1 : Int32))] [(.int (3 : Int32))]))
    refine own_s (fun t k => XS.iconst X61.here hx rfl (hb hby at_194) k) ?_
    show Go p.tables e below _ (T61.setTop (mkF m 195 #[.val (.int x0), .val (.int x1), .val (.int x2), .val (.int x3), .val (.int (3 : Int32)), .val (.ref b39), .val (.ref b1_11_47), .val (.int (own_width (own_b x1))), .val (.int (own_width (own_b x2))), .val (.int (own_width (own_b x3))), .val (.int (1 : Int32))] [(.int (2 : Int32)), (.int (3 : Int32))]))
    refine own_s (fun t k => XS.icmpNo X61.here hx rfl (hb hby at_195) rfl (tlt (by decide : (2 : Int32) < (3 : Int32))).2.2.2 k) ?_
    show Go p.tables e below _ (T61.setTop (mkF m 198 #[.val (.int x0), .val (.int x1), .val (.int x2), .val (.int x3), .val (.int (3 : Int32)), .val (.ref b39), .val (.ref b1_11_47), .val (.int (own_width (own_b x1))), .val (.int (own_width (own_b x2))), .val (.int (own_width (own_b x3))), .val (.int (1 : Int32))] []))
    refine own_s (fun t k => XS.iload X61.here hx rfl (hb hby at_198) rfl k) ?_
    show Go p.tables e below _ (T61.setTop (mkF m 200 #[.val (.int x0), .val (.int x1), .val (.int x2), .val (.int x3), .val (.int (3 : Int32)), .val (.ref b39), .val (.ref b1_11_47), .val (.int (own_width (own_b x1))), .val (.int (own_width (own_b x2))), .val (.int (own_width (own_b x3))), .val (.int (1 : Int32))] [(.int (1 : Int32))]))
    refine own_s (fun t k => XS.ifNo X61.here hx rfl (hb hby at_200) rfl ((if0 _ _).trans (feq (by decide : ¬ ((1 : Int32) = (0 : Int32)))).1) k) ?_
    show Go p.tables e below _ (T61.setTop (mkF m 203 #[.val (.int x0), .val (.int x1), .val (.int x2), .val (.int x3), .val (.int (3 : Int32)), .val (.ref b39), .val (.ref b1_11_47), .val (.int (own_width (own_b x1))), .val (.int (own_width (own_b x2))), .val (.int (own_width (own_b x3))), .val (.int (1 : Int32))] []))
    refine own_s (fun t k => XS.aload X61.here hx rfl (hb hby at_203) rfl rfl k) ?_
    show Go p.tables e below _ (T61.setTop (mkF m 205 #[.val (.int x0), .val (.int x1), .val (.int x2), .val (.int x3), .val (.int (3 : Int32)), .val (.ref b39), .val (.ref b1_11_47), .val (.int (own_width (own_b x1))), .val (.int (own_width (own_b x2))), .val (.int (own_width (own_b x3))), .val (.int (1 : Int32))] [(.ref b1_11_47)]))
    refine own_s (fun t k => XS.iload X61.here hx rfl (hb hby at_205) rfl k) ?_
    show Go p.tables e below _ (T61.setTop (mkF m 207 #[.val (.int x0), .val (.int x1), .val (.int x2), .val (.int x3), .val (.int (3 : Int32)), .val (.ref b39), .val (.ref b1_11_47), .val (.int (own_width (own_b x1))), .val (.int (own_width (own_b x2))), .val (.int (own_width (own_b x3))), .val (.int (1 : Int32))] [(.int (own_width (own_b x1))), (.ref b1_11_47)]))
    refine own_s (fun t k => XS.iload X61.here hx rfl (hb hby at_207) rfl k) ?_
    show Go p.tables e below _ (T61.setTop (mkF m 209 #[.val (.int x0), .val (.int x1), .val (.int x2), .val (.int x3), .val (.int (3 : Int32)), .val (.ref b39), .val (.ref b1_11_47), .val (.int (own_width (own_b x1))), .val (.int (own_width (own_b x2))), .val (.int (own_width (own_b x3))), .val (.int (1 : Int32))] [(.int (own_width (own_b x2))), (.int (own_width (own_b x1))), (.ref b1_11_47)]))
    refine own_s (fun t k => XS.iadd X61.here hx rfl (hb hby at_209) rfl k) ?_
    show Go p.tables e below _ (T61.setTop (mkF m 210 #[.val (.int x0), .val (.int x1), .val (.int x2), .val (.int x3), .val (.int (3 : Int32)), .val (.ref b39), .val (.ref b1_11_47), .val (.int (own_width (own_b x1))), .val (.int (own_width (own_b x2))), .val (.int (own_width (own_b x3))), .val (.int (1 : Int32))] [(.int ((own_width (own_b x1)) + (own_width (own_b x2)))), (.ref b1_11_47)]))
    refine own_s (fun t k => XS.aload X61.here hx rfl (hb hby at_210) rfl rfl k) ?_
    show Go p.tables e below _ (T61.setTop (mkF m 212 #[.val (.int x0), .val (.int x1), .val (.int x2), .val (.int x3), .val (.int (3 : Int32)), .val (.ref b39), .val (.ref b1_11_47), .val (.int (own_width (own_b x1))), .val (.int (own_width (own_b x2))), .val (.int (own_width (own_b x3))), .val (.int (1 : Int32))] [(.ref b39), (.int ((own_width (own_b x1)) + (own_width (own_b x2)))), (.ref b1_11_47)]))
    refine own_s (fun t k => XS.iconst X61.here hx rfl (hb hby at_212) k) ?_
    show Go p.tables e below _ (T61.setTop (mkF m 213 #[.val (.int x0), .val (.int x1), .val (.int x2), .val (.int x3), .val (.int (3 : Int32)), .val (.ref b39), .val (.ref b1_11_47), .val (.int (own_width (own_b x1))), .val (.int (own_width (own_b x2))), .val (.int (own_width (own_b x3))), .val (.int (1 : Int32))] [(.int (2 : Int32)), (.ref b39), (.int ((own_width (own_b x1)) + (own_width (own_b x2)))), (.ref b1_11_47)]))
    obtain ⟨cl62, Ar62, qk62, Sz62, Nn62, Hs62, Gf62⟩ := id V49
    have hin62 : ¬ ((2 : Int32) < 0 ∨ cl62.slots.size ≤ ((2 : Int32)).toNatClampNeg) := inb_of Sz62 ⟨by decide, (by show (2 : Int32) < (3 : Int32); decide)⟩
    have hat62 : cl62.slots[((2 : Int32)).toNatClampNeg]? = some (.int (own_b x3)) := Has.at Hs62 hin62 rfl
    refine own_s (X61.baloadBytes hx (j := (2 : Int32)) (v := (.int (own_b x3))) (by rw [eq61]; exact Ar62.1) (State.isArrayOf_alike hZ47.alike Ar62.2.1) Ar62.2.2 hin62 hat62 (g := (mkF m 213 #[.val (.int x0), .val (.int x1), .val (.int x2), .val (.int x3), .val (.int (3 : Int32)), .val (.ref b39), .val (.ref b1_11_47), .val (.int (own_width (own_b x1))), .val (.int (own_width (own_b x2))), .val (.int (own_width (own_b x3))), .val (.int (1 : Int32))] [(.int (2 : Int32)), (.ref b39), (.int ((own_width (own_b x1)) + (own_width (own_b x2)))), (.ref b1_11_47)])) rfl rfl (hb hby at_213)) ?_
    show Go p.tables e below _ (T61.setTop (mkF m 214 #[.val (.int x0), .val (.int x1), .val (.int x2), .val (.int x3), .val (.int (3 : Int32)), .val (.ref b39), .val (.ref b1_11_47), .val (.int (own_width (own_b x1))), .val (.int (own_width (own_b x2))), .val (.int (own_width (own_b x3))), .val (.int (1 : Int32))] [(.int (own_b x3)), (.int ((own_width (own_b x1)) + (own_width (own_b x2)))), (.ref b1_11_47)]))
    obtain ⟨_, _, ⟨T63, L63, k63, n63⟩, -, X63, ⟨Lc63, hQ63, l63, y63, z63⟩, st63⟩ := Jvm.LawKit.callS X61 hx (y := (⟨"com/example/birep/birep/rrdp/RsyncBaseEncodedPinLaw", "seg", "(Ljava/lang/String;IB)Z"⟩ : MethodName)) hown47 (mvT hZ47 (hw _ (List.mem_of_getElem? (i := 123) rfl))) (mvT hZ47 (hw _ (List.mem_of_getElem? (i := 124) rfl))) (mvT hZ47 (hw _ (List.mem_of_getElem? (i := 118) rfl))) (mvT hZ47 (hw _ (List.mem_of_getElem? (i := 125) rfl))) (by decide) (backOf (W := 0) (rm24 l Z a0 hw [] cz (own_encL [own_b x1, own_b x2, own_b x3]) b2_2_6_1_2_11_47 k2_2_6_1_2_11_47 vF b1_11_47 ((own_width (own_b x1)) + (own_width (own_b x2))) (own_b x3) T47.heap n0 O52 S_C hcz S_F hvF (own_hb _ (Nat.le_of_ble_eq_true rfl)) fc47_2 fc47_1 fc47_0 fc47_3 (own_S2 (own_E32 (own_b x1) (own_b x2) (own_b x3)) (own_bR x1) (own_bR x2) (own_bR x3) (own_hb _ (Nat.le_of_ble_eq_true rfl))).1) hZ47 (hw _ (List.mem_of_getElem? (i := 125) rfl)) (hw _ (List.mem_of_getElem? (i := 118) rfl)) (by decide) (by decide)) (g := (mkF m 214 #[.val (.int x0), .val (.int x1), .val (.int x2), .val (.int x3), .val (.int (3 : Int32)), .val (.ref b39), .val (.ref b1_11_47), .val (.int (own_width (own_b x1))), .val (.int (own_width (own_b x2))), .val (.int (own_width (own_b x3))), .val (.int (1 : Int32))] [(.int (own_b x3)), (.int ((own_width (own_b x1)) + (own_width (own_b x2)))), (.ref b1_11_47)])) rfl (by rw [hml]; rfl) (argsL := [(.ref b1_11_47), (.int ((own_width (own_b x1)) + (own_width (own_b x2)))), (.int (own_b x3))]) (rest := []) (lenOf pd__Ljava_lang_String_IB_Z rfl) rfl (by show 2 * 0 + _ ≤ _; exact Nat.le_of_eq rfl) (hb hby at_214) (fun _ _ => ⟨rfl, eq61, (by decide : 11 + 0 ≤ _), (by decide : 1023 + 0 ≤ _)⟩)
    dsimp only [Pt.U, Pt.locs, Pt.cells, Pt.slots] at X63 l63 y63 z63 st63 hQ63
    subst l63 y63 z63
    obtain ⟨rfl, N63q, eq63⟩ := hQ63
    have N63 := Fr.app N61 N63q
    refine own_s st63 ?_
    show Go p.tables e below _ (T63.setTop (mkF m 217 #[.val (.int x0), .val (.int x1), .val (.int x2), .val (.int x3), .val (.int (3 : Int32)), .val (.ref b39), .val (.ref b1_11_47), .val (.int (own_width (own_b x1))), .val (.int (own_width (own_b x2))), .val (.int (own_width (own_b x3))), .val (.int (1 : Int32))] [(.int (own_seg (own_encL [own_b x1, own_b x2, own_b x3]) ((own_width (own_b x1)) + (own_width (own_b x2))) (own_b x3)))]))
    refine own_s (fun t k => XS.ifNo X63.here hx rfl (hb hby at_217) rfl ((if0 _ _).trans (feq (own_S2 (own_E32 (own_b x1) (own_b x2) (own_b x3)) (own_bR x1) (own_bR x2) (own_bR x3) (own_hb _ (Nat.le_of_ble_eq_true rfl))).2).1) k) ?_
    show Go p.tables e below _ (T63.setTop (mkF m 220 #[.val (.int x0), .val (.int x1), .val (.int x2), .val (.int x3), .val (.int (3 : Int32)), .val (.ref b39), .val (.ref b1_11_47), .val (.int (own_width (own_b x1))), .val (.int (own_width (own_b x2))), .val (.int (own_width (own_b x3))), .val (.int (1 : Int32))] []))
    refine own_s (fun t k => XS.iconst X63.here hx rfl (hb hby at_220) k) ?_
    show Go p.tables e below _ (T63.setTop (mkF m 221 #[.val (.int x0), .val (.int x1), .val (.int x2), .val (.int x3), .val (.int (3 : Int32)), .val (.ref b39), .val (.ref b1_11_47), .val (.int (own_width (own_b x1))), .val (.int (own_width (own_b x2))), .val (.int (own_width (own_b x3))), .val (.int (1 : Int32))] [(.int (1 : Int32))]))
    refine own_s (fun t k => XS.goto X63.here hx rfl (pc0 := 221) (pc' := 225) rfl (hb hby at_221) (by decide) (by decide) k) ?_
    show Go p.tables e below _ (T63.setTop (mkF m 225 #[.val (.int x0), .val (.int x1), .val (.int x2), .val (.int x3), .val (.int (3 : Int32)), .val (.ref b39), .val (.ref b1_11_47), .val (.int (own_width (own_b x1))), .val (.int (own_width (own_b x2))), .val (.int (own_width (own_b x3))), .val (.int (1 : Int32))] [(.int (1 : Int32))]))
    refine own_s (fun t k => XS.istore X63.here hx rfl (hb hby at_225) rfl (l' := #[.val (.int x0), .val (.int x1), .val (.int x2), .val (.int x3), .val (.int (3 : Int32)), .val (.ref b39), .val (.ref b1_11_47), .val (.int (own_width (own_b x1))), .val (.int (own_width (own_b x2))), .val (.int (own_width (own_b x3))), .val (.int (1 : Int32))]) rfl k) ?_
    show Go p.tables e below _ (T63.setTop (mkF m 227 #[.val (.int x0), .val (.int x1), .val (.int x2), .val (.int x3), .val (.int (3 : Int32)), .val (.ref b39), .val (.ref b1_11_47), .val (.int (own_width (own_b x1))), .val (.int (own_width (own_b x2))), .val (.int (own_width (own_b x3))), .val (.int (1 : Int32))] []))
    refine own_s (fun t k => XS.iload X63.here hx rfl (hb hby at_227) rfl k) ?_
    show Go p.tables e below _ (T63.setTop (mkF m 229 #[.val (.int x0), .val (.int x1), .val (.int x2), .val (.int x3), .val (.int (3 : Int32)), .val (.ref b39), .val (.ref b1_11_47), .val (.int (own_width (own_b x1))), .val (.int (own_width (own_b x2))), .val (.int (own_width (own_b x3))), .val (.int (1 : Int32))] [(.int (1 : Int32))]))
    obtain ⟨fs, hr, hrun, hended, hEnd⟩ := X63.leaveW hS47 (show _ ≤ T63.heap.size from (by rw [eq63]; exact (Nat.le_refl _))) (v := (some (.int (1 : Int32)))) (fun h => by first | rfl | (rw [Bd.returns] at h; cases h))
    refine own_e hPP ?_ hrun hended ⟨_, _, rfl, ?_, hEnd.1, hEnd.2.1, hEnd.2.2.1, hEnd.2.2.2.mono (by decide) (by decide)⟩
    · exact retN X63 hx (t := .boolean) Bd.returns (by simp) (hb hby at_229) hr
    · show Q_rm0 Z cz uH kH vF x0 x1 x2 x3 h0 n0 _ T63.heap _
      rw [eq63]
      exact ⟨rfl, N63⟩
theorem own_hexk {args : Array Value} {s : State} {C n d : String} {a : Addr} {c : Cell} (A : Arr s s.heap a c .char) (ht : (Term.static C n d).eval args s none [] s = some (.ref a)) (hl : c.slots.size.toInt32 = (16 : Int32)) (hq : c.slots.size < 2 ^ 31)
    (h1 : (Cond.all (.static C n d) (Cond.or (.le (.int 10) (.index 0)) (.eq (.op1 .i2l (.elem (.static C n d) (.index 0))) (.op2 .ladd (.op1 .i2l (.index 0)) (.long 48))))).value args s none s [] = some true)
    (h2 : (Cond.all (.static C n d) (Cond.or (.lt (.index 0) (.int 10)) (.eq (.op1 .i2l (.elem (.static C n d) (.index 0))) (.op2 .ladd (.op1 .i2l (.index 0)) (.long 55))))).value args s none s [] = some true)
    (hF : Fit s) (k : Nat) (hk : k < 16) : c.slots[k]? = some (.int (own_HX.getD k 0)) := by
  have hsz : c.slots.size = 16 := by
    have := congrArg Int32.toInt hl
    rw [len_toInt hq] at this; have e : (16 : Int32).toInt = 16 := rfl; omega
  have hA := A.fin (Vm.Alike.refl _)
  have hkn : (k.toInt32).toNatClampNeg = k := own_tn (by omega)
  have hk0 : ¬ (k.toInt32 < 0) := own_nn (by omega)
  obtain ⟨v, hv, hfit⟩ := elem_fit (j := k.toInt32) hF A (by rw [hkn, hsz]; rintro (q | q); exact hk0 q; omega)
  rw [hkn] at hv
  obtain ⟨x, rfl⟩ : ∃ x, v = .int x := by cases v <;> simp [fits] at hfit ⊢
  have evT : (Term.static C n d).eval args s none [k] s = some (.ref a) := ht
  have evI : (Term.index 0).eval args s none [k] s = some (.int k.toInt32) := rfl
  have evE : (Term.elem (.static C n d) (.index 0)).eval args s none [k] s = some (.int x) := by rw [elem_f evT evI hA hk0, hkn]; exact hv
  have evL : (Term.op1 .i2l (.elem (.static C n d) (.index 0))).eval args s none [k] s = some (.long x.toInt64) := by rw [op1_f evE]; rfl
  have evJ : (Term.op1 .i2l (.index 0)).eval args s none [k] s = some (.long k.toInt32.toInt64) := by rw [op1_f evI]; rfl
  have evA (z : Int64) : (Term.op2 .ladd (.op1 .i2l (.index 0)) (.long z)).eval args s none [k] s = some (.long (k.toInt32.toInt64 + z)) := by rw [op2_f evJ (rfl : (Term.long z).eval args s none [k] s = some (.long z))]; rfl
  have e1 := or_e2 (Cond.le_ints (Term.int_eval 10) evI) (eq_L evL (evA 48)) (Cond.all_elim ht hA h1 k (by omega))
  have e2 := or_e2 (Cond.lt_ints evI (Term.int_eval 10)) (eq_L evL (evA 55)) (Cond.all_elim ht hA h2 k (by omega))
  have hki : k.toInt32.toInt = k := len_toInt (by omega)
  have t10 : (10 : Int32).toInt = 10 := rfl
  have tab : ∀ j : Fin 16, (own_HX.getD j.1 0).toInt = if j.1 < 10 then (j.1 : Int) + 48 else (j.1 : Int) + 55 := by decide
  have tk := tab ⟨k, hk⟩
  have add (z : Int64) (hz : 0 ≤ z.toInt ∧ z.toInt < 100) (q : x.toInt64 = k.toInt32.toInt64 + z) : x.toInt = k + z.toInt := by
    have q' := congrArg Int64.toInt q
    have r := c_ladd (k.toInt32.toInt64) z
    have g := rng64 (k.toInt32.toInt64 + z)
    rw [c_i2l] at q'
    rw [c_i2l, hki] at r
    have gx := rng32 x
    omega
  have hx : x.toInt = (own_HX.getD k 0).toInt := by
    by_cases h10 : k < 10
    · rw [tk, if_pos h10]
      rcases e1 with q | q
      · rw [Int32.le_iff_toInt_le, t10, hki] at q; omega
      · exact add 48 (by decide) q
    · rw [tk, if_neg h10]
      rcases e2 with q | q
      · rw [Int32.lt_iff_toInt_lt, t10, hki] at q; omega
      · exact add 55 (by decide) q
  rw [hv, Int32.toInt_inj.mp hx]
theorem own_hexv {args : Array Value} {s : State} {C n d : String} {a : Addr} {c : Cell} (A : Arr s s.heap a c .char) (ht : (Term.static C n d).eval args s none [] s = some (.ref a)) (hl : c.slots.size.toInt32 = (16 : Int32)) (hq : c.slots.size < 2 ^ 31)
    (h1 : (Cond.all (.static C n d) (Cond.or (.le (.int 10) (.index 0)) (.eq (.op1 .i2l (.elem (.static C n d) (.index 0))) (.op2 .ladd (.op1 .i2l (.index 0)) (.long 48))))).value args s none s [] = some true)
    (h2 : (Cond.all (.static C n d) (Cond.or (.lt (.index 0) (.int 10)) (.eq (.op1 .i2l (.elem (.static C n d) (.index 0))) (.op2 .ladd (.op1 .i2l (.index 0)) (.long 55))))).value args s none s [] = some true)
    (hF : Fit s) : Arv s s.heap a c.cls .char (16 : Int32) (own_vs own_HX) (.int (0 : Int32)) := by
  have K := own_hexk A ht hl hq h1 h2 hF
  exact Arv.start hF A hq hl (by decide) rfl ⟨K 0 (by decide), K 1 (by decide), K 2 (by decide), K 3 (by decide), K 4 (by decide), K 5 (by decide), K 6 (by decide), K 7 (by decide), K 8 (by decide), K 9 (by decide), K 10 (by decide), K 11 (by decide), K 12 (by decide), K 13 (by decide), K 14 (by decide), K 15 (by decide), trivial⟩
set_option maxRecDepth 65536 in
set_option maxHeartbeats 40000000 in
theorem comes_1 {Post : Tables → Env → Array Value → State → Outcome → State → Prop} (hpost : ∀ tb e args s v u, (limb_1_1.after args s (.returned v) u = true ∧ limb_1_2.after args s (.returned v) u = true ∧ True) → ReturnedEndW s (.returned v) u (Jvm.fieldLocs frame_1_writes args s ++ Jvm.arrayLocs frame_1_arrays args s ++ Jvm.staticLocs frame_1_statics s) 24 1216 → Post tb e args s (.returned v) u) :
    ArmFor flags0 classFile x code maxLocals ret World_1 tables_1 room_1 Calls_1 rest_1 Pre_1 Post := by
  intro l hfl _ _ p e ha hc hk s m args below hf hA hF happ hP
  obtain ⟨hcalls, hrest, hpre⟩ := hP
  obtain ⟨-, -, -, hnamed, -, -, -, hat⟩ := (Spec.applies_iff hf).mp happ
  obtain ⟨hg, hn⟩ := and_e (Cond.before_iff.mp (show (Jvm.Cond.and given_1 narrow_1).before args s = true from hpre))
  obtain ⟨g5, hg⟩ := and_e hg
  obtain ⟨w0, w1, w2, w3, rfl⟩ : ∃ w0 w1 w2 w3 : Value, args = #[w0, w1, w2, w3] := by
    have hs : args.size = 4 := by simpa [Cond.value, given_1] using g5
    obtain ⟨L⟩ := args
    match L, hs with
    | [w0, w1, w2, w3], _ => exact ⟨w0, w1, w2, w3, rfl⟩
  have hw := fun d (hd : d ∈ tables_1) => atoms_spec (ws := Jvm.Cond.code x code maxLocals ret :: tables_1) hat d (List.mem_cons_of_mem _ hd)
  obtain ⟨k0, hg⟩ := and_e hg
  obtain ⟨k1, hg⟩ := and_e hg
  obtain ⟨k2, k3⟩ := and_e hg
  obtain ⟨i0, ei0⟩ := is_v k0
  obtain rfl : w0 = (.int i0) := Option.some.inj ei0
  obtain ⟨i1, ei1⟩ := is_v k1
  obtain rfl : w1 = (.int i1) := Option.some.inj ei1
  obtain ⟨i2, ei2⟩ := is_v k2
  obtain rfl : w2 = (.int i2) := Option.some.inj ei2
  obtain ⟨i3, ei3⟩ := is_v k3
  obtain rfl : w3 = (.int i3) := Option.some.inj ei3
  have hr0 := Cond.before_iff.mp (show rest_1_c.before #[.int i0, .int i1, .int i2, .int i3] s = true from hrest)
  obtain ⟨r1, hr0⟩ := and_e hr0
  obtain ⟨r2, hr0⟩ := and_e hr0
  obtain ⟨r3, hr0⟩ := and_e hr0
  obtain ⟨r4, hr0⟩ := and_e hr0
  obtain ⟨r5, hr0⟩ := and_e hr0
  obtain ⟨r6, hr0⟩ := and_e hr0
  obtain ⟨r7, hr0⟩ := and_e hr0
  obtain ⟨r8, hr0⟩ := and_e hr0
  obtain ⟨r9, -⟩ := and_e hr0
  obtain ⟨n1, hn⟩ := and_e hn
  obtain ⟨n2, hn⟩ := and_e hn
  obtain ⟨n3, n4⟩ := and_e hn
  obtain ⟨cz, eC⟩ := is_v r2
  have hcz : ¬ (cz = (0 : Int32)) := gotF (Cond.eq_ints eC (Term.int_eval 0)) (not_v r3)
  obtain ⟨vF, eF, hvF⟩ := isR_v r9
  obtain ⟨uH, eH⟩ := arr_v n1
  obtain ⟨cH, AH⟩ := Arr.start eH n1
  obtain ⟨q1, q2⟩ := own_len AH eH n2
  have VH := own_hexv AH eH q2 q1 n3 n4 (own_fit hF)
  obtain ⟨n, o, h1, h2, h3, _, L, rfl, ⟨rfl, N⟩, hq⟩ := rm0 l s _ hw tables_1 cz uH cH.cls vF i0 i1 i2 i3 s.heap s.heap.size (Old.start s) (Sta.start eC (Or.inl (Cond.before_iff.mpr r1))) hcz (Sta.start eF (Or.inl (Cond.before_iff.mpr r8))) hvF (Sta.start eH (Or.inr ⟨(hw _ (List.mem_of_getElem? (i := 3) rfl)), (hw _ (List.mem_of_getElem? (i := 115) rfl))⟩)) VH (hcalls.1 _ (List.mem_singleton.mpr rfl)) (Cond.before_iff.mpr r3) p e ha hc hk s m _ below hf ((Spec.applies_iff_loose hf).mp happ).1 ⟨rfl, State.Warmed39.refl s, rfl, IB.start⟩ trivial
  refine ⟨n, _, h1, h2, h3, hpost _ _ _ _ _ _ ⟨Cond.after_iff.mpr rfl, Cond.after_iff.mpr (eq_i res_at (Term.int_eval (1)) rfl), trivial⟩ ⟨hq.1, hq.2.1, hq.2.2.1, (hq.2.2.2.sift fun y hy => Or.inr (N y hy)).mono (by decide) (by decide)⟩⟩
theorem main_1_1 : Claimed_1_1 := comes_1 fun _ _ _ _ _ _ h hF => ⟨h.1, hF⟩
theorem main_1_2 : Claimed_1_2 := comes_1 fun _ _ _ _ _ _ h hF => ⟨h.2.1, hF⟩
end Jvm.Pilot.@@N@@
namespace Jvm.Pilot.@@N@@
open Jvm Jvm.ClassFile Sem Op Lib Jvm.Free Jvm.Stand Jvm.Pilot.@@N@@.Jvm.D
/-! MADE BY PROGRAM (witnessworld.py) out of the Statement's table words and the real class files: 25 classes; the members and pool entries that the words name. The judged class is class 1, her method 1. -/
namespace start1
open Jvm.ClassFile
def u (s : String) : CpInfo := .utf8 (stringToUtf16 s)
/-- a pool by its gaps: so many unusable entries, then the entry; so many at the end -/
def gap : Nat → List CpInfo → List CpInfo
  | 0, r => r
  | n + 1, r => .unusable :: gap n r
def poolList (es : List (Nat × CpInfo)) (last : Nat) : List CpInfo := es.foldr (fun e r => gap e.1 (e.2 :: r)) (gap last [])
def pool (es : List (Nat × CpInfo)) (last : Nat) : Array CpInfo := ⟨poolList es last⟩
def fileOf (pool : Array CpInfo) (this : Nat) (attrs : Array Attribute := #[]) (ms : Array MethodInfo := #[]) (fl : Nat := 33) (sup : Nat := 0) (ifs : Array Nat := #[]) (fds : Array FieldInfo := #[]) : ClassFile where
  minorVersion := 0
  majorVersion := 65
  constantPool := pool
  accessFlags := fl
  thisClass := this
  superClass := sup
  interfaces := ifs
  fields := fds
  methods := ms
  attributes := attrs
def plain (name : String) (sup : Option ClassId) : Class where
  name := name
  kind := .ordinary
  loader := none
  accessFlags := 33
  super := sup
  interfaces := #[]
  cf := none
  fields := #[]
  methods := #[]
  instanceTypes := #[]
  staticTypes := #[]
  resolved := #[]
  callSites := []
  init := .initialized
  statics := none
  mirror := none

def pool0 : Array CpInfo := pool [(5, u "<init>"), (0, u "()V"), (1, .class_ 10), (1, u "java/lang/Object")] 113

def k0c0 : Code := { maxStack := 0, maxLocals := 1, code := object_method_1_code, exceptionTable := #[], attributes := #[] }
def k0m0 : Method := { name := "<init>", desc := "()V", sig := { parameters := [], returnType := none }, accessFlags := 1, code := some k0c0 }
/-- java/lang/Object -/
def k0 : Class := { plain "java/lang/Object" none with
  accessFlags := 33
  interfaces := #[]
  cf := some (fileOf pool0 8 #[] #[{ accessFlags := 1, nameIndex := 5, descriptorIndex := 6, attributes := #[] }] 33 0 #[] #[])
  fields := #[]
  methods := #[k0m0]
  instanceTypes := #[]
  staticTypes := #[]
  resolved := Array.replicate 124 none
  statics := none }

def pool1 : Array CpInfo := pool [(2, .class_ 4), (1, u "java/lang/Object"), (0, u "<init>"), (0, u "()V"), (0, .methodref 8 9), (0, .class_ 10), (0, .nameAndType 11 12), (0, u "com/example/birep/birep/rrdp/RsyncBase"), (0, u "encoded"), (0, u "([B)Ljava/lang/String;"), (0, .methodref 14 15), (0, .class_ 16), (0, .nameAndType 17 18), (0, u "com/example/birep/birep/rrdp/RsyncBaseEncodedPinLaw"), (0, u "width"), (0, u "(B)I"), (0, .methodref 20 21), (0, .class_ 22), (0, .nameAndType 23 24), (0, u "java/lang/String"), (0, u "length"), (0, u "()I"), (0, .methodref 14 26), (0, .nameAndType 27 28), (0, u "seg"), (0, u "(Ljava/lang/String;IB)Z"), (0, .methodref 14 30), (0, .nameAndType 31 32), (0, u "plain"), (0, u "(I)Z"), (0, .methodref 20 34), (0, .nameAndType 35 36), (0, u "charAt"), (0, u "(I)C"), (0, .methodref 14 38), (0, .nameAndType 39 36), (0, u "hex"), (2, u "law"), (0, u "(IIII)Z")] 5

def k1m0 : Method := { name := "<init>", desc := "()V", sig := { parameters := [], returnType := none }, accessFlags := 1, code := none }
def k1c1 : Code := { maxStack := 4, maxLocals := 11, code := code, exceptionTable := #[], attributes := #[] }
def k1m1 : Method := { name := "law", desc := "(IIII)Z", sig := { parameters := [.int, .int, .int, .int], returnType := some .boolean }, accessFlags := 9, code := some k1c1 }
def k1c2 : Code := { maxStack := 2, maxLocals := 1, code := method_3_code, exceptionTable := #[], attributes := #[] }
def k1m2 : Method := { name := "plain", desc := "(I)Z", sig := { parameters := [.int], returnType := some .boolean }, accessFlags := 10, code := some k1c2 }
def k1c3 : Code := { maxStack := 1, maxLocals := 1, code := method_4_code, exceptionTable := #[], attributes := #[] }
def k1m3 : Method := { name := "width", desc := "(B)I", sig := { parameters := [.byte], returnType := some .int }, accessFlags := 10, code := some k1c3 }
def k1c4 : Code := { maxStack := 3, maxLocals := 1, code := method_5_code, exceptionTable := #[], attributes := #[] }
def k1m4 : Method := { name := "hex", desc := "(I)C", sig := { parameters := [.int], returnType := some .char }, accessFlags := 10, code := some k1c4 }
def k1c5 : Code := { maxStack := 3, maxLocals := 4, code := method_6_code, exceptionTable := #[], attributes := #[] }
def k1m5 : Method := { name := "seg", desc := "(Ljava/lang/String;IB)Z", sig := { parameters := [(.object "java/lang/String"), .int, .byte], returnType := some .boolean }, accessFlags := 10, code := some k1c5 }
/-- com/example/birep/birep/rrdp/RsyncBaseEncodedPinLaw -/
def k1 : Class := { plain "com/example/birep/birep/rrdp/RsyncBaseEncodedPinLaw" (some 0) with
  accessFlags := 49
  interfaces := #[]
  cf := some (fileOf pool1 14 #[] #[{ accessFlags := 1, nameIndex := 5, descriptorIndex := 6, attributes := #[] }, { accessFlags := 9, nameIndex := 42, descriptorIndex := 43, attributes := #[] }, { accessFlags := 10, nameIndex := 31, descriptorIndex := 32, attributes := #[] }, { accessFlags := 10, nameIndex := 17, descriptorIndex := 18, attributes := #[] }, { accessFlags := 10, nameIndex := 39, descriptorIndex := 36, attributes := #[] }, { accessFlags := 10, nameIndex := 27, descriptorIndex := 28, attributes := #[] }] 49 2 #[] #[])
  fields := #[]
  methods := #[k1m0, k1m1, k1m2, k1m3, k1m4, k1m5]
  instanceTypes := #[]
  staticTypes := #[]
  resolved := Array.replicate 49 none
  statics := none }

def pool2 : Array CpInfo := pool [(2, .class_ 4), (0, .nameAndType 5 6), (0, u "java/lang/Object"), (0, u "<init>"), (0, u "()V"), (1, .class_ 10), (1, u "java/lang/String"), (29, u "()Ljava/lang/String;"), (33, .class_ 76), (1, u "com/example/birep/birep/rrdp/RsyncBase"), (0, u "uri"), (0, u "Ljava/lang/String;"), (2, u "encoded"), (0, u "([B)Ljava/lang/String;"), (1, .class_ 85), (0, u "java/lang/StringBuilder"), (0, .methodref 84 3), (0, .string 88), (0, u "abcdefghijklmnopqrstuvwxyzABCDEFGHIJKLMNOPQRSTUVWXYZ0123456789-._~!$&'()*+,;=:@"), (0, .methodref 8 90), (0, .nameAndType 91 92), (0, u "indexOf"), (0, u "(I)I"), (0, .methodref 84 94), (0, .nameAndType 95 96), (0, u "append"), (0, u "(C)Ljava/lang/StringBuilder;"), (0, .fieldref 74 98), (0, .nameAndType 99 100), (0, u "HEX"), (0, u "[C"), (0, .methodref 84 102), (0, .nameAndType 103 40), (0, u "toString"), (21, u "HOST"), (0, u "Ljava/util/regex/Pattern;"), (115, u "PLAIN"), (1, u "SCHEME")] 61

def k2c0 : Code := { maxStack := 4, maxLocals := 6, code := prog_56_method_3_code, exceptionTable := #[], attributes := #[] }
def k2m0 : Method := { name := "encoded", desc := "([B)Ljava/lang/String;", sig := { parameters := [(.array .byte)], returnType := some (.object "java/lang/String") }, accessFlags := 8, code := some k2c0 }
/-- com/example/birep/birep/rrdp/RsyncBase -/
def k2 : Class := { plain "com/example/birep/birep/rrdp/RsyncBase" (some 0) with
  accessFlags := 33
  interfaces := #[]
  cf := some (fileOf pool2 74 #[] #[{ accessFlags := 8, nameIndex := 81, descriptorIndex := 82, attributes := #[] }] 33 2 #[] #[{ accessFlags := 26, nameIndex := 242, descriptorIndex := 78, attributes := #[] }, { accessFlags := 26, nameIndex := 99, descriptorIndex := 100, attributes := #[] }, { accessFlags := 26, nameIndex := 244, descriptorIndex := 78, attributes := #[] }, { accessFlags := 26, nameIndex := 125, descriptorIndex := 126, attributes := #[] }, { accessFlags := 18, nameIndex := 77, descriptorIndex := 78, attributes := #[] }])
  fields := #[{ name := "PLAIN", type := (.object "java/lang/String"), accessFlags := 26, slot := 0, constantValue := 0 }, { name := "HEX", type := (.array .char), accessFlags := 26, slot := 1, constantValue := 0 }, { name := "SCHEME", type := (.object "java/lang/String"), accessFlags := 26, slot := 2, constantValue := 0 }, { name := "HOST", type := (.object "java/util/regex/Pattern"), accessFlags := 26, slot := 3, constantValue := 0 }, { name := "uri", type := (.object "java/lang/String"), accessFlags := 18, slot := 0, constantValue := 0 }]
  methods := #[k2m0]
  instanceTypes := #[(.object "java/lang/String")]
  staticTypes := #[(.object "java/lang/String"), (.array .char), (.object "java/lang/String"), (.object "java/util/regex/Pattern")]
  resolved := Array.replicate 306 none
  statics := some 0 }

def pool3 : Array CpInfo := pool [(1, .class_ 2), (0, u "java/lang/Appendable"), (0, .class_ 4), (0, u "java/lang/Object")] 9

/-- java/lang/Appendable -/
def k3 : Class := { plain "java/lang/Appendable" (some 0) with
  accessFlags := 1537
  interfaces := #[]
  cf := some (fileOf pool3 1 #[] #[] 1537 3 #[] #[])
  fields := #[]
  methods := #[]
  instanceTypes := #[]
  staticTypes := #[]
  resolved := Array.replicate 14 none
  statics := none }

def pool4 : Array CpInfo := pool [(2, .class_ 4), (1, u "java/lang/CharSequence"), (42, .class_ 48), (0, u "java/lang/CharSequence$1CodePointIterator"), (10, .class_ 60), (0, u "java/lang/CharSequence$1CharIterator"), (5, .class_ 67), (0, u "java/lang/Object")] 63

/-- java/lang/CharSequence -/
def k4 : Class := { plain "java/lang/CharSequence" (some 0) with
  accessFlags := 1537
  interfaces := #[]
  cf := some (fileOf pool4 2 #[.nestMembers #[47, 59]] #[] 1537 66 #[] #[])
  fields := #[]
  methods := #[]
  instanceTypes := #[]
  staticTypes := #[]
  resolved := Array.replicate 131 none
  statics := none }

def pool5 : Array CpInfo := pool [(1, .class_ 2), (0, u "java/lang/String"), (0, .methodref 4 5), (0, .class_ 6), (0, .nameAndType 7 8), (0, u "java/lang/Object"), (0, u "<init>"), (0, u "()V"), (1, .class_ 12), (1, u "java/lang/AbstractStringBuilder"), (0, u "EMPTYVALUE"), (0, u "[B"), (0, .fieldref 10 16), (0, .nameAndType 17 14), (0, u "value"), (0, .fieldref 1 19), (0, .nameAndType 20 21), (0, u "COMPACT_STRINGS"), (0, u "Z"), (0, .fieldref 10 23), (0, .nameAndType 24 25), (0, u "coder"), (0, u "B"), (8, u "length"), (0, u "()I"), (9, u "append"), (2, .class_ 49), (0, u "java/lang/CharSequence"), (25, u "maybeLatin1"), (3, .fieldref 10 80), (0, .nameAndType 81 82), (0, u "count"), (0, u "I"), (0, .methodref 10 84), (0, .nameAndType 85 86), (0, u "isLatin1"), (0, u "()Z"), (1, .class_ 90), (1, u "java/lang/StringLatin1"), (9, .methodref 10 101), (0, .nameAndType 102 103), (0, u "ensureCapacityInternal"), (0, u "(I)V"), (87, .methodref 88 192), (0, .nameAndType 193 194), (0, u "canEncode"), (0, u "(C)Z"), (97, u "(C)Ljava/lang/AbstractStringBuilder;"), (110, u "()[B"), (40, .class_ 445), (0, u "java/lang/Appendable"), (106, u "getValue")] 56

def k5m0 : Method := { name := "<init>", desc := "()V", sig := { parameters := [], returnType := none }, accessFlags := 0, code := none }
def k5c1 : Code := { maxStack := 2, maxLocals := 2, code := jdk_68_method_2_code, exceptionTable := #[], attributes := #[] }
def k5m1 : Method := { name := "<init>", desc := "(I)V", sig := { parameters := [.int], returnType := none }, accessFlags := 0, code := some k5c1 }
def k5c2 : Code := { maxStack := 1, maxLocals := 1, code := jdk_68_method_6_code, exceptionTable := #[], attributes := #[] }
def k5m2 : Method := { name := "length", desc := "()I", sig := { parameters := [], returnType := some .int }, accessFlags := 1, code := some k5c2 }
def k5c3 : Code := { maxStack := 4, maxLocals := 3, code := jdk_68_method_9_code, exceptionTable := #[], attributes := #[] }
def k5m3 : Method := { name := "ensureCapacityInternal", desc := "(I)V", sig := { parameters := [.int], returnType := none }, accessFlags := 2, code := some k5c3 }
def k5c4 : Code := { maxStack := 5, maxLocals := 2, code := jdk_68_method_31_code, exceptionTable := #[], attributes := #[] }
def k5m4 : Method := { name := "append", desc := "(C)Ljava/lang/AbstractStringBuilder;", sig := { parameters := [.char], returnType := some (.object "java/lang/AbstractStringBuilder") }, accessFlags := 1, code := some k5c4 }
def k5c5 : Code := { maxStack := 1, maxLocals := 1, code := jdk_68_method_64_code, exceptionTable := #[], attributes := #[] }
def k5m5 : Method := { name := "getValue", desc := "()[B", sig := { parameters := [], returnType := some (.array .byte) }, accessFlags := 16, code := some k5c5 }
def k5c6 : Code := { maxStack := 1, maxLocals := 1, code := jdk_68_method_68_code, exceptionTable := #[], attributes := #[] }
def k5m6 : Method := { name := "isLatin1", desc := "()Z", sig := { parameters := [], returnType := some .boolean }, accessFlags := 16, code := some k5c6 }
/-- java/lang/AbstractStringBuilder -/
def k5 : Class := { plain "java/lang/AbstractStringBuilder" (some 0) with
  accessFlags := 1056
  interfaces := #[3, 4]
  cf := some (fileOf pool5 10 #[] #[{ accessFlags := 0, nameIndex := 7, descriptorIndex := 8, attributes := #[] }, { accessFlags := 0, nameIndex := 7, descriptorIndex := 103, attributes := #[] }, { accessFlags := 1, nameIndex := 34, descriptorIndex := 35, attributes := #[] }, { accessFlags := 2, nameIndex := 102, descriptorIndex := 103, attributes := #[] }, { accessFlags := 1, nameIndex := 45, descriptorIndex := 292, attributes := #[] }, { accessFlags := 16, nameIndex := 552, descriptorIndex := 403, attributes := #[] }, { accessFlags := 16, nameIndex := 85, descriptorIndex := 86, attributes := #[] }] 1056 4 #[444, 48] #[{ accessFlags := 0, nameIndex := 17, descriptorIndex := 14, attributes := #[] }, { accessFlags := 0, nameIndex := 24, descriptorIndex := 25, attributes := #[] }, { accessFlags := 0, nameIndex := 75, descriptorIndex := 21, attributes := #[] }, { accessFlags := 0, nameIndex := 81, descriptorIndex := 82, attributes := #[] }, { accessFlags := 26, nameIndex := 13, descriptorIndex := 14, attributes := #[] }])
  fields := #[{ name := "value", type := (.array .byte), accessFlags := 0, slot := 0, constantValue := 0 }, { name := "coder", type := .byte, accessFlags := 0, slot := 1, constantValue := 0 }, { name := "maybeLatin1", type := .boolean, accessFlags := 0, slot := 2, constantValue := 0 }, { name := "count", type := .int, accessFlags := 0, slot := 3, constantValue := 0 }, { name := "EMPTYVALUE", type := (.array .byte), accessFlags := 26, slot := 0, constantValue := 0 }]
  methods := #[k5m0, k5m1, k5m2, k5m3, k5m4, k5m5, k5m6]
  instanceTypes := #[(.array .byte), .byte, .boolean, .int]
  staticTypes := #[(.array .byte)]
  resolved := Array.replicate 609 none
  statics := none }

def pool6 : Array CpInfo := pool [(1, .class_ 2), (0, u "java/io/Serializable"), (0, .class_ 4), (0, u "java/lang/Object")] 2

/-- java/io/Serializable -/
def k6 : Class := { plain "java/io/Serializable" (some 0) with
  accessFlags := 1537
  interfaces := #[]
  cf := some (fileOf pool6 1 #[] #[] 1537 3 #[] #[])
  fields := #[]
  methods := #[]
  instanceTypes := #[]
  staticTypes := #[]
  resolved := Array.replicate 7 none
  statics := none }

def pool7 : Array CpInfo := pool [(1, .class_ 2), (0, u "java/lang/Comparable"), (0, .class_ 4), (0, u "java/lang/Object")] 7

/-- java/lang/Comparable -/
def k7 : Class := { plain "java/lang/Comparable" (some 0) with
  accessFlags := 1537
  interfaces := #[]
  cf := some (fileOf pool7 1 #[] #[] 1537 3 #[] #[])
  fields := #[]
  methods := #[]
  instanceTypes := #[]
  staticTypes := #[]
  resolved := Array.replicate 12 none
  statics := none }

def pool8 : Array CpInfo := pool [(1, .methodref 2 3), (0, .class_ 4), (0, .nameAndType 5 6), (0, u "java/lang/AbstractStringBuilder"), (0, u "<init>"), (0, u "(I)V"), (11, .class_ 20), (1, u "java/lang/String"), (3, .class_ 26), (1, u "java/lang/StringBuilder"), (0, u "append"), (22, .methodref 2 51), (0, .nameAndType 27 52), (0, u "(C)Ljava/lang/AbstractStringBuilder;"), (84, .methodref 18 138), (0, .nameAndType 5 139), (0, u "(Ljava/lang/StringBuilder;)V"), (5, u "()V"), (10, u "()I"), (129, u "(C)Ljava/lang/StringBuilder;"), (56, .methodref 2 344), (0, .nameAndType 345 156), (0, u "length"), (3, .class_ 350), (0, u "java/lang/Appendable"), (0, .class_ 352), (0, u "java/io/Serializable"), (0, .class_ 354), (0, u "java/lang/Comparable"), (0, .class_ 356), (0, u "java/lang/CharSequence"), (0, u "serialVersionUID"), (0, u "J"), (40, u "toString"), (0, u "()Ljava/lang/String;")] 21

def k8c0 : Code := { maxStack := 2, maxLocals := 1, code := jdk_67_method_1_code, exceptionTable := #[], attributes := #[] }
def k8m0 : Method := { name := "<init>", desc := "()V", sig := { parameters := [], returnType := none }, accessFlags := 1, code := some k8c0 }
def k8c1 : Code := { maxStack := 2, maxLocals := 2, code := jdk_67_method_14_code, exceptionTable := #[], attributes := #[] }
def k8m1 : Method := { name := "append", desc := "(C)Ljava/lang/StringBuilder;", sig := { parameters := [.char], returnType := some (.object "java/lang/StringBuilder") }, accessFlags := 1, code := some k8c1 }
def k8c2 : Code := { maxStack := 3, maxLocals := 1, code := jdk_67_method_42_code, exceptionTable := #[], attributes := #[] }
def k8m2 : Method := { name := "toString", desc := "()Ljava/lang/String;", sig := { parameters := [], returnType := some (.object "java/lang/String") }, accessFlags := 1, code := some k8c2 }
def k8c3 : Code := { maxStack := 1, maxLocals := 1, code := jdk_67_method_93_code, exceptionTable := #[], attributes := #[] }
def k8m3 : Method := { name := "length", desc := "()I", sig := { parameters := [], returnType := some .int }, accessFlags := 4161, code := some k8c3 }
/-- java/lang/StringBuilder -/
def k8 : Class := { plain "java/lang/StringBuilder" (some 5) with
  accessFlags := 49
  interfaces := #[3, 6, 7, 4]
  cf := some (fileOf pool8 24 #[] #[{ accessFlags := 1, nameIndex := 5, descriptorIndex := 145, attributes := #[] }, { accessFlags := 1, nameIndex := 27, descriptorIndex := 286, attributes := #[] }, { accessFlags := 1, nameIndex := 399, descriptorIndex := 400, attributes := #[] }, { accessFlags := 4161, nameIndex := 345, descriptorIndex := 156, attributes := #[] }] 49 2 #[349, 351, 353, 355] #[{ accessFlags := 24, nameIndex := 357, descriptorIndex := 358, attributes := #[] }])
  fields := #[{ name := "serialVersionUID", type := .long, accessFlags := 24, slot := 0, constantValue := 0 }]
  methods := #[k8m0, k8m1, k8m2, k8m3]
  instanceTypes := #[(.array .byte), .byte, .boolean, .int]
  staticTypes := #[.long]
  resolved := Array.replicate 422 none
  statics := none }

def pool9 : Array CpInfo := pool [(1, .class_ 2), (0, u "java/lang/constant/Constable"), (0, .class_ 4), (0, u "java/lang/Object")] 6

/-- java/lang/constant/Constable -/
def k9 : Class := { plain "java/lang/constant/Constable" (some 0) with
  accessFlags := 1537
  interfaces := #[]
  cf := some (fileOf pool9 1 #[] #[] 1537 3 #[] #[])
  fields := #[]
  methods := #[]
  instanceTypes := #[]
  staticTypes := #[]
  resolved := Array.replicate 11 none
  statics := none }

def pool10 : Array CpInfo := pool [(1, .class_ 2), (0, u "java/lang/constant/ConstantDesc"), (0, .class_ 4), (0, u "java/lang/Object")] 32

/-- java/lang/constant/ConstantDesc -/
def k10 : Class := { plain "java/lang/constant/ConstantDesc" (some 0) with
  accessFlags := 1537
  interfaces := #[]
  cf := some (fileOf pool10 1 #[] #[] 1537 3 #[] #[])
  fields := #[]
  methods := #[]
  instanceTypes := #[]
  staticTypes := #[]
  resolved := Array.replicate 37 none
  statics := none }

def pool11 : Array CpInfo := pool [(1, .methodref 2 3), (0, .class_ 4), (0, .nameAndType 5 6), (0, u "java/lang/Object"), (0, u "<init>"), (0, u "()V"), (2, .fieldref 10 11), (0, .class_ 12), (0, .nameAndType 13 14), (0, u "java/lang/String"), (0, u "value"), (0, u "[B"), (0, .fieldref 10 16), (0, .nameAndType 17 18), (0, u "coder"), (0, u "B"), (2, u "hash"), (0, u "I"), (2, u "hashIsZero"), (0, u "Z"), (11, .fieldref 10 39), (0, .nameAndType 40 26), (0, u "COMPACT_STRINGS"), (13, .methodref 55 56), (0, .class_ 57), (0, .nameAndType 58 59), (0, u "java/util/Arrays"), (0, u "copyOfRange"), (0, u "([BII)[B"), (47, .class_ 109), (1, u "java/lang/StringLatin1"), (32, u "()Z"), (191, u "()I"), (0, .methodref 10 336), (0, .nameAndType 17 337), (0, u "()B"), (2, u "()[B"), (22, u "([BI)C"), (27, u "(II)V"), (35, u "(I)C"), (61, .methodref 10 490), (0, .nameAndType 5 491), (0, u "(Ljava/lang/AbstractStringBuilder;Ljava/lang/Void;)V"), (0, .methodref 10 493), (0, .nameAndType 494 142), (0, u "isLatin1"), (0, .methodref 107 496), (0, .nameAndType 497 363), (0, u "charAt"), (3, u "checkIndex"), (3, .methodref 10 506), (0, .nameAndType 507 334), (0, u "length"), (41, .methodref 550 506), (0, .class_ 551), (0, u "java/lang/AbstractStringBuilder"), (0, .methodref 550 553), (0, .nameAndType 554 340), (0, u "getValue"), (20, .class_ 576), (0, u "java/lang/CharSequence"), (22, u "CASE_INSENSITIVE_ORDER"), (0, u "Ljava/util/Comparator;"), (32, .methodref 10 634), (0, .nameAndType 635 636), (0, u "indexOf"), (0, u "(II)I"), (0, .methodref 107 638), (0, .nameAndType 635 639), (0, u "([BIII)I"), (125, u "(I)I"), (281, .methodref 550 493), (5, .fieldref 1054 1055), (0, .class_ 1056), (0, .nameAndType 1057 1058), (0, u "jdk/internal/util/Preconditions"), (0, u "SIOOBE_FORMATTER"), (0, u "Ljava/util/function/BiFunction;"), (0, .methodref 1054 1060), (0, .nameAndType 501 1061), (0, u "(IILjava/util/function/BiFunction;)I"), (39, u "serialPersistentFields"), (0, u "[Ljava/io/ObjectStreamField;"), (0, .class_ 1104), (0, u "java/lang/String$CaseInsensitiveComparator"), (1, .class_ 1107), (0, u "java/io/Serializable"), (0, .class_ 1109), (0, u "java/lang/Comparable"), (0, .class_ 1111), (0, u "java/lang/constant/Constable"), (0, .class_ 1113), (0, u "java/lang/constant/ConstantDesc"), (2, u "serialVersionUID"), (0, u "J"), (3, u "REPL"), (0, u "C"), (2, u "LATIN1"), (1, u "UTF16"), (105, u "(Ljava/lang/StringBuilder;)V")] 217

def k11m0 : Method := { name := "<init>", desc := "()V", sig := { parameters := [], returnType := none }, accessFlags := 1, code := none }
def k11c1 : Code := { maxStack := 3, maxLocals := 2, code := jdk_42_method_53_code, exceptionTable := #[], attributes := #[] }
def k11m1 : Method := { name := "<init>", desc := "(Ljava/lang/StringBuilder;)V", sig := { parameters := [(.object "java/lang/StringBuilder")], returnType := none }, accessFlags := 1, code := some k11c1 }
def k11c2 : Code := { maxStack := 2, maxLocals := 1, code := jdk_42_method_54_code, exceptionTable := #[], attributes := #[] }
def k11m2 : Method := { name := "length", desc := "()I", sig := { parameters := [], returnType := some .int }, accessFlags := 1, code := some k11c2 }
def k11c3 : Code := { maxStack := 2, maxLocals := 2, code := jdk_42_method_56_code, exceptionTable := #[], attributes := #[] }
def k11m3 : Method := { name := "charAt", desc := "(I)C", sig := { parameters := [.int], returnType := some .char }, accessFlags := 1, code := some k11c3 }
def k11c4 : Code := { maxStack := 3, maxLocals := 2, code := jdk_42_method_79_code, exceptionTable := #[], attributes := #[] }
def k11m4 : Method := { name := "indexOf", desc := "(I)I", sig := { parameters := [.int], returnType := some .int }, accessFlags := 1, code := some k11c4 }
def k11c5 : Code := { maxStack := 4, maxLocals := 3, code := jdk_42_method_80_code, exceptionTable := #[], attributes := #[] }
def k11m5 : Method := { name := "indexOf", desc := "(II)I", sig := { parameters := [.int, .int], returnType := some .int }, accessFlags := 1, code := some k11c5 }
def k11c6 : Code := { maxStack := 5, maxLocals := 5, code := jdk_42_method_150_code, exceptionTable := #[], attributes := #[] }
def k11m6 : Method := { name := "<init>", desc := "(Ljava/lang/AbstractStringBuilder;Ljava/lang/Void;)V", sig := { parameters := [(.object "java/lang/AbstractStringBuilder"), (.object "java/lang/Void")], returnType := none }, accessFlags := 0, code := some k11c6 }
def k11c7 : Code := { maxStack := 1, maxLocals := 1, code := jdk_42_method_152_code, exceptionTable := #[], attributes := #[] }
def k11m7 : Method := { name := "coder", desc := "()B", sig := { parameters := [], returnType := some .byte }, accessFlags := 0, code := some k11c7 }
def k11c8 : Code := { maxStack := 1, maxLocals := 1, code := jdk_42_method_154_code, exceptionTable := #[], attributes := #[] }
def k11m8 : Method := { name := "isLatin1", desc := "()Z", sig := { parameters := [], returnType := some .boolean }, accessFlags := 0, code := some k11c8 }
def k11c9 : Code := { maxStack := 3, maxLocals := 2, code := jdk_42_method_155_code, exceptionTable := #[], attributes := #[] }
def k11m9 : Method := { name := "checkIndex", desc := "(II)V", sig := { parameters := [.int, .int], returnType := none }, accessFlags := 8, code := some k11c9 }
/-- java/lang/String -/
def k11 : Class := { plain "java/lang/String" (some 0) with
  accessFlags := 49
  interfaces := #[6, 7, 4, 9, 10]
  cf := some (fileOf pool11 10 #[.nestMembers #[1103]] #[{ accessFlags := 1, nameIndex := 5, descriptorIndex := 6, attributes := #[] }, { accessFlags := 1, nameIndex := 5, descriptorIndex := 1233, attributes := #[] }, { accessFlags := 1, nameIndex := 507, descriptorIndex := 334, attributes := #[] }, { accessFlags := 1, nameIndex := 497, descriptorIndex := 427, attributes := #[] }, { accessFlags := 1, nameIndex := 635, descriptorIndex := 765, attributes := #[] }, { accessFlags := 1, nameIndex := 635, descriptorIndex := 636, attributes := #[] }, { accessFlags := 0, nameIndex := 5, descriptorIndex := 491, attributes := #[] }, { accessFlags := 0, nameIndex := 17, descriptorIndex := 337, attributes := #[] }, { accessFlags := 0, nameIndex := 494, descriptorIndex := 142, attributes := #[] }, { accessFlags := 8, nameIndex := 501, descriptorIndex := 391, attributes := #[] }] 49 2 #[1106, 1108, 575, 1110, 1112] #[{ accessFlags := 18, nameIndex := 13, descriptorIndex := 14, attributes := #[] }, { accessFlags := 18, nameIndex := 17, descriptorIndex := 18, attributes := #[] }, { accessFlags := 2, nameIndex := 21, descriptorIndex := 22, attributes := #[] }, { accessFlags := 2, nameIndex := 25, descriptorIndex := 26, attributes := #[] }, { accessFlags := 26, nameIndex := 1116, descriptorIndex := 1117, attributes := #[] }, { accessFlags := 24, nameIndex := 40, descriptorIndex := 26, attributes := #[] }, { accessFlags := 26, nameIndex := 1101, descriptorIndex := 1102, attributes := #[] }, { accessFlags := 26, nameIndex := 1121, descriptorIndex := 1122, attributes := #[] }, { accessFlags := 25, nameIndex := 599, descriptorIndex := 600, attributes := #[] }, { accessFlags := 24, nameIndex := 1125, descriptorIndex := 18, attributes := #[] }, { accessFlags := 24, nameIndex := 1127, descriptorIndex := 18, attributes := #[] }])
  fields := #[{ name := "value", type := (.array .byte), accessFlags := 18, slot := 0, constantValue := 0 }, { name := "coder", type := .byte, accessFlags := 18, slot := 1, constantValue := 0 }, { name := "hash", type := .int, accessFlags := 2, slot := 2, constantValue := 0 }, { name := "hashIsZero", type := .boolean, accessFlags := 2, slot := 3, constantValue := 0 }, { name := "serialVersionUID", type := .long, accessFlags := 26, slot := 0, constantValue := 0 }, { name := "COMPACT_STRINGS", type := .boolean, accessFlags := 24, slot := 1, constantValue := 0 }, { name := "serialPersistentFields", type := (.array (.object "java/io/ObjectStreamField")), accessFlags := 26, slot := 2, constantValue := 0 }, { name := "REPL", type := .char, accessFlags := 26, slot := 3, constantValue := 0 }, { name := "CASE_INSENSITIVE_ORDER", type := (.object "java/util/Comparator"), accessFlags := 25, slot := 4, constantValue := 0 }, { name := "LATIN1", type := .byte, accessFlags := 24, slot := 5, constantValue := 0 }, { name := "UTF16", type := .byte, accessFlags := 24, slot := 6, constantValue := 0 }]
  methods := #[k11m0, k11m1, k11m2, k11m3, k11m4, k11m5, k11m6, k11m7, k11m8, k11m9]
  instanceTypes := #[(.array .byte), .byte, .int, .boolean]
  staticTypes := #[.long, .boolean, (.array (.object "java/io/ObjectStreamField")), .char, (.object "java/util/Comparator"), .byte, .byte]
  resolved := Array.replicate 1451 none
  statics := some 1 }

def pool12 : Array CpInfo := pool [(2, .class_ 4), (1, u "java/lang/Object"), (0, u "<init>"), (0, u "()V"), (7, .class_ 16), (1, u "java/util/Arrays"), (57, .class_ 76), (1, u "java/util/Arrays$NaturalOrder"), (36, .class_ 115), (1, u "java/util/Arrays$LegacyMergeSort"), (1, u "Z"), (21, u "copyOfRange"), (10, .methodref 151 152), (0, .class_ 153), (0, .nameAndType 154 155), (0, u "java/lang/System"), (0, u "arraycopy"), (0, u "(Ljava/lang/Object;ILjava/lang/Object;II)V"), (148, .methodref 305 306), (0, .class_ 307), (0, .nameAndType 308 309), (0, u "java/lang/Math"), (0, u "min"), (0, u "(II)I"), (29, .methodref 14 340), (0, .nameAndType 341 342), (0, u "copyOfRangeByte"), (0, u "([BII)[B"), (0, .methodref 14 344), (0, .nameAndType 345 346), (0, u "checkLength"), (0, u "(II)V"), (28, .class_ 376), (0, u "java/util/Arrays$ArrayList"), (68, u "$assertionsDisabled"), (269, u "MIN_ARRAY_SORT_GRAN"), (0, u "I"), (2, u "INSERTIONSORT_THRESHOLD"), (255, .class_ 976), (0, u "java/util/Arrays$ArrayItr")] 52

def k12m0 : Method := { name := "<init>", desc := "()V", sig := { parameters := [], returnType := none }, accessFlags := 2, code := none }
def k12c1 : Code := { maxStack := 4, maxLocals := 2, code := jdk_65_method_131_code, exceptionTable := #[], attributes := #[] }
def k12m1 : Method := { name := "checkLength", desc := "(II)V", sig := { parameters := [.int, .int], returnType := none }, accessFlags := 10, code := some k12c1 }
def k12c2 : Code := { maxStack := 3, maxLocals := 3, code := jdk_65_method_132_code, exceptionTable := #[], attributes := #[] }
def k12m2 : Method := { name := "copyOfRange", desc := "([BII)[B", sig := { parameters := [(.array .byte), .int, .int], returnType := some (.array .byte) }, accessFlags := 9, code := some k12c2 }
def k12c3 : Code := { maxStack := 6, maxLocals := 5, code := jdk_65_method_133_code, exceptionTable := #[], attributes := #[] }
def k12m3 : Method := { name := "copyOfRangeByte", desc := "([BII)[B", sig := { parameters := [(.array .byte), .int, .int], returnType := some (.array .byte) }, accessFlags := 10, code := some k12c3 }
/-- java/util/Arrays -/
def k12 : Class := { plain "java/util/Arrays" (some 0) with
  accessFlags := 49
  interfaces := #[]
  cf := some (fileOf pool12 14 #[.nestMembers #[975, 375, 113, 74]] #[{ accessFlags := 2, nameIndex := 5, descriptorIndex := 6, attributes := #[] }, { accessFlags := 10, nameIndex := 345, descriptorIndex := 346, attributes := #[] }, { accessFlags := 9, nameIndex := 139, descriptorIndex := 342, attributes := #[] }, { accessFlags := 10, nameIndex := 341, descriptorIndex := 342, attributes := #[] }] 49 2 #[] #[{ accessFlags := 26, nameIndex := 715, descriptorIndex := 716, attributes := #[] }, { accessFlags := 26, nameIndex := 719, descriptorIndex := 716, attributes := #[] }, { accessFlags := 4120, nameIndex := 445, descriptorIndex := 117, attributes := #[] }])
  fields := #[{ name := "MIN_ARRAY_SORT_GRAN", type := .int, accessFlags := 26, slot := 0, constantValue := 0 }, { name := "INSERTIONSORT_THRESHOLD", type := .int, accessFlags := 26, slot := 1, constantValue := 0 }, { name := "$assertionsDisabled", type := .boolean, accessFlags := 4120, slot := 2, constantValue := 0 }]
  methods := #[k12m0, k12m1, k12m2, k12m3]
  instanceTypes := #[]
  staticTypes := #[.int, .int, .boolean]
  resolved := Array.replicate 1029 none
  statics := none }

def pool13 : Array CpInfo := pool [(1, .class_ 2), (0, u "java/lang/Math"), (1, .class_ 6), (1, u "java/lang/Object"), (0, u "<init>"), (0, u "()V"), (89, .class_ 100), (1, u "java/lang/Math$RandomNumberGeneratorHolder"), (71, u "negativeZeroFloatBits"), (0, u "J"), (2, u "negativeZeroDoubleBits"), (21, u "max"), (2, u "min"), (43, u "$assertionsDisabled"), (0, u "Z"), (88, u "(II)I"), (2, u "twoToTheDoubleScaleDown"), (0, u "D"), (4, u "twoToTheDoubleScaleUp"), (9, u "E"), (3, u "PI"), (2, u "TAU"), (2, u "DEGREES_TO_RADIANS"), (0, u "RADIANS_TO_DEGREES")] 94

def k13m0 : Method := { name := "<init>", desc := "()V", sig := { parameters := [], returnType := none }, accessFlags := 2, code := none }
def k13c1 : Code := { maxStack := 2, maxLocals := 2, code := jdk_29_method_65_code, exceptionTable := #[], attributes := #[] }
def k13m1 : Method := { name := "max", desc := "(II)I", sig := { parameters := [.int, .int], returnType := some .int }, accessFlags := 9, code := some k13c1 }
def k13c2 : Code := { maxStack := 2, maxLocals := 2, code := jdk_29_method_69_code, exceptionTable := #[], attributes := #[] }
def k13m2 : Method := { name := "min", desc := "(II)I", sig := { parameters := [.int, .int], returnType := some .int }, accessFlags := 9, code := some k13c2 }
/-- java/lang/Math -/
def k13 : Class := { plain "java/lang/Math" (some 0) with
  accessFlags := 49
  interfaces := #[]
  cf := some (fileOf pool13 1 #[.nestMembers #[98]] #[{ accessFlags := 2, nameIndex := 7, descriptorIndex := 8, attributes := #[] }, { accessFlags := 9, nameIndex := 198, descriptorIndex := 335, attributes := #[] }, { accessFlags := 9, nameIndex := 201, descriptorIndex := 335, attributes := #[] }] 49 4 #[] #[{ accessFlags := 25, nameIndex := 354, descriptorIndex := 339, attributes := #[] }, { accessFlags := 25, nameIndex := 358, descriptorIndex := 339, attributes := #[] }, { accessFlags := 25, nameIndex := 361, descriptorIndex := 339, attributes := #[] }, { accessFlags := 26, nameIndex := 364, descriptorIndex := 339, attributes := #[] }, { accessFlags := 26, nameIndex := 365, descriptorIndex := 339, attributes := #[] }, { accessFlags := 26, nameIndex := 172, descriptorIndex := 173, attributes := #[] }, { accessFlags := 26, nameIndex := 176, descriptorIndex := 173, attributes := #[] }, { accessFlags := 8, nameIndex := 344, descriptorIndex := 339, attributes := #[] }, { accessFlags := 8, nameIndex := 338, descriptorIndex := 339, attributes := #[] }, { accessFlags := 4120, nameIndex := 245, descriptorIndex := 246, attributes := #[] }])
  fields := #[{ name := "E", type := .double, accessFlags := 25, slot := 0, constantValue := 0 }, { name := "PI", type := .double, accessFlags := 25, slot := 1, constantValue := 0 }, { name := "TAU", type := .double, accessFlags := 25, slot := 2, constantValue := 0 }, { name := "DEGREES_TO_RADIANS", type := .double, accessFlags := 26, slot := 3, constantValue := 0 }, { name := "RADIANS_TO_DEGREES", type := .double, accessFlags := 26, slot := 4, constantValue := 0 }, { name := "negativeZeroFloatBits", type := .long, accessFlags := 26, slot := 5, constantValue := 0 }, { name := "negativeZeroDoubleBits", type := .long, accessFlags := 26, slot := 6, constantValue := 0 }, { name := "twoToTheDoubleScaleUp", type := .double, accessFlags := 8, slot := 7, constantValue := 0 }, { name := "twoToTheDoubleScaleDown", type := .double, accessFlags := 8, slot := 8, constantValue := 0 }, { name := "$assertionsDisabled", type := .boolean, accessFlags := 4120, slot := 9, constantValue := 0 }]
  methods := #[k13m0, k13m1, k13m2]
  instanceTypes := #[]
  staticTypes := #[.double, .double, .double, .double, .double, .long, .long, .double, .double, .boolean]
  resolved := Array.replicate 460 none
  statics := none }

def pool14 : Array CpInfo := pool [(2, .class_ 4), (1, u "java/lang/Object"), (0, u "<init>"), (0, u "()V"), (1, .class_ 10), (1, u "java/lang/System"), (0, u "allowSecurityManager"), (0, u "I"), (16, u "cons"), (0, u "Ljava/io/Console;"), (77, .class_ 110), (1, u "java/lang/System$CallersHolder"), (43, u "initialErrStream"), (0, u "Ljava/io/PrintStream;"), (19, u "security"), (0, u "Ljava/lang/SecurityManager;"), (31, .class_ 209), (0, u "java/lang/System$1"), (7, u "props"), (0, u "Ljava/util/Properties;"), (2, u "lineSeparator"), (0, u "Ljava/lang/String;"), (96, .class_ 321), (1, u "java/lang/System$LoggerFinder"), (5, .class_ 328), (0, u "java/lang/System$Logger"), (67, u "err"), (2, u "out"), (91, u "notSupportedJnuEncoding"), (15, u "in"), (17, u "initialIn"), (0, u "Ljava/io/InputStream;"), (35, u "bootLayer"), (0, u "Ljava/lang/ModuleLayer;"), (99, .class_ 664), (0, u "java/lang/System$2"), (9, u "NEVER"), (2, u "MAYBE"), (49, u "arraycopy"), (0, u "(Ljava/lang/Object;ILjava/lang/Object;II)V"), (72, .class_ 802), (0, u "java/lang/System$Logger$Level")] 31

def k14m0 : Method := { name := "<init>", desc := "()V", sig := { parameters := [], returnType := none }, accessFlags := 2, code := none }
def k14m1 : Method := { name := "arraycopy", desc := "(Ljava/lang/Object;ILjava/lang/Object;II)V", sig := { parameters := [(.object "java/lang/Object"), .int, (.object "java/lang/Object"), .int, .int], returnType := none }, accessFlags := 265, code := none }
/-- java/lang/System -/
def k14 : Class := { plain "java/lang/System" (some 0) with
  accessFlags := 49
  interfaces := #[]
  cf := some (fileOf pool14 8 #[.nestMembers #[319, 327, 801, 108, 663, 208]] #[{ accessFlags := 2, nameIndex := 5, descriptorIndex := 6, attributes := #[] }, { accessFlags := 265, nameIndex := 727, descriptorIndex := 728, attributes := #[] }] 49 2 #[] #[{ accessFlags := 25, nameIndex := 507, descriptorIndex := 526, attributes := #[] }, { accessFlags := 25, nameIndex := 399, descriptorIndex := 155, attributes := #[] }, { accessFlags := 25, nameIndex := 396, descriptorIndex := 155, attributes := #[] }, { accessFlags := 10, nameIndex := 525, descriptorIndex := 526, attributes := #[] }, { accessFlags := 26, nameIndex := 674, descriptorIndex := 12, attributes := #[] }, { accessFlags := 26, nameIndex := 677, descriptorIndex := 12, attributes := #[] }, { accessFlags := 10, nameIndex := 11, descriptorIndex := 12, attributes := #[] }, { accessFlags := 74, nameIndex := 175, descriptorIndex := 176, attributes := #[] }, { accessFlags := 10, nameIndex := 491, descriptorIndex := 222, attributes := #[] }, { accessFlags := 74, nameIndex := 29, descriptorIndex := 30, attributes := #[] }, { accessFlags := 74, nameIndex := 154, descriptorIndex := 155, attributes := #[] }, { accessFlags := 10, nameIndex := 217, descriptorIndex := 218, attributes := #[] }, { accessFlags := 10, nameIndex := 221, descriptorIndex := 222, attributes := #[] }, { accessFlags := 8, nameIndex := 562, descriptorIndex := 563, attributes := #[] }])
  fields := #[{ name := "in", type := (.object "java/io/InputStream"), accessFlags := 25, slot := 0, constantValue := 0 }, { name := "out", type := (.object "java/io/PrintStream"), accessFlags := 25, slot := 1, constantValue := 0 }, { name := "err", type := (.object "java/io/PrintStream"), accessFlags := 25, slot := 2, constantValue := 0 }, { name := "initialIn", type := (.object "java/io/InputStream"), accessFlags := 10, slot := 3, constantValue := 0 }, { name := "NEVER", type := .int, accessFlags := 26, slot := 4, constantValue := 0 }, { name := "MAYBE", type := .int, accessFlags := 26, slot := 5, constantValue := 0 }, { name := "allowSecurityManager", type := .int, accessFlags := 10, slot := 6, constantValue := 0 }, { name := "security", type := (.object "java/lang/SecurityManager"), accessFlags := 74, slot := 7, constantValue := 0 }, { name := "notSupportedJnuEncoding", type := (.object "java/lang/String"), accessFlags := 10, slot := 8, constantValue := 0 }, { name := "cons", type := (.object "java/io/Console"), accessFlags := 74, slot := 9, constantValue := 0 }, { name := "initialErrStream", type := (.object "java/io/PrintStream"), accessFlags := 74, slot := 10, constantValue := 0 }, { name := "props", type := (.object "java/util/Properties"), accessFlags := 10, slot := 11, constantValue := 0 }, { name := "lineSeparator", type := (.object "java/lang/String"), accessFlags := 10, slot := 12, constantValue := 0 }, { name := "bootLayer", type := (.object "java/lang/ModuleLayer"), accessFlags := 8, slot := 13, constantValue := 0 }]
  methods := #[k14m0, k14m1]
  instanceTypes := #[]
  staticTypes := #[(.object "java/io/InputStream"), (.object "java/io/PrintStream"), (.object "java/io/PrintStream"), (.object "java/io/InputStream"), .int, .int, .int, (.object "java/lang/SecurityManager"), (.object "java/lang/String"), (.object "java/io/Console"), (.object "java/io/PrintStream"), (.object "java/util/Properties"), (.object "java/lang/String"), (.object "java/lang/ModuleLayer")]
  resolved := Array.replicate 834 none
  statics := none }

def pool15 : Array CpInfo := pool [(1, .class_ 2), (0, u "java/lang/String"), (1, .class_ 6), (1, u "java/lang/Object"), (0, u "<init>"), (0, u "()V"), (0, .methodref 1 10), (0, .nameAndType 11 12), (0, u "checkIndex"), (0, u "(II)V"), (1, .class_ 16), (1, u "java/lang/StringLatin1"), (21, .methodref 39 40), (0, .class_ 41), (0, .nameAndType 42 43), (0, u "java/lang/Math"), (0, u "min"), (0, u "(II)I"), (9, u "([BI)C"), (34, .methodref 14 89), (0, .nameAndType 90 91), (0, u "canEncode"), (0, u "(I)Z"), (0, .methodref 39 93), (0, .nameAndType 94 43), (0, u "max"), (0, .methodref 14 96), (0, .nameAndType 97 98), (0, u "indexOfChar"), (0, u "([BIII)I"), (2, u "indexOf"), (3, u "(C)Z"), (15, u "$assertionsDisabled"), (0, u "Z"), (98, .class_ 223), (1, u "java/lang/StringLatin1$LinesSpliterator"), (28, u "charAt"), (137, .class_ 391), (0, u "java/lang/StringLatin1$CharsSpliterator")] 3

def k15m0 : Method := { name := "<init>", desc := "()V", sig := { parameters := [], returnType := none }, accessFlags := 0, code := none }
def k15c1 : Code := { maxStack := 2, maxLocals := 2, code := jdk_43_method_2_code, exceptionTable := #[], attributes := #[] }
def k15m1 : Method := { name := "charAt", desc := "([BI)C", sig := { parameters := [(.array .byte), .int], returnType := some .char }, accessFlags := 9, code := some k15c1 }
def k15c2 : Code := { maxStack := 2, maxLocals := 1, code := jdk_43_method_3_code, exceptionTable := #[], attributes := #[] }
def k15m2 : Method := { name := "canEncode", desc := "(C)Z", sig := { parameters := [.char], returnType := some .boolean }, accessFlags := 9, code := some k15c2 }
def k15c3 : Code := { maxStack := 2, maxLocals := 1, code := jdk_43_method_4_code, exceptionTable := #[], attributes := #[] }
def k15m3 : Method := { name := "canEncode", desc := "(I)Z", sig := { parameters := [.int], returnType := some .boolean }, accessFlags := 9, code := some k15c3 }
def k15c4 : Code := { maxStack := 4, maxLocals := 4, code := jdk_43_method_22_code, exceptionTable := #[], attributes := #[] }
def k15m4 : Method := { name := "indexOf", desc := "([BIII)I", sig := { parameters := [(.array .byte), .int, .int, .int], returnType := some .int }, accessFlags := 9, code := some k15c4 }
def k15c5 : Code := { maxStack := 2, maxLocals := 6, code := jdk_43_method_23_code, exceptionTable := #[], attributes := #[] }
def k15m5 : Method := { name := "indexOfChar", desc := "([BIII)I", sig := { parameters := [(.array .byte), .int, .int, .int], returnType := some .int }, accessFlags := 10, code := some k15c5 }
/-- java/lang/StringLatin1 -/
def k15 : Class := { plain "java/lang/StringLatin1" (some 0) with
  accessFlags := 48
  interfaces := #[]
  cf := some (fileOf pool15 14 #[.nestMembers #[390, 221]] #[{ accessFlags := 0, nameIndex := 7, descriptorIndex := 8, attributes := #[] }, { accessFlags := 9, nameIndex := 252, descriptorIndex := 53, attributes := #[] }, { accessFlags := 9, nameIndex := 90, descriptorIndex := 105, attributes := #[] }, { accessFlags := 9, nameIndex := 90, descriptorIndex := 91, attributes := #[] }, { accessFlags := 9, nameIndex := 101, descriptorIndex := 98, attributes := #[] }, { accessFlags := 10, nameIndex := 97, descriptorIndex := 98, attributes := #[] }] 48 4 #[] #[{ accessFlags := 4120, nameIndex := 121, descriptorIndex := 122, attributes := #[] }])
  fields := #[{ name := "$assertionsDisabled", type := .boolean, accessFlags := 4120, slot := 0, constantValue := 0 }]
  methods := #[k15m0, k15m1, k15m2, k15m3, k15m4, k15m5]
  instanceTypes := #[]
  staticTypes := #[.boolean]
  resolved := Array.replicate 395 none
  statics := none }

def pool16 : Array CpInfo := pool [(2, .class_ 4), (1, u "java/lang/Object"), (0, u "<init>"), (0, u "()V"), (17, .class_ 26), (1, u "jdk/internal/util/Preconditions"), (6, u "checkIndex"), (21, .class_ 56), (0, u "jdk/internal/util/Preconditions$4"), (57, .class_ 115), (0, u "jdk/internal/util/Preconditions$1"), (7, u "SIOOBE_FORMATTER"), (0, u "Ljava/util/function/BiFunction;"), (0, .class_ 126), (0, u "jdk/internal/util/Preconditions$2"), (3, u "AIOOBE_FORMATTER"), (0, .class_ 132), (0, u "jdk/internal/util/Preconditions$3"), (3, u "IOOBE_FORMATTER"), (41, u "(IILjava/util/function/BiFunction;)I")] 15

def k16m0 : Method := { name := "<init>", desc := "()V", sig := { parameters := [], returnType := none }, accessFlags := 1, code := none }
def k16c1 : Code := { maxStack := 3, maxLocals := 3, code := jdk_41_method_11_code, exceptionTable := #[], attributes := #[] }
def k16m1 : Method := { name := "checkIndex", desc := "(IILjava/util/function/BiFunction;)I", sig := { parameters := [.int, .int, (.object "java/util/function/BiFunction")], returnType := some .int }, accessFlags := 9, code := some k16c1 }
/-- jdk/internal/util/Preconditions -/
def k16 : Class := { plain "jdk/internal/util/Preconditions" (some 0) with
  accessFlags := 33
  interfaces := #[]
  cf := some (fileOf pool16 24 #[.nestMembers #[55, 131, 125, 114]] #[{ accessFlags := 1, nameIndex := 5, descriptorIndex := 6, attributes := #[] }, { accessFlags := 9, nameIndex := 33, descriptorIndex := 178, attributes := #[] }] 33 2 #[] #[{ accessFlags := 25, nameIndex := 123, descriptorIndex := 124, attributes := #[] }, { accessFlags := 25, nameIndex := 130, descriptorIndex := 124, attributes := #[] }, { accessFlags := 25, nameIndex := 136, descriptorIndex := 124, attributes := #[] }])
  fields := #[{ name := "SIOOBE_FORMATTER", type := (.object "java/util/function/BiFunction"), accessFlags := 25, slot := 0, constantValue := 0 }, { name := "AIOOBE_FORMATTER", type := (.object "java/util/function/BiFunction"), accessFlags := 25, slot := 1, constantValue := 0 }, { name := "IOOBE_FORMATTER", type := (.object "java/util/function/BiFunction"), accessFlags := 25, slot := 2, constantValue := 0 }]
  methods := #[k16m0, k16m1]
  instanceTypes := #[]
  staticTypes := #[(.object "java/util/function/BiFunction"), (.object "java/util/function/BiFunction"), (.object "java/util/function/BiFunction")]
  resolved := Array.replicate 194 none
  statics := some 2 }

def pool17 : Array CpInfo := pool [(9, u "<init>"), (6, .class_ 18), (1, u "java/lang/Object"), (0, u "()V"), (1, .class_ 23), (1, u "jdk/internal/util/ArraysSupport"), (0, u "LOG2_ARRAY_LONG_INDEX_SCALE"), (0, u "I"), (2, u "U"), (0, u "Ljdk/internal/misc/Unsafe;"), (8, u "BIG_ENDIAN"), (0, u "Z"), (8, u "LOG2_BYTE_BIT_SIZE"), (4, u "LOG2_ARRAY_INT_INDEX_SCALE"), (54, u "JLA"), (0, u "Ljdk/internal/access/JavaLangAccess;"), (11, u "LOG2_ARRAY_BOOLEAN_INDEX_SCALE"), (9, u "LOG2_ARRAY_BYTE_INDEX_SCALE"), (5, u "LOG2_ARRAY_CHAR_INDEX_SCALE"), (5, u "LOG2_ARRAY_SHORT_INDEX_SCALE"), (18, u "LOG2_ARRAY_FLOAT_INDEX_SCALE"), (24, u "LOG2_ARRAY_DOUBLE_INDEX_SCALE"), (89, u "T_BOOLEAN"), (2, u "T_CHAR"), (1, u "T_FLOAT"), (1, u "T_DOUBLE"), (1, u "T_BYTE"), (1, u "T_SHORT"), (1, u "T_INT"), (1, u "T_LONG"), (1, u "SOFT_MAX_ARRAY_LENGTH")] 83

def k17m0 : Method := { name := "<init>", desc := "()V", sig := { parameters := [], returnType := none }, accessFlags := 2, code := none }
/-- jdk/internal/util/ArraysSupport -/
def k17 : Class := { plain "jdk/internal/util/ArraysSupport" (some 0) with
  accessFlags := 33
  interfaces := #[]
  cf := some (fileOf pool17 21 #[] #[{ accessFlags := 2, nameIndex := 9, descriptorIndex := 19, attributes := #[] }] 33 16 #[] #[{ accessFlags := 24, nameIndex := 28, descriptorIndex := 29, attributes := #[] }, { accessFlags := 26, nameIndex := 38, descriptorIndex := 39, attributes := #[] }, { accessFlags := 25, nameIndex := 121, descriptorIndex := 25, attributes := #[] }, { accessFlags := 25, nameIndex := 131, descriptorIndex := 25, attributes := #[] }, { accessFlags := 25, nameIndex := 137, descriptorIndex := 25, attributes := #[] }, { accessFlags := 25, nameIndex := 143, descriptorIndex := 25, attributes := #[] }, { accessFlags := 25, nameIndex := 53, descriptorIndex := 25, attributes := #[] }, { accessFlags := 25, nameIndex := 24, descriptorIndex := 25, attributes := #[] }, { accessFlags := 25, nameIndex := 162, descriptorIndex := 25, attributes := #[] }, { accessFlags := 25, nameIndex := 187, descriptorIndex := 25, attributes := #[] }, { accessFlags := 26, nameIndex := 48, descriptorIndex := 25, attributes := #[] }, { accessFlags := 25, nameIndex := 277, descriptorIndex := 25, attributes := #[] }, { accessFlags := 25, nameIndex := 280, descriptorIndex := 25, attributes := #[] }, { accessFlags := 25, nameIndex := 282, descriptorIndex := 25, attributes := #[] }, { accessFlags := 25, nameIndex := 284, descriptorIndex := 25, attributes := #[] }, { accessFlags := 25, nameIndex := 286, descriptorIndex := 25, attributes := #[] }, { accessFlags := 25, nameIndex := 288, descriptorIndex := 25, attributes := #[] }, { accessFlags := 25, nameIndex := 290, descriptorIndex := 25, attributes := #[] }, { accessFlags := 25, nameIndex := 292, descriptorIndex := 25, attributes := #[] }, { accessFlags := 26, nameIndex := 108, descriptorIndex := 109, attributes := #[] }, { accessFlags := 25, nameIndex := 294, descriptorIndex := 25, attributes := #[] }])
  fields := #[{ name := "U", type := (.object "jdk/internal/misc/Unsafe"), accessFlags := 24, slot := 0, constantValue := 0 }, { name := "BIG_ENDIAN", type := .boolean, accessFlags := 26, slot := 1, constantValue := 0 }, { name := "LOG2_ARRAY_BOOLEAN_INDEX_SCALE", type := .int, accessFlags := 25, slot := 2, constantValue := 0 }, { name := "LOG2_ARRAY_BYTE_INDEX_SCALE", type := .int, accessFlags := 25, slot := 3, constantValue := 0 }, { name := "LOG2_ARRAY_CHAR_INDEX_SCALE", type := .int, accessFlags := 25, slot := 4, constantValue := 0 }, { name := "LOG2_ARRAY_SHORT_INDEX_SCALE", type := .int, accessFlags := 25, slot := 5, constantValue := 0 }, { name := "LOG2_ARRAY_INT_INDEX_SCALE", type := .int, accessFlags := 25, slot := 6, constantValue := 0 }, { name := "LOG2_ARRAY_LONG_INDEX_SCALE", type := .int, accessFlags := 25, slot := 7, constantValue := 0 }, { name := "LOG2_ARRAY_FLOAT_INDEX_SCALE", type := .int, accessFlags := 25, slot := 8, constantValue := 0 }, { name := "LOG2_ARRAY_DOUBLE_INDEX_SCALE", type := .int, accessFlags := 25, slot := 9, constantValue := 0 }, { name := "LOG2_BYTE_BIT_SIZE", type := .int, accessFlags := 26, slot := 10, constantValue := 0 }, { name := "T_BOOLEAN", type := .int, accessFlags := 25, slot := 11, constantValue := 0 }, { name := "T_CHAR", type := .int, accessFlags := 25, slot := 12, constantValue := 0 }, { name := "T_FLOAT", type := .int, accessFlags := 25, slot := 13, constantValue := 0 }, { name := "T_DOUBLE", type := .int, accessFlags := 25, slot := 14, constantValue := 0 }, { name := "T_BYTE", type := .int, accessFlags := 25, slot := 15, constantValue := 0 }, { name := "T_SHORT", type := .int, accessFlags := 25, slot := 16, constantValue := 0 }, { name := "T_INT", type := .int, accessFlags := 25, slot := 17, constantValue := 0 }, { name := "T_LONG", type := .int, accessFlags := 25, slot := 18, constantValue := 0 }, { name := "JLA", type := (.object "jdk/internal/access/JavaLangAccess"), accessFlags := 26, slot := 19, constantValue := 0 }, { name := "SOFT_MAX_ARRAY_LENGTH", type := .int, accessFlags := 25, slot := 20, constantValue := 0 }]
  methods := #[k17m0]
  instanceTypes := #[]
  staticTypes := #[(.object "jdk/internal/misc/Unsafe"), .boolean, .int, .int, .int, .int, .int, .int, .int, .int, .int, .int, .int, .int, .int, .int, .int, .int, .int, (.object "jdk/internal/access/JavaLangAccess"), .int]
  resolved := Array.replicate 378 none
  statics := none }

def pool18 : Array CpInfo := pool [(1, u "java/lang/Cloneable"), (0, .class_ 1), (0, u "java/lang/Object"), (0, .class_ 3)] 3

/-- java/lang/Cloneable -/
def k18 : Class := { plain "java/lang/Cloneable" (some 0) with
  accessFlags := 1537
  interfaces := #[]
  cf := some (fileOf pool18 2 #[] #[] 1537 4 #[] #[])
  fields := #[]
  methods := #[]
  instanceTypes := #[]
  staticTypes := #[]
  resolved := Array.replicate 8 none
  statics := none }

/-- the primitive byte -/
def k19 : Class := { plain "byte" none with kind := .primitive 'B', accessFlags := 0x411 }
/-- [B -/
def k20 : Class := { plain "[B" (some 0) with kind := .array 19 .byte, interfaces := #[18, 6], accessFlags := 1041 }

/-- the primitive char -/
def k21 : Class := { plain "char" none with kind := .primitive 'C', accessFlags := 0x411 }
/-- [C -/
def k22 : Class := { plain "[C" (some 0) with kind := .array 21 .char, interfaces := #[18, 6], accessFlags := 1041 }

/-- the primitive int -/
def k23 : Class := { plain "int" none with kind := .primitive 'I', accessFlags := 0x411 }
/-- [I -/
def k24 : Class := { plain "[I" (some 0) with kind := .array 23 .int, interfaces := #[18, 6], accessFlags := 1041 }

def heap : Heap := #[{ cls := 2, slots := #[.null, .ref 3, .null, .null], vm := .statics 2 },
  { cls := 11, slots := #[.long 0, .int 1, .null, .int 0, .null, .int 0, .int 0], vm := .statics 11 },
  { cls := 16, slots := #[.null, .null, .null], vm := .statics 16 },
  { cls := 22, slots := #[.int 48, .int 49, .int 50, .int 51, .int 52, .int 53, .int 54, .int 55, .int 56, .int 57, .int 65, .int 66, .int 67, .int 68, .int 69, .int 70], vm := .none }]
def classes : Array Class := #[k0, k1, k2, k3, k4, k5, k6, k7, k8, k9, k10, k11, k12, k13, k14, k15, k16, k17, k18, k19, k20, k21, k22, k23, k24]
def interned : List (Array UInt16 × Addr) := []
def slotsUsed : Nat := 30
def theMethod : MethodId := ⟨1, 1⟩
def args0 : Array Value := #[.int 5, .int 65, .int 3, .int 2]
def aboutOver (below : List Frame) : State where
  vm := { classes := classes, interned := interned.toArray }
  heap := heap
  slotsUsed := slotsUsed
  threads := #[{ frames := .invoking theMethod args0 :: below }]
def below0 : List Frame := [.native { method := ⟨0, 0⟩, args := #[] }]
def about1 : State := aboutOver below0
def p0 : Program := .bare "" "" ""
def e0 : Env := launch0.env 0 0 0
theorem w_frames : about1.frames = Frame.invoking theMethod args0 :: below0 := rfl
set_option maxRecDepth 65536 in
theorem w_args : argsFit about1.vm theMethod args0 = true := by decide +kernel
set_option maxRecDepth 65536 in
theorem w_heap : heapFits about1 = true := by decide +kernel
set_option maxRecDepth 65536 in
theorem w_runnable : about1.curStatus? = some .runnable := by decide +kernel
set_option maxRecDepth 65536 in
theorem w_alone : about1.alone = true := by decide +kernel
set_option maxRecDepth 65536 in
theorem w_named : about1.methodNamed? x = some theMethod := by decide +kernel
set_option maxRecDepth 65536 in
theorem w_hears : about1.hears theMethod below0 = true := by decide +kernel
set_option maxRecDepth 65536 in
theorem w_ripe : about1.ripe theMethod args0 below0 = true := by decide +kernel
theorem w_running : about1.status = .running := rfl
set_option maxRecDepth 65536 in
theorem w_room : about1.hasRoom e0.platform room_1 = true :=
  launch0.hasRoom_least _ room_1 (by decide +kernel) (by decide +kernel) (by decide +kernel) (by decide +kernel) (by decide +kernel) (by decide +kernel)
theorem allAtoms_all (ts : List Jvm.Cond) (a : Array Jvm.Value) (st : Jvm.State) : (allAtoms ts).before a st = ts.all (fun c => c.before a st) := by
  induction ts with
  | nil => rfl
  | cons c t ih =>
    show (Jvm.Cond.and c (allAtoms t)).before a st = _
    rw [Jvm.Cond.before_and, ih, List.all_cons]
def words1 : List Jvm.Cond := Jvm.Cond.code x code maxLocals ret :: tables_1
/-- a 'code' word, met by the world's own term for the bytes: nothing is compared byte by byte -/
theorem code_word {y : MethodName} {bytes : ByteArray} {mx : Nat} {rt : Option FieldType} {a : Array Value} {s : State} {m : MethodId} {meth : Method} {c : Code} (h1 : s.methodNamed? y = some m) (h2 : s.vm.method? m = some meth) (h3 : meth.code = some c) (h4 : c.code = bytes)
    (h5 : (c.maxLocals == mx && c.exceptionTable.isEmpty && decide (c.maxStack ≤ mostOperands) && decide (meth.sig.returnType = rt) && !meth.locks && decide (parseMethodDescriptor y.desc = some meth.sig)) = true) : (Jvm.Cond.code y bytes mx rt).before a s = true := by
  simp only [Bool.and_eq_true, beq_iff_eq, Bool.not_eq_true', decide_eq_true_eq] at h5
  obtain ⟨⟨⟨⟨⟨g1, g2⟩, g3⟩, g4⟩, g5⟩, g6⟩ := h5
  simp [Cond.before, Cond.holds, Cond.value, h1, h2, h3, h4, g1, g2, g3, g4, g5, g6]
def isCode : Jvm.Cond → Bool
  | .code _ _ _ _ => true
  | _ => false
theorem all_split {L : List Jvm.Cond} {P : Jvm.Cond → Bool} (h1 : L.all (fun c => isCode c || P c) = true) (h2 : ∀ c ∈ L.filter isCode, P c = true) : L.all P = true := by
  refine List.all_eq_true.mpr fun c hc => ?_
  have h := List.all_eq_true.mp h1 c hc
  rcases Bool.eq_false_or_eq_true (isCode c) with hi | hi
  · exact h2 c (List.mem_filter.mpr ⟨hc, hi⟩)
  · simpa [hi] using h
set_option maxRecDepth 65536 in
theorem w_c0 : (Jvm.Cond.code x code maxLocals ret).before args0 about1 = true := code_word (m := ⟨1, 1⟩) (meth := k1m1) (c := k1c1) (by decide +kernel) rfl rfl rfl (by decide +kernel)
set_option maxRecDepth 65536 in
theorem w_c1 : (Jvm.Cond.code ({ cls := "com/example/birep/birep/rrdp/RsyncBase", name := "encoded", desc := "([B)Ljava/lang/String;" } : Jvm.MethodName) prog_56_method_3_code (6 : Nat) (Option.some (Jvm.ClassFile.FieldType.object "java/lang/String"))).before args0 about1 = true := code_word (m := ⟨2, 0⟩) (meth := k2m0) (c := k2c0) (by decide +kernel) rfl rfl rfl (by decide +kernel)
set_option maxRecDepth 65536 in
theorem w_c2 : (Jvm.Cond.code ({ cls := "java/lang/StringBuilder", name := "<init>", desc := "()V" } : Jvm.MethodName) jdk_67_method_1_code (1 : Nat) (Option.none : Option Jvm.ClassFile.FieldType)).before args0 about1 = true := code_word (m := ⟨8, 0⟩) (meth := k8m0) (c := k8c0) (by decide +kernel) rfl rfl rfl (by decide +kernel)
set_option maxRecDepth 65536 in
theorem w_c3 : (Jvm.Cond.code ({ cls := "java/lang/AbstractStringBuilder", name := "<init>", desc := "(I)V" } : Jvm.MethodName) jdk_68_method_2_code (2 : Nat) (Option.none : Option Jvm.ClassFile.FieldType)).before args0 about1 = true := code_word (m := ⟨5, 1⟩) (meth := k5m1) (c := k5c1) (by decide +kernel) rfl rfl rfl (by decide +kernel)
set_option maxRecDepth 65536 in
theorem w_c4 : (Jvm.Cond.code ({ cls := "java/lang/Object", name := "<init>", desc := "()V" } : Jvm.MethodName) object_method_1_code (1 : Nat) (Option.none : Option Jvm.ClassFile.FieldType)).before args0 about1 = true := code_word (m := ⟨0, 0⟩) (meth := k0m0) (c := k0c0) (by decide +kernel) rfl rfl rfl (by decide +kernel)
set_option maxRecDepth 65536 in
theorem w_c5 : (Jvm.Cond.code ({ cls := "java/lang/StringBuilder", name := "toString", desc := "()Ljava/lang/String;" } : Jvm.MethodName) jdk_67_method_42_code (1 : Nat) (Option.some (Jvm.ClassFile.FieldType.object "java/lang/String"))).before args0 about1 = true := code_word (m := ⟨8, 2⟩) (meth := k8m2) (c := k8c2) (by decide +kernel) rfl rfl rfl (by decide +kernel)
set_option maxRecDepth 65536 in
theorem w_c6 : (Jvm.Cond.code ({ cls := "java/lang/String", name := "<init>", desc := "(Ljava/lang/StringBuilder;)V" } : Jvm.MethodName) jdk_42_method_53_code (2 : Nat) (Option.none : Option Jvm.ClassFile.FieldType)).before args0 about1 = true := code_word (m := ⟨11, 1⟩) (meth := k11m1) (c := k11c1) (by decide +kernel) rfl rfl rfl (by decide +kernel)
set_option maxRecDepth 65536 in
theorem w_c7 : (Jvm.Cond.code ({ cls := "java/lang/String", name := "<init>", desc := "(Ljava/lang/AbstractStringBuilder;Ljava/lang/Void;)V" } : Jvm.MethodName) jdk_42_method_150_code (5 : Nat) (Option.none : Option Jvm.ClassFile.FieldType)).before args0 about1 = true := code_word (m := ⟨11, 6⟩) (meth := k11m6) (c := k11c6) (by decide +kernel) rfl rfl rfl (by decide +kernel)
set_option maxRecDepth 65536 in
theorem w_c8 : (Jvm.Cond.code ({ cls := "java/lang/AbstractStringBuilder", name := "getValue", desc := "()[B" } : Jvm.MethodName) jdk_68_method_64_code (1 : Nat) (Option.some (Jvm.ClassFile.FieldType.array Jvm.ClassFile.FieldType.byte))).before args0 about1 = true := code_word (m := ⟨5, 5⟩) (meth := k5m5) (c := k5c5) (by decide +kernel) rfl rfl rfl (by decide +kernel)
set_option maxRecDepth 65536 in
theorem w_c9 : (Jvm.Cond.code ({ cls := "java/lang/StringBuilder", name := "length", desc := "()I" } : Jvm.MethodName) jdk_67_method_93_code (1 : Nat) (Option.some Jvm.ClassFile.FieldType.int)).before args0 about1 = true := code_word (m := ⟨8, 3⟩) (meth := k8m3) (c := k8c3) (by decide +kernel) rfl rfl rfl (by decide +kernel)
set_option maxRecDepth 65536 in
theorem w_c10 : (Jvm.Cond.code ({ cls := "java/lang/AbstractStringBuilder", name := "length", desc := "()I" } : Jvm.MethodName) jdk_68_method_6_code (1 : Nat) (Option.some Jvm.ClassFile.FieldType.int)).before args0 about1 = true := code_word (m := ⟨5, 2⟩) (meth := k5m2) (c := k5c2) (by decide +kernel) rfl rfl rfl (by decide +kernel)
set_option maxRecDepth 65536 in
theorem w_c11 : (Jvm.Cond.code ({ cls := "java/lang/AbstractStringBuilder", name := "isLatin1", desc := "()Z" } : Jvm.MethodName) jdk_68_method_68_code (1 : Nat) (Option.some Jvm.ClassFile.FieldType.boolean)).before args0 about1 = true := code_word (m := ⟨5, 6⟩) (meth := k5m6) (c := k5c6) (by decide +kernel) rfl rfl rfl (by decide +kernel)
set_option maxRecDepth 65536 in
theorem w_c12 : (Jvm.Cond.code ({ cls := "java/util/Arrays", name := "copyOfRange", desc := "([BII)[B" } : Jvm.MethodName) jdk_65_method_132_code (3 : Nat) (Option.some (Jvm.ClassFile.FieldType.array Jvm.ClassFile.FieldType.byte))).before args0 about1 = true := code_word (m := ⟨12, 2⟩) (meth := k12m2) (c := k12c2) (by decide +kernel) rfl rfl rfl (by decide +kernel)
set_option maxRecDepth 65536 in
theorem w_c13 : (Jvm.Cond.code ({ cls := "java/util/Arrays", name := "copyOfRangeByte", desc := "([BII)[B" } : Jvm.MethodName) jdk_65_method_133_code (5 : Nat) (Option.some (Jvm.ClassFile.FieldType.array Jvm.ClassFile.FieldType.byte))).before args0 about1 = true := code_word (m := ⟨12, 3⟩) (meth := k12m3) (c := k12c3) (by decide +kernel) rfl rfl rfl (by decide +kernel)
set_option maxRecDepth 65536 in
theorem w_c14 : (Jvm.Cond.code ({ cls := "java/util/Arrays", name := "checkLength", desc := "(II)V" } : Jvm.MethodName) jdk_65_method_131_code (2 : Nat) (Option.none : Option Jvm.ClassFile.FieldType)).before args0 about1 = true := code_word (m := ⟨12, 1⟩) (meth := k12m1) (c := k12c1) (by decide +kernel) rfl rfl rfl (by decide +kernel)
set_option maxRecDepth 65536 in
theorem w_c15 : (Jvm.Cond.code ({ cls := "java/lang/Math", name := "min", desc := "(II)I" } : Jvm.MethodName) jdk_29_method_69_code (2 : Nat) (Option.some Jvm.ClassFile.FieldType.int)).before args0 about1 = true := code_word (m := ⟨13, 2⟩) (meth := k13m2) (c := k13c2) (by decide +kernel) rfl rfl rfl (by decide +kernel)
set_option maxRecDepth 65536 in
theorem w_c16 : (Jvm.Cond.code ({ cls := "java/lang/String", name := "length", desc := "()I" } : Jvm.MethodName) jdk_42_method_54_code (1 : Nat) (Option.some Jvm.ClassFile.FieldType.int)).before args0 about1 = true := code_word (m := ⟨11, 2⟩) (meth := k11m2) (c := k11c2) (by decide +kernel) rfl rfl rfl (by decide +kernel)
set_option maxRecDepth 65536 in
theorem w_c17 : (Jvm.Cond.code ({ cls := "java/lang/String", name := "coder", desc := "()B" } : Jvm.MethodName) jdk_42_method_152_code (1 : Nat) (Option.some Jvm.ClassFile.FieldType.byte)).before args0 about1 = true := code_word (m := ⟨11, 7⟩) (meth := k11m7) (c := k11c7) (by decide +kernel) rfl rfl rfl (by decide +kernel)
set_option maxRecDepth 65536 in
theorem w_c18 : (Jvm.Cond.code ({ cls := "java/lang/StringBuilder", name := "append", desc := "(C)Ljava/lang/StringBuilder;" } : Jvm.MethodName) jdk_67_method_14_code (2 : Nat) (Option.some (Jvm.ClassFile.FieldType.object "java/lang/StringBuilder"))).before args0 about1 = true := code_word (m := ⟨8, 1⟩) (meth := k8m1) (c := k8c1) (by decide +kernel) rfl rfl rfl (by decide +kernel)
set_option maxRecDepth 65536 in
theorem w_c19 : (Jvm.Cond.code ({ cls := "java/lang/AbstractStringBuilder", name := "append", desc := "(C)Ljava/lang/AbstractStringBuilder;" } : Jvm.MethodName) jdk_68_method_31_code (2 : Nat) (Option.some (Jvm.ClassFile.FieldType.object "java/lang/AbstractStringBuilder"))).before args0 about1 = true := code_word (m := ⟨5, 4⟩) (meth := k5m4) (c := k5c4) (by decide +kernel) rfl rfl rfl (by decide +kernel)
set_option maxRecDepth 65536 in
theorem w_c20 : (Jvm.Cond.code ({ cls := "java/lang/AbstractStringBuilder", name := "ensureCapacityInternal", desc := "(I)V" } : Jvm.MethodName) jdk_68_method_9_code (3 : Nat) (Option.none : Option Jvm.ClassFile.FieldType)).before args0 about1 = true := code_word (m := ⟨5, 3⟩) (meth := k5m3) (c := k5c3) (by decide +kernel) rfl rfl rfl (by decide +kernel)
set_option maxRecDepth 65536 in
theorem w_c21 : (Jvm.Cond.code ({ cls := "java/lang/StringLatin1", name := "canEncode", desc := "(C)Z" } : Jvm.MethodName) jdk_43_method_3_code (1 : Nat) (Option.some Jvm.ClassFile.FieldType.boolean)).before args0 about1 = true := code_word (m := ⟨15, 2⟩) (meth := k15m2) (c := k15c2) (by decide +kernel) rfl rfl rfl (by decide +kernel)
set_option maxRecDepth 65536 in
theorem w_c22 : (Jvm.Cond.code ({ cls := "com/example/birep/birep/rrdp/RsyncBaseEncodedPinLaw", name := "width", desc := "(B)I" } : Jvm.MethodName) method_4_code (1 : Nat) (Option.some Jvm.ClassFile.FieldType.int)).before args0 about1 = true := code_word (m := ⟨1, 3⟩) (meth := k1m3) (c := k1c3) (by decide +kernel) rfl rfl rfl (by decide +kernel)
set_option maxRecDepth 65536 in
theorem w_c23 : (Jvm.Cond.code ({ cls := "com/example/birep/birep/rrdp/RsyncBaseEncodedPinLaw", name := "plain", desc := "(I)Z" } : Jvm.MethodName) method_3_code (1 : Nat) (Option.some Jvm.ClassFile.FieldType.boolean)).before args0 about1 = true := code_word (m := ⟨1, 2⟩) (meth := k1m2) (c := k1c2) (by decide +kernel) rfl rfl rfl (by decide +kernel)
set_option maxRecDepth 65536 in
theorem w_c24 : (Jvm.Cond.code ({ cls := "com/example/birep/birep/rrdp/RsyncBaseEncodedPinLaw", name := "seg", desc := "(Ljava/lang/String;IB)Z" } : Jvm.MethodName) method_6_code (4 : Nat) (Option.some Jvm.ClassFile.FieldType.boolean)).before args0 about1 = true := code_word (m := ⟨1, 5⟩) (meth := k1m5) (c := k1c5) (by decide +kernel) rfl rfl rfl (by decide +kernel)
set_option maxRecDepth 65536 in
theorem w_c25 : (Jvm.Cond.code ({ cls := "java/lang/String", name := "charAt", desc := "(I)C" } : Jvm.MethodName) jdk_42_method_56_code (2 : Nat) (Option.some Jvm.ClassFile.FieldType.char)).before args0 about1 = true := code_word (m := ⟨11, 3⟩) (meth := k11m3) (c := k11c3) (by decide +kernel) rfl rfl rfl (by decide +kernel)
set_option maxRecDepth 65536 in
theorem w_c26 : (Jvm.Cond.code ({ cls := "java/lang/String", name := "isLatin1", desc := "()Z" } : Jvm.MethodName) jdk_42_method_154_code (1 : Nat) (Option.some Jvm.ClassFile.FieldType.boolean)).before args0 about1 = true := code_word (m := ⟨11, 8⟩) (meth := k11m8) (c := k11c8) (by decide +kernel) rfl rfl rfl (by decide +kernel)
set_option maxRecDepth 65536 in
theorem w_c27 : (Jvm.Cond.code ({ cls := "java/lang/StringLatin1", name := "charAt", desc := "([BI)C" } : Jvm.MethodName) jdk_43_method_2_code (2 : Nat) (Option.some Jvm.ClassFile.FieldType.char)).before args0 about1 = true := code_word (m := ⟨15, 1⟩) (meth := k15m1) (c := k15c1) (by decide +kernel) rfl rfl rfl (by decide +kernel)
set_option maxRecDepth 65536 in
theorem w_c28 : (Jvm.Cond.code ({ cls := "java/lang/String", name := "checkIndex", desc := "(II)V" } : Jvm.MethodName) jdk_42_method_155_code (2 : Nat) (Option.none : Option Jvm.ClassFile.FieldType)).before args0 about1 = true := code_word (m := ⟨11, 9⟩) (meth := k11m9) (c := k11c9) (by decide +kernel) rfl rfl rfl (by decide +kernel)
set_option maxRecDepth 65536 in
theorem w_c29 : (Jvm.Cond.code ({ cls := "jdk/internal/util/Preconditions", name := "checkIndex", desc := "(IILjava/util/function/BiFunction;)I" } : Jvm.MethodName) jdk_41_method_11_code (3 : Nat) (Option.some Jvm.ClassFile.FieldType.int)).before args0 about1 = true := code_word (m := ⟨16, 1⟩) (meth := k16m1) (c := k16c1) (by decide +kernel) rfl rfl rfl (by decide +kernel)
set_option maxRecDepth 65536 in
theorem w_c30 : (Jvm.Cond.code ({ cls := "com/example/birep/birep/rrdp/RsyncBaseEncodedPinLaw", name := "hex", desc := "(I)C" } : Jvm.MethodName) method_5_code (1 : Nat) (Option.some Jvm.ClassFile.FieldType.char)).before args0 about1 = true := code_word (m := ⟨1, 4⟩) (meth := k1m4) (c := k1c4) (by decide +kernel) rfl rfl rfl (by decide +kernel)
set_option maxRecDepth 65536 in
theorem w_c31 : (Jvm.Cond.code ({ cls := "java/lang/String", name := "indexOf", desc := "(I)I" } : Jvm.MethodName) jdk_42_method_79_code (2 : Nat) (Option.some Jvm.ClassFile.FieldType.int)).before args0 about1 = true := code_word (m := ⟨11, 4⟩) (meth := k11m4) (c := k11c4) (by decide +kernel) rfl rfl rfl (by decide +kernel)
set_option maxRecDepth 65536 in
theorem w_c32 : (Jvm.Cond.code ({ cls := "java/lang/String", name := "indexOf", desc := "(II)I" } : Jvm.MethodName) jdk_42_method_80_code (3 : Nat) (Option.some Jvm.ClassFile.FieldType.int)).before args0 about1 = true := code_word (m := ⟨11, 5⟩) (meth := k11m5) (c := k11c5) (by decide +kernel) rfl rfl rfl (by decide +kernel)
set_option maxRecDepth 65536 in
theorem w_c33 : (Jvm.Cond.code ({ cls := "java/lang/StringLatin1", name := "indexOf", desc := "([BIII)I" } : Jvm.MethodName) jdk_43_method_22_code (4 : Nat) (Option.some Jvm.ClassFile.FieldType.int)).before args0 about1 = true := code_word (m := ⟨15, 4⟩) (meth := k15m4) (c := k15c4) (by decide +kernel) rfl rfl rfl (by decide +kernel)
set_option maxRecDepth 65536 in
theorem w_c34 : (Jvm.Cond.code ({ cls := "java/lang/StringLatin1", name := "canEncode", desc := "(I)Z" } : Jvm.MethodName) jdk_43_method_4_code (1 : Nat) (Option.some Jvm.ClassFile.FieldType.boolean)).before args0 about1 = true := code_word (m := ⟨15, 3⟩) (meth := k15m3) (c := k15c3) (by decide +kernel) rfl rfl rfl (by decide +kernel)
set_option maxRecDepth 65536 in
theorem w_c35 : (Jvm.Cond.code ({ cls := "java/lang/Math", name := "max", desc := "(II)I" } : Jvm.MethodName) jdk_29_method_65_code (2 : Nat) (Option.some Jvm.ClassFile.FieldType.int)).before args0 about1 = true := code_word (m := ⟨13, 1⟩) (meth := k13m1) (c := k13c1) (by decide +kernel) rfl rfl rfl (by decide +kernel)
set_option maxRecDepth 65536 in
theorem w_c36 : (Jvm.Cond.code ({ cls := "java/lang/StringLatin1", name := "indexOfChar", desc := "([BIII)I" } : Jvm.MethodName) jdk_43_method_23_code (6 : Nat) (Option.some Jvm.ClassFile.FieldType.int)).before args0 about1 = true := code_word (m := ⟨15, 5⟩) (meth := k15m5) (c := k15c5) (by decide +kernel) rfl rfl rfl (by decide +kernel)
def codes1 : List Jvm.Cond := [Jvm.Cond.code x code maxLocals ret, Jvm.Cond.code ({ cls := "com/example/birep/birep/rrdp/RsyncBase", name := "encoded", desc := "([B)Ljava/lang/String;" } : Jvm.MethodName) prog_56_method_3_code (6 : Nat) (Option.some (Jvm.ClassFile.FieldType.object "java/lang/String")), Jvm.Cond.code ({ cls := "java/lang/StringBuilder", name := "<init>", desc := "()V" } : Jvm.MethodName) jdk_67_method_1_code (1 : Nat) (Option.none : Option Jvm.ClassFile.FieldType), Jvm.Cond.code ({ cls := "java/lang/AbstractStringBuilder", name := "<init>", desc := "(I)V" } : Jvm.MethodName) jdk_68_method_2_code (2 : Nat) (Option.none : Option Jvm.ClassFile.FieldType), Jvm.Cond.code ({ cls := "java/lang/Object", name := "<init>", desc := "()V" } : Jvm.MethodName) object_method_1_code (1 : Nat) (Option.none : Option Jvm.ClassFile.FieldType), Jvm.Cond.code ({ cls := "java/lang/StringBuilder", name := "toString", desc := "()Ljava/lang/String;" } : Jvm.MethodName) jdk_67_method_42_code (1 : Nat) (Option.some (Jvm.ClassFile.FieldType.object "java/lang/String")), Jvm.Cond.code ({ cls := "java/lang/String", name := "<init>", desc := "(Ljava/lang/StringBuilder;)V" } : Jvm.MethodName) jdk_42_method_53_code (2 : Nat) (Option.none : Option Jvm.ClassFile.FieldType), Jvm.Cond.code ({ cls := "java/lang/String", name := "<init>", desc := "(Ljava/lang/AbstractStringBuilder;Ljava/lang/Void;)V" } : Jvm.MethodName) jdk_42_method_150_code (5 : Nat) (Option.none : Option Jvm.ClassFile.FieldType), Jvm.Cond.code ({ cls := "java/lang/AbstractStringBuilder", name := "getValue", desc := "()[B" } : Jvm.MethodName) jdk_68_method_64_code (1 : Nat) (Option.some (Jvm.ClassFile.FieldType.array Jvm.ClassFile.FieldType.byte)), Jvm.Cond.code ({ cls := "java/lang/StringBuilder", name := "length", desc := "()I" } : Jvm.MethodName) jdk_67_method_93_code (1 : Nat) (Option.some Jvm.ClassFile.FieldType.int), Jvm.Cond.code ({ cls := "java/lang/AbstractStringBuilder", name := "length", desc := "()I" } : Jvm.MethodName) jdk_68_method_6_code (1 : Nat) (Option.some Jvm.ClassFile.FieldType.int), Jvm.Cond.code ({ cls := "java/lang/AbstractStringBuilder", name := "isLatin1", desc := "()Z" } : Jvm.MethodName) jdk_68_method_68_code (1 : Nat) (Option.some Jvm.ClassFile.FieldType.boolean), Jvm.Cond.code ({ cls := "java/util/Arrays", name := "copyOfRange", desc := "([BII)[B" } : Jvm.MethodName) jdk_65_method_132_code (3 : Nat) (Option.some (Jvm.ClassFile.FieldType.array Jvm.ClassFile.FieldType.byte)), Jvm.Cond.code ({ cls := "java/util/Arrays", name := "copyOfRangeByte", desc := "([BII)[B" } : Jvm.MethodName) jdk_65_method_133_code (5 : Nat) (Option.some (Jvm.ClassFile.FieldType.array Jvm.ClassFile.FieldType.byte)), Jvm.Cond.code ({ cls := "java/util/Arrays", name := "checkLength", desc := "(II)V" } : Jvm.MethodName) jdk_65_method_131_code (2 : Nat) (Option.none : Option Jvm.ClassFile.FieldType), Jvm.Cond.code ({ cls := "java/lang/Math", name := "min", desc := "(II)I" } : Jvm.MethodName) jdk_29_method_69_code (2 : Nat) (Option.some Jvm.ClassFile.FieldType.int), Jvm.Cond.code ({ cls := "java/lang/String", name := "length", desc := "()I" } : Jvm.MethodName) jdk_42_method_54_code (1 : Nat) (Option.some Jvm.ClassFile.FieldType.int), Jvm.Cond.code ({ cls := "java/lang/String", name := "coder", desc := "()B" } : Jvm.MethodName) jdk_42_method_152_code (1 : Nat) (Option.some Jvm.ClassFile.FieldType.byte), Jvm.Cond.code ({ cls := "java/lang/StringBuilder", name := "append", desc := "(C)Ljava/lang/StringBuilder;" } : Jvm.MethodName) jdk_67_method_14_code (2 : Nat) (Option.some (Jvm.ClassFile.FieldType.object "java/lang/StringBuilder")), Jvm.Cond.code ({ cls := "java/lang/AbstractStringBuilder", name := "append", desc := "(C)Ljava/lang/AbstractStringBuilder;" } : Jvm.MethodName) jdk_68_method_31_code (2 : Nat) (Option.some (Jvm.ClassFile.FieldType.object "java/lang/AbstractStringBuilder")), Jvm.Cond.code ({ cls := "java/lang/AbstractStringBuilder", name := "ensureCapacityInternal", desc := "(I)V" } : Jvm.MethodName) jdk_68_method_9_code (3 : Nat) (Option.none : Option Jvm.ClassFile.FieldType), Jvm.Cond.code ({ cls := "java/lang/StringLatin1", name := "canEncode", desc := "(C)Z" } : Jvm.MethodName) jdk_43_method_3_code (1 : Nat) (Option.some Jvm.ClassFile.FieldType.boolean), Jvm.Cond.code ({ cls := "com/example/birep/birep/rrdp/RsyncBaseEncodedPinLaw", name := "width", desc := "(B)I" } : Jvm.MethodName) method_4_code (1 : Nat) (Option.some Jvm.ClassFile.FieldType.int), Jvm.Cond.code ({ cls := "com/example/birep/birep/rrdp/RsyncBaseEncodedPinLaw", name := "plain", desc := "(I)Z" } : Jvm.MethodName) method_3_code (1 : Nat) (Option.some Jvm.ClassFile.FieldType.boolean), Jvm.Cond.code ({ cls := "com/example/birep/birep/rrdp/RsyncBaseEncodedPinLaw", name := "seg", desc := "(Ljava/lang/String;IB)Z" } : Jvm.MethodName) method_6_code (4 : Nat) (Option.some Jvm.ClassFile.FieldType.boolean), Jvm.Cond.code ({ cls := "java/lang/String", name := "charAt", desc := "(I)C" } : Jvm.MethodName) jdk_42_method_56_code (2 : Nat) (Option.some Jvm.ClassFile.FieldType.char), Jvm.Cond.code ({ cls := "java/lang/String", name := "isLatin1", desc := "()Z" } : Jvm.MethodName) jdk_42_method_154_code (1 : Nat) (Option.some Jvm.ClassFile.FieldType.boolean), Jvm.Cond.code ({ cls := "java/lang/StringLatin1", name := "charAt", desc := "([BI)C" } : Jvm.MethodName) jdk_43_method_2_code (2 : Nat) (Option.some Jvm.ClassFile.FieldType.char), Jvm.Cond.code ({ cls := "java/lang/String", name := "checkIndex", desc := "(II)V" } : Jvm.MethodName) jdk_42_method_155_code (2 : Nat) (Option.none : Option Jvm.ClassFile.FieldType), Jvm.Cond.code ({ cls := "jdk/internal/util/Preconditions", name := "checkIndex", desc := "(IILjava/util/function/BiFunction;)I" } : Jvm.MethodName) jdk_41_method_11_code (3 : Nat) (Option.some Jvm.ClassFile.FieldType.int), Jvm.Cond.code ({ cls := "com/example/birep/birep/rrdp/RsyncBaseEncodedPinLaw", name := "hex", desc := "(I)C" } : Jvm.MethodName) method_5_code (1 : Nat) (Option.some Jvm.ClassFile.FieldType.char), Jvm.Cond.code ({ cls := "java/lang/String", name := "indexOf", desc := "(I)I" } : Jvm.MethodName) jdk_42_method_79_code (2 : Nat) (Option.some Jvm.ClassFile.FieldType.int), Jvm.Cond.code ({ cls := "java/lang/String", name := "indexOf", desc := "(II)I" } : Jvm.MethodName) jdk_42_method_80_code (3 : Nat) (Option.some Jvm.ClassFile.FieldType.int), Jvm.Cond.code ({ cls := "java/lang/StringLatin1", name := "indexOf", desc := "([BIII)I" } : Jvm.MethodName) jdk_43_method_22_code (4 : Nat) (Option.some Jvm.ClassFile.FieldType.int), Jvm.Cond.code ({ cls := "java/lang/StringLatin1", name := "canEncode", desc := "(I)Z" } : Jvm.MethodName) jdk_43_method_4_code (1 : Nat) (Option.some Jvm.ClassFile.FieldType.boolean), Jvm.Cond.code ({ cls := "java/lang/Math", name := "max", desc := "(II)I" } : Jvm.MethodName) jdk_29_method_65_code (2 : Nat) (Option.some Jvm.ClassFile.FieldType.int), Jvm.Cond.code ({ cls := "java/lang/StringLatin1", name := "indexOfChar", desc := "([BIII)I" } : Jvm.MethodName) jdk_43_method_23_code (6 : Nat) (Option.some Jvm.ClassFile.FieldType.int)]
set_option maxRecDepth 65536 in
theorem codes_eq : words1.filter isCode = codes1 := rfl
theorem w_codes : ∀ c ∈ words1.filter isCode, c.before args0 about1 = true := by
  rw [codes_eq]
  intro c hc
  simp only [codes1, List.mem_cons, List.not_mem_nil, or_false] at hc
  rcases hc with rfl | rfl | rfl | rfl | rfl | rfl | rfl | rfl | rfl | rfl | rfl | rfl | rfl | rfl | rfl | rfl | rfl | rfl | rfl | rfl | rfl | rfl | rfl | rfl | rfl | rfl | rfl | rfl | rfl | rfl | rfl | rfl | rfl | rfl | rfl | rfl | rfl
  · exact w_c0
  · exact w_c1
  · exact w_c2
  · exact w_c3
  · exact w_c4
  · exact w_c5
  · exact w_c6
  · exact w_c7
  · exact w_c8
  · exact w_c9
  · exact w_c10
  · exact w_c11
  · exact w_c12
  · exact w_c13
  · exact w_c14
  · exact w_c15
  · exact w_c16
  · exact w_c17
  · exact w_c18
  · exact w_c19
  · exact w_c20
  · exact w_c21
  · exact w_c22
  · exact w_c23
  · exact w_c24
  · exact w_c25
  · exact w_c26
  · exact w_c27
  · exact w_c28
  · exact w_c29
  · exact w_c30
  · exact w_c31
  · exact w_c32
  · exact w_c33
  · exact w_c34
  · exact w_c35
  · exact w_c36
set_option maxRecDepth 65536 in
theorem w_t1 : (words1.take 24).all (fun c => isCode c || c.before args0 about1) = true := by decide +kernel
set_option maxRecDepth 65536 in
theorem w_t2 : ((words1.drop 24).take 24).all (fun c => isCode c || c.before args0 about1) = true := by decide +kernel
set_option maxRecDepth 65536 in
theorem w_t3 : (((words1.drop 24).drop 24).take 24).all (fun c => isCode c || c.before args0 about1) = true := by decide +kernel
set_option maxRecDepth 65536 in
theorem w_t4 : ((((words1.drop 24).drop 24).drop 24).take 24).all (fun c => isCode c || c.before args0 about1) = true := by decide +kernel
set_option maxRecDepth 65536 in
theorem w_t5 : (((((words1.drop 24).drop 24).drop 24).drop 24).take 24).all (fun c => isCode c || c.before args0 about1) = true := by decide +kernel
set_option maxRecDepth 65536 in
theorem w_t6 : ((((((words1.drop 24).drop 24).drop 24).drop 24).drop 24).take 24).all (fun c => isCode c || c.before args0 about1) = true := by decide +kernel
set_option maxRecDepth 65536 in
theorem w_t7 : (((((((words1.drop 24).drop 24).drop 24).drop 24).drop 24).drop 24).take 24).all (fun c => isCode c || c.before args0 about1) = true := by decide +kernel
set_option maxRecDepth 65536 in
theorem w_t8 : (((((((words1.drop 24).drop 24).drop 24).drop 24).drop 24).drop 24).drop 24).all (fun c => isCode c || c.before args0 about1) = true := by decide +kernel
theorem w_tables : (allAtoms (Jvm.Cond.code x code maxLocals ret :: tables_1)).before args0 about1 = true := by
  rw [allAtoms_all]
  show words1.all (fun c => c.before args0 about1) = true
  refine all_split ?_ w_codes
  rw [← List.take_append_drop 24 words1, List.all_append, w_t1, ← List.take_append_drop 24 (words1.drop 24), List.all_append, w_t2, ← List.take_append_drop 24 ((words1.drop 24).drop 24), List.all_append, w_t3, ← List.take_append_drop 24 (((words1.drop 24).drop 24).drop 24), List.all_append, w_t4, ← List.take_append_drop 24 ((((words1.drop 24).drop 24).drop 24).drop 24), List.all_append, w_t5, ← List.take_append_drop 24 (((((words1.drop 24).drop 24).drop 24).drop 24).drop 24), List.all_append, w_t6, ← List.take_append_drop 24 ((((((words1.drop 24).drop 24).drop 24).drop 24).drop 24).drop 24), List.all_append, w_t7, w_t8]
  rfl
set_option maxRecDepth 65536 in
theorem w_rest : rest_1_c.before args0 about1 = true := by decide +kernel
set_option maxRecDepth 65536 in
theorem w_case : (Jvm.Cond.and given_1 narrow_1).before args0 about1 = true := by decide +kernel
set_option maxRecDepth 65536 in
theorem w_consts : constsHeld consts_1 about1 := Jvm.Lit.constsHeldB_iff.mp (by decide +kernel)
theorem w_applies : (headSpec (Jvm.Cond.code x code maxLocals ret :: tables_1) room_1).applies x e0.platform about1 = true :=
  (Spec.applies_iff w_frames).mpr ⟨w_running, w_runnable, w_alone, w_named, w_hears, w_ripe, w_room, w_tables⟩
theorem atStart : AtStart classFile x code maxLocals ret World_1 tables_1 room_1 Calls_1 rest_1 Pre_1 launch0 p0 e0 about1 theMethod args0 below0 :=
  ⟨lists_1, trivial, launch0.admits_env _ _ _, launch0.least_env, fairChoices_fair.cas, fairChoices_fair.clock, w_frames, w_args, w_heap, w_applies, ⟨w_consts, trivial⟩, w_rest, w_case⟩
end start1
theorem witness_1 : WitnessClaimed_1 := ⟨start1.p0, start1.e0, start1.about1, start1.theMethod, start1.args0, start1.below0, start1.atStart⟩
end Jvm.Pilot.@@N@@
