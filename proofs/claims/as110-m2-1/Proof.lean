import JvmDerived
import JvmDerived.Pilot.@@N@@Statement
import JvmDerived.Pilot.@@N@@Code
set_option linter.unusedVariables false
set_option linter.unusedSimpArgs false
namespace Jvm.RoadKit
open Sem ClassFile Op Lib Jvm.Stand Jvm.Free Jvm.LawKit
section New
variable {p : Program} {l : Launch} {e : Env} {R : Room} {s : State} {m : MethodId} {args : Array Value} {below : List Frame} {meth : Method} {c : Code} {T : State} {locs : List Loc} {cells slots : Nat}
theorem retI (X : Stand p l e R s m args below meth c T locs cells slots) (hx : p.tables.exec = Jvm.exec) {pc : Nat} {Ls : Array Slot} {z : Int32} {rest : List Value} (hret : meth.sig.returnType = some .int) (hd : decode c.code pc = .ok (.ireturn, 1)) {fs : List Frame}
    (hl : ∀ (f : JFrame) (acts : List Action), f.method = m → f.locked = none → f.entered = [] → (doReturn e (T.setTop f) acts (some (.int z))).1 = T.setFrames fs) : Steps p.tables e below (T.setTop (mkF m pc Ls (.int z :: rest))) (T.setFrames fs) := by
  have hm' : T.vm.method? m = some meth := X.method'
  have hn : narrow .int (.int z) = .int z := rfl
  show Steps p.tables e below (T.setTop { method := m, pc := pc, locals := Ls, stack := _ :: rest, locked := none }) _
  jvm_step X.here [X.here.top, hx, hd, hm', hret, hn]
  first | (intro acts; rw [hl _ acts rfl rfl rfl]) | rw [hl _ _ rfl rfl rfl]
  exact Steps.refl _
end New
end Jvm.RoadKit
namespace Jvm.Pilot.@@N@@
open Jvm Jvm.ClassFile Sem Op Lib Jvm.Free Jvm.Stand Jvm.LawKit Jvm.RoadKit Bundle Jvm.Pilot.@@N@@.Jvm.D
theorem own_fi {s : State} {args : Array Value} {t : Term} {C n d : String} {k : Int32} {x : Addr} (ht : t.eval args s none [] s = some (.ref x)) (h : (Jvm.Cond.eq (.field t C n d) (.int k)).value args s none s [] = some true) : s.fieldOf? x C n d = some (.int k) := by
  obtain ⟨u, v, e1, e2, k1, k2⟩ := cmp_v (Or.inl h)
  have e3 : (Term.int k).eval args s none [] s = some (.int k) := Term.int_eval k
  obtain rfl : v = .int k := Option.some.inj (e2.symm.trans e3)
  obtain ⟨z, rfl⟩ := k2
  have e4 : some true = some (decide (z = k)) := h.symm.trans (by simp [Cond.value, e1, e3])
  have e5 : z = k := of_decide_eq_true (Option.some.inj e4).symm
  subst e5
  exact (fld_at ht).symm.trans e1
theorem own_fr {s : State} {args : Array Value} {t t2 : Term} {C n d : String} {x y : Addr} (ht : t.eval args s none [] s = some (.ref x)) (ht2 : t2.eval args s none [] s = some (.ref y)) (h : (Jvm.Cond.eq (.field t C n d) t2).value args s none s [] = some true) : s.fieldOf? x C n d = some (.ref y) := by
  obtain ⟨u, v, e1, e2, k1, k2⟩ := cmp_v (Or.inl h)
  obtain rfl : v = .ref y := Option.some.inj (e2.symm.trans ht2)
  have hu : u.isRef = true := k2.2
  have e5 : u = .ref y := gotT (eq_R e1 ht2 hu rfl) h
  subst e5
  exact (fld_at ht).symm.trans e1
theorem own_ne {s : State} {a b : Addr} {C n d : String} {j k : Int32} (h1 : s.fieldOf? a C n d = some (.int j)) (h2 : s.fieldOf? b C n d = some (.int k)) (hne : j ≠ k) : a ≠ b := fun q => by
  subst q
  have h := h1.symm.trans h2
  injection h with h
  injection h with h
  exact hne h
def expF (q : Int64) (fb se : Int32) : Int32 := (((q.toUInt64 >>> (fb &&& 0x3f).toInt64.toUInt64).toInt64).toInt32) &&& se
def finF (q : Int64) (fb se : Int32) : Int32 := if expF q fb se = se then 0 else 1
theorem d2_0 : decode prog_63_method_11_code 0 = .ok (.lload_n 1, 1) := by decide +kernel
theorem d2_1 : decode prog_63_method_11_code 1 = .ok (.aload_n 0, 1) := by decide +kernel
theorem d2_2 : decode prog_63_method_11_code 2 = .ok (.getfield 33, 3) := by decide +kernel
theorem d2_5 : decode prog_63_method_11_code 5 = .ok (.lushr, 1) := by decide +kernel
theorem d2_6 : decode prog_63_method_11_code 6 = .ok (.l2i, 1) := by decide +kernel
theorem d2_7 : decode prog_63_method_11_code 7 = .ok (.aload_n 0, 1) := by decide +kernel
theorem d2_8 : decode prog_63_method_11_code 8 = .ok (.getfield 39, 3) := by decide +kernel
theorem d2_11 : decode prog_63_method_11_code 11 = .ok (.iand, 1) := by decide +kernel
theorem d2_12 : decode prog_63_method_11_code 12 = .ok (.ireturn, 1) := by decide +kernel
theorem pn_2 : plainName "com/example/fourfold/fourfold/json/FloatFormat" = true := by first | (simp [plainName, overriddenIn]; done) | decide +kernel
theorem ef_2 (m : MethodId) (x0 : Addr) (x1 : Int64) : entryFrame m #[(.ref x0), (.long x1)] 3 = mkF m 0 #[.val (.ref x0), .val (.long x1), .second] [] := by first | (simp [entryFrame, mkF, argsToLocals, Value.category]; done) | rfl
def Q2 (Z : State) (a1 : Addr) (q2 : Int64) (v_fractionBits_a1 : Int32) (v_specialExponent_a1 : Int32) (h0 : Heap) (n0 : Nat) (v : Option Value) (h : Heap) (L : List Loc) : Prop := v = some (.int (expF q2 v_fractionBits_a1 v_specialExponent_a1)) ∧ Fr n0 L ∧ h = h0
set_option maxRecDepth 65536 in
set_option maxHeartbeats 40000000 in
theorem rm2_o (l : Launch) (Z : State) (a0 : Array Value) (hw : ∀ d ∈ tables_1, d.before a0 Z = true) (ws : List Jvm.Cond) (a1 : Addr) (q2 : Int64) (v_fractionBits_a1 : Int32) (v_specialExponent_a1 : Int32) (h0 : Heap) (n0 : Nat) (Z0 : n0 ≤ h0.size) (F_fractionBits_a1 : Fld Z h0 a1 "com/example/fourfold/fourfold/json/FloatFormat" "fractionBits" "I" (.int v_fractionBits_a1)) (F_specialExponent_a1 : Fld Z h0 a1 "com/example/fourfold/fourfold/json/FloatFormat" "specialExponent" "I" (.int v_specialExponent_a1)) :
    MetFree l (⟨"com/example/fourfold/fourfold/json/FloatFormat", "exponentField", "(J)I"⟩ : MethodName) (head1 (Jvm.Cond.code (⟨"com/example/fourfold/fourfold/json/FloatFormat", "exponentField", "(J)I"⟩ : MethodName) prog_63_method_11_code 3 (some .int) :: ws) ({ frames := 0, cells := 0, slots := 0, locals := 0 } : Room)) (fun a U => a = #[(.ref a1), (.long q2)] ∧ Z.Warmed39 U.vm ∧ U.heap = h0) (fun _ _ _ _ _ => True) (fun _ U o U' => ∃ v L, o = .returned v ∧ Q2 Z a1 q2 v_fractionBits_a1 v_specialExponent_a1 h0 n0 v U'.heap L ∧ FrameEnd U o U' L ({ frames := 0, cells := 0, slots := 0, locals := 0 } : Room).cells ({ frames := 0, cells := 0, slots := 0, locals := 0 } : Room).slots) := by
  refine MetFree.of_bodySF (plainFor_of_name pn_2) hisR ?_
  intro p e s m args below meth c s₁ Bd hml0 hP hK
  obtain ⟨rfl, hZ, hh⟩ := hP
  have hx := Bd.exec
  have hby := Bd.bytes
  have hml : c.maxLocals = 3 := hml0
  have hown : s.vm.findClass "com/example/fourfold/fourfold/json/FloatFormat" = some m.cls := findClass_of_methodNamed Bd.named
  have hnm := (name_of_methodNamed Bd.named Bd.method).1
  have X0 : Stand p l e ({ frames := 0, cells := 0, slots := 0, locals := 0 } : Room) s m #[(.ref a1), (.long q2)] below meth c s₁ [] 0 0 := Stand.of_body Bd
  have e0 : s₁.heap = h0 := by rw [← hh, Bd.state]; rfl
  have N0 := Fr.nil n0
  have pre0 : ∀ t, Steps p.tables e below (s₁.setTop (mkF m 0 #[.val (.ref a1), .val (.long q2), .second] [])) t → Steps p.tables e below (s₁.setTop (entryFrame m #[(.ref a1), (.long q2)] 3)) t := fun t k => castTop (ef_2 m a1 q2) k
  -- 3. LAWS
  obtain ⟨T4, X4, e4, st4⟩ := getF X0 hx hZ hown (host := "") (Or.inl (hw _ (List.mem_of_getElem? (i := 15) rfl))) Via.refl e0 F_fractionBits_a1 (g := (mkF m 2 #[.val (.ref a1), .val (.long q2), .second] [(.ref a1), (.long q2)])) rfl rfl (hb hby d2_2)
  obtain ⟨T6, X6, e6, st6⟩ := getF X4 hx hZ hown (host := "") (Or.inl (hw _ (List.mem_of_getElem? (i := 17) rfl))) Via.refl e4 F_specialExponent_a1 (g := (mkF m 8 #[.val (.ref a1), .val (.long q2), .second] [(.ref a1), (.int (((q2.toUInt64 >>> (v_fractionBits_a1 &&& 0x3f).toInt64.toUInt64).toInt64).toInt32))])) rfl rfl (hb hby d2_8)
  obtain ⟨fs, hr, hrun, hended, hW, hsame⟩ := X6.leave (v := some (.int ((((q2.toUInt64 >>> (v_fractionBits_a1 &&& 0x3f).toInt64.toUInt64).toInt64).toInt32) &&& v_specialExponent_a1))) (fun h => by rw [Bd.returns] at h; cases h)
  refine ⟨_, _, pre0 _ ?_, hrun, hended, _, _, rfl, ?_, ⟨_, rfl⟩, hW, hsame.mono (by decide) (by decide)⟩
  -- 4. STEPS
  · show Steps p.tables e below (s₁.setTop (mkF m 0 #[.val (.ref a1), .val (.long q2), .second] [])) _
    refine XS.lloadN X0.here hx rfl (hb hby d2_0) rfl ?_
    show Steps p.tables e below (s₁.setTop (mkF m 1 #[.val (.ref a1), .val (.long q2), .second] [(.long q2)])) _
    refine XS.aloadN X0.here hx rfl (hb hby d2_1) rfl rfl ?_
    show Steps p.tables e below (s₁.setTop (mkF m 2 #[.val (.ref a1), .val (.long q2), .second] [(.ref a1), (.long q2)])) _
    refine st4 _ ?_
    show Steps p.tables e below (T4.setTop (mkF m 5 #[.val (.ref a1), .val (.long q2), .second] [(.int v_fractionBits_a1), (.long q2)])) _
    refine XS.lushr X4.here hx rfl (hb hby d2_5) rfl ?_
    show Steps p.tables e below (T4.setTop (mkF m 6 #[.val (.ref a1), .val (.long q2), .second] [(.long ((q2.toUInt64 >>> (v_fractionBits_a1 &&& 0x3f).toInt64.toUInt64).toInt64))])) _
    refine XS.l2i X4.here hx rfl (hb hby d2_6) rfl ?_
    show Steps p.tables e below (T4.setTop (mkF m 7 #[.val (.ref a1), .val (.long q2), .second] [(.int (((q2.toUInt64 >>> (v_fractionBits_a1 &&& 0x3f).toInt64.toUInt64).toInt64).toInt32))])) _
    refine XS.aloadN X4.here hx rfl (hb hby d2_7) rfl rfl ?_
    show Steps p.tables e below (T4.setTop (mkF m 8 #[.val (.ref a1), .val (.long q2), .second] [(.ref a1), (.int (((q2.toUInt64 >>> (v_fractionBits_a1 &&& 0x3f).toInt64.toUInt64).toInt64).toInt32))])) _
    refine st6 _ ?_
    show Steps p.tables e below (T6.setTop (mkF m 11 #[.val (.ref a1), .val (.long q2), .second] [(.int v_specialExponent_a1), (.int (((q2.toUInt64 >>> (v_fractionBits_a1 &&& 0x3f).toInt64.toUInt64).toInt64).toInt32))])) _
    refine XS.iand X6.here hx rfl (hb hby d2_11) rfl ?_
    show Steps p.tables e below (T6.setTop (mkF m 12 #[.val (.ref a1), .val (.long q2), .second] [(.int ((((q2.toUInt64 >>> (v_fractionBits_a1 &&& 0x3f).toInt64.toUInt64).toInt64).toInt32) &&& v_specialExponent_a1))])) _
    exact retI X6 hx Bd.returns (hb hby d2_12) hr      -- retI stands in the head ('lawwalk <made dir>' prints it)
  · show Q2 Z a1 q2 v_fractionBits_a1 v_specialExponent_a1 h0 n0 _ T6.heap _
    rw [e6]
    exact ⟨by rfl, N0, rfl⟩
theorem rm2 (l : Launch) (Z : State) (a0 : Array Value) (hw : ∀ d ∈ tables_1, d.before a0 Z = true) (ws : List Jvm.Cond) (a1 : Addr) (q2 : Int64) (v_fractionBits_a1 : Int32) (v_specialExponent_a1 : Int32) (h0 : Heap) (n0 : Nat) (Z0 : n0 ≤ h0.size) (F_fractionBits_a1 : Fld Z h0 a1 "com/example/fourfold/fourfold/json/FloatFormat" "fractionBits" "I" (.int v_fractionBits_a1)) (F_specialExponent_a1 : Fld Z h0 a1 "com/example/fourfold/fourfold/json/FloatFormat" "specialExponent" "I" (.int v_specialExponent_a1)) :
    MetFree l (⟨"com/example/fourfold/fourfold/json/FloatFormat", "exponentField", "(J)I"⟩ : MethodName) (head1 (Jvm.Cond.code (⟨"com/example/fourfold/fourfold/json/FloatFormat", "exponentField", "(J)I"⟩ : MethodName) prog_63_method_11_code 3 (some .int) :: ws) ({ frames := 0, cells := 0, slots := 0, locals := 0 } : Room)) (fun a U => a = #[(.ref a1), (.long q2)] ∧ Z.Warmed39 U.vm ∧ U.heap = h0) (fun _ _ _ _ _ => True) (fun _ U o U' => ∃ v L, o = .returned v ∧ Q2 Z a1 q2 v_fractionBits_a1 v_specialExponent_a1 h0 n0 v U'.heap L ∧ FrameEnd U o U' L ({ frames := 0, cells := 0, slots := 0, locals := 0 } : Room).cells ({ frames := 0, cells := 0, slots := 0, locals := 0 } : Room).slots) := by
  exact rm2_o l Z a0 hw ws a1 q2 v_fractionBits_a1 v_specialExponent_a1 h0 n0 Z0 F_fractionBits_a1 F_specialExponent_a1
theorem d1_0 : decode prog_63_method_4_code 0 = .ok (.aload_n 0, 1) := by decide +kernel
theorem d1_1 : decode prog_63_method_4_code 1 = .ok (.lload_n 1, 1) := by decide +kernel
theorem d1_2 : decode prog_63_method_4_code 2 = .ok (.invokevirtual 49, 3) := by decide +kernel
theorem d1_5 : decode prog_63_method_4_code 5 = .ok (.aload_n 0, 1) := by decide +kernel
theorem d1_6 : decode prog_63_method_4_code 6 = .ok (.getfield 39, 3) := by decide +kernel
theorem d1_9 : decode prog_63_method_4_code 9 = .ok (.if_icmp .eq 7, 3) := by decide +kernel
theorem d1_12 : decode prog_63_method_4_code 12 = .ok (.iconst 1, 1) := by decide +kernel
theorem d1_13 : decode prog_63_method_4_code 13 = .ok (.goto 4, 3) := by decide +kernel
theorem d1_17 : decode prog_63_method_4_code 17 = .ok (.ireturn, 1) := by decide +kernel
theorem pn_1 : plainName "com/example/fourfold/fourfold/json/FloatFormat" = true := by first | (simp [plainName, overriddenIn]; done) | decide +kernel
theorem pd_1_1 : parseMethodDescriptor "(J)I" = some ⟨[.long], some .int⟩ := by decide +kernel
theorem ef_1 (m : MethodId) (x0 : Addr) (x1 : Int64) : entryFrame m #[(.ref x0), (.long x1)] 3 = mkF m 0 #[.val (.ref x0), .val (.long x1), .second] [] := by first | (simp [entryFrame, mkF, argsToLocals, Value.category]; done) | rfl
theorem d1_16 : decode prog_63_method_4_code 16 = .ok (.iconst 0, 1) := by decide +kernel
def Q1 (Z : State) (a1 : Addr) (q2 : Int64) (v_specialExponent_a1 : Int32) (v_fractionBits_a1 : Int32) (h0 : Heap) (n0 : Nat) (v : Option Value) (h : Heap) (L : List Loc) : Prop := v = some (.int (finF q2 v_fractionBits_a1 v_specialExponent_a1)) ∧ Fr n0 L ∧ h = h0
set_option maxRecDepth 65536 in
set_option maxHeartbeats 40000000 in
theorem rm1_f (l : Launch) (Z : State) (a0 : Array Value) (hw : ∀ d ∈ tables_1, d.before a0 Z = true) (ws : List Jvm.Cond) (a1 : Addr) (q2 : Int64) (v_specialExponent_a1 : Int32) (v_fractionBits_a1 : Int32) (h0 : Heap) (n0 : Nat) (Z0 : n0 ≤ h0.size) (E_a1 : Exa Z h0 a1 "com/example/fourfold/fourfold/json/FloatFormat") (F_specialExponent_a1 : Fld Z h0 a1 "com/example/fourfold/fourfold/json/FloatFormat" "specialExponent" "I" (.int v_specialExponent_a1)) (F_fractionBits_a1 : Fld Z h0 a1 "com/example/fourfold/fourfold/json/FloatFormat" "fractionBits" "I" (.int v_fractionBits_a1)) (hv9 : ¬ ((expF q2 v_fractionBits_a1 v_specialExponent_a1) = v_specialExponent_a1)) :
    MetFree l (⟨"com/example/fourfold/fourfold/json/FloatFormat", "isFinite", "(J)Z"⟩ : MethodName) (head1 (Jvm.Cond.code (⟨"com/example/fourfold/fourfold/json/FloatFormat", "isFinite", "(J)Z"⟩ : MethodName) prog_63_method_4_code 3 (some .boolean) :: ws) ({ frames := 1, cells := 0, slots := 0, locals := 14 } : Room)) (fun a U => a = #[(.ref a1), (.long q2)] ∧ Z.Warmed39 U.vm ∧ U.heap = h0) (fun _ _ _ _ _ => True) (fun _ U o U' => ∃ v L, o = .returned v ∧ Q1 Z a1 q2 v_specialExponent_a1 v_fractionBits_a1 h0 n0 v U'.heap L ∧ FrameEnd U o U' L ({ frames := 1, cells := 0, slots := 0, locals := 14 } : Room).cells ({ frames := 1, cells := 0, slots := 0, locals := 14 } : Room).slots) := by
  refine MetFree.of_bodySF (plainFor_of_name pn_1) hisR ?_
  intro p e s m args below meth c s₁ Bd hml0 hP hK
  obtain ⟨rfl, hZ, hh⟩ := hP
  have hx := Bd.exec
  have hby := Bd.bytes
  have hml : c.maxLocals = 3 := hml0
  have hown : s.vm.findClass "com/example/fourfold/fourfold/json/FloatFormat" = some m.cls := findClass_of_methodNamed Bd.named
  have hnm := (name_of_methodNamed Bd.named Bd.method).1
  have X0 : Stand p l e ({ frames := 1, cells := 0, slots := 0, locals := 14 } : Room) s m #[(.ref a1), (.long q2)] below meth c s₁ [] 0 0 := Stand.of_body Bd
  have e0 : s₁.heap = h0 := by rw [← hh, Bd.state]; rfl
  have N0 := Fr.nil n0
  have pre0 : ∀ t, Steps p.tables e below (s₁.setTop (mkF m 0 #[.val (.ref a1), .val (.long q2), .second] [])) t → Steps p.tables e below (s₁.setTop (entryFrame m #[(.ref a1), (.long q2)] 3)) t := fun t k => castTop (ef_1 m a1 q2) k
  -- 3. LAWS
  -- pc 2: a private method: rm2
  obtain ⟨cq3, q3, q3'⟩ := E_a1.cell
  obtain ⟨cs, rs, ms, -, -, qs3, -, kP, hkP, hkPi⟩ := Cond.selects_spec (mvT (args := #[]) hZ (hw _ (List.mem_of_getElem? (i := 9) rfl)))
  have hfc : s.vm.findClass "com/example/fourfold/fourfold/json/FloatFormat" = some ms.cls := findClass_of_methodNamed qs3
  have hsel : (Jvm.Cond.selects "com/example/fourfold/fourfold/json/FloatFormat" (⟨"com/example/fourfold/fourfold/json/FloatFormat", "exponentField", "(J)I"⟩ : MethodName) (⟨"com/example/fourfold/fourfold/json/FloatFormat", "exponentField", "(J)I"⟩ : MethodName)).before #[(.ref a1), (.long q2)] s = true := selects_self_of_private (y := (⟨"com/example/fourfold/fourfold/json/FloatFormat", "exponentField", "(J)I"⟩ : MethodName)) hfc hkP hkPi (Cond.privateMethod_at (mvP hZ (hw _ (List.mem_of_getElem? (i := 13) rfl)) (args := #[]))) (mvT hZ (hw _ (List.mem_of_getElem? (i := 12) rfl))) (by decide)
  obtain ⟨_, _, ⟨T3, L3, k3, n3⟩, -, X3, ⟨Lc3, hQ3, l3, y3, z3⟩, st3⟩ := X0.privateBack hx (y := (⟨"com/example/fourfold/fourfold/json/FloatFormat", "exponentField", "(J)I"⟩ : MethodName)) hown (mvT hZ (hw _ (List.mem_of_getElem? (i := 11) rfl))) (mvT hZ (hw _ (List.mem_of_getElem? (i := 12) rfl))) hsel (Cond.privateMethod_at (mvP hZ (hw _ (List.mem_of_getElem? (i := 13) rfl)) (args := #[]))) (mvT hZ (hw _ (List.mem_of_getElem? (i := 14) rfl))) (by decide) (backOf (W := 0) (rm2 l Z a0 hw [] a1 q2 v_fractionBits_a1 v_specialExponent_a1 h0 n0 Z0 F_fractionBits_a1 F_specialExponent_a1) hZ (hw _ (List.mem_of_getElem? (i := 14) rfl)) (hw _ (List.mem_of_getElem? (i := 1) rfl)) (by decide) (by decide)) (g := (mkF m 2 #[.val (.ref a1), .val (.long q2), .second] [(.long q2), (.ref a1)])) rfl (by rw [hml]; rfl) (Steps.refl _) (a := a1) (by rw [e0]; exact q3) q3' (argsL := [(.long q2)]) (rest := []) (lenOf pd_1_1 rfl) rfl (by show 2 * 0 + _ ≤ _; exact Nat.le_of_eq rfl) (hb hby d1_2) (fun _ _ => ⟨rfl, e0, (by decide : 0 + 0 ≤ _), (by decide : 0 + 0 ≤ _)⟩)
  dsimp only [Pt.U, Pt.locs, Pt.cells, Pt.slots] at X3 l3 y3 z3 st3 hQ3
  subst l3 y3 z3
  obtain ⟨rfl, N3q, q3⟩ := hQ3
  have N3 := Fr.app N0 N3q
  obtain ⟨T5, X5, e5, st5⟩ := getF X3 hx hZ hown (host := "") (Or.inl (hw _ (List.mem_of_getElem? (i := 17) rfl))) Via.refl q3 F_specialExponent_a1 (g := (mkF m 6 #[.val (.ref a1), .val (.long q2), .second] [(.ref a1), (.int (expF q2 v_fractionBits_a1 v_specialExponent_a1))])) rfl rfl (hb hby d1_6)
  obtain ⟨fs, hr, hrun, hended, hW, hsame⟩ := X5.leave (v := some (.int (1 : Int32))) (fun h => by rw [Bd.returns] at h; cases h)
  refine ⟨_, _, pre0 _ ?_, hrun, hended, _, _, rfl, ?_, ⟨_, rfl⟩, hW, hsame.mono (by decide) (by decide)⟩
  -- 4. STEPS
  · show Steps p.tables e below (s₁.setTop (mkF m 0 #[.val (.ref a1), .val (.long q2), .second] [])) _
    refine XS.aloadN X0.here hx rfl (hb hby d1_0) rfl rfl ?_
    show Steps p.tables e below (s₁.setTop (mkF m 1 #[.val (.ref a1), .val (.long q2), .second] [(.ref a1)])) _
    refine XS.lloadN X0.here hx rfl (hb hby d1_1) rfl ?_
    show Steps p.tables e below (s₁.setTop (mkF m 2 #[.val (.ref a1), .val (.long q2), .second] [(.long q2), (.ref a1)])) _
    refine st3.trans ?_
    show Steps p.tables e below (T3.setTop (mkF m 5 #[.val (.ref a1), .val (.long q2), .second] [(.int (expF q2 v_fractionBits_a1 v_specialExponent_a1))])) _
    refine XS.aloadN X3.here hx rfl (hb hby d1_5) rfl rfl ?_
    show Steps p.tables e below (T3.setTop (mkF m 6 #[.val (.ref a1), .val (.long q2), .second] [(.ref a1), (.int (expF q2 v_fractionBits_a1 v_specialExponent_a1))])) _
    refine st5 _ ?_
    show Steps p.tables e below (T5.setTop (mkF m 9 #[.val (.ref a1), .val (.long q2), .second] [(.int v_specialExponent_a1), (.int (expF q2 v_fractionBits_a1 v_specialExponent_a1))])) _
    refine XS.icmpNo X5.here hx rfl (hb hby d1_9) rfl (feq (hv9 : ¬ ((expF q2 v_fractionBits_a1 v_specialExponent_a1) = v_specialExponent_a1))).1 ?_
    show Steps p.tables e below (T5.setTop (mkF m 12 #[.val (.ref a1), .val (.long q2), .second] [])) _
    refine XS.iconst X5.here hx rfl (hb hby d1_12) ?_
    show Steps p.tables e below (T5.setTop (mkF m 13 #[.val (.ref a1), .val (.long q2), .second] [(.int (1 : Int32))])) _
    refine XS.goto X5.here hx rfl (pc0 := 13) (pc' := 17) rfl (hb hby d1_13) (by decide) (by decide) ?_
    show Steps p.tables e below (T5.setTop (mkF m 17 #[.val (.ref a1), .val (.long q2), .second] [(.int (1 : Int32))])) _
    exact retN X5 hx (t := .boolean) Bd.returns (by simp) (hb hby d1_17) hr
  · show Q1 Z a1 q2 v_specialExponent_a1 v_fractionBits_a1 h0 n0 _ T5.heap _
    rw [e5]
    exact ⟨by simp_all [finF], N3, rfl⟩
set_option maxRecDepth 65536 in
set_option maxHeartbeats 40000000 in
theorem rm1_t (l : Launch) (Z : State) (a0 : Array Value) (hw : ∀ d ∈ tables_1, d.before a0 Z = true) (ws : List Jvm.Cond) (a1 : Addr) (q2 : Int64) (v_specialExponent_a1 : Int32) (v_fractionBits_a1 : Int32) (h0 : Heap) (n0 : Nat) (Z0 : n0 ≤ h0.size) (E_a1 : Exa Z h0 a1 "com/example/fourfold/fourfold/json/FloatFormat") (F_specialExponent_a1 : Fld Z h0 a1 "com/example/fourfold/fourfold/json/FloatFormat" "specialExponent" "I" (.int v_specialExponent_a1)) (F_fractionBits_a1 : Fld Z h0 a1 "com/example/fourfold/fourfold/json/FloatFormat" "fractionBits" "I" (.int v_fractionBits_a1)) (hv9 : (expF q2 v_fractionBits_a1 v_specialExponent_a1) = v_specialExponent_a1) :
    MetFree l (⟨"com/example/fourfold/fourfold/json/FloatFormat", "isFinite", "(J)Z"⟩ : MethodName) (head1 (Jvm.Cond.code (⟨"com/example/fourfold/fourfold/json/FloatFormat", "isFinite", "(J)Z"⟩ : MethodName) prog_63_method_4_code 3 (some .boolean) :: ws) ({ frames := 1, cells := 0, slots := 0, locals := 14 } : Room)) (fun a U => a = #[(.ref a1), (.long q2)] ∧ Z.Warmed39 U.vm ∧ U.heap = h0) (fun _ _ _ _ _ => True) (fun _ U o U' => ∃ v L, o = .returned v ∧ Q1 Z a1 q2 v_specialExponent_a1 v_fractionBits_a1 h0 n0 v U'.heap L ∧ FrameEnd U o U' L ({ frames := 1, cells := 0, slots := 0, locals := 14 } : Room).cells ({ frames := 1, cells := 0, slots := 0, locals := 14 } : Room).slots) := by
  refine MetFree.of_bodySF (plainFor_of_name pn_1) hisR ?_
  intro p e s m args below meth c s₁ Bd hml0 hP hK
  obtain ⟨rfl, hZ, hh⟩ := hP
  have hx := Bd.exec
  have hby := Bd.bytes
  have hml : c.maxLocals = 3 := hml0
  have hown : s.vm.findClass "com/example/fourfold/fourfold/json/FloatFormat" = some m.cls := findClass_of_methodNamed Bd.named
  have hnm := (name_of_methodNamed Bd.named Bd.method).1
  have X0 : Stand p l e ({ frames := 1, cells := 0, slots := 0, locals := 14 } : Room) s m #[(.ref a1), (.long q2)] below meth c s₁ [] 0 0 := Stand.of_body Bd
  have e0 : s₁.heap = h0 := by rw [← hh, Bd.state]; rfl
  have N0 := Fr.nil n0
  have pre0 : ∀ t, Steps p.tables e below (s₁.setTop (mkF m 0 #[.val (.ref a1), .val (.long q2), .second] [])) t → Steps p.tables e below (s₁.setTop (entryFrame m #[(.ref a1), (.long q2)] 3)) t := fun t k => castTop (ef_1 m a1 q2) k
  -- 3. LAWS
  -- pc 2: a private method: rm2
  obtain ⟨cq3, q3, q3'⟩ := E_a1.cell
  obtain ⟨cs, rs, ms, -, -, qs3, -, kP, hkP, hkPi⟩ := Cond.selects_spec (mvT (args := #[]) hZ (hw _ (List.mem_of_getElem? (i := 9) rfl)))
  have hfc : s.vm.findClass "com/example/fourfold/fourfold/json/FloatFormat" = some ms.cls := findClass_of_methodNamed qs3
  have hsel : (Jvm.Cond.selects "com/example/fourfold/fourfold/json/FloatFormat" (⟨"com/example/fourfold/fourfold/json/FloatFormat", "exponentField", "(J)I"⟩ : MethodName) (⟨"com/example/fourfold/fourfold/json/FloatFormat", "exponentField", "(J)I"⟩ : MethodName)).before #[(.ref a1), (.long q2)] s = true := selects_self_of_private (y := (⟨"com/example/fourfold/fourfold/json/FloatFormat", "exponentField", "(J)I"⟩ : MethodName)) hfc hkP hkPi (Cond.privateMethod_at (mvP hZ (hw _ (List.mem_of_getElem? (i := 13) rfl)) (args := #[]))) (mvT hZ (hw _ (List.mem_of_getElem? (i := 12) rfl))) (by decide)
  obtain ⟨_, _, ⟨T3, L3, k3, n3⟩, -, X3, ⟨Lc3, hQ3, l3, y3, z3⟩, st3⟩ := X0.privateBack hx (y := (⟨"com/example/fourfold/fourfold/json/FloatFormat", "exponentField", "(J)I"⟩ : MethodName)) hown (mvT hZ (hw _ (List.mem_of_getElem? (i := 11) rfl))) (mvT hZ (hw _ (List.mem_of_getElem? (i := 12) rfl))) hsel (Cond.privateMethod_at (mvP hZ (hw _ (List.mem_of_getElem? (i := 13) rfl)) (args := #[]))) (mvT hZ (hw _ (List.mem_of_getElem? (i := 14) rfl))) (by decide) (backOf (W := 0) (rm2 l Z a0 hw [] a1 q2 v_fractionBits_a1 v_specialExponent_a1 h0 n0 Z0 F_fractionBits_a1 F_specialExponent_a1) hZ (hw _ (List.mem_of_getElem? (i := 14) rfl)) (hw _ (List.mem_of_getElem? (i := 1) rfl)) (by decide) (by decide)) (g := (mkF m 2 #[.val (.ref a1), .val (.long q2), .second] [(.long q2), (.ref a1)])) rfl (by rw [hml]; rfl) (Steps.refl _) (a := a1) (by rw [e0]; exact q3) q3' (argsL := [(.long q2)]) (rest := []) (lenOf pd_1_1 rfl) rfl (by show 2 * 0 + _ ≤ _; exact Nat.le_of_eq rfl) (hb hby d1_2) (fun _ _ => ⟨rfl, e0, (by decide : 0 + 0 ≤ _), (by decide : 0 + 0 ≤ _)⟩)
  dsimp only [Pt.U, Pt.locs, Pt.cells, Pt.slots] at X3 l3 y3 z3 st3 hQ3
  subst l3 y3 z3
  obtain ⟨rfl, N3q, q3⟩ := hQ3
  have N3 := Fr.app N0 N3q
  obtain ⟨T5, X5, e5, st5⟩ := getF X3 hx hZ hown (host := "") (Or.inl (hw _ (List.mem_of_getElem? (i := 17) rfl))) Via.refl q3 F_specialExponent_a1 (g := (mkF m 6 #[.val (.ref a1), .val (.long q2), .second] [(.ref a1), (.int (expF q2 v_fractionBits_a1 v_specialExponent_a1))])) rfl rfl (hb hby d1_6)
  obtain ⟨fs, hr, hrun, hended, hW, hsame⟩ := X5.leave (v := some (.int (0 : Int32))) (fun h => by rw [Bd.returns] at h; cases h)
  refine ⟨_, _, pre0 _ ?_, hrun, hended, _, _, rfl, ?_, ⟨_, rfl⟩, hW, hsame.mono (by decide) (by decide)⟩
  -- 4. STEPS
  · show Steps p.tables e below (s₁.setTop (mkF m 0 #[.val (.ref a1), .val (.long q2), .second] [])) _
    refine XS.aloadN X0.here hx rfl (hb hby d1_0) rfl rfl ?_
    show Steps p.tables e below (s₁.setTop (mkF m 1 #[.val (.ref a1), .val (.long q2), .second] [(.ref a1)])) _
    refine XS.lloadN X0.here hx rfl (hb hby d1_1) rfl ?_
    show Steps p.tables e below (s₁.setTop (mkF m 2 #[.val (.ref a1), .val (.long q2), .second] [(.long q2), (.ref a1)])) _
    refine st3.trans ?_
    show Steps p.tables e below (T3.setTop (mkF m 5 #[.val (.ref a1), .val (.long q2), .second] [(.int (expF q2 v_fractionBits_a1 v_specialExponent_a1))])) _
    refine XS.aloadN X3.here hx rfl (hb hby d1_5) rfl rfl ?_
    show Steps p.tables e below (T3.setTop (mkF m 6 #[.val (.ref a1), .val (.long q2), .second] [(.ref a1), (.int (expF q2 v_fractionBits_a1 v_specialExponent_a1))])) _
    refine st5 _ ?_
    show Steps p.tables e below (T5.setTop (mkF m 9 #[.val (.ref a1), .val (.long q2), .second] [(.int v_specialExponent_a1), (.int (expF q2 v_fractionBits_a1 v_specialExponent_a1))])) _
    refine XS.icmpYes X5.here hx rfl (pc0 := 9) (pc' := 16) rfl (hb hby d1_9) rfl (teq (hv9 : (expF q2 v_fractionBits_a1 v_specialExponent_a1) = v_specialExponent_a1)).1 (by decide) (by decide) ?_
    show Steps p.tables e below (T5.setTop (mkF m 16 #[.val (.ref a1), .val (.long q2), .second] [])) _
    refine XS.iconst X5.here hx rfl (hb hby d1_16) ?_
    show Steps p.tables e below (T5.setTop (mkF m 17 #[.val (.ref a1), .val (.long q2), .second] [(.int (0 : Int32))])) _
    exact retN X5 hx (t := .boolean) Bd.returns (by simp) (hb hby d1_17) hr
  · show Q1 Z a1 q2 v_specialExponent_a1 v_fractionBits_a1 h0 n0 _ T5.heap _
    rw [e5]
    exact ⟨by simp_all [finF], N3, rfl⟩
theorem rm1 (l : Launch) (Z : State) (a0 : Array Value) (hw : ∀ d ∈ tables_1, d.before a0 Z = true) (ws : List Jvm.Cond) (a1 : Addr) (q2 : Int64) (v_specialExponent_a1 : Int32) (v_fractionBits_a1 : Int32) (h0 : Heap) (n0 : Nat) (Z0 : n0 ≤ h0.size) (E_a1 : Exa Z h0 a1 "com/example/fourfold/fourfold/json/FloatFormat") (F_specialExponent_a1 : Fld Z h0 a1 "com/example/fourfold/fourfold/json/FloatFormat" "specialExponent" "I" (.int v_specialExponent_a1)) (F_fractionBits_a1 : Fld Z h0 a1 "com/example/fourfold/fourfold/json/FloatFormat" "fractionBits" "I" (.int v_fractionBits_a1)) :
    MetFree l (⟨"com/example/fourfold/fourfold/json/FloatFormat", "isFinite", "(J)Z"⟩ : MethodName) (head1 (Jvm.Cond.code (⟨"com/example/fourfold/fourfold/json/FloatFormat", "isFinite", "(J)Z"⟩ : MethodName) prog_63_method_4_code 3 (some .boolean) :: ws) ({ frames := 1, cells := 0, slots := 0, locals := 14 } : Room)) (fun a U => a = #[(.ref a1), (.long q2)] ∧ Z.Warmed39 U.vm ∧ U.heap = h0) (fun _ _ _ _ _ => True) (fun _ U o U' => ∃ v L, o = .returned v ∧ Q1 Z a1 q2 v_specialExponent_a1 v_fractionBits_a1 h0 n0 v U'.heap L ∧ FrameEnd U o U' L ({ frames := 1, cells := 0, slots := 0, locals := 14 } : Room).cells ({ frames := 1, cells := 0, slots := 0, locals := 14 } : Room).slots) := by
  by_cases hv9 : (expF q2 v_fractionBits_a1 v_specialExponent_a1) = v_specialExponent_a1
  · exact rm1_t l Z a0 hw ws a1 q2 v_specialExponent_a1 v_fractionBits_a1 h0 n0 Z0 E_a1 F_specialExponent_a1 F_fractionBits_a1 hv9
  · exact rm1_f l Z a0 hw ws a1 q2 v_specialExponent_a1 v_fractionBits_a1 h0 n0 Z0 E_a1 F_specialExponent_a1 F_fractionBits_a1 hv9
theorem pn_0 : plainName "com/example/fourfold/fourfold/json/FloatFormatIsFinitePinLaw" = true := by first | (simp [plainName, overriddenIn]; done) | decide +kernel
theorem pd_0_0 : parseMethodDescriptor "(J)Z" = some ⟨[.long], some .boolean⟩ := by decide +kernel
theorem ef_0 (m : MethodId) (x0 : Int32) (x1 : Int64) (x2 : Int32) : entryFrame m #[(.int x0), (.long x1), (.int x2)] maxLocals = mkF m 0 #[.val (.int x0), .val (.long x1), .second, .val (.int x2), .unset, .unset, .unset, .unset, .unset, .unset, .unset, .unset, .unset, .unset] [] := by first | (simp [entryFrame, mkF, argsToLocals, Value.category, maxLocals]; done) | rfl
def Q0 (Z : State) (h0 : Heap) (n0 : Nat) (v : Option Value) (h : Heap) (L : List Loc) : Prop := v = some (.int (1 : Int32)) ∧ Fr n0 L
set_option maxRecDepth 65536 in
set_option maxHeartbeats 40000000 in
theorem rm0_fffffftf (l : Launch) (Z : State) (a0 : Array Value) (hw : ∀ d ∈ tables_1, d.before a0 Z = true) (ws : List Jvm.Cond) (p1 : Int32) (q2 : Int64) (p3 : Int32) (w_BINARY64 : Addr) (u : Int32) (h0 : Heap) (n0 : Nat) (Z0 : n0 ≤ h0.size) (S_BINARY64 : Sta Z h0 "com/example/fourfold/fourfold/json/FloatFormat" "BINARY64" "Lcom/example/fourfold/fourfold/json/FloatFormat;" (.ref w_BINARY64)) (E_BINARY64 : Exa Z h0 w_BINARY64 "com/example/fourfold/fourfold/json/FloatFormat") (F_fractionBits_BINARY64 : Fld Z h0 w_BINARY64 "com/example/fourfold/fourfold/json/FloatFormat" "fractionBits" "I" (.int (52 : Int32))) (F_specialExponent_BINARY64 : Fld Z h0 w_BINARY64 "com/example/fourfold/fourfold/json/FloatFormat" "specialExponent" "I" (.int (2047 : Int32))) (hu : finF (q2 ||| (9218868437227405312 : Int64)) (52 : Int32) (2047 : Int32) = u) (hc3 : ¬ ((p1 &&& (1 : Int32)) = (0 : Int32))) (hc15 : ¬ ((1 : Int32) = (0 : Int32))) (hc31 : ¬ ((1 : Int32) = (0 : Int32))) (hc47 : ¬ ((1 : Int32) = (0 : Int32))) (hc63 : ¬ ((1 : Int32) = (0 : Int32))) (hc85 : (p3 &&& (3 : Int32)) = (1 : Int32)) (hc146 : (lcmpW ((q2 ||| (9218868437227405312 : Int64)) &&& (9218868437227405312 : Int64)) (9218868437227405312 : Int64)) = (0 : Int32)) (hv165 : u = (0 : Int32)) :
    MetFree l x (head1 (Jvm.Cond.code x code maxLocals ret :: ws) room_1) (fun a U => a = #[(.int p1), (.long q2), (.int p3)] ∧ Z.Warmed39 U.vm ∧ U.heap = h0) (fun _ _ _ _ _ => True) (fun _ U o U' => ∃ v L, o = .returned v ∧ Q0 Z h0 n0 v U'.heap L ∧ FrameEnd U o U' L room_1.cells room_1.slots) := by
  refine MetFree.of_bodySF (plainFor_of_name pn_0) hisR ?_
  intro p e s m args below meth c s₁ Bd hml0 hP hK
  obtain ⟨rfl, hZ, hh⟩ := hP
  have hx := Bd.exec
  have hby := Bd.bytes
  have hml : c.maxLocals = 14 := hml0
  have hown : s.vm.findClass "com/example/fourfold/fourfold/json/FloatFormatIsFinitePinLaw" = some m.cls := findClass_of_methodNamed Bd.named
  have hnm := (name_of_methodNamed Bd.named Bd.method).1
  have X0 : Stand p l e room_1 s m #[(.int p1), (.long q2), (.int p3)] below meth c s₁ [] 0 0 := Stand.of_body Bd
  have e0 : s₁.heap = h0 := by rw [← hh, Bd.state]; rfl
  have N0 := Fr.nil n0
  have pre0 : ∀ t, Steps p.tables e below (s₁.setTop (mkF m 0 #[.val (.int p1), .val (.long q2), .second, .val (.int p3), .unset, .unset, .unset, .unset, .unset, .unset, .unset, .unset, .unset, .unset] [])) t → Steps p.tables e below (s₁.setTop (entryFrame m #[(.int p1), (.long q2), (.int p3)] maxLocals)) t := fun t k => castTop (ef_0 m p1 q2 p3) k
  -- 3. LAWS
  obtain ⟨T5, X5, e5, st5⟩ := getS2 X0 hx hZ hown (host := "") (Or.inl (hw _ (List.mem_of_getElem? (i := 20) rfl))) Via.refl e0 S_BINARY64 (g := (mkF m 18 #[.val (.int p1), .val (.long q2), .second, .val (.int p3), .val (.int (1 : Int32)), .unset, .unset, .unset, .unset, .unset, .unset, .unset, .unset, .unset] [])) rfl (hb hby at_18)
  -- pc 160: com/example/fourfold/fourfold/json/FloatFormat.isFinite by the contract of the body that the receiver's class selects, rm1
  obtain ⟨cq6, kq6, q6a, q6b, q6c⟩ := isOf hZ e5 E_BINARY64
  obtain ⟨_, _, ⟨T6, L6, k6, n6⟩, -, X6, ⟨Lc6, hQ6, l6, y6, z6⟩, st6⟩ := X5.virtualBack hx (y := (⟨"com/example/fourfold/fourfold/json/FloatFormat", "isFinite", "(J)Z"⟩ : MethodName)) (z := (⟨"com/example/fourfold/fourfold/json/FloatFormat", "isFinite", "(J)Z"⟩ : MethodName)) hown (mvT hZ (hw _ (List.mem_of_getElem? (i := 6) rfl))) (mvT hZ (hw _ (List.mem_of_getElem? (i := 7) rfl))) (notFace_of_selects (args := #[]) (mvT hZ (hw _ (List.mem_of_getElem? (i := 9) rfl)))) (mvT hZ (hw _ (List.mem_of_getElem? (i := 9) rfl))) (mvT hZ (hw _ (List.mem_of_getElem? (i := 8) rfl))) (by decide) (backOf (W := 0) (rm1 l Z a0 hw [] w_BINARY64 (q2 ||| (9218868437227405312 : Int64)) (2047 : Int32) (52 : Int32) h0 n0 Z0 E_BINARY64 F_specialExponent_BINARY64 F_fractionBits_BINARY64) hZ (hw _ (List.mem_of_getElem? (i := 10) rfl)) (hw _ (List.mem_of_getElem? (i := 1) rfl)) (by decide) (by decide)) q6a q6c (g := (mkF m 160 #[.val (.int p1), .val (.long q2), .second, .val (.int p3), .val (.int (1 : Int32)), .val (.ref w_BINARY64), .val (.long (9218868437227405312 : Int64)), .second, .val (.long (4503599627370496 : Int64)), .second, .val (.long (q2 ||| (9218868437227405312 : Int64))), .second, .val (.int (p3 &&& (3 : Int32))), .val (.int (0 : Int32))] [(.long (q2 ||| (9218868437227405312 : Int64))), (.ref w_BINARY64)])) rfl (by rw [hml]; rfl) (Steps.refl _) (argsL := [(.long (q2 ||| (9218868437227405312 : Int64)))]) (rest := []) (lenOf pd_0_0 rfl) rfl (by show 2 * 0 + _ ≤ _; exact Nat.le_of_eq rfl) (hb hby at_160) (fun _ _ => ⟨rfl, e5, (by decide : 0 + 0 ≤ _), (by decide : 0 + 0 ≤ _)⟩)
  dsimp only [Pt.U, Pt.locs, Pt.cells, Pt.slots] at X6 l6 y6 z6 st6 hQ6
  subst l6 y6 z6
  obtain ⟨rv6, N6q, q6⟩ := hQ6
  rw [hu] at rv6
  subst rv6
  have N6 := Fr.app N0 N6q
  obtain ⟨fs, hr, hrun, hended, hW, hsame⟩ := X6.leave (v := some (.int (1 : Int32))) (fun h => by rw [Bd.returns] at h; cases h)
  refine ⟨_, _, pre0 _ ?_, hrun, hended, _, _, rfl, ?_, ⟨_, rfl⟩, hW, hsame.mono (by decide) (by decide)⟩
  -- 4. STEPS
  · show Steps p.tables e below (s₁.setTop (mkF m 0 #[.val (.int p1), .val (.long q2), .second, .val (.int p3), .unset, .unset, .unset, .unset, .unset, .unset, .unset, .unset, .unset, .unset] [])) _
    refine XS.iloadN X0.here hx rfl (hb hby at_0) rfl ?_
    show Steps p.tables e below (s₁.setTop (mkF m 1 #[.val (.int p1), .val (.long q2), .second, .val (.int p3), .unset, .unset, .unset, .unset, .unset, .unset, .unset, .unset, .unset, .unset] [(.int p1)])) _
    refine XS.iconst X0.here hx rfl (hb hby at_1) ?_
    show Steps p.tables e below (s₁.setTop (mkF m 2 #[.val (.int p1), .val (.long q2), .second, .val (.int p3), .unset, .unset, .unset, .unset, .unset, .unset, .unset, .unset, .unset, .unset] [(.int (1 : Int32)), (.int p1)])) _
    refine XS.iand X0.here hx rfl (hb hby at_2) rfl ?_
    show Steps p.tables e below (s₁.setTop (mkF m 3 #[.val (.int p1), .val (.long q2), .second, .val (.int p3), .unset, .unset, .unset, .unset, .unset, .unset, .unset, .unset, .unset, .unset] [(.int (p1 &&& (1 : Int32)))])) _
    refine XS.ifNo X0.here hx rfl (hb hby at_3) rfl ((if0 _ _).trans (feq hc3).1) ?_
    show Steps p.tables e below (s₁.setTop (mkF m 6 #[.val (.int p1), .val (.long q2), .second, .val (.int p3), .unset, .unset, .unset, .unset, .unset, .unset, .unset, .unset, .unset, .unset] [])) _
    refine XS.iconst X0.here hx rfl (hb hby at_6) ?_
    show Steps p.tables e below (s₁.setTop (mkF m 7 #[.val (.int p1), .val (.long q2), .second, .val (.int p3), .unset, .unset, .unset, .unset, .unset, .unset, .unset, .unset, .unset, .unset] [(.int (1 : Int32))])) _
    refine XS.goto X0.here hx rfl (pc0 := 7) (pc' := 11) rfl (hb hby at_7) (by decide) (by decide) ?_
    show Steps p.tables e below (s₁.setTop (mkF m 11 #[.val (.int p1), .val (.long q2), .second, .val (.int p3), .unset, .unset, .unset, .unset, .unset, .unset, .unset, .unset, .unset, .unset] [(.int (1 : Int32))])) _
    refine XS.istore X0.here hx rfl (hb hby at_11) rfl (l' := #[.val (.int p1), .val (.long q2), .second, .val (.int p3), .val (.int (1 : Int32)), .unset, .unset, .unset, .unset, .unset, .unset, .unset, .unset, .unset]) rfl ?_
    show Steps p.tables e below (s₁.setTop (mkF m 13 #[.val (.int p1), .val (.long q2), .second, .val (.int p3), .val (.int (1 : Int32)), .unset, .unset, .unset, .unset, .unset, .unset, .unset, .unset, .unset] [])) _
    refine XS.iload X0.here hx rfl (hb hby at_13) rfl ?_
    show Steps p.tables e below (s₁.setTop (mkF m 15 #[.val (.int p1), .val (.long q2), .second, .val (.int p3), .val (.int (1 : Int32)), .unset, .unset, .unset, .unset, .unset, .unset, .unset, .unset, .unset] [(.int (1 : Int32))])) _
    refine XS.ifNo X0.here hx rfl (hb hby at_15) rfl ((if0 _ _).trans (feq hc15).1) ?_
    show Steps p.tables e below (s₁.setTop (mkF m 18 #[.val (.int p1), .val (.long q2), .second, .val (.int p3), .val (.int (1 : Int32)), .unset, .unset, .unset, .unset, .unset, .unset, .unset, .unset, .unset] [])) _
    refine st5 _ ?_
    show Steps p.tables e below (T5.setTop (mkF m 21 #[.val (.int p1), .val (.long q2), .second, .val (.int p3), .val (.int (1 : Int32)), .unset, .unset, .unset, .unset, .unset, .unset, .unset, .unset, .unset] [(.ref w_BINARY64)])) _
    refine XS.goto X5.here hx rfl (pc0 := 21) (pc' := 27) rfl (hb hby at_21) (by decide) (by decide) ?_
    show Steps p.tables e below (T5.setTop (mkF m 27 #[.val (.int p1), .val (.long q2), .second, .val (.int p3), .val (.int (1 : Int32)), .unset, .unset, .unset, .unset, .unset, .unset, .unset, .unset, .unset] [(.ref w_BINARY64)])) _
    refine XS.astore X5.here hx rfl (hb hby at_27) rfl rfl (l' := #[.val (.int p1), .val (.long q2), .second, .val (.int p3), .val (.int (1 : Int32)), .val (.ref w_BINARY64), .unset, .unset, .unset, .unset, .unset, .unset, .unset, .unset]) rfl ?_
    show Steps p.tables e below (T5.setTop (mkF m 29 #[.val (.int p1), .val (.long q2), .second, .val (.int p3), .val (.int (1 : Int32)), .val (.ref w_BINARY64), .unset, .unset, .unset, .unset, .unset, .unset, .unset, .unset] [])) _
    refine XS.iload X5.here hx rfl (hb hby at_29) rfl ?_
    show Steps p.tables e below (T5.setTop (mkF m 31 #[.val (.int p1), .val (.long q2), .second, .val (.int p3), .val (.int (1 : Int32)), .val (.ref w_BINARY64), .unset, .unset, .unset, .unset, .unset, .unset, .unset, .unset] [(.int (1 : Int32))])) _
    refine XS.ifNo X5.here hx rfl (hb hby at_31) rfl ((if0 _ _).trans (feq hc31).1) ?_
    show Steps p.tables e below (T5.setTop (mkF m 34 #[.val (.int p1), .val (.long q2), .second, .val (.int p3), .val (.int (1 : Int32)), .val (.ref w_BINARY64), .unset, .unset, .unset, .unset, .unset, .unset, .unset, .unset] [])) _
    refine X5.ldc2Long hx hown (mvT hZ (hw _ (List.mem_of_getElem? (i := 22) rfl))) (g := (mkF m 34 #[.val (.int p1), .val (.long q2), .second, .val (.int p3), .val (.int (1 : Int32)), .val (.ref w_BINARY64), .unset, .unset, .unset, .unset, .unset, .unset, .unset, .unset] [])) rfl (hb hby at_34) _ ?_
    show Steps p.tables e below (T5.setTop (mkF m 37 #[.val (.int p1), .val (.long q2), .second, .val (.int p3), .val (.int (1 : Int32)), .val (.ref w_BINARY64), .unset, .unset, .unset, .unset, .unset, .unset, .unset, .unset] [(.long (9218868437227405312 : Int64))])) _
    refine XS.goto X5.here hx rfl (pc0 := 37) (pc' := 43) rfl (hb hby at_37) (by decide) (by decide) ?_
    show Steps p.tables e below (T5.setTop (mkF m 43 #[.val (.int p1), .val (.long q2), .second, .val (.int p3), .val (.int (1 : Int32)), .val (.ref w_BINARY64), .unset, .unset, .unset, .unset, .unset, .unset, .unset, .unset] [(.long (9218868437227405312 : Int64))])) _
    refine XS.lstore X5.here hx rfl (hb hby at_43) rfl (l' := #[.val (.int p1), .val (.long q2), .second, .val (.int p3), .val (.int (1 : Int32)), .val (.ref w_BINARY64), .val (.long (9218868437227405312 : Int64)), .second, .unset, .unset, .unset, .unset, .unset, .unset]) rfl ?_
    show Steps p.tables e below (T5.setTop (mkF m 45 #[.val (.int p1), .val (.long q2), .second, .val (.int p3), .val (.int (1 : Int32)), .val (.ref w_BINARY64), .val (.long (9218868437227405312 : Int64)), .second, .unset, .unset, .unset, .unset, .unset, .unset] [])) _
    refine XS.iload X5.here hx rfl (hb hby at_45) rfl ?_
    show Steps p.tables e below (T5.setTop (mkF m 47 #[.val (.int p1), .val (.long q2), .second, .val (.int p3), .val (.int (1 : Int32)), .val (.ref w_BINARY64), .val (.long (9218868437227405312 : Int64)), .second, .unset, .unset, .unset, .unset, .unset, .unset] [(.int (1 : Int32))])) _
    refine XS.ifNo X5.here hx rfl (hb hby at_47) rfl ((if0 _ _).trans (feq hc47).1) ?_
    show Steps p.tables e below (T5.setTop (mkF m 50 #[.val (.int p1), .val (.long q2), .second, .val (.int p3), .val (.int (1 : Int32)), .val (.ref w_BINARY64), .val (.long (9218868437227405312 : Int64)), .second, .unset, .unset, .unset, .unset, .unset, .unset] [])) _
    refine X5.ldc2Long hx hown (mvT hZ (hw _ (List.mem_of_getElem? (i := 23) rfl))) (g := (mkF m 50 #[.val (.int p1), .val (.long q2), .second, .val (.int p3), .val (.int (1 : Int32)), .val (.ref w_BINARY64), .val (.long (9218868437227405312 : Int64)), .second, .unset, .unset, .unset, .unset, .unset, .unset] [])) rfl (hb hby at_50) _ ?_
    show Steps p.tables e below (T5.setTop (mkF m 53 #[.val (.int p1), .val (.long q2), .second, .val (.int p3), .val (.int (1 : Int32)), .val (.ref w_BINARY64), .val (.long (9218868437227405312 : Int64)), .second, .unset, .unset, .unset, .unset, .unset, .unset] [(.long (4503599627370496 : Int64))])) _
    refine XS.goto X5.here hx rfl (pc0 := 53) (pc' := 59) rfl (hb hby at_53) (by decide) (by decide) ?_
    show Steps p.tables e below (T5.setTop (mkF m 59 #[.val (.int p1), .val (.long q2), .second, .val (.int p3), .val (.int (1 : Int32)), .val (.ref w_BINARY64), .val (.long (9218868437227405312 : Int64)), .second, .unset, .unset, .unset, .unset, .unset, .unset] [(.long (4503599627370496 : Int64))])) _
    refine XS.lstore X5.here hx rfl (hb hby at_59) rfl (l' := #[.val (.int p1), .val (.long q2), .second, .val (.int p3), .val (.int (1 : Int32)), .val (.ref w_BINARY64), .val (.long (9218868437227405312 : Int64)), .second, .val (.long (4503599627370496 : Int64)), .second, .unset, .unset, .unset, .unset]) rfl ?_
    show Steps p.tables e below (T5.setTop (mkF m 61 #[.val (.int p1), .val (.long q2), .second, .val (.int p3), .val (.int (1 : Int32)), .val (.ref w_BINARY64), .val (.long (9218868437227405312 : Int64)), .second, .val (.long (4503599627370496 : Int64)), .second, .unset, .unset, .unset, .unset] [])) _
    refine XS.iload X5.here hx rfl (hb hby at_61) rfl ?_
    show Steps p.tables e below (T5.setTop (mkF m 63 #[.val (.int p1), .val (.long q2), .second, .val (.int p3), .val (.int (1 : Int32)), .val (.ref w_BINARY64), .val (.long (9218868437227405312 : Int64)), .second, .val (.long (4503599627370496 : Int64)), .second, .unset, .unset, .unset, .unset] [(.int (1 : Int32))])) _
    refine XS.ifNo X5.here hx rfl (hb hby at_63) rfl ((if0 _ _).trans (feq hc63).1) ?_
    show Steps p.tables e below (T5.setTop (mkF m 66 #[.val (.int p1), .val (.long q2), .second, .val (.int p3), .val (.int (1 : Int32)), .val (.ref w_BINARY64), .val (.long (9218868437227405312 : Int64)), .second, .val (.long (4503599627370496 : Int64)), .second, .unset, .unset, .unset, .unset] [])) _
    refine XS.lloadN X5.here hx rfl (hb hby at_66) rfl ?_
    show Steps p.tables e below (T5.setTop (mkF m 67 #[.val (.int p1), .val (.long q2), .second, .val (.int p3), .val (.int (1 : Int32)), .val (.ref w_BINARY64), .val (.long (9218868437227405312 : Int64)), .second, .val (.long (4503599627370496 : Int64)), .second, .unset, .unset, .unset, .unset] [(.long q2)])) _
    refine XS.goto X5.here hx rfl (pc0 := 67) (pc' := 75) rfl (hb hby at_67) (by decide) (by decide) ?_
    show Steps p.tables e below (T5.setTop (mkF m 75 #[.val (.int p1), .val (.long q2), .second, .val (.int p3), .val (.int (1 : Int32)), .val (.ref w_BINARY64), .val (.long (9218868437227405312 : Int64)), .second, .val (.long (4503599627370496 : Int64)), .second, .unset, .unset, .unset, .unset] [(.long q2)])) _
    refine XS.lstore X5.here hx rfl (hb hby at_75) rfl (l' := #[.val (.int p1), .val (.long q2), .second, .val (.int p3), .val (.int (1 : Int32)), .val (.ref w_BINARY64), .val (.long (9218868437227405312 : Int64)), .second, .val (.long (4503599627370496 : Int64)), .second, .val (.long q2), .second, .unset, .unset]) rfl ?_
    show Steps p.tables e below (T5.setTop (mkF m 77 #[.val (.int p1), .val (.long q2), .second, .val (.int p3), .val (.int (1 : Int32)), .val (.ref w_BINARY64), .val (.long (9218868437227405312 : Int64)), .second, .val (.long (4503599627370496 : Int64)), .second, .val (.long q2), .second, .unset, .unset] [])) _
    refine XS.iloadN X5.here hx rfl (hb hby at_77) rfl ?_
    show Steps p.tables e below (T5.setTop (mkF m 78 #[.val (.int p1), .val (.long q2), .second, .val (.int p3), .val (.int (1 : Int32)), .val (.ref w_BINARY64), .val (.long (9218868437227405312 : Int64)), .second, .val (.long (4503599627370496 : Int64)), .second, .val (.long q2), .second, .unset, .unset] [(.int p3)])) _
    refine XS.iconst X5.here hx rfl (hb hby at_78) ?_
    show Steps p.tables e below (T5.setTop (mkF m 79 #[.val (.int p1), .val (.long q2), .second, .val (.int p3), .val (.int (1 : Int32)), .val (.ref w_BINARY64), .val (.long (9218868437227405312 : Int64)), .second, .val (.long (4503599627370496 : Int64)), .second, .val (.long q2), .second, .unset, .unset] [(.int (3 : Int32)), (.int p3)])) _
    refine XS.iand X5.here hx rfl (hb hby at_79) rfl ?_
    show Steps p.tables e below (T5.setTop (mkF m 80 #[.val (.int p1), .val (.long q2), .second, .val (.int p3), .val (.int (1 : Int32)), .val (.ref w_BINARY64), .val (.long (9218868437227405312 : Int64)), .second, .val (.long (4503599627370496 : Int64)), .second, .val (.long q2), .second, .unset, .unset] [(.int (p3 &&& (3 : Int32)))])) _
    refine XS.istore X5.here hx rfl (hb hby at_80) rfl (l' := #[.val (.int p1), .val (.long q2), .second, .val (.int p3), .val (.int (1 : Int32)), .val (.ref w_BINARY64), .val (.long (9218868437227405312 : Int64)), .second, .val (.long (4503599627370496 : Int64)), .second, .val (.long q2), .second, .val (.int (p3 &&& (3 : Int32))), .unset]) rfl ?_
    show Steps p.tables e below (T5.setTop (mkF m 82 #[.val (.int p1), .val (.long q2), .second, .val (.int p3), .val (.int (1 : Int32)), .val (.ref w_BINARY64), .val (.long (9218868437227405312 : Int64)), .second, .val (.long (4503599627370496 : Int64)), .second, .val (.long q2), .second, .val (.int (p3 &&& (3 : Int32))), .unset] [])) _
    refine XS.iload X5.here hx rfl (hb hby at_82) rfl ?_
    show Steps p.tables e below (T5.setTop (mkF m 84 #[.val (.int p1), .val (.long q2), .second, .val (.int p3), .val (.int (1 : Int32)), .val (.ref w_BINARY64), .val (.long (9218868437227405312 : Int64)), .second, .val (.long (4503599627370496 : Int64)), .second, .val (.long q2), .second, .val (.int (p3 &&& (3 : Int32))), .unset] [(.int (p3 &&& (3 : Int32)))])) _
    refine XS.iconst X5.here hx rfl (hb hby at_84) ?_
    show Steps p.tables e below (T5.setTop (mkF m 85 #[.val (.int p1), .val (.long q2), .second, .val (.int p3), .val (.int (1 : Int32)), .val (.ref w_BINARY64), .val (.long (9218868437227405312 : Int64)), .second, .val (.long (4503599627370496 : Int64)), .second, .val (.long q2), .second, .val (.int (p3 &&& (3 : Int32))), .unset] [(.int (1 : Int32)), (.int (p3 &&& (3 : Int32)))])) _
    refine XS.icmpNo X5.here hx rfl (hb hby at_85) rfl (teq hc85).2 ?_
    show Steps p.tables e below (T5.setTop (mkF m 88 #[.val (.int p1), .val (.long q2), .second, .val (.int p3), .val (.int (1 : Int32)), .val (.ref w_BINARY64), .val (.long (9218868437227405312 : Int64)), .second, .val (.long (4503599627370496 : Int64)), .second, .val (.long q2), .second, .val (.int (p3 &&& (3 : Int32))), .unset] [])) _
    refine XS.lload X5.here hx rfl (hb hby at_88) rfl ?_
    show Steps p.tables e below (T5.setTop (mkF m 90 #[.val (.int p1), .val (.long q2), .second, .val (.int p3), .val (.int (1 : Int32)), .val (.ref w_BINARY64), .val (.long (9218868437227405312 : Int64)), .second, .val (.long (4503599627370496 : Int64)), .second, .val (.long q2), .second, .val (.int (p3 &&& (3 : Int32))), .unset] [(.long q2)])) _
    refine XS.lload X5.here hx rfl (hb hby at_90) rfl ?_
    show Steps p.tables e below (T5.setTop (mkF m 92 #[.val (.int p1), .val (.long q2), .second, .val (.int p3), .val (.int (1 : Int32)), .val (.ref w_BINARY64), .val (.long (9218868437227405312 : Int64)), .second, .val (.long (4503599627370496 : Int64)), .second, .val (.long q2), .second, .val (.int (p3 &&& (3 : Int32))), .unset] [(.long (9218868437227405312 : Int64)), (.long q2)])) _
    refine XS.lor X5.here hx rfl (hb hby at_92) rfl ?_
    show Steps p.tables e below (T5.setTop (mkF m 93 #[.val (.int p1), .val (.long q2), .second, .val (.int p3), .val (.int (1 : Int32)), .val (.ref w_BINARY64), .val (.long (9218868437227405312 : Int64)), .second, .val (.long (4503599627370496 : Int64)), .second, .val (.long q2), .second, .val (.int (p3 &&& (3 : Int32))), .unset] [(.long (q2 ||| (9218868437227405312 : Int64)))])) _
    refine XS.lstore X5.here hx rfl (hb hby at_93) rfl (l' := #[.val (.int p1), .val (.long q2), .second, .val (.int p3), .val (.int (1 : Int32)), .val (.ref w_BINARY64), .val (.long (9218868437227405312 : Int64)), .second, .val (.long (4503599627370496 : Int64)), .second, .val (.long (q2 ||| (9218868437227405312 : Int64))), .second, .val (.int (p3 &&& (3 : Int32))), .unset]) rfl ?_
    show Steps p.tables e below (T5.setTop (mkF m 95 #[.val (.int p1), .val (.long q2), .second, .val (.int p3), .val (.int (1 : Int32)), .val (.ref w_BINARY64), .val (.long (9218868437227405312 : Int64)), .second, .val (.long (4503599627370496 : Int64)), .second, .val (.long (q2 ||| (9218868437227405312 : Int64))), .second, .val (.int (p3 &&& (3 : Int32))), .unset] [])) _
    refine XS.goto X5.here hx rfl (pc0 := 95) (pc' := 138) rfl (hb hby at_95) (by decide) (by decide) ?_
    show Steps p.tables e below (T5.setTop (mkF m 138 #[.val (.int p1), .val (.long q2), .second, .val (.int p3), .val (.int (1 : Int32)), .val (.ref w_BINARY64), .val (.long (9218868437227405312 : Int64)), .second, .val (.long (4503599627370496 : Int64)), .second, .val (.long (q2 ||| (9218868437227405312 : Int64))), .second, .val (.int (p3 &&& (3 : Int32))), .unset] [])) _
    refine XS.lload X5.here hx rfl (hb hby at_138) rfl ?_
    show Steps p.tables e below (T5.setTop (mkF m 140 #[.val (.int p1), .val (.long q2), .second, .val (.int p3), .val (.int (1 : Int32)), .val (.ref w_BINARY64), .val (.long (9218868437227405312 : Int64)), .second, .val (.long (4503599627370496 : Int64)), .second, .val (.long (q2 ||| (9218868437227405312 : Int64))), .second, .val (.int (p3 &&& (3 : Int32))), .unset] [(.long (q2 ||| (9218868437227405312 : Int64)))])) _
    refine XS.lload X5.here hx rfl (hb hby at_140) rfl ?_
    show Steps p.tables e below (T5.setTop (mkF m 142 #[.val (.int p1), .val (.long q2), .second, .val (.int p3), .val (.int (1 : Int32)), .val (.ref w_BINARY64), .val (.long (9218868437227405312 : Int64)), .second, .val (.long (4503599627370496 : Int64)), .second, .val (.long (q2 ||| (9218868437227405312 : Int64))), .second, .val (.int (p3 &&& (3 : Int32))), .unset] [(.long (9218868437227405312 : Int64)), (.long (q2 ||| (9218868437227405312 : Int64)))])) _
    refine XS.land X5.here hx rfl (hb hby at_142) rfl ?_
    show Steps p.tables e below (T5.setTop (mkF m 143 #[.val (.int p1), .val (.long q2), .second, .val (.int p3), .val (.int (1 : Int32)), .val (.ref w_BINARY64), .val (.long (9218868437227405312 : Int64)), .second, .val (.long (4503599627370496 : Int64)), .second, .val (.long (q2 ||| (9218868437227405312 : Int64))), .second, .val (.int (p3 &&& (3 : Int32))), .unset] [(.long ((q2 ||| (9218868437227405312 : Int64)) &&& (9218868437227405312 : Int64)))])) _
    refine XS.lload X5.here hx rfl (hb hby at_143) rfl ?_
    show Steps p.tables e below (T5.setTop (mkF m 145 #[.val (.int p1), .val (.long q2), .second, .val (.int p3), .val (.int (1 : Int32)), .val (.ref w_BINARY64), .val (.long (9218868437227405312 : Int64)), .second, .val (.long (4503599627370496 : Int64)), .second, .val (.long (q2 ||| (9218868437227405312 : Int64))), .second, .val (.int (p3 &&& (3 : Int32))), .unset] [(.long (9218868437227405312 : Int64)), (.long ((q2 ||| (9218868437227405312 : Int64)) &&& (9218868437227405312 : Int64)))])) _
    refine XS.lcmp X5.here hx rfl (hb hby at_145) rfl ?_
    show Steps p.tables e below (T5.setTop (mkF m 146 #[.val (.int p1), .val (.long q2), .second, .val (.int p3), .val (.int (1 : Int32)), .val (.ref w_BINARY64), .val (.long (9218868437227405312 : Int64)), .second, .val (.long (4503599627370496 : Int64)), .second, .val (.long (q2 ||| (9218868437227405312 : Int64))), .second, .val (.int (p3 &&& (3 : Int32))), .unset] [(.int (lcmpW ((q2 ||| (9218868437227405312 : Int64)) &&& (9218868437227405312 : Int64)) (9218868437227405312 : Int64)))])) _
    refine XS.ifYes X5.here hx rfl (pc0 := 146) (pc' := 153) rfl (hb hby at_146) rfl ((if0 _ _).trans (teq hc146).1) (by decide) (by decide) ?_
    show Steps p.tables e below (T5.setTop (mkF m 153 #[.val (.int p1), .val (.long q2), .second, .val (.int p3), .val (.int (1 : Int32)), .val (.ref w_BINARY64), .val (.long (9218868437227405312 : Int64)), .second, .val (.long (4503599627370496 : Int64)), .second, .val (.long (q2 ||| (9218868437227405312 : Int64))), .second, .val (.int (p3 &&& (3 : Int32))), .unset] [])) _
    refine XS.iconst X5.here hx rfl (hb hby at_153) ?_
    show Steps p.tables e below (T5.setTop (mkF m 154 #[.val (.int p1), .val (.long q2), .second, .val (.int p3), .val (.int (1 : Int32)), .val (.ref w_BINARY64), .val (.long (9218868437227405312 : Int64)), .second, .val (.long (4503599627370496 : Int64)), .second, .val (.long (q2 ||| (9218868437227405312 : Int64))), .second, .val (.int (p3 &&& (3 : Int32))), .unset] [(.int (0 : Int32))])) _
    refine XS.istore X5.here hx rfl (hb hby at_154) rfl (l' := #[.val (.int p1), .val (.long q2), .second, .val (.int p3), .val (.int (1 : Int32)), .val (.ref w_BINARY64), .val (.long (9218868437227405312 : Int64)), .second, .val (.long (4503599627370496 : Int64)), .second, .val (.long (q2 ||| (9218868437227405312 : Int64))), .second, .val (.int (p3 &&& (3 : Int32))), .val (.int (0 : Int32))]) rfl ?_
    show Steps p.tables e below (T5.setTop (mkF m 156 #[.val (.int p1), .val (.long q2), .second, .val (.int p3), .val (.int (1 : Int32)), .val (.ref w_BINARY64), .val (.long (9218868437227405312 : Int64)), .second, .val (.long (4503599627370496 : Int64)), .second, .val (.long (q2 ||| (9218868437227405312 : Int64))), .second, .val (.int (p3 &&& (3 : Int32))), .val (.int (0 : Int32))] [])) _
    refine XS.aload X5.here hx rfl (hb hby at_156) rfl rfl ?_
    show Steps p.tables e below (T5.setTop (mkF m 158 #[.val (.int p1), .val (.long q2), .second, .val (.int p3), .val (.int (1 : Int32)), .val (.ref w_BINARY64), .val (.long (9218868437227405312 : Int64)), .second, .val (.long (4503599627370496 : Int64)), .second, .val (.long (q2 ||| (9218868437227405312 : Int64))), .second, .val (.int (p3 &&& (3 : Int32))), .val (.int (0 : Int32))] [(.ref w_BINARY64)])) _
    refine XS.lload X5.here hx rfl (hb hby at_158) rfl ?_
    show Steps p.tables e below (T5.setTop (mkF m 160 #[.val (.int p1), .val (.long q2), .second, .val (.int p3), .val (.int (1 : Int32)), .val (.ref w_BINARY64), .val (.long (9218868437227405312 : Int64)), .second, .val (.long (4503599627370496 : Int64)), .second, .val (.long (q2 ||| (9218868437227405312 : Int64))), .second, .val (.int (p3 &&& (3 : Int32))), .val (.int (0 : Int32))] [(.long (q2 ||| (9218868437227405312 : Int64))), (.ref w_BINARY64)])) _
    refine st6.trans ?_
    show Steps p.tables e below (T6.setTop (mkF m 163 #[.val (.int p1), .val (.long q2), .second, .val (.int p3), .val (.int (1 : Int32)), .val (.ref w_BINARY64), .val (.long (9218868437227405312 : Int64)), .second, .val (.long (4503599627370496 : Int64)), .second, .val (.long (q2 ||| (9218868437227405312 : Int64))), .second, .val (.int (p3 &&& (3 : Int32))), .val (.int (0 : Int32))] [(.int u)])) _
    refine XS.iload X6.here hx rfl (hb hby at_163) rfl ?_
    show Steps p.tables e below (T6.setTop (mkF m 165 #[.val (.int p1), .val (.long q2), .second, .val (.int p3), .val (.int (1 : Int32)), .val (.ref w_BINARY64), .val (.long (9218868437227405312 : Int64)), .second, .val (.long (4503599627370496 : Int64)), .second, .val (.long (q2 ||| (9218868437227405312 : Int64))), .second, .val (.int (p3 &&& (3 : Int32))), .val (.int (0 : Int32))] [(.int (0 : Int32)), (.int u)])) _
    refine XS.icmpNo X6.here hx rfl (hb hby at_165) rfl (teq (hv165 : u = (0 : Int32))).2 ?_
    show Steps p.tables e below (T6.setTop (mkF m 168 #[.val (.int p1), .val (.long q2), .second, .val (.int p3), .val (.int (1 : Int32)), .val (.ref w_BINARY64), .val (.long (9218868437227405312 : Int64)), .second, .val (.long (4503599627370496 : Int64)), .second, .val (.long (q2 ||| (9218868437227405312 : Int64))), .second, .val (.int (p3 &&& (3 : Int32))), .val (.int (0 : Int32))] [])) _
    refine XS.iconst X6.here hx rfl (hb hby at_168) ?_
    show Steps p.tables e below (T6.setTop (mkF m 169 #[.val (.int p1), .val (.long q2), .second, .val (.int p3), .val (.int (1 : Int32)), .val (.ref w_BINARY64), .val (.long (9218868437227405312 : Int64)), .second, .val (.long (4503599627370496 : Int64)), .second, .val (.long (q2 ||| (9218868437227405312 : Int64))), .second, .val (.int (p3 &&& (3 : Int32))), .val (.int (0 : Int32))] [(.int (1 : Int32))])) _
    refine XS.goto X6.here hx rfl (pc0 := 169) (pc' := 173) rfl (hb hby at_169) (by decide) (by decide) ?_
    show Steps p.tables e below (T6.setTop (mkF m 173 #[.val (.int p1), .val (.long q2), .second, .val (.int p3), .val (.int (1 : Int32)), .val (.ref w_BINARY64), .val (.long (9218868437227405312 : Int64)), .second, .val (.long (4503599627370496 : Int64)), .second, .val (.long (q2 ||| (9218868437227405312 : Int64))), .second, .val (.int (p3 &&& (3 : Int32))), .val (.int (0 : Int32))] [(.int (1 : Int32))])) _
    exact retN X6 hx (t := .boolean) Bd.returns (by simp) (hb hby at_173) hr
  · show Q0 Z h0 n0 _ T6.heap _
    exact ⟨rfl, N6⟩
set_option maxRecDepth 65536 in
set_option maxHeartbeats 40000000 in
theorem rm0_ffffffff (l : Launch) (Z : State) (a0 : Array Value) (hw : ∀ d ∈ tables_1, d.before a0 Z = true) (ws : List Jvm.Cond) (p1 : Int32) (q2 : Int64) (p3 : Int32) (w_BINARY64 : Addr) (u : Int32) (h0 : Heap) (n0 : Nat) (Z0 : n0 ≤ h0.size) (S_BINARY64 : Sta Z h0 "com/example/fourfold/fourfold/json/FloatFormat" "BINARY64" "Lcom/example/fourfold/fourfold/json/FloatFormat;" (.ref w_BINARY64)) (E_BINARY64 : Exa Z h0 w_BINARY64 "com/example/fourfold/fourfold/json/FloatFormat") (F_fractionBits_BINARY64 : Fld Z h0 w_BINARY64 "com/example/fourfold/fourfold/json/FloatFormat" "fractionBits" "I" (.int (52 : Int32))) (F_specialExponent_BINARY64 : Fld Z h0 w_BINARY64 "com/example/fourfold/fourfold/json/FloatFormat" "specialExponent" "I" (.int (2047 : Int32))) (hu : finF (q2 ||| (9218868437227405312 : Int64)) (52 : Int32) (2047 : Int32) = u) (hc3 : ¬ ((p1 &&& (1 : Int32)) = (0 : Int32))) (hc15 : ¬ ((1 : Int32) = (0 : Int32))) (hc31 : ¬ ((1 : Int32) = (0 : Int32))) (hc47 : ¬ ((1 : Int32) = (0 : Int32))) (hc63 : ¬ ((1 : Int32) = (0 : Int32))) (hc85 : (p3 &&& (3 : Int32)) = (1 : Int32)) (hc146 : ¬ ((lcmpW ((q2 ||| (9218868437227405312 : Int64)) &&& (9218868437227405312 : Int64)) (9218868437227405312 : Int64)) = (0 : Int32))) (hv165 : u = (1 : Int32)) :
    MetFree l x (head1 (Jvm.Cond.code x code maxLocals ret :: ws) room_1) (fun a U => a = #[(.int p1), (.long q2), (.int p3)] ∧ Z.Warmed39 U.vm ∧ U.heap = h0) (fun _ _ _ _ _ => True) (fun _ U o U' => ∃ v L, o = .returned v ∧ Q0 Z h0 n0 v U'.heap L ∧ FrameEnd U o U' L room_1.cells room_1.slots) := by
  refine MetFree.of_bodySF (plainFor_of_name pn_0) hisR ?_
  intro p e s m args below meth c s₁ Bd hml0 hP hK
  obtain ⟨rfl, hZ, hh⟩ := hP
  have hx := Bd.exec
  have hby := Bd.bytes
  have hml : c.maxLocals = 14 := hml0
  have hown : s.vm.findClass "com/example/fourfold/fourfold/json/FloatFormatIsFinitePinLaw" = some m.cls := findClass_of_methodNamed Bd.named
  have hnm := (name_of_methodNamed Bd.named Bd.method).1
  have X0 : Stand p l e room_1 s m #[(.int p1), (.long q2), (.int p3)] below meth c s₁ [] 0 0 := Stand.of_body Bd
  have e0 : s₁.heap = h0 := by rw [← hh, Bd.state]; rfl
  have N0 := Fr.nil n0
  have pre0 : ∀ t, Steps p.tables e below (s₁.setTop (mkF m 0 #[.val (.int p1), .val (.long q2), .second, .val (.int p3), .unset, .unset, .unset, .unset, .unset, .unset, .unset, .unset, .unset, .unset] [])) t → Steps p.tables e below (s₁.setTop (entryFrame m #[(.int p1), (.long q2), (.int p3)] maxLocals)) t := fun t k => castTop (ef_0 m p1 q2 p3) k
  -- 3. LAWS
  obtain ⟨T5, X5, e5, st5⟩ := getS2 X0 hx hZ hown (host := "") (Or.inl (hw _ (List.mem_of_getElem? (i := 20) rfl))) Via.refl e0 S_BINARY64 (g := (mkF m 18 #[.val (.int p1), .val (.long q2), .second, .val (.int p3), .val (.int (1 : Int32)), .unset, .unset, .unset, .unset, .unset, .unset, .unset, .unset, .unset] [])) rfl (hb hby at_18)
  -- pc 160: com/example/fourfold/fourfold/json/FloatFormat.isFinite by the contract of the body that the receiver's class selects, rm1
  obtain ⟨cq6, kq6, q6a, q6b, q6c⟩ := isOf hZ e5 E_BINARY64
  obtain ⟨_, _, ⟨T6, L6, k6, n6⟩, -, X6, ⟨Lc6, hQ6, l6, y6, z6⟩, st6⟩ := X5.virtualBack hx (y := (⟨"com/example/fourfold/fourfold/json/FloatFormat", "isFinite", "(J)Z"⟩ : MethodName)) (z := (⟨"com/example/fourfold/fourfold/json/FloatFormat", "isFinite", "(J)Z"⟩ : MethodName)) hown (mvT hZ (hw _ (List.mem_of_getElem? (i := 6) rfl))) (mvT hZ (hw _ (List.mem_of_getElem? (i := 7) rfl))) (notFace_of_selects (args := #[]) (mvT hZ (hw _ (List.mem_of_getElem? (i := 9) rfl)))) (mvT hZ (hw _ (List.mem_of_getElem? (i := 9) rfl))) (mvT hZ (hw _ (List.mem_of_getElem? (i := 8) rfl))) (by decide) (backOf (W := 0) (rm1 l Z a0 hw [] w_BINARY64 (q2 ||| (9218868437227405312 : Int64)) (2047 : Int32) (52 : Int32) h0 n0 Z0 E_BINARY64 F_specialExponent_BINARY64 F_fractionBits_BINARY64) hZ (hw _ (List.mem_of_getElem? (i := 10) rfl)) (hw _ (List.mem_of_getElem? (i := 1) rfl)) (by decide) (by decide)) q6a q6c (g := (mkF m 160 #[.val (.int p1), .val (.long q2), .second, .val (.int p3), .val (.int (1 : Int32)), .val (.ref w_BINARY64), .val (.long (9218868437227405312 : Int64)), .second, .val (.long (4503599627370496 : Int64)), .second, .val (.long (q2 ||| (9218868437227405312 : Int64))), .second, .val (.int (p3 &&& (3 : Int32))), .val (.int (1 : Int32))] [(.long (q2 ||| (9218868437227405312 : Int64))), (.ref w_BINARY64)])) rfl (by rw [hml]; rfl) (Steps.refl _) (argsL := [(.long (q2 ||| (9218868437227405312 : Int64)))]) (rest := []) (lenOf pd_0_0 rfl) rfl (by show 2 * 0 + _ ≤ _; exact Nat.le_of_eq rfl) (hb hby at_160) (fun _ _ => ⟨rfl, e5, (by decide : 0 + 0 ≤ _), (by decide : 0 + 0 ≤ _)⟩)
  dsimp only [Pt.U, Pt.locs, Pt.cells, Pt.slots] at X6 l6 y6 z6 st6 hQ6
  subst l6 y6 z6
  obtain ⟨rv6, N6q, q6⟩ := hQ6
  rw [hu] at rv6
  subst rv6
  have N6 := Fr.app N0 N6q
  obtain ⟨fs, hr, hrun, hended, hW, hsame⟩ := X6.leave (v := some (.int (1 : Int32))) (fun h => by rw [Bd.returns] at h; cases h)
  refine ⟨_, _, pre0 _ ?_, hrun, hended, _, _, rfl, ?_, ⟨_, rfl⟩, hW, hsame.mono (by decide) (by decide)⟩
  -- 4. STEPS
  · show Steps p.tables e below (s₁.setTop (mkF m 0 #[.val (.int p1), .val (.long q2), .second, .val (.int p3), .unset, .unset, .unset, .unset, .unset, .unset, .unset, .unset, .unset, .unset] [])) _
    refine XS.iloadN X0.here hx rfl (hb hby at_0) rfl ?_
    show Steps p.tables e below (s₁.setTop (mkF m 1 #[.val (.int p1), .val (.long q2), .second, .val (.int p3), .unset, .unset, .unset, .unset, .unset, .unset, .unset, .unset, .unset, .unset] [(.int p1)])) _
    refine XS.iconst X0.here hx rfl (hb hby at_1) ?_
    show Steps p.tables e below (s₁.setTop (mkF m 2 #[.val (.int p1), .val (.long q2), .second, .val (.int p3), .unset, .unset, .unset, .unset, .unset, .unset, .unset, .unset, .unset, .unset] [(.int (1 : Int32)), (.int p1)])) _
    refine XS.iand X0.here hx rfl (hb hby at_2) rfl ?_
    show Steps p.tables e below (s₁.setTop (mkF m 3 #[.val (.int p1), .val (.long q2), .second, .val (.int p3), .unset, .unset, .unset, .unset, .unset, .unset, .unset, .unset, .unset, .unset] [(.int (p1 &&& (1 : Int32)))])) _
    refine XS.ifNo X0.here hx rfl (hb hby at_3) rfl ((if0 _ _).trans (feq hc3).1) ?_
    show Steps p.tables e below (s₁.setTop (mkF m 6 #[.val (.int p1), .val (.long q2), .second, .val (.int p3), .unset, .unset, .unset, .unset, .unset, .unset, .unset, .unset, .unset, .unset] [])) _
    refine XS.iconst X0.here hx rfl (hb hby at_6) ?_
    show Steps p.tables e below (s₁.setTop (mkF m 7 #[.val (.int p1), .val (.long q2), .second, .val (.int p3), .unset, .unset, .unset, .unset, .unset, .unset, .unset, .unset, .unset, .unset] [(.int (1 : Int32))])) _
    refine XS.goto X0.here hx rfl (pc0 := 7) (pc' := 11) rfl (hb hby at_7) (by decide) (by decide) ?_
    show Steps p.tables e below (s₁.setTop (mkF m 11 #[.val (.int p1), .val (.long q2), .second, .val (.int p3), .unset, .unset, .unset, .unset, .unset, .unset, .unset, .unset, .unset, .unset] [(.int (1 : Int32))])) _
    refine XS.istore X0.here hx rfl (hb hby at_11) rfl (l' := #[.val (.int p1), .val (.long q2), .second, .val (.int p3), .val (.int (1 : Int32)), .unset, .unset, .unset, .unset, .unset, .unset, .unset, .unset, .unset]) rfl ?_
    show Steps p.tables e below (s₁.setTop (mkF m 13 #[.val (.int p1), .val (.long q2), .second, .val (.int p3), .val (.int (1 : Int32)), .unset, .unset, .unset, .unset, .unset, .unset, .unset, .unset, .unset] [])) _
    refine XS.iload X0.here hx rfl (hb hby at_13) rfl ?_
    show Steps p.tables e below (s₁.setTop (mkF m 15 #[.val (.int p1), .val (.long q2), .second, .val (.int p3), .val (.int (1 : Int32)), .unset, .unset, .unset, .unset, .unset, .unset, .unset, .unset, .unset] [(.int (1 : Int32))])) _
    refine XS.ifNo X0.here hx rfl (hb hby at_15) rfl ((if0 _ _).trans (feq hc15).1) ?_
    show Steps p.tables e below (s₁.setTop (mkF m 18 #[.val (.int p1), .val (.long q2), .second, .val (.int p3), .val (.int (1 : Int32)), .unset, .unset, .unset, .unset, .unset, .unset, .unset, .unset, .unset] [])) _
    refine st5 _ ?_
    show Steps p.tables e below (T5.setTop (mkF m 21 #[.val (.int p1), .val (.long q2), .second, .val (.int p3), .val (.int (1 : Int32)), .unset, .unset, .unset, .unset, .unset, .unset, .unset, .unset, .unset] [(.ref w_BINARY64)])) _
    refine XS.goto X5.here hx rfl (pc0 := 21) (pc' := 27) rfl (hb hby at_21) (by decide) (by decide) ?_
    show Steps p.tables e below (T5.setTop (mkF m 27 #[.val (.int p1), .val (.long q2), .second, .val (.int p3), .val (.int (1 : Int32)), .unset, .unset, .unset, .unset, .unset, .unset, .unset, .unset, .unset] [(.ref w_BINARY64)])) _
    refine XS.astore X5.here hx rfl (hb hby at_27) rfl rfl (l' := #[.val (.int p1), .val (.long q2), .second, .val (.int p3), .val (.int (1 : Int32)), .val (.ref w_BINARY64), .unset, .unset, .unset, .unset, .unset, .unset, .unset, .unset]) rfl ?_
    show Steps p.tables e below (T5.setTop (mkF m 29 #[.val (.int p1), .val (.long q2), .second, .val (.int p3), .val (.int (1 : Int32)), .val (.ref w_BINARY64), .unset, .unset, .unset, .unset, .unset, .unset, .unset, .unset] [])) _
    refine XS.iload X5.here hx rfl (hb hby at_29) rfl ?_
    show Steps p.tables e below (T5.setTop (mkF m 31 #[.val (.int p1), .val (.long q2), .second, .val (.int p3), .val (.int (1 : Int32)), .val (.ref w_BINARY64), .unset, .unset, .unset, .unset, .unset, .unset, .unset, .unset] [(.int (1 : Int32))])) _
    refine XS.ifNo X5.here hx rfl (hb hby at_31) rfl ((if0 _ _).trans (feq hc31).1) ?_
    show Steps p.tables e below (T5.setTop (mkF m 34 #[.val (.int p1), .val (.long q2), .second, .val (.int p3), .val (.int (1 : Int32)), .val (.ref w_BINARY64), .unset, .unset, .unset, .unset, .unset, .unset, .unset, .unset] [])) _
    refine X5.ldc2Long hx hown (mvT hZ (hw _ (List.mem_of_getElem? (i := 22) rfl))) (g := (mkF m 34 #[.val (.int p1), .val (.long q2), .second, .val (.int p3), .val (.int (1 : Int32)), .val (.ref w_BINARY64), .unset, .unset, .unset, .unset, .unset, .unset, .unset, .unset] [])) rfl (hb hby at_34) _ ?_
    show Steps p.tables e below (T5.setTop (mkF m 37 #[.val (.int p1), .val (.long q2), .second, .val (.int p3), .val (.int (1 : Int32)), .val (.ref w_BINARY64), .unset, .unset, .unset, .unset, .unset, .unset, .unset, .unset] [(.long (9218868437227405312 : Int64))])) _
    refine XS.goto X5.here hx rfl (pc0 := 37) (pc' := 43) rfl (hb hby at_37) (by decide) (by decide) ?_
    show Steps p.tables e below (T5.setTop (mkF m 43 #[.val (.int p1), .val (.long q2), .second, .val (.int p3), .val (.int (1 : Int32)), .val (.ref w_BINARY64), .unset, .unset, .unset, .unset, .unset, .unset, .unset, .unset] [(.long (9218868437227405312 : Int64))])) _
    refine XS.lstore X5.here hx rfl (hb hby at_43) rfl (l' := #[.val (.int p1), .val (.long q2), .second, .val (.int p3), .val (.int (1 : Int32)), .val (.ref w_BINARY64), .val (.long (9218868437227405312 : Int64)), .second, .unset, .unset, .unset, .unset, .unset, .unset]) rfl ?_
    show Steps p.tables e below (T5.setTop (mkF m 45 #[.val (.int p1), .val (.long q2), .second, .val (.int p3), .val (.int (1 : Int32)), .val (.ref w_BINARY64), .val (.long (9218868437227405312 : Int64)), .second, .unset, .unset, .unset, .unset, .unset, .unset] [])) _
    refine XS.iload X5.here hx rfl (hb hby at_45) rfl ?_
    show Steps p.tables e below (T5.setTop (mkF m 47 #[.val (.int p1), .val (.long q2), .second, .val (.int p3), .val (.int (1 : Int32)), .val (.ref w_BINARY64), .val (.long (9218868437227405312 : Int64)), .second, .unset, .unset, .unset, .unset, .unset, .unset] [(.int (1 : Int32))])) _
    refine XS.ifNo X5.here hx rfl (hb hby at_47) rfl ((if0 _ _).trans (feq hc47).1) ?_
    show Steps p.tables e below (T5.setTop (mkF m 50 #[.val (.int p1), .val (.long q2), .second, .val (.int p3), .val (.int (1 : Int32)), .val (.ref w_BINARY64), .val (.long (9218868437227405312 : Int64)), .second, .unset, .unset, .unset, .unset, .unset, .unset] [])) _
    refine X5.ldc2Long hx hown (mvT hZ (hw _ (List.mem_of_getElem? (i := 23) rfl))) (g := (mkF m 50 #[.val (.int p1), .val (.long q2), .second, .val (.int p3), .val (.int (1 : Int32)), .val (.ref w_BINARY64), .val (.long (9218868437227405312 : Int64)), .second, .unset, .unset, .unset, .unset, .unset, .unset] [])) rfl (hb hby at_50) _ ?_
    show Steps p.tables e below (T5.setTop (mkF m 53 #[.val (.int p1), .val (.long q2), .second, .val (.int p3), .val (.int (1 : Int32)), .val (.ref w_BINARY64), .val (.long (9218868437227405312 : Int64)), .second, .unset, .unset, .unset, .unset, .unset, .unset] [(.long (4503599627370496 : Int64))])) _
    refine XS.goto X5.here hx rfl (pc0 := 53) (pc' := 59) rfl (hb hby at_53) (by decide) (by decide) ?_
    show Steps p.tables e below (T5.setTop (mkF m 59 #[.val (.int p1), .val (.long q2), .second, .val (.int p3), .val (.int (1 : Int32)), .val (.ref w_BINARY64), .val (.long (9218868437227405312 : Int64)), .second, .unset, .unset, .unset, .unset, .unset, .unset] [(.long (4503599627370496 : Int64))])) _
    refine XS.lstore X5.here hx rfl (hb hby at_59) rfl (l' := #[.val (.int p1), .val (.long q2), .second, .val (.int p3), .val (.int (1 : Int32)), .val (.ref w_BINARY64), .val (.long (9218868437227405312 : Int64)), .second, .val (.long (4503599627370496 : Int64)), .second, .unset, .unset, .unset, .unset]) rfl ?_
    show Steps p.tables e below (T5.setTop (mkF m 61 #[.val (.int p1), .val (.long q2), .second, .val (.int p3), .val (.int (1 : Int32)), .val (.ref w_BINARY64), .val (.long (9218868437227405312 : Int64)), .second, .val (.long (4503599627370496 : Int64)), .second, .unset, .unset, .unset, .unset] [])) _
    refine XS.iload X5.here hx rfl (hb hby at_61) rfl ?_
    show Steps p.tables e below (T5.setTop (mkF m 63 #[.val (.int p1), .val (.long q2), .second, .val (.int p3), .val (.int (1 : Int32)), .val (.ref w_BINARY64), .val (.long (9218868437227405312 : Int64)), .second, .val (.long (4503599627370496 : Int64)), .second, .unset, .unset, .unset, .unset] [(.int (1 : Int32))])) _
    refine XS.ifNo X5.here hx rfl (hb hby at_63) rfl ((if0 _ _).trans (feq hc63).1) ?_
    show Steps p.tables e below (T5.setTop (mkF m 66 #[.val (.int p1), .val (.long q2), .second, .val (.int p3), .val (.int (1 : Int32)), .val (.ref w_BINARY64), .val (.long (9218868437227405312 : Int64)), .second, .val (.long (4503599627370496 : Int64)), .second, .unset, .unset, .unset, .unset] [])) _
    refine XS.lloadN X5.here hx rfl (hb hby at_66) rfl ?_
    show Steps p.tables e below (T5.setTop (mkF m 67 #[.val (.int p1), .val (.long q2), .second, .val (.int p3), .val (.int (1 : Int32)), .val (.ref w_BINARY64), .val (.long (9218868437227405312 : Int64)), .second, .val (.long (4503599627370496 : Int64)), .second, .unset, .unset, .unset, .unset] [(.long q2)])) _
    refine XS.goto X5.here hx rfl (pc0 := 67) (pc' := 75) rfl (hb hby at_67) (by decide) (by decide) ?_
    show Steps p.tables e below (T5.setTop (mkF m 75 #[.val (.int p1), .val (.long q2), .second, .val (.int p3), .val (.int (1 : Int32)), .val (.ref w_BINARY64), .val (.long (9218868437227405312 : Int64)), .second, .val (.long (4503599627370496 : Int64)), .second, .unset, .unset, .unset, .unset] [(.long q2)])) _
    refine XS.lstore X5.here hx rfl (hb hby at_75) rfl (l' := #[.val (.int p1), .val (.long q2), .second, .val (.int p3), .val (.int (1 : Int32)), .val (.ref w_BINARY64), .val (.long (9218868437227405312 : Int64)), .second, .val (.long (4503599627370496 : Int64)), .second, .val (.long q2), .second, .unset, .unset]) rfl ?_
    show Steps p.tables e below (T5.setTop (mkF m 77 #[.val (.int p1), .val (.long q2), .second, .val (.int p3), .val (.int (1 : Int32)), .val (.ref w_BINARY64), .val (.long (9218868437227405312 : Int64)), .second, .val (.long (4503599627370496 : Int64)), .second, .val (.long q2), .second, .unset, .unset] [])) _
    refine XS.iloadN X5.here hx rfl (hb hby at_77) rfl ?_
    show Steps p.tables e below (T5.setTop (mkF m 78 #[.val (.int p1), .val (.long q2), .second, .val (.int p3), .val (.int (1 : Int32)), .val (.ref w_BINARY64), .val (.long (9218868437227405312 : Int64)), .second, .val (.long (4503599627370496 : Int64)), .second, .val (.long q2), .second, .unset, .unset] [(.int p3)])) _
    refine XS.iconst X5.here hx rfl (hb hby at_78) ?_
    show Steps p.tables e below (T5.setTop (mkF m 79 #[.val (.int p1), .val (.long q2), .second, .val (.int p3), .val (.int (1 : Int32)), .val (.ref w_BINARY64), .val (.long (9218868437227405312 : Int64)), .second, .val (.long (4503599627370496 : Int64)), .second, .val (.long q2), .second, .unset, .unset] [(.int (3 : Int32)), (.int p3)])) _
    refine XS.iand X5.here hx rfl (hb hby at_79) rfl ?_
    show Steps p.tables e below (T5.setTop (mkF m 80 #[.val (.int p1), .val (.long q2), .second, .val (.int p3), .val (.int (1 : Int32)), .val (.ref w_BINARY64), .val (.long (9218868437227405312 : Int64)), .second, .val (.long (4503599627370496 : Int64)), .second, .val (.long q2), .second, .unset, .unset] [(.int (p3 &&& (3 : Int32)))])) _
    refine XS.istore X5.here hx rfl (hb hby at_80) rfl (l' := #[.val (.int p1), .val (.long q2), .second, .val (.int p3), .val (.int (1 : Int32)), .val (.ref w_BINARY64), .val (.long (9218868437227405312 : Int64)), .second, .val (.long (4503599627370496 : Int64)), .second, .val (.long q2), .second, .val (.int (p3 &&& (3 : Int32))), .unset]) rfl ?_
    show Steps p.tables e below (T5.setTop (mkF m 82 #[.val (.int p1), .val (.long q2), .second, .val (.int p3), .val (.int (1 : Int32)), .val (.ref w_BINARY64), .val (.long (9218868437227405312 : Int64)), .second, .val (.long (4503599627370496 : Int64)), .second, .val (.long q2), .second, .val (.int (p3 &&& (3 : Int32))), .unset] [])) _
    refine XS.iload X5.here hx rfl (hb hby at_82) rfl ?_
    show Steps p.tables e below (T5.setTop (mkF m 84 #[.val (.int p1), .val (.long q2), .second, .val (.int p3), .val (.int (1 : Int32)), .val (.ref w_BINARY64), .val (.long (9218868437227405312 : Int64)), .second, .val (.long (4503599627370496 : Int64)), .second, .val (.long q2), .second, .val (.int (p3 &&& (3 : Int32))), .unset] [(.int (p3 &&& (3 : Int32)))])) _
    refine XS.iconst X5.here hx rfl (hb hby at_84) ?_
    show Steps p.tables e below (T5.setTop (mkF m 85 #[.val (.int p1), .val (.long q2), .second, .val (.int p3), .val (.int (1 : Int32)), .val (.ref w_BINARY64), .val (.long (9218868437227405312 : Int64)), .second, .val (.long (4503599627370496 : Int64)), .second, .val (.long q2), .second, .val (.int (p3 &&& (3 : Int32))), .unset] [(.int (1 : Int32)), (.int (p3 &&& (3 : Int32)))])) _
    refine XS.icmpNo X5.here hx rfl (hb hby at_85) rfl (teq hc85).2 ?_
    show Steps p.tables e below (T5.setTop (mkF m 88 #[.val (.int p1), .val (.long q2), .second, .val (.int p3), .val (.int (1 : Int32)), .val (.ref w_BINARY64), .val (.long (9218868437227405312 : Int64)), .second, .val (.long (4503599627370496 : Int64)), .second, .val (.long q2), .second, .val (.int (p3 &&& (3 : Int32))), .unset] [])) _
    refine XS.lload X5.here hx rfl (hb hby at_88) rfl ?_
    show Steps p.tables e below (T5.setTop (mkF m 90 #[.val (.int p1), .val (.long q2), .second, .val (.int p3), .val (.int (1 : Int32)), .val (.ref w_BINARY64), .val (.long (9218868437227405312 : Int64)), .second, .val (.long (4503599627370496 : Int64)), .second, .val (.long q2), .second, .val (.int (p3 &&& (3 : Int32))), .unset] [(.long q2)])) _
    refine XS.lload X5.here hx rfl (hb hby at_90) rfl ?_
    show Steps p.tables e below (T5.setTop (mkF m 92 #[.val (.int p1), .val (.long q2), .second, .val (.int p3), .val (.int (1 : Int32)), .val (.ref w_BINARY64), .val (.long (9218868437227405312 : Int64)), .second, .val (.long (4503599627370496 : Int64)), .second, .val (.long q2), .second, .val (.int (p3 &&& (3 : Int32))), .unset] [(.long (9218868437227405312 : Int64)), (.long q2)])) _
    refine XS.lor X5.here hx rfl (hb hby at_92) rfl ?_
    show Steps p.tables e below (T5.setTop (mkF m 93 #[.val (.int p1), .val (.long q2), .second, .val (.int p3), .val (.int (1 : Int32)), .val (.ref w_BINARY64), .val (.long (9218868437227405312 : Int64)), .second, .val (.long (4503599627370496 : Int64)), .second, .val (.long q2), .second, .val (.int (p3 &&& (3 : Int32))), .unset] [(.long (q2 ||| (9218868437227405312 : Int64)))])) _
    refine XS.lstore X5.here hx rfl (hb hby at_93) rfl (l' := #[.val (.int p1), .val (.long q2), .second, .val (.int p3), .val (.int (1 : Int32)), .val (.ref w_BINARY64), .val (.long (9218868437227405312 : Int64)), .second, .val (.long (4503599627370496 : Int64)), .second, .val (.long (q2 ||| (9218868437227405312 : Int64))), .second, .val (.int (p3 &&& (3 : Int32))), .unset]) rfl ?_
    show Steps p.tables e below (T5.setTop (mkF m 95 #[.val (.int p1), .val (.long q2), .second, .val (.int p3), .val (.int (1 : Int32)), .val (.ref w_BINARY64), .val (.long (9218868437227405312 : Int64)), .second, .val (.long (4503599627370496 : Int64)), .second, .val (.long (q2 ||| (9218868437227405312 : Int64))), .second, .val (.int (p3 &&& (3 : Int32))), .unset] [])) _
    refine XS.goto X5.here hx rfl (pc0 := 95) (pc' := 138) rfl (hb hby at_95) (by decide) (by decide) ?_
    show Steps p.tables e below (T5.setTop (mkF m 138 #[.val (.int p1), .val (.long q2), .second, .val (.int p3), .val (.int (1 : Int32)), .val (.ref w_BINARY64), .val (.long (9218868437227405312 : Int64)), .second, .val (.long (4503599627370496 : Int64)), .second, .val (.long (q2 ||| (9218868437227405312 : Int64))), .second, .val (.int (p3 &&& (3 : Int32))), .unset] [])) _
    refine XS.lload X5.here hx rfl (hb hby at_138) rfl ?_
    show Steps p.tables e below (T5.setTop (mkF m 140 #[.val (.int p1), .val (.long q2), .second, .val (.int p3), .val (.int (1 : Int32)), .val (.ref w_BINARY64), .val (.long (9218868437227405312 : Int64)), .second, .val (.long (4503599627370496 : Int64)), .second, .val (.long (q2 ||| (9218868437227405312 : Int64))), .second, .val (.int (p3 &&& (3 : Int32))), .unset] [(.long (q2 ||| (9218868437227405312 : Int64)))])) _
    refine XS.lload X5.here hx rfl (hb hby at_140) rfl ?_
    show Steps p.tables e below (T5.setTop (mkF m 142 #[.val (.int p1), .val (.long q2), .second, .val (.int p3), .val (.int (1 : Int32)), .val (.ref w_BINARY64), .val (.long (9218868437227405312 : Int64)), .second, .val (.long (4503599627370496 : Int64)), .second, .val (.long (q2 ||| (9218868437227405312 : Int64))), .second, .val (.int (p3 &&& (3 : Int32))), .unset] [(.long (9218868437227405312 : Int64)), (.long (q2 ||| (9218868437227405312 : Int64)))])) _
    refine XS.land X5.here hx rfl (hb hby at_142) rfl ?_
    show Steps p.tables e below (T5.setTop (mkF m 143 #[.val (.int p1), .val (.long q2), .second, .val (.int p3), .val (.int (1 : Int32)), .val (.ref w_BINARY64), .val (.long (9218868437227405312 : Int64)), .second, .val (.long (4503599627370496 : Int64)), .second, .val (.long (q2 ||| (9218868437227405312 : Int64))), .second, .val (.int (p3 &&& (3 : Int32))), .unset] [(.long ((q2 ||| (9218868437227405312 : Int64)) &&& (9218868437227405312 : Int64)))])) _
    refine XS.lload X5.here hx rfl (hb hby at_143) rfl ?_
    show Steps p.tables e below (T5.setTop (mkF m 145 #[.val (.int p1), .val (.long q2), .second, .val (.int p3), .val (.int (1 : Int32)), .val (.ref w_BINARY64), .val (.long (9218868437227405312 : Int64)), .second, .val (.long (4503599627370496 : Int64)), .second, .val (.long (q2 ||| (9218868437227405312 : Int64))), .second, .val (.int (p3 &&& (3 : Int32))), .unset] [(.long (9218868437227405312 : Int64)), (.long ((q2 ||| (9218868437227405312 : Int64)) &&& (9218868437227405312 : Int64)))])) _
    refine XS.lcmp X5.here hx rfl (hb hby at_145) rfl ?_
    show Steps p.tables e below (T5.setTop (mkF m 146 #[.val (.int p1), .val (.long q2), .second, .val (.int p3), .val (.int (1 : Int32)), .val (.ref w_BINARY64), .val (.long (9218868437227405312 : Int64)), .second, .val (.long (4503599627370496 : Int64)), .second, .val (.long (q2 ||| (9218868437227405312 : Int64))), .second, .val (.int (p3 &&& (3 : Int32))), .unset] [(.int (lcmpW ((q2 ||| (9218868437227405312 : Int64)) &&& (9218868437227405312 : Int64)) (9218868437227405312 : Int64)))])) _
    refine XS.ifNo X5.here hx rfl (hb hby at_146) rfl ((if0 _ _).trans (feq hc146).1) ?_
    show Steps p.tables e below (T5.setTop (mkF m 149 #[.val (.int p1), .val (.long q2), .second, .val (.int p3), .val (.int (1 : Int32)), .val (.ref w_BINARY64), .val (.long (9218868437227405312 : Int64)), .second, .val (.long (4503599627370496 : Int64)), .second, .val (.long (q2 ||| (9218868437227405312 : Int64))), .second, .val (.int (p3 &&& (3 : Int32))), .unset] [])) _
    refine XS.iconst X5.here hx rfl (hb hby at_149) ?_
    show Steps p.tables e below (T5.setTop (mkF m 150 #[.val (.int p1), .val (.long q2), .second, .val (.int p3), .val (.int (1 : Int32)), .val (.ref w_BINARY64), .val (.long (9218868437227405312 : Int64)), .second, .val (.long (4503599627370496 : Int64)), .second, .val (.long (q2 ||| (9218868437227405312 : Int64))), .second, .val (.int (p3 &&& (3 : Int32))), .unset] [(.int (1 : Int32))])) _
    refine XS.goto X5.here hx rfl (pc0 := 150) (pc' := 154) rfl (hb hby at_150) (by decide) (by decide) ?_
    show Steps p.tables e below (T5.setTop (mkF m 154 #[.val (.int p1), .val (.long q2), .second, .val (.int p3), .val (.int (1 : Int32)), .val (.ref w_BINARY64), .val (.long (9218868437227405312 : Int64)), .second, .val (.long (4503599627370496 : Int64)), .second, .val (.long (q2 ||| (9218868437227405312 : Int64))), .second, .val (.int (p3 &&& (3 : Int32))), .unset] [(.int (1 : Int32))])) _
    refine XS.istore X5.here hx rfl (hb hby at_154) rfl (l' := #[.val (.int p1), .val (.long q2), .second, .val (.int p3), .val (.int (1 : Int32)), .val (.ref w_BINARY64), .val (.long (9218868437227405312 : Int64)), .second, .val (.long (4503599627370496 : Int64)), .second, .val (.long (q2 ||| (9218868437227405312 : Int64))), .second, .val (.int (p3 &&& (3 : Int32))), .val (.int (1 : Int32))]) rfl ?_
    show Steps p.tables e below (T5.setTop (mkF m 156 #[.val (.int p1), .val (.long q2), .second, .val (.int p3), .val (.int (1 : Int32)), .val (.ref w_BINARY64), .val (.long (9218868437227405312 : Int64)), .second, .val (.long (4503599627370496 : Int64)), .second, .val (.long (q2 ||| (9218868437227405312 : Int64))), .second, .val (.int (p3 &&& (3 : Int32))), .val (.int (1 : Int32))] [])) _
    refine XS.aload X5.here hx rfl (hb hby at_156) rfl rfl ?_
    show Steps p.tables e below (T5.setTop (mkF m 158 #[.val (.int p1), .val (.long q2), .second, .val (.int p3), .val (.int (1 : Int32)), .val (.ref w_BINARY64), .val (.long (9218868437227405312 : Int64)), .second, .val (.long (4503599627370496 : Int64)), .second, .val (.long (q2 ||| (9218868437227405312 : Int64))), .second, .val (.int (p3 &&& (3 : Int32))), .val (.int (1 : Int32))] [(.ref w_BINARY64)])) _
    refine XS.lload X5.here hx rfl (hb hby at_158) rfl ?_
    show Steps p.tables e below (T5.setTop (mkF m 160 #[.val (.int p1), .val (.long q2), .second, .val (.int p3), .val (.int (1 : Int32)), .val (.ref w_BINARY64), .val (.long (9218868437227405312 : Int64)), .second, .val (.long (4503599627370496 : Int64)), .second, .val (.long (q2 ||| (9218868437227405312 : Int64))), .second, .val (.int (p3 &&& (3 : Int32))), .val (.int (1 : Int32))] [(.long (q2 ||| (9218868437227405312 : Int64))), (.ref w_BINARY64)])) _
    refine st6.trans ?_
    show Steps p.tables e below (T6.setTop (mkF m 163 #[.val (.int p1), .val (.long q2), .second, .val (.int p3), .val (.int (1 : Int32)), .val (.ref w_BINARY64), .val (.long (9218868437227405312 : Int64)), .second, .val (.long (4503599627370496 : Int64)), .second, .val (.long (q2 ||| (9218868437227405312 : Int64))), .second, .val (.int (p3 &&& (3 : Int32))), .val (.int (1 : Int32))] [(.int u)])) _
    refine XS.iload X6.here hx rfl (hb hby at_163) rfl ?_
    show Steps p.tables e below (T6.setTop (mkF m 165 #[.val (.int p1), .val (.long q2), .second, .val (.int p3), .val (.int (1 : Int32)), .val (.ref w_BINARY64), .val (.long (9218868437227405312 : Int64)), .second, .val (.long (4503599627370496 : Int64)), .second, .val (.long (q2 ||| (9218868437227405312 : Int64))), .second, .val (.int (p3 &&& (3 : Int32))), .val (.int (1 : Int32))] [(.int (1 : Int32)), (.int u)])) _
    refine XS.icmpNo X6.here hx rfl (hb hby at_165) rfl (teq (hv165 : u = (1 : Int32))).2 ?_
    show Steps p.tables e below (T6.setTop (mkF m 168 #[.val (.int p1), .val (.long q2), .second, .val (.int p3), .val (.int (1 : Int32)), .val (.ref w_BINARY64), .val (.long (9218868437227405312 : Int64)), .second, .val (.long (4503599627370496 : Int64)), .second, .val (.long (q2 ||| (9218868437227405312 : Int64))), .second, .val (.int (p3 &&& (3 : Int32))), .val (.int (1 : Int32))] [])) _
    refine XS.iconst X6.here hx rfl (hb hby at_168) ?_
    show Steps p.tables e below (T6.setTop (mkF m 169 #[.val (.int p1), .val (.long q2), .second, .val (.int p3), .val (.int (1 : Int32)), .val (.ref w_BINARY64), .val (.long (9218868437227405312 : Int64)), .second, .val (.long (4503599627370496 : Int64)), .second, .val (.long (q2 ||| (9218868437227405312 : Int64))), .second, .val (.int (p3 &&& (3 : Int32))), .val (.int (1 : Int32))] [(.int (1 : Int32))])) _
    refine XS.goto X6.here hx rfl (pc0 := 169) (pc' := 173) rfl (hb hby at_169) (by decide) (by decide) ?_
    show Steps p.tables e below (T6.setTop (mkF m 173 #[.val (.int p1), .val (.long q2), .second, .val (.int p3), .val (.int (1 : Int32)), .val (.ref w_BINARY64), .val (.long (9218868437227405312 : Int64)), .second, .val (.long (4503599627370496 : Int64)), .second, .val (.long (q2 ||| (9218868437227405312 : Int64))), .second, .val (.int (p3 &&& (3 : Int32))), .val (.int (1 : Int32))] [(.int (1 : Int32))])) _
    exact retN X6 hx (t := .boolean) Bd.returns (by simp) (hb hby at_173) hr
  · show Q0 Z h0 n0 _ T6.heap _
    exact ⟨rfl, N6⟩
set_option maxRecDepth 65536 in
set_option maxHeartbeats 40000000 in
theorem rm0_ffffftftf (l : Launch) (Z : State) (a0 : Array Value) (hw : ∀ d ∈ tables_1, d.before a0 Z = true) (ws : List Jvm.Cond) (p1 : Int32) (q2 : Int64) (p3 : Int32) (w_BINARY64 : Addr) (u : Int32) (h0 : Heap) (n0 : Nat) (Z0 : n0 ≤ h0.size) (S_BINARY64 : Sta Z h0 "com/example/fourfold/fourfold/json/FloatFormat" "BINARY64" "Lcom/example/fourfold/fourfold/json/FloatFormat;" (.ref w_BINARY64)) (E_BINARY64 : Exa Z h0 w_BINARY64 "com/example/fourfold/fourfold/json/FloatFormat") (F_fractionBits_BINARY64 : Fld Z h0 w_BINARY64 "com/example/fourfold/fourfold/json/FloatFormat" "fractionBits" "I" (.int (52 : Int32))) (F_specialExponent_BINARY64 : Fld Z h0 w_BINARY64 "com/example/fourfold/fourfold/json/FloatFormat" "specialExponent" "I" (.int (2047 : Int32))) (hu : finF ((q2 ||| (9218868437227405312 : Int64)) &&& ((4503599627370496 : Int64) ^^^ (-1 : Int64))) (52 : Int32) (2047 : Int32) = u) (hc3 : ¬ ((p1 &&& (1 : Int32)) = (0 : Int32))) (hc15 : ¬ ((1 : Int32) = (0 : Int32))) (hc31 : ¬ ((1 : Int32) = (0 : Int32))) (hc47 : ¬ ((1 : Int32) = (0 : Int32))) (hc63 : ¬ ((1 : Int32) = (0 : Int32))) (hc85 : ¬ ((p3 &&& (3 : Int32)) = (1 : Int32))) (hc101 : (p3 &&& (3 : Int32)) = (2 : Int32)) (hc146 : (lcmpW (((q2 ||| (9218868437227405312 : Int64)) &&& ((4503599627370496 : Int64) ^^^ (-1 : Int64))) &&& (9218868437227405312 : Int64)) (9218868437227405312 : Int64)) = (0 : Int32)) (hv165 : u = (0 : Int32)) :
    MetFree l x (head1 (Jvm.Cond.code x code maxLocals ret :: ws) room_1) (fun a U => a = #[(.int p1), (.long q2), (.int p3)] ∧ Z.Warmed39 U.vm ∧ U.heap = h0) (fun _ _ _ _ _ => True) (fun _ U o U' => ∃ v L, o = .returned v ∧ Q0 Z h0 n0 v U'.heap L ∧ FrameEnd U o U' L room_1.cells room_1.slots) := by
  refine MetFree.of_bodySF (plainFor_of_name pn_0) hisR ?_
  intro p e s m args below meth c s₁ Bd hml0 hP hK
  obtain ⟨rfl, hZ, hh⟩ := hP
  have hx := Bd.exec
  have hby := Bd.bytes
  have hml : c.maxLocals = 14 := hml0
  have hown : s.vm.findClass "com/example/fourfold/fourfold/json/FloatFormatIsFinitePinLaw" = some m.cls := findClass_of_methodNamed Bd.named
  have hnm := (name_of_methodNamed Bd.named Bd.method).1
  have X0 : Stand p l e room_1 s m #[(.int p1), (.long q2), (.int p3)] below meth c s₁ [] 0 0 := Stand.of_body Bd
  have e0 : s₁.heap = h0 := by rw [← hh, Bd.state]; rfl
  have N0 := Fr.nil n0
  have pre0 : ∀ t, Steps p.tables e below (s₁.setTop (mkF m 0 #[.val (.int p1), .val (.long q2), .second, .val (.int p3), .unset, .unset, .unset, .unset, .unset, .unset, .unset, .unset, .unset, .unset] [])) t → Steps p.tables e below (s₁.setTop (entryFrame m #[(.int p1), (.long q2), (.int p3)] maxLocals)) t := fun t k => castTop (ef_0 m p1 q2 p3) k
  -- 3. LAWS
  obtain ⟨T5, X5, e5, st5⟩ := getS2 X0 hx hZ hown (host := "") (Or.inl (hw _ (List.mem_of_getElem? (i := 20) rfl))) Via.refl e0 S_BINARY64 (g := (mkF m 18 #[.val (.int p1), .val (.long q2), .second, .val (.int p3), .val (.int (1 : Int32)), .unset, .unset, .unset, .unset, .unset, .unset, .unset, .unset, .unset] [])) rfl (hb hby at_18)
  -- pc 160: com/example/fourfold/fourfold/json/FloatFormat.isFinite by the contract of the body that the receiver's class selects, rm1
  obtain ⟨cq6, kq6, q6a, q6b, q6c⟩ := isOf hZ e5 E_BINARY64
  obtain ⟨_, _, ⟨T6, L6, k6, n6⟩, -, X6, ⟨Lc6, hQ6, l6, y6, z6⟩, st6⟩ := X5.virtualBack hx (y := (⟨"com/example/fourfold/fourfold/json/FloatFormat", "isFinite", "(J)Z"⟩ : MethodName)) (z := (⟨"com/example/fourfold/fourfold/json/FloatFormat", "isFinite", "(J)Z"⟩ : MethodName)) hown (mvT hZ (hw _ (List.mem_of_getElem? (i := 6) rfl))) (mvT hZ (hw _ (List.mem_of_getElem? (i := 7) rfl))) (notFace_of_selects (args := #[]) (mvT hZ (hw _ (List.mem_of_getElem? (i := 9) rfl)))) (mvT hZ (hw _ (List.mem_of_getElem? (i := 9) rfl))) (mvT hZ (hw _ (List.mem_of_getElem? (i := 8) rfl))) (by decide) (backOf (W := 0) (rm1 l Z a0 hw [] w_BINARY64 ((q2 ||| (9218868437227405312 : Int64)) &&& ((4503599627370496 : Int64) ^^^ (-1 : Int64))) (2047 : Int32) (52 : Int32) h0 n0 Z0 E_BINARY64 F_specialExponent_BINARY64 F_fractionBits_BINARY64) hZ (hw _ (List.mem_of_getElem? (i := 10) rfl)) (hw _ (List.mem_of_getElem? (i := 1) rfl)) (by decide) (by decide)) q6a q6c (g := (mkF m 160 #[.val (.int p1), .val (.long q2), .second, .val (.int p3), .val (.int (1 : Int32)), .val (.ref w_BINARY64), .val (.long (9218868437227405312 : Int64)), .second, .val (.long (4503599627370496 : Int64)), .second, .val (.long ((q2 ||| (9218868437227405312 : Int64)) &&& ((4503599627370496 : Int64) ^^^ (-1 : Int64)))), .second, .val (.int (p3 &&& (3 : Int32))), .val (.int (0 : Int32))] [(.long ((q2 ||| (9218868437227405312 : Int64)) &&& ((4503599627370496 : Int64) ^^^ (-1 : Int64)))), (.ref w_BINARY64)])) rfl (by rw [hml]; rfl) (Steps.refl _) (argsL := [(.long ((q2 ||| (9218868437227405312 : Int64)) &&& ((4503599627370496 : Int64) ^^^ (-1 : Int64))))]) (rest := []) (lenOf pd_0_0 rfl) rfl (by show 2 * 0 + _ ≤ _; exact Nat.le_of_eq rfl) (hb hby at_160) (fun _ _ => ⟨rfl, e5, (by decide : 0 + 0 ≤ _), (by decide : 0 + 0 ≤ _)⟩)
  dsimp only [Pt.U, Pt.locs, Pt.cells, Pt.slots] at X6 l6 y6 z6 st6 hQ6
  subst l6 y6 z6
  obtain ⟨rv6, N6q, q6⟩ := hQ6
  rw [hu] at rv6
  subst rv6
  have N6 := Fr.app N0 N6q
  obtain ⟨fs, hr, hrun, hended, hW, hsame⟩ := X6.leave (v := some (.int (1 : Int32))) (fun h => by rw [Bd.returns] at h; cases h)
  refine ⟨_, _, pre0 _ ?_, hrun, hended, _, _, rfl, ?_, ⟨_, rfl⟩, hW, hsame.mono (by decide) (by decide)⟩
  -- 4. STEPS
  · show Steps p.tables e below (s₁.setTop (mkF m 0 #[.val (.int p1), .val (.long q2), .second, .val (.int p3), .unset, .unset, .unset, .unset, .unset, .unset, .unset, .unset, .unset, .unset] [])) _
    refine XS.iloadN X0.here hx rfl (hb hby at_0) rfl ?_
    show Steps p.tables e below (s₁.setTop (mkF m 1 #[.val (.int p1), .val (.long q2), .second, .val (.int p3), .unset, .unset, .unset, .unset, .unset, .unset, .unset, .unset, .unset, .unset] [(.int p1)])) _
    refine XS.iconst X0.here hx rfl (hb hby at_1) ?_
    show Steps p.tables e below (s₁.setTop (mkF m 2 #[.val (.int p1), .val (.long q2), .second, .val (.int p3), .unset, .unset, .unset, .unset, .unset, .unset, .unset, .unset, .unset, .unset] [(.int (1 : Int32)), (.int p1)])) _
    refine XS.iand X0.here hx rfl (hb hby at_2) rfl ?_
    show Steps p.tables e below (s₁.setTop (mkF m 3 #[.val (.int p1), .val (.long q2), .second, .val (.int p3), .unset, .unset, .unset, .unset, .unset, .unset, .unset, .unset, .unset, .unset] [(.int (p1 &&& (1 : Int32)))])) _
    refine XS.ifNo X0.here hx rfl (hb hby at_3) rfl ((if0 _ _).trans (feq hc3).1) ?_
    show Steps p.tables e below (s₁.setTop (mkF m 6 #[.val (.int p1), .val (.long q2), .second, .val (.int p3), .unset, .unset, .unset, .unset, .unset, .unset, .unset, .unset, .unset, .unset] [])) _
    refine XS.iconst X0.here hx rfl (hb hby at_6) ?_
    show Steps p.tables e below (s₁.setTop (mkF m 7 #[.val (.int p1), .val (.long q2), .second, .val (.int p3), .unset, .unset, .unset, .unset, .unset, .unset, .unset, .unset, .unset, .unset] [(.int (1 : Int32))])) _
    refine XS.goto X0.here hx rfl (pc0 := 7) (pc' := 11) rfl (hb hby at_7) (by decide) (by decide) ?_
    show Steps p.tables e below (s₁.setTop (mkF m 11 #[.val (.int p1), .val (.long q2), .second, .val (.int p3), .unset, .unset, .unset, .unset, .unset, .unset, .unset, .unset, .unset, .unset] [(.int (1 : Int32))])) _
    refine XS.istore X0.here hx rfl (hb hby at_11) rfl (l' := #[.val (.int p1), .val (.long q2), .second, .val (.int p3), .val (.int (1 : Int32)), .unset, .unset, .unset, .unset, .unset, .unset, .unset, .unset, .unset]) rfl ?_
    show Steps p.tables e below (s₁.setTop (mkF m 13 #[.val (.int p1), .val (.long q2), .second, .val (.int p3), .val (.int (1 : Int32)), .unset, .unset, .unset, .unset, .unset, .unset, .unset, .unset, .unset] [])) _
    refine XS.iload X0.here hx rfl (hb hby at_13) rfl ?_
    show Steps p.tables e below (s₁.setTop (mkF m 15 #[.val (.int p1), .val (.long q2), .second, .val (.int p3), .val (.int (1 : Int32)), .unset, .unset, .unset, .unset, .unset, .unset, .unset, .unset, .unset] [(.int (1 : Int32))])) _
    refine XS.ifNo X0.here hx rfl (hb hby at_15) rfl ((if0 _ _).trans (feq hc15).1) ?_
    show Steps p.tables e below (s₁.setTop (mkF m 18 #[.val (.int p1), .val (.long q2), .second, .val (.int p3), .val (.int (1 : Int32)), .unset, .unset, .unset, .unset, .unset, .unset, .unset, .unset, .unset] [])) _
    refine st5 _ ?_
    show Steps p.tables e below (T5.setTop (mkF m 21 #[.val (.int p1), .val (.long q2), .second, .val (.int p3), .val (.int (1 : Int32)), .unset, .unset, .unset, .unset, .unset, .unset, .unset, .unset, .unset] [(.ref w_BINARY64)])) _
    refine XS.goto X5.here hx rfl (pc0 := 21) (pc' := 27) rfl (hb hby at_21) (by decide) (by decide) ?_
    show Steps p.tables e below (T5.setTop (mkF m 27 #[.val (.int p1), .val (.long q2), .second, .val (.int p3), .val (.int (1 : Int32)), .unset, .unset, .unset, .unset, .unset, .unset, .unset, .unset, .unset] [(.ref w_BINARY64)])) _
    refine XS.astore X5.here hx rfl (hb hby at_27) rfl rfl (l' := #[.val (.int p1), .val (.long q2), .second, .val (.int p3), .val (.int (1 : Int32)), .val (.ref w_BINARY64), .unset, .unset, .unset, .unset, .unset, .unset, .unset, .unset]) rfl ?_
    show Steps p.tables e below (T5.setTop (mkF m 29 #[.val (.int p1), .val (.long q2), .second, .val (.int p3), .val (.int (1 : Int32)), .val (.ref w_BINARY64), .unset, .unset, .unset, .unset, .unset, .unset, .unset, .unset] [])) _
    refine XS.iload X5.here hx rfl (hb hby at_29) rfl ?_
    show Steps p.tables e below (T5.setTop (mkF m 31 #[.val (.int p1), .val (.long q2), .second, .val (.int p3), .val (.int (1 : Int32)), .val (.ref w_BINARY64), .unset, .unset, .unset, .unset, .unset, .unset, .unset, .unset] [(.int (1 : Int32))])) _
    refine XS.ifNo X5.here hx rfl (hb hby at_31) rfl ((if0 _ _).trans (feq hc31).1) ?_
    show Steps p.tables e below (T5.setTop (mkF m 34 #[.val (.int p1), .val (.long q2), .second, .val (.int p3), .val (.int (1 : Int32)), .val (.ref w_BINARY64), .unset, .unset, .unset, .unset, .unset, .unset, .unset, .unset] [])) _
    refine X5.ldc2Long hx hown (mvT hZ (hw _ (List.mem_of_getElem? (i := 22) rfl))) (g := (mkF m 34 #[.val (.int p1), .val (.long q2), .second, .val (.int p3), .val (.int (1 : Int32)), .val (.ref w_BINARY64), .unset, .unset, .unset, .unset, .unset, .unset, .unset, .unset] [])) rfl (hb hby at_34) _ ?_
    show Steps p.tables e below (T5.setTop (mkF m 37 #[.val (.int p1), .val (.long q2), .second, .val (.int p3), .val (.int (1 : Int32)), .val (.ref w_BINARY64), .unset, .unset, .unset, .unset, .unset, .unset, .unset, .unset] [(.long (9218868437227405312 : Int64))])) _
    refine XS.goto X5.here hx rfl (pc0 := 37) (pc' := 43) rfl (hb hby at_37) (by decide) (by decide) ?_
    show Steps p.tables e below (T5.setTop (mkF m 43 #[.val (.int p1), .val (.long q2), .second, .val (.int p3), .val (.int (1 : Int32)), .val (.ref w_BINARY64), .unset, .unset, .unset, .unset, .unset, .unset, .unset, .unset] [(.long (9218868437227405312 : Int64))])) _
    refine XS.lstore X5.here hx rfl (hb hby at_43) rfl (l' := #[.val (.int p1), .val (.long q2), .second, .val (.int p3), .val (.int (1 : Int32)), .val (.ref w_BINARY64), .val (.long (9218868437227405312 : Int64)), .second, .unset, .unset, .unset, .unset, .unset, .unset]) rfl ?_
    show Steps p.tables e below (T5.setTop (mkF m 45 #[.val (.int p1), .val (.long q2), .second, .val (.int p3), .val (.int (1 : Int32)), .val (.ref w_BINARY64), .val (.long (9218868437227405312 : Int64)), .second, .unset, .unset, .unset, .unset, .unset, .unset] [])) _
    refine XS.iload X5.here hx rfl (hb hby at_45) rfl ?_
    show Steps p.tables e below (T5.setTop (mkF m 47 #[.val (.int p1), .val (.long q2), .second, .val (.int p3), .val (.int (1 : Int32)), .val (.ref w_BINARY64), .val (.long (9218868437227405312 : Int64)), .second, .unset, .unset, .unset, .unset, .unset, .unset] [(.int (1 : Int32))])) _
    refine XS.ifNo X5.here hx rfl (hb hby at_47) rfl ((if0 _ _).trans (feq hc47).1) ?_
    show Steps p.tables e below (T5.setTop (mkF m 50 #[.val (.int p1), .val (.long q2), .second, .val (.int p3), .val (.int (1 : Int32)), .val (.ref w_BINARY64), .val (.long (9218868437227405312 : Int64)), .second, .unset, .unset, .unset, .unset, .unset, .unset] [])) _
    refine X5.ldc2Long hx hown (mvT hZ (hw _ (List.mem_of_getElem? (i := 23) rfl))) (g := (mkF m 50 #[.val (.int p1), .val (.long q2), .second, .val (.int p3), .val (.int (1 : Int32)), .val (.ref w_BINARY64), .val (.long (9218868437227405312 : Int64)), .second, .unset, .unset, .unset, .unset, .unset, .unset] [])) rfl (hb hby at_50) _ ?_
    show Steps p.tables e below (T5.setTop (mkF m 53 #[.val (.int p1), .val (.long q2), .second, .val (.int p3), .val (.int (1 : Int32)), .val (.ref w_BINARY64), .val (.long (9218868437227405312 : Int64)), .second, .unset, .unset, .unset, .unset, .unset, .unset] [(.long (4503599627370496 : Int64))])) _
    refine XS.goto X5.here hx rfl (pc0 := 53) (pc' := 59) rfl (hb hby at_53) (by decide) (by decide) ?_
    show Steps p.tables e below (T5.setTop (mkF m 59 #[.val (.int p1), .val (.long q2), .second, .val (.int p3), .val (.int (1 : Int32)), .val (.ref w_BINARY64), .val (.long (9218868437227405312 : Int64)), .second, .unset, .unset, .unset, .unset, .unset, .unset] [(.long (4503599627370496 : Int64))])) _
    refine XS.lstore X5.here hx rfl (hb hby at_59) rfl (l' := #[.val (.int p1), .val (.long q2), .second, .val (.int p3), .val (.int (1 : Int32)), .val (.ref w_BINARY64), .val (.long (9218868437227405312 : Int64)), .second, .val (.long (4503599627370496 : Int64)), .second, .unset, .unset, .unset, .unset]) rfl ?_
    show Steps p.tables e below (T5.setTop (mkF m 61 #[.val (.int p1), .val (.long q2), .second, .val (.int p3), .val (.int (1 : Int32)), .val (.ref w_BINARY64), .val (.long (9218868437227405312 : Int64)), .second, .val (.long (4503599627370496 : Int64)), .second, .unset, .unset, .unset, .unset] [])) _
    refine XS.iload X5.here hx rfl (hb hby at_61) rfl ?_
    show Steps p.tables e below (T5.setTop (mkF m 63 #[.val (.int p1), .val (.long q2), .second, .val (.int p3), .val (.int (1 : Int32)), .val (.ref w_BINARY64), .val (.long (9218868437227405312 : Int64)), .second, .val (.long (4503599627370496 : Int64)), .second, .unset, .unset, .unset, .unset] [(.int (1 : Int32))])) _
    refine XS.ifNo X5.here hx rfl (hb hby at_63) rfl ((if0 _ _).trans (feq hc63).1) ?_
    show Steps p.tables e below (T5.setTop (mkF m 66 #[.val (.int p1), .val (.long q2), .second, .val (.int p3), .val (.int (1 : Int32)), .val (.ref w_BINARY64), .val (.long (9218868437227405312 : Int64)), .second, .val (.long (4503599627370496 : Int64)), .second, .unset, .unset, .unset, .unset] [])) _
    refine XS.lloadN X5.here hx rfl (hb hby at_66) rfl ?_
    show Steps p.tables e below (T5.setTop (mkF m 67 #[.val (.int p1), .val (.long q2), .second, .val (.int p3), .val (.int (1 : Int32)), .val (.ref w_BINARY64), .val (.long (9218868437227405312 : Int64)), .second, .val (.long (4503599627370496 : Int64)), .second, .unset, .unset, .unset, .unset] [(.long q2)])) _
    refine XS.goto X5.here hx rfl (pc0 := 67) (pc' := 75) rfl (hb hby at_67) (by decide) (by decide) ?_
    show Steps p.tables e below (T5.setTop (mkF m 75 #[.val (.int p1), .val (.long q2), .second, .val (.int p3), .val (.int (1 : Int32)), .val (.ref w_BINARY64), .val (.long (9218868437227405312 : Int64)), .second, .val (.long (4503599627370496 : Int64)), .second, .unset, .unset, .unset, .unset] [(.long q2)])) _
    refine XS.lstore X5.here hx rfl (hb hby at_75) rfl (l' := #[.val (.int p1), .val (.long q2), .second, .val (.int p3), .val (.int (1 : Int32)), .val (.ref w_BINARY64), .val (.long (9218868437227405312 : Int64)), .second, .val (.long (4503599627370496 : Int64)), .second, .val (.long q2), .second, .unset, .unset]) rfl ?_
    show Steps p.tables e below (T5.setTop (mkF m 77 #[.val (.int p1), .val (.long q2), .second, .val (.int p3), .val (.int (1 : Int32)), .val (.ref w_BINARY64), .val (.long (9218868437227405312 : Int64)), .second, .val (.long (4503599627370496 : Int64)), .second, .val (.long q2), .second, .unset, .unset] [])) _
    refine XS.iloadN X5.here hx rfl (hb hby at_77) rfl ?_
    show Steps p.tables e below (T5.setTop (mkF m 78 #[.val (.int p1), .val (.long q2), .second, .val (.int p3), .val (.int (1 : Int32)), .val (.ref w_BINARY64), .val (.long (9218868437227405312 : Int64)), .second, .val (.long (4503599627370496 : Int64)), .second, .val (.long q2), .second, .unset, .unset] [(.int p3)])) _
    refine XS.iconst X5.here hx rfl (hb hby at_78) ?_
    show Steps p.tables e below (T5.setTop (mkF m 79 #[.val (.int p1), .val (.long q2), .second, .val (.int p3), .val (.int (1 : Int32)), .val (.ref w_BINARY64), .val (.long (9218868437227405312 : Int64)), .second, .val (.long (4503599627370496 : Int64)), .second, .val (.long q2), .second, .unset, .unset] [(.int (3 : Int32)), (.int p3)])) _
    refine XS.iand X5.here hx rfl (hb hby at_79) rfl ?_
    show Steps p.tables e below (T5.setTop (mkF m 80 #[.val (.int p1), .val (.long q2), .second, .val (.int p3), .val (.int (1 : Int32)), .val (.ref w_BINARY64), .val (.long (9218868437227405312 : Int64)), .second, .val (.long (4503599627370496 : Int64)), .second, .val (.long q2), .second, .unset, .unset] [(.int (p3 &&& (3 : Int32)))])) _
    refine XS.istore X5.here hx rfl (hb hby at_80) rfl (l' := #[.val (.int p1), .val (.long q2), .second, .val (.int p3), .val (.int (1 : Int32)), .val (.ref w_BINARY64), .val (.long (9218868437227405312 : Int64)), .second, .val (.long (4503599627370496 : Int64)), .second, .val (.long q2), .second, .val (.int (p3 &&& (3 : Int32))), .unset]) rfl ?_
    show Steps p.tables e below (T5.setTop (mkF m 82 #[.val (.int p1), .val (.long q2), .second, .val (.int p3), .val (.int (1 : Int32)), .val (.ref w_BINARY64), .val (.long (9218868437227405312 : Int64)), .second, .val (.long (4503599627370496 : Int64)), .second, .val (.long q2), .second, .val (.int (p3 &&& (3 : Int32))), .unset] [])) _
    refine XS.iload X5.here hx rfl (hb hby at_82) rfl ?_
    show Steps p.tables e below (T5.setTop (mkF m 84 #[.val (.int p1), .val (.long q2), .second, .val (.int p3), .val (.int (1 : Int32)), .val (.ref w_BINARY64), .val (.long (9218868437227405312 : Int64)), .second, .val (.long (4503599627370496 : Int64)), .second, .val (.long q2), .second, .val (.int (p3 &&& (3 : Int32))), .unset] [(.int (p3 &&& (3 : Int32)))])) _
    refine XS.iconst X5.here hx rfl (hb hby at_84) ?_
    show Steps p.tables e below (T5.setTop (mkF m 85 #[.val (.int p1), .val (.long q2), .second, .val (.int p3), .val (.int (1 : Int32)), .val (.ref w_BINARY64), .val (.long (9218868437227405312 : Int64)), .second, .val (.long (4503599627370496 : Int64)), .second, .val (.long q2), .second, .val (.int (p3 &&& (3 : Int32))), .unset] [(.int (1 : Int32)), (.int (p3 &&& (3 : Int32)))])) _
    refine XS.icmpYes X5.here hx rfl (pc0 := 85) (pc' := 98) rfl (hb hby at_85) rfl (feq hc85).2 (by decide) (by decide) ?_
    show Steps p.tables e below (T5.setTop (mkF m 98 #[.val (.int p1), .val (.long q2), .second, .val (.int p3), .val (.int (1 : Int32)), .val (.ref w_BINARY64), .val (.long (9218868437227405312 : Int64)), .second, .val (.long (4503599627370496 : Int64)), .second, .val (.long q2), .second, .val (.int (p3 &&& (3 : Int32))), .unset] [])) _
    refine XS.iload X5.here hx rfl (hb hby at_98) rfl ?_
    show Steps p.tables e below (T5.setTop (mkF m 100 #[.val (.int p1), .val (.long q2), .second, .val (.int p3), .val (.int (1 : Int32)), .val (.ref w_BINARY64), .val (.long (9218868437227405312 : Int64)), .second, .val (.long (4503599627370496 : Int64)), .second, .val (.long q2), .second, .val (.int (p3 &&& (3 : Int32))), .unset] [(.int (p3 &&& (3 : Int32)))])) _
    refine XS.iconst X5.here hx rfl (hb hby at_100) ?_
    show Steps p.tables e below (T5.setTop (mkF m 101 #[.val (.int p1), .val (.long q2), .second, .val (.int p3), .val (.int (1 : Int32)), .val (.ref w_BINARY64), .val (.long (9218868437227405312 : Int64)), .second, .val (.long (4503599627370496 : Int64)), .second, .val (.long q2), .second, .val (.int (p3 &&& (3 : Int32))), .unset] [(.int (2 : Int32)), (.int (p3 &&& (3 : Int32)))])) _
    refine XS.icmpNo X5.here hx rfl (hb hby at_101) rfl (teq hc101).2 ?_
    show Steps p.tables e below (T5.setTop (mkF m 104 #[.val (.int p1), .val (.long q2), .second, .val (.int p3), .val (.int (1 : Int32)), .val (.ref w_BINARY64), .val (.long (9218868437227405312 : Int64)), .second, .val (.long (4503599627370496 : Int64)), .second, .val (.long q2), .second, .val (.int (p3 &&& (3 : Int32))), .unset] [])) _
    refine XS.lload X5.here hx rfl (hb hby at_104) rfl ?_
    show Steps p.tables e below (T5.setTop (mkF m 106 #[.val (.int p1), .val (.long q2), .second, .val (.int p3), .val (.int (1 : Int32)), .val (.ref w_BINARY64), .val (.long (9218868437227405312 : Int64)), .second, .val (.long (4503599627370496 : Int64)), .second, .val (.long q2), .second, .val (.int (p3 &&& (3 : Int32))), .unset] [(.long q2)])) _
    refine XS.lload X5.here hx rfl (hb hby at_106) rfl ?_
    show Steps p.tables e below (T5.setTop (mkF m 108 #[.val (.int p1), .val (.long q2), .second, .val (.int p3), .val (.int (1 : Int32)), .val (.ref w_BINARY64), .val (.long (9218868437227405312 : Int64)), .second, .val (.long (4503599627370496 : Int64)), .second, .val (.long q2), .second, .val (.int (p3 &&& (3 : Int32))), .unset] [(.long (9218868437227405312 : Int64)), (.long q2)])) _
    refine XS.lor X5.here hx rfl (hb hby at_108) rfl ?_
    show Steps p.tables e below (T5.setTop (mkF m 109 #[.val (.int p1), .val (.long q2), .second, .val (.int p3), .val (.int (1 : Int32)), .val (.ref w_BINARY64), .val (.long (9218868437227405312 : Int64)), .second, .val (.long (4503599627370496 : Int64)), .second, .val (.long q2), .second, .val (.int (p3 &&& (3 : Int32))), .unset] [(.long (q2 ||| (9218868437227405312 : Int64)))])) _
    refine XS.lload X5.here hx rfl (hb hby at_109) rfl ?_
    show Steps p.tables e below (T5.setTop (mkF m 111 #[.val (.int p1), .val (.long q2), .second, .val (.int p3), .val (.int (1 : Int32)), .val (.ref w_BINARY64), .val (.long (9218868437227405312 : Int64)), .second, .val (.long (4503599627370496 : Int64)), .second, .val (.long q2), .second, .val (.int (p3 &&& (3 : Int32))), .unset] [(.long (4503599627370496 : Int64)), (.long (q2 ||| (9218868437227405312 : Int64)))])) _
    refine X5.ldc2Long hx hown (mvT hZ (hw _ (List.mem_of_getElem? (i := 19) rfl))) (g := (mkF m 111 #[.val (.int p1), .val (.long q2), .second, .val (.int p3), .val (.int (1 : Int32)), .val (.ref w_BINARY64), .val (.long (9218868437227405312 : Int64)), .second, .val (.long (4503599627370496 : Int64)), .second, .val (.long q2), .second, .val (.int (p3 &&& (3 : Int32))), .unset] [(.long (4503599627370496 : Int64)), (.long (q2 ||| (9218868437227405312 : Int64)))])) rfl (hb hby at_111) _ ?_
    show Steps p.tables e below (T5.setTop (mkF m 114 #[.val (.int p1), .val (.long q2), .second, .val (.int p3), .val (.int (1 : Int32)), .val (.ref w_BINARY64), .val (.long (9218868437227405312 : Int64)), .second, .val (.long (4503599627370496 : Int64)), .second, .val (.long q2), .second, .val (.int (p3 &&& (3 : Int32))), .unset] [(.long (-1 : Int64)), (.long (4503599627370496 : Int64)), (.long (q2 ||| (9218868437227405312 : Int64)))])) _
    refine XS.lxor X5.here hx rfl (hb hby at_114) rfl ?_
    show Steps p.tables e below (T5.setTop (mkF m 115 #[.val (.int p1), .val (.long q2), .second, .val (.int p3), .val (.int (1 : Int32)), .val (.ref w_BINARY64), .val (.long (9218868437227405312 : Int64)), .second, .val (.long (4503599627370496 : Int64)), .second, .val (.long q2), .second, .val (.int (p3 &&& (3 : Int32))), .unset] [(.long ((4503599627370496 : Int64) ^^^ (-1 : Int64))), (.long (q2 ||| (9218868437227405312 : Int64)))])) _
    refine XS.land X5.here hx rfl (hb hby at_115) rfl ?_
    show Steps p.tables e below (T5.setTop (mkF m 116 #[.val (.int p1), .val (.long q2), .second, .val (.int p3), .val (.int (1 : Int32)), .val (.ref w_BINARY64), .val (.long (9218868437227405312 : Int64)), .second, .val (.long (4503599627370496 : Int64)), .second, .val (.long q2), .second, .val (.int (p3 &&& (3 : Int32))), .unset] [(.long ((q2 ||| (9218868437227405312 : Int64)) &&& ((4503599627370496 : Int64) ^^^ (-1 : Int64))))])) _
    refine XS.lstore X5.here hx rfl (hb hby at_116) rfl (l' := #[.val (.int p1), .val (.long q2), .second, .val (.int p3), .val (.int (1 : Int32)), .val (.ref w_BINARY64), .val (.long (9218868437227405312 : Int64)), .second, .val (.long (4503599627370496 : Int64)), .second, .val (.long ((q2 ||| (9218868437227405312 : Int64)) &&& ((4503599627370496 : Int64) ^^^ (-1 : Int64)))), .second, .val (.int (p3 &&& (3 : Int32))), .unset]) rfl ?_
    show Steps p.tables e below (T5.setTop (mkF m 118 #[.val (.int p1), .val (.long q2), .second, .val (.int p3), .val (.int (1 : Int32)), .val (.ref w_BINARY64), .val (.long (9218868437227405312 : Int64)), .second, .val (.long (4503599627370496 : Int64)), .second, .val (.long ((q2 ||| (9218868437227405312 : Int64)) &&& ((4503599627370496 : Int64) ^^^ (-1 : Int64)))), .second, .val (.int (p3 &&& (3 : Int32))), .unset] [])) _
    refine XS.goto X5.here hx rfl (pc0 := 118) (pc' := 138) rfl (hb hby at_118) (by decide) (by decide) ?_
    show Steps p.tables e below (T5.setTop (mkF m 138 #[.val (.int p1), .val (.long q2), .second, .val (.int p3), .val (.int (1 : Int32)), .val (.ref w_BINARY64), .val (.long (9218868437227405312 : Int64)), .second, .val (.long (4503599627370496 : Int64)), .second, .val (.long ((q2 ||| (9218868437227405312 : Int64)) &&& ((4503599627370496 : Int64) ^^^ (-1 : Int64)))), .second, .val (.int (p3 &&& (3 : Int32))), .unset] [])) _
    refine XS.lload X5.here hx rfl (hb hby at_138) rfl ?_
    show Steps p.tables e below (T5.setTop (mkF m 140 #[.val (.int p1), .val (.long q2), .second, .val (.int p3), .val (.int (1 : Int32)), .val (.ref w_BINARY64), .val (.long (9218868437227405312 : Int64)), .second, .val (.long (4503599627370496 : Int64)), .second, .val (.long ((q2 ||| (9218868437227405312 : Int64)) &&& ((4503599627370496 : Int64) ^^^ (-1 : Int64)))), .second, .val (.int (p3 &&& (3 : Int32))), .unset] [(.long ((q2 ||| (9218868437227405312 : Int64)) &&& ((4503599627370496 : Int64) ^^^ (-1 : Int64))))])) _
    refine XS.lload X5.here hx rfl (hb hby at_140) rfl ?_
    show Steps p.tables e below (T5.setTop (mkF m 142 #[.val (.int p1), .val (.long q2), .second, .val (.int p3), .val (.int (1 : Int32)), .val (.ref w_BINARY64), .val (.long (9218868437227405312 : Int64)), .second, .val (.long (4503599627370496 : Int64)), .second, .val (.long ((q2 ||| (9218868437227405312 : Int64)) &&& ((4503599627370496 : Int64) ^^^ (-1 : Int64)))), .second, .val (.int (p3 &&& (3 : Int32))), .unset] [(.long (9218868437227405312 : Int64)), (.long ((q2 ||| (9218868437227405312 : Int64)) &&& ((4503599627370496 : Int64) ^^^ (-1 : Int64))))])) _
    refine XS.land X5.here hx rfl (hb hby at_142) rfl ?_
    show Steps p.tables e below (T5.setTop (mkF m 143 #[.val (.int p1), .val (.long q2), .second, .val (.int p3), .val (.int (1 : Int32)), .val (.ref w_BINARY64), .val (.long (9218868437227405312 : Int64)), .second, .val (.long (4503599627370496 : Int64)), .second, .val (.long ((q2 ||| (9218868437227405312 : Int64)) &&& ((4503599627370496 : Int64) ^^^ (-1 : Int64)))), .second, .val (.int (p3 &&& (3 : Int32))), .unset] [(.long (((q2 ||| (9218868437227405312 : Int64)) &&& ((4503599627370496 : Int64) ^^^ (-1 : Int64))) &&& (9218868437227405312 : Int64)))])) _
    refine XS.lload X5.here hx rfl (hb hby at_143) rfl ?_
    show Steps p.tables e below (T5.setTop (mkF m 145 #[.val (.int p1), .val (.long q2), .second, .val (.int p3), .val (.int (1 : Int32)), .val (.ref w_BINARY64), .val (.long (9218868437227405312 : Int64)), .second, .val (.long (4503599627370496 : Int64)), .second, .val (.long ((q2 ||| (9218868437227405312 : Int64)) &&& ((4503599627370496 : Int64) ^^^ (-1 : Int64)))), .second, .val (.int (p3 &&& (3 : Int32))), .unset] [(.long (9218868437227405312 : Int64)), (.long (((q2 ||| (9218868437227405312 : Int64)) &&& ((4503599627370496 : Int64) ^^^ (-1 : Int64))) &&& (9218868437227405312 : Int64)))])) _
    refine XS.lcmp X5.here hx rfl (hb hby at_145) rfl ?_
    show Steps p.tables e below (T5.setTop (mkF m 146 #[.val (.int p1), .val (.long q2), .second, .val (.int p3), .val (.int (1 : Int32)), .val (.ref w_BINARY64), .val (.long (9218868437227405312 : Int64)), .second, .val (.long (4503599627370496 : Int64)), .second, .val (.long ((q2 ||| (9218868437227405312 : Int64)) &&& ((4503599627370496 : Int64) ^^^ (-1 : Int64)))), .second, .val (.int (p3 &&& (3 : Int32))), .unset] [(.int (lcmpW (((q2 ||| (9218868437227405312 : Int64)) &&& ((4503599627370496 : Int64) ^^^ (-1 : Int64))) &&& (9218868437227405312 : Int64)) (9218868437227405312 : Int64)))])) _
    refine XS.ifYes X5.here hx rfl (pc0 := 146) (pc' := 153) rfl (hb hby at_146) rfl ((if0 _ _).trans (teq hc146).1) (by decide) (by decide) ?_
    show Steps p.tables e below (T5.setTop (mkF m 153 #[.val (.int p1), .val (.long q2), .second, .val (.int p3), .val (.int (1 : Int32)), .val (.ref w_BINARY64), .val (.long (9218868437227405312 : Int64)), .second, .val (.long (4503599627370496 : Int64)), .second, .val (.long ((q2 ||| (9218868437227405312 : Int64)) &&& ((4503599627370496 : Int64) ^^^ (-1 : Int64)))), .second, .val (.int (p3 &&& (3 : Int32))), .unset] [])) _
    refine XS.iconst X5.here hx rfl (hb hby at_153) ?_
    show Steps p.tables e below (T5.setTop (mkF m 154 #[.val (.int p1), .val (.long q2), .second, .val (.int p3), .val (.int (1 : Int32)), .val (.ref w_BINARY64), .val (.long (9218868437227405312 : Int64)), .second, .val (.long (4503599627370496 : Int64)), .second, .val (.long ((q2 ||| (9218868437227405312 : Int64)) &&& ((4503599627370496 : Int64) ^^^ (-1 : Int64)))), .second, .val (.int (p3 &&& (3 : Int32))), .unset] [(.int (0 : Int32))])) _
    refine XS.istore X5.here hx rfl (hb hby at_154) rfl (l' := #[.val (.int p1), .val (.long q2), .second, .val (.int p3), .val (.int (1 : Int32)), .val (.ref w_BINARY64), .val (.long (9218868437227405312 : Int64)), .second, .val (.long (4503599627370496 : Int64)), .second, .val (.long ((q2 ||| (9218868437227405312 : Int64)) &&& ((4503599627370496 : Int64) ^^^ (-1 : Int64)))), .second, .val (.int (p3 &&& (3 : Int32))), .val (.int (0 : Int32))]) rfl ?_
    show Steps p.tables e below (T5.setTop (mkF m 156 #[.val (.int p1), .val (.long q2), .second, .val (.int p3), .val (.int (1 : Int32)), .val (.ref w_BINARY64), .val (.long (9218868437227405312 : Int64)), .second, .val (.long (4503599627370496 : Int64)), .second, .val (.long ((q2 ||| (9218868437227405312 : Int64)) &&& ((4503599627370496 : Int64) ^^^ (-1 : Int64)))), .second, .val (.int (p3 &&& (3 : Int32))), .val (.int (0 : Int32))] [])) _
    refine XS.aload X5.here hx rfl (hb hby at_156) rfl rfl ?_
    show Steps p.tables e below (T5.setTop (mkF m 158 #[.val (.int p1), .val (.long q2), .second, .val (.int p3), .val (.int (1 : Int32)), .val (.ref w_BINARY64), .val (.long (9218868437227405312 : Int64)), .second, .val (.long (4503599627370496 : Int64)), .second, .val (.long ((q2 ||| (9218868437227405312 : Int64)) &&& ((4503599627370496 : Int64) ^^^ (-1 : Int64)))), .second, .val (.int (p3 &&& (3 : Int32))), .val (.int (0 : Int32))] [(.ref w_BINARY64)])) _
    refine XS.lload X5.here hx rfl (hb hby at_158) rfl ?_
    show Steps p.tables e below (T5.setTop (mkF m 160 #[.val (.int p1), .val (.long q2), .second, .val (.int p3), .val (.int (1 : Int32)), .val (.ref w_BINARY64), .val (.long (9218868437227405312 : Int64)), .second, .val (.long (4503599627370496 : Int64)), .second, .val (.long ((q2 ||| (9218868437227405312 : Int64)) &&& ((4503599627370496 : Int64) ^^^ (-1 : Int64)))), .second, .val (.int (p3 &&& (3 : Int32))), .val (.int (0 : Int32))] [(.long ((q2 ||| (9218868437227405312 : Int64)) &&& ((4503599627370496 : Int64) ^^^ (-1 : Int64)))), (.ref w_BINARY64)])) _
    refine st6.trans ?_
    show Steps p.tables e below (T6.setTop (mkF m 163 #[.val (.int p1), .val (.long q2), .second, .val (.int p3), .val (.int (1 : Int32)), .val (.ref w_BINARY64), .val (.long (9218868437227405312 : Int64)), .second, .val (.long (4503599627370496 : Int64)), .second, .val (.long ((q2 ||| (9218868437227405312 : Int64)) &&& ((4503599627370496 : Int64) ^^^ (-1 : Int64)))), .second, .val (.int (p3 &&& (3 : Int32))), .val (.int (0 : Int32))] [(.int u)])) _
    refine XS.iload X6.here hx rfl (hb hby at_163) rfl ?_
    show Steps p.tables e below (T6.setTop (mkF m 165 #[.val (.int p1), .val (.long q2), .second, .val (.int p3), .val (.int (1 : Int32)), .val (.ref w_BINARY64), .val (.long (9218868437227405312 : Int64)), .second, .val (.long (4503599627370496 : Int64)), .second, .val (.long ((q2 ||| (9218868437227405312 : Int64)) &&& ((4503599627370496 : Int64) ^^^ (-1 : Int64)))), .second, .val (.int (p3 &&& (3 : Int32))), .val (.int (0 : Int32))] [(.int (0 : Int32)), (.int u)])) _
    refine XS.icmpNo X6.here hx rfl (hb hby at_165) rfl (teq (hv165 : u = (0 : Int32))).2 ?_
    show Steps p.tables e below (T6.setTop (mkF m 168 #[.val (.int p1), .val (.long q2), .second, .val (.int p3), .val (.int (1 : Int32)), .val (.ref w_BINARY64), .val (.long (9218868437227405312 : Int64)), .second, .val (.long (4503599627370496 : Int64)), .second, .val (.long ((q2 ||| (9218868437227405312 : Int64)) &&& ((4503599627370496 : Int64) ^^^ (-1 : Int64)))), .second, .val (.int (p3 &&& (3 : Int32))), .val (.int (0 : Int32))] [])) _
    refine XS.iconst X6.here hx rfl (hb hby at_168) ?_
    show Steps p.tables e below (T6.setTop (mkF m 169 #[.val (.int p1), .val (.long q2), .second, .val (.int p3), .val (.int (1 : Int32)), .val (.ref w_BINARY64), .val (.long (9218868437227405312 : Int64)), .second, .val (.long (4503599627370496 : Int64)), .second, .val (.long ((q2 ||| (9218868437227405312 : Int64)) &&& ((4503599627370496 : Int64) ^^^ (-1 : Int64)))), .second, .val (.int (p3 &&& (3 : Int32))), .val (.int (0 : Int32))] [(.int (1 : Int32))])) _
    refine XS.goto X6.here hx rfl (pc0 := 169) (pc' := 173) rfl (hb hby at_169) (by decide) (by decide) ?_
    show Steps p.tables e below (T6.setTop (mkF m 173 #[.val (.int p1), .val (.long q2), .second, .val (.int p3), .val (.int (1 : Int32)), .val (.ref w_BINARY64), .val (.long (9218868437227405312 : Int64)), .second, .val (.long (4503599627370496 : Int64)), .second, .val (.long ((q2 ||| (9218868437227405312 : Int64)) &&& ((4503599627370496 : Int64) ^^^ (-1 : Int64)))), .second, .val (.int (p3 &&& (3 : Int32))), .val (.int (0 : Int32))] [(.int (1 : Int32))])) _
    exact retN X6 hx (t := .boolean) Bd.returns (by simp) (hb hby at_173) hr
  · show Q0 Z h0 n0 _ T6.heap _
    exact ⟨rfl, N6⟩
set_option maxRecDepth 65536 in
set_option maxHeartbeats 40000000 in
theorem rm0_ffffftfff (l : Launch) (Z : State) (a0 : Array Value) (hw : ∀ d ∈ tables_1, d.before a0 Z = true) (ws : List Jvm.Cond) (p1 : Int32) (q2 : Int64) (p3 : Int32) (w_BINARY64 : Addr) (u : Int32) (h0 : Heap) (n0 : Nat) (Z0 : n0 ≤ h0.size) (S_BINARY64 : Sta Z h0 "com/example/fourfold/fourfold/json/FloatFormat" "BINARY64" "Lcom/example/fourfold/fourfold/json/FloatFormat;" (.ref w_BINARY64)) (E_BINARY64 : Exa Z h0 w_BINARY64 "com/example/fourfold/fourfold/json/FloatFormat") (F_fractionBits_BINARY64 : Fld Z h0 w_BINARY64 "com/example/fourfold/fourfold/json/FloatFormat" "fractionBits" "I" (.int (52 : Int32))) (F_specialExponent_BINARY64 : Fld Z h0 w_BINARY64 "com/example/fourfold/fourfold/json/FloatFormat" "specialExponent" "I" (.int (2047 : Int32))) (hu : finF ((q2 ||| (9218868437227405312 : Int64)) &&& ((4503599627370496 : Int64) ^^^ (-1 : Int64))) (52 : Int32) (2047 : Int32) = u) (hc3 : ¬ ((p1 &&& (1 : Int32)) = (0 : Int32))) (hc15 : ¬ ((1 : Int32) = (0 : Int32))) (hc31 : ¬ ((1 : Int32) = (0 : Int32))) (hc47 : ¬ ((1 : Int32) = (0 : Int32))) (hc63 : ¬ ((1 : Int32) = (0 : Int32))) (hc85 : ¬ ((p3 &&& (3 : Int32)) = (1 : Int32))) (hc101 : (p3 &&& (3 : Int32)) = (2 : Int32)) (hc146 : ¬ ((lcmpW (((q2 ||| (9218868437227405312 : Int64)) &&& ((4503599627370496 : Int64) ^^^ (-1 : Int64))) &&& (9218868437227405312 : Int64)) (9218868437227405312 : Int64)) = (0 : Int32))) (hv165 : u = (1 : Int32)) :
    MetFree l x (head1 (Jvm.Cond.code x code maxLocals ret :: ws) room_1) (fun a U => a = #[(.int p1), (.long q2), (.int p3)] ∧ Z.Warmed39 U.vm ∧ U.heap = h0) (fun _ _ _ _ _ => True) (fun _ U o U' => ∃ v L, o = .returned v ∧ Q0 Z h0 n0 v U'.heap L ∧ FrameEnd U o U' L room_1.cells room_1.slots) := by
  refine MetFree.of_bodySF (plainFor_of_name pn_0) hisR ?_
  intro p e s m args below meth c s₁ Bd hml0 hP hK
  obtain ⟨rfl, hZ, hh⟩ := hP
  have hx := Bd.exec
  have hby := Bd.bytes
  have hml : c.maxLocals = 14 := hml0
  have hown : s.vm.findClass "com/example/fourfold/fourfold/json/FloatFormatIsFinitePinLaw" = some m.cls := findClass_of_methodNamed Bd.named
  have hnm := (name_of_methodNamed Bd.named Bd.method).1
  have X0 : Stand p l e room_1 s m #[(.int p1), (.long q2), (.int p3)] below meth c s₁ [] 0 0 := Stand.of_body Bd
  have e0 : s₁.heap = h0 := by rw [← hh, Bd.state]; rfl
  have N0 := Fr.nil n0
  have pre0 : ∀ t, Steps p.tables e below (s₁.setTop (mkF m 0 #[.val (.int p1), .val (.long q2), .second, .val (.int p3), .unset, .unset, .unset, .unset, .unset, .unset, .unset, .unset, .unset, .unset] [])) t → Steps p.tables e below (s₁.setTop (entryFrame m #[(.int p1), (.long q2), (.int p3)] maxLocals)) t := fun t k => castTop (ef_0 m p1 q2 p3) k
  -- 3. LAWS
  obtain ⟨T5, X5, e5, st5⟩ := getS2 X0 hx hZ hown (host := "") (Or.inl (hw _ (List.mem_of_getElem? (i := 20) rfl))) Via.refl e0 S_BINARY64 (g := (mkF m 18 #[.val (.int p1), .val (.long q2), .second, .val (.int p3), .val (.int (1 : Int32)), .unset, .unset, .unset, .unset, .unset, .unset, .unset, .unset, .unset] [])) rfl (hb hby at_18)
  -- pc 160: com/example/fourfold/fourfold/json/FloatFormat.isFinite by the contract of the body that the receiver's class selects, rm1
  obtain ⟨cq6, kq6, q6a, q6b, q6c⟩ := isOf hZ e5 E_BINARY64
  obtain ⟨_, _, ⟨T6, L6, k6, n6⟩, -, X6, ⟨Lc6, hQ6, l6, y6, z6⟩, st6⟩ := X5.virtualBack hx (y := (⟨"com/example/fourfold/fourfold/json/FloatFormat", "isFinite", "(J)Z"⟩ : MethodName)) (z := (⟨"com/example/fourfold/fourfold/json/FloatFormat", "isFinite", "(J)Z"⟩ : MethodName)) hown (mvT hZ (hw _ (List.mem_of_getElem? (i := 6) rfl))) (mvT hZ (hw _ (List.mem_of_getElem? (i := 7) rfl))) (notFace_of_selects (args := #[]) (mvT hZ (hw _ (List.mem_of_getElem? (i := 9) rfl)))) (mvT hZ (hw _ (List.mem_of_getElem? (i := 9) rfl))) (mvT hZ (hw _ (List.mem_of_getElem? (i := 8) rfl))) (by decide) (backOf (W := 0) (rm1 l Z a0 hw [] w_BINARY64 ((q2 ||| (9218868437227405312 : Int64)) &&& ((4503599627370496 : Int64) ^^^ (-1 : Int64))) (2047 : Int32) (52 : Int32) h0 n0 Z0 E_BINARY64 F_specialExponent_BINARY64 F_fractionBits_BINARY64) hZ (hw _ (List.mem_of_getElem? (i := 10) rfl)) (hw _ (List.mem_of_getElem? (i := 1) rfl)) (by decide) (by decide)) q6a q6c (g := (mkF m 160 #[.val (.int p1), .val (.long q2), .second, .val (.int p3), .val (.int (1 : Int32)), .val (.ref w_BINARY64), .val (.long (9218868437227405312 : Int64)), .second, .val (.long (4503599627370496 : Int64)), .second, .val (.long ((q2 ||| (9218868437227405312 : Int64)) &&& ((4503599627370496 : Int64) ^^^ (-1 : Int64)))), .second, .val (.int (p3 &&& (3 : Int32))), .val (.int (1 : Int32))] [(.long ((q2 ||| (9218868437227405312 : Int64)) &&& ((4503599627370496 : Int64) ^^^ (-1 : Int64)))), (.ref w_BINARY64)])) rfl (by rw [hml]; rfl) (Steps.refl _) (argsL := [(.long ((q2 ||| (9218868437227405312 : Int64)) &&& ((4503599627370496 : Int64) ^^^ (-1 : Int64))))]) (rest := []) (lenOf pd_0_0 rfl) rfl (by show 2 * 0 + _ ≤ _; exact Nat.le_of_eq rfl) (hb hby at_160) (fun _ _ => ⟨rfl, e5, (by decide : 0 + 0 ≤ _), (by decide : 0 + 0 ≤ _)⟩)
  dsimp only [Pt.U, Pt.locs, Pt.cells, Pt.slots] at X6 l6 y6 z6 st6 hQ6
  subst l6 y6 z6
  obtain ⟨rv6, N6q, q6⟩ := hQ6
  rw [hu] at rv6
  subst rv6
  have N6 := Fr.app N0 N6q
  obtain ⟨fs, hr, hrun, hended, hW, hsame⟩ := X6.leave (v := some (.int (1 : Int32))) (fun h => by rw [Bd.returns] at h; cases h)
  refine ⟨_, _, pre0 _ ?_, hrun, hended, _, _, rfl, ?_, ⟨_, rfl⟩, hW, hsame.mono (by decide) (by decide)⟩
  -- 4. STEPS
  · show Steps p.tables e below (s₁.setTop (mkF m 0 #[.val (.int p1), .val (.long q2), .second, .val (.int p3), .unset, .unset, .unset, .unset, .unset, .unset, .unset, .unset, .unset, .unset] [])) _
    refine XS.iloadN X0.here hx rfl (hb hby at_0) rfl ?_
    show Steps p.tables e below (s₁.setTop (mkF m 1 #[.val (.int p1), .val (.long q2), .second, .val (.int p3), .unset, .unset, .unset, .unset, .unset, .unset, .unset, .unset, .unset, .unset] [(.int p1)])) _
    refine XS.iconst X0.here hx rfl (hb hby at_1) ?_
    show Steps p.tables e below (s₁.setTop (mkF m 2 #[.val (.int p1), .val (.long q2), .second, .val (.int p3), .unset, .unset, .unset, .unset, .unset, .unset, .unset, .unset, .unset, .unset] [(.int (1 : Int32)), (.int p1)])) _
    refine XS.iand X0.here hx rfl (hb hby at_2) rfl ?_
    show Steps p.tables e below (s₁.setTop (mkF m 3 #[.val (.int p1), .val (.long q2), .second, .val (.int p3), .unset, .unset, .unset, .unset, .unset, .unset, .unset, .unset, .unset, .unset] [(.int (p1 &&& (1 : Int32)))])) _
    refine XS.ifNo X0.here hx rfl (hb hby at_3) rfl ((if0 _ _).trans (feq hc3).1) ?_
    show Steps p.tables e below (s₁.setTop (mkF m 6 #[.val (.int p1), .val (.long q2), .second, .val (.int p3), .unset, .unset, .unset, .unset, .unset, .unset, .unset, .unset, .unset, .unset] [])) _
    refine XS.iconst X0.here hx rfl (hb hby at_6) ?_
    show Steps p.tables e below (s₁.setTop (mkF m 7 #[.val (.int p1), .val (.long q2), .second, .val (.int p3), .unset, .unset, .unset, .unset, .unset, .unset, .unset, .unset, .unset, .unset] [(.int (1 : Int32))])) _
    refine XS.goto X0.here hx rfl (pc0 := 7) (pc' := 11) rfl (hb hby at_7) (by decide) (by decide) ?_
    show Steps p.tables e below (s₁.setTop (mkF m 11 #[.val (.int p1), .val (.long q2), .second, .val (.int p3), .unset, .unset, .unset, .unset, .unset, .unset, .unset, .unset, .unset, .unset] [(.int (1 : Int32))])) _
    refine XS.istore X0.here hx rfl (hb hby at_11) rfl (l' := #[.val (.int p1), .val (.long q2), .second, .val (.int p3), .val (.int (1 : Int32)), .unset, .unset, .unset, .unset, .unset, .unset, .unset, .unset, .unset]) rfl ?_
    show Steps p.tables e below (s₁.setTop (mkF m 13 #[.val (.int p1), .val (.long q2), .second, .val (.int p3), .val (.int (1 : Int32)), .unset, .unset, .unset, .unset, .unset, .unset, .unset, .unset, .unset] [])) _
    refine XS.iload X0.here hx rfl (hb hby at_13) rfl ?_
    show Steps p.tables e below (s₁.setTop (mkF m 15 #[.val (.int p1), .val (.long q2), .second, .val (.int p3), .val (.int (1 : Int32)), .unset, .unset, .unset, .unset, .unset, .unset, .unset, .unset, .unset] [(.int (1 : Int32))])) _
    refine XS.ifNo X0.here hx rfl (hb hby at_15) rfl ((if0 _ _).trans (feq hc15).1) ?_
    show Steps p.tables e below (s₁.setTop (mkF m 18 #[.val (.int p1), .val (.long q2), .second, .val (.int p3), .val (.int (1 : Int32)), .unset, .unset, .unset, .unset, .unset, .unset, .unset, .unset, .unset] [])) _
    refine st5 _ ?_
    show Steps p.tables e below (T5.setTop (mkF m 21 #[.val (.int p1), .val (.long q2), .second, .val (.int p3), .val (.int (1 : Int32)), .unset, .unset, .unset, .unset, .unset, .unset, .unset, .unset, .unset] [(.ref w_BINARY64)])) _
    refine XS.goto X5.here hx rfl (pc0 := 21) (pc' := 27) rfl (hb hby at_21) (by decide) (by decide) ?_
    show Steps p.tables e below (T5.setTop (mkF m 27 #[.val (.int p1), .val (.long q2), .second, .val (.int p3), .val (.int (1 : Int32)), .unset, .unset, .unset, .unset, .unset, .unset, .unset, .unset, .unset] [(.ref w_BINARY64)])) _
    refine XS.astore X5.here hx rfl (hb hby at_27) rfl rfl (l' := #[.val (.int p1), .val (.long q2), .second, .val (.int p3), .val (.int (1 : Int32)), .val (.ref w_BINARY64), .unset, .unset, .unset, .unset, .unset, .unset, .unset, .unset]) rfl ?_
    show Steps p.tables e below (T5.setTop (mkF m 29 #[.val (.int p1), .val (.long q2), .second, .val (.int p3), .val (.int (1 : Int32)), .val (.ref w_BINARY64), .unset, .unset, .unset, .unset, .unset, .unset, .unset, .unset] [])) _
    refine XS.iload X5.here hx rfl (hb hby at_29) rfl ?_
    show Steps p.tables e below (T5.setTop (mkF m 31 #[.val (.int p1), .val (.long q2), .second, .val (.int p3), .val (.int (1 : Int32)), .val (.ref w_BINARY64), .unset, .unset, .unset, .unset, .unset, .unset, .unset, .unset] [(.int (1 : Int32))])) _
    refine XS.ifNo X5.here hx rfl (hb hby at_31) rfl ((if0 _ _).trans (feq hc31).1) ?_
    show Steps p.tables e below (T5.setTop (mkF m 34 #[.val (.int p1), .val (.long q2), .second, .val (.int p3), .val (.int (1 : Int32)), .val (.ref w_BINARY64), .unset, .unset, .unset, .unset, .unset, .unset, .unset, .unset] [])) _
    refine X5.ldc2Long hx hown (mvT hZ (hw _ (List.mem_of_getElem? (i := 22) rfl))) (g := (mkF m 34 #[.val (.int p1), .val (.long q2), .second, .val (.int p3), .val (.int (1 : Int32)), .val (.ref w_BINARY64), .unset, .unset, .unset, .unset, .unset, .unset, .unset, .unset] [])) rfl (hb hby at_34) _ ?_
    show Steps p.tables e below (T5.setTop (mkF m 37 #[.val (.int p1), .val (.long q2), .second, .val (.int p3), .val (.int (1 : Int32)), .val (.ref w_BINARY64), .unset, .unset, .unset, .unset, .unset, .unset, .unset, .unset] [(.long (9218868437227405312 : Int64))])) _
    refine XS.goto X5.here hx rfl (pc0 := 37) (pc' := 43) rfl (hb hby at_37) (by decide) (by decide) ?_
    show Steps p.tables e below (T5.setTop (mkF m 43 #[.val (.int p1), .val (.long q2), .second, .val (.int p3), .val (.int (1 : Int32)), .val (.ref w_BINARY64), .unset, .unset, .unset, .unset, .unset, .unset, .unset, .unset] [(.long (9218868437227405312 : Int64))])) _
    refine XS.lstore X5.here hx rfl (hb hby at_43) rfl (l' := #[.val (.int p1), .val (.long q2), .second, .val (.int p3), .val (.int (1 : Int32)), .val (.ref w_BINARY64), .val (.long (9218868437227405312 : Int64)), .second, .unset, .unset, .unset, .unset, .unset, .unset]) rfl ?_
    show Steps p.tables e below (T5.setTop (mkF m 45 #[.val (.int p1), .val (.long q2), .second, .val (.int p3), .val (.int (1 : Int32)), .val (.ref w_BINARY64), .val (.long (9218868437227405312 : Int64)), .second, .unset, .unset, .unset, .unset, .unset, .unset] [])) _
    refine XS.iload X5.here hx rfl (hb hby at_45) rfl ?_
    show Steps p.tables e below (T5.setTop (mkF m 47 #[.val (.int p1), .val (.long q2), .second, .val (.int p3), .val (.int (1 : Int32)), .val (.ref w_BINARY64), .val (.long (9218868437227405312 : Int64)), .second, .unset, .unset, .unset, .unset, .unset, .unset] [(.int (1 : Int32))])) _
    refine XS.ifNo X5.here hx rfl (hb hby at_47) rfl ((if0 _ _).trans (feq hc47).1) ?_
    show Steps p.tables e below (T5.setTop (mkF m 50 #[.val (.int p1), .val (.long q2), .second, .val (.int p3), .val (.int (1 : Int32)), .val (.ref w_BINARY64), .val (.long (9218868437227405312 : Int64)), .second, .unset, .unset, .unset, .unset, .unset, .unset] [])) _
    refine X5.ldc2Long hx hown (mvT hZ (hw _ (List.mem_of_getElem? (i := 23) rfl))) (g := (mkF m 50 #[.val (.int p1), .val (.long q2), .second, .val (.int p3), .val (.int (1 : Int32)), .val (.ref w_BINARY64), .val (.long (9218868437227405312 : Int64)), .second, .unset, .unset, .unset, .unset, .unset, .unset] [])) rfl (hb hby at_50) _ ?_
    show Steps p.tables e below (T5.setTop (mkF m 53 #[.val (.int p1), .val (.long q2), .second, .val (.int p3), .val (.int (1 : Int32)), .val (.ref w_BINARY64), .val (.long (9218868437227405312 : Int64)), .second, .unset, .unset, .unset, .unset, .unset, .unset] [(.long (4503599627370496 : Int64))])) _
    refine XS.goto X5.here hx rfl (pc0 := 53) (pc' := 59) rfl (hb hby at_53) (by decide) (by decide) ?_
    show Steps p.tables e below (T5.setTop (mkF m 59 #[.val (.int p1), .val (.long q2), .second, .val (.int p3), .val (.int (1 : Int32)), .val (.ref w_BINARY64), .val (.long (9218868437227405312 : Int64)), .second, .unset, .unset, .unset, .unset, .unset, .unset] [(.long (4503599627370496 : Int64))])) _
    refine XS.lstore X5.here hx rfl (hb hby at_59) rfl (l' := #[.val (.int p1), .val (.long q2), .second, .val (.int p3), .val (.int (1 : Int32)), .val (.ref w_BINARY64), .val (.long (9218868437227405312 : Int64)), .second, .val (.long (4503599627370496 : Int64)), .second, .unset, .unset, .unset, .unset]) rfl ?_
    show Steps p.tables e below (T5.setTop (mkF m 61 #[.val (.int p1), .val (.long q2), .second, .val (.int p3), .val (.int (1 : Int32)), .val (.ref w_BINARY64), .val (.long (9218868437227405312 : Int64)), .second, .val (.long (4503599627370496 : Int64)), .second, .unset, .unset, .unset, .unset] [])) _
    refine XS.iload X5.here hx rfl (hb hby at_61) rfl ?_
    show Steps p.tables e below (T5.setTop (mkF m 63 #[.val (.int p1), .val (.long q2), .second, .val (.int p3), .val (.int (1 : Int32)), .val (.ref w_BINARY64), .val (.long (9218868437227405312 : Int64)), .second, .val (.long (4503599627370496 : Int64)), .second, .unset, .unset, .unset, .unset] [(.int (1 : Int32))])) _
    refine XS.ifNo X5.here hx rfl (hb hby at_63) rfl ((if0 _ _).trans (feq hc63).1) ?_
    show Steps p.tables e below (T5.setTop (mkF m 66 #[.val (.int p1), .val (.long q2), .second, .val (.int p3), .val (.int (1 : Int32)), .val (.ref w_BINARY64), .val (.long (9218868437227405312 : Int64)), .second, .val (.long (4503599627370496 : Int64)), .second, .unset, .unset, .unset, .unset] [])) _
    refine XS.lloadN X5.here hx rfl (hb hby at_66) rfl ?_
    show Steps p.tables e below (T5.setTop (mkF m 67 #[.val (.int p1), .val (.long q2), .second, .val (.int p3), .val (.int (1 : Int32)), .val (.ref w_BINARY64), .val (.long (9218868437227405312 : Int64)), .second, .val (.long (4503599627370496 : Int64)), .second, .unset, .unset, .unset, .unset] [(.long q2)])) _
    refine XS.goto X5.here hx rfl (pc0 := 67) (pc' := 75) rfl (hb hby at_67) (by decide) (by decide) ?_
    show Steps p.tables e below (T5.setTop (mkF m 75 #[.val (.int p1), .val (.long q2), .second, .val (.int p3), .val (.int (1 : Int32)), .val (.ref w_BINARY64), .val (.long (9218868437227405312 : Int64)), .second, .val (.long (4503599627370496 : Int64)), .second, .unset, .unset, .unset, .unset] [(.long q2)])) _
    refine XS.lstore X5.here hx rfl (hb hby at_75) rfl (l' := #[.val (.int p1), .val (.long q2), .second, .val (.int p3), .val (.int (1 : Int32)), .val (.ref w_BINARY64), .val (.long (9218868437227405312 : Int64)), .second, .val (.long (4503599627370496 : Int64)), .second, .val (.long q2), .second, .unset, .unset]) rfl ?_
    show Steps p.tables e below (T5.setTop (mkF m 77 #[.val (.int p1), .val (.long q2), .second, .val (.int p3), .val (.int (1 : Int32)), .val (.ref w_BINARY64), .val (.long (9218868437227405312 : Int64)), .second, .val (.long (4503599627370496 : Int64)), .second, .val (.long q2), .second, .unset, .unset] [])) _
    refine XS.iloadN X5.here hx rfl (hb hby at_77) rfl ?_
    show Steps p.tables e below (T5.setTop (mkF m 78 #[.val (.int p1), .val (.long q2), .second, .val (.int p3), .val (.int (1 : Int32)), .val (.ref w_BINARY64), .val (.long (9218868437227405312 : Int64)), .second, .val (.long (4503599627370496 : Int64)), .second, .val (.long q2), .second, .unset, .unset] [(.int p3)])) _
    refine XS.iconst X5.here hx rfl (hb hby at_78) ?_
    show Steps p.tables e below (T5.setTop (mkF m 79 #[.val (.int p1), .val (.long q2), .second, .val (.int p3), .val (.int (1 : Int32)), .val (.ref w_BINARY64), .val (.long (9218868437227405312 : Int64)), .second, .val (.long (4503599627370496 : Int64)), .second, .val (.long q2), .second, .unset, .unset] [(.int (3 : Int32)), (.int p3)])) _
    refine XS.iand X5.here hx rfl (hb hby at_79) rfl ?_
    show Steps p.tables e below (T5.setTop (mkF m 80 #[.val (.int p1), .val (.long q2), .second, .val (.int p3), .val (.int (1 : Int32)), .val (.ref w_BINARY64), .val (.long (9218868437227405312 : Int64)), .second, .val (.long (4503599627370496 : Int64)), .second, .val (.long q2), .second, .unset, .unset] [(.int (p3 &&& (3 : Int32)))])) _
    refine XS.istore X5.here hx rfl (hb hby at_80) rfl (l' := #[.val (.int p1), .val (.long q2), .second, .val (.int p3), .val (.int (1 : Int32)), .val (.ref w_BINARY64), .val (.long (9218868437227405312 : Int64)), .second, .val (.long (4503599627370496 : Int64)), .second, .val (.long q2), .second, .val (.int (p3 &&& (3 : Int32))), .unset]) rfl ?_
    show Steps p.tables e below (T5.setTop (mkF m 82 #[.val (.int p1), .val (.long q2), .second, .val (.int p3), .val (.int (1 : Int32)), .val (.ref w_BINARY64), .val (.long (9218868437227405312 : Int64)), .second, .val (.long (4503599627370496 : Int64)), .second, .val (.long q2), .second, .val (.int (p3 &&& (3 : Int32))), .unset] [])) _
    refine XS.iload X5.here hx rfl (hb hby at_82) rfl ?_
    show Steps p.tables e below (T5.setTop (mkF m 84 #[.val (.int p1), .val (.long q2), .second, .val (.int p3), .val (.int (1 : Int32)), .val (.ref w_BINARY64), .val (.long (9218868437227405312 : Int64)), .second, .val (.long (4503599627370496 : Int64)), .second, .val (.long q2), .second, .val (.int (p3 &&& (3 : Int32))), .unset] [(.int (p3 &&& (3 : Int32)))])) _
    refine XS.iconst X5.here hx rfl (hb hby at_84) ?_
    show Steps p.tables e below (T5.setTop (mkF m 85 #[.val (.int p1), .val (.long q2), .second, .val (.int p3), .val (.int (1 : Int32)), .val (.ref w_BINARY64), .val (.long (9218868437227405312 : Int64)), .second, .val (.long (4503599627370496 : Int64)), .second, .val (.long q2), .second, .val (.int (p3 &&& (3 : Int32))), .unset] [(.int (1 : Int32)), (.int (p3 &&& (3 : Int32)))])) _
    refine XS.icmpYes X5.here hx rfl (pc0 := 85) (pc' := 98) rfl (hb hby at_85) rfl (feq hc85).2 (by decide) (by decide) ?_
    show Steps p.tables e below (T5.setTop (mkF m 98 #[.val (.int p1), .val (.long q2), .second, .val (.int p3), .val (.int (1 : Int32)), .val (.ref w_BINARY64), .val (.long (9218868437227405312 : Int64)), .second, .val (.long (4503599627370496 : Int64)), .second, .val (.long q2), .second, .val (.int (p3 &&& (3 : Int32))), .unset] [])) _
    refine XS.iload X5.here hx rfl (hb hby at_98) rfl ?_
    show Steps p.tables e below (T5.setTop (mkF m 100 #[.val (.int p1), .val (.long q2), .second, .val (.int p3), .val (.int (1 : Int32)), .val (.ref w_BINARY64), .val (.long (9218868437227405312 : Int64)), .second, .val (.long (4503599627370496 : Int64)), .second, .val (.long q2), .second, .val (.int (p3 &&& (3 : Int32))), .unset] [(.int (p3 &&& (3 : Int32)))])) _
    refine XS.iconst X5.here hx rfl (hb hby at_100) ?_
    show Steps p.tables e below (T5.setTop (mkF m 101 #[.val (.int p1), .val (.long q2), .second, .val (.int p3), .val (.int (1 : Int32)), .val (.ref w_BINARY64), .val (.long (9218868437227405312 : Int64)), .second, .val (.long (4503599627370496 : Int64)), .second, .val (.long q2), .second, .val (.int (p3 &&& (3 : Int32))), .unset] [(.int (2 : Int32)), (.int (p3 &&& (3 : Int32)))])) _
    refine XS.icmpNo X5.here hx rfl (hb hby at_101) rfl (teq hc101).2 ?_
    show Steps p.tables e below (T5.setTop (mkF m 104 #[.val (.int p1), .val (.long q2), .second, .val (.int p3), .val (.int (1 : Int32)), .val (.ref w_BINARY64), .val (.long (9218868437227405312 : Int64)), .second, .val (.long (4503599627370496 : Int64)), .second, .val (.long q2), .second, .val (.int (p3 &&& (3 : Int32))), .unset] [])) _
    refine XS.lload X5.here hx rfl (hb hby at_104) rfl ?_
    show Steps p.tables e below (T5.setTop (mkF m 106 #[.val (.int p1), .val (.long q2), .second, .val (.int p3), .val (.int (1 : Int32)), .val (.ref w_BINARY64), .val (.long (9218868437227405312 : Int64)), .second, .val (.long (4503599627370496 : Int64)), .second, .val (.long q2), .second, .val (.int (p3 &&& (3 : Int32))), .unset] [(.long q2)])) _
    refine XS.lload X5.here hx rfl (hb hby at_106) rfl ?_
    show Steps p.tables e below (T5.setTop (mkF m 108 #[.val (.int p1), .val (.long q2), .second, .val (.int p3), .val (.int (1 : Int32)), .val (.ref w_BINARY64), .val (.long (9218868437227405312 : Int64)), .second, .val (.long (4503599627370496 : Int64)), .second, .val (.long q2), .second, .val (.int (p3 &&& (3 : Int32))), .unset] [(.long (9218868437227405312 : Int64)), (.long q2)])) _
    refine XS.lor X5.here hx rfl (hb hby at_108) rfl ?_
    show Steps p.tables e below (T5.setTop (mkF m 109 #[.val (.int p1), .val (.long q2), .second, .val (.int p3), .val (.int (1 : Int32)), .val (.ref w_BINARY64), .val (.long (9218868437227405312 : Int64)), .second, .val (.long (4503599627370496 : Int64)), .second, .val (.long q2), .second, .val (.int (p3 &&& (3 : Int32))), .unset] [(.long (q2 ||| (9218868437227405312 : Int64)))])) _
    refine XS.lload X5.here hx rfl (hb hby at_109) rfl ?_
    show Steps p.tables e below (T5.setTop (mkF m 111 #[.val (.int p1), .val (.long q2), .second, .val (.int p3), .val (.int (1 : Int32)), .val (.ref w_BINARY64), .val (.long (9218868437227405312 : Int64)), .second, .val (.long (4503599627370496 : Int64)), .second, .val (.long q2), .second, .val (.int (p3 &&& (3 : Int32))), .unset] [(.long (4503599627370496 : Int64)), (.long (q2 ||| (9218868437227405312 : Int64)))])) _
    refine X5.ldc2Long hx hown (mvT hZ (hw _ (List.mem_of_getElem? (i := 19) rfl))) (g := (mkF m 111 #[.val (.int p1), .val (.long q2), .second, .val (.int p3), .val (.int (1 : Int32)), .val (.ref w_BINARY64), .val (.long (9218868437227405312 : Int64)), .second, .val (.long (4503599627370496 : Int64)), .second, .val (.long q2), .second, .val (.int (p3 &&& (3 : Int32))), .unset] [(.long (4503599627370496 : Int64)), (.long (q2 ||| (9218868437227405312 : Int64)))])) rfl (hb hby at_111) _ ?_
    show Steps p.tables e below (T5.setTop (mkF m 114 #[.val (.int p1), .val (.long q2), .second, .val (.int p3), .val (.int (1 : Int32)), .val (.ref w_BINARY64), .val (.long (9218868437227405312 : Int64)), .second, .val (.long (4503599627370496 : Int64)), .second, .val (.long q2), .second, .val (.int (p3 &&& (3 : Int32))), .unset] [(.long (-1 : Int64)), (.long (4503599627370496 : Int64)), (.long (q2 ||| (9218868437227405312 : Int64)))])) _
    refine XS.lxor X5.here hx rfl (hb hby at_114) rfl ?_
    show Steps p.tables e below (T5.setTop (mkF m 115 #[.val (.int p1), .val (.long q2), .second, .val (.int p3), .val (.int (1 : Int32)), .val (.ref w_BINARY64), .val (.long (9218868437227405312 : Int64)), .second, .val (.long (4503599627370496 : Int64)), .second, .val (.long q2), .second, .val (.int (p3 &&& (3 : Int32))), .unset] [(.long ((4503599627370496 : Int64) ^^^ (-1 : Int64))), (.long (q2 ||| (9218868437227405312 : Int64)))])) _
    refine XS.land X5.here hx rfl (hb hby at_115) rfl ?_
    show Steps p.tables e below (T5.setTop (mkF m 116 #[.val (.int p1), .val (.long q2), .second, .val (.int p3), .val (.int (1 : Int32)), .val (.ref w_BINARY64), .val (.long (9218868437227405312 : Int64)), .second, .val (.long (4503599627370496 : Int64)), .second, .val (.long q2), .second, .val (.int (p3 &&& (3 : Int32))), .unset] [(.long ((q2 ||| (9218868437227405312 : Int64)) &&& ((4503599627370496 : Int64) ^^^ (-1 : Int64))))])) _
    refine XS.lstore X5.here hx rfl (hb hby at_116) rfl (l' := #[.val (.int p1), .val (.long q2), .second, .val (.int p3), .val (.int (1 : Int32)), .val (.ref w_BINARY64), .val (.long (9218868437227405312 : Int64)), .second, .val (.long (4503599627370496 : Int64)), .second, .val (.long ((q2 ||| (9218868437227405312 : Int64)) &&& ((4503599627370496 : Int64) ^^^ (-1 : Int64)))), .second, .val (.int (p3 &&& (3 : Int32))), .unset]) rfl ?_
    show Steps p.tables e below (T5.setTop (mkF m 118 #[.val (.int p1), .val (.long q2), .second, .val (.int p3), .val (.int (1 : Int32)), .val (.ref w_BINARY64), .val (.long (9218868437227405312 : Int64)), .second, .val (.long (4503599627370496 : Int64)), .second, .val (.long ((q2 ||| (9218868437227405312 : Int64)) &&& ((4503599627370496 : Int64) ^^^ (-1 : Int64)))), .second, .val (.int (p3 &&& (3 : Int32))), .unset] [])) _
    refine XS.goto X5.here hx rfl (pc0 := 118) (pc' := 138) rfl (hb hby at_118) (by decide) (by decide) ?_
    show Steps p.tables e below (T5.setTop (mkF m 138 #[.val (.int p1), .val (.long q2), .second, .val (.int p3), .val (.int (1 : Int32)), .val (.ref w_BINARY64), .val (.long (9218868437227405312 : Int64)), .second, .val (.long (4503599627370496 : Int64)), .second, .val (.long ((q2 ||| (9218868437227405312 : Int64)) &&& ((4503599627370496 : Int64) ^^^ (-1 : Int64)))), .second, .val (.int (p3 &&& (3 : Int32))), .unset] [])) _
    refine XS.lload X5.here hx rfl (hb hby at_138) rfl ?_
    show Steps p.tables e below (T5.setTop (mkF m 140 #[.val (.int p1), .val (.long q2), .second, .val (.int p3), .val (.int (1 : Int32)), .val (.ref w_BINARY64), .val (.long (9218868437227405312 : Int64)), .second, .val (.long (4503599627370496 : Int64)), .second, .val (.long ((q2 ||| (9218868437227405312 : Int64)) &&& ((4503599627370496 : Int64) ^^^ (-1 : Int64)))), .second, .val (.int (p3 &&& (3 : Int32))), .unset] [(.long ((q2 ||| (9218868437227405312 : Int64)) &&& ((4503599627370496 : Int64) ^^^ (-1 : Int64))))])) _
    refine XS.lload X5.here hx rfl (hb hby at_140) rfl ?_
    show Steps p.tables e below (T5.setTop (mkF m 142 #[.val (.int p1), .val (.long q2), .second, .val (.int p3), .val (.int (1 : Int32)), .val (.ref w_BINARY64), .val (.long (9218868437227405312 : Int64)), .second, .val (.long (4503599627370496 : Int64)), .second, .val (.long ((q2 ||| (9218868437227405312 : Int64)) &&& ((4503599627370496 : Int64) ^^^ (-1 : Int64)))), .second, .val (.int (p3 &&& (3 : Int32))), .unset] [(.long (9218868437227405312 : Int64)), (.long ((q2 ||| (9218868437227405312 : Int64)) &&& ((4503599627370496 : Int64) ^^^ (-1 : Int64))))])) _
    refine XS.land X5.here hx rfl (hb hby at_142) rfl ?_
    show Steps p.tables e below (T5.setTop (mkF m 143 #[.val (.int p1), .val (.long q2), .second, .val (.int p3), .val (.int (1 : Int32)), .val (.ref w_BINARY64), .val (.long (9218868437227405312 : Int64)), .second, .val (.long (4503599627370496 : Int64)), .second, .val (.long ((q2 ||| (9218868437227405312 : Int64)) &&& ((4503599627370496 : Int64) ^^^ (-1 : Int64)))), .second, .val (.int (p3 &&& (3 : Int32))), .unset] [(.long (((q2 ||| (9218868437227405312 : Int64)) &&& ((4503599627370496 : Int64) ^^^ (-1 : Int64))) &&& (9218868437227405312 : Int64)))])) _
    refine XS.lload X5.here hx rfl (hb hby at_143) rfl ?_
    show Steps p.tables e below (T5.setTop (mkF m 145 #[.val (.int p1), .val (.long q2), .second, .val (.int p3), .val (.int (1 : Int32)), .val (.ref w_BINARY64), .val (.long (9218868437227405312 : Int64)), .second, .val (.long (4503599627370496 : Int64)), .second, .val (.long ((q2 ||| (9218868437227405312 : Int64)) &&& ((4503599627370496 : Int64) ^^^ (-1 : Int64)))), .second, .val (.int (p3 &&& (3 : Int32))), .unset] [(.long (9218868437227405312 : Int64)), (.long (((q2 ||| (9218868437227405312 : Int64)) &&& ((4503599627370496 : Int64) ^^^ (-1 : Int64))) &&& (9218868437227405312 : Int64)))])) _
    refine XS.lcmp X5.here hx rfl (hb hby at_145) rfl ?_
    show Steps p.tables e below (T5.setTop (mkF m 146 #[.val (.int p1), .val (.long q2), .second, .val (.int p3), .val (.int (1 : Int32)), .val (.ref w_BINARY64), .val (.long (9218868437227405312 : Int64)), .second, .val (.long (4503599627370496 : Int64)), .second, .val (.long ((q2 ||| (9218868437227405312 : Int64)) &&& ((4503599627370496 : Int64) ^^^ (-1 : Int64)))), .second, .val (.int (p3 &&& (3 : Int32))), .unset] [(.int (lcmpW (((q2 ||| (9218868437227405312 : Int64)) &&& ((4503599627370496 : Int64) ^^^ (-1 : Int64))) &&& (9218868437227405312 : Int64)) (9218868437227405312 : Int64)))])) _
    refine XS.ifNo X5.here hx rfl (hb hby at_146) rfl ((if0 _ _).trans (feq hc146).1) ?_
    show Steps p.tables e below (T5.setTop (mkF m 149 #[.val (.int p1), .val (.long q2), .second, .val (.int p3), .val (.int (1 : Int32)), .val (.ref w_BINARY64), .val (.long (9218868437227405312 : Int64)), .second, .val (.long (4503599627370496 : Int64)), .second, .val (.long ((q2 ||| (9218868437227405312 : Int64)) &&& ((4503599627370496 : Int64) ^^^ (-1 : Int64)))), .second, .val (.int (p3 &&& (3 : Int32))), .unset] [])) _
    refine XS.iconst X5.here hx rfl (hb hby at_149) ?_
    show Steps p.tables e below (T5.setTop (mkF m 150 #[.val (.int p1), .val (.long q2), .second, .val (.int p3), .val (.int (1 : Int32)), .val (.ref w_BINARY64), .val (.long (9218868437227405312 : Int64)), .second, .val (.long (4503599627370496 : Int64)), .second, .val (.long ((q2 ||| (9218868437227405312 : Int64)) &&& ((4503599627370496 : Int64) ^^^ (-1 : Int64)))), .second, .val (.int (p3 &&& (3 : Int32))), .unset] [(.int (1 : Int32))])) _
    refine XS.goto X5.here hx rfl (pc0 := 150) (pc' := 154) rfl (hb hby at_150) (by decide) (by decide) ?_
    show Steps p.tables e below (T5.setTop (mkF m 154 #[.val (.int p1), .val (.long q2), .second, .val (.int p3), .val (.int (1 : Int32)), .val (.ref w_BINARY64), .val (.long (9218868437227405312 : Int64)), .second, .val (.long (4503599627370496 : Int64)), .second, .val (.long ((q2 ||| (9218868437227405312 : Int64)) &&& ((4503599627370496 : Int64) ^^^ (-1 : Int64)))), .second, .val (.int (p3 &&& (3 : Int32))), .unset] [(.int (1 : Int32))])) _
    refine XS.istore X5.here hx rfl (hb hby at_154) rfl (l' := #[.val (.int p1), .val (.long q2), .second, .val (.int p3), .val (.int (1 : Int32)), .val (.ref w_BINARY64), .val (.long (9218868437227405312 : Int64)), .second, .val (.long (4503599627370496 : Int64)), .second, .val (.long ((q2 ||| (9218868437227405312 : Int64)) &&& ((4503599627370496 : Int64) ^^^ (-1 : Int64)))), .second, .val (.int (p3 &&& (3 : Int32))), .val (.int (1 : Int32))]) rfl ?_
    show Steps p.tables e below (T5.setTop (mkF m 156 #[.val (.int p1), .val (.long q2), .second, .val (.int p3), .val (.int (1 : Int32)), .val (.ref w_BINARY64), .val (.long (9218868437227405312 : Int64)), .second, .val (.long (4503599627370496 : Int64)), .second, .val (.long ((q2 ||| (9218868437227405312 : Int64)) &&& ((4503599627370496 : Int64) ^^^ (-1 : Int64)))), .second, .val (.int (p3 &&& (3 : Int32))), .val (.int (1 : Int32))] [])) _
    refine XS.aload X5.here hx rfl (hb hby at_156) rfl rfl ?_
    show Steps p.tables e below (T5.setTop (mkF m 158 #[.val (.int p1), .val (.long q2), .second, .val (.int p3), .val (.int (1 : Int32)), .val (.ref w_BINARY64), .val (.long (9218868437227405312 : Int64)), .second, .val (.long (4503599627370496 : Int64)), .second, .val (.long ((q2 ||| (9218868437227405312 : Int64)) &&& ((4503599627370496 : Int64) ^^^ (-1 : Int64)))), .second, .val (.int (p3 &&& (3 : Int32))), .val (.int (1 : Int32))] [(.ref w_BINARY64)])) _
    refine XS.lload X5.here hx rfl (hb hby at_158) rfl ?_
    show Steps p.tables e below (T5.setTop (mkF m 160 #[.val (.int p1), .val (.long q2), .second, .val (.int p3), .val (.int (1 : Int32)), .val (.ref w_BINARY64), .val (.long (9218868437227405312 : Int64)), .second, .val (.long (4503599627370496 : Int64)), .second, .val (.long ((q2 ||| (9218868437227405312 : Int64)) &&& ((4503599627370496 : Int64) ^^^ (-1 : Int64)))), .second, .val (.int (p3 &&& (3 : Int32))), .val (.int (1 : Int32))] [(.long ((q2 ||| (9218868437227405312 : Int64)) &&& ((4503599627370496 : Int64) ^^^ (-1 : Int64)))), (.ref w_BINARY64)])) _
    refine st6.trans ?_
    show Steps p.tables e below (T6.setTop (mkF m 163 #[.val (.int p1), .val (.long q2), .second, .val (.int p3), .val (.int (1 : Int32)), .val (.ref w_BINARY64), .val (.long (9218868437227405312 : Int64)), .second, .val (.long (4503599627370496 : Int64)), .second, .val (.long ((q2 ||| (9218868437227405312 : Int64)) &&& ((4503599627370496 : Int64) ^^^ (-1 : Int64)))), .second, .val (.int (p3 &&& (3 : Int32))), .val (.int (1 : Int32))] [(.int u)])) _
    refine XS.iload X6.here hx rfl (hb hby at_163) rfl ?_
    show Steps p.tables e below (T6.setTop (mkF m 165 #[.val (.int p1), .val (.long q2), .second, .val (.int p3), .val (.int (1 : Int32)), .val (.ref w_BINARY64), .val (.long (9218868437227405312 : Int64)), .second, .val (.long (4503599627370496 : Int64)), .second, .val (.long ((q2 ||| (9218868437227405312 : Int64)) &&& ((4503599627370496 : Int64) ^^^ (-1 : Int64)))), .second, .val (.int (p3 &&& (3 : Int32))), .val (.int (1 : Int32))] [(.int (1 : Int32)), (.int u)])) _
    refine XS.icmpNo X6.here hx rfl (hb hby at_165) rfl (teq (hv165 : u = (1 : Int32))).2 ?_
    show Steps p.tables e below (T6.setTop (mkF m 168 #[.val (.int p1), .val (.long q2), .second, .val (.int p3), .val (.int (1 : Int32)), .val (.ref w_BINARY64), .val (.long (9218868437227405312 : Int64)), .second, .val (.long (4503599627370496 : Int64)), .second, .val (.long ((q2 ||| (9218868437227405312 : Int64)) &&& ((4503599627370496 : Int64) ^^^ (-1 : Int64)))), .second, .val (.int (p3 &&& (3 : Int32))), .val (.int (1 : Int32))] [])) _
    refine XS.iconst X6.here hx rfl (hb hby at_168) ?_
    show Steps p.tables e below (T6.setTop (mkF m 169 #[.val (.int p1), .val (.long q2), .second, .val (.int p3), .val (.int (1 : Int32)), .val (.ref w_BINARY64), .val (.long (9218868437227405312 : Int64)), .second, .val (.long (4503599627370496 : Int64)), .second, .val (.long ((q2 ||| (9218868437227405312 : Int64)) &&& ((4503599627370496 : Int64) ^^^ (-1 : Int64)))), .second, .val (.int (p3 &&& (3 : Int32))), .val (.int (1 : Int32))] [(.int (1 : Int32))])) _
    refine XS.goto X6.here hx rfl (pc0 := 169) (pc' := 173) rfl (hb hby at_169) (by decide) (by decide) ?_
    show Steps p.tables e below (T6.setTop (mkF m 173 #[.val (.int p1), .val (.long q2), .second, .val (.int p3), .val (.int (1 : Int32)), .val (.ref w_BINARY64), .val (.long (9218868437227405312 : Int64)), .second, .val (.long (4503599627370496 : Int64)), .second, .val (.long ((q2 ||| (9218868437227405312 : Int64)) &&& ((4503599627370496 : Int64) ^^^ (-1 : Int64)))), .second, .val (.int (p3 &&& (3 : Int32))), .val (.int (1 : Int32))] [(.int (1 : Int32))])) _
    exact retN X6 hx (t := .boolean) Bd.returns (by simp) (hb hby at_173) hr
  · show Q0 Z h0 n0 _ T6.heap _
    exact ⟨rfl, N6⟩
set_option maxRecDepth 65536 in
set_option maxHeartbeats 40000000 in
theorem rm0_fffffttftf (l : Launch) (Z : State) (a0 : Array Value) (hw : ∀ d ∈ tables_1, d.before a0 Z = true) (ws : List Jvm.Cond) (p1 : Int32) (q2 : Int64) (p3 : Int32) (w_BINARY64 : Addr) (u : Int32) (h0 : Heap) (n0 : Nat) (Z0 : n0 ≤ h0.size) (S_BINARY64 : Sta Z h0 "com/example/fourfold/fourfold/json/FloatFormat" "BINARY64" "Lcom/example/fourfold/fourfold/json/FloatFormat;" (.ref w_BINARY64)) (E_BINARY64 : Exa Z h0 w_BINARY64 "com/example/fourfold/fourfold/json/FloatFormat") (F_fractionBits_BINARY64 : Fld Z h0 w_BINARY64 "com/example/fourfold/fourfold/json/FloatFormat" "fractionBits" "I" (.int (52 : Int32))) (F_specialExponent_BINARY64 : Fld Z h0 w_BINARY64 "com/example/fourfold/fourfold/json/FloatFormat" "specialExponent" "I" (.int (2047 : Int32))) (hu : finF (q2 &&& ((9218868437227405312 : Int64) ^^^ (-1 : Int64))) (52 : Int32) (2047 : Int32) = u) (hc3 : ¬ ((p1 &&& (1 : Int32)) = (0 : Int32))) (hc15 : ¬ ((1 : Int32) = (0 : Int32))) (hc31 : ¬ ((1 : Int32) = (0 : Int32))) (hc47 : ¬ ((1 : Int32) = (0 : Int32))) (hc63 : ¬ ((1 : Int32) = (0 : Int32))) (hc85 : ¬ ((p3 &&& (3 : Int32)) = (1 : Int32))) (hc101 : ¬ ((p3 &&& (3 : Int32)) = (2 : Int32))) (hc124 : (p3 &&& (3 : Int32)) = (3 : Int32)) (hc146 : (lcmpW ((q2 &&& ((9218868437227405312 : Int64) ^^^ (-1 : Int64))) &&& (9218868437227405312 : Int64)) (9218868437227405312 : Int64)) = (0 : Int32)) (hv165 : u = (0 : Int32)) :
    MetFree l x (head1 (Jvm.Cond.code x code maxLocals ret :: ws) room_1) (fun a U => a = #[(.int p1), (.long q2), (.int p3)] ∧ Z.Warmed39 U.vm ∧ U.heap = h0) (fun _ _ _ _ _ => True) (fun _ U o U' => ∃ v L, o = .returned v ∧ Q0 Z h0 n0 v U'.heap L ∧ FrameEnd U o U' L room_1.cells room_1.slots) := by
  refine MetFree.of_bodySF (plainFor_of_name pn_0) hisR ?_
  intro p e s m args below meth c s₁ Bd hml0 hP hK
  obtain ⟨rfl, hZ, hh⟩ := hP
  have hx := Bd.exec
  have hby := Bd.bytes
  have hml : c.maxLocals = 14 := hml0
  have hown : s.vm.findClass "com/example/fourfold/fourfold/json/FloatFormatIsFinitePinLaw" = some m.cls := findClass_of_methodNamed Bd.named
  have hnm := (name_of_methodNamed Bd.named Bd.method).1
  have X0 : Stand p l e room_1 s m #[(.int p1), (.long q2), (.int p3)] below meth c s₁ [] 0 0 := Stand.of_body Bd
  have e0 : s₁.heap = h0 := by rw [← hh, Bd.state]; rfl
  have N0 := Fr.nil n0
  have pre0 : ∀ t, Steps p.tables e below (s₁.setTop (mkF m 0 #[.val (.int p1), .val (.long q2), .second, .val (.int p3), .unset, .unset, .unset, .unset, .unset, .unset, .unset, .unset, .unset, .unset] [])) t → Steps p.tables e below (s₁.setTop (entryFrame m #[(.int p1), (.long q2), (.int p3)] maxLocals)) t := fun t k => castTop (ef_0 m p1 q2 p3) k
  -- 3. LAWS
  obtain ⟨T5, X5, e5, st5⟩ := getS2 X0 hx hZ hown (host := "") (Or.inl (hw _ (List.mem_of_getElem? (i := 20) rfl))) Via.refl e0 S_BINARY64 (g := (mkF m 18 #[.val (.int p1), .val (.long q2), .second, .val (.int p3), .val (.int (1 : Int32)), .unset, .unset, .unset, .unset, .unset, .unset, .unset, .unset, .unset] [])) rfl (hb hby at_18)
  -- pc 160: com/example/fourfold/fourfold/json/FloatFormat.isFinite by the contract of the body that the receiver's class selects, rm1
  obtain ⟨cq6, kq6, q6a, q6b, q6c⟩ := isOf hZ e5 E_BINARY64
  obtain ⟨_, _, ⟨T6, L6, k6, n6⟩, -, X6, ⟨Lc6, hQ6, l6, y6, z6⟩, st6⟩ := X5.virtualBack hx (y := (⟨"com/example/fourfold/fourfold/json/FloatFormat", "isFinite", "(J)Z"⟩ : MethodName)) (z := (⟨"com/example/fourfold/fourfold/json/FloatFormat", "isFinite", "(J)Z"⟩ : MethodName)) hown (mvT hZ (hw _ (List.mem_of_getElem? (i := 6) rfl))) (mvT hZ (hw _ (List.mem_of_getElem? (i := 7) rfl))) (notFace_of_selects (args := #[]) (mvT hZ (hw _ (List.mem_of_getElem? (i := 9) rfl)))) (mvT hZ (hw _ (List.mem_of_getElem? (i := 9) rfl))) (mvT hZ (hw _ (List.mem_of_getElem? (i := 8) rfl))) (by decide) (backOf (W := 0) (rm1 l Z a0 hw [] w_BINARY64 (q2 &&& ((9218868437227405312 : Int64) ^^^ (-1 : Int64))) (2047 : Int32) (52 : Int32) h0 n0 Z0 E_BINARY64 F_specialExponent_BINARY64 F_fractionBits_BINARY64) hZ (hw _ (List.mem_of_getElem? (i := 10) rfl)) (hw _ (List.mem_of_getElem? (i := 1) rfl)) (by decide) (by decide)) q6a q6c (g := (mkF m 160 #[.val (.int p1), .val (.long q2), .second, .val (.int p3), .val (.int (1 : Int32)), .val (.ref w_BINARY64), .val (.long (9218868437227405312 : Int64)), .second, .val (.long (4503599627370496 : Int64)), .second, .val (.long (q2 &&& ((9218868437227405312 : Int64) ^^^ (-1 : Int64)))), .second, .val (.int (p3 &&& (3 : Int32))), .val (.int (0 : Int32))] [(.long (q2 &&& ((9218868437227405312 : Int64) ^^^ (-1 : Int64)))), (.ref w_BINARY64)])) rfl (by rw [hml]; rfl) (Steps.refl _) (argsL := [(.long (q2 &&& ((9218868437227405312 : Int64) ^^^ (-1 : Int64))))]) (rest := []) (lenOf pd_0_0 rfl) rfl (by show 2 * 0 + _ ≤ _; exact Nat.le_of_eq rfl) (hb hby at_160) (fun _ _ => ⟨rfl, e5, (by decide : 0 + 0 ≤ _), (by decide : 0 + 0 ≤ _)⟩)
  dsimp only [Pt.U, Pt.locs, Pt.cells, Pt.slots] at X6 l6 y6 z6 st6 hQ6
  subst l6 y6 z6
  obtain ⟨rv6, N6q, q6⟩ := hQ6
  rw [hu] at rv6
  subst rv6
  have N6 := Fr.app N0 N6q
  obtain ⟨fs, hr, hrun, hended, hW, hsame⟩ := X6.leave (v := some (.int (1 : Int32))) (fun h => by rw [Bd.returns] at h; cases h)
  refine ⟨_, _, pre0 _ ?_, hrun, hended, _, _, rfl, ?_, ⟨_, rfl⟩, hW, hsame.mono (by decide) (by decide)⟩
  -- 4. STEPS
  · show Steps p.tables e below (s₁.setTop (mkF m 0 #[.val (.int p1), .val (.long q2), .second, .val (.int p3), .unset, .unset, .unset, .unset, .unset, .unset, .unset, .unset, .unset, .unset] [])) _
    refine XS.iloadN X0.here hx rfl (hb hby at_0) rfl ?_
    show Steps p.tables e below (s₁.setTop (mkF m 1 #[.val (.int p1), .val (.long q2), .second, .val (.int p3), .unset, .unset, .unset, .unset, .unset, .unset, .unset, .unset, .unset, .unset] [(.int p1)])) _
    refine XS.iconst X0.here hx rfl (hb hby at_1) ?_
    show Steps p.tables e below (s₁.setTop (mkF m 2 #[.val (.int p1), .val (.long q2), .second, .val (.int p3), .unset, .unset, .unset, .unset, .unset, .unset, .unset, .unset, .unset, .unset] [(.int (1 : Int32)), (.int p1)])) _
    refine XS.iand X0.here hx rfl (hb hby at_2) rfl ?_
    show Steps p.tables e below (s₁.setTop (mkF m 3 #[.val (.int p1), .val (.long q2), .second, .val (.int p3), .unset, .unset, .unset, .unset, .unset, .unset, .unset, .unset, .unset, .unset] [(.int (p1 &&& (1 : Int32)))])) _
    refine XS.ifNo X0.here hx rfl (hb hby at_3) rfl ((if0 _ _).trans (feq hc3).1) ?_
    show Steps p.tables e below (s₁.setTop (mkF m 6 #[.val (.int p1), .val (.long q2), .second, .val (.int p3), .unset, .unset, .unset, .unset, .unset, .unset, .unset, .unset, .unset, .unset] [])) _
    refine XS.iconst X0.here hx rfl (hb hby at_6) ?_
    show Steps p.tables e below (s₁.setTop (mkF m 7 #[.val (.int p1), .val (.long q2), .second, .val (.int p3), .unset, .unset, .unset, .unset, .unset, .unset, .unset, .unset, .unset, .unset] [(.int (1 : Int32))])) _
    refine XS.goto X0.here hx rfl (pc0 := 7) (pc' := 11) rfl (hb hby at_7) (by decide) (by decide) ?_
    show Steps p.tables e below (s₁.setTop (mkF m 11 #[.val (.int p1), .val (.long q2), .second, .val (.int p3), .unset, .unset, .unset, .unset, .unset, .unset, .unset, .unset, .unset, .unset] [(.int (1 : Int32))])) _
    refine XS.istore X0.here hx rfl (hb hby at_11) rfl (l' := #[.val (.int p1), .val (.long q2), .second, .val (.int p3), .val (.int (1 : Int32)), .unset, .unset, .unset, .unset, .unset, .unset, .unset, .unset, .unset]) rfl ?_
    show Steps p.tables e below (s₁.setTop (mkF m 13 #[.val (.int p1), .val (.long q2), .second, .val (.int p3), .val (.int (1 : Int32)), .unset, .unset, .unset, .unset, .unset, .unset, .unset, .unset, .unset] [])) _
    refine XS.iload X0.here hx rfl (hb hby at_13) rfl ?_
    show Steps p.tables e below (s₁.setTop (mkF m 15 #[.val (.int p1), .val (.long q2), .second, .val (.int p3), .val (.int (1 : Int32)), .unset, .unset, .unset, .unset, .unset, .unset, .unset, .unset, .unset] [(.int (1 : Int32))])) _
    refine XS.ifNo X0.here hx rfl (hb hby at_15) rfl ((if0 _ _).trans (feq hc15).1) ?_
    show Steps p.tables e below (s₁.setTop (mkF m 18 #[.val (.int p1), .val (.long q2), .second, .val (.int p3), .val (.int (1 : Int32)), .unset, .unset, .unset, .unset, .unset, .unset, .unset, .unset, .unset] [])) _
    refine st5 _ ?_
    show Steps p.tables e below (T5.setTop (mkF m 21 #[.val (.int p1), .val (.long q2), .second, .val (.int p3), .val (.int (1 : Int32)), .unset, .unset, .unset, .unset, .unset, .unset, .unset, .unset, .unset] [(.ref w_BINARY64)])) _
    refine XS.goto X5.here hx rfl (pc0 := 21) (pc' := 27) rfl (hb hby at_21) (by decide) (by decide) ?_
    show Steps p.tables e below (T5.setTop (mkF m 27 #[.val (.int p1), .val (.long q2), .second, .val (.int p3), .val (.int (1 : Int32)), .unset, .unset, .unset, .unset, .unset, .unset, .unset, .unset, .unset] [(.ref w_BINARY64)])) _
    refine XS.astore X5.here hx rfl (hb hby at_27) rfl rfl (l' := #[.val (.int p1), .val (.long q2), .second, .val (.int p3), .val (.int (1 : Int32)), .val (.ref w_BINARY64), .unset, .unset, .unset, .unset, .unset, .unset, .unset, .unset]) rfl ?_
    show Steps p.tables e below (T5.setTop (mkF m 29 #[.val (.int p1), .val (.long q2), .second, .val (.int p3), .val (.int (1 : Int32)), .val (.ref w_BINARY64), .unset, .unset, .unset, .unset, .unset, .unset, .unset, .unset] [])) _
    refine XS.iload X5.here hx rfl (hb hby at_29) rfl ?_
    show Steps p.tables e below (T5.setTop (mkF m 31 #[.val (.int p1), .val (.long q2), .second, .val (.int p3), .val (.int (1 : Int32)), .val (.ref w_BINARY64), .unset, .unset, .unset, .unset, .unset, .unset, .unset, .unset] [(.int (1 : Int32))])) _
    refine XS.ifNo X5.here hx rfl (hb hby at_31) rfl ((if0 _ _).trans (feq hc31).1) ?_
    show Steps p.tables e below (T5.setTop (mkF m 34 #[.val (.int p1), .val (.long q2), .second, .val (.int p3), .val (.int (1 : Int32)), .val (.ref w_BINARY64), .unset, .unset, .unset, .unset, .unset, .unset, .unset, .unset] [])) _
    refine X5.ldc2Long hx hown (mvT hZ (hw _ (List.mem_of_getElem? (i := 22) rfl))) (g := (mkF m 34 #[.val (.int p1), .val (.long q2), .second, .val (.int p3), .val (.int (1 : Int32)), .val (.ref w_BINARY64), .unset, .unset, .unset, .unset, .unset, .unset, .unset, .unset] [])) rfl (hb hby at_34) _ ?_
    show Steps p.tables e below (T5.setTop (mkF m 37 #[.val (.int p1), .val (.long q2), .second, .val (.int p3), .val (.int (1 : Int32)), .val (.ref w_BINARY64), .unset, .unset, .unset, .unset, .unset, .unset, .unset, .unset] [(.long (9218868437227405312 : Int64))])) _
    refine XS.goto X5.here hx rfl (pc0 := 37) (pc' := 43) rfl (hb hby at_37) (by decide) (by decide) ?_
    show Steps p.tables e below (T5.setTop (mkF m 43 #[.val (.int p1), .val (.long q2), .second, .val (.int p3), .val (.int (1 : Int32)), .val (.ref w_BINARY64), .unset, .unset, .unset, .unset, .unset, .unset, .unset, .unset] [(.long (9218868437227405312 : Int64))])) _
    refine XS.lstore X5.here hx rfl (hb hby at_43) rfl (l' := #[.val (.int p1), .val (.long q2), .second, .val (.int p3), .val (.int (1 : Int32)), .val (.ref w_BINARY64), .val (.long (9218868437227405312 : Int64)), .second, .unset, .unset, .unset, .unset, .unset, .unset]) rfl ?_
    show Steps p.tables e below (T5.setTop (mkF m 45 #[.val (.int p1), .val (.long q2), .second, .val (.int p3), .val (.int (1 : Int32)), .val (.ref w_BINARY64), .val (.long (9218868437227405312 : Int64)), .second, .unset, .unset, .unset, .unset, .unset, .unset] [])) _
    refine XS.iload X5.here hx rfl (hb hby at_45) rfl ?_
    show Steps p.tables e below (T5.setTop (mkF m 47 #[.val (.int p1), .val (.long q2), .second, .val (.int p3), .val (.int (1 : Int32)), .val (.ref w_BINARY64), .val (.long (9218868437227405312 : Int64)), .second, .unset, .unset, .unset, .unset, .unset, .unset] [(.int (1 : Int32))])) _
    refine XS.ifNo X5.here hx rfl (hb hby at_47) rfl ((if0 _ _).trans (feq hc47).1) ?_
    show Steps p.tables e below (T5.setTop (mkF m 50 #[.val (.int p1), .val (.long q2), .second, .val (.int p3), .val (.int (1 : Int32)), .val (.ref w_BINARY64), .val (.long (9218868437227405312 : Int64)), .second, .unset, .unset, .unset, .unset, .unset, .unset] [])) _
    refine X5.ldc2Long hx hown (mvT hZ (hw _ (List.mem_of_getElem? (i := 23) rfl))) (g := (mkF m 50 #[.val (.int p1), .val (.long q2), .second, .val (.int p3), .val (.int (1 : Int32)), .val (.ref w_BINARY64), .val (.long (9218868437227405312 : Int64)), .second, .unset, .unset, .unset, .unset, .unset, .unset] [])) rfl (hb hby at_50) _ ?_
    show Steps p.tables e below (T5.setTop (mkF m 53 #[.val (.int p1), .val (.long q2), .second, .val (.int p3), .val (.int (1 : Int32)), .val (.ref w_BINARY64), .val (.long (9218868437227405312 : Int64)), .second, .unset, .unset, .unset, .unset, .unset, .unset] [(.long (4503599627370496 : Int64))])) _
    refine XS.goto X5.here hx rfl (pc0 := 53) (pc' := 59) rfl (hb hby at_53) (by decide) (by decide) ?_
    show Steps p.tables e below (T5.setTop (mkF m 59 #[.val (.int p1), .val (.long q2), .second, .val (.int p3), .val (.int (1 : Int32)), .val (.ref w_BINARY64), .val (.long (9218868437227405312 : Int64)), .second, .unset, .unset, .unset, .unset, .unset, .unset] [(.long (4503599627370496 : Int64))])) _
    refine XS.lstore X5.here hx rfl (hb hby at_59) rfl (l' := #[.val (.int p1), .val (.long q2), .second, .val (.int p3), .val (.int (1 : Int32)), .val (.ref w_BINARY64), .val (.long (9218868437227405312 : Int64)), .second, .val (.long (4503599627370496 : Int64)), .second, .unset, .unset, .unset, .unset]) rfl ?_
    show Steps p.tables e below (T5.setTop (mkF m 61 #[.val (.int p1), .val (.long q2), .second, .val (.int p3), .val (.int (1 : Int32)), .val (.ref w_BINARY64), .val (.long (9218868437227405312 : Int64)), .second, .val (.long (4503599627370496 : Int64)), .second, .unset, .unset, .unset, .unset] [])) _
    refine XS.iload X5.here hx rfl (hb hby at_61) rfl ?_
    show Steps p.tables e below (T5.setTop (mkF m 63 #[.val (.int p1), .val (.long q2), .second, .val (.int p3), .val (.int (1 : Int32)), .val (.ref w_BINARY64), .val (.long (9218868437227405312 : Int64)), .second, .val (.long (4503599627370496 : Int64)), .second, .unset, .unset, .unset, .unset] [(.int (1 : Int32))])) _
    refine XS.ifNo X5.here hx rfl (hb hby at_63) rfl ((if0 _ _).trans (feq hc63).1) ?_
    show Steps p.tables e below (T5.setTop (mkF m 66 #[.val (.int p1), .val (.long q2), .second, .val (.int p3), .val (.int (1 : Int32)), .val (.ref w_BINARY64), .val (.long (9218868437227405312 : Int64)), .second, .val (.long (4503599627370496 : Int64)), .second, .unset, .unset, .unset, .unset] [])) _
    refine XS.lloadN X5.here hx rfl (hb hby at_66) rfl ?_
    show Steps p.tables e below (T5.setTop (mkF m 67 #[.val (.int p1), .val (.long q2), .second, .val (.int p3), .val (.int (1 : Int32)), .val (.ref w_BINARY64), .val (.long (9218868437227405312 : Int64)), .second, .val (.long (4503599627370496 : Int64)), .second, .unset, .unset, .unset, .unset] [(.long q2)])) _
    refine XS.goto X5.here hx rfl (pc0 := 67) (pc' := 75) rfl (hb hby at_67) (by decide) (by decide) ?_
    show Steps p.tables e below (T5.setTop (mkF m 75 #[.val (.int p1), .val (.long q2), .second, .val (.int p3), .val (.int (1 : Int32)), .val (.ref w_BINARY64), .val (.long (9218868437227405312 : Int64)), .second, .val (.long (4503599627370496 : Int64)), .second, .unset, .unset, .unset, .unset] [(.long q2)])) _
    refine XS.lstore X5.here hx rfl (hb hby at_75) rfl (l' := #[.val (.int p1), .val (.long q2), .second, .val (.int p3), .val (.int (1 : Int32)), .val (.ref w_BINARY64), .val (.long (9218868437227405312 : Int64)), .second, .val (.long (4503599627370496 : Int64)), .second, .val (.long q2), .second, .unset, .unset]) rfl ?_
    show Steps p.tables e below (T5.setTop (mkF m 77 #[.val (.int p1), .val (.long q2), .second, .val (.int p3), .val (.int (1 : Int32)), .val (.ref w_BINARY64), .val (.long (9218868437227405312 : Int64)), .second, .val (.long (4503599627370496 : Int64)), .second, .val (.long q2), .second, .unset, .unset] [])) _
    refine XS.iloadN X5.here hx rfl (hb hby at_77) rfl ?_
    show Steps p.tables e below (T5.setTop (mkF m 78 #[.val (.int p1), .val (.long q2), .second, .val (.int p3), .val (.int (1 : Int32)), .val (.ref w_BINARY64), .val (.long (9218868437227405312 : Int64)), .second, .val (.long (4503599627370496 : Int64)), .second, .val (.long q2), .second, .unset, .unset] [(.int p3)])) _
    refine XS.iconst X5.here hx rfl (hb hby at_78) ?_
    show Steps p.tables e below (T5.setTop (mkF m 79 #[.val (.int p1), .val (.long q2), .second, .val (.int p3), .val (.int (1 : Int32)), .val (.ref w_BINARY64), .val (.long (9218868437227405312 : Int64)), .second, .val (.long (4503599627370496 : Int64)), .second, .val (.long q2), .second, .unset, .unset] [(.int (3 : Int32)), (.int p3)])) _
    refine XS.iand X5.here hx rfl (hb hby at_79) rfl ?_
    show Steps p.tables e below (T5.setTop (mkF m 80 #[.val (.int p1), .val (.long q2), .second, .val (.int p3), .val (.int (1 : Int32)), .val (.ref w_BINARY64), .val (.long (9218868437227405312 : Int64)), .second, .val (.long (4503599627370496 : Int64)), .second, .val (.long q2), .second, .unset, .unset] [(.int (p3 &&& (3 : Int32)))])) _
    refine XS.istore X5.here hx rfl (hb hby at_80) rfl (l' := #[.val (.int p1), .val (.long q2), .second, .val (.int p3), .val (.int (1 : Int32)), .val (.ref w_BINARY64), .val (.long (9218868437227405312 : Int64)), .second, .val (.long (4503599627370496 : Int64)), .second, .val (.long q2), .second, .val (.int (p3 &&& (3 : Int32))), .unset]) rfl ?_
    show Steps p.tables e below (T5.setTop (mkF m 82 #[.val (.int p1), .val (.long q2), .second, .val (.int p3), .val (.int (1 : Int32)), .val (.ref w_BINARY64), .val (.long (9218868437227405312 : Int64)), .second, .val (.long (4503599627370496 : Int64)), .second, .val (.long q2), .second, .val (.int (p3 &&& (3 : Int32))), .unset] [])) _
    refine XS.iload X5.here hx rfl (hb hby at_82) rfl ?_
    show Steps p.tables e below (T5.setTop (mkF m 84 #[.val (.int p1), .val (.long q2), .second, .val (.int p3), .val (.int (1 : Int32)), .val (.ref w_BINARY64), .val (.long (9218868437227405312 : Int64)), .second, .val (.long (4503599627370496 : Int64)), .second, .val (.long q2), .second, .val (.int (p3 &&& (3 : Int32))), .unset] [(.int (p3 &&& (3 : Int32)))])) _
    refine XS.iconst X5.here hx rfl (hb hby at_84) ?_
    show Steps p.tables e below (T5.setTop (mkF m 85 #[.val (.int p1), .val (.long q2), .second, .val (.int p3), .val (.int (1 : Int32)), .val (.ref w_BINARY64), .val (.long (9218868437227405312 : Int64)), .second, .val (.long (4503599627370496 : Int64)), .second, .val (.long q2), .second, .val (.int (p3 &&& (3 : Int32))), .unset] [(.int (1 : Int32)), (.int (p3 &&& (3 : Int32)))])) _
    refine XS.icmpYes X5.here hx rfl (pc0 := 85) (pc' := 98) rfl (hb hby at_85) rfl (feq hc85).2 (by decide) (by decide) ?_
    show Steps p.tables e below (T5.setTop (mkF m 98 #[.val (.int p1), .val (.long q2), .second, .val (.int p3), .val (.int (1 : Int32)), .val (.ref w_BINARY64), .val (.long (9218868437227405312 : Int64)), .second, .val (.long (4503599627370496 : Int64)), .second, .val (.long q2), .second, .val (.int (p3 &&& (3 : Int32))), .unset] [])) _
    refine XS.iload X5.here hx rfl (hb hby at_98) rfl ?_
    show Steps p.tables e below (T5.setTop (mkF m 100 #[.val (.int p1), .val (.long q2), .second, .val (.int p3), .val (.int (1 : Int32)), .val (.ref w_BINARY64), .val (.long (9218868437227405312 : Int64)), .second, .val (.long (4503599627370496 : Int64)), .second, .val (.long q2), .second, .val (.int (p3 &&& (3 : Int32))), .unset] [(.int (p3 &&& (3 : Int32)))])) _
    refine XS.iconst X5.here hx rfl (hb hby at_100) ?_
    show Steps p.tables e below (T5.setTop (mkF m 101 #[.val (.int p1), .val (.long q2), .second, .val (.int p3), .val (.int (1 : Int32)), .val (.ref w_BINARY64), .val (.long (9218868437227405312 : Int64)), .second, .val (.long (4503599627370496 : Int64)), .second, .val (.long q2), .second, .val (.int (p3 &&& (3 : Int32))), .unset] [(.int (2 : Int32)), (.int (p3 &&& (3 : Int32)))])) _
    refine XS.icmpYes X5.here hx rfl (pc0 := 101) (pc' := 121) rfl (hb hby at_101) rfl (feq hc101).2 (by decide) (by decide) ?_
    show Steps p.tables e below (T5.setTop (mkF m 121 #[.val (.int p1), .val (.long q2), .second, .val (.int p3), .val (.int (1 : Int32)), .val (.ref w_BINARY64), .val (.long (9218868437227405312 : Int64)), .second, .val (.long (4503599627370496 : Int64)), .second, .val (.long q2), .second, .val (.int (p3 &&& (3 : Int32))), .unset] [])) _
    refine XS.iload X5.here hx rfl (hb hby at_121) rfl ?_
    show Steps p.tables e below (T5.setTop (mkF m 123 #[.val (.int p1), .val (.long q2), .second, .val (.int p3), .val (.int (1 : Int32)), .val (.ref w_BINARY64), .val (.long (9218868437227405312 : Int64)), .second, .val (.long (4503599627370496 : Int64)), .second, .val (.long q2), .second, .val (.int (p3 &&& (3 : Int32))), .unset] [(.int (p3 &&& (3 : Int32)))])) _
    refine XS.iconst X5.here hx rfl (hb hby at_123) ?_
    show Steps p.tables e below (T5.setTop (mkF m 124 #[.val (.int p1), .val (.long q2), .second, .val (.int p3), .val (.int (1 : Int32)), .val (.ref w_BINARY64), .val (.long (9218868437227405312 : Int64)), .second, .val (.long (4503599627370496 : Int64)), .second, .val (.long q2), .second, .val (.int (p3 &&& (3 : Int32))), .unset] [(.int (3 : Int32)), (.int (p3 &&& (3 : Int32)))])) _
    refine XS.icmpNo X5.here hx rfl (hb hby at_124) rfl (teq hc124).2 ?_
    show Steps p.tables e below (T5.setTop (mkF m 127 #[.val (.int p1), .val (.long q2), .second, .val (.int p3), .val (.int (1 : Int32)), .val (.ref w_BINARY64), .val (.long (9218868437227405312 : Int64)), .second, .val (.long (4503599627370496 : Int64)), .second, .val (.long q2), .second, .val (.int (p3 &&& (3 : Int32))), .unset] [])) _
    refine XS.lload X5.here hx rfl (hb hby at_127) rfl ?_
    show Steps p.tables e below (T5.setTop (mkF m 129 #[.val (.int p1), .val (.long q2), .second, .val (.int p3), .val (.int (1 : Int32)), .val (.ref w_BINARY64), .val (.long (9218868437227405312 : Int64)), .second, .val (.long (4503599627370496 : Int64)), .second, .val (.long q2), .second, .val (.int (p3 &&& (3 : Int32))), .unset] [(.long q2)])) _
    refine XS.lload X5.here hx rfl (hb hby at_129) rfl ?_
    show Steps p.tables e below (T5.setTop (mkF m 131 #[.val (.int p1), .val (.long q2), .second, .val (.int p3), .val (.int (1 : Int32)), .val (.ref w_BINARY64), .val (.long (9218868437227405312 : Int64)), .second, .val (.long (4503599627370496 : Int64)), .second, .val (.long q2), .second, .val (.int (p3 &&& (3 : Int32))), .unset] [(.long (9218868437227405312 : Int64)), (.long q2)])) _
    refine X5.ldc2Long hx hown (mvT hZ (hw _ (List.mem_of_getElem? (i := 19) rfl))) (g := (mkF m 131 #[.val (.int p1), .val (.long q2), .second, .val (.int p3), .val (.int (1 : Int32)), .val (.ref w_BINARY64), .val (.long (9218868437227405312 : Int64)), .second, .val (.long (4503599627370496 : Int64)), .second, .val (.long q2), .second, .val (.int (p3 &&& (3 : Int32))), .unset] [(.long (9218868437227405312 : Int64)), (.long q2)])) rfl (hb hby at_131) _ ?_
    show Steps p.tables e below (T5.setTop (mkF m 134 #[.val (.int p1), .val (.long q2), .second, .val (.int p3), .val (.int (1 : Int32)), .val (.ref w_BINARY64), .val (.long (9218868437227405312 : Int64)), .second, .val (.long (4503599627370496 : Int64)), .second, .val (.long q2), .second, .val (.int (p3 &&& (3 : Int32))), .unset] [(.long (-1 : Int64)), (.long (9218868437227405312 : Int64)), (.long q2)])) _
    refine XS.lxor X5.here hx rfl (hb hby at_134) rfl ?_
    show Steps p.tables e below (T5.setTop (mkF m 135 #[.val (.int p1), .val (.long q2), .second, .val (.int p3), .val (.int (1 : Int32)), .val (.ref w_BINARY64), .val (.long (9218868437227405312 : Int64)), .second, .val (.long (4503599627370496 : Int64)), .second, .val (.long q2), .second, .val (.int (p3 &&& (3 : Int32))), .unset] [(.long ((9218868437227405312 : Int64) ^^^ (-1 : Int64))), (.long q2)])) _
    refine XS.land X5.here hx rfl (hb hby at_135) rfl ?_
    show Steps p.tables e below (T5.setTop (mkF m 136 #[.val (.int p1), .val (.long q2), .second, .val (.int p3), .val (.int (1 : Int32)), .val (.ref w_BINARY64), .val (.long (9218868437227405312 : Int64)), .second, .val (.long (4503599627370496 : Int64)), .second, .val (.long q2), .second, .val (.int (p3 &&& (3 : Int32))), .unset] [(.long (q2 &&& ((9218868437227405312 : Int64) ^^^ (-1 : Int64))))])) _
    refine XS.lstore X5.here hx rfl (hb hby at_136) rfl (l' := #[.val (.int p1), .val (.long q2), .second, .val (.int p3), .val (.int (1 : Int32)), .val (.ref w_BINARY64), .val (.long (9218868437227405312 : Int64)), .second, .val (.long (4503599627370496 : Int64)), .second, .val (.long (q2 &&& ((9218868437227405312 : Int64) ^^^ (-1 : Int64)))), .second, .val (.int (p3 &&& (3 : Int32))), .unset]) rfl ?_
    show Steps p.tables e below (T5.setTop (mkF m 138 #[.val (.int p1), .val (.long q2), .second, .val (.int p3), .val (.int (1 : Int32)), .val (.ref w_BINARY64), .val (.long (9218868437227405312 : Int64)), .second, .val (.long (4503599627370496 : Int64)), .second, .val (.long (q2 &&& ((9218868437227405312 : Int64) ^^^ (-1 : Int64)))), .second, .val (.int (p3 &&& (3 : Int32))), .unset] [])) _
    refine XS.lload X5.here hx rfl (hb hby at_138) rfl ?_
    show Steps p.tables e below (T5.setTop (mkF m 140 #[.val (.int p1), .val (.long q2), .second, .val (.int p3), .val (.int (1 : Int32)), .val (.ref w_BINARY64), .val (.long (9218868437227405312 : Int64)), .second, .val (.long (4503599627370496 : Int64)), .second, .val (.long (q2 &&& ((9218868437227405312 : Int64) ^^^ (-1 : Int64)))), .second, .val (.int (p3 &&& (3 : Int32))), .unset] [(.long (q2 &&& ((9218868437227405312 : Int64) ^^^ (-1 : Int64))))])) _
    refine XS.lload X5.here hx rfl (hb hby at_140) rfl ?_
    show Steps p.tables e below (T5.setTop (mkF m 142 #[.val (.int p1), .val (.long q2), .second, .val (.int p3), .val (.int (1 : Int32)), .val (.ref w_BINARY64), .val (.long (9218868437227405312 : Int64)), .second, .val (.long (4503599627370496 : Int64)), .second, .val (.long (q2 &&& ((9218868437227405312 : Int64) ^^^ (-1 : Int64)))), .second, .val (.int (p3 &&& (3 : Int32))), .unset] [(.long (9218868437227405312 : Int64)), (.long (q2 &&& ((9218868437227405312 : Int64) ^^^ (-1 : Int64))))])) _
    refine XS.land X5.here hx rfl (hb hby at_142) rfl ?_
    show Steps p.tables e below (T5.setTop (mkF m 143 #[.val (.int p1), .val (.long q2), .second, .val (.int p3), .val (.int (1 : Int32)), .val (.ref w_BINARY64), .val (.long (9218868437227405312 : Int64)), .second, .val (.long (4503599627370496 : Int64)), .second, .val (.long (q2 &&& ((9218868437227405312 : Int64) ^^^ (-1 : Int64)))), .second, .val (.int (p3 &&& (3 : Int32))), .unset] [(.long ((q2 &&& ((9218868437227405312 : Int64) ^^^ (-1 : Int64))) &&& (9218868437227405312 : Int64)))])) _
    refine XS.lload X5.here hx rfl (hb hby at_143) rfl ?_
    show Steps p.tables e below (T5.setTop (mkF m 145 #[.val (.int p1), .val (.long q2), .second, .val (.int p3), .val (.int (1 : Int32)), .val (.ref w_BINARY64), .val (.long (9218868437227405312 : Int64)), .second, .val (.long (4503599627370496 : Int64)), .second, .val (.long (q2 &&& ((9218868437227405312 : Int64) ^^^ (-1 : Int64)))), .second, .val (.int (p3 &&& (3 : Int32))), .unset] [(.long (9218868437227405312 : Int64)), (.long ((q2 &&& ((9218868437227405312 : Int64) ^^^ (-1 : Int64))) &&& (9218868437227405312 : Int64)))])) _
    refine XS.lcmp X5.here hx rfl (hb hby at_145) rfl ?_
    show Steps p.tables e below (T5.setTop (mkF m 146 #[.val (.int p1), .val (.long q2), .second, .val (.int p3), .val (.int (1 : Int32)), .val (.ref w_BINARY64), .val (.long (9218868437227405312 : Int64)), .second, .val (.long (4503599627370496 : Int64)), .second, .val (.long (q2 &&& ((9218868437227405312 : Int64) ^^^ (-1 : Int64)))), .second, .val (.int (p3 &&& (3 : Int32))), .unset] [(.int (lcmpW ((q2 &&& ((9218868437227405312 : Int64) ^^^ (-1 : Int64))) &&& (9218868437227405312 : Int64)) (9218868437227405312 : Int64)))])) _
    refine XS.ifYes X5.here hx rfl (pc0 := 146) (pc' := 153) rfl (hb hby at_146) rfl ((if0 _ _).trans (teq hc146).1) (by decide) (by decide) ?_
    show Steps p.tables e below (T5.setTop (mkF m 153 #[.val (.int p1), .val (.long q2), .second, .val (.int p3), .val (.int (1 : Int32)), .val (.ref w_BINARY64), .val (.long (9218868437227405312 : Int64)), .second, .val (.long (4503599627370496 : Int64)), .second, .val (.long (q2 &&& ((9218868437227405312 : Int64) ^^^ (-1 : Int64)))), .second, .val (.int (p3 &&& (3 : Int32))), .unset] [])) _
    refine XS.iconst X5.here hx rfl (hb hby at_153) ?_
    show Steps p.tables e below (T5.setTop (mkF m 154 #[.val (.int p1), .val (.long q2), .second, .val (.int p3), .val (.int (1 : Int32)), .val (.ref w_BINARY64), .val (.long (9218868437227405312 : Int64)), .second, .val (.long (4503599627370496 : Int64)), .second, .val (.long (q2 &&& ((9218868437227405312 : Int64) ^^^ (-1 : Int64)))), .second, .val (.int (p3 &&& (3 : Int32))), .unset] [(.int (0 : Int32))])) _
    refine XS.istore X5.here hx rfl (hb hby at_154) rfl (l' := #[.val (.int p1), .val (.long q2), .second, .val (.int p3), .val (.int (1 : Int32)), .val (.ref w_BINARY64), .val (.long (9218868437227405312 : Int64)), .second, .val (.long (4503599627370496 : Int64)), .second, .val (.long (q2 &&& ((9218868437227405312 : Int64) ^^^ (-1 : Int64)))), .second, .val (.int (p3 &&& (3 : Int32))), .val (.int (0 : Int32))]) rfl ?_
    show Steps p.tables e below (T5.setTop (mkF m 156 #[.val (.int p1), .val (.long q2), .second, .val (.int p3), .val (.int (1 : Int32)), .val (.ref w_BINARY64), .val (.long (9218868437227405312 : Int64)), .second, .val (.long (4503599627370496 : Int64)), .second, .val (.long (q2 &&& ((9218868437227405312 : Int64) ^^^ (-1 : Int64)))), .second, .val (.int (p3 &&& (3 : Int32))), .val (.int (0 : Int32))] [])) _
    refine XS.aload X5.here hx rfl (hb hby at_156) rfl rfl ?_
    show Steps p.tables e below (T5.setTop (mkF m 158 #[.val (.int p1), .val (.long q2), .second, .val (.int p3), .val (.int (1 : Int32)), .val (.ref w_BINARY64), .val (.long (9218868437227405312 : Int64)), .second, .val (.long (4503599627370496 : Int64)), .second, .val (.long (q2 &&& ((9218868437227405312 : Int64) ^^^ (-1 : Int64)))), .second, .val (.int (p3 &&& (3 : Int32))), .val (.int (0 : Int32))] [(.ref w_BINARY64)])) _
    refine XS.lload X5.here hx rfl (hb hby at_158) rfl ?_
    show Steps p.tables e below (T5.setTop (mkF m 160 #[.val (.int p1), .val (.long q2), .second, .val (.int p3), .val (.int (1 : Int32)), .val (.ref w_BINARY64), .val (.long (9218868437227405312 : Int64)), .second, .val (.long (4503599627370496 : Int64)), .second, .val (.long (q2 &&& ((9218868437227405312 : Int64) ^^^ (-1 : Int64)))), .second, .val (.int (p3 &&& (3 : Int32))), .val (.int (0 : Int32))] [(.long (q2 &&& ((9218868437227405312 : Int64) ^^^ (-1 : Int64)))), (.ref w_BINARY64)])) _
    refine st6.trans ?_
    show Steps p.tables e below (T6.setTop (mkF m 163 #[.val (.int p1), .val (.long q2), .second, .val (.int p3), .val (.int (1 : Int32)), .val (.ref w_BINARY64), .val (.long (9218868437227405312 : Int64)), .second, .val (.long (4503599627370496 : Int64)), .second, .val (.long (q2 &&& ((9218868437227405312 : Int64) ^^^ (-1 : Int64)))), .second, .val (.int (p3 &&& (3 : Int32))), .val (.int (0 : Int32))] [(.int u)])) _
    refine XS.iload X6.here hx rfl (hb hby at_163) rfl ?_
    show Steps p.tables e below (T6.setTop (mkF m 165 #[.val (.int p1), .val (.long q2), .second, .val (.int p3), .val (.int (1 : Int32)), .val (.ref w_BINARY64), .val (.long (9218868437227405312 : Int64)), .second, .val (.long (4503599627370496 : Int64)), .second, .val (.long (q2 &&& ((9218868437227405312 : Int64) ^^^ (-1 : Int64)))), .second, .val (.int (p3 &&& (3 : Int32))), .val (.int (0 : Int32))] [(.int (0 : Int32)), (.int u)])) _
    refine XS.icmpNo X6.here hx rfl (hb hby at_165) rfl (teq (hv165 : u = (0 : Int32))).2 ?_
    show Steps p.tables e below (T6.setTop (mkF m 168 #[.val (.int p1), .val (.long q2), .second, .val (.int p3), .val (.int (1 : Int32)), .val (.ref w_BINARY64), .val (.long (9218868437227405312 : Int64)), .second, .val (.long (4503599627370496 : Int64)), .second, .val (.long (q2 &&& ((9218868437227405312 : Int64) ^^^ (-1 : Int64)))), .second, .val (.int (p3 &&& (3 : Int32))), .val (.int (0 : Int32))] [])) _
    refine XS.iconst X6.here hx rfl (hb hby at_168) ?_
    show Steps p.tables e below (T6.setTop (mkF m 169 #[.val (.int p1), .val (.long q2), .second, .val (.int p3), .val (.int (1 : Int32)), .val (.ref w_BINARY64), .val (.long (9218868437227405312 : Int64)), .second, .val (.long (4503599627370496 : Int64)), .second, .val (.long (q2 &&& ((9218868437227405312 : Int64) ^^^ (-1 : Int64)))), .second, .val (.int (p3 &&& (3 : Int32))), .val (.int (0 : Int32))] [(.int (1 : Int32))])) _
    refine XS.goto X6.here hx rfl (pc0 := 169) (pc' := 173) rfl (hb hby at_169) (by decide) (by decide) ?_
    show Steps p.tables e below (T6.setTop (mkF m 173 #[.val (.int p1), .val (.long q2), .second, .val (.int p3), .val (.int (1 : Int32)), .val (.ref w_BINARY64), .val (.long (9218868437227405312 : Int64)), .second, .val (.long (4503599627370496 : Int64)), .second, .val (.long (q2 &&& ((9218868437227405312 : Int64) ^^^ (-1 : Int64)))), .second, .val (.int (p3 &&& (3 : Int32))), .val (.int (0 : Int32))] [(.int (1 : Int32))])) _
    exact retN X6 hx (t := .boolean) Bd.returns (by simp) (hb hby at_173) hr
  · show Q0 Z h0 n0 _ T6.heap _
    exact ⟨rfl, N6⟩
set_option maxRecDepth 65536 in
set_option maxHeartbeats 40000000 in
theorem rm0_fffffttfff (l : Launch) (Z : State) (a0 : Array Value) (hw : ∀ d ∈ tables_1, d.before a0 Z = true) (ws : List Jvm.Cond) (p1 : Int32) (q2 : Int64) (p3 : Int32) (w_BINARY64 : Addr) (u : Int32) (h0 : Heap) (n0 : Nat) (Z0 : n0 ≤ h0.size) (S_BINARY64 : Sta Z h0 "com/example/fourfold/fourfold/json/FloatFormat" "BINARY64" "Lcom/example/fourfold/fourfold/json/FloatFormat;" (.ref w_BINARY64)) (E_BINARY64 : Exa Z h0 w_BINARY64 "com/example/fourfold/fourfold/json/FloatFormat") (F_fractionBits_BINARY64 : Fld Z h0 w_BINARY64 "com/example/fourfold/fourfold/json/FloatFormat" "fractionBits" "I" (.int (52 : Int32))) (F_specialExponent_BINARY64 : Fld Z h0 w_BINARY64 "com/example/fourfold/fourfold/json/FloatFormat" "specialExponent" "I" (.int (2047 : Int32))) (hu : finF (q2 &&& ((9218868437227405312 : Int64) ^^^ (-1 : Int64))) (52 : Int32) (2047 : Int32) = u) (hc3 : ¬ ((p1 &&& (1 : Int32)) = (0 : Int32))) (hc15 : ¬ ((1 : Int32) = (0 : Int32))) (hc31 : ¬ ((1 : Int32) = (0 : Int32))) (hc47 : ¬ ((1 : Int32) = (0 : Int32))) (hc63 : ¬ ((1 : Int32) = (0 : Int32))) (hc85 : ¬ ((p3 &&& (3 : Int32)) = (1 : Int32))) (hc101 : ¬ ((p3 &&& (3 : Int32)) = (2 : Int32))) (hc124 : (p3 &&& (3 : Int32)) = (3 : Int32)) (hc146 : ¬ ((lcmpW ((q2 &&& ((9218868437227405312 : Int64) ^^^ (-1 : Int64))) &&& (9218868437227405312 : Int64)) (9218868437227405312 : Int64)) = (0 : Int32))) (hv165 : u = (1 : Int32)) :
    MetFree l x (head1 (Jvm.Cond.code x code maxLocals ret :: ws) room_1) (fun a U => a = #[(.int p1), (.long q2), (.int p3)] ∧ Z.Warmed39 U.vm ∧ U.heap = h0) (fun _ _ _ _ _ => True) (fun _ U o U' => ∃ v L, o = .returned v ∧ Q0 Z h0 n0 v U'.heap L ∧ FrameEnd U o U' L room_1.cells room_1.slots) := by
  refine MetFree.of_bodySF (plainFor_of_name pn_0) hisR ?_
  intro p e s m args below meth c s₁ Bd hml0 hP hK
  obtain ⟨rfl, hZ, hh⟩ := hP
  have hx := Bd.exec
  have hby := Bd.bytes
  have hml : c.maxLocals = 14 := hml0
  have hown : s.vm.findClass "com/example/fourfold/fourfold/json/FloatFormatIsFinitePinLaw" = some m.cls := findClass_of_methodNamed Bd.named
  have hnm := (name_of_methodNamed Bd.named Bd.method).1
  have X0 : Stand p l e room_1 s m #[(.int p1), (.long q2), (.int p3)] below meth c s₁ [] 0 0 := Stand.of_body Bd
  have e0 : s₁.heap = h0 := by rw [← hh, Bd.state]; rfl
  have N0 := Fr.nil n0
  have pre0 : ∀ t, Steps p.tables e below (s₁.setTop (mkF m 0 #[.val (.int p1), .val (.long q2), .second, .val (.int p3), .unset, .unset, .unset, .unset, .unset, .unset, .unset, .unset, .unset, .unset] [])) t → Steps p.tables e below (s₁.setTop (entryFrame m #[(.int p1), (.long q2), (.int p3)] maxLocals)) t := fun t k => castTop (ef_0 m p1 q2 p3) k
  -- 3. LAWS
  obtain ⟨T5, X5, e5, st5⟩ := getS2 X0 hx hZ hown (host := "") (Or.inl (hw _ (List.mem_of_getElem? (i := 20) rfl))) Via.refl e0 S_BINARY64 (g := (mkF m 18 #[.val (.int p1), .val (.long q2), .second, .val (.int p3), .val (.int (1 : Int32)), .unset, .unset, .unset, .unset, .unset, .unset, .unset, .unset, .unset] [])) rfl (hb hby at_18)
  -- pc 160: com/example/fourfold/fourfold/json/FloatFormat.isFinite by the contract of the body that the receiver's class selects, rm1
  obtain ⟨cq6, kq6, q6a, q6b, q6c⟩ := isOf hZ e5 E_BINARY64
  obtain ⟨_, _, ⟨T6, L6, k6, n6⟩, -, X6, ⟨Lc6, hQ6, l6, y6, z6⟩, st6⟩ := X5.virtualBack hx (y := (⟨"com/example/fourfold/fourfold/json/FloatFormat", "isFinite", "(J)Z"⟩ : MethodName)) (z := (⟨"com/example/fourfold/fourfold/json/FloatFormat", "isFinite", "(J)Z"⟩ : MethodName)) hown (mvT hZ (hw _ (List.mem_of_getElem? (i := 6) rfl))) (mvT hZ (hw _ (List.mem_of_getElem? (i := 7) rfl))) (notFace_of_selects (args := #[]) (mvT hZ (hw _ (List.mem_of_getElem? (i := 9) rfl)))) (mvT hZ (hw _ (List.mem_of_getElem? (i := 9) rfl))) (mvT hZ (hw _ (List.mem_of_getElem? (i := 8) rfl))) (by decide) (backOf (W := 0) (rm1 l Z a0 hw [] w_BINARY64 (q2 &&& ((9218868437227405312 : Int64) ^^^ (-1 : Int64))) (2047 : Int32) (52 : Int32) h0 n0 Z0 E_BINARY64 F_specialExponent_BINARY64 F_fractionBits_BINARY64) hZ (hw _ (List.mem_of_getElem? (i := 10) rfl)) (hw _ (List.mem_of_getElem? (i := 1) rfl)) (by decide) (by decide)) q6a q6c (g := (mkF m 160 #[.val (.int p1), .val (.long q2), .second, .val (.int p3), .val (.int (1 : Int32)), .val (.ref w_BINARY64), .val (.long (9218868437227405312 : Int64)), .second, .val (.long (4503599627370496 : Int64)), .second, .val (.long (q2 &&& ((9218868437227405312 : Int64) ^^^ (-1 : Int64)))), .second, .val (.int (p3 &&& (3 : Int32))), .val (.int (1 : Int32))] [(.long (q2 &&& ((9218868437227405312 : Int64) ^^^ (-1 : Int64)))), (.ref w_BINARY64)])) rfl (by rw [hml]; rfl) (Steps.refl _) (argsL := [(.long (q2 &&& ((9218868437227405312 : Int64) ^^^ (-1 : Int64))))]) (rest := []) (lenOf pd_0_0 rfl) rfl (by show 2 * 0 + _ ≤ _; exact Nat.le_of_eq rfl) (hb hby at_160) (fun _ _ => ⟨rfl, e5, (by decide : 0 + 0 ≤ _), (by decide : 0 + 0 ≤ _)⟩)
  dsimp only [Pt.U, Pt.locs, Pt.cells, Pt.slots] at X6 l6 y6 z6 st6 hQ6
  subst l6 y6 z6
  obtain ⟨rv6, N6q, q6⟩ := hQ6
  rw [hu] at rv6
  subst rv6
  have N6 := Fr.app N0 N6q
  obtain ⟨fs, hr, hrun, hended, hW, hsame⟩ := X6.leave (v := some (.int (1 : Int32))) (fun h => by rw [Bd.returns] at h; cases h)
  refine ⟨_, _, pre0 _ ?_, hrun, hended, _, _, rfl, ?_, ⟨_, rfl⟩, hW, hsame.mono (by decide) (by decide)⟩
  -- 4. STEPS
  · show Steps p.tables e below (s₁.setTop (mkF m 0 #[.val (.int p1), .val (.long q2), .second, .val (.int p3), .unset, .unset, .unset, .unset, .unset, .unset, .unset, .unset, .unset, .unset] [])) _
    refine XS.iloadN X0.here hx rfl (hb hby at_0) rfl ?_
    show Steps p.tables e below (s₁.setTop (mkF m 1 #[.val (.int p1), .val (.long q2), .second, .val (.int p3), .unset, .unset, .unset, .unset, .unset, .unset, .unset, .unset, .unset, .unset] [(.int p1)])) _
    refine XS.iconst X0.here hx rfl (hb hby at_1) ?_
    show Steps p.tables e below (s₁.setTop (mkF m 2 #[.val (.int p1), .val (.long q2), .second, .val (.int p3), .unset, .unset, .unset, .unset, .unset, .unset, .unset, .unset, .unset, .unset] [(.int (1 : Int32)), (.int p1)])) _
    refine XS.iand X0.here hx rfl (hb hby at_2) rfl ?_
    show Steps p.tables e below (s₁.setTop (mkF m 3 #[.val (.int p1), .val (.long q2), .second, .val (.int p3), .unset, .unset, .unset, .unset, .unset, .unset, .unset, .unset, .unset, .unset] [(.int (p1 &&& (1 : Int32)))])) _
    refine XS.ifNo X0.here hx rfl (hb hby at_3) rfl ((if0 _ _).trans (feq hc3).1) ?_
    show Steps p.tables e below (s₁.setTop (mkF m 6 #[.val (.int p1), .val (.long q2), .second, .val (.int p3), .unset, .unset, .unset, .unset, .unset, .unset, .unset, .unset, .unset, .unset] [])) _
    refine XS.iconst X0.here hx rfl (hb hby at_6) ?_
    show Steps p.tables e below (s₁.setTop (mkF m 7 #[.val (.int p1), .val (.long q2), .second, .val (.int p3), .unset, .unset, .unset, .unset, .unset, .unset, .unset, .unset, .unset, .unset] [(.int (1 : Int32))])) _
    refine XS.goto X0.here hx rfl (pc0 := 7) (pc' := 11) rfl (hb hby at_7) (by decide) (by decide) ?_
    show Steps p.tables e below (s₁.setTop (mkF m 11 #[.val (.int p1), .val (.long q2), .second, .val (.int p3), .unset, .unset, .unset, .unset, .unset, .unset, .unset, .unset, .unset, .unset] [(.int (1 : Int32))])) _
    refine XS.istore X0.here hx rfl (hb hby at_11) rfl (l' := #[.val (.int p1), .val (.long q2), .second, .val (.int p3), .val (.int (1 : Int32)), .unset, .unset, .unset, .unset, .unset, .unset, .unset, .unset, .unset]) rfl ?_
    show Steps p.tables e below (s₁.setTop (mkF m 13 #[.val (.int p1), .val (.long q2), .second, .val (.int p3), .val (.int (1 : Int32)), .unset, .unset, .unset, .unset, .unset, .unset, .unset, .unset, .unset] [])) _
    refine XS.iload X0.here hx rfl (hb hby at_13) rfl ?_
    show Steps p.tables e below (s₁.setTop (mkF m 15 #[.val (.int p1), .val (.long q2), .second, .val (.int p3), .val (.int (1 : Int32)), .unset, .unset, .unset, .unset, .unset, .unset, .unset, .unset, .unset] [(.int (1 : Int32))])) _
    refine XS.ifNo X0.here hx rfl (hb hby at_15) rfl ((if0 _ _).trans (feq hc15).1) ?_
    show Steps p.tables e below (s₁.setTop (mkF m 18 #[.val (.int p1), .val (.long q2), .second, .val (.int p3), .val (.int (1 : Int32)), .unset, .unset, .unset, .unset, .unset, .unset, .unset, .unset, .unset] [])) _
    refine st5 _ ?_
    show Steps p.tables e below (T5.setTop (mkF m 21 #[.val (.int p1), .val (.long q2), .second, .val (.int p3), .val (.int (1 : Int32)), .unset, .unset, .unset, .unset, .unset, .unset, .unset, .unset, .unset] [(.ref w_BINARY64)])) _
    refine XS.goto X5.here hx rfl (pc0 := 21) (pc' := 27) rfl (hb hby at_21) (by decide) (by decide) ?_
    show Steps p.tables e below (T5.setTop (mkF m 27 #[.val (.int p1), .val (.long q2), .second, .val (.int p3), .val (.int (1 : Int32)), .unset, .unset, .unset, .unset, .unset, .unset, .unset, .unset, .unset] [(.ref w_BINARY64)])) _
    refine XS.astore X5.here hx rfl (hb hby at_27) rfl rfl (l' := #[.val (.int p1), .val (.long q2), .second, .val (.int p3), .val (.int (1 : Int32)), .val (.ref w_BINARY64), .unset, .unset, .unset, .unset, .unset, .unset, .unset, .unset]) rfl ?_
    show Steps p.tables e below (T5.setTop (mkF m 29 #[.val (.int p1), .val (.long q2), .second, .val (.int p3), .val (.int (1 : Int32)), .val (.ref w_BINARY64), .unset, .unset, .unset, .unset, .unset, .unset, .unset, .unset] [])) _
    refine XS.iload X5.here hx rfl (hb hby at_29) rfl ?_
    show Steps p.tables e below (T5.setTop (mkF m 31 #[.val (.int p1), .val (.long q2), .second, .val (.int p3), .val (.int (1 : Int32)), .val (.ref w_BINARY64), .unset, .unset, .unset, .unset, .unset, .unset, .unset, .unset] [(.int (1 : Int32))])) _
    refine XS.ifNo X5.here hx rfl (hb hby at_31) rfl ((if0 _ _).trans (feq hc31).1) ?_
    show Steps p.tables e below (T5.setTop (mkF m 34 #[.val (.int p1), .val (.long q2), .second, .val (.int p3), .val (.int (1 : Int32)), .val (.ref w_BINARY64), .unset, .unset, .unset, .unset, .unset, .unset, .unset, .unset] [])) _
    refine X5.ldc2Long hx hown (mvT hZ (hw _ (List.mem_of_getElem? (i := 22) rfl))) (g := (mkF m 34 #[.val (.int p1), .val (.long q2), .second, .val (.int p3), .val (.int (1 : Int32)), .val (.ref w_BINARY64), .unset, .unset, .unset, .unset, .unset, .unset, .unset, .unset] [])) rfl (hb hby at_34) _ ?_
    show Steps p.tables e below (T5.setTop (mkF m 37 #[.val (.int p1), .val (.long q2), .second, .val (.int p3), .val (.int (1 : Int32)), .val (.ref w_BINARY64), .unset, .unset, .unset, .unset, .unset, .unset, .unset, .unset] [(.long (9218868437227405312 : Int64))])) _
    refine XS.goto X5.here hx rfl (pc0 := 37) (pc' := 43) rfl (hb hby at_37) (by decide) (by decide) ?_
    show Steps p.tables e below (T5.setTop (mkF m 43 #[.val (.int p1), .val (.long q2), .second, .val (.int p3), .val (.int (1 : Int32)), .val (.ref w_BINARY64), .unset, .unset, .unset, .unset, .unset, .unset, .unset, .unset] [(.long (9218868437227405312 : Int64))])) _
    refine XS.lstore X5.here hx rfl (hb hby at_43) rfl (l' := #[.val (.int p1), .val (.long q2), .second, .val (.int p3), .val (.int (1 : Int32)), .val (.ref w_BINARY64), .val (.long (9218868437227405312 : Int64)), .second, .unset, .unset, .unset, .unset, .unset, .unset]) rfl ?_
    show Steps p.tables e below (T5.setTop (mkF m 45 #[.val (.int p1), .val (.long q2), .second, .val (.int p3), .val (.int (1 : Int32)), .val (.ref w_BINARY64), .val (.long (9218868437227405312 : Int64)), .second, .unset, .unset, .unset, .unset, .unset, .unset] [])) _
    refine XS.iload X5.here hx rfl (hb hby at_45) rfl ?_
    show Steps p.tables e below (T5.setTop (mkF m 47 #[.val (.int p1), .val (.long q2), .second, .val (.int p3), .val (.int (1 : Int32)), .val (.ref w_BINARY64), .val (.long (9218868437227405312 : Int64)), .second, .unset, .unset, .unset, .unset, .unset, .unset] [(.int (1 : Int32))])) _
    refine XS.ifNo X5.here hx rfl (hb hby at_47) rfl ((if0 _ _).trans (feq hc47).1) ?_
    show Steps p.tables e below (T5.setTop (mkF m 50 #[.val (.int p1), .val (.long q2), .second, .val (.int p3), .val (.int (1 : Int32)), .val (.ref w_BINARY64), .val (.long (9218868437227405312 : Int64)), .second, .unset, .unset, .unset, .unset, .unset, .unset] [])) _
    refine X5.ldc2Long hx hown (mvT hZ (hw _ (List.mem_of_getElem? (i := 23) rfl))) (g := (mkF m 50 #[.val (.int p1), .val (.long q2), .second, .val (.int p3), .val (.int (1 : Int32)), .val (.ref w_BINARY64), .val (.long (9218868437227405312 : Int64)), .second, .unset, .unset, .unset, .unset, .unset, .unset] [])) rfl (hb hby at_50) _ ?_
    show Steps p.tables e below (T5.setTop (mkF m 53 #[.val (.int p1), .val (.long q2), .second, .val (.int p3), .val (.int (1 : Int32)), .val (.ref w_BINARY64), .val (.long (9218868437227405312 : Int64)), .second, .unset, .unset, .unset, .unset, .unset, .unset] [(.long (4503599627370496 : Int64))])) _
    refine XS.goto X5.here hx rfl (pc0 := 53) (pc' := 59) rfl (hb hby at_53) (by decide) (by decide) ?_
    show Steps p.tables e below (T5.setTop (mkF m 59 #[.val (.int p1), .val (.long q2), .second, .val (.int p3), .val (.int (1 : Int32)), .val (.ref w_BINARY64), .val (.long (9218868437227405312 : Int64)), .second, .unset, .unset, .unset, .unset, .unset, .unset] [(.long (4503599627370496 : Int64))])) _
    refine XS.lstore X5.here hx rfl (hb hby at_59) rfl (l' := #[.val (.int p1), .val (.long q2), .second, .val (.int p3), .val (.int (1 : Int32)), .val (.ref w_BINARY64), .val (.long (9218868437227405312 : Int64)), .second, .val (.long (4503599627370496 : Int64)), .second, .unset, .unset, .unset, .unset]) rfl ?_
    show Steps p.tables e below (T5.setTop (mkF m 61 #[.val (.int p1), .val (.long q2), .second, .val (.int p3), .val (.int (1 : Int32)), .val (.ref w_BINARY64), .val (.long (9218868437227405312 : Int64)), .second, .val (.long (4503599627370496 : Int64)), .second, .unset, .unset, .unset, .unset] [])) _
    refine XS.iload X5.here hx rfl (hb hby at_61) rfl ?_
    show Steps p.tables e below (T5.setTop (mkF m 63 #[.val (.int p1), .val (.long q2), .second, .val (.int p3), .val (.int (1 : Int32)), .val (.ref w_BINARY64), .val (.long (9218868437227405312 : Int64)), .second, .val (.long (4503599627370496 : Int64)), .second, .unset, .unset, .unset, .unset] [(.int (1 : Int32))])) _
    refine XS.ifNo X5.here hx rfl (hb hby at_63) rfl ((if0 _ _).trans (feq hc63).1) ?_
    show Steps p.tables e below (T5.setTop (mkF m 66 #[.val (.int p1), .val (.long q2), .second, .val (.int p3), .val (.int (1 : Int32)), .val (.ref w_BINARY64), .val (.long (9218868437227405312 : Int64)), .second, .val (.long (4503599627370496 : Int64)), .second, .unset, .unset, .unset, .unset] [])) _
    refine XS.lloadN X5.here hx rfl (hb hby at_66) rfl ?_
    show Steps p.tables e below (T5.setTop (mkF m 67 #[.val (.int p1), .val (.long q2), .second, .val (.int p3), .val (.int (1 : Int32)), .val (.ref w_BINARY64), .val (.long (9218868437227405312 : Int64)), .second, .val (.long (4503599627370496 : Int64)), .second, .unset, .unset, .unset, .unset] [(.long q2)])) _
    refine XS.goto X5.here hx rfl (pc0 := 67) (pc' := 75) rfl (hb hby at_67) (by decide) (by decide) ?_
    show Steps p.tables e below (T5.setTop (mkF m 75 #[.val (.int p1), .val (.long q2), .second, .val (.int p3), .val (.int (1 : Int32)), .val (.ref w_BINARY64), .val (.long (9218868437227405312 : Int64)), .second, .val (.long (4503599627370496 : Int64)), .second, .unset, .unset, .unset, .unset] [(.long q2)])) _
    refine XS.lstore X5.here hx rfl (hb hby at_75) rfl (l' := #[.val (.int p1), .val (.long q2), .second, .val (.int p3), .val (.int (1 : Int32)), .val (.ref w_BINARY64), .val (.long (9218868437227405312 : Int64)), .second, .val (.long (4503599627370496 : Int64)), .second, .val (.long q2), .second, .unset, .unset]) rfl ?_
    show Steps p.tables e below (T5.setTop (mkF m 77 #[.val (.int p1), .val (.long q2), .second, .val (.int p3), .val (.int (1 : Int32)), .val (.ref w_BINARY64), .val (.long (9218868437227405312 : Int64)), .second, .val (.long (4503599627370496 : Int64)), .second, .val (.long q2), .second, .unset, .unset] [])) _
    refine XS.iloadN X5.here hx rfl (hb hby at_77) rfl ?_
    show Steps p.tables e below (T5.setTop (mkF m 78 #[.val (.int p1), .val (.long q2), .second, .val (.int p3), .val (.int (1 : Int32)), .val (.ref w_BINARY64), .val (.long (9218868437227405312 : Int64)), .second, .val (.long (4503599627370496 : Int64)), .second, .val (.long q2), .second, .unset, .unset] [(.int p3)])) _
    refine XS.iconst X5.here hx rfl (hb hby at_78) ?_
    show Steps p.tables e below (T5.setTop (mkF m 79 #[.val (.int p1), .val (.long q2), .second, .val (.int p3), .val (.int (1 : Int32)), .val (.ref w_BINARY64), .val (.long (9218868437227405312 : Int64)), .second, .val (.long (4503599627370496 : Int64)), .second, .val (.long q2), .second, .unset, .unset] [(.int (3 : Int32)), (.int p3)])) _
    refine XS.iand X5.here hx rfl (hb hby at_79) rfl ?_
    show Steps p.tables e below (T5.setTop (mkF m 80 #[.val (.int p1), .val (.long q2), .second, .val (.int p3), .val (.int (1 : Int32)), .val (.ref w_BINARY64), .val (.long (9218868437227405312 : Int64)), .second, .val (.long (4503599627370496 : Int64)), .second, .val (.long q2), .second, .unset, .unset] [(.int (p3 &&& (3 : Int32)))])) _
    refine XS.istore X5.here hx rfl (hb hby at_80) rfl (l' := #[.val (.int p1), .val (.long q2), .second, .val (.int p3), .val (.int (1 : Int32)), .val (.ref w_BINARY64), .val (.long (9218868437227405312 : Int64)), .second, .val (.long (4503599627370496 : Int64)), .second, .val (.long q2), .second, .val (.int (p3 &&& (3 : Int32))), .unset]) rfl ?_
    show Steps p.tables e below (T5.setTop (mkF m 82 #[.val (.int p1), .val (.long q2), .second, .val (.int p3), .val (.int (1 : Int32)), .val (.ref w_BINARY64), .val (.long (9218868437227405312 : Int64)), .second, .val (.long (4503599627370496 : Int64)), .second, .val (.long q2), .second, .val (.int (p3 &&& (3 : Int32))), .unset] [])) _
    refine XS.iload X5.here hx rfl (hb hby at_82) rfl ?_
    show Steps p.tables e below (T5.setTop (mkF m 84 #[.val (.int p1), .val (.long q2), .second, .val (.int p3), .val (.int (1 : Int32)), .val (.ref w_BINARY64), .val (.long (9218868437227405312 : Int64)), .second, .val (.long (4503599627370496 : Int64)), .second, .val (.long q2), .second, .val (.int (p3 &&& (3 : Int32))), .unset] [(.int (p3 &&& (3 : Int32)))])) _
    refine XS.iconst X5.here hx rfl (hb hby at_84) ?_
    show Steps p.tables e below (T5.setTop (mkF m 85 #[.val (.int p1), .val (.long q2), .second, .val (.int p3), .val (.int (1 : Int32)), .val (.ref w_BINARY64), .val (.long (9218868437227405312 : Int64)), .second, .val (.long (4503599627370496 : Int64)), .second, .val (.long q2), .second, .val (.int (p3 &&& (3 : Int32))), .unset] [(.int (1 : Int32)), (.int (p3 &&& (3 : Int32)))])) _
    refine XS.icmpYes X5.here hx rfl (pc0 := 85) (pc' := 98) rfl (hb hby at_85) rfl (feq hc85).2 (by decide) (by decide) ?_
    show Steps p.tables e below (T5.setTop (mkF m 98 #[.val (.int p1), .val (.long q2), .second, .val (.int p3), .val (.int (1 : Int32)), .val (.ref w_BINARY64), .val (.long (9218868437227405312 : Int64)), .second, .val (.long (4503599627370496 : Int64)), .second, .val (.long q2), .second, .val (.int (p3 &&& (3 : Int32))), .unset] [])) _
    refine XS.iload X5.here hx rfl (hb hby at_98) rfl ?_
    show Steps p.tables e below (T5.setTop (mkF m 100 #[.val (.int p1), .val (.long q2), .second, .val (.int p3), .val (.int (1 : Int32)), .val (.ref w_BINARY64), .val (.long (9218868437227405312 : Int64)), .second, .val (.long (4503599627370496 : Int64)), .second, .val (.long q2), .second, .val (.int (p3 &&& (3 : Int32))), .unset] [(.int (p3 &&& (3 : Int32)))])) _
    refine XS.iconst X5.here hx rfl (hb hby at_100) ?_
    show Steps p.tables e below (T5.setTop (mkF m 101 #[.val (.int p1), .val (.long q2), .second, .val (.int p3), .val (.int (1 : Int32)), .val (.ref w_BINARY64), .val (.long (9218868437227405312 : Int64)), .second, .val (.long (4503599627370496 : Int64)), .second, .val (.long q2), .second, .val (.int (p3 &&& (3 : Int32))), .unset] [(.int (2 : Int32)), (.int (p3 &&& (3 : Int32)))])) _
    refine XS.icmpYes X5.here hx rfl (pc0 := 101) (pc' := 121) rfl (hb hby at_101) rfl (feq hc101).2 (by decide) (by decide) ?_
    show Steps p.tables e below (T5.setTop (mkF m 121 #[.val (.int p1), .val (.long q2), .second, .val (.int p3), .val (.int (1 : Int32)), .val (.ref w_BINARY64), .val (.long (9218868437227405312 : Int64)), .second, .val (.long (4503599627370496 : Int64)), .second, .val (.long q2), .second, .val (.int (p3 &&& (3 : Int32))), .unset] [])) _
    refine XS.iload X5.here hx rfl (hb hby at_121) rfl ?_
    show Steps p.tables e below (T5.setTop (mkF m 123 #[.val (.int p1), .val (.long q2), .second, .val (.int p3), .val (.int (1 : Int32)), .val (.ref w_BINARY64), .val (.long (9218868437227405312 : Int64)), .second, .val (.long (4503599627370496 : Int64)), .second, .val (.long q2), .second, .val (.int (p3 &&& (3 : Int32))), .unset] [(.int (p3 &&& (3 : Int32)))])) _
    refine XS.iconst X5.here hx rfl (hb hby at_123) ?_
    show Steps p.tables e below (T5.setTop (mkF m 124 #[.val (.int p1), .val (.long q2), .second, .val (.int p3), .val (.int (1 : Int32)), .val (.ref w_BINARY64), .val (.long (9218868437227405312 : Int64)), .second, .val (.long (4503599627370496 : Int64)), .second, .val (.long q2), .second, .val (.int (p3 &&& (3 : Int32))), .unset] [(.int (3 : Int32)), (.int (p3 &&& (3 : Int32)))])) _
    refine XS.icmpNo X5.here hx rfl (hb hby at_124) rfl (teq hc124).2 ?_
    show Steps p.tables e below (T5.setTop (mkF m 127 #[.val (.int p1), .val (.long q2), .second, .val (.int p3), .val (.int (1 : Int32)), .val (.ref w_BINARY64), .val (.long (9218868437227405312 : Int64)), .second, .val (.long (4503599627370496 : Int64)), .second, .val (.long q2), .second, .val (.int (p3 &&& (3 : Int32))), .unset] [])) _
    refine XS.lload X5.here hx rfl (hb hby at_127) rfl ?_
    show Steps p.tables e below (T5.setTop (mkF m 129 #[.val (.int p1), .val (.long q2), .second, .val (.int p3), .val (.int (1 : Int32)), .val (.ref w_BINARY64), .val (.long (9218868437227405312 : Int64)), .second, .val (.long (4503599627370496 : Int64)), .second, .val (.long q2), .second, .val (.int (p3 &&& (3 : Int32))), .unset] [(.long q2)])) _
    refine XS.lload X5.here hx rfl (hb hby at_129) rfl ?_
    show Steps p.tables e below (T5.setTop (mkF m 131 #[.val (.int p1), .val (.long q2), .second, .val (.int p3), .val (.int (1 : Int32)), .val (.ref w_BINARY64), .val (.long (9218868437227405312 : Int64)), .second, .val (.long (4503599627370496 : Int64)), .second, .val (.long q2), .second, .val (.int (p3 &&& (3 : Int32))), .unset] [(.long (9218868437227405312 : Int64)), (.long q2)])) _
    refine X5.ldc2Long hx hown (mvT hZ (hw _ (List.mem_of_getElem? (i := 19) rfl))) (g := (mkF m 131 #[.val (.int p1), .val (.long q2), .second, .val (.int p3), .val (.int (1 : Int32)), .val (.ref w_BINARY64), .val (.long (9218868437227405312 : Int64)), .second, .val (.long (4503599627370496 : Int64)), .second, .val (.long q2), .second, .val (.int (p3 &&& (3 : Int32))), .unset] [(.long (9218868437227405312 : Int64)), (.long q2)])) rfl (hb hby at_131) _ ?_
    show Steps p.tables e below (T5.setTop (mkF m 134 #[.val (.int p1), .val (.long q2), .second, .val (.int p3), .val (.int (1 : Int32)), .val (.ref w_BINARY64), .val (.long (9218868437227405312 : Int64)), .second, .val (.long (4503599627370496 : Int64)), .second, .val (.long q2), .second, .val (.int (p3 &&& (3 : Int32))), .unset] [(.long (-1 : Int64)), (.long (9218868437227405312 : Int64)), (.long q2)])) _
    refine XS.lxor X5.here hx rfl (hb hby at_134) rfl ?_
    show Steps p.tables e below (T5.setTop (mkF m 135 #[.val (.int p1), .val (.long q2), .second, .val (.int p3), .val (.int (1 : Int32)), .val (.ref w_BINARY64), .val (.long (9218868437227405312 : Int64)), .second, .val (.long (4503599627370496 : Int64)), .second, .val (.long q2), .second, .val (.int (p3 &&& (3 : Int32))), .unset] [(.long ((9218868437227405312 : Int64) ^^^ (-1 : Int64))), (.long q2)])) _
    refine XS.land X5.here hx rfl (hb hby at_135) rfl ?_
    show Steps p.tables e below (T5.setTop (mkF m 136 #[.val (.int p1), .val (.long q2), .second, .val (.int p3), .val (.int (1 : Int32)), .val (.ref w_BINARY64), .val (.long (9218868437227405312 : Int64)), .second, .val (.long (4503599627370496 : Int64)), .second, .val (.long q2), .second, .val (.int (p3 &&& (3 : Int32))), .unset] [(.long (q2 &&& ((9218868437227405312 : Int64) ^^^ (-1 : Int64))))])) _
    refine XS.lstore X5.here hx rfl (hb hby at_136) rfl (l' := #[.val (.int p1), .val (.long q2), .second, .val (.int p3), .val (.int (1 : Int32)), .val (.ref w_BINARY64), .val (.long (9218868437227405312 : Int64)), .second, .val (.long (4503599627370496 : Int64)), .second, .val (.long (q2 &&& ((9218868437227405312 : Int64) ^^^ (-1 : Int64)))), .second, .val (.int (p3 &&& (3 : Int32))), .unset]) rfl ?_
    show Steps p.tables e below (T5.setTop (mkF m 138 #[.val (.int p1), .val (.long q2), .second, .val (.int p3), .val (.int (1 : Int32)), .val (.ref w_BINARY64), .val (.long (9218868437227405312 : Int64)), .second, .val (.long (4503599627370496 : Int64)), .second, .val (.long (q2 &&& ((9218868437227405312 : Int64) ^^^ (-1 : Int64)))), .second, .val (.int (p3 &&& (3 : Int32))), .unset] [])) _
    refine XS.lload X5.here hx rfl (hb hby at_138) rfl ?_
    show Steps p.tables e below (T5.setTop (mkF m 140 #[.val (.int p1), .val (.long q2), .second, .val (.int p3), .val (.int (1 : Int32)), .val (.ref w_BINARY64), .val (.long (9218868437227405312 : Int64)), .second, .val (.long (4503599627370496 : Int64)), .second, .val (.long (q2 &&& ((9218868437227405312 : Int64) ^^^ (-1 : Int64)))), .second, .val (.int (p3 &&& (3 : Int32))), .unset] [(.long (q2 &&& ((9218868437227405312 : Int64) ^^^ (-1 : Int64))))])) _
    refine XS.lload X5.here hx rfl (hb hby at_140) rfl ?_
    show Steps p.tables e below (T5.setTop (mkF m 142 #[.val (.int p1), .val (.long q2), .second, .val (.int p3), .val (.int (1 : Int32)), .val (.ref w_BINARY64), .val (.long (9218868437227405312 : Int64)), .second, .val (.long (4503599627370496 : Int64)), .second, .val (.long (q2 &&& ((9218868437227405312 : Int64) ^^^ (-1 : Int64)))), .second, .val (.int (p3 &&& (3 : Int32))), .unset] [(.long (9218868437227405312 : Int64)), (.long (q2 &&& ((9218868437227405312 : Int64) ^^^ (-1 : Int64))))])) _
    refine XS.land X5.here hx rfl (hb hby at_142) rfl ?_
    show Steps p.tables e below (T5.setTop (mkF m 143 #[.val (.int p1), .val (.long q2), .second, .val (.int p3), .val (.int (1 : Int32)), .val (.ref w_BINARY64), .val (.long (9218868437227405312 : Int64)), .second, .val (.long (4503599627370496 : Int64)), .second, .val (.long (q2 &&& ((9218868437227405312 : Int64) ^^^ (-1 : Int64)))), .second, .val (.int (p3 &&& (3 : Int32))), .unset] [(.long ((q2 &&& ((9218868437227405312 : Int64) ^^^ (-1 : Int64))) &&& (9218868437227405312 : Int64)))])) _
    refine XS.lload X5.here hx rfl (hb hby at_143) rfl ?_
    show Steps p.tables e below (T5.setTop (mkF m 145 #[.val (.int p1), .val (.long q2), .second, .val (.int p3), .val (.int (1 : Int32)), .val (.ref w_BINARY64), .val (.long (9218868437227405312 : Int64)), .second, .val (.long (4503599627370496 : Int64)), .second, .val (.long (q2 &&& ((9218868437227405312 : Int64) ^^^ (-1 : Int64)))), .second, .val (.int (p3 &&& (3 : Int32))), .unset] [(.long (9218868437227405312 : Int64)), (.long ((q2 &&& ((9218868437227405312 : Int64) ^^^ (-1 : Int64))) &&& (9218868437227405312 : Int64)))])) _
    refine XS.lcmp X5.here hx rfl (hb hby at_145) rfl ?_
    show Steps p.tables e below (T5.setTop (mkF m 146 #[.val (.int p1), .val (.long q2), .second, .val (.int p3), .val (.int (1 : Int32)), .val (.ref w_BINARY64), .val (.long (9218868437227405312 : Int64)), .second, .val (.long (4503599627370496 : Int64)), .second, .val (.long (q2 &&& ((9218868437227405312 : Int64) ^^^ (-1 : Int64)))), .second, .val (.int (p3 &&& (3 : Int32))), .unset] [(.int (lcmpW ((q2 &&& ((9218868437227405312 : Int64) ^^^ (-1 : Int64))) &&& (9218868437227405312 : Int64)) (9218868437227405312 : Int64)))])) _
    refine XS.ifNo X5.here hx rfl (hb hby at_146) rfl ((if0 _ _).trans (feq hc146).1) ?_
    show Steps p.tables e below (T5.setTop (mkF m 149 #[.val (.int p1), .val (.long q2), .second, .val (.int p3), .val (.int (1 : Int32)), .val (.ref w_BINARY64), .val (.long (9218868437227405312 : Int64)), .second, .val (.long (4503599627370496 : Int64)), .second, .val (.long (q2 &&& ((9218868437227405312 : Int64) ^^^ (-1 : Int64)))), .second, .val (.int (p3 &&& (3 : Int32))), .unset] [])) _
    refine XS.iconst X5.here hx rfl (hb hby at_149) ?_
    show Steps p.tables e below (T5.setTop (mkF m 150 #[.val (.int p1), .val (.long q2), .second, .val (.int p3), .val (.int (1 : Int32)), .val (.ref w_BINARY64), .val (.long (9218868437227405312 : Int64)), .second, .val (.long (4503599627370496 : Int64)), .second, .val (.long (q2 &&& ((9218868437227405312 : Int64) ^^^ (-1 : Int64)))), .second, .val (.int (p3 &&& (3 : Int32))), .unset] [(.int (1 : Int32))])) _
    refine XS.goto X5.here hx rfl (pc0 := 150) (pc' := 154) rfl (hb hby at_150) (by decide) (by decide) ?_
    show Steps p.tables e below (T5.setTop (mkF m 154 #[.val (.int p1), .val (.long q2), .second, .val (.int p3), .val (.int (1 : Int32)), .val (.ref w_BINARY64), .val (.long (9218868437227405312 : Int64)), .second, .val (.long (4503599627370496 : Int64)), .second, .val (.long (q2 &&& ((9218868437227405312 : Int64) ^^^ (-1 : Int64)))), .second, .val (.int (p3 &&& (3 : Int32))), .unset] [(.int (1 : Int32))])) _
    refine XS.istore X5.here hx rfl (hb hby at_154) rfl (l' := #[.val (.int p1), .val (.long q2), .second, .val (.int p3), .val (.int (1 : Int32)), .val (.ref w_BINARY64), .val (.long (9218868437227405312 : Int64)), .second, .val (.long (4503599627370496 : Int64)), .second, .val (.long (q2 &&& ((9218868437227405312 : Int64) ^^^ (-1 : Int64)))), .second, .val (.int (p3 &&& (3 : Int32))), .val (.int (1 : Int32))]) rfl ?_
    show Steps p.tables e below (T5.setTop (mkF m 156 #[.val (.int p1), .val (.long q2), .second, .val (.int p3), .val (.int (1 : Int32)), .val (.ref w_BINARY64), .val (.long (9218868437227405312 : Int64)), .second, .val (.long (4503599627370496 : Int64)), .second, .val (.long (q2 &&& ((9218868437227405312 : Int64) ^^^ (-1 : Int64)))), .second, .val (.int (p3 &&& (3 : Int32))), .val (.int (1 : Int32))] [])) _
    refine XS.aload X5.here hx rfl (hb hby at_156) rfl rfl ?_
    show Steps p.tables e below (T5.setTop (mkF m 158 #[.val (.int p1), .val (.long q2), .second, .val (.int p3), .val (.int (1 : Int32)), .val (.ref w_BINARY64), .val (.long (9218868437227405312 : Int64)), .second, .val (.long (4503599627370496 : Int64)), .second, .val (.long (q2 &&& ((9218868437227405312 : Int64) ^^^ (-1 : Int64)))), .second, .val (.int (p3 &&& (3 : Int32))), .val (.int (1 : Int32))] [(.ref w_BINARY64)])) _
    refine XS.lload X5.here hx rfl (hb hby at_158) rfl ?_
    show Steps p.tables e below (T5.setTop (mkF m 160 #[.val (.int p1), .val (.long q2), .second, .val (.int p3), .val (.int (1 : Int32)), .val (.ref w_BINARY64), .val (.long (9218868437227405312 : Int64)), .second, .val (.long (4503599627370496 : Int64)), .second, .val (.long (q2 &&& ((9218868437227405312 : Int64) ^^^ (-1 : Int64)))), .second, .val (.int (p3 &&& (3 : Int32))), .val (.int (1 : Int32))] [(.long (q2 &&& ((9218868437227405312 : Int64) ^^^ (-1 : Int64)))), (.ref w_BINARY64)])) _
    refine st6.trans ?_
    show Steps p.tables e below (T6.setTop (mkF m 163 #[.val (.int p1), .val (.long q2), .second, .val (.int p3), .val (.int (1 : Int32)), .val (.ref w_BINARY64), .val (.long (9218868437227405312 : Int64)), .second, .val (.long (4503599627370496 : Int64)), .second, .val (.long (q2 &&& ((9218868437227405312 : Int64) ^^^ (-1 : Int64)))), .second, .val (.int (p3 &&& (3 : Int32))), .val (.int (1 : Int32))] [(.int u)])) _
    refine XS.iload X6.here hx rfl (hb hby at_163) rfl ?_
    show Steps p.tables e below (T6.setTop (mkF m 165 #[.val (.int p1), .val (.long q2), .second, .val (.int p3), .val (.int (1 : Int32)), .val (.ref w_BINARY64), .val (.long (9218868437227405312 : Int64)), .second, .val (.long (4503599627370496 : Int64)), .second, .val (.long (q2 &&& ((9218868437227405312 : Int64) ^^^ (-1 : Int64)))), .second, .val (.int (p3 &&& (3 : Int32))), .val (.int (1 : Int32))] [(.int (1 : Int32)), (.int u)])) _
    refine XS.icmpNo X6.here hx rfl (hb hby at_165) rfl (teq (hv165 : u = (1 : Int32))).2 ?_
    show Steps p.tables e below (T6.setTop (mkF m 168 #[.val (.int p1), .val (.long q2), .second, .val (.int p3), .val (.int (1 : Int32)), .val (.ref w_BINARY64), .val (.long (9218868437227405312 : Int64)), .second, .val (.long (4503599627370496 : Int64)), .second, .val (.long (q2 &&& ((9218868437227405312 : Int64) ^^^ (-1 : Int64)))), .second, .val (.int (p3 &&& (3 : Int32))), .val (.int (1 : Int32))] [])) _
    refine XS.iconst X6.here hx rfl (hb hby at_168) ?_
    show Steps p.tables e below (T6.setTop (mkF m 169 #[.val (.int p1), .val (.long q2), .second, .val (.int p3), .val (.int (1 : Int32)), .val (.ref w_BINARY64), .val (.long (9218868437227405312 : Int64)), .second, .val (.long (4503599627370496 : Int64)), .second, .val (.long (q2 &&& ((9218868437227405312 : Int64) ^^^ (-1 : Int64)))), .second, .val (.int (p3 &&& (3 : Int32))), .val (.int (1 : Int32))] [(.int (1 : Int32))])) _
    refine XS.goto X6.here hx rfl (pc0 := 169) (pc' := 173) rfl (hb hby at_169) (by decide) (by decide) ?_
    show Steps p.tables e below (T6.setTop (mkF m 173 #[.val (.int p1), .val (.long q2), .second, .val (.int p3), .val (.int (1 : Int32)), .val (.ref w_BINARY64), .val (.long (9218868437227405312 : Int64)), .second, .val (.long (4503599627370496 : Int64)), .second, .val (.long (q2 &&& ((9218868437227405312 : Int64) ^^^ (-1 : Int64)))), .second, .val (.int (p3 &&& (3 : Int32))), .val (.int (1 : Int32))] [(.int (1 : Int32))])) _
    exact retN X6 hx (t := .boolean) Bd.returns (by simp) (hb hby at_173) hr
  · show Q0 Z h0 n0 _ T6.heap _
    exact ⟨rfl, N6⟩
set_option maxRecDepth 65536 in
set_option maxHeartbeats 40000000 in
theorem rm0_fffffttttf (l : Launch) (Z : State) (a0 : Array Value) (hw : ∀ d ∈ tables_1, d.before a0 Z = true) (ws : List Jvm.Cond) (p1 : Int32) (q2 : Int64) (p3 : Int32) (w_BINARY64 : Addr) (u : Int32) (h0 : Heap) (n0 : Nat) (Z0 : n0 ≤ h0.size) (S_BINARY64 : Sta Z h0 "com/example/fourfold/fourfold/json/FloatFormat" "BINARY64" "Lcom/example/fourfold/fourfold/json/FloatFormat;" (.ref w_BINARY64)) (E_BINARY64 : Exa Z h0 w_BINARY64 "com/example/fourfold/fourfold/json/FloatFormat") (F_fractionBits_BINARY64 : Fld Z h0 w_BINARY64 "com/example/fourfold/fourfold/json/FloatFormat" "fractionBits" "I" (.int (52 : Int32))) (F_specialExponent_BINARY64 : Fld Z h0 w_BINARY64 "com/example/fourfold/fourfold/json/FloatFormat" "specialExponent" "I" (.int (2047 : Int32))) (hu : finF q2 (52 : Int32) (2047 : Int32) = u) (hc3 : ¬ ((p1 &&& (1 : Int32)) = (0 : Int32))) (hc15 : ¬ ((1 : Int32) = (0 : Int32))) (hc31 : ¬ ((1 : Int32) = (0 : Int32))) (hc47 : ¬ ((1 : Int32) = (0 : Int32))) (hc63 : ¬ ((1 : Int32) = (0 : Int32))) (hc85 : ¬ ((p3 &&& (3 : Int32)) = (1 : Int32))) (hc101 : ¬ ((p3 &&& (3 : Int32)) = (2 : Int32))) (hc124 : ¬ ((p3 &&& (3 : Int32)) = (3 : Int32))) (hc146 : (lcmpW (q2 &&& (9218868437227405312 : Int64)) (9218868437227405312 : Int64)) = (0 : Int32)) (hv165 : u = (0 : Int32)) :
    MetFree l x (head1 (Jvm.Cond.code x code maxLocals ret :: ws) room_1) (fun a U => a = #[(.int p1), (.long q2), (.int p3)] ∧ Z.Warmed39 U.vm ∧ U.heap = h0) (fun _ _ _ _ _ => True) (fun _ U o U' => ∃ v L, o = .returned v ∧ Q0 Z h0 n0 v U'.heap L ∧ FrameEnd U o U' L room_1.cells room_1.slots) := by
  refine MetFree.of_bodySF (plainFor_of_name pn_0) hisR ?_
  intro p e s m args below meth c s₁ Bd hml0 hP hK
  obtain ⟨rfl, hZ, hh⟩ := hP
  have hx := Bd.exec
  have hby := Bd.bytes
  have hml : c.maxLocals = 14 := hml0
  have hown : s.vm.findClass "com/example/fourfold/fourfold/json/FloatFormatIsFinitePinLaw" = some m.cls := findClass_of_methodNamed Bd.named
  have hnm := (name_of_methodNamed Bd.named Bd.method).1
  have X0 : Stand p l e room_1 s m #[(.int p1), (.long q2), (.int p3)] below meth c s₁ [] 0 0 := Stand.of_body Bd
  have e0 : s₁.heap = h0 := by rw [← hh, Bd.state]; rfl
  have N0 := Fr.nil n0
  have pre0 : ∀ t, Steps p.tables e below (s₁.setTop (mkF m 0 #[.val (.int p1), .val (.long q2), .second, .val (.int p3), .unset, .unset, .unset, .unset, .unset, .unset, .unset, .unset, .unset, .unset] [])) t → Steps p.tables e below (s₁.setTop (entryFrame m #[(.int p1), (.long q2), (.int p3)] maxLocals)) t := fun t k => castTop (ef_0 m p1 q2 p3) k
  -- 3. LAWS
  obtain ⟨T5, X5, e5, st5⟩ := getS2 X0 hx hZ hown (host := "") (Or.inl (hw _ (List.mem_of_getElem? (i := 20) rfl))) Via.refl e0 S_BINARY64 (g := (mkF m 18 #[.val (.int p1), .val (.long q2), .second, .val (.int p3), .val (.int (1 : Int32)), .unset, .unset, .unset, .unset, .unset, .unset, .unset, .unset, .unset] [])) rfl (hb hby at_18)
  -- pc 160: com/example/fourfold/fourfold/json/FloatFormat.isFinite by the contract of the body that the receiver's class selects, rm1
  obtain ⟨cq6, kq6, q6a, q6b, q6c⟩ := isOf hZ e5 E_BINARY64
  obtain ⟨_, _, ⟨T6, L6, k6, n6⟩, -, X6, ⟨Lc6, hQ6, l6, y6, z6⟩, st6⟩ := X5.virtualBack hx (y := (⟨"com/example/fourfold/fourfold/json/FloatFormat", "isFinite", "(J)Z"⟩ : MethodName)) (z := (⟨"com/example/fourfold/fourfold/json/FloatFormat", "isFinite", "(J)Z"⟩ : MethodName)) hown (mvT hZ (hw _ (List.mem_of_getElem? (i := 6) rfl))) (mvT hZ (hw _ (List.mem_of_getElem? (i := 7) rfl))) (notFace_of_selects (args := #[]) (mvT hZ (hw _ (List.mem_of_getElem? (i := 9) rfl)))) (mvT hZ (hw _ (List.mem_of_getElem? (i := 9) rfl))) (mvT hZ (hw _ (List.mem_of_getElem? (i := 8) rfl))) (by decide) (backOf (W := 0) (rm1 l Z a0 hw [] w_BINARY64 q2 (2047 : Int32) (52 : Int32) h0 n0 Z0 E_BINARY64 F_specialExponent_BINARY64 F_fractionBits_BINARY64) hZ (hw _ (List.mem_of_getElem? (i := 10) rfl)) (hw _ (List.mem_of_getElem? (i := 1) rfl)) (by decide) (by decide)) q6a q6c (g := (mkF m 160 #[.val (.int p1), .val (.long q2), .second, .val (.int p3), .val (.int (1 : Int32)), .val (.ref w_BINARY64), .val (.long (9218868437227405312 : Int64)), .second, .val (.long (4503599627370496 : Int64)), .second, .val (.long q2), .second, .val (.int (p3 &&& (3 : Int32))), .val (.int (0 : Int32))] [(.long q2), (.ref w_BINARY64)])) rfl (by rw [hml]; rfl) (Steps.refl _) (argsL := [(.long q2)]) (rest := []) (lenOf pd_0_0 rfl) rfl (by show 2 * 0 + _ ≤ _; exact Nat.le_of_eq rfl) (hb hby at_160) (fun _ _ => ⟨rfl, e5, (by decide : 0 + 0 ≤ _), (by decide : 0 + 0 ≤ _)⟩)
  dsimp only [Pt.U, Pt.locs, Pt.cells, Pt.slots] at X6 l6 y6 z6 st6 hQ6
  subst l6 y6 z6
  obtain ⟨rv6, N6q, q6⟩ := hQ6
  rw [hu] at rv6
  subst rv6
  have N6 := Fr.app N0 N6q
  obtain ⟨fs, hr, hrun, hended, hW, hsame⟩ := X6.leave (v := some (.int (1 : Int32))) (fun h => by rw [Bd.returns] at h; cases h)
  refine ⟨_, _, pre0 _ ?_, hrun, hended, _, _, rfl, ?_, ⟨_, rfl⟩, hW, hsame.mono (by decide) (by decide)⟩
  -- 4. STEPS
  · show Steps p.tables e below (s₁.setTop (mkF m 0 #[.val (.int p1), .val (.long q2), .second, .val (.int p3), .unset, .unset, .unset, .unset, .unset, .unset, .unset, .unset, .unset, .unset] [])) _
    refine XS.iloadN X0.here hx rfl (hb hby at_0) rfl ?_
    show Steps p.tables e below (s₁.setTop (mkF m 1 #[.val (.int p1), .val (.long q2), .second, .val (.int p3), .unset, .unset, .unset, .unset, .unset, .unset, .unset, .unset, .unset, .unset] [(.int p1)])) _
    refine XS.iconst X0.here hx rfl (hb hby at_1) ?_
    show Steps p.tables e below (s₁.setTop (mkF m 2 #[.val (.int p1), .val (.long q2), .second, .val (.int p3), .unset, .unset, .unset, .unset, .unset, .unset, .unset, .unset, .unset, .unset] [(.int (1 : Int32)), (.int p1)])) _
    refine XS.iand X0.here hx rfl (hb hby at_2) rfl ?_
    show Steps p.tables e below (s₁.setTop (mkF m 3 #[.val (.int p1), .val (.long q2), .second, .val (.int p3), .unset, .unset, .unset, .unset, .unset, .unset, .unset, .unset, .unset, .unset] [(.int (p1 &&& (1 : Int32)))])) _
    refine XS.ifNo X0.here hx rfl (hb hby at_3) rfl ((if0 _ _).trans (feq hc3).1) ?_
    show Steps p.tables e below (s₁.setTop (mkF m 6 #[.val (.int p1), .val (.long q2), .second, .val (.int p3), .unset, .unset, .unset, .unset, .unset, .unset, .unset, .unset, .unset, .unset] [])) _
    refine XS.iconst X0.here hx rfl (hb hby at_6) ?_
    show Steps p.tables e below (s₁.setTop (mkF m 7 #[.val (.int p1), .val (.long q2), .second, .val (.int p3), .unset, .unset, .unset, .unset, .unset, .unset, .unset, .unset, .unset, .unset] [(.int (1 : Int32))])) _
    refine XS.goto X0.here hx rfl (pc0 := 7) (pc' := 11) rfl (hb hby at_7) (by decide) (by decide) ?_
    show Steps p.tables e below (s₁.setTop (mkF m 11 #[.val (.int p1), .val (.long q2), .second, .val (.int p3), .unset, .unset, .unset, .unset, .unset, .unset, .unset, .unset, .unset, .unset] [(.int (1 : Int32))])) _
    refine XS.istore X0.here hx rfl (hb hby at_11) rfl (l' := #[.val (.int p1), .val (.long q2), .second, .val (.int p3), .val (.int (1 : Int32)), .unset, .unset, .unset, .unset, .unset, .unset, .unset, .unset, .unset]) rfl ?_
    show Steps p.tables e below (s₁.setTop (mkF m 13 #[.val (.int p1), .val (.long q2), .second, .val (.int p3), .val (.int (1 : Int32)), .unset, .unset, .unset, .unset, .unset, .unset, .unset, .unset, .unset] [])) _
    refine XS.iload X0.here hx rfl (hb hby at_13) rfl ?_
    show Steps p.tables e below (s₁.setTop (mkF m 15 #[.val (.int p1), .val (.long q2), .second, .val (.int p3), .val (.int (1 : Int32)), .unset, .unset, .unset, .unset, .unset, .unset, .unset, .unset, .unset] [(.int (1 : Int32))])) _
    refine XS.ifNo X0.here hx rfl (hb hby at_15) rfl ((if0 _ _).trans (feq hc15).1) ?_
    show Steps p.tables e below (s₁.setTop (mkF m 18 #[.val (.int p1), .val (.long q2), .second, .val (.int p3), .val (.int (1 : Int32)), .unset, .unset, .unset, .unset, .unset, .unset, .unset, .unset, .unset] [])) _
    refine st5 _ ?_
    show Steps p.tables e below (T5.setTop (mkF m 21 #[.val (.int p1), .val (.long q2), .second, .val (.int p3), .val (.int (1 : Int32)), .unset, .unset, .unset, .unset, .unset, .unset, .unset, .unset, .unset] [(.ref w_BINARY64)])) _
    refine XS.goto X5.here hx rfl (pc0 := 21) (pc' := 27) rfl (hb hby at_21) (by decide) (by decide) ?_
    show Steps p.tables e below (T5.setTop (mkF m 27 #[.val (.int p1), .val (.long q2), .second, .val (.int p3), .val (.int (1 : Int32)), .unset, .unset, .unset, .unset, .unset, .unset, .unset, .unset, .unset] [(.ref w_BINARY64)])) _
    refine XS.astore X5.here hx rfl (hb hby at_27) rfl rfl (l' := #[.val (.int p1), .val (.long q2), .second, .val (.int p3), .val (.int (1 : Int32)), .val (.ref w_BINARY64), .unset, .unset, .unset, .unset, .unset, .unset, .unset, .unset]) rfl ?_
    show Steps p.tables e below (T5.setTop (mkF m 29 #[.val (.int p1), .val (.long q2), .second, .val (.int p3), .val (.int (1 : Int32)), .val (.ref w_BINARY64), .unset, .unset, .unset, .unset, .unset, .unset, .unset, .unset] [])) _
    refine XS.iload X5.here hx rfl (hb hby at_29) rfl ?_
    show Steps p.tables e below (T5.setTop (mkF m 31 #[.val (.int p1), .val (.long q2), .second, .val (.int p3), .val (.int (1 : Int32)), .val (.ref w_BINARY64), .unset, .unset, .unset, .unset, .unset, .unset, .unset, .unset] [(.int (1 : Int32))])) _
    refine XS.ifNo X5.here hx rfl (hb hby at_31) rfl ((if0 _ _).trans (feq hc31).1) ?_
    show Steps p.tables e below (T5.setTop (mkF m 34 #[.val (.int p1), .val (.long q2), .second, .val (.int p3), .val (.int (1 : Int32)), .val (.ref w_BINARY64), .unset, .unset, .unset, .unset, .unset, .unset, .unset, .unset] [])) _
    refine X5.ldc2Long hx hown (mvT hZ (hw _ (List.mem_of_getElem? (i := 22) rfl))) (g := (mkF m 34 #[.val (.int p1), .val (.long q2), .second, .val (.int p3), .val (.int (1 : Int32)), .val (.ref w_BINARY64), .unset, .unset, .unset, .unset, .unset, .unset, .unset, .unset] [])) rfl (hb hby at_34) _ ?_
    show Steps p.tables e below (T5.setTop (mkF m 37 #[.val (.int p1), .val (.long q2), .second, .val (.int p3), .val (.int (1 : Int32)), .val (.ref w_BINARY64), .unset, .unset, .unset, .unset, .unset, .unset, .unset, .unset] [(.long (9218868437227405312 : Int64))])) _
    refine XS.goto X5.here hx rfl (pc0 := 37) (pc' := 43) rfl (hb hby at_37) (by decide) (by decide) ?_
    show Steps p.tables e below (T5.setTop (mkF m 43 #[.val (.int p1), .val (.long q2), .second, .val (.int p3), .val (.int (1 : Int32)), .val (.ref w_BINARY64), .unset, .unset, .unset, .unset, .unset, .unset, .unset, .unset] [(.long (9218868437227405312 : Int64))])) _
    refine XS.lstore X5.here hx rfl (hb hby at_43) rfl (l' := #[.val (.int p1), .val (.long q2), .second, .val (.int p3), .val (.int (1 : Int32)), .val (.ref w_BINARY64), .val (.long (9218868437227405312 : Int64)), .second, .unset, .unset, .unset, .unset, .unset, .unset]) rfl ?_
    show Steps p.tables e below (T5.setTop (mkF m 45 #[.val (.int p1), .val (.long q2), .second, .val (.int p3), .val (.int (1 : Int32)), .val (.ref w_BINARY64), .val (.long (9218868437227405312 : Int64)), .second, .unset, .unset, .unset, .unset, .unset, .unset] [])) _
    refine XS.iload X5.here hx rfl (hb hby at_45) rfl ?_
    show Steps p.tables e below (T5.setTop (mkF m 47 #[.val (.int p1), .val (.long q2), .second, .val (.int p3), .val (.int (1 : Int32)), .val (.ref w_BINARY64), .val (.long (9218868437227405312 : Int64)), .second, .unset, .unset, .unset, .unset, .unset, .unset] [(.int (1 : Int32))])) _
    refine XS.ifNo X5.here hx rfl (hb hby at_47) rfl ((if0 _ _).trans (feq hc47).1) ?_
    show Steps p.tables e below (T5.setTop (mkF m 50 #[.val (.int p1), .val (.long q2), .second, .val (.int p3), .val (.int (1 : Int32)), .val (.ref w_BINARY64), .val (.long (9218868437227405312 : Int64)), .second, .unset, .unset, .unset, .unset, .unset, .unset] [])) _
    refine X5.ldc2Long hx hown (mvT hZ (hw _ (List.mem_of_getElem? (i := 23) rfl))) (g := (mkF m 50 #[.val (.int p1), .val (.long q2), .second, .val (.int p3), .val (.int (1 : Int32)), .val (.ref w_BINARY64), .val (.long (9218868437227405312 : Int64)), .second, .unset, .unset, .unset, .unset, .unset, .unset] [])) rfl (hb hby at_50) _ ?_
    show Steps p.tables e below (T5.setTop (mkF m 53 #[.val (.int p1), .val (.long q2), .second, .val (.int p3), .val (.int (1 : Int32)), .val (.ref w_BINARY64), .val (.long (9218868437227405312 : Int64)), .second, .unset, .unset, .unset, .unset, .unset, .unset] [(.long (4503599627370496 : Int64))])) _
    refine XS.goto X5.here hx rfl (pc0 := 53) (pc' := 59) rfl (hb hby at_53) (by decide) (by decide) ?_
    show Steps p.tables e below (T5.setTop (mkF m 59 #[.val (.int p1), .val (.long q2), .second, .val (.int p3), .val (.int (1 : Int32)), .val (.ref w_BINARY64), .val (.long (9218868437227405312 : Int64)), .second, .unset, .unset, .unset, .unset, .unset, .unset] [(.long (4503599627370496 : Int64))])) _
    refine XS.lstore X5.here hx rfl (hb hby at_59) rfl (l' := #[.val (.int p1), .val (.long q2), .second, .val (.int p3), .val (.int (1 : Int32)), .val (.ref w_BINARY64), .val (.long (9218868437227405312 : Int64)), .second, .val (.long (4503599627370496 : Int64)), .second, .unset, .unset, .unset, .unset]) rfl ?_
    show Steps p.tables e below (T5.setTop (mkF m 61 #[.val (.int p1), .val (.long q2), .second, .val (.int p3), .val (.int (1 : Int32)), .val (.ref w_BINARY64), .val (.long (9218868437227405312 : Int64)), .second, .val (.long (4503599627370496 : Int64)), .second, .unset, .unset, .unset, .unset] [])) _
    refine XS.iload X5.here hx rfl (hb hby at_61) rfl ?_
    show Steps p.tables e below (T5.setTop (mkF m 63 #[.val (.int p1), .val (.long q2), .second, .val (.int p3), .val (.int (1 : Int32)), .val (.ref w_BINARY64), .val (.long (9218868437227405312 : Int64)), .second, .val (.long (4503599627370496 : Int64)), .second, .unset, .unset, .unset, .unset] [(.int (1 : Int32))])) _
    refine XS.ifNo X5.here hx rfl (hb hby at_63) rfl ((if0 _ _).trans (feq hc63).1) ?_
    show Steps p.tables e below (T5.setTop (mkF m 66 #[.val (.int p1), .val (.long q2), .second, .val (.int p3), .val (.int (1 : Int32)), .val (.ref w_BINARY64), .val (.long (9218868437227405312 : Int64)), .second, .val (.long (4503599627370496 : Int64)), .second, .unset, .unset, .unset, .unset] [])) _
    refine XS.lloadN X5.here hx rfl (hb hby at_66) rfl ?_
    show Steps p.tables e below (T5.setTop (mkF m 67 #[.val (.int p1), .val (.long q2), .second, .val (.int p3), .val (.int (1 : Int32)), .val (.ref w_BINARY64), .val (.long (9218868437227405312 : Int64)), .second, .val (.long (4503599627370496 : Int64)), .second, .unset, .unset, .unset, .unset] [(.long q2)])) _
    refine XS.goto X5.here hx rfl (pc0 := 67) (pc' := 75) rfl (hb hby at_67) (by decide) (by decide) ?_
    show Steps p.tables e below (T5.setTop (mkF m 75 #[.val (.int p1), .val (.long q2), .second, .val (.int p3), .val (.int (1 : Int32)), .val (.ref w_BINARY64), .val (.long (9218868437227405312 : Int64)), .second, .val (.long (4503599627370496 : Int64)), .second, .unset, .unset, .unset, .unset] [(.long q2)])) _
    refine XS.lstore X5.here hx rfl (hb hby at_75) rfl (l' := #[.val (.int p1), .val (.long q2), .second, .val (.int p3), .val (.int (1 : Int32)), .val (.ref w_BINARY64), .val (.long (9218868437227405312 : Int64)), .second, .val (.long (4503599627370496 : Int64)), .second, .val (.long q2), .second, .unset, .unset]) rfl ?_
    show Steps p.tables e below (T5.setTop (mkF m 77 #[.val (.int p1), .val (.long q2), .second, .val (.int p3), .val (.int (1 : Int32)), .val (.ref w_BINARY64), .val (.long (9218868437227405312 : Int64)), .second, .val (.long (4503599627370496 : Int64)), .second, .val (.long q2), .second, .unset, .unset] [])) _
    refine XS.iloadN X5.here hx rfl (hb hby at_77) rfl ?_
    show Steps p.tables e below (T5.setTop (mkF m 78 #[.val (.int p1), .val (.long q2), .second, .val (.int p3), .val (.int (1 : Int32)), .val (.ref w_BINARY64), .val (.long (9218868437227405312 : Int64)), .second, .val (.long (4503599627370496 : Int64)), .second, .val (.long q2), .second, .unset, .unset] [(.int p3)])) _
    refine XS.iconst X5.here hx rfl (hb hby at_78) ?_
    show Steps p.tables e below (T5.setTop (mkF m 79 #[.val (.int p1), .val (.long q2), .second, .val (.int p3), .val (.int (1 : Int32)), .val (.ref w_BINARY64), .val (.long (9218868437227405312 : Int64)), .second, .val (.long (4503599627370496 : Int64)), .second, .val (.long q2), .second, .unset, .unset] [(.int (3 : Int32)), (.int p3)])) _
    refine XS.iand X5.here hx rfl (hb hby at_79) rfl ?_
    show Steps p.tables e below (T5.setTop (mkF m 80 #[.val (.int p1), .val (.long q2), .second, .val (.int p3), .val (.int (1 : Int32)), .val (.ref w_BINARY64), .val (.long (9218868437227405312 : Int64)), .second, .val (.long (4503599627370496 : Int64)), .second, .val (.long q2), .second, .unset, .unset] [(.int (p3 &&& (3 : Int32)))])) _
    refine XS.istore X5.here hx rfl (hb hby at_80) rfl (l' := #[.val (.int p1), .val (.long q2), .second, .val (.int p3), .val (.int (1 : Int32)), .val (.ref w_BINARY64), .val (.long (9218868437227405312 : Int64)), .second, .val (.long (4503599627370496 : Int64)), .second, .val (.long q2), .second, .val (.int (p3 &&& (3 : Int32))), .unset]) rfl ?_
    show Steps p.tables e below (T5.setTop (mkF m 82 #[.val (.int p1), .val (.long q2), .second, .val (.int p3), .val (.int (1 : Int32)), .val (.ref w_BINARY64), .val (.long (9218868437227405312 : Int64)), .second, .val (.long (4503599627370496 : Int64)), .second, .val (.long q2), .second, .val (.int (p3 &&& (3 : Int32))), .unset] [])) _
    refine XS.iload X5.here hx rfl (hb hby at_82) rfl ?_
    show Steps p.tables e below (T5.setTop (mkF m 84 #[.val (.int p1), .val (.long q2), .second, .val (.int p3), .val (.int (1 : Int32)), .val (.ref w_BINARY64), .val (.long (9218868437227405312 : Int64)), .second, .val (.long (4503599627370496 : Int64)), .second, .val (.long q2), .second, .val (.int (p3 &&& (3 : Int32))), .unset] [(.int (p3 &&& (3 : Int32)))])) _
    refine XS.iconst X5.here hx rfl (hb hby at_84) ?_
    show Steps p.tables e below (T5.setTop (mkF m 85 #[.val (.int p1), .val (.long q2), .second, .val (.int p3), .val (.int (1 : Int32)), .val (.ref w_BINARY64), .val (.long (9218868437227405312 : Int64)), .second, .val (.long (4503599627370496 : Int64)), .second, .val (.long q2), .second, .val (.int (p3 &&& (3 : Int32))), .unset] [(.int (1 : Int32)), (.int (p3 &&& (3 : Int32)))])) _
    refine XS.icmpYes X5.here hx rfl (pc0 := 85) (pc' := 98) rfl (hb hby at_85) rfl (feq hc85).2 (by decide) (by decide) ?_
    show Steps p.tables e below (T5.setTop (mkF m 98 #[.val (.int p1), .val (.long q2), .second, .val (.int p3), .val (.int (1 : Int32)), .val (.ref w_BINARY64), .val (.long (9218868437227405312 : Int64)), .second, .val (.long (4503599627370496 : Int64)), .second, .val (.long q2), .second, .val (.int (p3 &&& (3 : Int32))), .unset] [])) _
    refine XS.iload X5.here hx rfl (hb hby at_98) rfl ?_
    show Steps p.tables e below (T5.setTop (mkF m 100 #[.val (.int p1), .val (.long q2), .second, .val (.int p3), .val (.int (1 : Int32)), .val (.ref w_BINARY64), .val (.long (9218868437227405312 : Int64)), .second, .val (.long (4503599627370496 : Int64)), .second, .val (.long q2), .second, .val (.int (p3 &&& (3 : Int32))), .unset] [(.int (p3 &&& (3 : Int32)))])) _
    refine XS.iconst X5.here hx rfl (hb hby at_100) ?_
    show Steps p.tables e below (T5.setTop (mkF m 101 #[.val (.int p1), .val (.long q2), .second, .val (.int p3), .val (.int (1 : Int32)), .val (.ref w_BINARY64), .val (.long (9218868437227405312 : Int64)), .second, .val (.long (4503599627370496 : Int64)), .second, .val (.long q2), .second, .val (.int (p3 &&& (3 : Int32))), .unset] [(.int (2 : Int32)), (.int (p3 &&& (3 : Int32)))])) _
    refine XS.icmpYes X5.here hx rfl (pc0 := 101) (pc' := 121) rfl (hb hby at_101) rfl (feq hc101).2 (by decide) (by decide) ?_
    show Steps p.tables e below (T5.setTop (mkF m 121 #[.val (.int p1), .val (.long q2), .second, .val (.int p3), .val (.int (1 : Int32)), .val (.ref w_BINARY64), .val (.long (9218868437227405312 : Int64)), .second, .val (.long (4503599627370496 : Int64)), .second, .val (.long q2), .second, .val (.int (p3 &&& (3 : Int32))), .unset] [])) _
    refine XS.iload X5.here hx rfl (hb hby at_121) rfl ?_
    show Steps p.tables e below (T5.setTop (mkF m 123 #[.val (.int p1), .val (.long q2), .second, .val (.int p3), .val (.int (1 : Int32)), .val (.ref w_BINARY64), .val (.long (9218868437227405312 : Int64)), .second, .val (.long (4503599627370496 : Int64)), .second, .val (.long q2), .second, .val (.int (p3 &&& (3 : Int32))), .unset] [(.int (p3 &&& (3 : Int32)))])) _
    refine XS.iconst X5.here hx rfl (hb hby at_123) ?_
    show Steps p.tables e below (T5.setTop (mkF m 124 #[.val (.int p1), .val (.long q2), .second, .val (.int p3), .val (.int (1 : Int32)), .val (.ref w_BINARY64), .val (.long (9218868437227405312 : Int64)), .second, .val (.long (4503599627370496 : Int64)), .second, .val (.long q2), .second, .val (.int (p3 &&& (3 : Int32))), .unset] [(.int (3 : Int32)), (.int (p3 &&& (3 : Int32)))])) _
    refine XS.icmpYes X5.here hx rfl (pc0 := 124) (pc' := 138) rfl (hb hby at_124) rfl (feq hc124).2 (by decide) (by decide) ?_
    show Steps p.tables e below (T5.setTop (mkF m 138 #[.val (.int p1), .val (.long q2), .second, .val (.int p3), .val (.int (1 : Int32)), .val (.ref w_BINARY64), .val (.long (9218868437227405312 : Int64)), .second, .val (.long (4503599627370496 : Int64)), .second, .val (.long q2), .second, .val (.int (p3 &&& (3 : Int32))), .unset] [])) _
    refine XS.lload X5.here hx rfl (hb hby at_138) rfl ?_
    show Steps p.tables e below (T5.setTop (mkF m 140 #[.val (.int p1), .val (.long q2), .second, .val (.int p3), .val (.int (1 : Int32)), .val (.ref w_BINARY64), .val (.long (9218868437227405312 : Int64)), .second, .val (.long (4503599627370496 : Int64)), .second, .val (.long q2), .second, .val (.int (p3 &&& (3 : Int32))), .unset] [(.long q2)])) _
    refine XS.lload X5.here hx rfl (hb hby at_140) rfl ?_
    show Steps p.tables e below (T5.setTop (mkF m 142 #[.val (.int p1), .val (.long q2), .second, .val (.int p3), .val (.int (1 : Int32)), .val (.ref w_BINARY64), .val (.long (9218868437227405312 : Int64)), .second, .val (.long (4503599627370496 : Int64)), .second, .val (.long q2), .second, .val (.int (p3 &&& (3 : Int32))), .unset] [(.long (9218868437227405312 : Int64)), (.long q2)])) _
    refine XS.land X5.here hx rfl (hb hby at_142) rfl ?_
    show Steps p.tables e below (T5.setTop (mkF m 143 #[.val (.int p1), .val (.long q2), .second, .val (.int p3), .val (.int (1 : Int32)), .val (.ref w_BINARY64), .val (.long (9218868437227405312 : Int64)), .second, .val (.long (4503599627370496 : Int64)), .second, .val (.long q2), .second, .val (.int (p3 &&& (3 : Int32))), .unset] [(.long (q2 &&& (9218868437227405312 : Int64)))])) _
    refine XS.lload X5.here hx rfl (hb hby at_143) rfl ?_
    show Steps p.tables e below (T5.setTop (mkF m 145 #[.val (.int p1), .val (.long q2), .second, .val (.int p3), .val (.int (1 : Int32)), .val (.ref w_BINARY64), .val (.long (9218868437227405312 : Int64)), .second, .val (.long (4503599627370496 : Int64)), .second, .val (.long q2), .second, .val (.int (p3 &&& (3 : Int32))), .unset] [(.long (9218868437227405312 : Int64)), (.long (q2 &&& (9218868437227405312 : Int64)))])) _
    refine XS.lcmp X5.here hx rfl (hb hby at_145) rfl ?_
    show Steps p.tables e below (T5.setTop (mkF m 146 #[.val (.int p1), .val (.long q2), .second, .val (.int p3), .val (.int (1 : Int32)), .val (.ref w_BINARY64), .val (.long (9218868437227405312 : Int64)), .second, .val (.long (4503599627370496 : Int64)), .second, .val (.long q2), .second, .val (.int (p3 &&& (3 : Int32))), .unset] [(.int (lcmpW (q2 &&& (9218868437227405312 : Int64)) (9218868437227405312 : Int64)))])) _
    refine XS.ifYes X5.here hx rfl (pc0 := 146) (pc' := 153) rfl (hb hby at_146) rfl ((if0 _ _).trans (teq hc146).1) (by decide) (by decide) ?_
    show Steps p.tables e below (T5.setTop (mkF m 153 #[.val (.int p1), .val (.long q2), .second, .val (.int p3), .val (.int (1 : Int32)), .val (.ref w_BINARY64), .val (.long (9218868437227405312 : Int64)), .second, .val (.long (4503599627370496 : Int64)), .second, .val (.long q2), .second, .val (.int (p3 &&& (3 : Int32))), .unset] [])) _
    refine XS.iconst X5.here hx rfl (hb hby at_153) ?_
    show Steps p.tables e below (T5.setTop (mkF m 154 #[.val (.int p1), .val (.long q2), .second, .val (.int p3), .val (.int (1 : Int32)), .val (.ref w_BINARY64), .val (.long (9218868437227405312 : Int64)), .second, .val (.long (4503599627370496 : Int64)), .second, .val (.long q2), .second, .val (.int (p3 &&& (3 : Int32))), .unset] [(.int (0 : Int32))])) _
    refine XS.istore X5.here hx rfl (hb hby at_154) rfl (l' := #[.val (.int p1), .val (.long q2), .second, .val (.int p3), .val (.int (1 : Int32)), .val (.ref w_BINARY64), .val (.long (9218868437227405312 : Int64)), .second, .val (.long (4503599627370496 : Int64)), .second, .val (.long q2), .second, .val (.int (p3 &&& (3 : Int32))), .val (.int (0 : Int32))]) rfl ?_
    show Steps p.tables e below (T5.setTop (mkF m 156 #[.val (.int p1), .val (.long q2), .second, .val (.int p3), .val (.int (1 : Int32)), .val (.ref w_BINARY64), .val (.long (9218868437227405312 : Int64)), .second, .val (.long (4503599627370496 : Int64)), .second, .val (.long q2), .second, .val (.int (p3 &&& (3 : Int32))), .val (.int (0 : Int32))] [])) _
    refine XS.aload X5.here hx rfl (hb hby at_156) rfl rfl ?_
    show Steps p.tables e below (T5.setTop (mkF m 158 #[.val (.int p1), .val (.long q2), .second, .val (.int p3), .val (.int (1 : Int32)), .val (.ref w_BINARY64), .val (.long (9218868437227405312 : Int64)), .second, .val (.long (4503599627370496 : Int64)), .second, .val (.long q2), .second, .val (.int (p3 &&& (3 : Int32))), .val (.int (0 : Int32))] [(.ref w_BINARY64)])) _
    refine XS.lload X5.here hx rfl (hb hby at_158) rfl ?_
    show Steps p.tables e below (T5.setTop (mkF m 160 #[.val (.int p1), .val (.long q2), .second, .val (.int p3), .val (.int (1 : Int32)), .val (.ref w_BINARY64), .val (.long (9218868437227405312 : Int64)), .second, .val (.long (4503599627370496 : Int64)), .second, .val (.long q2), .second, .val (.int (p3 &&& (3 : Int32))), .val (.int (0 : Int32))] [(.long q2), (.ref w_BINARY64)])) _
    refine st6.trans ?_
    show Steps p.tables e below (T6.setTop (mkF m 163 #[.val (.int p1), .val (.long q2), .second, .val (.int p3), .val (.int (1 : Int32)), .val (.ref w_BINARY64), .val (.long (9218868437227405312 : Int64)), .second, .val (.long (4503599627370496 : Int64)), .second, .val (.long q2), .second, .val (.int (p3 &&& (3 : Int32))), .val (.int (0 : Int32))] [(.int u)])) _
    refine XS.iload X6.here hx rfl (hb hby at_163) rfl ?_
    show Steps p.tables e below (T6.setTop (mkF m 165 #[.val (.int p1), .val (.long q2), .second, .val (.int p3), .val (.int (1 : Int32)), .val (.ref w_BINARY64), .val (.long (9218868437227405312 : Int64)), .second, .val (.long (4503599627370496 : Int64)), .second, .val (.long q2), .second, .val (.int (p3 &&& (3 : Int32))), .val (.int (0 : Int32))] [(.int (0 : Int32)), (.int u)])) _
    refine XS.icmpNo X6.here hx rfl (hb hby at_165) rfl (teq (hv165 : u = (0 : Int32))).2 ?_
    show Steps p.tables e below (T6.setTop (mkF m 168 #[.val (.int p1), .val (.long q2), .second, .val (.int p3), .val (.int (1 : Int32)), .val (.ref w_BINARY64), .val (.long (9218868437227405312 : Int64)), .second, .val (.long (4503599627370496 : Int64)), .second, .val (.long q2), .second, .val (.int (p3 &&& (3 : Int32))), .val (.int (0 : Int32))] [])) _
    refine XS.iconst X6.here hx rfl (hb hby at_168) ?_
    show Steps p.tables e below (T6.setTop (mkF m 169 #[.val (.int p1), .val (.long q2), .second, .val (.int p3), .val (.int (1 : Int32)), .val (.ref w_BINARY64), .val (.long (9218868437227405312 : Int64)), .second, .val (.long (4503599627370496 : Int64)), .second, .val (.long q2), .second, .val (.int (p3 &&& (3 : Int32))), .val (.int (0 : Int32))] [(.int (1 : Int32))])) _
    refine XS.goto X6.here hx rfl (pc0 := 169) (pc' := 173) rfl (hb hby at_169) (by decide) (by decide) ?_
    show Steps p.tables e below (T6.setTop (mkF m 173 #[.val (.int p1), .val (.long q2), .second, .val (.int p3), .val (.int (1 : Int32)), .val (.ref w_BINARY64), .val (.long (9218868437227405312 : Int64)), .second, .val (.long (4503599627370496 : Int64)), .second, .val (.long q2), .second, .val (.int (p3 &&& (3 : Int32))), .val (.int (0 : Int32))] [(.int (1 : Int32))])) _
    exact retN X6 hx (t := .boolean) Bd.returns (by simp) (hb hby at_173) hr
  · show Q0 Z h0 n0 _ T6.heap _
    exact ⟨rfl, N6⟩
set_option maxRecDepth 65536 in
set_option maxHeartbeats 40000000 in
theorem rm0_ffffftttff (l : Launch) (Z : State) (a0 : Array Value) (hw : ∀ d ∈ tables_1, d.before a0 Z = true) (ws : List Jvm.Cond) (p1 : Int32) (q2 : Int64) (p3 : Int32) (w_BINARY64 : Addr) (u : Int32) (h0 : Heap) (n0 : Nat) (Z0 : n0 ≤ h0.size) (S_BINARY64 : Sta Z h0 "com/example/fourfold/fourfold/json/FloatFormat" "BINARY64" "Lcom/example/fourfold/fourfold/json/FloatFormat;" (.ref w_BINARY64)) (E_BINARY64 : Exa Z h0 w_BINARY64 "com/example/fourfold/fourfold/json/FloatFormat") (F_fractionBits_BINARY64 : Fld Z h0 w_BINARY64 "com/example/fourfold/fourfold/json/FloatFormat" "fractionBits" "I" (.int (52 : Int32))) (F_specialExponent_BINARY64 : Fld Z h0 w_BINARY64 "com/example/fourfold/fourfold/json/FloatFormat" "specialExponent" "I" (.int (2047 : Int32))) (hu : finF q2 (52 : Int32) (2047 : Int32) = u) (hc3 : ¬ ((p1 &&& (1 : Int32)) = (0 : Int32))) (hc15 : ¬ ((1 : Int32) = (0 : Int32))) (hc31 : ¬ ((1 : Int32) = (0 : Int32))) (hc47 : ¬ ((1 : Int32) = (0 : Int32))) (hc63 : ¬ ((1 : Int32) = (0 : Int32))) (hc85 : ¬ ((p3 &&& (3 : Int32)) = (1 : Int32))) (hc101 : ¬ ((p3 &&& (3 : Int32)) = (2 : Int32))) (hc124 : ¬ ((p3 &&& (3 : Int32)) = (3 : Int32))) (hc146 : ¬ ((lcmpW (q2 &&& (9218868437227405312 : Int64)) (9218868437227405312 : Int64)) = (0 : Int32))) (hv165 : u = (1 : Int32)) :
    MetFree l x (head1 (Jvm.Cond.code x code maxLocals ret :: ws) room_1) (fun a U => a = #[(.int p1), (.long q2), (.int p3)] ∧ Z.Warmed39 U.vm ∧ U.heap = h0) (fun _ _ _ _ _ => True) (fun _ U o U' => ∃ v L, o = .returned v ∧ Q0 Z h0 n0 v U'.heap L ∧ FrameEnd U o U' L room_1.cells room_1.slots) := by
  refine MetFree.of_bodySF (plainFor_of_name pn_0) hisR ?_
  intro p e s m args below meth c s₁ Bd hml0 hP hK
  obtain ⟨rfl, hZ, hh⟩ := hP
  have hx := Bd.exec
  have hby := Bd.bytes
  have hml : c.maxLocals = 14 := hml0
  have hown : s.vm.findClass "com/example/fourfold/fourfold/json/FloatFormatIsFinitePinLaw" = some m.cls := findClass_of_methodNamed Bd.named
  have hnm := (name_of_methodNamed Bd.named Bd.method).1
  have X0 : Stand p l e room_1 s m #[(.int p1), (.long q2), (.int p3)] below meth c s₁ [] 0 0 := Stand.of_body Bd
  have e0 : s₁.heap = h0 := by rw [← hh, Bd.state]; rfl
  have N0 := Fr.nil n0
  have pre0 : ∀ t, Steps p.tables e below (s₁.setTop (mkF m 0 #[.val (.int p1), .val (.long q2), .second, .val (.int p3), .unset, .unset, .unset, .unset, .unset, .unset, .unset, .unset, .unset, .unset] [])) t → Steps p.tables e below (s₁.setTop (entryFrame m #[(.int p1), (.long q2), (.int p3)] maxLocals)) t := fun t k => castTop (ef_0 m p1 q2 p3) k
  -- 3. LAWS
  obtain ⟨T5, X5, e5, st5⟩ := getS2 X0 hx hZ hown (host := "") (Or.inl (hw _ (List.mem_of_getElem? (i := 20) rfl))) Via.refl e0 S_BINARY64 (g := (mkF m 18 #[.val (.int p1), .val (.long q2), .second, .val (.int p3), .val (.int (1 : Int32)), .unset, .unset, .unset, .unset, .unset, .unset, .unset, .unset, .unset] [])) rfl (hb hby at_18)
  -- pc 160: com/example/fourfold/fourfold/json/FloatFormat.isFinite by the contract of the body that the receiver's class selects, rm1
  obtain ⟨cq6, kq6, q6a, q6b, q6c⟩ := isOf hZ e5 E_BINARY64
  obtain ⟨_, _, ⟨T6, L6, k6, n6⟩, -, X6, ⟨Lc6, hQ6, l6, y6, z6⟩, st6⟩ := X5.virtualBack hx (y := (⟨"com/example/fourfold/fourfold/json/FloatFormat", "isFinite", "(J)Z"⟩ : MethodName)) (z := (⟨"com/example/fourfold/fourfold/json/FloatFormat", "isFinite", "(J)Z"⟩ : MethodName)) hown (mvT hZ (hw _ (List.mem_of_getElem? (i := 6) rfl))) (mvT hZ (hw _ (List.mem_of_getElem? (i := 7) rfl))) (notFace_of_selects (args := #[]) (mvT hZ (hw _ (List.mem_of_getElem? (i := 9) rfl)))) (mvT hZ (hw _ (List.mem_of_getElem? (i := 9) rfl))) (mvT hZ (hw _ (List.mem_of_getElem? (i := 8) rfl))) (by decide) (backOf (W := 0) (rm1 l Z a0 hw [] w_BINARY64 q2 (2047 : Int32) (52 : Int32) h0 n0 Z0 E_BINARY64 F_specialExponent_BINARY64 F_fractionBits_BINARY64) hZ (hw _ (List.mem_of_getElem? (i := 10) rfl)) (hw _ (List.mem_of_getElem? (i := 1) rfl)) (by decide) (by decide)) q6a q6c (g := (mkF m 160 #[.val (.int p1), .val (.long q2), .second, .val (.int p3), .val (.int (1 : Int32)), .val (.ref w_BINARY64), .val (.long (9218868437227405312 : Int64)), .second, .val (.long (4503599627370496 : Int64)), .second, .val (.long q2), .second, .val (.int (p3 &&& (3 : Int32))), .val (.int (1 : Int32))] [(.long q2), (.ref w_BINARY64)])) rfl (by rw [hml]; rfl) (Steps.refl _) (argsL := [(.long q2)]) (rest := []) (lenOf pd_0_0 rfl) rfl (by show 2 * 0 + _ ≤ _; exact Nat.le_of_eq rfl) (hb hby at_160) (fun _ _ => ⟨rfl, e5, (by decide : 0 + 0 ≤ _), (by decide : 0 + 0 ≤ _)⟩)
  dsimp only [Pt.U, Pt.locs, Pt.cells, Pt.slots] at X6 l6 y6 z6 st6 hQ6
  subst l6 y6 z6
  obtain ⟨rv6, N6q, q6⟩ := hQ6
  rw [hu] at rv6
  subst rv6
  have N6 := Fr.app N0 N6q
  obtain ⟨fs, hr, hrun, hended, hW, hsame⟩ := X6.leave (v := some (.int (1 : Int32))) (fun h => by rw [Bd.returns] at h; cases h)
  refine ⟨_, _, pre0 _ ?_, hrun, hended, _, _, rfl, ?_, ⟨_, rfl⟩, hW, hsame.mono (by decide) (by decide)⟩
  -- 4. STEPS
  · show Steps p.tables e below (s₁.setTop (mkF m 0 #[.val (.int p1), .val (.long q2), .second, .val (.int p3), .unset, .unset, .unset, .unset, .unset, .unset, .unset, .unset, .unset, .unset] [])) _
    refine XS.iloadN X0.here hx rfl (hb hby at_0) rfl ?_
    show Steps p.tables e below (s₁.setTop (mkF m 1 #[.val (.int p1), .val (.long q2), .second, .val (.int p3), .unset, .unset, .unset, .unset, .unset, .unset, .unset, .unset, .unset, .unset] [(.int p1)])) _
    refine XS.iconst X0.here hx rfl (hb hby at_1) ?_
    show Steps p.tables e below (s₁.setTop (mkF m 2 #[.val (.int p1), .val (.long q2), .second, .val (.int p3), .unset, .unset, .unset, .unset, .unset, .unset, .unset, .unset, .unset, .unset] [(.int (1 : Int32)), (.int p1)])) _
    refine XS.iand X0.here hx rfl (hb hby at_2) rfl ?_
    show Steps p.tables e below (s₁.setTop (mkF m 3 #[.val (.int p1), .val (.long q2), .second, .val (.int p3), .unset, .unset, .unset, .unset, .unset, .unset, .unset, .unset, .unset, .unset] [(.int (p1 &&& (1 : Int32)))])) _
    refine XS.ifNo X0.here hx rfl (hb hby at_3) rfl ((if0 _ _).trans (feq hc3).1) ?_
    show Steps p.tables e below (s₁.setTop (mkF m 6 #[.val (.int p1), .val (.long q2), .second, .val (.int p3), .unset, .unset, .unset, .unset, .unset, .unset, .unset, .unset, .unset, .unset] [])) _
    refine XS.iconst X0.here hx rfl (hb hby at_6) ?_
    show Steps p.tables e below (s₁.setTop (mkF m 7 #[.val (.int p1), .val (.long q2), .second, .val (.int p3), .unset, .unset, .unset, .unset, .unset, .unset, .unset, .unset, .unset, .unset] [(.int (1 : Int32))])) _
    refine XS.goto X0.here hx rfl (pc0 := 7) (pc' := 11) rfl (hb hby at_7) (by decide) (by decide) ?_
    show Steps p.tables e below (s₁.setTop (mkF m 11 #[.val (.int p1), .val (.long q2), .second, .val (.int p3), .unset, .unset, .unset, .unset, .unset, .unset, .unset, .unset, .unset, .unset] [(.int (1 : Int32))])) _
    refine XS.istore X0.here hx rfl (hb hby at_11) rfl (l' := #[.val (.int p1), .val (.long q2), .second, .val (.int p3), .val (.int (1 : Int32)), .unset, .unset, .unset, .unset, .unset, .unset, .unset, .unset, .unset]) rfl ?_
    show Steps p.tables e below (s₁.setTop (mkF m 13 #[.val (.int p1), .val (.long q2), .second, .val (.int p3), .val (.int (1 : Int32)), .unset, .unset, .unset, .unset, .unset, .unset, .unset, .unset, .unset] [])) _
    refine XS.iload X0.here hx rfl (hb hby at_13) rfl ?_
    show Steps p.tables e below (s₁.setTop (mkF m 15 #[.val (.int p1), .val (.long q2), .second, .val (.int p3), .val (.int (1 : Int32)), .unset, .unset, .unset, .unset, .unset, .unset, .unset, .unset, .unset] [(.int (1 : Int32))])) _
    refine XS.ifNo X0.here hx rfl (hb hby at_15) rfl ((if0 _ _).trans (feq hc15).1) ?_
    show Steps p.tables e below (s₁.setTop (mkF m 18 #[.val (.int p1), .val (.long q2), .second, .val (.int p3), .val (.int (1 : Int32)), .unset, .unset, .unset, .unset, .unset, .unset, .unset, .unset, .unset] [])) _
    refine st5 _ ?_
    show Steps p.tables e below (T5.setTop (mkF m 21 #[.val (.int p1), .val (.long q2), .second, .val (.int p3), .val (.int (1 : Int32)), .unset, .unset, .unset, .unset, .unset, .unset, .unset, .unset, .unset] [(.ref w_BINARY64)])) _
    refine XS.goto X5.here hx rfl (pc0 := 21) (pc' := 27) rfl (hb hby at_21) (by decide) (by decide) ?_
    show Steps p.tables e below (T5.setTop (mkF m 27 #[.val (.int p1), .val (.long q2), .second, .val (.int p3), .val (.int (1 : Int32)), .unset, .unset, .unset, .unset, .unset, .unset, .unset, .unset, .unset] [(.ref w_BINARY64)])) _
    refine XS.astore X5.here hx rfl (hb hby at_27) rfl rfl (l' := #[.val (.int p1), .val (.long q2), .second, .val (.int p3), .val (.int (1 : Int32)), .val (.ref w_BINARY64), .unset, .unset, .unset, .unset, .unset, .unset, .unset, .unset]) rfl ?_
    show Steps p.tables e below (T5.setTop (mkF m 29 #[.val (.int p1), .val (.long q2), .second, .val (.int p3), .val (.int (1 : Int32)), .val (.ref w_BINARY64), .unset, .unset, .unset, .unset, .unset, .unset, .unset, .unset] [])) _
    refine XS.iload X5.here hx rfl (hb hby at_29) rfl ?_
    show Steps p.tables e below (T5.setTop (mkF m 31 #[.val (.int p1), .val (.long q2), .second, .val (.int p3), .val (.int (1 : Int32)), .val (.ref w_BINARY64), .unset, .unset, .unset, .unset, .unset, .unset, .unset, .unset] [(.int (1 : Int32))])) _
    refine XS.ifNo X5.here hx rfl (hb hby at_31) rfl ((if0 _ _).trans (feq hc31).1) ?_
    show Steps p.tables e below (T5.setTop (mkF m 34 #[.val (.int p1), .val (.long q2), .second, .val (.int p3), .val (.int (1 : Int32)), .val (.ref w_BINARY64), .unset, .unset, .unset, .unset, .unset, .unset, .unset, .unset] [])) _
    refine X5.ldc2Long hx hown (mvT hZ (hw _ (List.mem_of_getElem? (i := 22) rfl))) (g := (mkF m 34 #[.val (.int p1), .val (.long q2), .second, .val (.int p3), .val (.int (1 : Int32)), .val (.ref w_BINARY64), .unset, .unset, .unset, .unset, .unset, .unset, .unset, .unset] [])) rfl (hb hby at_34) _ ?_
    show Steps p.tables e below (T5.setTop (mkF m 37 #[.val (.int p1), .val (.long q2), .second, .val (.int p3), .val (.int (1 : Int32)), .val (.ref w_BINARY64), .unset, .unset, .unset, .unset, .unset, .unset, .unset, .unset] [(.long (9218868437227405312 : Int64))])) _
    refine XS.goto X5.here hx rfl (pc0 := 37) (pc' := 43) rfl (hb hby at_37) (by decide) (by decide) ?_
    show Steps p.tables e below (T5.setTop (mkF m 43 #[.val (.int p1), .val (.long q2), .second, .val (.int p3), .val (.int (1 : Int32)), .val (.ref w_BINARY64), .unset, .unset, .unset, .unset, .unset, .unset, .unset, .unset] [(.long (9218868437227405312 : Int64))])) _
    refine XS.lstore X5.here hx rfl (hb hby at_43) rfl (l' := #[.val (.int p1), .val (.long q2), .second, .val (.int p3), .val (.int (1 : Int32)), .val (.ref w_BINARY64), .val (.long (9218868437227405312 : Int64)), .second, .unset, .unset, .unset, .unset, .unset, .unset]) rfl ?_
    show Steps p.tables e below (T5.setTop (mkF m 45 #[.val (.int p1), .val (.long q2), .second, .val (.int p3), .val (.int (1 : Int32)), .val (.ref w_BINARY64), .val (.long (9218868437227405312 : Int64)), .second, .unset, .unset, .unset, .unset, .unset, .unset] [])) _
    refine XS.iload X5.here hx rfl (hb hby at_45) rfl ?_
    show Steps p.tables e below (T5.setTop (mkF m 47 #[.val (.int p1), .val (.long q2), .second, .val (.int p3), .val (.int (1 : Int32)), .val (.ref w_BINARY64), .val (.long (9218868437227405312 : Int64)), .second, .unset, .unset, .unset, .unset, .unset, .unset] [(.int (1 : Int32))])) _
    refine XS.ifNo X5.here hx rfl (hb hby at_47) rfl ((if0 _ _).trans (feq hc47).1) ?_
    show Steps p.tables e below (T5.setTop (mkF m 50 #[.val (.int p1), .val (.long q2), .second, .val (.int p3), .val (.int (1 : Int32)), .val (.ref w_BINARY64), .val (.long (9218868437227405312 : Int64)), .second, .unset, .unset, .unset, .unset, .unset, .unset] [])) _
    refine X5.ldc2Long hx hown (mvT hZ (hw _ (List.mem_of_getElem? (i := 23) rfl))) (g := (mkF m 50 #[.val (.int p1), .val (.long q2), .second, .val (.int p3), .val (.int (1 : Int32)), .val (.ref w_BINARY64), .val (.long (9218868437227405312 : Int64)), .second, .unset, .unset, .unset, .unset, .unset, .unset] [])) rfl (hb hby at_50) _ ?_
    show Steps p.tables e below (T5.setTop (mkF m 53 #[.val (.int p1), .val (.long q2), .second, .val (.int p3), .val (.int (1 : Int32)), .val (.ref w_BINARY64), .val (.long (9218868437227405312 : Int64)), .second, .unset, .unset, .unset, .unset, .unset, .unset] [(.long (4503599627370496 : Int64))])) _
    refine XS.goto X5.here hx rfl (pc0 := 53) (pc' := 59) rfl (hb hby at_53) (by decide) (by decide) ?_
    show Steps p.tables e below (T5.setTop (mkF m 59 #[.val (.int p1), .val (.long q2), .second, .val (.int p3), .val (.int (1 : Int32)), .val (.ref w_BINARY64), .val (.long (9218868437227405312 : Int64)), .second, .unset, .unset, .unset, .unset, .unset, .unset] [(.long (4503599627370496 : Int64))])) _
    refine XS.lstore X5.here hx rfl (hb hby at_59) rfl (l' := #[.val (.int p1), .val (.long q2), .second, .val (.int p3), .val (.int (1 : Int32)), .val (.ref w_BINARY64), .val (.long (9218868437227405312 : Int64)), .second, .val (.long (4503599627370496 : Int64)), .second, .unset, .unset, .unset, .unset]) rfl ?_
    show Steps p.tables e below (T5.setTop (mkF m 61 #[.val (.int p1), .val (.long q2), .second, .val (.int p3), .val (.int (1 : Int32)), .val (.ref w_BINARY64), .val (.long (9218868437227405312 : Int64)), .second, .val (.long (4503599627370496 : Int64)), .second, .unset, .unset, .unset, .unset] [])) _
    refine XS.iload X5.here hx rfl (hb hby at_61) rfl ?_
    show Steps p.tables e below (T5.setTop (mkF m 63 #[.val (.int p1), .val (.long q2), .second, .val (.int p3), .val (.int (1 : Int32)), .val (.ref w_BINARY64), .val (.long (9218868437227405312 : Int64)), .second, .val (.long (4503599627370496 : Int64)), .second, .unset, .unset, .unset, .unset] [(.int (1 : Int32))])) _
    refine XS.ifNo X5.here hx rfl (hb hby at_63) rfl ((if0 _ _).trans (feq hc63).1) ?_
    show Steps p.tables e below (T5.setTop (mkF m 66 #[.val (.int p1), .val (.long q2), .second, .val (.int p3), .val (.int (1 : Int32)), .val (.ref w_BINARY64), .val (.long (9218868437227405312 : Int64)), .second, .val (.long (4503599627370496 : Int64)), .second, .unset, .unset, .unset, .unset] [])) _
    refine XS.lloadN X5.here hx rfl (hb hby at_66) rfl ?_
    show Steps p.tables e below (T5.setTop (mkF m 67 #[.val (.int p1), .val (.long q2), .second, .val (.int p3), .val (.int (1 : Int32)), .val (.ref w_BINARY64), .val (.long (9218868437227405312 : Int64)), .second, .val (.long (4503599627370496 : Int64)), .second, .unset, .unset, .unset, .unset] [(.long q2)])) _
    refine XS.goto X5.here hx rfl (pc0 := 67) (pc' := 75) rfl (hb hby at_67) (by decide) (by decide) ?_
    show Steps p.tables e below (T5.setTop (mkF m 75 #[.val (.int p1), .val (.long q2), .second, .val (.int p3), .val (.int (1 : Int32)), .val (.ref w_BINARY64), .val (.long (9218868437227405312 : Int64)), .second, .val (.long (4503599627370496 : Int64)), .second, .unset, .unset, .unset, .unset] [(.long q2)])) _
    refine XS.lstore X5.here hx rfl (hb hby at_75) rfl (l' := #[.val (.int p1), .val (.long q2), .second, .val (.int p3), .val (.int (1 : Int32)), .val (.ref w_BINARY64), .val (.long (9218868437227405312 : Int64)), .second, .val (.long (4503599627370496 : Int64)), .second, .val (.long q2), .second, .unset, .unset]) rfl ?_
    show Steps p.tables e below (T5.setTop (mkF m 77 #[.val (.int p1), .val (.long q2), .second, .val (.int p3), .val (.int (1 : Int32)), .val (.ref w_BINARY64), .val (.long (9218868437227405312 : Int64)), .second, .val (.long (4503599627370496 : Int64)), .second, .val (.long q2), .second, .unset, .unset] [])) _
    refine XS.iloadN X5.here hx rfl (hb hby at_77) rfl ?_
    show Steps p.tables e below (T5.setTop (mkF m 78 #[.val (.int p1), .val (.long q2), .second, .val (.int p3), .val (.int (1 : Int32)), .val (.ref w_BINARY64), .val (.long (9218868437227405312 : Int64)), .second, .val (.long (4503599627370496 : Int64)), .second, .val (.long q2), .second, .unset, .unset] [(.int p3)])) _
    refine XS.iconst X5.here hx rfl (hb hby at_78) ?_
    show Steps p.tables e below (T5.setTop (mkF m 79 #[.val (.int p1), .val (.long q2), .second, .val (.int p3), .val (.int (1 : Int32)), .val (.ref w_BINARY64), .val (.long (9218868437227405312 : Int64)), .second, .val (.long (4503599627370496 : Int64)), .second, .val (.long q2), .second, .unset, .unset] [(.int (3 : Int32)), (.int p3)])) _
    refine XS.iand X5.here hx rfl (hb hby at_79) rfl ?_
    show Steps p.tables e below (T5.setTop (mkF m 80 #[.val (.int p1), .val (.long q2), .second, .val (.int p3), .val (.int (1 : Int32)), .val (.ref w_BINARY64), .val (.long (9218868437227405312 : Int64)), .second, .val (.long (4503599627370496 : Int64)), .second, .val (.long q2), .second, .unset, .unset] [(.int (p3 &&& (3 : Int32)))])) _
    refine XS.istore X5.here hx rfl (hb hby at_80) rfl (l' := #[.val (.int p1), .val (.long q2), .second, .val (.int p3), .val (.int (1 : Int32)), .val (.ref w_BINARY64), .val (.long (9218868437227405312 : Int64)), .second, .val (.long (4503599627370496 : Int64)), .second, .val (.long q2), .second, .val (.int (p3 &&& (3 : Int32))), .unset]) rfl ?_
    show Steps p.tables e below (T5.setTop (mkF m 82 #[.val (.int p1), .val (.long q2), .second, .val (.int p3), .val (.int (1 : Int32)), .val (.ref w_BINARY64), .val (.long (9218868437227405312 : Int64)), .second, .val (.long (4503599627370496 : Int64)), .second, .val (.long q2), .second, .val (.int (p3 &&& (3 : Int32))), .unset] [])) _
    refine XS.iload X5.here hx rfl (hb hby at_82) rfl ?_
    show Steps p.tables e below (T5.setTop (mkF m 84 #[.val (.int p1), .val (.long q2), .second, .val (.int p3), .val (.int (1 : Int32)), .val (.ref w_BINARY64), .val (.long (9218868437227405312 : Int64)), .second, .val (.long (4503599627370496 : Int64)), .second, .val (.long q2), .second, .val (.int (p3 &&& (3 : Int32))), .unset] [(.int (p3 &&& (3 : Int32)))])) _
    refine XS.iconst X5.here hx rfl (hb hby at_84) ?_
    show Steps p.tables e below (T5.setTop (mkF m 85 #[.val (.int p1), .val (.long q2), .second, .val (.int p3), .val (.int (1 : Int32)), .val (.ref w_BINARY64), .val (.long (9218868437227405312 : Int64)), .second, .val (.long (4503599627370496 : Int64)), .second, .val (.long q2), .second, .val (.int (p3 &&& (3 : Int32))), .unset] [(.int (1 : Int32)), (.int (p3 &&& (3 : Int32)))])) _
    refine XS.icmpYes X5.here hx rfl (pc0 := 85) (pc' := 98) rfl (hb hby at_85) rfl (feq hc85).2 (by decide) (by decide) ?_
    show Steps p.tables e below (T5.setTop (mkF m 98 #[.val (.int p1), .val (.long q2), .second, .val (.int p3), .val (.int (1 : Int32)), .val (.ref w_BINARY64), .val (.long (9218868437227405312 : Int64)), .second, .val (.long (4503599627370496 : Int64)), .second, .val (.long q2), .second, .val (.int (p3 &&& (3 : Int32))), .unset] [])) _
    refine XS.iload X5.here hx rfl (hb hby at_98) rfl ?_
    show Steps p.tables e below (T5.setTop (mkF m 100 #[.val (.int p1), .val (.long q2), .second, .val (.int p3), .val (.int (1 : Int32)), .val (.ref w_BINARY64), .val (.long (9218868437227405312 : Int64)), .second, .val (.long (4503599627370496 : Int64)), .second, .val (.long q2), .second, .val (.int (p3 &&& (3 : Int32))), .unset] [(.int (p3 &&& (3 : Int32)))])) _
    refine XS.iconst X5.here hx rfl (hb hby at_100) ?_
    show Steps p.tables e below (T5.setTop (mkF m 101 #[.val (.int p1), .val (.long q2), .second, .val (.int p3), .val (.int (1 : Int32)), .val (.ref w_BINARY64), .val (.long (9218868437227405312 : Int64)), .second, .val (.long (4503599627370496 : Int64)), .second, .val (.long q2), .second, .val (.int (p3 &&& (3 : Int32))), .unset] [(.int (2 : Int32)), (.int (p3 &&& (3 : Int32)))])) _
    refine XS.icmpYes X5.here hx rfl (pc0 := 101) (pc' := 121) rfl (hb hby at_101) rfl (feq hc101).2 (by decide) (by decide) ?_
    show Steps p.tables e below (T5.setTop (mkF m 121 #[.val (.int p1), .val (.long q2), .second, .val (.int p3), .val (.int (1 : Int32)), .val (.ref w_BINARY64), .val (.long (9218868437227405312 : Int64)), .second, .val (.long (4503599627370496 : Int64)), .second, .val (.long q2), .second, .val (.int (p3 &&& (3 : Int32))), .unset] [])) _
    refine XS.iload X5.here hx rfl (hb hby at_121) rfl ?_
    show Steps p.tables e below (T5.setTop (mkF m 123 #[.val (.int p1), .val (.long q2), .second, .val (.int p3), .val (.int (1 : Int32)), .val (.ref w_BINARY64), .val (.long (9218868437227405312 : Int64)), .second, .val (.long (4503599627370496 : Int64)), .second, .val (.long q2), .second, .val (.int (p3 &&& (3 : Int32))), .unset] [(.int (p3 &&& (3 : Int32)))])) _
    refine XS.iconst X5.here hx rfl (hb hby at_123) ?_
    show Steps p.tables e below (T5.setTop (mkF m 124 #[.val (.int p1), .val (.long q2), .second, .val (.int p3), .val (.int (1 : Int32)), .val (.ref w_BINARY64), .val (.long (9218868437227405312 : Int64)), .second, .val (.long (4503599627370496 : Int64)), .second, .val (.long q2), .second, .val (.int (p3 &&& (3 : Int32))), .unset] [(.int (3 : Int32)), (.int (p3 &&& (3 : Int32)))])) _
    refine XS.icmpYes X5.here hx rfl (pc0 := 124) (pc' := 138) rfl (hb hby at_124) rfl (feq hc124).2 (by decide) (by decide) ?_
    show Steps p.tables e below (T5.setTop (mkF m 138 #[.val (.int p1), .val (.long q2), .second, .val (.int p3), .val (.int (1 : Int32)), .val (.ref w_BINARY64), .val (.long (9218868437227405312 : Int64)), .second, .val (.long (4503599627370496 : Int64)), .second, .val (.long q2), .second, .val (.int (p3 &&& (3 : Int32))), .unset] [])) _
    refine XS.lload X5.here hx rfl (hb hby at_138) rfl ?_
    show Steps p.tables e below (T5.setTop (mkF m 140 #[.val (.int p1), .val (.long q2), .second, .val (.int p3), .val (.int (1 : Int32)), .val (.ref w_BINARY64), .val (.long (9218868437227405312 : Int64)), .second, .val (.long (4503599627370496 : Int64)), .second, .val (.long q2), .second, .val (.int (p3 &&& (3 : Int32))), .unset] [(.long q2)])) _
    refine XS.lload X5.here hx rfl (hb hby at_140) rfl ?_
    show Steps p.tables e below (T5.setTop (mkF m 142 #[.val (.int p1), .val (.long q2), .second, .val (.int p3), .val (.int (1 : Int32)), .val (.ref w_BINARY64), .val (.long (9218868437227405312 : Int64)), .second, .val (.long (4503599627370496 : Int64)), .second, .val (.long q2), .second, .val (.int (p3 &&& (3 : Int32))), .unset] [(.long (9218868437227405312 : Int64)), (.long q2)])) _
    refine XS.land X5.here hx rfl (hb hby at_142) rfl ?_
    show Steps p.tables e below (T5.setTop (mkF m 143 #[.val (.int p1), .val (.long q2), .second, .val (.int p3), .val (.int (1 : Int32)), .val (.ref w_BINARY64), .val (.long (9218868437227405312 : Int64)), .second, .val (.long (4503599627370496 : Int64)), .second, .val (.long q2), .second, .val (.int (p3 &&& (3 : Int32))), .unset] [(.long (q2 &&& (9218868437227405312 : Int64)))])) _
    refine XS.lload X5.here hx rfl (hb hby at_143) rfl ?_
    show Steps p.tables e below (T5.setTop (mkF m 145 #[.val (.int p1), .val (.long q2), .second, .val (.int p3), .val (.int (1 : Int32)), .val (.ref w_BINARY64), .val (.long (9218868437227405312 : Int64)), .second, .val (.long (4503599627370496 : Int64)), .second, .val (.long q2), .second, .val (.int (p3 &&& (3 : Int32))), .unset] [(.long (9218868437227405312 : Int64)), (.long (q2 &&& (9218868437227405312 : Int64)))])) _
    refine XS.lcmp X5.here hx rfl (hb hby at_145) rfl ?_
    show Steps p.tables e below (T5.setTop (mkF m 146 #[.val (.int p1), .val (.long q2), .second, .val (.int p3), .val (.int (1 : Int32)), .val (.ref w_BINARY64), .val (.long (9218868437227405312 : Int64)), .second, .val (.long (4503599627370496 : Int64)), .second, .val (.long q2), .second, .val (.int (p3 &&& (3 : Int32))), .unset] [(.int (lcmpW (q2 &&& (9218868437227405312 : Int64)) (9218868437227405312 : Int64)))])) _
    refine XS.ifNo X5.here hx rfl (hb hby at_146) rfl ((if0 _ _).trans (feq hc146).1) ?_
    show Steps p.tables e below (T5.setTop (mkF m 149 #[.val (.int p1), .val (.long q2), .second, .val (.int p3), .val (.int (1 : Int32)), .val (.ref w_BINARY64), .val (.long (9218868437227405312 : Int64)), .second, .val (.long (4503599627370496 : Int64)), .second, .val (.long q2), .second, .val (.int (p3 &&& (3 : Int32))), .unset] [])) _
    refine XS.iconst X5.here hx rfl (hb hby at_149) ?_
    show Steps p.tables e below (T5.setTop (mkF m 150 #[.val (.int p1), .val (.long q2), .second, .val (.int p3), .val (.int (1 : Int32)), .val (.ref w_BINARY64), .val (.long (9218868437227405312 : Int64)), .second, .val (.long (4503599627370496 : Int64)), .second, .val (.long q2), .second, .val (.int (p3 &&& (3 : Int32))), .unset] [(.int (1 : Int32))])) _
    refine XS.goto X5.here hx rfl (pc0 := 150) (pc' := 154) rfl (hb hby at_150) (by decide) (by decide) ?_
    show Steps p.tables e below (T5.setTop (mkF m 154 #[.val (.int p1), .val (.long q2), .second, .val (.int p3), .val (.int (1 : Int32)), .val (.ref w_BINARY64), .val (.long (9218868437227405312 : Int64)), .second, .val (.long (4503599627370496 : Int64)), .second, .val (.long q2), .second, .val (.int (p3 &&& (3 : Int32))), .unset] [(.int (1 : Int32))])) _
    refine XS.istore X5.here hx rfl (hb hby at_154) rfl (l' := #[.val (.int p1), .val (.long q2), .second, .val (.int p3), .val (.int (1 : Int32)), .val (.ref w_BINARY64), .val (.long (9218868437227405312 : Int64)), .second, .val (.long (4503599627370496 : Int64)), .second, .val (.long q2), .second, .val (.int (p3 &&& (3 : Int32))), .val (.int (1 : Int32))]) rfl ?_
    show Steps p.tables e below (T5.setTop (mkF m 156 #[.val (.int p1), .val (.long q2), .second, .val (.int p3), .val (.int (1 : Int32)), .val (.ref w_BINARY64), .val (.long (9218868437227405312 : Int64)), .second, .val (.long (4503599627370496 : Int64)), .second, .val (.long q2), .second, .val (.int (p3 &&& (3 : Int32))), .val (.int (1 : Int32))] [])) _
    refine XS.aload X5.here hx rfl (hb hby at_156) rfl rfl ?_
    show Steps p.tables e below (T5.setTop (mkF m 158 #[.val (.int p1), .val (.long q2), .second, .val (.int p3), .val (.int (1 : Int32)), .val (.ref w_BINARY64), .val (.long (9218868437227405312 : Int64)), .second, .val (.long (4503599627370496 : Int64)), .second, .val (.long q2), .second, .val (.int (p3 &&& (3 : Int32))), .val (.int (1 : Int32))] [(.ref w_BINARY64)])) _
    refine XS.lload X5.here hx rfl (hb hby at_158) rfl ?_
    show Steps p.tables e below (T5.setTop (mkF m 160 #[.val (.int p1), .val (.long q2), .second, .val (.int p3), .val (.int (1 : Int32)), .val (.ref w_BINARY64), .val (.long (9218868437227405312 : Int64)), .second, .val (.long (4503599627370496 : Int64)), .second, .val (.long q2), .second, .val (.int (p3 &&& (3 : Int32))), .val (.int (1 : Int32))] [(.long q2), (.ref w_BINARY64)])) _
    refine st6.trans ?_
    show Steps p.tables e below (T6.setTop (mkF m 163 #[.val (.int p1), .val (.long q2), .second, .val (.int p3), .val (.int (1 : Int32)), .val (.ref w_BINARY64), .val (.long (9218868437227405312 : Int64)), .second, .val (.long (4503599627370496 : Int64)), .second, .val (.long q2), .second, .val (.int (p3 &&& (3 : Int32))), .val (.int (1 : Int32))] [(.int u)])) _
    refine XS.iload X6.here hx rfl (hb hby at_163) rfl ?_
    show Steps p.tables e below (T6.setTop (mkF m 165 #[.val (.int p1), .val (.long q2), .second, .val (.int p3), .val (.int (1 : Int32)), .val (.ref w_BINARY64), .val (.long (9218868437227405312 : Int64)), .second, .val (.long (4503599627370496 : Int64)), .second, .val (.long q2), .second, .val (.int (p3 &&& (3 : Int32))), .val (.int (1 : Int32))] [(.int (1 : Int32)), (.int u)])) _
    refine XS.icmpNo X6.here hx rfl (hb hby at_165) rfl (teq (hv165 : u = (1 : Int32))).2 ?_
    show Steps p.tables e below (T6.setTop (mkF m 168 #[.val (.int p1), .val (.long q2), .second, .val (.int p3), .val (.int (1 : Int32)), .val (.ref w_BINARY64), .val (.long (9218868437227405312 : Int64)), .second, .val (.long (4503599627370496 : Int64)), .second, .val (.long q2), .second, .val (.int (p3 &&& (3 : Int32))), .val (.int (1 : Int32))] [])) _
    refine XS.iconst X6.here hx rfl (hb hby at_168) ?_
    show Steps p.tables e below (T6.setTop (mkF m 169 #[.val (.int p1), .val (.long q2), .second, .val (.int p3), .val (.int (1 : Int32)), .val (.ref w_BINARY64), .val (.long (9218868437227405312 : Int64)), .second, .val (.long (4503599627370496 : Int64)), .second, .val (.long q2), .second, .val (.int (p3 &&& (3 : Int32))), .val (.int (1 : Int32))] [(.int (1 : Int32))])) _
    refine XS.goto X6.here hx rfl (pc0 := 169) (pc' := 173) rfl (hb hby at_169) (by decide) (by decide) ?_
    show Steps p.tables e below (T6.setTop (mkF m 173 #[.val (.int p1), .val (.long q2), .second, .val (.int p3), .val (.int (1 : Int32)), .val (.ref w_BINARY64), .val (.long (9218868437227405312 : Int64)), .second, .val (.long (4503599627370496 : Int64)), .second, .val (.long q2), .second, .val (.int (p3 &&& (3 : Int32))), .val (.int (1 : Int32))] [(.int (1 : Int32))])) _
    exact retN X6 hx (t := .boolean) Bd.returns (by simp) (hb hby at_173) hr
  · show Q0 Z h0 n0 _ T6.heap _
    exact ⟨rfl, N6⟩
set_option maxRecDepth 65536 in
set_option maxHeartbeats 40000000 in
theorem rm0_tttttftf (l : Launch) (Z : State) (a0 : Array Value) (hw : ∀ d ∈ tables_1, d.before a0 Z = true) (ws : List Jvm.Cond) (p1 : Int32) (q2 : Int64) (p3 : Int32) (w_BINARY32 : Addr) (u : Int32) (h0 : Heap) (n0 : Nat) (Z0 : n0 ≤ h0.size) (S_BINARY32 : Sta Z h0 "com/example/fourfold/fourfold/json/FloatFormat" "BINARY32" "Lcom/example/fourfold/fourfold/json/FloatFormat;" (.ref w_BINARY32)) (E_BINARY32 : Exa Z h0 w_BINARY32 "com/example/fourfold/fourfold/json/FloatFormat") (F_fractionBits_BINARY32 : Fld Z h0 w_BINARY32 "com/example/fourfold/fourfold/json/FloatFormat" "fractionBits" "I" (.int (23 : Int32))) (F_specialExponent_BINARY32 : Fld Z h0 w_BINARY32 "com/example/fourfold/fourfold/json/FloatFormat" "specialExponent" "I" (.int (255 : Int32))) (hu : finF ((q2 &&& (4294967295 : Int64)) ||| (2139095040 : Int64)) (23 : Int32) (255 : Int32) = u) (hc3 : (p1 &&& (1 : Int32)) = (0 : Int32)) (hc85 : (p3 &&& (3 : Int32)) = (1 : Int32)) (hc146 : (lcmpW (((q2 &&& (4294967295 : Int64)) ||| (2139095040 : Int64)) &&& (2139095040 : Int64)) (2139095040 : Int64)) = (0 : Int32)) (hv165 : u = (0 : Int32)) :
    MetFree l x (head1 (Jvm.Cond.code x code maxLocals ret :: ws) room_1) (fun a U => a = #[(.int p1), (.long q2), (.int p3)] ∧ Z.Warmed39 U.vm ∧ U.heap = h0) (fun _ _ _ _ _ => True) (fun _ U o U' => ∃ v L, o = .returned v ∧ Q0 Z h0 n0 v U'.heap L ∧ FrameEnd U o U' L room_1.cells room_1.slots) := by
  refine MetFree.of_bodySF (plainFor_of_name pn_0) hisR ?_
  intro p e s m args below meth c s₁ Bd hml0 hP hK
  obtain ⟨rfl, hZ, hh⟩ := hP
  have hx := Bd.exec
  have hby := Bd.bytes
  have hml : c.maxLocals = 14 := hml0
  have hown : s.vm.findClass "com/example/fourfold/fourfold/json/FloatFormatIsFinitePinLaw" = some m.cls := findClass_of_methodNamed Bd.named
  have hnm := (name_of_methodNamed Bd.named Bd.method).1
  have X0 : Stand p l e room_1 s m #[(.int p1), (.long q2), (.int p3)] below meth c s₁ [] 0 0 := Stand.of_body Bd
  have e0 : s₁.heap = h0 := by rw [← hh, Bd.state]; rfl
  have N0 := Fr.nil n0
  have pre0 : ∀ t, Steps p.tables e below (s₁.setTop (mkF m 0 #[.val (.int p1), .val (.long q2), .second, .val (.int p3), .unset, .unset, .unset, .unset, .unset, .unset, .unset, .unset, .unset, .unset] [])) t → Steps p.tables e below (s₁.setTop (entryFrame m #[(.int p1), (.long q2), (.int p3)] maxLocals)) t := fun t k => castTop (ef_0 m p1 q2 p3) k
  -- 3. LAWS
  obtain ⟨T5, X5, e5, st5⟩ := getS2 X0 hx hZ hown (host := "") (Or.inl (hw _ (List.mem_of_getElem? (i := 0) rfl))) Via.refl e0 S_BINARY32 (g := (mkF m 24 #[.val (.int p1), .val (.long q2), .second, .val (.int p3), .val (.int (0 : Int32)), .unset, .unset, .unset, .unset, .unset, .unset, .unset, .unset, .unset] [])) rfl (hb hby at_24)
  -- pc 160: com/example/fourfold/fourfold/json/FloatFormat.isFinite by the contract of the body that the receiver's class selects, rm1
  obtain ⟨cq6, kq6, q6a, q6b, q6c⟩ := isOf hZ e5 E_BINARY32
  obtain ⟨_, _, ⟨T6, L6, k6, n6⟩, -, X6, ⟨Lc6, hQ6, l6, y6, z6⟩, st6⟩ := X5.virtualBack hx (y := (⟨"com/example/fourfold/fourfold/json/FloatFormat", "isFinite", "(J)Z"⟩ : MethodName)) (z := (⟨"com/example/fourfold/fourfold/json/FloatFormat", "isFinite", "(J)Z"⟩ : MethodName)) hown (mvT hZ (hw _ (List.mem_of_getElem? (i := 6) rfl))) (mvT hZ (hw _ (List.mem_of_getElem? (i := 7) rfl))) (notFace_of_selects (args := #[]) (mvT hZ (hw _ (List.mem_of_getElem? (i := 9) rfl)))) (mvT hZ (hw _ (List.mem_of_getElem? (i := 9) rfl))) (mvT hZ (hw _ (List.mem_of_getElem? (i := 8) rfl))) (by decide) (backOf (W := 0) (rm1 l Z a0 hw [] w_BINARY32 ((q2 &&& (4294967295 : Int64)) ||| (2139095040 : Int64)) (255 : Int32) (23 : Int32) h0 n0 Z0 E_BINARY32 F_specialExponent_BINARY32 F_fractionBits_BINARY32) hZ (hw _ (List.mem_of_getElem? (i := 10) rfl)) (hw _ (List.mem_of_getElem? (i := 1) rfl)) (by decide) (by decide)) q6a q6c (g := (mkF m 160 #[.val (.int p1), .val (.long q2), .second, .val (.int p3), .val (.int (0 : Int32)), .val (.ref w_BINARY32), .val (.long (2139095040 : Int64)), .second, .val (.long (8388608 : Int64)), .second, .val (.long ((q2 &&& (4294967295 : Int64)) ||| (2139095040 : Int64))), .second, .val (.int (p3 &&& (3 : Int32))), .val (.int (0 : Int32))] [(.long ((q2 &&& (4294967295 : Int64)) ||| (2139095040 : Int64))), (.ref w_BINARY32)])) rfl (by rw [hml]; rfl) (Steps.refl _) (argsL := [(.long ((q2 &&& (4294967295 : Int64)) ||| (2139095040 : Int64)))]) (rest := []) (lenOf pd_0_0 rfl) rfl (by show 2 * 0 + _ ≤ _; exact Nat.le_of_eq rfl) (hb hby at_160) (fun _ _ => ⟨rfl, e5, (by decide : 0 + 0 ≤ _), (by decide : 0 + 0 ≤ _)⟩)
  dsimp only [Pt.U, Pt.locs, Pt.cells, Pt.slots] at X6 l6 y6 z6 st6 hQ6
  subst l6 y6 z6
  obtain ⟨rv6, N6q, q6⟩ := hQ6
  rw [hu] at rv6
  subst rv6
  have N6 := Fr.app N0 N6q
  obtain ⟨fs, hr, hrun, hended, hW, hsame⟩ := X6.leave (v := some (.int (1 : Int32))) (fun h => by rw [Bd.returns] at h; cases h)
  refine ⟨_, _, pre0 _ ?_, hrun, hended, _, _, rfl, ?_, ⟨_, rfl⟩, hW, hsame.mono (by decide) (by decide)⟩
  -- 4. STEPS
  · show Steps p.tables e below (s₁.setTop (mkF m 0 #[.val (.int p1), .val (.long q2), .second, .val (.int p3), .unset, .unset, .unset, .unset, .unset, .unset, .unset, .unset, .unset, .unset] [])) _
    refine XS.iloadN X0.here hx rfl (hb hby at_0) rfl ?_
    show Steps p.tables e below (s₁.setTop (mkF m 1 #[.val (.int p1), .val (.long q2), .second, .val (.int p3), .unset, .unset, .unset, .unset, .unset, .unset, .unset, .unset, .unset, .unset] [(.int p1)])) _
    refine XS.iconst X0.here hx rfl (hb hby at_1) ?_
    show Steps p.tables e below (s₁.setTop (mkF m 2 #[.val (.int p1), .val (.long q2), .second, .val (.int p3), .unset, .unset, .unset, .unset, .unset, .unset, .unset, .unset, .unset, .unset] [(.int (1 : Int32)), (.int p1)])) _
    refine XS.iand X0.here hx rfl (hb hby at_2) rfl ?_
    show Steps p.tables e below (s₁.setTop (mkF m 3 #[.val (.int p1), .val (.long q2), .second, .val (.int p3), .unset, .unset, .unset, .unset, .unset, .unset, .unset, .unset, .unset, .unset] [(.int (p1 &&& (1 : Int32)))])) _
    refine XS.ifYes X0.here hx rfl (pc0 := 3) (pc' := 10) rfl (hb hby at_3) rfl ((if0 _ _).trans (teq hc3).1) (by decide) (by decide) ?_
    show Steps p.tables e below (s₁.setTop (mkF m 10 #[.val (.int p1), .val (.long q2), .second, .val (.int p3), .unset, .unset, .unset, .unset, .unset, .unset, .unset, .unset, .unset, .unset] [])) _
    refine XS.iconst X0.here hx rfl (hb hby at_10) ?_
    show Steps p.tables e below (s₁.setTop (mkF m 11 #[.val (.int p1), .val (.long q2), .second, .val (.int p3), .unset, .unset, .unset, .unset, .unset, .unset, .unset, .unset, .unset, .unset] [(.int (0 : Int32))])) _
    refine XS.istore X0.here hx rfl (hb hby at_11) rfl (l' := #[.val (.int p1), .val (.long q2), .second, .val (.int p3), .val (.int (0 : Int32)), .unset, .unset, .unset, .unset, .unset, .unset, .unset, .unset, .unset]) rfl ?_
    show Steps p.tables e below (s₁.setTop (mkF m 13 #[.val (.int p1), .val (.long q2), .second, .val (.int p3), .val (.int (0 : Int32)), .unset, .unset, .unset, .unset, .unset, .unset, .unset, .unset, .unset] [])) _
    refine XS.iload X0.here hx rfl (hb hby at_13) rfl ?_
    show Steps p.tables e below (s₁.setTop (mkF m 15 #[.val (.int p1), .val (.long q2), .second, .val (.int p3), .val (.int (0 : Int32)), .unset, .unset, .unset, .unset, .unset, .unset, .unset, .unset, .unset] [(.int (0 : Int32))])) _
    refine XS.ifYes X0.here hx rfl (pc0 := 15) (pc' := 24) rfl (hb hby at_15) rfl ((if0 _ _).trans (teq (rfl : (0 : Int32) = (0 : Int32))).1) (by decide) (by decide) ?_
    show Steps p.tables e below (s₁.setTop (mkF m 24 #[.val (.int p1), .val (.long q2), .second, .val (.int p3), .val (.int (0 : Int32)), .unset, .unset, .unset, .unset, .unset, .unset, .unset, .unset, .unset] [])) _
    refine st5 _ ?_
    show Steps p.tables e below (T5.setTop (mkF m 27 #[.val (.int p1), .val (.long q2), .second, .val (.int p3), .val (.int (0 : Int32)), .unset, .unset, .unset, .unset, .unset, .unset, .unset, .unset, .unset] [(.ref w_BINARY32)])) _
    refine XS.astore X5.here hx rfl (hb hby at_27) rfl rfl (l' := #[.val (.int p1), .val (.long q2), .second, .val (.int p3), .val (.int (0 : Int32)), .val (.ref w_BINARY32), .unset, .unset, .unset, .unset, .unset, .unset, .unset, .unset]) rfl ?_
    show Steps p.tables e below (T5.setTop (mkF m 29 #[.val (.int p1), .val (.long q2), .second, .val (.int p3), .val (.int (0 : Int32)), .val (.ref w_BINARY32), .unset, .unset, .unset, .unset, .unset, .unset, .unset, .unset] [])) _
    refine XS.iload X5.here hx rfl (hb hby at_29) rfl ?_
    show Steps p.tables e below (T5.setTop (mkF m 31 #[.val (.int p1), .val (.long q2), .second, .val (.int p3), .val (.int (0 : Int32)), .val (.ref w_BINARY32), .unset, .unset, .unset, .unset, .unset, .unset, .unset, .unset] [(.int (0 : Int32))])) _
    refine XS.ifYes X5.here hx rfl (pc0 := 31) (pc' := 40) rfl (hb hby at_31) rfl ((if0 _ _).trans (teq (rfl : (0 : Int32) = (0 : Int32))).1) (by decide) (by decide) ?_
    show Steps p.tables e below (T5.setTop (mkF m 40 #[.val (.int p1), .val (.long q2), .second, .val (.int p3), .val (.int (0 : Int32)), .val (.ref w_BINARY32), .unset, .unset, .unset, .unset, .unset, .unset, .unset, .unset] [])) _
    refine X5.ldc2Long hx hown (mvT hZ (hw _ (List.mem_of_getElem? (i := 3) rfl))) (g := (mkF m 40 #[.val (.int p1), .val (.long q2), .second, .val (.int p3), .val (.int (0 : Int32)), .val (.ref w_BINARY32), .unset, .unset, .unset, .unset, .unset, .unset, .unset, .unset] [])) rfl (hb hby at_40) _ ?_
    show Steps p.tables e below (T5.setTop (mkF m 43 #[.val (.int p1), .val (.long q2), .second, .val (.int p3), .val (.int (0 : Int32)), .val (.ref w_BINARY32), .unset, .unset, .unset, .unset, .unset, .unset, .unset, .unset] [(.long (2139095040 : Int64))])) _
    refine XS.lstore X5.here hx rfl (hb hby at_43) rfl (l' := #[.val (.int p1), .val (.long q2), .second, .val (.int p3), .val (.int (0 : Int32)), .val (.ref w_BINARY32), .val (.long (2139095040 : Int64)), .second, .unset, .unset, .unset, .unset, .unset, .unset]) rfl ?_
    show Steps p.tables e below (T5.setTop (mkF m 45 #[.val (.int p1), .val (.long q2), .second, .val (.int p3), .val (.int (0 : Int32)), .val (.ref w_BINARY32), .val (.long (2139095040 : Int64)), .second, .unset, .unset, .unset, .unset, .unset, .unset] [])) _
    refine XS.iload X5.here hx rfl (hb hby at_45) rfl ?_
    show Steps p.tables e below (T5.setTop (mkF m 47 #[.val (.int p1), .val (.long q2), .second, .val (.int p3), .val (.int (0 : Int32)), .val (.ref w_BINARY32), .val (.long (2139095040 : Int64)), .second, .unset, .unset, .unset, .unset, .unset, .unset] [(.int (0 : Int32))])) _
    refine XS.ifYes X5.here hx rfl (pc0 := 47) (pc' := 56) rfl (hb hby at_47) rfl ((if0 _ _).trans (teq (rfl : (0 : Int32) = (0 : Int32))).1) (by decide) (by decide) ?_
    show Steps p.tables e below (T5.setTop (mkF m 56 #[.val (.int p1), .val (.long q2), .second, .val (.int p3), .val (.int (0 : Int32)), .val (.ref w_BINARY32), .val (.long (2139095040 : Int64)), .second, .unset, .unset, .unset, .unset, .unset, .unset] [])) _
    refine X5.ldc2Long hx hown (mvT hZ (hw _ (List.mem_of_getElem? (i := 4) rfl))) (g := (mkF m 56 #[.val (.int p1), .val (.long q2), .second, .val (.int p3), .val (.int (0 : Int32)), .val (.ref w_BINARY32), .val (.long (2139095040 : Int64)), .second, .unset, .unset, .unset, .unset, .unset, .unset] [])) rfl (hb hby at_56) _ ?_
    show Steps p.tables e below (T5.setTop (mkF m 59 #[.val (.int p1), .val (.long q2), .second, .val (.int p3), .val (.int (0 : Int32)), .val (.ref w_BINARY32), .val (.long (2139095040 : Int64)), .second, .unset, .unset, .unset, .unset, .unset, .unset] [(.long (8388608 : Int64))])) _
    refine XS.lstore X5.here hx rfl (hb hby at_59) rfl (l' := #[.val (.int p1), .val (.long q2), .second, .val (.int p3), .val (.int (0 : Int32)), .val (.ref w_BINARY32), .val (.long (2139095040 : Int64)), .second, .val (.long (8388608 : Int64)), .second, .unset, .unset, .unset, .unset]) rfl ?_
    show Steps p.tables e below (T5.setTop (mkF m 61 #[.val (.int p1), .val (.long q2), .second, .val (.int p3), .val (.int (0 : Int32)), .val (.ref w_BINARY32), .val (.long (2139095040 : Int64)), .second, .val (.long (8388608 : Int64)), .second, .unset, .unset, .unset, .unset] [])) _
    refine XS.iload X5.here hx rfl (hb hby at_61) rfl ?_
    show Steps p.tables e below (T5.setTop (mkF m 63 #[.val (.int p1), .val (.long q2), .second, .val (.int p3), .val (.int (0 : Int32)), .val (.ref w_BINARY32), .val (.long (2139095040 : Int64)), .second, .val (.long (8388608 : Int64)), .second, .unset, .unset, .unset, .unset] [(.int (0 : Int32))])) _
    refine XS.ifYes X5.here hx rfl (pc0 := 63) (pc' := 70) rfl (hb hby at_63) rfl ((if0 _ _).trans (teq (rfl : (0 : Int32) = (0 : Int32))).1) (by decide) (by decide) ?_
    show Steps p.tables e below (T5.setTop (mkF m 70 #[.val (.int p1), .val (.long q2), .second, .val (.int p3), .val (.int (0 : Int32)), .val (.ref w_BINARY32), .val (.long (2139095040 : Int64)), .second, .val (.long (8388608 : Int64)), .second, .unset, .unset, .unset, .unset] [])) _
    refine XS.lloadN X5.here hx rfl (hb hby at_70) rfl ?_
    show Steps p.tables e below (T5.setTop (mkF m 71 #[.val (.int p1), .val (.long q2), .second, .val (.int p3), .val (.int (0 : Int32)), .val (.ref w_BINARY32), .val (.long (2139095040 : Int64)), .second, .val (.long (8388608 : Int64)), .second, .unset, .unset, .unset, .unset] [(.long q2)])) _
    refine X5.ldc2Long hx hown (mvT hZ (hw _ (List.mem_of_getElem? (i := 5) rfl))) (g := (mkF m 71 #[.val (.int p1), .val (.long q2), .second, .val (.int p3), .val (.int (0 : Int32)), .val (.ref w_BINARY32), .val (.long (2139095040 : Int64)), .second, .val (.long (8388608 : Int64)), .second, .unset, .unset, .unset, .unset] [(.long q2)])) rfl (hb hby at_71) _ ?_
    show Steps p.tables e below (T5.setTop (mkF m 74 #[.val (.int p1), .val (.long q2), .second, .val (.int p3), .val (.int (0 : Int32)), .val (.ref w_BINARY32), .val (.long (2139095040 : Int64)), .second, .val (.long (8388608 : Int64)), .second, .unset, .unset, .unset, .unset] [(.long (4294967295 : Int64)), (.long q2)])) _
    refine XS.land X5.here hx rfl (hb hby at_74) rfl ?_
    show Steps p.tables e below (T5.setTop (mkF m 75 #[.val (.int p1), .val (.long q2), .second, .val (.int p3), .val (.int (0 : Int32)), .val (.ref w_BINARY32), .val (.long (2139095040 : Int64)), .second, .val (.long (8388608 : Int64)), .second, .unset, .unset, .unset, .unset] [(.long (q2 &&& (4294967295 : Int64)))])) _
    refine XS.lstore X5.here hx rfl (hb hby at_75) rfl (l' := #[.val (.int p1), .val (.long q2), .second, .val (.int p3), .val (.int (0 : Int32)), .val (.ref w_BINARY32), .val (.long (2139095040 : Int64)), .second, .val (.long (8388608 : Int64)), .second, .val (.long (q2 &&& (4294967295 : Int64))), .second, .unset, .unset]) rfl ?_
    show Steps p.tables e below (T5.setTop (mkF m 77 #[.val (.int p1), .val (.long q2), .second, .val (.int p3), .val (.int (0 : Int32)), .val (.ref w_BINARY32), .val (.long (2139095040 : Int64)), .second, .val (.long (8388608 : Int64)), .second, .val (.long (q2 &&& (4294967295 : Int64))), .second, .unset, .unset] [])) _
    refine XS.iloadN X5.here hx rfl (hb hby at_77) rfl ?_
    show Steps p.tables e below (T5.setTop (mkF m 78 #[.val (.int p1), .val (.long q2), .second, .val (.int p3), .val (.int (0 : Int32)), .val (.ref w_BINARY32), .val (.long (2139095040 : Int64)), .second, .val (.long (8388608 : Int64)), .second, .val (.long (q2 &&& (4294967295 : Int64))), .second, .unset, .unset] [(.int p3)])) _
    refine XS.iconst X5.here hx rfl (hb hby at_78) ?_
    show Steps p.tables e below (T5.setTop (mkF m 79 #[.val (.int p1), .val (.long q2), .second, .val (.int p3), .val (.int (0 : Int32)), .val (.ref w_BINARY32), .val (.long (2139095040 : Int64)), .second, .val (.long (8388608 : Int64)), .second, .val (.long (q2 &&& (4294967295 : Int64))), .second, .unset, .unset] [(.int (3 : Int32)), (.int p3)])) _
    refine XS.iand X5.here hx rfl (hb hby at_79) rfl ?_
    show Steps p.tables e below (T5.setTop (mkF m 80 #[.val (.int p1), .val (.long q2), .second, .val (.int p3), .val (.int (0 : Int32)), .val (.ref w_BINARY32), .val (.long (2139095040 : Int64)), .second, .val (.long (8388608 : Int64)), .second, .val (.long (q2 &&& (4294967295 : Int64))), .second, .unset, .unset] [(.int (p3 &&& (3 : Int32)))])) _
    refine XS.istore X5.here hx rfl (hb hby at_80) rfl (l' := #[.val (.int p1), .val (.long q2), .second, .val (.int p3), .val (.int (0 : Int32)), .val (.ref w_BINARY32), .val (.long (2139095040 : Int64)), .second, .val (.long (8388608 : Int64)), .second, .val (.long (q2 &&& (4294967295 : Int64))), .second, .val (.int (p3 &&& (3 : Int32))), .unset]) rfl ?_
    show Steps p.tables e below (T5.setTop (mkF m 82 #[.val (.int p1), .val (.long q2), .second, .val (.int p3), .val (.int (0 : Int32)), .val (.ref w_BINARY32), .val (.long (2139095040 : Int64)), .second, .val (.long (8388608 : Int64)), .second, .val (.long (q2 &&& (4294967295 : Int64))), .second, .val (.int (p3 &&& (3 : Int32))), .unset] [])) _
    refine XS.iload X5.here hx rfl (hb hby at_82) rfl ?_
    show Steps p.tables e below (T5.setTop (mkF m 84 #[.val (.int p1), .val (.long q2), .second, .val (.int p3), .val (.int (0 : Int32)), .val (.ref w_BINARY32), .val (.long (2139095040 : Int64)), .second, .val (.long (8388608 : Int64)), .second, .val (.long (q2 &&& (4294967295 : Int64))), .second, .val (.int (p3 &&& (3 : Int32))), .unset] [(.int (p3 &&& (3 : Int32)))])) _
    refine XS.iconst X5.here hx rfl (hb hby at_84) ?_
    show Steps p.tables e below (T5.setTop (mkF m 85 #[.val (.int p1), .val (.long q2), .second, .val (.int p3), .val (.int (0 : Int32)), .val (.ref w_BINARY32), .val (.long (2139095040 : Int64)), .second, .val (.long (8388608 : Int64)), .second, .val (.long (q2 &&& (4294967295 : Int64))), .second, .val (.int (p3 &&& (3 : Int32))), .unset] [(.int (1 : Int32)), (.int (p3 &&& (3 : Int32)))])) _
    refine XS.icmpNo X5.here hx rfl (hb hby at_85) rfl (teq hc85).2 ?_
    show Steps p.tables e below (T5.setTop (mkF m 88 #[.val (.int p1), .val (.long q2), .second, .val (.int p3), .val (.int (0 : Int32)), .val (.ref w_BINARY32), .val (.long (2139095040 : Int64)), .second, .val (.long (8388608 : Int64)), .second, .val (.long (q2 &&& (4294967295 : Int64))), .second, .val (.int (p3 &&& (3 : Int32))), .unset] [])) _
    refine XS.lload X5.here hx rfl (hb hby at_88) rfl ?_
    show Steps p.tables e below (T5.setTop (mkF m 90 #[.val (.int p1), .val (.long q2), .second, .val (.int p3), .val (.int (0 : Int32)), .val (.ref w_BINARY32), .val (.long (2139095040 : Int64)), .second, .val (.long (8388608 : Int64)), .second, .val (.long (q2 &&& (4294967295 : Int64))), .second, .val (.int (p3 &&& (3 : Int32))), .unset] [(.long (q2 &&& (4294967295 : Int64)))])) _
    refine XS.lload X5.here hx rfl (hb hby at_90) rfl ?_
    show Steps p.tables e below (T5.setTop (mkF m 92 #[.val (.int p1), .val (.long q2), .second, .val (.int p3), .val (.int (0 : Int32)), .val (.ref w_BINARY32), .val (.long (2139095040 : Int64)), .second, .val (.long (8388608 : Int64)), .second, .val (.long (q2 &&& (4294967295 : Int64))), .second, .val (.int (p3 &&& (3 : Int32))), .unset] [(.long (2139095040 : Int64)), (.long (q2 &&& (4294967295 : Int64)))])) _
    refine XS.lor X5.here hx rfl (hb hby at_92) rfl ?_
    show Steps p.tables e below (T5.setTop (mkF m 93 #[.val (.int p1), .val (.long q2), .second, .val (.int p3), .val (.int (0 : Int32)), .val (.ref w_BINARY32), .val (.long (2139095040 : Int64)), .second, .val (.long (8388608 : Int64)), .second, .val (.long (q2 &&& (4294967295 : Int64))), .second, .val (.int (p3 &&& (3 : Int32))), .unset] [(.long ((q2 &&& (4294967295 : Int64)) ||| (2139095040 : Int64)))])) _
    refine XS.lstore X5.here hx rfl (hb hby at_93) rfl (l' := #[.val (.int p1), .val (.long q2), .second, .val (.int p3), .val (.int (0 : Int32)), .val (.ref w_BINARY32), .val (.long (2139095040 : Int64)), .second, .val (.long (8388608 : Int64)), .second, .val (.long ((q2 &&& (4294967295 : Int64)) ||| (2139095040 : Int64))), .second, .val (.int (p3 &&& (3 : Int32))), .unset]) rfl ?_
    show Steps p.tables e below (T5.setTop (mkF m 95 #[.val (.int p1), .val (.long q2), .second, .val (.int p3), .val (.int (0 : Int32)), .val (.ref w_BINARY32), .val (.long (2139095040 : Int64)), .second, .val (.long (8388608 : Int64)), .second, .val (.long ((q2 &&& (4294967295 : Int64)) ||| (2139095040 : Int64))), .second, .val (.int (p3 &&& (3 : Int32))), .unset] [])) _
    refine XS.goto X5.here hx rfl (pc0 := 95) (pc' := 138) rfl (hb hby at_95) (by decide) (by decide) ?_
    show Steps p.tables e below (T5.setTop (mkF m 138 #[.val (.int p1), .val (.long q2), .second, .val (.int p3), .val (.int (0 : Int32)), .val (.ref w_BINARY32), .val (.long (2139095040 : Int64)), .second, .val (.long (8388608 : Int64)), .second, .val (.long ((q2 &&& (4294967295 : Int64)) ||| (2139095040 : Int64))), .second, .val (.int (p3 &&& (3 : Int32))), .unset] [])) _
    refine XS.lload X5.here hx rfl (hb hby at_138) rfl ?_
    show Steps p.tables e below (T5.setTop (mkF m 140 #[.val (.int p1), .val (.long q2), .second, .val (.int p3), .val (.int (0 : Int32)), .val (.ref w_BINARY32), .val (.long (2139095040 : Int64)), .second, .val (.long (8388608 : Int64)), .second, .val (.long ((q2 &&& (4294967295 : Int64)) ||| (2139095040 : Int64))), .second, .val (.int (p3 &&& (3 : Int32))), .unset] [(.long ((q2 &&& (4294967295 : Int64)) ||| (2139095040 : Int64)))])) _
    refine XS.lload X5.here hx rfl (hb hby at_140) rfl ?_
    show Steps p.tables e below (T5.setTop (mkF m 142 #[.val (.int p1), .val (.long q2), .second, .val (.int p3), .val (.int (0 : Int32)), .val (.ref w_BINARY32), .val (.long (2139095040 : Int64)), .second, .val (.long (8388608 : Int64)), .second, .val (.long ((q2 &&& (4294967295 : Int64)) ||| (2139095040 : Int64))), .second, .val (.int (p3 &&& (3 : Int32))), .unset] [(.long (2139095040 : Int64)), (.long ((q2 &&& (4294967295 : Int64)) ||| (2139095040 : Int64)))])) _
    refine XS.land X5.here hx rfl (hb hby at_142) rfl ?_
    show Steps p.tables e below (T5.setTop (mkF m 143 #[.val (.int p1), .val (.long q2), .second, .val (.int p3), .val (.int (0 : Int32)), .val (.ref w_BINARY32), .val (.long (2139095040 : Int64)), .second, .val (.long (8388608 : Int64)), .second, .val (.long ((q2 &&& (4294967295 : Int64)) ||| (2139095040 : Int64))), .second, .val (.int (p3 &&& (3 : Int32))), .unset] [(.long (((q2 &&& (4294967295 : Int64)) ||| (2139095040 : Int64)) &&& (2139095040 : Int64)))])) _
    refine XS.lload X5.here hx rfl (hb hby at_143) rfl ?_
    show Steps p.tables e below (T5.setTop (mkF m 145 #[.val (.int p1), .val (.long q2), .second, .val (.int p3), .val (.int (0 : Int32)), .val (.ref w_BINARY32), .val (.long (2139095040 : Int64)), .second, .val (.long (8388608 : Int64)), .second, .val (.long ((q2 &&& (4294967295 : Int64)) ||| (2139095040 : Int64))), .second, .val (.int (p3 &&& (3 : Int32))), .unset] [(.long (2139095040 : Int64)), (.long (((q2 &&& (4294967295 : Int64)) ||| (2139095040 : Int64)) &&& (2139095040 : Int64)))])) _
    refine XS.lcmp X5.here hx rfl (hb hby at_145) rfl ?_
    show Steps p.tables e below (T5.setTop (mkF m 146 #[.val (.int p1), .val (.long q2), .second, .val (.int p3), .val (.int (0 : Int32)), .val (.ref w_BINARY32), .val (.long (2139095040 : Int64)), .second, .val (.long (8388608 : Int64)), .second, .val (.long ((q2 &&& (4294967295 : Int64)) ||| (2139095040 : Int64))), .second, .val (.int (p3 &&& (3 : Int32))), .unset] [(.int (lcmpW (((q2 &&& (4294967295 : Int64)) ||| (2139095040 : Int64)) &&& (2139095040 : Int64)) (2139095040 : Int64)))])) _
    refine XS.ifYes X5.here hx rfl (pc0 := 146) (pc' := 153) rfl (hb hby at_146) rfl ((if0 _ _).trans (teq hc146).1) (by decide) (by decide) ?_
    show Steps p.tables e below (T5.setTop (mkF m 153 #[.val (.int p1), .val (.long q2), .second, .val (.int p3), .val (.int (0 : Int32)), .val (.ref w_BINARY32), .val (.long (2139095040 : Int64)), .second, .val (.long (8388608 : Int64)), .second, .val (.long ((q2 &&& (4294967295 : Int64)) ||| (2139095040 : Int64))), .second, .val (.int (p3 &&& (3 : Int32))), .unset] [])) _
    refine XS.iconst X5.here hx rfl (hb hby at_153) ?_
    show Steps p.tables e below (T5.setTop (mkF m 154 #[.val (.int p1), .val (.long q2), .second, .val (.int p3), .val (.int (0 : Int32)), .val (.ref w_BINARY32), .val (.long (2139095040 : Int64)), .second, .val (.long (8388608 : Int64)), .second, .val (.long ((q2 &&& (4294967295 : Int64)) ||| (2139095040 : Int64))), .second, .val (.int (p3 &&& (3 : Int32))), .unset] [(.int (0 : Int32))])) _
    refine XS.istore X5.here hx rfl (hb hby at_154) rfl (l' := #[.val (.int p1), .val (.long q2), .second, .val (.int p3), .val (.int (0 : Int32)), .val (.ref w_BINARY32), .val (.long (2139095040 : Int64)), .second, .val (.long (8388608 : Int64)), .second, .val (.long ((q2 &&& (4294967295 : Int64)) ||| (2139095040 : Int64))), .second, .val (.int (p3 &&& (3 : Int32))), .val (.int (0 : Int32))]) rfl ?_
    show Steps p.tables e below (T5.setTop (mkF m 156 #[.val (.int p1), .val (.long q2), .second, .val (.int p3), .val (.int (0 : Int32)), .val (.ref w_BINARY32), .val (.long (2139095040 : Int64)), .second, .val (.long (8388608 : Int64)), .second, .val (.long ((q2 &&& (4294967295 : Int64)) ||| (2139095040 : Int64))), .second, .val (.int (p3 &&& (3 : Int32))), .val (.int (0 : Int32))] [])) _
    refine XS.aload X5.here hx rfl (hb hby at_156) rfl rfl ?_
    show Steps p.tables e below (T5.setTop (mkF m 158 #[.val (.int p1), .val (.long q2), .second, .val (.int p3), .val (.int (0 : Int32)), .val (.ref w_BINARY32), .val (.long (2139095040 : Int64)), .second, .val (.long (8388608 : Int64)), .second, .val (.long ((q2 &&& (4294967295 : Int64)) ||| (2139095040 : Int64))), .second, .val (.int (p3 &&& (3 : Int32))), .val (.int (0 : Int32))] [(.ref w_BINARY32)])) _
    refine XS.lload X5.here hx rfl (hb hby at_158) rfl ?_
    show Steps p.tables e below (T5.setTop (mkF m 160 #[.val (.int p1), .val (.long q2), .second, .val (.int p3), .val (.int (0 : Int32)), .val (.ref w_BINARY32), .val (.long (2139095040 : Int64)), .second, .val (.long (8388608 : Int64)), .second, .val (.long ((q2 &&& (4294967295 : Int64)) ||| (2139095040 : Int64))), .second, .val (.int (p3 &&& (3 : Int32))), .val (.int (0 : Int32))] [(.long ((q2 &&& (4294967295 : Int64)) ||| (2139095040 : Int64))), (.ref w_BINARY32)])) _
    refine st6.trans ?_
    show Steps p.tables e below (T6.setTop (mkF m 163 #[.val (.int p1), .val (.long q2), .second, .val (.int p3), .val (.int (0 : Int32)), .val (.ref w_BINARY32), .val (.long (2139095040 : Int64)), .second, .val (.long (8388608 : Int64)), .second, .val (.long ((q2 &&& (4294967295 : Int64)) ||| (2139095040 : Int64))), .second, .val (.int (p3 &&& (3 : Int32))), .val (.int (0 : Int32))] [(.int u)])) _
    refine XS.iload X6.here hx rfl (hb hby at_163) rfl ?_
    show Steps p.tables e below (T6.setTop (mkF m 165 #[.val (.int p1), .val (.long q2), .second, .val (.int p3), .val (.int (0 : Int32)), .val (.ref w_BINARY32), .val (.long (2139095040 : Int64)), .second, .val (.long (8388608 : Int64)), .second, .val (.long ((q2 &&& (4294967295 : Int64)) ||| (2139095040 : Int64))), .second, .val (.int (p3 &&& (3 : Int32))), .val (.int (0 : Int32))] [(.int (0 : Int32)), (.int u)])) _
    refine XS.icmpNo X6.here hx rfl (hb hby at_165) rfl (teq (hv165 : u = (0 : Int32))).2 ?_
    show Steps p.tables e below (T6.setTop (mkF m 168 #[.val (.int p1), .val (.long q2), .second, .val (.int p3), .val (.int (0 : Int32)), .val (.ref w_BINARY32), .val (.long (2139095040 : Int64)), .second, .val (.long (8388608 : Int64)), .second, .val (.long ((q2 &&& (4294967295 : Int64)) ||| (2139095040 : Int64))), .second, .val (.int (p3 &&& (3 : Int32))), .val (.int (0 : Int32))] [])) _
    refine XS.iconst X6.here hx rfl (hb hby at_168) ?_
    show Steps p.tables e below (T6.setTop (mkF m 169 #[.val (.int p1), .val (.long q2), .second, .val (.int p3), .val (.int (0 : Int32)), .val (.ref w_BINARY32), .val (.long (2139095040 : Int64)), .second, .val (.long (8388608 : Int64)), .second, .val (.long ((q2 &&& (4294967295 : Int64)) ||| (2139095040 : Int64))), .second, .val (.int (p3 &&& (3 : Int32))), .val (.int (0 : Int32))] [(.int (1 : Int32))])) _
    refine XS.goto X6.here hx rfl (pc0 := 169) (pc' := 173) rfl (hb hby at_169) (by decide) (by decide) ?_
    show Steps p.tables e below (T6.setTop (mkF m 173 #[.val (.int p1), .val (.long q2), .second, .val (.int p3), .val (.int (0 : Int32)), .val (.ref w_BINARY32), .val (.long (2139095040 : Int64)), .second, .val (.long (8388608 : Int64)), .second, .val (.long ((q2 &&& (4294967295 : Int64)) ||| (2139095040 : Int64))), .second, .val (.int (p3 &&& (3 : Int32))), .val (.int (0 : Int32))] [(.int (1 : Int32))])) _
    exact retN X6 hx (t := .boolean) Bd.returns (by simp) (hb hby at_173) hr
  · show Q0 Z h0 n0 _ T6.heap _
    exact ⟨rfl, N6⟩
set_option maxRecDepth 65536 in
set_option maxHeartbeats 40000000 in
theorem rm0_tttttfff (l : Launch) (Z : State) (a0 : Array Value) (hw : ∀ d ∈ tables_1, d.before a0 Z = true) (ws : List Jvm.Cond) (p1 : Int32) (q2 : Int64) (p3 : Int32) (w_BINARY32 : Addr) (u : Int32) (h0 : Heap) (n0 : Nat) (Z0 : n0 ≤ h0.size) (S_BINARY32 : Sta Z h0 "com/example/fourfold/fourfold/json/FloatFormat" "BINARY32" "Lcom/example/fourfold/fourfold/json/FloatFormat;" (.ref w_BINARY32)) (E_BINARY32 : Exa Z h0 w_BINARY32 "com/example/fourfold/fourfold/json/FloatFormat") (F_fractionBits_BINARY32 : Fld Z h0 w_BINARY32 "com/example/fourfold/fourfold/json/FloatFormat" "fractionBits" "I" (.int (23 : Int32))) (F_specialExponent_BINARY32 : Fld Z h0 w_BINARY32 "com/example/fourfold/fourfold/json/FloatFormat" "specialExponent" "I" (.int (255 : Int32))) (hu : finF ((q2 &&& (4294967295 : Int64)) ||| (2139095040 : Int64)) (23 : Int32) (255 : Int32) = u) (hc3 : (p1 &&& (1 : Int32)) = (0 : Int32)) (hc85 : (p3 &&& (3 : Int32)) = (1 : Int32)) (hc146 : ¬ ((lcmpW (((q2 &&& (4294967295 : Int64)) ||| (2139095040 : Int64)) &&& (2139095040 : Int64)) (2139095040 : Int64)) = (0 : Int32))) (hv165 : u = (1 : Int32)) :
    MetFree l x (head1 (Jvm.Cond.code x code maxLocals ret :: ws) room_1) (fun a U => a = #[(.int p1), (.long q2), (.int p3)] ∧ Z.Warmed39 U.vm ∧ U.heap = h0) (fun _ _ _ _ _ => True) (fun _ U o U' => ∃ v L, o = .returned v ∧ Q0 Z h0 n0 v U'.heap L ∧ FrameEnd U o U' L room_1.cells room_1.slots) := by
  refine MetFree.of_bodySF (plainFor_of_name pn_0) hisR ?_
  intro p e s m args below meth c s₁ Bd hml0 hP hK
  obtain ⟨rfl, hZ, hh⟩ := hP
  have hx := Bd.exec
  have hby := Bd.bytes
  have hml : c.maxLocals = 14 := hml0
  have hown : s.vm.findClass "com/example/fourfold/fourfold/json/FloatFormatIsFinitePinLaw" = some m.cls := findClass_of_methodNamed Bd.named
  have hnm := (name_of_methodNamed Bd.named Bd.method).1
  have X0 : Stand p l e room_1 s m #[(.int p1), (.long q2), (.int p3)] below meth c s₁ [] 0 0 := Stand.of_body Bd
  have e0 : s₁.heap = h0 := by rw [← hh, Bd.state]; rfl
  have N0 := Fr.nil n0
  have pre0 : ∀ t, Steps p.tables e below (s₁.setTop (mkF m 0 #[.val (.int p1), .val (.long q2), .second, .val (.int p3), .unset, .unset, .unset, .unset, .unset, .unset, .unset, .unset, .unset, .unset] [])) t → Steps p.tables e below (s₁.setTop (entryFrame m #[(.int p1), (.long q2), (.int p3)] maxLocals)) t := fun t k => castTop (ef_0 m p1 q2 p3) k
  -- 3. LAWS
  obtain ⟨T5, X5, e5, st5⟩ := getS2 X0 hx hZ hown (host := "") (Or.inl (hw _ (List.mem_of_getElem? (i := 0) rfl))) Via.refl e0 S_BINARY32 (g := (mkF m 24 #[.val (.int p1), .val (.long q2), .second, .val (.int p3), .val (.int (0 : Int32)), .unset, .unset, .unset, .unset, .unset, .unset, .unset, .unset, .unset] [])) rfl (hb hby at_24)
  -- pc 160: com/example/fourfold/fourfold/json/FloatFormat.isFinite by the contract of the body that the receiver's class selects, rm1
  obtain ⟨cq6, kq6, q6a, q6b, q6c⟩ := isOf hZ e5 E_BINARY32
  obtain ⟨_, _, ⟨T6, L6, k6, n6⟩, -, X6, ⟨Lc6, hQ6, l6, y6, z6⟩, st6⟩ := X5.virtualBack hx (y := (⟨"com/example/fourfold/fourfold/json/FloatFormat", "isFinite", "(J)Z"⟩ : MethodName)) (z := (⟨"com/example/fourfold/fourfold/json/FloatFormat", "isFinite", "(J)Z"⟩ : MethodName)) hown (mvT hZ (hw _ (List.mem_of_getElem? (i := 6) rfl))) (mvT hZ (hw _ (List.mem_of_getElem? (i := 7) rfl))) (notFace_of_selects (args := #[]) (mvT hZ (hw _ (List.mem_of_getElem? (i := 9) rfl)))) (mvT hZ (hw _ (List.mem_of_getElem? (i := 9) rfl))) (mvT hZ (hw _ (List.mem_of_getElem? (i := 8) rfl))) (by decide) (backOf (W := 0) (rm1 l Z a0 hw [] w_BINARY32 ((q2 &&& (4294967295 : Int64)) ||| (2139095040 : Int64)) (255 : Int32) (23 : Int32) h0 n0 Z0 E_BINARY32 F_specialExponent_BINARY32 F_fractionBits_BINARY32) hZ (hw _ (List.mem_of_getElem? (i := 10) rfl)) (hw _ (List.mem_of_getElem? (i := 1) rfl)) (by decide) (by decide)) q6a q6c (g := (mkF m 160 #[.val (.int p1), .val (.long q2), .second, .val (.int p3), .val (.int (0 : Int32)), .val (.ref w_BINARY32), .val (.long (2139095040 : Int64)), .second, .val (.long (8388608 : Int64)), .second, .val (.long ((q2 &&& (4294967295 : Int64)) ||| (2139095040 : Int64))), .second, .val (.int (p3 &&& (3 : Int32))), .val (.int (1 : Int32))] [(.long ((q2 &&& (4294967295 : Int64)) ||| (2139095040 : Int64))), (.ref w_BINARY32)])) rfl (by rw [hml]; rfl) (Steps.refl _) (argsL := [(.long ((q2 &&& (4294967295 : Int64)) ||| (2139095040 : Int64)))]) (rest := []) (lenOf pd_0_0 rfl) rfl (by show 2 * 0 + _ ≤ _; exact Nat.le_of_eq rfl) (hb hby at_160) (fun _ _ => ⟨rfl, e5, (by decide : 0 + 0 ≤ _), (by decide : 0 + 0 ≤ _)⟩)
  dsimp only [Pt.U, Pt.locs, Pt.cells, Pt.slots] at X6 l6 y6 z6 st6 hQ6
  subst l6 y6 z6
  obtain ⟨rv6, N6q, q6⟩ := hQ6
  rw [hu] at rv6
  subst rv6
  have N6 := Fr.app N0 N6q
  obtain ⟨fs, hr, hrun, hended, hW, hsame⟩ := X6.leave (v := some (.int (1 : Int32))) (fun h => by rw [Bd.returns] at h; cases h)
  refine ⟨_, _, pre0 _ ?_, hrun, hended, _, _, rfl, ?_, ⟨_, rfl⟩, hW, hsame.mono (by decide) (by decide)⟩
  -- 4. STEPS
  · show Steps p.tables e below (s₁.setTop (mkF m 0 #[.val (.int p1), .val (.long q2), .second, .val (.int p3), .unset, .unset, .unset, .unset, .unset, .unset, .unset, .unset, .unset, .unset] [])) _
    refine XS.iloadN X0.here hx rfl (hb hby at_0) rfl ?_
    show Steps p.tables e below (s₁.setTop (mkF m 1 #[.val (.int p1), .val (.long q2), .second, .val (.int p3), .unset, .unset, .unset, .unset, .unset, .unset, .unset, .unset, .unset, .unset] [(.int p1)])) _
    refine XS.iconst X0.here hx rfl (hb hby at_1) ?_
    show Steps p.tables e below (s₁.setTop (mkF m 2 #[.val (.int p1), .val (.long q2), .second, .val (.int p3), .unset, .unset, .unset, .unset, .unset, .unset, .unset, .unset, .unset, .unset] [(.int (1 : Int32)), (.int p1)])) _
    refine XS.iand X0.here hx rfl (hb hby at_2) rfl ?_
    show Steps p.tables e below (s₁.setTop (mkF m 3 #[.val (.int p1), .val (.long q2), .second, .val (.int p3), .unset, .unset, .unset, .unset, .unset, .unset, .unset, .unset, .unset, .unset] [(.int (p1 &&& (1 : Int32)))])) _
    refine XS.ifYes X0.here hx rfl (pc0 := 3) (pc' := 10) rfl (hb hby at_3) rfl ((if0 _ _).trans (teq hc3).1) (by decide) (by decide) ?_
    show Steps p.tables e below (s₁.setTop (mkF m 10 #[.val (.int p1), .val (.long q2), .second, .val (.int p3), .unset, .unset, .unset, .unset, .unset, .unset, .unset, .unset, .unset, .unset] [])) _
    refine XS.iconst X0.here hx rfl (hb hby at_10) ?_
    show Steps p.tables e below (s₁.setTop (mkF m 11 #[.val (.int p1), .val (.long q2), .second, .val (.int p3), .unset, .unset, .unset, .unset, .unset, .unset, .unset, .unset, .unset, .unset] [(.int (0 : Int32))])) _
    refine XS.istore X0.here hx rfl (hb hby at_11) rfl (l' := #[.val (.int p1), .val (.long q2), .second, .val (.int p3), .val (.int (0 : Int32)), .unset, .unset, .unset, .unset, .unset, .unset, .unset, .unset, .unset]) rfl ?_
    show Steps p.tables e below (s₁.setTop (mkF m 13 #[.val (.int p1), .val (.long q2), .second, .val (.int p3), .val (.int (0 : Int32)), .unset, .unset, .unset, .unset, .unset, .unset, .unset, .unset, .unset] [])) _
    refine XS.iload X0.here hx rfl (hb hby at_13) rfl ?_
    show Steps p.tables e below (s₁.setTop (mkF m 15 #[.val (.int p1), .val (.long q2), .second, .val (.int p3), .val (.int (0 : Int32)), .unset, .unset, .unset, .unset, .unset, .unset, .unset, .unset, .unset] [(.int (0 : Int32))])) _
    refine XS.ifYes X0.here hx rfl (pc0 := 15) (pc' := 24) rfl (hb hby at_15) rfl ((if0 _ _).trans (teq (rfl : (0 : Int32) = (0 : Int32))).1) (by decide) (by decide) ?_
    show Steps p.tables e below (s₁.setTop (mkF m 24 #[.val (.int p1), .val (.long q2), .second, .val (.int p3), .val (.int (0 : Int32)), .unset, .unset, .unset, .unset, .unset, .unset, .unset, .unset, .unset] [])) _
    refine st5 _ ?_
    show Steps p.tables e below (T5.setTop (mkF m 27 #[.val (.int p1), .val (.long q2), .second, .val (.int p3), .val (.int (0 : Int32)), .unset, .unset, .unset, .unset, .unset, .unset, .unset, .unset, .unset] [(.ref w_BINARY32)])) _
    refine XS.astore X5.here hx rfl (hb hby at_27) rfl rfl (l' := #[.val (.int p1), .val (.long q2), .second, .val (.int p3), .val (.int (0 : Int32)), .val (.ref w_BINARY32), .unset, .unset, .unset, .unset, .unset, .unset, .unset, .unset]) rfl ?_
    show Steps p.tables e below (T5.setTop (mkF m 29 #[.val (.int p1), .val (.long q2), .second, .val (.int p3), .val (.int (0 : Int32)), .val (.ref w_BINARY32), .unset, .unset, .unset, .unset, .unset, .unset, .unset, .unset] [])) _
    refine XS.iload X5.here hx rfl (hb hby at_29) rfl ?_
    show Steps p.tables e below (T5.setTop (mkF m 31 #[.val (.int p1), .val (.long q2), .second, .val (.int p3), .val (.int (0 : Int32)), .val (.ref w_BINARY32), .unset, .unset, .unset, .unset, .unset, .unset, .unset, .unset] [(.int (0 : Int32))])) _
    refine XS.ifYes X5.here hx rfl (pc0 := 31) (pc' := 40) rfl (hb hby at_31) rfl ((if0 _ _).trans (teq (rfl : (0 : Int32) = (0 : Int32))).1) (by decide) (by decide) ?_
    show Steps p.tables e below (T5.setTop (mkF m 40 #[.val (.int p1), .val (.long q2), .second, .val (.int p3), .val (.int (0 : Int32)), .val (.ref w_BINARY32), .unset, .unset, .unset, .unset, .unset, .unset, .unset, .unset] [])) _
    refine X5.ldc2Long hx hown (mvT hZ (hw _ (List.mem_of_getElem? (i := 3) rfl))) (g := (mkF m 40 #[.val (.int p1), .val (.long q2), .second, .val (.int p3), .val (.int (0 : Int32)), .val (.ref w_BINARY32), .unset, .unset, .unset, .unset, .unset, .unset, .unset, .unset] [])) rfl (hb hby at_40) _ ?_
    show Steps p.tables e below (T5.setTop (mkF m 43 #[.val (.int p1), .val (.long q2), .second, .val (.int p3), .val (.int (0 : Int32)), .val (.ref w_BINARY32), .unset, .unset, .unset, .unset, .unset, .unset, .unset, .unset] [(.long (2139095040 : Int64))])) _
    refine XS.lstore X5.here hx rfl (hb hby at_43) rfl (l' := #[.val (.int p1), .val (.long q2), .second, .val (.int p3), .val (.int (0 : Int32)), .val (.ref w_BINARY32), .val (.long (2139095040 : Int64)), .second, .unset, .unset, .unset, .unset, .unset, .unset]) rfl ?_
    show Steps p.tables e below (T5.setTop (mkF m 45 #[.val (.int p1), .val (.long q2), .second, .val (.int p3), .val (.int (0 : Int32)), .val (.ref w_BINARY32), .val (.long (2139095040 : Int64)), .second, .unset, .unset, .unset, .unset, .unset, .unset] [])) _
    refine XS.iload X5.here hx rfl (hb hby at_45) rfl ?_
    show Steps p.tables e below (T5.setTop (mkF m 47 #[.val (.int p1), .val (.long q2), .second, .val (.int p3), .val (.int (0 : Int32)), .val (.ref w_BINARY32), .val (.long (2139095040 : Int64)), .second, .unset, .unset, .unset, .unset, .unset, .unset] [(.int (0 : Int32))])) _
    refine XS.ifYes X5.here hx rfl (pc0 := 47) (pc' := 56) rfl (hb hby at_47) rfl ((if0 _ _).trans (teq (rfl : (0 : Int32) = (0 : Int32))).1) (by decide) (by decide) ?_
    show Steps p.tables e below (T5.setTop (mkF m 56 #[.val (.int p1), .val (.long q2), .second, .val (.int p3), .val (.int (0 : Int32)), .val (.ref w_BINARY32), .val (.long (2139095040 : Int64)), .second, .unset, .unset, .unset, .unset, .unset, .unset] [])) _
    refine X5.ldc2Long hx hown (mvT hZ (hw _ (List.mem_of_getElem? (i := 4) rfl))) (g := (mkF m 56 #[.val (.int p1), .val (.long q2), .second, .val (.int p3), .val (.int (0 : Int32)), .val (.ref w_BINARY32), .val (.long (2139095040 : Int64)), .second, .unset, .unset, .unset, .unset, .unset, .unset] [])) rfl (hb hby at_56) _ ?_
    show Steps p.tables e below (T5.setTop (mkF m 59 #[.val (.int p1), .val (.long q2), .second, .val (.int p3), .val (.int (0 : Int32)), .val (.ref w_BINARY32), .val (.long (2139095040 : Int64)), .second, .unset, .unset, .unset, .unset, .unset, .unset] [(.long (8388608 : Int64))])) _
    refine XS.lstore X5.here hx rfl (hb hby at_59) rfl (l' := #[.val (.int p1), .val (.long q2), .second, .val (.int p3), .val (.int (0 : Int32)), .val (.ref w_BINARY32), .val (.long (2139095040 : Int64)), .second, .val (.long (8388608 : Int64)), .second, .unset, .unset, .unset, .unset]) rfl ?_
    show Steps p.tables e below (T5.setTop (mkF m 61 #[.val (.int p1), .val (.long q2), .second, .val (.int p3), .val (.int (0 : Int32)), .val (.ref w_BINARY32), .val (.long (2139095040 : Int64)), .second, .val (.long (8388608 : Int64)), .second, .unset, .unset, .unset, .unset] [])) _
    refine XS.iload X5.here hx rfl (hb hby at_61) rfl ?_
    show Steps p.tables e below (T5.setTop (mkF m 63 #[.val (.int p1), .val (.long q2), .second, .val (.int p3), .val (.int (0 : Int32)), .val (.ref w_BINARY32), .val (.long (2139095040 : Int64)), .second, .val (.long (8388608 : Int64)), .second, .unset, .unset, .unset, .unset] [(.int (0 : Int32))])) _
    refine XS.ifYes X5.here hx rfl (pc0 := 63) (pc' := 70) rfl (hb hby at_63) rfl ((if0 _ _).trans (teq (rfl : (0 : Int32) = (0 : Int32))).1) (by decide) (by decide) ?_
    show Steps p.tables e below (T5.setTop (mkF m 70 #[.val (.int p1), .val (.long q2), .second, .val (.int p3), .val (.int (0 : Int32)), .val (.ref w_BINARY32), .val (.long (2139095040 : Int64)), .second, .val (.long (8388608 : Int64)), .second, .unset, .unset, .unset, .unset] [])) _
    refine XS.lloadN X5.here hx rfl (hb hby at_70) rfl ?_
    show Steps p.tables e below (T5.setTop (mkF m 71 #[.val (.int p1), .val (.long q2), .second, .val (.int p3), .val (.int (0 : Int32)), .val (.ref w_BINARY32), .val (.long (2139095040 : Int64)), .second, .val (.long (8388608 : Int64)), .second, .unset, .unset, .unset, .unset] [(.long q2)])) _
    refine X5.ldc2Long hx hown (mvT hZ (hw _ (List.mem_of_getElem? (i := 5) rfl))) (g := (mkF m 71 #[.val (.int p1), .val (.long q2), .second, .val (.int p3), .val (.int (0 : Int32)), .val (.ref w_BINARY32), .val (.long (2139095040 : Int64)), .second, .val (.long (8388608 : Int64)), .second, .unset, .unset, .unset, .unset] [(.long q2)])) rfl (hb hby at_71) _ ?_
    show Steps p.tables e below (T5.setTop (mkF m 74 #[.val (.int p1), .val (.long q2), .second, .val (.int p3), .val (.int (0 : Int32)), .val (.ref w_BINARY32), .val (.long (2139095040 : Int64)), .second, .val (.long (8388608 : Int64)), .second, .unset, .unset, .unset, .unset] [(.long (4294967295 : Int64)), (.long q2)])) _
    refine XS.land X5.here hx rfl (hb hby at_74) rfl ?_
    show Steps p.tables e below (T5.setTop (mkF m 75 #[.val (.int p1), .val (.long q2), .second, .val (.int p3), .val (.int (0 : Int32)), .val (.ref w_BINARY32), .val (.long (2139095040 : Int64)), .second, .val (.long (8388608 : Int64)), .second, .unset, .unset, .unset, .unset] [(.long (q2 &&& (4294967295 : Int64)))])) _
    refine XS.lstore X5.here hx rfl (hb hby at_75) rfl (l' := #[.val (.int p1), .val (.long q2), .second, .val (.int p3), .val (.int (0 : Int32)), .val (.ref w_BINARY32), .val (.long (2139095040 : Int64)), .second, .val (.long (8388608 : Int64)), .second, .val (.long (q2 &&& (4294967295 : Int64))), .second, .unset, .unset]) rfl ?_
    show Steps p.tables e below (T5.setTop (mkF m 77 #[.val (.int p1), .val (.long q2), .second, .val (.int p3), .val (.int (0 : Int32)), .val (.ref w_BINARY32), .val (.long (2139095040 : Int64)), .second, .val (.long (8388608 : Int64)), .second, .val (.long (q2 &&& (4294967295 : Int64))), .second, .unset, .unset] [])) _
    refine XS.iloadN X5.here hx rfl (hb hby at_77) rfl ?_
    show Steps p.tables e below (T5.setTop (mkF m 78 #[.val (.int p1), .val (.long q2), .second, .val (.int p3), .val (.int (0 : Int32)), .val (.ref w_BINARY32), .val (.long (2139095040 : Int64)), .second, .val (.long (8388608 : Int64)), .second, .val (.long (q2 &&& (4294967295 : Int64))), .second, .unset, .unset] [(.int p3)])) _
    refine XS.iconst X5.here hx rfl (hb hby at_78) ?_
    show Steps p.tables e below (T5.setTop (mkF m 79 #[.val (.int p1), .val (.long q2), .second, .val (.int p3), .val (.int (0 : Int32)), .val (.ref w_BINARY32), .val (.long (2139095040 : Int64)), .second, .val (.long (8388608 : Int64)), .second, .val (.long (q2 &&& (4294967295 : Int64))), .second, .unset, .unset] [(.int (3 : Int32)), (.int p3)])) _
    refine XS.iand X5.here hx rfl (hb hby at_79) rfl ?_
    show Steps p.tables e below (T5.setTop (mkF m 80 #[.val (.int p1), .val (.long q2), .second, .val (.int p3), .val (.int (0 : Int32)), .val (.ref w_BINARY32), .val (.long (2139095040 : Int64)), .second, .val (.long (8388608 : Int64)), .second, .val (.long (q2 &&& (4294967295 : Int64))), .second, .unset, .unset] [(.int (p3 &&& (3 : Int32)))])) _
    refine XS.istore X5.here hx rfl (hb hby at_80) rfl (l' := #[.val (.int p1), .val (.long q2), .second, .val (.int p3), .val (.int (0 : Int32)), .val (.ref w_BINARY32), .val (.long (2139095040 : Int64)), .second, .val (.long (8388608 : Int64)), .second, .val (.long (q2 &&& (4294967295 : Int64))), .second, .val (.int (p3 &&& (3 : Int32))), .unset]) rfl ?_
    show Steps p.tables e below (T5.setTop (mkF m 82 #[.val (.int p1), .val (.long q2), .second, .val (.int p3), .val (.int (0 : Int32)), .val (.ref w_BINARY32), .val (.long (2139095040 : Int64)), .second, .val (.long (8388608 : Int64)), .second, .val (.long (q2 &&& (4294967295 : Int64))), .second, .val (.int (p3 &&& (3 : Int32))), .unset] [])) _
    refine XS.iload X5.here hx rfl (hb hby at_82) rfl ?_
    show Steps p.tables e below (T5.setTop (mkF m 84 #[.val (.int p1), .val (.long q2), .second, .val (.int p3), .val (.int (0 : Int32)), .val (.ref w_BINARY32), .val (.long (2139095040 : Int64)), .second, .val (.long (8388608 : Int64)), .second, .val (.long (q2 &&& (4294967295 : Int64))), .second, .val (.int (p3 &&& (3 : Int32))), .unset] [(.int (p3 &&& (3 : Int32)))])) _
    refine XS.iconst X5.here hx rfl (hb hby at_84) ?_
    show Steps p.tables e below (T5.setTop (mkF m 85 #[.val (.int p1), .val (.long q2), .second, .val (.int p3), .val (.int (0 : Int32)), .val (.ref w_BINARY32), .val (.long (2139095040 : Int64)), .second, .val (.long (8388608 : Int64)), .second, .val (.long (q2 &&& (4294967295 : Int64))), .second, .val (.int (p3 &&& (3 : Int32))), .unset] [(.int (1 : Int32)), (.int (p3 &&& (3 : Int32)))])) _
    refine XS.icmpNo X5.here hx rfl (hb hby at_85) rfl (teq hc85).2 ?_
    show Steps p.tables e below (T5.setTop (mkF m 88 #[.val (.int p1), .val (.long q2), .second, .val (.int p3), .val (.int (0 : Int32)), .val (.ref w_BINARY32), .val (.long (2139095040 : Int64)), .second, .val (.long (8388608 : Int64)), .second, .val (.long (q2 &&& (4294967295 : Int64))), .second, .val (.int (p3 &&& (3 : Int32))), .unset] [])) _
    refine XS.lload X5.here hx rfl (hb hby at_88) rfl ?_
    show Steps p.tables e below (T5.setTop (mkF m 90 #[.val (.int p1), .val (.long q2), .second, .val (.int p3), .val (.int (0 : Int32)), .val (.ref w_BINARY32), .val (.long (2139095040 : Int64)), .second, .val (.long (8388608 : Int64)), .second, .val (.long (q2 &&& (4294967295 : Int64))), .second, .val (.int (p3 &&& (3 : Int32))), .unset] [(.long (q2 &&& (4294967295 : Int64)))])) _
    refine XS.lload X5.here hx rfl (hb hby at_90) rfl ?_
    show Steps p.tables e below (T5.setTop (mkF m 92 #[.val (.int p1), .val (.long q2), .second, .val (.int p3), .val (.int (0 : Int32)), .val (.ref w_BINARY32), .val (.long (2139095040 : Int64)), .second, .val (.long (8388608 : Int64)), .second, .val (.long (q2 &&& (4294967295 : Int64))), .second, .val (.int (p3 &&& (3 : Int32))), .unset] [(.long (2139095040 : Int64)), (.long (q2 &&& (4294967295 : Int64)))])) _
    refine XS.lor X5.here hx rfl (hb hby at_92) rfl ?_
    show Steps p.tables e below (T5.setTop (mkF m 93 #[.val (.int p1), .val (.long q2), .second, .val (.int p3), .val (.int (0 : Int32)), .val (.ref w_BINARY32), .val (.long (2139095040 : Int64)), .second, .val (.long (8388608 : Int64)), .second, .val (.long (q2 &&& (4294967295 : Int64))), .second, .val (.int (p3 &&& (3 : Int32))), .unset] [(.long ((q2 &&& (4294967295 : Int64)) ||| (2139095040 : Int64)))])) _
    refine XS.lstore X5.here hx rfl (hb hby at_93) rfl (l' := #[.val (.int p1), .val (.long q2), .second, .val (.int p3), .val (.int (0 : Int32)), .val (.ref w_BINARY32), .val (.long (2139095040 : Int64)), .second, .val (.long (8388608 : Int64)), .second, .val (.long ((q2 &&& (4294967295 : Int64)) ||| (2139095040 : Int64))), .second, .val (.int (p3 &&& (3 : Int32))), .unset]) rfl ?_
    show Steps p.tables e below (T5.setTop (mkF m 95 #[.val (.int p1), .val (.long q2), .second, .val (.int p3), .val (.int (0 : Int32)), .val (.ref w_BINARY32), .val (.long (2139095040 : Int64)), .second, .val (.long (8388608 : Int64)), .second, .val (.long ((q2 &&& (4294967295 : Int64)) ||| (2139095040 : Int64))), .second, .val (.int (p3 &&& (3 : Int32))), .unset] [])) _
    refine XS.goto X5.here hx rfl (pc0 := 95) (pc' := 138) rfl (hb hby at_95) (by decide) (by decide) ?_
    show Steps p.tables e below (T5.setTop (mkF m 138 #[.val (.int p1), .val (.long q2), .second, .val (.int p3), .val (.int (0 : Int32)), .val (.ref w_BINARY32), .val (.long (2139095040 : Int64)), .second, .val (.long (8388608 : Int64)), .second, .val (.long ((q2 &&& (4294967295 : Int64)) ||| (2139095040 : Int64))), .second, .val (.int (p3 &&& (3 : Int32))), .unset] [])) _
    refine XS.lload X5.here hx rfl (hb hby at_138) rfl ?_
    show Steps p.tables e below (T5.setTop (mkF m 140 #[.val (.int p1), .val (.long q2), .second, .val (.int p3), .val (.int (0 : Int32)), .val (.ref w_BINARY32), .val (.long (2139095040 : Int64)), .second, .val (.long (8388608 : Int64)), .second, .val (.long ((q2 &&& (4294967295 : Int64)) ||| (2139095040 : Int64))), .second, .val (.int (p3 &&& (3 : Int32))), .unset] [(.long ((q2 &&& (4294967295 : Int64)) ||| (2139095040 : Int64)))])) _
    refine XS.lload X5.here hx rfl (hb hby at_140) rfl ?_
    show Steps p.tables e below (T5.setTop (mkF m 142 #[.val (.int p1), .val (.long q2), .second, .val (.int p3), .val (.int (0 : Int32)), .val (.ref w_BINARY32), .val (.long (2139095040 : Int64)), .second, .val (.long (8388608 : Int64)), .second, .val (.long ((q2 &&& (4294967295 : Int64)) ||| (2139095040 : Int64))), .second, .val (.int (p3 &&& (3 : Int32))), .unset] [(.long (2139095040 : Int64)), (.long ((q2 &&& (4294967295 : Int64)) ||| (2139095040 : Int64)))])) _
    refine XS.land X5.here hx rfl (hb hby at_142) rfl ?_
    show Steps p.tables e below (T5.setTop (mkF m 143 #[.val (.int p1), .val (.long q2), .second, .val (.int p3), .val (.int (0 : Int32)), .val (.ref w_BINARY32), .val (.long (2139095040 : Int64)), .second, .val (.long (8388608 : Int64)), .second, .val (.long ((q2 &&& (4294967295 : Int64)) ||| (2139095040 : Int64))), .second, .val (.int (p3 &&& (3 : Int32))), .unset] [(.long (((q2 &&& (4294967295 : Int64)) ||| (2139095040 : Int64)) &&& (2139095040 : Int64)))])) _
    refine XS.lload X5.here hx rfl (hb hby at_143) rfl ?_
    show Steps p.tables e below (T5.setTop (mkF m 145 #[.val (.int p1), .val (.long q2), .second, .val (.int p3), .val (.int (0 : Int32)), .val (.ref w_BINARY32), .val (.long (2139095040 : Int64)), .second, .val (.long (8388608 : Int64)), .second, .val (.long ((q2 &&& (4294967295 : Int64)) ||| (2139095040 : Int64))), .second, .val (.int (p3 &&& (3 : Int32))), .unset] [(.long (2139095040 : Int64)), (.long (((q2 &&& (4294967295 : Int64)) ||| (2139095040 : Int64)) &&& (2139095040 : Int64)))])) _
    refine XS.lcmp X5.here hx rfl (hb hby at_145) rfl ?_
    show Steps p.tables e below (T5.setTop (mkF m 146 #[.val (.int p1), .val (.long q2), .second, .val (.int p3), .val (.int (0 : Int32)), .val (.ref w_BINARY32), .val (.long (2139095040 : Int64)), .second, .val (.long (8388608 : Int64)), .second, .val (.long ((q2 &&& (4294967295 : Int64)) ||| (2139095040 : Int64))), .second, .val (.int (p3 &&& (3 : Int32))), .unset] [(.int (lcmpW (((q2 &&& (4294967295 : Int64)) ||| (2139095040 : Int64)) &&& (2139095040 : Int64)) (2139095040 : Int64)))])) _
    refine XS.ifNo X5.here hx rfl (hb hby at_146) rfl ((if0 _ _).trans (feq hc146).1) ?_
    show Steps p.tables e below (T5.setTop (mkF m 149 #[.val (.int p1), .val (.long q2), .second, .val (.int p3), .val (.int (0 : Int32)), .val (.ref w_BINARY32), .val (.long (2139095040 : Int64)), .second, .val (.long (8388608 : Int64)), .second, .val (.long ((q2 &&& (4294967295 : Int64)) ||| (2139095040 : Int64))), .second, .val (.int (p3 &&& (3 : Int32))), .unset] [])) _
    refine XS.iconst X5.here hx rfl (hb hby at_149) ?_
    show Steps p.tables e below (T5.setTop (mkF m 150 #[.val (.int p1), .val (.long q2), .second, .val (.int p3), .val (.int (0 : Int32)), .val (.ref w_BINARY32), .val (.long (2139095040 : Int64)), .second, .val (.long (8388608 : Int64)), .second, .val (.long ((q2 &&& (4294967295 : Int64)) ||| (2139095040 : Int64))), .second, .val (.int (p3 &&& (3 : Int32))), .unset] [(.int (1 : Int32))])) _
    refine XS.goto X5.here hx rfl (pc0 := 150) (pc' := 154) rfl (hb hby at_150) (by decide) (by decide) ?_
    show Steps p.tables e below (T5.setTop (mkF m 154 #[.val (.int p1), .val (.long q2), .second, .val (.int p3), .val (.int (0 : Int32)), .val (.ref w_BINARY32), .val (.long (2139095040 : Int64)), .second, .val (.long (8388608 : Int64)), .second, .val (.long ((q2 &&& (4294967295 : Int64)) ||| (2139095040 : Int64))), .second, .val (.int (p3 &&& (3 : Int32))), .unset] [(.int (1 : Int32))])) _
    refine XS.istore X5.here hx rfl (hb hby at_154) rfl (l' := #[.val (.int p1), .val (.long q2), .second, .val (.int p3), .val (.int (0 : Int32)), .val (.ref w_BINARY32), .val (.long (2139095040 : Int64)), .second, .val (.long (8388608 : Int64)), .second, .val (.long ((q2 &&& (4294967295 : Int64)) ||| (2139095040 : Int64))), .second, .val (.int (p3 &&& (3 : Int32))), .val (.int (1 : Int32))]) rfl ?_
    show Steps p.tables e below (T5.setTop (mkF m 156 #[.val (.int p1), .val (.long q2), .second, .val (.int p3), .val (.int (0 : Int32)), .val (.ref w_BINARY32), .val (.long (2139095040 : Int64)), .second, .val (.long (8388608 : Int64)), .second, .val (.long ((q2 &&& (4294967295 : Int64)) ||| (2139095040 : Int64))), .second, .val (.int (p3 &&& (3 : Int32))), .val (.int (1 : Int32))] [])) _
    refine XS.aload X5.here hx rfl (hb hby at_156) rfl rfl ?_
    show Steps p.tables e below (T5.setTop (mkF m 158 #[.val (.int p1), .val (.long q2), .second, .val (.int p3), .val (.int (0 : Int32)), .val (.ref w_BINARY32), .val (.long (2139095040 : Int64)), .second, .val (.long (8388608 : Int64)), .second, .val (.long ((q2 &&& (4294967295 : Int64)) ||| (2139095040 : Int64))), .second, .val (.int (p3 &&& (3 : Int32))), .val (.int (1 : Int32))] [(.ref w_BINARY32)])) _
    refine XS.lload X5.here hx rfl (hb hby at_158) rfl ?_
    show Steps p.tables e below (T5.setTop (mkF m 160 #[.val (.int p1), .val (.long q2), .second, .val (.int p3), .val (.int (0 : Int32)), .val (.ref w_BINARY32), .val (.long (2139095040 : Int64)), .second, .val (.long (8388608 : Int64)), .second, .val (.long ((q2 &&& (4294967295 : Int64)) ||| (2139095040 : Int64))), .second, .val (.int (p3 &&& (3 : Int32))), .val (.int (1 : Int32))] [(.long ((q2 &&& (4294967295 : Int64)) ||| (2139095040 : Int64))), (.ref w_BINARY32)])) _
    refine st6.trans ?_
    show Steps p.tables e below (T6.setTop (mkF m 163 #[.val (.int p1), .val (.long q2), .second, .val (.int p3), .val (.int (0 : Int32)), .val (.ref w_BINARY32), .val (.long (2139095040 : Int64)), .second, .val (.long (8388608 : Int64)), .second, .val (.long ((q2 &&& (4294967295 : Int64)) ||| (2139095040 : Int64))), .second, .val (.int (p3 &&& (3 : Int32))), .val (.int (1 : Int32))] [(.int u)])) _
    refine XS.iload X6.here hx rfl (hb hby at_163) rfl ?_
    show Steps p.tables e below (T6.setTop (mkF m 165 #[.val (.int p1), .val (.long q2), .second, .val (.int p3), .val (.int (0 : Int32)), .val (.ref w_BINARY32), .val (.long (2139095040 : Int64)), .second, .val (.long (8388608 : Int64)), .second, .val (.long ((q2 &&& (4294967295 : Int64)) ||| (2139095040 : Int64))), .second, .val (.int (p3 &&& (3 : Int32))), .val (.int (1 : Int32))] [(.int (1 : Int32)), (.int u)])) _
    refine XS.icmpNo X6.here hx rfl (hb hby at_165) rfl (teq (hv165 : u = (1 : Int32))).2 ?_
    show Steps p.tables e below (T6.setTop (mkF m 168 #[.val (.int p1), .val (.long q2), .second, .val (.int p3), .val (.int (0 : Int32)), .val (.ref w_BINARY32), .val (.long (2139095040 : Int64)), .second, .val (.long (8388608 : Int64)), .second, .val (.long ((q2 &&& (4294967295 : Int64)) ||| (2139095040 : Int64))), .second, .val (.int (p3 &&& (3 : Int32))), .val (.int (1 : Int32))] [])) _
    refine XS.iconst X6.here hx rfl (hb hby at_168) ?_
    show Steps p.tables e below (T6.setTop (mkF m 169 #[.val (.int p1), .val (.long q2), .second, .val (.int p3), .val (.int (0 : Int32)), .val (.ref w_BINARY32), .val (.long (2139095040 : Int64)), .second, .val (.long (8388608 : Int64)), .second, .val (.long ((q2 &&& (4294967295 : Int64)) ||| (2139095040 : Int64))), .second, .val (.int (p3 &&& (3 : Int32))), .val (.int (1 : Int32))] [(.int (1 : Int32))])) _
    refine XS.goto X6.here hx rfl (pc0 := 169) (pc' := 173) rfl (hb hby at_169) (by decide) (by decide) ?_
    show Steps p.tables e below (T6.setTop (mkF m 173 #[.val (.int p1), .val (.long q2), .second, .val (.int p3), .val (.int (0 : Int32)), .val (.ref w_BINARY32), .val (.long (2139095040 : Int64)), .second, .val (.long (8388608 : Int64)), .second, .val (.long ((q2 &&& (4294967295 : Int64)) ||| (2139095040 : Int64))), .second, .val (.int (p3 &&& (3 : Int32))), .val (.int (1 : Int32))] [(.int (1 : Int32))])) _
    exact retN X6 hx (t := .boolean) Bd.returns (by simp) (hb hby at_173) hr
  · show Q0 Z h0 n0 _ T6.heap _
    exact ⟨rfl, N6⟩
set_option maxRecDepth 65536 in
set_option maxHeartbeats 40000000 in
theorem rm0_ttttttftf (l : Launch) (Z : State) (a0 : Array Value) (hw : ∀ d ∈ tables_1, d.before a0 Z = true) (ws : List Jvm.Cond) (p1 : Int32) (q2 : Int64) (p3 : Int32) (w_BINARY32 : Addr) (u : Int32) (h0 : Heap) (n0 : Nat) (Z0 : n0 ≤ h0.size) (S_BINARY32 : Sta Z h0 "com/example/fourfold/fourfold/json/FloatFormat" "BINARY32" "Lcom/example/fourfold/fourfold/json/FloatFormat;" (.ref w_BINARY32)) (E_BINARY32 : Exa Z h0 w_BINARY32 "com/example/fourfold/fourfold/json/FloatFormat") (F_fractionBits_BINARY32 : Fld Z h0 w_BINARY32 "com/example/fourfold/fourfold/json/FloatFormat" "fractionBits" "I" (.int (23 : Int32))) (F_specialExponent_BINARY32 : Fld Z h0 w_BINARY32 "com/example/fourfold/fourfold/json/FloatFormat" "specialExponent" "I" (.int (255 : Int32))) (hu : finF (((q2 &&& (4294967295 : Int64)) ||| (2139095040 : Int64)) &&& ((8388608 : Int64) ^^^ (-1 : Int64))) (23 : Int32) (255 : Int32) = u) (hc3 : (p1 &&& (1 : Int32)) = (0 : Int32)) (hc85 : ¬ ((p3 &&& (3 : Int32)) = (1 : Int32))) (hc101 : (p3 &&& (3 : Int32)) = (2 : Int32)) (hc146 : (lcmpW ((((q2 &&& (4294967295 : Int64)) ||| (2139095040 : Int64)) &&& ((8388608 : Int64) ^^^ (-1 : Int64))) &&& (2139095040 : Int64)) (2139095040 : Int64)) = (0 : Int32)) (hv165 : u = (0 : Int32)) :
    MetFree l x (head1 (Jvm.Cond.code x code maxLocals ret :: ws) room_1) (fun a U => a = #[(.int p1), (.long q2), (.int p3)] ∧ Z.Warmed39 U.vm ∧ U.heap = h0) (fun _ _ _ _ _ => True) (fun _ U o U' => ∃ v L, o = .returned v ∧ Q0 Z h0 n0 v U'.heap L ∧ FrameEnd U o U' L room_1.cells room_1.slots) := by
  refine MetFree.of_bodySF (plainFor_of_name pn_0) hisR ?_
  intro p e s m args below meth c s₁ Bd hml0 hP hK
  obtain ⟨rfl, hZ, hh⟩ := hP
  have hx := Bd.exec
  have hby := Bd.bytes
  have hml : c.maxLocals = 14 := hml0
  have hown : s.vm.findClass "com/example/fourfold/fourfold/json/FloatFormatIsFinitePinLaw" = some m.cls := findClass_of_methodNamed Bd.named
  have hnm := (name_of_methodNamed Bd.named Bd.method).1
  have X0 : Stand p l e room_1 s m #[(.int p1), (.long q2), (.int p3)] below meth c s₁ [] 0 0 := Stand.of_body Bd
  have e0 : s₁.heap = h0 := by rw [← hh, Bd.state]; rfl
  have N0 := Fr.nil n0
  have pre0 : ∀ t, Steps p.tables e below (s₁.setTop (mkF m 0 #[.val (.int p1), .val (.long q2), .second, .val (.int p3), .unset, .unset, .unset, .unset, .unset, .unset, .unset, .unset, .unset, .unset] [])) t → Steps p.tables e below (s₁.setTop (entryFrame m #[(.int p1), (.long q2), (.int p3)] maxLocals)) t := fun t k => castTop (ef_0 m p1 q2 p3) k
  -- 3. LAWS
  obtain ⟨T5, X5, e5, st5⟩ := getS2 X0 hx hZ hown (host := "") (Or.inl (hw _ (List.mem_of_getElem? (i := 0) rfl))) Via.refl e0 S_BINARY32 (g := (mkF m 24 #[.val (.int p1), .val (.long q2), .second, .val (.int p3), .val (.int (0 : Int32)), .unset, .unset, .unset, .unset, .unset, .unset, .unset, .unset, .unset] [])) rfl (hb hby at_24)
  -- pc 160: com/example/fourfold/fourfold/json/FloatFormat.isFinite by the contract of the body that the receiver's class selects, rm1
  obtain ⟨cq6, kq6, q6a, q6b, q6c⟩ := isOf hZ e5 E_BINARY32
  obtain ⟨_, _, ⟨T6, L6, k6, n6⟩, -, X6, ⟨Lc6, hQ6, l6, y6, z6⟩, st6⟩ := X5.virtualBack hx (y := (⟨"com/example/fourfold/fourfold/json/FloatFormat", "isFinite", "(J)Z"⟩ : MethodName)) (z := (⟨"com/example/fourfold/fourfold/json/FloatFormat", "isFinite", "(J)Z"⟩ : MethodName)) hown (mvT hZ (hw _ (List.mem_of_getElem? (i := 6) rfl))) (mvT hZ (hw _ (List.mem_of_getElem? (i := 7) rfl))) (notFace_of_selects (args := #[]) (mvT hZ (hw _ (List.mem_of_getElem? (i := 9) rfl)))) (mvT hZ (hw _ (List.mem_of_getElem? (i := 9) rfl))) (mvT hZ (hw _ (List.mem_of_getElem? (i := 8) rfl))) (by decide) (backOf (W := 0) (rm1 l Z a0 hw [] w_BINARY32 (((q2 &&& (4294967295 : Int64)) ||| (2139095040 : Int64)) &&& ((8388608 : Int64) ^^^ (-1 : Int64))) (255 : Int32) (23 : Int32) h0 n0 Z0 E_BINARY32 F_specialExponent_BINARY32 F_fractionBits_BINARY32) hZ (hw _ (List.mem_of_getElem? (i := 10) rfl)) (hw _ (List.mem_of_getElem? (i := 1) rfl)) (by decide) (by decide)) q6a q6c (g := (mkF m 160 #[.val (.int p1), .val (.long q2), .second, .val (.int p3), .val (.int (0 : Int32)), .val (.ref w_BINARY32), .val (.long (2139095040 : Int64)), .second, .val (.long (8388608 : Int64)), .second, .val (.long (((q2 &&& (4294967295 : Int64)) ||| (2139095040 : Int64)) &&& ((8388608 : Int64) ^^^ (-1 : Int64)))), .second, .val (.int (p3 &&& (3 : Int32))), .val (.int (0 : Int32))] [(.long (((q2 &&& (4294967295 : Int64)) ||| (2139095040 : Int64)) &&& ((8388608 : Int64) ^^^ (-1 : Int64)))), (.ref w_BINARY32)])) rfl (by rw [hml]; rfl) (Steps.refl _) (argsL := [(.long (((q2 &&& (4294967295 : Int64)) ||| (2139095040 : Int64)) &&& ((8388608 : Int64) ^^^ (-1 : Int64))))]) (rest := []) (lenOf pd_0_0 rfl) rfl (by show 2 * 0 + _ ≤ _; exact Nat.le_of_eq rfl) (hb hby at_160) (fun _ _ => ⟨rfl, e5, (by decide : 0 + 0 ≤ _), (by decide : 0 + 0 ≤ _)⟩)
  dsimp only [Pt.U, Pt.locs, Pt.cells, Pt.slots] at X6 l6 y6 z6 st6 hQ6
  subst l6 y6 z6
  obtain ⟨rv6, N6q, q6⟩ := hQ6
  rw [hu] at rv6
  subst rv6
  have N6 := Fr.app N0 N6q
  obtain ⟨fs, hr, hrun, hended, hW, hsame⟩ := X6.leave (v := some (.int (1 : Int32))) (fun h => by rw [Bd.returns] at h; cases h)
  refine ⟨_, _, pre0 _ ?_, hrun, hended, _, _, rfl, ?_, ⟨_, rfl⟩, hW, hsame.mono (by decide) (by decide)⟩
  -- 4. STEPS
  · show Steps p.tables e below (s₁.setTop (mkF m 0 #[.val (.int p1), .val (.long q2), .second, .val (.int p3), .unset, .unset, .unset, .unset, .unset, .unset, .unset, .unset, .unset, .unset] [])) _
    refine XS.iloadN X0.here hx rfl (hb hby at_0) rfl ?_
    show Steps p.tables e below (s₁.setTop (mkF m 1 #[.val (.int p1), .val (.long q2), .second, .val (.int p3), .unset, .unset, .unset, .unset, .unset, .unset, .unset, .unset, .unset, .unset] [(.int p1)])) _
    refine XS.iconst X0.here hx rfl (hb hby at_1) ?_
    show Steps p.tables e below (s₁.setTop (mkF m 2 #[.val (.int p1), .val (.long q2), .second, .val (.int p3), .unset, .unset, .unset, .unset, .unset, .unset, .unset, .unset, .unset, .unset] [(.int (1 : Int32)), (.int p1)])) _
    refine XS.iand X0.here hx rfl (hb hby at_2) rfl ?_
    show Steps p.tables e below (s₁.setTop (mkF m 3 #[.val (.int p1), .val (.long q2), .second, .val (.int p3), .unset, .unset, .unset, .unset, .unset, .unset, .unset, .unset, .unset, .unset] [(.int (p1 &&& (1 : Int32)))])) _
    refine XS.ifYes X0.here hx rfl (pc0 := 3) (pc' := 10) rfl (hb hby at_3) rfl ((if0 _ _).trans (teq hc3).1) (by decide) (by decide) ?_
    show Steps p.tables e below (s₁.setTop (mkF m 10 #[.val (.int p1), .val (.long q2), .second, .val (.int p3), .unset, .unset, .unset, .unset, .unset, .unset, .unset, .unset, .unset, .unset] [])) _
    refine XS.iconst X0.here hx rfl (hb hby at_10) ?_
    show Steps p.tables e below (s₁.setTop (mkF m 11 #[.val (.int p1), .val (.long q2), .second, .val (.int p3), .unset, .unset, .unset, .unset, .unset, .unset, .unset, .unset, .unset, .unset] [(.int (0 : Int32))])) _
    refine XS.istore X0.here hx rfl (hb hby at_11) rfl (l' := #[.val (.int p1), .val (.long q2), .second, .val (.int p3), .val (.int (0 : Int32)), .unset, .unset, .unset, .unset, .unset, .unset, .unset, .unset, .unset]) rfl ?_
    show Steps p.tables e below (s₁.setTop (mkF m 13 #[.val (.int p1), .val (.long q2), .second, .val (.int p3), .val (.int (0 : Int32)), .unset, .unset, .unset, .unset, .unset, .unset, .unset, .unset, .unset] [])) _
    refine XS.iload X0.here hx rfl (hb hby at_13) rfl ?_
    show Steps p.tables e below (s₁.setTop (mkF m 15 #[.val (.int p1), .val (.long q2), .second, .val (.int p3), .val (.int (0 : Int32)), .unset, .unset, .unset, .unset, .unset, .unset, .unset, .unset, .unset] [(.int (0 : Int32))])) _
    refine XS.ifYes X0.here hx rfl (pc0 := 15) (pc' := 24) rfl (hb hby at_15) rfl ((if0 _ _).trans (teq (rfl : (0 : Int32) = (0 : Int32))).1) (by decide) (by decide) ?_
    show Steps p.tables e below (s₁.setTop (mkF m 24 #[.val (.int p1), .val (.long q2), .second, .val (.int p3), .val (.int (0 : Int32)), .unset, .unset, .unset, .unset, .unset, .unset, .unset, .unset, .unset] [])) _
    refine st5 _ ?_
    show Steps p.tables e below (T5.setTop (mkF m 27 #[.val (.int p1), .val (.long q2), .second, .val (.int p3), .val (.int (0 : Int32)), .unset, .unset, .unset, .unset, .unset, .unset, .unset, .unset, .unset] [(.ref w_BINARY32)])) _
    refine XS.astore X5.here hx rfl (hb hby at_27) rfl rfl (l' := #[.val (.int p1), .val (.long q2), .second, .val (.int p3), .val (.int (0 : Int32)), .val (.ref w_BINARY32), .unset, .unset, .unset, .unset, .unset, .unset, .unset, .unset]) rfl ?_
    show Steps p.tables e below (T5.setTop (mkF m 29 #[.val (.int p1), .val (.long q2), .second, .val (.int p3), .val (.int (0 : Int32)), .val (.ref w_BINARY32), .unset, .unset, .unset, .unset, .unset, .unset, .unset, .unset] [])) _
    refine XS.iload X5.here hx rfl (hb hby at_29) rfl ?_
    show Steps p.tables e below (T5.setTop (mkF m 31 #[.val (.int p1), .val (.long q2), .second, .val (.int p3), .val (.int (0 : Int32)), .val (.ref w_BINARY32), .unset, .unset, .unset, .unset, .unset, .unset, .unset, .unset] [(.int (0 : Int32))])) _
    refine XS.ifYes X5.here hx rfl (pc0 := 31) (pc' := 40) rfl (hb hby at_31) rfl ((if0 _ _).trans (teq (rfl : (0 : Int32) = (0 : Int32))).1) (by decide) (by decide) ?_
    show Steps p.tables e below (T5.setTop (mkF m 40 #[.val (.int p1), .val (.long q2), .second, .val (.int p3), .val (.int (0 : Int32)), .val (.ref w_BINARY32), .unset, .unset, .unset, .unset, .unset, .unset, .unset, .unset] [])) _
    refine X5.ldc2Long hx hown (mvT hZ (hw _ (List.mem_of_getElem? (i := 3) rfl))) (g := (mkF m 40 #[.val (.int p1), .val (.long q2), .second, .val (.int p3), .val (.int (0 : Int32)), .val (.ref w_BINARY32), .unset, .unset, .unset, .unset, .unset, .unset, .unset, .unset] [])) rfl (hb hby at_40) _ ?_
    show Steps p.tables e below (T5.setTop (mkF m 43 #[.val (.int p1), .val (.long q2), .second, .val (.int p3), .val (.int (0 : Int32)), .val (.ref w_BINARY32), .unset, .unset, .unset, .unset, .unset, .unset, .unset, .unset] [(.long (2139095040 : Int64))])) _
    refine XS.lstore X5.here hx rfl (hb hby at_43) rfl (l' := #[.val (.int p1), .val (.long q2), .second, .val (.int p3), .val (.int (0 : Int32)), .val (.ref w_BINARY32), .val (.long (2139095040 : Int64)), .second, .unset, .unset, .unset, .unset, .unset, .unset]) rfl ?_
    show Steps p.tables e below (T5.setTop (mkF m 45 #[.val (.int p1), .val (.long q2), .second, .val (.int p3), .val (.int (0 : Int32)), .val (.ref w_BINARY32), .val (.long (2139095040 : Int64)), .second, .unset, .unset, .unset, .unset, .unset, .unset] [])) _
    refine XS.iload X5.here hx rfl (hb hby at_45) rfl ?_
    show Steps p.tables e below (T5.setTop (mkF m 47 #[.val (.int p1), .val (.long q2), .second, .val (.int p3), .val (.int (0 : Int32)), .val (.ref w_BINARY32), .val (.long (2139095040 : Int64)), .second, .unset, .unset, .unset, .unset, .unset, .unset] [(.int (0 : Int32))])) _
    refine XS.ifYes X5.here hx rfl (pc0 := 47) (pc' := 56) rfl (hb hby at_47) rfl ((if0 _ _).trans (teq (rfl : (0 : Int32) = (0 : Int32))).1) (by decide) (by decide) ?_
    show Steps p.tables e below (T5.setTop (mkF m 56 #[.val (.int p1), .val (.long q2), .second, .val (.int p3), .val (.int (0 : Int32)), .val (.ref w_BINARY32), .val (.long (2139095040 : Int64)), .second, .unset, .unset, .unset, .unset, .unset, .unset] [])) _
    refine X5.ldc2Long hx hown (mvT hZ (hw _ (List.mem_of_getElem? (i := 4) rfl))) (g := (mkF m 56 #[.val (.int p1), .val (.long q2), .second, .val (.int p3), .val (.int (0 : Int32)), .val (.ref w_BINARY32), .val (.long (2139095040 : Int64)), .second, .unset, .unset, .unset, .unset, .unset, .unset] [])) rfl (hb hby at_56) _ ?_
    show Steps p.tables e below (T5.setTop (mkF m 59 #[.val (.int p1), .val (.long q2), .second, .val (.int p3), .val (.int (0 : Int32)), .val (.ref w_BINARY32), .val (.long (2139095040 : Int64)), .second, .unset, .unset, .unset, .unset, .unset, .unset] [(.long (8388608 : Int64))])) _
    refine XS.lstore X5.here hx rfl (hb hby at_59) rfl (l' := #[.val (.int p1), .val (.long q2), .second, .val (.int p3), .val (.int (0 : Int32)), .val (.ref w_BINARY32), .val (.long (2139095040 : Int64)), .second, .val (.long (8388608 : Int64)), .second, .unset, .unset, .unset, .unset]) rfl ?_
    show Steps p.tables e below (T5.setTop (mkF m 61 #[.val (.int p1), .val (.long q2), .second, .val (.int p3), .val (.int (0 : Int32)), .val (.ref w_BINARY32), .val (.long (2139095040 : Int64)), .second, .val (.long (8388608 : Int64)), .second, .unset, .unset, .unset, .unset] [])) _
    refine XS.iload X5.here hx rfl (hb hby at_61) rfl ?_
    show Steps p.tables e below (T5.setTop (mkF m 63 #[.val (.int p1), .val (.long q2), .second, .val (.int p3), .val (.int (0 : Int32)), .val (.ref w_BINARY32), .val (.long (2139095040 : Int64)), .second, .val (.long (8388608 : Int64)), .second, .unset, .unset, .unset, .unset] [(.int (0 : Int32))])) _
    refine XS.ifYes X5.here hx rfl (pc0 := 63) (pc' := 70) rfl (hb hby at_63) rfl ((if0 _ _).trans (teq (rfl : (0 : Int32) = (0 : Int32))).1) (by decide) (by decide) ?_
    show Steps p.tables e below (T5.setTop (mkF m 70 #[.val (.int p1), .val (.long q2), .second, .val (.int p3), .val (.int (0 : Int32)), .val (.ref w_BINARY32), .val (.long (2139095040 : Int64)), .second, .val (.long (8388608 : Int64)), .second, .unset, .unset, .unset, .unset] [])) _
    refine XS.lloadN X5.here hx rfl (hb hby at_70) rfl ?_
    show Steps p.tables e below (T5.setTop (mkF m 71 #[.val (.int p1), .val (.long q2), .second, .val (.int p3), .val (.int (0 : Int32)), .val (.ref w_BINARY32), .val (.long (2139095040 : Int64)), .second, .val (.long (8388608 : Int64)), .second, .unset, .unset, .unset, .unset] [(.long q2)])) _
    refine X5.ldc2Long hx hown (mvT hZ (hw _ (List.mem_of_getElem? (i := 5) rfl))) (g := (mkF m 71 #[.val (.int p1), .val (.long q2), .second, .val (.int p3), .val (.int (0 : Int32)), .val (.ref w_BINARY32), .val (.long (2139095040 : Int64)), .second, .val (.long (8388608 : Int64)), .second, .unset, .unset, .unset, .unset] [(.long q2)])) rfl (hb hby at_71) _ ?_
    show Steps p.tables e below (T5.setTop (mkF m 74 #[.val (.int p1), .val (.long q2), .second, .val (.int p3), .val (.int (0 : Int32)), .val (.ref w_BINARY32), .val (.long (2139095040 : Int64)), .second, .val (.long (8388608 : Int64)), .second, .unset, .unset, .unset, .unset] [(.long (4294967295 : Int64)), (.long q2)])) _
    refine XS.land X5.here hx rfl (hb hby at_74) rfl ?_
    show Steps p.tables e below (T5.setTop (mkF m 75 #[.val (.int p1), .val (.long q2), .second, .val (.int p3), .val (.int (0 : Int32)), .val (.ref w_BINARY32), .val (.long (2139095040 : Int64)), .second, .val (.long (8388608 : Int64)), .second, .unset, .unset, .unset, .unset] [(.long (q2 &&& (4294967295 : Int64)))])) _
    refine XS.lstore X5.here hx rfl (hb hby at_75) rfl (l' := #[.val (.int p1), .val (.long q2), .second, .val (.int p3), .val (.int (0 : Int32)), .val (.ref w_BINARY32), .val (.long (2139095040 : Int64)), .second, .val (.long (8388608 : Int64)), .second, .val (.long (q2 &&& (4294967295 : Int64))), .second, .unset, .unset]) rfl ?_
    show Steps p.tables e below (T5.setTop (mkF m 77 #[.val (.int p1), .val (.long q2), .second, .val (.int p3), .val (.int (0 : Int32)), .val (.ref w_BINARY32), .val (.long (2139095040 : Int64)), .second, .val (.long (8388608 : Int64)), .second, .val (.long (q2 &&& (4294967295 : Int64))), .second, .unset, .unset] [])) _
    refine XS.iloadN X5.here hx rfl (hb hby at_77) rfl ?_
    show Steps p.tables e below (T5.setTop (mkF m 78 #[.val (.int p1), .val (.long q2), .second, .val (.int p3), .val (.int (0 : Int32)), .val (.ref w_BINARY32), .val (.long (2139095040 : Int64)), .second, .val (.long (8388608 : Int64)), .second, .val (.long (q2 &&& (4294967295 : Int64))), .second, .unset, .unset] [(.int p3)])) _
    refine XS.iconst X5.here hx rfl (hb hby at_78) ?_
    show Steps p.tables e below (T5.setTop (mkF m 79 #[.val (.int p1), .val (.long q2), .second, .val (.int p3), .val (.int (0 : Int32)), .val (.ref w_BINARY32), .val (.long (2139095040 : Int64)), .second, .val (.long (8388608 : Int64)), .second, .val (.long (q2 &&& (4294967295 : Int64))), .second, .unset, .unset] [(.int (3 : Int32)), (.int p3)])) _
    refine XS.iand X5.here hx rfl (hb hby at_79) rfl ?_
    show Steps p.tables e below (T5.setTop (mkF m 80 #[.val (.int p1), .val (.long q2), .second, .val (.int p3), .val (.int (0 : Int32)), .val (.ref w_BINARY32), .val (.long (2139095040 : Int64)), .second, .val (.long (8388608 : Int64)), .second, .val (.long (q2 &&& (4294967295 : Int64))), .second, .unset, .unset] [(.int (p3 &&& (3 : Int32)))])) _
    refine XS.istore X5.here hx rfl (hb hby at_80) rfl (l' := #[.val (.int p1), .val (.long q2), .second, .val (.int p3), .val (.int (0 : Int32)), .val (.ref w_BINARY32), .val (.long (2139095040 : Int64)), .second, .val (.long (8388608 : Int64)), .second, .val (.long (q2 &&& (4294967295 : Int64))), .second, .val (.int (p3 &&& (3 : Int32))), .unset]) rfl ?_
    show Steps p.tables e below (T5.setTop (mkF m 82 #[.val (.int p1), .val (.long q2), .second, .val (.int p3), .val (.int (0 : Int32)), .val (.ref w_BINARY32), .val (.long (2139095040 : Int64)), .second, .val (.long (8388608 : Int64)), .second, .val (.long (q2 &&& (4294967295 : Int64))), .second, .val (.int (p3 &&& (3 : Int32))), .unset] [])) _
    refine XS.iload X5.here hx rfl (hb hby at_82) rfl ?_
    show Steps p.tables e below (T5.setTop (mkF m 84 #[.val (.int p1), .val (.long q2), .second, .val (.int p3), .val (.int (0 : Int32)), .val (.ref w_BINARY32), .val (.long (2139095040 : Int64)), .second, .val (.long (8388608 : Int64)), .second, .val (.long (q2 &&& (4294967295 : Int64))), .second, .val (.int (p3 &&& (3 : Int32))), .unset] [(.int (p3 &&& (3 : Int32)))])) _
    refine XS.iconst X5.here hx rfl (hb hby at_84) ?_
    show Steps p.tables e below (T5.setTop (mkF m 85 #[.val (.int p1), .val (.long q2), .second, .val (.int p3), .val (.int (0 : Int32)), .val (.ref w_BINARY32), .val (.long (2139095040 : Int64)), .second, .val (.long (8388608 : Int64)), .second, .val (.long (q2 &&& (4294967295 : Int64))), .second, .val (.int (p3 &&& (3 : Int32))), .unset] [(.int (1 : Int32)), (.int (p3 &&& (3 : Int32)))])) _
    refine XS.icmpYes X5.here hx rfl (pc0 := 85) (pc' := 98) rfl (hb hby at_85) rfl (feq hc85).2 (by decide) (by decide) ?_
    show Steps p.tables e below (T5.setTop (mkF m 98 #[.val (.int p1), .val (.long q2), .second, .val (.int p3), .val (.int (0 : Int32)), .val (.ref w_BINARY32), .val (.long (2139095040 : Int64)), .second, .val (.long (8388608 : Int64)), .second, .val (.long (q2 &&& (4294967295 : Int64))), .second, .val (.int (p3 &&& (3 : Int32))), .unset] [])) _
    refine XS.iload X5.here hx rfl (hb hby at_98) rfl ?_
    show Steps p.tables e below (T5.setTop (mkF m 100 #[.val (.int p1), .val (.long q2), .second, .val (.int p3), .val (.int (0 : Int32)), .val (.ref w_BINARY32), .val (.long (2139095040 : Int64)), .second, .val (.long (8388608 : Int64)), .second, .val (.long (q2 &&& (4294967295 : Int64))), .second, .val (.int (p3 &&& (3 : Int32))), .unset] [(.int (p3 &&& (3 : Int32)))])) _
    refine XS.iconst X5.here hx rfl (hb hby at_100) ?_
    show Steps p.tables e below (T5.setTop (mkF m 101 #[.val (.int p1), .val (.long q2), .second, .val (.int p3), .val (.int (0 : Int32)), .val (.ref w_BINARY32), .val (.long (2139095040 : Int64)), .second, .val (.long (8388608 : Int64)), .second, .val (.long (q2 &&& (4294967295 : Int64))), .second, .val (.int (p3 &&& (3 : Int32))), .unset] [(.int (2 : Int32)), (.int (p3 &&& (3 : Int32)))])) _
    refine XS.icmpNo X5.here hx rfl (hb hby at_101) rfl (teq hc101).2 ?_
    show Steps p.tables e below (T5.setTop (mkF m 104 #[.val (.int p1), .val (.long q2), .second, .val (.int p3), .val (.int (0 : Int32)), .val (.ref w_BINARY32), .val (.long (2139095040 : Int64)), .second, .val (.long (8388608 : Int64)), .second, .val (.long (q2 &&& (4294967295 : Int64))), .second, .val (.int (p3 &&& (3 : Int32))), .unset] [])) _
    refine XS.lload X5.here hx rfl (hb hby at_104) rfl ?_
    show Steps p.tables e below (T5.setTop (mkF m 106 #[.val (.int p1), .val (.long q2), .second, .val (.int p3), .val (.int (0 : Int32)), .val (.ref w_BINARY32), .val (.long (2139095040 : Int64)), .second, .val (.long (8388608 : Int64)), .second, .val (.long (q2 &&& (4294967295 : Int64))), .second, .val (.int (p3 &&& (3 : Int32))), .unset] [(.long (q2 &&& (4294967295 : Int64)))])) _
    refine XS.lload X5.here hx rfl (hb hby at_106) rfl ?_
    show Steps p.tables e below (T5.setTop (mkF m 108 #[.val (.int p1), .val (.long q2), .second, .val (.int p3), .val (.int (0 : Int32)), .val (.ref w_BINARY32), .val (.long (2139095040 : Int64)), .second, .val (.long (8388608 : Int64)), .second, .val (.long (q2 &&& (4294967295 : Int64))), .second, .val (.int (p3 &&& (3 : Int32))), .unset] [(.long (2139095040 : Int64)), (.long (q2 &&& (4294967295 : Int64)))])) _
    refine XS.lor X5.here hx rfl (hb hby at_108) rfl ?_
    show Steps p.tables e below (T5.setTop (mkF m 109 #[.val (.int p1), .val (.long q2), .second, .val (.int p3), .val (.int (0 : Int32)), .val (.ref w_BINARY32), .val (.long (2139095040 : Int64)), .second, .val (.long (8388608 : Int64)), .second, .val (.long (q2 &&& (4294967295 : Int64))), .second, .val (.int (p3 &&& (3 : Int32))), .unset] [(.long ((q2 &&& (4294967295 : Int64)) ||| (2139095040 : Int64)))])) _
    refine XS.lload X5.here hx rfl (hb hby at_109) rfl ?_
    show Steps p.tables e below (T5.setTop (mkF m 111 #[.val (.int p1), .val (.long q2), .second, .val (.int p3), .val (.int (0 : Int32)), .val (.ref w_BINARY32), .val (.long (2139095040 : Int64)), .second, .val (.long (8388608 : Int64)), .second, .val (.long (q2 &&& (4294967295 : Int64))), .second, .val (.int (p3 &&& (3 : Int32))), .unset] [(.long (8388608 : Int64)), (.long ((q2 &&& (4294967295 : Int64)) ||| (2139095040 : Int64)))])) _
    refine X5.ldc2Long hx hown (mvT hZ (hw _ (List.mem_of_getElem? (i := 19) rfl))) (g := (mkF m 111 #[.val (.int p1), .val (.long q2), .second, .val (.int p3), .val (.int (0 : Int32)), .val (.ref w_BINARY32), .val (.long (2139095040 : Int64)), .second, .val (.long (8388608 : Int64)), .second, .val (.long (q2 &&& (4294967295 : Int64))), .second, .val (.int (p3 &&& (3 : Int32))), .unset] [(.long (8388608 : Int64)), (.long ((q2 &&& (4294967295 : Int64)) ||| (2139095040 : Int64)))])) rfl (hb hby at_111) _ ?_
    show Steps p.tables e below (T5.setTop (mkF m 114 #[.val (.int p1), .val (.long q2), .second, .val (.int p3), .val (.int (0 : Int32)), .val (.ref w_BINARY32), .val (.long (2139095040 : Int64)), .second, .val (.long (8388608 : Int64)), .second, .val (.long (q2 &&& (4294967295 : Int64))), .second, .val (.int (p3 &&& (3 : Int32))), .unset] [(.long (-1 : Int64)), (.long (8388608 : Int64)), (.long ((q2 &&& (4294967295 : Int64)) ||| (2139095040 : Int64)))])) _
    refine XS.lxor X5.here hx rfl (hb hby at_114) rfl ?_
    show Steps p.tables e below (T5.setTop (mkF m 115 #[.val (.int p1), .val (.long q2), .second, .val (.int p3), .val (.int (0 : Int32)), .val (.ref w_BINARY32), .val (.long (2139095040 : Int64)), .second, .val (.long (8388608 : Int64)), .second, .val (.long (q2 &&& (4294967295 : Int64))), .second, .val (.int (p3 &&& (3 : Int32))), .unset] [(.long ((8388608 : Int64) ^^^ (-1 : Int64))), (.long ((q2 &&& (4294967295 : Int64)) ||| (2139095040 : Int64)))])) _
    refine XS.land X5.here hx rfl (hb hby at_115) rfl ?_
    show Steps p.tables e below (T5.setTop (mkF m 116 #[.val (.int p1), .val (.long q2), .second, .val (.int p3), .val (.int (0 : Int32)), .val (.ref w_BINARY32), .val (.long (2139095040 : Int64)), .second, .val (.long (8388608 : Int64)), .second, .val (.long (q2 &&& (4294967295 : Int64))), .second, .val (.int (p3 &&& (3 : Int32))), .unset] [(.long (((q2 &&& (4294967295 : Int64)) ||| (2139095040 : Int64)) &&& ((8388608 : Int64) ^^^ (-1 : Int64))))])) _
    refine XS.lstore X5.here hx rfl (hb hby at_116) rfl (l' := #[.val (.int p1), .val (.long q2), .second, .val (.int p3), .val (.int (0 : Int32)), .val (.ref w_BINARY32), .val (.long (2139095040 : Int64)), .second, .val (.long (8388608 : Int64)), .second, .val (.long (((q2 &&& (4294967295 : Int64)) ||| (2139095040 : Int64)) &&& ((8388608 : Int64) ^^^ (-1 : Int64)))), .second, .val (.int (p3 &&& (3 : Int32))), .unset]) rfl ?_
    show Steps p.tables e below (T5.setTop (mkF m 118 #[.val (.int p1), .val (.long q2), .second, .val (.int p3), .val (.int (0 : Int32)), .val (.ref w_BINARY32), .val (.long (2139095040 : Int64)), .second, .val (.long (8388608 : Int64)), .second, .val (.long (((q2 &&& (4294967295 : Int64)) ||| (2139095040 : Int64)) &&& ((8388608 : Int64) ^^^ (-1 : Int64)))), .second, .val (.int (p3 &&& (3 : Int32))), .unset] [])) _
    refine XS.goto X5.here hx rfl (pc0 := 118) (pc' := 138) rfl (hb hby at_118) (by decide) (by decide) ?_
    show Steps p.tables e below (T5.setTop (mkF m 138 #[.val (.int p1), .val (.long q2), .second, .val (.int p3), .val (.int (0 : Int32)), .val (.ref w_BINARY32), .val (.long (2139095040 : Int64)), .second, .val (.long (8388608 : Int64)), .second, .val (.long (((q2 &&& (4294967295 : Int64)) ||| (2139095040 : Int64)) &&& ((8388608 : Int64) ^^^ (-1 : Int64)))), .second, .val (.int (p3 &&& (3 : Int32))), .unset] [])) _
    refine XS.lload X5.here hx rfl (hb hby at_138) rfl ?_
    show Steps p.tables e below (T5.setTop (mkF m 140 #[.val (.int p1), .val (.long q2), .second, .val (.int p3), .val (.int (0 : Int32)), .val (.ref w_BINARY32), .val (.long (2139095040 : Int64)), .second, .val (.long (8388608 : Int64)), .second, .val (.long (((q2 &&& (4294967295 : Int64)) ||| (2139095040 : Int64)) &&& ((8388608 : Int64) ^^^ (-1 : Int64)))), .second, .val (.int (p3 &&& (3 : Int32))), .unset] [(.long (((q2 &&& (4294967295 : Int64)) ||| (2139095040 : Int64)) &&& ((8388608 : Int64) ^^^ (-1 : Int64))))])) _
    refine XS.lload X5.here hx rfl (hb hby at_140) rfl ?_
    show Steps p.tables e below (T5.setTop (mkF m 142 #[.val (.int p1), .val (.long q2), .second, .val (.int p3), .val (.int (0 : Int32)), .val (.ref w_BINARY32), .val (.long (2139095040 : Int64)), .second, .val (.long (8388608 : Int64)), .second, .val (.long (((q2 &&& (4294967295 : Int64)) ||| (2139095040 : Int64)) &&& ((8388608 : Int64) ^^^ (-1 : Int64)))), .second, .val (.int (p3 &&& (3 : Int32))), .unset] [(.long (2139095040 : Int64)), (.long (((q2 &&& (4294967295 : Int64)) ||| (2139095040 : Int64)) &&& ((8388608 : Int64) ^^^ (-1 : Int64))))])) _
    refine XS.land X5.here hx rfl (hb hby at_142) rfl ?_
    show Steps p.tables e below (T5.setTop (mkF m 143 #[.val (.int p1), .val (.long q2), .second, .val (.int p3), .val (.int (0 : Int32)), .val (.ref w_BINARY32), .val (.long (2139095040 : Int64)), .second, .val (.long (8388608 : Int64)), .second, .val (.long (((q2 &&& (4294967295 : Int64)) ||| (2139095040 : Int64)) &&& ((8388608 : Int64) ^^^ (-1 : Int64)))), .second, .val (.int (p3 &&& (3 : Int32))), .unset] [(.long ((((q2 &&& (4294967295 : Int64)) ||| (2139095040 : Int64)) &&& ((8388608 : Int64) ^^^ (-1 : Int64))) &&& (2139095040 : Int64)))])) _
    refine XS.lload X5.here hx rfl (hb hby at_143) rfl ?_
    show Steps p.tables e below (T5.setTop (mkF m 145 #[.val (.int p1), .val (.long q2), .second, .val (.int p3), .val (.int (0 : Int32)), .val (.ref w_BINARY32), .val (.long (2139095040 : Int64)), .second, .val (.long (8388608 : Int64)), .second, .val (.long (((q2 &&& (4294967295 : Int64)) ||| (2139095040 : Int64)) &&& ((8388608 : Int64) ^^^ (-1 : Int64)))), .second, .val (.int (p3 &&& (3 : Int32))), .unset] [(.long (2139095040 : Int64)), (.long ((((q2 &&& (4294967295 : Int64)) ||| (2139095040 : Int64)) &&& ((8388608 : Int64) ^^^ (-1 : Int64))) &&& (2139095040 : Int64)))])) _
    refine XS.lcmp X5.here hx rfl (hb hby at_145) rfl ?_
    show Steps p.tables e below (T5.setTop (mkF m 146 #[.val (.int p1), .val (.long q2), .second, .val (.int p3), .val (.int (0 : Int32)), .val (.ref w_BINARY32), .val (.long (2139095040 : Int64)), .second, .val (.long (8388608 : Int64)), .second, .val (.long (((q2 &&& (4294967295 : Int64)) ||| (2139095040 : Int64)) &&& ((8388608 : Int64) ^^^ (-1 : Int64)))), .second, .val (.int (p3 &&& (3 : Int32))), .unset] [(.int (lcmpW ((((q2 &&& (4294967295 : Int64)) ||| (2139095040 : Int64)) &&& ((8388608 : Int64) ^^^ (-1 : Int64))) &&& (2139095040 : Int64)) (2139095040 : Int64)))])) _
    refine XS.ifYes X5.here hx rfl (pc0 := 146) (pc' := 153) rfl (hb hby at_146) rfl ((if0 _ _).trans (teq hc146).1) (by decide) (by decide) ?_
    show Steps p.tables e below (T5.setTop (mkF m 153 #[.val (.int p1), .val (.long q2), .second, .val (.int p3), .val (.int (0 : Int32)), .val (.ref w_BINARY32), .val (.long (2139095040 : Int64)), .second, .val (.long (8388608 : Int64)), .second, .val (.long (((q2 &&& (4294967295 : Int64)) ||| (2139095040 : Int64)) &&& ((8388608 : Int64) ^^^ (-1 : Int64)))), .second, .val (.int (p3 &&& (3 : Int32))), .unset] [])) _
    refine XS.iconst X5.here hx rfl (hb hby at_153) ?_
    show Steps p.tables e below (T5.setTop (mkF m 154 #[.val (.int p1), .val (.long q2), .second, .val (.int p3), .val (.int (0 : Int32)), .val (.ref w_BINARY32), .val (.long (2139095040 : Int64)), .second, .val (.long (8388608 : Int64)), .second, .val (.long (((q2 &&& (4294967295 : Int64)) ||| (2139095040 : Int64)) &&& ((8388608 : Int64) ^^^ (-1 : Int64)))), .second, .val (.int (p3 &&& (3 : Int32))), .unset] [(.int (0 : Int32))])) _
    refine XS.istore X5.here hx rfl (hb hby at_154) rfl (l' := #[.val (.int p1), .val (.long q2), .second, .val (.int p3), .val (.int (0 : Int32)), .val (.ref w_BINARY32), .val (.long (2139095040 : Int64)), .second, .val (.long (8388608 : Int64)), .second, .val (.long (((q2 &&& (4294967295 : Int64)) ||| (2139095040 : Int64)) &&& ((8388608 : Int64) ^^^ (-1 : Int64)))), .second, .val (.int (p3 &&& (3 : Int32))), .val (.int (0 : Int32))]) rfl ?_
    show Steps p.tables e below (T5.setTop (mkF m 156 #[.val (.int p1), .val (.long q2), .second, .val (.int p3), .val (.int (0 : Int32)), .val (.ref w_BINARY32), .val (.long (2139095040 : Int64)), .second, .val (.long (8388608 : Int64)), .second, .val (.long (((q2 &&& (4294967295 : Int64)) ||| (2139095040 : Int64)) &&& ((8388608 : Int64) ^^^ (-1 : Int64)))), .second, .val (.int (p3 &&& (3 : Int32))), .val (.int (0 : Int32))] [])) _
    refine XS.aload X5.here hx rfl (hb hby at_156) rfl rfl ?_
    show Steps p.tables e below (T5.setTop (mkF m 158 #[.val (.int p1), .val (.long q2), .second, .val (.int p3), .val (.int (0 : Int32)), .val (.ref w_BINARY32), .val (.long (2139095040 : Int64)), .second, .val (.long (8388608 : Int64)), .second, .val (.long (((q2 &&& (4294967295 : Int64)) ||| (2139095040 : Int64)) &&& ((8388608 : Int64) ^^^ (-1 : Int64)))), .second, .val (.int (p3 &&& (3 : Int32))), .val (.int (0 : Int32))] [(.ref w_BINARY32)])) _
    refine XS.lload X5.here hx rfl (hb hby at_158) rfl ?_
    show Steps p.tables e below (T5.setTop (mkF m 160 #[.val (.int p1), .val (.long q2), .second, .val (.int p3), .val (.int (0 : Int32)), .val (.ref w_BINARY32), .val (.long (2139095040 : Int64)), .second, .val (.long (8388608 : Int64)), .second, .val (.long (((q2 &&& (4294967295 : Int64)) ||| (2139095040 : Int64)) &&& ((8388608 : Int64) ^^^ (-1 : Int64)))), .second, .val (.int (p3 &&& (3 : Int32))), .val (.int (0 : Int32))] [(.long (((q2 &&& (4294967295 : Int64)) ||| (2139095040 : Int64)) &&& ((8388608 : Int64) ^^^ (-1 : Int64)))), (.ref w_BINARY32)])) _
    refine st6.trans ?_
    show Steps p.tables e below (T6.setTop (mkF m 163 #[.val (.int p1), .val (.long q2), .second, .val (.int p3), .val (.int (0 : Int32)), .val (.ref w_BINARY32), .val (.long (2139095040 : Int64)), .second, .val (.long (8388608 : Int64)), .second, .val (.long (((q2 &&& (4294967295 : Int64)) ||| (2139095040 : Int64)) &&& ((8388608 : Int64) ^^^ (-1 : Int64)))), .second, .val (.int (p3 &&& (3 : Int32))), .val (.int (0 : Int32))] [(.int u)])) _
    refine XS.iload X6.here hx rfl (hb hby at_163) rfl ?_
    show Steps p.tables e below (T6.setTop (mkF m 165 #[.val (.int p1), .val (.long q2), .second, .val (.int p3), .val (.int (0 : Int32)), .val (.ref w_BINARY32), .val (.long (2139095040 : Int64)), .second, .val (.long (8388608 : Int64)), .second, .val (.long (((q2 &&& (4294967295 : Int64)) ||| (2139095040 : Int64)) &&& ((8388608 : Int64) ^^^ (-1 : Int64)))), .second, .val (.int (p3 &&& (3 : Int32))), .val (.int (0 : Int32))] [(.int (0 : Int32)), (.int u)])) _
    refine XS.icmpNo X6.here hx rfl (hb hby at_165) rfl (teq (hv165 : u = (0 : Int32))).2 ?_
    show Steps p.tables e below (T6.setTop (mkF m 168 #[.val (.int p1), .val (.long q2), .second, .val (.int p3), .val (.int (0 : Int32)), .val (.ref w_BINARY32), .val (.long (2139095040 : Int64)), .second, .val (.long (8388608 : Int64)), .second, .val (.long (((q2 &&& (4294967295 : Int64)) ||| (2139095040 : Int64)) &&& ((8388608 : Int64) ^^^ (-1 : Int64)))), .second, .val (.int (p3 &&& (3 : Int32))), .val (.int (0 : Int32))] [])) _
    refine XS.iconst X6.here hx rfl (hb hby at_168) ?_
    show Steps p.tables e below (T6.setTop (mkF m 169 #[.val (.int p1), .val (.long q2), .second, .val (.int p3), .val (.int (0 : Int32)), .val (.ref w_BINARY32), .val (.long (2139095040 : Int64)), .second, .val (.long (8388608 : Int64)), .second, .val (.long (((q2 &&& (4294967295 : Int64)) ||| (2139095040 : Int64)) &&& ((8388608 : Int64) ^^^ (-1 : Int64)))), .second, .val (.int (p3 &&& (3 : Int32))), .val (.int (0 : Int32))] [(.int (1 : Int32))])) _
    refine XS.goto X6.here hx rfl (pc0 := 169) (pc' := 173) rfl (hb hby at_169) (by decide) (by decide) ?_
    show Steps p.tables e below (T6.setTop (mkF m 173 #[.val (.int p1), .val (.long q2), .second, .val (.int p3), .val (.int (0 : Int32)), .val (.ref w_BINARY32), .val (.long (2139095040 : Int64)), .second, .val (.long (8388608 : Int64)), .second, .val (.long (((q2 &&& (4294967295 : Int64)) ||| (2139095040 : Int64)) &&& ((8388608 : Int64) ^^^ (-1 : Int64)))), .second, .val (.int (p3 &&& (3 : Int32))), .val (.int (0 : Int32))] [(.int (1 : Int32))])) _
    exact retN X6 hx (t := .boolean) Bd.returns (by simp) (hb hby at_173) hr
  · show Q0 Z h0 n0 _ T6.heap _
    exact ⟨rfl, N6⟩
set_option maxRecDepth 65536 in
set_option maxHeartbeats 40000000 in
theorem rm0_ttttttfff (l : Launch) (Z : State) (a0 : Array Value) (hw : ∀ d ∈ tables_1, d.before a0 Z = true) (ws : List Jvm.Cond) (p1 : Int32) (q2 : Int64) (p3 : Int32) (w_BINARY32 : Addr) (u : Int32) (h0 : Heap) (n0 : Nat) (Z0 : n0 ≤ h0.size) (S_BINARY32 : Sta Z h0 "com/example/fourfold/fourfold/json/FloatFormat" "BINARY32" "Lcom/example/fourfold/fourfold/json/FloatFormat;" (.ref w_BINARY32)) (E_BINARY32 : Exa Z h0 w_BINARY32 "com/example/fourfold/fourfold/json/FloatFormat") (F_fractionBits_BINARY32 : Fld Z h0 w_BINARY32 "com/example/fourfold/fourfold/json/FloatFormat" "fractionBits" "I" (.int (23 : Int32))) (F_specialExponent_BINARY32 : Fld Z h0 w_BINARY32 "com/example/fourfold/fourfold/json/FloatFormat" "specialExponent" "I" (.int (255 : Int32))) (hu : finF (((q2 &&& (4294967295 : Int64)) ||| (2139095040 : Int64)) &&& ((8388608 : Int64) ^^^ (-1 : Int64))) (23 : Int32) (255 : Int32) = u) (hc3 : (p1 &&& (1 : Int32)) = (0 : Int32)) (hc85 : ¬ ((p3 &&& (3 : Int32)) = (1 : Int32))) (hc101 : (p3 &&& (3 : Int32)) = (2 : Int32)) (hc146 : ¬ ((lcmpW ((((q2 &&& (4294967295 : Int64)) ||| (2139095040 : Int64)) &&& ((8388608 : Int64) ^^^ (-1 : Int64))) &&& (2139095040 : Int64)) (2139095040 : Int64)) = (0 : Int32))) (hv165 : u = (1 : Int32)) :
    MetFree l x (head1 (Jvm.Cond.code x code maxLocals ret :: ws) room_1) (fun a U => a = #[(.int p1), (.long q2), (.int p3)] ∧ Z.Warmed39 U.vm ∧ U.heap = h0) (fun _ _ _ _ _ => True) (fun _ U o U' => ∃ v L, o = .returned v ∧ Q0 Z h0 n0 v U'.heap L ∧ FrameEnd U o U' L room_1.cells room_1.slots) := by
  refine MetFree.of_bodySF (plainFor_of_name pn_0) hisR ?_
  intro p e s m args below meth c s₁ Bd hml0 hP hK
  obtain ⟨rfl, hZ, hh⟩ := hP
  have hx := Bd.exec
  have hby := Bd.bytes
  have hml : c.maxLocals = 14 := hml0
  have hown : s.vm.findClass "com/example/fourfold/fourfold/json/FloatFormatIsFinitePinLaw" = some m.cls := findClass_of_methodNamed Bd.named
  have hnm := (name_of_methodNamed Bd.named Bd.method).1
  have X0 : Stand p l e room_1 s m #[(.int p1), (.long q2), (.int p3)] below meth c s₁ [] 0 0 := Stand.of_body Bd
  have e0 : s₁.heap = h0 := by rw [← hh, Bd.state]; rfl
  have N0 := Fr.nil n0
  have pre0 : ∀ t, Steps p.tables e below (s₁.setTop (mkF m 0 #[.val (.int p1), .val (.long q2), .second, .val (.int p3), .unset, .unset, .unset, .unset, .unset, .unset, .unset, .unset, .unset, .unset] [])) t → Steps p.tables e below (s₁.setTop (entryFrame m #[(.int p1), (.long q2), (.int p3)] maxLocals)) t := fun t k => castTop (ef_0 m p1 q2 p3) k
  -- 3. LAWS
  obtain ⟨T5, X5, e5, st5⟩ := getS2 X0 hx hZ hown (host := "") (Or.inl (hw _ (List.mem_of_getElem? (i := 0) rfl))) Via.refl e0 S_BINARY32 (g := (mkF m 24 #[.val (.int p1), .val (.long q2), .second, .val (.int p3), .val (.int (0 : Int32)), .unset, .unset, .unset, .unset, .unset, .unset, .unset, .unset, .unset] [])) rfl (hb hby at_24)
  -- pc 160: com/example/fourfold/fourfold/json/FloatFormat.isFinite by the contract of the body that the receiver's class selects, rm1
  obtain ⟨cq6, kq6, q6a, q6b, q6c⟩ := isOf hZ e5 E_BINARY32
  obtain ⟨_, _, ⟨T6, L6, k6, n6⟩, -, X6, ⟨Lc6, hQ6, l6, y6, z6⟩, st6⟩ := X5.virtualBack hx (y := (⟨"com/example/fourfold/fourfold/json/FloatFormat", "isFinite", "(J)Z"⟩ : MethodName)) (z := (⟨"com/example/fourfold/fourfold/json/FloatFormat", "isFinite", "(J)Z"⟩ : MethodName)) hown (mvT hZ (hw _ (List.mem_of_getElem? (i := 6) rfl))) (mvT hZ (hw _ (List.mem_of_getElem? (i := 7) rfl))) (notFace_of_selects (args := #[]) (mvT hZ (hw _ (List.mem_of_getElem? (i := 9) rfl)))) (mvT hZ (hw _ (List.mem_of_getElem? (i := 9) rfl))) (mvT hZ (hw _ (List.mem_of_getElem? (i := 8) rfl))) (by decide) (backOf (W := 0) (rm1 l Z a0 hw [] w_BINARY32 (((q2 &&& (4294967295 : Int64)) ||| (2139095040 : Int64)) &&& ((8388608 : Int64) ^^^ (-1 : Int64))) (255 : Int32) (23 : Int32) h0 n0 Z0 E_BINARY32 F_specialExponent_BINARY32 F_fractionBits_BINARY32) hZ (hw _ (List.mem_of_getElem? (i := 10) rfl)) (hw _ (List.mem_of_getElem? (i := 1) rfl)) (by decide) (by decide)) q6a q6c (g := (mkF m 160 #[.val (.int p1), .val (.long q2), .second, .val (.int p3), .val (.int (0 : Int32)), .val (.ref w_BINARY32), .val (.long (2139095040 : Int64)), .second, .val (.long (8388608 : Int64)), .second, .val (.long (((q2 &&& (4294967295 : Int64)) ||| (2139095040 : Int64)) &&& ((8388608 : Int64) ^^^ (-1 : Int64)))), .second, .val (.int (p3 &&& (3 : Int32))), .val (.int (1 : Int32))] [(.long (((q2 &&& (4294967295 : Int64)) ||| (2139095040 : Int64)) &&& ((8388608 : Int64) ^^^ (-1 : Int64)))), (.ref w_BINARY32)])) rfl (by rw [hml]; rfl) (Steps.refl _) (argsL := [(.long (((q2 &&& (4294967295 : Int64)) ||| (2139095040 : Int64)) &&& ((8388608 : Int64) ^^^ (-1 : Int64))))]) (rest := []) (lenOf pd_0_0 rfl) rfl (by show 2 * 0 + _ ≤ _; exact Nat.le_of_eq rfl) (hb hby at_160) (fun _ _ => ⟨rfl, e5, (by decide : 0 + 0 ≤ _), (by decide : 0 + 0 ≤ _)⟩)
  dsimp only [Pt.U, Pt.locs, Pt.cells, Pt.slots] at X6 l6 y6 z6 st6 hQ6
  subst l6 y6 z6
  obtain ⟨rv6, N6q, q6⟩ := hQ6
  rw [hu] at rv6
  subst rv6
  have N6 := Fr.app N0 N6q
  obtain ⟨fs, hr, hrun, hended, hW, hsame⟩ := X6.leave (v := some (.int (1 : Int32))) (fun h => by rw [Bd.returns] at h; cases h)
  refine ⟨_, _, pre0 _ ?_, hrun, hended, _, _, rfl, ?_, ⟨_, rfl⟩, hW, hsame.mono (by decide) (by decide)⟩
  -- 4. STEPS
  · show Steps p.tables e below (s₁.setTop (mkF m 0 #[.val (.int p1), .val (.long q2), .second, .val (.int p3), .unset, .unset, .unset, .unset, .unset, .unset, .unset, .unset, .unset, .unset] [])) _
    refine XS.iloadN X0.here hx rfl (hb hby at_0) rfl ?_
    show Steps p.tables e below (s₁.setTop (mkF m 1 #[.val (.int p1), .val (.long q2), .second, .val (.int p3), .unset, .unset, .unset, .unset, .unset, .unset, .unset, .unset, .unset, .unset] [(.int p1)])) _
    refine XS.iconst X0.here hx rfl (hb hby at_1) ?_
    show Steps p.tables e below (s₁.setTop (mkF m 2 #[.val (.int p1), .val (.long q2), .second, .val (.int p3), .unset, .unset, .unset, .unset, .unset, .unset, .unset, .unset, .unset, .unset] [(.int (1 : Int32)), (.int p1)])) _
    refine XS.iand X0.here hx rfl (hb hby at_2) rfl ?_
    show Steps p.tables e below (s₁.setTop (mkF m 3 #[.val (.int p1), .val (.long q2), .second, .val (.int p3), .unset, .unset, .unset, .unset, .unset, .unset, .unset, .unset, .unset, .unset] [(.int (p1 &&& (1 : Int32)))])) _
    refine XS.ifYes X0.here hx rfl (pc0 := 3) (pc' := 10) rfl (hb hby at_3) rfl ((if0 _ _).trans (teq hc3).1) (by decide) (by decide) ?_
    show Steps p.tables e below (s₁.setTop (mkF m 10 #[.val (.int p1), .val (.long q2), .second, .val (.int p3), .unset, .unset, .unset, .unset, .unset, .unset, .unset, .unset, .unset, .unset] [])) _
    refine XS.iconst X0.here hx rfl (hb hby at_10) ?_
    show Steps p.tables e below (s₁.setTop (mkF m 11 #[.val (.int p1), .val (.long q2), .second, .val (.int p3), .unset, .unset, .unset, .unset, .unset, .unset, .unset, .unset, .unset, .unset] [(.int (0 : Int32))])) _
    refine XS.istore X0.here hx rfl (hb hby at_11) rfl (l' := #[.val (.int p1), .val (.long q2), .second, .val (.int p3), .val (.int (0 : Int32)), .unset, .unset, .unset, .unset, .unset, .unset, .unset, .unset, .unset]) rfl ?_
    show Steps p.tables e below (s₁.setTop (mkF m 13 #[.val (.int p1), .val (.long q2), .second, .val (.int p3), .val (.int (0 : Int32)), .unset, .unset, .unset, .unset, .unset, .unset, .unset, .unset, .unset] [])) _
    refine XS.iload X0.here hx rfl (hb hby at_13) rfl ?_
    show Steps p.tables e below (s₁.setTop (mkF m 15 #[.val (.int p1), .val (.long q2), .second, .val (.int p3), .val (.int (0 : Int32)), .unset, .unset, .unset, .unset, .unset, .unset, .unset, .unset, .unset] [(.int (0 : Int32))])) _
    refine XS.ifYes X0.here hx rfl (pc0 := 15) (pc' := 24) rfl (hb hby at_15) rfl ((if0 _ _).trans (teq (rfl : (0 : Int32) = (0 : Int32))).1) (by decide) (by decide) ?_
    show Steps p.tables e below (s₁.setTop (mkF m 24 #[.val (.int p1), .val (.long q2), .second, .val (.int p3), .val (.int (0 : Int32)), .unset, .unset, .unset, .unset, .unset, .unset, .unset, .unset, .unset] [])) _
    refine st5 _ ?_
    show Steps p.tables e below (T5.setTop (mkF m 27 #[.val (.int p1), .val (.long q2), .second, .val (.int p3), .val (.int (0 : Int32)), .unset, .unset, .unset, .unset, .unset, .unset, .unset, .unset, .unset] [(.ref w_BINARY32)])) _
    refine XS.astore X5.here hx rfl (hb hby at_27) rfl rfl (l' := #[.val (.int p1), .val (.long q2), .second, .val (.int p3), .val (.int (0 : Int32)), .val (.ref w_BINARY32), .unset, .unset, .unset, .unset, .unset, .unset, .unset, .unset]) rfl ?_
    show Steps p.tables e below (T5.setTop (mkF m 29 #[.val (.int p1), .val (.long q2), .second, .val (.int p3), .val (.int (0 : Int32)), .val (.ref w_BINARY32), .unset, .unset, .unset, .unset, .unset, .unset, .unset, .unset] [])) _
    refine XS.iload X5.here hx rfl (hb hby at_29) rfl ?_
    show Steps p.tables e below (T5.setTop (mkF m 31 #[.val (.int p1), .val (.long q2), .second, .val (.int p3), .val (.int (0 : Int32)), .val (.ref w_BINARY32), .unset, .unset, .unset, .unset, .unset, .unset, .unset, .unset] [(.int (0 : Int32))])) _
    refine XS.ifYes X5.here hx rfl (pc0 := 31) (pc' := 40) rfl (hb hby at_31) rfl ((if0 _ _).trans (teq (rfl : (0 : Int32) = (0 : Int32))).1) (by decide) (by decide) ?_
    show Steps p.tables e below (T5.setTop (mkF m 40 #[.val (.int p1), .val (.long q2), .second, .val (.int p3), .val (.int (0 : Int32)), .val (.ref w_BINARY32), .unset, .unset, .unset, .unset, .unset, .unset, .unset, .unset] [])) _
    refine X5.ldc2Long hx hown (mvT hZ (hw _ (List.mem_of_getElem? (i := 3) rfl))) (g := (mkF m 40 #[.val (.int p1), .val (.long q2), .second, .val (.int p3), .val (.int (0 : Int32)), .val (.ref w_BINARY32), .unset, .unset, .unset, .unset, .unset, .unset, .unset, .unset] [])) rfl (hb hby at_40) _ ?_
    show Steps p.tables e below (T5.setTop (mkF m 43 #[.val (.int p1), .val (.long q2), .second, .val (.int p3), .val (.int (0 : Int32)), .val (.ref w_BINARY32), .unset, .unset, .unset, .unset, .unset, .unset, .unset, .unset] [(.long (2139095040 : Int64))])) _
    refine XS.lstore X5.here hx rfl (hb hby at_43) rfl (l' := #[.val (.int p1), .val (.long q2), .second, .val (.int p3), .val (.int (0 : Int32)), .val (.ref w_BINARY32), .val (.long (2139095040 : Int64)), .second, .unset, .unset, .unset, .unset, .unset, .unset]) rfl ?_
    show Steps p.tables e below (T5.setTop (mkF m 45 #[.val (.int p1), .val (.long q2), .second, .val (.int p3), .val (.int (0 : Int32)), .val (.ref w_BINARY32), .val (.long (2139095040 : Int64)), .second, .unset, .unset, .unset, .unset, .unset, .unset] [])) _
    refine XS.iload X5.here hx rfl (hb hby at_45) rfl ?_
    show Steps p.tables e below (T5.setTop (mkF m 47 #[.val (.int p1), .val (.long q2), .second, .val (.int p3), .val (.int (0 : Int32)), .val (.ref w_BINARY32), .val (.long (2139095040 : Int64)), .second, .unset, .unset, .unset, .unset, .unset, .unset] [(.int (0 : Int32))])) _
    refine XS.ifYes X5.here hx rfl (pc0 := 47) (pc' := 56) rfl (hb hby at_47) rfl ((if0 _ _).trans (teq (rfl : (0 : Int32) = (0 : Int32))).1) (by decide) (by decide) ?_
    show Steps p.tables e below (T5.setTop (mkF m 56 #[.val (.int p1), .val (.long q2), .second, .val (.int p3), .val (.int (0 : Int32)), .val (.ref w_BINARY32), .val (.long (2139095040 : Int64)), .second, .unset, .unset, .unset, .unset, .unset, .unset] [])) _
    refine X5.ldc2Long hx hown (mvT hZ (hw _ (List.mem_of_getElem? (i := 4) rfl))) (g := (mkF m 56 #[.val (.int p1), .val (.long q2), .second, .val (.int p3), .val (.int (0 : Int32)), .val (.ref w_BINARY32), .val (.long (2139095040 : Int64)), .second, .unset, .unset, .unset, .unset, .unset, .unset] [])) rfl (hb hby at_56) _ ?_
    show Steps p.tables e below (T5.setTop (mkF m 59 #[.val (.int p1), .val (.long q2), .second, .val (.int p3), .val (.int (0 : Int32)), .val (.ref w_BINARY32), .val (.long (2139095040 : Int64)), .second, .unset, .unset, .unset, .unset, .unset, .unset] [(.long (8388608 : Int64))])) _
    refine XS.lstore X5.here hx rfl (hb hby at_59) rfl (l' := #[.val (.int p1), .val (.long q2), .second, .val (.int p3), .val (.int (0 : Int32)), .val (.ref w_BINARY32), .val (.long (2139095040 : Int64)), .second, .val (.long (8388608 : Int64)), .second, .unset, .unset, .unset, .unset]) rfl ?_
    show Steps p.tables e below (T5.setTop (mkF m 61 #[.val (.int p1), .val (.long q2), .second, .val (.int p3), .val (.int (0 : Int32)), .val (.ref w_BINARY32), .val (.long (2139095040 : Int64)), .second, .val (.long (8388608 : Int64)), .second, .unset, .unset, .unset, .unset] [])) _
    refine XS.iload X5.here hx rfl (hb hby at_61) rfl ?_
    show Steps p.tables e below (T5.setTop (mkF m 63 #[.val (.int p1), .val (.long q2), .second, .val (.int p3), .val (.int (0 : Int32)), .val (.ref w_BINARY32), .val (.long (2139095040 : Int64)), .second, .val (.long (8388608 : Int64)), .second, .unset, .unset, .unset, .unset] [(.int (0 : Int32))])) _
    refine XS.ifYes X5.here hx rfl (pc0 := 63) (pc' := 70) rfl (hb hby at_63) rfl ((if0 _ _).trans (teq (rfl : (0 : Int32) = (0 : Int32))).1) (by decide) (by decide) ?_
    show Steps p.tables e below (T5.setTop (mkF m 70 #[.val (.int p1), .val (.long q2), .second, .val (.int p3), .val (.int (0 : Int32)), .val (.ref w_BINARY32), .val (.long (2139095040 : Int64)), .second, .val (.long (8388608 : Int64)), .second, .unset, .unset, .unset, .unset] [])) _
    refine XS.lloadN X5.here hx rfl (hb hby at_70) rfl ?_
    show Steps p.tables e below (T5.setTop (mkF m 71 #[.val (.int p1), .val (.long q2), .second, .val (.int p3), .val (.int (0 : Int32)), .val (.ref w_BINARY32), .val (.long (2139095040 : Int64)), .second, .val (.long (8388608 : Int64)), .second, .unset, .unset, .unset, .unset] [(.long q2)])) _
    refine X5.ldc2Long hx hown (mvT hZ (hw _ (List.mem_of_getElem? (i := 5) rfl))) (g := (mkF m 71 #[.val (.int p1), .val (.long q2), .second, .val (.int p3), .val (.int (0 : Int32)), .val (.ref w_BINARY32), .val (.long (2139095040 : Int64)), .second, .val (.long (8388608 : Int64)), .second, .unset, .unset, .unset, .unset] [(.long q2)])) rfl (hb hby at_71) _ ?_
    show Steps p.tables e below (T5.setTop (mkF m 74 #[.val (.int p1), .val (.long q2), .second, .val (.int p3), .val (.int (0 : Int32)), .val (.ref w_BINARY32), .val (.long (2139095040 : Int64)), .second, .val (.long (8388608 : Int64)), .second, .unset, .unset, .unset, .unset] [(.long (4294967295 : Int64)), (.long q2)])) _
    refine XS.land X5.here hx rfl (hb hby at_74) rfl ?_
    show Steps p.tables e below (T5.setTop (mkF m 75 #[.val (.int p1), .val (.long q2), .second, .val (.int p3), .val (.int (0 : Int32)), .val (.ref w_BINARY32), .val (.long (2139095040 : Int64)), .second, .val (.long (8388608 : Int64)), .second, .unset, .unset, .unset, .unset] [(.long (q2 &&& (4294967295 : Int64)))])) _
    refine XS.lstore X5.here hx rfl (hb hby at_75) rfl (l' := #[.val (.int p1), .val (.long q2), .second, .val (.int p3), .val (.int (0 : Int32)), .val (.ref w_BINARY32), .val (.long (2139095040 : Int64)), .second, .val (.long (8388608 : Int64)), .second, .val (.long (q2 &&& (4294967295 : Int64))), .second, .unset, .unset]) rfl ?_
    show Steps p.tables e below (T5.setTop (mkF m 77 #[.val (.int p1), .val (.long q2), .second, .val (.int p3), .val (.int (0 : Int32)), .val (.ref w_BINARY32), .val (.long (2139095040 : Int64)), .second, .val (.long (8388608 : Int64)), .second, .val (.long (q2 &&& (4294967295 : Int64))), .second, .unset, .unset] [])) _
    refine XS.iloadN X5.here hx rfl (hb hby at_77) rfl ?_
    show Steps p.tables e below (T5.setTop (mkF m 78 #[.val (.int p1), .val (.long q2), .second, .val (.int p3), .val (.int (0 : Int32)), .val (.ref w_BINARY32), .val (.long (2139095040 : Int64)), .second, .val (.long (8388608 : Int64)), .second, .val (.long (q2 &&& (4294967295 : Int64))), .second, .unset, .unset] [(.int p3)])) _
    refine XS.iconst X5.here hx rfl (hb hby at_78) ?_
    show Steps p.tables e below (T5.setTop (mkF m 79 #[.val (.int p1), .val (.long q2), .second, .val (.int p3), .val (.int (0 : Int32)), .val (.ref w_BINARY32), .val (.long (2139095040 : Int64)), .second, .val (.long (8388608 : Int64)), .second, .val (.long (q2 &&& (4294967295 : Int64))), .second, .unset, .unset] [(.int (3 : Int32)), (.int p3)])) _
    refine XS.iand X5.here hx rfl (hb hby at_79) rfl ?_
    show Steps p.tables e below (T5.setTop (mkF m 80 #[.val (.int p1), .val (.long q2), .second, .val (.int p3), .val (.int (0 : Int32)), .val (.ref w_BINARY32), .val (.long (2139095040 : Int64)), .second, .val (.long (8388608 : Int64)), .second, .val (.long (q2 &&& (4294967295 : Int64))), .second, .unset, .unset] [(.int (p3 &&& (3 : Int32)))])) _
    refine XS.istore X5.here hx rfl (hb hby at_80) rfl (l' := #[.val (.int p1), .val (.long q2), .second, .val (.int p3), .val (.int (0 : Int32)), .val (.ref w_BINARY32), .val (.long (2139095040 : Int64)), .second, .val (.long (8388608 : Int64)), .second, .val (.long (q2 &&& (4294967295 : Int64))), .second, .val (.int (p3 &&& (3 : Int32))), .unset]) rfl ?_
    show Steps p.tables e below (T5.setTop (mkF m 82 #[.val (.int p1), .val (.long q2), .second, .val (.int p3), .val (.int (0 : Int32)), .val (.ref w_BINARY32), .val (.long (2139095040 : Int64)), .second, .val (.long (8388608 : Int64)), .second, .val (.long (q2 &&& (4294967295 : Int64))), .second, .val (.int (p3 &&& (3 : Int32))), .unset] [])) _
    refine XS.iload X5.here hx rfl (hb hby at_82) rfl ?_
    show Steps p.tables e below (T5.setTop (mkF m 84 #[.val (.int p1), .val (.long q2), .second, .val (.int p3), .val (.int (0 : Int32)), .val (.ref w_BINARY32), .val (.long (2139095040 : Int64)), .second, .val (.long (8388608 : Int64)), .second, .val (.long (q2 &&& (4294967295 : Int64))), .second, .val (.int (p3 &&& (3 : Int32))), .unset] [(.int (p3 &&& (3 : Int32)))])) _
    refine XS.iconst X5.here hx rfl (hb hby at_84) ?_
    show Steps p.tables e below (T5.setTop (mkF m 85 #[.val (.int p1), .val (.long q2), .second, .val (.int p3), .val (.int (0 : Int32)), .val (.ref w_BINARY32), .val (.long (2139095040 : Int64)), .second, .val (.long (8388608 : Int64)), .second, .val (.long (q2 &&& (4294967295 : Int64))), .second, .val (.int (p3 &&& (3 : Int32))), .unset] [(.int (1 : Int32)), (.int (p3 &&& (3 : Int32)))])) _
    refine XS.icmpYes X5.here hx rfl (pc0 := 85) (pc' := 98) rfl (hb hby at_85) rfl (feq hc85).2 (by decide) (by decide) ?_
    show Steps p.tables e below (T5.setTop (mkF m 98 #[.val (.int p1), .val (.long q2), .second, .val (.int p3), .val (.int (0 : Int32)), .val (.ref w_BINARY32), .val (.long (2139095040 : Int64)), .second, .val (.long (8388608 : Int64)), .second, .val (.long (q2 &&& (4294967295 : Int64))), .second, .val (.int (p3 &&& (3 : Int32))), .unset] [])) _
    refine XS.iload X5.here hx rfl (hb hby at_98) rfl ?_
    show Steps p.tables e below (T5.setTop (mkF m 100 #[.val (.int p1), .val (.long q2), .second, .val (.int p3), .val (.int (0 : Int32)), .val (.ref w_BINARY32), .val (.long (2139095040 : Int64)), .second, .val (.long (8388608 : Int64)), .second, .val (.long (q2 &&& (4294967295 : Int64))), .second, .val (.int (p3 &&& (3 : Int32))), .unset] [(.int (p3 &&& (3 : Int32)))])) _
    refine XS.iconst X5.here hx rfl (hb hby at_100) ?_
    show Steps p.tables e below (T5.setTop (mkF m 101 #[.val (.int p1), .val (.long q2), .second, .val (.int p3), .val (.int (0 : Int32)), .val (.ref w_BINARY32), .val (.long (2139095040 : Int64)), .second, .val (.long (8388608 : Int64)), .second, .val (.long (q2 &&& (4294967295 : Int64))), .second, .val (.int (p3 &&& (3 : Int32))), .unset] [(.int (2 : Int32)), (.int (p3 &&& (3 : Int32)))])) _
    refine XS.icmpNo X5.here hx rfl (hb hby at_101) rfl (teq hc101).2 ?_
    show Steps p.tables e below (T5.setTop (mkF m 104 #[.val (.int p1), .val (.long q2), .second, .val (.int p3), .val (.int (0 : Int32)), .val (.ref w_BINARY32), .val (.long (2139095040 : Int64)), .second, .val (.long (8388608 : Int64)), .second, .val (.long (q2 &&& (4294967295 : Int64))), .second, .val (.int (p3 &&& (3 : Int32))), .unset] [])) _
    refine XS.lload X5.here hx rfl (hb hby at_104) rfl ?_
    show Steps p.tables e below (T5.setTop (mkF m 106 #[.val (.int p1), .val (.long q2), .second, .val (.int p3), .val (.int (0 : Int32)), .val (.ref w_BINARY32), .val (.long (2139095040 : Int64)), .second, .val (.long (8388608 : Int64)), .second, .val (.long (q2 &&& (4294967295 : Int64))), .second, .val (.int (p3 &&& (3 : Int32))), .unset] [(.long (q2 &&& (4294967295 : Int64)))])) _
    refine XS.lload X5.here hx rfl (hb hby at_106) rfl ?_
    show Steps p.tables e below (T5.setTop (mkF m 108 #[.val (.int p1), .val (.long q2), .second, .val (.int p3), .val (.int (0 : Int32)), .val (.ref w_BINARY32), .val (.long (2139095040 : Int64)), .second, .val (.long (8388608 : Int64)), .second, .val (.long (q2 &&& (4294967295 : Int64))), .second, .val (.int (p3 &&& (3 : Int32))), .unset] [(.long (2139095040 : Int64)), (.long (q2 &&& (4294967295 : Int64)))])) _
    refine XS.lor X5.here hx rfl (hb hby at_108) rfl ?_
    show Steps p.tables e below (T5.setTop (mkF m 109 #[.val (.int p1), .val (.long q2), .second, .val (.int p3), .val (.int (0 : Int32)), .val (.ref w_BINARY32), .val (.long (2139095040 : Int64)), .second, .val (.long (8388608 : Int64)), .second, .val (.long (q2 &&& (4294967295 : Int64))), .second, .val (.int (p3 &&& (3 : Int32))), .unset] [(.long ((q2 &&& (4294967295 : Int64)) ||| (2139095040 : Int64)))])) _
    refine XS.lload X5.here hx rfl (hb hby at_109) rfl ?_
    show Steps p.tables e below (T5.setTop (mkF m 111 #[.val (.int p1), .val (.long q2), .second, .val (.int p3), .val (.int (0 : Int32)), .val (.ref w_BINARY32), .val (.long (2139095040 : Int64)), .second, .val (.long (8388608 : Int64)), .second, .val (.long (q2 &&& (4294967295 : Int64))), .second, .val (.int (p3 &&& (3 : Int32))), .unset] [(.long (8388608 : Int64)), (.long ((q2 &&& (4294967295 : Int64)) ||| (2139095040 : Int64)))])) _
    refine X5.ldc2Long hx hown (mvT hZ (hw _ (List.mem_of_getElem? (i := 19) rfl))) (g := (mkF m 111 #[.val (.int p1), .val (.long q2), .second, .val (.int p3), .val (.int (0 : Int32)), .val (.ref w_BINARY32), .val (.long (2139095040 : Int64)), .second, .val (.long (8388608 : Int64)), .second, .val (.long (q2 &&& (4294967295 : Int64))), .second, .val (.int (p3 &&& (3 : Int32))), .unset] [(.long (8388608 : Int64)), (.long ((q2 &&& (4294967295 : Int64)) ||| (2139095040 : Int64)))])) rfl (hb hby at_111) _ ?_
    show Steps p.tables e below (T5.setTop (mkF m 114 #[.val (.int p1), .val (.long q2), .second, .val (.int p3), .val (.int (0 : Int32)), .val (.ref w_BINARY32), .val (.long (2139095040 : Int64)), .second, .val (.long (8388608 : Int64)), .second, .val (.long (q2 &&& (4294967295 : Int64))), .second, .val (.int (p3 &&& (3 : Int32))), .unset] [(.long (-1 : Int64)), (.long (8388608 : Int64)), (.long ((q2 &&& (4294967295 : Int64)) ||| (2139095040 : Int64)))])) _
    refine XS.lxor X5.here hx rfl (hb hby at_114) rfl ?_
    show Steps p.tables e below (T5.setTop (mkF m 115 #[.val (.int p1), .val (.long q2), .second, .val (.int p3), .val (.int (0 : Int32)), .val (.ref w_BINARY32), .val (.long (2139095040 : Int64)), .second, .val (.long (8388608 : Int64)), .second, .val (.long (q2 &&& (4294967295 : Int64))), .second, .val (.int (p3 &&& (3 : Int32))), .unset] [(.long ((8388608 : Int64) ^^^ (-1 : Int64))), (.long ((q2 &&& (4294967295 : Int64)) ||| (2139095040 : Int64)))])) _
    refine XS.land X5.here hx rfl (hb hby at_115) rfl ?_
    show Steps p.tables e below (T5.setTop (mkF m 116 #[.val (.int p1), .val (.long q2), .second, .val (.int p3), .val (.int (0 : Int32)), .val (.ref w_BINARY32), .val (.long (2139095040 : Int64)), .second, .val (.long (8388608 : Int64)), .second, .val (.long (q2 &&& (4294967295 : Int64))), .second, .val (.int (p3 &&& (3 : Int32))), .unset] [(.long (((q2 &&& (4294967295 : Int64)) ||| (2139095040 : Int64)) &&& ((8388608 : Int64) ^^^ (-1 : Int64))))])) _
    refine XS.lstore X5.here hx rfl (hb hby at_116) rfl (l' := #[.val (.int p1), .val (.long q2), .second, .val (.int p3), .val (.int (0 : Int32)), .val (.ref w_BINARY32), .val (.long (2139095040 : Int64)), .second, .val (.long (8388608 : Int64)), .second, .val (.long (((q2 &&& (4294967295 : Int64)) ||| (2139095040 : Int64)) &&& ((8388608 : Int64) ^^^ (-1 : Int64)))), .second, .val (.int (p3 &&& (3 : Int32))), .unset]) rfl ?_
    show Steps p.tables e below (T5.setTop (mkF m 118 #[.val (.int p1), .val (.long q2), .second, .val (.int p3), .val (.int (0 : Int32)), .val (.ref w_BINARY32), .val (.long (2139095040 : Int64)), .second, .val (.long (8388608 : Int64)), .second, .val (.long (((q2 &&& (4294967295 : Int64)) ||| (2139095040 : Int64)) &&& ((8388608 : Int64) ^^^ (-1 : Int64)))), .second, .val (.int (p3 &&& (3 : Int32))), .unset] [])) _
    refine XS.goto X5.here hx rfl (pc0 := 118) (pc' := 138) rfl (hb hby at_118) (by decide) (by decide) ?_
    show Steps p.tables e below (T5.setTop (mkF m 138 #[.val (.int p1), .val (.long q2), .second, .val (.int p3), .val (.int (0 : Int32)), .val (.ref w_BINARY32), .val (.long (2139095040 : Int64)), .second, .val (.long (8388608 : Int64)), .second, .val (.long (((q2 &&& (4294967295 : Int64)) ||| (2139095040 : Int64)) &&& ((8388608 : Int64) ^^^ (-1 : Int64)))), .second, .val (.int (p3 &&& (3 : Int32))), .unset] [])) _
    refine XS.lload X5.here hx rfl (hb hby at_138) rfl ?_
    show Steps p.tables e below (T5.setTop (mkF m 140 #[.val (.int p1), .val (.long q2), .second, .val (.int p3), .val (.int (0 : Int32)), .val (.ref w_BINARY32), .val (.long (2139095040 : Int64)), .second, .val (.long (8388608 : Int64)), .second, .val (.long (((q2 &&& (4294967295 : Int64)) ||| (2139095040 : Int64)) &&& ((8388608 : Int64) ^^^ (-1 : Int64)))), .second, .val (.int (p3 &&& (3 : Int32))), .unset] [(.long (((q2 &&& (4294967295 : Int64)) ||| (2139095040 : Int64)) &&& ((8388608 : Int64) ^^^ (-1 : Int64))))])) _
    refine XS.lload X5.here hx rfl (hb hby at_140) rfl ?_
    show Steps p.tables e below (T5.setTop (mkF m 142 #[.val (.int p1), .val (.long q2), .second, .val (.int p3), .val (.int (0 : Int32)), .val (.ref w_BINARY32), .val (.long (2139095040 : Int64)), .second, .val (.long (8388608 : Int64)), .second, .val (.long (((q2 &&& (4294967295 : Int64)) ||| (2139095040 : Int64)) &&& ((8388608 : Int64) ^^^ (-1 : Int64)))), .second, .val (.int (p3 &&& (3 : Int32))), .unset] [(.long (2139095040 : Int64)), (.long (((q2 &&& (4294967295 : Int64)) ||| (2139095040 : Int64)) &&& ((8388608 : Int64) ^^^ (-1 : Int64))))])) _
    refine XS.land X5.here hx rfl (hb hby at_142) rfl ?_
    show Steps p.tables e below (T5.setTop (mkF m 143 #[.val (.int p1), .val (.long q2), .second, .val (.int p3), .val (.int (0 : Int32)), .val (.ref w_BINARY32), .val (.long (2139095040 : Int64)), .second, .val (.long (8388608 : Int64)), .second, .val (.long (((q2 &&& (4294967295 : Int64)) ||| (2139095040 : Int64)) &&& ((8388608 : Int64) ^^^ (-1 : Int64)))), .second, .val (.int (p3 &&& (3 : Int32))), .unset] [(.long ((((q2 &&& (4294967295 : Int64)) ||| (2139095040 : Int64)) &&& ((8388608 : Int64) ^^^ (-1 : Int64))) &&& (2139095040 : Int64)))])) _
    refine XS.lload X5.here hx rfl (hb hby at_143) rfl ?_
    show Steps p.tables e below (T5.setTop (mkF m 145 #[.val (.int p1), .val (.long q2), .second, .val (.int p3), .val (.int (0 : Int32)), .val (.ref w_BINARY32), .val (.long (2139095040 : Int64)), .second, .val (.long (8388608 : Int64)), .second, .val (.long (((q2 &&& (4294967295 : Int64)) ||| (2139095040 : Int64)) &&& ((8388608 : Int64) ^^^ (-1 : Int64)))), .second, .val (.int (p3 &&& (3 : Int32))), .unset] [(.long (2139095040 : Int64)), (.long ((((q2 &&& (4294967295 : Int64)) ||| (2139095040 : Int64)) &&& ((8388608 : Int64) ^^^ (-1 : Int64))) &&& (2139095040 : Int64)))])) _
    refine XS.lcmp X5.here hx rfl (hb hby at_145) rfl ?_
    show Steps p.tables e below (T5.setTop (mkF m 146 #[.val (.int p1), .val (.long q2), .second, .val (.int p3), .val (.int (0 : Int32)), .val (.ref w_BINARY32), .val (.long (2139095040 : Int64)), .second, .val (.long (8388608 : Int64)), .second, .val (.long (((q2 &&& (4294967295 : Int64)) ||| (2139095040 : Int64)) &&& ((8388608 : Int64) ^^^ (-1 : Int64)))), .second, .val (.int (p3 &&& (3 : Int32))), .unset] [(.int (lcmpW ((((q2 &&& (4294967295 : Int64)) ||| (2139095040 : Int64)) &&& ((8388608 : Int64) ^^^ (-1 : Int64))) &&& (2139095040 : Int64)) (2139095040 : Int64)))])) _
    refine XS.ifNo X5.here hx rfl (hb hby at_146) rfl ((if0 _ _).trans (feq hc146).1) ?_
    show Steps p.tables e below (T5.setTop (mkF m 149 #[.val (.int p1), .val (.long q2), .second, .val (.int p3), .val (.int (0 : Int32)), .val (.ref w_BINARY32), .val (.long (2139095040 : Int64)), .second, .val (.long (8388608 : Int64)), .second, .val (.long (((q2 &&& (4294967295 : Int64)) ||| (2139095040 : Int64)) &&& ((8388608 : Int64) ^^^ (-1 : Int64)))), .second, .val (.int (p3 &&& (3 : Int32))), .unset] [])) _
    refine XS.iconst X5.here hx rfl (hb hby at_149) ?_
    show Steps p.tables e below (T5.setTop (mkF m 150 #[.val (.int p1), .val (.long q2), .second, .val (.int p3), .val (.int (0 : Int32)), .val (.ref w_BINARY32), .val (.long (2139095040 : Int64)), .second, .val (.long (8388608 : Int64)), .second, .val (.long (((q2 &&& (4294967295 : Int64)) ||| (2139095040 : Int64)) &&& ((8388608 : Int64) ^^^ (-1 : Int64)))), .second, .val (.int (p3 &&& (3 : Int32))), .unset] [(.int (1 : Int32))])) _
    refine XS.goto X5.here hx rfl (pc0 := 150) (pc' := 154) rfl (hb hby at_150) (by decide) (by decide) ?_
    show Steps p.tables e below (T5.setTop (mkF m 154 #[.val (.int p1), .val (.long q2), .second, .val (.int p3), .val (.int (0 : Int32)), .val (.ref w_BINARY32), .val (.long (2139095040 : Int64)), .second, .val (.long (8388608 : Int64)), .second, .val (.long (((q2 &&& (4294967295 : Int64)) ||| (2139095040 : Int64)) &&& ((8388608 : Int64) ^^^ (-1 : Int64)))), .second, .val (.int (p3 &&& (3 : Int32))), .unset] [(.int (1 : Int32))])) _
    refine XS.istore X5.here hx rfl (hb hby at_154) rfl (l' := #[.val (.int p1), .val (.long q2), .second, .val (.int p3), .val (.int (0 : Int32)), .val (.ref w_BINARY32), .val (.long (2139095040 : Int64)), .second, .val (.long (8388608 : Int64)), .second, .val (.long (((q2 &&& (4294967295 : Int64)) ||| (2139095040 : Int64)) &&& ((8388608 : Int64) ^^^ (-1 : Int64)))), .second, .val (.int (p3 &&& (3 : Int32))), .val (.int (1 : Int32))]) rfl ?_
    show Steps p.tables e below (T5.setTop (mkF m 156 #[.val (.int p1), .val (.long q2), .second, .val (.int p3), .val (.int (0 : Int32)), .val (.ref w_BINARY32), .val (.long (2139095040 : Int64)), .second, .val (.long (8388608 : Int64)), .second, .val (.long (((q2 &&& (4294967295 : Int64)) ||| (2139095040 : Int64)) &&& ((8388608 : Int64) ^^^ (-1 : Int64)))), .second, .val (.int (p3 &&& (3 : Int32))), .val (.int (1 : Int32))] [])) _
    refine XS.aload X5.here hx rfl (hb hby at_156) rfl rfl ?_
    show Steps p.tables e below (T5.setTop (mkF m 158 #[.val (.int p1), .val (.long q2), .second, .val (.int p3), .val (.int (0 : Int32)), .val (.ref w_BINARY32), .val (.long (2139095040 : Int64)), .second, .val (.long (8388608 : Int64)), .second, .val (.long (((q2 &&& (4294967295 : Int64)) ||| (2139095040 : Int64)) &&& ((8388608 : Int64) ^^^ (-1 : Int64)))), .second, .val (.int (p3 &&& (3 : Int32))), .val (.int (1 : Int32))] [(.ref w_BINARY32)])) _
    refine XS.lload X5.here hx rfl (hb hby at_158) rfl ?_
    show Steps p.tables e below (T5.setTop (mkF m 160 #[.val (.int p1), .val (.long q2), .second, .val (.int p3), .val (.int (0 : Int32)), .val (.ref w_BINARY32), .val (.long (2139095040 : Int64)), .second, .val (.long (8388608 : Int64)), .second, .val (.long (((q2 &&& (4294967295 : Int64)) ||| (2139095040 : Int64)) &&& ((8388608 : Int64) ^^^ (-1 : Int64)))), .second, .val (.int (p3 &&& (3 : Int32))), .val (.int (1 : Int32))] [(.long (((q2 &&& (4294967295 : Int64)) ||| (2139095040 : Int64)) &&& ((8388608 : Int64) ^^^ (-1 : Int64)))), (.ref w_BINARY32)])) _
    refine st6.trans ?_
    show Steps p.tables e below (T6.setTop (mkF m 163 #[.val (.int p1), .val (.long q2), .second, .val (.int p3), .val (.int (0 : Int32)), .val (.ref w_BINARY32), .val (.long (2139095040 : Int64)), .second, .val (.long (8388608 : Int64)), .second, .val (.long (((q2 &&& (4294967295 : Int64)) ||| (2139095040 : Int64)) &&& ((8388608 : Int64) ^^^ (-1 : Int64)))), .second, .val (.int (p3 &&& (3 : Int32))), .val (.int (1 : Int32))] [(.int u)])) _
    refine XS.iload X6.here hx rfl (hb hby at_163) rfl ?_
    show Steps p.tables e below (T6.setTop (mkF m 165 #[.val (.int p1), .val (.long q2), .second, .val (.int p3), .val (.int (0 : Int32)), .val (.ref w_BINARY32), .val (.long (2139095040 : Int64)), .second, .val (.long (8388608 : Int64)), .second, .val (.long (((q2 &&& (4294967295 : Int64)) ||| (2139095040 : Int64)) &&& ((8388608 : Int64) ^^^ (-1 : Int64)))), .second, .val (.int (p3 &&& (3 : Int32))), .val (.int (1 : Int32))] [(.int (1 : Int32)), (.int u)])) _
    refine XS.icmpNo X6.here hx rfl (hb hby at_165) rfl (teq (hv165 : u = (1 : Int32))).2 ?_
    show Steps p.tables e below (T6.setTop (mkF m 168 #[.val (.int p1), .val (.long q2), .second, .val (.int p3), .val (.int (0 : Int32)), .val (.ref w_BINARY32), .val (.long (2139095040 : Int64)), .second, .val (.long (8388608 : Int64)), .second, .val (.long (((q2 &&& (4294967295 : Int64)) ||| (2139095040 : Int64)) &&& ((8388608 : Int64) ^^^ (-1 : Int64)))), .second, .val (.int (p3 &&& (3 : Int32))), .val (.int (1 : Int32))] [])) _
    refine XS.iconst X6.here hx rfl (hb hby at_168) ?_
    show Steps p.tables e below (T6.setTop (mkF m 169 #[.val (.int p1), .val (.long q2), .second, .val (.int p3), .val (.int (0 : Int32)), .val (.ref w_BINARY32), .val (.long (2139095040 : Int64)), .second, .val (.long (8388608 : Int64)), .second, .val (.long (((q2 &&& (4294967295 : Int64)) ||| (2139095040 : Int64)) &&& ((8388608 : Int64) ^^^ (-1 : Int64)))), .second, .val (.int (p3 &&& (3 : Int32))), .val (.int (1 : Int32))] [(.int (1 : Int32))])) _
    refine XS.goto X6.here hx rfl (pc0 := 169) (pc' := 173) rfl (hb hby at_169) (by decide) (by decide) ?_
    show Steps p.tables e below (T6.setTop (mkF m 173 #[.val (.int p1), .val (.long q2), .second, .val (.int p3), .val (.int (0 : Int32)), .val (.ref w_BINARY32), .val (.long (2139095040 : Int64)), .second, .val (.long (8388608 : Int64)), .second, .val (.long (((q2 &&& (4294967295 : Int64)) ||| (2139095040 : Int64)) &&& ((8388608 : Int64) ^^^ (-1 : Int64)))), .second, .val (.int (p3 &&& (3 : Int32))), .val (.int (1 : Int32))] [(.int (1 : Int32))])) _
    exact retN X6 hx (t := .boolean) Bd.returns (by simp) (hb hby at_173) hr
  · show Q0 Z h0 n0 _ T6.heap _
    exact ⟨rfl, N6⟩
set_option maxRecDepth 65536 in
set_option maxHeartbeats 40000000 in
theorem rm0_tttttttftf (l : Launch) (Z : State) (a0 : Array Value) (hw : ∀ d ∈ tables_1, d.before a0 Z = true) (ws : List Jvm.Cond) (p1 : Int32) (q2 : Int64) (p3 : Int32) (w_BINARY32 : Addr) (u : Int32) (h0 : Heap) (n0 : Nat) (Z0 : n0 ≤ h0.size) (S_BINARY32 : Sta Z h0 "com/example/fourfold/fourfold/json/FloatFormat" "BINARY32" "Lcom/example/fourfold/fourfold/json/FloatFormat;" (.ref w_BINARY32)) (E_BINARY32 : Exa Z h0 w_BINARY32 "com/example/fourfold/fourfold/json/FloatFormat") (F_fractionBits_BINARY32 : Fld Z h0 w_BINARY32 "com/example/fourfold/fourfold/json/FloatFormat" "fractionBits" "I" (.int (23 : Int32))) (F_specialExponent_BINARY32 : Fld Z h0 w_BINARY32 "com/example/fourfold/fourfold/json/FloatFormat" "specialExponent" "I" (.int (255 : Int32))) (hu : finF ((q2 &&& (4294967295 : Int64)) &&& ((2139095040 : Int64) ^^^ (-1 : Int64))) (23 : Int32) (255 : Int32) = u) (hc3 : (p1 &&& (1 : Int32)) = (0 : Int32)) (hc85 : ¬ ((p3 &&& (3 : Int32)) = (1 : Int32))) (hc101 : ¬ ((p3 &&& (3 : Int32)) = (2 : Int32))) (hc124 : (p3 &&& (3 : Int32)) = (3 : Int32)) (hc146 : (lcmpW (((q2 &&& (4294967295 : Int64)) &&& ((2139095040 : Int64) ^^^ (-1 : Int64))) &&& (2139095040 : Int64)) (2139095040 : Int64)) = (0 : Int32)) (hv165 : u = (0 : Int32)) :
    MetFree l x (head1 (Jvm.Cond.code x code maxLocals ret :: ws) room_1) (fun a U => a = #[(.int p1), (.long q2), (.int p3)] ∧ Z.Warmed39 U.vm ∧ U.heap = h0) (fun _ _ _ _ _ => True) (fun _ U o U' => ∃ v L, o = .returned v ∧ Q0 Z h0 n0 v U'.heap L ∧ FrameEnd U o U' L room_1.cells room_1.slots) := by
  refine MetFree.of_bodySF (plainFor_of_name pn_0) hisR ?_
  intro p e s m args below meth c s₁ Bd hml0 hP hK
  obtain ⟨rfl, hZ, hh⟩ := hP
  have hx := Bd.exec
  have hby := Bd.bytes
  have hml : c.maxLocals = 14 := hml0
  have hown : s.vm.findClass "com/example/fourfold/fourfold/json/FloatFormatIsFinitePinLaw" = some m.cls := findClass_of_methodNamed Bd.named
  have hnm := (name_of_methodNamed Bd.named Bd.method).1
  have X0 : Stand p l e room_1 s m #[(.int p1), (.long q2), (.int p3)] below meth c s₁ [] 0 0 := Stand.of_body Bd
  have e0 : s₁.heap = h0 := by rw [← hh, Bd.state]; rfl
  have N0 := Fr.nil n0
  have pre0 : ∀ t, Steps p.tables e below (s₁.setTop (mkF m 0 #[.val (.int p1), .val (.long q2), .second, .val (.int p3), .unset, .unset, .unset, .unset, .unset, .unset, .unset, .unset, .unset, .unset] [])) t → Steps p.tables e below (s₁.setTop (entryFrame m #[(.int p1), (.long q2), (.int p3)] maxLocals)) t := fun t k => castTop (ef_0 m p1 q2 p3) k
  -- 3. LAWS
  obtain ⟨T5, X5, e5, st5⟩ := getS2 X0 hx hZ hown (host := "") (Or.inl (hw _ (List.mem_of_getElem? (i := 0) rfl))) Via.refl e0 S_BINARY32 (g := (mkF m 24 #[.val (.int p1), .val (.long q2), .second, .val (.int p3), .val (.int (0 : Int32)), .unset, .unset, .unset, .unset, .unset, .unset, .unset, .unset, .unset] [])) rfl (hb hby at_24)
  -- pc 160: com/example/fourfold/fourfold/json/FloatFormat.isFinite by the contract of the body that the receiver's class selects, rm1
  obtain ⟨cq6, kq6, q6a, q6b, q6c⟩ := isOf hZ e5 E_BINARY32
  obtain ⟨_, _, ⟨T6, L6, k6, n6⟩, -, X6, ⟨Lc6, hQ6, l6, y6, z6⟩, st6⟩ := X5.virtualBack hx (y := (⟨"com/example/fourfold/fourfold/json/FloatFormat", "isFinite", "(J)Z"⟩ : MethodName)) (z := (⟨"com/example/fourfold/fourfold/json/FloatFormat", "isFinite", "(J)Z"⟩ : MethodName)) hown (mvT hZ (hw _ (List.mem_of_getElem? (i := 6) rfl))) (mvT hZ (hw _ (List.mem_of_getElem? (i := 7) rfl))) (notFace_of_selects (args := #[]) (mvT hZ (hw _ (List.mem_of_getElem? (i := 9) rfl)))) (mvT hZ (hw _ (List.mem_of_getElem? (i := 9) rfl))) (mvT hZ (hw _ (List.mem_of_getElem? (i := 8) rfl))) (by decide) (backOf (W := 0) (rm1 l Z a0 hw [] w_BINARY32 ((q2 &&& (4294967295 : Int64)) &&& ((2139095040 : Int64) ^^^ (-1 : Int64))) (255 : Int32) (23 : Int32) h0 n0 Z0 E_BINARY32 F_specialExponent_BINARY32 F_fractionBits_BINARY32) hZ (hw _ (List.mem_of_getElem? (i := 10) rfl)) (hw _ (List.mem_of_getElem? (i := 1) rfl)) (by decide) (by decide)) q6a q6c (g := (mkF m 160 #[.val (.int p1), .val (.long q2), .second, .val (.int p3), .val (.int (0 : Int32)), .val (.ref w_BINARY32), .val (.long (2139095040 : Int64)), .second, .val (.long (8388608 : Int64)), .second, .val (.long ((q2 &&& (4294967295 : Int64)) &&& ((2139095040 : Int64) ^^^ (-1 : Int64)))), .second, .val (.int (p3 &&& (3 : Int32))), .val (.int (0 : Int32))] [(.long ((q2 &&& (4294967295 : Int64)) &&& ((2139095040 : Int64) ^^^ (-1 : Int64)))), (.ref w_BINARY32)])) rfl (by rw [hml]; rfl) (Steps.refl _) (argsL := [(.long ((q2 &&& (4294967295 : Int64)) &&& ((2139095040 : Int64) ^^^ (-1 : Int64))))]) (rest := []) (lenOf pd_0_0 rfl) rfl (by show 2 * 0 + _ ≤ _; exact Nat.le_of_eq rfl) (hb hby at_160) (fun _ _ => ⟨rfl, e5, (by decide : 0 + 0 ≤ _), (by decide : 0 + 0 ≤ _)⟩)
  dsimp only [Pt.U, Pt.locs, Pt.cells, Pt.slots] at X6 l6 y6 z6 st6 hQ6
  subst l6 y6 z6
  obtain ⟨rv6, N6q, q6⟩ := hQ6
  rw [hu] at rv6
  subst rv6
  have N6 := Fr.app N0 N6q
  obtain ⟨fs, hr, hrun, hended, hW, hsame⟩ := X6.leave (v := some (.int (1 : Int32))) (fun h => by rw [Bd.returns] at h; cases h)
  refine ⟨_, _, pre0 _ ?_, hrun, hended, _, _, rfl, ?_, ⟨_, rfl⟩, hW, hsame.mono (by decide) (by decide)⟩
  -- 4. STEPS
  · show Steps p.tables e below (s₁.setTop (mkF m 0 #[.val (.int p1), .val (.long q2), .second, .val (.int p3), .unset, .unset, .unset, .unset, .unset, .unset, .unset, .unset, .unset, .unset] [])) _
    refine XS.iloadN X0.here hx rfl (hb hby at_0) rfl ?_
    show Steps p.tables e below (s₁.setTop (mkF m 1 #[.val (.int p1), .val (.long q2), .second, .val (.int p3), .unset, .unset, .unset, .unset, .unset, .unset, .unset, .unset, .unset, .unset] [(.int p1)])) _
    refine XS.iconst X0.here hx rfl (hb hby at_1) ?_
    show Steps p.tables e below (s₁.setTop (mkF m 2 #[.val (.int p1), .val (.long q2), .second, .val (.int p3), .unset, .unset, .unset, .unset, .unset, .unset, .unset, .unset, .unset, .unset] [(.int (1 : Int32)), (.int p1)])) _
    refine XS.iand X0.here hx rfl (hb hby at_2) rfl ?_
    show Steps p.tables e below (s₁.setTop (mkF m 3 #[.val (.int p1), .val (.long q2), .second, .val (.int p3), .unset, .unset, .unset, .unset, .unset, .unset, .unset, .unset, .unset, .unset] [(.int (p1 &&& (1 : Int32)))])) _
    refine XS.ifYes X0.here hx rfl (pc0 := 3) (pc' := 10) rfl (hb hby at_3) rfl ((if0 _ _).trans (teq hc3).1) (by decide) (by decide) ?_
    show Steps p.tables e below (s₁.setTop (mkF m 10 #[.val (.int p1), .val (.long q2), .second, .val (.int p3), .unset, .unset, .unset, .unset, .unset, .unset, .unset, .unset, .unset, .unset] [])) _
    refine XS.iconst X0.here hx rfl (hb hby at_10) ?_
    show Steps p.tables e below (s₁.setTop (mkF m 11 #[.val (.int p1), .val (.long q2), .second, .val (.int p3), .unset, .unset, .unset, .unset, .unset, .unset, .unset, .unset, .unset, .unset] [(.int (0 : Int32))])) _
    refine XS.istore X0.here hx rfl (hb hby at_11) rfl (l' := #[.val (.int p1), .val (.long q2), .second, .val (.int p3), .val (.int (0 : Int32)), .unset, .unset, .unset, .unset, .unset, .unset, .unset, .unset, .unset]) rfl ?_
    show Steps p.tables e below (s₁.setTop (mkF m 13 #[.val (.int p1), .val (.long q2), .second, .val (.int p3), .val (.int (0 : Int32)), .unset, .unset, .unset, .unset, .unset, .unset, .unset, .unset, .unset] [])) _
    refine XS.iload X0.here hx rfl (hb hby at_13) rfl ?_
    show Steps p.tables e below (s₁.setTop (mkF m 15 #[.val (.int p1), .val (.long q2), .second, .val (.int p3), .val (.int (0 : Int32)), .unset, .unset, .unset, .unset, .unset, .unset, .unset, .unset, .unset] [(.int (0 : Int32))])) _
    refine XS.ifYes X0.here hx rfl (pc0 := 15) (pc' := 24) rfl (hb hby at_15) rfl ((if0 _ _).trans (teq (rfl : (0 : Int32) = (0 : Int32))).1) (by decide) (by decide) ?_
    show Steps p.tables e below (s₁.setTop (mkF m 24 #[.val (.int p1), .val (.long q2), .second, .val (.int p3), .val (.int (0 : Int32)), .unset, .unset, .unset, .unset, .unset, .unset, .unset, .unset, .unset] [])) _
    refine st5 _ ?_
    show Steps p.tables e below (T5.setTop (mkF m 27 #[.val (.int p1), .val (.long q2), .second, .val (.int p3), .val (.int (0 : Int32)), .unset, .unset, .unset, .unset, .unset, .unset, .unset, .unset, .unset] [(.ref w_BINARY32)])) _
    refine XS.astore X5.here hx rfl (hb hby at_27) rfl rfl (l' := #[.val (.int p1), .val (.long q2), .second, .val (.int p3), .val (.int (0 : Int32)), .val (.ref w_BINARY32), .unset, .unset, .unset, .unset, .unset, .unset, .unset, .unset]) rfl ?_
    show Steps p.tables e below (T5.setTop (mkF m 29 #[.val (.int p1), .val (.long q2), .second, .val (.int p3), .val (.int (0 : Int32)), .val (.ref w_BINARY32), .unset, .unset, .unset, .unset, .unset, .unset, .unset, .unset] [])) _
    refine XS.iload X5.here hx rfl (hb hby at_29) rfl ?_
    show Steps p.tables e below (T5.setTop (mkF m 31 #[.val (.int p1), .val (.long q2), .second, .val (.int p3), .val (.int (0 : Int32)), .val (.ref w_BINARY32), .unset, .unset, .unset, .unset, .unset, .unset, .unset, .unset] [(.int (0 : Int32))])) _
    refine XS.ifYes X5.here hx rfl (pc0 := 31) (pc' := 40) rfl (hb hby at_31) rfl ((if0 _ _).trans (teq (rfl : (0 : Int32) = (0 : Int32))).1) (by decide) (by decide) ?_
    show Steps p.tables e below (T5.setTop (mkF m 40 #[.val (.int p1), .val (.long q2), .second, .val (.int p3), .val (.int (0 : Int32)), .val (.ref w_BINARY32), .unset, .unset, .unset, .unset, .unset, .unset, .unset, .unset] [])) _
    refine X5.ldc2Long hx hown (mvT hZ (hw _ (List.mem_of_getElem? (i := 3) rfl))) (g := (mkF m 40 #[.val (.int p1), .val (.long q2), .second, .val (.int p3), .val (.int (0 : Int32)), .val (.ref w_BINARY32), .unset, .unset, .unset, .unset, .unset, .unset, .unset, .unset] [])) rfl (hb hby at_40) _ ?_
    show Steps p.tables e below (T5.setTop (mkF m 43 #[.val (.int p1), .val (.long q2), .second, .val (.int p3), .val (.int (0 : Int32)), .val (.ref w_BINARY32), .unset, .unset, .unset, .unset, .unset, .unset, .unset, .unset] [(.long (2139095040 : Int64))])) _
    refine XS.lstore X5.here hx rfl (hb hby at_43) rfl (l' := #[.val (.int p1), .val (.long q2), .second, .val (.int p3), .val (.int (0 : Int32)), .val (.ref w_BINARY32), .val (.long (2139095040 : Int64)), .second, .unset, .unset, .unset, .unset, .unset, .unset]) rfl ?_
    show Steps p.tables e below (T5.setTop (mkF m 45 #[.val (.int p1), .val (.long q2), .second, .val (.int p3), .val (.int (0 : Int32)), .val (.ref w_BINARY32), .val (.long (2139095040 : Int64)), .second, .unset, .unset, .unset, .unset, .unset, .unset] [])) _
    refine XS.iload X5.here hx rfl (hb hby at_45) rfl ?_
    show Steps p.tables e below (T5.setTop (mkF m 47 #[.val (.int p1), .val (.long q2), .second, .val (.int p3), .val (.int (0 : Int32)), .val (.ref w_BINARY32), .val (.long (2139095040 : Int64)), .second, .unset, .unset, .unset, .unset, .unset, .unset] [(.int (0 : Int32))])) _
    refine XS.ifYes X5.here hx rfl (pc0 := 47) (pc' := 56) rfl (hb hby at_47) rfl ((if0 _ _).trans (teq (rfl : (0 : Int32) = (0 : Int32))).1) (by decide) (by decide) ?_
    show Steps p.tables e below (T5.setTop (mkF m 56 #[.val (.int p1), .val (.long q2), .second, .val (.int p3), .val (.int (0 : Int32)), .val (.ref w_BINARY32), .val (.long (2139095040 : Int64)), .second, .unset, .unset, .unset, .unset, .unset, .unset] [])) _
    refine X5.ldc2Long hx hown (mvT hZ (hw _ (List.mem_of_getElem? (i := 4) rfl))) (g := (mkF m 56 #[.val (.int p1), .val (.long q2), .second, .val (.int p3), .val (.int (0 : Int32)), .val (.ref w_BINARY32), .val (.long (2139095040 : Int64)), .second, .unset, .unset, .unset, .unset, .unset, .unset] [])) rfl (hb hby at_56) _ ?_
    show Steps p.tables e below (T5.setTop (mkF m 59 #[.val (.int p1), .val (.long q2), .second, .val (.int p3), .val (.int (0 : Int32)), .val (.ref w_BINARY32), .val (.long (2139095040 : Int64)), .second, .unset, .unset, .unset, .unset, .unset, .unset] [(.long (8388608 : Int64))])) _
    refine XS.lstore X5.here hx rfl (hb hby at_59) rfl (l' := #[.val (.int p1), .val (.long q2), .second, .val (.int p3), .val (.int (0 : Int32)), .val (.ref w_BINARY32), .val (.long (2139095040 : Int64)), .second, .val (.long (8388608 : Int64)), .second, .unset, .unset, .unset, .unset]) rfl ?_
    show Steps p.tables e below (T5.setTop (mkF m 61 #[.val (.int p1), .val (.long q2), .second, .val (.int p3), .val (.int (0 : Int32)), .val (.ref w_BINARY32), .val (.long (2139095040 : Int64)), .second, .val (.long (8388608 : Int64)), .second, .unset, .unset, .unset, .unset] [])) _
    refine XS.iload X5.here hx rfl (hb hby at_61) rfl ?_
    show Steps p.tables e below (T5.setTop (mkF m 63 #[.val (.int p1), .val (.long q2), .second, .val (.int p3), .val (.int (0 : Int32)), .val (.ref w_BINARY32), .val (.long (2139095040 : Int64)), .second, .val (.long (8388608 : Int64)), .second, .unset, .unset, .unset, .unset] [(.int (0 : Int32))])) _
    refine XS.ifYes X5.here hx rfl (pc0 := 63) (pc' := 70) rfl (hb hby at_63) rfl ((if0 _ _).trans (teq (rfl : (0 : Int32) = (0 : Int32))).1) (by decide) (by decide) ?_
    show Steps p.tables e below (T5.setTop (mkF m 70 #[.val (.int p1), .val (.long q2), .second, .val (.int p3), .val (.int (0 : Int32)), .val (.ref w_BINARY32), .val (.long (2139095040 : Int64)), .second, .val (.long (8388608 : Int64)), .second, .unset, .unset, .unset, .unset] [])) _
    refine XS.lloadN X5.here hx rfl (hb hby at_70) rfl ?_
    show Steps p.tables e below (T5.setTop (mkF m 71 #[.val (.int p1), .val (.long q2), .second, .val (.int p3), .val (.int (0 : Int32)), .val (.ref w_BINARY32), .val (.long (2139095040 : Int64)), .second, .val (.long (8388608 : Int64)), .second, .unset, .unset, .unset, .unset] [(.long q2)])) _
    refine X5.ldc2Long hx hown (mvT hZ (hw _ (List.mem_of_getElem? (i := 5) rfl))) (g := (mkF m 71 #[.val (.int p1), .val (.long q2), .second, .val (.int p3), .val (.int (0 : Int32)), .val (.ref w_BINARY32), .val (.long (2139095040 : Int64)), .second, .val (.long (8388608 : Int64)), .second, .unset, .unset, .unset, .unset] [(.long q2)])) rfl (hb hby at_71) _ ?_
    show Steps p.tables e below (T5.setTop (mkF m 74 #[.val (.int p1), .val (.long q2), .second, .val (.int p3), .val (.int (0 : Int32)), .val (.ref w_BINARY32), .val (.long (2139095040 : Int64)), .second, .val (.long (8388608 : Int64)), .second, .unset, .unset, .unset, .unset] [(.long (4294967295 : Int64)), (.long q2)])) _
    refine XS.land X5.here hx rfl (hb hby at_74) rfl ?_
    show Steps p.tables e below (T5.setTop (mkF m 75 #[.val (.int p1), .val (.long q2), .second, .val (.int p3), .val (.int (0 : Int32)), .val (.ref w_BINARY32), .val (.long (2139095040 : Int64)), .second, .val (.long (8388608 : Int64)), .second, .unset, .unset, .unset, .unset] [(.long (q2 &&& (4294967295 : Int64)))])) _
    refine XS.lstore X5.here hx rfl (hb hby at_75) rfl (l' := #[.val (.int p1), .val (.long q2), .second, .val (.int p3), .val (.int (0 : Int32)), .val (.ref w_BINARY32), .val (.long (2139095040 : Int64)), .second, .val (.long (8388608 : Int64)), .second, .val (.long (q2 &&& (4294967295 : Int64))), .second, .unset, .unset]) rfl ?_
    show Steps p.tables e below (T5.setTop (mkF m 77 #[.val (.int p1), .val (.long q2), .second, .val (.int p3), .val (.int (0 : Int32)), .val (.ref w_BINARY32), .val (.long (2139095040 : Int64)), .second, .val (.long (8388608 : Int64)), .second, .val (.long (q2 &&& (4294967295 : Int64))), .second, .unset, .unset] [])) _
    refine XS.iloadN X5.here hx rfl (hb hby at_77) rfl ?_
    show Steps p.tables e below (T5.setTop (mkF m 78 #[.val (.int p1), .val (.long q2), .second, .val (.int p3), .val (.int (0 : Int32)), .val (.ref w_BINARY32), .val (.long (2139095040 : Int64)), .second, .val (.long (8388608 : Int64)), .second, .val (.long (q2 &&& (4294967295 : Int64))), .second, .unset, .unset] [(.int p3)])) _
    refine XS.iconst X5.here hx rfl (hb hby at_78) ?_
    show Steps p.tables e below (T5.setTop (mkF m 79 #[.val (.int p1), .val (.long q2), .second, .val (.int p3), .val (.int (0 : Int32)), .val (.ref w_BINARY32), .val (.long (2139095040 : Int64)), .second, .val (.long (8388608 : Int64)), .second, .val (.long (q2 &&& (4294967295 : Int64))), .second, .unset, .unset] [(.int (3 : Int32)), (.int p3)])) _
    refine XS.iand X5.here hx rfl (hb hby at_79) rfl ?_
    show Steps p.tables e below (T5.setTop (mkF m 80 #[.val (.int p1), .val (.long q2), .second, .val (.int p3), .val (.int (0 : Int32)), .val (.ref w_BINARY32), .val (.long (2139095040 : Int64)), .second, .val (.long (8388608 : Int64)), .second, .val (.long (q2 &&& (4294967295 : Int64))), .second, .unset, .unset] [(.int (p3 &&& (3 : Int32)))])) _
    refine XS.istore X5.here hx rfl (hb hby at_80) rfl (l' := #[.val (.int p1), .val (.long q2), .second, .val (.int p3), .val (.int (0 : Int32)), .val (.ref w_BINARY32), .val (.long (2139095040 : Int64)), .second, .val (.long (8388608 : Int64)), .second, .val (.long (q2 &&& (4294967295 : Int64))), .second, .val (.int (p3 &&& (3 : Int32))), .unset]) rfl ?_
    show Steps p.tables e below (T5.setTop (mkF m 82 #[.val (.int p1), .val (.long q2), .second, .val (.int p3), .val (.int (0 : Int32)), .val (.ref w_BINARY32), .val (.long (2139095040 : Int64)), .second, .val (.long (8388608 : Int64)), .second, .val (.long (q2 &&& (4294967295 : Int64))), .second, .val (.int (p3 &&& (3 : Int32))), .unset] [])) _
    refine XS.iload X5.here hx rfl (hb hby at_82) rfl ?_
    show Steps p.tables e below (T5.setTop (mkF m 84 #[.val (.int p1), .val (.long q2), .second, .val (.int p3), .val (.int (0 : Int32)), .val (.ref w_BINARY32), .val (.long (2139095040 : Int64)), .second, .val (.long (8388608 : Int64)), .second, .val (.long (q2 &&& (4294967295 : Int64))), .second, .val (.int (p3 &&& (3 : Int32))), .unset] [(.int (p3 &&& (3 : Int32)))])) _
    refine XS.iconst X5.here hx rfl (hb hby at_84) ?_
    show Steps p.tables e below (T5.setTop (mkF m 85 #[.val (.int p1), .val (.long q2), .second, .val (.int p3), .val (.int (0 : Int32)), .val (.ref w_BINARY32), .val (.long (2139095040 : Int64)), .second, .val (.long (8388608 : Int64)), .second, .val (.long (q2 &&& (4294967295 : Int64))), .second, .val (.int (p3 &&& (3 : Int32))), .unset] [(.int (1 : Int32)), (.int (p3 &&& (3 : Int32)))])) _
    refine XS.icmpYes X5.here hx rfl (pc0 := 85) (pc' := 98) rfl (hb hby at_85) rfl (feq hc85).2 (by decide) (by decide) ?_
    show Steps p.tables e below (T5.setTop (mkF m 98 #[.val (.int p1), .val (.long q2), .second, .val (.int p3), .val (.int (0 : Int32)), .val (.ref w_BINARY32), .val (.long (2139095040 : Int64)), .second, .val (.long (8388608 : Int64)), .second, .val (.long (q2 &&& (4294967295 : Int64))), .second, .val (.int (p3 &&& (3 : Int32))), .unset] [])) _
    refine XS.iload X5.here hx rfl (hb hby at_98) rfl ?_
    show Steps p.tables e below (T5.setTop (mkF m 100 #[.val (.int p1), .val (.long q2), .second, .val (.int p3), .val (.int (0 : Int32)), .val (.ref w_BINARY32), .val (.long (2139095040 : Int64)), .second, .val (.long (8388608 : Int64)), .second, .val (.long (q2 &&& (4294967295 : Int64))), .second, .val (.int (p3 &&& (3 : Int32))), .unset] [(.int (p3 &&& (3 : Int32)))])) _
    refine XS.iconst X5.here hx rfl (hb hby at_100) ?_
    show Steps p.tables e below (T5.setTop (mkF m 101 #[.val (.int p1), .val (.long q2), .second, .val (.int p3), .val (.int (0 : Int32)), .val (.ref w_BINARY32), .val (.long (2139095040 : Int64)), .second, .val (.long (8388608 : Int64)), .second, .val (.long (q2 &&& (4294967295 : Int64))), .second, .val (.int (p3 &&& (3 : Int32))), .unset] [(.int (2 : Int32)), (.int (p3 &&& (3 : Int32)))])) _
    refine XS.icmpYes X5.here hx rfl (pc0 := 101) (pc' := 121) rfl (hb hby at_101) rfl (feq hc101).2 (by decide) (by decide) ?_
    show Steps p.tables e below (T5.setTop (mkF m 121 #[.val (.int p1), .val (.long q2), .second, .val (.int p3), .val (.int (0 : Int32)), .val (.ref w_BINARY32), .val (.long (2139095040 : Int64)), .second, .val (.long (8388608 : Int64)), .second, .val (.long (q2 &&& (4294967295 : Int64))), .second, .val (.int (p3 &&& (3 : Int32))), .unset] [])) _
    refine XS.iload X5.here hx rfl (hb hby at_121) rfl ?_
    show Steps p.tables e below (T5.setTop (mkF m 123 #[.val (.int p1), .val (.long q2), .second, .val (.int p3), .val (.int (0 : Int32)), .val (.ref w_BINARY32), .val (.long (2139095040 : Int64)), .second, .val (.long (8388608 : Int64)), .second, .val (.long (q2 &&& (4294967295 : Int64))), .second, .val (.int (p3 &&& (3 : Int32))), .unset] [(.int (p3 &&& (3 : Int32)))])) _
    refine XS.iconst X5.here hx rfl (hb hby at_123) ?_
    show Steps p.tables e below (T5.setTop (mkF m 124 #[.val (.int p1), .val (.long q2), .second, .val (.int p3), .val (.int (0 : Int32)), .val (.ref w_BINARY32), .val (.long (2139095040 : Int64)), .second, .val (.long (8388608 : Int64)), .second, .val (.long (q2 &&& (4294967295 : Int64))), .second, .val (.int (p3 &&& (3 : Int32))), .unset] [(.int (3 : Int32)), (.int (p3 &&& (3 : Int32)))])) _
    refine XS.icmpNo X5.here hx rfl (hb hby at_124) rfl (teq hc124).2 ?_
    show Steps p.tables e below (T5.setTop (mkF m 127 #[.val (.int p1), .val (.long q2), .second, .val (.int p3), .val (.int (0 : Int32)), .val (.ref w_BINARY32), .val (.long (2139095040 : Int64)), .second, .val (.long (8388608 : Int64)), .second, .val (.long (q2 &&& (4294967295 : Int64))), .second, .val (.int (p3 &&& (3 : Int32))), .unset] [])) _
    refine XS.lload X5.here hx rfl (hb hby at_127) rfl ?_
    show Steps p.tables e below (T5.setTop (mkF m 129 #[.val (.int p1), .val (.long q2), .second, .val (.int p3), .val (.int (0 : Int32)), .val (.ref w_BINARY32), .val (.long (2139095040 : Int64)), .second, .val (.long (8388608 : Int64)), .second, .val (.long (q2 &&& (4294967295 : Int64))), .second, .val (.int (p3 &&& (3 : Int32))), .unset] [(.long (q2 &&& (4294967295 : Int64)))])) _
    refine XS.lload X5.here hx rfl (hb hby at_129) rfl ?_
    show Steps p.tables e below (T5.setTop (mkF m 131 #[.val (.int p1), .val (.long q2), .second, .val (.int p3), .val (.int (0 : Int32)), .val (.ref w_BINARY32), .val (.long (2139095040 : Int64)), .second, .val (.long (8388608 : Int64)), .second, .val (.long (q2 &&& (4294967295 : Int64))), .second, .val (.int (p3 &&& (3 : Int32))), .unset] [(.long (2139095040 : Int64)), (.long (q2 &&& (4294967295 : Int64)))])) _
    refine X5.ldc2Long hx hown (mvT hZ (hw _ (List.mem_of_getElem? (i := 19) rfl))) (g := (mkF m 131 #[.val (.int p1), .val (.long q2), .second, .val (.int p3), .val (.int (0 : Int32)), .val (.ref w_BINARY32), .val (.long (2139095040 : Int64)), .second, .val (.long (8388608 : Int64)), .second, .val (.long (q2 &&& (4294967295 : Int64))), .second, .val (.int (p3 &&& (3 : Int32))), .unset] [(.long (2139095040 : Int64)), (.long (q2 &&& (4294967295 : Int64)))])) rfl (hb hby at_131) _ ?_
    show Steps p.tables e below (T5.setTop (mkF m 134 #[.val (.int p1), .val (.long q2), .second, .val (.int p3), .val (.int (0 : Int32)), .val (.ref w_BINARY32), .val (.long (2139095040 : Int64)), .second, .val (.long (8388608 : Int64)), .second, .val (.long (q2 &&& (4294967295 : Int64))), .second, .val (.int (p3 &&& (3 : Int32))), .unset] [(.long (-1 : Int64)), (.long (2139095040 : Int64)), (.long (q2 &&& (4294967295 : Int64)))])) _
    refine XS.lxor X5.here hx rfl (hb hby at_134) rfl ?_
    show Steps p.tables e below (T5.setTop (mkF m 135 #[.val (.int p1), .val (.long q2), .second, .val (.int p3), .val (.int (0 : Int32)), .val (.ref w_BINARY32), .val (.long (2139095040 : Int64)), .second, .val (.long (8388608 : Int64)), .second, .val (.long (q2 &&& (4294967295 : Int64))), .second, .val (.int (p3 &&& (3 : Int32))), .unset] [(.long ((2139095040 : Int64) ^^^ (-1 : Int64))), (.long (q2 &&& (4294967295 : Int64)))])) _
    refine XS.land X5.here hx rfl (hb hby at_135) rfl ?_
    show Steps p.tables e below (T5.setTop (mkF m 136 #[.val (.int p1), .val (.long q2), .second, .val (.int p3), .val (.int (0 : Int32)), .val (.ref w_BINARY32), .val (.long (2139095040 : Int64)), .second, .val (.long (8388608 : Int64)), .second, .val (.long (q2 &&& (4294967295 : Int64))), .second, .val (.int (p3 &&& (3 : Int32))), .unset] [(.long ((q2 &&& (4294967295 : Int64)) &&& ((2139095040 : Int64) ^^^ (-1 : Int64))))])) _
    refine XS.lstore X5.here hx rfl (hb hby at_136) rfl (l' := #[.val (.int p1), .val (.long q2), .second, .val (.int p3), .val (.int (0 : Int32)), .val (.ref w_BINARY32), .val (.long (2139095040 : Int64)), .second, .val (.long (8388608 : Int64)), .second, .val (.long ((q2 &&& (4294967295 : Int64)) &&& ((2139095040 : Int64) ^^^ (-1 : Int64)))), .second, .val (.int (p3 &&& (3 : Int32))), .unset]) rfl ?_
    show Steps p.tables e below (T5.setTop (mkF m 138 #[.val (.int p1), .val (.long q2), .second, .val (.int p3), .val (.int (0 : Int32)), .val (.ref w_BINARY32), .val (.long (2139095040 : Int64)), .second, .val (.long (8388608 : Int64)), .second, .val (.long ((q2 &&& (4294967295 : Int64)) &&& ((2139095040 : Int64) ^^^ (-1 : Int64)))), .second, .val (.int (p3 &&& (3 : Int32))), .unset] [])) _
    refine XS.lload X5.here hx rfl (hb hby at_138) rfl ?_
    show Steps p.tables e below (T5.setTop (mkF m 140 #[.val (.int p1), .val (.long q2), .second, .val (.int p3), .val (.int (0 : Int32)), .val (.ref w_BINARY32), .val (.long (2139095040 : Int64)), .second, .val (.long (8388608 : Int64)), .second, .val (.long ((q2 &&& (4294967295 : Int64)) &&& ((2139095040 : Int64) ^^^ (-1 : Int64)))), .second, .val (.int (p3 &&& (3 : Int32))), .unset] [(.long ((q2 &&& (4294967295 : Int64)) &&& ((2139095040 : Int64) ^^^ (-1 : Int64))))])) _
    refine XS.lload X5.here hx rfl (hb hby at_140) rfl ?_
    show Steps p.tables e below (T5.setTop (mkF m 142 #[.val (.int p1), .val (.long q2), .second, .val (.int p3), .val (.int (0 : Int32)), .val (.ref w_BINARY32), .val (.long (2139095040 : Int64)), .second, .val (.long (8388608 : Int64)), .second, .val (.long ((q2 &&& (4294967295 : Int64)) &&& ((2139095040 : Int64) ^^^ (-1 : Int64)))), .second, .val (.int (p3 &&& (3 : Int32))), .unset] [(.long (2139095040 : Int64)), (.long ((q2 &&& (4294967295 : Int64)) &&& ((2139095040 : Int64) ^^^ (-1 : Int64))))])) _
    refine XS.land X5.here hx rfl (hb hby at_142) rfl ?_
    show Steps p.tables e below (T5.setTop (mkF m 143 #[.val (.int p1), .val (.long q2), .second, .val (.int p3), .val (.int (0 : Int32)), .val (.ref w_BINARY32), .val (.long (2139095040 : Int64)), .second, .val (.long (8388608 : Int64)), .second, .val (.long ((q2 &&& (4294967295 : Int64)) &&& ((2139095040 : Int64) ^^^ (-1 : Int64)))), .second, .val (.int (p3 &&& (3 : Int32))), .unset] [(.long (((q2 &&& (4294967295 : Int64)) &&& ((2139095040 : Int64) ^^^ (-1 : Int64))) &&& (2139095040 : Int64)))])) _
    refine XS.lload X5.here hx rfl (hb hby at_143) rfl ?_
    show Steps p.tables e below (T5.setTop (mkF m 145 #[.val (.int p1), .val (.long q2), .second, .val (.int p3), .val (.int (0 : Int32)), .val (.ref w_BINARY32), .val (.long (2139095040 : Int64)), .second, .val (.long (8388608 : Int64)), .second, .val (.long ((q2 &&& (4294967295 : Int64)) &&& ((2139095040 : Int64) ^^^ (-1 : Int64)))), .second, .val (.int (p3 &&& (3 : Int32))), .unset] [(.long (2139095040 : Int64)), (.long (((q2 &&& (4294967295 : Int64)) &&& ((2139095040 : Int64) ^^^ (-1 : Int64))) &&& (2139095040 : Int64)))])) _
    refine XS.lcmp X5.here hx rfl (hb hby at_145) rfl ?_
    show Steps p.tables e below (T5.setTop (mkF m 146 #[.val (.int p1), .val (.long q2), .second, .val (.int p3), .val (.int (0 : Int32)), .val (.ref w_BINARY32), .val (.long (2139095040 : Int64)), .second, .val (.long (8388608 : Int64)), .second, .val (.long ((q2 &&& (4294967295 : Int64)) &&& ((2139095040 : Int64) ^^^ (-1 : Int64)))), .second, .val (.int (p3 &&& (3 : Int32))), .unset] [(.int (lcmpW (((q2 &&& (4294967295 : Int64)) &&& ((2139095040 : Int64) ^^^ (-1 : Int64))) &&& (2139095040 : Int64)) (2139095040 : Int64)))])) _
    refine XS.ifYes X5.here hx rfl (pc0 := 146) (pc' := 153) rfl (hb hby at_146) rfl ((if0 _ _).trans (teq hc146).1) (by decide) (by decide) ?_
    show Steps p.tables e below (T5.setTop (mkF m 153 #[.val (.int p1), .val (.long q2), .second, .val (.int p3), .val (.int (0 : Int32)), .val (.ref w_BINARY32), .val (.long (2139095040 : Int64)), .second, .val (.long (8388608 : Int64)), .second, .val (.long ((q2 &&& (4294967295 : Int64)) &&& ((2139095040 : Int64) ^^^ (-1 : Int64)))), .second, .val (.int (p3 &&& (3 : Int32))), .unset] [])) _
    refine XS.iconst X5.here hx rfl (hb hby at_153) ?_
    show Steps p.tables e below (T5.setTop (mkF m 154 #[.val (.int p1), .val (.long q2), .second, .val (.int p3), .val (.int (0 : Int32)), .val (.ref w_BINARY32), .val (.long (2139095040 : Int64)), .second, .val (.long (8388608 : Int64)), .second, .val (.long ((q2 &&& (4294967295 : Int64)) &&& ((2139095040 : Int64) ^^^ (-1 : Int64)))), .second, .val (.int (p3 &&& (3 : Int32))), .unset] [(.int (0 : Int32))])) _
    refine XS.istore X5.here hx rfl (hb hby at_154) rfl (l' := #[.val (.int p1), .val (.long q2), .second, .val (.int p3), .val (.int (0 : Int32)), .val (.ref w_BINARY32), .val (.long (2139095040 : Int64)), .second, .val (.long (8388608 : Int64)), .second, .val (.long ((q2 &&& (4294967295 : Int64)) &&& ((2139095040 : Int64) ^^^ (-1 : Int64)))), .second, .val (.int (p3 &&& (3 : Int32))), .val (.int (0 : Int32))]) rfl ?_
    show Steps p.tables e below (T5.setTop (mkF m 156 #[.val (.int p1), .val (.long q2), .second, .val (.int p3), .val (.int (0 : Int32)), .val (.ref w_BINARY32), .val (.long (2139095040 : Int64)), .second, .val (.long (8388608 : Int64)), .second, .val (.long ((q2 &&& (4294967295 : Int64)) &&& ((2139095040 : Int64) ^^^ (-1 : Int64)))), .second, .val (.int (p3 &&& (3 : Int32))), .val (.int (0 : Int32))] [])) _
    refine XS.aload X5.here hx rfl (hb hby at_156) rfl rfl ?_
    show Steps p.tables e below (T5.setTop (mkF m 158 #[.val (.int p1), .val (.long q2), .second, .val (.int p3), .val (.int (0 : Int32)), .val (.ref w_BINARY32), .val (.long (2139095040 : Int64)), .second, .val (.long (8388608 : Int64)), .second, .val (.long ((q2 &&& (4294967295 : Int64)) &&& ((2139095040 : Int64) ^^^ (-1 : Int64)))), .second, .val (.int (p3 &&& (3 : Int32))), .val (.int (0 : Int32))] [(.ref w_BINARY32)])) _
    refine XS.lload X5.here hx rfl (hb hby at_158) rfl ?_
    show Steps p.tables e below (T5.setTop (mkF m 160 #[.val (.int p1), .val (.long q2), .second, .val (.int p3), .val (.int (0 : Int32)), .val (.ref w_BINARY32), .val (.long (2139095040 : Int64)), .second, .val (.long (8388608 : Int64)), .second, .val (.long ((q2 &&& (4294967295 : Int64)) &&& ((2139095040 : Int64) ^^^ (-1 : Int64)))), .second, .val (.int (p3 &&& (3 : Int32))), .val (.int (0 : Int32))] [(.long ((q2 &&& (4294967295 : Int64)) &&& ((2139095040 : Int64) ^^^ (-1 : Int64)))), (.ref w_BINARY32)])) _
    refine st6.trans ?_
    show Steps p.tables e below (T6.setTop (mkF m 163 #[.val (.int p1), .val (.long q2), .second, .val (.int p3), .val (.int (0 : Int32)), .val (.ref w_BINARY32), .val (.long (2139095040 : Int64)), .second, .val (.long (8388608 : Int64)), .second, .val (.long ((q2 &&& (4294967295 : Int64)) &&& ((2139095040 : Int64) ^^^ (-1 : Int64)))), .second, .val (.int (p3 &&& (3 : Int32))), .val (.int (0 : Int32))] [(.int u)])) _
    refine XS.iload X6.here hx rfl (hb hby at_163) rfl ?_
    show Steps p.tables e below (T6.setTop (mkF m 165 #[.val (.int p1), .val (.long q2), .second, .val (.int p3), .val (.int (0 : Int32)), .val (.ref w_BINARY32), .val (.long (2139095040 : Int64)), .second, .val (.long (8388608 : Int64)), .second, .val (.long ((q2 &&& (4294967295 : Int64)) &&& ((2139095040 : Int64) ^^^ (-1 : Int64)))), .second, .val (.int (p3 &&& (3 : Int32))), .val (.int (0 : Int32))] [(.int (0 : Int32)), (.int u)])) _
    refine XS.icmpNo X6.here hx rfl (hb hby at_165) rfl (teq (hv165 : u = (0 : Int32))).2 ?_
    show Steps p.tables e below (T6.setTop (mkF m 168 #[.val (.int p1), .val (.long q2), .second, .val (.int p3), .val (.int (0 : Int32)), .val (.ref w_BINARY32), .val (.long (2139095040 : Int64)), .second, .val (.long (8388608 : Int64)), .second, .val (.long ((q2 &&& (4294967295 : Int64)) &&& ((2139095040 : Int64) ^^^ (-1 : Int64)))), .second, .val (.int (p3 &&& (3 : Int32))), .val (.int (0 : Int32))] [])) _
    refine XS.iconst X6.here hx rfl (hb hby at_168) ?_
    show Steps p.tables e below (T6.setTop (mkF m 169 #[.val (.int p1), .val (.long q2), .second, .val (.int p3), .val (.int (0 : Int32)), .val (.ref w_BINARY32), .val (.long (2139095040 : Int64)), .second, .val (.long (8388608 : Int64)), .second, .val (.long ((q2 &&& (4294967295 : Int64)) &&& ((2139095040 : Int64) ^^^ (-1 : Int64)))), .second, .val (.int (p3 &&& (3 : Int32))), .val (.int (0 : Int32))] [(.int (1 : Int32))])) _
    refine XS.goto X6.here hx rfl (pc0 := 169) (pc' := 173) rfl (hb hby at_169) (by decide) (by decide) ?_
    show Steps p.tables e below (T6.setTop (mkF m 173 #[.val (.int p1), .val (.long q2), .second, .val (.int p3), .val (.int (0 : Int32)), .val (.ref w_BINARY32), .val (.long (2139095040 : Int64)), .second, .val (.long (8388608 : Int64)), .second, .val (.long ((q2 &&& (4294967295 : Int64)) &&& ((2139095040 : Int64) ^^^ (-1 : Int64)))), .second, .val (.int (p3 &&& (3 : Int32))), .val (.int (0 : Int32))] [(.int (1 : Int32))])) _
    exact retN X6 hx (t := .boolean) Bd.returns (by simp) (hb hby at_173) hr
  · show Q0 Z h0 n0 _ T6.heap _
    exact ⟨rfl, N6⟩
set_option maxRecDepth 65536 in
set_option maxHeartbeats 40000000 in
theorem rm0_tttttttfff (l : Launch) (Z : State) (a0 : Array Value) (hw : ∀ d ∈ tables_1, d.before a0 Z = true) (ws : List Jvm.Cond) (p1 : Int32) (q2 : Int64) (p3 : Int32) (w_BINARY32 : Addr) (u : Int32) (h0 : Heap) (n0 : Nat) (Z0 : n0 ≤ h0.size) (S_BINARY32 : Sta Z h0 "com/example/fourfold/fourfold/json/FloatFormat" "BINARY32" "Lcom/example/fourfold/fourfold/json/FloatFormat;" (.ref w_BINARY32)) (E_BINARY32 : Exa Z h0 w_BINARY32 "com/example/fourfold/fourfold/json/FloatFormat") (F_fractionBits_BINARY32 : Fld Z h0 w_BINARY32 "com/example/fourfold/fourfold/json/FloatFormat" "fractionBits" "I" (.int (23 : Int32))) (F_specialExponent_BINARY32 : Fld Z h0 w_BINARY32 "com/example/fourfold/fourfold/json/FloatFormat" "specialExponent" "I" (.int (255 : Int32))) (hu : finF ((q2 &&& (4294967295 : Int64)) &&& ((2139095040 : Int64) ^^^ (-1 : Int64))) (23 : Int32) (255 : Int32) = u) (hc3 : (p1 &&& (1 : Int32)) = (0 : Int32)) (hc85 : ¬ ((p3 &&& (3 : Int32)) = (1 : Int32))) (hc101 : ¬ ((p3 &&& (3 : Int32)) = (2 : Int32))) (hc124 : (p3 &&& (3 : Int32)) = (3 : Int32)) (hc146 : ¬ ((lcmpW (((q2 &&& (4294967295 : Int64)) &&& ((2139095040 : Int64) ^^^ (-1 : Int64))) &&& (2139095040 : Int64)) (2139095040 : Int64)) = (0 : Int32))) (hv165 : u = (1 : Int32)) :
    MetFree l x (head1 (Jvm.Cond.code x code maxLocals ret :: ws) room_1) (fun a U => a = #[(.int p1), (.long q2), (.int p3)] ∧ Z.Warmed39 U.vm ∧ U.heap = h0) (fun _ _ _ _ _ => True) (fun _ U o U' => ∃ v L, o = .returned v ∧ Q0 Z h0 n0 v U'.heap L ∧ FrameEnd U o U' L room_1.cells room_1.slots) := by
  refine MetFree.of_bodySF (plainFor_of_name pn_0) hisR ?_
  intro p e s m args below meth c s₁ Bd hml0 hP hK
  obtain ⟨rfl, hZ, hh⟩ := hP
  have hx := Bd.exec
  have hby := Bd.bytes
  have hml : c.maxLocals = 14 := hml0
  have hown : s.vm.findClass "com/example/fourfold/fourfold/json/FloatFormatIsFinitePinLaw" = some m.cls := findClass_of_methodNamed Bd.named
  have hnm := (name_of_methodNamed Bd.named Bd.method).1
  have X0 : Stand p l e room_1 s m #[(.int p1), (.long q2), (.int p3)] below meth c s₁ [] 0 0 := Stand.of_body Bd
  have e0 : s₁.heap = h0 := by rw [← hh, Bd.state]; rfl
  have N0 := Fr.nil n0
  have pre0 : ∀ t, Steps p.tables e below (s₁.setTop (mkF m 0 #[.val (.int p1), .val (.long q2), .second, .val (.int p3), .unset, .unset, .unset, .unset, .unset, .unset, .unset, .unset, .unset, .unset] [])) t → Steps p.tables e below (s₁.setTop (entryFrame m #[(.int p1), (.long q2), (.int p3)] maxLocals)) t := fun t k => castTop (ef_0 m p1 q2 p3) k
  -- 3. LAWS
  obtain ⟨T5, X5, e5, st5⟩ := getS2 X0 hx hZ hown (host := "") (Or.inl (hw _ (List.mem_of_getElem? (i := 0) rfl))) Via.refl e0 S_BINARY32 (g := (mkF m 24 #[.val (.int p1), .val (.long q2), .second, .val (.int p3), .val (.int (0 : Int32)), .unset, .unset, .unset, .unset, .unset, .unset, .unset, .unset, .unset] [])) rfl (hb hby at_24)
  -- pc 160: com/example/fourfold/fourfold/json/FloatFormat.isFinite by the contract of the body that the receiver's class selects, rm1
  obtain ⟨cq6, kq6, q6a, q6b, q6c⟩ := isOf hZ e5 E_BINARY32
  obtain ⟨_, _, ⟨T6, L6, k6, n6⟩, -, X6, ⟨Lc6, hQ6, l6, y6, z6⟩, st6⟩ := X5.virtualBack hx (y := (⟨"com/example/fourfold/fourfold/json/FloatFormat", "isFinite", "(J)Z"⟩ : MethodName)) (z := (⟨"com/example/fourfold/fourfold/json/FloatFormat", "isFinite", "(J)Z"⟩ : MethodName)) hown (mvT hZ (hw _ (List.mem_of_getElem? (i := 6) rfl))) (mvT hZ (hw _ (List.mem_of_getElem? (i := 7) rfl))) (notFace_of_selects (args := #[]) (mvT hZ (hw _ (List.mem_of_getElem? (i := 9) rfl)))) (mvT hZ (hw _ (List.mem_of_getElem? (i := 9) rfl))) (mvT hZ (hw _ (List.mem_of_getElem? (i := 8) rfl))) (by decide) (backOf (W := 0) (rm1 l Z a0 hw [] w_BINARY32 ((q2 &&& (4294967295 : Int64)) &&& ((2139095040 : Int64) ^^^ (-1 : Int64))) (255 : Int32) (23 : Int32) h0 n0 Z0 E_BINARY32 F_specialExponent_BINARY32 F_fractionBits_BINARY32) hZ (hw _ (List.mem_of_getElem? (i := 10) rfl)) (hw _ (List.mem_of_getElem? (i := 1) rfl)) (by decide) (by decide)) q6a q6c (g := (mkF m 160 #[.val (.int p1), .val (.long q2), .second, .val (.int p3), .val (.int (0 : Int32)), .val (.ref w_BINARY32), .val (.long (2139095040 : Int64)), .second, .val (.long (8388608 : Int64)), .second, .val (.long ((q2 &&& (4294967295 : Int64)) &&& ((2139095040 : Int64) ^^^ (-1 : Int64)))), .second, .val (.int (p3 &&& (3 : Int32))), .val (.int (1 : Int32))] [(.long ((q2 &&& (4294967295 : Int64)) &&& ((2139095040 : Int64) ^^^ (-1 : Int64)))), (.ref w_BINARY32)])) rfl (by rw [hml]; rfl) (Steps.refl _) (argsL := [(.long ((q2 &&& (4294967295 : Int64)) &&& ((2139095040 : Int64) ^^^ (-1 : Int64))))]) (rest := []) (lenOf pd_0_0 rfl) rfl (by show 2 * 0 + _ ≤ _; exact Nat.le_of_eq rfl) (hb hby at_160) (fun _ _ => ⟨rfl, e5, (by decide : 0 + 0 ≤ _), (by decide : 0 + 0 ≤ _)⟩)
  dsimp only [Pt.U, Pt.locs, Pt.cells, Pt.slots] at X6 l6 y6 z6 st6 hQ6
  subst l6 y6 z6
  obtain ⟨rv6, N6q, q6⟩ := hQ6
  rw [hu] at rv6
  subst rv6
  have N6 := Fr.app N0 N6q
  obtain ⟨fs, hr, hrun, hended, hW, hsame⟩ := X6.leave (v := some (.int (1 : Int32))) (fun h => by rw [Bd.returns] at h; cases h)
  refine ⟨_, _, pre0 _ ?_, hrun, hended, _, _, rfl, ?_, ⟨_, rfl⟩, hW, hsame.mono (by decide) (by decide)⟩
  -- 4. STEPS
  · show Steps p.tables e below (s₁.setTop (mkF m 0 #[.val (.int p1), .val (.long q2), .second, .val (.int p3), .unset, .unset, .unset, .unset, .unset, .unset, .unset, .unset, .unset, .unset] [])) _
    refine XS.iloadN X0.here hx rfl (hb hby at_0) rfl ?_
    show Steps p.tables e below (s₁.setTop (mkF m 1 #[.val (.int p1), .val (.long q2), .second, .val (.int p3), .unset, .unset, .unset, .unset, .unset, .unset, .unset, .unset, .unset, .unset] [(.int p1)])) _
    refine XS.iconst X0.here hx rfl (hb hby at_1) ?_
    show Steps p.tables e below (s₁.setTop (mkF m 2 #[.val (.int p1), .val (.long q2), .second, .val (.int p3), .unset, .unset, .unset, .unset, .unset, .unset, .unset, .unset, .unset, .unset] [(.int (1 : Int32)), (.int p1)])) _
    refine XS.iand X0.here hx rfl (hb hby at_2) rfl ?_
    show Steps p.tables e below (s₁.setTop (mkF m 3 #[.val (.int p1), .val (.long q2), .second, .val (.int p3), .unset, .unset, .unset, .unset, .unset, .unset, .unset, .unset, .unset, .unset] [(.int (p1 &&& (1 : Int32)))])) _
    refine XS.ifYes X0.here hx rfl (pc0 := 3) (pc' := 10) rfl (hb hby at_3) rfl ((if0 _ _).trans (teq hc3).1) (by decide) (by decide) ?_
    show Steps p.tables e below (s₁.setTop (mkF m 10 #[.val (.int p1), .val (.long q2), .second, .val (.int p3), .unset, .unset, .unset, .unset, .unset, .unset, .unset, .unset, .unset, .unset] [])) _
    refine XS.iconst X0.here hx rfl (hb hby at_10) ?_
    show Steps p.tables e below (s₁.setTop (mkF m 11 #[.val (.int p1), .val (.long q2), .second, .val (.int p3), .unset, .unset, .unset, .unset, .unset, .unset, .unset, .unset, .unset, .unset] [(.int (0 : Int32))])) _
    refine XS.istore X0.here hx rfl (hb hby at_11) rfl (l' := #[.val (.int p1), .val (.long q2), .second, .val (.int p3), .val (.int (0 : Int32)), .unset, .unset, .unset, .unset, .unset, .unset, .unset, .unset, .unset]) rfl ?_
    show Steps p.tables e below (s₁.setTop (mkF m 13 #[.val (.int p1), .val (.long q2), .second, .val (.int p3), .val (.int (0 : Int32)), .unset, .unset, .unset, .unset, .unset, .unset, .unset, .unset, .unset] [])) _
    refine XS.iload X0.here hx rfl (hb hby at_13) rfl ?_
    show Steps p.tables e below (s₁.setTop (mkF m 15 #[.val (.int p1), .val (.long q2), .second, .val (.int p3), .val (.int (0 : Int32)), .unset, .unset, .unset, .unset, .unset, .unset, .unset, .unset, .unset] [(.int (0 : Int32))])) _
    refine XS.ifYes X0.here hx rfl (pc0 := 15) (pc' := 24) rfl (hb hby at_15) rfl ((if0 _ _).trans (teq (rfl : (0 : Int32) = (0 : Int32))).1) (by decide) (by decide) ?_
    show Steps p.tables e below (s₁.setTop (mkF m 24 #[.val (.int p1), .val (.long q2), .second, .val (.int p3), .val (.int (0 : Int32)), .unset, .unset, .unset, .unset, .unset, .unset, .unset, .unset, .unset] [])) _
    refine st5 _ ?_
    show Steps p.tables e below (T5.setTop (mkF m 27 #[.val (.int p1), .val (.long q2), .second, .val (.int p3), .val (.int (0 : Int32)), .unset, .unset, .unset, .unset, .unset, .unset, .unset, .unset, .unset] [(.ref w_BINARY32)])) _
    refine XS.astore X5.here hx rfl (hb hby at_27) rfl rfl (l' := #[.val (.int p1), .val (.long q2), .second, .val (.int p3), .val (.int (0 : Int32)), .val (.ref w_BINARY32), .unset, .unset, .unset, .unset, .unset, .unset, .unset, .unset]) rfl ?_
    show Steps p.tables e below (T5.setTop (mkF m 29 #[.val (.int p1), .val (.long q2), .second, .val (.int p3), .val (.int (0 : Int32)), .val (.ref w_BINARY32), .unset, .unset, .unset, .unset, .unset, .unset, .unset, .unset] [])) _
    refine XS.iload X5.here hx rfl (hb hby at_29) rfl ?_
    show Steps p.tables e below (T5.setTop (mkF m 31 #[.val (.int p1), .val (.long q2), .second, .val (.int p3), .val (.int (0 : Int32)), .val (.ref w_BINARY32), .unset, .unset, .unset, .unset, .unset, .unset, .unset, .unset] [(.int (0 : Int32))])) _
    refine XS.ifYes X5.here hx rfl (pc0 := 31) (pc' := 40) rfl (hb hby at_31) rfl ((if0 _ _).trans (teq (rfl : (0 : Int32) = (0 : Int32))).1) (by decide) (by decide) ?_
    show Steps p.tables e below (T5.setTop (mkF m 40 #[.val (.int p1), .val (.long q2), .second, .val (.int p3), .val (.int (0 : Int32)), .val (.ref w_BINARY32), .unset, .unset, .unset, .unset, .unset, .unset, .unset, .unset] [])) _
    refine X5.ldc2Long hx hown (mvT hZ (hw _ (List.mem_of_getElem? (i := 3) rfl))) (g := (mkF m 40 #[.val (.int p1), .val (.long q2), .second, .val (.int p3), .val (.int (0 : Int32)), .val (.ref w_BINARY32), .unset, .unset, .unset, .unset, .unset, .unset, .unset, .unset] [])) rfl (hb hby at_40) _ ?_
    show Steps p.tables e below (T5.setTop (mkF m 43 #[.val (.int p1), .val (.long q2), .second, .val (.int p3), .val (.int (0 : Int32)), .val (.ref w_BINARY32), .unset, .unset, .unset, .unset, .unset, .unset, .unset, .unset] [(.long (2139095040 : Int64))])) _
    refine XS.lstore X5.here hx rfl (hb hby at_43) rfl (l' := #[.val (.int p1), .val (.long q2), .second, .val (.int p3), .val (.int (0 : Int32)), .val (.ref w_BINARY32), .val (.long (2139095040 : Int64)), .second, .unset, .unset, .unset, .unset, .unset, .unset]) rfl ?_
    show Steps p.tables e below (T5.setTop (mkF m 45 #[.val (.int p1), .val (.long q2), .second, .val (.int p3), .val (.int (0 : Int32)), .val (.ref w_BINARY32), .val (.long (2139095040 : Int64)), .second, .unset, .unset, .unset, .unset, .unset, .unset] [])) _
    refine XS.iload X5.here hx rfl (hb hby at_45) rfl ?_
    show Steps p.tables e below (T5.setTop (mkF m 47 #[.val (.int p1), .val (.long q2), .second, .val (.int p3), .val (.int (0 : Int32)), .val (.ref w_BINARY32), .val (.long (2139095040 : Int64)), .second, .unset, .unset, .unset, .unset, .unset, .unset] [(.int (0 : Int32))])) _
    refine XS.ifYes X5.here hx rfl (pc0 := 47) (pc' := 56) rfl (hb hby at_47) rfl ((if0 _ _).trans (teq (rfl : (0 : Int32) = (0 : Int32))).1) (by decide) (by decide) ?_
    show Steps p.tables e below (T5.setTop (mkF m 56 #[.val (.int p1), .val (.long q2), .second, .val (.int p3), .val (.int (0 : Int32)), .val (.ref w_BINARY32), .val (.long (2139095040 : Int64)), .second, .unset, .unset, .unset, .unset, .unset, .unset] [])) _
    refine X5.ldc2Long hx hown (mvT hZ (hw _ (List.mem_of_getElem? (i := 4) rfl))) (g := (mkF m 56 #[.val (.int p1), .val (.long q2), .second, .val (.int p3), .val (.int (0 : Int32)), .val (.ref w_BINARY32), .val (.long (2139095040 : Int64)), .second, .unset, .unset, .unset, .unset, .unset, .unset] [])) rfl (hb hby at_56) _ ?_
    show Steps p.tables e below (T5.setTop (mkF m 59 #[.val (.int p1), .val (.long q2), .second, .val (.int p3), .val (.int (0 : Int32)), .val (.ref w_BINARY32), .val (.long (2139095040 : Int64)), .second, .unset, .unset, .unset, .unset, .unset, .unset] [(.long (8388608 : Int64))])) _
    refine XS.lstore X5.here hx rfl (hb hby at_59) rfl (l' := #[.val (.int p1), .val (.long q2), .second, .val (.int p3), .val (.int (0 : Int32)), .val (.ref w_BINARY32), .val (.long (2139095040 : Int64)), .second, .val (.long (8388608 : Int64)), .second, .unset, .unset, .unset, .unset]) rfl ?_
    show Steps p.tables e below (T5.setTop (mkF m 61 #[.val (.int p1), .val (.long q2), .second, .val (.int p3), .val (.int (0 : Int32)), .val (.ref w_BINARY32), .val (.long (2139095040 : Int64)), .second, .val (.long (8388608 : Int64)), .second, .unset, .unset, .unset, .unset] [])) _
    refine XS.iload X5.here hx rfl (hb hby at_61) rfl ?_
    show Steps p.tables e below (T5.setTop (mkF m 63 #[.val (.int p1), .val (.long q2), .second, .val (.int p3), .val (.int (0 : Int32)), .val (.ref w_BINARY32), .val (.long (2139095040 : Int64)), .second, .val (.long (8388608 : Int64)), .second, .unset, .unset, .unset, .unset] [(.int (0 : Int32))])) _
    refine XS.ifYes X5.here hx rfl (pc0 := 63) (pc' := 70) rfl (hb hby at_63) rfl ((if0 _ _).trans (teq (rfl : (0 : Int32) = (0 : Int32))).1) (by decide) (by decide) ?_
    show Steps p.tables e below (T5.setTop (mkF m 70 #[.val (.int p1), .val (.long q2), .second, .val (.int p3), .val (.int (0 : Int32)), .val (.ref w_BINARY32), .val (.long (2139095040 : Int64)), .second, .val (.long (8388608 : Int64)), .second, .unset, .unset, .unset, .unset] [])) _
    refine XS.lloadN X5.here hx rfl (hb hby at_70) rfl ?_
    show Steps p.tables e below (T5.setTop (mkF m 71 #[.val (.int p1), .val (.long q2), .second, .val (.int p3), .val (.int (0 : Int32)), .val (.ref w_BINARY32), .val (.long (2139095040 : Int64)), .second, .val (.long (8388608 : Int64)), .second, .unset, .unset, .unset, .unset] [(.long q2)])) _
    refine X5.ldc2Long hx hown (mvT hZ (hw _ (List.mem_of_getElem? (i := 5) rfl))) (g := (mkF m 71 #[.val (.int p1), .val (.long q2), .second, .val (.int p3), .val (.int (0 : Int32)), .val (.ref w_BINARY32), .val (.long (2139095040 : Int64)), .second, .val (.long (8388608 : Int64)), .second, .unset, .unset, .unset, .unset] [(.long q2)])) rfl (hb hby at_71) _ ?_
    show Steps p.tables e below (T5.setTop (mkF m 74 #[.val (.int p1), .val (.long q2), .second, .val (.int p3), .val (.int (0 : Int32)), .val (.ref w_BINARY32), .val (.long (2139095040 : Int64)), .second, .val (.long (8388608 : Int64)), .second, .unset, .unset, .unset, .unset] [(.long (4294967295 : Int64)), (.long q2)])) _
    refine XS.land X5.here hx rfl (hb hby at_74) rfl ?_
    show Steps p.tables e below (T5.setTop (mkF m 75 #[.val (.int p1), .val (.long q2), .second, .val (.int p3), .val (.int (0 : Int32)), .val (.ref w_BINARY32), .val (.long (2139095040 : Int64)), .second, .val (.long (8388608 : Int64)), .second, .unset, .unset, .unset, .unset] [(.long (q2 &&& (4294967295 : Int64)))])) _
    refine XS.lstore X5.here hx rfl (hb hby at_75) rfl (l' := #[.val (.int p1), .val (.long q2), .second, .val (.int p3), .val (.int (0 : Int32)), .val (.ref w_BINARY32), .val (.long (2139095040 : Int64)), .second, .val (.long (8388608 : Int64)), .second, .val (.long (q2 &&& (4294967295 : Int64))), .second, .unset, .unset]) rfl ?_
    show Steps p.tables e below (T5.setTop (mkF m 77 #[.val (.int p1), .val (.long q2), .second, .val (.int p3), .val (.int (0 : Int32)), .val (.ref w_BINARY32), .val (.long (2139095040 : Int64)), .second, .val (.long (8388608 : Int64)), .second, .val (.long (q2 &&& (4294967295 : Int64))), .second, .unset, .unset] [])) _
    refine XS.iloadN X5.here hx rfl (hb hby at_77) rfl ?_
    show Steps p.tables e below (T5.setTop (mkF m 78 #[.val (.int p1), .val (.long q2), .second, .val (.int p3), .val (.int (0 : Int32)), .val (.ref w_BINARY32), .val (.long (2139095040 : Int64)), .second, .val (.long (8388608 : Int64)), .second, .val (.long (q2 &&& (4294967295 : Int64))), .second, .unset, .unset] [(.int p3)])) _
    refine XS.iconst X5.here hx rfl (hb hby at_78) ?_
    show Steps p.tables e below (T5.setTop (mkF m 79 #[.val (.int p1), .val (.long q2), .second, .val (.int p3), .val (.int (0 : Int32)), .val (.ref w_BINARY32), .val (.long (2139095040 : Int64)), .second, .val (.long (8388608 : Int64)), .second, .val (.long (q2 &&& (4294967295 : Int64))), .second, .unset, .unset] [(.int (3 : Int32)), (.int p3)])) _
    refine XS.iand X5.here hx rfl (hb hby at_79) rfl ?_
    show Steps p.tables e below (T5.setTop (mkF m 80 #[.val (.int p1), .val (.long q2), .second, .val (.int p3), .val (.int (0 : Int32)), .val (.ref w_BINARY32), .val (.long (2139095040 : Int64)), .second, .val (.long (8388608 : Int64)), .second, .val (.long (q2 &&& (4294967295 : Int64))), .second, .unset, .unset] [(.int (p3 &&& (3 : Int32)))])) _
    refine XS.istore X5.here hx rfl (hb hby at_80) rfl (l' := #[.val (.int p1), .val (.long q2), .second, .val (.int p3), .val (.int (0 : Int32)), .val (.ref w_BINARY32), .val (.long (2139095040 : Int64)), .second, .val (.long (8388608 : Int64)), .second, .val (.long (q2 &&& (4294967295 : Int64))), .second, .val (.int (p3 &&& (3 : Int32))), .unset]) rfl ?_
    show Steps p.tables e below (T5.setTop (mkF m 82 #[.val (.int p1), .val (.long q2), .second, .val (.int p3), .val (.int (0 : Int32)), .val (.ref w_BINARY32), .val (.long (2139095040 : Int64)), .second, .val (.long (8388608 : Int64)), .second, .val (.long (q2 &&& (4294967295 : Int64))), .second, .val (.int (p3 &&& (3 : Int32))), .unset] [])) _
    refine XS.iload X5.here hx rfl (hb hby at_82) rfl ?_
    show Steps p.tables e below (T5.setTop (mkF m 84 #[.val (.int p1), .val (.long q2), .second, .val (.int p3), .val (.int (0 : Int32)), .val (.ref w_BINARY32), .val (.long (2139095040 : Int64)), .second, .val (.long (8388608 : Int64)), .second, .val (.long (q2 &&& (4294967295 : Int64))), .second, .val (.int (p3 &&& (3 : Int32))), .unset] [(.int (p3 &&& (3 : Int32)))])) _
    refine XS.iconst X5.here hx rfl (hb hby at_84) ?_
    show Steps p.tables e below (T5.setTop (mkF m 85 #[.val (.int p1), .val (.long q2), .second, .val (.int p3), .val (.int (0 : Int32)), .val (.ref w_BINARY32), .val (.long (2139095040 : Int64)), .second, .val (.long (8388608 : Int64)), .second, .val (.long (q2 &&& (4294967295 : Int64))), .second, .val (.int (p3 &&& (3 : Int32))), .unset] [(.int (1 : Int32)), (.int (p3 &&& (3 : Int32)))])) _
    refine XS.icmpYes X5.here hx rfl (pc0 := 85) (pc' := 98) rfl (hb hby at_85) rfl (feq hc85).2 (by decide) (by decide) ?_
    show Steps p.tables e below (T5.setTop (mkF m 98 #[.val (.int p1), .val (.long q2), .second, .val (.int p3), .val (.int (0 : Int32)), .val (.ref w_BINARY32), .val (.long (2139095040 : Int64)), .second, .val (.long (8388608 : Int64)), .second, .val (.long (q2 &&& (4294967295 : Int64))), .second, .val (.int (p3 &&& (3 : Int32))), .unset] [])) _
    refine XS.iload X5.here hx rfl (hb hby at_98) rfl ?_
    show Steps p.tables e below (T5.setTop (mkF m 100 #[.val (.int p1), .val (.long q2), .second, .val (.int p3), .val (.int (0 : Int32)), .val (.ref w_BINARY32), .val (.long (2139095040 : Int64)), .second, .val (.long (8388608 : Int64)), .second, .val (.long (q2 &&& (4294967295 : Int64))), .second, .val (.int (p3 &&& (3 : Int32))), .unset] [(.int (p3 &&& (3 : Int32)))])) _
    refine XS.iconst X5.here hx rfl (hb hby at_100) ?_
    show Steps p.tables e below (T5.setTop (mkF m 101 #[.val (.int p1), .val (.long q2), .second, .val (.int p3), .val (.int (0 : Int32)), .val (.ref w_BINARY32), .val (.long (2139095040 : Int64)), .second, .val (.long (8388608 : Int64)), .second, .val (.long (q2 &&& (4294967295 : Int64))), .second, .val (.int (p3 &&& (3 : Int32))), .unset] [(.int (2 : Int32)), (.int (p3 &&& (3 : Int32)))])) _
    refine XS.icmpYes X5.here hx rfl (pc0 := 101) (pc' := 121) rfl (hb hby at_101) rfl (feq hc101).2 (by decide) (by decide) ?_
    show Steps p.tables e below (T5.setTop (mkF m 121 #[.val (.int p1), .val (.long q2), .second, .val (.int p3), .val (.int (0 : Int32)), .val (.ref w_BINARY32), .val (.long (2139095040 : Int64)), .second, .val (.long (8388608 : Int64)), .second, .val (.long (q2 &&& (4294967295 : Int64))), .second, .val (.int (p3 &&& (3 : Int32))), .unset] [])) _
    refine XS.iload X5.here hx rfl (hb hby at_121) rfl ?_
    show Steps p.tables e below (T5.setTop (mkF m 123 #[.val (.int p1), .val (.long q2), .second, .val (.int p3), .val (.int (0 : Int32)), .val (.ref w_BINARY32), .val (.long (2139095040 : Int64)), .second, .val (.long (8388608 : Int64)), .second, .val (.long (q2 &&& (4294967295 : Int64))), .second, .val (.int (p3 &&& (3 : Int32))), .unset] [(.int (p3 &&& (3 : Int32)))])) _
    refine XS.iconst X5.here hx rfl (hb hby at_123) ?_
    show Steps p.tables e below (T5.setTop (mkF m 124 #[.val (.int p1), .val (.long q2), .second, .val (.int p3), .val (.int (0 : Int32)), .val (.ref w_BINARY32), .val (.long (2139095040 : Int64)), .second, .val (.long (8388608 : Int64)), .second, .val (.long (q2 &&& (4294967295 : Int64))), .second, .val (.int (p3 &&& (3 : Int32))), .unset] [(.int (3 : Int32)), (.int (p3 &&& (3 : Int32)))])) _
    refine XS.icmpNo X5.here hx rfl (hb hby at_124) rfl (teq hc124).2 ?_
    show Steps p.tables e below (T5.setTop (mkF m 127 #[.val (.int p1), .val (.long q2), .second, .val (.int p3), .val (.int (0 : Int32)), .val (.ref w_BINARY32), .val (.long (2139095040 : Int64)), .second, .val (.long (8388608 : Int64)), .second, .val (.long (q2 &&& (4294967295 : Int64))), .second, .val (.int (p3 &&& (3 : Int32))), .unset] [])) _
    refine XS.lload X5.here hx rfl (hb hby at_127) rfl ?_
    show Steps p.tables e below (T5.setTop (mkF m 129 #[.val (.int p1), .val (.long q2), .second, .val (.int p3), .val (.int (0 : Int32)), .val (.ref w_BINARY32), .val (.long (2139095040 : Int64)), .second, .val (.long (8388608 : Int64)), .second, .val (.long (q2 &&& (4294967295 : Int64))), .second, .val (.int (p3 &&& (3 : Int32))), .unset] [(.long (q2 &&& (4294967295 : Int64)))])) _
    refine XS.lload X5.here hx rfl (hb hby at_129) rfl ?_
    show Steps p.tables e below (T5.setTop (mkF m 131 #[.val (.int p1), .val (.long q2), .second, .val (.int p3), .val (.int (0 : Int32)), .val (.ref w_BINARY32), .val (.long (2139095040 : Int64)), .second, .val (.long (8388608 : Int64)), .second, .val (.long (q2 &&& (4294967295 : Int64))), .second, .val (.int (p3 &&& (3 : Int32))), .unset] [(.long (2139095040 : Int64)), (.long (q2 &&& (4294967295 : Int64)))])) _
    refine X5.ldc2Long hx hown (mvT hZ (hw _ (List.mem_of_getElem? (i := 19) rfl))) (g := (mkF m 131 #[.val (.int p1), .val (.long q2), .second, .val (.int p3), .val (.int (0 : Int32)), .val (.ref w_BINARY32), .val (.long (2139095040 : Int64)), .second, .val (.long (8388608 : Int64)), .second, .val (.long (q2 &&& (4294967295 : Int64))), .second, .val (.int (p3 &&& (3 : Int32))), .unset] [(.long (2139095040 : Int64)), (.long (q2 &&& (4294967295 : Int64)))])) rfl (hb hby at_131) _ ?_
    show Steps p.tables e below (T5.setTop (mkF m 134 #[.val (.int p1), .val (.long q2), .second, .val (.int p3), .val (.int (0 : Int32)), .val (.ref w_BINARY32), .val (.long (2139095040 : Int64)), .second, .val (.long (8388608 : Int64)), .second, .val (.long (q2 &&& (4294967295 : Int64))), .second, .val (.int (p3 &&& (3 : Int32))), .unset] [(.long (-1 : Int64)), (.long (2139095040 : Int64)), (.long (q2 &&& (4294967295 : Int64)))])) _
    refine XS.lxor X5.here hx rfl (hb hby at_134) rfl ?_
    show Steps p.tables e below (T5.setTop (mkF m 135 #[.val (.int p1), .val (.long q2), .second, .val (.int p3), .val (.int (0 : Int32)), .val (.ref w_BINARY32), .val (.long (2139095040 : Int64)), .second, .val (.long (8388608 : Int64)), .second, .val (.long (q2 &&& (4294967295 : Int64))), .second, .val (.int (p3 &&& (3 : Int32))), .unset] [(.long ((2139095040 : Int64) ^^^ (-1 : Int64))), (.long (q2 &&& (4294967295 : Int64)))])) _
    refine XS.land X5.here hx rfl (hb hby at_135) rfl ?_
    show Steps p.tables e below (T5.setTop (mkF m 136 #[.val (.int p1), .val (.long q2), .second, .val (.int p3), .val (.int (0 : Int32)), .val (.ref w_BINARY32), .val (.long (2139095040 : Int64)), .second, .val (.long (8388608 : Int64)), .second, .val (.long (q2 &&& (4294967295 : Int64))), .second, .val (.int (p3 &&& (3 : Int32))), .unset] [(.long ((q2 &&& (4294967295 : Int64)) &&& ((2139095040 : Int64) ^^^ (-1 : Int64))))])) _
    refine XS.lstore X5.here hx rfl (hb hby at_136) rfl (l' := #[.val (.int p1), .val (.long q2), .second, .val (.int p3), .val (.int (0 : Int32)), .val (.ref w_BINARY32), .val (.long (2139095040 : Int64)), .second, .val (.long (8388608 : Int64)), .second, .val (.long ((q2 &&& (4294967295 : Int64)) &&& ((2139095040 : Int64) ^^^ (-1 : Int64)))), .second, .val (.int (p3 &&& (3 : Int32))), .unset]) rfl ?_
    show Steps p.tables e below (T5.setTop (mkF m 138 #[.val (.int p1), .val (.long q2), .second, .val (.int p3), .val (.int (0 : Int32)), .val (.ref w_BINARY32), .val (.long (2139095040 : Int64)), .second, .val (.long (8388608 : Int64)), .second, .val (.long ((q2 &&& (4294967295 : Int64)) &&& ((2139095040 : Int64) ^^^ (-1 : Int64)))), .second, .val (.int (p3 &&& (3 : Int32))), .unset] [])) _
    refine XS.lload X5.here hx rfl (hb hby at_138) rfl ?_
    show Steps p.tables e below (T5.setTop (mkF m 140 #[.val (.int p1), .val (.long q2), .second, .val (.int p3), .val (.int (0 : Int32)), .val (.ref w_BINARY32), .val (.long (2139095040 : Int64)), .second, .val (.long (8388608 : Int64)), .second, .val (.long ((q2 &&& (4294967295 : Int64)) &&& ((2139095040 : Int64) ^^^ (-1 : Int64)))), .second, .val (.int (p3 &&& (3 : Int32))), .unset] [(.long ((q2 &&& (4294967295 : Int64)) &&& ((2139095040 : Int64) ^^^ (-1 : Int64))))])) _
    refine XS.lload X5.here hx rfl (hb hby at_140) rfl ?_
    show Steps p.tables e below (T5.setTop (mkF m 142 #[.val (.int p1), .val (.long q2), .second, .val (.int p3), .val (.int (0 : Int32)), .val (.ref w_BINARY32), .val (.long (2139095040 : Int64)), .second, .val (.long (8388608 : Int64)), .second, .val (.long ((q2 &&& (4294967295 : Int64)) &&& ((2139095040 : Int64) ^^^ (-1 : Int64)))), .second, .val (.int (p3 &&& (3 : Int32))), .unset] [(.long (2139095040 : Int64)), (.long ((q2 &&& (4294967295 : Int64)) &&& ((2139095040 : Int64) ^^^ (-1 : Int64))))])) _
    refine XS.land X5.here hx rfl (hb hby at_142) rfl ?_
    show Steps p.tables e below (T5.setTop (mkF m 143 #[.val (.int p1), .val (.long q2), .second, .val (.int p3), .val (.int (0 : Int32)), .val (.ref w_BINARY32), .val (.long (2139095040 : Int64)), .second, .val (.long (8388608 : Int64)), .second, .val (.long ((q2 &&& (4294967295 : Int64)) &&& ((2139095040 : Int64) ^^^ (-1 : Int64)))), .second, .val (.int (p3 &&& (3 : Int32))), .unset] [(.long (((q2 &&& (4294967295 : Int64)) &&& ((2139095040 : Int64) ^^^ (-1 : Int64))) &&& (2139095040 : Int64)))])) _
    refine XS.lload X5.here hx rfl (hb hby at_143) rfl ?_
    show Steps p.tables e below (T5.setTop (mkF m 145 #[.val (.int p1), .val (.long q2), .second, .val (.int p3), .val (.int (0 : Int32)), .val (.ref w_BINARY32), .val (.long (2139095040 : Int64)), .second, .val (.long (8388608 : Int64)), .second, .val (.long ((q2 &&& (4294967295 : Int64)) &&& ((2139095040 : Int64) ^^^ (-1 : Int64)))), .second, .val (.int (p3 &&& (3 : Int32))), .unset] [(.long (2139095040 : Int64)), (.long (((q2 &&& (4294967295 : Int64)) &&& ((2139095040 : Int64) ^^^ (-1 : Int64))) &&& (2139095040 : Int64)))])) _
    refine XS.lcmp X5.here hx rfl (hb hby at_145) rfl ?_
    show Steps p.tables e below (T5.setTop (mkF m 146 #[.val (.int p1), .val (.long q2), .second, .val (.int p3), .val (.int (0 : Int32)), .val (.ref w_BINARY32), .val (.long (2139095040 : Int64)), .second, .val (.long (8388608 : Int64)), .second, .val (.long ((q2 &&& (4294967295 : Int64)) &&& ((2139095040 : Int64) ^^^ (-1 : Int64)))), .second, .val (.int (p3 &&& (3 : Int32))), .unset] [(.int (lcmpW (((q2 &&& (4294967295 : Int64)) &&& ((2139095040 : Int64) ^^^ (-1 : Int64))) &&& (2139095040 : Int64)) (2139095040 : Int64)))])) _
    refine XS.ifNo X5.here hx rfl (hb hby at_146) rfl ((if0 _ _).trans (feq hc146).1) ?_
    show Steps p.tables e below (T5.setTop (mkF m 149 #[.val (.int p1), .val (.long q2), .second, .val (.int p3), .val (.int (0 : Int32)), .val (.ref w_BINARY32), .val (.long (2139095040 : Int64)), .second, .val (.long (8388608 : Int64)), .second, .val (.long ((q2 &&& (4294967295 : Int64)) &&& ((2139095040 : Int64) ^^^ (-1 : Int64)))), .second, .val (.int (p3 &&& (3 : Int32))), .unset] [])) _
    refine XS.iconst X5.here hx rfl (hb hby at_149) ?_
    show Steps p.tables e below (T5.setTop (mkF m 150 #[.val (.int p1), .val (.long q2), .second, .val (.int p3), .val (.int (0 : Int32)), .val (.ref w_BINARY32), .val (.long (2139095040 : Int64)), .second, .val (.long (8388608 : Int64)), .second, .val (.long ((q2 &&& (4294967295 : Int64)) &&& ((2139095040 : Int64) ^^^ (-1 : Int64)))), .second, .val (.int (p3 &&& (3 : Int32))), .unset] [(.int (1 : Int32))])) _
    refine XS.goto X5.here hx rfl (pc0 := 150) (pc' := 154) rfl (hb hby at_150) (by decide) (by decide) ?_
    show Steps p.tables e below (T5.setTop (mkF m 154 #[.val (.int p1), .val (.long q2), .second, .val (.int p3), .val (.int (0 : Int32)), .val (.ref w_BINARY32), .val (.long (2139095040 : Int64)), .second, .val (.long (8388608 : Int64)), .second, .val (.long ((q2 &&& (4294967295 : Int64)) &&& ((2139095040 : Int64) ^^^ (-1 : Int64)))), .second, .val (.int (p3 &&& (3 : Int32))), .unset] [(.int (1 : Int32))])) _
    refine XS.istore X5.here hx rfl (hb hby at_154) rfl (l' := #[.val (.int p1), .val (.long q2), .second, .val (.int p3), .val (.int (0 : Int32)), .val (.ref w_BINARY32), .val (.long (2139095040 : Int64)), .second, .val (.long (8388608 : Int64)), .second, .val (.long ((q2 &&& (4294967295 : Int64)) &&& ((2139095040 : Int64) ^^^ (-1 : Int64)))), .second, .val (.int (p3 &&& (3 : Int32))), .val (.int (1 : Int32))]) rfl ?_
    show Steps p.tables e below (T5.setTop (mkF m 156 #[.val (.int p1), .val (.long q2), .second, .val (.int p3), .val (.int (0 : Int32)), .val (.ref w_BINARY32), .val (.long (2139095040 : Int64)), .second, .val (.long (8388608 : Int64)), .second, .val (.long ((q2 &&& (4294967295 : Int64)) &&& ((2139095040 : Int64) ^^^ (-1 : Int64)))), .second, .val (.int (p3 &&& (3 : Int32))), .val (.int (1 : Int32))] [])) _
    refine XS.aload X5.here hx rfl (hb hby at_156) rfl rfl ?_
    show Steps p.tables e below (T5.setTop (mkF m 158 #[.val (.int p1), .val (.long q2), .second, .val (.int p3), .val (.int (0 : Int32)), .val (.ref w_BINARY32), .val (.long (2139095040 : Int64)), .second, .val (.long (8388608 : Int64)), .second, .val (.long ((q2 &&& (4294967295 : Int64)) &&& ((2139095040 : Int64) ^^^ (-1 : Int64)))), .second, .val (.int (p3 &&& (3 : Int32))), .val (.int (1 : Int32))] [(.ref w_BINARY32)])) _
    refine XS.lload X5.here hx rfl (hb hby at_158) rfl ?_
    show Steps p.tables e below (T5.setTop (mkF m 160 #[.val (.int p1), .val (.long q2), .second, .val (.int p3), .val (.int (0 : Int32)), .val (.ref w_BINARY32), .val (.long (2139095040 : Int64)), .second, .val (.long (8388608 : Int64)), .second, .val (.long ((q2 &&& (4294967295 : Int64)) &&& ((2139095040 : Int64) ^^^ (-1 : Int64)))), .second, .val (.int (p3 &&& (3 : Int32))), .val (.int (1 : Int32))] [(.long ((q2 &&& (4294967295 : Int64)) &&& ((2139095040 : Int64) ^^^ (-1 : Int64)))), (.ref w_BINARY32)])) _
    refine st6.trans ?_
    show Steps p.tables e below (T6.setTop (mkF m 163 #[.val (.int p1), .val (.long q2), .second, .val (.int p3), .val (.int (0 : Int32)), .val (.ref w_BINARY32), .val (.long (2139095040 : Int64)), .second, .val (.long (8388608 : Int64)), .second, .val (.long ((q2 &&& (4294967295 : Int64)) &&& ((2139095040 : Int64) ^^^ (-1 : Int64)))), .second, .val (.int (p3 &&& (3 : Int32))), .val (.int (1 : Int32))] [(.int u)])) _
    refine XS.iload X6.here hx rfl (hb hby at_163) rfl ?_
    show Steps p.tables e below (T6.setTop (mkF m 165 #[.val (.int p1), .val (.long q2), .second, .val (.int p3), .val (.int (0 : Int32)), .val (.ref w_BINARY32), .val (.long (2139095040 : Int64)), .second, .val (.long (8388608 : Int64)), .second, .val (.long ((q2 &&& (4294967295 : Int64)) &&& ((2139095040 : Int64) ^^^ (-1 : Int64)))), .second, .val (.int (p3 &&& (3 : Int32))), .val (.int (1 : Int32))] [(.int (1 : Int32)), (.int u)])) _
    refine XS.icmpNo X6.here hx rfl (hb hby at_165) rfl (teq (hv165 : u = (1 : Int32))).2 ?_
    show Steps p.tables e below (T6.setTop (mkF m 168 #[.val (.int p1), .val (.long q2), .second, .val (.int p3), .val (.int (0 : Int32)), .val (.ref w_BINARY32), .val (.long (2139095040 : Int64)), .second, .val (.long (8388608 : Int64)), .second, .val (.long ((q2 &&& (4294967295 : Int64)) &&& ((2139095040 : Int64) ^^^ (-1 : Int64)))), .second, .val (.int (p3 &&& (3 : Int32))), .val (.int (1 : Int32))] [])) _
    refine XS.iconst X6.here hx rfl (hb hby at_168) ?_
    show Steps p.tables e below (T6.setTop (mkF m 169 #[.val (.int p1), .val (.long q2), .second, .val (.int p3), .val (.int (0 : Int32)), .val (.ref w_BINARY32), .val (.long (2139095040 : Int64)), .second, .val (.long (8388608 : Int64)), .second, .val (.long ((q2 &&& (4294967295 : Int64)) &&& ((2139095040 : Int64) ^^^ (-1 : Int64)))), .second, .val (.int (p3 &&& (3 : Int32))), .val (.int (1 : Int32))] [(.int (1 : Int32))])) _
    refine XS.goto X6.here hx rfl (pc0 := 169) (pc' := 173) rfl (hb hby at_169) (by decide) (by decide) ?_
    show Steps p.tables e below (T6.setTop (mkF m 173 #[.val (.int p1), .val (.long q2), .second, .val (.int p3), .val (.int (0 : Int32)), .val (.ref w_BINARY32), .val (.long (2139095040 : Int64)), .second, .val (.long (8388608 : Int64)), .second, .val (.long ((q2 &&& (4294967295 : Int64)) &&& ((2139095040 : Int64) ^^^ (-1 : Int64)))), .second, .val (.int (p3 &&& (3 : Int32))), .val (.int (1 : Int32))] [(.int (1 : Int32))])) _
    exact retN X6 hx (t := .boolean) Bd.returns (by simp) (hb hby at_173) hr
  · show Q0 Z h0 n0 _ T6.heap _
    exact ⟨rfl, N6⟩
set_option maxRecDepth 65536 in
set_option maxHeartbeats 40000000 in
theorem rm0_tttttttttf (l : Launch) (Z : State) (a0 : Array Value) (hw : ∀ d ∈ tables_1, d.before a0 Z = true) (ws : List Jvm.Cond) (p1 : Int32) (q2 : Int64) (p3 : Int32) (w_BINARY32 : Addr) (u : Int32) (h0 : Heap) (n0 : Nat) (Z0 : n0 ≤ h0.size) (S_BINARY32 : Sta Z h0 "com/example/fourfold/fourfold/json/FloatFormat" "BINARY32" "Lcom/example/fourfold/fourfold/json/FloatFormat;" (.ref w_BINARY32)) (E_BINARY32 : Exa Z h0 w_BINARY32 "com/example/fourfold/fourfold/json/FloatFormat") (F_fractionBits_BINARY32 : Fld Z h0 w_BINARY32 "com/example/fourfold/fourfold/json/FloatFormat" "fractionBits" "I" (.int (23 : Int32))) (F_specialExponent_BINARY32 : Fld Z h0 w_BINARY32 "com/example/fourfold/fourfold/json/FloatFormat" "specialExponent" "I" (.int (255 : Int32))) (hu : finF (q2 &&& (4294967295 : Int64)) (23 : Int32) (255 : Int32) = u) (hc3 : (p1 &&& (1 : Int32)) = (0 : Int32)) (hc85 : ¬ ((p3 &&& (3 : Int32)) = (1 : Int32))) (hc101 : ¬ ((p3 &&& (3 : Int32)) = (2 : Int32))) (hc124 : ¬ ((p3 &&& (3 : Int32)) = (3 : Int32))) (hc146 : (lcmpW ((q2 &&& (4294967295 : Int64)) &&& (2139095040 : Int64)) (2139095040 : Int64)) = (0 : Int32)) (hv165 : u = (0 : Int32)) :
    MetFree l x (head1 (Jvm.Cond.code x code maxLocals ret :: ws) room_1) (fun a U => a = #[(.int p1), (.long q2), (.int p3)] ∧ Z.Warmed39 U.vm ∧ U.heap = h0) (fun _ _ _ _ _ => True) (fun _ U o U' => ∃ v L, o = .returned v ∧ Q0 Z h0 n0 v U'.heap L ∧ FrameEnd U o U' L room_1.cells room_1.slots) := by
  refine MetFree.of_bodySF (plainFor_of_name pn_0) hisR ?_
  intro p e s m args below meth c s₁ Bd hml0 hP hK
  obtain ⟨rfl, hZ, hh⟩ := hP
  have hx := Bd.exec
  have hby := Bd.bytes
  have hml : c.maxLocals = 14 := hml0
  have hown : s.vm.findClass "com/example/fourfold/fourfold/json/FloatFormatIsFinitePinLaw" = some m.cls := findClass_of_methodNamed Bd.named
  have hnm := (name_of_methodNamed Bd.named Bd.method).1
  have X0 : Stand p l e room_1 s m #[(.int p1), (.long q2), (.int p3)] below meth c s₁ [] 0 0 := Stand.of_body Bd
  have e0 : s₁.heap = h0 := by rw [← hh, Bd.state]; rfl
  have N0 := Fr.nil n0
  have pre0 : ∀ t, Steps p.tables e below (s₁.setTop (mkF m 0 #[.val (.int p1), .val (.long q2), .second, .val (.int p3), .unset, .unset, .unset, .unset, .unset, .unset, .unset, .unset, .unset, .unset] [])) t → Steps p.tables e below (s₁.setTop (entryFrame m #[(.int p1), (.long q2), (.int p3)] maxLocals)) t := fun t k => castTop (ef_0 m p1 q2 p3) k
  -- 3. LAWS
  obtain ⟨T5, X5, e5, st5⟩ := getS2 X0 hx hZ hown (host := "") (Or.inl (hw _ (List.mem_of_getElem? (i := 0) rfl))) Via.refl e0 S_BINARY32 (g := (mkF m 24 #[.val (.int p1), .val (.long q2), .second, .val (.int p3), .val (.int (0 : Int32)), .unset, .unset, .unset, .unset, .unset, .unset, .unset, .unset, .unset] [])) rfl (hb hby at_24)
  -- pc 160: com/example/fourfold/fourfold/json/FloatFormat.isFinite by the contract of the body that the receiver's class selects, rm1
  obtain ⟨cq6, kq6, q6a, q6b, q6c⟩ := isOf hZ e5 E_BINARY32
  obtain ⟨_, _, ⟨T6, L6, k6, n6⟩, -, X6, ⟨Lc6, hQ6, l6, y6, z6⟩, st6⟩ := X5.virtualBack hx (y := (⟨"com/example/fourfold/fourfold/json/FloatFormat", "isFinite", "(J)Z"⟩ : MethodName)) (z := (⟨"com/example/fourfold/fourfold/json/FloatFormat", "isFinite", "(J)Z"⟩ : MethodName)) hown (mvT hZ (hw _ (List.mem_of_getElem? (i := 6) rfl))) (mvT hZ (hw _ (List.mem_of_getElem? (i := 7) rfl))) (notFace_of_selects (args := #[]) (mvT hZ (hw _ (List.mem_of_getElem? (i := 9) rfl)))) (mvT hZ (hw _ (List.mem_of_getElem? (i := 9) rfl))) (mvT hZ (hw _ (List.mem_of_getElem? (i := 8) rfl))) (by decide) (backOf (W := 0) (rm1 l Z a0 hw [] w_BINARY32 (q2 &&& (4294967295 : Int64)) (255 : Int32) (23 : Int32) h0 n0 Z0 E_BINARY32 F_specialExponent_BINARY32 F_fractionBits_BINARY32) hZ (hw _ (List.mem_of_getElem? (i := 10) rfl)) (hw _ (List.mem_of_getElem? (i := 1) rfl)) (by decide) (by decide)) q6a q6c (g := (mkF m 160 #[.val (.int p1), .val (.long q2), .second, .val (.int p3), .val (.int (0 : Int32)), .val (.ref w_BINARY32), .val (.long (2139095040 : Int64)), .second, .val (.long (8388608 : Int64)), .second, .val (.long (q2 &&& (4294967295 : Int64))), .second, .val (.int (p3 &&& (3 : Int32))), .val (.int (0 : Int32))] [(.long (q2 &&& (4294967295 : Int64))), (.ref w_BINARY32)])) rfl (by rw [hml]; rfl) (Steps.refl _) (argsL := [(.long (q2 &&& (4294967295 : Int64)))]) (rest := []) (lenOf pd_0_0 rfl) rfl (by show 2 * 0 + _ ≤ _; exact Nat.le_of_eq rfl) (hb hby at_160) (fun _ _ => ⟨rfl, e5, (by decide : 0 + 0 ≤ _), (by decide : 0 + 0 ≤ _)⟩)
  dsimp only [Pt.U, Pt.locs, Pt.cells, Pt.slots] at X6 l6 y6 z6 st6 hQ6
  subst l6 y6 z6
  obtain ⟨rv6, N6q, q6⟩ := hQ6
  rw [hu] at rv6
  subst rv6
  have N6 := Fr.app N0 N6q
  obtain ⟨fs, hr, hrun, hended, hW, hsame⟩ := X6.leave (v := some (.int (1 : Int32))) (fun h => by rw [Bd.returns] at h; cases h)
  refine ⟨_, _, pre0 _ ?_, hrun, hended, _, _, rfl, ?_, ⟨_, rfl⟩, hW, hsame.mono (by decide) (by decide)⟩
  -- 4. STEPS
  · show Steps p.tables e below (s₁.setTop (mkF m 0 #[.val (.int p1), .val (.long q2), .second, .val (.int p3), .unset, .unset, .unset, .unset, .unset, .unset, .unset, .unset, .unset, .unset] [])) _
    refine XS.iloadN X0.here hx rfl (hb hby at_0) rfl ?_
    show Steps p.tables e below (s₁.setTop (mkF m 1 #[.val (.int p1), .val (.long q2), .second, .val (.int p3), .unset, .unset, .unset, .unset, .unset, .unset, .unset, .unset, .unset, .unset] [(.int p1)])) _
    refine XS.iconst X0.here hx rfl (hb hby at_1) ?_
    show Steps p.tables e below (s₁.setTop (mkF m 2 #[.val (.int p1), .val (.long q2), .second, .val (.int p3), .unset, .unset, .unset, .unset, .unset, .unset, .unset, .unset, .unset, .unset] [(.int (1 : Int32)), (.int p1)])) _
    refine XS.iand X0.here hx rfl (hb hby at_2) rfl ?_
    show Steps p.tables e below (s₁.setTop (mkF m 3 #[.val (.int p1), .val (.long q2), .second, .val (.int p3), .unset, .unset, .unset, .unset, .unset, .unset, .unset, .unset, .unset, .unset] [(.int (p1 &&& (1 : Int32)))])) _
    refine XS.ifYes X0.here hx rfl (pc0 := 3) (pc' := 10) rfl (hb hby at_3) rfl ((if0 _ _).trans (teq hc3).1) (by decide) (by decide) ?_
    show Steps p.tables e below (s₁.setTop (mkF m 10 #[.val (.int p1), .val (.long q2), .second, .val (.int p3), .unset, .unset, .unset, .unset, .unset, .unset, .unset, .unset, .unset, .unset] [])) _
    refine XS.iconst X0.here hx rfl (hb hby at_10) ?_
    show Steps p.tables e below (s₁.setTop (mkF m 11 #[.val (.int p1), .val (.long q2), .second, .val (.int p3), .unset, .unset, .unset, .unset, .unset, .unset, .unset, .unset, .unset, .unset] [(.int (0 : Int32))])) _
    refine XS.istore X0.here hx rfl (hb hby at_11) rfl (l' := #[.val (.int p1), .val (.long q2), .second, .val (.int p3), .val (.int (0 : Int32)), .unset, .unset, .unset, .unset, .unset, .unset, .unset, .unset, .unset]) rfl ?_
    show Steps p.tables e below (s₁.setTop (mkF m 13 #[.val (.int p1), .val (.long q2), .second, .val (.int p3), .val (.int (0 : Int32)), .unset, .unset, .unset, .unset, .unset, .unset, .unset, .unset, .unset] [])) _
    refine XS.iload X0.here hx rfl (hb hby at_13) rfl ?_
    show Steps p.tables e below (s₁.setTop (mkF m 15 #[.val (.int p1), .val (.long q2), .second, .val (.int p3), .val (.int (0 : Int32)), .unset, .unset, .unset, .unset, .unset, .unset, .unset, .unset, .unset] [(.int (0 : Int32))])) _
    refine XS.ifYes X0.here hx rfl (pc0 := 15) (pc' := 24) rfl (hb hby at_15) rfl ((if0 _ _).trans (teq (rfl : (0 : Int32) = (0 : Int32))).1) (by decide) (by decide) ?_
    show Steps p.tables e below (s₁.setTop (mkF m 24 #[.val (.int p1), .val (.long q2), .second, .val (.int p3), .val (.int (0 : Int32)), .unset, .unset, .unset, .unset, .unset, .unset, .unset, .unset, .unset] [])) _
    refine st5 _ ?_
    show Steps p.tables e below (T5.setTop (mkF m 27 #[.val (.int p1), .val (.long q2), .second, .val (.int p3), .val (.int (0 : Int32)), .unset, .unset, .unset, .unset, .unset, .unset, .unset, .unset, .unset] [(.ref w_BINARY32)])) _
    refine XS.astore X5.here hx rfl (hb hby at_27) rfl rfl (l' := #[.val (.int p1), .val (.long q2), .second, .val (.int p3), .val (.int (0 : Int32)), .val (.ref w_BINARY32), .unset, .unset, .unset, .unset, .unset, .unset, .unset, .unset]) rfl ?_
    show Steps p.tables e below (T5.setTop (mkF m 29 #[.val (.int p1), .val (.long q2), .second, .val (.int p3), .val (.int (0 : Int32)), .val (.ref w_BINARY32), .unset, .unset, .unset, .unset, .unset, .unset, .unset, .unset] [])) _
    refine XS.iload X5.here hx rfl (hb hby at_29) rfl ?_
    show Steps p.tables e below (T5.setTop (mkF m 31 #[.val (.int p1), .val (.long q2), .second, .val (.int p3), .val (.int (0 : Int32)), .val (.ref w_BINARY32), .unset, .unset, .unset, .unset, .unset, .unset, .unset, .unset] [(.int (0 : Int32))])) _
    refine XS.ifYes X5.here hx rfl (pc0 := 31) (pc' := 40) rfl (hb hby at_31) rfl ((if0 _ _).trans (teq (rfl : (0 : Int32) = (0 : Int32))).1) (by decide) (by decide) ?_
    show Steps p.tables e below (T5.setTop (mkF m 40 #[.val (.int p1), .val (.long q2), .second, .val (.int p3), .val (.int (0 : Int32)), .val (.ref w_BINARY32), .unset, .unset, .unset, .unset, .unset, .unset, .unset, .unset] [])) _
    refine X5.ldc2Long hx hown (mvT hZ (hw _ (List.mem_of_getElem? (i := 3) rfl))) (g := (mkF m 40 #[.val (.int p1), .val (.long q2), .second, .val (.int p3), .val (.int (0 : Int32)), .val (.ref w_BINARY32), .unset, .unset, .unset, .unset, .unset, .unset, .unset, .unset] [])) rfl (hb hby at_40) _ ?_
    show Steps p.tables e below (T5.setTop (mkF m 43 #[.val (.int p1), .val (.long q2), .second, .val (.int p3), .val (.int (0 : Int32)), .val (.ref w_BINARY32), .unset, .unset, .unset, .unset, .unset, .unset, .unset, .unset] [(.long (2139095040 : Int64))])) _
    refine XS.lstore X5.here hx rfl (hb hby at_43) rfl (l' := #[.val (.int p1), .val (.long q2), .second, .val (.int p3), .val (.int (0 : Int32)), .val (.ref w_BINARY32), .val (.long (2139095040 : Int64)), .second, .unset, .unset, .unset, .unset, .unset, .unset]) rfl ?_
    show Steps p.tables e below (T5.setTop (mkF m 45 #[.val (.int p1), .val (.long q2), .second, .val (.int p3), .val (.int (0 : Int32)), .val (.ref w_BINARY32), .val (.long (2139095040 : Int64)), .second, .unset, .unset, .unset, .unset, .unset, .unset] [])) _
    refine XS.iload X5.here hx rfl (hb hby at_45) rfl ?_
    show Steps p.tables e below (T5.setTop (mkF m 47 #[.val (.int p1), .val (.long q2), .second, .val (.int p3), .val (.int (0 : Int32)), .val (.ref w_BINARY32), .val (.long (2139095040 : Int64)), .second, .unset, .unset, .unset, .unset, .unset, .unset] [(.int (0 : Int32))])) _
    refine XS.ifYes X5.here hx rfl (pc0 := 47) (pc' := 56) rfl (hb hby at_47) rfl ((if0 _ _).trans (teq (rfl : (0 : Int32) = (0 : Int32))).1) (by decide) (by decide) ?_
    show Steps p.tables e below (T5.setTop (mkF m 56 #[.val (.int p1), .val (.long q2), .second, .val (.int p3), .val (.int (0 : Int32)), .val (.ref w_BINARY32), .val (.long (2139095040 : Int64)), .second, .unset, .unset, .unset, .unset, .unset, .unset] [])) _
    refine X5.ldc2Long hx hown (mvT hZ (hw _ (List.mem_of_getElem? (i := 4) rfl))) (g := (mkF m 56 #[.val (.int p1), .val (.long q2), .second, .val (.int p3), .val (.int (0 : Int32)), .val (.ref w_BINARY32), .val (.long (2139095040 : Int64)), .second, .unset, .unset, .unset, .unset, .unset, .unset] [])) rfl (hb hby at_56) _ ?_
    show Steps p.tables e below (T5.setTop (mkF m 59 #[.val (.int p1), .val (.long q2), .second, .val (.int p3), .val (.int (0 : Int32)), .val (.ref w_BINARY32), .val (.long (2139095040 : Int64)), .second, .unset, .unset, .unset, .unset, .unset, .unset] [(.long (8388608 : Int64))])) _
    refine XS.lstore X5.here hx rfl (hb hby at_59) rfl (l' := #[.val (.int p1), .val (.long q2), .second, .val (.int p3), .val (.int (0 : Int32)), .val (.ref w_BINARY32), .val (.long (2139095040 : Int64)), .second, .val (.long (8388608 : Int64)), .second, .unset, .unset, .unset, .unset]) rfl ?_
    show Steps p.tables e below (T5.setTop (mkF m 61 #[.val (.int p1), .val (.long q2), .second, .val (.int p3), .val (.int (0 : Int32)), .val (.ref w_BINARY32), .val (.long (2139095040 : Int64)), .second, .val (.long (8388608 : Int64)), .second, .unset, .unset, .unset, .unset] [])) _
    refine XS.iload X5.here hx rfl (hb hby at_61) rfl ?_
    show Steps p.tables e below (T5.setTop (mkF m 63 #[.val (.int p1), .val (.long q2), .second, .val (.int p3), .val (.int (0 : Int32)), .val (.ref w_BINARY32), .val (.long (2139095040 : Int64)), .second, .val (.long (8388608 : Int64)), .second, .unset, .unset, .unset, .unset] [(.int (0 : Int32))])) _
    refine XS.ifYes X5.here hx rfl (pc0 := 63) (pc' := 70) rfl (hb hby at_63) rfl ((if0 _ _).trans (teq (rfl : (0 : Int32) = (0 : Int32))).1) (by decide) (by decide) ?_
    show Steps p.tables e below (T5.setTop (mkF m 70 #[.val (.int p1), .val (.long q2), .second, .val (.int p3), .val (.int (0 : Int32)), .val (.ref w_BINARY32), .val (.long (2139095040 : Int64)), .second, .val (.long (8388608 : Int64)), .second, .unset, .unset, .unset, .unset] [])) _
    refine XS.lloadN X5.here hx rfl (hb hby at_70) rfl ?_
    show Steps p.tables e below (T5.setTop (mkF m 71 #[.val (.int p1), .val (.long q2), .second, .val (.int p3), .val (.int (0 : Int32)), .val (.ref w_BINARY32), .val (.long (2139095040 : Int64)), .second, .val (.long (8388608 : Int64)), .second, .unset, .unset, .unset, .unset] [(.long q2)])) _
    refine X5.ldc2Long hx hown (mvT hZ (hw _ (List.mem_of_getElem? (i := 5) rfl))) (g := (mkF m 71 #[.val (.int p1), .val (.long q2), .second, .val (.int p3), .val (.int (0 : Int32)), .val (.ref w_BINARY32), .val (.long (2139095040 : Int64)), .second, .val (.long (8388608 : Int64)), .second, .unset, .unset, .unset, .unset] [(.long q2)])) rfl (hb hby at_71) _ ?_
    show Steps p.tables e below (T5.setTop (mkF m 74 #[.val (.int p1), .val (.long q2), .second, .val (.int p3), .val (.int (0 : Int32)), .val (.ref w_BINARY32), .val (.long (2139095040 : Int64)), .second, .val (.long (8388608 : Int64)), .second, .unset, .unset, .unset, .unset] [(.long (4294967295 : Int64)), (.long q2)])) _
    refine XS.land X5.here hx rfl (hb hby at_74) rfl ?_
    show Steps p.tables e below (T5.setTop (mkF m 75 #[.val (.int p1), .val (.long q2), .second, .val (.int p3), .val (.int (0 : Int32)), .val (.ref w_BINARY32), .val (.long (2139095040 : Int64)), .second, .val (.long (8388608 : Int64)), .second, .unset, .unset, .unset, .unset] [(.long (q2 &&& (4294967295 : Int64)))])) _
    refine XS.lstore X5.here hx rfl (hb hby at_75) rfl (l' := #[.val (.int p1), .val (.long q2), .second, .val (.int p3), .val (.int (0 : Int32)), .val (.ref w_BINARY32), .val (.long (2139095040 : Int64)), .second, .val (.long (8388608 : Int64)), .second, .val (.long (q2 &&& (4294967295 : Int64))), .second, .unset, .unset]) rfl ?_
    show Steps p.tables e below (T5.setTop (mkF m 77 #[.val (.int p1), .val (.long q2), .second, .val (.int p3), .val (.int (0 : Int32)), .val (.ref w_BINARY32), .val (.long (2139095040 : Int64)), .second, .val (.long (8388608 : Int64)), .second, .val (.long (q2 &&& (4294967295 : Int64))), .second, .unset, .unset] [])) _
    refine XS.iloadN X5.here hx rfl (hb hby at_77) rfl ?_
    show Steps p.tables e below (T5.setTop (mkF m 78 #[.val (.int p1), .val (.long q2), .second, .val (.int p3), .val (.int (0 : Int32)), .val (.ref w_BINARY32), .val (.long (2139095040 : Int64)), .second, .val (.long (8388608 : Int64)), .second, .val (.long (q2 &&& (4294967295 : Int64))), .second, .unset, .unset] [(.int p3)])) _
    refine XS.iconst X5.here hx rfl (hb hby at_78) ?_
    show Steps p.tables e below (T5.setTop (mkF m 79 #[.val (.int p1), .val (.long q2), .second, .val (.int p3), .val (.int (0 : Int32)), .val (.ref w_BINARY32), .val (.long (2139095040 : Int64)), .second, .val (.long (8388608 : Int64)), .second, .val (.long (q2 &&& (4294967295 : Int64))), .second, .unset, .unset] [(.int (3 : Int32)), (.int p3)])) _
    refine XS.iand X5.here hx rfl (hb hby at_79) rfl ?_
    show Steps p.tables e below (T5.setTop (mkF m 80 #[.val (.int p1), .val (.long q2), .second, .val (.int p3), .val (.int (0 : Int32)), .val (.ref w_BINARY32), .val (.long (2139095040 : Int64)), .second, .val (.long (8388608 : Int64)), .second, .val (.long (q2 &&& (4294967295 : Int64))), .second, .unset, .unset] [(.int (p3 &&& (3 : Int32)))])) _
    refine XS.istore X5.here hx rfl (hb hby at_80) rfl (l' := #[.val (.int p1), .val (.long q2), .second, .val (.int p3), .val (.int (0 : Int32)), .val (.ref w_BINARY32), .val (.long (2139095040 : Int64)), .second, .val (.long (8388608 : Int64)), .second, .val (.long (q2 &&& (4294967295 : Int64))), .second, .val (.int (p3 &&& (3 : Int32))), .unset]) rfl ?_
    show Steps p.tables e below (T5.setTop (mkF m 82 #[.val (.int p1), .val (.long q2), .second, .val (.int p3), .val (.int (0 : Int32)), .val (.ref w_BINARY32), .val (.long (2139095040 : Int64)), .second, .val (.long (8388608 : Int64)), .second, .val (.long (q2 &&& (4294967295 : Int64))), .second, .val (.int (p3 &&& (3 : Int32))), .unset] [])) _
    refine XS.iload X5.here hx rfl (hb hby at_82) rfl ?_
    show Steps p.tables e below (T5.setTop (mkF m 84 #[.val (.int p1), .val (.long q2), .second, .val (.int p3), .val (.int (0 : Int32)), .val (.ref w_BINARY32), .val (.long (2139095040 : Int64)), .second, .val (.long (8388608 : Int64)), .second, .val (.long (q2 &&& (4294967295 : Int64))), .second, .val (.int (p3 &&& (3 : Int32))), .unset] [(.int (p3 &&& (3 : Int32)))])) _
    refine XS.iconst X5.here hx rfl (hb hby at_84) ?_
    show Steps p.tables e below (T5.setTop (mkF m 85 #[.val (.int p1), .val (.long q2), .second, .val (.int p3), .val (.int (0 : Int32)), .val (.ref w_BINARY32), .val (.long (2139095040 : Int64)), .second, .val (.long (8388608 : Int64)), .second, .val (.long (q2 &&& (4294967295 : Int64))), .second, .val (.int (p3 &&& (3 : Int32))), .unset] [(.int (1 : Int32)), (.int (p3 &&& (3 : Int32)))])) _
    refine XS.icmpYes X5.here hx rfl (pc0 := 85) (pc' := 98) rfl (hb hby at_85) rfl (feq hc85).2 (by decide) (by decide) ?_
    show Steps p.tables e below (T5.setTop (mkF m 98 #[.val (.int p1), .val (.long q2), .second, .val (.int p3), .val (.int (0 : Int32)), .val (.ref w_BINARY32), .val (.long (2139095040 : Int64)), .second, .val (.long (8388608 : Int64)), .second, .val (.long (q2 &&& (4294967295 : Int64))), .second, .val (.int (p3 &&& (3 : Int32))), .unset] [])) _
    refine XS.iload X5.here hx rfl (hb hby at_98) rfl ?_
    show Steps p.tables e below (T5.setTop (mkF m 100 #[.val (.int p1), .val (.long q2), .second, .val (.int p3), .val (.int (0 : Int32)), .val (.ref w_BINARY32), .val (.long (2139095040 : Int64)), .second, .val (.long (8388608 : Int64)), .second, .val (.long (q2 &&& (4294967295 : Int64))), .second, .val (.int (p3 &&& (3 : Int32))), .unset] [(.int (p3 &&& (3 : Int32)))])) _
    refine XS.iconst X5.here hx rfl (hb hby at_100) ?_
    show Steps p.tables e below (T5.setTop (mkF m 101 #[.val (.int p1), .val (.long q2), .second, .val (.int p3), .val (.int (0 : Int32)), .val (.ref w_BINARY32), .val (.long (2139095040 : Int64)), .second, .val (.long (8388608 : Int64)), .second, .val (.long (q2 &&& (4294967295 : Int64))), .second, .val (.int (p3 &&& (3 : Int32))), .unset] [(.int (2 : Int32)), (.int (p3 &&& (3 : Int32)))])) _
    refine XS.icmpYes X5.here hx rfl (pc0 := 101) (pc' := 121) rfl (hb hby at_101) rfl (feq hc101).2 (by decide) (by decide) ?_
    show Steps p.tables e below (T5.setTop (mkF m 121 #[.val (.int p1), .val (.long q2), .second, .val (.int p3), .val (.int (0 : Int32)), .val (.ref w_BINARY32), .val (.long (2139095040 : Int64)), .second, .val (.long (8388608 : Int64)), .second, .val (.long (q2 &&& (4294967295 : Int64))), .second, .val (.int (p3 &&& (3 : Int32))), .unset] [])) _
    refine XS.iload X5.here hx rfl (hb hby at_121) rfl ?_
    show Steps p.tables e below (T5.setTop (mkF m 123 #[.val (.int p1), .val (.long q2), .second, .val (.int p3), .val (.int (0 : Int32)), .val (.ref w_BINARY32), .val (.long (2139095040 : Int64)), .second, .val (.long (8388608 : Int64)), .second, .val (.long (q2 &&& (4294967295 : Int64))), .second, .val (.int (p3 &&& (3 : Int32))), .unset] [(.int (p3 &&& (3 : Int32)))])) _
    refine XS.iconst X5.here hx rfl (hb hby at_123) ?_
    show Steps p.tables e below (T5.setTop (mkF m 124 #[.val (.int p1), .val (.long q2), .second, .val (.int p3), .val (.int (0 : Int32)), .val (.ref w_BINARY32), .val (.long (2139095040 : Int64)), .second, .val (.long (8388608 : Int64)), .second, .val (.long (q2 &&& (4294967295 : Int64))), .second, .val (.int (p3 &&& (3 : Int32))), .unset] [(.int (3 : Int32)), (.int (p3 &&& (3 : Int32)))])) _
    refine XS.icmpYes X5.here hx rfl (pc0 := 124) (pc' := 138) rfl (hb hby at_124) rfl (feq hc124).2 (by decide) (by decide) ?_
    show Steps p.tables e below (T5.setTop (mkF m 138 #[.val (.int p1), .val (.long q2), .second, .val (.int p3), .val (.int (0 : Int32)), .val (.ref w_BINARY32), .val (.long (2139095040 : Int64)), .second, .val (.long (8388608 : Int64)), .second, .val (.long (q2 &&& (4294967295 : Int64))), .second, .val (.int (p3 &&& (3 : Int32))), .unset] [])) _
    refine XS.lload X5.here hx rfl (hb hby at_138) rfl ?_
    show Steps p.tables e below (T5.setTop (mkF m 140 #[.val (.int p1), .val (.long q2), .second, .val (.int p3), .val (.int (0 : Int32)), .val (.ref w_BINARY32), .val (.long (2139095040 : Int64)), .second, .val (.long (8388608 : Int64)), .second, .val (.long (q2 &&& (4294967295 : Int64))), .second, .val (.int (p3 &&& (3 : Int32))), .unset] [(.long (q2 &&& (4294967295 : Int64)))])) _
    refine XS.lload X5.here hx rfl (hb hby at_140) rfl ?_
    show Steps p.tables e below (T5.setTop (mkF m 142 #[.val (.int p1), .val (.long q2), .second, .val (.int p3), .val (.int (0 : Int32)), .val (.ref w_BINARY32), .val (.long (2139095040 : Int64)), .second, .val (.long (8388608 : Int64)), .second, .val (.long (q2 &&& (4294967295 : Int64))), .second, .val (.int (p3 &&& (3 : Int32))), .unset] [(.long (2139095040 : Int64)), (.long (q2 &&& (4294967295 : Int64)))])) _
    refine XS.land X5.here hx rfl (hb hby at_142) rfl ?_
    show Steps p.tables e below (T5.setTop (mkF m 143 #[.val (.int p1), .val (.long q2), .second, .val (.int p3), .val (.int (0 : Int32)), .val (.ref w_BINARY32), .val (.long (2139095040 : Int64)), .second, .val (.long (8388608 : Int64)), .second, .val (.long (q2 &&& (4294967295 : Int64))), .second, .val (.int (p3 &&& (3 : Int32))), .unset] [(.long ((q2 &&& (4294967295 : Int64)) &&& (2139095040 : Int64)))])) _
    refine XS.lload X5.here hx rfl (hb hby at_143) rfl ?_
    show Steps p.tables e below (T5.setTop (mkF m 145 #[.val (.int p1), .val (.long q2), .second, .val (.int p3), .val (.int (0 : Int32)), .val (.ref w_BINARY32), .val (.long (2139095040 : Int64)), .second, .val (.long (8388608 : Int64)), .second, .val (.long (q2 &&& (4294967295 : Int64))), .second, .val (.int (p3 &&& (3 : Int32))), .unset] [(.long (2139095040 : Int64)), (.long ((q2 &&& (4294967295 : Int64)) &&& (2139095040 : Int64)))])) _
    refine XS.lcmp X5.here hx rfl (hb hby at_145) rfl ?_
    show Steps p.tables e below (T5.setTop (mkF m 146 #[.val (.int p1), .val (.long q2), .second, .val (.int p3), .val (.int (0 : Int32)), .val (.ref w_BINARY32), .val (.long (2139095040 : Int64)), .second, .val (.long (8388608 : Int64)), .second, .val (.long (q2 &&& (4294967295 : Int64))), .second, .val (.int (p3 &&& (3 : Int32))), .unset] [(.int (lcmpW ((q2 &&& (4294967295 : Int64)) &&& (2139095040 : Int64)) (2139095040 : Int64)))])) _
    refine XS.ifYes X5.here hx rfl (pc0 := 146) (pc' := 153) rfl (hb hby at_146) rfl ((if0 _ _).trans (teq hc146).1) (by decide) (by decide) ?_
    show Steps p.tables e below (T5.setTop (mkF m 153 #[.val (.int p1), .val (.long q2), .second, .val (.int p3), .val (.int (0 : Int32)), .val (.ref w_BINARY32), .val (.long (2139095040 : Int64)), .second, .val (.long (8388608 : Int64)), .second, .val (.long (q2 &&& (4294967295 : Int64))), .second, .val (.int (p3 &&& (3 : Int32))), .unset] [])) _
    refine XS.iconst X5.here hx rfl (hb hby at_153) ?_
    show Steps p.tables e below (T5.setTop (mkF m 154 #[.val (.int p1), .val (.long q2), .second, .val (.int p3), .val (.int (0 : Int32)), .val (.ref w_BINARY32), .val (.long (2139095040 : Int64)), .second, .val (.long (8388608 : Int64)), .second, .val (.long (q2 &&& (4294967295 : Int64))), .second, .val (.int (p3 &&& (3 : Int32))), .unset] [(.int (0 : Int32))])) _
    refine XS.istore X5.here hx rfl (hb hby at_154) rfl (l' := #[.val (.int p1), .val (.long q2), .second, .val (.int p3), .val (.int (0 : Int32)), .val (.ref w_BINARY32), .val (.long (2139095040 : Int64)), .second, .val (.long (8388608 : Int64)), .second, .val (.long (q2 &&& (4294967295 : Int64))), .second, .val (.int (p3 &&& (3 : Int32))), .val (.int (0 : Int32))]) rfl ?_
    show Steps p.tables e below (T5.setTop (mkF m 156 #[.val (.int p1), .val (.long q2), .second, .val (.int p3), .val (.int (0 : Int32)), .val (.ref w_BINARY32), .val (.long (2139095040 : Int64)), .second, .val (.long (8388608 : Int64)), .second, .val (.long (q2 &&& (4294967295 : Int64))), .second, .val (.int (p3 &&& (3 : Int32))), .val (.int (0 : Int32))] [])) _
    refine XS.aload X5.here hx rfl (hb hby at_156) rfl rfl ?_
    show Steps p.tables e below (T5.setTop (mkF m 158 #[.val (.int p1), .val (.long q2), .second, .val (.int p3), .val (.int (0 : Int32)), .val (.ref w_BINARY32), .val (.long (2139095040 : Int64)), .second, .val (.long (8388608 : Int64)), .second, .val (.long (q2 &&& (4294967295 : Int64))), .second, .val (.int (p3 &&& (3 : Int32))), .val (.int (0 : Int32))] [(.ref w_BINARY32)])) _
    refine XS.lload X5.here hx rfl (hb hby at_158) rfl ?_
    show Steps p.tables e below (T5.setTop (mkF m 160 #[.val (.int p1), .val (.long q2), .second, .val (.int p3), .val (.int (0 : Int32)), .val (.ref w_BINARY32), .val (.long (2139095040 : Int64)), .second, .val (.long (8388608 : Int64)), .second, .val (.long (q2 &&& (4294967295 : Int64))), .second, .val (.int (p3 &&& (3 : Int32))), .val (.int (0 : Int32))] [(.long (q2 &&& (4294967295 : Int64))), (.ref w_BINARY32)])) _
    refine st6.trans ?_
    show Steps p.tables e below (T6.setTop (mkF m 163 #[.val (.int p1), .val (.long q2), .second, .val (.int p3), .val (.int (0 : Int32)), .val (.ref w_BINARY32), .val (.long (2139095040 : Int64)), .second, .val (.long (8388608 : Int64)), .second, .val (.long (q2 &&& (4294967295 : Int64))), .second, .val (.int (p3 &&& (3 : Int32))), .val (.int (0 : Int32))] [(.int u)])) _
    refine XS.iload X6.here hx rfl (hb hby at_163) rfl ?_
    show Steps p.tables e below (T6.setTop (mkF m 165 #[.val (.int p1), .val (.long q2), .second, .val (.int p3), .val (.int (0 : Int32)), .val (.ref w_BINARY32), .val (.long (2139095040 : Int64)), .second, .val (.long (8388608 : Int64)), .second, .val (.long (q2 &&& (4294967295 : Int64))), .second, .val (.int (p3 &&& (3 : Int32))), .val (.int (0 : Int32))] [(.int (0 : Int32)), (.int u)])) _
    refine XS.icmpNo X6.here hx rfl (hb hby at_165) rfl (teq (hv165 : u = (0 : Int32))).2 ?_
    show Steps p.tables e below (T6.setTop (mkF m 168 #[.val (.int p1), .val (.long q2), .second, .val (.int p3), .val (.int (0 : Int32)), .val (.ref w_BINARY32), .val (.long (2139095040 : Int64)), .second, .val (.long (8388608 : Int64)), .second, .val (.long (q2 &&& (4294967295 : Int64))), .second, .val (.int (p3 &&& (3 : Int32))), .val (.int (0 : Int32))] [])) _
    refine XS.iconst X6.here hx rfl (hb hby at_168) ?_
    show Steps p.tables e below (T6.setTop (mkF m 169 #[.val (.int p1), .val (.long q2), .second, .val (.int p3), .val (.int (0 : Int32)), .val (.ref w_BINARY32), .val (.long (2139095040 : Int64)), .second, .val (.long (8388608 : Int64)), .second, .val (.long (q2 &&& (4294967295 : Int64))), .second, .val (.int (p3 &&& (3 : Int32))), .val (.int (0 : Int32))] [(.int (1 : Int32))])) _
    refine XS.goto X6.here hx rfl (pc0 := 169) (pc' := 173) rfl (hb hby at_169) (by decide) (by decide) ?_
    show Steps p.tables e below (T6.setTop (mkF m 173 #[.val (.int p1), .val (.long q2), .second, .val (.int p3), .val (.int (0 : Int32)), .val (.ref w_BINARY32), .val (.long (2139095040 : Int64)), .second, .val (.long (8388608 : Int64)), .second, .val (.long (q2 &&& (4294967295 : Int64))), .second, .val (.int (p3 &&& (3 : Int32))), .val (.int (0 : Int32))] [(.int (1 : Int32))])) _
    exact retN X6 hx (t := .boolean) Bd.returns (by simp) (hb hby at_173) hr
  · show Q0 Z h0 n0 _ T6.heap _
    exact ⟨rfl, N6⟩
set_option maxRecDepth 65536 in
set_option maxHeartbeats 40000000 in
theorem rm0_ttttttttff (l : Launch) (Z : State) (a0 : Array Value) (hw : ∀ d ∈ tables_1, d.before a0 Z = true) (ws : List Jvm.Cond) (p1 : Int32) (q2 : Int64) (p3 : Int32) (w_BINARY32 : Addr) (u : Int32) (h0 : Heap) (n0 : Nat) (Z0 : n0 ≤ h0.size) (S_BINARY32 : Sta Z h0 "com/example/fourfold/fourfold/json/FloatFormat" "BINARY32" "Lcom/example/fourfold/fourfold/json/FloatFormat;" (.ref w_BINARY32)) (E_BINARY32 : Exa Z h0 w_BINARY32 "com/example/fourfold/fourfold/json/FloatFormat") (F_fractionBits_BINARY32 : Fld Z h0 w_BINARY32 "com/example/fourfold/fourfold/json/FloatFormat" "fractionBits" "I" (.int (23 : Int32))) (F_specialExponent_BINARY32 : Fld Z h0 w_BINARY32 "com/example/fourfold/fourfold/json/FloatFormat" "specialExponent" "I" (.int (255 : Int32))) (hu : finF (q2 &&& (4294967295 : Int64)) (23 : Int32) (255 : Int32) = u) (hc3 : (p1 &&& (1 : Int32)) = (0 : Int32)) (hc85 : ¬ ((p3 &&& (3 : Int32)) = (1 : Int32))) (hc101 : ¬ ((p3 &&& (3 : Int32)) = (2 : Int32))) (hc124 : ¬ ((p3 &&& (3 : Int32)) = (3 : Int32))) (hc146 : ¬ ((lcmpW ((q2 &&& (4294967295 : Int64)) &&& (2139095040 : Int64)) (2139095040 : Int64)) = (0 : Int32))) (hv165 : u = (1 : Int32)) :
    MetFree l x (head1 (Jvm.Cond.code x code maxLocals ret :: ws) room_1) (fun a U => a = #[(.int p1), (.long q2), (.int p3)] ∧ Z.Warmed39 U.vm ∧ U.heap = h0) (fun _ _ _ _ _ => True) (fun _ U o U' => ∃ v L, o = .returned v ∧ Q0 Z h0 n0 v U'.heap L ∧ FrameEnd U o U' L room_1.cells room_1.slots) := by
  refine MetFree.of_bodySF (plainFor_of_name pn_0) hisR ?_
  intro p e s m args below meth c s₁ Bd hml0 hP hK
  obtain ⟨rfl, hZ, hh⟩ := hP
  have hx := Bd.exec
  have hby := Bd.bytes
  have hml : c.maxLocals = 14 := hml0
  have hown : s.vm.findClass "com/example/fourfold/fourfold/json/FloatFormatIsFinitePinLaw" = some m.cls := findClass_of_methodNamed Bd.named
  have hnm := (name_of_methodNamed Bd.named Bd.method).1
  have X0 : Stand p l e room_1 s m #[(.int p1), (.long q2), (.int p3)] below meth c s₁ [] 0 0 := Stand.of_body Bd
  have e0 : s₁.heap = h0 := by rw [← hh, Bd.state]; rfl
  have N0 := Fr.nil n0
  have pre0 : ∀ t, Steps p.tables e below (s₁.setTop (mkF m 0 #[.val (.int p1), .val (.long q2), .second, .val (.int p3), .unset, .unset, .unset, .unset, .unset, .unset, .unset, .unset, .unset, .unset] [])) t → Steps p.tables e below (s₁.setTop (entryFrame m #[(.int p1), (.long q2), (.int p3)] maxLocals)) t := fun t k => castTop (ef_0 m p1 q2 p3) k
  -- 3. LAWS
  obtain ⟨T5, X5, e5, st5⟩ := getS2 X0 hx hZ hown (host := "") (Or.inl (hw _ (List.mem_of_getElem? (i := 0) rfl))) Via.refl e0 S_BINARY32 (g := (mkF m 24 #[.val (.int p1), .val (.long q2), .second, .val (.int p3), .val (.int (0 : Int32)), .unset, .unset, .unset, .unset, .unset, .unset, .unset, .unset, .unset] [])) rfl (hb hby at_24)
  -- pc 160: com/example/fourfold/fourfold/json/FloatFormat.isFinite by the contract of the body that the receiver's class selects, rm1
  obtain ⟨cq6, kq6, q6a, q6b, q6c⟩ := isOf hZ e5 E_BINARY32
  obtain ⟨_, _, ⟨T6, L6, k6, n6⟩, -, X6, ⟨Lc6, hQ6, l6, y6, z6⟩, st6⟩ := X5.virtualBack hx (y := (⟨"com/example/fourfold/fourfold/json/FloatFormat", "isFinite", "(J)Z"⟩ : MethodName)) (z := (⟨"com/example/fourfold/fourfold/json/FloatFormat", "isFinite", "(J)Z"⟩ : MethodName)) hown (mvT hZ (hw _ (List.mem_of_getElem? (i := 6) rfl))) (mvT hZ (hw _ (List.mem_of_getElem? (i := 7) rfl))) (notFace_of_selects (args := #[]) (mvT hZ (hw _ (List.mem_of_getElem? (i := 9) rfl)))) (mvT hZ (hw _ (List.mem_of_getElem? (i := 9) rfl))) (mvT hZ (hw _ (List.mem_of_getElem? (i := 8) rfl))) (by decide) (backOf (W := 0) (rm1 l Z a0 hw [] w_BINARY32 (q2 &&& (4294967295 : Int64)) (255 : Int32) (23 : Int32) h0 n0 Z0 E_BINARY32 F_specialExponent_BINARY32 F_fractionBits_BINARY32) hZ (hw _ (List.mem_of_getElem? (i := 10) rfl)) (hw _ (List.mem_of_getElem? (i := 1) rfl)) (by decide) (by decide)) q6a q6c (g := (mkF m 160 #[.val (.int p1), .val (.long q2), .second, .val (.int p3), .val (.int (0 : Int32)), .val (.ref w_BINARY32), .val (.long (2139095040 : Int64)), .second, .val (.long (8388608 : Int64)), .second, .val (.long (q2 &&& (4294967295 : Int64))), .second, .val (.int (p3 &&& (3 : Int32))), .val (.int (1 : Int32))] [(.long (q2 &&& (4294967295 : Int64))), (.ref w_BINARY32)])) rfl (by rw [hml]; rfl) (Steps.refl _) (argsL := [(.long (q2 &&& (4294967295 : Int64)))]) (rest := []) (lenOf pd_0_0 rfl) rfl (by show 2 * 0 + _ ≤ _; exact Nat.le_of_eq rfl) (hb hby at_160) (fun _ _ => ⟨rfl, e5, (by decide : 0 + 0 ≤ _), (by decide : 0 + 0 ≤ _)⟩)
  dsimp only [Pt.U, Pt.locs, Pt.cells, Pt.slots] at X6 l6 y6 z6 st6 hQ6
  subst l6 y6 z6
  obtain ⟨rv6, N6q, q6⟩ := hQ6
  rw [hu] at rv6
  subst rv6
  have N6 := Fr.app N0 N6q
  obtain ⟨fs, hr, hrun, hended, hW, hsame⟩ := X6.leave (v := some (.int (1 : Int32))) (fun h => by rw [Bd.returns] at h; cases h)
  refine ⟨_, _, pre0 _ ?_, hrun, hended, _, _, rfl, ?_, ⟨_, rfl⟩, hW, hsame.mono (by decide) (by decide)⟩
  -- 4. STEPS
  · show Steps p.tables e below (s₁.setTop (mkF m 0 #[.val (.int p1), .val (.long q2), .second, .val (.int p3), .unset, .unset, .unset, .unset, .unset, .unset, .unset, .unset, .unset, .unset] [])) _
    refine XS.iloadN X0.here hx rfl (hb hby at_0) rfl ?_
    show Steps p.tables e below (s₁.setTop (mkF m 1 #[.val (.int p1), .val (.long q2), .second, .val (.int p3), .unset, .unset, .unset, .unset, .unset, .unset, .unset, .unset, .unset, .unset] [(.int p1)])) _
    refine XS.iconst X0.here hx rfl (hb hby at_1) ?_
    show Steps p.tables e below (s₁.setTop (mkF m 2 #[.val (.int p1), .val (.long q2), .second, .val (.int p3), .unset, .unset, .unset, .unset, .unset, .unset, .unset, .unset, .unset, .unset] [(.int (1 : Int32)), (.int p1)])) _
    refine XS.iand X0.here hx rfl (hb hby at_2) rfl ?_
    show Steps p.tables e below (s₁.setTop (mkF m 3 #[.val (.int p1), .val (.long q2), .second, .val (.int p3), .unset, .unset, .unset, .unset, .unset, .unset, .unset, .unset, .unset, .unset] [(.int (p1 &&& (1 : Int32)))])) _
    refine XS.ifYes X0.here hx rfl (pc0 := 3) (pc' := 10) rfl (hb hby at_3) rfl ((if0 _ _).trans (teq hc3).1) (by decide) (by decide) ?_
    show Steps p.tables e below (s₁.setTop (mkF m 10 #[.val (.int p1), .val (.long q2), .second, .val (.int p3), .unset, .unset, .unset, .unset, .unset, .unset, .unset, .unset, .unset, .unset] [])) _
    refine XS.iconst X0.here hx rfl (hb hby at_10) ?_
    show Steps p.tables e below (s₁.setTop (mkF m 11 #[.val (.int p1), .val (.long q2), .second, .val (.int p3), .unset, .unset, .unset, .unset, .unset, .unset, .unset, .unset, .unset, .unset] [(.int (0 : Int32))])) _
    refine XS.istore X0.here hx rfl (hb hby at_11) rfl (l' := #[.val (.int p1), .val (.long q2), .second, .val (.int p3), .val (.int (0 : Int32)), .unset, .unset, .unset, .unset, .unset, .unset, .unset, .unset, .unset]) rfl ?_
    show Steps p.tables e below (s₁.setTop (mkF m 13 #[.val (.int p1), .val (.long q2), .second, .val (.int p3), .val (.int (0 : Int32)), .unset, .unset, .unset, .unset, .unset, .unset, .unset, .unset, .unset] [])) _
    refine XS.iload X0.here hx rfl (hb hby at_13) rfl ?_
    show Steps p.tables e below (s₁.setTop (mkF m 15 #[.val (.int p1), .val (.long q2), .second, .val (.int p3), .val (.int (0 : Int32)), .unset, .unset, .unset, .unset, .unset, .unset, .unset, .unset, .unset] [(.int (0 : Int32))])) _
    refine XS.ifYes X0.here hx rfl (pc0 := 15) (pc' := 24) rfl (hb hby at_15) rfl ((if0 _ _).trans (teq (rfl : (0 : Int32) = (0 : Int32))).1) (by decide) (by decide) ?_
    show Steps p.tables e below (s₁.setTop (mkF m 24 #[.val (.int p1), .val (.long q2), .second, .val (.int p3), .val (.int (0 : Int32)), .unset, .unset, .unset, .unset, .unset, .unset, .unset, .unset, .unset] [])) _
    refine st5 _ ?_
    show Steps p.tables e below (T5.setTop (mkF m 27 #[.val (.int p1), .val (.long q2), .second, .val (.int p3), .val (.int (0 : Int32)), .unset, .unset, .unset, .unset, .unset, .unset, .unset, .unset, .unset] [(.ref w_BINARY32)])) _
    refine XS.astore X5.here hx rfl (hb hby at_27) rfl rfl (l' := #[.val (.int p1), .val (.long q2), .second, .val (.int p3), .val (.int (0 : Int32)), .val (.ref w_BINARY32), .unset, .unset, .unset, .unset, .unset, .unset, .unset, .unset]) rfl ?_
    show Steps p.tables e below (T5.setTop (mkF m 29 #[.val (.int p1), .val (.long q2), .second, .val (.int p3), .val (.int (0 : Int32)), .val (.ref w_BINARY32), .unset, .unset, .unset, .unset, .unset, .unset, .unset, .unset] [])) _
    refine XS.iload X5.here hx rfl (hb hby at_29) rfl ?_
    show Steps p.tables e below (T5.setTop (mkF m 31 #[.val (.int p1), .val (.long q2), .second, .val (.int p3), .val (.int (0 : Int32)), .val (.ref w_BINARY32), .unset, .unset, .unset, .unset, .unset, .unset, .unset, .unset] [(.int (0 : Int32))])) _
    refine XS.ifYes X5.here hx rfl (pc0 := 31) (pc' := 40) rfl (hb hby at_31) rfl ((if0 _ _).trans (teq (rfl : (0 : Int32) = (0 : Int32))).1) (by decide) (by decide) ?_
    show Steps p.tables e below (T5.setTop (mkF m 40 #[.val (.int p1), .val (.long q2), .second, .val (.int p3), .val (.int (0 : Int32)), .val (.ref w_BINARY32), .unset, .unset, .unset, .unset, .unset, .unset, .unset, .unset] [])) _
    refine X5.ldc2Long hx hown (mvT hZ (hw _ (List.mem_of_getElem? (i := 3) rfl))) (g := (mkF m 40 #[.val (.int p1), .val (.long q2), .second, .val (.int p3), .val (.int (0 : Int32)), .val (.ref w_BINARY32), .unset, .unset, .unset, .unset, .unset, .unset, .unset, .unset] [])) rfl (hb hby at_40) _ ?_
    show Steps p.tables e below (T5.setTop (mkF m 43 #[.val (.int p1), .val (.long q2), .second, .val (.int p3), .val (.int (0 : Int32)), .val (.ref w_BINARY32), .unset, .unset, .unset, .unset, .unset, .unset, .unset, .unset] [(.long (2139095040 : Int64))])) _
    refine XS.lstore X5.here hx rfl (hb hby at_43) rfl (l' := #[.val (.int p1), .val (.long q2), .second, .val (.int p3), .val (.int (0 : Int32)), .val (.ref w_BINARY32), .val (.long (2139095040 : Int64)), .second, .unset, .unset, .unset, .unset, .unset, .unset]) rfl ?_
    show Steps p.tables e below (T5.setTop (mkF m 45 #[.val (.int p1), .val (.long q2), .second, .val (.int p3), .val (.int (0 : Int32)), .val (.ref w_BINARY32), .val (.long (2139095040 : Int64)), .second, .unset, .unset, .unset, .unset, .unset, .unset] [])) _
    refine XS.iload X5.here hx rfl (hb hby at_45) rfl ?_
    show Steps p.tables e below (T5.setTop (mkF m 47 #[.val (.int p1), .val (.long q2), .second, .val (.int p3), .val (.int (0 : Int32)), .val (.ref w_BINARY32), .val (.long (2139095040 : Int64)), .second, .unset, .unset, .unset, .unset, .unset, .unset] [(.int (0 : Int32))])) _
    refine XS.ifYes X5.here hx rfl (pc0 := 47) (pc' := 56) rfl (hb hby at_47) rfl ((if0 _ _).trans (teq (rfl : (0 : Int32) = (0 : Int32))).1) (by decide) (by decide) ?_
    show Steps p.tables e below (T5.setTop (mkF m 56 #[.val (.int p1), .val (.long q2), .second, .val (.int p3), .val (.int (0 : Int32)), .val (.ref w_BINARY32), .val (.long (2139095040 : Int64)), .second, .unset, .unset, .unset, .unset, .unset, .unset] [])) _
    refine X5.ldc2Long hx hown (mvT hZ (hw _ (List.mem_of_getElem? (i := 4) rfl))) (g := (mkF m 56 #[.val (.int p1), .val (.long q2), .second, .val (.int p3), .val (.int (0 : Int32)), .val (.ref w_BINARY32), .val (.long (2139095040 : Int64)), .second, .unset, .unset, .unset, .unset, .unset, .unset] [])) rfl (hb hby at_56) _ ?_
    show Steps p.tables e below (T5.setTop (mkF m 59 #[.val (.int p1), .val (.long q2), .second, .val (.int p3), .val (.int (0 : Int32)), .val (.ref w_BINARY32), .val (.long (2139095040 : Int64)), .second, .unset, .unset, .unset, .unset, .unset, .unset] [(.long (8388608 : Int64))])) _
    refine XS.lstore X5.here hx rfl (hb hby at_59) rfl (l' := #[.val (.int p1), .val (.long q2), .second, .val (.int p3), .val (.int (0 : Int32)), .val (.ref w_BINARY32), .val (.long (2139095040 : Int64)), .second, .val (.long (8388608 : Int64)), .second, .unset, .unset, .unset, .unset]) rfl ?_
    show Steps p.tables e below (T5.setTop (mkF m 61 #[.val (.int p1), .val (.long q2), .second, .val (.int p3), .val (.int (0 : Int32)), .val (.ref w_BINARY32), .val (.long (2139095040 : Int64)), .second, .val (.long (8388608 : Int64)), .second, .unset, .unset, .unset, .unset] [])) _
    refine XS.iload X5.here hx rfl (hb hby at_61) rfl ?_
    show Steps p.tables e below (T5.setTop (mkF m 63 #[.val (.int p1), .val (.long q2), .second, .val (.int p3), .val (.int (0 : Int32)), .val (.ref w_BINARY32), .val (.long (2139095040 : Int64)), .second, .val (.long (8388608 : Int64)), .second, .unset, .unset, .unset, .unset] [(.int (0 : Int32))])) _
    refine XS.ifYes X5.here hx rfl (pc0 := 63) (pc' := 70) rfl (hb hby at_63) rfl ((if0 _ _).trans (teq (rfl : (0 : Int32) = (0 : Int32))).1) (by decide) (by decide) ?_
    show Steps p.tables e below (T5.setTop (mkF m 70 #[.val (.int p1), .val (.long q2), .second, .val (.int p3), .val (.int (0 : Int32)), .val (.ref w_BINARY32), .val (.long (2139095040 : Int64)), .second, .val (.long (8388608 : Int64)), .second, .unset, .unset, .unset, .unset] [])) _
    refine XS.lloadN X5.here hx rfl (hb hby at_70) rfl ?_
    show Steps p.tables e below (T5.setTop (mkF m 71 #[.val (.int p1), .val (.long q2), .second, .val (.int p3), .val (.int (0 : Int32)), .val (.ref w_BINARY32), .val (.long (2139095040 : Int64)), .second, .val (.long (8388608 : Int64)), .second, .unset, .unset, .unset, .unset] [(.long q2)])) _
    refine X5.ldc2Long hx hown (mvT hZ (hw _ (List.mem_of_getElem? (i := 5) rfl))) (g := (mkF m 71 #[.val (.int p1), .val (.long q2), .second, .val (.int p3), .val (.int (0 : Int32)), .val (.ref w_BINARY32), .val (.long (2139095040 : Int64)), .second, .val (.long (8388608 : Int64)), .second, .unset, .unset, .unset, .unset] [(.long q2)])) rfl (hb hby at_71) _ ?_
    show Steps p.tables e below (T5.setTop (mkF m 74 #[.val (.int p1), .val (.long q2), .second, .val (.int p3), .val (.int (0 : Int32)), .val (.ref w_BINARY32), .val (.long (2139095040 : Int64)), .second, .val (.long (8388608 : Int64)), .second, .unset, .unset, .unset, .unset] [(.long (4294967295 : Int64)), (.long q2)])) _
    refine XS.land X5.here hx rfl (hb hby at_74) rfl ?_
    show Steps p.tables e below (T5.setTop (mkF m 75 #[.val (.int p1), .val (.long q2), .second, .val (.int p3), .val (.int (0 : Int32)), .val (.ref w_BINARY32), .val (.long (2139095040 : Int64)), .second, .val (.long (8388608 : Int64)), .second, .unset, .unset, .unset, .unset] [(.long (q2 &&& (4294967295 : Int64)))])) _
    refine XS.lstore X5.here hx rfl (hb hby at_75) rfl (l' := #[.val (.int p1), .val (.long q2), .second, .val (.int p3), .val (.int (0 : Int32)), .val (.ref w_BINARY32), .val (.long (2139095040 : Int64)), .second, .val (.long (8388608 : Int64)), .second, .val (.long (q2 &&& (4294967295 : Int64))), .second, .unset, .unset]) rfl ?_
    show Steps p.tables e below (T5.setTop (mkF m 77 #[.val (.int p1), .val (.long q2), .second, .val (.int p3), .val (.int (0 : Int32)), .val (.ref w_BINARY32), .val (.long (2139095040 : Int64)), .second, .val (.long (8388608 : Int64)), .second, .val (.long (q2 &&& (4294967295 : Int64))), .second, .unset, .unset] [])) _
    refine XS.iloadN X5.here hx rfl (hb hby at_77) rfl ?_
    show Steps p.tables e below (T5.setTop (mkF m 78 #[.val (.int p1), .val (.long q2), .second, .val (.int p3), .val (.int (0 : Int32)), .val (.ref w_BINARY32), .val (.long (2139095040 : Int64)), .second, .val (.long (8388608 : Int64)), .second, .val (.long (q2 &&& (4294967295 : Int64))), .second, .unset, .unset] [(.int p3)])) _
    refine XS.iconst X5.here hx rfl (hb hby at_78) ?_
    show Steps p.tables e below (T5.setTop (mkF m 79 #[.val (.int p1), .val (.long q2), .second, .val (.int p3), .val (.int (0 : Int32)), .val (.ref w_BINARY32), .val (.long (2139095040 : Int64)), .second, .val (.long (8388608 : Int64)), .second, .val (.long (q2 &&& (4294967295 : Int64))), .second, .unset, .unset] [(.int (3 : Int32)), (.int p3)])) _
    refine XS.iand X5.here hx rfl (hb hby at_79) rfl ?_
    show Steps p.tables e below (T5.setTop (mkF m 80 #[.val (.int p1), .val (.long q2), .second, .val (.int p3), .val (.int (0 : Int32)), .val (.ref w_BINARY32), .val (.long (2139095040 : Int64)), .second, .val (.long (8388608 : Int64)), .second, .val (.long (q2 &&& (4294967295 : Int64))), .second, .unset, .unset] [(.int (p3 &&& (3 : Int32)))])) _
    refine XS.istore X5.here hx rfl (hb hby at_80) rfl (l' := #[.val (.int p1), .val (.long q2), .second, .val (.int p3), .val (.int (0 : Int32)), .val (.ref w_BINARY32), .val (.long (2139095040 : Int64)), .second, .val (.long (8388608 : Int64)), .second, .val (.long (q2 &&& (4294967295 : Int64))), .second, .val (.int (p3 &&& (3 : Int32))), .unset]) rfl ?_
    show Steps p.tables e below (T5.setTop (mkF m 82 #[.val (.int p1), .val (.long q2), .second, .val (.int p3), .val (.int (0 : Int32)), .val (.ref w_BINARY32), .val (.long (2139095040 : Int64)), .second, .val (.long (8388608 : Int64)), .second, .val (.long (q2 &&& (4294967295 : Int64))), .second, .val (.int (p3 &&& (3 : Int32))), .unset] [])) _
    refine XS.iload X5.here hx rfl (hb hby at_82) rfl ?_
    show Steps p.tables e below (T5.setTop (mkF m 84 #[.val (.int p1), .val (.long q2), .second, .val (.int p3), .val (.int (0 : Int32)), .val (.ref w_BINARY32), .val (.long (2139095040 : Int64)), .second, .val (.long (8388608 : Int64)), .second, .val (.long (q2 &&& (4294967295 : Int64))), .second, .val (.int (p3 &&& (3 : Int32))), .unset] [(.int (p3 &&& (3 : Int32)))])) _
    refine XS.iconst X5.here hx rfl (hb hby at_84) ?_
    show Steps p.tables e below (T5.setTop (mkF m 85 #[.val (.int p1), .val (.long q2), .second, .val (.int p3), .val (.int (0 : Int32)), .val (.ref w_BINARY32), .val (.long (2139095040 : Int64)), .second, .val (.long (8388608 : Int64)), .second, .val (.long (q2 &&& (4294967295 : Int64))), .second, .val (.int (p3 &&& (3 : Int32))), .unset] [(.int (1 : Int32)), (.int (p3 &&& (3 : Int32)))])) _
    refine XS.icmpYes X5.here hx rfl (pc0 := 85) (pc' := 98) rfl (hb hby at_85) rfl (feq hc85).2 (by decide) (by decide) ?_
    show Steps p.tables e below (T5.setTop (mkF m 98 #[.val (.int p1), .val (.long q2), .second, .val (.int p3), .val (.int (0 : Int32)), .val (.ref w_BINARY32), .val (.long (2139095040 : Int64)), .second, .val (.long (8388608 : Int64)), .second, .val (.long (q2 &&& (4294967295 : Int64))), .second, .val (.int (p3 &&& (3 : Int32))), .unset] [])) _
    refine XS.iload X5.here hx rfl (hb hby at_98) rfl ?_
    show Steps p.tables e below (T5.setTop (mkF m 100 #[.val (.int p1), .val (.long q2), .second, .val (.int p3), .val (.int (0 : Int32)), .val (.ref w_BINARY32), .val (.long (2139095040 : Int64)), .second, .val (.long (8388608 : Int64)), .second, .val (.long (q2 &&& (4294967295 : Int64))), .second, .val (.int (p3 &&& (3 : Int32))), .unset] [(.int (p3 &&& (3 : Int32)))])) _
    refine XS.iconst X5.here hx rfl (hb hby at_100) ?_
    show Steps p.tables e below (T5.setTop (mkF m 101 #[.val (.int p1), .val (.long q2), .second, .val (.int p3), .val (.int (0 : Int32)), .val (.ref w_BINARY32), .val (.long (2139095040 : Int64)), .second, .val (.long (8388608 : Int64)), .second, .val (.long (q2 &&& (4294967295 : Int64))), .second, .val (.int (p3 &&& (3 : Int32))), .unset] [(.int (2 : Int32)), (.int (p3 &&& (3 : Int32)))])) _
    refine XS.icmpYes X5.here hx rfl (pc0 := 101) (pc' := 121) rfl (hb hby at_101) rfl (feq hc101).2 (by decide) (by decide) ?_
    show Steps p.tables e below (T5.setTop (mkF m 121 #[.val (.int p1), .val (.long q2), .second, .val (.int p3), .val (.int (0 : Int32)), .val (.ref w_BINARY32), .val (.long (2139095040 : Int64)), .second, .val (.long (8388608 : Int64)), .second, .val (.long (q2 &&& (4294967295 : Int64))), .second, .val (.int (p3 &&& (3 : Int32))), .unset] [])) _
    refine XS.iload X5.here hx rfl (hb hby at_121) rfl ?_
    show Steps p.tables e below (T5.setTop (mkF m 123 #[.val (.int p1), .val (.long q2), .second, .val (.int p3), .val (.int (0 : Int32)), .val (.ref w_BINARY32), .val (.long (2139095040 : Int64)), .second, .val (.long (8388608 : Int64)), .second, .val (.long (q2 &&& (4294967295 : Int64))), .second, .val (.int (p3 &&& (3 : Int32))), .unset] [(.int (p3 &&& (3 : Int32)))])) _
    refine XS.iconst X5.here hx rfl (hb hby at_123) ?_
    show Steps p.tables e below (T5.setTop (mkF m 124 #[.val (.int p1), .val (.long q2), .second, .val (.int p3), .val (.int (0 : Int32)), .val (.ref w_BINARY32), .val (.long (2139095040 : Int64)), .second, .val (.long (8388608 : Int64)), .second, .val (.long (q2 &&& (4294967295 : Int64))), .second, .val (.int (p3 &&& (3 : Int32))), .unset] [(.int (3 : Int32)), (.int (p3 &&& (3 : Int32)))])) _
    refine XS.icmpYes X5.here hx rfl (pc0 := 124) (pc' := 138) rfl (hb hby at_124) rfl (feq hc124).2 (by decide) (by decide) ?_
    show Steps p.tables e below (T5.setTop (mkF m 138 #[.val (.int p1), .val (.long q2), .second, .val (.int p3), .val (.int (0 : Int32)), .val (.ref w_BINARY32), .val (.long (2139095040 : Int64)), .second, .val (.long (8388608 : Int64)), .second, .val (.long (q2 &&& (4294967295 : Int64))), .second, .val (.int (p3 &&& (3 : Int32))), .unset] [])) _
    refine XS.lload X5.here hx rfl (hb hby at_138) rfl ?_
    show Steps p.tables e below (T5.setTop (mkF m 140 #[.val (.int p1), .val (.long q2), .second, .val (.int p3), .val (.int (0 : Int32)), .val (.ref w_BINARY32), .val (.long (2139095040 : Int64)), .second, .val (.long (8388608 : Int64)), .second, .val (.long (q2 &&& (4294967295 : Int64))), .second, .val (.int (p3 &&& (3 : Int32))), .unset] [(.long (q2 &&& (4294967295 : Int64)))])) _
    refine XS.lload X5.here hx rfl (hb hby at_140) rfl ?_
    show Steps p.tables e below (T5.setTop (mkF m 142 #[.val (.int p1), .val (.long q2), .second, .val (.int p3), .val (.int (0 : Int32)), .val (.ref w_BINARY32), .val (.long (2139095040 : Int64)), .second, .val (.long (8388608 : Int64)), .second, .val (.long (q2 &&& (4294967295 : Int64))), .second, .val (.int (p3 &&& (3 : Int32))), .unset] [(.long (2139095040 : Int64)), (.long (q2 &&& (4294967295 : Int64)))])) _
    refine XS.land X5.here hx rfl (hb hby at_142) rfl ?_
    show Steps p.tables e below (T5.setTop (mkF m 143 #[.val (.int p1), .val (.long q2), .second, .val (.int p3), .val (.int (0 : Int32)), .val (.ref w_BINARY32), .val (.long (2139095040 : Int64)), .second, .val (.long (8388608 : Int64)), .second, .val (.long (q2 &&& (4294967295 : Int64))), .second, .val (.int (p3 &&& (3 : Int32))), .unset] [(.long ((q2 &&& (4294967295 : Int64)) &&& (2139095040 : Int64)))])) _
    refine XS.lload X5.here hx rfl (hb hby at_143) rfl ?_
    show Steps p.tables e below (T5.setTop (mkF m 145 #[.val (.int p1), .val (.long q2), .second, .val (.int p3), .val (.int (0 : Int32)), .val (.ref w_BINARY32), .val (.long (2139095040 : Int64)), .second, .val (.long (8388608 : Int64)), .second, .val (.long (q2 &&& (4294967295 : Int64))), .second, .val (.int (p3 &&& (3 : Int32))), .unset] [(.long (2139095040 : Int64)), (.long ((q2 &&& (4294967295 : Int64)) &&& (2139095040 : Int64)))])) _
    refine XS.lcmp X5.here hx rfl (hb hby at_145) rfl ?_
    show Steps p.tables e below (T5.setTop (mkF m 146 #[.val (.int p1), .val (.long q2), .second, .val (.int p3), .val (.int (0 : Int32)), .val (.ref w_BINARY32), .val (.long (2139095040 : Int64)), .second, .val (.long (8388608 : Int64)), .second, .val (.long (q2 &&& (4294967295 : Int64))), .second, .val (.int (p3 &&& (3 : Int32))), .unset] [(.int (lcmpW ((q2 &&& (4294967295 : Int64)) &&& (2139095040 : Int64)) (2139095040 : Int64)))])) _
    refine XS.ifNo X5.here hx rfl (hb hby at_146) rfl ((if0 _ _).trans (feq hc146).1) ?_
    show Steps p.tables e below (T5.setTop (mkF m 149 #[.val (.int p1), .val (.long q2), .second, .val (.int p3), .val (.int (0 : Int32)), .val (.ref w_BINARY32), .val (.long (2139095040 : Int64)), .second, .val (.long (8388608 : Int64)), .second, .val (.long (q2 &&& (4294967295 : Int64))), .second, .val (.int (p3 &&& (3 : Int32))), .unset] [])) _
    refine XS.iconst X5.here hx rfl (hb hby at_149) ?_
    show Steps p.tables e below (T5.setTop (mkF m 150 #[.val (.int p1), .val (.long q2), .second, .val (.int p3), .val (.int (0 : Int32)), .val (.ref w_BINARY32), .val (.long (2139095040 : Int64)), .second, .val (.long (8388608 : Int64)), .second, .val (.long (q2 &&& (4294967295 : Int64))), .second, .val (.int (p3 &&& (3 : Int32))), .unset] [(.int (1 : Int32))])) _
    refine XS.goto X5.here hx rfl (pc0 := 150) (pc' := 154) rfl (hb hby at_150) (by decide) (by decide) ?_
    show Steps p.tables e below (T5.setTop (mkF m 154 #[.val (.int p1), .val (.long q2), .second, .val (.int p3), .val (.int (0 : Int32)), .val (.ref w_BINARY32), .val (.long (2139095040 : Int64)), .second, .val (.long (8388608 : Int64)), .second, .val (.long (q2 &&& (4294967295 : Int64))), .second, .val (.int (p3 &&& (3 : Int32))), .unset] [(.int (1 : Int32))])) _
    refine XS.istore X5.here hx rfl (hb hby at_154) rfl (l' := #[.val (.int p1), .val (.long q2), .second, .val (.int p3), .val (.int (0 : Int32)), .val (.ref w_BINARY32), .val (.long (2139095040 : Int64)), .second, .val (.long (8388608 : Int64)), .second, .val (.long (q2 &&& (4294967295 : Int64))), .second, .val (.int (p3 &&& (3 : Int32))), .val (.int (1 : Int32))]) rfl ?_
    show Steps p.tables e below (T5.setTop (mkF m 156 #[.val (.int p1), .val (.long q2), .second, .val (.int p3), .val (.int (0 : Int32)), .val (.ref w_BINARY32), .val (.long (2139095040 : Int64)), .second, .val (.long (8388608 : Int64)), .second, .val (.long (q2 &&& (4294967295 : Int64))), .second, .val (.int (p3 &&& (3 : Int32))), .val (.int (1 : Int32))] [])) _
    refine XS.aload X5.here hx rfl (hb hby at_156) rfl rfl ?_
    show Steps p.tables e below (T5.setTop (mkF m 158 #[.val (.int p1), .val (.long q2), .second, .val (.int p3), .val (.int (0 : Int32)), .val (.ref w_BINARY32), .val (.long (2139095040 : Int64)), .second, .val (.long (8388608 : Int64)), .second, .val (.long (q2 &&& (4294967295 : Int64))), .second, .val (.int (p3 &&& (3 : Int32))), .val (.int (1 : Int32))] [(.ref w_BINARY32)])) _
    refine XS.lload X5.here hx rfl (hb hby at_158) rfl ?_
    show Steps p.tables e below (T5.setTop (mkF m 160 #[.val (.int p1), .val (.long q2), .second, .val (.int p3), .val (.int (0 : Int32)), .val (.ref w_BINARY32), .val (.long (2139095040 : Int64)), .second, .val (.long (8388608 : Int64)), .second, .val (.long (q2 &&& (4294967295 : Int64))), .second, .val (.int (p3 &&& (3 : Int32))), .val (.int (1 : Int32))] [(.long (q2 &&& (4294967295 : Int64))), (.ref w_BINARY32)])) _
    refine st6.trans ?_
    show Steps p.tables e below (T6.setTop (mkF m 163 #[.val (.int p1), .val (.long q2), .second, .val (.int p3), .val (.int (0 : Int32)), .val (.ref w_BINARY32), .val (.long (2139095040 : Int64)), .second, .val (.long (8388608 : Int64)), .second, .val (.long (q2 &&& (4294967295 : Int64))), .second, .val (.int (p3 &&& (3 : Int32))), .val (.int (1 : Int32))] [(.int u)])) _
    refine XS.iload X6.here hx rfl (hb hby at_163) rfl ?_
    show Steps p.tables e below (T6.setTop (mkF m 165 #[.val (.int p1), .val (.long q2), .second, .val (.int p3), .val (.int (0 : Int32)), .val (.ref w_BINARY32), .val (.long (2139095040 : Int64)), .second, .val (.long (8388608 : Int64)), .second, .val (.long (q2 &&& (4294967295 : Int64))), .second, .val (.int (p3 &&& (3 : Int32))), .val (.int (1 : Int32))] [(.int (1 : Int32)), (.int u)])) _
    refine XS.icmpNo X6.here hx rfl (hb hby at_165) rfl (teq (hv165 : u = (1 : Int32))).2 ?_
    show Steps p.tables e below (T6.setTop (mkF m 168 #[.val (.int p1), .val (.long q2), .second, .val (.int p3), .val (.int (0 : Int32)), .val (.ref w_BINARY32), .val (.long (2139095040 : Int64)), .second, .val (.long (8388608 : Int64)), .second, .val (.long (q2 &&& (4294967295 : Int64))), .second, .val (.int (p3 &&& (3 : Int32))), .val (.int (1 : Int32))] [])) _
    refine XS.iconst X6.here hx rfl (hb hby at_168) ?_
    show Steps p.tables e below (T6.setTop (mkF m 169 #[.val (.int p1), .val (.long q2), .second, .val (.int p3), .val (.int (0 : Int32)), .val (.ref w_BINARY32), .val (.long (2139095040 : Int64)), .second, .val (.long (8388608 : Int64)), .second, .val (.long (q2 &&& (4294967295 : Int64))), .second, .val (.int (p3 &&& (3 : Int32))), .val (.int (1 : Int32))] [(.int (1 : Int32))])) _
    refine XS.goto X6.here hx rfl (pc0 := 169) (pc' := 173) rfl (hb hby at_169) (by decide) (by decide) ?_
    show Steps p.tables e below (T6.setTop (mkF m 173 #[.val (.int p1), .val (.long q2), .second, .val (.int p3), .val (.int (0 : Int32)), .val (.ref w_BINARY32), .val (.long (2139095040 : Int64)), .second, .val (.long (8388608 : Int64)), .second, .val (.long (q2 &&& (4294967295 : Int64))), .second, .val (.int (p3 &&& (3 : Int32))), .val (.int (1 : Int32))] [(.int (1 : Int32))])) _
    exact retN X6 hx (t := .boolean) Bd.returns (by simp) (hb hby at_173) hr
  · show Q0 Z h0 n0 _ T6.heap _
    exact ⟨rfl, N6⟩
theorem own_bits {w : Nat} (x m : BitVec w) : x &&& m = m ↔ ∀ i, m.getLsbD i = true → x.getLsbD i = true := by
  constructor
  · intro h i hi
    have q : (x &&& m).getLsbD i = m.getLsbD i := by rw [h]
    rw [BitVec.getLsbD_and, hi, Bool.and_true] at q
    exact q
  · intro h
    apply BitVec.eq_of_getLsbD_eq
    intro i hi
    rw [BitVec.getLsbD_and]
    cases hm : m.getLsbD i
    · simp
    · simp [h i hm]
theorem own_bv64 (x : BitVec 64) : ((x >>> 52).signExtend 32) &&& 2047#32 = 2047#32 ↔ x &&& 9218868437227405312#64 = 9218868437227405312#64 := by
  rw [own_bits, own_bits]
  have a1 : ∀ j : Fin 64, (9218868437227405312#64).getLsbD j = true → 52 ≤ j.val ∧ j.val < 63 := by decide
  have a2 : ∀ j : Fin 64, 52 ≤ j.val → j.val < 63 → (9218868437227405312#64).getLsbD j = true := by decide
  have b1 : ∀ j : Fin 32, (2047#32).getLsbD j = true → j.val < 11 := by decide
  have b2 : ∀ j : Fin 32, j.val < 11 → (2047#32).getLsbD j = true := by decide
  constructor
  · intro h i hi
    have hlt : i < 64 := BitVec.lt_of_getLsbD hi
    have q := a1 ⟨i, hlt⟩ hi
    have r := h (i - 52) (b2 ⟨i - 52, by have := q.2; simp at this ⊢; omega⟩ (by have := q.2; have := q.1; simp at *; omega))
    rw [BitVec.getLsbD_signExtend] at r
    have q1 : 52 ≤ i := q.1
    have q2 : i < 63 := q.2
    have l1 : i - 52 < 32 := by omega
    have l2 : i - 52 < 64 := by omega
    simp only [l1, l2, decide_true, Bool.true_and, if_true, BitVec.getLsbD_ushiftRight] at r
    rw [show 52 + (i - 52) = i by omega] at r
    exact r
  · intro h i hi
    have hlt : i < 32 := BitVec.lt_of_getLsbD hi
    have q : i < 11 := b1 ⟨i, hlt⟩ hi
    have r := h (52 + i) (a2 ⟨52 + i, by omega⟩ (by simp) (by simp; omega))
    have l2 : i < 64 := by omega
    rw [BitVec.getLsbD_signExtend]
    simp only [hlt, l2, decide_true, Bool.true_and, if_true, BitVec.getLsbD_ushiftRight]
    exact r
theorem own_exp64 (b : Int64) : expF b 52 2047 = 2047 ↔ b &&& (9218868437227405312 : Int64) = 9218868437227405312 := by
  rw [← Int32.toBitVec_inj, ← Int64.toBitVec_inj]
  exact own_bv64 b.toBitVec
theorem own_fin640 {b : Int64} (h : lcmpW (b &&& (9218868437227405312 : Int64)) (9218868437227405312 : Int64) = 0) : finF b 52 2047 = 0 := by
  rw [lw_eq] at h
  unfold finF
  rw [if_pos ((own_exp64 b).mpr h)]
theorem own_fin641 {b : Int64} (h : ¬ lcmpW (b &&& (9218868437227405312 : Int64)) (9218868437227405312 : Int64) = 0) : finF b 52 2047 = 1 := by
  rw [lw_eq] at h
  unfold finF
  rw [if_neg (fun q => h ((own_exp64 b).mp q))]
theorem own_bv32 (x : BitVec 64) : ((x >>> 23).signExtend 32) &&& 255#32 = 255#32 ↔ x &&& 2139095040#64 = 2139095040#64 := by
  rw [own_bits, own_bits]
  have a1 : ∀ j : Fin 64, (2139095040#64).getLsbD j = true → 23 ≤ j.val ∧ j.val < 31 := by decide
  have a2 : ∀ j : Fin 64, 23 ≤ j.val → j.val < 31 → (2139095040#64).getLsbD j = true := by decide
  have b1 : ∀ j : Fin 32, (255#32).getLsbD j = true → j.val < 8 := by decide
  have b2 : ∀ j : Fin 32, j.val < 8 → (255#32).getLsbD j = true := by decide
  constructor
  · intro h i hi
    have hlt : i < 64 := BitVec.lt_of_getLsbD hi
    have q := a1 ⟨i, hlt⟩ hi
    have r := h (i - 23) (b2 ⟨i - 23, by have := q.2; simp at this ⊢; omega⟩ (by have := q.2; have := q.1; simp at *; omega))
    rw [BitVec.getLsbD_signExtend] at r
    have q1 : 23 ≤ i := q.1
    have q2 : i < 31 := q.2
    have l1 : i - 23 < 32 := by omega
    have l2 : i - 23 < 64 := by omega
    simp only [l1, l2, decide_true, Bool.true_and, if_true, BitVec.getLsbD_ushiftRight] at r
    rw [show 23 + (i - 23) = i by omega] at r
    exact r
  · intro h i hi
    have hlt : i < 32 := BitVec.lt_of_getLsbD hi
    have q : i < 8 := b1 ⟨i, hlt⟩ hi
    have r := h (23 + i) (a2 ⟨23 + i, by omega⟩ (by simp) (by simp; omega))
    have l2 : i < 64 := by omega
    rw [BitVec.getLsbD_signExtend]
    simp only [hlt, l2, decide_true, Bool.true_and, if_true, BitVec.getLsbD_ushiftRight]
    exact r
theorem own_exp32 (b : Int64) : expF b 23 255 = 255 ↔ b &&& (2139095040 : Int64) = 2139095040 := by
  rw [← Int32.toBitVec_inj, ← Int64.toBitVec_inj]
  exact own_bv32 b.toBitVec
theorem own_fin320 {b : Int64} (h : lcmpW (b &&& (2139095040 : Int64)) (2139095040 : Int64) = 0) : finF b 23 255 = 0 := by
  rw [lw_eq] at h
  unfold finF
  rw [if_pos ((own_exp32 b).mpr h)]
theorem own_fin321 {b : Int64} (h : ¬ lcmpW (b &&& (2139095040 : Int64)) (2139095040 : Int64) = 0) : finF b 23 255 = 1 := by
  rw [lw_eq] at h
  unfold finF
  rw [if_neg (fun q => h ((own_exp32 b).mp q))]
theorem own_and3 (x : Int32) : x &&& 3 = 0 ∨ x &&& 3 = 1 ∨ x &&& 3 = 2 ∨ x &&& 3 = 3 := by
  have h := c_mask x 3 2 (by decide) (by decide)
  have h1 : (x &&& 3).toInt = 0 ∨ (x &&& 3).toInt = 1 ∨ (x &&& 3).toInt = 2 ∨ (x &&& 3).toInt = 3 := by omega
  rcases h1 with h1 | h1 | h1 | h1
  · exact Or.inl (Int32.toInt_inj.mp h1)
  · exact Or.inr (Or.inl (Int32.toInt_inj.mp h1))
  · exact Or.inr (Or.inr (Or.inl (Int32.toInt_inj.mp h1)))
  · exact Or.inr (Or.inr (Or.inr (Int32.toInt_inj.mp h1)))
set_option maxRecDepth 65536 in
set_option maxHeartbeats 40000000 in
theorem rm0 (l : Launch) (Z : State) (a0 : Array Value) (hw : ∀ d ∈ tables_1, d.before a0 Z = true) (ws : List Jvm.Cond) (p1 : Int32) (q2 : Int64) (p3 : Int32) (w_BINARY64 : Addr) (w_BINARY32 : Addr) (h0 : Heap) (n0 : Nat) (Z0 : n0 ≤ h0.size) (S_BINARY64 : Sta Z h0 "com/example/fourfold/fourfold/json/FloatFormat" "BINARY64" "Lcom/example/fourfold/fourfold/json/FloatFormat;" (.ref w_BINARY64)) (E_BINARY64 : Exa Z h0 w_BINARY64 "com/example/fourfold/fourfold/json/FloatFormat") (F_fractionBits_BINARY64 : Fld Z h0 w_BINARY64 "com/example/fourfold/fourfold/json/FloatFormat" "fractionBits" "I" (.int (52 : Int32))) (F_specialExponent_BINARY64 : Fld Z h0 w_BINARY64 "com/example/fourfold/fourfold/json/FloatFormat" "specialExponent" "I" (.int (2047 : Int32))) (S_BINARY32 : Sta Z h0 "com/example/fourfold/fourfold/json/FloatFormat" "BINARY32" "Lcom/example/fourfold/fourfold/json/FloatFormat;" (.ref w_BINARY32)) (E_BINARY32 : Exa Z h0 w_BINARY32 "com/example/fourfold/fourfold/json/FloatFormat") (F_fractionBits_BINARY32 : Fld Z h0 w_BINARY32 "com/example/fourfold/fourfold/json/FloatFormat" "fractionBits" "I" (.int (23 : Int32))) (F_specialExponent_BINARY32 : Fld Z h0 w_BINARY32 "com/example/fourfold/fourfold/json/FloatFormat" "specialExponent" "I" (.int (255 : Int32))) :
    MetFree l x (head1 (Jvm.Cond.code x code maxLocals ret :: ws) room_1) (fun a U => a = #[(.int p1), (.long q2), (.int p3)] ∧ Z.Warmed39 U.vm ∧ U.heap = h0) (fun _ _ _ _ _ => True) (fun _ U o U' => ∃ v L, o = .returned v ∧ Q0 Z h0 n0 v U'.heap L ∧ FrameEnd U o U' L room_1.cells room_1.slots) := by
  by_cases hf : (p1 &&& (1 : Int32)) = (0 : Int32)
  · rcases own_and3 p3 with hk | hk | hk | hk
    · by_cases hb : (lcmpW ((q2 &&& (4294967295 : Int64)) &&& (2139095040 : Int64)) (2139095040 : Int64)) = (0 : Int32)
      · exact rm0_tttttttttf l Z a0 hw ws p1 q2 p3 w_BINARY32 0 h0 n0 Z0 S_BINARY32 E_BINARY32 F_fractionBits_BINARY32 F_specialExponent_BINARY32 (own_fin320 hb) hf (by first | exact hk | (rw [hk]; decide)) (by first | exact hk | (rw [hk]; decide)) (by first | exact hk | (rw [hk]; decide)) hb rfl
      · exact rm0_ttttttttff l Z a0 hw ws p1 q2 p3 w_BINARY32 1 h0 n0 Z0 S_BINARY32 E_BINARY32 F_fractionBits_BINARY32 F_specialExponent_BINARY32 (own_fin321 hb) hf (by first | exact hk | (rw [hk]; decide)) (by first | exact hk | (rw [hk]; decide)) (by first | exact hk | (rw [hk]; decide)) hb rfl
    · by_cases hb : (lcmpW (((q2 &&& (4294967295 : Int64)) ||| (2139095040 : Int64)) &&& (2139095040 : Int64)) (2139095040 : Int64)) = (0 : Int32)
      · exact rm0_tttttftf l Z a0 hw ws p1 q2 p3 w_BINARY32 0 h0 n0 Z0 S_BINARY32 E_BINARY32 F_fractionBits_BINARY32 F_specialExponent_BINARY32 (own_fin320 hb) hf (by first | exact hk | (rw [hk]; decide)) hb rfl
      · exact rm0_tttttfff l Z a0 hw ws p1 q2 p3 w_BINARY32 1 h0 n0 Z0 S_BINARY32 E_BINARY32 F_fractionBits_BINARY32 F_specialExponent_BINARY32 (own_fin321 hb) hf (by first | exact hk | (rw [hk]; decide)) hb rfl
    · by_cases hb : (lcmpW ((((q2 &&& (4294967295 : Int64)) ||| (2139095040 : Int64)) &&& ((8388608 : Int64) ^^^ (-1 : Int64))) &&& (2139095040 : Int64)) (2139095040 : Int64)) = (0 : Int32)
      · exact rm0_ttttttftf l Z a0 hw ws p1 q2 p3 w_BINARY32 0 h0 n0 Z0 S_BINARY32 E_BINARY32 F_fractionBits_BINARY32 F_specialExponent_BINARY32 (own_fin320 hb) hf (by first | exact hk | (rw [hk]; decide)) (by first | exact hk | (rw [hk]; decide)) hb rfl
      · exact rm0_ttttttfff l Z a0 hw ws p1 q2 p3 w_BINARY32 1 h0 n0 Z0 S_BINARY32 E_BINARY32 F_fractionBits_BINARY32 F_specialExponent_BINARY32 (own_fin321 hb) hf (by first | exact hk | (rw [hk]; decide)) (by first | exact hk | (rw [hk]; decide)) hb rfl
    · by_cases hb : (lcmpW (((q2 &&& (4294967295 : Int64)) &&& ((2139095040 : Int64) ^^^ (-1 : Int64))) &&& (2139095040 : Int64)) (2139095040 : Int64)) = (0 : Int32)
      · exact rm0_tttttttftf l Z a0 hw ws p1 q2 p3 w_BINARY32 0 h0 n0 Z0 S_BINARY32 E_BINARY32 F_fractionBits_BINARY32 F_specialExponent_BINARY32 (own_fin320 hb) hf (by first | exact hk | (rw [hk]; decide)) (by first | exact hk | (rw [hk]; decide)) (by first | exact hk | (rw [hk]; decide)) hb rfl
      · exact rm0_tttttttfff l Z a0 hw ws p1 q2 p3 w_BINARY32 1 h0 n0 Z0 S_BINARY32 E_BINARY32 F_fractionBits_BINARY32 F_specialExponent_BINARY32 (own_fin321 hb) hf (by first | exact hk | (rw [hk]; decide)) (by first | exact hk | (rw [hk]; decide)) (by first | exact hk | (rw [hk]; decide)) hb rfl
  · rcases own_and3 p3 with hk | hk | hk | hk
    · by_cases hb : (lcmpW (q2 &&& (9218868437227405312 : Int64)) (9218868437227405312 : Int64)) = (0 : Int32)
      · exact rm0_fffffttttf l Z a0 hw ws p1 q2 p3 w_BINARY64 0 h0 n0 Z0 S_BINARY64 E_BINARY64 F_fractionBits_BINARY64 F_specialExponent_BINARY64 (own_fin640 hb) hf (by decide) (by decide) (by decide) (by decide) (by first | exact hk | (rw [hk]; decide)) (by first | exact hk | (rw [hk]; decide)) (by first | exact hk | (rw [hk]; decide)) hb rfl
      · exact rm0_ffffftttff l Z a0 hw ws p1 q2 p3 w_BINARY64 1 h0 n0 Z0 S_BINARY64 E_BINARY64 F_fractionBits_BINARY64 F_specialExponent_BINARY64 (own_fin641 hb) hf (by decide) (by decide) (by decide) (by decide) (by first | exact hk | (rw [hk]; decide)) (by first | exact hk | (rw [hk]; decide)) (by first | exact hk | (rw [hk]; decide)) hb rfl
    · by_cases hb : (lcmpW ((q2 ||| (9218868437227405312 : Int64)) &&& (9218868437227405312 : Int64)) (9218868437227405312 : Int64)) = (0 : Int32)
      · exact rm0_fffffftf l Z a0 hw ws p1 q2 p3 w_BINARY64 0 h0 n0 Z0 S_BINARY64 E_BINARY64 F_fractionBits_BINARY64 F_specialExponent_BINARY64 (own_fin640 hb) hf (by decide) (by decide) (by decide) (by decide) (by first | exact hk | (rw [hk]; decide)) hb rfl
      · exact rm0_ffffffff l Z a0 hw ws p1 q2 p3 w_BINARY64 1 h0 n0 Z0 S_BINARY64 E_BINARY64 F_fractionBits_BINARY64 F_specialExponent_BINARY64 (own_fin641 hb) hf (by decide) (by decide) (by decide) (by decide) (by first | exact hk | (rw [hk]; decide)) hb rfl
    · by_cases hb : (lcmpW (((q2 ||| (9218868437227405312 : Int64)) &&& ((4503599627370496 : Int64) ^^^ (-1 : Int64))) &&& (9218868437227405312 : Int64)) (9218868437227405312 : Int64)) = (0 : Int32)
      · exact rm0_ffffftftf l Z a0 hw ws p1 q2 p3 w_BINARY64 0 h0 n0 Z0 S_BINARY64 E_BINARY64 F_fractionBits_BINARY64 F_specialExponent_BINARY64 (own_fin640 hb) hf (by decide) (by decide) (by decide) (by decide) (by first | exact hk | (rw [hk]; decide)) (by first | exact hk | (rw [hk]; decide)) hb rfl
      · exact rm0_ffffftfff l Z a0 hw ws p1 q2 p3 w_BINARY64 1 h0 n0 Z0 S_BINARY64 E_BINARY64 F_fractionBits_BINARY64 F_specialExponent_BINARY64 (own_fin641 hb) hf (by decide) (by decide) (by decide) (by decide) (by first | exact hk | (rw [hk]; decide)) (by first | exact hk | (rw [hk]; decide)) hb rfl
    · by_cases hb : (lcmpW ((q2 &&& ((9218868437227405312 : Int64) ^^^ (-1 : Int64))) &&& (9218868437227405312 : Int64)) (9218868437227405312 : Int64)) = (0 : Int32)
      · exact rm0_fffffttftf l Z a0 hw ws p1 q2 p3 w_BINARY64 0 h0 n0 Z0 S_BINARY64 E_BINARY64 F_fractionBits_BINARY64 F_specialExponent_BINARY64 (own_fin640 hb) hf (by decide) (by decide) (by decide) (by decide) (by first | exact hk | (rw [hk]; decide)) (by first | exact hk | (rw [hk]; decide)) (by first | exact hk | (rw [hk]; decide)) hb rfl
      · exact rm0_fffffttfff l Z a0 hw ws p1 q2 p3 w_BINARY64 1 h0 n0 Z0 S_BINARY64 E_BINARY64 F_fractionBits_BINARY64 F_specialExponent_BINARY64 (own_fin641 hb) hf (by decide) (by decide) (by decide) (by decide) (by first | exact hk | (rw [hk]; decide)) (by first | exact hk | (rw [hk]; decide)) (by first | exact hk | (rw [hk]; decide)) hb rfl
set_option maxRecDepth 65536 in
set_option maxHeartbeats 40000000 in
theorem comes_1 {Post : Tables → Env → Array Value → State → Outcome → State → Prop} (hpost : ∀ tb e args s v u, (limb_1_1.after args s (.returned v) u = true ∧ limb_1_2.after args s (.returned v) u = true ∧ True) → FrameEnd s (.returned v) u (Jvm.fieldLocs frame_1_writes args s ++ Jvm.arrayLocs frame_1_arrays args s ++ Jvm.staticLocs frame_1_statics s) 0 0 → Post tb e args s (.returned v) u) :
    ArmFor flags0 classFile x code maxLocals ret World_1 tables_1 room_1 Calls_1 rest_1 Pre_1 Post := by
  intro l hfl _ _ p e ha hc hk s m args below hf hA hF happ hP
  obtain ⟨hcalls, hrest, hpre⟩ := hP
  obtain ⟨-, -, -, hnamed, -, -, -, hat⟩ := (Spec.applies_iff hf).mp happ
  obtain ⟨hg, hn⟩ := and_e (Cond.before_iff.mp (show (Jvm.Cond.and given_1 narrow_1).before args s = true from hpre))
  obtain ⟨g7, g8⟩ := and_e hg
  obtain ⟨g9, g10⟩ := and_e g8
  obtain ⟨g11, g12⟩ := and_e g10
  obtain ⟨w0, w1, w2, rfl⟩ : ∃ w0 w1 w2 : Value, args = #[w0, w1, w2] := by
    have hs : args.size = 3 := by simpa [Cond.value, given_1] using g7
    obtain ⟨L⟩ := args
    match L, hs with
    | [w0, w1, w2], _ => exact ⟨w0, w1, w2, rfl⟩
  have hw := fun d (hd : d ∈ tables_1) => atoms_spec (ws := Jvm.Cond.code x code maxLocals ret :: tables_1) hat d (List.mem_cons_of_mem _ hd)
  have hfit : Fit s := fun {y c} hc i hi => by
    obtain ⟨ha, rfl⟩ := Array.getElem?_eq_some_iff.mp hc
    have q := List.all_eq_true.mp ((Array.all_eq_true_iff_forall_mem.mp hF) _ (Array.getElem_mem ha)) i (List.mem_range.mpr hi)
    simpa [Array.getElem?_eq_getElem hi] using q
  obtain ⟨i0, ei0⟩ := is_v g9
  obtain rfl : w0 = (.int i0) := Option.some.inj ei0
  obtain ⟨i1, ei1⟩ := isL_v g11
  obtain rfl : w1 = (.long i1) := Option.some.inj ei1
  obtain ⟨i2, ei2⟩ := is_v g12
  obtain rfl : w2 = (.int i2) := Option.some.inj ei2
  obtain ⟨hn0, hn⟩ := and_e hn
  obtain ⟨hn1, hn⟩ := and_e hn
  obtain ⟨hn2, hn⟩ := and_e hn
  obtain ⟨hn3, hn⟩ := and_e hn
  obtain ⟨hn4, hn⟩ := and_e hn
  have hn5 := hn
  obtain ⟨w_BINARY32, ev_BINARY32⟩ := exa_v hn0
  have E_BINARY32 := Exa.start ev_BINARY32 hn0
  have S_BINARY32 := Sta.start ev_BINARY32 (Or.inr ⟨hw _ (List.mem_of_getElem? (i := 1) rfl), hw _ (List.mem_of_getElem? (i := 2) rfl)⟩)
  obtain ⟨w_BINARY64, ev_BINARY64⟩ := exa_v hn3
  have E_BINARY64 := Exa.start ev_BINARY64 hn3
  have S_BINARY64 := Sta.start ev_BINARY64 (Or.inr ⟨hw _ (List.mem_of_getElem? (i := 1) rfl), hw _ (List.mem_of_getElem? (i := 21) rfl)⟩)
  have O_BINARY32_fractionBits := own_fi ev_BINARY32 hn1
  have O_BINARY32_specialExponent := own_fi ev_BINARY32 hn2
  have O_BINARY64_fractionBits := own_fi ev_BINARY64 hn4
  have O_BINARY64_specialExponent := own_fi ev_BINARY64 hn5
  have F_fractionBits_BINARY32 := Fld.start O_BINARY32_fractionBits
  have F_specialExponent_BINARY32 := Fld.start O_BINARY32_specialExponent
  have F_fractionBits_BINARY64 := Fld.start O_BINARY64_fractionBits
  have F_specialExponent_BINARY64 := Fld.start O_BINARY64_specialExponent
  obtain ⟨n, o, h1, h2, h3, _, L, rfl, ⟨rfl, N⟩, hq⟩ := rm0 l s _ hw tables_1 i0 i1 i2 w_BINARY64 w_BINARY32 s.heap s.heap.size (Nat.le_refl _) S_BINARY64 E_BINARY64 F_fractionBits_BINARY64 F_specialExponent_BINARY64 S_BINARY32 E_BINARY32 F_fractionBits_BINARY32 F_specialExponent_BINARY32 p e ha hc hk s m _ below hf ((Spec.applies_iff_loose hf).mp happ).1 ⟨rfl, State.Warmed39.refl s, rfl⟩ trivial
  refine ⟨n, _, h1, h2, h3, hpost _ _ _ _ _ _ ⟨Cond.after_iff.mpr rfl, Cond.after_iff.mpr (eq_i res_at (Term.int_eval (1)) rfl), trivial⟩ ⟨hq.1, hq.2.1, (hq.2.2.sift fun y hy => Or.inr (N y hy)).mono (by decide) (by decide)⟩⟩
theorem main_1_1 : Claimed_1_1 := comes_1 fun _ _ _ _ _ _ h hF => ⟨h.1, hF⟩
theorem main_1_2 : Claimed_1_2 := comes_1 fun _ _ _ _ _ _ h hF => ⟨h.2.1, hF⟩

end Jvm.Pilot.@@N@@
namespace Jvm.Pilot.@@N@@
open Jvm Jvm.ClassFile Sem Op Lib Jvm.Free Jvm.Stand Jvm.Pilot.@@N@@.Jvm.D
/-! MADE BY PROGRAM (witnessworld.py) out of the Statement's table words and the real class files: 12 classes; the members and pool entries that the words name. The judged class is class 1, her method 1. -/
namespace start1
open Jvm.ClassFile
def u (s : String) : CpInfo := .utf8 (stringToUtf16 s)
/-- a pool by its gaps: so many unusable entries, then the entry; so many at the end -/
def gap : Nat → List CpInfo → List CpInfo
  | 0, r => r
  | n + 1, r => .unusable :: gap n r
def poolList (es : List (Nat × CpInfo)) (last : Nat) : List CpInfo := es.foldr (fun e r => gap e.1 (e.2 :: r)) (gap last [])
def pool (es : List (Nat × CpInfo)) (last : Nat) : Array CpInfo := ⟨poolList es last⟩
def fileOf (pool : Array CpInfo) (this : Nat) (attrs : Array Attribute := #[]) (ms : Array MethodInfo := #[]) (fl : Nat := 33) (sup : Nat := 0) (ifs : Array Nat := #[]) (fds : Array FieldInfo := #[]) : ClassFile where
  minorVersion := 0
  majorVersion := 65
  constantPool := pool
  accessFlags := fl
  thisClass := this
  superClass := sup
  interfaces := ifs
  fields := fds
  methods := ms
  attributes := attrs
def plain (name : String) (sup : Option ClassId) : Class where
  name := name
  kind := .ordinary
  loader := none
  accessFlags := 33
  super := sup
  interfaces := #[]
  cf := none
  fields := #[]
  methods := #[]
  instanceTypes := #[]
  staticTypes := #[]
  resolved := #[]
  callSites := []
  init := .initialized
  statics := none
  mirror := none

def pool0 : Array CpInfo := pool [(5, u "<init>"), (0, u "()V"), (1, .class_ 10), (1, u "java/lang/Object")] 113

def k0m0 : Method := { name := "<init>", desc := "()V", sig := { parameters := [], returnType := none }, accessFlags := 1, code := none }
/-- java/lang/Object -/
def k0 : Class := { plain "java/lang/Object" none with
  accessFlags := 33
  interfaces := #[]
  cf := some (fileOf pool0 8 #[] #[{ accessFlags := 1, nameIndex := 5, descriptorIndex := 6, attributes := #[] }] 33 0 #[] #[])
  fields := #[]
  methods := #[k0m0]
  instanceTypes := #[]
  staticTypes := #[]
  resolved := Array.replicate 124 none
  statics := none }

def pool1 : Array CpInfo := pool [(2, .class_ 4), (1, u "java/lang/Object"), (0, u "<init>"), (0, u "()V"), (0, .fieldref 8 9), (0, .class_ 10), (0, .nameAndType 11 12), (0, u "com/example/fourfold/fourfold/json/FloatFormat"), (0, u "BINARY64"), (0, u "Lcom/example/fourfold/fourfold/json/FloatFormat;"), (0, .fieldref 8 14), (0, .nameAndType 15 12), (0, u "BINARY32"), (0, .long 9218868437227405312), (1, .long 2139095040), (1, .long 4503599627370496), (1, .long 8388608), (1, .long 4294967295), (1, .long 18446744073709551615), (1, .methodref 8 29), (0, .nameAndType 30 31), (0, u "isFinite"), (0, u "(J)Z"), (0, .class_ 33), (0, u "com/example/fourfold/fourfold/json/FloatFormatIsFinitePinLaw"), (2, u "law"), (0, u "(IJI)Z")] 3

def k1m0 : Method := { name := "<init>", desc := "()V", sig := { parameters := [], returnType := none }, accessFlags := 1, code := none }
def k1c1 : Code := { maxStack := 6, maxLocals := 14, code := code, exceptionTable := #[], attributes := #[] }
def k1m1 : Method := { name := "law", desc := "(IJI)Z", sig := { parameters := [.int, .long, .int], returnType := some .boolean }, accessFlags := 9, code := some k1c1 }
/-- com/example/fourfold/fourfold/json/FloatFormatIsFinitePinLaw -/
def k1 : Class := { plain "com/example/fourfold/fourfold/json/FloatFormatIsFinitePinLaw" (some 0) with
  accessFlags := 49
  interfaces := #[]
  cf := some (fileOf pool1 32 #[] #[{ accessFlags := 1, nameIndex := 5, descriptorIndex := 6, attributes := #[] }, { accessFlags := 9, nameIndex := 36, descriptorIndex := 37, attributes := #[] }] 49 2 #[] #[])
  fields := #[]
  methods := #[k1m0, k1m1]
  instanceTypes := #[]
  staticTypes := #[]
  resolved := Array.replicate 41 none
  statics := none }

def pool2 : Array CpInfo := pool [(1, .class_ 2), (0, u "java/lang/constant/Constable"), (0, .class_ 4), (0, u "java/lang/Object")] 6

/-- java/lang/constant/Constable -/
def k2 : Class := { plain "java/lang/constant/Constable" (some 0) with
  accessFlags := 1537
  interfaces := #[]
  cf := some (fileOf pool2 1 #[] #[] 1537 3 #[] #[])
  fields := #[]
  methods := #[]
  instanceTypes := #[]
  staticTypes := #[]
  resolved := Array.replicate 11 none
  statics := none }

def pool3 : Array CpInfo := pool [(1, .class_ 2), (0, u "java/lang/Comparable"), (0, .class_ 4), (0, u "java/lang/Object")] 7

/-- java/lang/Comparable -/
def k3 : Class := { plain "java/lang/Comparable" (some 0) with
  accessFlags := 1537
  interfaces := #[]
  cf := some (fileOf pool3 1 #[] #[] 1537 3 #[] #[])
  fields := #[]
  methods := #[]
  instanceTypes := #[]
  staticTypes := #[]
  resolved := Array.replicate 12 none
  statics := none }

def pool4 : Array CpInfo := pool [(1, .class_ 2), (0, u "java/io/Serializable"), (0, .class_ 4), (0, u "java/lang/Object")] 2

/-- java/io/Serializable -/
def k4 : Class := { plain "java/io/Serializable" (some 0) with
  accessFlags := 1537
  interfaces := #[]
  cf := some (fileOf pool4 1 #[] #[] 1537 3 #[] #[])
  fields := #[]
  methods := #[]
  instanceTypes := #[]
  staticTypes := #[]
  resolved := Array.replicate 7 none
  statics := none }

def pool5 : Array CpInfo := pool [(2, .class_ 4), (1, u "java/lang/Enum"), (0, u "name"), (0, u "Ljava/lang/String;"), (2, u "ordinal"), (0, u "I"), (1, .class_ 14), (1, u "java/lang/Object"), (4, u "hash"), (86, .class_ 108), (1, u "java/lang/Enum$EnumDesc"), (2, .class_ 112), (0, u "java/lang/constant/Constable"), (0, .class_ 114), (0, u "java/lang/Comparable"), (0, .class_ 116), (0, u "java/io/Serializable")] 87

/-- java/lang/Enum -/
def k5 : Class := { plain "java/lang/Enum" (some 0) with
  accessFlags := 1057
  interfaces := #[2, 3, 4]
  cf := some (fileOf pool5 2 #[.nestMembers #[106]] #[] 1057 12 #[111, 113, 115] #[{ accessFlags := 18, nameIndex := 5, descriptorIndex := 6, attributes := #[] }, { accessFlags := 18, nameIndex := 9, descriptorIndex := 10, attributes := #[] }, { accessFlags := 2, nameIndex := 19, descriptorIndex := 10, attributes := #[] }])
  fields := #[{ name := "name", type := (.object "java/lang/String"), accessFlags := 18, slot := 0, constantValue := 0 }, { name := "ordinal", type := .int, accessFlags := 18, slot := 1, constantValue := 0 }, { name := "hash", type := .int, accessFlags := 2, slot := 2, constantValue := 0 }]
  methods := #[]
  instanceTypes := #[(.object "java/lang/String"), .int, .int]
  staticTypes := #[]
  resolved := Array.replicate 204 none
  statics := none }

def pool6 : Array CpInfo := pool [(1, .class_ 2), (0, u "com/example/fourfold/fourfold/json/FloatFormat"), (2, u "BINARY32"), (0, u "Lcom/example/fourfold/fourfold/json/FloatFormat;"), (2, u "BINARY64"), (2, u "$VALUES"), (0, u "[Lcom/example/fourfold/fourfold/json/FloatFormat;"), (6, .class_ 22), (1, u "java/lang/Enum"), (8, u "width"), (0, u "I"), (0, .fieldref 1 34), (0, .nameAndType 35 32), (0, u "fractionBits"), (2, u "bias"), (0, .fieldref 1 40), (0, .nameAndType 41 32), (0, u "specialExponent"), (2, u "signBit"), (0, u "J"), (2, u "maxDigits"), (0, .methodref 1 50), (0, .nameAndType 51 52), (0, u "exponentField"), (0, u "(J)I"), (7, .class_ 62), (1, u "com/example/fourfold/fourfold/json/FloatFormat$Decimal"), (72, u "isFinite"), (0, u "(J)Z"), (47, .class_ 185), (0, u "com/example/fourfold/fourfold/json/FloatFormat$Scale"), (34, u "HEX"), (0, u "Ljava/util/HexFormat;"), (23, u "POWERS_OF_TEN"), (0, u "[Ljava/math/BigInteger;"), (11, u "LOG10_2"), (0, u "D")] 42

def k6c0 : Code := { maxStack := 3, maxLocals := 3, code := prog_63_method_4_code, exceptionTable := #[], attributes := #[] }
def k6m0 : Method := { name := "isFinite", desc := "(J)Z", sig := { parameters := [.long], returnType := some .boolean }, accessFlags := 0, code := some k6c0 }
def k6c1 : Code := { maxStack := 3, maxLocals := 3, code := prog_63_method_11_code, exceptionTable := #[], attributes := #[] }
def k6m1 : Method := { name := "exponentField", desc := "(J)I", sig := { parameters := [.long], returnType := some .int }, accessFlags := 2, code := some k6c1 }
/-- com/example/fourfold/fourfold/json/FloatFormat -/
def k6 : Class := { plain "com/example/fourfold/fourfold/json/FloatFormat" (some 5) with
  accessFlags := 16432
  interfaces := #[]
  cf := some (fileOf pool6 1 #[.nestMembers #[184, 60]] #[{ accessFlags := 0, nameIndex := 135, descriptorIndex := 136, attributes := #[] }, { accessFlags := 2, nameIndex := 51, descriptorIndex := 52, attributes := #[] }] 16432 20 #[] #[{ accessFlags := 16409, nameIndex := 5, descriptorIndex := 6, attributes := #[] }, { accessFlags := 16409, nameIndex := 9, descriptorIndex := 6, attributes := #[] }, { accessFlags := 26, nameIndex := 220, descriptorIndex := 221, attributes := #[] }, { accessFlags := 26, nameIndex := 258, descriptorIndex := 259, attributes := #[] }, { accessFlags := 26, nameIndex := 245, descriptorIndex := 246, attributes := #[] }, { accessFlags := 18, nameIndex := 31, descriptorIndex := 32, attributes := #[] }, { accessFlags := 18, nameIndex := 35, descriptorIndex := 32, attributes := #[] }, { accessFlags := 18, nameIndex := 38, descriptorIndex := 32, attributes := #[] }, { accessFlags := 18, nameIndex := 41, descriptorIndex := 32, attributes := #[] }, { accessFlags := 18, nameIndex := 44, descriptorIndex := 45, attributes := #[] }, { accessFlags := 18, nameIndex := 48, descriptorIndex := 32, attributes := #[] }, { accessFlags := 4122, nameIndex := 12, descriptorIndex := 13, attributes := #[] }])
  fields := #[{ name := "BINARY32", type := (.object "com/example/fourfold/fourfold/json/FloatFormat"), accessFlags := 16409, slot := 0, constantValue := 0 }, { name := "BINARY64", type := (.object "com/example/fourfold/fourfold/json/FloatFormat"), accessFlags := 16409, slot := 1, constantValue := 0 }, { name := "HEX", type := (.object "java/util/HexFormat"), accessFlags := 26, slot := 2, constantValue := 0 }, { name := "LOG10_2", type := .double, accessFlags := 26, slot := 3, constantValue := 0 }, { name := "POWERS_OF_TEN", type := (.array (.object "java/math/BigInteger")), accessFlags := 26, slot := 4, constantValue := 0 }, { name := "width", type := .int, accessFlags := 18, slot := 3, constantValue := 0 }, { name := "fractionBits", type := .int, accessFlags := 18, slot := 4, constantValue := 0 }, { name := "bias", type := .int, accessFlags := 18, slot := 5, constantValue := 0 }, { name := "specialExponent", type := .int, accessFlags := 18, slot := 6, constantValue := 0 }, { name := "signBit", type := .long, accessFlags := 18, slot := 7, constantValue := 0 }, { name := "maxDigits", type := .int, accessFlags := 18, slot := 8, constantValue := 0 }, { name := "$VALUES", type := (.array (.object "com/example/fourfold/fourfold/json/FloatFormat")), accessFlags := 4122, slot := 5, constantValue := 0 }]
  methods := #[k6m0, k6m1]
  instanceTypes := #[(.object "java/lang/String"), .int, .int, .int, .int, .int, .int, .long, .int]
  staticTypes := #[(.object "com/example/fourfold/fourfold/json/FloatFormat"), (.object "com/example/fourfold/fourfold/json/FloatFormat"), (.object "java/util/HexFormat"), .double, (.array (.object "java/math/BigInteger")), (.array (.object "com/example/fourfold/fourfold/json/FloatFormat"))]
  resolved := Array.replicate 302 none
  statics := some 0 }

def pool7 : Array CpInfo := pool [(1, u "java/lang/Cloneable"), (0, .class_ 1), (0, u "java/lang/Object"), (0, .class_ 3)] 3

/-- java/lang/Cloneable -/
def k7 : Class := { plain "java/lang/Cloneable" (some 0) with
  accessFlags := 1537
  interfaces := #[]
  cf := some (fileOf pool7 2 #[] #[] 1537 4 #[] #[])
  fields := #[]
  methods := #[]
  instanceTypes := #[]
  staticTypes := #[]
  resolved := Array.replicate 8 none
  statics := none }

/-- the primitive byte -/
def k8 : Class := { plain "byte" none with kind := .primitive 'B', accessFlags := 0x411 }
/-- [B -/
def k9 : Class := { plain "[B" (some 0) with kind := .array 8 .byte, interfaces := #[7, 4], accessFlags := 1041 }

/-- the primitive int -/
def k10 : Class := { plain "int" none with kind := .primitive 'I', accessFlags := 0x411 }
/-- [I -/
def k11 : Class := { plain "[I" (some 0) with kind := .array 10 .int, interfaces := #[7, 4], accessFlags := 1041 }

def heap : Heap := #[{ cls := 6, slots := #[.ref 2, .ref 1, .null, .double 0, .null, .null], vm := .statics 6 },
  { cls := 6, slots := #[.null, .int 0, .int 0, .int 0, .int 52, .int 0, .int 2047, .long 0, .int 0], vm := .none },
  { cls := 6, slots := #[.null, .int 1, .int 0, .int 0, .int 23, .int 0, .int 255, .long 0, .int 0], vm := .none }]
def classes : Array Class := #[k0, k1, k2, k3, k4, k5, k6, k7, k8, k9, k10, k11]
def interned : List (Array UInt16 × Addr) := []
def slotsUsed : Nat := 24
def theMethod : MethodId := ⟨1, 1⟩
def args0 : Array Value := #[.int 5, .long 7, .int 0]
def aboutOver (below : List Frame) : State where
  vm := { classes := classes, interned := interned.toArray }
  heap := heap
  slotsUsed := slotsUsed
  threads := #[{ frames := .invoking theMethod args0 :: below }]
def below0 : List Frame := [.native { method := ⟨0, 0⟩, args := #[] }]
def about1 : State := aboutOver below0
def p0 : Program := .bare "" "" ""
def e0 : Env := launch0.env 0 0 0
theorem w_frames : about1.frames = Frame.invoking theMethod args0 :: below0 := rfl
set_option maxRecDepth 65536 in
theorem w_args : argsFit about1.vm theMethod args0 = true := by decide +kernel
set_option maxRecDepth 65536 in
theorem w_heap : heapFits about1 = true := by decide +kernel
set_option maxRecDepth 65536 in
theorem w_runnable : about1.curStatus? = some .runnable := by decide +kernel
set_option maxRecDepth 65536 in
theorem w_alone : about1.alone = true := by decide +kernel
set_option maxRecDepth 65536 in
theorem w_named : about1.methodNamed? x = some theMethod := by decide +kernel
set_option maxRecDepth 65536 in
theorem w_hears : about1.hears theMethod below0 = true := by decide +kernel
set_option maxRecDepth 65536 in
theorem w_ripe : about1.ripe theMethod args0 below0 = true := by decide +kernel
theorem w_running : about1.status = .running := rfl
set_option maxRecDepth 65536 in
theorem w_room : about1.hasRoom e0.platform room_1 = true :=
  launch0.hasRoom_least _ room_1 (by decide +kernel) (by decide +kernel) (by decide +kernel) (by decide +kernel) (by decide +kernel) (by decide +kernel)
theorem allAtoms_all (ts : List Jvm.Cond) (a : Array Jvm.Value) (st : Jvm.State) : (allAtoms ts).before a st = ts.all (fun c => c.before a st) := by
  induction ts with
  | nil => rfl
  | cons c t ih =>
    show (Jvm.Cond.and c (allAtoms t)).before a st = _
    rw [Jvm.Cond.before_and, ih, List.all_cons]
def words1 : List Jvm.Cond := Jvm.Cond.code x code maxLocals ret :: tables_1
/-- a 'code' word, met by the world's own term for the bytes: nothing is compared byte by byte -/
theorem code_word {y : MethodName} {bytes : ByteArray} {mx : Nat} {rt : Option FieldType} {a : Array Value} {s : State} {m : MethodId} {meth : Method} {c : Code} (h1 : s.methodNamed? y = some m) (h2 : s.vm.method? m = some meth) (h3 : meth.code = some c) (h4 : c.code = bytes)
    (h5 : (c.maxLocals == mx && c.exceptionTable.isEmpty && decide (c.maxStack ≤ mostOperands) && decide (meth.sig.returnType = rt) && !meth.locks && decide (parseMethodDescriptor y.desc = some meth.sig)) = true) : (Jvm.Cond.code y bytes mx rt).before a s = true := by
  simp only [Bool.and_eq_true, beq_iff_eq, Bool.not_eq_true', decide_eq_true_eq] at h5
  obtain ⟨⟨⟨⟨⟨g1, g2⟩, g3⟩, g4⟩, g5⟩, g6⟩ := h5
  simp [Cond.before, Cond.holds, Cond.value, h1, h2, h3, h4, g1, g2, g3, g4, g5, g6]
def isCode : Jvm.Cond → Bool
  | .code _ _ _ _ => true
  | _ => false
theorem all_split {L : List Jvm.Cond} {P : Jvm.Cond → Bool} (h1 : L.all (fun c => isCode c || P c) = true) (h2 : ∀ c ∈ L.filter isCode, P c = true) : L.all P = true := by
  refine List.all_eq_true.mpr fun c hc => ?_
  have h := List.all_eq_true.mp h1 c hc
  rcases Bool.eq_false_or_eq_true (isCode c) with hi | hi
  · exact h2 c (List.mem_filter.mpr ⟨hc, hi⟩)
  · simpa [hi] using h
set_option maxRecDepth 65536 in
theorem w_c0 : (Jvm.Cond.code x code maxLocals ret).before args0 about1 = true := code_word (m := ⟨1, 1⟩) (meth := k1m1) (c := k1c1) (by decide +kernel) rfl rfl rfl (by decide +kernel)
set_option maxRecDepth 65536 in
theorem w_c1 : (Jvm.Cond.code ({ cls := "com/example/fourfold/fourfold/json/FloatFormat", name := "isFinite", desc := "(J)Z" } : Jvm.MethodName) prog_63_method_4_code (3 : Nat) (Option.some Jvm.ClassFile.FieldType.boolean)).before args0 about1 = true := code_word (m := ⟨6, 0⟩) (meth := k6m0) (c := k6c0) (by decide +kernel) rfl rfl rfl (by decide +kernel)
set_option maxRecDepth 65536 in
theorem w_c2 : (Jvm.Cond.code ({ cls := "com/example/fourfold/fourfold/json/FloatFormat", name := "exponentField", desc := "(J)I" } : Jvm.MethodName) prog_63_method_11_code (3 : Nat) (Option.some Jvm.ClassFile.FieldType.int)).before args0 about1 = true := code_word (m := ⟨6, 1⟩) (meth := k6m1) (c := k6c1) (by decide +kernel) rfl rfl rfl (by decide +kernel)
def codes1 : List Jvm.Cond := [Jvm.Cond.code x code maxLocals ret, Jvm.Cond.code ({ cls := "com/example/fourfold/fourfold/json/FloatFormat", name := "isFinite", desc := "(J)Z" } : Jvm.MethodName) prog_63_method_4_code (3 : Nat) (Option.some Jvm.ClassFile.FieldType.boolean), Jvm.Cond.code ({ cls := "com/example/fourfold/fourfold/json/FloatFormat", name := "exponentField", desc := "(J)I" } : Jvm.MethodName) prog_63_method_11_code (3 : Nat) (Option.some Jvm.ClassFile.FieldType.int)]
set_option maxRecDepth 65536 in
theorem codes_eq : words1.filter isCode = codes1 := rfl
theorem w_codes : ∀ c ∈ words1.filter isCode, c.before args0 about1 = true := by
  rw [codes_eq]
  intro c hc
  simp only [codes1, List.mem_cons, List.not_mem_nil, or_false] at hc
  rcases hc with rfl | rfl | rfl
  · exact w_c0
  · exact w_c1
  · exact w_c2
set_option maxRecDepth 65536 in
theorem w_t1 : (words1.take 24).all (fun c => isCode c || c.before args0 about1) = true := by decide +kernel
set_option maxRecDepth 65536 in
theorem w_t2 : (words1.drop 24).all (fun c => isCode c || c.before args0 about1) = true := by decide +kernel
theorem w_tables : (allAtoms (Jvm.Cond.code x code maxLocals ret :: tables_1)).before args0 about1 = true := by
  rw [allAtoms_all]
  show words1.all (fun c => c.before args0 about1) = true
  refine all_split ?_ w_codes
  rw [← List.take_append_drop 24 words1, List.all_append, w_t1, w_t2]
  rfl
set_option maxRecDepth 65536 in
theorem w_case : (Jvm.Cond.and given_1 narrow_1).before args0 about1 = true := by decide +kernel
theorem w_applies : (headSpec (Jvm.Cond.code x code maxLocals ret :: tables_1) room_1).applies x e0.platform about1 = true :=
  (Spec.applies_iff w_frames).mpr ⟨w_running, w_runnable, w_alone, w_named, w_hears, w_ripe, w_room, w_tables⟩
theorem atStart : AtStart classFile x code maxLocals ret World_1 tables_1 room_1 Calls_1 rest_1 Pre_1 launch0 p0 e0 about1 theMethod args0 below0 :=
  ⟨lists_1, trivial, launch0.admits_env _ _ _, launch0.least_env, fairChoices_fair.cas, fairChoices_fair.clock, w_frames, w_args, w_heap, w_applies, trivial, trivial, w_case⟩
end start1
theorem witness_1 : WitnessClaimed_1 := ⟨start1.p0, start1.e0, start1.about1, start1.theMethod, start1.args0, start1.below0, start1.atStart⟩
end Jvm.Pilot.@@N@@
