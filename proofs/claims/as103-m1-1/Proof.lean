import JvmDerived
import JvmDerived.Pilot.@@N@@Statement
import JvmDerived.Pilot.@@N@@Code
set_option linter.unusedVariables false
set_option linter.unusedSimpArgs false
namespace Jvm.RoadKit
open Sem ClassFile Op Lib Jvm.Stand Jvm.Free Jvm.LawKit
section New
variable {p : Program} {l : Launch} {e : Env} {R : Room} {s : State} {m : MethodId} {args : Array Value} {below : List Frame} {meth : Method} {c : Code} {T : State} {locs : List Loc} {cells slots : Nat}
theorem retI (X : Stand p l e R s m args below meth c T locs cells slots) (hx : p.tables.exec = Jvm.exec) {pc : Nat} {Ls : Array Slot} {z : Int32} {rest : List Value} (hret : meth.sig.returnType = some .int) (hd : decode c.code pc = .ok (.ireturn, 1)) {fs : List Frame}
    (hl : ∀ (f : JFrame) (acts : List Action), f.method = m → f.locked = none → f.entered = [] → (doReturn e (T.setTop f) acts (some (.int z))).1 = T.setFrames fs) : Steps p.tables e below (T.setTop (mkF m pc Ls (.int z :: rest))) (T.setFrames fs) := by
  have hm' : T.vm.method? m = some meth := X.method'
  have hn : narrow .int (.int z) = .int z := rfl
  show Steps p.tables e below (T.setTop { method := m, pc := pc, locals := Ls, stack := _ :: rest, locked := none }) _
  jvm_step X.here [X.here.top, hx, hd, hm', hret, hn]
  first | (intro acts; rw [hl _ acts rfl rfl rfl]) | rw [hl _ _ rfl rfl rfl]
  exact Steps.refl _
end New
end Jvm.RoadKit
namespace Jvm.Pilot.@@N@@
open Jvm Jvm.ClassFile Sem Op Lib Jvm.Free Jvm.Stand Jvm.LawKit Jvm.RoadKit Bundle Jvm.Pilot.@@N@@.Jvm.D
theorem own_fi {s : State} {args : Array Value} {t : Term} {C n d : String} {k : Int32} {x : Addr} (ht : t.eval args s none [] s = some (.ref x)) (h : (Jvm.Cond.eq (.field t C n d) (.int k)).value args s none s [] = some true) : s.fieldOf? x C n d = some (.int k) := by
  obtain ⟨u, v, e1, e2, k1, k2⟩ := cmp_v (Or.inl h)
  have e3 : (Term.int k).eval args s none [] s = some (.int k) := Term.int_eval k
  obtain rfl : v = .int k := Option.some.inj (e2.symm.trans e3)
  obtain ⟨z, rfl⟩ := k2
  have e4 : some true = some (decide (z = k)) := h.symm.trans (by simp [Cond.value, e1, e3])
  have e5 : z = k := of_decide_eq_true (Option.some.inj e4).symm
  subst e5
  exact (fld_at ht).symm.trans e1
theorem own_fr {s : State} {args : Array Value} {t t2 : Term} {C n d : String} {x y : Addr} (ht : t.eval args s none [] s = some (.ref x)) (ht2 : t2.eval args s none [] s = some (.ref y)) (h : (Jvm.Cond.eq (.field t C n d) t2).value args s none s [] = some true) : s.fieldOf? x C n d = some (.ref y) := by
  obtain ⟨u, v, e1, e2, k1, k2⟩ := cmp_v (Or.inl h)
  obtain rfl : v = .ref y := Option.some.inj (e2.symm.trans ht2)
  have hu : u.isRef = true := k2.2
  have e5 : u = .ref y := gotT (eq_R e1 ht2 hu rfl) h
  subst e5
  exact (fld_at ht).symm.trans e1
theorem own_ne {s : State} {a b : Addr} {C n d : String} {j k : Int32} (h1 : s.fieldOf? a C n d = some (.int j)) (h2 : s.fieldOf? b C n d = some (.int k)) (hne : j ≠ k) : a ≠ b := fun q => by
  subst q
  have h := h1.symm.trans h2
  injection h with h
  injection h with h
  exact hne h
theorem own_top31 (x : Int32) : 0 ≤ (x &&& 2147483647).toInt := by
  have h := c_mask x 2147483647 31 (by decide) (by decide)
  omega
theorem own_rem {x d : Int32} {n : Nat} (h0 : 0 ≤ x.toInt) (hd : d.toInt = n) (hn : 0 < n) : 0 ≤ (x % d).toInt ∧ (x % d).toInt < n := by
  have h := (c_irem x d n hd).1 h0
  constructor <;> rw [h]
  · exact Int.emod_nonneg _ (by omega)
  · exact Int.emod_lt_of_pos _ (by omega)
def modeF (p : Int32) (r w u c : Addr) : Addr := if p = 0 then r else if p = 1 then w else if p = 2 then u else c
def rankF (a r u w : Addr) : Int32 := if a = r then 1 else if a = u then 2 else if a = w then 3 else 0
def upF (a b r w u : Addr) : Int32 := if a = r then (if b = w then 1 else if b = u then 1 else if a = u then (if b = w then 1 else 0) else 0) else if a = u then (if b = w then 1 else 0) else 0
theorem d1_0 : decode method_2_code 0 = .ok (.iload_n 0, 1) := by decide +kernel
theorem d1_1 : decode method_2_code 1 = .ok (.ifCond .ne 7, 3) := by decide +kernel
theorem d1_4 : decode method_2_code 4 = .ok (.getstatic 7, 3) := by decide +kernel
theorem d1_7 : decode method_2_code 7 = .ok (.areturn, 1) := by decide +kernel
theorem pn_1 : plainName "com/example/slackline/slackline/core/LockModeUpgradedByPinLaw" = true := by first | (simp [plainName, overriddenIn]; done) | decide +kernel
theorem ef_1 (m : MethodId) (x0 : Int32) : entryFrame m #[(.int x0)] 1 = mkF m 0 #[.val (.int x0)] [] := by first | (simp [entryFrame, mkF, argsToLocals, Value.category]; done) | rfl
theorem d1_8 : decode method_2_code 8 = .ok (.iload_n 0, 1) := by decide +kernel
theorem d1_9 : decode method_2_code 9 = .ok (.iconst 1, 1) := by decide +kernel
theorem d1_10 : decode method_2_code 10 = .ok (.if_icmp .ne 7, 3) := by decide +kernel
theorem d1_13 : decode method_2_code 13 = .ok (.getstatic 13, 3) := by decide +kernel
theorem d1_16 : decode method_2_code 16 = .ok (.areturn, 1) := by decide +kernel
theorem d1_17 : decode method_2_code 17 = .ok (.iload_n 0, 1) := by decide +kernel
theorem d1_18 : decode method_2_code 18 = .ok (.iconst 2, 1) := by decide +kernel
theorem d1_19 : decode method_2_code 19 = .ok (.if_icmp .ne 7, 3) := by decide +kernel
theorem d1_22 : decode method_2_code 22 = .ok (.getstatic 16, 3) := by decide +kernel
theorem d1_25 : decode method_2_code 25 = .ok (.areturn, 1) := by decide +kernel
theorem d1_26 : decode method_2_code 26 = .ok (.getstatic 19, 3) := by decide +kernel
theorem d1_29 : decode method_2_code 29 = .ok (.areturn, 1) := by decide +kernel
def Q1 (Z : State) (p1 : Int32) (w_READ : Addr) (w_WRITE : Addr) (w_UPDATE : Addr) (w_CERTIFY : Addr) (h0 : Heap) (n0 : Nat) (v : Option Value) (h : Heap) (L : List Loc) : Prop := v = some (.ref (modeF p1 w_READ w_WRITE w_UPDATE w_CERTIFY)) ∧ Fr n0 L ∧ h = h0
set_option maxRecDepth 65536 in
set_option maxHeartbeats 40000000 in
theorem rm1_f (l : Launch) (Z : State) (a0 : Array Value) (hw : ∀ d ∈ tables_1, d.before a0 Z = true) (ws : List Jvm.Cond) (p1 : Int32) (w_READ : Addr) (w_WRITE : Addr) (w_UPDATE : Addr) (w_CERTIFY : Addr) (h0 : Heap) (n0 : Nat) (Z0 : n0 ≤ h0.size) (S_READ : Sta Z h0 "com/example/slackline/slackline/core/LockMode" "READ" "Lcom/example/slackline/slackline/core/LockMode;" (.ref w_READ)) (S_WRITE : Sta Z h0 "com/example/slackline/slackline/core/LockMode" "WRITE" "Lcom/example/slackline/slackline/core/LockMode;" (.ref w_WRITE)) (S_UPDATE : Sta Z h0 "com/example/slackline/slackline/core/LockMode" "UPDATE" "Lcom/example/slackline/slackline/core/LockMode;" (.ref w_UPDATE)) (S_CERTIFY : Sta Z h0 "com/example/slackline/slackline/core/LockMode" "CERTIFY" "Lcom/example/slackline/slackline/core/LockMode;" (.ref w_CERTIFY)) (hc1 : p1 = (0 : Int32)) :
    MetFree l (⟨"com/example/slackline/slackline/core/LockModeUpgradedByPinLaw", "mode", "(I)Lcom/example/slackline/slackline/core/LockMode;"⟩ : MethodName) (head1 (Jvm.Cond.code (⟨"com/example/slackline/slackline/core/LockModeUpgradedByPinLaw", "mode", "(I)Lcom/example/slackline/slackline/core/LockMode;"⟩ : MethodName) method_2_code 1 (some (.object "com/example/slackline/slackline/core/LockMode")) :: ws) ({ frames := 0, cells := 0, slots := 0, locals := 0 } : Room)) (fun a U => a = #[(.int p1)] ∧ Z.Warmed39 U.vm ∧ U.heap = h0) (fun _ _ _ _ _ => True) (fun _ U o U' => ∃ v L, o = .returned v ∧ Q1 Z p1 w_READ w_WRITE w_UPDATE w_CERTIFY h0 n0 v U'.heap L ∧ FrameEnd U o U' L ({ frames := 0, cells := 0, slots := 0, locals := 0 } : Room).cells ({ frames := 0, cells := 0, slots := 0, locals := 0 } : Room).slots) := by
  refine MetFree.of_bodySF (plainFor_of_name pn_1) hisR ?_
  intro p e s m args below meth c s₁ Bd hml0 hP hK
  obtain ⟨rfl, hZ, hh⟩ := hP
  have hx := Bd.exec
  have hby := Bd.bytes
  have hml : c.maxLocals = 1 := hml0
  have hown : s.vm.findClass "com/example/slackline/slackline/core/LockModeUpgradedByPinLaw" = some m.cls := findClass_of_methodNamed Bd.named
  have hnm := (name_of_methodNamed Bd.named Bd.method).1
  have X0 : Stand p l e ({ frames := 0, cells := 0, slots := 0, locals := 0 } : Room) s m #[(.int p1)] below meth c s₁ [] 0 0 := Stand.of_body Bd
  have e0 : s₁.heap = h0 := by rw [← hh, Bd.state]; rfl
  have N0 := Fr.nil n0
  have pre0 : ∀ t, Steps p.tables e below (s₁.setTop (mkF m 0 #[.val (.int p1)] [])) t → Steps p.tables e below (s₁.setTop (entryFrame m #[(.int p1)] 1)) t := fun t k => castTop (ef_1 m p1) k
  -- 3. LAWS
  obtain ⟨T3, X3, e3, st3⟩ := getS2 X0 hx hZ hown (host := "") (Or.inl (hw _ (List.mem_of_getElem? (i := 5) rfl))) Via.refl e0 S_READ (g := (mkF m 4 #[.val (.int p1)] [])) rfl (hb hby d1_4)
  obtain ⟨fs, hr, hrun, hended, hW, hsame⟩ := X3.leave (v := some (.ref w_READ)) (fun h => by rw [Bd.returns] at h; cases h)
  refine ⟨_, _, pre0 _ ?_, hrun, hended, _, _, rfl, ?_, ⟨_, rfl⟩, hW, hsame.mono (by decide) (by decide)⟩
  -- 4. STEPS
  · show Steps p.tables e below (s₁.setTop (mkF m 0 #[.val (.int p1)] [])) _
    refine XS.iloadN X0.here hx rfl (hb hby d1_0) rfl ?_
    show Steps p.tables e below (s₁.setTop (mkF m 1 #[.val (.int p1)] [(.int p1)])) _
    refine XS.ifNo X0.here hx rfl (hb hby d1_1) rfl ((if0 _ _).trans (teq hc1).2) ?_
    show Steps p.tables e below (s₁.setTop (mkF m 4 #[.val (.int p1)] [])) _
    refine st3 _ ?_
    show Steps p.tables e below (T3.setTop (mkF m 7 #[.val (.int p1)] [(.ref w_READ)])) _
    jvm_step X3.here [X3.here.top, hx, (hb hby d1_7), X3.method', Bd.returns, Value.isRef, FieldType.isReference]
    first | (intro acts; rw [hr _ acts rfl rfl rfl]) | rw [hr _ _ rfl rfl rfl]
    exact Steps.refl _
  · show Q1 Z p1 w_READ w_WRITE w_UPDATE w_CERTIFY h0 n0 _ T3.heap _
    rw [e3]
    exact ⟨by simp_all [modeF], N0, rfl⟩
set_option maxRecDepth 65536 in
set_option maxHeartbeats 40000000 in
theorem rm1_tf (l : Launch) (Z : State) (a0 : Array Value) (hw : ∀ d ∈ tables_1, d.before a0 Z = true) (ws : List Jvm.Cond) (p1 : Int32) (w_READ : Addr) (w_WRITE : Addr) (w_UPDATE : Addr) (w_CERTIFY : Addr) (h0 : Heap) (n0 : Nat) (Z0 : n0 ≤ h0.size) (S_READ : Sta Z h0 "com/example/slackline/slackline/core/LockMode" "READ" "Lcom/example/slackline/slackline/core/LockMode;" (.ref w_READ)) (S_WRITE : Sta Z h0 "com/example/slackline/slackline/core/LockMode" "WRITE" "Lcom/example/slackline/slackline/core/LockMode;" (.ref w_WRITE)) (S_UPDATE : Sta Z h0 "com/example/slackline/slackline/core/LockMode" "UPDATE" "Lcom/example/slackline/slackline/core/LockMode;" (.ref w_UPDATE)) (S_CERTIFY : Sta Z h0 "com/example/slackline/slackline/core/LockMode" "CERTIFY" "Lcom/example/slackline/slackline/core/LockMode;" (.ref w_CERTIFY)) (hc1 : ¬ (p1 = (0 : Int32))) (hc10 : p1 = (1 : Int32)) :
    MetFree l (⟨"com/example/slackline/slackline/core/LockModeUpgradedByPinLaw", "mode", "(I)Lcom/example/slackline/slackline/core/LockMode;"⟩ : MethodName) (head1 (Jvm.Cond.code (⟨"com/example/slackline/slackline/core/LockModeUpgradedByPinLaw", "mode", "(I)Lcom/example/slackline/slackline/core/LockMode;"⟩ : MethodName) method_2_code 1 (some (.object "com/example/slackline/slackline/core/LockMode")) :: ws) ({ frames := 0, cells := 0, slots := 0, locals := 0 } : Room)) (fun a U => a = #[(.int p1)] ∧ Z.Warmed39 U.vm ∧ U.heap = h0) (fun _ _ _ _ _ => True) (fun _ U o U' => ∃ v L, o = .returned v ∧ Q1 Z p1 w_READ w_WRITE w_UPDATE w_CERTIFY h0 n0 v U'.heap L ∧ FrameEnd U o U' L ({ frames := 0, cells := 0, slots := 0, locals := 0 } : Room).cells ({ frames := 0, cells := 0, slots := 0, locals := 0 } : Room).slots) := by
  refine MetFree.of_bodySF (plainFor_of_name pn_1) hisR ?_
  intro p e s m args below meth c s₁ Bd hml0 hP hK
  obtain ⟨rfl, hZ, hh⟩ := hP
  have hx := Bd.exec
  have hby := Bd.bytes
  have hml : c.maxLocals = 1 := hml0
  have hown : s.vm.findClass "com/example/slackline/slackline/core/LockModeUpgradedByPinLaw" = some m.cls := findClass_of_methodNamed Bd.named
  have hnm := (name_of_methodNamed Bd.named Bd.method).1
  have X0 : Stand p l e ({ frames := 0, cells := 0, slots := 0, locals := 0 } : Room) s m #[(.int p1)] below meth c s₁ [] 0 0 := Stand.of_body Bd
  have e0 : s₁.heap = h0 := by rw [← hh, Bd.state]; rfl
  have N0 := Fr.nil n0
  have pre0 : ∀ t, Steps p.tables e below (s₁.setTop (mkF m 0 #[.val (.int p1)] [])) t → Steps p.tables e below (s₁.setTop (entryFrame m #[(.int p1)] 1)) t := fun t k => castTop (ef_1 m p1) k
  -- 3. LAWS
  obtain ⟨T3, X3, e3, st3⟩ := getS2 X0 hx hZ hown (host := "") (Or.inl (hw _ (List.mem_of_getElem? (i := 15) rfl))) Via.refl e0 S_WRITE (g := (mkF m 13 #[.val (.int p1)] [])) rfl (hb hby d1_13)
  obtain ⟨fs, hr, hrun, hended, hW, hsame⟩ := X3.leave (v := some (.ref w_WRITE)) (fun h => by rw [Bd.returns] at h; cases h)
  refine ⟨_, _, pre0 _ ?_, hrun, hended, _, _, rfl, ?_, ⟨_, rfl⟩, hW, hsame.mono (by decide) (by decide)⟩
  -- 4. STEPS
  · show Steps p.tables e below (s₁.setTop (mkF m 0 #[.val (.int p1)] [])) _
    refine XS.iloadN X0.here hx rfl (hb hby d1_0) rfl ?_
    show Steps p.tables e below (s₁.setTop (mkF m 1 #[.val (.int p1)] [(.int p1)])) _
    refine XS.ifYes X0.here hx rfl (pc0 := 1) (pc' := 8) rfl (hb hby d1_1) rfl ((if0 _ _).trans (feq hc1).2) (by decide) (by decide) ?_
    show Steps p.tables e below (s₁.setTop (mkF m 8 #[.val (.int p1)] [])) _
    refine XS.iloadN X0.here hx rfl (hb hby d1_8) rfl ?_
    show Steps p.tables e below (s₁.setTop (mkF m 9 #[.val (.int p1)] [(.int p1)])) _
    refine XS.iconst X0.here hx rfl (hb hby d1_9) ?_
    show Steps p.tables e below (s₁.setTop (mkF m 10 #[.val (.int p1)] [(.int (1 : Int32)), (.int p1)])) _
    refine XS.icmpNo X0.here hx rfl (hb hby d1_10) rfl (teq hc10).2 ?_
    show Steps p.tables e below (s₁.setTop (mkF m 13 #[.val (.int p1)] [])) _
    refine st3 _ ?_
    show Steps p.tables e below (T3.setTop (mkF m 16 #[.val (.int p1)] [(.ref w_WRITE)])) _
    jvm_step X3.here [X3.here.top, hx, (hb hby d1_16), X3.method', Bd.returns, Value.isRef, FieldType.isReference]
    first | (intro acts; rw [hr _ acts rfl rfl rfl]) | rw [hr _ _ rfl rfl rfl]
    exact Steps.refl _
  · show Q1 Z p1 w_READ w_WRITE w_UPDATE w_CERTIFY h0 n0 _ T3.heap _
    rw [e3]
    exact ⟨by simp_all [modeF], N0, rfl⟩
set_option maxRecDepth 65536 in
set_option maxHeartbeats 40000000 in
theorem rm1_ttf (l : Launch) (Z : State) (a0 : Array Value) (hw : ∀ d ∈ tables_1, d.before a0 Z = true) (ws : List Jvm.Cond) (p1 : Int32) (w_READ : Addr) (w_WRITE : Addr) (w_UPDATE : Addr) (w_CERTIFY : Addr) (h0 : Heap) (n0 : Nat) (Z0 : n0 ≤ h0.size) (S_READ : Sta Z h0 "com/example/slackline/slackline/core/LockMode" "READ" "Lcom/example/slackline/slackline/core/LockMode;" (.ref w_READ)) (S_WRITE : Sta Z h0 "com/example/slackline/slackline/core/LockMode" "WRITE" "Lcom/example/slackline/slackline/core/LockMode;" (.ref w_WRITE)) (S_UPDATE : Sta Z h0 "com/example/slackline/slackline/core/LockMode" "UPDATE" "Lcom/example/slackline/slackline/core/LockMode;" (.ref w_UPDATE)) (S_CERTIFY : Sta Z h0 "com/example/slackline/slackline/core/LockMode" "CERTIFY" "Lcom/example/slackline/slackline/core/LockMode;" (.ref w_CERTIFY)) (hc1 : ¬ (p1 = (0 : Int32))) (hc10 : ¬ (p1 = (1 : Int32))) (hc19 : p1 = (2 : Int32)) :
    MetFree l (⟨"com/example/slackline/slackline/core/LockModeUpgradedByPinLaw", "mode", "(I)Lcom/example/slackline/slackline/core/LockMode;"⟩ : MethodName) (head1 (Jvm.Cond.code (⟨"com/example/slackline/slackline/core/LockModeUpgradedByPinLaw", "mode", "(I)Lcom/example/slackline/slackline/core/LockMode;"⟩ : MethodName) method_2_code 1 (some (.object "com/example/slackline/slackline/core/LockMode")) :: ws) ({ frames := 0, cells := 0, slots := 0, locals := 0 } : Room)) (fun a U => a = #[(.int p1)] ∧ Z.Warmed39 U.vm ∧ U.heap = h0) (fun _ _ _ _ _ => True) (fun _ U o U' => ∃ v L, o = .returned v ∧ Q1 Z p1 w_READ w_WRITE w_UPDATE w_CERTIFY h0 n0 v U'.heap L ∧ FrameEnd U o U' L ({ frames := 0, cells := 0, slots := 0, locals := 0 } : Room).cells ({ frames := 0, cells := 0, slots := 0, locals := 0 } : Room).slots) := by
  refine MetFree.of_bodySF (plainFor_of_name pn_1) hisR ?_
  intro p e s m args below meth c s₁ Bd hml0 hP hK
  obtain ⟨rfl, hZ, hh⟩ := hP
  have hx := Bd.exec
  have hby := Bd.bytes
  have hml : c.maxLocals = 1 := hml0
  have hown : s.vm.findClass "com/example/slackline/slackline/core/LockModeUpgradedByPinLaw" = some m.cls := findClass_of_methodNamed Bd.named
  have hnm := (name_of_methodNamed Bd.named Bd.method).1
  have X0 : Stand p l e ({ frames := 0, cells := 0, slots := 0, locals := 0 } : Room) s m #[(.int p1)] below meth c s₁ [] 0 0 := Stand.of_body Bd
  have e0 : s₁.heap = h0 := by rw [← hh, Bd.state]; rfl
  have N0 := Fr.nil n0
  have pre0 : ∀ t, Steps p.tables e below (s₁.setTop (mkF m 0 #[.val (.int p1)] [])) t → Steps p.tables e below (s₁.setTop (entryFrame m #[(.int p1)] 1)) t := fun t k => castTop (ef_1 m p1) k
  -- 3. LAWS
  obtain ⟨T3, X3, e3, st3⟩ := getS2 X0 hx hZ hown (host := "") (Or.inl (hw _ (List.mem_of_getElem? (i := 13) rfl))) Via.refl e0 S_UPDATE (g := (mkF m 22 #[.val (.int p1)] [])) rfl (hb hby d1_22)
  obtain ⟨fs, hr, hrun, hended, hW, hsame⟩ := X3.leave (v := some (.ref w_UPDATE)) (fun h => by rw [Bd.returns] at h; cases h)
  refine ⟨_, _, pre0 _ ?_, hrun, hended, _, _, rfl, ?_, ⟨_, rfl⟩, hW, hsame.mono (by decide) (by decide)⟩
  -- 4. STEPS
  · show Steps p.tables e below (s₁.setTop (mkF m 0 #[.val (.int p1)] [])) _
    refine XS.iloadN X0.here hx rfl (hb hby d1_0) rfl ?_
    show Steps p.tables e below (s₁.setTop (mkF m 1 #[.val (.int p1)] [(.int p1)])) _
    refine XS.ifYes X0.here hx rfl (pc0 := 1) (pc' := 8) rfl (hb hby d1_1) rfl ((if0 _ _).trans (feq hc1).2) (by decide) (by decide) ?_
    show Steps p.tables e below (s₁.setTop (mkF m 8 #[.val (.int p1)] [])) _
    refine XS.iloadN X0.here hx rfl (hb hby d1_8) rfl ?_
    show Steps p.tables e below (s₁.setTop (mkF m 9 #[.val (.int p1)] [(.int p1)])) _
    refine XS.iconst X0.here hx rfl (hb hby d1_9) ?_
    show Steps p.tables e below (s₁.setTop (mkF m 10 #[.val (.int p1)] [(.int (1 : Int32)), (.int p1)])) _
    refine XS.icmpYes X0.here hx rfl (pc0 := 10) (pc' := 17) rfl (hb hby d1_10) rfl (feq hc10).2 (by decide) (by decide) ?_
    show Steps p.tables e below (s₁.setTop (mkF m 17 #[.val (.int p1)] [])) _
    refine XS.iloadN X0.here hx rfl (hb hby d1_17) rfl ?_
    show Steps p.tables e below (s₁.setTop (mkF m 18 #[.val (.int p1)] [(.int p1)])) _
    refine XS.iconst X0.here hx rfl (hb hby d1_18) ?_
    show Steps p.tables e below (s₁.setTop (mkF m 19 #[.val (.int p1)] [(.int (2 : Int32)), (.int p1)])) _
    refine XS.icmpNo X0.here hx rfl (hb hby d1_19) rfl (teq hc19).2 ?_
    show Steps p.tables e below (s₁.setTop (mkF m 22 #[.val (.int p1)] [])) _
    refine st3 _ ?_
    show Steps p.tables e below (T3.setTop (mkF m 25 #[.val (.int p1)] [(.ref w_UPDATE)])) _
    jvm_step X3.here [X3.here.top, hx, (hb hby d1_25), X3.method', Bd.returns, Value.isRef, FieldType.isReference]
    first | (intro acts; rw [hr _ acts rfl rfl rfl]) | rw [hr _ _ rfl rfl rfl]
    exact Steps.refl _
  · show Q1 Z p1 w_READ w_WRITE w_UPDATE w_CERTIFY h0 n0 _ T3.heap _
    rw [e3]
    exact ⟨by simp_all [modeF], N0, rfl⟩
set_option maxRecDepth 65536 in
set_option maxHeartbeats 40000000 in
theorem rm1_ttt (l : Launch) (Z : State) (a0 : Array Value) (hw : ∀ d ∈ tables_1, d.before a0 Z = true) (ws : List Jvm.Cond) (p1 : Int32) (w_READ : Addr) (w_WRITE : Addr) (w_UPDATE : Addr) (w_CERTIFY : Addr) (h0 : Heap) (n0 : Nat) (Z0 : n0 ≤ h0.size) (S_READ : Sta Z h0 "com/example/slackline/slackline/core/LockMode" "READ" "Lcom/example/slackline/slackline/core/LockMode;" (.ref w_READ)) (S_WRITE : Sta Z h0 "com/example/slackline/slackline/core/LockMode" "WRITE" "Lcom/example/slackline/slackline/core/LockMode;" (.ref w_WRITE)) (S_UPDATE : Sta Z h0 "com/example/slackline/slackline/core/LockMode" "UPDATE" "Lcom/example/slackline/slackline/core/LockMode;" (.ref w_UPDATE)) (S_CERTIFY : Sta Z h0 "com/example/slackline/slackline/core/LockMode" "CERTIFY" "Lcom/example/slackline/slackline/core/LockMode;" (.ref w_CERTIFY)) (hc1 : ¬ (p1 = (0 : Int32))) (hc10 : ¬ (p1 = (1 : Int32))) (hc19 : ¬ (p1 = (2 : Int32))) :
    MetFree l (⟨"com/example/slackline/slackline/core/LockModeUpgradedByPinLaw", "mode", "(I)Lcom/example/slackline/slackline/core/LockMode;"⟩ : MethodName) (head1 (Jvm.Cond.code (⟨"com/example/slackline/slackline/core/LockModeUpgradedByPinLaw", "mode", "(I)Lcom/example/slackline/slackline/core/LockMode;"⟩ : MethodName) method_2_code 1 (some (.object "com/example/slackline/slackline/core/LockMode")) :: ws) ({ frames := 0, cells := 0, slots := 0, locals := 0 } : Room)) (fun a U => a = #[(.int p1)] ∧ Z.Warmed39 U.vm ∧ U.heap = h0) (fun _ _ _ _ _ => True) (fun _ U o U' => ∃ v L, o = .returned v ∧ Q1 Z p1 w_READ w_WRITE w_UPDATE w_CERTIFY h0 n0 v U'.heap L ∧ FrameEnd U o U' L ({ frames := 0, cells := 0, slots := 0, locals := 0 } : Room).cells ({ frames := 0, cells := 0, slots := 0, locals := 0 } : Room).slots) := by
  refine MetFree.of_bodySF (plainFor_of_name pn_1) hisR ?_
  intro p e s m args below meth c s₁ Bd hml0 hP hK
  obtain ⟨rfl, hZ, hh⟩ := hP
  have hx := Bd.exec
  have hby := Bd.bytes
  have hml : c.maxLocals = 1 := hml0
  have hown : s.vm.findClass "com/example/slackline/slackline/core/LockModeUpgradedByPinLaw" = some m.cls := findClass_of_methodNamed Bd.named
  have hnm := (name_of_methodNamed Bd.named Bd.method).1
  have X0 : Stand p l e ({ frames := 0, cells := 0, slots := 0, locals := 0 } : Room) s m #[(.int p1)] below meth c s₁ [] 0 0 := Stand.of_body Bd
  have e0 : s₁.heap = h0 := by rw [← hh, Bd.state]; rfl
  have N0 := Fr.nil n0
  have pre0 : ∀ t, Steps p.tables e below (s₁.setTop (mkF m 0 #[.val (.int p1)] [])) t → Steps p.tables e below (s₁.setTop (entryFrame m #[(.int p1)] 1)) t := fun t k => castTop (ef_1 m p1) k
  -- 3. LAWS
  obtain ⟨T3, X3, e3, st3⟩ := getS2 X0 hx hZ hown (host := "") (Or.inl (hw _ (List.mem_of_getElem? (i := 8) rfl))) Via.refl e0 S_CERTIFY (g := (mkF m 26 #[.val (.int p1)] [])) rfl (hb hby d1_26)
  obtain ⟨fs, hr, hrun, hended, hW, hsame⟩ := X3.leave (v := some (.ref w_CERTIFY)) (fun h => by rw [Bd.returns] at h; cases h)
  refine ⟨_, _, pre0 _ ?_, hrun, hended, _, _, rfl, ?_, ⟨_, rfl⟩, hW, hsame.mono (by decide) (by decide)⟩
  -- 4. STEPS
  · show Steps p.tables e below (s₁.setTop (mkF m 0 #[.val (.int p1)] [])) _
    refine XS.iloadN X0.here hx rfl (hb hby d1_0) rfl ?_
    show Steps p.tables e below (s₁.setTop (mkF m 1 #[.val (.int p1)] [(.int p1)])) _
    refine XS.ifYes X0.here hx rfl (pc0 := 1) (pc' := 8) rfl (hb hby d1_1) rfl ((if0 _ _).trans (feq hc1).2) (by decide) (by decide) ?_
    show Steps p.tables e below (s₁.setTop (mkF m 8 #[.val (.int p1)] [])) _
    refine XS.iloadN X0.here hx rfl (hb hby d1_8) rfl ?_
    show Steps p.tables e below (s₁.setTop (mkF m 9 #[.val (.int p1)] [(.int p1)])) _
    refine XS.iconst X0.here hx rfl (hb hby d1_9) ?_
    show Steps p.tables e below (s₁.setTop (mkF m 10 #[.val (.int p1)] [(.int (1 : Int32)), (.int p1)])) _
    refine XS.icmpYes X0.here hx rfl (pc0 := 10) (pc' := 17) rfl (hb hby d1_10) rfl (feq hc10).2 (by decide) (by decide) ?_
    show Steps p.tables e below (s₁.setTop (mkF m 17 #[.val (.int p1)] [])) _
    refine XS.iloadN X0.here hx rfl (hb hby d1_17) rfl ?_
    show Steps p.tables e below (s₁.setTop (mkF m 18 #[.val (.int p1)] [(.int p1)])) _
    refine XS.iconst X0.here hx rfl (hb hby d1_18) ?_
    show Steps p.tables e below (s₁.setTop (mkF m 19 #[.val (.int p1)] [(.int (2 : Int32)), (.int p1)])) _
    refine XS.icmpYes X0.here hx rfl (pc0 := 19) (pc' := 26) rfl (hb hby d1_19) rfl (feq hc19).2 (by decide) (by decide) ?_
    show Steps p.tables e below (s₁.setTop (mkF m 26 #[.val (.int p1)] [])) _
    refine st3 _ ?_
    show Steps p.tables e below (T3.setTop (mkF m 29 #[.val (.int p1)] [(.ref w_CERTIFY)])) _
    jvm_step X3.here [X3.here.top, hx, (hb hby d1_29), X3.method', Bd.returns, Value.isRef, FieldType.isReference]
    first | (intro acts; rw [hr _ acts rfl rfl rfl]) | rw [hr _ _ rfl rfl rfl]
    exact Steps.refl _
  · show Q1 Z p1 w_READ w_WRITE w_UPDATE w_CERTIFY h0 n0 _ T3.heap _
    rw [e3]
    exact ⟨by simp_all [modeF], N0, rfl⟩
theorem rm1 (l : Launch) (Z : State) (a0 : Array Value) (hw : ∀ d ∈ tables_1, d.before a0 Z = true) (ws : List Jvm.Cond) (p1 : Int32) (w_READ : Addr) (w_WRITE : Addr) (w_UPDATE : Addr) (w_CERTIFY : Addr) (h0 : Heap) (n0 : Nat) (Z0 : n0 ≤ h0.size) (S_READ : Sta Z h0 "com/example/slackline/slackline/core/LockMode" "READ" "Lcom/example/slackline/slackline/core/LockMode;" (.ref w_READ)) (S_WRITE : Sta Z h0 "com/example/slackline/slackline/core/LockMode" "WRITE" "Lcom/example/slackline/slackline/core/LockMode;" (.ref w_WRITE)) (S_UPDATE : Sta Z h0 "com/example/slackline/slackline/core/LockMode" "UPDATE" "Lcom/example/slackline/slackline/core/LockMode;" (.ref w_UPDATE)) (S_CERTIFY : Sta Z h0 "com/example/slackline/slackline/core/LockMode" "CERTIFY" "Lcom/example/slackline/slackline/core/LockMode;" (.ref w_CERTIFY)) :
    MetFree l (⟨"com/example/slackline/slackline/core/LockModeUpgradedByPinLaw", "mode", "(I)Lcom/example/slackline/slackline/core/LockMode;"⟩ : MethodName) (head1 (Jvm.Cond.code (⟨"com/example/slackline/slackline/core/LockModeUpgradedByPinLaw", "mode", "(I)Lcom/example/slackline/slackline/core/LockMode;"⟩ : MethodName) method_2_code 1 (some (.object "com/example/slackline/slackline/core/LockMode")) :: ws) ({ frames := 0, cells := 0, slots := 0, locals := 0 } : Room)) (fun a U => a = #[(.int p1)] ∧ Z.Warmed39 U.vm ∧ U.heap = h0) (fun _ _ _ _ _ => True) (fun _ U o U' => ∃ v L, o = .returned v ∧ Q1 Z p1 w_READ w_WRITE w_UPDATE w_CERTIFY h0 n0 v U'.heap L ∧ FrameEnd U o U' L ({ frames := 0, cells := 0, slots := 0, locals := 0 } : Room).cells ({ frames := 0, cells := 0, slots := 0, locals := 0 } : Room).slots) := by
  by_cases hc1 : p1 = (0 : Int32)
  · exact rm1_f l Z a0 hw ws p1 w_READ w_WRITE w_UPDATE w_CERTIFY h0 n0 Z0 S_READ S_WRITE S_UPDATE S_CERTIFY hc1
  · by_cases hc10 : p1 = (1 : Int32)
    · exact rm1_tf l Z a0 hw ws p1 w_READ w_WRITE w_UPDATE w_CERTIFY h0 n0 Z0 S_READ S_WRITE S_UPDATE S_CERTIFY hc1 hc10
    · by_cases hc19 : p1 = (2 : Int32)
      · exact rm1_ttf l Z a0 hw ws p1 w_READ w_WRITE w_UPDATE w_CERTIFY h0 n0 Z0 S_READ S_WRITE S_UPDATE S_CERTIFY hc1 hc10 hc19
      · exact rm1_ttt l Z a0 hw ws p1 w_READ w_WRITE w_UPDATE w_CERTIFY h0 n0 Z0 S_READ S_WRITE S_UPDATE S_CERTIFY hc1 hc10 hc19
theorem d2_0 : decode method_3_code 0 = .ok (.aload_n 0, 1) := by decide +kernel
theorem d2_1 : decode method_3_code 1 = .ok (.getstatic 7, 3) := by decide +kernel
theorem d2_4 : decode method_3_code 4 = .ok (.if_acmp .ne 5, 3) := by decide +kernel
theorem d2_7 : decode method_3_code 7 = .ok (.iconst 1, 1) := by decide +kernel
theorem d2_8 : decode method_3_code 8 = .ok (.ireturn, 1) := by decide +kernel
theorem pn_2 : plainName "com/example/slackline/slackline/core/LockModeUpgradedByPinLaw" = true := by first | (simp [plainName, overriddenIn]; done) | decide +kernel
theorem ef_2 (m : MethodId) (x0 : Addr) : entryFrame m #[(.ref x0)] 1 = mkF m 0 #[.val (.ref x0)] [] := by first | (simp [entryFrame, mkF, argsToLocals, Value.category]; done) | rfl
theorem d2_9 : decode method_3_code 9 = .ok (.aload_n 0, 1) := by decide +kernel
theorem d2_10 : decode method_3_code 10 = .ok (.getstatic 16, 3) := by decide +kernel
theorem d2_13 : decode method_3_code 13 = .ok (.if_acmp .ne 5, 3) := by decide +kernel
theorem d2_16 : decode method_3_code 16 = .ok (.iconst 2, 1) := by decide +kernel
theorem d2_17 : decode method_3_code 17 = .ok (.ireturn, 1) := by decide +kernel
theorem d2_18 : decode method_3_code 18 = .ok (.aload_n 0, 1) := by decide +kernel
theorem d2_19 : decode method_3_code 19 = .ok (.getstatic 13, 3) := by decide +kernel
theorem d2_22 : decode method_3_code 22 = .ok (.if_acmp .ne 5, 3) := by decide +kernel
theorem d2_25 : decode method_3_code 25 = .ok (.iconst 3, 1) := by decide +kernel
theorem d2_26 : decode method_3_code 26 = .ok (.ireturn, 1) := by decide +kernel
theorem d2_27 : decode method_3_code 27 = .ok (.iconst 0, 1) := by decide +kernel
theorem d2_28 : decode method_3_code 28 = .ok (.ireturn, 1) := by decide +kernel
def Q2 (Z : State) (a1 : Addr) (w_READ : Addr) (w_UPDATE : Addr) (w_WRITE : Addr) (h0 : Heap) (n0 : Nat) (v : Option Value) (h : Heap) (L : List Loc) : Prop := v = some (.int (rankF a1 w_READ w_UPDATE w_WRITE)) ∧ Fr n0 L ∧ h = h0
set_option maxRecDepth 65536 in
set_option maxHeartbeats 40000000 in
theorem rm2_f (l : Launch) (Z : State) (a0 : Array Value) (hw : ∀ d ∈ tables_1, d.before a0 Z = true) (ws : List Jvm.Cond) (a1 : Addr) (w_READ : Addr) (w_UPDATE : Addr) (w_WRITE : Addr) (h0 : Heap) (n0 : Nat) (Z0 : n0 ≤ h0.size) (S_READ : Sta Z h0 "com/example/slackline/slackline/core/LockMode" "READ" "Lcom/example/slackline/slackline/core/LockMode;" (.ref w_READ)) (S_UPDATE : Sta Z h0 "com/example/slackline/slackline/core/LockMode" "UPDATE" "Lcom/example/slackline/slackline/core/LockMode;" (.ref w_UPDATE)) (S_WRITE : Sta Z h0 "com/example/slackline/slackline/core/LockMode" "WRITE" "Lcom/example/slackline/slackline/core/LockMode;" (.ref w_WRITE)) (ha4 : a1 = w_READ) :
    MetFree l (⟨"com/example/slackline/slackline/core/LockModeUpgradedByPinLaw", "rank", "(Lcom/example/slackline/slackline/core/LockMode;)I"⟩ : MethodName) (head1 (Jvm.Cond.code (⟨"com/example/slackline/slackline/core/LockModeUpgradedByPinLaw", "rank", "(Lcom/example/slackline/slackline/core/LockMode;)I"⟩ : MethodName) method_3_code 1 (some .int) :: ws) ({ frames := 0, cells := 0, slots := 0, locals := 0 } : Room)) (fun a U => a = #[(.ref a1)] ∧ Z.Warmed39 U.vm ∧ U.heap = h0) (fun _ _ _ _ _ => True) (fun _ U o U' => ∃ v L, o = .returned v ∧ Q2 Z a1 w_READ w_UPDATE w_WRITE h0 n0 v U'.heap L ∧ FrameEnd U o U' L ({ frames := 0, cells := 0, slots := 0, locals := 0 } : Room).cells ({ frames := 0, cells := 0, slots := 0, locals := 0 } : Room).slots) := by
  refine MetFree.of_bodySF (plainFor_of_name pn_2) hisR ?_
  intro p e s m args below meth c s₁ Bd hml0 hP hK
  obtain ⟨rfl, hZ, hh⟩ := hP
  have hx := Bd.exec
  have hby := Bd.bytes
  have hml : c.maxLocals = 1 := hml0
  have hown : s.vm.findClass "com/example/slackline/slackline/core/LockModeUpgradedByPinLaw" = some m.cls := findClass_of_methodNamed Bd.named
  have hnm := (name_of_methodNamed Bd.named Bd.method).1
  have X0 : Stand p l e ({ frames := 0, cells := 0, slots := 0, locals := 0 } : Room) s m #[(.ref a1)] below meth c s₁ [] 0 0 := Stand.of_body Bd
  have e0 : s₁.heap = h0 := by rw [← hh, Bd.state]; rfl
  have N0 := Fr.nil n0
  have pre0 : ∀ t, Steps p.tables e below (s₁.setTop (mkF m 0 #[.val (.ref a1)] [])) t → Steps p.tables e below (s₁.setTop (entryFrame m #[(.ref a1)] 1)) t := fun t k => castTop (ef_2 m a1) k
  -- 3. LAWS
  obtain ⟨T3, X3, e3, st3⟩ := getS2 X0 hx hZ hown (host := "") (Or.inl (hw _ (List.mem_of_getElem? (i := 5) rfl))) Via.refl e0 S_READ (g := (mkF m 1 #[.val (.ref a1)] [(.ref a1)])) rfl (hb hby d2_1)
  obtain ⟨fs, hr, hrun, hended, hW, hsame⟩ := X3.leave (v := some (.int (1 : Int32))) (fun h => by rw [Bd.returns] at h; cases h)
  refine ⟨_, _, pre0 _ ?_, hrun, hended, _, _, rfl, ?_, ⟨_, rfl⟩, hW, hsame.mono (by decide) (by decide)⟩
  -- 4. STEPS
  · show Steps p.tables e below (s₁.setTop (mkF m 0 #[.val (.ref a1)] [])) _
    refine XS.aloadN X0.here hx rfl (hb hby d2_0) rfl rfl ?_
    show Steps p.tables e below (s₁.setTop (mkF m 1 #[.val (.ref a1)] [(.ref a1)])) _
    refine st3 _ ?_
    show Steps p.tables e below (T3.setTop (mkF m 4 #[.val (.ref a1)] [(.ref w_READ), (.ref a1)])) _
    refine Jvm.RoadKit.acmp (g := (mkF m 4 #[.val (.ref a1)] [(.ref w_READ), (.ref a1)])) X3 hx rfl rfl rfl (pc0 := 4) (pc' := 7) (same := true) rfl (hb hby d2_4) rfl (decide_eq_true (congrArg Value.ref ha4)) (by decide) (by decide) ?_
    show Steps p.tables e below (T3.setTop (mkF m 7 #[.val (.ref a1)] [])) _
    refine XS.iconst X3.here hx rfl (hb hby d2_7) ?_
    show Steps p.tables e below (T3.setTop (mkF m 8 #[.val (.ref a1)] [(.int (1 : Int32))])) _
    exact retI X3 hx Bd.returns (hb hby d2_8) hr      -- retI stands in the head ('lawwalk <made dir>' prints it)
  · show Q2 Z a1 w_READ w_UPDATE w_WRITE h0 n0 _ T3.heap _
    rw [e3]
    exact ⟨by simp_all [rankF], N0, rfl⟩
set_option maxRecDepth 65536 in
set_option maxHeartbeats 40000000 in
theorem rm2_tf (l : Launch) (Z : State) (a0 : Array Value) (hw : ∀ d ∈ tables_1, d.before a0 Z = true) (ws : List Jvm.Cond) (a1 : Addr) (w_READ : Addr) (w_UPDATE : Addr) (w_WRITE : Addr) (h0 : Heap) (n0 : Nat) (Z0 : n0 ≤ h0.size) (S_READ : Sta Z h0 "com/example/slackline/slackline/core/LockMode" "READ" "Lcom/example/slackline/slackline/core/LockMode;" (.ref w_READ)) (S_UPDATE : Sta Z h0 "com/example/slackline/slackline/core/LockMode" "UPDATE" "Lcom/example/slackline/slackline/core/LockMode;" (.ref w_UPDATE)) (S_WRITE : Sta Z h0 "com/example/slackline/slackline/core/LockMode" "WRITE" "Lcom/example/slackline/slackline/core/LockMode;" (.ref w_WRITE)) (ha4 : ¬ (a1 = w_READ)) (ha13 : a1 = w_UPDATE) :
    MetFree l (⟨"com/example/slackline/slackline/core/LockModeUpgradedByPinLaw", "rank", "(Lcom/example/slackline/slackline/core/LockMode;)I"⟩ : MethodName) (head1 (Jvm.Cond.code (⟨"com/example/slackline/slackline/core/LockModeUpgradedByPinLaw", "rank", "(Lcom/example/slackline/slackline/core/LockMode;)I"⟩ : MethodName) method_3_code 1 (some .int) :: ws) ({ frames := 0, cells := 0, slots := 0, locals := 0 } : Room)) (fun a U => a = #[(.ref a1)] ∧ Z.Warmed39 U.vm ∧ U.heap = h0) (fun _ _ _ _ _ => True) (fun _ U o U' => ∃ v L, o = .returned v ∧ Q2 Z a1 w_READ w_UPDATE w_WRITE h0 n0 v U'.heap L ∧ FrameEnd U o U' L ({ frames := 0, cells := 0, slots := 0, locals := 0 } : Room).cells ({ frames := 0, cells := 0, slots := 0, locals := 0 } : Room).slots) := by
  refine MetFree.of_bodySF (plainFor_of_name pn_2) hisR ?_
  intro p e s m args below meth c s₁ Bd hml0 hP hK
  obtain ⟨rfl, hZ, hh⟩ := hP
  have hx := Bd.exec
  have hby := Bd.bytes
  have hml : c.maxLocals = 1 := hml0
  have hown : s.vm.findClass "com/example/slackline/slackline/core/LockModeUpgradedByPinLaw" = some m.cls := findClass_of_methodNamed Bd.named
  have hnm := (name_of_methodNamed Bd.named Bd.method).1
  have X0 : Stand p l e ({ frames := 0, cells := 0, slots := 0, locals := 0 } : Room) s m #[(.ref a1)] below meth c s₁ [] 0 0 := Stand.of_body Bd
  have e0 : s₁.heap = h0 := by rw [← hh, Bd.state]; rfl
  have N0 := Fr.nil n0
  have pre0 : ∀ t, Steps p.tables e below (s₁.setTop (mkF m 0 #[.val (.ref a1)] [])) t → Steps p.tables e below (s₁.setTop (entryFrame m #[(.ref a1)] 1)) t := fun t k => castTop (ef_2 m a1) k
  -- 3. LAWS
  obtain ⟨T3, X3, e3, st3⟩ := getS2 X0 hx hZ hown (host := "") (Or.inl (hw _ (List.mem_of_getElem? (i := 5) rfl))) Via.refl e0 S_READ (g := (mkF m 1 #[.val (.ref a1)] [(.ref a1)])) rfl (hb hby d2_1)
  obtain ⟨T5, X5, e5, st5⟩ := getS2 X3 hx hZ hown (host := "") (Or.inl (hw _ (List.mem_of_getElem? (i := 13) rfl))) Via.refl e3 S_UPDATE (g := (mkF m 10 #[.val (.ref a1)] [(.ref a1)])) rfl (hb hby d2_10)
  obtain ⟨fs, hr, hrun, hended, hW, hsame⟩ := X5.leave (v := some (.int (2 : Int32))) (fun h => by rw [Bd.returns] at h; cases h)
  refine ⟨_, _, pre0 _ ?_, hrun, hended, _, _, rfl, ?_, ⟨_, rfl⟩, hW, hsame.mono (by decide) (by decide)⟩
  -- 4. STEPS
  · show Steps p.tables e below (s₁.setTop (mkF m 0 #[.val (.ref a1)] [])) _
    refine XS.aloadN X0.here hx rfl (hb hby d2_0) rfl rfl ?_
    show Steps p.tables e below (s₁.setTop (mkF m 1 #[.val (.ref a1)] [(.ref a1)])) _
    refine st3 _ ?_
    show Steps p.tables e below (T3.setTop (mkF m 4 #[.val (.ref a1)] [(.ref w_READ), (.ref a1)])) _
    refine Jvm.RoadKit.acmp (g := (mkF m 4 #[.val (.ref a1)] [(.ref w_READ), (.ref a1)])) X3 hx rfl rfl rfl (pc0 := 4) (pc' := 9) (same := false) rfl (hb hby d2_4) rfl (decide_eq_false fun q => ha4 (Value.ref.inj q)) (by decide) (by decide) ?_
    show Steps p.tables e below (T3.setTop (mkF m 9 #[.val (.ref a1)] [])) _
    refine XS.aloadN X3.here hx rfl (hb hby d2_9) rfl rfl ?_
    show Steps p.tables e below (T3.setTop (mkF m 10 #[.val (.ref a1)] [(.ref a1)])) _
    refine st5 _ ?_
    show Steps p.tables e below (T5.setTop (mkF m 13 #[.val (.ref a1)] [(.ref w_UPDATE), (.ref a1)])) _
    refine Jvm.RoadKit.acmp (g := (mkF m 13 #[.val (.ref a1)] [(.ref w_UPDATE), (.ref a1)])) X5 hx rfl rfl rfl (pc0 := 13) (pc' := 16) (same := true) rfl (hb hby d2_13) rfl (decide_eq_true (congrArg Value.ref ha13)) (by decide) (by decide) ?_
    show Steps p.tables e below (T5.setTop (mkF m 16 #[.val (.ref a1)] [])) _
    refine XS.iconst X5.here hx rfl (hb hby d2_16) ?_
    show Steps p.tables e below (T5.setTop (mkF m 17 #[.val (.ref a1)] [(.int (2 : Int32))])) _
    exact retI X5 hx Bd.returns (hb hby d2_17) hr      -- retI stands in the head ('lawwalk <made dir>' prints it)
  · show Q2 Z a1 w_READ w_UPDATE w_WRITE h0 n0 _ T5.heap _
    rw [e5]
    exact ⟨by simp_all [rankF], N0, rfl⟩
set_option maxRecDepth 65536 in
set_option maxHeartbeats 40000000 in
theorem rm2_ttf (l : Launch) (Z : State) (a0 : Array Value) (hw : ∀ d ∈ tables_1, d.before a0 Z = true) (ws : List Jvm.Cond) (a1 : Addr) (w_READ : Addr) (w_UPDATE : Addr) (w_WRITE : Addr) (h0 : Heap) (n0 : Nat) (Z0 : n0 ≤ h0.size) (S_READ : Sta Z h0 "com/example/slackline/slackline/core/LockMode" "READ" "Lcom/example/slackline/slackline/core/LockMode;" (.ref w_READ)) (S_UPDATE : Sta Z h0 "com/example/slackline/slackline/core/LockMode" "UPDATE" "Lcom/example/slackline/slackline/core/LockMode;" (.ref w_UPDATE)) (S_WRITE : Sta Z h0 "com/example/slackline/slackline/core/LockMode" "WRITE" "Lcom/example/slackline/slackline/core/LockMode;" (.ref w_WRITE)) (ha4 : ¬ (a1 = w_READ)) (ha13 : ¬ (a1 = w_UPDATE)) (ha22 : a1 = w_WRITE) :
    MetFree l (⟨"com/example/slackline/slackline/core/LockModeUpgradedByPinLaw", "rank", "(Lcom/example/slackline/slackline/core/LockMode;)I"⟩ : MethodName) (head1 (Jvm.Cond.code (⟨"com/example/slackline/slackline/core/LockModeUpgradedByPinLaw", "rank", "(Lcom/example/slackline/slackline/core/LockMode;)I"⟩ : MethodName) method_3_code 1 (some .int) :: ws) ({ frames := 0, cells := 0, slots := 0, locals := 0 } : Room)) (fun a U => a = #[(.ref a1)] ∧ Z.Warmed39 U.vm ∧ U.heap = h0) (fun _ _ _ _ _ => True) (fun _ U o U' => ∃ v L, o = .returned v ∧ Q2 Z a1 w_READ w_UPDATE w_WRITE h0 n0 v U'.heap L ∧ FrameEnd U o U' L ({ frames := 0, cells := 0, slots := 0, locals := 0 } : Room).cells ({ frames := 0, cells := 0, slots := 0, locals := 0 } : Room).slots) := by
  refine MetFree.of_bodySF (plainFor_of_name pn_2) hisR ?_
  intro p e s m args below meth c s₁ Bd hml0 hP hK
  obtain ⟨rfl, hZ, hh⟩ := hP
  have hx := Bd.exec
  have hby := Bd.bytes
  have hml : c.maxLocals = 1 := hml0
  have hown : s.vm.findClass "com/example/slackline/slackline/core/LockModeUpgradedByPinLaw" = some m.cls := findClass_of_methodNamed Bd.named
  have hnm := (name_of_methodNamed Bd.named Bd.method).1
  have X0 : Stand p l e ({ frames := 0, cells := 0, slots := 0, locals := 0 } : Room) s m #[(.ref a1)] below meth c s₁ [] 0 0 := Stand.of_body Bd
  have e0 : s₁.heap = h0 := by rw [← hh, Bd.state]; rfl
  have N0 := Fr.nil n0
  have pre0 : ∀ t, Steps p.tables e below (s₁.setTop (mkF m 0 #[.val (.ref a1)] [])) t → Steps p.tables e below (s₁.setTop (entryFrame m #[(.ref a1)] 1)) t := fun t k => castTop (ef_2 m a1) k
  -- 3. LAWS
  obtain ⟨T3, X3, e3, st3⟩ := getS2 X0 hx hZ hown (host := "") (Or.inl (hw _ (List.mem_of_getElem? (i := 5) rfl))) Via.refl e0 S_READ (g := (mkF m 1 #[.val (.ref a1)] [(.ref a1)])) rfl (hb hby d2_1)
  obtain ⟨T5, X5, e5, st5⟩ := getS2 X3 hx hZ hown (host := "") (Or.inl (hw _ (List.mem_of_getElem? (i := 13) rfl))) Via.refl e3 S_UPDATE (g := (mkF m 10 #[.val (.ref a1)] [(.ref a1)])) rfl (hb hby d2_10)
  obtain ⟨T7, X7, e7, st7⟩ := getS2 X5 hx hZ hown (host := "") (Or.inl (hw _ (List.mem_of_getElem? (i := 15) rfl))) Via.refl e5 S_WRITE (g := (mkF m 19 #[.val (.ref a1)] [(.ref a1)])) rfl (hb hby d2_19)
  obtain ⟨fs, hr, hrun, hended, hW, hsame⟩ := X7.leave (v := some (.int (3 : Int32))) (fun h => by rw [Bd.returns] at h; cases h)
  refine ⟨_, _, pre0 _ ?_, hrun, hended, _, _, rfl, ?_, ⟨_, rfl⟩, hW, hsame.mono (by decide) (by decide)⟩
  -- 4. STEPS
  · show Steps p.tables e below (s₁.setTop (mkF m 0 #[.val (.ref a1)] [])) _
    refine XS.aloadN X0.here hx rfl (hb hby d2_0) rfl rfl ?_
    show Steps p.tables e below (s₁.setTop (mkF m 1 #[.val (.ref a1)] [(.ref a1)])) _
    refine st3 _ ?_
    show Steps p.tables e below (T3.setTop (mkF m 4 #[.val (.ref a1)] [(.ref w_READ), (.ref a1)])) _
    refine Jvm.RoadKit.acmp (g := (mkF m 4 #[.val (.ref a1)] [(.ref w_READ), (.ref a1)])) X3 hx rfl rfl rfl (pc0 := 4) (pc' := 9) (same := false) rfl (hb hby d2_4) rfl (decide_eq_false fun q => ha4 (Value.ref.inj q)) (by decide) (by decide) ?_
    show Steps p.tables e below (T3.setTop (mkF m 9 #[.val (.ref a1)] [])) _
    refine XS.aloadN X3.here hx rfl (hb hby d2_9) rfl rfl ?_
    show Steps p.tables e below (T3.setTop (mkF m 10 #[.val (.ref a1)] [(.ref a1)])) _
    refine st5 _ ?_
    show Steps p.tables e below (T5.setTop (mkF m 13 #[.val (.ref a1)] [(.ref w_UPDATE), (.ref a1)])) _
    refine Jvm.RoadKit.acmp (g := (mkF m 13 #[.val (.ref a1)] [(.ref w_UPDATE), (.ref a1)])) X5 hx rfl rfl rfl (pc0 := 13) (pc' := 18) (same := false) rfl (hb hby d2_13) rfl (decide_eq_false fun q => ha13 (Value.ref.inj q)) (by decide) (by decide) ?_
    show Steps p.tables e below (T5.setTop (mkF m 18 #[.val (.ref a1)] [])) _
    refine XS.aloadN X5.here hx rfl (hb hby d2_18) rfl rfl ?_
    show Steps p.tables e below (T5.setTop (mkF m 19 #[.val (.ref a1)] [(.ref a1)])) _
    refine st7 _ ?_
    show Steps p.tables e below (T7.setTop (mkF m 22 #[.val (.ref a1)] [(.ref w_WRITE), (.ref a1)])) _
    refine Jvm.RoadKit.acmp (g := (mkF m 22 #[.val (.ref a1)] [(.ref w_WRITE), (.ref a1)])) X7 hx rfl rfl rfl (pc0 := 22) (pc' := 25) (same := true) rfl (hb hby d2_22) rfl (decide_eq_true (congrArg Value.ref ha22)) (by decide) (by decide) ?_
    show Steps p.tables e below (T7.setTop (mkF m 25 #[.val (.ref a1)] [])) _
    refine XS.iconst X7.here hx rfl (hb hby d2_25) ?_
    show Steps p.tables e below (T7.setTop (mkF m 26 #[.val (.ref a1)] [(.int (3 : Int32))])) _
    exact retI X7 hx Bd.returns (hb hby d2_26) hr      -- retI stands in the head ('lawwalk <made dir>' prints it)
  · show Q2 Z a1 w_READ w_UPDATE w_WRITE h0 n0 _ T7.heap _
    rw [e7]
    exact ⟨by simp_all [rankF], N0, rfl⟩
set_option maxRecDepth 65536 in
set_option maxHeartbeats 40000000 in
theorem rm2_ttt (l : Launch) (Z : State) (a0 : Array Value) (hw : ∀ d ∈ tables_1, d.before a0 Z = true) (ws : List Jvm.Cond) (a1 : Addr) (w_READ : Addr) (w_UPDATE : Addr) (w_WRITE : Addr) (h0 : Heap) (n0 : Nat) (Z0 : n0 ≤ h0.size) (S_READ : Sta Z h0 "com/example/slackline/slackline/core/LockMode" "READ" "Lcom/example/slackline/slackline/core/LockMode;" (.ref w_READ)) (S_UPDATE : Sta Z h0 "com/example/slackline/slackline/core/LockMode" "UPDATE" "Lcom/example/slackline/slackline/core/LockMode;" (.ref w_UPDATE)) (S_WRITE : Sta Z h0 "com/example/slackline/slackline/core/LockMode" "WRITE" "Lcom/example/slackline/slackline/core/LockMode;" (.ref w_WRITE)) (ha4 : ¬ (a1 = w_READ)) (ha13 : ¬ (a1 = w_UPDATE)) (ha22 : ¬ (a1 = w_WRITE)) :
    MetFree l (⟨"com/example/slackline/slackline/core/LockModeUpgradedByPinLaw", "rank", "(Lcom/example/slackline/slackline/core/LockMode;)I"⟩ : MethodName) (head1 (Jvm.Cond.code (⟨"com/example/slackline/slackline/core/LockModeUpgradedByPinLaw", "rank", "(Lcom/example/slackline/slackline/core/LockMode;)I"⟩ : MethodName) method_3_code 1 (some .int) :: ws) ({ frames := 0, cells := 0, slots := 0, locals := 0 } : Room)) (fun a U => a = #[(.ref a1)] ∧ Z.Warmed39 U.vm ∧ U.heap = h0) (fun _ _ _ _ _ => True) (fun _ U o U' => ∃ v L, o = .returned v ∧ Q2 Z a1 w_READ w_UPDATE w_WRITE h0 n0 v U'.heap L ∧ FrameEnd U o U' L ({ frames := 0, cells := 0, slots := 0, locals := 0 } : Room).cells ({ frames := 0, cells := 0, slots := 0, locals := 0 } : Room).slots) := by
  refine MetFree.of_bodySF (plainFor_of_name pn_2) hisR ?_
  intro p e s m args below meth c s₁ Bd hml0 hP hK
  obtain ⟨rfl, hZ, hh⟩ := hP
  have hx := Bd.exec
  have hby := Bd.bytes
  have hml : c.maxLocals = 1 := hml0
  have hown : s.vm.findClass "com/example/slackline/slackline/core/LockModeUpgradedByPinLaw" = some m.cls := findClass_of_methodNamed Bd.named
  have hnm := (name_of_methodNamed Bd.named Bd.method).1
  have X0 : Stand p l e ({ frames := 0, cells := 0, slots := 0, locals := 0 } : Room) s m #[(.ref a1)] below meth c s₁ [] 0 0 := Stand.of_body Bd
  have e0 : s₁.heap = h0 := by rw [← hh, Bd.state]; rfl
  have N0 := Fr.nil n0
  have pre0 : ∀ t, Steps p.tables e below (s₁.setTop (mkF m 0 #[.val (.ref a1)] [])) t → Steps p.tables e below (s₁.setTop (entryFrame m #[(.ref a1)] 1)) t := fun t k => castTop (ef_2 m a1) k
  -- 3. LAWS
  obtain ⟨T3, X3, e3, st3⟩ := getS2 X0 hx hZ hown (host := "") (Or.inl (hw _ (List.mem_of_getElem? (i := 5) rfl))) Via.refl e0 S_READ (g := (mkF m 1 #[.val (.ref a1)] [(.ref a1)])) rfl (hb hby d2_1)
  obtain ⟨T5, X5, e5, st5⟩ := getS2 X3 hx hZ hown (host := "") (Or.inl (hw _ (List.mem_of_getElem? (i := 13) rfl))) Via.refl e3 S_UPDATE (g := (mkF m 10 #[.val (.ref a1)] [(.ref a1)])) rfl (hb hby d2_10)
  obtain ⟨T7, X7, e7, st7⟩ := getS2 X5 hx hZ hown (host := "") (Or.inl (hw _ (List.mem_of_getElem? (i := 15) rfl))) Via.refl e5 S_WRITE (g := (mkF m 19 #[.val (.ref a1)] [(.ref a1)])) rfl (hb hby d2_19)
  obtain ⟨fs, hr, hrun, hended, hW, hsame⟩ := X7.leave (v := some (.int (0 : Int32))) (fun h => by rw [Bd.returns] at h; cases h)
  refine ⟨_, _, pre0 _ ?_, hrun, hended, _, _, rfl, ?_, ⟨_, rfl⟩, hW, hsame.mono (by decide) (by decide)⟩
  -- 4. STEPS
  · show Steps p.tables e below (s₁.setTop (mkF m 0 #[.val (.ref a1)] [])) _
    refine XS.aloadN X0.here hx rfl (hb hby d2_0) rfl rfl ?_
    show Steps p.tables e below (s₁.setTop (mkF m 1 #[.val (.ref a1)] [(.ref a1)])) _
    refine st3 _ ?_
    show Steps p.tables e below (T3.setTop (mkF m 4 #[.val (.ref a1)] [(.ref w_READ), (.ref a1)])) _
    refine Jvm.RoadKit.acmp (g := (mkF m 4 #[.val (.ref a1)] [(.ref w_READ), (.ref a1)])) X3 hx rfl rfl rfl (pc0 := 4) (pc' := 9) (same := false) rfl (hb hby d2_4) rfl (decide_eq_false fun q => ha4 (Value.ref.inj q)) (by decide) (by decide) ?_
    show Steps p.tables e below (T3.setTop (mkF m 9 #[.val (.ref a1)] [])) _
    refine XS.aloadN X3.here hx rfl (hb hby d2_9) rfl rfl ?_
    show Steps p.tables e below (T3.setTop (mkF m 10 #[.val (.ref a1)] [(.ref a1)])) _
    refine st5 _ ?_
    show Steps p.tables e below (T5.setTop (mkF m 13 #[.val (.ref a1)] [(.ref w_UPDATE), (.ref a1)])) _
    refine Jvm.RoadKit.acmp (g := (mkF m 13 #[.val (.ref a1)] [(.ref w_UPDATE), (.ref a1)])) X5 hx rfl rfl rfl (pc0 := 13) (pc' := 18) (same := false) rfl (hb hby d2_13) rfl (decide_eq_false fun q => ha13 (Value.ref.inj q)) (by decide) (by decide) ?_
    show Steps p.tables e below (T5.setTop (mkF m 18 #[.val (.ref a1)] [])) _
    refine XS.aloadN X5.here hx rfl (hb hby d2_18) rfl rfl ?_
    show Steps p.tables e below (T5.setTop (mkF m 19 #[.val (.ref a1)] [(.ref a1)])) _
    refine st7 _ ?_
    show Steps p.tables e below (T7.setTop (mkF m 22 #[.val (.ref a1)] [(.ref w_WRITE), (.ref a1)])) _
    refine Jvm.RoadKit.acmp (g := (mkF m 22 #[.val (.ref a1)] [(.ref w_WRITE), (.ref a1)])) X7 hx rfl rfl rfl (pc0 := 22) (pc' := 27) (same := false) rfl (hb hby d2_22) rfl (decide_eq_false fun q => ha22 (Value.ref.inj q)) (by decide) (by decide) ?_
    show Steps p.tables e below (T7.setTop (mkF m 27 #[.val (.ref a1)] [])) _
    refine XS.iconst X7.here hx rfl (hb hby d2_27) ?_
    show Steps p.tables e below (T7.setTop (mkF m 28 #[.val (.ref a1)] [(.int (0 : Int32))])) _
    exact retI X7 hx Bd.returns (hb hby d2_28) hr      -- retI stands in the head ('lawwalk <made dir>' prints it)
  · show Q2 Z a1 w_READ w_UPDATE w_WRITE h0 n0 _ T7.heap _
    rw [e7]
    exact ⟨by simp_all [rankF], N0, rfl⟩
theorem rm2 (l : Launch) (Z : State) (a0 : Array Value) (hw : ∀ d ∈ tables_1, d.before a0 Z = true) (ws : List Jvm.Cond) (a1 : Addr) (w_READ : Addr) (w_UPDATE : Addr) (w_WRITE : Addr) (h0 : Heap) (n0 : Nat) (Z0 : n0 ≤ h0.size) (S_READ : Sta Z h0 "com/example/slackline/slackline/core/LockMode" "READ" "Lcom/example/slackline/slackline/core/LockMode;" (.ref w_READ)) (S_UPDATE : Sta Z h0 "com/example/slackline/slackline/core/LockMode" "UPDATE" "Lcom/example/slackline/slackline/core/LockMode;" (.ref w_UPDATE)) (S_WRITE : Sta Z h0 "com/example/slackline/slackline/core/LockMode" "WRITE" "Lcom/example/slackline/slackline/core/LockMode;" (.ref w_WRITE)) :
    MetFree l (⟨"com/example/slackline/slackline/core/LockModeUpgradedByPinLaw", "rank", "(Lcom/example/slackline/slackline/core/LockMode;)I"⟩ : MethodName) (head1 (Jvm.Cond.code (⟨"com/example/slackline/slackline/core/LockModeUpgradedByPinLaw", "rank", "(Lcom/example/slackline/slackline/core/LockMode;)I"⟩ : MethodName) method_3_code 1 (some .int) :: ws) ({ frames := 0, cells := 0, slots := 0, locals := 0 } : Room)) (fun a U => a = #[(.ref a1)] ∧ Z.Warmed39 U.vm ∧ U.heap = h0) (fun _ _ _ _ _ => True) (fun _ U o U' => ∃ v L, o = .returned v ∧ Q2 Z a1 w_READ w_UPDATE w_WRITE h0 n0 v U'.heap L ∧ FrameEnd U o U' L ({ frames := 0, cells := 0, slots := 0, locals := 0 } : Room).cells ({ frames := 0, cells := 0, slots := 0, locals := 0 } : Room).slots) := by
  by_cases ha4 : a1 = w_READ
  · exact rm2_f l Z a0 hw ws a1 w_READ w_UPDATE w_WRITE h0 n0 Z0 S_READ S_UPDATE S_WRITE ha4
  · by_cases ha13 : a1 = w_UPDATE
    · exact rm2_tf l Z a0 hw ws a1 w_READ w_UPDATE w_WRITE h0 n0 Z0 S_READ S_UPDATE S_WRITE ha4 ha13
    · by_cases ha22 : a1 = w_WRITE
      · exact rm2_ttf l Z a0 hw ws a1 w_READ w_UPDATE w_WRITE h0 n0 Z0 S_READ S_UPDATE S_WRITE ha4 ha13 ha22
      · exact rm2_ttt l Z a0 hw ws a1 w_READ w_UPDATE w_WRITE h0 n0 Z0 S_READ S_UPDATE S_WRITE ha4 ha13 ha22
theorem d3_0 : decode prog_33_method_4_code 0 = .ok (.aload_n 0, 1) := by decide +kernel
theorem d3_1 : decode prog_33_method_4_code 1 = .ok (.getstatic 3, 3) := by decide +kernel
theorem d3_4 : decode prog_33_method_4_code 4 = .ok (.if_acmp .ne 17, 3) := by decide +kernel
theorem d3_7 : decode prog_33_method_4_code 7 = .ok (.aload_n 1, 1) := by decide +kernel
theorem d3_8 : decode prog_33_method_4_code 8 = .ok (.getstatic 7, 3) := by decide +kernel
theorem d3_11 : decode prog_33_method_4_code 11 = .ok (.if_acmp .eq 24, 3) := by decide +kernel
theorem d3_35 : decode prog_33_method_4_code 35 = .ok (.iconst 1, 1) := by decide +kernel
theorem d3_36 : decode prog_33_method_4_code 36 = .ok (.goto 4, 3) := by decide +kernel
theorem d3_40 : decode prog_33_method_4_code 40 = .ok (.ireturn, 1) := by decide +kernel
theorem pn_3 : plainName "com/example/slackline/slackline/core/LockMode" = true := by first | (simp [plainName, overriddenIn]; done) | decide +kernel
theorem ef_3 (m : MethodId) (x0 : Addr) (x1 : Addr) : entryFrame m #[(.ref x0), (.ref x1)] 2 = mkF m 0 #[.val (.ref x0), .val (.ref x1)] [] := by first | (simp [entryFrame, mkF, argsToLocals, Value.category]; done) | rfl
theorem d3_14 : decode prog_33_method_4_code 14 = .ok (.aload_n 1, 1) := by decide +kernel
theorem d3_15 : decode prog_33_method_4_code 15 = .ok (.getstatic 10, 3) := by decide +kernel
theorem d3_18 : decode prog_33_method_4_code 18 = .ok (.if_acmp .eq 17, 3) := by decide +kernel
theorem d3_21 : decode prog_33_method_4_code 21 = .ok (.aload_n 0, 1) := by decide +kernel
theorem d3_22 : decode prog_33_method_4_code 22 = .ok (.getstatic 10, 3) := by decide +kernel
theorem d3_25 : decode prog_33_method_4_code 25 = .ok (.if_acmp .ne 14, 3) := by decide +kernel
theorem d3_39 : decode prog_33_method_4_code 39 = .ok (.iconst 0, 1) := by decide +kernel
theorem d3_28 : decode prog_33_method_4_code 28 = .ok (.aload_n 1, 1) := by decide +kernel
theorem d3_29 : decode prog_33_method_4_code 29 = .ok (.getstatic 7, 3) := by decide +kernel
theorem d3_32 : decode prog_33_method_4_code 32 = .ok (.if_acmp .ne 7, 3) := by decide +kernel
def Q3 (Z : State) (a1 : Addr) (a2 : Addr) (w_READ : Addr) (w_WRITE : Addr) (w_UPDATE : Addr) (h0 : Heap) (n0 : Nat) (v : Option Value) (h : Heap) (L : List Loc) : Prop := v = some (.int (upF a1 a2 w_READ w_WRITE w_UPDATE)) ∧ Fr n0 L ∧ h = h0
set_option maxRecDepth 65536 in
set_option maxHeartbeats 40000000 in
theorem rm3_ft (l : Launch) (Z : State) (a0 : Array Value) (hw : ∀ d ∈ tables_1, d.before a0 Z = true) (ws : List Jvm.Cond) (a1 : Addr) (a2 : Addr) (w_READ : Addr) (w_WRITE : Addr) (w_UPDATE : Addr) (h0 : Heap) (n0 : Nat) (Z0 : n0 ≤ h0.size) (S_READ : Sta Z h0 "com/example/slackline/slackline/core/LockMode" "READ" "Lcom/example/slackline/slackline/core/LockMode;" (.ref w_READ)) (S_WRITE : Sta Z h0 "com/example/slackline/slackline/core/LockMode" "WRITE" "Lcom/example/slackline/slackline/core/LockMode;" (.ref w_WRITE)) (S_UPDATE : Sta Z h0 "com/example/slackline/slackline/core/LockMode" "UPDATE" "Lcom/example/slackline/slackline/core/LockMode;" (.ref w_UPDATE)) (ha4 : a1 = w_READ) (ha11 : a2 = w_WRITE) :
    MetFree l (⟨"com/example/slackline/slackline/core/LockMode", "upgradedBy", "(Lcom/example/slackline/slackline/core/LockMode;)Z"⟩ : MethodName) (head1 (Jvm.Cond.code (⟨"com/example/slackline/slackline/core/LockMode", "upgradedBy", "(Lcom/example/slackline/slackline/core/LockMode;)Z"⟩ : MethodName) prog_33_method_4_code 2 (some .boolean) :: ws) ({ frames := 0, cells := 0, slots := 0, locals := 0 } : Room)) (fun a U => a = #[(.ref a1), (.ref a2)] ∧ Z.Warmed39 U.vm ∧ U.heap = h0) (fun _ _ _ _ _ => True) (fun _ U o U' => ∃ v L, o = .returned v ∧ Q3 Z a1 a2 w_READ w_WRITE w_UPDATE h0 n0 v U'.heap L ∧ FrameEnd U o U' L ({ frames := 0, cells := 0, slots := 0, locals := 0 } : Room).cells ({ frames := 0, cells := 0, slots := 0, locals := 0 } : Room).slots) := by
  refine MetFree.of_bodySF (plainFor_of_name pn_3) hisR ?_
  intro p e s m args below meth c s₁ Bd hml0 hP hK
  obtain ⟨rfl, hZ, hh⟩ := hP
  have hx := Bd.exec
  have hby := Bd.bytes
  have hml : c.maxLocals = 2 := hml0
  have hown : s.vm.findClass "com/example/slackline/slackline/core/LockMode" = some m.cls := findClass_of_methodNamed Bd.named
  have hnm := (name_of_methodNamed Bd.named Bd.method).1
  have X0 : Stand p l e ({ frames := 0, cells := 0, slots := 0, locals := 0 } : Room) s m #[(.ref a1), (.ref a2)] below meth c s₁ [] 0 0 := Stand.of_body Bd
  have e0 : s₁.heap = h0 := by rw [← hh, Bd.state]; rfl
  have N0 := Fr.nil n0
  have pre0 : ∀ t, Steps p.tables e below (s₁.setTop (mkF m 0 #[.val (.ref a1), .val (.ref a2)] [])) t → Steps p.tables e below (s₁.setTop (entryFrame m #[(.ref a1), (.ref a2)] 2)) t := fun t k => castTop (ef_3 m a1 a2) k
  -- 3. LAWS
  obtain ⟨T4, X4, e4, st4⟩ := getS2 X0 hx hZ hown (host := "") (Or.inl (hw _ (List.mem_of_getElem? (i := 22) rfl))) Via.refl e0 S_READ (g := (mkF m 1 #[.val (.ref a1), .val (.ref a2)] [(.ref a1)])) rfl (hb hby d3_1)
  obtain ⟨T6, X6, e6, st6⟩ := getS2 X4 hx hZ hown (host := "") (Or.inl (hw _ (List.mem_of_getElem? (i := 23) rfl))) Via.refl e4 S_WRITE (g := (mkF m 8 #[.val (.ref a1), .val (.ref a2)] [(.ref a2)])) rfl (hb hby d3_8)
  obtain ⟨fs, hr, hrun, hended, hW, hsame⟩ := X6.leave (v := some (.int (1 : Int32))) (fun h => by rw [Bd.returns] at h; cases h)
  refine ⟨_, _, pre0 _ ?_, hrun, hended, _, _, rfl, ?_, ⟨_, rfl⟩, hW, hsame.mono (by decide) (by decide)⟩
  -- 4. STEPS
  · show Steps p.tables e below (s₁.setTop (mkF m 0 #[.val (.ref a1), .val (.ref a2)] [])) _
    refine XS.aloadN X0.here hx rfl (hb hby d3_0) rfl rfl ?_
    show Steps p.tables e below (s₁.setTop (mkF m 1 #[.val (.ref a1), .val (.ref a2)] [(.ref a1)])) _
    refine st4 _ ?_
    show Steps p.tables e below (T4.setTop (mkF m 4 #[.val (.ref a1), .val (.ref a2)] [(.ref w_READ), (.ref a1)])) _
    refine Jvm.RoadKit.acmp (g := (mkF m 4 #[.val (.ref a1), .val (.ref a2)] [(.ref w_READ), (.ref a1)])) X4 hx rfl rfl rfl (pc0 := 4) (pc' := 7) (same := true) rfl (hb hby d3_4) rfl (decide_eq_true (congrArg Value.ref ha4)) (by decide) (by decide) ?_
    show Steps p.tables e below (T4.setTop (mkF m 7 #[.val (.ref a1), .val (.ref a2)] [])) _
    refine XS.aloadN X4.here hx rfl (hb hby d3_7) rfl rfl ?_
    show Steps p.tables e below (T4.setTop (mkF m 8 #[.val (.ref a1), .val (.ref a2)] [(.ref a2)])) _
    refine st6 _ ?_
    show Steps p.tables e below (T6.setTop (mkF m 11 #[.val (.ref a1), .val (.ref a2)] [(.ref w_WRITE), (.ref a2)])) _
    refine Jvm.RoadKit.acmp (g := (mkF m 11 #[.val (.ref a1), .val (.ref a2)] [(.ref w_WRITE), (.ref a2)])) X6 hx rfl rfl rfl (pc0 := 11) (pc' := 35) (same := true) rfl (hb hby d3_11) rfl (decide_eq_true (congrArg Value.ref ha11)) (by decide) (by decide) ?_
    show Steps p.tables e below (T6.setTop (mkF m 35 #[.val (.ref a1), .val (.ref a2)] [])) _
    refine XS.iconst X6.here hx rfl (hb hby d3_35) ?_
    show Steps p.tables e below (T6.setTop (mkF m 36 #[.val (.ref a1), .val (.ref a2)] [(.int (1 : Int32))])) _
    refine XS.goto X6.here hx rfl (pc0 := 36) (pc' := 40) rfl (hb hby d3_36) (by decide) (by decide) ?_
    show Steps p.tables e below (T6.setTop (mkF m 40 #[.val (.ref a1), .val (.ref a2)] [(.int (1 : Int32))])) _
    exact retN X6 hx (t := .boolean) Bd.returns (by simp) (hb hby d3_40) hr
  · show Q3 Z a1 a2 w_READ w_WRITE w_UPDATE h0 n0 _ T6.heap _
    rw [e6]
    exact ⟨by simp_all [upF], N0, rfl⟩
set_option maxRecDepth 65536 in
set_option maxHeartbeats 40000000 in
theorem rm3_fft (l : Launch) (Z : State) (a0 : Array Value) (hw : ∀ d ∈ tables_1, d.before a0 Z = true) (ws : List Jvm.Cond) (a1 : Addr) (a2 : Addr) (w_READ : Addr) (w_WRITE : Addr) (w_UPDATE : Addr) (h0 : Heap) (n0 : Nat) (Z0 : n0 ≤ h0.size) (S_READ : Sta Z h0 "com/example/slackline/slackline/core/LockMode" "READ" "Lcom/example/slackline/slackline/core/LockMode;" (.ref w_READ)) (S_WRITE : Sta Z h0 "com/example/slackline/slackline/core/LockMode" "WRITE" "Lcom/example/slackline/slackline/core/LockMode;" (.ref w_WRITE)) (S_UPDATE : Sta Z h0 "com/example/slackline/slackline/core/LockMode" "UPDATE" "Lcom/example/slackline/slackline/core/LockMode;" (.ref w_UPDATE)) (ha4 : a1 = w_READ) (ha11 : ¬ (a2 = w_WRITE)) (ha18 : a2 = w_UPDATE) :
    MetFree l (⟨"com/example/slackline/slackline/core/LockMode", "upgradedBy", "(Lcom/example/slackline/slackline/core/LockMode;)Z"⟩ : MethodName) (head1 (Jvm.Cond.code (⟨"com/example/slackline/slackline/core/LockMode", "upgradedBy", "(Lcom/example/slackline/slackline/core/LockMode;)Z"⟩ : MethodName) prog_33_method_4_code 2 (some .boolean) :: ws) ({ frames := 0, cells := 0, slots := 0, locals := 0 } : Room)) (fun a U => a = #[(.ref a1), (.ref a2)] ∧ Z.Warmed39 U.vm ∧ U.heap = h0) (fun _ _ _ _ _ => True) (fun _ U o U' => ∃ v L, o = .returned v ∧ Q3 Z a1 a2 w_READ w_WRITE w_UPDATE h0 n0 v U'.heap L ∧ FrameEnd U o U' L ({ frames := 0, cells := 0, slots := 0, locals := 0 } : Room).cells ({ frames := 0, cells := 0, slots := 0, locals := 0 } : Room).slots) := by
  refine MetFree.of_bodySF (plainFor_of_name pn_3) hisR ?_
  intro p e s m args below meth c s₁ Bd hml0 hP hK
  obtain ⟨rfl, hZ, hh⟩ := hP
  have hx := Bd.exec
  have hby := Bd.bytes
  have hml : c.maxLocals = 2 := hml0
  have hown : s.vm.findClass "com/example/slackline/slackline/core/LockMode" = some m.cls := findClass_of_methodNamed Bd.named
  have hnm := (name_of_methodNamed Bd.named Bd.method).1
  have X0 : Stand p l e ({ frames := 0, cells := 0, slots := 0, locals := 0 } : Room) s m #[(.ref a1), (.ref a2)] below meth c s₁ [] 0 0 := Stand.of_body Bd
  have e0 : s₁.heap = h0 := by rw [← hh, Bd.state]; rfl
  have N0 := Fr.nil n0
  have pre0 : ∀ t, Steps p.tables e below (s₁.setTop (mkF m 0 #[.val (.ref a1), .val (.ref a2)] [])) t → Steps p.tables e below (s₁.setTop (entryFrame m #[(.ref a1), (.ref a2)] 2)) t := fun t k => castTop (ef_3 m a1 a2) k
  -- 3. LAWS
  obtain ⟨T4, X4, e4, st4⟩ := getS2 X0 hx hZ hown (host := "") (Or.inl (hw _ (List.mem_of_getElem? (i := 22) rfl))) Via.refl e0 S_READ (g := (mkF m 1 #[.val (.ref a1), .val (.ref a2)] [(.ref a1)])) rfl (hb hby d3_1)
  obtain ⟨T6, X6, e6, st6⟩ := getS2 X4 hx hZ hown (host := "") (Or.inl (hw _ (List.mem_of_getElem? (i := 23) rfl))) Via.refl e4 S_WRITE (g := (mkF m 8 #[.val (.ref a1), .val (.ref a2)] [(.ref a2)])) rfl (hb hby d3_8)
  obtain ⟨T8, X8, e8, st8⟩ := getS2 X6 hx hZ hown (host := "") (Or.inl (hw _ (List.mem_of_getElem? (i := 24) rfl))) Via.refl e6 S_UPDATE (g := (mkF m 15 #[.val (.ref a1), .val (.ref a2)] [(.ref a2)])) rfl (hb hby d3_15)
  obtain ⟨fs, hr, hrun, hended, hW, hsame⟩ := X8.leave (v := some (.int (1 : Int32))) (fun h => by rw [Bd.returns] at h; cases h)
  refine ⟨_, _, pre0 _ ?_, hrun, hended, _, _, rfl, ?_, ⟨_, rfl⟩, hW, hsame.mono (by decide) (by decide)⟩
  -- 4. STEPS
  · show Steps p.tables e below (s₁.setTop (mkF m 0 #[.val (.ref a1), .val (.ref a2)] [])) _
    refine XS.aloadN X0.here hx rfl (hb hby d3_0) rfl rfl ?_
    show Steps p.tables e below (s₁.setTop (mkF m 1 #[.val (.ref a1), .val (.ref a2)] [(.ref a1)])) _
    refine st4 _ ?_
    show Steps p.tables e below (T4.setTop (mkF m 4 #[.val (.ref a1), .val (.ref a2)] [(.ref w_READ), (.ref a1)])) _
    refine Jvm.RoadKit.acmp (g := (mkF m 4 #[.val (.ref a1), .val (.ref a2)] [(.ref w_READ), (.ref a1)])) X4 hx rfl rfl rfl (pc0 := 4) (pc' := 7) (same := true) rfl (hb hby d3_4) rfl (decide_eq_true (congrArg Value.ref ha4)) (by decide) (by decide) ?_
    show Steps p.tables e below (T4.setTop (mkF m 7 #[.val (.ref a1), .val (.ref a2)] [])) _
    refine XS.aloadN X4.here hx rfl (hb hby d3_7) rfl rfl ?_
    show Steps p.tables e below (T4.setTop (mkF m 8 #[.val (.ref a1), .val (.ref a2)] [(.ref a2)])) _
    refine st6 _ ?_
    show Steps p.tables e below (T6.setTop (mkF m 11 #[.val (.ref a1), .val (.ref a2)] [(.ref w_WRITE), (.ref a2)])) _
    refine Jvm.RoadKit.acmp (g := (mkF m 11 #[.val (.ref a1), .val (.ref a2)] [(.ref w_WRITE), (.ref a2)])) X6 hx rfl rfl rfl (pc0 := 11) (pc' := 14) (same := false) rfl (hb hby d3_11) rfl (decide_eq_false fun q => ha11 (Value.ref.inj q)) (by decide) (by decide) ?_
    show Steps p.tables e below (T6.setTop (mkF m 14 #[.val (.ref a1), .val (.ref a2)] [])) _
    refine XS.aloadN X6.here hx rfl (hb hby d3_14) rfl rfl ?_
    show Steps p.tables e below (T6.setTop (mkF m 15 #[.val (.ref a1), .val (.ref a2)] [(.ref a2)])) _
    refine st8 _ ?_
    show Steps p.tables e below (T8.setTop (mkF m 18 #[.val (.ref a1), .val (.ref a2)] [(.ref w_UPDATE), (.ref a2)])) _
    refine Jvm.RoadKit.acmp (g := (mkF m 18 #[.val (.ref a1), .val (.ref a2)] [(.ref w_UPDATE), (.ref a2)])) X8 hx rfl rfl rfl (pc0 := 18) (pc' := 35) (same := true) rfl (hb hby d3_18) rfl (decide_eq_true (congrArg Value.ref ha18)) (by decide) (by decide) ?_
    show Steps p.tables e below (T8.setTop (mkF m 35 #[.val (.ref a1), .val (.ref a2)] [])) _
    refine XS.iconst X8.here hx rfl (hb hby d3_35) ?_
    show Steps p.tables e below (T8.setTop (mkF m 36 #[.val (.ref a1), .val (.ref a2)] [(.int (1 : Int32))])) _
    refine XS.goto X8.here hx rfl (pc0 := 36) (pc' := 40) rfl (hb hby d3_36) (by decide) (by decide) ?_
    show Steps p.tables e below (T8.setTop (mkF m 40 #[.val (.ref a1), .val (.ref a2)] [(.int (1 : Int32))])) _
    exact retN X8 hx (t := .boolean) Bd.returns (by simp) (hb hby d3_40) hr
  · show Q3 Z a1 a2 w_READ w_WRITE w_UPDATE h0 n0 _ T8.heap _
    rw [e8]
    exact ⟨by simp_all [upF], N0, rfl⟩
set_option maxRecDepth 65536 in
set_option maxHeartbeats 40000000 in
theorem rm3_ffft (l : Launch) (Z : State) (a0 : Array Value) (hw : ∀ d ∈ tables_1, d.before a0 Z = true) (ws : List Jvm.Cond) (a1 : Addr) (a2 : Addr) (w_READ : Addr) (w_WRITE : Addr) (w_UPDATE : Addr) (h0 : Heap) (n0 : Nat) (Z0 : n0 ≤ h0.size) (S_READ : Sta Z h0 "com/example/slackline/slackline/core/LockMode" "READ" "Lcom/example/slackline/slackline/core/LockMode;" (.ref w_READ)) (S_WRITE : Sta Z h0 "com/example/slackline/slackline/core/LockMode" "WRITE" "Lcom/example/slackline/slackline/core/LockMode;" (.ref w_WRITE)) (S_UPDATE : Sta Z h0 "com/example/slackline/slackline/core/LockMode" "UPDATE" "Lcom/example/slackline/slackline/core/LockMode;" (.ref w_UPDATE)) (ha4 : a1 = w_READ) (ha11 : ¬ (a2 = w_WRITE)) (ha18 : ¬ (a2 = w_UPDATE)) (ha25 : ¬ (a1 = w_UPDATE)) :
    MetFree l (⟨"com/example/slackline/slackline/core/LockMode", "upgradedBy", "(Lcom/example/slackline/slackline/core/LockMode;)Z"⟩ : MethodName) (head1 (Jvm.Cond.code (⟨"com/example/slackline/slackline/core/LockMode", "upgradedBy", "(Lcom/example/slackline/slackline/core/LockMode;)Z"⟩ : MethodName) prog_33_method_4_code 2 (some .boolean) :: ws) ({ frames := 0, cells := 0, slots := 0, locals := 0 } : Room)) (fun a U => a = #[(.ref a1), (.ref a2)] ∧ Z.Warmed39 U.vm ∧ U.heap = h0) (fun _ _ _ _ _ => True) (fun _ U o U' => ∃ v L, o = .returned v ∧ Q3 Z a1 a2 w_READ w_WRITE w_UPDATE h0 n0 v U'.heap L ∧ FrameEnd U o U' L ({ frames := 0, cells := 0, slots := 0, locals := 0 } : Room).cells ({ frames := 0, cells := 0, slots := 0, locals := 0 } : Room).slots) := by
  refine MetFree.of_bodySF (plainFor_of_name pn_3) hisR ?_
  intro p e s m args below meth c s₁ Bd hml0 hP hK
  obtain ⟨rfl, hZ, hh⟩ := hP
  have hx := Bd.exec
  have hby := Bd.bytes
  have hml : c.maxLocals = 2 := hml0
  have hown : s.vm.findClass "com/example/slackline/slackline/core/LockMode" = some m.cls := findClass_of_methodNamed Bd.named
  have hnm := (name_of_methodNamed Bd.named Bd.method).1
  have X0 : Stand p l e ({ frames := 0, cells := 0, slots := 0, locals := 0 } : Room) s m #[(.ref a1), (.ref a2)] below meth c s₁ [] 0 0 := Stand.of_body Bd
  have e0 : s₁.heap = h0 := by rw [← hh, Bd.state]; rfl
  have N0 := Fr.nil n0
  have pre0 : ∀ t, Steps p.tables e below (s₁.setTop (mkF m 0 #[.val (.ref a1), .val (.ref a2)] [])) t → Steps p.tables e below (s₁.setTop (entryFrame m #[(.ref a1), (.ref a2)] 2)) t := fun t k => castTop (ef_3 m a1 a2) k
  -- 3. LAWS
  obtain ⟨T4, X4, e4, st4⟩ := getS2 X0 hx hZ hown (host := "") (Or.inl (hw _ (List.mem_of_getElem? (i := 22) rfl))) Via.refl e0 S_READ (g := (mkF m 1 #[.val (.ref a1), .val (.ref a2)] [(.ref a1)])) rfl (hb hby d3_1)
  obtain ⟨T6, X6, e6, st6⟩ := getS2 X4 hx hZ hown (host := "") (Or.inl (hw _ (List.mem_of_getElem? (i := 23) rfl))) Via.refl e4 S_WRITE (g := (mkF m 8 #[.val (.ref a1), .val (.ref a2)] [(.ref a2)])) rfl (hb hby d3_8)
  obtain ⟨T8, X8, e8, st8⟩ := getS2 X6 hx hZ hown (host := "") (Or.inl (hw _ (List.mem_of_getElem? (i := 24) rfl))) Via.refl e6 S_UPDATE (g := (mkF m 15 #[.val (.ref a1), .val (.ref a2)] [(.ref a2)])) rfl (hb hby d3_15)
  obtain ⟨T9, X9, e9, st9⟩ := getS2 X8 hx hZ hown (host := "") (Or.inl (hw _ (List.mem_of_getElem? (i := 24) rfl))) Via.refl e8 S_UPDATE (g := (mkF m 22 #[.val (.ref a1), .val (.ref a2)] [(.ref a1)])) rfl (hb hby d3_22)
  obtain ⟨fs, hr, hrun, hended, hW, hsame⟩ := X9.leave (v := some (.int (0 : Int32))) (fun h => by rw [Bd.returns] at h; cases h)
  refine ⟨_, _, pre0 _ ?_, hrun, hended, _, _, rfl, ?_, ⟨_, rfl⟩, hW, hsame.mono (by decide) (by decide)⟩
  -- 4. STEPS
  · show Steps p.tables e below (s₁.setTop (mkF m 0 #[.val (.ref a1), .val (.ref a2)] [])) _
    refine XS.aloadN X0.here hx rfl (hb hby d3_0) rfl rfl ?_
    show Steps p.tables e below (s₁.setTop (mkF m 1 #[.val (.ref a1), .val (.ref a2)] [(.ref a1)])) _
    refine st4 _ ?_
    show Steps p.tables e below (T4.setTop (mkF m 4 #[.val (.ref a1), .val (.ref a2)] [(.ref w_READ), (.ref a1)])) _
    refine Jvm.RoadKit.acmp (g := (mkF m 4 #[.val (.ref a1), .val (.ref a2)] [(.ref w_READ), (.ref a1)])) X4 hx rfl rfl rfl (pc0 := 4) (pc' := 7) (same := true) rfl (hb hby d3_4) rfl (decide_eq_true (congrArg Value.ref ha4)) (by decide) (by decide) ?_
    show Steps p.tables e below (T4.setTop (mkF m 7 #[.val (.ref a1), .val (.ref a2)] [])) _
    refine XS.aloadN X4.here hx rfl (hb hby d3_7) rfl rfl ?_
    show Steps p.tables e below (T4.setTop (mkF m 8 #[.val (.ref a1), .val (.ref a2)] [(.ref a2)])) _
    refine st6 _ ?_
    show Steps p.tables e below (T6.setTop (mkF m 11 #[.val (.ref a1), .val (.ref a2)] [(.ref w_WRITE), (.ref a2)])) _
    refine Jvm.RoadKit.acmp (g := (mkF m 11 #[.val (.ref a1), .val (.ref a2)] [(.ref w_WRITE), (.ref a2)])) X6 hx rfl rfl rfl (pc0 := 11) (pc' := 14) (same := false) rfl (hb hby d3_11) rfl (decide_eq_false fun q => ha11 (Value.ref.inj q)) (by decide) (by decide) ?_
    show Steps p.tables e below (T6.setTop (mkF m 14 #[.val (.ref a1), .val (.ref a2)] [])) _
    refine XS.aloadN X6.here hx rfl (hb hby d3_14) rfl rfl ?_
    show Steps p.tables e below (T6.setTop (mkF m 15 #[.val (.ref a1), .val (.ref a2)] [(.ref a2)])) _
    refine st8 _ ?_
    show Steps p.tables e below (T8.setTop (mkF m 18 #[.val (.ref a1), .val (.ref a2)] [(.ref w_UPDATE), (.ref a2)])) _
    refine Jvm.RoadKit.acmp (g := (mkF m 18 #[.val (.ref a1), .val (.ref a2)] [(.ref w_UPDATE), (.ref a2)])) X8 hx rfl rfl rfl (pc0 := 18) (pc' := 21) (same := false) rfl (hb hby d3_18) rfl (decide_eq_false fun q => ha18 (Value.ref.inj q)) (by decide) (by decide) ?_
    show Steps p.tables e below (T8.setTop (mkF m 21 #[.val (.ref a1), .val (.ref a2)] [])) _
    refine XS.aloadN X8.here hx rfl (hb hby d3_21) rfl rfl ?_
    show Steps p.tables e below (T8.setTop (mkF m 22 #[.val (.ref a1), .val (.ref a2)] [(.ref a1)])) _
    refine st9 _ ?_
    show Steps p.tables e below (T9.setTop (mkF m 25 #[.val (.ref a1), .val (.ref a2)] [(.ref w_UPDATE), (.ref a1)])) _
    refine Jvm.RoadKit.acmp (g := (mkF m 25 #[.val (.ref a1), .val (.ref a2)] [(.ref w_UPDATE), (.ref a1)])) X9 hx rfl rfl rfl (pc0 := 25) (pc' := 39) (same := false) rfl (hb hby d3_25) rfl (decide_eq_false fun q => ha25 (Value.ref.inj q)) (by decide) (by decide) ?_
    show Steps p.tables e below (T9.setTop (mkF m 39 #[.val (.ref a1), .val (.ref a2)] [])) _
    refine XS.iconst X9.here hx rfl (hb hby d3_39) ?_
    show Steps p.tables e below (T9.setTop (mkF m 40 #[.val (.ref a1), .val (.ref a2)] [(.int (0 : Int32))])) _
    exact retN X9 hx (t := .boolean) Bd.returns (by simp) (hb hby d3_40) hr
  · show Q3 Z a1 a2 w_READ w_WRITE w_UPDATE h0 n0 _ T9.heap _
    rw [e9]
    exact ⟨by simp_all [upF], N0, rfl⟩
set_option maxRecDepth 65536 in
set_option maxHeartbeats 40000000 in
theorem rm3_fffft (l : Launch) (Z : State) (a0 : Array Value) (hw : ∀ d ∈ tables_1, d.before a0 Z = true) (ws : List Jvm.Cond) (a1 : Addr) (a2 : Addr) (w_READ : Addr) (w_WRITE : Addr) (w_UPDATE : Addr) (h0 : Heap) (n0 : Nat) (Z0 : n0 ≤ h0.size) (S_READ : Sta Z h0 "com/example/slackline/slackline/core/LockMode" "READ" "Lcom/example/slackline/slackline/core/LockMode;" (.ref w_READ)) (S_WRITE : Sta Z h0 "com/example/slackline/slackline/core/LockMode" "WRITE" "Lcom/example/slackline/slackline/core/LockMode;" (.ref w_WRITE)) (S_UPDATE : Sta Z h0 "com/example/slackline/slackline/core/LockMode" "UPDATE" "Lcom/example/slackline/slackline/core/LockMode;" (.ref w_UPDATE)) (ha4 : a1 = w_READ) (ha11 : ¬ (a2 = w_WRITE)) (ha18 : ¬ (a2 = w_UPDATE)) (ha25 : a1 = w_UPDATE) (ha32 : ¬ (a2 = w_WRITE)) :
    MetFree l (⟨"com/example/slackline/slackline/core/LockMode", "upgradedBy", "(Lcom/example/slackline/slackline/core/LockMode;)Z"⟩ : MethodName) (head1 (Jvm.Cond.code (⟨"com/example/slackline/slackline/core/LockMode", "upgradedBy", "(Lcom/example/slackline/slackline/core/LockMode;)Z"⟩ : MethodName) prog_33_method_4_code 2 (some .boolean) :: ws) ({ frames := 0, cells := 0, slots := 0, locals := 0 } : Room)) (fun a U => a = #[(.ref a1), (.ref a2)] ∧ Z.Warmed39 U.vm ∧ U.heap = h0) (fun _ _ _ _ _ => True) (fun _ U o U' => ∃ v L, o = .returned v ∧ Q3 Z a1 a2 w_READ w_WRITE w_UPDATE h0 n0 v U'.heap L ∧ FrameEnd U o U' L ({ frames := 0, cells := 0, slots := 0, locals := 0 } : Room).cells ({ frames := 0, cells := 0, slots := 0, locals := 0 } : Room).slots) := by
  refine MetFree.of_bodySF (plainFor_of_name pn_3) hisR ?_
  intro p e s m args below meth c s₁ Bd hml0 hP hK
  obtain ⟨rfl, hZ, hh⟩ := hP
  have hx := Bd.exec
  have hby := Bd.bytes
  have hml : c.maxLocals = 2 := hml0
  have hown : s.vm.findClass "com/example/slackline/slackline/core/LockMode" = some m.cls := findClass_of_methodNamed Bd.named
  have hnm := (name_of_methodNamed Bd.named Bd.method).1
  have X0 : Stand p l e ({ frames := 0, cells := 0, slots := 0, locals := 0 } : Room) s m #[(.ref a1), (.ref a2)] below meth c s₁ [] 0 0 := Stand.of_body Bd
  have e0 : s₁.heap = h0 := by rw [← hh, Bd.state]; rfl
  have N0 := Fr.nil n0
  have pre0 : ∀ t, Steps p.tables e below (s₁.setTop (mkF m 0 #[.val (.ref a1), .val (.ref a2)] [])) t → Steps p.tables e below (s₁.setTop (entryFrame m #[(.ref a1), (.ref a2)] 2)) t := fun t k => castTop (ef_3 m a1 a2) k
  -- 3. LAWS
  obtain ⟨T4, X4, e4, st4⟩ := getS2 X0 hx hZ hown (host := "") (Or.inl (hw _ (List.mem_of_getElem? (i := 22) rfl))) Via.refl e0 S_READ (g := (mkF m 1 #[.val (.ref a1), .val (.ref a2)] [(.ref a1)])) rfl (hb hby d3_1)
  obtain ⟨T6, X6, e6, st6⟩ := getS2 X4 hx hZ hown (host := "") (Or.inl (hw _ (List.mem_of_getElem? (i := 23) rfl))) Via.refl e4 S_WRITE (g := (mkF m 8 #[.val (.ref a1), .val (.ref a2)] [(.ref a2)])) rfl (hb hby d3_8)
  obtain ⟨T8, X8, e8, st8⟩ := getS2 X6 hx hZ hown (host := "") (Or.inl (hw _ (List.mem_of_getElem? (i := 24) rfl))) Via.refl e6 S_UPDATE (g := (mkF m 15 #[.val (.ref a1), .val (.ref a2)] [(.ref a2)])) rfl (hb hby d3_15)
  obtain ⟨T9, X9, e9, st9⟩ := getS2 X8 hx hZ hown (host := "") (Or.inl (hw _ (List.mem_of_getElem? (i := 24) rfl))) Via.refl e8 S_UPDATE (g := (mkF m 22 #[.val (.ref a1), .val (.ref a2)] [(.ref a1)])) rfl (hb hby d3_22)
  obtain ⟨T10, X10, e10, st10⟩ := getS2 X9 hx hZ hown (host := "") (Or.inl (hw _ (List.mem_of_getElem? (i := 23) rfl))) Via.refl e9 S_WRITE (g := (mkF m 29 #[.val (.ref a1), .val (.ref a2)] [(.ref a2)])) rfl (hb hby d3_29)
  obtain ⟨fs, hr, hrun, hended, hW, hsame⟩ := X10.leave (v := some (.int (0 : Int32))) (fun h => by rw [Bd.returns] at h; cases h)
  refine ⟨_, _, pre0 _ ?_, hrun, hended, _, _, rfl, ?_, ⟨_, rfl⟩, hW, hsame.mono (by decide) (by decide)⟩
  -- 4. STEPS
  · show Steps p.tables e below (s₁.setTop (mkF m 0 #[.val (.ref a1), .val (.ref a2)] [])) _
    refine XS.aloadN X0.here hx rfl (hb hby d3_0) rfl rfl ?_
    show Steps p.tables e below (s₁.setTop (mkF m 1 #[.val (.ref a1), .val (.ref a2)] [(.ref a1)])) _
    refine st4 _ ?_
    show Steps p.tables e below (T4.setTop (mkF m 4 #[.val (.ref a1), .val (.ref a2)] [(.ref w_READ), (.ref a1)])) _
    refine Jvm.RoadKit.acmp (g := (mkF m 4 #[.val (.ref a1), .val (.ref a2)] [(.ref w_READ), (.ref a1)])) X4 hx rfl rfl rfl (pc0 := 4) (pc' := 7) (same := true) rfl (hb hby d3_4) rfl (decide_eq_true (congrArg Value.ref ha4)) (by decide) (by decide) ?_
    show Steps p.tables e below (T4.setTop (mkF m 7 #[.val (.ref a1), .val (.ref a2)] [])) _
    refine XS.aloadN X4.here hx rfl (hb hby d3_7) rfl rfl ?_
    show Steps p.tables e below (T4.setTop (mkF m 8 #[.val (.ref a1), .val (.ref a2)] [(.ref a2)])) _
    refine st6 _ ?_
    show Steps p.tables e below (T6.setTop (mkF m 11 #[.val (.ref a1), .val (.ref a2)] [(.ref w_WRITE), (.ref a2)])) _
    refine Jvm.RoadKit.acmp (g := (mkF m 11 #[.val (.ref a1), .val (.ref a2)] [(.ref w_WRITE), (.ref a2)])) X6 hx rfl rfl rfl (pc0 := 11) (pc' := 14) (same := false) rfl (hb hby d3_11) rfl (decide_eq_false fun q => ha11 (Value.ref.inj q)) (by decide) (by decide) ?_
    show Steps p.tables e below (T6.setTop (mkF m 14 #[.val (.ref a1), .val (.ref a2)] [])) _
    refine XS.aloadN X6.here hx rfl (hb hby d3_14) rfl rfl ?_
    show Steps p.tables e below (T6.setTop (mkF m 15 #[.val (.ref a1), .val (.ref a2)] [(.ref a2)])) _
    refine st8 _ ?_
    show Steps p.tables e below (T8.setTop (mkF m 18 #[.val (.ref a1), .val (.ref a2)] [(.ref w_UPDATE), (.ref a2)])) _
    refine Jvm.RoadKit.acmp (g := (mkF m 18 #[.val (.ref a1), .val (.ref a2)] [(.ref w_UPDATE), (.ref a2)])) X8 hx rfl rfl rfl (pc0 := 18) (pc' := 21) (same := false) rfl (hb hby d3_18) rfl (decide_eq_false fun q => ha18 (Value.ref.inj q)) (by decide) (by decide) ?_
    show Steps p.tables e below (T8.setTop (mkF m 21 #[.val (.ref a1), .val (.ref a2)] [])) _
    refine XS.aloadN X8.here hx rfl (hb hby d3_21) rfl rfl ?_
    show Steps p.tables e below (T8.setTop (mkF m 22 #[.val (.ref a1), .val (.ref a2)] [(.ref a1)])) _
    refine st9 _ ?_
    show Steps p.tables e below (T9.setTop (mkF m 25 #[.val (.ref a1), .val (.ref a2)] [(.ref w_UPDATE), (.ref a1)])) _
    refine Jvm.RoadKit.acmp (g := (mkF m 25 #[.val (.ref a1), .val (.ref a2)] [(.ref w_UPDATE), (.ref a1)])) X9 hx rfl rfl rfl (pc0 := 25) (pc' := 28) (same := true) rfl (hb hby d3_25) rfl (decide_eq_true (congrArg Value.ref ha25)) (by decide) (by decide) ?_
    show Steps p.tables e below (T9.setTop (mkF m 28 #[.val (.ref a1), .val (.ref a2)] [])) _
    refine XS.aloadN X9.here hx rfl (hb hby d3_28) rfl rfl ?_
    show Steps p.tables e below (T9.setTop (mkF m 29 #[.val (.ref a1), .val (.ref a2)] [(.ref a2)])) _
    refine st10 _ ?_
    show Steps p.tables e below (T10.setTop (mkF m 32 #[.val (.ref a1), .val (.ref a2)] [(.ref w_WRITE), (.ref a2)])) _
    refine Jvm.RoadKit.acmp (g := (mkF m 32 #[.val (.ref a1), .val (.ref a2)] [(.ref w_WRITE), (.ref a2)])) X10 hx rfl rfl rfl (pc0 := 32) (pc' := 39) (same := false) rfl (hb hby d3_32) rfl (decide_eq_false fun q => ha32 (Value.ref.inj q)) (by decide) (by decide) ?_
    show Steps p.tables e below (T10.setTop (mkF m 39 #[.val (.ref a1), .val (.ref a2)] [])) _
    refine XS.iconst X10.here hx rfl (hb hby d3_39) ?_
    show Steps p.tables e below (T10.setTop (mkF m 40 #[.val (.ref a1), .val (.ref a2)] [(.int (0 : Int32))])) _
    exact retN X10 hx (t := .boolean) Bd.returns (by simp) (hb hby d3_40) hr
  · show Q3 Z a1 a2 w_READ w_WRITE w_UPDATE h0 n0 _ T10.heap _
    rw [e10]
    exact ⟨by simp_all [upF], N0, rfl⟩
set_option maxRecDepth 65536 in
set_option maxHeartbeats 40000000 in
theorem rm3_fffff (l : Launch) (Z : State) (a0 : Array Value) (hw : ∀ d ∈ tables_1, d.before a0 Z = true) (ws : List Jvm.Cond) (a1 : Addr) (a2 : Addr) (w_READ : Addr) (w_WRITE : Addr) (w_UPDATE : Addr) (h0 : Heap) (n0 : Nat) (Z0 : n0 ≤ h0.size) (S_READ : Sta Z h0 "com/example/slackline/slackline/core/LockMode" "READ" "Lcom/example/slackline/slackline/core/LockMode;" (.ref w_READ)) (S_WRITE : Sta Z h0 "com/example/slackline/slackline/core/LockMode" "WRITE" "Lcom/example/slackline/slackline/core/LockMode;" (.ref w_WRITE)) (S_UPDATE : Sta Z h0 "com/example/slackline/slackline/core/LockMode" "UPDATE" "Lcom/example/slackline/slackline/core/LockMode;" (.ref w_UPDATE)) (ha4 : a1 = w_READ) (ha11 : ¬ (a2 = w_WRITE)) (ha18 : ¬ (a2 = w_UPDATE)) (ha25 : a1 = w_UPDATE) (ha32 : a2 = w_WRITE) :
    MetFree l (⟨"com/example/slackline/slackline/core/LockMode", "upgradedBy", "(Lcom/example/slackline/slackline/core/LockMode;)Z"⟩ : MethodName) (head1 (Jvm.Cond.code (⟨"com/example/slackline/slackline/core/LockMode", "upgradedBy", "(Lcom/example/slackline/slackline/core/LockMode;)Z"⟩ : MethodName) prog_33_method_4_code 2 (some .boolean) :: ws) ({ frames := 0, cells := 0, slots := 0, locals := 0 } : Room)) (fun a U => a = #[(.ref a1), (.ref a2)] ∧ Z.Warmed39 U.vm ∧ U.heap = h0) (fun _ _ _ _ _ => True) (fun _ U o U' => ∃ v L, o = .returned v ∧ Q3 Z a1 a2 w_READ w_WRITE w_UPDATE h0 n0 v U'.heap L ∧ FrameEnd U o U' L ({ frames := 0, cells := 0, slots := 0, locals := 0 } : Room).cells ({ frames := 0, cells := 0, slots := 0, locals := 0 } : Room).slots) := by
  refine MetFree.of_bodySF (plainFor_of_name pn_3) hisR ?_
  intro p e s m args below meth c s₁ Bd hml0 hP hK
  obtain ⟨rfl, hZ, hh⟩ := hP
  have hx := Bd.exec
  have hby := Bd.bytes
  have hml : c.maxLocals = 2 := hml0
  have hown : s.vm.findClass "com/example/slackline/slackline/core/LockMode" = some m.cls := findClass_of_methodNamed Bd.named
  have hnm := (name_of_methodNamed Bd.named Bd.method).1
  have X0 : Stand p l e ({ frames := 0, cells := 0, slots := 0, locals := 0 } : Room) s m #[(.ref a1), (.ref a2)] below meth c s₁ [] 0 0 := Stand.of_body Bd
  have e0 : s₁.heap = h0 := by rw [← hh, Bd.state]; rfl
  have N0 := Fr.nil n0
  have pre0 : ∀ t, Steps p.tables e below (s₁.setTop (mkF m 0 #[.val (.ref a1), .val (.ref a2)] [])) t → Steps p.tables e below (s₁.setTop (entryFrame m #[(.ref a1), (.ref a2)] 2)) t := fun t k => castTop (ef_3 m a1 a2) k
  -- 3. LAWS
  obtain ⟨T4, X4, e4, st4⟩ := getS2 X0 hx hZ hown (host := "") (Or.inl (hw _ (List.mem_of_getElem? (i := 22) rfl))) Via.refl e0 S_READ (g := (mkF m 1 #[.val (.ref a1), .val (.ref a2)] [(.ref a1)])) rfl (hb hby d3_1)
  obtain ⟨T6, X6, e6, st6⟩ := getS2 X4 hx hZ hown (host := "") (Or.inl (hw _ (List.mem_of_getElem? (i := 23) rfl))) Via.refl e4 S_WRITE (g := (mkF m 8 #[.val (.ref a1), .val (.ref a2)] [(.ref a2)])) rfl (hb hby d3_8)
  obtain ⟨T8, X8, e8, st8⟩ := getS2 X6 hx hZ hown (host := "") (Or.inl (hw _ (List.mem_of_getElem? (i := 24) rfl))) Via.refl e6 S_UPDATE (g := (mkF m 15 #[.val (.ref a1), .val (.ref a2)] [(.ref a2)])) rfl (hb hby d3_15)
  obtain ⟨T9, X9, e9, st9⟩ := getS2 X8 hx hZ hown (host := "") (Or.inl (hw _ (List.mem_of_getElem? (i := 24) rfl))) Via.refl e8 S_UPDATE (g := (mkF m 22 #[.val (.ref a1), .val (.ref a2)] [(.ref a1)])) rfl (hb hby d3_22)
  obtain ⟨T10, X10, e10, st10⟩ := getS2 X9 hx hZ hown (host := "") (Or.inl (hw _ (List.mem_of_getElem? (i := 23) rfl))) Via.refl e9 S_WRITE (g := (mkF m 29 #[.val (.ref a1), .val (.ref a2)] [(.ref a2)])) rfl (hb hby d3_29)
  obtain ⟨fs, hr, hrun, hended, hW, hsame⟩ := X10.leave (v := some (.int (1 : Int32))) (fun h => by rw [Bd.returns] at h; cases h)
  refine ⟨_, _, pre0 _ ?_, hrun, hended, _, _, rfl, ?_, ⟨_, rfl⟩, hW, hsame.mono (by decide) (by decide)⟩
  -- 4. STEPS
  · show Steps p.tables e below (s₁.setTop (mkF m 0 #[.val (.ref a1), .val (.ref a2)] [])) _
    refine XS.aloadN X0.here hx rfl (hb hby d3_0) rfl rfl ?_
    show Steps p.tables e below (s₁.setTop (mkF m 1 #[.val (.ref a1), .val (.ref a2)] [(.ref a1)])) _
    refine st4 _ ?_
    show Steps p.tables e below (T4.setTop (mkF m 4 #[.val (.ref a1), .val (.ref a2)] [(.ref w_READ), (.ref a1)])) _
    refine Jvm.RoadKit.acmp (g := (mkF m 4 #[.val (.ref a1), .val (.ref a2)] [(.ref w_READ), (.ref a1)])) X4 hx rfl rfl rfl (pc0 := 4) (pc' := 7) (same := true) rfl (hb hby d3_4) rfl (decide_eq_true (congrArg Value.ref ha4)) (by decide) (by decide) ?_
    show Steps p.tables e below (T4.setTop (mkF m 7 #[.val (.ref a1), .val (.ref a2)] [])) _
    refine XS.aloadN X4.here hx rfl (hb hby d3_7) rfl rfl ?_
    show Steps p.tables e below (T4.setTop (mkF m 8 #[.val (.ref a1), .val (.ref a2)] [(.ref a2)])) _
    refine st6 _ ?_
    show Steps p.tables e below (T6.setTop (mkF m 11 #[.val (.ref a1), .val (.ref a2)] [(.ref w_WRITE), (.ref a2)])) _
    refine Jvm.RoadKit.acmp (g := (mkF m 11 #[.val (.ref a1), .val (.ref a2)] [(.ref w_WRITE), (.ref a2)])) X6 hx rfl rfl rfl (pc0 := 11) (pc' := 14) (same := false) rfl (hb hby d3_11) rfl (decide_eq_false fun q => ha11 (Value.ref.inj q)) (by decide) (by decide) ?_
    show Steps p.tables e below (T6.setTop (mkF m 14 #[.val (.ref a1), .val (.ref a2)] [])) _
    refine XS.aloadN X6.here hx rfl (hb hby d3_14) rfl rfl ?_
    show Steps p.tables e below (T6.setTop (mkF m 15 #[.val (.ref a1), .val (.ref a2)] [(.ref a2)])) _
    refine st8 _ ?_
    show Steps p.tables e below (T8.setTop (mkF m 18 #[.val (.ref a1), .val (.ref a2)] [(.ref w_UPDATE), (.ref a2)])) _
    refine Jvm.RoadKit.acmp (g := (mkF m 18 #[.val (.ref a1), .val (.ref a2)] [(.ref w_UPDATE), (.ref a2)])) X8 hx rfl rfl rfl (pc0 := 18) (pc' := 21) (same := false) rfl (hb hby d3_18) rfl (decide_eq_false fun q => ha18 (Value.ref.inj q)) (by decide) (by decide) ?_
    show Steps p.tables e below (T8.setTop (mkF m 21 #[.val (.ref a1), .val (.ref a2)] [])) _
    refine XS.aloadN X8.here hx rfl (hb hby d3_21) rfl rfl ?_
    show Steps p.tables e below (T8.setTop (mkF m 22 #[.val (.ref a1), .val (.ref a2)] [(.ref a1)])) _
    refine st9 _ ?_
    show Steps p.tables e below (T9.setTop (mkF m 25 #[.val (.ref a1), .val (.ref a2)] [(.ref w_UPDATE), (.ref a1)])) _
    refine Jvm.RoadKit.acmp (g := (mkF m 25 #[.val (.ref a1), .val (.ref a2)] [(.ref w_UPDATE), (.ref a1)])) X9 hx rfl rfl rfl (pc0 := 25) (pc' := 28) (same := true) rfl (hb hby d3_25) rfl (decide_eq_true (congrArg Value.ref ha25)) (by decide) (by decide) ?_
    show Steps p.tables e below (T9.setTop (mkF m 28 #[.val (.ref a1), .val (.ref a2)] [])) _
    refine XS.aloadN X9.here hx rfl (hb hby d3_28) rfl rfl ?_
    show Steps p.tables e below (T9.setTop (mkF m 29 #[.val (.ref a1), .val (.ref a2)] [(.ref a2)])) _
    refine st10 _ ?_
    show Steps p.tables e below (T10.setTop (mkF m 32 #[.val (.ref a1), .val (.ref a2)] [(.ref w_WRITE), (.ref a2)])) _
    refine Jvm.RoadKit.acmp (g := (mkF m 32 #[.val (.ref a1), .val (.ref a2)] [(.ref w_WRITE), (.ref a2)])) X10 hx rfl rfl rfl (pc0 := 32) (pc' := 35) (same := true) rfl (hb hby d3_32) rfl (decide_eq_true (congrArg Value.ref ha32)) (by decide) (by decide) ?_
    show Steps p.tables e below (T10.setTop (mkF m 35 #[.val (.ref a1), .val (.ref a2)] [])) _
    refine XS.iconst X10.here hx rfl (hb hby d3_35) ?_
    show Steps p.tables e below (T10.setTop (mkF m 36 #[.val (.ref a1), .val (.ref a2)] [(.int (1 : Int32))])) _
    refine XS.goto X10.here hx rfl (pc0 := 36) (pc' := 40) rfl (hb hby d3_36) (by decide) (by decide) ?_
    show Steps p.tables e below (T10.setTop (mkF m 40 #[.val (.ref a1), .val (.ref a2)] [(.int (1 : Int32))])) _
    exact retN X10 hx (t := .boolean) Bd.returns (by simp) (hb hby d3_40) hr
  · show Q3 Z a1 a2 w_READ w_WRITE w_UPDATE h0 n0 _ T10.heap _
    rw [e10]
    exact ⟨by simp_all [upF], N0, rfl⟩
set_option maxRecDepth 65536 in
set_option maxHeartbeats 40000000 in
theorem rm3_tt (l : Launch) (Z : State) (a0 : Array Value) (hw : ∀ d ∈ tables_1, d.before a0 Z = true) (ws : List Jvm.Cond) (a1 : Addr) (a2 : Addr) (w_READ : Addr) (w_WRITE : Addr) (w_UPDATE : Addr) (h0 : Heap) (n0 : Nat) (Z0 : n0 ≤ h0.size) (S_READ : Sta Z h0 "com/example/slackline/slackline/core/LockMode" "READ" "Lcom/example/slackline/slackline/core/LockMode;" (.ref w_READ)) (S_WRITE : Sta Z h0 "com/example/slackline/slackline/core/LockMode" "WRITE" "Lcom/example/slackline/slackline/core/LockMode;" (.ref w_WRITE)) (S_UPDATE : Sta Z h0 "com/example/slackline/slackline/core/LockMode" "UPDATE" "Lcom/example/slackline/slackline/core/LockMode;" (.ref w_UPDATE)) (ha4 : ¬ (a1 = w_READ)) (ha25 : ¬ (a1 = w_UPDATE)) :
    MetFree l (⟨"com/example/slackline/slackline/core/LockMode", "upgradedBy", "(Lcom/example/slackline/slackline/core/LockMode;)Z"⟩ : MethodName) (head1 (Jvm.Cond.code (⟨"com/example/slackline/slackline/core/LockMode", "upgradedBy", "(Lcom/example/slackline/slackline/core/LockMode;)Z"⟩ : MethodName) prog_33_method_4_code 2 (some .boolean) :: ws) ({ frames := 0, cells := 0, slots := 0, locals := 0 } : Room)) (fun a U => a = #[(.ref a1), (.ref a2)] ∧ Z.Warmed39 U.vm ∧ U.heap = h0) (fun _ _ _ _ _ => True) (fun _ U o U' => ∃ v L, o = .returned v ∧ Q3 Z a1 a2 w_READ w_WRITE w_UPDATE h0 n0 v U'.heap L ∧ FrameEnd U o U' L ({ frames := 0, cells := 0, slots := 0, locals := 0 } : Room).cells ({ frames := 0, cells := 0, slots := 0, locals := 0 } : Room).slots) := by
  refine MetFree.of_bodySF (plainFor_of_name pn_3) hisR ?_
  intro p e s m args below meth c s₁ Bd hml0 hP hK
  obtain ⟨rfl, hZ, hh⟩ := hP
  have hx := Bd.exec
  have hby := Bd.bytes
  have hml : c.maxLocals = 2 := hml0
  have hown : s.vm.findClass "com/example/slackline/slackline/core/LockMode" = some m.cls := findClass_of_methodNamed Bd.named
  have hnm := (name_of_methodNamed Bd.named Bd.method).1
  have X0 : Stand p l e ({ frames := 0, cells := 0, slots := 0, locals := 0 } : Room) s m #[(.ref a1), (.ref a2)] below meth c s₁ [] 0 0 := Stand.of_body Bd
  have e0 : s₁.heap = h0 := by rw [← hh, Bd.state]; rfl
  have N0 := Fr.nil n0
  have pre0 : ∀ t, Steps p.tables e below (s₁.setTop (mkF m 0 #[.val (.ref a1), .val (.ref a2)] [])) t → Steps p.tables e below (s₁.setTop (entryFrame m #[(.ref a1), (.ref a2)] 2)) t := fun t k => castTop (ef_3 m a1 a2) k
  -- 3. LAWS
  obtain ⟨T4, X4, e4, st4⟩ := getS2 X0 hx hZ hown (host := "") (Or.inl (hw _ (List.mem_of_getElem? (i := 22) rfl))) Via.refl e0 S_READ (g := (mkF m 1 #[.val (.ref a1), .val (.ref a2)] [(.ref a1)])) rfl (hb hby d3_1)
  obtain ⟨T6, X6, e6, st6⟩ := getS2 X4 hx hZ hown (host := "") (Or.inl (hw _ (List.mem_of_getElem? (i := 24) rfl))) Via.refl e4 S_UPDATE (g := (mkF m 22 #[.val (.ref a1), .val (.ref a2)] [(.ref a1)])) rfl (hb hby d3_22)
  obtain ⟨fs, hr, hrun, hended, hW, hsame⟩ := X6.leave (v := some (.int (0 : Int32))) (fun h => by rw [Bd.returns] at h; cases h)
  refine ⟨_, _, pre0 _ ?_, hrun, hended, _, _, rfl, ?_, ⟨_, rfl⟩, hW, hsame.mono (by decide) (by decide)⟩
  -- 4. STEPS
  · show Steps p.tables e below (s₁.setTop (mkF m 0 #[.val (.ref a1), .val (.ref a2)] [])) _
    refine XS.aloadN X0.here hx rfl (hb hby d3_0) rfl rfl ?_
    show Steps p.tables e below (s₁.setTop (mkF m 1 #[.val (.ref a1), .val (.ref a2)] [(.ref a1)])) _
    refine st4 _ ?_
    show Steps p.tables e below (T4.setTop (mkF m 4 #[.val (.ref a1), .val (.ref a2)] [(.ref w_READ), (.ref a1)])) _
    refine Jvm.RoadKit.acmp (g := (mkF m 4 #[.val (.ref a1), .val (.ref a2)] [(.ref w_READ), (.ref a1)])) X4 hx rfl rfl rfl (pc0 := 4) (pc' := 21) (same := false) rfl (hb hby d3_4) rfl (decide_eq_false fun q => ha4 (Value.ref.inj q)) (by decide) (by decide) ?_
    show Steps p.tables e below (T4.setTop (mkF m 21 #[.val (.ref a1), .val (.ref a2)] [])) _
    refine XS.aloadN X4.here hx rfl (hb hby d3_21) rfl rfl ?_
    show Steps p.tables e below (T4.setTop (mkF m 22 #[.val (.ref a1), .val (.ref a2)] [(.ref a1)])) _
    refine st6 _ ?_
    show Steps p.tables e below (T6.setTop (mkF m 25 #[.val (.ref a1), .val (.ref a2)] [(.ref w_UPDATE), (.ref a1)])) _
    refine Jvm.RoadKit.acmp (g := (mkF m 25 #[.val (.ref a1), .val (.ref a2)] [(.ref w_UPDATE), (.ref a1)])) X6 hx rfl rfl rfl (pc0 := 25) (pc' := 39) (same := false) rfl (hb hby d3_25) rfl (decide_eq_false fun q => ha25 (Value.ref.inj q)) (by decide) (by decide) ?_
    show Steps p.tables e below (T6.setTop (mkF m 39 #[.val (.ref a1), .val (.ref a2)] [])) _
    refine XS.iconst X6.here hx rfl (hb hby d3_39) ?_
    show Steps p.tables e below (T6.setTop (mkF m 40 #[.val (.ref a1), .val (.ref a2)] [(.int (0 : Int32))])) _
    exact retN X6 hx (t := .boolean) Bd.returns (by simp) (hb hby d3_40) hr
  · show Q3 Z a1 a2 w_READ w_WRITE w_UPDATE h0 n0 _ T6.heap _
    rw [e6]
    exact ⟨by simp_all [upF], N0, rfl⟩
set_option maxRecDepth 65536 in
set_option maxHeartbeats 40000000 in
theorem rm3_tft (l : Launch) (Z : State) (a0 : Array Value) (hw : ∀ d ∈ tables_1, d.before a0 Z = true) (ws : List Jvm.Cond) (a1 : Addr) (a2 : Addr) (w_READ : Addr) (w_WRITE : Addr) (w_UPDATE : Addr) (h0 : Heap) (n0 : Nat) (Z0 : n0 ≤ h0.size) (S_READ : Sta Z h0 "com/example/slackline/slackline/core/LockMode" "READ" "Lcom/example/slackline/slackline/core/LockMode;" (.ref w_READ)) (S_WRITE : Sta Z h0 "com/example/slackline/slackline/core/LockMode" "WRITE" "Lcom/example/slackline/slackline/core/LockMode;" (.ref w_WRITE)) (S_UPDATE : Sta Z h0 "com/example/slackline/slackline/core/LockMode" "UPDATE" "Lcom/example/slackline/slackline/core/LockMode;" (.ref w_UPDATE)) (ha4 : ¬ (a1 = w_READ)) (ha25 : a1 = w_UPDATE) (ha32 : ¬ (a2 = w_WRITE)) :
    MetFree l (⟨"com/example/slackline/slackline/core/LockMode", "upgradedBy", "(Lcom/example/slackline/slackline/core/LockMode;)Z"⟩ : MethodName) (head1 (Jvm.Cond.code (⟨"com/example/slackline/slackline/core/LockMode", "upgradedBy", "(Lcom/example/slackline/slackline/core/LockMode;)Z"⟩ : MethodName) prog_33_method_4_code 2 (some .boolean) :: ws) ({ frames := 0, cells := 0, slots := 0, locals := 0 } : Room)) (fun a U => a = #[(.ref a1), (.ref a2)] ∧ Z.Warmed39 U.vm ∧ U.heap = h0) (fun _ _ _ _ _ => True) (fun _ U o U' => ∃ v L, o = .returned v ∧ Q3 Z a1 a2 w_READ w_WRITE w_UPDATE h0 n0 v U'.heap L ∧ FrameEnd U o U' L ({ frames := 0, cells := 0, slots := 0, locals := 0 } : Room).cells ({ frames := 0, cells := 0, slots := 0, locals := 0 } : Room).slots) := by
  refine MetFree.of_bodySF (plainFor_of_name pn_3) hisR ?_
  intro p e s m args below meth c s₁ Bd hml0 hP hK
  obtain ⟨rfl, hZ, hh⟩ := hP
  have hx := Bd.exec
  have hby := Bd.bytes
  have hml : c.maxLocals = 2 := hml0
  have hown : s.vm.findClass "com/example/slackline/slackline/core/LockMode" = some m.cls := findClass_of_methodNamed Bd.named
  have hnm := (name_of_methodNamed Bd.named Bd.method).1
  have X0 : Stand p l e ({ frames := 0, cells := 0, slots := 0, locals := 0 } : Room) s m #[(.ref a1), (.ref a2)] below meth c s₁ [] 0 0 := Stand.of_body Bd
  have e0 : s₁.heap = h0 := by rw [← hh, Bd.state]; rfl
  have N0 := Fr.nil n0
  have pre0 : ∀ t, Steps p.tables e below (s₁.setTop (mkF m 0 #[.val (.ref a1), .val (.ref a2)] [])) t → Steps p.tables e below (s₁.setTop (entryFrame m #[(.ref a1), (.ref a2)] 2)) t := fun t k => castTop (ef_3 m a1 a2) k
  -- 3. LAWS
  obtain ⟨T4, X4, e4, st4⟩ := getS2 X0 hx hZ hown (host := "") (Or.inl (hw _ (List.mem_of_getElem? (i := 22) rfl))) Via.refl e0 S_READ (g := (mkF m 1 #[.val (.ref a1), .val (.ref a2)] [(.ref a1)])) rfl (hb hby d3_1)
  obtain ⟨T6, X6, e6, st6⟩ := getS2 X4 hx hZ hown (host := "") (Or.inl (hw _ (List.mem_of_getElem? (i := 24) rfl))) Via.refl e4 S_UPDATE (g := (mkF m 22 #[.val (.ref a1), .val (.ref a2)] [(.ref a1)])) rfl (hb hby d3_22)
  obtain ⟨T8, X8, e8, st8⟩ := getS2 X6 hx hZ hown (host := "") (Or.inl (hw _ (List.mem_of_getElem? (i := 23) rfl))) Via.refl e6 S_WRITE (g := (mkF m 29 #[.val (.ref a1), .val (.ref a2)] [(.ref a2)])) rfl (hb hby d3_29)
  obtain ⟨fs, hr, hrun, hended, hW, hsame⟩ := X8.leave (v := some (.int (0 : Int32))) (fun h => by rw [Bd.returns] at h; cases h)
  refine ⟨_, _, pre0 _ ?_, hrun, hended, _, _, rfl, ?_, ⟨_, rfl⟩, hW, hsame.mono (by decide) (by decide)⟩
  -- 4. STEPS
  · show Steps p.tables e below (s₁.setTop (mkF m 0 #[.val (.ref a1), .val (.ref a2)] [])) _
    refine XS.aloadN X0.here hx rfl (hb hby d3_0) rfl rfl ?_
    show Steps p.tables e below (s₁.setTop (mkF m 1 #[.val (.ref a1), .val (.ref a2)] [(.ref a1)])) _
    refine st4 _ ?_
    show Steps p.tables e below (T4.setTop (mkF m 4 #[.val (.ref a1), .val (.ref a2)] [(.ref w_READ), (.ref a1)])) _
    refine Jvm.RoadKit.acmp (g := (mkF m 4 #[.val (.ref a1), .val (.ref a2)] [(.ref w_READ), (.ref a1)])) X4 hx rfl rfl rfl (pc0 := 4) (pc' := 21) (same := false) rfl (hb hby d3_4) rfl (decide_eq_false fun q => ha4 (Value.ref.inj q)) (by decide) (by decide) ?_
    show Steps p.tables e below (T4.setTop (mkF m 21 #[.val (.ref a1), .val (.ref a2)] [])) _
    refine XS.aloadN X4.here hx rfl (hb hby d3_21) rfl rfl ?_
    show Steps p.tables e below (T4.setTop (mkF m 22 #[.val (.ref a1), .val (.ref a2)] [(.ref a1)])) _
    refine st6 _ ?_
    show Steps p.tables e below (T6.setTop (mkF m 25 #[.val (.ref a1), .val (.ref a2)] [(.ref w_UPDATE), (.ref a1)])) _
    refine Jvm.RoadKit.acmp (g := (mkF m 25 #[.val (.ref a1), .val (.ref a2)] [(.ref w_UPDATE), (.ref a1)])) X6 hx rfl rfl rfl (pc0 := 25) (pc' := 28) (same := true) rfl (hb hby d3_25) rfl (decide_eq_true (congrArg Value.ref ha25)) (by decide) (by decide) ?_
    show Steps p.tables e below (T6.setTop (mkF m 28 #[.val (.ref a1), .val (.ref a2)] [])) _
    refine XS.aloadN X6.here hx rfl (hb hby d3_28) rfl rfl ?_
    show Steps p.tables e below (T6.setTop (mkF m 29 #[.val (.ref a1), .val (.ref a2)] [(.ref a2)])) _
    refine st8 _ ?_
    show Steps p.tables e below (T8.setTop (mkF m 32 #[.val (.ref a1), .val (.ref a2)] [(.ref w_WRITE), (.ref a2)])) _
    refine Jvm.RoadKit.acmp (g := (mkF m 32 #[.val (.ref a1), .val (.ref a2)] [(.ref w_WRITE), (.ref a2)])) X8 hx rfl rfl rfl (pc0 := 32) (pc' := 39) (same := false) rfl (hb hby d3_32) rfl (decide_eq_false fun q => ha32 (Value.ref.inj q)) (by decide) (by decide) ?_
    show Steps p.tables e below (T8.setTop (mkF m 39 #[.val (.ref a1), .val (.ref a2)] [])) _
    refine XS.iconst X8.here hx rfl (hb hby d3_39) ?_
    show Steps p.tables e below (T8.setTop (mkF m 40 #[.val (.ref a1), .val (.ref a2)] [(.int (0 : Int32))])) _
    exact retN X8 hx (t := .boolean) Bd.returns (by simp) (hb hby d3_40) hr
  · show Q3 Z a1 a2 w_READ w_WRITE w_UPDATE h0 n0 _ T8.heap _
    rw [e8]
    exact ⟨by simp_all [upF], N0, rfl⟩
set_option maxRecDepth 65536 in
set_option maxHeartbeats 40000000 in
theorem rm3_tff (l : Launch) (Z : State) (a0 : Array Value) (hw : ∀ d ∈ tables_1, d.before a0 Z = true) (ws : List Jvm.Cond) (a1 : Addr) (a2 : Addr) (w_READ : Addr) (w_WRITE : Addr) (w_UPDATE : Addr) (h0 : Heap) (n0 : Nat) (Z0 : n0 ≤ h0.size) (S_READ : Sta Z h0 "com/example/slackline/slackline/core/LockMode" "READ" "Lcom/example/slackline/slackline/core/LockMode;" (.ref w_READ)) (S_WRITE : Sta Z h0 "com/example/slackline/slackline/core/LockMode" "WRITE" "Lcom/example/slackline/slackline/core/LockMode;" (.ref w_WRITE)) (S_UPDATE : Sta Z h0 "com/example/slackline/slackline/core/LockMode" "UPDATE" "Lcom/example/slackline/slackline/core/LockMode;" (.ref w_UPDATE)) (ha4 : ¬ (a1 = w_READ)) (ha25 : a1 = w_UPDATE) (ha32 : a2 = w_WRITE) :
    MetFree l (⟨"com/example/slackline/slackline/core/LockMode", "upgradedBy", "(Lcom/example/slackline/slackline/core/LockMode;)Z"⟩ : MethodName) (head1 (Jvm.Cond.code (⟨"com/example/slackline/slackline/core/LockMode", "upgradedBy", "(Lcom/example/slackline/slackline/core/LockMode;)Z"⟩ : MethodName) prog_33_method_4_code 2 (some .boolean) :: ws) ({ frames := 0, cells := 0, slots := 0, locals := 0 } : Room)) (fun a U => a = #[(.ref a1), (.ref a2)] ∧ Z.Warmed39 U.vm ∧ U.heap = h0) (fun _ _ _ _ _ => True) (fun _ U o U' => ∃ v L, o = .returned v ∧ Q3 Z a1 a2 w_READ w_WRITE w_UPDATE h0 n0 v U'.heap L ∧ FrameEnd U o U' L ({ frames := 0, cells := 0, slots := 0, locals := 0 } : Room).cells ({ frames := 0, cells := 0, slots := 0, locals := 0 } : Room).slots) := by
  refine MetFree.of_bodySF (plainFor_of_name pn_3) hisR ?_
  intro p e s m args below meth c s₁ Bd hml0 hP hK
  obtain ⟨rfl, hZ, hh⟩ := hP
  have hx := Bd.exec
  have hby := Bd.bytes
  have hml : c.maxLocals = 2 := hml0
  have hown : s.vm.findClass "com/example/slackline/slackline/core/LockMode" = some m.cls := findClass_of_methodNamed Bd.named
  have hnm := (name_of_methodNamed Bd.named Bd.method).1
  have X0 : Stand p l e ({ frames := 0, cells := 0, slots := 0, locals := 0 } : Room) s m #[(.ref a1), (.ref a2)] below meth c s₁ [] 0 0 := Stand.of_body Bd
  have e0 : s₁.heap = h0 := by rw [← hh, Bd.state]; rfl
  have N0 := Fr.nil n0
  have pre0 : ∀ t, Steps p.tables e below (s₁.setTop (mkF m 0 #[.val (.ref a1), .val (.ref a2)] [])) t → Steps p.tables e below (s₁.setTop (entryFrame m #[(.ref a1), (.ref a2)] 2)) t := fun t k => castTop (ef_3 m a1 a2) k
  -- 3. LAWS
  obtain ⟨T4, X4, e4, st4⟩ := getS2 X0 hx hZ hown (host := "") (Or.inl (hw _ (List.mem_of_getElem? (i := 22) rfl))) Via.refl e0 S_READ (g := (mkF m 1 #[.val (.ref a1), .val (.ref a2)] [(.ref a1)])) rfl (hb hby d3_1)
  obtain ⟨T6, X6, e6, st6⟩ := getS2 X4 hx hZ hown (host := "") (Or.inl (hw _ (List.mem_of_getElem? (i := 24) rfl))) Via.refl e4 S_UPDATE (g := (mkF m 22 #[.val (.ref a1), .val (.ref a2)] [(.ref a1)])) rfl (hb hby d3_22)
  obtain ⟨T8, X8, e8, st8⟩ := getS2 X6 hx hZ hown (host := "") (Or.inl (hw _ (List.mem_of_getElem? (i := 23) rfl))) Via.refl e6 S_WRITE (g := (mkF m 29 #[.val (.ref a1), .val (.ref a2)] [(.ref a2)])) rfl (hb hby d3_29)
  obtain ⟨fs, hr, hrun, hended, hW, hsame⟩ := X8.leave (v := some (.int (1 : Int32))) (fun h => by rw [Bd.returns] at h; cases h)
  refine ⟨_, _, pre0 _ ?_, hrun, hended, _, _, rfl, ?_, ⟨_, rfl⟩, hW, hsame.mono (by decide) (by decide)⟩
  -- 4. STEPS
  · show Steps p.tables e below (s₁.setTop (mkF m 0 #[.val (.ref a1), .val (.ref a2)] [])) _
    refine XS.aloadN X0.here hx rfl (hb hby d3_0) rfl rfl ?_
    show Steps p.tables e below (s₁.setTop (mkF m 1 #[.val (.ref a1), .val (.ref a2)] [(.ref a1)])) _
    refine st4 _ ?_
    show Steps p.tables e below (T4.setTop (mkF m 4 #[.val (.ref a1), .val (.ref a2)] [(.ref w_READ), (.ref a1)])) _
    refine Jvm.RoadKit.acmp (g := (mkF m 4 #[.val (.ref a1), .val (.ref a2)] [(.ref w_READ), (.ref a1)])) X4 hx rfl rfl rfl (pc0 := 4) (pc' := 21) (same := false) rfl (hb hby d3_4) rfl (decide_eq_false fun q => ha4 (Value.ref.inj q)) (by decide) (by decide) ?_
    show Steps p.tables e below (T4.setTop (mkF m 21 #[.val (.ref a1), .val (.ref a2)] [])) _
    refine XS.aloadN X4.here hx rfl (hb hby d3_21) rfl rfl ?_
    show Steps p.tables e below (T4.setTop (mkF m 22 #[.val (.ref a1), .val (.ref a2)] [(.ref a1)])) _
    refine st6 _ ?_
    show Steps p.tables e below (T6.setTop (mkF m 25 #[.val (.ref a1), .val (.ref a2)] [(.ref w_UPDATE), (.ref a1)])) _
    refine Jvm.RoadKit.acmp (g := (mkF m 25 #[.val (.ref a1), .val (.ref a2)] [(.ref w_UPDATE), (.ref a1)])) X6 hx rfl rfl rfl (pc0 := 25) (pc' := 28) (same := true) rfl (hb hby d3_25) rfl (decide_eq_true (congrArg Value.ref ha25)) (by decide) (by decide) ?_
    show Steps p.tables e below (T6.setTop (mkF m 28 #[.val (.ref a1), .val (.ref a2)] [])) _
    refine XS.aloadN X6.here hx rfl (hb hby d3_28) rfl rfl ?_
    show Steps p.tables e below (T6.setTop (mkF m 29 #[.val (.ref a1), .val (.ref a2)] [(.ref a2)])) _
    refine st8 _ ?_
    show Steps p.tables e below (T8.setTop (mkF m 32 #[.val (.ref a1), .val (.ref a2)] [(.ref w_WRITE), (.ref a2)])) _
    refine Jvm.RoadKit.acmp (g := (mkF m 32 #[.val (.ref a1), .val (.ref a2)] [(.ref w_WRITE), (.ref a2)])) X8 hx rfl rfl rfl (pc0 := 32) (pc' := 35) (same := true) rfl (hb hby d3_32) rfl (decide_eq_true (congrArg Value.ref ha32)) (by decide) (by decide) ?_
    show Steps p.tables e below (T8.setTop (mkF m 35 #[.val (.ref a1), .val (.ref a2)] [])) _
    refine XS.iconst X8.here hx rfl (hb hby d3_35) ?_
    show Steps p.tables e below (T8.setTop (mkF m 36 #[.val (.ref a1), .val (.ref a2)] [(.int (1 : Int32))])) _
    refine XS.goto X8.here hx rfl (pc0 := 36) (pc' := 40) rfl (hb hby d3_36) (by decide) (by decide) ?_
    show Steps p.tables e below (T8.setTop (mkF m 40 #[.val (.ref a1), .val (.ref a2)] [(.int (1 : Int32))])) _
    exact retN X8 hx (t := .boolean) Bd.returns (by simp) (hb hby d3_40) hr
  · show Q3 Z a1 a2 w_READ w_WRITE w_UPDATE h0 n0 _ T8.heap _
    rw [e8]
    exact ⟨by simp_all [upF], N0, rfl⟩
theorem rm3 (l : Launch) (Z : State) (a0 : Array Value) (hw : ∀ d ∈ tables_1, d.before a0 Z = true) (ws : List Jvm.Cond) (a1 : Addr) (a2 : Addr) (w_READ : Addr) (w_WRITE : Addr) (w_UPDATE : Addr) (h0 : Heap) (n0 : Nat) (Z0 : n0 ≤ h0.size) (S_READ : Sta Z h0 "com/example/slackline/slackline/core/LockMode" "READ" "Lcom/example/slackline/slackline/core/LockMode;" (.ref w_READ)) (S_WRITE : Sta Z h0 "com/example/slackline/slackline/core/LockMode" "WRITE" "Lcom/example/slackline/slackline/core/LockMode;" (.ref w_WRITE)) (S_UPDATE : Sta Z h0 "com/example/slackline/slackline/core/LockMode" "UPDATE" "Lcom/example/slackline/slackline/core/LockMode;" (.ref w_UPDATE)) :
    MetFree l (⟨"com/example/slackline/slackline/core/LockMode", "upgradedBy", "(Lcom/example/slackline/slackline/core/LockMode;)Z"⟩ : MethodName) (head1 (Jvm.Cond.code (⟨"com/example/slackline/slackline/core/LockMode", "upgradedBy", "(Lcom/example/slackline/slackline/core/LockMode;)Z"⟩ : MethodName) prog_33_method_4_code 2 (some .boolean) :: ws) ({ frames := 0, cells := 0, slots := 0, locals := 0 } : Room)) (fun a U => a = #[(.ref a1), (.ref a2)] ∧ Z.Warmed39 U.vm ∧ U.heap = h0) (fun _ _ _ _ _ => True) (fun _ U o U' => ∃ v L, o = .returned v ∧ Q3 Z a1 a2 w_READ w_WRITE w_UPDATE h0 n0 v U'.heap L ∧ FrameEnd U o U' L ({ frames := 0, cells := 0, slots := 0, locals := 0 } : Room).cells ({ frames := 0, cells := 0, slots := 0, locals := 0 } : Room).slots) := by
  by_cases ha4 : a1 = w_READ
  · by_cases ha11 : a2 = w_WRITE
    · exact rm3_ft l Z a0 hw ws a1 a2 w_READ w_WRITE w_UPDATE h0 n0 Z0 S_READ S_WRITE S_UPDATE ha4 ha11
    · by_cases ha18 : a2 = w_UPDATE
      · exact rm3_fft l Z a0 hw ws a1 a2 w_READ w_WRITE w_UPDATE h0 n0 Z0 S_READ S_WRITE S_UPDATE ha4 ha11 ha18
      · by_cases ha25 : a1 = w_UPDATE
        · by_cases ha32 : a2 = w_WRITE
          · exact rm3_fffff l Z a0 hw ws a1 a2 w_READ w_WRITE w_UPDATE h0 n0 Z0 S_READ S_WRITE S_UPDATE ha4 ha11 ha18 ha25 ha32
          · exact rm3_fffft l Z a0 hw ws a1 a2 w_READ w_WRITE w_UPDATE h0 n0 Z0 S_READ S_WRITE S_UPDATE ha4 ha11 ha18 ha25 ha32
        · exact rm3_ffft l Z a0 hw ws a1 a2 w_READ w_WRITE w_UPDATE h0 n0 Z0 S_READ S_WRITE S_UPDATE ha4 ha11 ha18 ha25
  · by_cases ha25 : a1 = w_UPDATE
    · by_cases ha32 : a2 = w_WRITE
      · exact rm3_tff l Z a0 hw ws a1 a2 w_READ w_WRITE w_UPDATE h0 n0 Z0 S_READ S_WRITE S_UPDATE ha4 ha25 ha32
      · exact rm3_tft l Z a0 hw ws a1 a2 w_READ w_WRITE w_UPDATE h0 n0 Z0 S_READ S_WRITE S_UPDATE ha4 ha25 ha32
    · exact rm3_tt l Z a0 hw ws a1 a2 w_READ w_WRITE w_UPDATE h0 n0 Z0 S_READ S_WRITE S_UPDATE ha4 ha25
theorem pn_0 : plainName "com/example/slackline/slackline/core/LockModeUpgradedByPinLaw" = true := by first | (simp [plainName, overriddenIn]; done) | decide +kernel
theorem pd_0_0 : parseMethodDescriptor "(I)Lcom/example/slackline/slackline/core/LockMode;" = some ⟨[.int], some (.object "com/example/slackline/slackline/core/LockMode")⟩ := by decide +kernel
theorem pd_0_1 : parseMethodDescriptor "(Lcom/example/slackline/slackline/core/LockMode;)I" = some ⟨[(.object "com/example/slackline/slackline/core/LockMode")], some .int⟩ := by decide +kernel
theorem pd_0_2 : parseMethodDescriptor "(Lcom/example/slackline/slackline/core/LockMode;)Z" = some ⟨[(.object "com/example/slackline/slackline/core/LockMode")], some .boolean⟩ := by decide +kernel
theorem ef_0 (m : MethodId) (x0 : Int32) (x1 : Int32) : entryFrame m #[(.int x0), (.int x1)] maxLocals = mkF m 0 #[.val (.int x0), .val (.int x1), .unset, .unset, .unset, .unset, .unset] [] := by first | (simp [entryFrame, mkF, argsToLocals, Value.category, maxLocals]; done) | rfl
def Q0 (Z : State) (h0 : Heap) (n0 : Nat) (v : Option Value) (h : Heap) (L : List Loc) : Prop := v = some (.int (1 : Int32)) ∧ Fr n0 L
set_option maxRecDepth 65536 in
set_option maxHeartbeats 40000000 in
theorem rm0_tf (l : Launch) (Z : State) (a0 : Array Value) (hw : ∀ d ∈ tables_1, d.before a0 Z = true) (ws : List Jvm.Cond) (p1 : Int32) (p2 : Int32) (w_READ : Addr) (w_WRITE : Addr) (w_UPDATE : Addr) (w_CERTIFY : Addr) (A : Addr) (B : Addr) (r1 : Int32) (r2 : Int32) (u : Int32) (h0 : Heap) (n0 : Nat) (Z0 : n0 ≤ h0.size) (S_READ : Sta Z h0 "com/example/slackline/slackline/core/LockMode" "READ" "Lcom/example/slackline/slackline/core/LockMode;" (.ref w_READ)) (S_WRITE : Sta Z h0 "com/example/slackline/slackline/core/LockMode" "WRITE" "Lcom/example/slackline/slackline/core/LockMode;" (.ref w_WRITE)) (S_UPDATE : Sta Z h0 "com/example/slackline/slackline/core/LockMode" "UPDATE" "Lcom/example/slackline/slackline/core/LockMode;" (.ref w_UPDATE)) (S_CERTIFY : Sta Z h0 "com/example/slackline/slackline/core/LockMode" "CERTIFY" "Lcom/example/slackline/slackline/core/LockMode;" (.ref w_CERTIFY)) (E_A : Exa Z h0 A "com/example/slackline/slackline/core/LockMode") (hA : modeF ((p1 &&& (2147483647 : Int32)) % (4 : Int32)) w_READ w_WRITE w_UPDATE w_CERTIFY = A) (hB : modeF ((p2 &&& (2147483647 : Int32)) % (4 : Int32)) w_READ w_WRITE w_UPDATE w_CERTIFY = B) (hr1 : rankF A w_READ w_UPDATE w_WRITE = r1) (hr2 : rankF B w_READ w_UPDATE w_WRITE = r2) (hu : upF A B w_READ w_WRITE w_UPDATE = u) (hv34 : r1 = (0 : Int32)) (hv63 : u = (0 : Int32)) :
    MetFree l x (head1 (Jvm.Cond.code x code maxLocals ret :: ws) room_1) (fun a U => a = #[(.int p1), (.int p2)] ∧ Z.Warmed39 U.vm ∧ U.heap = h0) (fun _ _ _ _ _ => True) (fun _ U o U' => ∃ v L, o = .returned v ∧ Q0 Z h0 n0 v U'.heap L ∧ FrameEnd U o U' L room_1.cells room_1.slots) := by
  refine MetFree.of_bodySF (plainFor_of_name pn_0) hisR ?_
  intro p e s m args below meth c s₁ Bd hml0 hP hK
  obtain ⟨rfl, hZ, hh⟩ := hP
  have hx := Bd.exec
  have hby := Bd.bytes
  have hml : c.maxLocals = 7 := hml0
  have hown : s.vm.findClass "com/example/slackline/slackline/core/LockModeUpgradedByPinLaw" = some m.cls := findClass_of_methodNamed Bd.named
  have hnm := (name_of_methodNamed Bd.named Bd.method).1
  have X0 : Stand p l e room_1 s m #[(.int p1), (.int p2)] below meth c s₁ [] 0 0 := Stand.of_body Bd
  have e0 : s₁.heap = h0 := by rw [← hh, Bd.state]; rfl
  have N0 := Fr.nil n0
  have pre0 : ∀ t, Steps p.tables e below (s₁.setTop (mkF m 0 #[.val (.int p1), .val (.int p2), .unset, .unset, .unset, .unset, .unset] [])) t → Steps p.tables e below (s₁.setTop (entryFrame m #[(.int p1), (.int p2)] maxLocals)) t := fun t k => castTop (ef_0 m p1 p2) k
  -- 3. LAWS
  -- pc 6: com/example/slackline/slackline/core/LockModeUpgradedByPinLaw.mode by its contract rm1
  obtain ⟨_, _, ⟨T3, L3, k3, n3⟩, -, X3, ⟨Lc3, hQ3, l3, y3, z3⟩, st3⟩ := Jvm.LawKit.callS X0 hx (y := (⟨"com/example/slackline/slackline/core/LockModeUpgradedByPinLaw", "mode", "(I)Lcom/example/slackline/slackline/core/LockMode;"⟩ : MethodName)) hown (mvT hZ (hw _ (List.mem_of_getElem? (i := 1) rfl))) (mvT hZ (hw _ (List.mem_of_getElem? (i := 2) rfl))) (mvT hZ (hw _ (List.mem_of_getElem? (i := 3) rfl))) (mvT hZ (hw _ (List.mem_of_getElem? (i := 4) rfl))) (by decide) (backOf (W := 0) (rm1 l Z a0 hw [] ((p1 &&& (2147483647 : Int32)) % (4 : Int32)) w_READ w_WRITE w_UPDATE w_CERTIFY h0 n0 Z0 S_READ S_WRITE S_UPDATE S_CERTIFY) hZ (hw _ (List.mem_of_getElem? (i := 4) rfl)) (hw _ (List.mem_of_getElem? (i := 3) rfl)) (by decide) (by decide)) (g := (mkF m 6 #[.val (.int p1), .val (.int p2), .unset, .unset, .unset, .unset, .unset] [(.int ((p1 &&& (2147483647 : Int32)) % (4 : Int32)))])) rfl (by rw [hml]; rfl) (argsL := [(.int ((p1 &&& (2147483647 : Int32)) % (4 : Int32)))]) (rest := []) (lenOf pd_0_0 rfl) rfl (by show 2 * 0 + _ ≤ _; exact Nat.le_of_eq rfl) (hb hby at_6) (fun _ _ => ⟨rfl, e0, (by decide : 0 + 0 ≤ _), (by decide : 0 + 0 ≤ _)⟩)
  dsimp only [Pt.U, Pt.locs, Pt.cells, Pt.slots] at X3 l3 y3 z3 st3 hQ3
  subst l3 y3 z3
  obtain ⟨rv3, N3q, q3⟩ := hQ3
  rw [hA] at rv3
  subst rv3
  have N3 := Fr.app N0 N3q
  -- pc 16: com/example/slackline/slackline/core/LockModeUpgradedByPinLaw.mode by its contract rm1
  obtain ⟨_, _, ⟨T4, L4, k4, n4⟩, -, X4, ⟨Lc4, hQ4, l4, y4, z4⟩, st4⟩ := Jvm.LawKit.callS X3 hx (y := (⟨"com/example/slackline/slackline/core/LockModeUpgradedByPinLaw", "mode", "(I)Lcom/example/slackline/slackline/core/LockMode;"⟩ : MethodName)) hown (mvT hZ (hw _ (List.mem_of_getElem? (i := 1) rfl))) (mvT hZ (hw _ (List.mem_of_getElem? (i := 2) rfl))) (mvT hZ (hw _ (List.mem_of_getElem? (i := 3) rfl))) (mvT hZ (hw _ (List.mem_of_getElem? (i := 4) rfl))) (by decide) (backOf (W := 0) (rm1 l Z a0 hw [] ((p2 &&& (2147483647 : Int32)) % (4 : Int32)) w_READ w_WRITE w_UPDATE w_CERTIFY h0 n0 Z0 S_READ S_WRITE S_UPDATE S_CERTIFY) hZ (hw _ (List.mem_of_getElem? (i := 4) rfl)) (hw _ (List.mem_of_getElem? (i := 3) rfl)) (by decide) (by decide)) (g := (mkF m 16 #[.val (.int p1), .val (.int p2), .val (.ref A), .unset, .unset, .unset, .unset] [(.int ((p2 &&& (2147483647 : Int32)) % (4 : Int32)))])) rfl (by rw [hml]; rfl) (argsL := [(.int ((p2 &&& (2147483647 : Int32)) % (4 : Int32)))]) (rest := []) (lenOf pd_0_0 rfl) rfl (by show 2 * 0 + _ ≤ _; exact Nat.le_of_eq rfl) (hb hby at_16) (fun _ _ => ⟨rfl, q3, (by decide : 0 + 0 ≤ _), (by decide : 0 + 0 ≤ _)⟩)
  dsimp only [Pt.U, Pt.locs, Pt.cells, Pt.slots] at X4 l4 y4 z4 st4 hQ4
  subst l4 y4 z4
  obtain ⟨rv4, N4q, q4⟩ := hQ4
  rw [hB] at rv4
  subst rv4
  have N4 := Fr.app N3 N4q
  -- pc 21: com/example/slackline/slackline/core/LockModeUpgradedByPinLaw.rank by its contract rm2
  obtain ⟨_, _, ⟨T5, L5, k5, n5⟩, -, X5, ⟨Lc5, hQ5, l5, y5, z5⟩, st5⟩ := Jvm.LawKit.callS X4 hx (y := (⟨"com/example/slackline/slackline/core/LockModeUpgradedByPinLaw", "rank", "(Lcom/example/slackline/slackline/core/LockMode;)I"⟩ : MethodName)) hown (mvT hZ (hw _ (List.mem_of_getElem? (i := 10) rfl))) (mvT hZ (hw _ (List.mem_of_getElem? (i := 11) rfl))) (mvT hZ (hw _ (List.mem_of_getElem? (i := 3) rfl))) (mvT hZ (hw _ (List.mem_of_getElem? (i := 12) rfl))) (by decide) (backOf (W := 0) (rm2 l Z a0 hw [] A w_READ w_UPDATE w_WRITE h0 n0 Z0 S_READ S_UPDATE S_WRITE) hZ (hw _ (List.mem_of_getElem? (i := 12) rfl)) (hw _ (List.mem_of_getElem? (i := 3) rfl)) (by decide) (by decide)) (g := (mkF m 21 #[.val (.int p1), .val (.int p2), .val (.ref A), .val (.ref B), .unset, .unset, .unset] [(.ref A)])) rfl (by rw [hml]; rfl) (argsL := [(.ref A)]) (rest := []) (lenOf pd_0_1 rfl) rfl (by show 2 * 0 + _ ≤ _; exact Nat.le_of_eq rfl) (hb hby at_21) (fun _ _ => ⟨rfl, q4, (by decide : 0 + 0 ≤ _), (by decide : 0 + 0 ≤ _)⟩)
  dsimp only [Pt.U, Pt.locs, Pt.cells, Pt.slots] at X5 l5 y5 z5 st5 hQ5
  subst l5 y5 z5
  obtain ⟨rv5, N5q, q5⟩ := hQ5
  rw [hr1] at rv5
  subst rv5
  have N5 := Fr.app N4 N5q
  -- pc 27: com/example/slackline/slackline/core/LockModeUpgradedByPinLaw.rank by its contract rm2
  obtain ⟨_, _, ⟨T6, L6, k6, n6⟩, -, X6, ⟨Lc6, hQ6, l6, y6, z6⟩, st6⟩ := Jvm.LawKit.callS X5 hx (y := (⟨"com/example/slackline/slackline/core/LockModeUpgradedByPinLaw", "rank", "(Lcom/example/slackline/slackline/core/LockMode;)I"⟩ : MethodName)) hown (mvT hZ (hw _ (List.mem_of_getElem? (i := 10) rfl))) (mvT hZ (hw _ (List.mem_of_getElem? (i := 11) rfl))) (mvT hZ (hw _ (List.mem_of_getElem? (i := 3) rfl))) (mvT hZ (hw _ (List.mem_of_getElem? (i := 12) rfl))) (by decide) (backOf (W := 0) (rm2 l Z a0 hw [] B w_READ w_UPDATE w_WRITE h0 n0 Z0 S_READ S_UPDATE S_WRITE) hZ (hw _ (List.mem_of_getElem? (i := 12) rfl)) (hw _ (List.mem_of_getElem? (i := 3) rfl)) (by decide) (by decide)) (g := (mkF m 27 #[.val (.int p1), .val (.int p2), .val (.ref A), .val (.ref B), .val (.int r1), .unset, .unset] [(.ref B)])) rfl (by rw [hml]; rfl) (argsL := [(.ref B)]) (rest := []) (lenOf pd_0_1 rfl) rfl (by show 2 * 0 + _ ≤ _; exact Nat.le_of_eq rfl) (hb hby at_27) (fun _ _ => ⟨rfl, q5, (by decide : 0 + 0 ≤ _), (by decide : 0 + 0 ≤ _)⟩)
  dsimp only [Pt.U, Pt.locs, Pt.cells, Pt.slots] at X6 l6 y6 z6 st6 hQ6
  subst l6 y6 z6
  obtain ⟨rv6, N6q, q6⟩ := hQ6
  rw [hr2] at rv6
  subst rv6
  have N6 := Fr.app N5 N6q
  -- pc 58: com/example/slackline/slackline/core/LockMode.upgradedBy by the contract of the body that the receiver's class selects, rm3
  obtain ⟨cq7, kq7, q7a, q7b, q7c⟩ := isOf hZ q6 E_A
  obtain ⟨_, _, ⟨T7, L7, k7, n7⟩, -, X7, ⟨Lc7, hQ7, l7, y7, z7⟩, st7⟩ := X6.virtualBack hx (y := (⟨"com/example/slackline/slackline/core/LockMode", "upgradedBy", "(Lcom/example/slackline/slackline/core/LockMode;)Z"⟩ : MethodName)) (z := (⟨"com/example/slackline/slackline/core/LockMode", "upgradedBy", "(Lcom/example/slackline/slackline/core/LockMode;)Z"⟩ : MethodName)) hown (mvT hZ (hw _ (List.mem_of_getElem? (i := 17) rfl))) (mvT hZ (hw _ (List.mem_of_getElem? (i := 18) rfl))) (notFace_of_selects (args := #[]) (mvT hZ (hw _ (List.mem_of_getElem? (i := 20) rfl)))) (mvT hZ (hw _ (List.mem_of_getElem? (i := 20) rfl))) (mvT hZ (hw _ (List.mem_of_getElem? (i := 19) rfl))) (by decide) (backOf (W := 0) (rm3 l Z a0 hw [] A B w_READ w_WRITE w_UPDATE h0 n0 Z0 S_READ S_WRITE S_UPDATE) hZ (hw _ (List.mem_of_getElem? (i := 21) rfl)) (hw _ (List.mem_of_getElem? (i := 6) rfl)) (by decide) (by decide)) q7a q7c (g := (mkF m 58 #[.val (.int p1), .val (.int p2), .val (.ref A), .val (.ref B), .val (.int r1), .val (.int r2), .val (.int (0 : Int32))] [(.ref B), (.ref A)])) rfl (by rw [hml]; rfl) (Steps.refl _) (argsL := [(.ref B)]) (rest := []) (lenOf pd_0_2 rfl) rfl (by show 2 * 0 + _ ≤ _; exact Nat.le_of_eq rfl) (hb hby at_58) (fun _ _ => ⟨rfl, q6, (by decide : 0 + 0 ≤ _), (by decide : 0 + 0 ≤ _)⟩)
  dsimp only [Pt.U, Pt.locs, Pt.cells, Pt.slots] at X7 l7 y7 z7 st7 hQ7
  subst l7 y7 z7
  obtain ⟨rv7, N7q, q7⟩ := hQ7
  rw [hu] at rv7
  subst rv7
  have N7 := Fr.app N6 N7q
  obtain ⟨fs, hr, hrun, hended, hW, hsame⟩ := X7.leave (v := some (.int (1 : Int32))) (fun h => by rw [Bd.returns] at h; cases h)
  refine ⟨_, _, pre0 _ ?_, hrun, hended, _, _, rfl, ?_, ⟨_, rfl⟩, hW, hsame.mono (by decide) (by decide)⟩
  -- 4. STEPS
  · show Steps p.tables e below (s₁.setTop (mkF m 0 #[.val (.int p1), .val (.int p2), .unset, .unset, .unset, .unset, .unset] [])) _
    refine XS.iloadN X0.here hx rfl (hb hby at_0) rfl ?_
    show Steps p.tables e below (s₁.setTop (mkF m 1 #[.val (.int p1), .val (.int p2), .unset, .unset, .unset, .unset, .unset] [(.int p1)])) _
    refine X0.ldcInt hx hown (mvT hZ (hw _ (List.mem_of_getElem? (i := 0) rfl))) (g := (mkF m 1 #[.val (.int p1), .val (.int p2), .unset, .unset, .unset, .unset, .unset] [(.int p1)])) rfl (hb hby at_1) _ ?_
    show Steps p.tables e below (s₁.setTop (mkF m 3 #[.val (.int p1), .val (.int p2), .unset, .unset, .unset, .unset, .unset] [(.int (2147483647 : Int32)), (.int p1)])) _
    refine XS.iand X0.here hx rfl (hb hby at_3) rfl ?_
    show Steps p.tables e below (s₁.setTop (mkF m 4 #[.val (.int p1), .val (.int p2), .unset, .unset, .unset, .unset, .unset] [(.int (p1 &&& (2147483647 : Int32)))])) _
    refine XS.iconst X0.here hx rfl (hb hby at_4) ?_
    show Steps p.tables e below (s₁.setTop (mkF m 5 #[.val (.int p1), .val (.int p2), .unset, .unset, .unset, .unset, .unset] [(.int (4 : Int32)), (.int (p1 &&& (2147483647 : Int32)))])) _
    refine iremM X0 hx rfl (hb hby at_5) rfl (by decide) ?_
    show Steps p.tables e below (s₁.setTop (mkF m 6 #[.val (.int p1), .val (.int p2), .unset, .unset, .unset, .unset, .unset] [(.int ((p1 &&& (2147483647 : Int32)) % (4 : Int32)))])) _
    refine st3 _ ?_
    show Steps p.tables e below (T3.setTop (mkF m 9 #[.val (.int p1), .val (.int p2), .unset, .unset, .unset, .unset, .unset] [(.ref A)])) _
    refine XS.astoreN X3.here hx rfl (hb hby at_9) rfl rfl (l' := #[.val (.int p1), .val (.int p2), .val (.ref A), .unset, .unset, .unset, .unset]) rfl ?_
    show Steps p.tables e below (T3.setTop (mkF m 10 #[.val (.int p1), .val (.int p2), .val (.ref A), .unset, .unset, .unset, .unset] [])) _
    refine XS.iloadN X3.here hx rfl (hb hby at_10) rfl ?_
    show Steps p.tables e below (T3.setTop (mkF m 11 #[.val (.int p1), .val (.int p2), .val (.ref A), .unset, .unset, .unset, .unset] [(.int p2)])) _
    refine X3.ldcInt hx hown (mvT hZ (hw _ (List.mem_of_getElem? (i := 0) rfl))) (g := (mkF m 11 #[.val (.int p1), .val (.int p2), .val (.ref A), .unset, .unset, .unset, .unset] [(.int p2)])) rfl (hb hby at_11) _ ?_
    show Steps p.tables e below (T3.setTop (mkF m 13 #[.val (.int p1), .val (.int p2), .val (.ref A), .unset, .unset, .unset, .unset] [(.int (2147483647 : Int32)), (.int p2)])) _
    refine XS.iand X3.here hx rfl (hb hby at_13) rfl ?_
    show Steps p.tables e below (T3.setTop (mkF m 14 #[.val (.int p1), .val (.int p2), .val (.ref A), .unset, .unset, .unset, .unset] [(.int (p2 &&& (2147483647 : Int32)))])) _
    refine XS.iconst X3.here hx rfl (hb hby at_14) ?_
    show Steps p.tables e below (T3.setTop (mkF m 15 #[.val (.int p1), .val (.int p2), .val (.ref A), .unset, .unset, .unset, .unset] [(.int (4 : Int32)), (.int (p2 &&& (2147483647 : Int32)))])) _
    refine iremM X3 hx rfl (hb hby at_15) rfl (by decide) ?_
    show Steps p.tables e below (T3.setTop (mkF m 16 #[.val (.int p1), .val (.int p2), .val (.ref A), .unset, .unset, .unset, .unset] [(.int ((p2 &&& (2147483647 : Int32)) % (4 : Int32)))])) _
    refine st4 _ ?_
    show Steps p.tables e below (T4.setTop (mkF m 19 #[.val (.int p1), .val (.int p2), .val (.ref A), .unset, .unset, .unset, .unset] [(.ref B)])) _
    refine XS.astoreN X4.here hx rfl (hb hby at_19) rfl rfl (l' := #[.val (.int p1), .val (.int p2), .val (.ref A), .val (.ref B), .unset, .unset, .unset]) rfl ?_
    show Steps p.tables e below (T4.setTop (mkF m 20 #[.val (.int p1), .val (.int p2), .val (.ref A), .val (.ref B), .unset, .unset, .unset] [])) _
    refine XS.aloadN X4.here hx rfl (hb hby at_20) rfl rfl ?_
    show Steps p.tables e below (T4.setTop (mkF m 21 #[.val (.int p1), .val (.int p2), .val (.ref A), .val (.ref B), .unset, .unset, .unset] [(.ref A)])) _
    refine st5 _ ?_
    show Steps p.tables e below (T5.setTop (mkF m 24 #[.val (.int p1), .val (.int p2), .val (.ref A), .val (.ref B), .unset, .unset, .unset] [(.int r1)])) _
    refine XS.istore X5.here hx rfl (hb hby at_24) rfl (l' := #[.val (.int p1), .val (.int p2), .val (.ref A), .val (.ref B), .val (.int r1), .unset, .unset]) rfl ?_
    show Steps p.tables e below (T5.setTop (mkF m 26 #[.val (.int p1), .val (.int p2), .val (.ref A), .val (.ref B), .val (.int r1), .unset, .unset] [])) _
    refine XS.aloadN X5.here hx rfl (hb hby at_26) rfl rfl ?_
    show Steps p.tables e below (T5.setTop (mkF m 27 #[.val (.int p1), .val (.int p2), .val (.ref A), .val (.ref B), .val (.int r1), .unset, .unset] [(.ref B)])) _
    refine st6 _ ?_
    show Steps p.tables e below (T6.setTop (mkF m 30 #[.val (.int p1), .val (.int p2), .val (.ref A), .val (.ref B), .val (.int r1), .unset, .unset] [(.int r2)])) _
    refine XS.istore X6.here hx rfl (hb hby at_30) rfl (l' := #[.val (.int p1), .val (.int p2), .val (.ref A), .val (.ref B), .val (.int r1), .val (.int r2), .unset]) rfl ?_
    show Steps p.tables e below (T6.setTop (mkF m 32 #[.val (.int p1), .val (.int p2), .val (.ref A), .val (.ref B), .val (.int r1), .val (.int r2), .unset] [])) _
    refine XS.iload X6.here hx rfl (hb hby at_32) rfl ?_
    show Steps p.tables e below (T6.setTop (mkF m 34 #[.val (.int p1), .val (.int p2), .val (.ref A), .val (.ref B), .val (.int r1), .val (.int r2), .unset] [(.int r1)])) _
    refine XS.ifYes X6.here hx rfl (pc0 := 34) (pc' := 53) rfl (hb hby at_34) rfl ((if0 _ _).trans (teq (hv34 : r1 = (0 : Int32))).1) (by decide) (by decide) ?_
    show Steps p.tables e below (T6.setTop (mkF m 53 #[.val (.int p1), .val (.int p2), .val (.ref A), .val (.ref B), .val (.int r1), .val (.int r2), .unset] [])) _
    refine XS.iconst X6.here hx rfl (hb hby at_53) ?_
    show Steps p.tables e below (T6.setTop (mkF m 54 #[.val (.int p1), .val (.int p2), .val (.ref A), .val (.ref B), .val (.int r1), .val (.int r2), .unset] [(.int (0 : Int32))])) _
    refine XS.istore X6.here hx rfl (hb hby at_54) rfl (l' := #[.val (.int p1), .val (.int p2), .val (.ref A), .val (.ref B), .val (.int r1), .val (.int r2), .val (.int (0 : Int32))]) rfl ?_
    show Steps p.tables e below (T6.setTop (mkF m 56 #[.val (.int p1), .val (.int p2), .val (.ref A), .val (.ref B), .val (.int r1), .val (.int r2), .val (.int (0 : Int32))] [])) _
    refine XS.aloadN X6.here hx rfl (hb hby at_56) rfl rfl ?_
    show Steps p.tables e below (T6.setTop (mkF m 57 #[.val (.int p1), .val (.int p2), .val (.ref A), .val (.ref B), .val (.int r1), .val (.int r2), .val (.int (0 : Int32))] [(.ref A)])) _
    refine XS.aloadN X6.here hx rfl (hb hby at_57) rfl rfl ?_
    show Steps p.tables e below (T6.setTop (mkF m 58 #[.val (.int p1), .val (.int p2), .val (.ref A), .val (.ref B), .val (.int r1), .val (.int r2), .val (.int (0 : Int32))] [(.ref B), (.ref A)])) _
    refine st7.trans ?_
    show Steps p.tables e below (T7.setTop (mkF m 61 #[.val (.int p1), .val (.int p2), .val (.ref A), .val (.ref B), .val (.int r1), .val (.int r2), .val (.int (0 : Int32))] [(.int u)])) _
    refine XS.iload X7.here hx rfl (hb hby at_61) rfl ?_
    show Steps p.tables e below (T7.setTop (mkF m 63 #[.val (.int p1), .val (.int p2), .val (.ref A), .val (.ref B), .val (.int r1), .val (.int r2), .val (.int (0 : Int32))] [(.int (0 : Int32)), (.int u)])) _
    refine XS.icmpNo X7.here hx rfl (hb hby at_63) rfl (teq (hv63 : u = (0 : Int32))).2 ?_
    show Steps p.tables e below (T7.setTop (mkF m 66 #[.val (.int p1), .val (.int p2), .val (.ref A), .val (.ref B), .val (.int r1), .val (.int r2), .val (.int (0 : Int32))] [])) _
    refine XS.iconst X7.here hx rfl (hb hby at_66) ?_
    show Steps p.tables e below (T7.setTop (mkF m 67 #[.val (.int p1), .val (.int p2), .val (.ref A), .val (.ref B), .val (.int r1), .val (.int r2), .val (.int (0 : Int32))] [(.int (1 : Int32))])) _
    refine XS.goto X7.here hx rfl (pc0 := 67) (pc' := 71) rfl (hb hby at_67) (by decide) (by decide) ?_
    show Steps p.tables e below (T7.setTop (mkF m 71 #[.val (.int p1), .val (.int p2), .val (.ref A), .val (.ref B), .val (.int r1), .val (.int r2), .val (.int (0 : Int32))] [(.int (1 : Int32))])) _
    exact retN X7 hx (t := .boolean) Bd.returns (by simp) (hb hby at_71) hr
  · show Q0 Z h0 n0 _ T7.heap _
    exact ⟨rfl, N7⟩
set_option maxRecDepth 65536 in
set_option maxHeartbeats 40000000 in
theorem rm0_ftf (l : Launch) (Z : State) (a0 : Array Value) (hw : ∀ d ∈ tables_1, d.before a0 Z = true) (ws : List Jvm.Cond) (p1 : Int32) (p2 : Int32) (w_READ : Addr) (w_WRITE : Addr) (w_UPDATE : Addr) (w_CERTIFY : Addr) (A : Addr) (B : Addr) (r1 : Int32) (r2 : Int32) (u : Int32) (h0 : Heap) (n0 : Nat) (Z0 : n0 ≤ h0.size) (S_READ : Sta Z h0 "com/example/slackline/slackline/core/LockMode" "READ" "Lcom/example/slackline/slackline/core/LockMode;" (.ref w_READ)) (S_WRITE : Sta Z h0 "com/example/slackline/slackline/core/LockMode" "WRITE" "Lcom/example/slackline/slackline/core/LockMode;" (.ref w_WRITE)) (S_UPDATE : Sta Z h0 "com/example/slackline/slackline/core/LockMode" "UPDATE" "Lcom/example/slackline/slackline/core/LockMode;" (.ref w_UPDATE)) (S_CERTIFY : Sta Z h0 "com/example/slackline/slackline/core/LockMode" "CERTIFY" "Lcom/example/slackline/slackline/core/LockMode;" (.ref w_CERTIFY)) (E_A : Exa Z h0 A "com/example/slackline/slackline/core/LockMode") (hA : modeF ((p1 &&& (2147483647 : Int32)) % (4 : Int32)) w_READ w_WRITE w_UPDATE w_CERTIFY = A) (hB : modeF ((p2 &&& (2147483647 : Int32)) % (4 : Int32)) w_READ w_WRITE w_UPDATE w_CERTIFY = B) (hr1 : rankF A w_READ w_UPDATE w_WRITE = r1) (hr2 : rankF B w_READ w_UPDATE w_WRITE = r2) (hu : upF A B w_READ w_WRITE w_UPDATE = u) (hv34 : ¬ (r1 = (0 : Int32))) (hv39 : r2 = (0 : Int32)) (hv63 : u = (0 : Int32)) :
    MetFree l x (head1 (Jvm.Cond.code x code maxLocals ret :: ws) room_1) (fun a U => a = #[(.int p1), (.int p2)] ∧ Z.Warmed39 U.vm ∧ U.heap = h0) (fun _ _ _ _ _ => True) (fun _ U o U' => ∃ v L, o = .returned v ∧ Q0 Z h0 n0 v U'.heap L ∧ FrameEnd U o U' L room_1.cells room_1.slots) := by
  refine MetFree.of_bodySF (plainFor_of_name pn_0) hisR ?_
  intro p e s m args below meth c s₁ Bd hml0 hP hK
  obtain ⟨rfl, hZ, hh⟩ := hP
  have hx := Bd.exec
  have hby := Bd.bytes
  have hml : c.maxLocals = 7 := hml0
  have hown : s.vm.findClass "com/example/slackline/slackline/core/LockModeUpgradedByPinLaw" = some m.cls := findClass_of_methodNamed Bd.named
  have hnm := (name_of_methodNamed Bd.named Bd.method).1
  have X0 : Stand p l e room_1 s m #[(.int p1), (.int p2)] below meth c s₁ [] 0 0 := Stand.of_body Bd
  have e0 : s₁.heap = h0 := by rw [← hh, Bd.state]; rfl
  have N0 := Fr.nil n0
  have pre0 : ∀ t, Steps p.tables e below (s₁.setTop (mkF m 0 #[.val (.int p1), .val (.int p2), .unset, .unset, .unset, .unset, .unset] [])) t → Steps p.tables e below (s₁.setTop (entryFrame m #[(.int p1), (.int p2)] maxLocals)) t := fun t k => castTop (ef_0 m p1 p2) k
  -- 3. LAWS
  -- pc 6: com/example/slackline/slackline/core/LockModeUpgradedByPinLaw.mode by its contract rm1
  obtain ⟨_, _, ⟨T3, L3, k3, n3⟩, -, X3, ⟨Lc3, hQ3, l3, y3, z3⟩, st3⟩ := Jvm.LawKit.callS X0 hx (y := (⟨"com/example/slackline/slackline/core/LockModeUpgradedByPinLaw", "mode", "(I)Lcom/example/slackline/slackline/core/LockMode;"⟩ : MethodName)) hown (mvT hZ (hw _ (List.mem_of_getElem? (i := 1) rfl))) (mvT hZ (hw _ (List.mem_of_getElem? (i := 2) rfl))) (mvT hZ (hw _ (List.mem_of_getElem? (i := 3) rfl))) (mvT hZ (hw _ (List.mem_of_getElem? (i := 4) rfl))) (by decide) (backOf (W := 0) (rm1 l Z a0 hw [] ((p1 &&& (2147483647 : Int32)) % (4 : Int32)) w_READ w_WRITE w_UPDATE w_CERTIFY h0 n0 Z0 S_READ S_WRITE S_UPDATE S_CERTIFY) hZ (hw _ (List.mem_of_getElem? (i := 4) rfl)) (hw _ (List.mem_of_getElem? (i := 3) rfl)) (by decide) (by decide)) (g := (mkF m 6 #[.val (.int p1), .val (.int p2), .unset, .unset, .unset, .unset, .unset] [(.int ((p1 &&& (2147483647 : Int32)) % (4 : Int32)))])) rfl (by rw [hml]; rfl) (argsL := [(.int ((p1 &&& (2147483647 : Int32)) % (4 : Int32)))]) (rest := []) (lenOf pd_0_0 rfl) rfl (by show 2 * 0 + _ ≤ _; exact Nat.le_of_eq rfl) (hb hby at_6) (fun _ _ => ⟨rfl, e0, (by decide : 0 + 0 ≤ _), (by decide : 0 + 0 ≤ _)⟩)
  dsimp only [Pt.U, Pt.locs, Pt.cells, Pt.slots] at X3 l3 y3 z3 st3 hQ3
  subst l3 y3 z3
  obtain ⟨rv3, N3q, q3⟩ := hQ3
  rw [hA] at rv3
  subst rv3
  have N3 := Fr.app N0 N3q
  -- pc 16: com/example/slackline/slackline/core/LockModeUpgradedByPinLaw.mode by its contract rm1
  obtain ⟨_, _, ⟨T4, L4, k4, n4⟩, -, X4, ⟨Lc4, hQ4, l4, y4, z4⟩, st4⟩ := Jvm.LawKit.callS X3 hx (y := (⟨"com/example/slackline/slackline/core/LockModeUpgradedByPinLaw", "mode", "(I)Lcom/example/slackline/slackline/core/LockMode;"⟩ : MethodName)) hown (mvT hZ (hw _ (List.mem_of_getElem? (i := 1) rfl))) (mvT hZ (hw _ (List.mem_of_getElem? (i := 2) rfl))) (mvT hZ (hw _ (List.mem_of_getElem? (i := 3) rfl))) (mvT hZ (hw _ (List.mem_of_getElem? (i := 4) rfl))) (by decide) (backOf (W := 0) (rm1 l Z a0 hw [] ((p2 &&& (2147483647 : Int32)) % (4 : Int32)) w_READ w_WRITE w_UPDATE w_CERTIFY h0 n0 Z0 S_READ S_WRITE S_UPDATE S_CERTIFY) hZ (hw _ (List.mem_of_getElem? (i := 4) rfl)) (hw _ (List.mem_of_getElem? (i := 3) rfl)) (by decide) (by decide)) (g := (mkF m 16 #[.val (.int p1), .val (.int p2), .val (.ref A), .unset, .unset, .unset, .unset] [(.int ((p2 &&& (2147483647 : Int32)) % (4 : Int32)))])) rfl (by rw [hml]; rfl) (argsL := [(.int ((p2 &&& (2147483647 : Int32)) % (4 : Int32)))]) (rest := []) (lenOf pd_0_0 rfl) rfl (by show 2 * 0 + _ ≤ _; exact Nat.le_of_eq rfl) (hb hby at_16) (fun _ _ => ⟨rfl, q3, (by decide : 0 + 0 ≤ _), (by decide : 0 + 0 ≤ _)⟩)
  dsimp only [Pt.U, Pt.locs, Pt.cells, Pt.slots] at X4 l4 y4 z4 st4 hQ4
  subst l4 y4 z4
  obtain ⟨rv4, N4q, q4⟩ := hQ4
  rw [hB] at rv4
  subst rv4
  have N4 := Fr.app N3 N4q
  -- pc 21: com/example/slackline/slackline/core/LockModeUpgradedByPinLaw.rank by its contract rm2
  obtain ⟨_, _, ⟨T5, L5, k5, n5⟩, -, X5, ⟨Lc5, hQ5, l5, y5, z5⟩, st5⟩ := Jvm.LawKit.callS X4 hx (y := (⟨"com/example/slackline/slackline/core/LockModeUpgradedByPinLaw", "rank", "(Lcom/example/slackline/slackline/core/LockMode;)I"⟩ : MethodName)) hown (mvT hZ (hw _ (List.mem_of_getElem? (i := 10) rfl))) (mvT hZ (hw _ (List.mem_of_getElem? (i := 11) rfl))) (mvT hZ (hw _ (List.mem_of_getElem? (i := 3) rfl))) (mvT hZ (hw _ (List.mem_of_getElem? (i := 12) rfl))) (by decide) (backOf (W := 0) (rm2 l Z a0 hw [] A w_READ w_UPDATE w_WRITE h0 n0 Z0 S_READ S_UPDATE S_WRITE) hZ (hw _ (List.mem_of_getElem? (i := 12) rfl)) (hw _ (List.mem_of_getElem? (i := 3) rfl)) (by decide) (by decide)) (g := (mkF m 21 #[.val (.int p1), .val (.int p2), .val (.ref A), .val (.ref B), .unset, .unset, .unset] [(.ref A)])) rfl (by rw [hml]; rfl) (argsL := [(.ref A)]) (rest := []) (lenOf pd_0_1 rfl) rfl (by show 2 * 0 + _ ≤ _; exact Nat.le_of_eq rfl) (hb hby at_21) (fun _ _ => ⟨rfl, q4, (by decide : 0 + 0 ≤ _), (by decide : 0 + 0 ≤ _)⟩)
  dsimp only [Pt.U, Pt.locs, Pt.cells, Pt.slots] at X5 l5 y5 z5 st5 hQ5
  subst l5 y5 z5
  obtain ⟨rv5, N5q, q5⟩ := hQ5
  rw [hr1] at rv5
  subst rv5
  have N5 := Fr.app N4 N5q
  -- pc 27: com/example/slackline/slackline/core/LockModeUpgradedByPinLaw.rank by its contract rm2
  obtain ⟨_, _, ⟨T6, L6, k6, n6⟩, -, X6, ⟨Lc6, hQ6, l6, y6, z6⟩, st6⟩ := Jvm.LawKit.callS X5 hx (y := (⟨"com/example/slackline/slackline/core/LockModeUpgradedByPinLaw", "rank", "(Lcom/example/slackline/slackline/core/LockMode;)I"⟩ : MethodName)) hown (mvT hZ (hw _ (List.mem_of_getElem? (i := 10) rfl))) (mvT hZ (hw _ (List.mem_of_getElem? (i := 11) rfl))) (mvT hZ (hw _ (List.mem_of_getElem? (i := 3) rfl))) (mvT hZ (hw _ (List.mem_of_getElem? (i := 12) rfl))) (by decide) (backOf (W := 0) (rm2 l Z a0 hw [] B w_READ w_UPDATE w_WRITE h0 n0 Z0 S_READ S_UPDATE S_WRITE) hZ (hw _ (List.mem_of_getElem? (i := 12) rfl)) (hw _ (List.mem_of_getElem? (i := 3) rfl)) (by decide) (by decide)) (g := (mkF m 27 #[.val (.int p1), .val (.int p2), .val (.ref A), .val (.ref B), .val (.int r1), .unset, .unset] [(.ref B)])) rfl (by rw [hml]; rfl) (argsL := [(.ref B)]) (rest := []) (lenOf pd_0_1 rfl) rfl (by show 2 * 0 + _ ≤ _; exact Nat.le_of_eq rfl) (hb hby at_27) (fun _ _ => ⟨rfl, q5, (by decide : 0 + 0 ≤ _), (by decide : 0 + 0 ≤ _)⟩)
  dsimp only [Pt.U, Pt.locs, Pt.cells, Pt.slots] at X6 l6 y6 z6 st6 hQ6
  subst l6 y6 z6
  obtain ⟨rv6, N6q, q6⟩ := hQ6
  rw [hr2] at rv6
  subst rv6
  have N6 := Fr.app N5 N6q
  -- pc 58: com/example/slackline/slackline/core/LockMode.upgradedBy by the contract of the body that the receiver's class selects, rm3
  obtain ⟨cq7, kq7, q7a, q7b, q7c⟩ := isOf hZ q6 E_A
  obtain ⟨_, _, ⟨T7, L7, k7, n7⟩, -, X7, ⟨Lc7, hQ7, l7, y7, z7⟩, st7⟩ := X6.virtualBack hx (y := (⟨"com/example/slackline/slackline/core/LockMode", "upgradedBy", "(Lcom/example/slackline/slackline/core/LockMode;)Z"⟩ : MethodName)) (z := (⟨"com/example/slackline/slackline/core/LockMode", "upgradedBy", "(Lcom/example/slackline/slackline/core/LockMode;)Z"⟩ : MethodName)) hown (mvT hZ (hw _ (List.mem_of_getElem? (i := 17) rfl))) (mvT hZ (hw _ (List.mem_of_getElem? (i := 18) rfl))) (notFace_of_selects (args := #[]) (mvT hZ (hw _ (List.mem_of_getElem? (i := 20) rfl)))) (mvT hZ (hw _ (List.mem_of_getElem? (i := 20) rfl))) (mvT hZ (hw _ (List.mem_of_getElem? (i := 19) rfl))) (by decide) (backOf (W := 0) (rm3 l Z a0 hw [] A B w_READ w_WRITE w_UPDATE h0 n0 Z0 S_READ S_WRITE S_UPDATE) hZ (hw _ (List.mem_of_getElem? (i := 21) rfl)) (hw _ (List.mem_of_getElem? (i := 6) rfl)) (by decide) (by decide)) q7a q7c (g := (mkF m 58 #[.val (.int p1), .val (.int p2), .val (.ref A), .val (.ref B), .val (.int r1), .val (.int r2), .val (.int (0 : Int32))] [(.ref B), (.ref A)])) rfl (by rw [hml]; rfl) (Steps.refl _) (argsL := [(.ref B)]) (rest := []) (lenOf pd_0_2 rfl) rfl (by show 2 * 0 + _ ≤ _; exact Nat.le_of_eq rfl) (hb hby at_58) (fun _ _ => ⟨rfl, q6, (by decide : 0 + 0 ≤ _), (by decide : 0 + 0 ≤ _)⟩)
  dsimp only [Pt.U, Pt.locs, Pt.cells, Pt.slots] at X7 l7 y7 z7 st7 hQ7
  subst l7 y7 z7
  obtain ⟨rv7, N7q, q7⟩ := hQ7
  rw [hu] at rv7
  subst rv7
  have N7 := Fr.app N6 N7q
  obtain ⟨fs, hr, hrun, hended, hW, hsame⟩ := X7.leave (v := some (.int (1 : Int32))) (fun h => by rw [Bd.returns] at h; cases h)
  refine ⟨_, _, pre0 _ ?_, hrun, hended, _, _, rfl, ?_, ⟨_, rfl⟩, hW, hsame.mono (by decide) (by decide)⟩
  -- 4. STEPS
  · show Steps p.tables e below (s₁.setTop (mkF m 0 #[.val (.int p1), .val (.int p2), .unset, .unset, .unset, .unset, .unset] [])) _
    refine XS.iloadN X0.here hx rfl (hb hby at_0) rfl ?_
    show Steps p.tables e below (s₁.setTop (mkF m 1 #[.val (.int p1), .val (.int p2), .unset, .unset, .unset, .unset, .unset] [(.int p1)])) _
    refine X0.ldcInt hx hown (mvT hZ (hw _ (List.mem_of_getElem? (i := 0) rfl))) (g := (mkF m 1 #[.val (.int p1), .val (.int p2), .unset, .unset, .unset, .unset, .unset] [(.int p1)])) rfl (hb hby at_1) _ ?_
    show Steps p.tables e below (s₁.setTop (mkF m 3 #[.val (.int p1), .val (.int p2), .unset, .unset, .unset, .unset, .unset] [(.int (2147483647 : Int32)), (.int p1)])) _
    refine XS.iand X0.here hx rfl (hb hby at_3) rfl ?_
    show Steps p.tables e below (s₁.setTop (mkF m 4 #[.val (.int p1), .val (.int p2), .unset, .unset, .unset, .unset, .unset] [(.int (p1 &&& (2147483647 : Int32)))])) _
    refine XS.iconst X0.here hx rfl (hb hby at_4) ?_
    show Steps p.tables e below (s₁.setTop (mkF m 5 #[.val (.int p1), .val (.int p2), .unset, .unset, .unset, .unset, .unset] [(.int (4 : Int32)), (.int (p1 &&& (2147483647 : Int32)))])) _
    refine iremM X0 hx rfl (hb hby at_5) rfl (by decide) ?_
    show Steps p.tables e below (s₁.setTop (mkF m 6 #[.val (.int p1), .val (.int p2), .unset, .unset, .unset, .unset, .unset] [(.int ((p1 &&& (2147483647 : Int32)) % (4 : Int32)))])) _
    refine st3 _ ?_
    show Steps p.tables e below (T3.setTop (mkF m 9 #[.val (.int p1), .val (.int p2), .unset, .unset, .unset, .unset, .unset] [(.ref A)])) _
    refine XS.astoreN X3.here hx rfl (hb hby at_9) rfl rfl (l' := #[.val (.int p1), .val (.int p2), .val (.ref A), .unset, .unset, .unset, .unset]) rfl ?_
    show Steps p.tables e below (T3.setTop (mkF m 10 #[.val (.int p1), .val (.int p2), .val (.ref A), .unset, .unset, .unset, .unset] [])) _
    refine XS.iloadN X3.here hx rfl (hb hby at_10) rfl ?_
    show Steps p.tables e below (T3.setTop (mkF m 11 #[.val (.int p1), .val (.int p2), .val (.ref A), .unset, .unset, .unset, .unset] [(.int p2)])) _
    refine X3.ldcInt hx hown (mvT hZ (hw _ (List.mem_of_getElem? (i := 0) rfl))) (g := (mkF m 11 #[.val (.int p1), .val (.int p2), .val (.ref A), .unset, .unset, .unset, .unset] [(.int p2)])) rfl (hb hby at_11) _ ?_
    show Steps p.tables e below (T3.setTop (mkF m 13 #[.val (.int p1), .val (.int p2), .val (.ref A), .unset, .unset, .unset, .unset] [(.int (2147483647 : Int32)), (.int p2)])) _
    refine XS.iand X3.here hx rfl (hb hby at_13) rfl ?_
    show Steps p.tables e below (T3.setTop (mkF m 14 #[.val (.int p1), .val (.int p2), .val (.ref A), .unset, .unset, .unset, .unset] [(.int (p2 &&& (2147483647 : Int32)))])) _
    refine XS.iconst X3.here hx rfl (hb hby at_14) ?_
    show Steps p.tables e below (T3.setTop (mkF m 15 #[.val (.int p1), .val (.int p2), .val (.ref A), .unset, .unset, .unset, .unset] [(.int (4 : Int32)), (.int (p2 &&& (2147483647 : Int32)))])) _
    refine iremM X3 hx rfl (hb hby at_15) rfl (by decide) ?_
    show Steps p.tables e below (T3.setTop (mkF m 16 #[.val (.int p1), .val (.int p2), .val (.ref A), .unset, .unset, .unset, .unset] [(.int ((p2 &&& (2147483647 : Int32)) % (4 : Int32)))])) _
    refine st4 _ ?_
    show Steps p.tables e below (T4.setTop (mkF m 19 #[.val (.int p1), .val (.int p2), .val (.ref A), .unset, .unset, .unset, .unset] [(.ref B)])) _
    refine XS.astoreN X4.here hx rfl (hb hby at_19) rfl rfl (l' := #[.val (.int p1), .val (.int p2), .val (.ref A), .val (.ref B), .unset, .unset, .unset]) rfl ?_
    show Steps p.tables e below (T4.setTop (mkF m 20 #[.val (.int p1), .val (.int p2), .val (.ref A), .val (.ref B), .unset, .unset, .unset] [])) _
    refine XS.aloadN X4.here hx rfl (hb hby at_20) rfl rfl ?_
    show Steps p.tables e below (T4.setTop (mkF m 21 #[.val (.int p1), .val (.int p2), .val (.ref A), .val (.ref B), .unset, .unset, .unset] [(.ref A)])) _
    refine st5 _ ?_
    show Steps p.tables e below (T5.setTop (mkF m 24 #[.val (.int p1), .val (.int p2), .val (.ref A), .val (.ref B), .unset, .unset, .unset] [(.int r1)])) _
    refine XS.istore X5.here hx rfl (hb hby at_24) rfl (l' := #[.val (.int p1), .val (.int p2), .val (.ref A), .val (.ref B), .val (.int r1), .unset, .unset]) rfl ?_
    show Steps p.tables e below (T5.setTop (mkF m 26 #[.val (.int p1), .val (.int p2), .val (.ref A), .val (.ref B), .val (.int r1), .unset, .unset] [])) _
    refine XS.aloadN X5.here hx rfl (hb hby at_26) rfl rfl ?_
    show Steps p.tables e below (T5.setTop (mkF m 27 #[.val (.int p1), .val (.int p2), .val (.ref A), .val (.ref B), .val (.int r1), .unset, .unset] [(.ref B)])) _
    refine st6 _ ?_
    show Steps p.tables e below (T6.setTop (mkF m 30 #[.val (.int p1), .val (.int p2), .val (.ref A), .val (.ref B), .val (.int r1), .unset, .unset] [(.int r2)])) _
    refine XS.istore X6.here hx rfl (hb hby at_30) rfl (l' := #[.val (.int p1), .val (.int p2), .val (.ref A), .val (.ref B), .val (.int r1), .val (.int r2), .unset]) rfl ?_
    show Steps p.tables e below (T6.setTop (mkF m 32 #[.val (.int p1), .val (.int p2), .val (.ref A), .val (.ref B), .val (.int r1), .val (.int r2), .unset] [])) _
    refine XS.iload X6.here hx rfl (hb hby at_32) rfl ?_
    show Steps p.tables e below (T6.setTop (mkF m 34 #[.val (.int p1), .val (.int p2), .val (.ref A), .val (.ref B), .val (.int r1), .val (.int r2), .unset] [(.int r1)])) _
    refine XS.ifNo X6.here hx rfl (hb hby at_34) rfl ((if0 _ _).trans (feq (hv34 : ¬ (r1 = (0 : Int32)))).1) ?_
    show Steps p.tables e below (T6.setTop (mkF m 37 #[.val (.int p1), .val (.int p2), .val (.ref A), .val (.ref B), .val (.int r1), .val (.int r2), .unset] [])) _
    refine XS.iload X6.here hx rfl (hb hby at_37) rfl ?_
    show Steps p.tables e below (T6.setTop (mkF m 39 #[.val (.int p1), .val (.int p2), .val (.ref A), .val (.ref B), .val (.int r1), .val (.int r2), .unset] [(.int r2)])) _
    refine XS.ifYes X6.here hx rfl (pc0 := 39) (pc' := 53) rfl (hb hby at_39) rfl ((if0 _ _).trans (teq (hv39 : r2 = (0 : Int32))).1) (by decide) (by decide) ?_
    show Steps p.tables e below (T6.setTop (mkF m 53 #[.val (.int p1), .val (.int p2), .val (.ref A), .val (.ref B), .val (.int r1), .val (.int r2), .unset] [])) _
    refine XS.iconst X6.here hx rfl (hb hby at_53) ?_
    show Steps p.tables e below (T6.setTop (mkF m 54 #[.val (.int p1), .val (.int p2), .val (.ref A), .val (.ref B), .val (.int r1), .val (.int r2), .unset] [(.int (0 : Int32))])) _
    refine XS.istore X6.here hx rfl (hb hby at_54) rfl (l' := #[.val (.int p1), .val (.int p2), .val (.ref A), .val (.ref B), .val (.int r1), .val (.int r2), .val (.int (0 : Int32))]) rfl ?_
    show Steps p.tables e below (T6.setTop (mkF m 56 #[.val (.int p1), .val (.int p2), .val (.ref A), .val (.ref B), .val (.int r1), .val (.int r2), .val (.int (0 : Int32))] [])) _
    refine XS.aloadN X6.here hx rfl (hb hby at_56) rfl rfl ?_
    show Steps p.tables e below (T6.setTop (mkF m 57 #[.val (.int p1), .val (.int p2), .val (.ref A), .val (.ref B), .val (.int r1), .val (.int r2), .val (.int (0 : Int32))] [(.ref A)])) _
    refine XS.aloadN X6.here hx rfl (hb hby at_57) rfl rfl ?_
    show Steps p.tables e below (T6.setTop (mkF m 58 #[.val (.int p1), .val (.int p2), .val (.ref A), .val (.ref B), .val (.int r1), .val (.int r2), .val (.int (0 : Int32))] [(.ref B), (.ref A)])) _
    refine st7.trans ?_
    show Steps p.tables e below (T7.setTop (mkF m 61 #[.val (.int p1), .val (.int p2), .val (.ref A), .val (.ref B), .val (.int r1), .val (.int r2), .val (.int (0 : Int32))] [(.int u)])) _
    refine XS.iload X7.here hx rfl (hb hby at_61) rfl ?_
    show Steps p.tables e below (T7.setTop (mkF m 63 #[.val (.int p1), .val (.int p2), .val (.ref A), .val (.ref B), .val (.int r1), .val (.int r2), .val (.int (0 : Int32))] [(.int (0 : Int32)), (.int u)])) _
    refine XS.icmpNo X7.here hx rfl (hb hby at_63) rfl (teq (hv63 : u = (0 : Int32))).2 ?_
    show Steps p.tables e below (T7.setTop (mkF m 66 #[.val (.int p1), .val (.int p2), .val (.ref A), .val (.ref B), .val (.int r1), .val (.int r2), .val (.int (0 : Int32))] [])) _
    refine XS.iconst X7.here hx rfl (hb hby at_66) ?_
    show Steps p.tables e below (T7.setTop (mkF m 67 #[.val (.int p1), .val (.int p2), .val (.ref A), .val (.ref B), .val (.int r1), .val (.int r2), .val (.int (0 : Int32))] [(.int (1 : Int32))])) _
    refine XS.goto X7.here hx rfl (pc0 := 67) (pc' := 71) rfl (hb hby at_67) (by decide) (by decide) ?_
    show Steps p.tables e below (T7.setTop (mkF m 71 #[.val (.int p1), .val (.int p2), .val (.ref A), .val (.ref B), .val (.int r1), .val (.int r2), .val (.int (0 : Int32))] [(.int (1 : Int32))])) _
    exact retN X7 hx (t := .boolean) Bd.returns (by simp) (hb hby at_71) hr
  · show Q0 Z h0 n0 _ T7.heap _
    exact ⟨rfl, N7⟩
set_option maxRecDepth 65536 in
set_option maxHeartbeats 40000000 in
theorem rm0_fftf (l : Launch) (Z : State) (a0 : Array Value) (hw : ∀ d ∈ tables_1, d.before a0 Z = true) (ws : List Jvm.Cond) (p1 : Int32) (p2 : Int32) (w_READ : Addr) (w_WRITE : Addr) (w_UPDATE : Addr) (w_CERTIFY : Addr) (A : Addr) (B : Addr) (r1 : Int32) (r2 : Int32) (u : Int32) (h0 : Heap) (n0 : Nat) (Z0 : n0 ≤ h0.size) (S_READ : Sta Z h0 "com/example/slackline/slackline/core/LockMode" "READ" "Lcom/example/slackline/slackline/core/LockMode;" (.ref w_READ)) (S_WRITE : Sta Z h0 "com/example/slackline/slackline/core/LockMode" "WRITE" "Lcom/example/slackline/slackline/core/LockMode;" (.ref w_WRITE)) (S_UPDATE : Sta Z h0 "com/example/slackline/slackline/core/LockMode" "UPDATE" "Lcom/example/slackline/slackline/core/LockMode;" (.ref w_UPDATE)) (S_CERTIFY : Sta Z h0 "com/example/slackline/slackline/core/LockMode" "CERTIFY" "Lcom/example/slackline/slackline/core/LockMode;" (.ref w_CERTIFY)) (E_A : Exa Z h0 A "com/example/slackline/slackline/core/LockMode") (hA : modeF ((p1 &&& (2147483647 : Int32)) % (4 : Int32)) w_READ w_WRITE w_UPDATE w_CERTIFY = A) (hB : modeF ((p2 &&& (2147483647 : Int32)) % (4 : Int32)) w_READ w_WRITE w_UPDATE w_CERTIFY = B) (hr1 : rankF A w_READ w_UPDATE w_WRITE = r1) (hr2 : rankF B w_READ w_UPDATE w_WRITE = r2) (hu : upF A B w_READ w_WRITE w_UPDATE = u) (hv34 : ¬ (r1 = (0 : Int32))) (hv39 : ¬ (r2 = (0 : Int32))) (hv46 : ¬ (r1 < r2)) (hv63 : u = (0 : Int32)) :
    MetFree l x (head1 (Jvm.Cond.code x code maxLocals ret :: ws) room_1) (fun a U => a = #[(.int p1), (.int p2)] ∧ Z.Warmed39 U.vm ∧ U.heap = h0) (fun _ _ _ _ _ => True) (fun _ U o U' => ∃ v L, o = .returned v ∧ Q0 Z h0 n0 v U'.heap L ∧ FrameEnd U o U' L room_1.cells room_1.slots) := by
  refine MetFree.of_bodySF (plainFor_of_name pn_0) hisR ?_
  intro p e s m args below meth c s₁ Bd hml0 hP hK
  obtain ⟨rfl, hZ, hh⟩ := hP
  have hx := Bd.exec
  have hby := Bd.bytes
  have hml : c.maxLocals = 7 := hml0
  have hown : s.vm.findClass "com/example/slackline/slackline/core/LockModeUpgradedByPinLaw" = some m.cls := findClass_of_methodNamed Bd.named
  have hnm := (name_of_methodNamed Bd.named Bd.method).1
  have X0 : Stand p l e room_1 s m #[(.int p1), (.int p2)] below meth c s₁ [] 0 0 := Stand.of_body Bd
  have e0 : s₁.heap = h0 := by rw [← hh, Bd.state]; rfl
  have N0 := Fr.nil n0
  have pre0 : ∀ t, Steps p.tables e below (s₁.setTop (mkF m 0 #[.val (.int p1), .val (.int p2), .unset, .unset, .unset, .unset, .unset] [])) t → Steps p.tables e below (s₁.setTop (entryFrame m #[(.int p1), (.int p2)] maxLocals)) t := fun t k => castTop (ef_0 m p1 p2) k
  -- 3. LAWS
  -- pc 6: com/example/slackline/slackline/core/LockModeUpgradedByPinLaw.mode by its contract rm1
  obtain ⟨_, _, ⟨T3, L3, k3, n3⟩, -, X3, ⟨Lc3, hQ3, l3, y3, z3⟩, st3⟩ := Jvm.LawKit.callS X0 hx (y := (⟨"com/example/slackline/slackline/core/LockModeUpgradedByPinLaw", "mode", "(I)Lcom/example/slackline/slackline/core/LockMode;"⟩ : MethodName)) hown (mvT hZ (hw _ (List.mem_of_getElem? (i := 1) rfl))) (mvT hZ (hw _ (List.mem_of_getElem? (i := 2) rfl))) (mvT hZ (hw _ (List.mem_of_getElem? (i := 3) rfl))) (mvT hZ (hw _ (List.mem_of_getElem? (i := 4) rfl))) (by decide) (backOf (W := 0) (rm1 l Z a0 hw [] ((p1 &&& (2147483647 : Int32)) % (4 : Int32)) w_READ w_WRITE w_UPDATE w_CERTIFY h0 n0 Z0 S_READ S_WRITE S_UPDATE S_CERTIFY) hZ (hw _ (List.mem_of_getElem? (i := 4) rfl)) (hw _ (List.mem_of_getElem? (i := 3) rfl)) (by decide) (by decide)) (g := (mkF m 6 #[.val (.int p1), .val (.int p2), .unset, .unset, .unset, .unset, .unset] [(.int ((p1 &&& (2147483647 : Int32)) % (4 : Int32)))])) rfl (by rw [hml]; rfl) (argsL := [(.int ((p1 &&& (2147483647 : Int32)) % (4 : Int32)))]) (rest := []) (lenOf pd_0_0 rfl) rfl (by show 2 * 0 + _ ≤ _; exact Nat.le_of_eq rfl) (hb hby at_6) (fun _ _ => ⟨rfl, e0, (by decide : 0 + 0 ≤ _), (by decide : 0 + 0 ≤ _)⟩)
  dsimp only [Pt.U, Pt.locs, Pt.cells, Pt.slots] at X3 l3 y3 z3 st3 hQ3
  subst l3 y3 z3
  obtain ⟨rv3, N3q, q3⟩ := hQ3
  rw [hA] at rv3
  subst rv3
  have N3 := Fr.app N0 N3q
  -- pc 16: com/example/slackline/slackline/core/LockModeUpgradedByPinLaw.mode by its contract rm1
  obtain ⟨_, _, ⟨T4, L4, k4, n4⟩, -, X4, ⟨Lc4, hQ4, l4, y4, z4⟩, st4⟩ := Jvm.LawKit.callS X3 hx (y := (⟨"com/example/slackline/slackline/core/LockModeUpgradedByPinLaw", "mode", "(I)Lcom/example/slackline/slackline/core/LockMode;"⟩ : MethodName)) hown (mvT hZ (hw _ (List.mem_of_getElem? (i := 1) rfl))) (mvT hZ (hw _ (List.mem_of_getElem? (i := 2) rfl))) (mvT hZ (hw _ (List.mem_of_getElem? (i := 3) rfl))) (mvT hZ (hw _ (List.mem_of_getElem? (i := 4) rfl))) (by decide) (backOf (W := 0) (rm1 l Z a0 hw [] ((p2 &&& (2147483647 : Int32)) % (4 : Int32)) w_READ w_WRITE w_UPDATE w_CERTIFY h0 n0 Z0 S_READ S_WRITE S_UPDATE S_CERTIFY) hZ (hw _ (List.mem_of_getElem? (i := 4) rfl)) (hw _ (List.mem_of_getElem? (i := 3) rfl)) (by decide) (by decide)) (g := (mkF m 16 #[.val (.int p1), .val (.int p2), .val (.ref A), .unset, .unset, .unset, .unset] [(.int ((p2 &&& (2147483647 : Int32)) % (4 : Int32)))])) rfl (by rw [hml]; rfl) (argsL := [(.int ((p2 &&& (2147483647 : Int32)) % (4 : Int32)))]) (rest := []) (lenOf pd_0_0 rfl) rfl (by show 2 * 0 + _ ≤ _; exact Nat.le_of_eq rfl) (hb hby at_16) (fun _ _ => ⟨rfl, q3, (by decide : 0 + 0 ≤ _), (by decide : 0 + 0 ≤ _)⟩)
  dsimp only [Pt.U, Pt.locs, Pt.cells, Pt.slots] at X4 l4 y4 z4 st4 hQ4
  subst l4 y4 z4
  obtain ⟨rv4, N4q, q4⟩ := hQ4
  rw [hB] at rv4
  subst rv4
  have N4 := Fr.app N3 N4q
  -- pc 21: com/example/slackline/slackline/core/LockModeUpgradedByPinLaw.rank by its contract rm2
  obtain ⟨_, _, ⟨T5, L5, k5, n5⟩, -, X5, ⟨Lc5, hQ5, l5, y5, z5⟩, st5⟩ := Jvm.LawKit.callS X4 hx (y := (⟨"com/example/slackline/slackline/core/LockModeUpgradedByPinLaw", "rank", "(Lcom/example/slackline/slackline/core/LockMode;)I"⟩ : MethodName)) hown (mvT hZ (hw _ (List.mem_of_getElem? (i := 10) rfl))) (mvT hZ (hw _ (List.mem_of_getElem? (i := 11) rfl))) (mvT hZ (hw _ (List.mem_of_getElem? (i := 3) rfl))) (mvT hZ (hw _ (List.mem_of_getElem? (i := 12) rfl))) (by decide) (backOf (W := 0) (rm2 l Z a0 hw [] A w_READ w_UPDATE w_WRITE h0 n0 Z0 S_READ S_UPDATE S_WRITE) hZ (hw _ (List.mem_of_getElem? (i := 12) rfl)) (hw _ (List.mem_of_getElem? (i := 3) rfl)) (by decide) (by decide)) (g := (mkF m 21 #[.val (.int p1), .val (.int p2), .val (.ref A), .val (.ref B), .unset, .unset, .unset] [(.ref A)])) rfl (by rw [hml]; rfl) (argsL := [(.ref A)]) (rest := []) (lenOf pd_0_1 rfl) rfl (by show 2 * 0 + _ ≤ _; exact Nat.le_of_eq rfl) (hb hby at_21) (fun _ _ => ⟨rfl, q4, (by decide : 0 + 0 ≤ _), (by decide : 0 + 0 ≤ _)⟩)
  dsimp only [Pt.U, Pt.locs, Pt.cells, Pt.slots] at X5 l5 y5 z5 st5 hQ5
  subst l5 y5 z5
  obtain ⟨rv5, N5q, q5⟩ := hQ5
  rw [hr1] at rv5
  subst rv5
  have N5 := Fr.app N4 N5q
  -- pc 27: com/example/slackline/slackline/core/LockModeUpgradedByPinLaw.rank by its contract rm2
  obtain ⟨_, _, ⟨T6, L6, k6, n6⟩, -, X6, ⟨Lc6, hQ6, l6, y6, z6⟩, st6⟩ := Jvm.LawKit.callS X5 hx (y := (⟨"com/example/slackline/slackline/core/LockModeUpgradedByPinLaw", "rank", "(Lcom/example/slackline/slackline/core/LockMode;)I"⟩ : MethodName)) hown (mvT hZ (hw _ (List.mem_of_getElem? (i := 10) rfl))) (mvT hZ (hw _ (List.mem_of_getElem? (i := 11) rfl))) (mvT hZ (hw _ (List.mem_of_getElem? (i := 3) rfl))) (mvT hZ (hw _ (List.mem_of_getElem? (i := 12) rfl))) (by decide) (backOf (W := 0) (rm2 l Z a0 hw [] B w_READ w_UPDATE w_WRITE h0 n0 Z0 S_READ S_UPDATE S_WRITE) hZ (hw _ (List.mem_of_getElem? (i := 12) rfl)) (hw _ (List.mem_of_getElem? (i := 3) rfl)) (by decide) (by decide)) (g := (mkF m 27 #[.val (.int p1), .val (.int p2), .val (.ref A), .val (.ref B), .val (.int r1), .unset, .unset] [(.ref B)])) rfl (by rw [hml]; rfl) (argsL := [(.ref B)]) (rest := []) (lenOf pd_0_1 rfl) rfl (by show 2 * 0 + _ ≤ _; exact Nat.le_of_eq rfl) (hb hby at_27) (fun _ _ => ⟨rfl, q5, (by decide : 0 + 0 ≤ _), (by decide : 0 + 0 ≤ _)⟩)
  dsimp only [Pt.U, Pt.locs, Pt.cells, Pt.slots] at X6 l6 y6 z6 st6 hQ6
  subst l6 y6 z6
  obtain ⟨rv6, N6q, q6⟩ := hQ6
  rw [hr2] at rv6
  subst rv6
  have N6 := Fr.app N5 N6q
  -- pc 58: com/example/slackline/slackline/core/LockMode.upgradedBy by the contract of the body that the receiver's class selects, rm3
  obtain ⟨cq7, kq7, q7a, q7b, q7c⟩ := isOf hZ q6 E_A
  obtain ⟨_, _, ⟨T7, L7, k7, n7⟩, -, X7, ⟨Lc7, hQ7, l7, y7, z7⟩, st7⟩ := X6.virtualBack hx (y := (⟨"com/example/slackline/slackline/core/LockMode", "upgradedBy", "(Lcom/example/slackline/slackline/core/LockMode;)Z"⟩ : MethodName)) (z := (⟨"com/example/slackline/slackline/core/LockMode", "upgradedBy", "(Lcom/example/slackline/slackline/core/LockMode;)Z"⟩ : MethodName)) hown (mvT hZ (hw _ (List.mem_of_getElem? (i := 17) rfl))) (mvT hZ (hw _ (List.mem_of_getElem? (i := 18) rfl))) (notFace_of_selects (args := #[]) (mvT hZ (hw _ (List.mem_of_getElem? (i := 20) rfl)))) (mvT hZ (hw _ (List.mem_of_getElem? (i := 20) rfl))) (mvT hZ (hw _ (List.mem_of_getElem? (i := 19) rfl))) (by decide) (backOf (W := 0) (rm3 l Z a0 hw [] A B w_READ w_WRITE w_UPDATE h0 n0 Z0 S_READ S_WRITE S_UPDATE) hZ (hw _ (List.mem_of_getElem? (i := 21) rfl)) (hw _ (List.mem_of_getElem? (i := 6) rfl)) (by decide) (by decide)) q7a q7c (g := (mkF m 58 #[.val (.int p1), .val (.int p2), .val (.ref A), .val (.ref B), .val (.int r1), .val (.int r2), .val (.int (0 : Int32))] [(.ref B), (.ref A)])) rfl (by rw [hml]; rfl) (Steps.refl _) (argsL := [(.ref B)]) (rest := []) (lenOf pd_0_2 rfl) rfl (by show 2 * 0 + _ ≤ _; exact Nat.le_of_eq rfl) (hb hby at_58) (fun _ _ => ⟨rfl, q6, (by decide : 0 + 0 ≤ _), (by decide : 0 + 0 ≤ _)⟩)
  dsimp only [Pt.U, Pt.locs, Pt.cells, Pt.slots] at X7 l7 y7 z7 st7 hQ7
  subst l7 y7 z7
  obtain ⟨rv7, N7q, q7⟩ := hQ7
  rw [hu] at rv7
  subst rv7
  have N7 := Fr.app N6 N7q
  obtain ⟨fs, hr, hrun, hended, hW, hsame⟩ := X7.leave (v := some (.int (1 : Int32))) (fun h => by rw [Bd.returns] at h; cases h)
  refine ⟨_, _, pre0 _ ?_, hrun, hended, _, _, rfl, ?_, ⟨_, rfl⟩, hW, hsame.mono (by decide) (by decide)⟩
  -- 4. STEPS
  · show Steps p.tables e below (s₁.setTop (mkF m 0 #[.val (.int p1), .val (.int p2), .unset, .unset, .unset, .unset, .unset] [])) _
    refine XS.iloadN X0.here hx rfl (hb hby at_0) rfl ?_
    show Steps p.tables e below (s₁.setTop (mkF m 1 #[.val (.int p1), .val (.int p2), .unset, .unset, .unset, .unset, .unset] [(.int p1)])) _
    refine X0.ldcInt hx hown (mvT hZ (hw _ (List.mem_of_getElem? (i := 0) rfl))) (g := (mkF m 1 #[.val (.int p1), .val (.int p2), .unset, .unset, .unset, .unset, .unset] [(.int p1)])) rfl (hb hby at_1) _ ?_
    show Steps p.tables e below (s₁.setTop (mkF m 3 #[.val (.int p1), .val (.int p2), .unset, .unset, .unset, .unset, .unset] [(.int (2147483647 : Int32)), (.int p1)])) _
    refine XS.iand X0.here hx rfl (hb hby at_3) rfl ?_
    show Steps p.tables e below (s₁.setTop (mkF m 4 #[.val (.int p1), .val (.int p2), .unset, .unset, .unset, .unset, .unset] [(.int (p1 &&& (2147483647 : Int32)))])) _
    refine XS.iconst X0.here hx rfl (hb hby at_4) ?_
    show Steps p.tables e below (s₁.setTop (mkF m 5 #[.val (.int p1), .val (.int p2), .unset, .unset, .unset, .unset, .unset] [(.int (4 : Int32)), (.int (p1 &&& (2147483647 : Int32)))])) _
    refine iremM X0 hx rfl (hb hby at_5) rfl (by decide) ?_
    show Steps p.tables e below (s₁.setTop (mkF m 6 #[.val (.int p1), .val (.int p2), .unset, .unset, .unset, .unset, .unset] [(.int ((p1 &&& (2147483647 : Int32)) % (4 : Int32)))])) _
    refine st3 _ ?_
    show Steps p.tables e below (T3.setTop (mkF m 9 #[.val (.int p1), .val (.int p2), .unset, .unset, .unset, .unset, .unset] [(.ref A)])) _
    refine XS.astoreN X3.here hx rfl (hb hby at_9) rfl rfl (l' := #[.val (.int p1), .val (.int p2), .val (.ref A), .unset, .unset, .unset, .unset]) rfl ?_
    show Steps p.tables e below (T3.setTop (mkF m 10 #[.val (.int p1), .val (.int p2), .val (.ref A), .unset, .unset, .unset, .unset] [])) _
    refine XS.iloadN X3.here hx rfl (hb hby at_10) rfl ?_
    show Steps p.tables e below (T3.setTop (mkF m 11 #[.val (.int p1), .val (.int p2), .val (.ref A), .unset, .unset, .unset, .unset] [(.int p2)])) _
    refine X3.ldcInt hx hown (mvT hZ (hw _ (List.mem_of_getElem? (i := 0) rfl))) (g := (mkF m 11 #[.val (.int p1), .val (.int p2), .val (.ref A), .unset, .unset, .unset, .unset] [(.int p2)])) rfl (hb hby at_11) _ ?_
    show Steps p.tables e below (T3.setTop (mkF m 13 #[.val (.int p1), .val (.int p2), .val (.ref A), .unset, .unset, .unset, .unset] [(.int (2147483647 : Int32)), (.int p2)])) _
    refine XS.iand X3.here hx rfl (hb hby at_13) rfl ?_
    show Steps p.tables e below (T3.setTop (mkF m 14 #[.val (.int p1), .val (.int p2), .val (.ref A), .unset, .unset, .unset, .unset] [(.int (p2 &&& (2147483647 : Int32)))])) _
    refine XS.iconst X3.here hx rfl (hb hby at_14) ?_
    show Steps p.tables e below (T3.setTop (mkF m 15 #[.val (.int p1), .val (.int p2), .val (.ref A), .unset, .unset, .unset, .unset] [(.int (4 : Int32)), (.int (p2 &&& (2147483647 : Int32)))])) _
    refine iremM X3 hx rfl (hb hby at_15) rfl (by decide) ?_
    show Steps p.tables e below (T3.setTop (mkF m 16 #[.val (.int p1), .val (.int p2), .val (.ref A), .unset, .unset, .unset, .unset] [(.int ((p2 &&& (2147483647 : Int32)) % (4 : Int32)))])) _
    refine st4 _ ?_
    show Steps p.tables e below (T4.setTop (mkF m 19 #[.val (.int p1), .val (.int p2), .val (.ref A), .unset, .unset, .unset, .unset] [(.ref B)])) _
    refine XS.astoreN X4.here hx rfl (hb hby at_19) rfl rfl (l' := #[.val (.int p1), .val (.int p2), .val (.ref A), .val (.ref B), .unset, .unset, .unset]) rfl ?_
    show Steps p.tables e below (T4.setTop (mkF m 20 #[.val (.int p1), .val (.int p2), .val (.ref A), .val (.ref B), .unset, .unset, .unset] [])) _
    refine XS.aloadN X4.here hx rfl (hb hby at_20) rfl rfl ?_
    show Steps p.tables e below (T4.setTop (mkF m 21 #[.val (.int p1), .val (.int p2), .val (.ref A), .val (.ref B), .unset, .unset, .unset] [(.ref A)])) _
    refine st5 _ ?_
    show Steps p.tables e below (T5.setTop (mkF m 24 #[.val (.int p1), .val (.int p2), .val (.ref A), .val (.ref B), .unset, .unset, .unset] [(.int r1)])) _
    refine XS.istore X5.here hx rfl (hb hby at_24) rfl (l' := #[.val (.int p1), .val (.int p2), .val (.ref A), .val (.ref B), .val (.int r1), .unset, .unset]) rfl ?_
    show Steps p.tables e below (T5.setTop (mkF m 26 #[.val (.int p1), .val (.int p2), .val (.ref A), .val (.ref B), .val (.int r1), .unset, .unset] [])) _
    refine XS.aloadN X5.here hx rfl (hb hby at_26) rfl rfl ?_
    show Steps p.tables e below (T5.setTop (mkF m 27 #[.val (.int p1), .val (.int p2), .val (.ref A), .val (.ref B), .val (.int r1), .unset, .unset] [(.ref B)])) _
    refine st6 _ ?_
    show Steps p.tables e below (T6.setTop (mkF m 30 #[.val (.int p1), .val (.int p2), .val (.ref A), .val (.ref B), .val (.int r1), .unset, .unset] [(.int r2)])) _
    refine XS.istore X6.here hx rfl (hb hby at_30) rfl (l' := #[.val (.int p1), .val (.int p2), .val (.ref A), .val (.ref B), .val (.int r1), .val (.int r2), .unset]) rfl ?_
    show Steps p.tables e below (T6.setTop (mkF m 32 #[.val (.int p1), .val (.int p2), .val (.ref A), .val (.ref B), .val (.int r1), .val (.int r2), .unset] [])) _
    refine XS.iload X6.here hx rfl (hb hby at_32) rfl ?_
    show Steps p.tables e below (T6.setTop (mkF m 34 #[.val (.int p1), .val (.int p2), .val (.ref A), .val (.ref B), .val (.int r1), .val (.int r2), .unset] [(.int r1)])) _
    refine XS.ifNo X6.here hx rfl (hb hby at_34) rfl ((if0 _ _).trans (feq (hv34 : ¬ (r1 = (0 : Int32)))).1) ?_
    show Steps p.tables e below (T6.setTop (mkF m 37 #[.val (.int p1), .val (.int p2), .val (.ref A), .val (.ref B), .val (.int r1), .val (.int r2), .unset] [])) _
    refine XS.iload X6.here hx rfl (hb hby at_37) rfl ?_
    show Steps p.tables e below (T6.setTop (mkF m 39 #[.val (.int p1), .val (.int p2), .val (.ref A), .val (.ref B), .val (.int r1), .val (.int r2), .unset] [(.int r2)])) _
    refine XS.ifNo X6.here hx rfl (hb hby at_39) rfl ((if0 _ _).trans (feq (hv39 : ¬ (r2 = (0 : Int32)))).1) ?_
    show Steps p.tables e below (T6.setTop (mkF m 42 #[.val (.int p1), .val (.int p2), .val (.ref A), .val (.ref B), .val (.int r1), .val (.int r2), .unset] [])) _
    refine XS.iload X6.here hx rfl (hb hby at_42) rfl ?_
    show Steps p.tables e below (T6.setTop (mkF m 44 #[.val (.int p1), .val (.int p2), .val (.ref A), .val (.ref B), .val (.int r1), .val (.int r2), .unset] [(.int r2)])) _
    refine XS.iload X6.here hx rfl (hb hby at_44) rfl ?_
    show Steps p.tables e below (T6.setTop (mkF m 46 #[.val (.int p1), .val (.int p2), .val (.ref A), .val (.ref B), .val (.int r1), .val (.int r2), .unset] [(.int r1), (.int r2)])) _
    refine XS.icmpYes X6.here hx rfl (pc0 := 46) (pc' := 53) rfl (hb hby at_46) rfl (flt (hv46 : ¬ (r1 < r2))).2.2.2 (by decide) (by decide) ?_
    show Steps p.tables e below (T6.setTop (mkF m 53 #[.val (.int p1), .val (.int p2), .val (.ref A), .val (.ref B), .val (.int r1), .val (.int r2), .unset] [])) _
    refine XS.iconst X6.here hx rfl (hb hby at_53) ?_
    show Steps p.tables e below (T6.setTop (mkF m 54 #[.val (.int p1), .val (.int p2), .val (.ref A), .val (.ref B), .val (.int r1), .val (.int r2), .unset] [(.int (0 : Int32))])) _
    refine XS.istore X6.here hx rfl (hb hby at_54) rfl (l' := #[.val (.int p1), .val (.int p2), .val (.ref A), .val (.ref B), .val (.int r1), .val (.int r2), .val (.int (0 : Int32))]) rfl ?_
    show Steps p.tables e below (T6.setTop (mkF m 56 #[.val (.int p1), .val (.int p2), .val (.ref A), .val (.ref B), .val (.int r1), .val (.int r2), .val (.int (0 : Int32))] [])) _
    refine XS.aloadN X6.here hx rfl (hb hby at_56) rfl rfl ?_
    show Steps p.tables e below (T6.setTop (mkF m 57 #[.val (.int p1), .val (.int p2), .val (.ref A), .val (.ref B), .val (.int r1), .val (.int r2), .val (.int (0 : Int32))] [(.ref A)])) _
    refine XS.aloadN X6.here hx rfl (hb hby at_57) rfl rfl ?_
    show Steps p.tables e below (T6.setTop (mkF m 58 #[.val (.int p1), .val (.int p2), .val (.ref A), .val (.ref B), .val (.int r1), .val (.int r2), .val (.int (0 : Int32))] [(.ref B), (.ref A)])) _
    refine st7.trans ?_
    show Steps p.tables e below (T7.setTop (mkF m 61 #[.val (.int p1), .val (.int p2), .val (.ref A), .val (.ref B), .val (.int r1), .val (.int r2), .val (.int (0 : Int32))] [(.int u)])) _
    refine XS.iload X7.here hx rfl (hb hby at_61) rfl ?_
    show Steps p.tables e below (T7.setTop (mkF m 63 #[.val (.int p1), .val (.int p2), .val (.ref A), .val (.ref B), .val (.int r1), .val (.int r2), .val (.int (0 : Int32))] [(.int (0 : Int32)), (.int u)])) _
    refine XS.icmpNo X7.here hx rfl (hb hby at_63) rfl (teq (hv63 : u = (0 : Int32))).2 ?_
    show Steps p.tables e below (T7.setTop (mkF m 66 #[.val (.int p1), .val (.int p2), .val (.ref A), .val (.ref B), .val (.int r1), .val (.int r2), .val (.int (0 : Int32))] [])) _
    refine XS.iconst X7.here hx rfl (hb hby at_66) ?_
    show Steps p.tables e below (T7.setTop (mkF m 67 #[.val (.int p1), .val (.int p2), .val (.ref A), .val (.ref B), .val (.int r1), .val (.int r2), .val (.int (0 : Int32))] [(.int (1 : Int32))])) _
    refine XS.goto X7.here hx rfl (pc0 := 67) (pc' := 71) rfl (hb hby at_67) (by decide) (by decide) ?_
    show Steps p.tables e below (T7.setTop (mkF m 71 #[.val (.int p1), .val (.int p2), .val (.ref A), .val (.ref B), .val (.int r1), .val (.int r2), .val (.int (0 : Int32))] [(.int (1 : Int32))])) _
    exact retN X7 hx (t := .boolean) Bd.returns (by simp) (hb hby at_71) hr
  · show Q0 Z h0 n0 _ T7.heap _
    exact ⟨rfl, N7⟩
set_option maxRecDepth 65536 in
set_option maxHeartbeats 40000000 in
theorem rm0_ffff (l : Launch) (Z : State) (a0 : Array Value) (hw : ∀ d ∈ tables_1, d.before a0 Z = true) (ws : List Jvm.Cond) (p1 : Int32) (p2 : Int32) (w_READ : Addr) (w_WRITE : Addr) (w_UPDATE : Addr) (w_CERTIFY : Addr) (A : Addr) (B : Addr) (r1 : Int32) (r2 : Int32) (u : Int32) (h0 : Heap) (n0 : Nat) (Z0 : n0 ≤ h0.size) (S_READ : Sta Z h0 "com/example/slackline/slackline/core/LockMode" "READ" "Lcom/example/slackline/slackline/core/LockMode;" (.ref w_READ)) (S_WRITE : Sta Z h0 "com/example/slackline/slackline/core/LockMode" "WRITE" "Lcom/example/slackline/slackline/core/LockMode;" (.ref w_WRITE)) (S_UPDATE : Sta Z h0 "com/example/slackline/slackline/core/LockMode" "UPDATE" "Lcom/example/slackline/slackline/core/LockMode;" (.ref w_UPDATE)) (S_CERTIFY : Sta Z h0 "com/example/slackline/slackline/core/LockMode" "CERTIFY" "Lcom/example/slackline/slackline/core/LockMode;" (.ref w_CERTIFY)) (E_A : Exa Z h0 A "com/example/slackline/slackline/core/LockMode") (hA : modeF ((p1 &&& (2147483647 : Int32)) % (4 : Int32)) w_READ w_WRITE w_UPDATE w_CERTIFY = A) (hB : modeF ((p2 &&& (2147483647 : Int32)) % (4 : Int32)) w_READ w_WRITE w_UPDATE w_CERTIFY = B) (hr1 : rankF A w_READ w_UPDATE w_WRITE = r1) (hr2 : rankF B w_READ w_UPDATE w_WRITE = r2) (hu : upF A B w_READ w_WRITE w_UPDATE = u) (hv34 : ¬ (r1 = (0 : Int32))) (hv39 : ¬ (r2 = (0 : Int32))) (hv46 : r1 < r2) (hv63 : u = (1 : Int32)) :
    MetFree l x (head1 (Jvm.Cond.code x code maxLocals ret :: ws) room_1) (fun a U => a = #[(.int p1), (.int p2)] ∧ Z.Warmed39 U.vm ∧ U.heap = h0) (fun _ _ _ _ _ => True) (fun _ U o U' => ∃ v L, o = .returned v ∧ Q0 Z h0 n0 v U'.heap L ∧ FrameEnd U o U' L room_1.cells room_1.slots) := by
  refine MetFree.of_bodySF (plainFor_of_name pn_0) hisR ?_
  intro p e s m args below meth c s₁ Bd hml0 hP hK
  obtain ⟨rfl, hZ, hh⟩ := hP
  have hx := Bd.exec
  have hby := Bd.bytes
  have hml : c.maxLocals = 7 := hml0
  have hown : s.vm.findClass "com/example/slackline/slackline/core/LockModeUpgradedByPinLaw" = some m.cls := findClass_of_methodNamed Bd.named
  have hnm := (name_of_methodNamed Bd.named Bd.method).1
  have X0 : Stand p l e room_1 s m #[(.int p1), (.int p2)] below meth c s₁ [] 0 0 := Stand.of_body Bd
  have e0 : s₁.heap = h0 := by rw [← hh, Bd.state]; rfl
  have N0 := Fr.nil n0
  have pre0 : ∀ t, Steps p.tables e below (s₁.setTop (mkF m 0 #[.val (.int p1), .val (.int p2), .unset, .unset, .unset, .unset, .unset] [])) t → Steps p.tables e below (s₁.setTop (entryFrame m #[(.int p1), (.int p2)] maxLocals)) t := fun t k => castTop (ef_0 m p1 p2) k
  -- 3. LAWS
  -- pc 6: com/example/slackline/slackline/core/LockModeUpgradedByPinLaw.mode by its contract rm1
  obtain ⟨_, _, ⟨T3, L3, k3, n3⟩, -, X3, ⟨Lc3, hQ3, l3, y3, z3⟩, st3⟩ := Jvm.LawKit.callS X0 hx (y := (⟨"com/example/slackline/slackline/core/LockModeUpgradedByPinLaw", "mode", "(I)Lcom/example/slackline/slackline/core/LockMode;"⟩ : MethodName)) hown (mvT hZ (hw _ (List.mem_of_getElem? (i := 1) rfl))) (mvT hZ (hw _ (List.mem_of_getElem? (i := 2) rfl))) (mvT hZ (hw _ (List.mem_of_getElem? (i := 3) rfl))) (mvT hZ (hw _ (List.mem_of_getElem? (i := 4) rfl))) (by decide) (backOf (W := 0) (rm1 l Z a0 hw [] ((p1 &&& (2147483647 : Int32)) % (4 : Int32)) w_READ w_WRITE w_UPDATE w_CERTIFY h0 n0 Z0 S_READ S_WRITE S_UPDATE S_CERTIFY) hZ (hw _ (List.mem_of_getElem? (i := 4) rfl)) (hw _ (List.mem_of_getElem? (i := 3) rfl)) (by decide) (by decide)) (g := (mkF m 6 #[.val (.int p1), .val (.int p2), .unset, .unset, .unset, .unset, .unset] [(.int ((p1 &&& (2147483647 : Int32)) % (4 : Int32)))])) rfl (by rw [hml]; rfl) (argsL := [(.int ((p1 &&& (2147483647 : Int32)) % (4 : Int32)))]) (rest := []) (lenOf pd_0_0 rfl) rfl (by show 2 * 0 + _ ≤ _; exact Nat.le_of_eq rfl) (hb hby at_6) (fun _ _ => ⟨rfl, e0, (by decide : 0 + 0 ≤ _), (by decide : 0 + 0 ≤ _)⟩)
  dsimp only [Pt.U, Pt.locs, Pt.cells, Pt.slots] at X3 l3 y3 z3 st3 hQ3
  subst l3 y3 z3
  obtain ⟨rv3, N3q, q3⟩ := hQ3
  rw [hA] at rv3
  subst rv3
  have N3 := Fr.app N0 N3q
  -- pc 16: com/example/slackline/slackline/core/LockModeUpgradedByPinLaw.mode by its contract rm1
  obtain ⟨_, _, ⟨T4, L4, k4, n4⟩, -, X4, ⟨Lc4, hQ4, l4, y4, z4⟩, st4⟩ := Jvm.LawKit.callS X3 hx (y := (⟨"com/example/slackline/slackline/core/LockModeUpgradedByPinLaw", "mode", "(I)Lcom/example/slackline/slackline/core/LockMode;"⟩ : MethodName)) hown (mvT hZ (hw _ (List.mem_of_getElem? (i := 1) rfl))) (mvT hZ (hw _ (List.mem_of_getElem? (i := 2) rfl))) (mvT hZ (hw _ (List.mem_of_getElem? (i := 3) rfl))) (mvT hZ (hw _ (List.mem_of_getElem? (i := 4) rfl))) (by decide) (backOf (W := 0) (rm1 l Z a0 hw [] ((p2 &&& (2147483647 : Int32)) % (4 : Int32)) w_READ w_WRITE w_UPDATE w_CERTIFY h0 n0 Z0 S_READ S_WRITE S_UPDATE S_CERTIFY) hZ (hw _ (List.mem_of_getElem? (i := 4) rfl)) (hw _ (List.mem_of_getElem? (i := 3) rfl)) (by decide) (by decide)) (g := (mkF m 16 #[.val (.int p1), .val (.int p2), .val (.ref A), .unset, .unset, .unset, .unset] [(.int ((p2 &&& (2147483647 : Int32)) % (4 : Int32)))])) rfl (by rw [hml]; rfl) (argsL := [(.int ((p2 &&& (2147483647 : Int32)) % (4 : Int32)))]) (rest := []) (lenOf pd_0_0 rfl) rfl (by show 2 * 0 + _ ≤ _; exact Nat.le_of_eq rfl) (hb hby at_16) (fun _ _ => ⟨rfl, q3, (by decide : 0 + 0 ≤ _), (by decide : 0 + 0 ≤ _)⟩)
  dsimp only [Pt.U, Pt.locs, Pt.cells, Pt.slots] at X4 l4 y4 z4 st4 hQ4
  subst l4 y4 z4
  obtain ⟨rv4, N4q, q4⟩ := hQ4
  rw [hB] at rv4
  subst rv4
  have N4 := Fr.app N3 N4q
  -- pc 21: com/example/slackline/slackline/core/LockModeUpgradedByPinLaw.rank by its contract rm2
  obtain ⟨_, _, ⟨T5, L5, k5, n5⟩, -, X5, ⟨Lc5, hQ5, l5, y5, z5⟩, st5⟩ := Jvm.LawKit.callS X4 hx (y := (⟨"com/example/slackline/slackline/core/LockModeUpgradedByPinLaw", "rank", "(Lcom/example/slackline/slackline/core/LockMode;)I"⟩ : MethodName)) hown (mvT hZ (hw _ (List.mem_of_getElem? (i := 10) rfl))) (mvT hZ (hw _ (List.mem_of_getElem? (i := 11) rfl))) (mvT hZ (hw _ (List.mem_of_getElem? (i := 3) rfl))) (mvT hZ (hw _ (List.mem_of_getElem? (i := 12) rfl))) (by decide) (backOf (W := 0) (rm2 l Z a0 hw [] A w_READ w_UPDATE w_WRITE h0 n0 Z0 S_READ S_UPDATE S_WRITE) hZ (hw _ (List.mem_of_getElem? (i := 12) rfl)) (hw _ (List.mem_of_getElem? (i := 3) rfl)) (by decide) (by decide)) (g := (mkF m 21 #[.val (.int p1), .val (.int p2), .val (.ref A), .val (.ref B), .unset, .unset, .unset] [(.ref A)])) rfl (by rw [hml]; rfl) (argsL := [(.ref A)]) (rest := []) (lenOf pd_0_1 rfl) rfl (by show 2 * 0 + _ ≤ _; exact Nat.le_of_eq rfl) (hb hby at_21) (fun _ _ => ⟨rfl, q4, (by decide : 0 + 0 ≤ _), (by decide : 0 + 0 ≤ _)⟩)
  dsimp only [Pt.U, Pt.locs, Pt.cells, Pt.slots] at X5 l5 y5 z5 st5 hQ5
  subst l5 y5 z5
  obtain ⟨rv5, N5q, q5⟩ := hQ5
  rw [hr1] at rv5
  subst rv5
  have N5 := Fr.app N4 N5q
  -- pc 27: com/example/slackline/slackline/core/LockModeUpgradedByPinLaw.rank by its contract rm2
  obtain ⟨_, _, ⟨T6, L6, k6, n6⟩, -, X6, ⟨Lc6, hQ6, l6, y6, z6⟩, st6⟩ := Jvm.LawKit.callS X5 hx (y := (⟨"com/example/slackline/slackline/core/LockModeUpgradedByPinLaw", "rank", "(Lcom/example/slackline/slackline/core/LockMode;)I"⟩ : MethodName)) hown (mvT hZ (hw _ (List.mem_of_getElem? (i := 10) rfl))) (mvT hZ (hw _ (List.mem_of_getElem? (i := 11) rfl))) (mvT hZ (hw _ (List.mem_of_getElem? (i := 3) rfl))) (mvT hZ (hw _ (List.mem_of_getElem? (i := 12) rfl))) (by decide) (backOf (W := 0) (rm2 l Z a0 hw [] B w_READ w_UPDATE w_WRITE h0 n0 Z0 S_READ S_UPDATE S_WRITE) hZ (hw _ (List.mem_of_getElem? (i := 12) rfl)) (hw _ (List.mem_of_getElem? (i := 3) rfl)) (by decide) (by decide)) (g := (mkF m 27 #[.val (.int p1), .val (.int p2), .val (.ref A), .val (.ref B), .val (.int r1), .unset, .unset] [(.ref B)])) rfl (by rw [hml]; rfl) (argsL := [(.ref B)]) (rest := []) (lenOf pd_0_1 rfl) rfl (by show 2 * 0 + _ ≤ _; exact Nat.le_of_eq rfl) (hb hby at_27) (fun _ _ => ⟨rfl, q5, (by decide : 0 + 0 ≤ _), (by decide : 0 + 0 ≤ _)⟩)
  dsimp only [Pt.U, Pt.locs, Pt.cells, Pt.slots] at X6 l6 y6 z6 st6 hQ6
  subst l6 y6 z6
  obtain ⟨rv6, N6q, q6⟩ := hQ6
  rw [hr2] at rv6
  subst rv6
  have N6 := Fr.app N5 N6q
  -- pc 58: com/example/slackline/slackline/core/LockMode.upgradedBy by the contract of the body that the receiver's class selects, rm3
  obtain ⟨cq7, kq7, q7a, q7b, q7c⟩ := isOf hZ q6 E_A
  obtain ⟨_, _, ⟨T7, L7, k7, n7⟩, -, X7, ⟨Lc7, hQ7, l7, y7, z7⟩, st7⟩ := X6.virtualBack hx (y := (⟨"com/example/slackline/slackline/core/LockMode", "upgradedBy", "(Lcom/example/slackline/slackline/core/LockMode;)Z"⟩ : MethodName)) (z := (⟨"com/example/slackline/slackline/core/LockMode", "upgradedBy", "(Lcom/example/slackline/slackline/core/LockMode;)Z"⟩ : MethodName)) hown (mvT hZ (hw _ (List.mem_of_getElem? (i := 17) rfl))) (mvT hZ (hw _ (List.mem_of_getElem? (i := 18) rfl))) (notFace_of_selects (args := #[]) (mvT hZ (hw _ (List.mem_of_getElem? (i := 20) rfl)))) (mvT hZ (hw _ (List.mem_of_getElem? (i := 20) rfl))) (mvT hZ (hw _ (List.mem_of_getElem? (i := 19) rfl))) (by decide) (backOf (W := 0) (rm3 l Z a0 hw [] A B w_READ w_WRITE w_UPDATE h0 n0 Z0 S_READ S_WRITE S_UPDATE) hZ (hw _ (List.mem_of_getElem? (i := 21) rfl)) (hw _ (List.mem_of_getElem? (i := 6) rfl)) (by decide) (by decide)) q7a q7c (g := (mkF m 58 #[.val (.int p1), .val (.int p2), .val (.ref A), .val (.ref B), .val (.int r1), .val (.int r2), .val (.int (1 : Int32))] [(.ref B), (.ref A)])) rfl (by rw [hml]; rfl) (Steps.refl _) (argsL := [(.ref B)]) (rest := []) (lenOf pd_0_2 rfl) rfl (by show 2 * 0 + _ ≤ _; exact Nat.le_of_eq rfl) (hb hby at_58) (fun _ _ => ⟨rfl, q6, (by decide : 0 + 0 ≤ _), (by decide : 0 + 0 ≤ _)⟩)
  dsimp only [Pt.U, Pt.locs, Pt.cells, Pt.slots] at X7 l7 y7 z7 st7 hQ7
  subst l7 y7 z7
  obtain ⟨rv7, N7q, q7⟩ := hQ7
  rw [hu] at rv7
  subst rv7
  have N7 := Fr.app N6 N7q
  obtain ⟨fs, hr, hrun, hended, hW, hsame⟩ := X7.leave (v := some (.int (1 : Int32))) (fun h => by rw [Bd.returns] at h; cases h)
  refine ⟨_, _, pre0 _ ?_, hrun, hended, _, _, rfl, ?_, ⟨_, rfl⟩, hW, hsame.mono (by decide) (by decide)⟩
  -- 4. STEPS
  · show Steps p.tables e below (s₁.setTop (mkF m 0 #[.val (.int p1), .val (.int p2), .unset, .unset, .unset, .unset, .unset] [])) _
    refine XS.iloadN X0.here hx rfl (hb hby at_0) rfl ?_
    show Steps p.tables e below (s₁.setTop (mkF m 1 #[.val (.int p1), .val (.int p2), .unset, .unset, .unset, .unset, .unset] [(.int p1)])) _
    refine X0.ldcInt hx hown (mvT hZ (hw _ (List.mem_of_getElem? (i := 0) rfl))) (g := (mkF m 1 #[.val (.int p1), .val (.int p2), .unset, .unset, .unset, .unset, .unset] [(.int p1)])) rfl (hb hby at_1) _ ?_
    show Steps p.tables e below (s₁.setTop (mkF m 3 #[.val (.int p1), .val (.int p2), .unset, .unset, .unset, .unset, .unset] [(.int (2147483647 : Int32)), (.int p1)])) _
    refine XS.iand X0.here hx rfl (hb hby at_3) rfl ?_
    show Steps p.tables e below (s₁.setTop (mkF m 4 #[.val (.int p1), .val (.int p2), .unset, .unset, .unset, .unset, .unset] [(.int (p1 &&& (2147483647 : Int32)))])) _
    refine XS.iconst X0.here hx rfl (hb hby at_4) ?_
    show Steps p.tables e below (s₁.setTop (mkF m 5 #[.val (.int p1), .val (.int p2), .unset, .unset, .unset, .unset, .unset] [(.int (4 : Int32)), (.int (p1 &&& (2147483647 : Int32)))])) _
    refine iremM X0 hx rfl (hb hby at_5) rfl (by decide) ?_
    show Steps p.tables e below (s₁.setTop (mkF m 6 #[.val (.int p1), .val (.int p2), .unset, .unset, .unset, .unset, .unset] [(.int ((p1 &&& (2147483647 : Int32)) % (4 : Int32)))])) _
    refine st3 _ ?_
    show Steps p.tables e below (T3.setTop (mkF m 9 #[.val (.int p1), .val (.int p2), .unset, .unset, .unset, .unset, .unset] [(.ref A)])) _
    refine XS.astoreN X3.here hx rfl (hb hby at_9) rfl rfl (l' := #[.val (.int p1), .val (.int p2), .val (.ref A), .unset, .unset, .unset, .unset]) rfl ?_
    show Steps p.tables e below (T3.setTop (mkF m 10 #[.val (.int p1), .val (.int p2), .val (.ref A), .unset, .unset, .unset, .unset] [])) _
    refine XS.iloadN X3.here hx rfl (hb hby at_10) rfl ?_
    show Steps p.tables e below (T3.setTop (mkF m 11 #[.val (.int p1), .val (.int p2), .val (.ref A), .unset, .unset, .unset, .unset] [(.int p2)])) _
    refine X3.ldcInt hx hown (mvT hZ (hw _ (List.mem_of_getElem? (i := 0) rfl))) (g := (mkF m 11 #[.val (.int p1), .val (.int p2), .val (.ref A), .unset, .unset, .unset, .unset] [(.int p2)])) rfl (hb hby at_11) _ ?_
    show Steps p.tables e below (T3.setTop (mkF m 13 #[.val (.int p1), .val (.int p2), .val (.ref A), .unset, .unset, .unset, .unset] [(.int (2147483647 : Int32)), (.int p2)])) _
    refine XS.iand X3.here hx rfl (hb hby at_13) rfl ?_
    show Steps p.tables e below (T3.setTop (mkF m 14 #[.val (.int p1), .val (.int p2), .val (.ref A), .unset, .unset, .unset, .unset] [(.int (p2 &&& (2147483647 : Int32)))])) _
    refine XS.iconst X3.here hx rfl (hb hby at_14) ?_
    show Steps p.tables e below (T3.setTop (mkF m 15 #[.val (.int p1), .val (.int p2), .val (.ref A), .unset, .unset, .unset, .unset] [(.int (4 : Int32)), (.int (p2 &&& (2147483647 : Int32)))])) _
    refine iremM X3 hx rfl (hb hby at_15) rfl (by decide) ?_
    show Steps p.tables e below (T3.setTop (mkF m 16 #[.val (.int p1), .val (.int p2), .val (.ref A), .unset, .unset, .unset, .unset] [(.int ((p2 &&& (2147483647 : Int32)) % (4 : Int32)))])) _
    refine st4 _ ?_
    show Steps p.tables e below (T4.setTop (mkF m 19 #[.val (.int p1), .val (.int p2), .val (.ref A), .unset, .unset, .unset, .unset] [(.ref B)])) _
    refine XS.astoreN X4.here hx rfl (hb hby at_19) rfl rfl (l' := #[.val (.int p1), .val (.int p2), .val (.ref A), .val (.ref B), .unset, .unset, .unset]) rfl ?_
    show Steps p.tables e below (T4.setTop (mkF m 20 #[.val (.int p1), .val (.int p2), .val (.ref A), .val (.ref B), .unset, .unset, .unset] [])) _
    refine XS.aloadN X4.here hx rfl (hb hby at_20) rfl rfl ?_
    show Steps p.tables e below (T4.setTop (mkF m 21 #[.val (.int p1), .val (.int p2), .val (.ref A), .val (.ref B), .unset, .unset, .unset] [(.ref A)])) _
    refine st5 _ ?_
    show Steps p.tables e below (T5.setTop (mkF m 24 #[.val (.int p1), .val (.int p2), .val (.ref A), .val (.ref B), .unset, .unset, .unset] [(.int r1)])) _
    refine XS.istore X5.here hx rfl (hb hby at_24) rfl (l' := #[.val (.int p1), .val (.int p2), .val (.ref A), .val (.ref B), .val (.int r1), .unset, .unset]) rfl ?_
    show Steps p.tables e below (T5.setTop (mkF m 26 #[.val (.int p1), .val (.int p2), .val (.ref A), .val (.ref B), .val (.int r1), .unset, .unset] [])) _
    refine XS.aloadN X5.here hx rfl (hb hby at_26) rfl rfl ?_
    show Steps p.tables e below (T5.setTop (mkF m 27 #[.val (.int p1), .val (.int p2), .val (.ref A), .val (.ref B), .val (.int r1), .unset, .unset] [(.ref B)])) _
    refine st6 _ ?_
    show Steps p.tables e below (T6.setTop (mkF m 30 #[.val (.int p1), .val (.int p2), .val (.ref A), .val (.ref B), .val (.int r1), .unset, .unset] [(.int r2)])) _
    refine XS.istore X6.here hx rfl (hb hby at_30) rfl (l' := #[.val (.int p1), .val (.int p2), .val (.ref A), .val (.ref B), .val (.int r1), .val (.int r2), .unset]) rfl ?_
    show Steps p.tables e below (T6.setTop (mkF m 32 #[.val (.int p1), .val (.int p2), .val (.ref A), .val (.ref B), .val (.int r1), .val (.int r2), .unset] [])) _
    refine XS.iload X6.here hx rfl (hb hby at_32) rfl ?_
    show Steps p.tables e below (T6.setTop (mkF m 34 #[.val (.int p1), .val (.int p2), .val (.ref A), .val (.ref B), .val (.int r1), .val (.int r2), .unset] [(.int r1)])) _
    refine XS.ifNo X6.here hx rfl (hb hby at_34) rfl ((if0 _ _).trans (feq (hv34 : ¬ (r1 = (0 : Int32)))).1) ?_
    show Steps p.tables e below (T6.setTop (mkF m 37 #[.val (.int p1), .val (.int p2), .val (.ref A), .val (.ref B), .val (.int r1), .val (.int r2), .unset] [])) _
    refine XS.iload X6.here hx rfl (hb hby at_37) rfl ?_
    show Steps p.tables e below (T6.setTop (mkF m 39 #[.val (.int p1), .val (.int p2), .val (.ref A), .val (.ref B), .val (.int r1), .val (.int r2), .unset] [(.int r2)])) _
    refine XS.ifNo X6.here hx rfl (hb hby at_39) rfl ((if0 _ _).trans (feq (hv39 : ¬ (r2 = (0 : Int32)))).1) ?_
    show Steps p.tables e below (T6.setTop (mkF m 42 #[.val (.int p1), .val (.int p2), .val (.ref A), .val (.ref B), .val (.int r1), .val (.int r2), .unset] [])) _
    refine XS.iload X6.here hx rfl (hb hby at_42) rfl ?_
    show Steps p.tables e below (T6.setTop (mkF m 44 #[.val (.int p1), .val (.int p2), .val (.ref A), .val (.ref B), .val (.int r1), .val (.int r2), .unset] [(.int r2)])) _
    refine XS.iload X6.here hx rfl (hb hby at_44) rfl ?_
    show Steps p.tables e below (T6.setTop (mkF m 46 #[.val (.int p1), .val (.int p2), .val (.ref A), .val (.ref B), .val (.int r1), .val (.int r2), .unset] [(.int r1), (.int r2)])) _
    refine XS.icmpNo X6.here hx rfl (hb hby at_46) rfl (tlt (hv46 : r1 < r2)).2.2.2 ?_
    show Steps p.tables e below (T6.setTop (mkF m 49 #[.val (.int p1), .val (.int p2), .val (.ref A), .val (.ref B), .val (.int r1), .val (.int r2), .unset] [])) _
    refine XS.iconst X6.here hx rfl (hb hby at_49) ?_
    show Steps p.tables e below (T6.setTop (mkF m 50 #[.val (.int p1), .val (.int p2), .val (.ref A), .val (.ref B), .val (.int r1), .val (.int r2), .unset] [(.int (1 : Int32))])) _
    refine XS.goto X6.here hx rfl (pc0 := 50) (pc' := 54) rfl (hb hby at_50) (by decide) (by decide) ?_
    show Steps p.tables e below (T6.setTop (mkF m 54 #[.val (.int p1), .val (.int p2), .val (.ref A), .val (.ref B), .val (.int r1), .val (.int r2), .unset] [(.int (1 : Int32))])) _
    refine XS.istore X6.here hx rfl (hb hby at_54) rfl (l' := #[.val (.int p1), .val (.int p2), .val (.ref A), .val (.ref B), .val (.int r1), .val (.int r2), .val (.int (1 : Int32))]) rfl ?_
    show Steps p.tables e below (T6.setTop (mkF m 56 #[.val (.int p1), .val (.int p2), .val (.ref A), .val (.ref B), .val (.int r1), .val (.int r2), .val (.int (1 : Int32))] [])) _
    refine XS.aloadN X6.here hx rfl (hb hby at_56) rfl rfl ?_
    show Steps p.tables e below (T6.setTop (mkF m 57 #[.val (.int p1), .val (.int p2), .val (.ref A), .val (.ref B), .val (.int r1), .val (.int r2), .val (.int (1 : Int32))] [(.ref A)])) _
    refine XS.aloadN X6.here hx rfl (hb hby at_57) rfl rfl ?_
    show Steps p.tables e below (T6.setTop (mkF m 58 #[.val (.int p1), .val (.int p2), .val (.ref A), .val (.ref B), .val (.int r1), .val (.int r2), .val (.int (1 : Int32))] [(.ref B), (.ref A)])) _
    refine st7.trans ?_
    show Steps p.tables e below (T7.setTop (mkF m 61 #[.val (.int p1), .val (.int p2), .val (.ref A), .val (.ref B), .val (.int r1), .val (.int r2), .val (.int (1 : Int32))] [(.int u)])) _
    refine XS.iload X7.here hx rfl (hb hby at_61) rfl ?_
    show Steps p.tables e below (T7.setTop (mkF m 63 #[.val (.int p1), .val (.int p2), .val (.ref A), .val (.ref B), .val (.int r1), .val (.int r2), .val (.int (1 : Int32))] [(.int (1 : Int32)), (.int u)])) _
    refine XS.icmpNo X7.here hx rfl (hb hby at_63) rfl (teq (hv63 : u = (1 : Int32))).2 ?_
    show Steps p.tables e below (T7.setTop (mkF m 66 #[.val (.int p1), .val (.int p2), .val (.ref A), .val (.ref B), .val (.int r1), .val (.int r2), .val (.int (1 : Int32))] [])) _
    refine XS.iconst X7.here hx rfl (hb hby at_66) ?_
    show Steps p.tables e below (T7.setTop (mkF m 67 #[.val (.int p1), .val (.int p2), .val (.ref A), .val (.ref B), .val (.int r1), .val (.int r2), .val (.int (1 : Int32))] [(.int (1 : Int32))])) _
    refine XS.goto X7.here hx rfl (pc0 := 67) (pc' := 71) rfl (hb hby at_67) (by decide) (by decide) ?_
    show Steps p.tables e below (T7.setTop (mkF m 71 #[.val (.int p1), .val (.int p2), .val (.ref A), .val (.ref B), .val (.int r1), .val (.int r2), .val (.int (1 : Int32))] [(.int (1 : Int32))])) _
    exact retN X7 hx (t := .boolean) Bd.returns (by simp) (hb hby at_71) hr
  · show Q0 Z h0 n0 _ T7.heap _
    exact ⟨rfl, N7⟩
theorem own_k (x : Int32) : ((x &&& (2147483647 : Int32)) % (4 : Int32)) = (0 : Int32) ∨ ((x &&& (2147483647 : Int32)) % (4 : Int32)) = (1 : Int32) ∨ ((x &&& (2147483647 : Int32)) % (4 : Int32)) = (2 : Int32) ∨ ((x &&& (2147483647 : Int32)) % (4 : Int32)) = (3 : Int32) := by
  have h := own_rem (d := 4) (n := 4) (own_top31 x) (by decide) (by decide)
  have h1 : ((x &&& (2147483647 : Int32)) % (4 : Int32)).toInt = 0 ∨ ((x &&& (2147483647 : Int32)) % (4 : Int32)).toInt = 1 ∨ ((x &&& (2147483647 : Int32)) % (4 : Int32)).toInt = 2 ∨ ((x &&& (2147483647 : Int32)) % (4 : Int32)).toInt = 3 := by omega
  rcases h1 with h1 | h1 | h1 | h1
  · exact (Or.inl (Int32.toInt_inj.mp h1))
  · exact (Or.inr (Or.inl (Int32.toInt_inj.mp h1)))
  · exact (Or.inr (Or.inr (Or.inl (Int32.toInt_inj.mp h1))))
  · exact (Or.inr (Or.inr (Or.inr (Int32.toInt_inj.mp h1))))
set_option maxRecDepth 65536 in
set_option maxHeartbeats 40000000 in
theorem rm0 (l : Launch) (Z : State) (a0 : Array Value) (hw : ∀ d ∈ tables_1, d.before a0 Z = true) (ws : List Jvm.Cond) (p1 : Int32) (p2 : Int32) (w_READ : Addr) (w_WRITE : Addr) (w_UPDATE : Addr) (w_CERTIFY : Addr) (h0 : Heap) (n0 : Nat) (Z0 : n0 ≤ h0.size) (S_READ : Sta Z h0 "com/example/slackline/slackline/core/LockMode" "READ" "Lcom/example/slackline/slackline/core/LockMode;" (.ref w_READ)) (S_WRITE : Sta Z h0 "com/example/slackline/slackline/core/LockMode" "WRITE" "Lcom/example/slackline/slackline/core/LockMode;" (.ref w_WRITE)) (S_UPDATE : Sta Z h0 "com/example/slackline/slackline/core/LockMode" "UPDATE" "Lcom/example/slackline/slackline/core/LockMode;" (.ref w_UPDATE)) (S_CERTIFY : Sta Z h0 "com/example/slackline/slackline/core/LockMode" "CERTIFY" "Lcom/example/slackline/slackline/core/LockMode;" (.ref w_CERTIFY)) (E_READ : Exa Z h0 w_READ "com/example/slackline/slackline/core/LockMode") (E_WRITE : Exa Z h0 w_WRITE "com/example/slackline/slackline/core/LockMode") (E_UPDATE : Exa Z h0 w_UPDATE "com/example/slackline/slackline/core/LockMode") (E_CERTIFY : Exa Z h0 w_CERTIFY "com/example/slackline/slackline/core/LockMode") (ne_READ_WRITE : w_READ ≠ w_WRITE) (ne_READ_UPDATE : w_READ ≠ w_UPDATE) (ne_READ_CERTIFY : w_READ ≠ w_CERTIFY) (ne_WRITE_READ : w_WRITE ≠ w_READ) (ne_WRITE_UPDATE : w_WRITE ≠ w_UPDATE) (ne_WRITE_CERTIFY : w_WRITE ≠ w_CERTIFY) (ne_UPDATE_READ : w_UPDATE ≠ w_READ) (ne_UPDATE_WRITE : w_UPDATE ≠ w_WRITE) (ne_UPDATE_CERTIFY : w_UPDATE ≠ w_CERTIFY) (ne_CERTIFY_READ : w_CERTIFY ≠ w_READ) (ne_CERTIFY_WRITE : w_CERTIFY ≠ w_WRITE) (ne_CERTIFY_UPDATE : w_CERTIFY ≠ w_UPDATE) :
    MetFree l x (head1 (Jvm.Cond.code x code maxLocals ret :: ws) room_1) (fun a U => a = #[(.int p1), (.int p2)] ∧ Z.Warmed39 U.vm ∧ U.heap = h0) (fun _ _ _ _ _ => True) (fun _ U o U' => ∃ v L, o = .returned v ∧ Q0 Z h0 n0 v U'.heap L ∧ FrameEnd U o U' L room_1.cells room_1.slots) := by
  rcases own_k p1 with h1 | h1 | h1 | h1 <;> rcases own_k p2 with h2 | h2 | h2 | h2
  · exact rm0_fftf l Z a0 hw ws p1 p2 w_READ w_WRITE w_UPDATE w_CERTIFY w_READ w_READ 1 1 0 h0 n0 Z0 S_READ S_WRITE S_UPDATE S_CERTIFY E_READ (by rw [h1]; rfl) (by rw [h2]; rfl) (by simp [rankF, ne_READ_WRITE, ne_READ_UPDATE, ne_READ_CERTIFY]) (by simp [rankF, ne_READ_WRITE, ne_READ_UPDATE, ne_READ_CERTIFY]) (by simp [upF, ne_READ_WRITE, ne_READ_UPDATE, ne_READ_CERTIFY]) (by decide) (by decide) (by decide) (by decide)
  · exact rm0_ffff l Z a0 hw ws p1 p2 w_READ w_WRITE w_UPDATE w_CERTIFY w_READ w_WRITE 1 3 1 h0 n0 Z0 S_READ S_WRITE S_UPDATE S_CERTIFY E_READ (by rw [h1]; rfl) (by rw [h2]; rfl) (by simp [rankF, ne_READ_WRITE, ne_READ_UPDATE, ne_READ_CERTIFY, ne_WRITE_READ, ne_WRITE_UPDATE, ne_WRITE_CERTIFY]) (by simp [rankF, ne_READ_WRITE, ne_READ_UPDATE, ne_READ_CERTIFY, ne_WRITE_READ, ne_WRITE_UPDATE, ne_WRITE_CERTIFY]) (by simp [upF, ne_READ_WRITE, ne_READ_UPDATE, ne_READ_CERTIFY, ne_WRITE_READ, ne_WRITE_UPDATE, ne_WRITE_CERTIFY]) (by decide) (by decide) (by decide) (by decide)
  · exact rm0_ffff l Z a0 hw ws p1 p2 w_READ w_WRITE w_UPDATE w_CERTIFY w_READ w_UPDATE 1 2 1 h0 n0 Z0 S_READ S_WRITE S_UPDATE S_CERTIFY E_READ (by rw [h1]; rfl) (by rw [h2]; rfl) (by simp [rankF, ne_READ_WRITE, ne_READ_UPDATE, ne_READ_CERTIFY, ne_UPDATE_READ, ne_UPDATE_WRITE, ne_UPDATE_CERTIFY]) (by simp [rankF, ne_READ_WRITE, ne_READ_UPDATE, ne_READ_CERTIFY, ne_UPDATE_READ, ne_UPDATE_WRITE, ne_UPDATE_CERTIFY]) (by simp [upF, ne_READ_WRITE, ne_READ_UPDATE, ne_READ_CERTIFY, ne_UPDATE_READ, ne_UPDATE_WRITE, ne_UPDATE_CERTIFY]) (by decide) (by decide) (by decide) (by decide)
  · exact rm0_ftf l Z a0 hw ws p1 p2 w_READ w_WRITE w_UPDATE w_CERTIFY w_READ w_CERTIFY 1 0 0 h0 n0 Z0 S_READ S_WRITE S_UPDATE S_CERTIFY E_READ (by rw [h1]; rfl) (by rw [h2]; rfl) (by simp [rankF, ne_READ_WRITE, ne_READ_UPDATE, ne_READ_CERTIFY, ne_CERTIFY_READ, ne_CERTIFY_WRITE, ne_CERTIFY_UPDATE]) (by simp [rankF, ne_READ_WRITE, ne_READ_UPDATE, ne_READ_CERTIFY, ne_CERTIFY_READ, ne_CERTIFY_WRITE, ne_CERTIFY_UPDATE]) (by simp [upF, ne_READ_WRITE, ne_READ_UPDATE, ne_READ_CERTIFY, ne_CERTIFY_READ, ne_CERTIFY_WRITE, ne_CERTIFY_UPDATE]) (by decide) (by decide) (by decide)
  · exact rm0_fftf l Z a0 hw ws p1 p2 w_READ w_WRITE w_UPDATE w_CERTIFY w_WRITE w_READ 3 1 0 h0 n0 Z0 S_READ S_WRITE S_UPDATE S_CERTIFY E_WRITE (by rw [h1]; rfl) (by rw [h2]; rfl) (by simp [rankF, ne_READ_WRITE, ne_READ_UPDATE, ne_READ_CERTIFY, ne_WRITE_READ, ne_WRITE_UPDATE, ne_WRITE_CERTIFY]) (by simp [rankF, ne_READ_WRITE, ne_READ_UPDATE, ne_READ_CERTIFY, ne_WRITE_READ, ne_WRITE_UPDATE, ne_WRITE_CERTIFY]) (by simp [upF, ne_READ_WRITE, ne_READ_UPDATE, ne_READ_CERTIFY, ne_WRITE_READ, ne_WRITE_UPDATE, ne_WRITE_CERTIFY]) (by decide) (by decide) (by decide) (by decide)
  · exact rm0_fftf l Z a0 hw ws p1 p2 w_READ w_WRITE w_UPDATE w_CERTIFY w_WRITE w_WRITE 3 3 0 h0 n0 Z0 S_READ S_WRITE S_UPDATE S_CERTIFY E_WRITE (by rw [h1]; rfl) (by rw [h2]; rfl) (by simp [rankF, ne_WRITE_READ, ne_WRITE_UPDATE, ne_WRITE_CERTIFY]) (by simp [rankF, ne_WRITE_READ, ne_WRITE_UPDATE, ne_WRITE_CERTIFY]) (by simp [upF, ne_WRITE_READ, ne_WRITE_UPDATE, ne_WRITE_CERTIFY]) (by decide) (by decide) (by decide) (by decide)
  · exact rm0_fftf l Z a0 hw ws p1 p2 w_READ w_WRITE w_UPDATE w_CERTIFY w_WRITE w_UPDATE 3 2 0 h0 n0 Z0 S_READ S_WRITE S_UPDATE S_CERTIFY E_WRITE (by rw [h1]; rfl) (by rw [h2]; rfl) (by simp [rankF, ne_WRITE_READ, ne_WRITE_UPDATE, ne_WRITE_CERTIFY, ne_UPDATE_READ, ne_UPDATE_WRITE, ne_UPDATE_CERTIFY]) (by simp [rankF, ne_WRITE_READ, ne_WRITE_UPDATE, ne_WRITE_CERTIFY, ne_UPDATE_READ, ne_UPDATE_WRITE, ne_UPDATE_CERTIFY]) (by simp [upF, ne_WRITE_READ, ne_WRITE_UPDATE, ne_WRITE_CERTIFY, ne_UPDATE_READ, ne_UPDATE_WRITE, ne_UPDATE_CERTIFY]) (by decide) (by decide) (by decide) (by decide)
  · exact rm0_ftf l Z a0 hw ws p1 p2 w_READ w_WRITE w_UPDATE w_CERTIFY w_WRITE w_CERTIFY 3 0 0 h0 n0 Z0 S_READ S_WRITE S_UPDATE S_CERTIFY E_WRITE (by rw [h1]; rfl) (by rw [h2]; rfl) (by simp [rankF, ne_WRITE_READ, ne_WRITE_UPDATE, ne_WRITE_CERTIFY, ne_CERTIFY_READ, ne_CERTIFY_WRITE, ne_CERTIFY_UPDATE]) (by simp [rankF, ne_WRITE_READ, ne_WRITE_UPDATE, ne_WRITE_CERTIFY, ne_CERTIFY_READ, ne_CERTIFY_WRITE, ne_CERTIFY_UPDATE]) (by simp [upF, ne_WRITE_READ, ne_WRITE_UPDATE, ne_WRITE_CERTIFY, ne_CERTIFY_READ, ne_CERTIFY_WRITE, ne_CERTIFY_UPDATE]) (by decide) (by decide) (by decide)
  · exact rm0_fftf l Z a0 hw ws p1 p2 w_READ w_WRITE w_UPDATE w_CERTIFY w_UPDATE w_READ 2 1 0 h0 n0 Z0 S_READ S_WRITE S_UPDATE S_CERTIFY E_UPDATE (by rw [h1]; rfl) (by rw [h2]; rfl) (by simp [rankF, ne_READ_WRITE, ne_READ_UPDATE, ne_READ_CERTIFY, ne_UPDATE_READ, ne_UPDATE_WRITE, ne_UPDATE_CERTIFY]) (by simp [rankF, ne_READ_WRITE, ne_READ_UPDATE, ne_READ_CERTIFY, ne_UPDATE_READ, ne_UPDATE_WRITE, ne_UPDATE_CERTIFY]) (by simp [upF, ne_READ_WRITE, ne_READ_UPDATE, ne_READ_CERTIFY, ne_UPDATE_READ, ne_UPDATE_WRITE, ne_UPDATE_CERTIFY]) (by decide) (by decide) (by decide) (by decide)
  · exact rm0_ffff l Z a0 hw ws p1 p2 w_READ w_WRITE w_UPDATE w_CERTIFY w_UPDATE w_WRITE 2 3 1 h0 n0 Z0 S_READ S_WRITE S_UPDATE S_CERTIFY E_UPDATE (by rw [h1]; rfl) (by rw [h2]; rfl) (by simp [rankF, ne_WRITE_READ, ne_WRITE_UPDATE, ne_WRITE_CERTIFY, ne_UPDATE_READ, ne_UPDATE_WRITE, ne_UPDATE_CERTIFY]) (by simp [rankF, ne_WRITE_READ, ne_WRITE_UPDATE, ne_WRITE_CERTIFY, ne_UPDATE_READ, ne_UPDATE_WRITE, ne_UPDATE_CERTIFY]) (by simp [upF, ne_WRITE_READ, ne_WRITE_UPDATE, ne_WRITE_CERTIFY, ne_UPDATE_READ, ne_UPDATE_WRITE, ne_UPDATE_CERTIFY]) (by decide) (by decide) (by decide) (by decide)
  · exact rm0_fftf l Z a0 hw ws p1 p2 w_READ w_WRITE w_UPDATE w_CERTIFY w_UPDATE w_UPDATE 2 2 0 h0 n0 Z0 S_READ S_WRITE S_UPDATE S_CERTIFY E_UPDATE (by rw [h1]; rfl) (by rw [h2]; rfl) (by simp [rankF, ne_UPDATE_READ, ne_UPDATE_WRITE, ne_UPDATE_CERTIFY]) (by simp [rankF, ne_UPDATE_READ, ne_UPDATE_WRITE, ne_UPDATE_CERTIFY]) (by simp [upF, ne_UPDATE_READ, ne_UPDATE_WRITE, ne_UPDATE_CERTIFY]) (by decide) (by decide) (by decide) (by decide)
  · exact rm0_ftf l Z a0 hw ws p1 p2 w_READ w_WRITE w_UPDATE w_CERTIFY w_UPDATE w_CERTIFY 2 0 0 h0 n0 Z0 S_READ S_WRITE S_UPDATE S_CERTIFY E_UPDATE (by rw [h1]; rfl) (by rw [h2]; rfl) (by simp [rankF, ne_UPDATE_READ, ne_UPDATE_WRITE, ne_UPDATE_CERTIFY, ne_CERTIFY_READ, ne_CERTIFY_WRITE, ne_CERTIFY_UPDATE]) (by simp [rankF, ne_UPDATE_READ, ne_UPDATE_WRITE, ne_UPDATE_CERTIFY, ne_CERTIFY_READ, ne_CERTIFY_WRITE, ne_CERTIFY_UPDATE]) (by simp [upF, ne_UPDATE_READ, ne_UPDATE_WRITE, ne_UPDATE_CERTIFY, ne_CERTIFY_READ, ne_CERTIFY_WRITE, ne_CERTIFY_UPDATE]) (by decide) (by decide) (by decide)
  · exact rm0_tf l Z a0 hw ws p1 p2 w_READ w_WRITE w_UPDATE w_CERTIFY w_CERTIFY w_READ 0 1 0 h0 n0 Z0 S_READ S_WRITE S_UPDATE S_CERTIFY E_CERTIFY (by rw [h1]; rfl) (by rw [h2]; rfl) (by simp [rankF, ne_READ_WRITE, ne_READ_UPDATE, ne_READ_CERTIFY, ne_CERTIFY_READ, ne_CERTIFY_WRITE, ne_CERTIFY_UPDATE]) (by simp [rankF, ne_READ_WRITE, ne_READ_UPDATE, ne_READ_CERTIFY, ne_CERTIFY_READ, ne_CERTIFY_WRITE, ne_CERTIFY_UPDATE]) (by simp [upF, ne_READ_WRITE, ne_READ_UPDATE, ne_READ_CERTIFY, ne_CERTIFY_READ, ne_CERTIFY_WRITE, ne_CERTIFY_UPDATE]) (by decide) (by decide)
  · exact rm0_tf l Z a0 hw ws p1 p2 w_READ w_WRITE w_UPDATE w_CERTIFY w_CERTIFY w_WRITE 0 3 0 h0 n0 Z0 S_READ S_WRITE S_UPDATE S_CERTIFY E_CERTIFY (by rw [h1]; rfl) (by rw [h2]; rfl) (by simp [rankF, ne_WRITE_READ, ne_WRITE_UPDATE, ne_WRITE_CERTIFY, ne_CERTIFY_READ, ne_CERTIFY_WRITE, ne_CERTIFY_UPDATE]) (by simp [rankF, ne_WRITE_READ, ne_WRITE_UPDATE, ne_WRITE_CERTIFY, ne_CERTIFY_READ, ne_CERTIFY_WRITE, ne_CERTIFY_UPDATE]) (by simp [upF, ne_WRITE_READ, ne_WRITE_UPDATE, ne_WRITE_CERTIFY, ne_CERTIFY_READ, ne_CERTIFY_WRITE, ne_CERTIFY_UPDATE]) (by decide) (by decide)
  · exact rm0_tf l Z a0 hw ws p1 p2 w_READ w_WRITE w_UPDATE w_CERTIFY w_CERTIFY w_UPDATE 0 2 0 h0 n0 Z0 S_READ S_WRITE S_UPDATE S_CERTIFY E_CERTIFY (by rw [h1]; rfl) (by rw [h2]; rfl) (by simp [rankF, ne_UPDATE_READ, ne_UPDATE_WRITE, ne_UPDATE_CERTIFY, ne_CERTIFY_READ, ne_CERTIFY_WRITE, ne_CERTIFY_UPDATE]) (by simp [rankF, ne_UPDATE_READ, ne_UPDATE_WRITE, ne_UPDATE_CERTIFY, ne_CERTIFY_READ, ne_CERTIFY_WRITE, ne_CERTIFY_UPDATE]) (by simp [upF, ne_UPDATE_READ, ne_UPDATE_WRITE, ne_UPDATE_CERTIFY, ne_CERTIFY_READ, ne_CERTIFY_WRITE, ne_CERTIFY_UPDATE]) (by decide) (by decide)
  · exact rm0_tf l Z a0 hw ws p1 p2 w_READ w_WRITE w_UPDATE w_CERTIFY w_CERTIFY w_CERTIFY 0 0 0 h0 n0 Z0 S_READ S_WRITE S_UPDATE S_CERTIFY E_CERTIFY (by rw [h1]; rfl) (by rw [h2]; rfl) (by simp [rankF, ne_CERTIFY_READ, ne_CERTIFY_WRITE, ne_CERTIFY_UPDATE]) (by simp [rankF, ne_CERTIFY_READ, ne_CERTIFY_WRITE, ne_CERTIFY_UPDATE]) (by simp [upF, ne_CERTIFY_READ, ne_CERTIFY_WRITE, ne_CERTIFY_UPDATE]) (by decide) (by decide)
set_option maxRecDepth 65536 in
set_option maxHeartbeats 40000000 in
theorem comes_1 {Post : Tables → Env → Array Value → State → Outcome → State → Prop} (hpost : ∀ tb e args s v u, (limb_1_1.after args s (.returned v) u = true ∧ limb_1_2.after args s (.returned v) u = true ∧ True) → FrameEnd s (.returned v) u (Jvm.fieldLocs frame_1_writes args s ++ Jvm.arrayLocs frame_1_arrays args s ++ Jvm.staticLocs frame_1_statics s) 0 0 → Post tb e args s (.returned v) u) :
    ArmFor flags0 classFile x code maxLocals ret World_1 tables_1 room_1 Calls_1 rest_1 Pre_1 Post := by
  intro l hfl _ _ p e ha hc hk s m args below hf hA hF happ hP
  obtain ⟨hcalls, hrest, hpre⟩ := hP
  obtain ⟨-, -, -, hnamed, -, -, -, hat⟩ := (Spec.applies_iff hf).mp happ
  obtain ⟨hg, hn⟩ := and_e (Cond.before_iff.mp (show (Jvm.Cond.and given_1 narrow_1).before args s = true from hpre))
  obtain ⟨g8, g9⟩ := and_e hg
  obtain ⟨g10, g11⟩ := and_e g9
  obtain ⟨w0, w1, rfl⟩ : ∃ w0 w1 : Value, args = #[w0, w1] := by
    have hs : args.size = 2 := by simpa [Cond.value, given_1] using g8
    obtain ⟨L⟩ := args
    match L, hs with
    | [w0, w1], _ => exact ⟨w0, w1, rfl⟩
  have hw := fun d (hd : d ∈ tables_1) => atoms_spec (ws := Jvm.Cond.code x code maxLocals ret :: tables_1) hat d (List.mem_cons_of_mem _ hd)
  have hfit : Fit s := fun {y c} hc i hi => by
    obtain ⟨ha, rfl⟩ := Array.getElem?_eq_some_iff.mp hc
    have q := List.all_eq_true.mp ((Array.all_eq_true_iff_forall_mem.mp hF) _ (Array.getElem_mem ha)) i (List.mem_range.mpr hi)
    simpa [Array.getElem?_eq_getElem hi] using q
  obtain ⟨i0, ei0⟩ := is_v g10
  obtain rfl : w0 = (.int i0) := Option.some.inj ei0
  obtain ⟨i1, ei1⟩ := is_v g11
  obtain rfl : w1 = (.int i1) := Option.some.inj ei1
  obtain ⟨hn0, hn⟩ := and_e hn
  obtain ⟨hn1, hn⟩ := and_e hn
  obtain ⟨hn2, hn⟩ := and_e hn
  obtain ⟨hn3, hn⟩ := and_e hn
  obtain ⟨hn4, hn⟩ := and_e hn
  obtain ⟨hn5, hn⟩ := and_e hn
  obtain ⟨hn6, hn⟩ := and_e hn
  have hn7 := hn
  obtain ⟨w_READ, ev_READ⟩ := exa_v hn0
  have E_READ := Exa.start ev_READ hn0
  have S_READ := Sta.start ev_READ (Or.inr ⟨hw _ (List.mem_of_getElem? (i := 6) rfl), hw _ (List.mem_of_getElem? (i := 7) rfl)⟩)
  obtain ⟨w_CERTIFY, ev_CERTIFY⟩ := exa_v hn1
  have E_CERTIFY := Exa.start ev_CERTIFY hn1
  have S_CERTIFY := Sta.start ev_CERTIFY (Or.inr ⟨hw _ (List.mem_of_getElem? (i := 6) rfl), hw _ (List.mem_of_getElem? (i := 9) rfl)⟩)
  obtain ⟨w_UPDATE, ev_UPDATE⟩ := exa_v hn4
  have E_UPDATE := Exa.start ev_UPDATE hn4
  have S_UPDATE := Sta.start ev_UPDATE (Or.inr ⟨hw _ (List.mem_of_getElem? (i := 6) rfl), hw _ (List.mem_of_getElem? (i := 14) rfl)⟩)
  obtain ⟨w_WRITE, ev_WRITE⟩ := exa_v hn6
  have E_WRITE := Exa.start ev_WRITE hn6
  have S_WRITE := Sta.start ev_WRITE (Or.inr ⟨hw _ (List.mem_of_getElem? (i := 6) rfl), hw _ (List.mem_of_getElem? (i := 16) rfl)⟩)
  have O_CERTIFY_ordinal := own_fi ev_CERTIFY hn2
  have O_READ_ordinal := own_fi ev_READ hn3
  have O_UPDATE_ordinal := own_fi ev_UPDATE hn5
  have O_WRITE_ordinal := own_fi ev_WRITE hn7
  obtain ⟨n, o, h1, h2, h3, _, L, rfl, ⟨rfl, N⟩, hq⟩ := rm0 l s _ hw tables_1 i0 i1 w_READ w_WRITE w_UPDATE w_CERTIFY s.heap s.heap.size (Nat.le_refl _) S_READ S_WRITE S_UPDATE S_CERTIFY E_READ E_WRITE E_UPDATE E_CERTIFY (own_ne O_READ_ordinal O_WRITE_ordinal (by decide)) (own_ne O_READ_ordinal O_UPDATE_ordinal (by decide)) (own_ne O_READ_ordinal O_CERTIFY_ordinal (by decide)) (own_ne O_WRITE_ordinal O_READ_ordinal (by decide)) (own_ne O_WRITE_ordinal O_UPDATE_ordinal (by decide)) (own_ne O_WRITE_ordinal O_CERTIFY_ordinal (by decide)) (own_ne O_UPDATE_ordinal O_READ_ordinal (by decide)) (own_ne O_UPDATE_ordinal O_WRITE_ordinal (by decide)) (own_ne O_UPDATE_ordinal O_CERTIFY_ordinal (by decide)) (own_ne O_CERTIFY_ordinal O_READ_ordinal (by decide)) (own_ne O_CERTIFY_ordinal O_WRITE_ordinal (by decide)) (own_ne O_CERTIFY_ordinal O_UPDATE_ordinal (by decide)) p e ha hc hk s m _ below hf ((Spec.applies_iff_loose hf).mp happ).1 ⟨rfl, State.Warmed39.refl s, rfl⟩ trivial
  refine ⟨n, _, h1, h2, h3, hpost _ _ _ _ _ _ ⟨Cond.after_iff.mpr rfl, Cond.after_iff.mpr (eq_i res_at (Term.int_eval (1)) rfl), trivial⟩ ⟨hq.1, hq.2.1, (hq.2.2.sift fun y hy => Or.inr (N y hy)).mono (by decide) (by decide)⟩⟩
theorem main_1_1 : Claimed_1_1 := comes_1 fun _ _ _ _ _ _ h hF => ⟨h.1, hF⟩
theorem main_1_2 : Claimed_1_2 := comes_1 fun _ _ _ _ _ _ h hF => ⟨h.2.1, hF⟩

end Jvm.Pilot.@@N@@
namespace Jvm.Pilot.@@N@@
open Jvm Jvm.ClassFile Sem Op Lib Jvm.Free Jvm.Stand Jvm.Pilot.@@N@@.Jvm.D
/-! MADE BY PROGRAM (witnessworld.py) out of the Statement's table words and the real class files: 10 classes; the members and pool entries that the words name. The judged class is class 1, her method 3. -/
namespace start1
open Jvm.ClassFile
def u (s : String) : CpInfo := .utf8 (stringToUtf16 s)
/-- a pool by its gaps: so many unusable entries, then the entry; so many at the end -/
def gap : Nat → List CpInfo → List CpInfo
  | 0, r => r
  | n + 1, r => .unusable :: gap n r
def poolList (es : List (Nat × CpInfo)) (last : Nat) : List CpInfo := es.foldr (fun e r => gap e.1 (e.2 :: r)) (gap last [])
def pool (es : List (Nat × CpInfo)) (last : Nat) : Array CpInfo := ⟨poolList es last⟩
def fileOf (pool : Array CpInfo) (this : Nat) (attrs : Array Attribute := #[]) (ms : Array MethodInfo := #[]) (fl : Nat := 33) (sup : Nat := 0) (ifs : Array Nat := #[]) (fds : Array FieldInfo := #[]) : ClassFile where
  minorVersion := 0
  majorVersion := 65
  constantPool := pool
  accessFlags := fl
  thisClass := this
  superClass := sup
  interfaces := ifs
  fields := fds
  methods := ms
  attributes := attrs
def plain (name : String) (sup : Option ClassId) : Class where
  name := name
  kind := .ordinary
  loader := none
  accessFlags := 33
  super := sup
  interfaces := #[]
  cf := none
  fields := #[]
  methods := #[]
  instanceTypes := #[]
  staticTypes := #[]
  resolved := #[]
  callSites := []
  init := .initialized
  statics := none
  mirror := none

def pool0 : Array CpInfo := pool [(5, u "<init>"), (0, u "()V"), (1, .class_ 10), (1, u "java/lang/Object")] 113

def k0m0 : Method := { name := "<init>", desc := "()V", sig := { parameters := [], returnType := none }, accessFlags := 1, code := none }
/-- java/lang/Object -/
def k0 : Class := { plain "java/lang/Object" none with
  accessFlags := 33
  interfaces := #[]
  cf := some (fileOf pool0 8 #[] #[{ accessFlags := 1, nameIndex := 5, descriptorIndex := 6, attributes := #[] }] 33 0 #[] #[])
  fields := #[]
  methods := #[k0m0]
  instanceTypes := #[]
  staticTypes := #[]
  resolved := Array.replicate 124 none
  statics := none }

def pool1 : Array CpInfo := pool [(2, .class_ 4), (1, u "java/lang/Object"), (0, u "<init>"), (0, u "()V"), (0, .fieldref 8 9), (0, .class_ 10), (0, .nameAndType 11 12), (0, u "com/example/slackline/slackline/core/LockMode"), (0, u "READ"), (0, u "Lcom/example/slackline/slackline/core/LockMode;"), (0, .fieldref 8 14), (0, .nameAndType 15 12), (0, u "WRITE"), (0, .fieldref 8 17), (0, .nameAndType 18 12), (0, u "UPDATE"), (0, .fieldref 8 20), (0, .nameAndType 21 12), (0, u "CERTIFY"), (0, .integer 2147483647), (0, .methodref 24 25), (0, .class_ 26), (0, .nameAndType 27 28), (0, u "com/example/slackline/slackline/core/LockModeUpgradedByPinLaw"), (0, u "mode"), (0, u "(I)Lcom/example/slackline/slackline/core/LockMode;"), (0, .methodref 24 30), (0, .nameAndType 31 32), (0, u "rank"), (0, u "(Lcom/example/slackline/slackline/core/LockMode;)I"), (0, .methodref 8 34), (0, .nameAndType 35 36), (0, u "upgradedBy"), (0, u "(Lcom/example/slackline/slackline/core/LockMode;)Z"), (3, u "law"), (0, u "(II)Z")] 2

def k1m0 : Method := { name := "<init>", desc := "()V", sig := { parameters := [], returnType := none }, accessFlags := 2, code := none }
def k1c1 : Code := { maxStack := 2, maxLocals := 1, code := method_2_code, exceptionTable := #[], attributes := #[] }
def k1m1 : Method := { name := "mode", desc := "(I)Lcom/example/slackline/slackline/core/LockMode;", sig := { parameters := [.int], returnType := some (.object "com/example/slackline/slackline/core/LockMode") }, accessFlags := 10, code := some k1c1 }
def k1c2 : Code := { maxStack := 2, maxLocals := 1, code := method_3_code, exceptionTable := #[], attributes := #[] }
def k1m2 : Method := { name := "rank", desc := "(Lcom/example/slackline/slackline/core/LockMode;)I", sig := { parameters := [(.object "com/example/slackline/slackline/core/LockMode")], returnType := some .int }, accessFlags := 10, code := some k1c2 }
def k1c3 : Code := { maxStack := 2, maxLocals := 7, code := code, exceptionTable := #[], attributes := #[] }
def k1m3 : Method := { name := "law", desc := "(II)Z", sig := { parameters := [.int, .int], returnType := some .boolean }, accessFlags := 9, code := some k1c3 }
/-- com/example/slackline/slackline/core/LockModeUpgradedByPinLaw -/
def k1 : Class := { plain "com/example/slackline/slackline/core/LockModeUpgradedByPinLaw" (some 0) with
  accessFlags := 49
  interfaces := #[]
  cf := some (fileOf pool1 24 #[] #[{ accessFlags := 2, nameIndex := 5, descriptorIndex := 6, attributes := #[] }, { accessFlags := 10, nameIndex := 27, descriptorIndex := 28, attributes := #[] }, { accessFlags := 10, nameIndex := 31, descriptorIndex := 32, attributes := #[] }, { accessFlags := 9, nameIndex := 40, descriptorIndex := 41, attributes := #[] }] 49 2 #[] #[])
  fields := #[]
  methods := #[k1m0, k1m1, k1m2, k1m3]
  instanceTypes := #[]
  staticTypes := #[]
  resolved := Array.replicate 44 none
  statics := none }

def pool2 : Array CpInfo := pool [(1, .class_ 2), (0, u "java/lang/constant/Constable"), (0, .class_ 4), (0, u "java/lang/Object")] 6

/-- java/lang/constant/Constable -/
def k2 : Class := { plain "java/lang/constant/Constable" (some 0) with
  accessFlags := 1537
  interfaces := #[]
  cf := some (fileOf pool2 1 #[] #[] 1537 3 #[] #[])
  fields := #[]
  methods := #[]
  instanceTypes := #[]
  staticTypes := #[]
  resolved := Array.replicate 11 none
  statics := none }

def pool3 : Array CpInfo := pool [(1, .class_ 2), (0, u "java/lang/Comparable"), (0, .class_ 4), (0, u "java/lang/Object")] 7

/-- java/lang/Comparable -/
def k3 : Class := { plain "java/lang/Comparable" (some 0) with
  accessFlags := 1537
  interfaces := #[]
  cf := some (fileOf pool3 1 #[] #[] 1537 3 #[] #[])
  fields := #[]
  methods := #[]
  instanceTypes := #[]
  staticTypes := #[]
  resolved := Array.replicate 12 none
  statics := none }

def pool4 : Array CpInfo := pool [(1, .class_ 2), (0, u "java/io/Serializable"), (0, .class_ 4), (0, u "java/lang/Object")] 2

/-- java/io/Serializable -/
def k4 : Class := { plain "java/io/Serializable" (some 0) with
  accessFlags := 1537
  interfaces := #[]
  cf := some (fileOf pool4 1 #[] #[] 1537 3 #[] #[])
  fields := #[]
  methods := #[]
  instanceTypes := #[]
  staticTypes := #[]
  resolved := Array.replicate 7 none
  statics := none }

def pool5 : Array CpInfo := pool [(2, .class_ 4), (1, u "java/lang/Enum"), (0, u "name"), (0, u "Ljava/lang/String;"), (2, u "ordinal"), (0, u "I"), (1, .class_ 14), (1, u "java/lang/Object"), (4, u "hash"), (86, .class_ 108), (1, u "java/lang/Enum$EnumDesc"), (2, .class_ 112), (0, u "java/lang/constant/Constable"), (0, .class_ 114), (0, u "java/lang/Comparable"), (0, .class_ 116), (0, u "java/io/Serializable")] 87

/-- java/lang/Enum -/
def k5 : Class := { plain "java/lang/Enum" (some 0) with
  accessFlags := 1057
  interfaces := #[2, 3, 4]
  cf := some (fileOf pool5 2 #[.nestMembers #[106]] #[] 1057 12 #[111, 113, 115] #[{ accessFlags := 18, nameIndex := 5, descriptorIndex := 6, attributes := #[] }, { accessFlags := 18, nameIndex := 9, descriptorIndex := 10, attributes := #[] }, { accessFlags := 2, nameIndex := 19, descriptorIndex := 10, attributes := #[] }])
  fields := #[{ name := "name", type := (.object "java/lang/String"), accessFlags := 18, slot := 0, constantValue := 0 }, { name := "ordinal", type := .int, accessFlags := 18, slot := 1, constantValue := 0 }, { name := "hash", type := .int, accessFlags := 2, slot := 2, constantValue := 0 }]
  methods := #[]
  instanceTypes := #[(.object "java/lang/String"), .int, .int]
  staticTypes := #[]
  resolved := Array.replicate 204 none
  statics := none }

def pool6 : Array CpInfo := pool [(1, .class_ 2), (0, u "com/example/slackline/slackline/core/LockMode"), (0, .fieldref 1 4), (0, .nameAndType 5 6), (0, u "READ"), (0, u "Lcom/example/slackline/slackline/core/LockMode;"), (0, .fieldref 1 8), (0, .nameAndType 9 6), (0, u "WRITE"), (0, .fieldref 1 11), (0, .nameAndType 12 6), (0, u "UPDATE"), (2, u "CERTIFY"), (2, u "$VALUES"), (0, u "[Lcom/example/slackline/slackline/core/LockMode;"), (6, .class_ 28), (1, u "java/lang/Enum"), (22, u "upgradedBy"), (0, u "(Lcom/example/slackline/slackline/core/LockMode;)Z")] 5

def k6c0 : Code := { maxStack := 2, maxLocals := 2, code := prog_33_method_4_code, exceptionTable := #[], attributes := #[] }
def k6m0 : Method := { name := "upgradedBy", desc := "(Lcom/example/slackline/slackline/core/LockMode;)Z", sig := { parameters := [(.object "com/example/slackline/slackline/core/LockMode")], returnType := some .boolean }, accessFlags := 1, code := some k6c0 }
/-- com/example/slackline/slackline/core/LockMode -/
def k6 : Class := { plain "com/example/slackline/slackline/core/LockMode" (some 5) with
  accessFlags := 16433
  interfaces := #[]
  cf := some (fileOf pool6 1 #[] #[{ accessFlags := 1, nameIndex := 51, descriptorIndex := 52, attributes := #[] }] 16433 26 #[] #[{ accessFlags := 16409, nameIndex := 5, descriptorIndex := 6, attributes := #[] }, { accessFlags := 16409, nameIndex := 9, descriptorIndex := 6, attributes := #[] }, { accessFlags := 16409, nameIndex := 12, descriptorIndex := 6, attributes := #[] }, { accessFlags := 16409, nameIndex := 15, descriptorIndex := 6, attributes := #[] }, { accessFlags := 4122, nameIndex := 18, descriptorIndex := 19, attributes := #[] }])
  fields := #[{ name := "READ", type := (.object "com/example/slackline/slackline/core/LockMode"), accessFlags := 16409, slot := 0, constantValue := 0 }, { name := "WRITE", type := (.object "com/example/slackline/slackline/core/LockMode"), accessFlags := 16409, slot := 1, constantValue := 0 }, { name := "UPDATE", type := (.object "com/example/slackline/slackline/core/LockMode"), accessFlags := 16409, slot := 2, constantValue := 0 }, { name := "CERTIFY", type := (.object "com/example/slackline/slackline/core/LockMode"), accessFlags := 16409, slot := 3, constantValue := 0 }, { name := "$VALUES", type := (.array (.object "com/example/slackline/slackline/core/LockMode")), accessFlags := 4122, slot := 4, constantValue := 0 }]
  methods := #[k6m0]
  instanceTypes := #[(.object "java/lang/String"), .int, .int]
  staticTypes := #[(.object "com/example/slackline/slackline/core/LockMode"), (.object "com/example/slackline/slackline/core/LockMode"), (.object "com/example/slackline/slackline/core/LockMode"), (.object "com/example/slackline/slackline/core/LockMode"), (.array (.object "com/example/slackline/slackline/core/LockMode"))]
  resolved := Array.replicate 58 none
  statics := some 0 }

def pool7 : Array CpInfo := pool [(1, u "java/lang/Cloneable"), (0, .class_ 1), (0, u "java/lang/Object"), (0, .class_ 3)] 3

/-- java/lang/Cloneable -/
def k7 : Class := { plain "java/lang/Cloneable" (some 0) with
  accessFlags := 1537
  interfaces := #[]
  cf := some (fileOf pool7 2 #[] #[] 1537 4 #[] #[])
  fields := #[]
  methods := #[]
  instanceTypes := #[]
  staticTypes := #[]
  resolved := Array.replicate 8 none
  statics := none }

/-- the primitive byte -/
def k8 : Class := { plain "byte" none with kind := .primitive 'B', accessFlags := 0x411 }
/-- [B -/
def k9 : Class := { plain "[B" (some 0) with kind := .array 8 .byte, interfaces := #[7, 4], accessFlags := 1041 }

def heap : Heap := #[{ cls := 6, slots := #[.ref 1, .ref 2, .ref 3, .ref 4, .null], vm := .statics 6 },
  { cls := 6, slots := #[.null, .int 0, .int 0], vm := .none },
  { cls := 6, slots := #[.null, .int 1, .int 0], vm := .none },
  { cls := 6, slots := #[.null, .int 2, .int 0], vm := .none },
  { cls := 6, slots := #[.null, .int 3, .int 0], vm := .none }]
def classes : Array Class := #[k0, k1, k2, k3, k4, k5, k6, k7, k8, k9]
def interned : List (Array UInt16 × Addr) := []
def slotsUsed : Nat := 17
def theMethod : MethodId := ⟨1, 3⟩
def args0 : Array Value := #[.int 5, .int 2]
def aboutOver (below : List Frame) : State where
  vm := { classes := classes, interned := interned.toArray }
  heap := heap
  slotsUsed := slotsUsed
  threads := #[{ frames := .invoking theMethod args0 :: below }]
def below0 : List Frame := [.native { method := ⟨0, 0⟩, args := #[] }]
def about1 : State := aboutOver below0
def p0 : Program := .bare "" "" ""
def e0 : Env := launch0.env 0 0 0
theorem w_frames : about1.frames = Frame.invoking theMethod args0 :: below0 := rfl
set_option maxRecDepth 65536 in
theorem w_args : argsFit about1.vm theMethod args0 = true := by decide +kernel
set_option maxRecDepth 65536 in
theorem w_heap : heapFits about1 = true := by decide +kernel
set_option maxRecDepth 65536 in
theorem w_runnable : about1.curStatus? = some .runnable := by decide +kernel
set_option maxRecDepth 65536 in
theorem w_alone : about1.alone = true := by decide +kernel
set_option maxRecDepth 65536 in
theorem w_named : about1.methodNamed? x = some theMethod := by decide +kernel
set_option maxRecDepth 65536 in
theorem w_hears : about1.hears theMethod below0 = true := by decide +kernel
set_option maxRecDepth 65536 in
theorem w_ripe : about1.ripe theMethod args0 below0 = true := by decide +kernel
theorem w_running : about1.status = .running := rfl
set_option maxRecDepth 65536 in
theorem w_room : about1.hasRoom e0.platform room_1 = true :=
  launch0.hasRoom_least _ room_1 (by decide +kernel) (by decide +kernel) (by decide +kernel) (by decide +kernel) (by decide +kernel) (by decide +kernel)
theorem allAtoms_all (ts : List Jvm.Cond) (a : Array Jvm.Value) (st : Jvm.State) : (allAtoms ts).before a st = ts.all (fun c => c.before a st) := by
  induction ts with
  | nil => rfl
  | cons c t ih =>
    show (Jvm.Cond.and c (allAtoms t)).before a st = _
    rw [Jvm.Cond.before_and, ih, List.all_cons]
def words1 : List Jvm.Cond := Jvm.Cond.code x code maxLocals ret :: tables_1
/-- a 'code' word, met by the world's own term for the bytes: nothing is compared byte by byte -/
theorem code_word {y : MethodName} {bytes : ByteArray} {mx : Nat} {rt : Option FieldType} {a : Array Value} {s : State} {m : MethodId} {meth : Method} {c : Code} (h1 : s.methodNamed? y = some m) (h2 : s.vm.method? m = some meth) (h3 : meth.code = some c) (h4 : c.code = bytes)
    (h5 : (c.maxLocals == mx && c.exceptionTable.isEmpty && decide (c.maxStack ≤ mostOperands) && decide (meth.sig.returnType = rt) && !meth.locks && decide (parseMethodDescriptor y.desc = some meth.sig)) = true) : (Jvm.Cond.code y bytes mx rt).before a s = true := by
  simp only [Bool.and_eq_true, beq_iff_eq, Bool.not_eq_true', decide_eq_true_eq] at h5
  obtain ⟨⟨⟨⟨⟨g1, g2⟩, g3⟩, g4⟩, g5⟩, g6⟩ := h5
  simp [Cond.before, Cond.holds, Cond.value, h1, h2, h3, h4, g1, g2, g3, g4, g5, g6]
def isCode : Jvm.Cond → Bool
  | .code _ _ _ _ => true
  | _ => false
theorem all_split {L : List Jvm.Cond} {P : Jvm.Cond → Bool} (h1 : L.all (fun c => isCode c || P c) = true) (h2 : ∀ c ∈ L.filter isCode, P c = true) : L.all P = true := by
  refine List.all_eq_true.mpr fun c hc => ?_
  have h := List.all_eq_true.mp h1 c hc
  rcases Bool.eq_false_or_eq_true (isCode c) with hi | hi
  · exact h2 c (List.mem_filter.mpr ⟨hc, hi⟩)
  · simpa [hi] using h
set_option maxRecDepth 65536 in
theorem w_c0 : (Jvm.Cond.code x code maxLocals ret).before args0 about1 = true := code_word (m := ⟨1, 3⟩) (meth := k1m3) (c := k1c3) (by decide +kernel) rfl rfl rfl (by decide +kernel)
set_option maxRecDepth 65536 in
theorem w_c1 : (Jvm.Cond.code ({ cls := "com/example/slackline/slackline/core/LockModeUpgradedByPinLaw", name := "mode", desc := "(I)Lcom/example/slackline/slackline/core/LockMode;" } : Jvm.MethodName) method_2_code (1 : Nat) (Option.some (Jvm.ClassFile.FieldType.object "com/example/slackline/slackline/core/LockMode"))).before args0 about1 = true := code_word (m := ⟨1, 1⟩) (meth := k1m1) (c := k1c1) (by decide +kernel) rfl rfl rfl (by decide +kernel)
set_option maxRecDepth 65536 in
theorem w_c2 : (Jvm.Cond.code ({ cls := "com/example/slackline/slackline/core/LockModeUpgradedByPinLaw", name := "rank", desc := "(Lcom/example/slackline/slackline/core/LockMode;)I" } : Jvm.MethodName) method_3_code (1 : Nat) (Option.some Jvm.ClassFile.FieldType.int)).before args0 about1 = true := code_word (m := ⟨1, 2⟩) (meth := k1m2) (c := k1c2) (by decide +kernel) rfl rfl rfl (by decide +kernel)
set_option maxRecDepth 65536 in
theorem w_c3 : (Jvm.Cond.code ({ cls := "com/example/slackline/slackline/core/LockMode", name := "upgradedBy", desc := "(Lcom/example/slackline/slackline/core/LockMode;)Z" } : Jvm.MethodName) prog_33_method_4_code (2 : Nat) (Option.some Jvm.ClassFile.FieldType.boolean)).before args0 about1 = true := code_word (m := ⟨6, 0⟩) (meth := k6m0) (c := k6c0) (by decide +kernel) rfl rfl rfl (by decide +kernel)
def codes1 : List Jvm.Cond := [Jvm.Cond.code x code maxLocals ret, Jvm.Cond.code ({ cls := "com/example/slackline/slackline/core/LockModeUpgradedByPinLaw", name := "mode", desc := "(I)Lcom/example/slackline/slackline/core/LockMode;" } : Jvm.MethodName) method_2_code (1 : Nat) (Option.some (Jvm.ClassFile.FieldType.object "com/example/slackline/slackline/core/LockMode")), Jvm.Cond.code ({ cls := "com/example/slackline/slackline/core/LockModeUpgradedByPinLaw", name := "rank", desc := "(Lcom/example/slackline/slackline/core/LockMode;)I" } : Jvm.MethodName) method_3_code (1 : Nat) (Option.some Jvm.ClassFile.FieldType.int), Jvm.Cond.code ({ cls := "com/example/slackline/slackline/core/LockMode", name := "upgradedBy", desc := "(Lcom/example/slackline/slackline/core/LockMode;)Z" } : Jvm.MethodName) prog_33_method_4_code (2 : Nat) (Option.some Jvm.ClassFile.FieldType.boolean)]
set_option maxRecDepth 65536 in
theorem codes_eq : words1.filter isCode = codes1 := rfl
theorem w_codes : ∀ c ∈ words1.filter isCode, c.before args0 about1 = true := by
  rw [codes_eq]
  intro c hc
  simp only [codes1, List.mem_cons, List.not_mem_nil, or_false] at hc
  rcases hc with rfl | rfl | rfl | rfl
  · exact w_c0
  · exact w_c1
  · exact w_c2
  · exact w_c3
set_option maxRecDepth 65536 in
theorem w_t1 : (words1.take 24).all (fun c => isCode c || c.before args0 about1) = true := by decide +kernel
set_option maxRecDepth 65536 in
theorem w_t2 : (words1.drop 24).all (fun c => isCode c || c.before args0 about1) = true := by decide +kernel
theorem w_tables : (allAtoms (Jvm.Cond.code x code maxLocals ret :: tables_1)).before args0 about1 = true := by
  rw [allAtoms_all]
  show words1.all (fun c => c.before args0 about1) = true
  refine all_split ?_ w_codes
  rw [← List.take_append_drop 24 words1, List.all_append, w_t1, w_t2]
  rfl
set_option maxRecDepth 65536 in
theorem w_case : (Jvm.Cond.and given_1 narrow_1).before args0 about1 = true := by decide +kernel
theorem w_applies : (headSpec (Jvm.Cond.code x code maxLocals ret :: tables_1) room_1).applies x e0.platform about1 = true :=
  (Spec.applies_iff w_frames).mpr ⟨w_running, w_runnable, w_alone, w_named, w_hears, w_ripe, w_room, w_tables⟩
theorem atStart : AtStart classFile x code maxLocals ret World_1 tables_1 room_1 Calls_1 rest_1 Pre_1 launch0 p0 e0 about1 theMethod args0 below0 :=
  ⟨lists_1, trivial, launch0.admits_env _ _ _, launch0.least_env, fairChoices_fair.cas, fairChoices_fair.clock, w_frames, w_args, w_heap, w_applies, trivial, trivial, w_case⟩
end start1
theorem witness_1 : WitnessClaimed_1 := ⟨start1.p0, start1.e0, start1.about1, start1.theMethod, start1.args0, start1.below0, start1.atStart⟩
end Jvm.Pilot.@@N@@
