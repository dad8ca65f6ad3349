import JvmDerived
import JvmDerived.Pilot.@@N@@Statement
import JvmDerived.Pilot.@@N@@Code
set_option linter.unusedVariables false
set_option linter.unusedSimpArgs false
namespace Jvm.RoadKit
open Sem ClassFile Op Lib Jvm.Stand Jvm.Free Jvm.LawKit
section New
variable {p : Program} {l : Launch} {e : Env} {R : Room} {s : State} {m : MethodId} {args : Array Value} {below : List Frame} {meth : Method} {c : Code} {T : State} {locs : List Loc} {cells slots : Nat}
theorem retI (X : Stand p l e R s m args below meth c T locs cells slots) (hx : p.tables.exec = Jvm.exec) {pc : Nat} {Ls : Array Slot} {z : Int32} {rest : List Value} (hret : meth.sig.returnType = some .int) (hd : decode c.code pc = .ok (.ireturn, 1)) {fs : List Frame}
    (hl : ∀ (f : JFrame) (acts : List Action), f.method = m → f.locked = none → f.entered = [] → (doReturn e (T.setTop f) acts (some (.int z))).1 = T.setFrames fs) : Steps p.tables e below (T.setTop (mkF m pc Ls (.int z :: rest))) (T.setFrames fs) := by
  have hm' : T.vm.method? m = some meth := X.method'
  have hn : narrow .int (.int z) = .int z := rfl
  show Steps p.tables e below (T.setTop { method := m, pc := pc, locals := Ls, stack := _ :: rest, locked := none }) _
  jvm_step X.here [X.here.top, hx, hd, hm', hret, hn]
  first | (intro acts; rw [hl _ acts rfl rfl rfl]) | rw [hl _ _ rfl rfl rfl]
  exact Steps.refl _
end New
end Jvm.RoadKit
namespace Jvm.Pilot.@@N@@
open Jvm Jvm.ClassFile Sem Op Lib Jvm.Free Jvm.Stand Jvm.LawKit Jvm.RoadKit Bundle Jvm.Pilot.@@N@@.Jvm.D
theorem own_fi {s : State} {args : Array Value} {t : Term} {C n d : String} {k : Int32} {x : Addr} (ht : t.eval args s none [] s = some (.ref x)) (h : (Jvm.Cond.eq (.field t C n d) (.int k)).value args s none s [] = some true) : s.fieldOf? x C n d = some (.int k) := by
  obtain ⟨u, v, e1, e2, k1, k2⟩ := cmp_v (Or.inl h)
  have e3 : (Term.int k).eval args s none [] s = some (.int k) := Term.int_eval k
  obtain rfl : v = .int k := Option.some.inj (e2.symm.trans e3)
  obtain ⟨z, rfl⟩ := k2
  have e4 : some true = some (decide (z = k)) := h.symm.trans (by simp [Cond.value, e1, e3])
  have e5 : z = k := of_decide_eq_true (Option.some.inj e4).symm
  subst e5
  exact (fld_at ht).symm.trans e1
theorem own_fr {s : State} {args : Array Value} {t t2 : Term} {C n d : String} {x y : Addr} (ht : t.eval args s none [] s = some (.ref x)) (ht2 : t2.eval args s none [] s = some (.ref y)) (h : (Jvm.Cond.eq (.field t C n d) t2).value args s none s [] = some true) : s.fieldOf? x C n d = some (.ref y) := by
  obtain ⟨u, v, e1, e2, k1, k2⟩ := cmp_v (Or.inl h)
  obtain rfl : v = .ref y := Option.some.inj (e2.symm.trans ht2)
  have hu : u.isRef = true := k2.2
  have e5 : u = .ref y := gotT (eq_R e1 ht2 hu rfl) h
  subst e5
  exact (fld_at ht).symm.trans e1
theorem own_ne {s : State} {a b : Addr} {C n d : String} {j k : Int32} (h1 : s.fieldOf? a C n d = some (.int j)) (h2 : s.fieldOf? b C n d = some (.int k)) (hne : j ≠ k) : a ≠ b := fun q => by
  subst q
  have h := h1.symm.trans h2
  injection h with h
  injection h with h
  exact hne h
theorem own_top31 (x : Int32) : 0 ≤ (x &&& 2147483647).toInt := by
  have h := c_mask x 2147483647 31 (by decide) (by decide)
  omega
theorem own_rem {x d : Int32} {n : Nat} (h0 : 0 ≤ x.toInt) (hd : d.toInt = n) (hn : 0 < n) : 0 ≤ (x % d).toInt ∧ (x % d).toInt < n := by
  have h := (c_irem x d n hd).1 h0
  constructor <;> rw [h]
  · exact Int.emod_nonneg _ (by omega)
  · exact Int.emod_lt_of_pos _ (by omega)
def actF (a p q e : Addr) : Int32 := if a = p then 1 else if a = q then 1 else if a = e then 1 else 0
def runF (a q e : Addr) : Int32 := if a = q then 1 else if a = e then 1 else 0
theorem d1_0 : decode prog_95_method_4_code 0 = .ok (.aload_n 0, 1) := by decide +kernel
theorem d1_1 : decode prog_95_method_4_code 1 = .ok (.getstatic 3, 3) := by decide +kernel
theorem d1_4 : decode prog_95_method_4_code 4 = .ok (.if_acmp .eq 17, 3) := by decide +kernel
theorem d1_21 : decode prog_95_method_4_code 21 = .ok (.iconst 1, 1) := by decide +kernel
theorem d1_22 : decode prog_95_method_4_code 22 = .ok (.goto 4, 3) := by decide +kernel
theorem d1_26 : decode prog_95_method_4_code 26 = .ok (.ireturn, 1) := by decide +kernel
theorem pn_1 : plainName "com/example/vo_query_server/voqueryserver/Phase" = true := by first | (simp [plainName, overriddenIn]; done) | decide +kernel
theorem ef_1 (m : MethodId) (x0 : Addr) : entryFrame m #[(.ref x0)] 1 = mkF m 0 #[.val (.ref x0)] [] := by first | (simp [entryFrame, mkF, argsToLocals, Value.category]; done) | rfl
theorem d1_7 : decode prog_95_method_4_code 7 = .ok (.aload_n 0, 1) := by decide +kernel
theorem d1_8 : decode prog_95_method_4_code 8 = .ok (.getstatic 7, 3) := by decide +kernel
theorem d1_11 : decode prog_95_method_4_code 11 = .ok (.if_acmp .eq 10, 3) := by decide +kernel
theorem d1_14 : decode prog_95_method_4_code 14 = .ok (.aload_n 0, 1) := by decide +kernel
theorem d1_15 : decode prog_95_method_4_code 15 = .ok (.getstatic 10, 3) := by decide +kernel
theorem d1_18 : decode prog_95_method_4_code 18 = .ok (.if_acmp .ne 7, 3) := by decide +kernel
theorem d1_25 : decode prog_95_method_4_code 25 = .ok (.iconst 0, 1) := by decide +kernel
def Q1 (Z : State) (a1 : Addr) (w_PENDING : Addr) (w_QUEUED : Addr) (w_EXECUTING : Addr) (h0 : Heap) (n0 : Nat) (v : Option Value) (h : Heap) (L : List Loc) : Prop := v = some (.int (actF a1 w_PENDING w_QUEUED w_EXECUTING)) ∧ Fr n0 L ∧ h = h0
set_option maxRecDepth 65536 in
set_option maxHeartbeats 40000000 in
theorem rm1_t (l : Launch) (Z : State) (a0 : Array Value) (hw : ∀ d ∈ tables_1, d.before a0 Z = true) (ws : List Jvm.Cond) (a1 : Addr) (w_PENDING : Addr) (w_QUEUED : Addr) (w_EXECUTING : Addr) (h0 : Heap) (n0 : Nat) (Z0 : n0 ≤ h0.size) (S_PENDING : Sta Z h0 "com/example/vo_query_server/voqueryserver/Phase" "PENDING" "Lcom/example/vo_query_server/voqueryserver/Phase;" (.ref w_PENDING)) (S_QUEUED : Sta Z h0 "com/example/vo_query_server/voqueryserver/Phase" "QUEUED" "Lcom/example/vo_query_server/voqueryserver/Phase;" (.ref w_QUEUED)) (S_EXECUTING : Sta Z h0 "com/example/vo_query_server/voqueryserver/Phase" "EXECUTING" "Lcom/example/vo_query_server/voqueryserver/Phase;" (.ref w_EXECUTING)) (ha4 : a1 = w_PENDING) :
    MetFree l (⟨"com/example/vo_query_server/voqueryserver/Phase", "isActive", "()Z"⟩ : MethodName) (head1 (Jvm.Cond.code (⟨"com/example/vo_query_server/voqueryserver/Phase", "isActive", "()Z"⟩ : MethodName) prog_95_method_4_code 1 (some .boolean) :: ws) ({ frames := 0, cells := 0, slots := 0, locals := 0 } : Room)) (fun a U => a = #[(.ref a1)] ∧ Z.Warmed39 U.vm ∧ U.heap = h0) (fun _ _ _ _ _ => True) (fun _ U o U' => ∃ v L, o = .returned v ∧ Q1 Z a1 w_PENDING w_QUEUED w_EXECUTING h0 n0 v U'.heap L ∧ FrameEnd U o U' L ({ frames := 0, cells := 0, slots := 0, locals := 0 } : Room).cells ({ frames := 0, cells := 0, slots := 0, locals := 0 } : Room).slots) := by
  refine MetFree.of_bodySF (plainFor_of_name pn_1) hisR ?_
  intro p e s m args below meth c s₁ Bd hml0 hP hK
  obtain ⟨rfl, hZ, hh⟩ := hP
  have hx := Bd.exec
  have hby := Bd.bytes
  have hml : c.maxLocals = 1 := hml0
  have hown : s.vm.findClass "com/example/vo_query_server/voqueryserver/Phase" = some m.cls := findClass_of_methodNamed Bd.named
  have hnm := (name_of_methodNamed Bd.named Bd.method).1
  have X0 : Stand p l e ({ frames := 0, cells := 0, slots := 0, locals := 0 } : Room) s m #[(.ref a1)] below meth c s₁ [] 0 0 := Stand.of_body Bd
  have e0 : s₁.heap = h0 := by rw [← hh, Bd.state]; rfl
  have N0 := Fr.nil n0
  have pre0 : ∀ t, Steps p.tables e below (s₁.setTop (mkF m 0 #[.val (.ref a1)] [])) t → Steps p.tables e below (s₁.setTop (entryFrame m #[(.ref a1)] 1)) t := fun t k => castTop (ef_1 m a1) k
  -- 3. LAWS
  obtain ⟨T3, X3, e3, st3⟩ := getS2 X0 hx hZ hown (host := "") (Or.inl (hw _ (List.mem_of_getElem? (i := 30) rfl))) Via.refl e0 S_PENDING (g := (mkF m 1 #[.val (.ref a1)] [(.ref a1)])) rfl (hb hby d1_1)
  obtain ⟨fs, hr, hrun, hended, hW, hsame⟩ := X3.leave (v := some (.int (1 : Int32))) (fun h => by rw [Bd.returns] at h; cases h)
  refine ⟨_, _, pre0 _ ?_, hrun, hended, _, _, rfl, ?_, ⟨_, rfl⟩, hW, hsame.mono (by decide) (by decide)⟩
  -- 4. STEPS
  · show Steps p.tables e below (s₁.setTop (mkF m 0 #[.val (.ref a1)] [])) _
    refine XS.aloadN X0.here hx rfl (hb hby d1_0) rfl rfl ?_
    show Steps p.tables e below (s₁.setTop (mkF m 1 #[.val (.ref a1)] [(.ref a1)])) _
    refine st3 _ ?_
    show Steps p.tables e below (T3.setTop (mkF m 4 #[.val (.ref a1)] [(.ref w_PENDING), (.ref a1)])) _
    refine Jvm.RoadKit.acmp (g := (mkF m 4 #[.val (.ref a1)] [(.ref w_PENDING), (.ref a1)])) X3 hx rfl rfl rfl (pc0 := 4) (pc' := 21) (same := true) rfl (hb hby d1_4) rfl (decide_eq_true (congrArg Value.ref ha4)) (by decide) (by decide) ?_
    show Steps p.tables e below (T3.setTop (mkF m 21 #[.val (.ref a1)] [])) _
    refine XS.iconst X3.here hx rfl (hb hby d1_21) ?_
    show Steps p.tables e below (T3.setTop (mkF m 22 #[.val (.ref a1)] [(.int (1 : Int32))])) _
    refine XS.goto X3.here hx rfl (pc0 := 22) (pc' := 26) rfl (hb hby d1_22) (by decide) (by decide) ?_
    show Steps p.tables e below (T3.setTop (mkF m 26 #[.val (.ref a1)] [(.int (1 : Int32))])) _
    exact retN X3 hx (t := .boolean) Bd.returns (by simp) (hb hby d1_26) hr
  · show Q1 Z a1 w_PENDING w_QUEUED w_EXECUTING h0 n0 _ T3.heap _
    rw [e3]
    exact ⟨by simp_all [actF], N0, rfl⟩
set_option maxRecDepth 65536 in
set_option maxHeartbeats 40000000 in
theorem rm1_ft (l : Launch) (Z : State) (a0 : Array Value) (hw : ∀ d ∈ tables_1, d.before a0 Z = true) (ws : List Jvm.Cond) (a1 : Addr) (w_PENDING : Addr) (w_QUEUED : Addr) (w_EXECUTING : Addr) (h0 : Heap) (n0 : Nat) (Z0 : n0 ≤ h0.size) (S_PENDING : Sta Z h0 "com/example/vo_query_server/voqueryserver/Phase" "PENDING" "Lcom/example/vo_query_server/voqueryserver/Phase;" (.ref w_PENDING)) (S_QUEUED : Sta Z h0 "com/example/vo_query_server/voqueryserver/Phase" "QUEUED" "Lcom/example/vo_query_server/voqueryserver/Phase;" (.ref w_QUEUED)) (S_EXECUTING : Sta Z h0 "com/example/vo_query_server/voqueryserver/Phase" "EXECUTING" "Lcom/example/vo_query_server/voqueryserver/Phase;" (.ref w_EXECUTING)) (ha4 : ¬ (a1 = w_PENDING)) (ha11 : a1 = w_QUEUED) :
    MetFree l (⟨"com/example/vo_query_server/voqueryserver/Phase", "isActive", "()Z"⟩ : MethodName) (head1 (Jvm.Cond.code (⟨"com/example/vo_query_server/voqueryserver/Phase", "isActive", "()Z"⟩ : MethodName) prog_95_method_4_code 1 (some .boolean) :: ws) ({ frames := 0, cells := 0, slots := 0, locals := 0 } : Room)) (fun a U => a = #[(.ref a1)] ∧ Z.Warmed39 U.vm ∧ U.heap = h0) (fun _ _ _ _ _ => True) (fun _ U o U' => ∃ v L, o = .returned v ∧ Q1 Z a1 w_PENDING w_QUEUED w_EXECUTING h0 n0 v U'.heap L ∧ FrameEnd U o U' L ({ frames := 0, cells := 0, slots := 0, locals := 0 } : Room).cells ({ frames := 0, cells := 0, slots := 0, locals := 0 } : Room).slots) := by
  refine MetFree.of_bodySF (plainFor_of_name pn_1) hisR ?_
  intro p e s m args below meth c s₁ Bd hml0 hP hK
  obtain ⟨rfl, hZ, hh⟩ := hP
  have hx := Bd.exec
  have hby := Bd.bytes
  have hml : c.maxLocals = 1 := hml0
  have hown : s.vm.findClass "com/example/vo_query_server/voqueryserver/Phase" = some m.cls := findClass_of_methodNamed Bd.named
  have hnm := (name_of_methodNamed Bd.named Bd.method).1
  have X0 : Stand p l e ({ frames := 0, cells := 0, slots := 0, locals := 0 } : Room) s m #[(.ref a1)] below meth c s₁ [] 0 0 := Stand.of_body Bd
  have e0 : s₁.heap = h0 := by rw [← hh, Bd.state]; rfl
  have N0 := Fr.nil n0
  have pre0 : ∀ t, Steps p.tables e below (s₁.setTop (mkF m 0 #[.val (.ref a1)] [])) t → Steps p.tables e below (s₁.setTop (entryFrame m #[(.ref a1)] 1)) t := fun t k => castTop (ef_1 m a1) k
  -- 3. LAWS
  obtain ⟨T3, X3, e3, st3⟩ := getS2 X0 hx hZ hown (host := "") (Or.inl (hw _ (List.mem_of_getElem? (i := 30) rfl))) Via.refl e0 S_PENDING (g := (mkF m 1 #[.val (.ref a1)] [(.ref a1)])) rfl (hb hby d1_1)
  obtain ⟨T5, X5, e5, st5⟩ := getS2 X3 hx hZ hown (host := "") (Or.inl (hw _ (List.mem_of_getElem? (i := 36) rfl))) Via.refl e3 S_QUEUED (g := (mkF m 8 #[.val (.ref a1)] [(.ref a1)])) rfl (hb hby d1_8)
  obtain ⟨fs, hr, hrun, hended, hW, hsame⟩ := X5.leave (v := some (.int (1 : Int32))) (fun h => by rw [Bd.returns] at h; cases h)
  refine ⟨_, _, pre0 _ ?_, hrun, hended, _, _, rfl, ?_, ⟨_, rfl⟩, hW, hsame.mono (by decide) (by decide)⟩
  -- 4. STEPS
  · show Steps p.tables e below (s₁.setTop (mkF m 0 #[.val (.ref a1)] [])) _
    refine XS.aloadN X0.here hx rfl (hb hby d1_0) rfl rfl ?_
    show Steps p.tables e below (s₁.setTop (mkF m 1 #[.val (.ref a1)] [(.ref a1)])) _
    refine st3 _ ?_
    show Steps p.tables e below (T3.setTop (mkF m 4 #[.val (.ref a1)] [(.ref w_PENDING), (.ref a1)])) _
    refine Jvm.RoadKit.acmp (g := (mkF m 4 #[.val (.ref a1)] [(.ref w_PENDING), (.ref a1)])) X3 hx rfl rfl rfl (pc0 := 4) (pc' := 7) (same := false) rfl (hb hby d1_4) rfl (decide_eq_false fun q => ha4 (Value.ref.inj q)) (by decide) (by decide) ?_
    show Steps p.tables e below (T3.setTop (mkF m 7 #[.val (.ref a1)] [])) _
    refine XS.aloadN X3.here hx rfl (hb hby d1_7) rfl rfl ?_
    show Steps p.tables e below (T3.setTop (mkF m 8 #[.val (.ref a1)] [(.ref a1)])) _
    refine st5 _ ?_
    show Steps p.tables e below (T5.setTop (mkF m 11 #[.val (.ref a1)] [(.ref w_QUEUED), (.ref a1)])) _
    refine Jvm.RoadKit.acmp (g := (mkF m 11 #[.val (.ref a1)] [(.ref w_QUEUED), (.ref a1)])) X5 hx rfl rfl rfl (pc0 := 11) (pc' := 21) (same := true) rfl (hb hby d1_11) rfl (decide_eq_true (congrArg Value.ref ha11)) (by decide) (by decide) ?_
    show Steps p.tables e below (T5.setTop (mkF m 21 #[.val (.ref a1)] [])) _
    refine XS.iconst X5.here hx rfl (hb hby d1_21) ?_
    show Steps p.tables e below (T5.setTop (mkF m 22 #[.val (.ref a1)] [(.int (1 : Int32))])) _
    refine XS.goto X5.here hx rfl (pc0 := 22) (pc' := 26) rfl (hb hby d1_22) (by decide) (by decide) ?_
    show Steps p.tables e below (T5.setTop (mkF m 26 #[.val (.ref a1)] [(.int (1 : Int32))])) _
    exact retN X5 hx (t := .boolean) Bd.returns (by simp) (hb hby d1_26) hr
  · show Q1 Z a1 w_PENDING w_QUEUED w_EXECUTING h0 n0 _ T5.heap _
    rw [e5]
    exact ⟨by simp_all [actF], N0, rfl⟩
set_option maxRecDepth 65536 in
set_option maxHeartbeats 40000000 in
theorem rm1_fff (l : Launch) (Z : State) (a0 : Array Value) (hw : ∀ d ∈ tables_1, d.before a0 Z = true) (ws : List Jvm.Cond) (a1 : Addr) (w_PENDING : Addr) (w_QUEUED : Addr) (w_EXECUTING : Addr) (h0 : Heap) (n0 : Nat) (Z0 : n0 ≤ h0.size) (S_PENDING : Sta Z h0 "com/example/vo_query_server/voqueryserver/Phase" "PENDING" "Lcom/example/vo_query_server/voqueryserver/Phase;" (.ref w_PENDING)) (S_QUEUED : Sta Z h0 "com/example/vo_query_server/voqueryserver/Phase" "QUEUED" "Lcom/example/vo_query_server/voqueryserver/Phase;" (.ref w_QUEUED)) (S_EXECUTING : Sta Z h0 "com/example/vo_query_server/voqueryserver/Phase" "EXECUTING" "Lcom/example/vo_query_server/voqueryserver/Phase;" (.ref w_EXECUTING)) (ha4 : ¬ (a1 = w_PENDING)) (ha11 : ¬ (a1 = w_QUEUED)) (ha18 : a1 = w_EXECUTING) :
    MetFree l (⟨"com/example/vo_query_server/voqueryserver/Phase", "isActive", "()Z"⟩ : MethodName) (head1 (Jvm.Cond.code (⟨"com/example/vo_query_server/voqueryserver/Phase", "isActive", "()Z"⟩ : MethodName) prog_95_method_4_code 1 (some .boolean) :: ws) ({ frames := 0, cells := 0, slots := 0, locals := 0 } : Room)) (fun a U => a = #[(.ref a1)] ∧ Z.Warmed39 U.vm ∧ U.heap = h0) (fun _ _ _ _ _ => True) (fun _ U o U' => ∃ v L, o = .returned v ∧ Q1 Z a1 w_PENDING w_QUEUED w_EXECUTING h0 n0 v U'.heap L ∧ FrameEnd U o U' L ({ frames := 0, cells := 0, slots := 0, locals := 0 } : Room).cells ({ frames := 0, cells := 0, slots := 0, locals := 0 } : Room).slots) := by
  refine MetFree.of_bodySF (plainFor_of_name pn_1) hisR ?_
  intro p e s m args below meth c s₁ Bd hml0 hP hK
  obtain ⟨rfl, hZ, hh⟩ := hP
  have hx := Bd.exec
  have hby := Bd.bytes
  have hml : c.maxLocals = 1 := hml0
  have hown : s.vm.findClass "com/example/vo_query_server/voqueryserver/Phase" = some m.cls := findClass_of_methodNamed Bd.named
  have hnm := (name_of_methodNamed Bd.named Bd.method).1
  have X0 : Stand p l e ({ frames := 0, cells := 0, slots := 0, locals := 0 } : Room) s m #[(.ref a1)] below meth c s₁ [] 0 0 := Stand.of_body Bd
  have e0 : s₁.heap = h0 := by rw [← hh, Bd.state]; rfl
  have N0 := Fr.nil n0
  have pre0 : ∀ t, Steps p.tables e below (s₁.setTop (mkF m 0 #[.val (.ref a1)] [])) t → Steps p.tables e below (s₁.setTop (entryFrame m #[(.ref a1)] 1)) t := fun t k => castTop (ef_1 m a1) k
  -- 3. LAWS
  obtain ⟨T3, X3, e3, st3⟩ := getS2 X0 hx hZ hown (host := "") (Or.inl (hw _ (List.mem_of_getElem? (i := 30) rfl))) Via.refl e0 S_PENDING (g := (mkF m 1 #[.val (.ref a1)] [(.ref a1)])) rfl (hb hby d1_1)
  obtain ⟨T5, X5, e5, st5⟩ := getS2 X3 hx hZ hown (host := "") (Or.inl (hw _ (List.mem_of_getElem? (i := 36) rfl))) Via.refl e3 S_QUEUED (g := (mkF m 8 #[.val (.ref a1)] [(.ref a1)])) rfl (hb hby d1_8)
  obtain ⟨T7, X7, e7, st7⟩ := getS2 X5 hx hZ hown (host := "") (Or.inl (hw _ (List.mem_of_getElem? (i := 37) rfl))) Via.refl e5 S_EXECUTING (g := (mkF m 15 #[.val (.ref a1)] [(.ref a1)])) rfl (hb hby d1_15)
  obtain ⟨fs, hr, hrun, hended, hW, hsame⟩ := X7.leave (v := some (.int (1 : Int32))) (fun h => by rw [Bd.returns] at h; cases h)
  refine ⟨_, _, pre0 _ ?_, hrun, hended, _, _, rfl, ?_, ⟨_, rfl⟩, hW, hsame.mono (by decide) (by decide)⟩
  -- 4. STEPS
  · show Steps p.tables e below (s₁.setTop (mkF m 0 #[.val (.ref a1)] [])) _
    refine XS.aloadN X0.here hx rfl (hb hby d1_0) rfl rfl ?_
    show Steps p.tables e below (s₁.setTop (mkF m 1 #[.val (.ref a1)] [(.ref a1)])) _
    refine st3 _ ?_
    show Steps p.tables e below (T3.setTop (mkF m 4 #[.val (.ref a1)] [(.ref w_PENDING), (.ref a1)])) _
    refine Jvm.RoadKit.acmp (g := (mkF m 4 #[.val (.ref a1)] [(.ref w_PENDING), (.ref a1)])) X3 hx rfl rfl rfl (pc0 := 4) (pc' := 7) (same := false) rfl (hb hby d1_4) rfl (decide_eq_false fun q => ha4 (Value.ref.inj q)) (by decide) (by decide) ?_
    show Steps p.tables e below (T3.setTop (mkF m 7 #[.val (.ref a1)] [])) _
    refine XS.aloadN X3.here hx rfl (hb hby d1_7) rfl rfl ?_
    show Steps p.tables e below (T3.setTop (mkF m 8 #[.val (.ref a1)] [(.ref a1)])) _
    refine st5 _ ?_
    show Steps p.tables e below (T5.setTop (mkF m 11 #[.val (.ref a1)] [(.ref w_QUEUED), (.ref a1)])) _
    refine Jvm.RoadKit.acmp (g := (mkF m 11 #[.val (.ref a1)] [(.ref w_QUEUED), (.ref a1)])) X5 hx rfl rfl rfl (pc0 := 11) (pc' := 14) (same := false) rfl (hb hby d1_11) rfl (decide_eq_false fun q => ha11 (Value.ref.inj q)) (by decide) (by decide) ?_
    show Steps p.tables e below (T5.setTop (mkF m 14 #[.val (.ref a1)] [])) _
    refine XS.aloadN X5.here hx rfl (hb hby d1_14) rfl rfl ?_
    show Steps p.tables e below (T5.setTop (mkF m 15 #[.val (.ref a1)] [(.ref a1)])) _
    refine st7 _ ?_
    show Steps p.tables e below (T7.setTop (mkF m 18 #[.val (.ref a1)] [(.ref w_EXECUTING), (.ref a1)])) _
    refine Jvm.RoadKit.acmp (g := (mkF m 18 #[.val (.ref a1)] [(.ref w_EXECUTING), (.ref a1)])) X7 hx rfl rfl rfl (pc0 := 18) (pc' := 21) (same := true) rfl (hb hby d1_18) rfl (decide_eq_true (congrArg Value.ref ha18)) (by decide) (by decide) ?_
    show Steps p.tables e below (T7.setTop (mkF m 21 #[.val (.ref a1)] [])) _
    refine XS.iconst X7.here hx rfl (hb hby d1_21) ?_
    show Steps p.tables e below (T7.setTop (mkF m 22 #[.val (.ref a1)] [(.int (1 : Int32))])) _
    refine XS.goto X7.here hx rfl (pc0 := 22) (pc' := 26) rfl (hb hby d1_22) (by decide) (by decide) ?_
    show Steps p.tables e below (T7.setTop (mkF m 26 #[.val (.ref a1)] [(.int (1 : Int32))])) _
    exact retN X7 hx (t := .boolean) Bd.returns (by simp) (hb hby d1_26) hr
  · show Q1 Z a1 w_PENDING w_QUEUED w_EXECUTING h0 n0 _ T7.heap _
    rw [e7]
    exact ⟨by simp_all [actF], N0, rfl⟩
set_option maxRecDepth 65536 in
set_option maxHeartbeats 40000000 in
theorem rm1_fft (l : Launch) (Z : State) (a0 : Array Value) (hw : ∀ d ∈ tables_1, d.before a0 Z = true) (ws : List Jvm.Cond) (a1 : Addr) (w_PENDING : Addr) (w_QUEUED : Addr) (w_EXECUTING : Addr) (h0 : Heap) (n0 : Nat) (Z0 : n0 ≤ h0.size) (S_PENDING : Sta Z h0 "com/example/vo_query_server/voqueryserver/Phase" "PENDING" "Lcom/example/vo_query_server/voqueryserver/Phase;" (.ref w_PENDING)) (S_QUEUED : Sta Z h0 "com/example/vo_query_server/voqueryserver/Phase" "QUEUED" "Lcom/example/vo_query_server/voqueryserver/Phase;" (.ref w_QUEUED)) (S_EXECUTING : Sta Z h0 "com/example/vo_query_server/voqueryserver/Phase" "EXECUTING" "Lcom/example/vo_query_server/voqueryserver/Phase;" (.ref w_EXECUTING)) (ha4 : ¬ (a1 = w_PENDING)) (ha11 : ¬ (a1 = w_QUEUED)) (ha18 : ¬ (a1 = w_EXECUTING)) :
    MetFree l (⟨"com/example/vo_query_server/voqueryserver/Phase", "isActive", "()Z"⟩ : MethodName) (head1 (Jvm.Cond.code (⟨"com/example/vo_query_server/voqueryserver/Phase", "isActive", "()Z"⟩ : MethodName) prog_95_method_4_code 1 (some .boolean) :: ws) ({ frames := 0, cells := 0, slots := 0, locals := 0 } : Room)) (fun a U => a = #[(.ref a1)] ∧ Z.Warmed39 U.vm ∧ U.heap = h0) (fun _ _ _ _ _ => True) (fun _ U o U' => ∃ v L, o = .returned v ∧ Q1 Z a1 w_PENDING w_QUEUED w_EXECUTING h0 n0 v U'.heap L ∧ FrameEnd U o U' L ({ frames := 0, cells := 0, slots := 0, locals := 0 } : Room).cells ({ frames := 0, cells := 0, slots := 0, locals := 0 } : Room).slots) := by
  refine MetFree.of_bodySF (plainFor_of_name pn_1) hisR ?_
  intro p e s m args below meth c s₁ Bd hml0 hP hK
  obtain ⟨rfl, hZ, hh⟩ := hP
  have hx := Bd.exec
  have hby := Bd.bytes
  have hml : c.maxLocals = 1 := hml0
  have hown : s.vm.findClass "com/example/vo_query_server/voqueryserver/Phase" = some m.cls := findClass_of_methodNamed Bd.named
  have hnm := (name_of_methodNamed Bd.named Bd.method).1
  have X0 : Stand p l e ({ frames := 0, cells := 0, slots := 0, locals := 0 } : Room) s m #[(.ref a1)] below meth c s₁ [] 0 0 := Stand.of_body Bd
  have e0 : s₁.heap = h0 := by rw [← hh, Bd.state]; rfl
  have N0 := Fr.nil n0
  have pre0 : ∀ t, Steps p.tables e below (s₁.setTop (mkF m 0 #[.val (.ref a1)] [])) t → Steps p.tables e below (s₁.setTop (entryFrame m #[(.ref a1)] 1)) t := fun t k => castTop (ef_1 m a1) k
  -- 3. LAWS
  obtain ⟨T3, X3, e3, st3⟩ := getS2 X0 hx hZ hown (host := "") (Or.inl (hw _ (List.mem_of_getElem? (i := 30) rfl))) Via.refl e0 S_PENDING (g := (mkF m 1 #[.val (.ref a1)] [(.ref a1)])) rfl (hb hby d1_1)
  obtain ⟨T5, X5, e5, st5⟩ := getS2 X3 hx hZ hown (host := "") (Or.inl (hw _ (List.mem_of_getElem? (i := 36) rfl))) Via.refl e3 S_QUEUED (g := (mkF m 8 #[.val (.ref a1)] [(.ref a1)])) rfl (hb hby d1_8)
  obtain ⟨T7, X7, e7, st7⟩ := getS2 X5 hx hZ hown (host := "") (Or.inl (hw _ (List.mem_of_getElem? (i := 37) rfl))) Via.refl e5 S_EXECUTING (g := (mkF m 15 #[.val (.ref a1)] [(.ref a1)])) rfl (hb hby d1_15)
  obtain ⟨fs, hr, hrun, hended, hW, hsame⟩ := X7.leave (v := some (.int (0 : Int32))) (fun h => by rw [Bd.returns] at h; cases h)
  refine ⟨_, _, pre0 _ ?_, hrun, hended, _, _, rfl, ?_, ⟨_, rfl⟩, hW, hsame.mono (by decide) (by decide)⟩
  -- 4. STEPS
  · show Steps p.tables e below (s₁.setTop (mkF m 0 #[.val (.ref a1)] [])) _
    refine XS.aloadN X0.here hx rfl (hb hby d1_0) rfl rfl ?_
    show Steps p.tables e below (s₁.setTop (mkF m 1 #[.val (.ref a1)] [(.ref a1)])) _
    refine st3 _ ?_
    show Steps p.tables e below (T3.setTop (mkF m 4 #[.val (.ref a1)] [(.ref w_PENDING), (.ref a1)])) _
    refine Jvm.RoadKit.acmp (g := (mkF m 4 #[.val (.ref a1)] [(.ref w_PENDING), (.ref a1)])) X3 hx rfl rfl rfl (pc0 := 4) (pc' := 7) (same := false) rfl (hb hby d1_4) rfl (decide_eq_false fun q => ha4 (Value.ref.inj q)) (by decide) (by decide) ?_
    show Steps p.tables e below (T3.setTop (mkF m 7 #[.val (.ref a1)] [])) _
    refine XS.aloadN X3.here hx rfl (hb hby d1_7) rfl rfl ?_
    show Steps p.tables e below (T3.setTop (mkF m 8 #[.val (.ref a1)] [(.ref a1)])) _
    refine st5 _ ?_
    show Steps p.tables e below (T5.setTop (mkF m 11 #[.val (.ref a1)] [(.ref w_QUEUED), (.ref a1)])) _
    refine Jvm.RoadKit.acmp (g := (mkF m 11 #[.val (.ref a1)] [(.ref w_QUEUED), (.ref a1)])) X5 hx rfl rfl rfl (pc0 := 11) (pc' := 14) (same := false) rfl (hb hby d1_11) rfl (decide_eq_false fun q => ha11 (Value.ref.inj q)) (by decide) (by decide) ?_
    show Steps p.tables e below (T5.setTop (mkF m 14 #[.val (.ref a1)] [])) _
    refine XS.aloadN X5.here hx rfl (hb hby d1_14) rfl rfl ?_
    show Steps p.tables e below (T5.setTop (mkF m 15 #[.val (.ref a1)] [(.ref a1)])) _
    refine st7 _ ?_
    show Steps p.tables e below (T7.setTop (mkF m 18 #[.val (.ref a1)] [(.ref w_EXECUTING), (.ref a1)])) _
    refine Jvm.RoadKit.acmp (g := (mkF m 18 #[.val (.ref a1)] [(.ref w_EXECUTING), (.ref a1)])) X7 hx rfl rfl rfl (pc0 := 18) (pc' := 25) (same := false) rfl (hb hby d1_18) rfl (decide_eq_false fun q => ha18 (Value.ref.inj q)) (by decide) (by decide) ?_
    show Steps p.tables e below (T7.setTop (mkF m 25 #[.val (.ref a1)] [])) _
    refine XS.iconst X7.here hx rfl (hb hby d1_25) ?_
    show Steps p.tables e below (T7.setTop (mkF m 26 #[.val (.ref a1)] [(.int (0 : Int32))])) _
    exact retN X7 hx (t := .boolean) Bd.returns (by simp) (hb hby d1_26) hr
  · show Q1 Z a1 w_PENDING w_QUEUED w_EXECUTING h0 n0 _ T7.heap _
    rw [e7]
    exact ⟨by simp_all [actF], N0, rfl⟩
theorem rm1 (l : Launch) (Z : State) (a0 : Array Value) (hw : ∀ d ∈ tables_1, d.before a0 Z = true) (ws : List Jvm.Cond) (a1 : Addr) (w_PENDING : Addr) (w_QUEUED : Addr) (w_EXECUTING : Addr) (h0 : Heap) (n0 : Nat) (Z0 : n0 ≤ h0.size) (S_PENDING : Sta Z h0 "com/example/vo_query_server/voqueryserver/Phase" "PENDING" "Lcom/example/vo_query_server/voqueryserver/Phase;" (.ref w_PENDING)) (S_QUEUED : Sta Z h0 "com/example/vo_query_server/voqueryserver/Phase" "QUEUED" "Lcom/example/vo_query_server/voqueryserver/Phase;" (.ref w_QUEUED)) (S_EXECUTING : Sta Z h0 "com/example/vo_query_server/voqueryserver/Phase" "EXECUTING" "Lcom/example/vo_query_server/voqueryserver/Phase;" (.ref w_EXECUTING)) :
    MetFree l (⟨"com/example/vo_query_server/voqueryserver/Phase", "isActive", "()Z"⟩ : MethodName) (head1 (Jvm.Cond.code (⟨"com/example/vo_query_server/voqueryserver/Phase", "isActive", "()Z"⟩ : MethodName) prog_95_method_4_code 1 (some .boolean) :: ws) ({ frames := 0, cells := 0, slots := 0, locals := 0 } : Room)) (fun a U => a = #[(.ref a1)] ∧ Z.Warmed39 U.vm ∧ U.heap = h0) (fun _ _ _ _ _ => True) (fun _ U o U' => ∃ v L, o = .returned v ∧ Q1 Z a1 w_PENDING w_QUEUED w_EXECUTING h0 n0 v U'.heap L ∧ FrameEnd U o U' L ({ frames := 0, cells := 0, slots := 0, locals := 0 } : Room).cells ({ frames := 0, cells := 0, slots := 0, locals := 0 } : Room).slots) := by
  by_cases ha4 : a1 = w_PENDING
  · exact rm1_t l Z a0 hw ws a1 w_PENDING w_QUEUED w_EXECUTING h0 n0 Z0 S_PENDING S_QUEUED S_EXECUTING ha4
  · by_cases ha11 : a1 = w_QUEUED
    · exact rm1_ft l Z a0 hw ws a1 w_PENDING w_QUEUED w_EXECUTING h0 n0 Z0 S_PENDING S_QUEUED S_EXECUTING ha4 ha11
    · by_cases ha18 : a1 = w_EXECUTING
      · exact rm1_fff l Z a0 hw ws a1 w_PENDING w_QUEUED w_EXECUTING h0 n0 Z0 S_PENDING S_QUEUED S_EXECUTING ha4 ha11 ha18
      · exact rm1_fft l Z a0 hw ws a1 w_PENDING w_QUEUED w_EXECUTING h0 n0 Z0 S_PENDING S_QUEUED S_EXECUTING ha4 ha11 ha18
theorem d2_0 : decode prog_95_method_5_code 0 = .ok (.aload_n 0, 1) := by decide +kernel
theorem d2_1 : decode prog_95_method_5_code 1 = .ok (.getstatic 7, 3) := by decide +kernel
theorem d2_4 : decode prog_95_method_5_code 4 = .ok (.if_acmp .eq 10, 3) := by decide +kernel
theorem d2_14 : decode prog_95_method_5_code 14 = .ok (.iconst 1, 1) := by decide +kernel
theorem d2_15 : decode prog_95_method_5_code 15 = .ok (.goto 4, 3) := by decide +kernel
theorem d2_19 : decode prog_95_method_5_code 19 = .ok (.ireturn, 1) := by decide +kernel
theorem pn_2 : plainName "com/example/vo_query_server/voqueryserver/Phase" = true := by first | (simp [plainName, overriddenIn]; done) | decide +kernel
theorem ef_2 (m : MethodId) (x0 : Addr) : entryFrame m #[(.ref x0)] 1 = mkF m 0 #[.val (.ref x0)] [] := by first | (simp [entryFrame, mkF, argsToLocals, Value.category]; done) | rfl
theorem d2_7 : decode prog_95_method_5_code 7 = .ok (.aload_n 0, 1) := by decide +kernel
theorem d2_8 : decode prog_95_method_5_code 8 = .ok (.getstatic 10, 3) := by decide +kernel
theorem d2_11 : decode prog_95_method_5_code 11 = .ok (.if_acmp .ne 7, 3) := by decide +kernel
theorem d2_18 : decode prog_95_method_5_code 18 = .ok (.iconst 0, 1) := by decide +kernel
def Q2 (Z : State) (a1 : Addr) (w_QUEUED : Addr) (w_EXECUTING : Addr) (h0 : Heap) (n0 : Nat) (v : Option Value) (h : Heap) (L : List Loc) : Prop := v = some (.int (runF a1 w_QUEUED w_EXECUTING)) ∧ Fr n0 L ∧ h = h0
set_option maxRecDepth 65536 in
set_option maxHeartbeats 40000000 in
theorem rm2_t (l : Launch) (Z : State) (a0 : Array Value) (hw : ∀ d ∈ tables_1, d.before a0 Z = true) (ws : List Jvm.Cond) (a1 : Addr) (w_QUEUED : Addr) (w_EXECUTING : Addr) (h0 : Heap) (n0 : Nat) (Z0 : n0 ≤ h0.size) (S_QUEUED : Sta Z h0 "com/example/vo_query_server/voqueryserver/Phase" "QUEUED" "Lcom/example/vo_query_server/voqueryserver/Phase;" (.ref w_QUEUED)) (S_EXECUTING : Sta Z h0 "com/example/vo_query_server/voqueryserver/Phase" "EXECUTING" "Lcom/example/vo_query_server/voqueryserver/Phase;" (.ref w_EXECUTING)) (ha4 : a1 = w_QUEUED) :
    MetFree l (⟨"com/example/vo_query_server/voqueryserver/Phase", "isRunning", "()Z"⟩ : MethodName) (head1 (Jvm.Cond.code (⟨"com/example/vo_query_server/voqueryserver/Phase", "isRunning", "()Z"⟩ : MethodName) prog_95_method_5_code 1 (some .boolean) :: ws) ({ frames := 0, cells := 0, slots := 0, locals := 0 } : Room)) (fun a U => a = #[(.ref a1)] ∧ Z.Warmed39 U.vm ∧ U.heap = h0) (fun _ _ _ _ _ => True) (fun _ U o U' => ∃ v L, o = .returned v ∧ Q2 Z a1 w_QUEUED w_EXECUTING h0 n0 v U'.heap L ∧ FrameEnd U o U' L ({ frames := 0, cells := 0, slots := 0, locals := 0 } : Room).cells ({ frames := 0, cells := 0, slots := 0, locals := 0 } : Room).slots) := by
  refine MetFree.of_bodySF (plainFor_of_name pn_2) hisR ?_
  intro p e s m args below meth c s₁ Bd hml0 hP hK
  obtain ⟨rfl, hZ, hh⟩ := hP
  have hx := Bd.exec
  have hby := Bd.bytes
  have hml : c.maxLocals = 1 := hml0
  have hown : s.vm.findClass "com/example/vo_query_server/voqueryserver/Phase" = some m.cls := findClass_of_methodNamed Bd.named
  have hnm := (name_of_methodNamed Bd.named Bd.method).1
  have X0 : Stand p l e ({ frames := 0, cells := 0, slots := 0, locals := 0 } : Room) s m #[(.ref a1)] below meth c s₁ [] 0 0 := Stand.of_body Bd
  have e0 : s₁.heap = h0 := by rw [← hh, Bd.state]; rfl
  have N0 := Fr.nil n0
  have pre0 : ∀ t, Steps p.tables e below (s₁.setTop (mkF m 0 #[.val (.ref a1)] [])) t → Steps p.tables e below (s₁.setTop (entryFrame m #[(.ref a1)] 1)) t := fun t k => castTop (ef_2 m a1) k
  -- 3. LAWS
  obtain ⟨T3, X3, e3, st3⟩ := getS2 X0 hx hZ hown (host := "") (Or.inl (hw _ (List.mem_of_getElem? (i := 36) rfl))) Via.refl e0 S_QUEUED (g := (mkF m 1 #[.val (.ref a1)] [(.ref a1)])) rfl (hb hby d2_1)
  obtain ⟨fs, hr, hrun, hended, hW, hsame⟩ := X3.leave (v := some (.int (1 : Int32))) (fun h => by rw [Bd.returns] at h; cases h)
  refine ⟨_, _, pre0 _ ?_, hrun, hended, _, _, rfl, ?_, ⟨_, rfl⟩, hW, hsame.mono (by decide) (by decide)⟩
  -- 4. STEPS
  · show Steps p.tables e below (s₁.setTop (mkF m 0 #[.val (.ref a1)] [])) _
    refine XS.aloadN X0.here hx rfl (hb hby d2_0) rfl rfl ?_
    show Steps p.tables e below (s₁.setTop (mkF m 1 #[.val (.ref a1)] [(.ref a1)])) _
    refine st3 _ ?_
    show Steps p.tables e below (T3.setTop (mkF m 4 #[.val (.ref a1)] [(.ref w_QUEUED), (.ref a1)])) _
    refine Jvm.RoadKit.acmp (g := (mkF m 4 #[.val (.ref a1)] [(.ref w_QUEUED), (.ref a1)])) X3 hx rfl rfl rfl (pc0 := 4) (pc' := 14) (same := true) rfl (hb hby d2_4) rfl (decide_eq_true (congrArg Value.ref ha4)) (by decide) (by decide) ?_
    show Steps p.tables e below (T3.setTop (mkF m 14 #[.val (.ref a1)] [])) _
    refine XS.iconst X3.here hx rfl (hb hby d2_14) ?_
    show Steps p.tables e below (T3.setTop (mkF m 15 #[.val (.ref a1)] [(.int (1 : Int32))])) _
    refine XS.goto X3.here hx rfl (pc0 := 15) (pc' := 19) rfl (hb hby d2_15) (by decide) (by decide) ?_
    show Steps p.tables e below (T3.setTop (mkF m 19 #[.val (.ref a1)] [(.int (1 : Int32))])) _
    exact retN X3 hx (t := .boolean) Bd.returns (by simp) (hb hby d2_19) hr
  · show Q2 Z a1 w_QUEUED w_EXECUTING h0 n0 _ T3.heap _
    rw [e3]
    exact ⟨by simp_all [runF], N0, rfl⟩
set_option maxRecDepth 65536 in
set_option maxHeartbeats 40000000 in
theorem rm2_ff (l : Launch) (Z : State) (a0 : Array Value) (hw : ∀ d ∈ tables_1, d.before a0 Z = true) (ws : List Jvm.Cond) (a1 : Addr) (w_QUEUED : Addr) (w_EXECUTING : Addr) (h0 : Heap) (n0 : Nat) (Z0 : n0 ≤ h0.size) (S_QUEUED : Sta Z h0 "com/example/vo_query_server/voqueryserver/Phase" "QUEUED" "Lcom/example/vo_query_server/voqueryserver/Phase;" (.ref w_QUEUED)) (S_EXECUTING : Sta Z h0 "com/example/vo_query_server/voqueryserver/Phase" "EXECUTING" "Lcom/example/vo_query_server/voqueryserver/Phase;" (.ref w_EXECUTING)) (ha4 : ¬ (a1 = w_QUEUED)) (ha11 : a1 = w_EXECUTING) :
    MetFree l (⟨"com/example/vo_query_server/voqueryserver/Phase", "isRunning", "()Z"⟩ : MethodName) (head1 (Jvm.Cond.code (⟨"com/example/vo_query_server/voqueryserver/Phase", "isRunning", "()Z"⟩ : MethodName) prog_95_method_5_code 1 (some .boolean) :: ws) ({ frames := 0, cells := 0, slots := 0, locals := 0 } : Room)) (fun a U => a = #[(.ref a1)] ∧ Z.Warmed39 U.vm ∧ U.heap = h0) (fun _ _ _ _ _ => True) (fun _ U o U' => ∃ v L, o = .returned v ∧ Q2 Z a1 w_QUEUED w_EXECUTING h0 n0 v U'.heap L ∧ FrameEnd U o U' L ({ frames := 0, cells := 0, slots := 0, locals := 0 } : Room).cells ({ frames := 0, cells := 0, slots := 0, locals := 0 } : Room).slots) := by
  refine MetFree.of_bodySF (plainFor_of_name pn_2) hisR ?_
  intro p e s m args below meth c s₁ Bd hml0 hP hK
  obtain ⟨rfl, hZ, hh⟩ := hP
  have hx := Bd.exec
  have hby := Bd.bytes
  have hml : c.maxLocals = 1 := hml0
  have hown : s.vm.findClass "com/example/vo_query_server/voqueryserver/Phase" = some m.cls := findClass_of_methodNamed Bd.named
  have hnm := (name_of_methodNamed Bd.named Bd.method).1
  have X0 : Stand p l e ({ frames := 0, cells := 0, slots := 0, locals := 0 } : Room) s m #[(.ref a1)] below meth c s₁ [] 0 0 := Stand.of_body Bd
  have e0 : s₁.heap = h0 := by rw [← hh, Bd.state]; rfl
  have N0 := Fr.nil n0
  have pre0 : ∀ t, Steps p.tables e below (s₁.setTop (mkF m 0 #[.val (.ref a1)] [])) t → Steps p.tables e below (s₁.setTop (entryFrame m #[(.ref a1)] 1)) t := fun t k => castTop (ef_2 m a1) k
  -- 3. LAWS
  obtain ⟨T3, X3, e3, st3⟩ := getS2 X0 hx hZ hown (host := "") (Or.inl (hw _ (List.mem_of_getElem? (i := 36) rfl))) Via.refl e0 S_QUEUED (g := (mkF m 1 #[.val (.ref a1)] [(.ref a1)])) rfl (hb hby d2_1)
  obtain ⟨T5, X5, e5, st5⟩ := getS2 X3 hx hZ hown (host := "") (Or.inl (hw _ (List.mem_of_getElem? (i := 37) rfl))) Via.refl e3 S_EXECUTING (g := (mkF m 8 #[.val (.ref a1)] [(.ref a1)])) rfl (hb hby d2_8)
  obtain ⟨fs, hr, hrun, hended, hW, hsame⟩ := X5.leave (v := some (.int (1 : Int32))) (fun h => by rw [Bd.returns] at h; cases h)
  refine ⟨_, _, pre0 _ ?_, hrun, hended, _, _, rfl, ?_, ⟨_, rfl⟩, hW, hsame.mono (by decide) (by decide)⟩
  -- 4. STEPS
  · show Steps p.tables e below (s₁.setTop (mkF m 0 #[.val (.ref a1)] [])) _
    refine XS.aloadN X0.here hx rfl (hb hby d2_0) rfl rfl ?_
    show Steps p.tables e below (s₁.setTop (mkF m 1 #[.val (.ref a1)] [(.ref a1)])) _
    refine st3 _ ?_
    show Steps p.tables e below (T3.setTop (mkF m 4 #[.val (.ref a1)] [(.ref w_QUEUED), (.ref a1)])) _
    refine Jvm.RoadKit.acmp (g := (mkF m 4 #[.val (.ref a1)] [(.ref w_QUEUED), (.ref a1)])) X3 hx rfl rfl rfl (pc0 := 4) (pc' := 7) (same := false) rfl (hb hby d2_4) rfl (decide_eq_false fun q => ha4 (Value.ref.inj q)) (by decide) (by decide) ?_
    show Steps p.tables e below (T3.setTop (mkF m 7 #[.val (.ref a1)] [])) _
    refine XS.aloadN X3.here hx rfl (hb hby d2_7) rfl rfl ?_
    show Steps p.tables e below (T3.setTop (mkF m 8 #[.val (.ref a1)] [(.ref a1)])) _
    refine st5 _ ?_
    show Steps p.tables e below (T5.setTop (mkF m 11 #[.val (.ref a1)] [(.ref w_EXECUTING), (.ref a1)])) _
    refine Jvm.RoadKit.acmp (g := (mkF m 11 #[.val (.ref a1)] [(.ref w_EXECUTING), (.ref a1)])) X5 hx rfl rfl rfl (pc0 := 11) (pc' := 14) (same := true) rfl (hb hby d2_11) rfl (decide_eq_true (congrArg Value.ref ha11)) (by decide) (by decide) ?_
    show Steps p.tables e below (T5.setTop (mkF m 14 #[.val (.ref a1)] [])) _
    refine XS.iconst X5.here hx rfl (hb hby d2_14) ?_
    show Steps p.tables e below (T5.setTop (mkF m 15 #[.val (.ref a1)] [(.int (1 : Int32))])) _
    refine XS.goto X5.here hx rfl (pc0 := 15) (pc' := 19) rfl (hb hby d2_15) (by decide) (by decide) ?_
    show Steps p.tables e below (T5.setTop (mkF m 19 #[.val (.ref a1)] [(.int (1 : Int32))])) _
    exact retN X5 hx (t := .boolean) Bd.returns (by simp) (hb hby d2_19) hr
  · show Q2 Z a1 w_QUEUED w_EXECUTING h0 n0 _ T5.heap _
    rw [e5]
    exact ⟨by simp_all [runF], N0, rfl⟩
set_option maxRecDepth 65536 in
set_option maxHeartbeats 40000000 in
theorem rm2_ft (l : Launch) (Z : State) (a0 : Array Value) (hw : ∀ d ∈ tables_1, d.before a0 Z = true) (ws : List Jvm.Cond) (a1 : Addr) (w_QUEUED : Addr) (w_EXECUTING : Addr) (h0 : Heap) (n0 : Nat) (Z0 : n0 ≤ h0.size) (S_QUEUED : Sta Z h0 "com/example/vo_query_server/voqueryserver/Phase" "QUEUED" "Lcom/example/vo_query_server/voqueryserver/Phase;" (.ref w_QUEUED)) (S_EXECUTING : Sta Z h0 "com/example/vo_query_server/voqueryserver/Phase" "EXECUTING" "Lcom/example/vo_query_server/voqueryserver/Phase;" (.ref w_EXECUTING)) (ha4 : ¬ (a1 = w_QUEUED)) (ha11 : ¬ (a1 = w_EXECUTING)) :
    MetFree l (⟨"com/example/vo_query_server/voqueryserver/Phase", "isRunning", "()Z"⟩ : MethodName) (head1 (Jvm.Cond.code (⟨"com/example/vo_query_server/voqueryserver/Phase", "isRunning", "()Z"⟩ : MethodName) prog_95_method_5_code 1 (some .boolean) :: ws) ({ frames := 0, cells := 0, slots := 0, locals := 0 } : Room)) (fun a U => a = #[(.ref a1)] ∧ Z.Warmed39 U.vm ∧ U.heap = h0) (fun _ _ _ _ _ => True) (fun _ U o U' => ∃ v L, o = .returned v ∧ Q2 Z a1 w_QUEUED w_EXECUTING h0 n0 v U'.heap L ∧ FrameEnd U o U' L ({ frames := 0, cells := 0, slots := 0, locals := 0 } : Room).cells ({ frames := 0, cells := 0, slots := 0, locals := 0 } : Room).slots) := by
  refine MetFree.of_bodySF (plainFor_of_name pn_2) hisR ?_
  intro p e s m args below meth c s₁ Bd hml0 hP hK
  obtain ⟨rfl, hZ, hh⟩ := hP
  have hx := Bd.exec
  have hby := Bd.bytes
  have hml : c.maxLocals = 1 := hml0
  have hown : s.vm.findClass "com/example/vo_query_server/voqueryserver/Phase" = some m.cls := findClass_of_methodNamed Bd.named
  have hnm := (name_of_methodNamed Bd.named Bd.method).1
  have X0 : Stand p l e ({ frames := 0, cells := 0, slots := 0, locals := 0 } : Room) s m #[(.ref a1)] below meth c s₁ [] 0 0 := Stand.of_body Bd
  have e0 : s₁.heap = h0 := by rw [← hh, Bd.state]; rfl
  have N0 := Fr.nil n0
  have pre0 : ∀ t, Steps p.tables e below (s₁.setTop (mkF m 0 #[.val (.ref a1)] [])) t → Steps p.tables e below (s₁.setTop (entryFrame m #[(.ref a1)] 1)) t := fun t k => castTop (ef_2 m a1) k
  -- 3. LAWS
  obtain ⟨T3, X3, e3, st3⟩ := getS2 X0 hx hZ hown (host := "") (Or.inl (hw _ (List.mem_of_getElem? (i := 36) rfl))) Via.refl e0 S_QUEUED (g := (mkF m 1 #[.val (.ref a1)] [(.ref a1)])) rfl (hb hby d2_1)
  obtain ⟨T5, X5, e5, st5⟩ := getS2 X3 hx hZ hown (host := "") (Or.inl (hw _ (List.mem_of_getElem? (i := 37) rfl))) Via.refl e3 S_EXECUTING (g := (mkF m 8 #[.val (.ref a1)] [(.ref a1)])) rfl (hb hby d2_8)
  obtain ⟨fs, hr, hrun, hended, hW, hsame⟩ := X5.leave (v := some (.int (0 : Int32))) (fun h => by rw [Bd.returns] at h; cases h)
  refine ⟨_, _, pre0 _ ?_, hrun, hended, _, _, rfl, ?_, ⟨_, rfl⟩, hW, hsame.mono (by decide) (by decide)⟩
  -- 4. STEPS
  · show Steps p.tables e below (s₁.setTop (mkF m 0 #[.val (.ref a1)] [])) _
    refine XS.aloadN X0.here hx rfl (hb hby d2_0) rfl rfl ?_
    show Steps p.tables e below (s₁.setTop (mkF m 1 #[.val (.ref a1)] [(.ref a1)])) _
    refine st3 _ ?_
    show Steps p.tables e below (T3.setTop (mkF m 4 #[.val (.ref a1)] [(.ref w_QUEUED), (.ref a1)])) _
    refine Jvm.RoadKit.acmp (g := (mkF m 4 #[.val (.ref a1)] [(.ref w_QUEUED), (.ref a1)])) X3 hx rfl rfl rfl (pc0 := 4) (pc' := 7) (same := false) rfl (hb hby d2_4) rfl (decide_eq_false fun q => ha4 (Value.ref.inj q)) (by decide) (by decide) ?_
    show Steps p.tables e below (T3.setTop (mkF m 7 #[.val (.ref a1)] [])) _
    refine XS.aloadN X3.here hx rfl (hb hby d2_7) rfl rfl ?_
    show Steps p.tables e below (T3.setTop (mkF m 8 #[.val (.ref a1)] [(.ref a1)])) _
    refine st5 _ ?_
    show Steps p.tables e below (T5.setTop (mkF m 11 #[.val (.ref a1)] [(.ref w_EXECUTING), (.ref a1)])) _
    refine Jvm.RoadKit.acmp (g := (mkF m 11 #[.val (.ref a1)] [(.ref w_EXECUTING), (.ref a1)])) X5 hx rfl rfl rfl (pc0 := 11) (pc' := 18) (same := false) rfl (hb hby d2_11) rfl (decide_eq_false fun q => ha11 (Value.ref.inj q)) (by decide) (by decide) ?_
    show Steps p.tables e below (T5.setTop (mkF m 18 #[.val (.ref a1)] [])) _
    refine XS.iconst X5.here hx rfl (hb hby d2_18) ?_
    show Steps p.tables e below (T5.setTop (mkF m 19 #[.val (.ref a1)] [(.int (0 : Int32))])) _
    exact retN X5 hx (t := .boolean) Bd.returns (by simp) (hb hby d2_19) hr
  · show Q2 Z a1 w_QUEUED w_EXECUTING h0 n0 _ T5.heap _
    rw [e5]
    exact ⟨by simp_all [runF], N0, rfl⟩
theorem rm2 (l : Launch) (Z : State) (a0 : Array Value) (hw : ∀ d ∈ tables_1, d.before a0 Z = true) (ws : List Jvm.Cond) (a1 : Addr) (w_QUEUED : Addr) (w_EXECUTING : Addr) (h0 : Heap) (n0 : Nat) (Z0 : n0 ≤ h0.size) (S_QUEUED : Sta Z h0 "com/example/vo_query_server/voqueryserver/Phase" "QUEUED" "Lcom/example/vo_query_server/voqueryserver/Phase;" (.ref w_QUEUED)) (S_EXECUTING : Sta Z h0 "com/example/vo_query_server/voqueryserver/Phase" "EXECUTING" "Lcom/example/vo_query_server/voqueryserver/Phase;" (.ref w_EXECUTING)) :
    MetFree l (⟨"com/example/vo_query_server/voqueryserver/Phase", "isRunning", "()Z"⟩ : MethodName) (head1 (Jvm.Cond.code (⟨"com/example/vo_query_server/voqueryserver/Phase", "isRunning", "()Z"⟩ : MethodName) prog_95_method_5_code 1 (some .boolean) :: ws) ({ frames := 0, cells := 0, slots := 0, locals := 0 } : Room)) (fun a U => a = #[(.ref a1)] ∧ Z.Warmed39 U.vm ∧ U.heap = h0) (fun _ _ _ _ _ => True) (fun _ U o U' => ∃ v L, o = .returned v ∧ Q2 Z a1 w_QUEUED w_EXECUTING h0 n0 v U'.heap L ∧ FrameEnd U o U' L ({ frames := 0, cells := 0, slots := 0, locals := 0 } : Room).cells ({ frames := 0, cells := 0, slots := 0, locals := 0 } : Room).slots) := by
  by_cases ha4 : a1 = w_QUEUED
  · exact rm2_t l Z a0 hw ws a1 w_QUEUED w_EXECUTING h0 n0 Z0 S_QUEUED S_EXECUTING ha4
  · by_cases ha11 : a1 = w_EXECUTING
    · exact rm2_ff l Z a0 hw ws a1 w_QUEUED w_EXECUTING h0 n0 Z0 S_QUEUED S_EXECUTING ha4 ha11
    · exact rm2_ft l Z a0 hw ws a1 w_QUEUED w_EXECUTING h0 n0 Z0 S_QUEUED S_EXECUTING ha4 ha11
theorem pn_0 : plainName "com/example/vo_query_server/voqueryserver/PhaseIsActivePinLaw" = true := by first | (simp [plainName, overriddenIn]; done) | decide +kernel
theorem pd_0_0 : parseMethodDescriptor "()Z" = some ⟨[], some .boolean⟩ := by decide +kernel
theorem ef_0 (m : MethodId) (x0 : Int32) : entryFrame m #[(.int x0)] maxLocals = mkF m 0 #[.val (.int x0), .unset, .unset, .unset, .unset, .unset, .unset] [] := by first | (simp [entryFrame, mkF, argsToLocals, Value.category, maxLocals]; done) | rfl
def Q0 (Z : State) (h0 : Heap) (n0 : Nat) (v : Option Value) (h : Heap) (L : List Loc) : Prop := v = some (.int (1 : Int32)) ∧ Fr n0 L
set_option maxRecDepth 65536 in
set_option maxHeartbeats 40000000 in
theorem rm0_fft (l : Launch) (Z : State) (a0 : Array Value) (hw : ∀ d ∈ tables_1, d.before a0 Z = true) (ws : List Jvm.Cond) (p1 : Int32) (w_PENDING : Addr) (w_QUEUED : Addr) (w_EXECUTING : Addr) (w_COMPLETED : Addr) (w_ERROR : Addr) (w_ABORTED : Addr) (w_UNKNOWN : Addr) (w_HELD : Addr) (w_SUSPENDED : Addr) (w_ARCHIVED : Addr) (A : Addr) (u : Int32) (r : Int32) (h0 : Heap) (n0 : Nat) (Z0 : n0 ≤ h0.size) (S_PENDING : Sta Z h0 "com/example/vo_query_server/voqueryserver/Phase" "PENDING" "Lcom/example/vo_query_server/voqueryserver/Phase;" (.ref w_PENDING)) (S_QUEUED : Sta Z h0 "com/example/vo_query_server/voqueryserver/Phase" "QUEUED" "Lcom/example/vo_query_server/voqueryserver/Phase;" (.ref w_QUEUED)) (S_EXECUTING : Sta Z h0 "com/example/vo_query_server/voqueryserver/Phase" "EXECUTING" "Lcom/example/vo_query_server/voqueryserver/Phase;" (.ref w_EXECUTING)) (S_COMPLETED : Sta Z h0 "com/example/vo_query_server/voqueryserver/Phase" "COMPLETED" "Lcom/example/vo_query_server/voqueryserver/Phase;" (.ref w_COMPLETED)) (S_ERROR : Sta Z h0 "com/example/vo_query_server/voqueryserver/Phase" "ERROR" "Lcom/example/vo_query_server/voqueryserver/Phase;" (.ref w_ERROR)) (S_ABORTED : Sta Z h0 "com/example/vo_query_server/voqueryserver/Phase" "ABORTED" "Lcom/example/vo_query_server/voqueryserver/Phase;" (.ref w_ABORTED)) (S_UNKNOWN : Sta Z h0 "com/example/vo_query_server/voqueryserver/Phase" "UNKNOWN" "Lcom/example/vo_query_server/voqueryserver/Phase;" (.ref w_UNKNOWN)) (S_HELD : Sta Z h0 "com/example/vo_query_server/voqueryserver/Phase" "HELD" "Lcom/example/vo_query_server/voqueryserver/Phase;" (.ref w_HELD)) (S_SUSPENDED : Sta Z h0 "com/example/vo_query_server/voqueryserver/Phase" "SUSPENDED" "Lcom/example/vo_query_server/voqueryserver/Phase;" (.ref w_SUSPENDED)) (S_ARCHIVED : Sta Z h0 "com/example/vo_query_server/voqueryserver/Phase" "ARCHIVED" "Lcom/example/vo_query_server/voqueryserver/Phase;" (.ref w_ARCHIVED)) (E_PENDING : Exa Z h0 w_PENDING "com/example/vo_query_server/voqueryserver/Phase") (E_QUEUED : Exa Z h0 w_QUEUED "com/example/vo_query_server/voqueryserver/Phase") (E_EXECUTING : Exa Z h0 w_EXECUTING "com/example/vo_query_server/voqueryserver/Phase") (E_COMPLETED : Exa Z h0 w_COMPLETED "com/example/vo_query_server/voqueryserver/Phase") (E_ERROR : Exa Z h0 w_ERROR "com/example/vo_query_server/voqueryserver/Phase") (E_ABORTED : Exa Z h0 w_ABORTED "com/example/vo_query_server/voqueryserver/Phase") (E_UNKNOWN : Exa Z h0 w_UNKNOWN "com/example/vo_query_server/voqueryserver/Phase") (E_HELD : Exa Z h0 w_HELD "com/example/vo_query_server/voqueryserver/Phase") (E_SUSPENDED : Exa Z h0 w_SUSPENDED "com/example/vo_query_server/voqueryserver/Phase") (E_ARCHIVED : Exa Z h0 w_ARCHIVED "com/example/vo_query_server/voqueryserver/Phase") (E_A : Exa Z h0 A "com/example/vo_query_server/voqueryserver/Phase") (hk10 : ¬ ((p1 &&& (2147483647 : Int32)) % (10 : Int32)) < 0 ∧ ((p1 &&& (2147483647 : Int32)) % (10 : Int32)) < 10) (hA : ([.ref w_PENDING, .ref w_QUEUED, .ref w_EXECUTING, .ref w_COMPLETED, .ref w_ERROR, .ref w_ABORTED, .ref w_UNKNOWN, .ref w_HELD, .ref w_SUSPENDED, .ref w_ARCHIVED] : List Value).getD (((p1 &&& (2147483647 : Int32)) % (10 : Int32))).toNatClampNeg .null = .ref A) (hu : actF A w_PENDING w_QUEUED w_EXECUTING = u) (hr0 : runF A w_QUEUED w_EXECUTING = r) (hc80 : ¬ ((2 : Int32) < ((p1 &&& (2147483647 : Int32)) % (10 : Int32)))) (hv111 : u = (1 : Int32)) (hv116 : r = (0 : Int32)) :
    MetFree l x (head1 (Jvm.Cond.code x code maxLocals ret :: ws) room_1) (fun a U => a = #[(.int p1)] ∧ Z.Warmed39 U.vm ∧ U.heap = h0) (fun _ _ _ _ _ => True) (fun _ U o U' => ∃ v L, o = .returned v ∧ Q0 Z h0 n0 v U'.heap L ∧ FrameEnd U o U' L room_1.cells room_1.slots) := by
  refine MetFree.of_bodySF (plainFor_of_name pn_0) hisR ?_
  intro p e s m args below meth c s₁ Bd hml0 hP hK
  obtain ⟨rfl, hZ, hh⟩ := hP
  have hx := Bd.exec
  have hby := Bd.bytes
  have hml : c.maxLocals = 7 := hml0
  have hown : s.vm.findClass "com/example/vo_query_server/voqueryserver/PhaseIsActivePinLaw" = some m.cls := findClass_of_methodNamed Bd.named
  have hnm := (name_of_methodNamed Bd.named Bd.method).1
  have X0 : Stand p l e room_1 s m #[(.int p1)] below meth c s₁ [] 0 0 := Stand.of_body Bd
  have e0 : s₁.heap = h0 := by rw [← hh, Bd.state]; rfl
  have N0 := Fr.nil n0
  have pre0 : ∀ t, Steps p.tables e below (s₁.setTop (mkF m 0 #[.val (.int p1), .unset, .unset, .unset, .unset, .unset, .unset] [])) t → Steps p.tables e below (s₁.setTop (entryFrame m #[(.int p1)] maxLocals)) t := fun t k => castTop (ef_0 m p1) k
  -- 3. LAWS
  obtain ⟨T2, h2, k2, X2, e2, E2, A2, O2, st2⟩ := newR X0 hx hZ hown (hw _ (List.mem_of_getElem? (i := 0) rfl)) (hw _ (List.mem_of_getElem? (i := 1) rfl)) e0 (g := (mkF m 2 #[.val (.int p1), .unset, .unset, .unset, .unset, .unset, .unset] [(.int (10 : Int32))])) rfl (hb hby at_2) rfl (by decide) (cap := 10) (by decide) (by decide) (by decide) (by decide)
  obtain ⟨b2, g2⟩ : ∃ z, z = h0.size := ⟨_, rfl⟩      -- the fresh array's address
  rw [← g2] at A2 st2
  have V0 : Arv Z h2 b2 k2 (.object "com/example/vo_query_server/voqueryserver/Phase") (10 : Int32) [.null, .null, .null, .null, .null, .null, .null, .null, .null, .null] .null := (Arv.new A2 (by decide)).pad (pad_rep [] .null 10)
  have g_b2 : n0 ≤ b2 := Nat.le_trans Z0 (Nat.le_of_eq g2.symm)
  have sz_b2 : h0.size ≤ b2 := (Nat.le_trans (Keep.refl h0 []).1 (Nat.le_of_eq g2.symm))
  have K2 : Keep h0 h2 [] := (Keep.refl h0 []).ext E2
  obtain ⟨T4, X4, e4, st4⟩ := getS2 X2 hx hZ hown (host := "") (Or.inl (hw _ (List.mem_of_getElem? (i := 2) rfl))) Via.refl e2 (S_PENDING.ext E2) (g := (mkF m 7 #[.val (.int p1), .unset, .unset, .unset, .unset, .unset, .unset] [(.int (0 : Int32)), (.ref b2), (.ref b2)])) rfl (hb hby at_7)
  -- Sto10: the object may lie in that array: Sto.of Ar.. (an 'Ovr', by the sheet's words) (an 'Ins' of its class), Shelf42/RW6; carried by Sto.ext E.. | Sto.wr W..
  obtain ⟨c5, Ar5, qa5, qs5, qn5, qh5, qg5⟩ := V0
  have hin10 := inb_of (j := (0 : Int32)) qs5 ⟨by decide, by decide⟩
  have Sto10 := Sto.of Ar5 (by rw [qa5]; exact O2) (Ins.self (E_PENDING.ext E2))
  obtain ⟨T5, h5, X5, e5, W5, st5⟩ := stR X4 hx hZ e4 Ar5 (j := (0 : Int32)) hin10 rfl Sto10 (g := (mkF m 10 #[.val (.int p1), .unset, .unset, .unset, .unset, .unset, .unset] [(.ref w_PENDING), (.int (0 : Int32)), (.ref b2), (.ref b2)])) rfl rfl (hb hby at_10)
  have V5 : Arv Z h5 b2 k2 (.object "com/example/vo_query_server/voqueryserver/Phase") (10 : Int32) [.ref w_PENDING, .null, .null, .null, .null, .null, .null, .null, .null, .null] .null := Arv.set Ar5 qa5 qs5 qn5 qh5 qg5 rfl W5 0 (by decide) (Nat.le_of_ble_eq_true rfl)
  have N5 := Fr.snoc X5 N0 g_b2
  -- ArF.same W5 : the array with (.ref w_PENDING) at the place (0 : Int32)
  have K5 : Keep h0 h5 [] := K2.wr W5 (Or.inr sz_b2)
  obtain ⟨T7, X7, e7, st7⟩ := getS2 X5 hx hZ hown (host := "") (Or.inl (hw _ (List.mem_of_getElem? (i := 6) rfl))) Via.refl e5 ((S_QUEUED.ext E2).wr W5) (g := (mkF m 13 #[.val (.int p1), .unset, .unset, .unset, .unset, .unset, .unset] [(.int (1 : Int32)), (.ref b2), (.ref b2)])) rfl (hb hby at_13)
  -- Sto16: the object may lie in that array: Sto.of Ar.. (an 'Ovr', by the sheet's words) (an 'Ins' of its class), Shelf42/RW6; carried by Sto.ext E.. | Sto.wr W..
  obtain ⟨c8, Ar8, qa8, qs8, qn8, qh8, qg8⟩ := V5
  have hin16 := inb_of (j := (1 : Int32)) qs8 ⟨by decide, by decide⟩
  have Sto16 := Sto.of Ar8 (by rw [qa8]; exact O2) (Ins.self ((E_QUEUED.ext E2).wr W5))
  obtain ⟨T8, h8, X8, e8, W8, st8⟩ := stR X7 hx hZ e7 Ar8 (j := (1 : Int32)) hin16 rfl Sto16 (g := (mkF m 16 #[.val (.int p1), .unset, .unset, .unset, .unset, .unset, .unset] [(.ref w_QUEUED), (.int (1 : Int32)), (.ref b2), (.ref b2)])) rfl rfl (hb hby at_16)
  have V8 : Arv Z h8 b2 k2 (.object "com/example/vo_query_server/voqueryserver/Phase") (10 : Int32) [.ref w_PENDING, .ref w_QUEUED, .null, .null, .null, .null, .null, .null, .null, .null] .null := Arv.set Ar8 qa8 qs8 qn8 qh8 qg8 rfl W8 1 (by decide) (Nat.le_of_ble_eq_true rfl)
  have N8 := Fr.snoc X8 N5 g_b2
  -- ArF.same W8 : the array with (.ref w_QUEUED) at the place (1 : Int32)
  have K8 : Keep h0 h8 [] := K5.wr W8 (Or.inr sz_b2)
  obtain ⟨T10, X10, e10, st10⟩ := getS2 X8 hx hZ hown (host := "") (Or.inl (hw _ (List.mem_of_getElem? (i := 8) rfl))) Via.refl e8 (((S_EXECUTING.ext E2).wr W5).wr W8) (g := (mkF m 19 #[.val (.int p1), .unset, .unset, .unset, .unset, .unset, .unset] [(.int (2 : Int32)), (.ref b2), (.ref b2)])) rfl (hb hby at_19)
  -- Sto22: the object may lie in that array: Sto.of Ar.. (an 'Ovr', by the sheet's words) (an 'Ins' of its class), Shelf42/RW6; carried by Sto.ext E.. | Sto.wr W..
  obtain ⟨c11, Ar11, qa11, qs11, qn11, qh11, qg11⟩ := V8
  have hin22 := inb_of (j := (2 : Int32)) qs11 ⟨by decide, by decide⟩
  have Sto22 := Sto.of Ar11 (by rw [qa11]; exact O2) (Ins.self (((E_EXECUTING.ext E2).wr W5).wr W8))
  obtain ⟨T11, h11, X11, e11, W11, st11⟩ := stR X10 hx hZ e10 Ar11 (j := (2 : Int32)) hin22 rfl Sto22 (g := (mkF m 22 #[.val (.int p1), .unset, .unset, .unset, .unset, .unset, .unset] [(.ref w_EXECUTING), (.int (2 : Int32)), (.ref b2), (.ref b2)])) rfl rfl (hb hby at_22)
  have V11 : Arv Z h11 b2 k2 (.object "com/example/vo_query_server/voqueryserver/Phase") (10 : Int32) [.ref w_PENDING, .ref w_QUEUED, .ref w_EXECUTING, .null, .null, .null, .null, .null, .null, .null] .null := Arv.set Ar11 qa11 qs11 qn11 qh11 qg11 rfl W11 2 (by decide) (Nat.le_of_ble_eq_true rfl)
  have N11 := Fr.snoc X11 N8 g_b2
  -- ArF.same W11 : the array with (.ref w_EXECUTING) at the place (2 : Int32)
  have K11 : Keep h0 h11 [] := K8.wr W11 (Or.inr sz_b2)
  obtain ⟨T13, X13, e13, st13⟩ := getS2 X11 hx hZ hown (host := "") (Or.inl (hw _ (List.mem_of_getElem? (i := 10) rfl))) Via.refl e11 ((((S_COMPLETED.ext E2).wr W5).wr W8).wr W11) (g := (mkF m 25 #[.val (.int p1), .unset, .unset, .unset, .unset, .unset, .unset] [(.int (3 : Int32)), (.ref b2), (.ref b2)])) rfl (hb hby at_25)
  -- Sto28: the object may lie in that array: Sto.of Ar.. (an 'Ovr', by the sheet's words) (an 'Ins' of its class), Shelf42/RW6; carried by Sto.ext E.. | Sto.wr W..
  obtain ⟨c14, Ar14, qa14, qs14, qn14, qh14, qg14⟩ := V11
  have hin28 := inb_of (j := (3 : Int32)) qs14 ⟨by decide, by decide⟩
  have Sto28 := Sto.of Ar14 (by rw [qa14]; exact O2) (Ins.self ((((E_COMPLETED.ext E2).wr W5).wr W8).wr W11))
  obtain ⟨T14, h14, X14, e14, W14, st14⟩ := stR X13 hx hZ e13 Ar14 (j := (3 : Int32)) hin28 rfl Sto28 (g := (mkF m 28 #[.val (.int p1), .unset, .unset, .unset, .unset, .unset, .unset] [(.ref w_COMPLETED), (.int (3 : Int32)), (.ref b2), (.ref b2)])) rfl rfl (hb hby at_28)
  have V14 : Arv Z h14 b2 k2 (.object "com/example/vo_query_server/voqueryserver/Phase") (10 : Int32) [.ref w_PENDING, .ref w_QUEUED, .ref w_EXECUTING, .ref w_COMPLETED, .null, .null, .null, .null, .null, .null] .null := Arv.set Ar14 qa14 qs14 qn14 qh14 qg14 rfl W14 3 (by decide) (Nat.le_of_ble_eq_true rfl)
  have N14 := Fr.snoc X14 N11 g_b2
  -- ArF.same W14 : the array with (.ref w_COMPLETED) at the place (3 : Int32)
  have K14 : Keep h0 h14 [] := K11.wr W14 (Or.inr sz_b2)
  obtain ⟨T16, X16, e16, st16⟩ := getS2 X14 hx hZ hown (host := "") (Or.inl (hw _ (List.mem_of_getElem? (i := 12) rfl))) Via.refl e14 (((((S_ERROR.ext E2).wr W5).wr W8).wr W11).wr W14) (g := (mkF m 31 #[.val (.int p1), .unset, .unset, .unset, .unset, .unset, .unset] [(.int (4 : Int32)), (.ref b2), (.ref b2)])) rfl (hb hby at_31)
  -- Sto34: the object may lie in that array: Sto.of Ar.. (an 'Ovr', by the sheet's words) (an 'Ins' of its class), Shelf42/RW6; carried by Sto.ext E.. | Sto.wr W..
  obtain ⟨c17, Ar17, qa17, qs17, qn17, qh17, qg17⟩ := V14
  have hin34 := inb_of (j := (4 : Int32)) qs17 ⟨by decide, by decide⟩
  have Sto34 := Sto.of Ar17 (by rw [qa17]; exact O2) (Ins.self (((((E_ERROR.ext E2).wr W5).wr W8).wr W11).wr W14))
  obtain ⟨T17, h17, X17, e17, W17, st17⟩ := stR X16 hx hZ e16 Ar17 (j := (4 : Int32)) hin34 rfl Sto34 (g := (mkF m 34 #[.val (.int p1), .unset, .unset, .unset, .unset, .unset, .unset] [(.ref w_ERROR), (.int (4 : Int32)), (.ref b2), (.ref b2)])) rfl rfl (hb hby at_34)
  have V17 : Arv Z h17 b2 k2 (.object "com/example/vo_query_server/voqueryserver/Phase") (10 : Int32) [.ref w_PENDING, .ref w_QUEUED, .ref w_EXECUTING, .ref w_COMPLETED, .ref w_ERROR, .null, .null, .null, .null, .null] .null := Arv.set Ar17 qa17 qs17 qn17 qh17 qg17 rfl W17 4 (by decide) (Nat.le_of_ble_eq_true rfl)
  have N17 := Fr.snoc X17 N14 g_b2
  -- ArF.same W17 : the array with (.ref w_ERROR) at the place (4 : Int32)
  have K17 : Keep h0 h17 [] := K14.wr W17 (Or.inr sz_b2)
  obtain ⟨T19, X19, e19, st19⟩ := getS2 X17 hx hZ hown (host := "") (Or.inl (hw _ (List.mem_of_getElem? (i := 14) rfl))) Via.refl e17 ((((((S_ABORTED.ext E2).wr W5).wr W8).wr W11).wr W14).wr W17) (g := (mkF m 37 #[.val (.int p1), .unset, .unset, .unset, .unset, .unset, .unset] [(.int (5 : Int32)), (.ref b2), (.ref b2)])) rfl (hb hby at_37)
  -- Sto40: the object may lie in that array: Sto.of Ar.. (an 'Ovr', by the sheet's words) (an 'Ins' of its class), Shelf42/RW6; carried by Sto.ext E.. | Sto.wr W..
  obtain ⟨c20, Ar20, qa20, qs20, qn20, qh20, qg20⟩ := V17
  have hin40 := inb_of (j := (5 : Int32)) qs20 ⟨by decide, by decide⟩
  have Sto40 := Sto.of Ar20 (by rw [qa20]; exact O2) (Ins.self ((((((E_ABORTED.ext E2).wr W5).wr W8).wr W11).wr W14).wr W17))
  obtain ⟨T20, h20, X20, e20, W20, st20⟩ := stR X19 hx hZ e19 Ar20 (j := (5 : Int32)) hin40 rfl Sto40 (g := (mkF m 40 #[.val (.int p1), .unset, .unset, .unset, .unset, .unset, .unset] [(.ref w_ABORTED), (.int (5 : Int32)), (.ref b2), (.ref b2)])) rfl rfl (hb hby at_40)
  have V20 : Arv Z h20 b2 k2 (.object "com/example/vo_query_server/voqueryserver/Phase") (10 : Int32) [.ref w_PENDING, .ref w_QUEUED, .ref w_EXECUTING, .ref w_COMPLETED, .ref w_ERROR, .ref w_ABORTED, .null, .null, .null, .null] .null := Arv.set Ar20 qa20 qs20 qn20 qh20 qg20 rfl W20 5 (by decide) (Nat.le_of_ble_eq_true rfl)
  have N20 := Fr.snoc X20 N17 g_b2
  -- ArF.same W20 : the array with (.ref w_ABORTED) at the place (5 : Int32)
  have K20 : Keep h0 h20 [] := K17.wr W20 (Or.inr sz_b2)
  obtain ⟨T22, X22, e22, st22⟩ := getS2 X20 hx hZ hown (host := "") (Or.inl (hw _ (List.mem_of_getElem? (i := 16) rfl))) Via.refl e20 (((((((S_UNKNOWN.ext E2).wr W5).wr W8).wr W11).wr W14).wr W17).wr W20) (g := (mkF m 44 #[.val (.int p1), .unset, .unset, .unset, .unset, .unset, .unset] [(.int (6 : Int32)), (.ref b2), (.ref b2)])) rfl (hb hby at_44)
  -- Sto47: the object may lie in that array: Sto.of Ar.. (an 'Ovr', by the sheet's words) (an 'Ins' of its class), Shelf42/RW6; carried by Sto.ext E.. | Sto.wr W..
  obtain ⟨c23, Ar23, qa23, qs23, qn23, qh23, qg23⟩ := V20
  have hin47 := inb_of (j := (6 : Int32)) qs23 ⟨by decide, by decide⟩
  have Sto47 := Sto.of Ar23 (by rw [qa23]; exact O2) (Ins.self (((((((E_UNKNOWN.ext E2).wr W5).wr W8).wr W11).wr W14).wr W17).wr W20))
  obtain ⟨T23, h23, X23, e23, W23, st23⟩ := stR X22 hx hZ e22 Ar23 (j := (6 : Int32)) hin47 rfl Sto47 (g := (mkF m 47 #[.val (.int p1), .unset, .unset, .unset, .unset, .unset, .unset] [(.ref w_UNKNOWN), (.int (6 : Int32)), (.ref b2), (.ref b2)])) rfl rfl (hb hby at_47)
  have V23 : Arv Z h23 b2 k2 (.object "com/example/vo_query_server/voqueryserver/Phase") (10 : Int32) [.ref w_PENDING, .ref w_QUEUED, .ref w_EXECUTING, .ref w_COMPLETED, .ref w_ERROR, .ref w_ABORTED, .ref w_UNKNOWN, .null, .null, .null] .null := Arv.set Ar23 qa23 qs23 qn23 qh23 qg23 rfl W23 6 (by decide) (Nat.le_of_ble_eq_true rfl)
  have N23 := Fr.snoc X23 N20 g_b2
  -- ArF.same W23 : the array with (.ref w_UNKNOWN) at the place (6 : Int32)
  have K23 : Keep h0 h23 [] := K20.wr W23 (Or.inr sz_b2)
  obtain ⟨T25, X25, e25, st25⟩ := getS2 X23 hx hZ hown (host := "") (Or.inl (hw _ (List.mem_of_getElem? (i := 18) rfl))) Via.refl e23 ((((((((S_HELD.ext E2).wr W5).wr W8).wr W11).wr W14).wr W17).wr W20).wr W23) (g := (mkF m 51 #[.val (.int p1), .unset, .unset, .unset, .unset, .unset, .unset] [(.int (7 : Int32)), (.ref b2), (.ref b2)])) rfl (hb hby at_51)
  -- Sto54: the object may lie in that array: Sto.of Ar.. (an 'Ovr', by the sheet's words) (an 'Ins' of its class), Shelf42/RW6; carried by Sto.ext E.. | Sto.wr W..
  obtain ⟨c26, Ar26, qa26, qs26, qn26, qh26, qg26⟩ := V23
  have hin54 := inb_of (j := (7 : Int32)) qs26 ⟨by decide, by decide⟩
  have Sto54 := Sto.of Ar26 (by rw [qa26]; exact O2) (Ins.self ((((((((E_HELD.ext E2).wr W5).wr W8).wr W11).wr W14).wr W17).wr W20).wr W23))
  obtain ⟨T26, h26, X26, e26, W26, st26⟩ := stR X25 hx hZ e25 Ar26 (j := (7 : Int32)) hin54 rfl Sto54 (g := (mkF m 54 #[.val (.int p1), .unset, .unset, .unset, .unset, .unset, .unset] [(.ref w_HELD), (.int (7 : Int32)), (.ref b2), (.ref b2)])) rfl rfl (hb hby at_54)
  have V26 : Arv Z h26 b2 k2 (.object "com/example/vo_query_server/voqueryserver/Phase") (10 : Int32) [.ref w_PENDING, .ref w_QUEUED, .ref w_EXECUTING, .ref w_COMPLETED, .ref w_ERROR, .ref w_ABORTED, .ref w_UNKNOWN, .ref w_HELD, .null, .null] .null := Arv.set Ar26 qa26 qs26 qn26 qh26 qg26 rfl W26 7 (by decide) (Nat.le_of_ble_eq_true rfl)
  have N26 := Fr.snoc X26 N23 g_b2
  -- ArF.same W26 : the array with (.ref w_HELD) at the place (7 : Int32)
  have K26 : Keep h0 h26 [] := K23.wr W26 (Or.inr sz_b2)
  obtain ⟨T28, X28, e28, st28⟩ := getS2 X26 hx hZ hown (host := "") (Or.inl (hw _ (List.mem_of_getElem? (i := 20) rfl))) Via.refl e26 (((((((((S_SUSPENDED.ext E2).wr W5).wr W8).wr W11).wr W14).wr W17).wr W20).wr W23).wr W26) (g := (mkF m 58 #[.val (.int p1), .unset, .unset, .unset, .unset, .unset, .unset] [(.int (8 : Int32)), (.ref b2), (.ref b2)])) rfl (hb hby at_58)
  -- Sto61: the object may lie in that array: Sto.of Ar.. (an 'Ovr', by the sheet's words) (an 'Ins' of its class), Shelf42/RW6; carried by Sto.ext E.. | Sto.wr W..
  obtain ⟨c29, Ar29, qa29, qs29, qn29, qh29, qg29⟩ := V26
  have hin61 := inb_of (j := (8 : Int32)) qs29 ⟨by decide, by decide⟩
  have Sto61 := Sto.of Ar29 (by rw [qa29]; exact O2) (Ins.self (((((((((E_SUSPENDED.ext E2).wr W5).wr W8).wr W11).wr W14).wr W17).wr W20).wr W23).wr W26))
  obtain ⟨T29, h29, X29, e29, W29, st29⟩ := stR X28 hx hZ e28 Ar29 (j := (8 : Int32)) hin61 rfl Sto61 (g := (mkF m 61 #[.val (.int p1), .unset, .unset, .unset, .unset, .unset, .unset] [(.ref w_SUSPENDED), (.int (8 : Int32)), (.ref b2), (.ref b2)])) rfl rfl (hb hby at_61)
  have V29 : Arv Z h29 b2 k2 (.object "com/example/vo_query_server/voqueryserver/Phase") (10 : Int32) [.ref w_PENDING, .ref w_QUEUED, .ref w_EXECUTING, .ref w_COMPLETED, .ref w_ERROR, .ref w_ABORTED, .ref w_UNKNOWN, .ref w_HELD, .ref w_SUSPENDED, .null] .null := Arv.set Ar29 qa29 qs29 qn29 qh29 qg29 rfl W29 8 (by decide) (Nat.le_of_ble_eq_true rfl)
  have N29 := Fr.snoc X29 N26 g_b2
  -- ArF.same W29 : the array with (.ref w_SUSPENDED) at the place (8 : Int32)
  have K29 : Keep h0 h29 [] := K26.wr W29 (Or.inr sz_b2)
  obtain ⟨T31, X31, e31, st31⟩ := getS2 X29 hx hZ hown (host := "") (Or.inl (hw _ (List.mem_of_getElem? (i := 22) rfl))) Via.refl e29 ((((((((((S_ARCHIVED.ext E2).wr W5).wr W8).wr W11).wr W14).wr W17).wr W20).wr W23).wr W26).wr W29) (g := (mkF m 65 #[.val (.int p1), .unset, .unset, .unset, .unset, .unset, .unset] [(.int (9 : Int32)), (.ref b2), (.ref b2)])) rfl (hb hby at_65)
  -- Sto68: the object may lie in that array: Sto.of Ar.. (an 'Ovr', by the sheet's words) (an 'Ins' of its class), Shelf42/RW6; carried by Sto.ext E.. | Sto.wr W..
  obtain ⟨c32, Ar32, qa32, qs32, qn32, qh32, qg32⟩ := V29
  have hin68 := inb_of (j := (9 : Int32)) qs32 ⟨by decide, by decide⟩
  have Sto68 := Sto.of Ar32 (by rw [qa32]; exact O2) (Ins.self ((((((((((E_ARCHIVED.ext E2).wr W5).wr W8).wr W11).wr W14).wr W17).wr W20).wr W23).wr W26).wr W29))
  obtain ⟨T32, h32, X32, e32, W32, st32⟩ := stR X31 hx hZ e31 Ar32 (j := (9 : Int32)) hin68 rfl Sto68 (g := (mkF m 68 #[.val (.int p1), .unset, .unset, .unset, .unset, .unset, .unset] [(.ref w_ARCHIVED), (.int (9 : Int32)), (.ref b2), (.ref b2)])) rfl rfl (hb hby at_68)
  have V32 : Arv Z h32 b2 k2 (.object "com/example/vo_query_server/voqueryserver/Phase") (10 : Int32) [.ref w_PENDING, .ref w_QUEUED, .ref w_EXECUTING, .ref w_COMPLETED, .ref w_ERROR, .ref w_ABORTED, .ref w_UNKNOWN, .ref w_HELD, .ref w_SUSPENDED, .ref w_ARCHIVED] .null := Arv.set Ar32 qa32 qs32 qn32 qh32 qg32 rfl W32 9 (by decide) (Nat.le_of_ble_eq_true rfl)
  have N32 := Fr.snoc X32 N29 g_b2
  -- ArF.same W32 : the array with (.ref w_ARCHIVED) at the place (9 : Int32)
  have K32 : Keep h0 h32 [] := K29.wr W32 (Or.inr sz_b2)
  obtain ⟨cF, ArF, qaF, qsF, qnF, qhF, qgF⟩ := V32
  have hin91 := inb_of (j := ((p1 &&& (2147483647 : Int32)) % (10 : Int32))) qsF hk10
  have hat91 : cF.slots[(((p1 &&& (2147483647 : Int32)) % (10 : Int32))).toNatClampNeg]? = some (.ref A) := (qhF _ (Nat.lt_of_not_le fun q => hin91 (Or.inr q))).trans (congrArg some hA)
  have E_A1 := (((((((((((E_A.ext E2).wr W5).wr W8).wr W11).wr W14).wr W17).wr W20).wr W23).wr W26).wr W29).wr W32)
  have Z1 : n0 ≤ h32.size := Nat.le_trans Z0 K32.1
  have S1_PENDING := (((((((((((S_PENDING.ext E2).wr W5).wr W8).wr W11).wr W14).wr W17).wr W20).wr W23).wr W26).wr W29).wr W32)
  have S1_QUEUED := (((((((((((S_QUEUED.ext E2).wr W5).wr W8).wr W11).wr W14).wr W17).wr W20).wr W23).wr W26).wr W29).wr W32)
  have S1_EXECUTING := (((((((((((S_EXECUTING.ext E2).wr W5).wr W8).wr W11).wr W14).wr W17).wr W20).wr W23).wr W26).wr W29).wr W32)
  -- pc 96: com/example/vo_query_server/voqueryserver/Phase.isActive by the contract of the body that the receiver's class selects, rm1
  obtain ⟨cq34, kq34, q34a, q34b, q34c⟩ := isOf hZ e32 E_A1
  obtain ⟨_, _, ⟨T34, L34, k34, n34⟩, -, X34, ⟨Lc34, hQ34, l34, y34, z34⟩, st34⟩ := X32.virtualBack hx (y := (⟨"com/example/vo_query_server/voqueryserver/Phase", "isActive", "()Z"⟩ : MethodName)) (z := (⟨"com/example/vo_query_server/voqueryserver/Phase", "isActive", "()Z"⟩ : MethodName)) hown (mvT hZ (hw _ (List.mem_of_getElem? (i := 25) rfl))) (mvT hZ (hw _ (List.mem_of_getElem? (i := 26) rfl))) (notFace_of_selects (args := #[]) (mvT hZ (hw _ (List.mem_of_getElem? (i := 28) rfl)))) (mvT hZ (hw _ (List.mem_of_getElem? (i := 28) rfl))) (mvT hZ (hw _ (List.mem_of_getElem? (i := 27) rfl))) (by decide) (backOf (W := 0) (rm1 l Z a0 hw [] A w_PENDING w_QUEUED w_EXECUTING h32 n0 Z1 S1_PENDING S1_QUEUED S1_EXECUTING) hZ (hw _ (List.mem_of_getElem? (i := 29) rfl)) (hw _ (List.mem_of_getElem? (i := 3) rfl)) (by decide) (by decide)) q34a q34c (g := (mkF m 96 #[.val (.int p1), .val (.ref b2), .val (.int ((p1 &&& (2147483647 : Int32)) % (10 : Int32))), .val (.int (1 : Int32)), .val (.ref A), .unset, .unset] [(.ref A)])) rfl (by rw [hml]; rfl) (Steps.refl _) (argsL := []) (rest := []) (lenOf pd_0_0 rfl) rfl (by show 2 * 0 + _ ≤ _; exact Nat.le_of_eq rfl) (hb hby at_96) (fun _ _ => ⟨rfl, e32, (by decide : 1 + 0 ≤ _), (by decide : 10 + 0 ≤ _)⟩)
  dsimp only [Pt.U, Pt.locs, Pt.cells, Pt.slots] at X34 l34 y34 z34 st34 hQ34
  subst l34 y34 z34
  obtain ⟨rv34, N34q, q34⟩ := hQ34
  rw [hu] at rv34
  subst rv34
  have N34 := Fr.app N32 N34q
  -- pc 103: com/example/vo_query_server/voqueryserver/Phase.isRunning by the contract of the body that the receiver's class selects, rm2
  obtain ⟨cq35, kq35, q35a, q35b, q35c⟩ := isOf hZ q34 E_A1
  obtain ⟨_, _, ⟨T35, L35, k35, n35⟩, -, X35, ⟨Lc35, hQ35, l35, y35, z35⟩, st35⟩ := X34.virtualBack hx (y := (⟨"com/example/vo_query_server/voqueryserver/Phase", "isRunning", "()Z"⟩ : MethodName)) (z := (⟨"com/example/vo_query_server/voqueryserver/Phase", "isRunning", "()Z"⟩ : MethodName)) hown (mvT hZ (hw _ (List.mem_of_getElem? (i := 31) rfl))) (mvT hZ (hw _ (List.mem_of_getElem? (i := 32) rfl))) (notFace_of_selects (args := #[]) (mvT hZ (hw _ (List.mem_of_getElem? (i := 34) rfl)))) (mvT hZ (hw _ (List.mem_of_getElem? (i := 34) rfl))) (mvT hZ (hw _ (List.mem_of_getElem? (i := 33) rfl))) (by decide) (backOf (W := 0) (rm2 l Z a0 hw [] A w_QUEUED w_EXECUTING h32 n0 Z1 S1_QUEUED S1_EXECUTING) hZ (hw _ (List.mem_of_getElem? (i := 35) rfl)) (hw _ (List.mem_of_getElem? (i := 3) rfl)) (by decide) (by decide)) q35a q35c (g := (mkF m 103 #[.val (.int p1), .val (.ref b2), .val (.int ((p1 &&& (2147483647 : Int32)) % (10 : Int32))), .val (.int (1 : Int32)), .val (.ref A), .val (.int u), .unset] [(.ref A)])) rfl (by rw [hml]; rfl) (Steps.refl _) (argsL := []) (rest := []) (lenOf pd_0_0 rfl) rfl (by show 2 * 0 + _ ≤ _; exact Nat.le_of_eq rfl) (hb hby at_103) (fun _ _ => ⟨rfl, q34, (by decide : 1 + 0 ≤ _), (by decide : 10 + 0 ≤ _)⟩)
  dsimp only [Pt.U, Pt.locs, Pt.cells, Pt.slots] at X35 l35 y35 z35 st35 hQ35
  subst l35 y35 z35
  obtain ⟨rv35, N35q, q35⟩ := hQ35
  rw [hr0] at rv35
  subst rv35
  have N35 := Fr.app N34 N35q
  obtain ⟨fs, hr, hrun, hended, hW, hsame⟩ := X35.leave (v := some (.int (1 : Int32))) (fun h => by rw [Bd.returns] at h; cases h)
  refine ⟨_, _, pre0 _ ?_, hrun, hended, _, _, rfl, ?_, ⟨_, rfl⟩, hW, hsame.mono (by decide) (by decide)⟩
  -- 4. STEPS
  · show Steps p.tables e below (s₁.setTop (mkF m 0 #[.val (.int p1), .unset, .unset, .unset, .unset, .unset, .unset] [])) _
    refine XS.bipush X0.here hx rfl (hb hby at_0) ?_
    show Steps p.tables e below (s₁.setTop (mkF m 2 #[.val (.int p1), .unset, .unset, .unset, .unset, .unset, .unset] [(.int (10 : Int32))])) _
    refine st2 _ ?_
    show Steps p.tables e below (T2.setTop (mkF m 5 #[.val (.int p1), .unset, .unset, .unset, .unset, .unset, .unset] [(.ref b2)])) _
    refine XS.dup X2.here hx rfl (hb hby at_5) rfl rfl ?_
    show Steps p.tables e below (T2.setTop (mkF m 6 #[.val (.int p1), .unset, .unset, .unset, .unset, .unset, .unset] [(.ref b2), (.ref b2)])) _
    refine XS.iconst X2.here hx rfl (hb hby at_6) ?_
    show Steps p.tables e below (T2.setTop (mkF m 7 #[.val (.int p1), .unset, .unset, .unset, .unset, .unset, .unset] [(.int (0 : Int32)), (.ref b2), (.ref b2)])) _
    refine st4 _ ?_
    show Steps p.tables e below (T4.setTop (mkF m 10 #[.val (.int p1), .unset, .unset, .unset, .unset, .unset, .unset] [(.ref w_PENDING), (.int (0 : Int32)), (.ref b2), (.ref b2)])) _
    refine st5 _ ?_
    show Steps p.tables e below (T5.setTop (mkF m 11 #[.val (.int p1), .unset, .unset, .unset, .unset, .unset, .unset] [(.ref b2)])) _
    refine XS.dup X5.here hx rfl (hb hby at_11) rfl rfl ?_
    show Steps p.tables e below (T5.setTop (mkF m 12 #[.val (.int p1), .unset, .unset, .unset, .unset, .unset, .unset] [(.ref b2), (.ref b2)])) _
    refine XS.iconst X5.here hx rfl (hb hby at_12) ?_
    show Steps p.tables e below (T5.setTop (mkF m 13 #[.val (.int p1), .unset, .unset, .unset, .unset, .unset, .unset] [(.int (1 : Int32)), (.ref b2), (.ref b2)])) _
    refine st7 _ ?_
    show Steps p.tables e below (T7.setTop (mkF m 16 #[.val (.int p1), .unset, .unset, .unset, .unset, .unset, .unset] [(.ref w_QUEUED), (.int (1 : Int32)), (.ref b2), (.ref b2)])) _
    refine st8 _ ?_
    show Steps p.tables e below (T8.setTop (mkF m 17 #[.val (.int p1), .unset, .unset, .unset, .unset, .unset, .unset] [(.ref b2)])) _
    refine XS.dup X8.here hx rfl (hb hby at_17) rfl rfl ?_
    show Steps p.tables e below (T8.setTop (mkF m 18 #[.val (.int p1), .unset, .unset, .unset, .unset, .unset, .unset] [(.ref b2), (.ref b2)])) _
    refine XS.iconst X8.here hx rfl (hb hby at_18) ?_
    show Steps p.tables e below (T8.setTop (mkF m 19 #[.val (.int p1), .unset, .unset, .unset, .unset, .unset, .unset] [(.int (2 : Int32)), (.ref b2), (.ref b2)])) _
    refine st10 _ ?_
    show Steps p.tables e below (T10.setTop (mkF m 22 #[.val (.int p1), .unset, .unset, .unset, .unset, .unset, .unset] [(.ref w_EXECUTING), (.int (2 : Int32)), (.ref b2), (.ref b2)])) _
    refine st11 _ ?_
    show Steps p.tables e below (T11.setTop (mkF m 23 #[.val (.int p1), .unset, .unset, .unset, .unset, .unset, .unset] [(.ref b2)])) _
    refine XS.dup X11.here hx rfl (hb hby at_23) rfl rfl ?_
    show Steps p.tables e below (T11.setTop (mkF m 24 #[.val (.int p1), .unset, .unset, .unset, .unset, .unset, .unset] [(.ref b2), (.ref b2)])) _
    refine XS.iconst X11.here hx rfl (hb hby at_24) ?_
    show Steps p.tables e below (T11.setTop (mkF m 25 #[.val (.int p1), .unset, .unset, .unset, .unset, .unset, .unset] [(.int (3 : Int32)), (.ref b2), (.ref b2)])) _
    refine st13 _ ?_
    show Steps p.tables e below (T13.setTop (mkF m 28 #[.val (.int p1), .unset, .unset, .unset, .unset, .unset, .unset] [(.ref w_COMPLETED), (.int (3 : Int32)), (.ref b2), (.ref b2)])) _
    refine st14 _ ?_
    show Steps p.tables e below (T14.setTop (mkF m 29 #[.val (.int p1), .unset, .unset, .unset, .unset, .unset, .unset] [(.ref b2)])) _
    refine XS.dup X14.here hx rfl (hb hby at_29) rfl rfl ?_
    show Steps p.tables e below (T14.setTop (mkF m 30 #[.val (.int p1), .unset, .unset, .unset, .unset, .unset, .unset] [(.ref b2), (.ref b2)])) _
    refine XS.iconst X14.here hx rfl (hb hby at_30) ?_
    show Steps p.tables e below (T14.setTop (mkF m 31 #[.val (.int p1), .unset, .unset, .unset, .unset, .unset, .unset] [(.int (4 : Int32)), (.ref b2), (.ref b2)])) _
    refine st16 _ ?_
    show Steps p.tables e below (T16.setTop (mkF m 34 #[.val (.int p1), .unset, .unset, .unset, .unset, .unset, .unset] [(.ref w_ERROR), (.int (4 : Int32)), (.ref b2), (.ref b2)])) _
    refine st17 _ ?_
    show Steps p.tables e below (T17.setTop (mkF m 35 #[.val (.int p1), .unset, .unset, .unset, .unset, .unset, .unset] [(.ref b2)])) _
    refine XS.dup X17.here hx rfl (hb hby at_35) rfl rfl ?_
    show Steps p.tables e below (T17.setTop (mkF m 36 #[.val (.int p1), .unset, .unset, .unset, .unset, .unset, .unset] [(.ref b2), (.ref b2)])) _
    refine XS.iconst X17.here hx rfl (hb hby at_36) ?_
    show Steps p.tables e below (T17.setTop (mkF m 37 #[.val (.int p1), .unset, .unset, .unset, .unset, .unset, .unset] [(.int (5 : Int32)), (.ref b2), (.ref b2)])) _
    refine st19 _ ?_
    show Steps p.tables e below (T19.setTop (mkF m 40 #[.val (.int p1), .unset, .unset, .unset, .unset, .unset, .unset] [(.ref w_ABORTED), (.int (5 : Int32)), (.ref b2), (.ref b2)])) _
    refine st20 _ ?_
    show Steps p.tables e below (T20.setTop (mkF m 41 #[.val (.int p1), .unset, .unset, .unset, .unset, .unset, .unset] [(.ref b2)])) _
    refine XS.dup X20.here hx rfl (hb hby at_41) rfl rfl ?_
    show Steps p.tables e below (T20.setTop (mkF m 42 #[.val (.int p1), .unset, .unset, .unset, .unset, .unset, .unset] [(.ref b2), (.ref b2)])) _
    refine XS.bipush X20.here hx rfl (hb hby at_42) ?_
    show Steps p.tables e below (T20.setTop (mkF m 44 #[.val (.int p1), .unset, .unset, .unset, .unset, .unset, .unset] [(.int (6 : Int32)), (.ref b2), (.ref b2)])) _
    refine st22 _ ?_
    show Steps p.tables e below (T22.setTop (mkF m 47 #[.val (.int p1), .unset, .unset, .unset, .unset, .unset, .unset] [(.ref w_UNKNOWN), (.int (6 : Int32)), (.ref b2), (.ref b2)])) _
    refine st23 _ ?_
    show Steps p.tables e below (T23.setTop (mkF m 48 #[.val (.int p1), .unset, .unset, .unset, .unset, .unset, .unset] [(.ref b2)])) _
    refine XS.dup X23.here hx rfl (hb hby at_48) rfl rfl ?_
    show Steps p.tables e below (T23.setTop (mkF m 49 #[.val (.int p1), .unset, .unset, .unset, .unset, .unset, .unset] [(.ref b2), (.ref b2)])) _
    refine XS.bipush X23.here hx rfl (hb hby at_49) ?_
    show Steps p.tables e below (T23.setTop (mkF m 51 #[.val (.int p1), .unset, .unset, .unset, .unset, .unset, .unset] [(.int (7 : Int32)), (.ref b2), (.ref b2)])) _
    refine st25 _ ?_
    show Steps p.tables e below (T25.setTop (mkF m 54 #[.val (.int p1), .unset, .unset, .unset, .unset, .unset, .unset] [(.ref w_HELD), (.int (7 : Int32)), (.ref b2), (.ref b2)])) _
    refine st26 _ ?_
    show Steps p.tables e below (T26.setTop (mkF m 55 #[.val (.int p1), .unset, .unset, .unset, .unset, .unset, .unset] [(.ref b2)])) _
    refine XS.dup X26.here hx rfl (hb hby at_55) rfl rfl ?_
    show Steps p.tables e below (T26.setTop (mkF m 56 #[.val (.int p1), .unset, .unset, .unset, .unset, .unset, .unset] [(.ref b2), (.ref b2)])) _
    refine XS.bipush X26.here hx rfl (hb hby at_56) ?_
    show Steps p.tables e below (T26.setTop (mkF m 58 #[.val (.int p1), .unset, .unset, .unset, .unset, .unset, .unset] [(.int (8 : Int32)), (.ref b2), (.ref b2)])) _
    refine st28 _ ?_
    show Steps p.tables e below (T28.setTop (mkF m 61 #[.val (.int p1), .unset, .unset, .unset, .unset, .unset, .unset] [(.ref w_SUSPENDED), (.int (8 : Int32)), (.ref b2), (.ref b2)])) _
    refine st29 _ ?_
    show Steps p.tables e below (T29.setTop (mkF m 62 #[.val (.int p1), .unset, .unset, .unset, .unset, .unset, .unset] [(.ref b2)])) _
    refine XS.dup X29.here hx rfl (hb hby at_62) rfl rfl ?_
    show Steps p.tables e below (T29.setTop (mkF m 63 #[.val (.int p1), .unset, .unset, .unset, .unset, .unset, .unset] [(.ref b2), (.ref b2)])) _
    refine XS.bipush X29.here hx rfl (hb hby at_63) ?_
    show Steps p.tables e below (T29.setTop (mkF m 65 #[.val (.int p1), .unset, .unset, .unset, .unset, .unset, .unset] [(.int (9 : Int32)), (.ref b2), (.ref b2)])) _
    refine st31 _ ?_
    show Steps p.tables e below (T31.setTop (mkF m 68 #[.val (.int p1), .unset, .unset, .unset, .unset, .unset, .unset] [(.ref w_ARCHIVED), (.int (9 : Int32)), (.ref b2), (.ref b2)])) _
    refine st32 _ ?_
    show Steps p.tables e below (T32.setTop (mkF m 69 #[.val (.int p1), .unset, .unset, .unset, .unset, .unset, .unset] [(.ref b2)])) _
    refine XS.astoreN X32.here hx rfl (hb hby at_69) rfl rfl (l' := #[.val (.int p1), .val (.ref b2), .unset, .unset, .unset, .unset, .unset]) rfl ?_
    show Steps p.tables e below (T32.setTop (mkF m 70 #[.val (.int p1), .val (.ref b2), .unset, .unset, .unset, .unset, .unset] [])) _
    refine XS.iloadN X32.here hx rfl (hb hby at_70) rfl ?_
    show Steps p.tables e below (T32.setTop (mkF m 71 #[.val (.int p1), .val (.ref b2), .unset, .unset, .unset, .unset, .unset] [(.int p1)])) _
    refine X32.ldcInt hx hown (mvT hZ (hw _ (List.mem_of_getElem? (i := 24) rfl))) (g := (mkF m 71 #[.val (.int p1), .val (.ref b2), .unset, .unset, .unset, .unset, .unset] [(.int p1)])) rfl (hb hby at_71) _ ?_
    show Steps p.tables e below (T32.setTop (mkF m 73 #[.val (.int p1), .val (.ref b2), .unset, .unset, .unset, .unset, .unset] [(.int (2147483647 : Int32)), (.int p1)])) _
    refine XS.iand X32.here hx rfl (hb hby at_73) rfl ?_
    show Steps p.tables e below (T32.setTop (mkF m 74 #[.val (.int p1), .val (.ref b2), .unset, .unset, .unset, .unset, .unset] [(.int (p1 &&& (2147483647 : Int32)))])) _
    refine XS.bipush X32.here hx rfl (hb hby at_74) ?_
    show Steps p.tables e below (T32.setTop (mkF m 76 #[.val (.int p1), .val (.ref b2), .unset, .unset, .unset, .unset, .unset] [(.int (10 : Int32)), (.int (p1 &&& (2147483647 : Int32)))])) _
    refine iremM X32 hx rfl (hb hby at_76) rfl (by decide) ?_
    show Steps p.tables e below (T32.setTop (mkF m 77 #[.val (.int p1), .val (.ref b2), .unset, .unset, .unset, .unset, .unset] [(.int ((p1 &&& (2147483647 : Int32)) % (10 : Int32)))])) _
    refine XS.istoreN X32.here hx rfl (hb hby at_77) rfl (l' := #[.val (.int p1), .val (.ref b2), .val (.int ((p1 &&& (2147483647 : Int32)) % (10 : Int32))), .unset, .unset, .unset, .unset]) rfl ?_
    show Steps p.tables e below (T32.setTop (mkF m 78 #[.val (.int p1), .val (.ref b2), .val (.int ((p1 &&& (2147483647 : Int32)) % (10 : Int32))), .unset, .unset, .unset, .unset] [])) _
    refine XS.iloadN X32.here hx rfl (hb hby at_78) rfl ?_
    show Steps p.tables e below (T32.setTop (mkF m 79 #[.val (.int p1), .val (.ref b2), .val (.int ((p1 &&& (2147483647 : Int32)) % (10 : Int32))), .unset, .unset, .unset, .unset] [(.int ((p1 &&& (2147483647 : Int32)) % (10 : Int32)))])) _
    refine XS.iconst X32.here hx rfl (hb hby at_79) ?_
    show Steps p.tables e below (T32.setTop (mkF m 80 #[.val (.int p1), .val (.ref b2), .val (.int ((p1 &&& (2147483647 : Int32)) % (10 : Int32))), .unset, .unset, .unset, .unset] [(.int (2 : Int32)), (.int ((p1 &&& (2147483647 : Int32)) % (10 : Int32)))])) _
    refine XS.icmpNo X32.here hx rfl (hb hby at_80) rfl (flt hc80).2.2.1 ?_
    show Steps p.tables e below (T32.setTop (mkF m 83 #[.val (.int p1), .val (.ref b2), .val (.int ((p1 &&& (2147483647 : Int32)) % (10 : Int32))), .unset, .unset, .unset, .unset] [])) _
    refine XS.iconst X32.here hx rfl (hb hby at_83) ?_
    show Steps p.tables e below (T32.setTop (mkF m 84 #[.val (.int p1), .val (.ref b2), .val (.int ((p1 &&& (2147483647 : Int32)) % (10 : Int32))), .unset, .unset, .unset, .unset] [(.int (1 : Int32))])) _
    refine XS.goto X32.here hx rfl (pc0 := 84) (pc' := 88) rfl (hb hby at_84) (by decide) (by decide) ?_
    show Steps p.tables e below (T32.setTop (mkF m 88 #[.val (.int p1), .val (.ref b2), .val (.int ((p1 &&& (2147483647 : Int32)) % (10 : Int32))), .unset, .unset, .unset, .unset] [(.int (1 : Int32))])) _
    refine XS.istoreN X32.here hx rfl (hb hby at_88) rfl (l' := #[.val (.int p1), .val (.ref b2), .val (.int ((p1 &&& (2147483647 : Int32)) % (10 : Int32))), .val (.int (1 : Int32)), .unset, .unset, .unset]) rfl ?_
    show Steps p.tables e below (T32.setTop (mkF m 89 #[.val (.int p1), .val (.ref b2), .val (.int ((p1 &&& (2147483647 : Int32)) % (10 : Int32))), .val (.int (1 : Int32)), .unset, .unset, .unset] [])) _
    refine XS.aloadN X32.here hx rfl (hb hby at_89) rfl rfl ?_
    show Steps p.tables e below (T32.setTop (mkF m 90 #[.val (.int p1), .val (.ref b2), .val (.int ((p1 &&& (2147483647 : Int32)) % (10 : Int32))), .val (.int (1 : Int32)), .unset, .unset, .unset] [(.ref b2)])) _
    refine XS.iloadN X32.here hx rfl (hb hby at_90) rfl ?_
    show Steps p.tables e below (T32.setTop (mkF m 91 #[.val (.int p1), .val (.ref b2), .val (.int ((p1 &&& (2147483647 : Int32)) % (10 : Int32))), .val (.int (1 : Int32)), .unset, .unset, .unset] [(.int ((p1 &&& (2147483647 : Int32)) % (10 : Int32))), (.ref b2)])) _
    refine X32.aaload hx (j := ((p1 &&& (2147483647 : Int32)) % (10 : Int32))) (v := (.ref A)) (by rw [e32]; exact ArF.1) (State.isArrayOf_alike hZ.alike ArF.2.1) rfl ArF.2.2 hin91 hat91 (g := (mkF m 91 #[.val (.int p1), .val (.ref b2), .val (.int ((p1 &&& (2147483647 : Int32)) % (10 : Int32))), .val (.int (1 : Int32)), .unset, .unset, .unset] [(.int ((p1 &&& (2147483647 : Int32)) % (10 : Int32))), (.ref b2)])) rfl rfl (hb hby at_91) _ ?_
    show Steps p.tables e below (T32.setTop (mkF m 92 #[.val (.int p1), .val (.ref b2), .val (.int ((p1 &&& (2147483647 : Int32)) % (10 : Int32))), .val (.int (1 : Int32)), .unset, .unset, .unset] [(.ref A)])) _
    refine XS.astore X32.here hx rfl (hb hby at_92) rfl rfl (l' := #[.val (.int p1), .val (.ref b2), .val (.int ((p1 &&& (2147483647 : Int32)) % (10 : Int32))), .val (.int (1 : Int32)), .val (.ref A), .unset, .unset]) rfl ?_
    show Steps p.tables e below (T32.setTop (mkF m 94 #[.val (.int p1), .val (.ref b2), .val (.int ((p1 &&& (2147483647 : Int32)) % (10 : Int32))), .val (.int (1 : Int32)), .val (.ref A), .unset, .unset] [])) _
    refine XS.aload X32.here hx rfl (hb hby at_94) rfl rfl ?_
    show Steps p.tables e below (T32.setTop (mkF m 96 #[.val (.int p1), .val (.ref b2), .val (.int ((p1 &&& (2147483647 : Int32)) % (10 : Int32))), .val (.int (1 : Int32)), .val (.ref A), .unset, .unset] [(.ref A)])) _
    refine st34.trans ?_
    show Steps p.tables e below (T34.setTop (mkF m 99 #[.val (.int p1), .val (.ref b2), .val (.int ((p1 &&& (2147483647 : Int32)) % (10 : Int32))), .val (.int (1 : Int32)), .val (.ref A), .unset, .unset] [(.int u)])) _
    refine XS.istore X34.here hx rfl (hb hby at_99) rfl (l' := #[.val (.int p1), .val (.ref b2), .val (.int ((p1 &&& (2147483647 : Int32)) % (10 : Int32))), .val (.int (1 : Int32)), .val (.ref A), .val (.int u), .unset]) rfl ?_
    show Steps p.tables e below (T34.setTop (mkF m 101 #[.val (.int p1), .val (.ref b2), .val (.int ((p1 &&& (2147483647 : Int32)) % (10 : Int32))), .val (.int (1 : Int32)), .val (.ref A), .val (.int u), .unset] [])) _
    refine XS.aload X34.here hx rfl (hb hby at_101) rfl rfl ?_
    show Steps p.tables e below (T34.setTop (mkF m 103 #[.val (.int p1), .val (.ref b2), .val (.int ((p1 &&& (2147483647 : Int32)) % (10 : Int32))), .val (.int (1 : Int32)), .val (.ref A), .val (.int u), .unset] [(.ref A)])) _
    refine st35.trans ?_
    show Steps p.tables e below (T35.setTop (mkF m 106 #[.val (.int p1), .val (.ref b2), .val (.int ((p1 &&& (2147483647 : Int32)) % (10 : Int32))), .val (.int (1 : Int32)), .val (.ref A), .val (.int u), .unset] [(.int r)])) _
    refine XS.istore X35.here hx rfl (hb hby at_106) rfl (l' := #[.val (.int p1), .val (.ref b2), .val (.int ((p1 &&& (2147483647 : Int32)) % (10 : Int32))), .val (.int (1 : Int32)), .val (.ref A), .val (.int u), .val (.int r)]) rfl ?_
    show Steps p.tables e below (T35.setTop (mkF m 108 #[.val (.int p1), .val (.ref b2), .val (.int ((p1 &&& (2147483647 : Int32)) % (10 : Int32))), .val (.int (1 : Int32)), .val (.ref A), .val (.int u), .val (.int r)] [])) _
    refine XS.iload X35.here hx rfl (hb hby at_108) rfl ?_
    show Steps p.tables e below (T35.setTop (mkF m 110 #[.val (.int p1), .val (.ref b2), .val (.int ((p1 &&& (2147483647 : Int32)) % (10 : Int32))), .val (.int (1 : Int32)), .val (.ref A), .val (.int u), .val (.int r)] [(.int u)])) _
    refine XS.iloadN X35.here hx rfl (hb hby at_110) rfl ?_
    show Steps p.tables e below (T35.setTop (mkF m 111 #[.val (.int p1), .val (.ref b2), .val (.int ((p1 &&& (2147483647 : Int32)) % (10 : Int32))), .val (.int (1 : Int32)), .val (.ref A), .val (.int u), .val (.int r)] [(.int (1 : Int32)), (.int u)])) _
    refine XS.icmpNo X35.here hx rfl (hb hby at_111) rfl (teq (hv111 : u = (1 : Int32))).2 ?_
    show Steps p.tables e below (T35.setTop (mkF m 114 #[.val (.int p1), .val (.ref b2), .val (.int ((p1 &&& (2147483647 : Int32)) % (10 : Int32))), .val (.int (1 : Int32)), .val (.ref A), .val (.int u), .val (.int r)] [])) _
    refine XS.iload X35.here hx rfl (hb hby at_114) rfl ?_
    show Steps p.tables e below (T35.setTop (mkF m 116 #[.val (.int p1), .val (.ref b2), .val (.int ((p1 &&& (2147483647 : Int32)) % (10 : Int32))), .val (.int (1 : Int32)), .val (.ref A), .val (.int u), .val (.int r)] [(.int r)])) _
    refine XS.ifYes X35.here hx rfl (pc0 := 116) (pc' := 124) rfl (hb hby at_116) rfl ((if0 _ _).trans (teq (hv116 : r = (0 : Int32))).1) (by decide) (by decide) ?_
    show Steps p.tables e below (T35.setTop (mkF m 124 #[.val (.int p1), .val (.ref b2), .val (.int ((p1 &&& (2147483647 : Int32)) % (10 : Int32))), .val (.int (1 : Int32)), .val (.ref A), .val (.int u), .val (.int r)] [])) _
    refine XS.iconst X35.here hx rfl (hb hby at_124) ?_
    show Steps p.tables e below (T35.setTop (mkF m 125 #[.val (.int p1), .val (.ref b2), .val (.int ((p1 &&& (2147483647 : Int32)) % (10 : Int32))), .val (.int (1 : Int32)), .val (.ref A), .val (.int u), .val (.int r)] [(.int (1 : Int32))])) _
    refine XS.goto X35.here hx rfl (pc0 := 125) (pc' := 129) rfl (hb hby at_125) (by decide) (by decide) ?_
    show Steps p.tables e below (T35.setTop (mkF m 129 #[.val (.int p1), .val (.ref b2), .val (.int ((p1 &&& (2147483647 : Int32)) % (10 : Int32))), .val (.int (1 : Int32)), .val (.ref A), .val (.int u), .val (.int r)] [(.int (1 : Int32))])) _
    exact retN X35 hx (t := .boolean) Bd.returns (by simp) (hb hby at_129) hr
  · show Q0 Z h0 n0 _ T35.heap _
    exact ⟨rfl, N35⟩
set_option maxRecDepth 65536 in
set_option maxHeartbeats 40000000 in
theorem rm0_ffff (l : Launch) (Z : State) (a0 : Array Value) (hw : ∀ d ∈ tables_1, d.before a0 Z = true) (ws : List Jvm.Cond) (p1 : Int32) (w_PENDING : Addr) (w_QUEUED : Addr) (w_EXECUTING : Addr) (w_COMPLETED : Addr) (w_ERROR : Addr) (w_ABORTED : Addr) (w_UNKNOWN : Addr) (w_HELD : Addr) (w_SUSPENDED : Addr) (w_ARCHIVED : Addr) (A : Addr) (u : Int32) (r : Int32) (h0 : Heap) (n0 : Nat) (Z0 : n0 ≤ h0.size) (S_PENDING : Sta Z h0 "com/example/vo_query_server/voqueryserver/Phase" "PENDING" "Lcom/example/vo_query_server/voqueryserver/Phase;" (.ref w_PENDING)) (S_QUEUED : Sta Z h0 "com/example/vo_query_server/voqueryserver/Phase" "QUEUED" "Lcom/example/vo_query_server/voqueryserver/Phase;" (.ref w_QUEUED)) (S_EXECUTING : Sta Z h0 "com/example/vo_query_server/voqueryserver/Phase" "EXECUTING" "Lcom/example/vo_query_server/voqueryserver/Phase;" (.ref w_EXECUTING)) (S_COMPLETED : Sta Z h0 "com/example/vo_query_server/voqueryserver/Phase" "COMPLETED" "Lcom/example/vo_query_server/voqueryserver/Phase;" (.ref w_COMPLETED)) (S_ERROR : Sta Z h0 "com/example/vo_query_server/voqueryserver/Phase" "ERROR" "Lcom/example/vo_query_server/voqueryserver/Phase;" (.ref w_ERROR)) (S_ABORTED : Sta Z h0 "com/example/vo_query_server/voqueryserver/Phase" "ABORTED" "Lcom/example/vo_query_server/voqueryserver/Phase;" (.ref w_ABORTED)) (S_UNKNOWN : Sta Z h0 "com/example/vo_query_server/voqueryserver/Phase" "UNKNOWN" "Lcom/example/vo_query_server/voqueryserver/Phase;" (.ref w_UNKNOWN)) (S_HELD : Sta Z h0 "com/example/vo_query_server/voqueryserver/Phase" "HELD" "Lcom/example/vo_query_server/voqueryserver/Phase;" (.ref w_HELD)) (S_SUSPENDED : Sta Z h0 "com/example/vo_query_server/voqueryserver/Phase" "SUSPENDED" "Lcom/example/vo_query_server/voqueryserver/Phase;" (.ref w_SUSPENDED)) (S_ARCHIVED : Sta Z h0 "com/example/vo_query_server/voqueryserver/Phase" "ARCHIVED" "Lcom/example/vo_query_server/voqueryserver/Phase;" (.ref w_ARCHIVED)) (E_PENDING : Exa Z h0 w_PENDING "com/example/vo_query_server/voqueryserver/Phase") (E_QUEUED : Exa Z h0 w_QUEUED "com/example/vo_query_server/voqueryserver/Phase") (E_EXECUTING : Exa Z h0 w_EXECUTING "com/example/vo_query_server/voqueryserver/Phase") (E_COMPLETED : Exa Z h0 w_COMPLETED "com/example/vo_query_server/voqueryserver/Phase") (E_ERROR : Exa Z h0 w_ERROR "com/example/vo_query_server/voqueryserver/Phase") (E_ABORTED : Exa Z h0 w_ABORTED "com/example/vo_query_server/voqueryserver/Phase") (E_UNKNOWN : Exa Z h0 w_UNKNOWN "com/example/vo_query_server/voqueryserver/Phase") (E_HELD : Exa Z h0 w_HELD "com/example/vo_query_server/voqueryserver/Phase") (E_SUSPENDED : Exa Z h0 w_SUSPENDED "com/example/vo_query_server/voqueryserver/Phase") (E_ARCHIVED : Exa Z h0 w_ARCHIVED "com/example/vo_query_server/voqueryserver/Phase") (E_A : Exa Z h0 A "com/example/vo_query_server/voqueryserver/Phase") (hk10 : ¬ ((p1 &&& (2147483647 : Int32)) % (10 : Int32)) < 0 ∧ ((p1 &&& (2147483647 : Int32)) % (10 : Int32)) < 10) (hA : ([.ref w_PENDING, .ref w_QUEUED, .ref w_EXECUTING, .ref w_COMPLETED, .ref w_ERROR, .ref w_ABORTED, .ref w_UNKNOWN, .ref w_HELD, .ref w_SUSPENDED, .ref w_ARCHIVED] : List Value).getD (((p1 &&& (2147483647 : Int32)) % (10 : Int32))).toNatClampNeg .null = .ref A) (hu : actF A w_PENDING w_QUEUED w_EXECUTING = u) (hr0 : runF A w_QUEUED w_EXECUTING = r) (hc80 : ¬ ((2 : Int32) < ((p1 &&& (2147483647 : Int32)) % (10 : Int32)))) (hv111 : u = (1 : Int32)) (hv116 : ¬ (r = (0 : Int32))) (hv121 : ¬ (u = (0 : Int32))) :
    MetFree l x (head1 (Jvm.Cond.code x code maxLocals ret :: ws) room_1) (fun a U => a = #[(.int p1)] ∧ Z.Warmed39 U.vm ∧ U.heap = h0) (fun _ _ _ _ _ => True) (fun _ U o U' => ∃ v L, o = .returned v ∧ Q0 Z h0 n0 v U'.heap L ∧ FrameEnd U o U' L room_1.cells room_1.slots) := by
  refine MetFree.of_bodySF (plainFor_of_name pn_0) hisR ?_
  intro p e s m args below meth c s₁ Bd hml0 hP hK
  obtain ⟨rfl, hZ, hh⟩ := hP
  have hx := Bd.exec
  have hby := Bd.bytes
  have hml : c.maxLocals = 7 := hml0
  have hown : s.vm.findClass "com/example/vo_query_server/voqueryserver/PhaseIsActivePinLaw" = some m.cls := findClass_of_methodNamed Bd.named
  have hnm := (name_of_methodNamed Bd.named Bd.method).1
  have X0 : Stand p l e room_1 s m #[(.int p1)] below meth c s₁ [] 0 0 := Stand.of_body Bd
  have e0 : s₁.heap = h0 := by rw [← hh, Bd.state]; rfl
  have N0 := Fr.nil n0
  have pre0 : ∀ t, Steps p.tables e below (s₁.setTop (mkF m 0 #[.val (.int p1), .unset, .unset, .unset, .unset, .unset, .unset] [])) t → Steps p.tables e below (s₁.setTop (entryFrame m #[(.int p1)] maxLocals)) t := fun t k => castTop (ef_0 m p1) k
  -- 3. LAWS
  obtain ⟨T2, h2, k2, X2, e2, E2, A2, O2, st2⟩ := newR X0 hx hZ hown (hw _ (List.mem_of_getElem? (i := 0) rfl)) (hw _ (List.mem_of_getElem? (i := 1) rfl)) e0 (g := (mkF m 2 #[.val (.int p1), .unset, .unset, .unset, .unset, .unset, .unset] [(.int (10 : Int32))])) rfl (hb hby at_2) rfl (by decide) (cap := 10) (by decide) (by decide) (by decide) (by decide)
  obtain ⟨b2, g2⟩ : ∃ z, z = h0.size := ⟨_, rfl⟩      -- the fresh array's address
  rw [← g2] at A2 st2
  have V0 : Arv Z h2 b2 k2 (.object "com/example/vo_query_server/voqueryserver/Phase") (10 : Int32) [.null, .null, .null, .null, .null, .null, .null, .null, .null, .null] .null := (Arv.new A2 (by decide)).pad (pad_rep [] .null 10)
  have g_b2 : n0 ≤ b2 := Nat.le_trans Z0 (Nat.le_of_eq g2.symm)
  have sz_b2 : h0.size ≤ b2 := (Nat.le_trans (Keep.refl h0 []).1 (Nat.le_of_eq g2.symm))
  have K2 : Keep h0 h2 [] := (Keep.refl h0 []).ext E2
  obtain ⟨T4, X4, e4, st4⟩ := getS2 X2 hx hZ hown (host := "") (Or.inl (hw _ (List.mem_of_getElem? (i := 2) rfl))) Via.refl e2 (S_PENDING.ext E2) (g := (mkF m 7 #[.val (.int p1), .unset, .unset, .unset, .unset, .unset, .unset] [(.int (0 : Int32)), (.ref b2), (.ref b2)])) rfl (hb hby at_7)
  -- Sto10: the object may lie in that array: Sto.of Ar.. (an 'Ovr', by the sheet's words) (an 'Ins' of its class), Shelf42/RW6; carried by Sto.ext E.. | Sto.wr W..
  obtain ⟨c5, Ar5, qa5, qs5, qn5, qh5, qg5⟩ := V0
  have hin10 := inb_of (j := (0 : Int32)) qs5 ⟨by decide, by decide⟩
  have Sto10 := Sto.of Ar5 (by rw [qa5]; exact O2) (Ins.self (E_PENDING.ext E2))
  obtain ⟨T5, h5, X5, e5, W5, st5⟩ := stR X4 hx hZ e4 Ar5 (j := (0 : Int32)) hin10 rfl Sto10 (g := (mkF m 10 #[.val (.int p1), .unset, .unset, .unset, .unset, .unset, .unset] [(.ref w_PENDING), (.int (0 : Int32)), (.ref b2), (.ref b2)])) rfl rfl (hb hby at_10)
  have V5 : Arv Z h5 b2 k2 (.object "com/example/vo_query_server/voqueryserver/Phase") (10 : Int32) [.ref w_PENDING, .null, .null, .null, .null, .null, .null, .null, .null, .null] .null := Arv.set Ar5 qa5 qs5 qn5 qh5 qg5 rfl W5 0 (by decide) (Nat.le_of_ble_eq_true rfl)
  have N5 := Fr.snoc X5 N0 g_b2
  -- ArF.same W5 : the array with (.ref w_PENDING) at the place (0 : Int32)
  have K5 : Keep h0 h5 [] := K2.wr W5 (Or.inr sz_b2)
  obtain ⟨T7, X7, e7, st7⟩ := getS2 X5 hx hZ hown (host := "") (Or.inl (hw _ (List.mem_of_getElem? (i := 6) rfl))) Via.refl e5 ((S_QUEUED.ext E2).wr W5) (g := (mkF m 13 #[.val (.int p1), .unset, .unset, .unset, .unset, .unset, .unset] [(.int (1 : Int32)), (.ref b2), (.ref b2)])) rfl (hb hby at_13)
  -- Sto16: the object may lie in that array: Sto.of Ar.. (an 'Ovr', by the sheet's words) (an 'Ins' of its class), Shelf42/RW6; carried by Sto.ext E.. | Sto.wr W..
  obtain ⟨c8, Ar8, qa8, qs8, qn8, qh8, qg8⟩ := V5
  have hin16 := inb_of (j := (1 : Int32)) qs8 ⟨by decide, by decide⟩
  have Sto16 := Sto.of Ar8 (by rw [qa8]; exact O2) (Ins.self ((E_QUEUED.ext E2).wr W5))
  obtain ⟨T8, h8, X8, e8, W8, st8⟩ := stR X7 hx hZ e7 Ar8 (j := (1 : Int32)) hin16 rfl Sto16 (g := (mkF m 16 #[.val (.int p1), .unset, .unset, .unset, .unset, .unset, .unset] [(.ref w_QUEUED), (.int (1 : Int32)), (.ref b2), (.ref b2)])) rfl rfl (hb hby at_16)
  have V8 : Arv Z h8 b2 k2 (.object "com/example/vo_query_server/voqueryserver/Phase") (10 : Int32) [.ref w_PENDING, .ref w_QUEUED, .null, .null, .null, .null, .null, .null, .null, .null] .null := Arv.set Ar8 qa8 qs8 qn8 qh8 qg8 rfl W8 1 (by decide) (Nat.le_of_ble_eq_true rfl)
  have N8 := Fr.snoc X8 N5 g_b2
  -- ArF.same W8 : the array with (.ref w_QUEUED) at the place (1 : Int32)
  have K8 : Keep h0 h8 [] := K5.wr W8 (Or.inr sz_b2)
  obtain ⟨T10, X10, e10, st10⟩ := getS2 X8 hx hZ hown (host := "") (Or.inl (hw _ (List.mem_of_getElem? (i := 8) rfl))) Via.refl e8 (((S_EXECUTING.ext E2).wr W5).wr W8) (g := (mkF m 19 #[.val (.int p1), .unset, .unset, .unset, .unset, .unset, .unset] [(.int (2 : Int32)), (.ref b2), (.ref b2)])) rfl (hb hby at_19)
  -- Sto22: the object may lie in that array: Sto.of Ar.. (an 'Ovr', by the sheet's words) (an 'Ins' of its class), Shelf42/RW6; carried by Sto.ext E.. | Sto.wr W..
  obtain ⟨c11, Ar11, qa11, qs11, qn11, qh11, qg11⟩ := V8
  have hin22 := inb_of (j := (2 : Int32)) qs11 ⟨by decide, by decide⟩
  have Sto22 := Sto.of Ar11 (by rw [qa11]; exact O2) (Ins.self (((E_EXECUTING.ext E2).wr W5).wr W8))
  obtain ⟨T11, h11, X11, e11, W11, st11⟩ := stR X10 hx hZ e10 Ar11 (j := (2 : Int32)) hin22 rfl Sto22 (g := (mkF m 22 #[.val (.int p1), .unset, .unset, .unset, .unset, .unset, .unset] [(.ref w_EXECUTING), (.int (2 : Int32)), (.ref b2), (.ref b2)])) rfl rfl (hb hby at_22)
  have V11 : Arv Z h11 b2 k2 (.object "com/example/vo_query_server/voqueryserver/Phase") (10 : Int32) [.ref w_PENDING, .ref w_QUEUED, .ref w_EXECUTING, .null, .null, .null, .null, .null, .null, .null] .null := Arv.set Ar11 qa11 qs11 qn11 qh11 qg11 rfl W11 2 (by decide) (Nat.le_of_ble_eq_true rfl)
  have N11 := Fr.snoc X11 N8 g_b2
  -- ArF.same W11 : the array with (.ref w_EXECUTING) at the place (2 : Int32)
  have K11 : Keep h0 h11 [] := K8.wr W11 (Or.inr sz_b2)
  obtain ⟨T13, X13, e13, st13⟩ := getS2 X11 hx hZ hown (host := "") (Or.inl (hw _ (List.mem_of_getElem? (i := 10) rfl))) Via.refl e11 ((((S_COMPLETED.ext E2).wr W5).wr W8).wr W11) (g := (mkF m 25 #[.val (.int p1), .unset, .unset, .unset, .unset, .unset, .unset] [(.int (3 : Int32)), (.ref b2), (.ref b2)])) rfl (hb hby at_25)
  -- Sto28: the object may lie in that array: Sto.of Ar.. (an 'Ovr', by the sheet's words) (an 'Ins' of its class), Shelf42/RW6; carried by Sto.ext E.. | Sto.wr W..
  obtain ⟨c14, Ar14, qa14, qs14, qn14, qh14, qg14⟩ := V11
  have hin28 := inb_of (j := (3 : Int32)) qs14 ⟨by decide, by decide⟩
  have Sto28 := Sto.of Ar14 (by rw [qa14]; exact O2) (Ins.self ((((E_COMPLETED.ext E2).wr W5).wr W8).wr W11))
  obtain ⟨T14, h14, X14, e14, W14, st14⟩ := stR X13 hx hZ e13 Ar14 (j := (3 : Int32)) hin28 rfl Sto28 (g := (mkF m 28 #[.val (.int p1), .unset, .unset, .unset, .unset, .unset, .unset] [(.ref w_COMPLETED), (.int (3 : Int32)), (.ref b2), (.ref b2)])) rfl rfl (hb hby at_28)
  have V14 : Arv Z h14 b2 k2 (.object "com/example/vo_query_server/voqueryserver/Phase") (10 : Int32) [.ref w_PENDING, .ref w_QUEUED, .ref w_EXECUTING, .ref w_COMPLETED, .null, .null, .null, .null, .null, .null] .null := Arv.set Ar14 qa14 qs14 qn14 qh14 qg14 rfl W14 3 (by decide) (Nat.le_of_ble_eq_true rfl)
  have N14 := Fr.snoc X14 N11 g_b2
  -- ArF.same W14 : the array with (.ref w_COMPLETED) at the place (3 : Int32)
  have K14 : Keep h0 h14 [] := K11.wr W14 (Or.inr sz_b2)
  obtain ⟨T16, X16, e16, st16⟩ := getS2 X14 hx hZ hown (host := "") (Or.inl (hw _ (List.mem_of_getElem? (i := 12) rfl))) Via.refl e14 (((((S_ERROR.ext E2).wr W5).wr W8).wr W11).wr W14) (g := (mkF m 31 #[.val (.int p1), .unset, .unset, .unset, .unset, .unset, .unset] [(.int (4 : Int32)), (.ref b2), (.ref b2)])) rfl (hb hby at_31)
  -- Sto34: the object may lie in that array: Sto.of Ar.. (an 'Ovr', by the sheet's words) (an 'Ins' of its class), Shelf42/RW6; carried by Sto.ext E.. | Sto.wr W..
  obtain ⟨c17, Ar17, qa17, qs17, qn17, qh17, qg17⟩ := V14
  have hin34 := inb_of (j := (4 : Int32)) qs17 ⟨by decide, by decide⟩
  have Sto34 := Sto.of Ar17 (by rw [qa17]; exact O2) (Ins.self (((((E_ERROR.ext E2).wr W5).wr W8).wr W11).wr W14))
  obtain ⟨T17, h17, X17, e17, W17, st17⟩ := stR X16 hx hZ e16 Ar17 (j := (4 : Int32)) hin34 rfl Sto34 (g := (mkF m 34 #[.val (.int p1), .unset, .unset, .unset, .unset, .unset, .unset] [(.ref w_ERROR), (.int (4 : Int32)), (.ref b2), (.ref b2)])) rfl rfl (hb hby at_34)
  have V17 : Arv Z h17 b2 k2 (.object "com/example/vo_query_server/voqueryserver/Phase") (10 : Int32) [.ref w_PENDING, .ref w_QUEUED, .ref w_EXECUTING, .ref w_COMPLETED, .ref w_ERROR, .null, .null, .null, .null, .null] .null := Arv.set Ar17 qa17 qs17 qn17 qh17 qg17 rfl W17 4 (by decide) (Nat.le_of_ble_eq_true rfl)
  have N17 := Fr.snoc X17 N14 g_b2
  -- ArF.same W17 : the array with (.ref w_ERROR) at the place (4 : Int32)
  have K17 : Keep h0 h17 [] := K14.wr W17 (Or.inr sz_b2)
  obtain ⟨T19, X19, e19, st19⟩ := getS2 X17 hx hZ hown (host := "") (Or.inl (hw _ (List.mem_of_getElem? (i := 14) rfl))) Via.refl e17 ((((((S_ABORTED.ext E2).wr W5).wr W8).wr W11).wr W14).wr W17) (g := (mkF m 37 #[.val (.int p1), .unset, .unset, .unset, .unset, .unset, .unset] [(.int (5 : Int32)), (.ref b2), (.ref b2)])) rfl (hb hby at_37)
  -- Sto40: the object may lie in that array: Sto.of Ar.. (an 'Ovr', by the sheet's words) (an 'Ins' of its class), Shelf42/RW6; carried by Sto.ext E.. | Sto.wr W..
  obtain ⟨c20, Ar20, qa20, qs20, qn20, qh20, qg20⟩ := V17
  have hin40 := inb_of (j := (5 : Int32)) qs20 ⟨by decide, by decide⟩
  have Sto40 := Sto.of Ar20 (by rw [qa20]; exact O2) (Ins.self ((((((E_ABORTED.ext E2).wr W5).wr W8).wr W11).wr W14).wr W17))
  obtain ⟨T20, h20, X20, e20, W20, st20⟩ := stR X19 hx hZ e19 Ar20 (j := (5 : Int32)) hin40 rfl Sto40 (g := (mkF m 40 #[.val (.int p1), .unset, .unset, .unset, .unset, .unset, .unset] [(.ref w_ABORTED), (.int (5 : Int32)), (.ref b2), (.ref b2)])) rfl rfl (hb hby at_40)
  have V20 : Arv Z h20 b2 k2 (.object "com/example/vo_query_server/voqueryserver/Phase") (10 : Int32) [.ref w_PENDING, .ref w_QUEUED, .ref w_EXECUTING, .ref w_COMPLETED, .ref w_ERROR, .ref w_ABORTED, .null, .null, .null, .null] .null := Arv.set Ar20 qa20 qs20 qn20 qh20 qg20 rfl W20 5 (by decide) (Nat.le_of_ble_eq_true rfl)
  have N20 := Fr.snoc X20 N17 g_b2
  -- ArF.same W20 : the array with (.ref w_ABORTED) at the place (5 : Int32)
  have K20 : Keep h0 h20 [] := K17.wr W20 (Or.inr sz_b2)
  obtain ⟨T22, X22, e22, st22⟩ := getS2 X20 hx hZ hown (host := "") (Or.inl (hw _ (List.mem_of_getElem? (i := 16) rfl))) Via.refl e20 (((((((S_UNKNOWN.ext E2).wr W5).wr W8).wr W11).wr W14).wr W17).wr W20) (g := (mkF m 44 #[.val (.int p1), .unset, .unset, .unset, .unset, .unset, .unset] [(.int (6 : Int32)), (.ref b2), (.ref b2)])) rfl (hb hby at_44)
  -- Sto47: the object may lie in that array: Sto.of Ar.. (an 'Ovr', by the sheet's words) (an 'Ins' of its class), Shelf42/RW6; carried by Sto.ext E.. | Sto.wr W..
  obtain ⟨c23, Ar23, qa23, qs23, qn23, qh23, qg23⟩ := V20
  have hin47 := inb_of (j := (6 : Int32)) qs23 ⟨by decide, by decide⟩
  have Sto47 := Sto.of Ar23 (by rw [qa23]; exact O2) (Ins.self (((((((E_UNKNOWN.ext E2).wr W5).wr W8).wr W11).wr W14).wr W17).wr W20))
  obtain ⟨T23, h23, X23, e23, W23, st23⟩ := stR X22 hx hZ e22 Ar23 (j := (6 : Int32)) hin47 rfl Sto47 (g := (mkF m 47 #[.val (.int p1), .unset, .unset, .unset, .unset, .unset, .unset] [(.ref w_UNKNOWN), (.int (6 : Int32)), (.ref b2), (.ref b2)])) rfl rfl (hb hby at_47)
  have V23 : Arv Z h23 b2 k2 (.object "com/example/vo_query_server/voqueryserver/Phase") (10 : Int32) [.ref w_PENDING, .ref w_QUEUED, .ref w_EXECUTING, .ref w_COMPLETED, .ref w_ERROR, .ref w_ABORTED, .ref w_UNKNOWN, .null, .null, .null] .null := Arv.set Ar23 qa23 qs23 qn23 qh23 qg23 rfl W23 6 (by decide) (Nat.le_of_ble_eq_true rfl)
  have N23 := Fr.snoc X23 N20 g_b2
  -- ArF.same W23 : the array with (.ref w_UNKNOWN) at the place (6 : Int32)
  have K23 : Keep h0 h23 [] := K20.wr W23 (Or.inr sz_b2)
  obtain ⟨T25, X25, e25, st25⟩ := getS2 X23 hx hZ hown (host := "") (Or.inl (hw _ (List.mem_of_getElem? (i := 18) rfl))) Via.refl e23 ((((((((S_HELD.ext E2).wr W5).wr W8).wr W11).wr W14).wr W17).wr W20).wr W23) (g := (mkF m 51 #[.val (.int p1), .unset, .unset, .unset, .unset, .unset, .unset] [(.int (7 : Int32)), (.ref b2), (.ref b2)])) rfl (hb hby at_51)
  -- Sto54: the object may lie in that array: Sto.of Ar.. (an 'Ovr', by the sheet's words) (an 'Ins' of its class), Shelf42/RW6; carried by Sto.ext E.. | Sto.wr W..
  obtain ⟨c26, Ar26, qa26, qs26, qn26, qh26, qg26⟩ := V23
  have hin54 := inb_of (j := (7 : Int32)) qs26 ⟨by decide, by decide⟩
  have Sto54 := Sto.of Ar26 (by rw [qa26]; exact O2) (Ins.self ((((((((E_HELD.ext E2).wr W5).wr W8).wr W11).wr W14).wr W17).wr W20).wr W23))
  obtain ⟨T26, h26, X26, e26, W26, st26⟩ := stR X25 hx hZ e25 Ar26 (j := (7 : Int32)) hin54 rfl Sto54 (g := (mkF m 54 #[.val (.int p1), .unset, .unset, .unset, .unset, .unset, .unset] [(.ref w_HELD), (.int (7 : Int32)), (.ref b2), (.ref b2)])) rfl rfl (hb hby at_54)
  have V26 : Arv Z h26 b2 k2 (.object "com/example/vo_query_server/voqueryserver/Phase") (10 : Int32) [.ref w_PENDING, .ref w_QUEUED, .ref w_EXECUTING, .ref w_COMPLETED, .ref w_ERROR, .ref w_ABORTED, .ref w_UNKNOWN, .ref w_HELD, .null, .null] .null := Arv.set Ar26 qa26 qs26 qn26 qh26 qg26 rfl W26 7 (by decide) (Nat.le_of_ble_eq_true rfl)
  have N26 := Fr.snoc X26 N23 g_b2
  -- ArF.same W26 : the array with (.ref w_HELD) at the place (7 : Int32)
  have K26 : Keep h0 h26 [] := K23.wr W26 (Or.inr sz_b2)
  obtain ⟨T28, X28, e28, st28⟩ := getS2 X26 hx hZ hown (host := "") (Or.inl (hw _ (List.mem_of_getElem? (i := 20) rfl))) Via.refl e26 (((((((((S_SUSPENDED.ext E2).wr W5).wr W8).wr W11).wr W14).wr W17).wr W20).wr W23).wr W26) (g := (mkF m 58 #[.val (.int p1), .unset, .unset, .unset, .unset, .unset, .unset] [(.int (8 : Int32)), (.ref b2), (.ref b2)])) rfl (hb hby at_58)
  -- Sto61: the object may lie in that array: Sto.of Ar.. (an 'Ovr', by the sheet's words) (an 'Ins' of its class), Shelf42/RW6; carried by Sto.ext E.. | Sto.wr W..
  obtain ⟨c29, Ar29, qa29, qs29, qn29, qh29, qg29⟩ := V26
  have hin61 := inb_of (j := (8 : Int32)) qs29 ⟨by decide, by decide⟩
  have Sto61 := Sto.of Ar29 (by rw [qa29]; exact O2) (Ins.self (((((((((E_SUSPENDED.ext E2).wr W5).wr W8).wr W11).wr W14).wr W17).wr W20).wr W23).wr W26))
  obtain ⟨T29, h29, X29, e29, W29, st29⟩ := stR X28 hx hZ e28 Ar29 (j := (8 : Int32)) hin61 rfl Sto61 (g := (mkF m 61 #[.val (.int p1), .unset, .unset, .unset, .unset, .unset, .unset] [(.ref w_SUSPENDED), (.int (8 : Int32)), (.ref b2), (.ref b2)])) rfl rfl (hb hby at_61)
  have V29 : Arv Z h29 b2 k2 (.object "com/example/vo_query_server/voqueryserver/Phase") (10 : Int32) [.ref w_PENDING, .ref w_QUEUED, .ref w_EXECUTING, .ref w_COMPLETED, .ref w_ERROR, .ref w_ABORTED, .ref w_UNKNOWN, .ref w_HELD, .ref w_SUSPENDED, .null] .null := Arv.set Ar29 qa29 qs29 qn29 qh29 qg29 rfl W29 8 (by decide) (Nat.le_of_ble_eq_true rfl)
  have N29 := Fr.snoc X29 N26 g_b2
  -- ArF.same W29 : the array with (.ref w_SUSPENDED) at the place (8 : Int32)
  have K29 : Keep h0 h29 [] := K26.wr W29 (Or.inr sz_b2)
  obtain ⟨T31, X31, e31, st31⟩ := getS2 X29 hx hZ hown (host := "") (Or.inl (hw _ (List.mem_of_getElem? (i := 22) rfl))) Via.refl e29 ((((((((((S_ARCHIVED.ext E2).wr W5).wr W8).wr W11).wr W14).wr W17).wr W20).wr W23).wr W26).wr W29) (g := (mkF m 65 #[.val (.int p1), .unset, .unset, .unset, .unset, .unset, .unset] [(.int (9 : Int32)), (.ref b2), (.ref b2)])) rfl (hb hby at_65)
  -- Sto68: the object may lie in that array: Sto.of Ar.. (an 'Ovr', by the sheet's words) (an 'Ins' of its class), Shelf42/RW6; carried by Sto.ext E.. | Sto.wr W..
  obtain ⟨c32, Ar32, qa32, qs32, qn32, qh32, qg32⟩ := V29
  have hin68 := inb_of (j := (9 : Int32)) qs32 ⟨by decide, by decide⟩
  have Sto68 := Sto.of Ar32 (by rw [qa32]; exact O2) (Ins.self ((((((((((E_ARCHIVED.ext E2).wr W5).wr W8).wr W11).wr W14).wr W17).wr W20).wr W23).wr W26).wr W29))
  obtain ⟨T32, h32, X32, e32, W32, st32⟩ := stR X31 hx hZ e31 Ar32 (j := (9 : Int32)) hin68 rfl Sto68 (g := (mkF m 68 #[.val (.int p1), .unset, .unset, .unset, .unset, .unset, .unset] [(.ref w_ARCHIVED), (.int (9 : Int32)), (.ref b2), (.ref b2)])) rfl rfl (hb hby at_68)
  have V32 : Arv Z h32 b2 k2 (.object "com/example/vo_query_server/voqueryserver/Phase") (10 : Int32) [.ref w_PENDING, .ref w_QUEUED, .ref w_EXECUTING, .ref w_COMPLETED, .ref w_ERROR, .ref w_ABORTED, .ref w_UNKNOWN, .ref w_HELD, .ref w_SUSPENDED, .ref w_ARCHIVED] .null := Arv.set Ar32 qa32 qs32 qn32 qh32 qg32 rfl W32 9 (by decide) (Nat.le_of_ble_eq_true rfl)
  have N32 := Fr.snoc X32 N29 g_b2
  -- ArF.same W32 : the array with (.ref w_ARCHIVED) at the place (9 : Int32)
  have K32 : Keep h0 h32 [] := K29.wr W32 (Or.inr sz_b2)
  obtain ⟨cF, ArF, qaF, qsF, qnF, qhF, qgF⟩ := V32
  have hin91 := inb_of (j := ((p1 &&& (2147483647 : Int32)) % (10 : Int32))) qsF hk10
  have hat91 : cF.slots[(((p1 &&& (2147483647 : Int32)) % (10 : Int32))).toNatClampNeg]? = some (.ref A) := (qhF _ (Nat.lt_of_not_le fun q => hin91 (Or.inr q))).trans (congrArg some hA)
  have E_A1 := (((((((((((E_A.ext E2).wr W5).wr W8).wr W11).wr W14).wr W17).wr W20).wr W23).wr W26).wr W29).wr W32)
  have Z1 : n0 ≤ h32.size := Nat.le_trans Z0 K32.1
  have S1_PENDING := (((((((((((S_PENDING.ext E2).wr W5).wr W8).wr W11).wr W14).wr W17).wr W20).wr W23).wr W26).wr W29).wr W32)
  have S1_QUEUED := (((((((((((S_QUEUED.ext E2).wr W5).wr W8).wr W11).wr W14).wr W17).wr W20).wr W23).wr W26).wr W29).wr W32)
  have S1_EXECUTING := (((((((((((S_EXECUTING.ext E2).wr W5).wr W8).wr W11).wr W14).wr W17).wr W20).wr W23).wr W26).wr W29).wr W32)
  -- pc 96: com/example/vo_query_server/voqueryserver/Phase.isActive by the contract of the body that the receiver's class selects, rm1
  obtain ⟨cq34, kq34, q34a, q34b, q34c⟩ := isOf hZ e32 E_A1
  obtain ⟨_, _, ⟨T34, L34, k34, n34⟩, -, X34, ⟨Lc34, hQ34, l34, y34, z34⟩, st34⟩ := X32.virtualBack hx (y := (⟨"com/example/vo_query_server/voqueryserver/Phase", "isActive", "()Z"⟩ : MethodName)) (z := (⟨"com/example/vo_query_server/voqueryserver/Phase", "isActive", "()Z"⟩ : MethodName)) hown (mvT hZ (hw _ (List.mem_of_getElem? (i := 25) rfl))) (mvT hZ (hw _ (List.mem_of_getElem? (i := 26) rfl))) (notFace_of_selects (args := #[]) (mvT hZ (hw _ (List.mem_of_getElem? (i := 28) rfl)))) (mvT hZ (hw _ (List.mem_of_getElem? (i := 28) rfl))) (mvT hZ (hw _ (List.mem_of_getElem? (i := 27) rfl))) (by decide) (backOf (W := 0) (rm1 l Z a0 hw [] A w_PENDING w_QUEUED w_EXECUTING h32 n0 Z1 S1_PENDING S1_QUEUED S1_EXECUTING) hZ (hw _ (List.mem_of_getElem? (i := 29) rfl)) (hw _ (List.mem_of_getElem? (i := 3) rfl)) (by decide) (by decide)) q34a q34c (g := (mkF m 96 #[.val (.int p1), .val (.ref b2), .val (.int ((p1 &&& (2147483647 : Int32)) % (10 : Int32))), .val (.int (1 : Int32)), .val (.ref A), .unset, .unset] [(.ref A)])) rfl (by rw [hml]; rfl) (Steps.refl _) (argsL := []) (rest := []) (lenOf pd_0_0 rfl) rfl (by show 2 * 0 + _ ≤ _; exact Nat.le_of_eq rfl) (hb hby at_96) (fun _ _ => ⟨rfl, e32, (by decide : 1 + 0 ≤ _), (by decide : 10 + 0 ≤ _)⟩)
  dsimp only [Pt.U, Pt.locs, Pt.cells, Pt.slots] at X34 l34 y34 z34 st34 hQ34
  subst l34 y34 z34
  obtain ⟨rv34, N34q, q34⟩ := hQ34
  rw [hu] at rv34
  subst rv34
  have N34 := Fr.app N32 N34q
  -- pc 103: com/example/vo_query_server/voqueryserver/Phase.isRunning by the contract of the body that the receiver's class selects, rm2
  obtain ⟨cq35, kq35, q35a, q35b, q35c⟩ := isOf hZ q34 E_A1
  obtain ⟨_, _, ⟨T35, L35, k35, n35⟩, -, X35, ⟨Lc35, hQ35, l35, y35, z35⟩, st35⟩ := X34.virtualBack hx (y := (⟨"com/example/vo_query_server/voqueryserver/Phase", "isRunning", "()Z"⟩ : MethodName)) (z := (⟨"com/example/vo_query_server/voqueryserver/Phase", "isRunning", "()Z"⟩ : MethodName)) hown (mvT hZ (hw _ (List.mem_of_getElem? (i := 31) rfl))) (mvT hZ (hw _ (List.mem_of_getElem? (i := 32) rfl))) (notFace_of_selects (args := #[]) (mvT hZ (hw _ (List.mem_of_getElem? (i := 34) rfl)))) (mvT hZ (hw _ (List.mem_of_getElem? (i := 34) rfl))) (mvT hZ (hw _ (List.mem_of_getElem? (i := 33) rfl))) (by decide) (backOf (W := 0) (rm2 l Z a0 hw [] A w_QUEUED w_EXECUTING h32 n0 Z1 S1_QUEUED S1_EXECUTING) hZ (hw _ (List.mem_of_getElem? (i := 35) rfl)) (hw _ (List.mem_of_getElem? (i := 3) rfl)) (by decide) (by decide)) q35a q35c (g := (mkF m 103 #[.val (.int p1), .val (.ref b2), .val (.int ((p1 &&& (2147483647 : Int32)) % (10 : Int32))), .val (.int (1 : Int32)), .val (.ref A), .val (.int u), .unset] [(.ref A)])) rfl (by rw [hml]; rfl) (Steps.refl _) (argsL := []) (rest := []) (lenOf pd_0_0 rfl) rfl (by show 2 * 0 + _ ≤ _; exact Nat.le_of_eq rfl) (hb hby at_103) (fun _ _ => ⟨rfl, q34, (by decide : 1 + 0 ≤ _), (by decide : 10 + 0 ≤ _)⟩)
  dsimp only [Pt.U, Pt.locs, Pt.cells, Pt.slots] at X35 l35 y35 z35 st35 hQ35
  subst l35 y35 z35
  obtain ⟨rv35, N35q, q35⟩ := hQ35
  rw [hr0] at rv35
  subst rv35
  have N35 := Fr.app N34 N35q
  obtain ⟨fs, hr, hrun, hended, hW, hsame⟩ := X35.leave (v := some (.int (1 : Int32))) (fun h => by rw [Bd.returns] at h; cases h)
  refine ⟨_, _, pre0 _ ?_, hrun, hended, _, _, rfl, ?_, ⟨_, rfl⟩, hW, hsame.mono (by decide) (by decide)⟩
  -- 4. STEPS
  · show Steps p.tables e below (s₁.setTop (mkF m 0 #[.val (.int p1), .unset, .unset, .unset, .unset, .unset, .unset] [])) _
    refine XS.bipush X0.here hx rfl (hb hby at_0) ?_
    show Steps p.tables e below (s₁.setTop (mkF m 2 #[.val (.int p1), .unset, .unset, .unset, .unset, .unset, .unset] [(.int (10 : Int32))])) _
    refine st2 _ ?_
    show Steps p.tables e below (T2.setTop (mkF m 5 #[.val (.int p1), .unset, .unset, .unset, .unset, .unset, .unset] [(.ref b2)])) _
    refine XS.dup X2.here hx rfl (hb hby at_5) rfl rfl ?_
    show Steps p.tables e below (T2.setTop (mkF m 6 #[.val (.int p1), .unset, .unset, .unset, .unset, .unset, .unset] [(.ref b2), (.ref b2)])) _
    refine XS.iconst X2.here hx rfl (hb hby at_6) ?_
    show Steps p.tables e below (T2.setTop (mkF m 7 #[.val (.int p1), .unset, .unset, .unset, .unset, .unset, .unset] [(.int (0 : Int32)), (.ref b2), (.ref b2)])) _
    refine st4 _ ?_
    show Steps p.tables e below (T4.setTop (mkF m 10 #[.val (.int p1), .unset, .unset, .unset, .unset, .unset, .unset] [(.ref w_PENDING), (.int (0 : Int32)), (.ref b2), (.ref b2)])) _
    refine st5 _ ?_
    show Steps p.tables e below (T5.setTop (mkF m 11 #[.val (.int p1), .unset, .unset, .unset, .unset, .unset, .unset] [(.ref b2)])) _
    refine XS.dup X5.here hx rfl (hb hby at_11) rfl rfl ?_
    show Steps p.tables e below (T5.setTop (mkF m 12 #[.val (.int p1), .unset, .unset, .unset, .unset, .unset, .unset] [(.ref b2), (.ref b2)])) _
    refine XS.iconst X5.here hx rfl (hb hby at_12) ?_
    show Steps p.tables e below (T5.setTop (mkF m 13 #[.val (.int p1), .unset, .unset, .unset, .unset, .unset, .unset] [(.int (1 : Int32)), (.ref b2), (.ref b2)])) _
    refine st7 _ ?_
    show Steps p.tables e below (T7.setTop (mkF m 16 #[.val (.int p1), .unset, .unset, .unset, .unset, .unset, .unset] [(.ref w_QUEUED), (.int (1 : Int32)), (.ref b2), (.ref b2)])) _
    refine st8 _ ?_
    show Steps p.tables e below (T8.setTop (mkF m 17 #[.val (.int p1), .unset, .unset, .unset, .unset, .unset, .unset] [(.ref b2)])) _
    refine XS.dup X8.here hx rfl (hb hby at_17) rfl rfl ?_
    show Steps p.tables e below (T8.setTop (mkF m 18 #[.val (.int p1), .unset, .unset, .unset, .unset, .unset, .unset] [(.ref b2), (.ref b2)])) _
    refine XS.iconst X8.here hx rfl (hb hby at_18) ?_
    show Steps p.tables e below (T8.setTop (mkF m 19 #[.val (.int p1), .unset, .unset, .unset, .unset, .unset, .unset] [(.int (2 : Int32)), (.ref b2), (.ref b2)])) _
    refine st10 _ ?_
    show Steps p.tables e below (T10.setTop (mkF m 22 #[.val (.int p1), .unset, .unset, .unset, .unset, .unset, .unset] [(.ref w_EXECUTING), (.int (2 : Int32)), (.ref b2), (.ref b2)])) _
    refine st11 _ ?_
    show Steps p.tables e below (T11.setTop (mkF m 23 #[.val (.int p1), .unset, .unset, .unset, .unset, .unset, .unset] [(.ref b2)])) _
    refine XS.dup X11.here hx rfl (hb hby at_23) rfl rfl ?_
    show Steps p.tables e below (T11.setTop (mkF m 24 #[.val (.int p1), .unset, .unset, .unset, .unset, .unset, .unset] [(.ref b2), (.ref b2)])) _
    refine XS.iconst X11.here hx rfl (hb hby at_24) ?_
    show Steps p.tables e below (T11.setTop (mkF m 25 #[.val (.int p1), .unset, .unset, .unset, .unset, .unset, .unset] [(.int (3 : Int32)), (.ref b2), (.ref b2)])) _
    refine st13 _ ?_
    show Steps p.tables e below (T13.setTop (mkF m 28 #[.val (.int p1), .unset, .unset, .unset, .unset, .unset, .unset] [(.ref w_COMPLETED), (.int (3 : Int32)), (.ref b2), (.ref b2)])) _
    refine st14 _ ?_
    show Steps p.tables e below (T14.setTop (mkF m 29 #[.val (.int p1), .unset, .unset, .unset, .unset, .unset, .unset] [(.ref b2)])) _
    refine XS.dup X14.here hx rfl (hb hby at_29) rfl rfl ?_
    show Steps p.tables e below (T14.setTop (mkF m 30 #[.val (.int p1), .unset, .unset, .unset, .unset, .unset, .unset] [(.ref b2), (.ref b2)])) _
    refine XS.iconst X14.here hx rfl (hb hby at_30) ?_
    show Steps p.tables e below (T14.setTop (mkF m 31 #[.val (.int p1), .unset, .unset, .unset, .unset, .unset, .unset] [(.int (4 : Int32)), (.ref b2), (.ref b2)])) _
    refine st16 _ ?_
    show Steps p.tables e below (T16.setTop (mkF m 34 #[.val (.int p1), .unset, .unset, .unset, .unset, .unset, .unset] [(.ref w_ERROR), (.int (4 : Int32)), (.ref b2), (.ref b2)])) _
    refine st17 _ ?_
    show Steps p.tables e below (T17.setTop (mkF m 35 #[.val (.int p1), .unset, .unset, .unset, .unset, .unset, .unset] [(.ref b2)])) _
    refine XS.dup X17.here hx rfl (hb hby at_35) rfl rfl ?_
    show Steps p.tables e below (T17.setTop (mkF m 36 #[.val (.int p1), .unset, .unset, .unset, .unset, .unset, .unset] [(.ref b2), (.ref b2)])) _
    refine XS.iconst X17.here hx rfl (hb hby at_36) ?_
    show Steps p.tables e below (T17.setTop (mkF m 37 #[.val (.int p1), .unset, .unset, .unset, .unset, .unset, .unset] [(.int (5 : Int32)), (.ref b2), (.ref b2)])) _
    refine st19 _ ?_
    show Steps p.tables e below (T19.setTop (mkF m 40 #[.val (.int p1), .unset, .unset, .unset, .unset, .unset, .unset] [(.ref w_ABORTED), (.int (5 : Int32)), (.ref b2), (.ref b2)])) _
    refine st20 _ ?_
    show Steps p.tables e below (T20.setTop (mkF m 41 #[.val (.int p1), .unset, .unset, .unset, .unset, .unset, .unset] [(.ref b2)])) _
    refine XS.dup X20.here hx rfl (hb hby at_41) rfl rfl ?_
    show Steps p.tables e below (T20.setTop (mkF m 42 #[.val (.int p1), .unset, .unset, .unset, .unset, .unset, .unset] [(.ref b2), (.ref b2)])) _
    refine XS.bipush X20.here hx rfl (hb hby at_42) ?_
    show Steps p.tables e below (T20.setTop (mkF m 44 #[.val (.int p1), .unset, .unset, .unset, .unset, .unset, .unset] [(.int (6 : Int32)), (.ref b2), (.ref b2)])) _
    refine st22 _ ?_
    show Steps p.tables e below (T22.setTop (mkF m 47 #[.val (.int p1), .unset, .unset, .unset, .unset, .unset, .unset] [(.ref w_UNKNOWN), (.int (6 : Int32)), (.ref b2), (.ref b2)])) _
    refine st23 _ ?_
    show Steps p.tables e below (T23.setTop (mkF m 48 #[.val (.int p1), .unset, .unset, .unset, .unset, .unset, .unset] [(.ref b2)])) _
    refine XS.dup X23.here hx rfl (hb hby at_48) rfl rfl ?_
    show Steps p.tables e below (T23.setTop (mkF m 49 #[.val (.int p1), .unset, .unset, .unset, .unset, .unset, .unset] [(.ref b2), (.ref b2)])) _
    refine XS.bipush X23.here hx rfl (hb hby at_49) ?_
    show Steps p.tables e below (T23.setTop (mkF m 51 #[.val (.int p1), .unset, .unset, .unset, .unset, .unset, .unset] [(.int (7 : Int32)), (.ref b2), (.ref b2)])) _
    refine st25 _ ?_
    show Steps p.tables e below (T25.setTop (mkF m 54 #[.val (.int p1), .unset, .unset, .unset, .unset, .unset, .unset] [(.ref w_HELD), (.int (7 : Int32)), (.ref b2), (.ref b2)])) _
    refine st26 _ ?_
    show Steps p.tables e below (T26.setTop (mkF m 55 #[.val (.int p1), .unset, .unset, .unset, .unset, .unset, .unset] [(.ref b2)])) _
    refine XS.dup X26.here hx rfl (hb hby at_55) rfl rfl ?_
    show Steps p.tables e below (T26.setTop (mkF m 56 #[.val (.int p1), .unset, .unset, .unset, .unset, .unset, .unset] [(.ref b2), (.ref b2)])) _
    refine XS.bipush X26.here hx rfl (hb hby at_56) ?_
    show Steps p.tables e below (T26.setTop (mkF m 58 #[.val (.int p1), .unset, .unset, .unset, .unset, .unset, .unset] [(.int (8 : Int32)), (.ref b2), (.ref b2)])) _
    refine st28 _ ?_
    show Steps p.tables e below (T28.setTop (mkF m 61 #[.val (.int p1), .unset, .unset, .unset, .unset, .unset, .unset] [(.ref w_SUSPENDED), (.int (8 : Int32)), (.ref b2), (.ref b2)])) _
    refine st29 _ ?_
    show Steps p.tables e below (T29.setTop (mkF m 62 #[.val (.int p1), .unset, .unset, .unset, .unset, .unset, .unset] [(.ref b2)])) _
    refine XS.dup X29.here hx rfl (hb hby at_62) rfl rfl ?_
    show Steps p.tables e below (T29.setTop (mkF m 63 #[.val (.int p1), .unset, .unset, .unset, .unset, .unset, .unset] [(.ref b2), (.ref b2)])) _
    refine XS.bipush X29.here hx rfl (hb hby at_63) ?_
    show Steps p.tables e below (T29.setTop (mkF m 65 #[.val (.int p1), .unset, .unset, .unset, .unset, .unset, .unset] [(.int (9 : Int32)), (.ref b2), (.ref b2)])) _
    refine st31 _ ?_
    show Steps p.tables e below (T31.setTop (mkF m 68 #[.val (.int p1), .unset, .unset, .unset, .unset, .unset, .unset] [(.ref w_ARCHIVED), (.int (9 : Int32)), (.ref b2), (.ref b2)])) _
    refine st32 _ ?_
    show Steps p.tables e below (T32.setTop (mkF m 69 #[.val (.int p1), .unset, .unset, .unset, .unset, .unset, .unset] [(.ref b2)])) _
    refine XS.astoreN X32.here hx rfl (hb hby at_69) rfl rfl (l' := #[.val (.int p1), .val (.ref b2), .unset, .unset, .unset, .unset, .unset]) rfl ?_
    show Steps p.tables e below (T32.setTop (mkF m 70 #[.val (.int p1), .val (.ref b2), .unset, .unset, .unset, .unset, .unset] [])) _
    refine XS.iloadN X32.here hx rfl (hb hby at_70) rfl ?_
    show Steps p.tables e below (T32.setTop (mkF m 71 #[.val (.int p1), .val (.ref b2), .unset, .unset, .unset, .unset, .unset] [(.int p1)])) _
    refine X32.ldcInt hx hown (mvT hZ (hw _ (List.mem_of_getElem? (i := 24) rfl))) (g := (mkF m 71 #[.val (.int p1), .val (.ref b2), .unset, .unset, .unset, .unset, .unset] [(.int p1)])) rfl (hb hby at_71) _ ?_
    show Steps p.tables e below (T32.setTop (mkF m 73 #[.val (.int p1), .val (.ref b2), .unset, .unset, .unset, .unset, .unset] [(.int (2147483647 : Int32)), (.int p1)])) _
    refine XS.iand X32.here hx rfl (hb hby at_73) rfl ?_
    show Steps p.tables e below (T32.setTop (mkF m 74 #[.val (.int p1), .val (.ref b2), .unset, .unset, .unset, .unset, .unset] [(.int (p1 &&& (2147483647 : Int32)))])) _
    refine XS.bipush X32.here hx rfl (hb hby at_74) ?_
    show Steps p.tables e below (T32.setTop (mkF m 76 #[.val (.int p1), .val (.ref b2), .unset, .unset, .unset, .unset, .unset] [(.int (10 : Int32)), (.int (p1 &&& (2147483647 : Int32)))])) _
    refine iremM X32 hx rfl (hb hby at_76) rfl (by decide) ?_
    show Steps p.tables e below (T32.setTop (mkF m 77 #[.val (.int p1), .val (.ref b2), .unset, .unset, .unset, .unset, .unset] [(.int ((p1 &&& (2147483647 : Int32)) % (10 : Int32)))])) _
    refine XS.istoreN X32.here hx rfl (hb hby at_77) rfl (l' := #[.val (.int p1), .val (.ref b2), .val (.int ((p1 &&& (2147483647 : Int32)) % (10 : Int32))), .unset, .unset, .unset, .unset]) rfl ?_
    show Steps p.tables e below (T32.setTop (mkF m 78 #[.val (.int p1), .val (.ref b2), .val (.int ((p1 &&& (2147483647 : Int32)) % (10 : Int32))), .unset, .unset, .unset, .unset] [])) _
    refine XS.iloadN X32.here hx rfl (hb hby at_78) rfl ?_
    show Steps p.tables e below (T32.setTop (mkF m 79 #[.val (.int p1), .val (.ref b2), .val (.int ((p1 &&& (2147483647 : Int32)) % (10 : Int32))), .unset, .unset, .unset, .unset] [(.int ((p1 &&& (2147483647 : Int32)) % (10 : Int32)))])) _
    refine XS.iconst X32.here hx rfl (hb hby at_79) ?_
    show Steps p.tables e below (T32.setTop (mkF m 80 #[.val (.int p1), .val (.ref b2), .val (.int ((p1 &&& (2147483647 : Int32)) % (10 : Int32))), .unset, .unset, .unset, .unset] [(.int (2 : Int32)), (.int ((p1 &&& (2147483647 : Int32)) % (10 : Int32)))])) _
    refine XS.icmpNo X32.here hx rfl (hb hby at_80) rfl (flt hc80).2.2.1 ?_
    show Steps p.tables e below (T32.setTop (mkF m 83 #[.val (.int p1), .val (.ref b2), .val (.int ((p1 &&& (2147483647 : Int32)) % (10 : Int32))), .unset, .unset, .unset, .unset] [])) _
    refine XS.iconst X32.here hx rfl (hb hby at_83) ?_
    show Steps p.tables e below (T32.setTop (mkF m 84 #[.val (.int p1), .val (.ref b2), .val (.int ((p1 &&& (2147483647 : Int32)) % (10 : Int32))), .unset, .unset, .unset, .unset] [(.int (1 : Int32))])) _
    refine XS.goto X32.here hx rfl (pc0 := 84) (pc' := 88) rfl (hb hby at_84) (by decide) (by decide) ?_
    show Steps p.tables e below (T32.setTop (mkF m 88 #[.val (.int p1), .val (.ref b2), .val (.int ((p1 &&& (2147483647 : Int32)) % (10 : Int32))), .unset, .unset, .unset, .unset] [(.int (1 : Int32))])) _
    refine XS.istoreN X32.here hx rfl (hb hby at_88) rfl (l' := #[.val (.int p1), .val (.ref b2), .val (.int ((p1 &&& (2147483647 : Int32)) % (10 : Int32))), .val (.int (1 : Int32)), .unset, .unset, .unset]) rfl ?_
    show Steps p.tables e below (T32.setTop (mkF m 89 #[.val (.int p1), .val (.ref b2), .val (.int ((p1 &&& (2147483647 : Int32)) % (10 : Int32))), .val (.int (1 : Int32)), .unset, .unset, .unset] [])) _
    refine XS.aloadN X32.here hx rfl (hb hby at_89) rfl rfl ?_
    show Steps p.tables e below (T32.setTop (mkF m 90 #[.val (.int p1), .val (.ref b2), .val (.int ((p1 &&& (2147483647 : Int32)) % (10 : Int32))), .val (.int (1 : Int32)), .unset, .unset, .unset] [(.ref b2)])) _
    refine XS.iloadN X32.here hx rfl (hb hby at_90) rfl ?_
    show Steps p.tables e below (T32.setTop (mkF m 91 #[.val (.int p1), .val (.ref b2), .val (.int ((p1 &&& (2147483647 : Int32)) % (10 : Int32))), .val (.int (1 : Int32)), .unset, .unset, .unset] [(.int ((p1 &&& (2147483647 : Int32)) % (10 : Int32))), (.ref b2)])) _
    refine X32.aaload hx (j := ((p1 &&& (2147483647 : Int32)) % (10 : Int32))) (v := (.ref A)) (by rw [e32]; exact ArF.1) (State.isArrayOf_alike hZ.alike ArF.2.1) rfl ArF.2.2 hin91 hat91 (g := (mkF m 91 #[.val (.int p1), .val (.ref b2), .val (.int ((p1 &&& (2147483647 : Int32)) % (10 : Int32))), .val (.int (1 : Int32)), .unset, .unset, .unset] [(.int ((p1 &&& (2147483647 : Int32)) % (10 : Int32))), (.ref b2)])) rfl rfl (hb hby at_91) _ ?_
    show Steps p.tables e below (T32.setTop (mkF m 92 #[.val (.int p1), .val (.ref b2), .val (.int ((p1 &&& (2147483647 : Int32)) % (10 : Int32))), .val (.int (1 : Int32)), .unset, .unset, .unset] [(.ref A)])) _
    refine XS.astore X32.here hx rfl (hb hby at_92) rfl rfl (l' := #[.val (.int p1), .val (.ref b2), .val (.int ((p1 &&& (2147483647 : Int32)) % (10 : Int32))), .val (.int (1 : Int32)), .val (.ref A), .unset, .unset]) rfl ?_
    show Steps p.tables e below (T32.setTop (mkF m 94 #[.val (.int p1), .val (.ref b2), .val (.int ((p1 &&& (2147483647 : Int32)) % (10 : Int32))), .val (.int (1 : Int32)), .val (.ref A), .unset, .unset] [])) _
    refine XS.aload X32.here hx rfl (hb hby at_94) rfl rfl ?_
    show Steps p.tables e below (T32.setTop (mkF m 96 #[.val (.int p1), .val (.ref b2), .val (.int ((p1 &&& (2147483647 : Int32)) % (10 : Int32))), .val (.int (1 : Int32)), .val (.ref A), .unset, .unset] [(.ref A)])) _
    refine st34.trans ?_
    show Steps p.tables e below (T34.setTop (mkF m 99 #[.val (.int p1), .val (.ref b2), .val (.int ((p1 &&& (2147483647 : Int32)) % (10 : Int32))), .val (.int (1 : Int32)), .val (.ref A), .unset, .unset] [(.int u)])) _
    refine XS.istore X34.here hx rfl (hb hby at_99) rfl (l' := #[.val (.int p1), .val (.ref b2), .val (.int ((p1 &&& (2147483647 : Int32)) % (10 : Int32))), .val (.int (1 : Int32)), .val (.ref A), .val (.int u), .unset]) rfl ?_
    show Steps p.tables e below (T34.setTop (mkF m 101 #[.val (.int p1), .val (.ref b2), .val (.int ((p1 &&& (2147483647 : Int32)) % (10 : Int32))), .val (.int (1 : Int32)), .val (.ref A), .val (.int u), .unset] [])) _
    refine XS.aload X34.here hx rfl (hb hby at_101) rfl rfl ?_
    show Steps p.tables e below (T34.setTop (mkF m 103 #[.val (.int p1), .val (.ref b2), .val (.int ((p1 &&& (2147483647 : Int32)) % (10 : Int32))), .val (.int (1 : Int32)), .val (.ref A), .val (.int u), .unset] [(.ref A)])) _
    refine st35.trans ?_
    show Steps p.tables e below (T35.setTop (mkF m 106 #[.val (.int p1), .val (.ref b2), .val (.int ((p1 &&& (2147483647 : Int32)) % (10 : Int32))), .val (.int (1 : Int32)), .val (.ref A), .val (.int u), .unset] [(.int r)])) _
    refine XS.istore X35.here hx rfl (hb hby at_106) rfl (l' := #[.val (.int p1), .val (.ref b2), .val (.int ((p1 &&& (2147483647 : Int32)) % (10 : Int32))), .val (.int (1 : Int32)), .val (.ref A), .val (.int u), .val (.int r)]) rfl ?_
    show Steps p.tables e below (T35.setTop (mkF m 108 #[.val (.int p1), .val (.ref b2), .val (.int ((p1 &&& (2147483647 : Int32)) % (10 : Int32))), .val (.int (1 : Int32)), .val (.ref A), .val (.int u), .val (.int r)] [])) _
    refine XS.iload X35.here hx rfl (hb hby at_108) rfl ?_
    show Steps p.tables e below (T35.setTop (mkF m 110 #[.val (.int p1), .val (.ref b2), .val (.int ((p1 &&& (2147483647 : Int32)) % (10 : Int32))), .val (.int (1 : Int32)), .val (.ref A), .val (.int u), .val (.int r)] [(.int u)])) _
    refine XS.iloadN X35.here hx rfl (hb hby at_110) rfl ?_
    show Steps p.tables e below (T35.setTop (mkF m 111 #[.val (.int p1), .val (.ref b2), .val (.int ((p1 &&& (2147483647 : Int32)) % (10 : Int32))), .val (.int (1 : Int32)), .val (.ref A), .val (.int u), .val (.int r)] [(.int (1 : Int32)), (.int u)])) _
    refine XS.icmpNo X35.here hx rfl (hb hby at_111) rfl (teq (hv111 : u = (1 : Int32))).2 ?_
    show Steps p.tables e below (T35.setTop (mkF m 114 #[.val (.int p1), .val (.ref b2), .val (.int ((p1 &&& (2147483647 : Int32)) % (10 : Int32))), .val (.int (1 : Int32)), .val (.ref A), .val (.int u), .val (.int r)] [])) _
    refine XS.iload X35.here hx rfl (hb hby at_114) rfl ?_
    show Steps p.tables e below (T35.setTop (mkF m 116 #[.val (.int p1), .val (.ref b2), .val (.int ((p1 &&& (2147483647 : Int32)) % (10 : Int32))), .val (.int (1 : Int32)), .val (.ref A), .val (.int u), .val (.int r)] [(.int r)])) _
    refine XS.ifNo X35.here hx rfl (hb hby at_116) rfl ((if0 _ _).trans (feq (hv116 : ¬ (r = (0 : Int32)))).1) ?_
    show Steps p.tables e below (T35.setTop (mkF m 119 #[.val (.int p1), .val (.ref b2), .val (.int ((p1 &&& (2147483647 : Int32)) % (10 : Int32))), .val (.int (1 : Int32)), .val (.ref A), .val (.int u), .val (.int r)] [])) _
    refine XS.iload X35.here hx rfl (hb hby at_119) rfl ?_
    show Steps p.tables e below (T35.setTop (mkF m 121 #[.val (.int p1), .val (.ref b2), .val (.int ((p1 &&& (2147483647 : Int32)) % (10 : Int32))), .val (.int (1 : Int32)), .val (.ref A), .val (.int u), .val (.int r)] [(.int u)])) _
    refine XS.ifNo X35.here hx rfl (hb hby at_121) rfl ((if0 _ _).trans (feq (hv121 : ¬ (u = (0 : Int32)))).1) ?_
    show Steps p.tables e below (T35.setTop (mkF m 124 #[.val (.int p1), .val (.ref b2), .val (.int ((p1 &&& (2147483647 : Int32)) % (10 : Int32))), .val (.int (1 : Int32)), .val (.ref A), .val (.int u), .val (.int r)] [])) _
    refine XS.iconst X35.here hx rfl (hb hby at_124) ?_
    show Steps p.tables e below (T35.setTop (mkF m 125 #[.val (.int p1), .val (.ref b2), .val (.int ((p1 &&& (2147483647 : Int32)) % (10 : Int32))), .val (.int (1 : Int32)), .val (.ref A), .val (.int u), .val (.int r)] [(.int (1 : Int32))])) _
    refine XS.goto X35.here hx rfl (pc0 := 125) (pc' := 129) rfl (hb hby at_125) (by decide) (by decide) ?_
    show Steps p.tables e below (T35.setTop (mkF m 129 #[.val (.int p1), .val (.ref b2), .val (.int ((p1 &&& (2147483647 : Int32)) % (10 : Int32))), .val (.int (1 : Int32)), .val (.ref A), .val (.int u), .val (.int r)] [(.int (1 : Int32))])) _
    exact retN X35 hx (t := .boolean) Bd.returns (by simp) (hb hby at_129) hr
  · show Q0 Z h0 n0 _ T35.heap _
    exact ⟨rfl, N35⟩
set_option maxRecDepth 65536 in
set_option maxHeartbeats 40000000 in
theorem rm0_tft (l : Launch) (Z : State) (a0 : Array Value) (hw : ∀ d ∈ tables_1, d.before a0 Z = true) (ws : List Jvm.Cond) (p1 : Int32) (w_PENDING : Addr) (w_QUEUED : Addr) (w_EXECUTING : Addr) (w_COMPLETED : Addr) (w_ERROR : Addr) (w_ABORTED : Addr) (w_UNKNOWN : Addr) (w_HELD : Addr) (w_SUSPENDED : Addr) (w_ARCHIVED : Addr) (A : Addr) (u : Int32) (r : Int32) (h0 : Heap) (n0 : Nat) (Z0 : n0 ≤ h0.size) (S_PENDING : Sta Z h0 "com/example/vo_query_server/voqueryserver/Phase" "PENDING" "Lcom/example/vo_query_server/voqueryserver/Phase;" (.ref w_PENDING)) (S_QUEUED : Sta Z h0 "com/example/vo_query_server/voqueryserver/Phase" "QUEUED" "Lcom/example/vo_query_server/voqueryserver/Phase;" (.ref w_QUEUED)) (S_EXECUTING : Sta Z h0 "com/example/vo_query_server/voqueryserver/Phase" "EXECUTING" "Lcom/example/vo_query_server/voqueryserver/Phase;" (.ref w_EXECUTING)) (S_COMPLETED : Sta Z h0 "com/example/vo_query_server/voqueryserver/Phase" "COMPLETED" "Lcom/example/vo_query_server/voqueryserver/Phase;" (.ref w_COMPLETED)) (S_ERROR : Sta Z h0 "com/example/vo_query_server/voqueryserver/Phase" "ERROR" "Lcom/example/vo_query_server/voqueryserver/Phase;" (.ref w_ERROR)) (S_ABORTED : Sta Z h0 "com/example/vo_query_server/voqueryserver/Phase" "ABORTED" "Lcom/example/vo_query_server/voqueryserver/Phase;" (.ref w_ABORTED)) (S_UNKNOWN : Sta Z h0 "com/example/vo_query_server/voqueryserver/Phase" "UNKNOWN" "Lcom/example/vo_query_server/voqueryserver/Phase;" (.ref w_UNKNOWN)) (S_HELD : Sta Z h0 "com/example/vo_query_server/voqueryserver/Phase" "HELD" "Lcom/example/vo_query_server/voqueryserver/Phase;" (.ref w_HELD)) (S_SUSPENDED : Sta Z h0 "com/example/vo_query_server/voqueryserver/Phase" "SUSPENDED" "Lcom/example/vo_query_server/voqueryserver/Phase;" (.ref w_SUSPENDED)) (S_ARCHIVED : Sta Z h0 "com/example/vo_query_server/voqueryserver/Phase" "ARCHIVED" "Lcom/example/vo_query_server/voqueryserver/Phase;" (.ref w_ARCHIVED)) (E_PENDING : Exa Z h0 w_PENDING "com/example/vo_query_server/voqueryserver/Phase") (E_QUEUED : Exa Z h0 w_QUEUED "com/example/vo_query_server/voqueryserver/Phase") (E_EXECUTING : Exa Z h0 w_EXECUTING "com/example/vo_query_server/voqueryserver/Phase") (E_COMPLETED : Exa Z h0 w_COMPLETED "com/example/vo_query_server/voqueryserver/Phase") (E_ERROR : Exa Z h0 w_ERROR "com/example/vo_query_server/voqueryserver/Phase") (E_ABORTED : Exa Z h0 w_ABORTED "com/example/vo_query_server/voqueryserver/Phase") (E_UNKNOWN : Exa Z h0 w_UNKNOWN "com/example/vo_query_server/voqueryserver/Phase") (E_HELD : Exa Z h0 w_HELD "com/example/vo_query_server/voqueryserver/Phase") (E_SUSPENDED : Exa Z h0 w_SUSPENDED "com/example/vo_query_server/voqueryserver/Phase") (E_ARCHIVED : Exa Z h0 w_ARCHIVED "com/example/vo_query_server/voqueryserver/Phase") (E_A : Exa Z h0 A "com/example/vo_query_server/voqueryserver/Phase") (hk10 : ¬ ((p1 &&& (2147483647 : Int32)) % (10 : Int32)) < 0 ∧ ((p1 &&& (2147483647 : Int32)) % (10 : Int32)) < 10) (hA : ([.ref w_PENDING, .ref w_QUEUED, .ref w_EXECUTING, .ref w_COMPLETED, .ref w_ERROR, .ref w_ABORTED, .ref w_UNKNOWN, .ref w_HELD, .ref w_SUSPENDED, .ref w_ARCHIVED] : List Value).getD (((p1 &&& (2147483647 : Int32)) % (10 : Int32))).toNatClampNeg .null = .ref A) (hu : actF A w_PENDING w_QUEUED w_EXECUTING = u) (hr0 : runF A w_QUEUED w_EXECUTING = r) (hc80 : (2 : Int32) < ((p1 &&& (2147483647 : Int32)) % (10 : Int32))) (hv111 : u = (0 : Int32)) (hv116 : r = (0 : Int32)) :
    MetFree l x (head1 (Jvm.Cond.code x code maxLocals ret :: ws) room_1) (fun a U => a = #[(.int p1)] ∧ Z.Warmed39 U.vm ∧ U.heap = h0) (fun _ _ _ _ _ => True) (fun _ U o U' => ∃ v L, o = .returned v ∧ Q0 Z h0 n0 v U'.heap L ∧ FrameEnd U o U' L room_1.cells room_1.slots) := by
  refine MetFree.of_bodySF (plainFor_of_name pn_0) hisR ?_
  intro p e s m args below meth c s₁ Bd hml0 hP hK
  obtain ⟨rfl, hZ, hh⟩ := hP
  have hx := Bd.exec
  have hby := Bd.bytes
  have hml : c.maxLocals = 7 := hml0
  have hown : s.vm.findClass "com/example/vo_query_server/voqueryserver/PhaseIsActivePinLaw" = some m.cls := findClass_of_methodNamed Bd.named
  have hnm := (name_of_methodNamed Bd.named Bd.method).1
  have X0 : Stand p l e room_1 s m #[(.int p1)] below meth c s₁ [] 0 0 := Stand.of_body Bd
  have e0 : s₁.heap = h0 := by rw [← hh, Bd.state]; rfl
  have N0 := Fr.nil n0
  have pre0 : ∀ t, Steps p.tables e below (s₁.setTop (mkF m 0 #[.val (.int p1), .unset, .unset, .unset, .unset, .unset, .unset] [])) t → Steps p.tables e below (s₁.setTop (entryFrame m #[(.int p1)] maxLocals)) t := fun t k => castTop (ef_0 m p1) k
  -- 3. LAWS
  obtain ⟨T2, h2, k2, X2, e2, E2, A2, O2, st2⟩ := newR X0 hx hZ hown (hw _ (List.mem_of_getElem? (i := 0) rfl)) (hw _ (List.mem_of_getElem? (i := 1) rfl)) e0 (g := (mkF m 2 #[.val (.int p1), .unset, .unset, .unset, .unset, .unset, .unset] [(.int (10 : Int32))])) rfl (hb hby at_2) rfl (by decide) (cap := 10) (by decide) (by decide) (by decide) (by decide)
  obtain ⟨b2, g2⟩ : ∃ z, z = h0.size := ⟨_, rfl⟩      -- the fresh array's address
  rw [← g2] at A2 st2
  have V0 : Arv Z h2 b2 k2 (.object "com/example/vo_query_server/voqueryserver/Phase") (10 : Int32) [.null, .null, .null, .null, .null, .null, .null, .null, .null, .null] .null := (Arv.new A2 (by decide)).pad (pad_rep [] .null 10)
  have g_b2 : n0 ≤ b2 := Nat.le_trans Z0 (Nat.le_of_eq g2.symm)
  have sz_b2 : h0.size ≤ b2 := (Nat.le_trans (Keep.refl h0 []).1 (Nat.le_of_eq g2.symm))
  have K2 : Keep h0 h2 [] := (Keep.refl h0 []).ext E2
  obtain ⟨T4, X4, e4, st4⟩ := getS2 X2 hx hZ hown (host := "") (Or.inl (hw _ (List.mem_of_getElem? (i := 2) rfl))) Via.refl e2 (S_PENDING.ext E2) (g := (mkF m 7 #[.val (.int p1), .unset, .unset, .unset, .unset, .unset, .unset] [(.int (0 : Int32)), (.ref b2), (.ref b2)])) rfl (hb hby at_7)
  -- Sto10: the object may lie in that array: Sto.of Ar.. (an 'Ovr', by the sheet's words) (an 'Ins' of its class), Shelf42/RW6; carried by Sto.ext E.. | Sto.wr W..
  obtain ⟨c5, Ar5, qa5, qs5, qn5, qh5, qg5⟩ := V0
  have hin10 := inb_of (j := (0 : Int32)) qs5 ⟨by decide, by decide⟩
  have Sto10 := Sto.of Ar5 (by rw [qa5]; exact O2) (Ins.self (E_PENDING.ext E2))
  obtain ⟨T5, h5, X5, e5, W5, st5⟩ := stR X4 hx hZ e4 Ar5 (j := (0 : Int32)) hin10 rfl Sto10 (g := (mkF m 10 #[.val (.int p1), .unset, .unset, .unset, .unset, .unset, .unset] [(.ref w_PENDING), (.int (0 : Int32)), (.ref b2), (.ref b2)])) rfl rfl (hb hby at_10)
  have V5 : Arv Z h5 b2 k2 (.object "com/example/vo_query_server/voqueryserver/Phase") (10 : Int32) [.ref w_PENDING, .null, .null, .null, .null, .null, .null, .null, .null, .null] .null := Arv.set Ar5 qa5 qs5 qn5 qh5 qg5 rfl W5 0 (by decide) (Nat.le_of_ble_eq_true rfl)
  have N5 := Fr.snoc X5 N0 g_b2
  -- ArF.same W5 : the array with (.ref w_PENDING) at the place (0 : Int32)
  have K5 : Keep h0 h5 [] := K2.wr W5 (Or.inr sz_b2)
  obtain ⟨T7, X7, e7, st7⟩ := getS2 X5 hx hZ hown (host := "") (Or.inl (hw _ (List.mem_of_getElem? (i := 6) rfl))) Via.refl e5 ((S_QUEUED.ext E2).wr W5) (g := (mkF m 13 #[.val (.int p1), .unset, .unset, .unset, .unset, .unset, .unset] [(.int (1 : Int32)), (.ref b2), (.ref b2)])) rfl (hb hby at_13)
  -- Sto16: the object may lie in that array: Sto.of Ar.. (an 'Ovr', by the sheet's words) (an 'Ins' of its class), Shelf42/RW6; carried by Sto.ext E.. | Sto.wr W..
  obtain ⟨c8, Ar8, qa8, qs8, qn8, qh8, qg8⟩ := V5
  have hin16 := inb_of (j := (1 : Int32)) qs8 ⟨by decide, by decide⟩
  have Sto16 := Sto.of Ar8 (by rw [qa8]; exact O2) (Ins.self ((E_QUEUED.ext E2).wr W5))
  obtain ⟨T8, h8, X8, e8, W8, st8⟩ := stR X7 hx hZ e7 Ar8 (j := (1 : Int32)) hin16 rfl Sto16 (g := (mkF m 16 #[.val (.int p1), .unset, .unset, .unset, .unset, .unset, .unset] [(.ref w_QUEUED), (.int (1 : Int32)), (.ref b2), (.ref b2)])) rfl rfl (hb hby at_16)
  have V8 : Arv Z h8 b2 k2 (.object "com/example/vo_query_server/voqueryserver/Phase") (10 : Int32) [.ref w_PENDING, .ref w_QUEUED, .null, .null, .null, .null, .null, .null, .null, .null] .null := Arv.set Ar8 qa8 qs8 qn8 qh8 qg8 rfl W8 1 (by decide) (Nat.le_of_ble_eq_true rfl)
  have N8 := Fr.snoc X8 N5 g_b2
  -- ArF.same W8 : the array with (.ref w_QUEUED) at the place (1 : Int32)
  have K8 : Keep h0 h8 [] := K5.wr W8 (Or.inr sz_b2)
  obtain ⟨T10, X10, e10, st10⟩ := getS2 X8 hx hZ hown (host := "") (Or.inl (hw _ (List.mem_of_getElem? (i := 8) rfl))) Via.refl e8 (((S_EXECUTING.ext E2).wr W5).wr W8) (g := (mkF m 19 #[.val (.int p1), .unset, .unset, .unset, .unset, .unset, .unset] [(.int (2 : Int32)), (.ref b2), (.ref b2)])) rfl (hb hby at_19)
  -- Sto22: the object may lie in that array: Sto.of Ar.. (an 'Ovr', by the sheet's words) (an 'Ins' of its class), Shelf42/RW6; carried by Sto.ext E.. | Sto.wr W..
  obtain ⟨c11, Ar11, qa11, qs11, qn11, qh11, qg11⟩ := V8
  have hin22 := inb_of (j := (2 : Int32)) qs11 ⟨by decide, by decide⟩
  have Sto22 := Sto.of Ar11 (by rw [qa11]; exact O2) (Ins.self (((E_EXECUTING.ext E2).wr W5).wr W8))
  obtain ⟨T11, h11, X11, e11, W11, st11⟩ := stR X10 hx hZ e10 Ar11 (j := (2 : Int32)) hin22 rfl Sto22 (g := (mkF m 22 #[.val (.int p1), .unset, .unset, .unset, .unset, .unset, .unset] [(.ref w_EXECUTING), (.int (2 : Int32)), (.ref b2), (.ref b2)])) rfl rfl (hb hby at_22)
  have V11 : Arv Z h11 b2 k2 (.object "com/example/vo_query_server/voqueryserver/Phase") (10 : Int32) [.ref w_PENDING, .ref w_QUEUED, .ref w_EXECUTING, .null, .null, .null, .null, .null, .null, .null] .null := Arv.set Ar11 qa11 qs11 qn11 qh11 qg11 rfl W11 2 (by decide) (Nat.le_of_ble_eq_true rfl)
  have N11 := Fr.snoc X11 N8 g_b2
  -- ArF.same W11 : the array with (.ref w_EXECUTING) at the place (2 : Int32)
  have K11 : Keep h0 h11 [] := K8.wr W11 (Or.inr sz_b2)
  obtain ⟨T13, X13, e13, st13⟩ := getS2 X11 hx hZ hown (host := "") (Or.inl (hw _ (List.mem_of_getElem? (i := 10) rfl))) Via.refl e11 ((((S_COMPLETED.ext E2).wr W5).wr W8).wr W11) (g := (mkF m 25 #[.val (.int p1), .unset, .unset, .unset, .unset, .unset, .unset] [(.int (3 : Int32)), (.ref b2), (.ref b2)])) rfl (hb hby at_25)
  -- Sto28: the object may lie in that array: Sto.of Ar.. (an 'Ovr', by the sheet's words) (an 'Ins' of its class), Shelf42/RW6; carried by Sto.ext E.. | Sto.wr W..
  obtain ⟨c14, Ar14, qa14, qs14, qn14, qh14, qg14⟩ := V11
  have hin28 := inb_of (j := (3 : Int32)) qs14 ⟨by decide, by decide⟩
  have Sto28 := Sto.of Ar14 (by rw [qa14]; exact O2) (Ins.self ((((E_COMPLETED.ext E2).wr W5).wr W8).wr W11))
  obtain ⟨T14, h14, X14, e14, W14, st14⟩ := stR X13 hx hZ e13 Ar14 (j := (3 : Int32)) hin28 rfl Sto28 (g := (mkF m 28 #[.val (.int p1), .unset, .unset, .unset, .unset, .unset, .unset] [(.ref w_COMPLETED), (.int (3 : Int32)), (.ref b2), (.ref b2)])) rfl rfl (hb hby at_28)
  have V14 : Arv Z h14 b2 k2 (.object "com/example/vo_query_server/voqueryserver/Phase") (10 : Int32) [.ref w_PENDING, .ref w_QUEUED, .ref w_EXECUTING, .ref w_COMPLETED, .null, .null, .null, .null, .null, .null] .null := Arv.set Ar14 qa14 qs14 qn14 qh14 qg14 rfl W14 3 (by decide) (Nat.le_of_ble_eq_true rfl)
  have N14 := Fr.snoc X14 N11 g_b2
  -- ArF.same W14 : the array with (.ref w_COMPLETED) at the place (3 : Int32)
  have K14 : Keep h0 h14 [] := K11.wr W14 (Or.inr sz_b2)
  obtain ⟨T16, X16, e16, st16⟩ := getS2 X14 hx hZ hown (host := "") (Or.inl (hw _ (List.mem_of_getElem? (i := 12) rfl))) Via.refl e14 (((((S_ERROR.ext E2).wr W5).wr W8).wr W11).wr W14) (g := (mkF m 31 #[.val (.int p1), .unset, .unset, .unset, .unset, .unset, .unset] [(.int (4 : Int32)), (.ref b2), (.ref b2)])) rfl (hb hby at_31)
  -- Sto34: the object may lie in that array: Sto.of Ar.. (an 'Ovr', by the sheet's words) (an 'Ins' of its class), Shelf42/RW6; carried by Sto.ext E.. | Sto.wr W..
  obtain ⟨c17, Ar17, qa17, qs17, qn17, qh17, qg17⟩ := V14
  have hin34 := inb_of (j := (4 : Int32)) qs17 ⟨by decide, by decide⟩
  have Sto34 := Sto.of Ar17 (by rw [qa17]; exact O2) (Ins.self (((((E_ERROR.ext E2).wr W5).wr W8).wr W11).wr W14))
  obtain ⟨T17, h17, X17, e17, W17, st17⟩ := stR X16 hx hZ e16 Ar17 (j := (4 : Int32)) hin34 rfl Sto34 (g := (mkF m 34 #[.val (.int p1), .unset, .unset, .unset, .unset, .unset, .unset] [(.ref w_ERROR), (.int (4 : Int32)), (.ref b2), (.ref b2)])) rfl rfl (hb hby at_34)
  have V17 : Arv Z h17 b2 k2 (.object "com/example/vo_query_server/voqueryserver/Phase") (10 : Int32) [.ref w_PENDING, .ref w_QUEUED, .ref w_EXECUTING, .ref w_COMPLETED, .ref w_ERROR, .null, .null, .null, .null, .null] .null := Arv.set Ar17 qa17 qs17 qn17 qh17 qg17 rfl W17 4 (by decide) (Nat.le_of_ble_eq_true rfl)
  have N17 := Fr.snoc X17 N14 g_b2
  -- ArF.same W17 : the array with (.ref w_ERROR) at the place (4 : Int32)
  have K17 : Keep h0 h17 [] := K14.wr W17 (Or.inr sz_b2)
  obtain ⟨T19, X19, e19, st19⟩ := getS2 X17 hx hZ hown (host := "") (Or.inl (hw _ (List.mem_of_getElem? (i := 14) rfl))) Via.refl e17 ((((((S_ABORTED.ext E2).wr W5).wr W8).wr W11).wr W14).wr W17) (g := (mkF m 37 #[.val (.int p1), .unset, .unset, .unset, .unset, .unset, .unset] [(.int (5 : Int32)), (.ref b2), (.ref b2)])) rfl (hb hby at_37)
  -- Sto40: the object may lie in that array: Sto.of Ar.. (an 'Ovr', by the sheet's words) (an 'Ins' of its class), Shelf42/RW6; carried by Sto.ext E.. | Sto.wr W..
  obtain ⟨c20, Ar20, qa20, qs20, qn20, qh20, qg20⟩ := V17
  have hin40 := inb_of (j := (5 : Int32)) qs20 ⟨by decide, by decide⟩
  have Sto40 := Sto.of Ar20 (by rw [qa20]; exact O2) (Ins.self ((((((E_ABORTED.ext E2).wr W5).wr W8).wr W11).wr W14).wr W17))
  obtain ⟨T20, h20, X20, e20, W20, st20⟩ := stR X19 hx hZ e19 Ar20 (j := (5 : Int32)) hin40 rfl Sto40 (g := (mkF m 40 #[.val (.int p1), .unset, .unset, .unset, .unset, .unset, .unset] [(.ref w_ABORTED), (.int (5 : Int32)), (.ref b2), (.ref b2)])) rfl rfl (hb hby at_40)
  have V20 : Arv Z h20 b2 k2 (.object "com/example/vo_query_server/voqueryserver/Phase") (10 : Int32) [.ref w_PENDING, .ref w_QUEUED, .ref w_EXECUTING, .ref w_COMPLETED, .ref w_ERROR, .ref w_ABORTED, .null, .null, .null, .null] .null := Arv.set Ar20 qa20 qs20 qn20 qh20 qg20 rfl W20 5 (by decide) (Nat.le_of_ble_eq_true rfl)
  have N20 := Fr.snoc X20 N17 g_b2
  -- ArF.same W20 : the array with (.ref w_ABORTED) at the place (5 : Int32)
  have K20 : Keep h0 h20 [] := K17.wr W20 (Or.inr sz_b2)
  obtain ⟨T22, X22, e22, st22⟩ := getS2 X20 hx hZ hown (host := "") (Or.inl (hw _ (List.mem_of_getElem? (i := 16) rfl))) Via.refl e20 (((((((S_UNKNOWN.ext E2).wr W5).wr W8).wr W11).wr W14).wr W17).wr W20) (g := (mkF m 44 #[.val (.int p1), .unset, .unset, .unset, .unset, .unset, .unset] [(.int (6 : Int32)), (.ref b2), (.ref b2)])) rfl (hb hby at_44)
  -- Sto47: the object may lie in that array: Sto.of Ar.. (an 'Ovr', by the sheet's words) (an 'Ins' of its class), Shelf42/RW6; carried by Sto.ext E.. | Sto.wr W..
  obtain ⟨c23, Ar23, qa23, qs23, qn23, qh23, qg23⟩ := V20
  have hin47 := inb_of (j := (6 : Int32)) qs23 ⟨by decide, by decide⟩
  have Sto47 := Sto.of Ar23 (by rw [qa23]; exact O2) (Ins.self (((((((E_UNKNOWN.ext E2).wr W5).wr W8).wr W11).wr W14).wr W17).wr W20))
  obtain ⟨T23, h23, X23, e23, W23, st23⟩ := stR X22 hx hZ e22 Ar23 (j := (6 : Int32)) hin47 rfl Sto47 (g := (mkF m 47 #[.val (.int p1), .unset, .unset, .unset, .unset, .unset, .unset] [(.ref w_UNKNOWN), (.int (6 : Int32)), (.ref b2), (.ref b2)])) rfl rfl (hb hby at_47)
  have V23 : Arv Z h23 b2 k2 (.object "com/example/vo_query_server/voqueryserver/Phase") (10 : Int32) [.ref w_PENDING, .ref w_QUEUED, .ref w_EXECUTING, .ref w_COMPLETED, .ref w_ERROR, .ref w_ABORTED, .ref w_UNKNOWN, .null, .null, .null] .null := Arv.set Ar23 qa23 qs23 qn23 qh23 qg23 rfl W23 6 (by decide) (Nat.le_of_ble_eq_true rfl)
  have N23 := Fr.snoc X23 N20 g_b2
  -- ArF.same W23 : the array with (.ref w_UNKNOWN) at the place (6 : Int32)
  have K23 : Keep h0 h23 [] := K20.wr W23 (Or.inr sz_b2)
  obtain ⟨T25, X25, e25, st25⟩ := getS2 X23 hx hZ hown (host := "") (Or.inl (hw _ (List.mem_of_getElem? (i := 18) rfl))) Via.refl e23 ((((((((S_HELD.ext E2).wr W5).wr W8).wr W11).wr W14).wr W17).wr W20).wr W23) (g := (mkF m 51 #[.val (.int p1), .unset, .unset, .unset, .unset, .unset, .unset] [(.int (7 : Int32)), (.ref b2), (.ref b2)])) rfl (hb hby at_51)
  -- Sto54: the object may lie in that array: Sto.of Ar.. (an 'Ovr', by the sheet's words) (an 'Ins' of its class), Shelf42/RW6; carried by Sto.ext E.. | Sto.wr W..
  obtain ⟨c26, Ar26, qa26, qs26, qn26, qh26, qg26⟩ := V23
  have hin54 := inb_of (j := (7 : Int32)) qs26 ⟨by decide, by decide⟩
  have Sto54 := Sto.of Ar26 (by rw [qa26]; exact O2) (Ins.self ((((((((E_HELD.ext E2).wr W5).wr W8).wr W11).wr W14).wr W17).wr W20).wr W23))
  obtain ⟨T26, h26, X26, e26, W26, st26⟩ := stR X25 hx hZ e25 Ar26 (j := (7 : Int32)) hin54 rfl Sto54 (g := (mkF m 54 #[.val (.int p1), .unset, .unset, .unset, .unset, .unset, .unset] [(.ref w_HELD), (.int (7 : Int32)), (.ref b2), (.ref b2)])) rfl rfl (hb hby at_54)
  have V26 : Arv Z h26 b2 k2 (.object "com/example/vo_query_server/voqueryserver/Phase") (10 : Int32) [.ref w_PENDING, .ref w_QUEUED, .ref w_EXECUTING, .ref w_COMPLETED, .ref w_ERROR, .ref w_ABORTED, .ref w_UNKNOWN, .ref w_HELD, .null, .null] .null := Arv.set Ar26 qa26 qs26 qn26 qh26 qg26 rfl W26 7 (by decide) (Nat.le_of_ble_eq_true rfl)
  have N26 := Fr.snoc X26 N23 g_b2
  -- ArF.same W26 : the array with (.ref w_HELD) at the place (7 : Int32)
  have K26 : Keep h0 h26 [] := K23.wr W26 (Or.inr sz_b2)
  obtain ⟨T28, X28, e28, st28⟩ := getS2 X26 hx hZ hown (host := "") (Or.inl (hw _ (List.mem_of_getElem? (i := 20) rfl))) Via.refl e26 (((((((((S_SUSPENDED.ext E2).wr W5).wr W8).wr W11).wr W14).wr W17).wr W20).wr W23).wr W26) (g := (mkF m 58 #[.val (.int p1), .unset, .unset, .unset, .unset, .unset, .unset] [(.int (8 : Int32)), (.ref b2), (.ref b2)])) rfl (hb hby at_58)
  -- Sto61: the object may lie in that array: Sto.of Ar.. (an 'Ovr', by the sheet's words) (an 'Ins' of its class), Shelf42/RW6; carried by Sto.ext E.. | Sto.wr W..
  obtain ⟨c29, Ar29, qa29, qs29, qn29, qh29, qg29⟩ := V26
  have hin61 := inb_of (j := (8 : Int32)) qs29 ⟨by decide, by decide⟩
  have Sto61 := Sto.of Ar29 (by rw [qa29]; exact O2) (Ins.self (((((((((E_SUSPENDED.ext E2).wr W5).wr W8).wr W11).wr W14).wr W17).wr W20).wr W23).wr W26))
  obtain ⟨T29, h29, X29, e29, W29, st29⟩ := stR X28 hx hZ e28 Ar29 (j := (8 : Int32)) hin61 rfl Sto61 (g := (mkF m 61 #[.val (.int p1), .unset, .unset, .unset, .unset, .unset, .unset] [(.ref w_SUSPENDED), (.int (8 : Int32)), (.ref b2), (.ref b2)])) rfl rfl (hb hby at_61)
  have V29 : Arv Z h29 b2 k2 (.object "com/example/vo_query_server/voqueryserver/Phase") (10 : Int32) [.ref w_PENDING, .ref w_QUEUED, .ref w_EXECUTING, .ref w_COMPLETED, .ref w_ERROR, .ref w_ABORTED, .ref w_UNKNOWN, .ref w_HELD, .ref w_SUSPENDED, .null] .null := Arv.set Ar29 qa29 qs29 qn29 qh29 qg29 rfl W29 8 (by decide) (Nat.le_of_ble_eq_true rfl)
  have N29 := Fr.snoc X29 N26 g_b2
  -- ArF.same W29 : the array with (.ref w_SUSPENDED) at the place (8 : Int32)
  have K29 : Keep h0 h29 [] := K26.wr W29 (Or.inr sz_b2)
  obtain ⟨T31, X31, e31, st31⟩ := getS2 X29 hx hZ hown (host := "") (Or.inl (hw _ (List.mem_of_getElem? (i := 22) rfl))) Via.refl e29 ((((((((((S_ARCHIVED.ext E2).wr W5).wr W8).wr W11).wr W14).wr W17).wr W20).wr W23).wr W26).wr W29) (g := (mkF m 65 #[.val (.int p1), .unset, .unset, .unset, .unset, .unset, .unset] [(.int (9 : Int32)), (.ref b2), (.ref b2)])) rfl (hb hby at_65)
  -- Sto68: the object may lie in that array: Sto.of Ar.. (an 'Ovr', by the sheet's words) (an 'Ins' of its class), Shelf42/RW6; carried by Sto.ext E.. | Sto.wr W..
  obtain ⟨c32, Ar32, qa32, qs32, qn32, qh32, qg32⟩ := V29
  have hin68 := inb_of (j := (9 : Int32)) qs32 ⟨by decide, by decide⟩
  have Sto68 := Sto.of Ar32 (by rw [qa32]; exact O2) (Ins.self ((((((((((E_ARCHIVED.ext E2).wr W5).wr W8).wr W11).wr W14).wr W17).wr W20).wr W23).wr W26).wr W29))
  obtain ⟨T32, h32, X32, e32, W32, st32⟩ := stR X31 hx hZ e31 Ar32 (j := (9 : Int32)) hin68 rfl Sto68 (g := (mkF m 68 #[.val (.int p1), .unset, .unset, .unset, .unset, .unset, .unset] [(.ref w_ARCHIVED), (.int (9 : Int32)), (.ref b2), (.ref b2)])) rfl rfl (hb hby at_68)
  have V32 : Arv Z h32 b2 k2 (.object "com/example/vo_query_server/voqueryserver/Phase") (10 : Int32) [.ref w_PENDING, .ref w_QUEUED, .ref w_EXECUTING, .ref w_COMPLETED, .ref w_ERROR, .ref w_ABORTED, .ref w_UNKNOWN, .ref w_HELD, .ref w_SUSPENDED, .ref w_ARCHIVED] .null := Arv.set Ar32 qa32 qs32 qn32 qh32 qg32 rfl W32 9 (by decide) (Nat.le_of_ble_eq_true rfl)
  have N32 := Fr.snoc X32 N29 g_b2
  -- ArF.same W32 : the array with (.ref w_ARCHIVED) at the place (9 : Int32)
  have K32 : Keep h0 h32 [] := K29.wr W32 (Or.inr sz_b2)
  obtain ⟨cF, ArF, qaF, qsF, qnF, qhF, qgF⟩ := V32
  have hin91 := inb_of (j := ((p1 &&& (2147483647 : Int32)) % (10 : Int32))) qsF hk10
  have hat91 : cF.slots[(((p1 &&& (2147483647 : Int32)) % (10 : Int32))).toNatClampNeg]? = some (.ref A) := (qhF _ (Nat.lt_of_not_le fun q => hin91 (Or.inr q))).trans (congrArg some hA)
  have E_A1 := (((((((((((E_A.ext E2).wr W5).wr W8).wr W11).wr W14).wr W17).wr W20).wr W23).wr W26).wr W29).wr W32)
  have Z1 : n0 ≤ h32.size := Nat.le_trans Z0 K32.1
  have S1_PENDING := (((((((((((S_PENDING.ext E2).wr W5).wr W8).wr W11).wr W14).wr W17).wr W20).wr W23).wr W26).wr W29).wr W32)
  have S1_QUEUED := (((((((((((S_QUEUED.ext E2).wr W5).wr W8).wr W11).wr W14).wr W17).wr W20).wr W23).wr W26).wr W29).wr W32)
  have S1_EXECUTING := (((((((((((S_EXECUTING.ext E2).wr W5).wr W8).wr W11).wr W14).wr W17).wr W20).wr W23).wr W26).wr W29).wr W32)
  -- pc 96: com/example/vo_query_server/voqueryserver/Phase.isActive by the contract of the body that the receiver's class selects, rm1
  obtain ⟨cq34, kq34, q34a, q34b, q34c⟩ := isOf hZ e32 E_A1
  obtain ⟨_, _, ⟨T34, L34, k34, n34⟩, -, X34, ⟨Lc34, hQ34, l34, y34, z34⟩, st34⟩ := X32.virtualBack hx (y := (⟨"com/example/vo_query_server/voqueryserver/Phase", "isActive", "()Z"⟩ : MethodName)) (z := (⟨"com/example/vo_query_server/voqueryserver/Phase", "isActive", "()Z"⟩ : MethodName)) hown (mvT hZ (hw _ (List.mem_of_getElem? (i := 25) rfl))) (mvT hZ (hw _ (List.mem_of_getElem? (i := 26) rfl))) (notFace_of_selects (args := #[]) (mvT hZ (hw _ (List.mem_of_getElem? (i := 28) rfl)))) (mvT hZ (hw _ (List.mem_of_getElem? (i := 28) rfl))) (mvT hZ (hw _ (List.mem_of_getElem? (i := 27) rfl))) (by decide) (backOf (W := 0) (rm1 l Z a0 hw [] A w_PENDING w_QUEUED w_EXECUTING h32 n0 Z1 S1_PENDING S1_QUEUED S1_EXECUTING) hZ (hw _ (List.mem_of_getElem? (i := 29) rfl)) (hw _ (List.mem_of_getElem? (i := 3) rfl)) (by decide) (by decide)) q34a q34c (g := (mkF m 96 #[.val (.int p1), .val (.ref b2), .val (.int ((p1 &&& (2147483647 : Int32)) % (10 : Int32))), .val (.int (0 : Int32)), .val (.ref A), .unset, .unset] [(.ref A)])) rfl (by rw [hml]; rfl) (Steps.refl _) (argsL := []) (rest := []) (lenOf pd_0_0 rfl) rfl (by show 2 * 0 + _ ≤ _; exact Nat.le_of_eq rfl) (hb hby at_96) (fun _ _ => ⟨rfl, e32, (by decide : 1 + 0 ≤ _), (by decide : 10 + 0 ≤ _)⟩)
  dsimp only [Pt.U, Pt.locs, Pt.cells, Pt.slots] at X34 l34 y34 z34 st34 hQ34
  subst l34 y34 z34
  obtain ⟨rv34, N34q, q34⟩ := hQ34
  rw [hu] at rv34
  subst rv34
  have N34 := Fr.app N32 N34q
  -- pc 103: com/example/vo_query_server/voqueryserver/Phase.isRunning by the contract of the body that the receiver's class selects, rm2
  obtain ⟨cq35, kq35, q35a, q35b, q35c⟩ := isOf hZ q34 E_A1
  obtain ⟨_, _, ⟨T35, L35, k35, n35⟩, -, X35, ⟨Lc35, hQ35, l35, y35, z35⟩, st35⟩ := X34.virtualBack hx (y := (⟨"com/example/vo_query_server/voqueryserver/Phase", "isRunning", "()Z"⟩ : MethodName)) (z := (⟨"com/example/vo_query_server/voqueryserver/Phase", "isRunning", "()Z"⟩ : MethodName)) hown (mvT hZ (hw _ (List.mem_of_getElem? (i := 31) rfl))) (mvT hZ (hw _ (List.mem_of_getElem? (i := 32) rfl))) (notFace_of_selects (args := #[]) (mvT hZ (hw _ (List.mem_of_getElem? (i := 34) rfl)))) (mvT hZ (hw _ (List.mem_of_getElem? (i := 34) rfl))) (mvT hZ (hw _ (List.mem_of_getElem? (i := 33) rfl))) (by decide) (backOf (W := 0) (rm2 l Z a0 hw [] A w_QUEUED w_EXECUTING h32 n0 Z1 S1_QUEUED S1_EXECUTING) hZ (hw _ (List.mem_of_getElem? (i := 35) rfl)) (hw _ (List.mem_of_getElem? (i := 3) rfl)) (by decide) (by decide)) q35a q35c (g := (mkF m 103 #[.val (.int p1), .val (.ref b2), .val (.int ((p1 &&& (2147483647 : Int32)) % (10 : Int32))), .val (.int (0 : Int32)), .val (.ref A), .val (.int u), .unset] [(.ref A)])) rfl (by rw [hml]; rfl) (Steps.refl _) (argsL := []) (rest := []) (lenOf pd_0_0 rfl) rfl (by show 2 * 0 + _ ≤ _; exact Nat.le_of_eq rfl) (hb hby at_103) (fun _ _ => ⟨rfl, q34, (by decide : 1 + 0 ≤ _), (by decide : 10 + 0 ≤ _)⟩)
  dsimp only [Pt.U, Pt.locs, Pt.cells, Pt.slots] at X35 l35 y35 z35 st35 hQ35
  subst l35 y35 z35
  obtain ⟨rv35, N35q, q35⟩ := hQ35
  rw [hr0] at rv35
  subst rv35
  have N35 := Fr.app N34 N35q
  obtain ⟨fs, hr, hrun, hended, hW, hsame⟩ := X35.leave (v := some (.int (1 : Int32))) (fun h => by rw [Bd.returns] at h; cases h)
  refine ⟨_, _, pre0 _ ?_, hrun, hended, _, _, rfl, ?_, ⟨_, rfl⟩, hW, hsame.mono (by decide) (by decide)⟩
  -- 4. STEPS
  · show Steps p.tables e below (s₁.setTop (mkF m 0 #[.val (.int p1), .unset, .unset, .unset, .unset, .unset, .unset] [])) _
    refine XS.bipush X0.here hx rfl (hb hby at_0) ?_
    show Steps p.tables e below (s₁.setTop (mkF m 2 #[.val (.int p1), .unset, .unset, .unset, .unset, .unset, .unset] [(.int (10 : Int32))])) _
    refine st2 _ ?_
    show Steps p.tables e below (T2.setTop (mkF m 5 #[.val (.int p1), .unset, .unset, .unset, .unset, .unset, .unset] [(.ref b2)])) _
    refine XS.dup X2.here hx rfl (hb hby at_5) rfl rfl ?_
    show Steps p.tables e below (T2.setTop (mkF m 6 #[.val (.int p1), .unset, .unset, .unset, .unset, .unset, .unset] [(.ref b2), (.ref b2)])) _
    refine XS.iconst X2.here hx rfl (hb hby at_6) ?_
    show Steps p.tables e below (T2.setTop (mkF m 7 #[.val (.int p1), .unset, .unset, .unset, .unset, .unset, .unset] [(.int (0 : Int32)), (.ref b2), (.ref b2)])) _
    refine st4 _ ?_
    show Steps p.tables e below (T4.setTop (mkF m 10 #[.val (.int p1), .unset, .unset, .unset, .unset, .unset, .unset] [(.ref w_PENDING), (.int (0 : Int32)), (.ref b2), (.ref b2)])) _
    refine st5 _ ?_
    show Steps p.tables e below (T5.setTop (mkF m 11 #[.val (.int p1), .unset, .unset, .unset, .unset, .unset, .unset] [(.ref b2)])) _
    refine XS.dup X5.here hx rfl (hb hby at_11) rfl rfl ?_
    show Steps p.tables e below (T5.setTop (mkF m 12 #[.val (.int p1), .unset, .unset, .unset, .unset, .unset, .unset] [(.ref b2), (.ref b2)])) _
    refine XS.iconst X5.here hx rfl (hb hby at_12) ?_
    show Steps p.tables e below (T5.setTop (mkF m 13 #[.val (.int p1), .unset, .unset, .unset, .unset, .unset, .unset] [(.int (1 : Int32)), (.ref b2), (.ref b2)])) _
    refine st7 _ ?_
    show Steps p.tables e below (T7.setTop (mkF m 16 #[.val (.int p1), .unset, .unset, .unset, .unset, .unset, .unset] [(.ref w_QUEUED), (.int (1 : Int32)), (.ref b2), (.ref b2)])) _
    refine st8 _ ?_
    show Steps p.tables e below (T8.setTop (mkF m 17 #[.val (.int p1), .unset, .unset, .unset, .unset, .unset, .unset] [(.ref b2)])) _
    refine XS.dup X8.here hx rfl (hb hby at_17) rfl rfl ?_
    show Steps p.tables e below (T8.setTop (mkF m 18 #[.val (.int p1), .unset, .unset, .unset, .unset, .unset, .unset] [(.ref b2), (.ref b2)])) _
    refine XS.iconst X8.here hx rfl (hb hby at_18) ?_
    show Steps p.tables e below (T8.setTop (mkF m 19 #[.val (.int p1), .unset, .unset, .unset, .unset, .unset, .unset] [(.int (2 : Int32)), (.ref b2), (.ref b2)])) _
    refine st10 _ ?_
    show Steps p.tables e below (T10.setTop (mkF m 22 #[.val (.int p1), .unset, .unset, .unset, .unset, .unset, .unset] [(.ref w_EXECUTING), (.int (2 : Int32)), (.ref b2), (.ref b2)])) _
    refine st11 _ ?_
    show Steps p.tables e below (T11.setTop (mkF m 23 #[.val (.int p1), .unset, .unset, .unset, .unset, .unset, .unset] [(.ref b2)])) _
    refine XS.dup X11.here hx rfl (hb hby at_23) rfl rfl ?_
    show Steps p.tables e below (T11.setTop (mkF m 24 #[.val (.int p1), .unset, .unset, .unset, .unset, .unset, .unset] [(.ref b2), (.ref b2)])) _
    refine XS.iconst X11.here hx rfl (hb hby at_24) ?_
    show Steps p.tables e below (T11.setTop (mkF m 25 #[.val (.int p1), .unset, .unset, .unset, .unset, .unset, .unset] [(.int (3 : Int32)), (.ref b2), (.ref b2)])) _
    refine st13 _ ?_
    show Steps p.tables e below (T13.setTop (mkF m 28 #[.val (.int p1), .unset, .unset, .unset, .unset, .unset, .unset] [(.ref w_COMPLETED), (.int (3 : Int32)), (.ref b2), (.ref b2)])) _
    refine st14 _ ?_
    show Steps p.tables e below (T14.setTop (mkF m 29 #[.val (.int p1), .unset, .unset, .unset, .unset, .unset, .unset] [(.ref b2)])) _
    refine XS.dup X14.here hx rfl (hb hby at_29) rfl rfl ?_
    show Steps p.tables e below (T14.setTop (mkF m 30 #[.val (.int p1), .unset, .unset, .unset, .unset, .unset, .unset] [(.ref b2), (.ref b2)])) _
    refine XS.iconst X14.here hx rfl (hb hby at_30) ?_
    show Steps p.tables e below (T14.setTop (mkF m 31 #[.val (.int p1), .unset, .unset, .unset, .unset, .unset, .unset] [(.int (4 : Int32)), (.ref b2), (.ref b2)])) _
    refine st16 _ ?_
    show Steps p.tables e below (T16.setTop (mkF m 34 #[.val (.int p1), .unset, .unset, .unset, .unset, .unset, .unset] [(.ref w_ERROR), (.int (4 : Int32)), (.ref b2), (.ref b2)])) _
    refine st17 _ ?_
    show Steps p.tables e below (T17.setTop (mkF m 35 #[.val (.int p1), .unset, .unset, .unset, .unset, .unset, .unset] [(.ref b2)])) _
    refine XS.dup X17.here hx rfl (hb hby at_35) rfl rfl ?_
    show Steps p.tables e below (T17.setTop (mkF m 36 #[.val (.int p1), .unset, .unset, .unset, .unset, .unset, .unset] [(.ref b2), (.ref b2)])) _
    refine XS.iconst X17.here hx rfl (hb hby at_36) ?_
    show Steps p.tables e below (T17.setTop (mkF m 37 #[.val (.int p1), .unset, .unset, .unset, .unset, .unset, .unset] [(.int (5 : Int32)), (.ref b2), (.ref b2)])) _
    refine st19 _ ?_
    show Steps p.tables e below (T19.setTop (mkF m 40 #[.val (.int p1), .unset, .unset, .unset, .unset, .unset, .unset] [(.ref w_ABORTED), (.int (5 : Int32)), (.ref b2), (.ref b2)])) _
    refine st20 _ ?_
    show Steps p.tables e below (T20.setTop (mkF m 41 #[.val (.int p1), .unset, .unset, .unset, .unset, .unset, .unset] [(.ref b2)])) _
    refine XS.dup X20.here hx rfl (hb hby at_41) rfl rfl ?_
    show Steps p.tables e below (T20.setTop (mkF m 42 #[.val (.int p1), .unset, .unset, .unset, .unset, .unset, .unset] [(.ref b2), (.ref b2)])) _
    refine XS.bipush X20.here hx rfl (hb hby at_42) ?_
    show Steps p.tables e below (T20.setTop (mkF m 44 #[.val (.int p1), .unset, .unset, .unset, .unset, .unset, .unset] [(.int (6 : Int32)), (.ref b2), (.ref b2)])) _
    refine st22 _ ?_
    show Steps p.tables e below (T22.setTop (mkF m 47 #[.val (.int p1), .unset, .unset, .unset, .unset, .unset, .unset] [(.ref w_UNKNOWN), (.int (6 : Int32)), (.ref b2), (.ref b2)])) _
    refine st23 _ ?_
    show Steps p.tables e below (T23.setTop (mkF m 48 #[.val (.int p1), .unset, .unset, .unset, .unset, .unset, .unset] [(.ref b2)])) _
    refine XS.dup X23.here hx rfl (hb hby at_48) rfl rfl ?_
    show Steps p.tables e below (T23.setTop (mkF m 49 #[.val (.int p1), .unset, .unset, .unset, .unset, .unset, .unset] [(.ref b2), (.ref b2)])) _
    refine XS.bipush X23.here hx rfl (hb hby at_49) ?_
    show Steps p.tables e below (T23.setTop (mkF m 51 #[.val (.int p1), .unset, .unset, .unset, .unset, .unset, .unset] [(.int (7 : Int32)), (.ref b2), (.ref b2)])) _
    refine st25 _ ?_
    show Steps p.tables e below (T25.setTop (mkF m 54 #[.val (.int p1), .unset, .unset, .unset, .unset, .unset, .unset] [(.ref w_HELD), (.int (7 : Int32)), (.ref b2), (.ref b2)])) _
    refine st26 _ ?_
    show Steps p.tables e below (T26.setTop (mkF m 55 #[.val (.int p1), .unset, .unset, .unset, .unset, .unset, .unset] [(.ref b2)])) _
    refine XS.dup X26.here hx rfl (hb hby at_55) rfl rfl ?_
    show Steps p.tables e below (T26.setTop (mkF m 56 #[.val (.int p1), .unset, .unset, .unset, .unset, .unset, .unset] [(.ref b2), (.ref b2)])) _
    refine XS.bipush X26.here hx rfl (hb hby at_56) ?_
    show Steps p.tables e below (T26.setTop (mkF m 58 #[.val (.int p1), .unset, .unset, .unset, .unset, .unset, .unset] [(.int (8 : Int32)), (.ref b2), (.ref b2)])) _
    refine st28 _ ?_
    show Steps p.tables e below (T28.setTop (mkF m 61 #[.val (.int p1), .unset, .unset, .unset, .unset, .unset, .unset] [(.ref w_SUSPENDED), (.int (8 : Int32)), (.ref b2), (.ref b2)])) _
    refine st29 _ ?_
    show Steps p.tables e below (T29.setTop (mkF m 62 #[.val (.int p1), .unset, .unset, .unset, .unset, .unset, .unset] [(.ref b2)])) _
    refine XS.dup X29.here hx rfl (hb hby at_62) rfl rfl ?_
    show Steps p.tables e below (T29.setTop (mkF m 63 #[.val (.int p1), .unset, .unset, .unset, .unset, .unset, .unset] [(.ref b2), (.ref b2)])) _
    refine XS.bipush X29.here hx rfl (hb hby at_63) ?_
    show Steps p.tables e below (T29.setTop (mkF m 65 #[.val (.int p1), .unset, .unset, .unset, .unset, .unset, .unset] [(.int (9 : Int32)), (.ref b2), (.ref b2)])) _
    refine st31 _ ?_
    show Steps p.tables e below (T31.setTop (mkF m 68 #[.val (.int p1), .unset, .unset, .unset, .unset, .unset, .unset] [(.ref w_ARCHIVED), (.int (9 : Int32)), (.ref b2), (.ref b2)])) _
    refine st32 _ ?_
    show Steps p.tables e below (T32.setTop (mkF m 69 #[.val (.int p1), .unset, .unset, .unset, .unset, .unset, .unset] [(.ref b2)])) _
    refine XS.astoreN X32.here hx rfl (hb hby at_69) rfl rfl (l' := #[.val (.int p1), .val (.ref b2), .unset, .unset, .unset, .unset, .unset]) rfl ?_
    show Steps p.tables e below (T32.setTop (mkF m 70 #[.val (.int p1), .val (.ref b2), .unset, .unset, .unset, .unset, .unset] [])) _
    refine XS.iloadN X32.here hx rfl (hb hby at_70) rfl ?_
    show Steps p.tables e below (T32.setTop (mkF m 71 #[.val (.int p1), .val (.ref b2), .unset, .unset, .unset, .unset, .unset] [(.int p1)])) _
    refine X32.ldcInt hx hown (mvT hZ (hw _ (List.mem_of_getElem? (i := 24) rfl))) (g := (mkF m 71 #[.val (.int p1), .val (.ref b2), .unset, .unset, .unset, .unset, .unset] [(.int p1)])) rfl (hb hby at_71) _ ?_
    show Steps p.tables e below (T32.setTop (mkF m 73 #[.val (.int p1), .val (.ref b2), .unset, .unset, .unset, .unset, .unset] [(.int (2147483647 : Int32)), (.int p1)])) _
    refine XS.iand X32.here hx rfl (hb hby at_73) rfl ?_
    show Steps p.tables e below (T32.setTop (mkF m 74 #[.val (.int p1), .val (.ref b2), .unset, .unset, .unset, .unset, .unset] [(.int (p1 &&& (2147483647 : Int32)))])) _
    refine XS.bipush X32.here hx rfl (hb hby at_74) ?_
    show Steps p.tables e below (T32.setTop (mkF m 76 #[.val (.int p1), .val (.ref b2), .unset, .unset, .unset, .unset, .unset] [(.int (10 : Int32)), (.int (p1 &&& (2147483647 : Int32)))])) _
    refine iremM X32 hx rfl (hb hby at_76) rfl (by decide) ?_
    show Steps p.tables e below (T32.setTop (mkF m 77 #[.val (.int p1), .val (.ref b2), .unset, .unset, .unset, .unset, .unset] [(.int ((p1 &&& (2147483647 : Int32)) % (10 : Int32)))])) _
    refine XS.istoreN X32.here hx rfl (hb hby at_77) rfl (l' := #[.val (.int p1), .val (.ref b2), .val (.int ((p1 &&& (2147483647 : Int32)) % (10 : Int32))), .unset, .unset, .unset, .unset]) rfl ?_
    show Steps p.tables e below (T32.setTop (mkF m 78 #[.val (.int p1), .val (.ref b2), .val (.int ((p1 &&& (2147483647 : Int32)) % (10 : Int32))), .unset, .unset, .unset, .unset] [])) _
    refine XS.iloadN X32.here hx rfl (hb hby at_78) rfl ?_
    show Steps p.tables e below (T32.setTop (mkF m 79 #[.val (.int p1), .val (.ref b2), .val (.int ((p1 &&& (2147483647 : Int32)) % (10 : Int32))), .unset, .unset, .unset, .unset] [(.int ((p1 &&& (2147483647 : Int32)) % (10 : Int32)))])) _
    refine XS.iconst X32.here hx rfl (hb hby at_79) ?_
    show Steps p.tables e below (T32.setTop (mkF m 80 #[.val (.int p1), .val (.ref b2), .val (.int ((p1 &&& (2147483647 : Int32)) % (10 : Int32))), .unset, .unset, .unset, .unset] [(.int (2 : Int32)), (.int ((p1 &&& (2147483647 : Int32)) % (10 : Int32)))])) _
    refine XS.icmpYes X32.here hx rfl (pc0 := 80) (pc' := 87) rfl (hb hby at_80) rfl (tlt hc80).2.2.1 (by decide) (by decide) ?_
    show Steps p.tables e below (T32.setTop (mkF m 87 #[.val (.int p1), .val (.ref b2), .val (.int ((p1 &&& (2147483647 : Int32)) % (10 : Int32))), .unset, .unset, .unset, .unset] [])) _
    refine XS.iconst X32.here hx rfl (hb hby at_87) ?_
    show Steps p.tables e below (T32.setTop (mkF m 88 #[.val (.int p1), .val (.ref b2), .val (.int ((p1 &&& (2147483647 : Int32)) % (10 : Int32))), .unset, .unset, .unset, .unset] [(.int (0 : Int32))])) _
    refine XS.istoreN X32.here hx rfl (hb hby at_88) rfl (l' := #[.val (.int p1), .val (.ref b2), .val (.int ((p1 &&& (2147483647 : Int32)) % (10 : Int32))), .val (.int (0 : Int32)), .unset, .unset, .unset]) rfl ?_
    show Steps p.tables e below (T32.setTop (mkF m 89 #[.val (.int p1), .val (.ref b2), .val (.int ((p1 &&& (2147483647 : Int32)) % (10 : Int32))), .val (.int (0 : Int32)), .unset, .unset, .unset] [])) _
    refine XS.aloadN X32.here hx rfl (hb hby at_89) rfl rfl ?_
    show Steps p.tables e below (T32.setTop (mkF m 90 #[.val (.int p1), .val (.ref b2), .val (.int ((p1 &&& (2147483647 : Int32)) % (10 : Int32))), .val (.int (0 : Int32)), .unset, .unset, .unset] [(.ref b2)])) _
    refine XS.iloadN X32.here hx rfl (hb hby at_90) rfl ?_
    show Steps p.tables e below (T32.setTop (mkF m 91 #[.val (.int p1), .val (.ref b2), .val (.int ((p1 &&& (2147483647 : Int32)) % (10 : Int32))), .val (.int (0 : Int32)), .unset, .unset, .unset] [(.int ((p1 &&& (2147483647 : Int32)) % (10 : Int32))), (.ref b2)])) _
    refine X32.aaload hx (j := ((p1 &&& (2147483647 : Int32)) % (10 : Int32))) (v := (.ref A)) (by rw [e32]; exact ArF.1) (State.isArrayOf_alike hZ.alike ArF.2.1) rfl ArF.2.2 hin91 hat91 (g := (mkF m 91 #[.val (.int p1), .val (.ref b2), .val (.int ((p1 &&& (2147483647 : Int32)) % (10 : Int32))), .val (.int (0 : Int32)), .unset, .unset, .unset] [(.int ((p1 &&& (2147483647 : Int32)) % (10 : Int32))), (.ref b2)])) rfl rfl (hb hby at_91) _ ?_
    show Steps p.tables e below (T32.setTop (mkF m 92 #[.val (.int p1), .val (.ref b2), .val (.int ((p1 &&& (2147483647 : Int32)) % (10 : Int32))), .val (.int (0 : Int32)), .unset, .unset, .unset] [(.ref A)])) _
    refine XS.astore X32.here hx rfl (hb hby at_92) rfl rfl (l' := #[.val (.int p1), .val (.ref b2), .val (.int ((p1 &&& (2147483647 : Int32)) % (10 : Int32))), .val (.int (0 : Int32)), .val (.ref A), .unset, .unset]) rfl ?_
    show Steps p.tables e below (T32.setTop (mkF m 94 #[.val (.int p1), .val (.ref b2), .val (.int ((p1 &&& (2147483647 : Int32)) % (10 : Int32))), .val (.int (0 : Int32)), .val (.ref A), .unset, .unset] [])) _
    refine XS.aload X32.here hx rfl (hb hby at_94) rfl rfl ?_
    show Steps p.tables e below (T32.setTop (mkF m 96 #[.val (.int p1), .val (.ref b2), .val (.int ((p1 &&& (2147483647 : Int32)) % (10 : Int32))), .val (.int (0 : Int32)), .val (.ref A), .unset, .unset] [(.ref A)])) _
    refine st34.trans ?_
    show Steps p.tables e below (T34.setTop (mkF m 99 #[.val (.int p1), .val (.ref b2), .val (.int ((p1 &&& (2147483647 : Int32)) % (10 : Int32))), .val (.int (0 : Int32)), .val (.ref A), .unset, .unset] [(.int u)])) _
    refine XS.istore X34.here hx rfl (hb hby at_99) rfl (l' := #[.val (.int p1), .val (.ref b2), .val (.int ((p1 &&& (2147483647 : Int32)) % (10 : Int32))), .val (.int (0 : Int32)), .val (.ref A), .val (.int u), .unset]) rfl ?_
    show Steps p.tables e below (T34.setTop (mkF m 101 #[.val (.int p1), .val (.ref b2), .val (.int ((p1 &&& (2147483647 : Int32)) % (10 : Int32))), .val (.int (0 : Int32)), .val (.ref A), .val (.int u), .unset] [])) _
    refine XS.aload X34.here hx rfl (hb hby at_101) rfl rfl ?_
    show Steps p.tables e below (T34.setTop (mkF m 103 #[.val (.int p1), .val (.ref b2), .val (.int ((p1 &&& (2147483647 : Int32)) % (10 : Int32))), .val (.int (0 : Int32)), .val (.ref A), .val (.int u), .unset] [(.ref A)])) _
    refine st35.trans ?_
    show Steps p.tables e below (T35.setTop (mkF m 106 #[.val (.int p1), .val (.ref b2), .val (.int ((p1 &&& (2147483647 : Int32)) % (10 : Int32))), .val (.int (0 : Int32)), .val (.ref A), .val (.int u), .unset] [(.int r)])) _
    refine XS.istore X35.here hx rfl (hb hby at_106) rfl (l' := #[.val (.int p1), .val (.ref b2), .val (.int ((p1 &&& (2147483647 : Int32)) % (10 : Int32))), .val (.int (0 : Int32)), .val (.ref A), .val (.int u), .val (.int r)]) rfl ?_
    show Steps p.tables e below (T35.setTop (mkF m 108 #[.val (.int p1), .val (.ref b2), .val (.int ((p1 &&& (2147483647 : Int32)) % (10 : Int32))), .val (.int (0 : Int32)), .val (.ref A), .val (.int u), .val (.int r)] [])) _
    refine XS.iload X35.here hx rfl (hb hby at_108) rfl ?_
    show Steps p.tables e below (T35.setTop (mkF m 110 #[.val (.int p1), .val (.ref b2), .val (.int ((p1 &&& (2147483647 : Int32)) % (10 : Int32))), .val (.int (0 : Int32)), .val (.ref A), .val (.int u), .val (.int r)] [(.int u)])) _
    refine XS.iloadN X35.here hx rfl (hb hby at_110) rfl ?_
    show Steps p.tables e below (T35.setTop (mkF m 111 #[.val (.int p1), .val (.ref b2), .val (.int ((p1 &&& (2147483647 : Int32)) % (10 : Int32))), .val (.int (0 : Int32)), .val (.ref A), .val (.int u), .val (.int r)] [(.int (0 : Int32)), (.int u)])) _
    refine XS.icmpNo X35.here hx rfl (hb hby at_111) rfl (teq (hv111 : u = (0 : Int32))).2 ?_
    show Steps p.tables e below (T35.setTop (mkF m 114 #[.val (.int p1), .val (.ref b2), .val (.int ((p1 &&& (2147483647 : Int32)) % (10 : Int32))), .val (.int (0 : Int32)), .val (.ref A), .val (.int u), .val (.int r)] [])) _
    refine XS.iload X35.here hx rfl (hb hby at_114) rfl ?_
    show Steps p.tables e below (T35.setTop (mkF m 116 #[.val (.int p1), .val (.ref b2), .val (.int ((p1 &&& (2147483647 : Int32)) % (10 : Int32))), .val (.int (0 : Int32)), .val (.ref A), .val (.int u), .val (.int r)] [(.int r)])) _
    refine XS.ifYes X35.here hx rfl (pc0 := 116) (pc' := 124) rfl (hb hby at_116) rfl ((if0 _ _).trans (teq (hv116 : r = (0 : Int32))).1) (by decide) (by decide) ?_
    show Steps p.tables e below (T35.setTop (mkF m 124 #[.val (.int p1), .val (.ref b2), .val (.int ((p1 &&& (2147483647 : Int32)) % (10 : Int32))), .val (.int (0 : Int32)), .val (.ref A), .val (.int u), .val (.int r)] [])) _
    refine XS.iconst X35.here hx rfl (hb hby at_124) ?_
    show Steps p.tables e below (T35.setTop (mkF m 125 #[.val (.int p1), .val (.ref b2), .val (.int ((p1 &&& (2147483647 : Int32)) % (10 : Int32))), .val (.int (0 : Int32)), .val (.ref A), .val (.int u), .val (.int r)] [(.int (1 : Int32))])) _
    refine XS.goto X35.here hx rfl (pc0 := 125) (pc' := 129) rfl (hb hby at_125) (by decide) (by decide) ?_
    show Steps p.tables e below (T35.setTop (mkF m 129 #[.val (.int p1), .val (.ref b2), .val (.int ((p1 &&& (2147483647 : Int32)) % (10 : Int32))), .val (.int (0 : Int32)), .val (.ref A), .val (.int u), .val (.int r)] [(.int (1 : Int32))])) _
    exact retN X35 hx (t := .boolean) Bd.returns (by simp) (hb hby at_129) hr
  · show Q0 Z h0 n0 _ T35.heap _
    exact ⟨rfl, N35⟩
theorem own_k (x : Int32) : ((x &&& (2147483647 : Int32)) % (10 : Int32)) = (0 : Int32) ∨ ((x &&& (2147483647 : Int32)) % (10 : Int32)) = (1 : Int32) ∨ ((x &&& (2147483647 : Int32)) % (10 : Int32)) = (2 : Int32) ∨ ((x &&& (2147483647 : Int32)) % (10 : Int32)) = (3 : Int32) ∨ ((x &&& (2147483647 : Int32)) % (10 : Int32)) = (4 : Int32) ∨ ((x &&& (2147483647 : Int32)) % (10 : Int32)) = (5 : Int32) ∨ ((x &&& (2147483647 : Int32)) % (10 : Int32)) = (6 : Int32) ∨ ((x &&& (2147483647 : Int32)) % (10 : Int32)) = (7 : Int32) ∨ ((x &&& (2147483647 : Int32)) % (10 : Int32)) = (8 : Int32) ∨ ((x &&& (2147483647 : Int32)) % (10 : Int32)) = (9 : Int32) := by
  have h := own_rem (d := 10) (n := 10) (own_top31 x) (by decide) (by decide)
  have h1 : ((x &&& (2147483647 : Int32)) % (10 : Int32)).toInt = 0 ∨ ((x &&& (2147483647 : Int32)) % (10 : Int32)).toInt = 1 ∨ ((x &&& (2147483647 : Int32)) % (10 : Int32)).toInt = 2 ∨ ((x &&& (2147483647 : Int32)) % (10 : Int32)).toInt = 3 ∨ ((x &&& (2147483647 : Int32)) % (10 : Int32)).toInt = 4 ∨ ((x &&& (2147483647 : Int32)) % (10 : Int32)).toInt = 5 ∨ ((x &&& (2147483647 : Int32)) % (10 : Int32)).toInt = 6 ∨ ((x &&& (2147483647 : Int32)) % (10 : Int32)).toInt = 7 ∨ ((x &&& (2147483647 : Int32)) % (10 : Int32)).toInt = 8 ∨ ((x &&& (2147483647 : Int32)) % (10 : Int32)).toInt = 9 := by omega
  rcases h1 with h1 | h1 | h1 | h1 | h1 | h1 | h1 | h1 | h1 | h1
  · exact (Or.inl (Int32.toInt_inj.mp h1))
  · exact (Or.inr (Or.inl (Int32.toInt_inj.mp h1)))
  · exact (Or.inr (Or.inr (Or.inl (Int32.toInt_inj.mp h1))))
  · exact (Or.inr (Or.inr (Or.inr (Or.inl (Int32.toInt_inj.mp h1)))))
  · exact (Or.inr (Or.inr (Or.inr (Or.inr (Or.inl (Int32.toInt_inj.mp h1))))))
  · exact (Or.inr (Or.inr (Or.inr (Or.inr (Or.inr (Or.inl (Int32.toInt_inj.mp h1)))))))
  · exact (Or.inr (Or.inr (Or.inr (Or.inr (Or.inr (Or.inr (Or.inl (Int32.toInt_inj.mp h1))))))))
  · exact (Or.inr (Or.inr (Or.inr (Or.inr (Or.inr (Or.inr (Or.inr (Or.inl (Int32.toInt_inj.mp h1)))))))))
  · exact (Or.inr (Or.inr (Or.inr (Or.inr (Or.inr (Or.inr (Or.inr (Or.inr (Or.inl (Int32.toInt_inj.mp h1))))))))))
  · exact (Or.inr (Or.inr (Or.inr (Or.inr (Or.inr (Or.inr (Or.inr (Or.inr (Or.inr (Int32.toInt_inj.mp h1))))))))))
set_option maxRecDepth 65536 in
set_option maxHeartbeats 40000000 in
theorem rm0 (l : Launch) (Z : State) (a0 : Array Value) (hw : ∀ d ∈ tables_1, d.before a0 Z = true) (ws : List Jvm.Cond) (p1 : Int32) (w_PENDING : Addr) (w_QUEUED : Addr) (w_EXECUTING : Addr) (w_COMPLETED : Addr) (w_ERROR : Addr) (w_ABORTED : Addr) (w_UNKNOWN : Addr) (w_HELD : Addr) (w_SUSPENDED : Addr) (w_ARCHIVED : Addr) (h0 : Heap) (n0 : Nat) (Z0 : n0 ≤ h0.size) (S_PENDING : Sta Z h0 "com/example/vo_query_server/voqueryserver/Phase" "PENDING" "Lcom/example/vo_query_server/voqueryserver/Phase;" (.ref w_PENDING)) (S_QUEUED : Sta Z h0 "com/example/vo_query_server/voqueryserver/Phase" "QUEUED" "Lcom/example/vo_query_server/voqueryserver/Phase;" (.ref w_QUEUED)) (S_EXECUTING : Sta Z h0 "com/example/vo_query_server/voqueryserver/Phase" "EXECUTING" "Lcom/example/vo_query_server/voqueryserver/Phase;" (.ref w_EXECUTING)) (S_COMPLETED : Sta Z h0 "com/example/vo_query_server/voqueryserver/Phase" "COMPLETED" "Lcom/example/vo_query_server/voqueryserver/Phase;" (.ref w_COMPLETED)) (S_ERROR : Sta Z h0 "com/example/vo_query_server/voqueryserver/Phase" "ERROR" "Lcom/example/vo_query_server/voqueryserver/Phase;" (.ref w_ERROR)) (S_ABORTED : Sta Z h0 "com/example/vo_query_server/voqueryserver/Phase" "ABORTED" "Lcom/example/vo_query_server/voqueryserver/Phase;" (.ref w_ABORTED)) (S_UNKNOWN : Sta Z h0 "com/example/vo_query_server/voqueryserver/Phase" "UNKNOWN" "Lcom/example/vo_query_server/voqueryserver/Phase;" (.ref w_UNKNOWN)) (S_HELD : Sta Z h0 "com/example/vo_query_server/voqueryserver/Phase" "HELD" "Lcom/example/vo_query_server/voqueryserver/Phase;" (.ref w_HELD)) (S_SUSPENDED : Sta Z h0 "com/example/vo_query_server/voqueryserver/Phase" "SUSPENDED" "Lcom/example/vo_query_server/voqueryserver/Phase;" (.ref w_SUSPENDED)) (S_ARCHIVED : Sta Z h0 "com/example/vo_query_server/voqueryserver/Phase" "ARCHIVED" "Lcom/example/vo_query_server/voqueryserver/Phase;" (.ref w_ARCHIVED)) (E_PENDING : Exa Z h0 w_PENDING "com/example/vo_query_server/voqueryserver/Phase") (E_QUEUED : Exa Z h0 w_QUEUED "com/example/vo_query_server/voqueryserver/Phase") (E_EXECUTING : Exa Z h0 w_EXECUTING "com/example/vo_query_server/voqueryserver/Phase") (E_COMPLETED : Exa Z h0 w_COMPLETED "com/example/vo_query_server/voqueryserver/Phase") (E_ERROR : Exa Z h0 w_ERROR "com/example/vo_query_server/voqueryserver/Phase") (E_ABORTED : Exa Z h0 w_ABORTED "com/example/vo_query_server/voqueryserver/Phase") (E_UNKNOWN : Exa Z h0 w_UNKNOWN "com/example/vo_query_server/voqueryserver/Phase") (E_HELD : Exa Z h0 w_HELD "com/example/vo_query_server/voqueryserver/Phase") (E_SUSPENDED : Exa Z h0 w_SUSPENDED "com/example/vo_query_server/voqueryserver/Phase") (E_ARCHIVED : Exa Z h0 w_ARCHIVED "com/example/vo_query_server/voqueryserver/Phase") (ne_PENDING_QUEUED : w_PENDING ≠ w_QUEUED) (ne_PENDING_EXECUTING : w_PENDING ≠ w_EXECUTING) (ne_QUEUED_PENDING : w_QUEUED ≠ w_PENDING) (ne_QUEUED_EXECUTING : w_QUEUED ≠ w_EXECUTING) (ne_EXECUTING_PENDING : w_EXECUTING ≠ w_PENDING) (ne_EXECUTING_QUEUED : w_EXECUTING ≠ w_QUEUED) (ne_COMPLETED_PENDING : w_COMPLETED ≠ w_PENDING) (ne_COMPLETED_QUEUED : w_COMPLETED ≠ w_QUEUED) (ne_COMPLETED_EXECUTING : w_COMPLETED ≠ w_EXECUTING) (ne_ERROR_PENDING : w_ERROR ≠ w_PENDING) (ne_ERROR_QUEUED : w_ERROR ≠ w_QUEUED) (ne_ERROR_EXECUTING : w_ERROR ≠ w_EXECUTING) (ne_ABORTED_PENDING : w_ABORTED ≠ w_PENDING) (ne_ABORTED_QUEUED : w_ABORTED ≠ w_QUEUED) (ne_ABORTED_EXECUTING : w_ABORTED ≠ w_EXECUTING) (ne_UNKNOWN_PENDING : w_UNKNOWN ≠ w_PENDING) (ne_UNKNOWN_QUEUED : w_UNKNOWN ≠ w_QUEUED) (ne_UNKNOWN_EXECUTING : w_UNKNOWN ≠ w_EXECUTING) (ne_HELD_PENDING : w_HELD ≠ w_PENDING) (ne_HELD_QUEUED : w_HELD ≠ w_QUEUED) (ne_HELD_EXECUTING : w_HELD ≠ w_EXECUTING) (ne_SUSPENDED_PENDING : w_SUSPENDED ≠ w_PENDING) (ne_SUSPENDED_QUEUED : w_SUSPENDED ≠ w_QUEUED) (ne_SUSPENDED_EXECUTING : w_SUSPENDED ≠ w_EXECUTING) (ne_ARCHIVED_PENDING : w_ARCHIVED ≠ w_PENDING) (ne_ARCHIVED_QUEUED : w_ARCHIVED ≠ w_QUEUED) (ne_ARCHIVED_EXECUTING : w_ARCHIVED ≠ w_EXECUTING) :
    MetFree l x (head1 (Jvm.Cond.code x code maxLocals ret :: ws) room_1) (fun a U => a = #[(.int p1)] ∧ Z.Warmed39 U.vm ∧ U.heap = h0) (fun _ _ _ _ _ => True) (fun _ U o U' => ∃ v L, o = .returned v ∧ Q0 Z h0 n0 v U'.heap L ∧ FrameEnd U o U' L room_1.cells room_1.slots) := by
  rcases own_k p1 with h1 | h1 | h1 | h1 | h1 | h1 | h1 | h1 | h1 | h1
  · exact rm0_fft l Z a0 hw ws p1 w_PENDING w_QUEUED w_EXECUTING w_COMPLETED w_ERROR w_ABORTED w_UNKNOWN w_HELD w_SUSPENDED w_ARCHIVED w_PENDING 1 0 h0 n0 Z0 S_PENDING S_QUEUED S_EXECUTING S_COMPLETED S_ERROR S_ABORTED S_UNKNOWN S_HELD S_SUSPENDED S_ARCHIVED E_PENDING E_QUEUED E_EXECUTING E_COMPLETED E_ERROR E_ABORTED E_UNKNOWN E_HELD E_SUSPENDED E_ARCHIVED E_PENDING (by rw [h1]; decide) (by rw [h1]; rfl) (by simp [actF, ne_PENDING_QUEUED, ne_PENDING_EXECUTING]) (by simp [runF, ne_PENDING_QUEUED, ne_PENDING_EXECUTING]) (by rw [h1]; decide) (by decide) (by decide)
  · exact rm0_ffff l Z a0 hw ws p1 w_PENDING w_QUEUED w_EXECUTING w_COMPLETED w_ERROR w_ABORTED w_UNKNOWN w_HELD w_SUSPENDED w_ARCHIVED w_QUEUED 1 1 h0 n0 Z0 S_PENDING S_QUEUED S_EXECUTING S_COMPLETED S_ERROR S_ABORTED S_UNKNOWN S_HELD S_SUSPENDED S_ARCHIVED E_PENDING E_QUEUED E_EXECUTING E_COMPLETED E_ERROR E_ABORTED E_UNKNOWN E_HELD E_SUSPENDED E_ARCHIVED E_QUEUED (by rw [h1]; decide) (by rw [h1]; rfl) (by simp [actF, ne_QUEUED_PENDING, ne_QUEUED_EXECUTING]) (by simp [runF, ne_QUEUED_PENDING, ne_QUEUED_EXECUTING]) (by rw [h1]; decide) (by decide) (by decide) (by decide)
  · exact rm0_ffff l Z a0 hw ws p1 w_PENDING w_QUEUED w_EXECUTING w_COMPLETED w_ERROR w_ABORTED w_UNKNOWN w_HELD w_SUSPENDED w_ARCHIVED w_EXECUTING 1 1 h0 n0 Z0 S_PENDING S_QUEUED S_EXECUTING S_COMPLETED S_ERROR S_ABORTED S_UNKNOWN S_HELD S_SUSPENDED S_ARCHIVED E_PENDING E_QUEUED E_EXECUTING E_COMPLETED E_ERROR E_ABORTED E_UNKNOWN E_HELD E_SUSPENDED E_ARCHIVED E_EXECUTING (by rw [h1]; decide) (by rw [h1]; rfl) (by simp [actF, ne_EXECUTING_PENDING, ne_EXECUTING_QUEUED]) (by simp [runF, ne_EXECUTING_PENDING, ne_EXECUTING_QUEUED]) (by rw [h1]; decide) (by decide) (by decide) (by decide)
  · exact rm0_tft l Z a0 hw ws p1 w_PENDING w_QUEUED w_EXECUTING w_COMPLETED w_ERROR w_ABORTED w_UNKNOWN w_HELD w_SUSPENDED w_ARCHIVED w_COMPLETED 0 0 h0 n0 Z0 S_PENDING S_QUEUED S_EXECUTING S_COMPLETED S_ERROR S_ABORTED S_UNKNOWN S_HELD S_SUSPENDED S_ARCHIVED E_PENDING E_QUEUED E_EXECUTING E_COMPLETED E_ERROR E_ABORTED E_UNKNOWN E_HELD E_SUSPENDED E_ARCHIVED E_COMPLETED (by rw [h1]; decide) (by rw [h1]; rfl) (by simp [actF, ne_COMPLETED_PENDING, ne_COMPLETED_QUEUED, ne_COMPLETED_EXECUTING]) (by simp [runF, ne_COMPLETED_PENDING, ne_COMPLETED_QUEUED, ne_COMPLETED_EXECUTING]) (by rw [h1]; decide) (by decide) (by decide)
  · exact rm0_tft l Z a0 hw ws p1 w_PENDING w_QUEUED w_EXECUTING w_COMPLETED w_ERROR w_ABORTED w_UNKNOWN w_HELD w_SUSPENDED w_ARCHIVED w_ERROR 0 0 h0 n0 Z0 S_PENDING S_QUEUED S_EXECUTING S_COMPLETED S_ERROR S_ABORTED S_UNKNOWN S_HELD S_SUSPENDED S_ARCHIVED E_PENDING E_QUEUED E_EXECUTING E_COMPLETED E_ERROR E_ABORTED E_UNKNOWN E_HELD E_SUSPENDED E_ARCHIVED E_ERROR (by rw [h1]; decide) (by rw [h1]; rfl) (by simp [actF, ne_ERROR_PENDING, ne_ERROR_QUEUED, ne_ERROR_EXECUTING]) (by simp [runF, ne_ERROR_PENDING, ne_ERROR_QUEUED, ne_ERROR_EXECUTING]) (by rw [h1]; decide) (by decide) (by decide)
  · exact rm0_tft l Z a0 hw ws p1 w_PENDING w_QUEUED w_EXECUTING w_COMPLETED w_ERROR w_ABORTED w_UNKNOWN w_HELD w_SUSPENDED w_ARCHIVED w_ABORTED 0 0 h0 n0 Z0 S_PENDING S_QUEUED S_EXECUTING S_COMPLETED S_ERROR S_ABORTED S_UNKNOWN S_HELD S_SUSPENDED S_ARCHIVED E_PENDING E_QUEUED E_EXECUTING E_COMPLETED E_ERROR E_ABORTED E_UNKNOWN E_HELD E_SUSPENDED E_ARCHIVED E_ABORTED (by rw [h1]; decide) (by rw [h1]; rfl) (by simp [actF, ne_ABORTED_PENDING, ne_ABORTED_QUEUED, ne_ABORTED_EXECUTING]) (by simp [runF, ne_ABORTED_PENDING, ne_ABORTED_QUEUED, ne_ABORTED_EXECUTING]) (by rw [h1]; decide) (by decide) (by decide)
  · exact rm0_tft l Z a0 hw ws p1 w_PENDING w_QUEUED w_EXECUTING w_COMPLETED w_ERROR w_ABORTED w_UNKNOWN w_HELD w_SUSPENDED w_ARCHIVED w_UNKNOWN 0 0 h0 n0 Z0 S_PENDING S_QUEUED S_EXECUTING S_COMPLETED S_ERROR S_ABORTED S_UNKNOWN S_HELD S_SUSPENDED S_ARCHIVED E_PENDING E_QUEUED E_EXECUTING E_COMPLETED E_ERROR E_ABORTED E_UNKNOWN E_HELD E_SUSPENDED E_ARCHIVED E_UNKNOWN (by rw [h1]; decide) (by rw [h1]; rfl) (by simp [actF, ne_UNKNOWN_PENDING, ne_UNKNOWN_QUEUED, ne_UNKNOWN_EXECUTING]) (by simp [runF, ne_UNKNOWN_PENDING, ne_UNKNOWN_QUEUED, ne_UNKNOWN_EXECUTING]) (by rw [h1]; decide) (by decide) (by decide)
  · exact rm0_tft l Z a0 hw ws p1 w_PENDING w_QUEUED w_EXECUTING w_COMPLETED w_ERROR w_ABORTED w_UNKNOWN w_HELD w_SUSPENDED w_ARCHIVED w_HELD 0 0 h0 n0 Z0 S_PENDING S_QUEUED S_EXECUTING S_COMPLETED S_ERROR S_ABORTED S_UNKNOWN S_HELD S_SUSPENDED S_ARCHIVED E_PENDING E_QUEUED E_EXECUTING E_COMPLETED E_ERROR E_ABORTED E_UNKNOWN E_HELD E_SUSPENDED E_ARCHIVED E_HELD (by rw [h1]; decide) (by rw [h1]; rfl) (by simp [actF, ne_HELD_PENDING, ne_HELD_QUEUED, ne_HELD_EXECUTING]) (by simp [runF, ne_HELD_PENDING, ne_HELD_QUEUED, ne_HELD_EXECUTING]) (by rw [h1]; decide) (by decide) (by decide)
  · exact rm0_tft l Z a0 hw ws p1 w_PENDING w_QUEUED w_EXECUTING w_COMPLETED w_ERROR w_ABORTED w_UNKNOWN w_HELD w_SUSPENDED w_ARCHIVED w_SUSPENDED 0 0 h0 n0 Z0 S_PENDING S_QUEUED S_EXECUTING S_COMPLETED S_ERROR S_ABORTED S_UNKNOWN S_HELD S_SUSPENDED S_ARCHIVED E_PENDING E_QUEUED E_EXECUTING E_COMPLETED E_ERROR E_ABORTED E_UNKNOWN E_HELD E_SUSPENDED E_ARCHIVED E_SUSPENDED (by rw [h1]; decide) (by rw [h1]; rfl) (by simp [actF, ne_SUSPENDED_PENDING, ne_SUSPENDED_QUEUED, ne_SUSPENDED_EXECUTING]) (by simp [runF, ne_SUSPENDED_PENDING, ne_SUSPENDED_QUEUED, ne_SUSPENDED_EXECUTING]) (by rw [h1]; decide) (by decide) (by decide)
  · exact rm0_tft l Z a0 hw ws p1 w_PENDING w_QUEUED w_EXECUTING w_COMPLETED w_ERROR w_ABORTED w_UNKNOWN w_HELD w_SUSPENDED w_ARCHIVED w_ARCHIVED 0 0 h0 n0 Z0 S_PENDING S_QUEUED S_EXECUTING S_COMPLETED S_ERROR S_ABORTED S_UNKNOWN S_HELD S_SUSPENDED S_ARCHIVED E_PENDING E_QUEUED E_EXECUTING E_COMPLETED E_ERROR E_ABORTED E_UNKNOWN E_HELD E_SUSPENDED E_ARCHIVED E_ARCHIVED (by rw [h1]; decide) (by rw [h1]; rfl) (by simp [actF, ne_ARCHIVED_PENDING, ne_ARCHIVED_QUEUED, ne_ARCHIVED_EXECUTING]) (by simp [runF, ne_ARCHIVED_PENDING, ne_ARCHIVED_QUEUED, ne_ARCHIVED_EXECUTING]) (by rw [h1]; decide) (by decide) (by decide)
set_option maxRecDepth 65536 in
set_option maxHeartbeats 40000000 in
theorem comes_1 {Post : Tables → Env → Array Value → State → Outcome → State → Prop} (hpost : ∀ tb e args s v u, (limb_1_1.after args s (.returned v) u = true ∧ limb_1_2.after args s (.returned v) u = true ∧ True) → FrameEnd s (.returned v) u (Jvm.fieldLocs frame_1_writes args s ++ Jvm.arrayLocs frame_1_arrays args s ++ Jvm.staticLocs frame_1_statics s) 16 128 → Post tb e args s (.returned v) u) :
    ArmFor flags0 classFile x code maxLocals ret World_1 tables_1 room_1 Calls_1 rest_1 Pre_1 Post := by
  intro l hfl _ _ p e ha hc hk s m args below hf hA hF happ hP
  obtain ⟨hcalls, hrest, hpre⟩ := hP
  obtain ⟨-, -, -, hnamed, -, -, -, hat⟩ := (Spec.applies_iff hf).mp happ
  obtain ⟨hg, hn⟩ := and_e (Cond.before_iff.mp (show (Jvm.Cond.and given_1 narrow_1).before args s = true from hpre))
  obtain ⟨g36, g37⟩ := and_e hg
  obtain ⟨w0, rfl⟩ : ∃ w0 : Value, args = #[w0] := by
    have hs : args.size = 1 := by simpa [Cond.value, given_1] using g36
    obtain ⟨L⟩ := args
    match L, hs with
    | [w0], _ => exact ⟨w0, rfl⟩
  have hw := fun d (hd : d ∈ tables_1) => atoms_spec (ws := Jvm.Cond.code x code maxLocals ret :: tables_1) hat d (List.mem_cons_of_mem _ hd)
  have hfit : Fit s := fun {y c} hc i hi => by
    obtain ⟨ha, rfl⟩ := Array.getElem?_eq_some_iff.mp hc
    have q := List.all_eq_true.mp ((Array.all_eq_true_iff_forall_mem.mp hF) _ (Array.getElem_mem ha)) i (List.mem_range.mpr hi)
    simpa [Array.getElem?_eq_getElem hi] using q
  obtain ⟨i0, ei0⟩ := is_v g37
  obtain rfl : w0 = (.int i0) := Option.some.inj ei0
  obtain ⟨hn0, hn⟩ := and_e hn
  obtain ⟨hn1, hn⟩ := and_e hn
  obtain ⟨hn2, hn⟩ := and_e hn
  obtain ⟨hn3, hn⟩ := and_e hn
  obtain ⟨hn4, hn⟩ := and_e hn
  obtain ⟨hn5, hn⟩ := and_e hn
  obtain ⟨hn6, hn⟩ := and_e hn
  obtain ⟨hn7, hn⟩ := and_e hn
  obtain ⟨hn8, hn⟩ := and_e hn
  obtain ⟨hn9, hn⟩ := and_e hn
  obtain ⟨hn10, hn⟩ := and_e hn
  obtain ⟨hn11, hn⟩ := and_e hn
  obtain ⟨hn12, hn⟩ := and_e hn
  obtain ⟨hn13, hn⟩ := and_e hn
  obtain ⟨hn14, hn⟩ := and_e hn
  obtain ⟨hn15, hn⟩ := and_e hn
  obtain ⟨hn16, hn⟩ := and_e hn
  obtain ⟨hn17, hn⟩ := and_e hn
  obtain ⟨hn18, hn⟩ := and_e hn
  have hn19 := hn
  obtain ⟨w_PENDING, ev_PENDING⟩ := exa_v hn0
  have E_PENDING := Exa.start ev_PENDING hn0
  have S_PENDING := Sta.start ev_PENDING (Or.inr ⟨hw _ (List.mem_of_getElem? (i := 3) rfl), hw _ (List.mem_of_getElem? (i := 4) rfl)⟩)
  obtain ⟨w_QUEUED, ev_QUEUED⟩ := exa_v hn1
  have E_QUEUED := Exa.start ev_QUEUED hn1
  have S_QUEUED := Sta.start ev_QUEUED (Or.inr ⟨hw _ (List.mem_of_getElem? (i := 3) rfl), hw _ (List.mem_of_getElem? (i := 7) rfl)⟩)
  obtain ⟨w_EXECUTING, ev_EXECUTING⟩ := exa_v hn2
  have E_EXECUTING := Exa.start ev_EXECUTING hn2
  have S_EXECUTING := Sta.start ev_EXECUTING (Or.inr ⟨hw _ (List.mem_of_getElem? (i := 3) rfl), hw _ (List.mem_of_getElem? (i := 9) rfl)⟩)
  obtain ⟨w_COMPLETED, ev_COMPLETED⟩ := exa_v hn3
  have E_COMPLETED := Exa.start ev_COMPLETED hn3
  have S_COMPLETED := Sta.start ev_COMPLETED (Or.inr ⟨hw _ (List.mem_of_getElem? (i := 3) rfl), hw _ (List.mem_of_getElem? (i := 11) rfl)⟩)
  obtain ⟨w_ERROR, ev_ERROR⟩ := exa_v hn4
  have E_ERROR := Exa.start ev_ERROR hn4
  have S_ERROR := Sta.start ev_ERROR (Or.inr ⟨hw _ (List.mem_of_getElem? (i := 3) rfl), hw _ (List.mem_of_getElem? (i := 13) rfl)⟩)
  obtain ⟨w_ABORTED, ev_ABORTED⟩ := exa_v hn5
  have E_ABORTED := Exa.start ev_ABORTED hn5
  have S_ABORTED := Sta.start ev_ABORTED (Or.inr ⟨hw _ (List.mem_of_getElem? (i := 3) rfl), hw _ (List.mem_of_getElem? (i := 15) rfl)⟩)
  obtain ⟨w_UNKNOWN, ev_UNKNOWN⟩ := exa_v hn6
  have E_UNKNOWN := Exa.start ev_UNKNOWN hn6
  have S_UNKNOWN := Sta.start ev_UNKNOWN (Or.inr ⟨hw _ (List.mem_of_getElem? (i := 3) rfl), hw _ (List.mem_of_getElem? (i := 17) rfl)⟩)
  obtain ⟨w_HELD, ev_HELD⟩ := exa_v hn7
  have E_HELD := Exa.start ev_HELD hn7
  have S_HELD := Sta.start ev_HELD (Or.inr ⟨hw _ (List.mem_of_getElem? (i := 3) rfl), hw _ (List.mem_of_getElem? (i := 19) rfl)⟩)
  obtain ⟨w_SUSPENDED, ev_SUSPENDED⟩ := exa_v hn8
  have E_SUSPENDED := Exa.start ev_SUSPENDED hn8
  have S_SUSPENDED := Sta.start ev_SUSPENDED (Or.inr ⟨hw _ (List.mem_of_getElem? (i := 3) rfl), hw _ (List.mem_of_getElem? (i := 21) rfl)⟩)
  obtain ⟨w_ARCHIVED, ev_ARCHIVED⟩ := exa_v hn9
  have E_ARCHIVED := Exa.start ev_ARCHIVED hn9
  have S_ARCHIVED := Sta.start ev_ARCHIVED (Or.inr ⟨hw _ (List.mem_of_getElem? (i := 3) rfl), hw _ (List.mem_of_getElem? (i := 23) rfl)⟩)
  have O_PENDING_ordinal := own_fi ev_PENDING hn10
  have O_QUEUED_ordinal := own_fi ev_QUEUED hn11
  have O_EXECUTING_ordinal := own_fi ev_EXECUTING hn12
  have O_COMPLETED_ordinal := own_fi ev_COMPLETED hn13
  have O_ERROR_ordinal := own_fi ev_ERROR hn14
  have O_HELD_ordinal := own_fi ev_HELD hn15
  have O_SUSPENDED_ordinal := own_fi ev_SUSPENDED hn16
  have O_ARCHIVED_ordinal := own_fi ev_ARCHIVED hn17
  have O_ABORTED_ordinal := own_fi ev_ABORTED hn18
  have O_UNKNOWN_ordinal := own_fi ev_UNKNOWN hn19
  obtain ⟨n, o, h1, h2, h3, _, L, rfl, ⟨rfl, N⟩, hq⟩ := rm0 l s _ hw tables_1 i0 w_PENDING w_QUEUED w_EXECUTING w_COMPLETED w_ERROR w_ABORTED w_UNKNOWN w_HELD w_SUSPENDED w_ARCHIVED s.heap s.heap.size (Nat.le_refl _) S_PENDING S_QUEUED S_EXECUTING S_COMPLETED S_ERROR S_ABORTED S_UNKNOWN S_HELD S_SUSPENDED S_ARCHIVED E_PENDING E_QUEUED E_EXECUTING E_COMPLETED E_ERROR E_ABORTED E_UNKNOWN E_HELD E_SUSPENDED E_ARCHIVED (own_ne O_PENDING_ordinal O_QUEUED_ordinal (by decide)) (own_ne O_PENDING_ordinal O_EXECUTING_ordinal (by decide)) (own_ne O_QUEUED_ordinal O_PENDING_ordinal (by decide)) (own_ne O_QUEUED_ordinal O_EXECUTING_ordinal (by decide)) (own_ne O_EXECUTING_ordinal O_PENDING_ordinal (by decide)) (own_ne O_EXECUTING_ordinal O_QUEUED_ordinal (by decide)) (own_ne O_COMPLETED_ordinal O_PENDING_ordinal (by decide)) (own_ne O_COMPLETED_ordinal O_QUEUED_ordinal (by decide)) (own_ne O_COMPLETED_ordinal O_EXECUTING_ordinal (by decide)) (own_ne O_ERROR_ordinal O_PENDING_ordinal (by decide)) (own_ne O_ERROR_ordinal O_QUEUED_ordinal (by decide)) (own_ne O_ERROR_ordinal O_EXECUTING_ordinal (by decide)) (own_ne O_ABORTED_ordinal O_PENDING_ordinal (by decide)) (own_ne O_ABORTED_ordinal O_QUEUED_ordinal (by decide)) (own_ne O_ABORTED_ordinal O_EXECUTING_ordinal (by decide)) (own_ne O_UNKNOWN_ordinal O_PENDING_ordinal (by decide)) (own_ne O_UNKNOWN_ordinal O_QUEUED_ordinal (by decide)) (own_ne O_UNKNOWN_ordinal O_EXECUTING_ordinal (by decide)) (own_ne O_HELD_ordinal O_PENDING_ordinal (by decide)) (own_ne O_HELD_ordinal O_QUEUED_ordinal (by decide)) (own_ne O_HELD_ordinal O_EXECUTING_ordinal (by decide)) (own_ne O_SUSPENDED_ordinal O_PENDING_ordinal (by decide)) (own_ne O_SUSPENDED_ordinal O_QUEUED_ordinal (by decide)) (own_ne O_SUSPENDED_ordinal O_EXECUTING_ordinal (by decide)) (own_ne O_ARCHIVED_ordinal O_PENDING_ordinal (by decide)) (own_ne O_ARCHIVED_ordinal O_QUEUED_ordinal (by decide)) (own_ne O_ARCHIVED_ordinal O_EXECUTING_ordinal (by decide)) p e ha hc hk s m _ below hf ((Spec.applies_iff_loose hf).mp happ).1 ⟨rfl, State.Warmed39.refl s, rfl⟩ trivial
  refine ⟨n, _, h1, h2, h3, hpost _ _ _ _ _ _ ⟨Cond.after_iff.mpr rfl, Cond.after_iff.mpr (eq_i res_at (Term.int_eval (1)) rfl), trivial⟩ ⟨hq.1, hq.2.1, (hq.2.2.sift fun y hy => Or.inr (N y hy)).mono (by decide) (by decide)⟩⟩
theorem main_1_1 : Claimed_1_1 := comes_1 fun _ _ _ _ _ _ h hF => ⟨h.1, hF⟩
theorem main_1_2 : Claimed_1_2 := comes_1 fun _ _ _ _ _ _ h hF => ⟨h.2.1, hF⟩

end Jvm.Pilot.@@N@@
namespace Jvm.Pilot.@@N@@
open Jvm Jvm.ClassFile Sem Op Lib Jvm.Free Jvm.Stand Jvm.Pilot.@@N@@.Jvm.D
/-! MADE BY PROGRAM (witnessworld.py) out of the Statement's table words and the real class files: 13 classes; the members and pool entries that the words name. The judged class is class 1, her method 1. -/
namespace start1
open Jvm.ClassFile
def u (s : String) : CpInfo := .utf8 (stringToUtf16 s)
/-- a pool by its gaps: so many unusable entries, then the entry; so many at the end -/
def gap : Nat → List CpInfo → List CpInfo
  | 0, r => r
  | n + 1, r => .unusable :: gap n r
def poolList (es : List (Nat × CpInfo)) (last : Nat) : List CpInfo := es.foldr (fun e r => gap e.1 (e.2 :: r)) (gap last [])
def pool (es : List (Nat × CpInfo)) (last : Nat) : Array CpInfo := ⟨poolList es last⟩
def fileOf (pool : Array CpInfo) (this : Nat) (attrs : Array Attribute := #[]) (ms : Array MethodInfo := #[]) (fl : Nat := 33) (sup : Nat := 0) (ifs : Array Nat := #[]) (fds : Array FieldInfo := #[]) : ClassFile where
  minorVersion := 0
  majorVersion := 65
  constantPool := pool
  accessFlags := fl
  thisClass := this
  superClass := sup
  interfaces := ifs
  fields := fds
  methods := ms
  attributes := attrs
def plain (name : String) (sup : Option ClassId) : Class where
  name := name
  kind := .ordinary
  loader := none
  accessFlags := 33
  super := sup
  interfaces := #[]
  cf := none
  fields := #[]
  methods := #[]
  instanceTypes := #[]
  staticTypes := #[]
  resolved := #[]
  callSites := []
  init := .initialized
  statics := none
  mirror := none

def pool0 : Array CpInfo := pool [(5, u "<init>"), (0, u "()V"), (1, .class_ 10), (1, u "java/lang/Object")] 113

def k0m0 : Method := { name := "<init>", desc := "()V", sig := { parameters := [], returnType := none }, accessFlags := 1, code := none }
/-- java/lang/Object -/
def k0 : Class := { plain "java/lang/Object" none with
  accessFlags := 33
  interfaces := #[]
  cf := some (fileOf pool0 8 #[] #[{ accessFlags := 1, nameIndex := 5, descriptorIndex := 6, attributes := #[] }] 33 0 #[] #[])
  fields := #[]
  methods := #[k0m0]
  instanceTypes := #[]
  staticTypes := #[]
  resolved := Array.replicate 124 none
  statics := none }

def pool1 : Array CpInfo := pool [(2, .class_ 4), (1, u "java/lang/Object"), (0, u "<init>"), (0, u "()V"), (0, .class_ 8), (0, u "com/example/vo_query_server/voqueryserver/Phase"), (0, .fieldref 7 10), (0, .nameAndType 11 12), (0, u "PENDING"), (0, u "Lcom/example/vo_query_server/voqueryserver/Phase;"), (0, .fieldref 7 14), (0, .nameAndType 15 12), (0, u "QUEUED"), (0, .fieldref 7 17), (0, .nameAndType 18 12), (0, u "EXECUTING"), (0, .fieldref 7 20), (0, .nameAndType 21 12), (0, u "COMPLETED"), (0, .fieldref 7 23), (0, .nameAndType 24 12), (0, u "ERROR"), (0, .fieldref 7 26), (0, .nameAndType 27 12), (0, u "ABORTED"), (0, .fieldref 7 29), (0, .nameAndType 30 12), (0, u "UNKNOWN"), (0, .fieldref 7 32), (0, .nameAndType 33 12), (0, u "HELD"), (0, .fieldref 7 35), (0, .nameAndType 36 12), (0, u "SUSPENDED"), (0, .fieldref 7 38), (0, .nameAndType 39 12), (0, u "ARCHIVED"), (0, .integer 2147483647), (0, .methodref 7 42), (0, .nameAndType 43 44), (0, u "isActive"), (0, u "()Z"), (0, .methodref 7 46), (0, .nameAndType 47 44), (0, u "isRunning"), (0, .class_ 49), (0, u "com/example/vo_query_server/voqueryserver/PhaseIsActivePinLaw"), (2, u "law"), (0, u "(I)Z")] 5

def k1m0 : Method := { name := "<init>", desc := "()V", sig := { parameters := [], returnType := none }, accessFlags := 1, code := none }
def k1c1 : Code := { maxStack := 4, maxLocals := 7, code := code, exceptionTable := #[], attributes := #[] }
def k1m1 : Method := { name := "law", desc := "(I)Z", sig := { parameters := [.int], returnType := some .boolean }, accessFlags := 9, code := some k1c1 }
/-- com/example/vo_query_server/voqueryserver/PhaseIsActivePinLaw -/
def k1 : Class := { plain "com/example/vo_query_server/voqueryserver/PhaseIsActivePinLaw" (some 0) with
  accessFlags := 49
  interfaces := #[]
  cf := some (fileOf pool1 48 #[] #[{ accessFlags := 1, nameIndex := 5, descriptorIndex := 6, attributes := #[] }, { accessFlags := 9, nameIndex := 52, descriptorIndex := 53, attributes := #[] }] 49 2 #[] #[])
  fields := #[]
  methods := #[k1m0, k1m1]
  instanceTypes := #[]
  staticTypes := #[]
  resolved := Array.replicate 59 none
  statics := none }

def pool2 : Array CpInfo := pool [(1, .class_ 2), (0, u "java/lang/constant/Constable"), (0, .class_ 4), (0, u "java/lang/Object")] 6

/-- java/lang/constant/Constable -/
def k2 : Class := { plain "java/lang/constant/Constable" (some 0) with
  accessFlags := 1537
  interfaces := #[]
  cf := some (fileOf pool2 1 #[] #[] 1537 3 #[] #[])
  fields := #[]
  methods := #[]
  instanceTypes := #[]
  staticTypes := #[]
  resolved := Array.replicate 11 none
  statics := none }

def pool3 : Array CpInfo := pool [(1, .class_ 2), (0, u "java/lang/Comparable"), (0, .class_ 4), (0, u "java/lang/Object")] 7

/-- java/lang/Comparable -/
def k3 : Class := { plain "java/lang/Comparable" (some 0) with
  accessFlags := 1537
  interfaces := #[]
  cf := some (fileOf pool3 1 #[] #[] 1537 3 #[] #[])
  fields := #[]
  methods := #[]
  instanceTypes := #[]
  staticTypes := #[]
  resolved := Array.replicate 12 none
  statics := none }

def pool4 : Array CpInfo := pool [(1, .class_ 2), (0, u "java/io/Serializable"), (0, .class_ 4), (0, u "java/lang/Object")] 2

/-- java/io/Serializable -/
def k4 : Class := { plain "java/io/Serializable" (some 0) with
  accessFlags := 1537
  interfaces := #[]
  cf := some (fileOf pool4 1 #[] #[] 1537 3 #[] #[])
  fields := #[]
  methods := #[]
  instanceTypes := #[]
  staticTypes := #[]
  resolved := Array.replicate 7 none
  statics := none }

def pool5 : Array CpInfo := pool [(2, .class_ 4), (1, u "java/lang/Enum"), (0, u "name"), (0, u "Ljava/lang/String;"), (2, u "ordinal"), (0, u "I"), (1, .class_ 14), (1, u "java/lang/Object"), (4, u "hash"), (86, .class_ 108), (1, u "java/lang/Enum$EnumDesc"), (2, .class_ 112), (0, u "java/lang/constant/Constable"), (0, .class_ 114), (0, u "java/lang/Comparable"), (0, .class_ 116), (0, u "java/io/Serializable")] 87

/-- java/lang/Enum -/
def k5 : Class := { plain "java/lang/Enum" (some 0) with
  accessFlags := 1057
  interfaces := #[2, 3, 4]
  cf := some (fileOf pool5 2 #[.nestMembers #[106]] #[] 1057 12 #[111, 113, 115] #[{ accessFlags := 18, nameIndex := 5, descriptorIndex := 6, attributes := #[] }, { accessFlags := 18, nameIndex := 9, descriptorIndex := 10, attributes := #[] }, { accessFlags := 2, nameIndex := 19, descriptorIndex := 10, attributes := #[] }])
  fields := #[{ name := "name", type := (.object "java/lang/String"), accessFlags := 18, slot := 0, constantValue := 0 }, { name := "ordinal", type := .int, accessFlags := 18, slot := 1, constantValue := 0 }, { name := "hash", type := .int, accessFlags := 2, slot := 2, constantValue := 0 }]
  methods := #[]
  instanceTypes := #[(.object "java/lang/String"), .int, .int]
  staticTypes := #[]
  resolved := Array.replicate 204 none
  statics := none }

def pool6 : Array CpInfo := pool [(1, .class_ 2), (0, u "com/example/vo_query_server/voqueryserver/Phase"), (0, .fieldref 1 4), (0, .nameAndType 5 6), (0, u "PENDING"), (0, u "Lcom/example/vo_query_server/voqueryserver/Phase;"), (0, .fieldref 1 8), (0, .nameAndType 9 6), (0, u "QUEUED"), (0, .fieldref 1 11), (0, .nameAndType 12 6), (0, u "EXECUTING"), (2, u "COMPLETED"), (2, u "ERROR"), (2, u "ABORTED"), (2, u "UNKNOWN"), (2, u "HELD"), (2, u "SUSPENDED"), (2, u "ARCHIVED"), (2, u "$VALUES"), (0, u "[Lcom/example/vo_query_server/voqueryserver/Phase;"), (6, .class_ 46), (1, u "java/lang/Enum"), (28, u "isActive"), (0, u "()Z"), (1, u "isRunning")] 4

def k6c0 : Code := { maxStack := 2, maxLocals := 1, code := prog_95_method_4_code, exceptionTable := #[], attributes := #[] }
def k6m0 : Method := { name := "isActive", desc := "()Z", sig := { parameters := [], returnType := some .boolean }, accessFlags := 0, code := some k6c0 }
def k6c1 : Code := { maxStack := 2, maxLocals := 1, code := prog_95_method_5_code, exceptionTable := #[], attributes := #[] }
def k6m1 : Method := { name := "isRunning", desc := "()Z", sig := { parameters := [], returnType := some .boolean }, accessFlags := 0, code := some k6c1 }
/-- com/example/vo_query_server/voqueryserver/Phase -/
def k6 : Class := { plain "com/example/vo_query_server/voqueryserver/Phase" (some 5) with
  accessFlags := 16432
  interfaces := #[]
  cf := some (fileOf pool6 1 #[] #[{ accessFlags := 0, nameIndex := 75, descriptorIndex := 76, attributes := #[] }, { accessFlags := 0, nameIndex := 78, descriptorIndex := 76, attributes := #[] }] 16432 44 #[] #[{ accessFlags := 16409, nameIndex := 5, descriptorIndex := 6, attributes := #[] }, { accessFlags := 16409, nameIndex := 9, descriptorIndex := 6, attributes := #[] }, { accessFlags := 16409, nameIndex := 12, descriptorIndex := 6, attributes := #[] }, { accessFlags := 16409, nameIndex := 15, descriptorIndex := 6, attributes := #[] }, { accessFlags := 16409, nameIndex := 18, descriptorIndex := 6, attributes := #[] }, { accessFlags := 16409, nameIndex := 21, descriptorIndex := 6, attributes := #[] }, { accessFlags := 16409, nameIndex := 24, descriptorIndex := 6, attributes := #[] }, { accessFlags := 16409, nameIndex := 27, descriptorIndex := 6, attributes := #[] }, { accessFlags := 16409, nameIndex := 30, descriptorIndex := 6, attributes := #[] }, { accessFlags := 16409, nameIndex := 33, descriptorIndex := 6, attributes := #[] }, { accessFlags := 4122, nameIndex := 36, descriptorIndex := 37, attributes := #[] }])
  fields := #[{ name := "PENDING", type := (.object "com/example/vo_query_server/voqueryserver/Phase"), accessFlags := 16409, slot := 0, constantValue := 0 }, { name := "QUEUED", type := (.object "com/example/vo_query_server/voqueryserver/Phase"), accessFlags := 16409, slot := 1, constantValue := 0 }, { name := "EXECUTING", type := (.object "com/example/vo_query_server/voqueryserver/Phase"), accessFlags := 16409, slot := 2, constantValue := 0 }, { name := "COMPLETED", type := (.object "com/example/vo_query_server/voqueryserver/Phase"), accessFlags := 16409, slot := 3, constantValue := 0 }, { name := "ERROR", type := (.object "com/example/vo_query_server/voqueryserver/Phase"), accessFlags := 16409, slot := 4, constantValue := 0 }, { name := "ABORTED", type := (.object "com/example/vo_query_server/voqueryserver/Phase"), accessFlags := 16409, slot := 5, constantValue := 0 }, { name := "UNKNOWN", type := (.object "com/example/vo_query_server/voqueryserver/Phase"), accessFlags := 16409, slot := 6, constantValue := 0 }, { name := "HELD", type := (.object "com/example/vo_query_server/voqueryserver/Phase"), accessFlags := 16409, slot := 7, constantValue := 0 }, { name := "SUSPENDED", type := (.object "com/example/vo_query_server/voqueryserver/Phase"), accessFlags := 16409, slot := 8, constantValue := 0 }, { name := "ARCHIVED", type := (.object "com/example/vo_query_server/voqueryserver/Phase"), accessFlags := 16409, slot := 9, constantValue := 0 }, { name := "$VALUES", type := (.array (.object "com/example/vo_query_server/voqueryserver/Phase")), accessFlags := 4122, slot := 10, constantValue := 0 }]
  methods := #[k6m0, k6m1]
  instanceTypes := #[(.object "java/lang/String"), .int, .int]
  staticTypes := #[(.object "com/example/vo_query_server/voqueryserver/Phase"), (.object "com/example/vo_query_server/voqueryserver/Phase"), (.object "com/example/vo_query_server/voqueryserver/Phase"), (.object "com/example/vo_query_server/voqueryserver/Phase"), (.object "com/example/vo_query_server/voqueryserver/Phase"), (.object "com/example/vo_query_server/voqueryserver/Phase"), (.object "com/example/vo_query_server/voqueryserver/Phase"), (.object "com/example/vo_query_server/voqueryserver/Phase"), (.object "com/example/vo_query_server/voqueryserver/Phase"), (.object "com/example/vo_query_server/voqueryserver/Phase"), (.array (.object "com/example/vo_query_server/voqueryserver/Phase"))]
  resolved := Array.replicate 83 none
  statics := some 0 }

def pool7 : Array CpInfo := pool [(1, u "java/lang/Cloneable"), (0, .class_ 1), (0, u "java/lang/Object"), (0, .class_ 3)] 3

/-- java/lang/Cloneable -/
def k7 : Class := { plain "java/lang/Cloneable" (some 0) with
  accessFlags := 1537
  interfaces := #[]
  cf := some (fileOf pool7 2 #[] #[] 1537 4 #[] #[])
  fields := #[]
  methods := #[]
  instanceTypes := #[]
  staticTypes := #[]
  resolved := Array.replicate 8 none
  statics := none }

/-- the primitive byte -/
def k8 : Class := { plain "byte" none with kind := .primitive 'B', accessFlags := 0x411 }
/-- [B -/
def k9 : Class := { plain "[B" (some 0) with kind := .array 8 .byte, interfaces := #[7, 4], accessFlags := 1041 }

/-- the primitive int -/
def k10 : Class := { plain "int" none with kind := .primitive 'I', accessFlags := 0x411 }
/-- [I -/
def k11 : Class := { plain "[I" (some 0) with kind := .array 10 .int, interfaces := #[7, 4], accessFlags := 1041 }

/-- [Lcom/example/vo_query_server/voqueryserver/Phase; -/
def k12 : Class := { plain "[Lcom/example/vo_query_server/voqueryserver/Phase;" (some 0) with kind := .array 6 (.object "com/example/vo_query_server/voqueryserver/Phase"), interfaces := #[7, 4], accessFlags := 1041 }

def heap : Heap := #[{ cls := 6, slots := #[.ref 1, .ref 2, .ref 3, .ref 4, .ref 5, .ref 6, .ref 7, .ref 8, .ref 9, .ref 10, .null], vm := .statics 6 },
  { cls := 6, slots := #[.null, .int 0, .int 0], vm := .none },
  { cls := 6, slots := #[.null, .int 1, .int 0], vm := .none },
  { cls := 6, slots := #[.null, .int 2, .int 0], vm := .none },
  { cls := 6, slots := #[.null, .int 3, .int 0], vm := .none },
  { cls := 6, slots := #[.null, .int 4, .int 0], vm := .none },
  { cls := 6, slots := #[.null, .int 5, .int 0], vm := .none },
  { cls := 6, slots := #[.null, .int 6, .int 0], vm := .none },
  { cls := 6, slots := #[.null, .int 7, .int 0], vm := .none },
  { cls := 6, slots := #[.null, .int 8, .int 0], vm := .none },
  { cls := 6, slots := #[.null, .int 9, .int 0], vm := .none }]
def classes : Array Class := #[k0, k1, k2, k3, k4, k5, k6, k7, k8, k9, k10, k11, k12]
def interned : List (Array UInt16 × Addr) := []
def slotsUsed : Nat := 41
def theMethod : MethodId := ⟨1, 1⟩
def args0 : Array Value := #[.int 5]
def aboutOver (below : List Frame) : State where
  vm := { classes := classes, interned := interned.toArray }
  heap := heap
  slotsUsed := slotsUsed
  threads := #[{ frames := .invoking theMethod args0 :: below }]
def below0 : List Frame := [.native { method := ⟨0, 0⟩, args := #[] }]
def about1 : State := aboutOver below0
def p0 : Program := .bare "" "" ""
def e0 : Env := launch0.env 0 0 0
theorem w_frames : about1.frames = Frame.invoking theMethod args0 :: below0 := rfl
set_option maxRecDepth 65536 in
theorem w_args : argsFit about1.vm theMethod args0 = true := by decide +kernel
set_option maxRecDepth 65536 in
theorem w_heap : heapFits about1 = true := by decide +kernel
set_option maxRecDepth 65536 in
theorem w_runnable : about1.curStatus? = some .runnable := by decide +kernel
set_option maxRecDepth 65536 in
theorem w_alone : about1.alone = true := by decide +kernel
set_option maxRecDepth 65536 in
theorem w_named : about1.methodNamed? x = some theMethod := by decide +kernel
set_option maxRecDepth 65536 in
theorem w_hears : about1.hears theMethod below0 = true := by decide +kernel
set_option maxRecDepth 65536 in
theorem w_ripe : about1.ripe theMethod args0 below0 = true := by decide +kernel
theorem w_running : about1.status = .running := rfl
set_option maxRecDepth 65536 in
theorem w_room : about1.hasRoom e0.platform room_1 = true :=
  launch0.hasRoom_least _ room_1 (by decide +kernel) (by decide +kernel) (by decide +kernel) (by decide +kernel) (by decide +kernel) (by decide +kernel)
theorem allAtoms_all (ts : List Jvm.Cond) (a : Array Jvm.Value) (st : Jvm.State) : (allAtoms ts).before a st = ts.all (fun c => c.before a st) := by
  induction ts with
  | nil => rfl
  | cons c t ih =>
    show (Jvm.Cond.and c (allAtoms t)).before a st = _
    rw [Jvm.Cond.before_and, ih, List.all_cons]
def words1 : List Jvm.Cond := Jvm.Cond.code x code maxLocals ret :: tables_1
/-- a 'code' word, met by the world's own term for the bytes: nothing is compared byte by byte -/
theorem code_word {y : MethodName} {bytes : ByteArray} {mx : Nat} {rt : Option FieldType} {a : Array Value} {s : State} {m : MethodId} {meth : Method} {c : Code} (h1 : s.methodNamed? y = some m) (h2 : s.vm.method? m = some meth) (h3 : meth.code = some c) (h4 : c.code = bytes)
    (h5 : (c.maxLocals == mx && c.exceptionTable.isEmpty && decide (c.maxStack ≤ mostOperands) && decide (meth.sig.returnType = rt) && !meth.locks && decide (parseMethodDescriptor y.desc = some meth.sig)) = true) : (Jvm.Cond.code y bytes mx rt).before a s = true := by
  simp only [Bool.and_eq_true, beq_iff_eq, Bool.not_eq_true', decide_eq_true_eq] at h5
  obtain ⟨⟨⟨⟨⟨g1, g2⟩, g3⟩, g4⟩, g5⟩, g6⟩ := h5
  simp [Cond.before, Cond.holds, Cond.value, h1, h2, h3, h4, g1, g2, g3, g4, g5, g6]
def isCode : Jvm.Cond → Bool
  | .code _ _ _ _ => true
  | _ => false
theorem all_split {L : List Jvm.Cond} {P : Jvm.Cond → Bool} (h1 : L.all (fun c => isCode c || P c) = true) (h2 : ∀ c ∈ L.filter isCode, P c = true) : L.all P = true := by
  refine List.all_eq_true.mpr fun c hc => ?_
  have h := List.all_eq_true.mp h1 c hc
  rcases Bool.eq_false_or_eq_true (isCode c) with hi | hi
  · exact h2 c (List.mem_filter.mpr ⟨hc, hi⟩)
  · simpa [hi] using h
set_option maxRecDepth 65536 in
theorem w_c0 : (Jvm.Cond.code x code maxLocals ret).before args0 about1 = true := code_word (m := ⟨1, 1⟩) (meth := k1m1) (c := k1c1) (by decide +kernel) rfl rfl rfl (by decide +kernel)
set_option maxRecDepth 65536 in
theorem w_c1 : (Jvm.Cond.code ({ cls := "com/example/vo_query_server/voqueryserver/Phase", name := "isActive", desc := "()Z" } : Jvm.MethodName) prog_95_method_4_code (1 : Nat) (Option.some Jvm.ClassFile.FieldType.boolean)).before args0 about1 = true := code_word (m := ⟨6, 0⟩) (meth := k6m0) (c := k6c0) (by decide +kernel) rfl rfl rfl (by decide +kernel)
set_option maxRecDepth 65536 in
theorem w_c2 : (Jvm.Cond.code ({ cls := "com/example/vo_query_server/voqueryserver/Phase", name := "isRunning", desc := "()Z" } : Jvm.MethodName) prog_95_method_5_code (1 : Nat) (Option.some Jvm.ClassFile.FieldType.boolean)).before args0 about1 = true := code_word (m := ⟨6, 1⟩) (meth := k6m1) (c := k6c1) (by decide +kernel) rfl rfl rfl (by decide +kernel)
def codes1 : List Jvm.Cond := [Jvm.Cond.code x code maxLocals ret, Jvm.Cond.code ({ cls := "com/example/vo_query_server/voqueryserver/Phase", name := "isActive", desc := "()Z" } : Jvm.MethodName) prog_95_method_4_code (1 : Nat) (Option.some Jvm.ClassFile.FieldType.boolean), Jvm.Cond.code ({ cls := "com/example/vo_query_server/voqueryserver/Phase", name := "isRunning", desc := "()Z" } : Jvm.MethodName) prog_95_method_5_code (1 : Nat) (Option.some Jvm.ClassFile.FieldType.boolean)]
set_option maxRecDepth 65536 in
theorem codes_eq : words1.filter isCode = codes1 := rfl
theorem w_codes : ∀ c ∈ words1.filter isCode, c.before args0 about1 = true := by
  rw [codes_eq]
  intro c hc
  simp only [codes1, List.mem_cons, List.not_mem_nil, or_false] at hc
  rcases hc with rfl | rfl | rfl
  · exact w_c0
  · exact w_c1
  · exact w_c2
set_option maxRecDepth 65536 in
theorem w_t1 : (words1.take 24).all (fun c => isCode c || c.before args0 about1) = true := by decide +kernel
set_option maxRecDepth 65536 in
theorem w_t2 : (words1.drop 24).all (fun c => isCode c || c.before args0 about1) = true := by decide +kernel
theorem w_tables : (allAtoms (Jvm.Cond.code x code maxLocals ret :: tables_1)).before args0 about1 = true := by
  rw [allAtoms_all]
  show words1.all (fun c => c.before args0 about1) = true
  refine all_split ?_ w_codes
  rw [← List.take_append_drop 24 words1, List.all_append, w_t1, w_t2]
  rfl
set_option maxRecDepth 65536 in
theorem w_case : (Jvm.Cond.and given_1 narrow_1).before args0 about1 = true := by decide +kernel
theorem w_applies : (headSpec (Jvm.Cond.code x code maxLocals ret :: tables_1) room_1).applies x e0.platform about1 = true :=
  (Spec.applies_iff w_frames).mpr ⟨w_running, w_runnable, w_alone, w_named, w_hears, w_ripe, w_room, w_tables⟩
theorem atStart : AtStart classFile x code maxLocals ret World_1 tables_1 room_1 Calls_1 rest_1 Pre_1 launch0 p0 e0 about1 theMethod args0 below0 :=
  ⟨lists_1, trivial, launch0.admits_env _ _ _, launch0.least_env, fairChoices_fair.cas, fairChoices_fair.clock, w_frames, w_args, w_heap, w_applies, trivial, trivial, w_case⟩
end start1
theorem witness_1 : WitnessClaimed_1 := ⟨start1.p0, start1.e0, start1.about1, start1.theMethod, start1.args0, start1.below0, start1.atStart⟩
end Jvm.Pilot.@@N@@
