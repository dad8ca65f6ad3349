import JvmDerived
import JvmDerived.Pilot.@@N@@Statement
import JvmDerived.Pilot.@@N@@Code
set_option linter.unusedVariables false
set_option linter.unusedSimpArgs false
namespace Jvm.RoadKit
open Sem ClassFile Op Lib Jvm.Stand Jvm.Free Jvm.LawKit
section New
variable {p : Program} {l : Launch} {e : Env} {R : Room} {s : State} {m : MethodId} {args : Array Value} {below : List Frame} {meth : Method} {c : Code} {T : State} {locs : List Loc} {cells slots : Nat}
theorem retI (X : Stand p l e R s m args below meth c T locs cells slots) (hx : p.tables.exec = Jvm.exec) {pc : Nat} {Ls : Array Slot} {z : Int32} {rest : List Value} (hret : meth.sig.returnType = some .int) (hd : decode c.code pc = .ok (.ireturn, 1)) {fs : List Frame}
    (hl : ∀ (f : JFrame) (acts : List Action), f.method = m → f.locked = none → f.entered = [] → (doReturn e (T.setTop f) acts (some (.int z))).1 = T.setFrames fs) : Steps p.tables e below (T.setTop (mkF m pc Ls (.int z :: rest))) (T.setFrames fs) := by
  have hm' : T.vm.method? m = some meth := X.method'
  have hn : narrow .int (.int z) = .int z := rfl
  show Steps p.tables e below (T.setTop { method := m, pc := pc, locals := Ls, stack := _ :: rest, locked := none }) _
  jvm_step X.here [X.here.top, hx, hd, hm', hret, hn]
  first | (intro acts; rw [hl _ acts rfl rfl rfl]) | rw [hl _ _ rfl rfl rfl]
  exact Steps.refl _
end New
end Jvm.RoadKit
namespace Jvm.Pilot.@@N@@
open Jvm Jvm.ClassFile Sem Op Lib Jvm.Free Jvm.Stand Jvm.LawKit Jvm.RoadKit Bundle Jvm.Pilot.@@N@@.Jvm.D
theorem own_fi {s : State} {args : Array Value} {t : Term} {C n d : String} {k : Int32} {x : Addr} (ht : t.eval args s none [] s = some (.ref x)) (h : (Jvm.Cond.eq (.field t C n d) (.int k)).value args s none s [] = some true) : s.fieldOf? x C n d = some (.int k) := by
  obtain ⟨u, v, e1, e2, k1, k2⟩ := cmp_v (Or.inl h)
  have e3 : (Term.int k).eval args s none [] s = some (.int k) := Term.int_eval k
  obtain rfl : v = .int k := Option.some.inj (e2.symm.trans e3)
  obtain ⟨z, rfl⟩ := k2
  have e4 : some true = some (decide (z = k)) := h.symm.trans (by simp [Cond.value, e1, e3])
  have e5 : z = k := of_decide_eq_true (Option.some.inj e4).symm
  subst e5
  exact (fld_at ht).symm.trans e1
theorem own_fr {s : State} {args : Array Value} {t t2 : Term} {C n d : String} {x y : Addr} (ht : t.eval args s none [] s = some (.ref x)) (ht2 : t2.eval args s none [] s = some (.ref y)) (h : (Jvm.Cond.eq (.field t C n d) t2).value args s none s [] = some true) : s.fieldOf? x C n d = some (.ref y) := by
  obtain ⟨u, v, e1, e2, k1, k2⟩ := cmp_v (Or.inl h)
  obtain rfl : v = .ref y := Option.some.inj (e2.symm.trans ht2)
  have hu : u.isRef = true := k2.2
  have e5 : u = .ref y := gotT (eq_R e1 ht2 hu rfl) h
  subst e5
  exact (fld_at ht).symm.trans e1
theorem own_ne {s : State} {a b : Addr} {C n d : String} {j k : Int32} (h1 : s.fieldOf? a C n d = some (.int j)) (h2 : s.fieldOf? b C n d = some (.int k)) (hne : j ≠ k) : a ≠ b := fun q => by
  subst q
  have h := h1.symm.trans h2
  injection h with h
  injection h with h
  exact hne h
theorem own_top31 (x : Int32) : 0 ≤ (x &&& 2147483647).toInt := by
  have h := c_mask x 2147483647 31 (by decide) (by decide)
  omega
theorem own_rem {x d : Int32} {n : Nat} (h0 : 0 ≤ x.toInt) (hd : d.toInt = n) (hn : 0 < n) : 0 ≤ (x % d).toInt ∧ (x % d).toInt < n := by
  have h := (c_irem x d n hd).1 h0
  constructor <;> rw [h]
  · exact Int.emod_nonneg _ (by omega)
  · exact Int.emod_lt_of_pos _ (by omega)
def pickF (p : Int32) (ka kb kc kd ke kf kg kh ki kj : Addr) : Addr := if p = 0 then ka else if p = 1 then kb else if p = 2 then kc else if p = 3 then kd else if p = 4 then ke else if p = 5 then kf else if p = 6 then kg else if p = 7 then kh else if p = 8 then ki else kj
def foF (p : Int32) (n r : Addr) : Addr := if p = 0 then n else if p = 8 then n else if p = 9 then n else r
def fiF (p : Int32) (r q n : Addr) : Addr := if p = 1 then r else if p = 2 then r else if p = 8 then r else if p = 9 then r else if p = 3 then q else n
def useF (p : Int32) (fi fo : Addr) : Addr := if p = 0 then fi else fo
theorem d1_0 : decode method_2_code 0 = .ok (.iload_n 0, 1) := by decide +kernel
theorem d1_1 : decode method_2_code 1 = .ok (.ifCond .ne 7, 3) := by decide +kernel
theorem d1_4 : decode method_2_code 4 = .ok (.getstatic 7, 3) := by decide +kernel
theorem d1_7 : decode method_2_code 7 = .ok (.areturn, 1) := by decide +kernel
theorem pn_1 : plainName "com/example/overbrenger/overbrenger/build/ColumnUsePinLaw" = true := by first | (simp [plainName, overriddenIn]; done) | decide +kernel
theorem ef_1 (m : MethodId) (x0 : Int32) : entryFrame m #[(.int x0)] 1 = mkF m 0 #[.val (.int x0)] [] := by first | (simp [entryFrame, mkF, argsToLocals, Value.category]; done) | rfl
theorem d1_8 : decode method_2_code 8 = .ok (.iload_n 0, 1) := by decide +kernel
theorem d1_9 : decode method_2_code 9 = .ok (.iconst 1, 1) := by decide +kernel
theorem d1_10 : decode method_2_code 10 = .ok (.if_icmp .ne 7, 3) := by decide +kernel
theorem d1_13 : decode method_2_code 13 = .ok (.getstatic 13, 3) := by decide +kernel
theorem d1_16 : decode method_2_code 16 = .ok (.areturn, 1) := by decide +kernel
theorem d1_17 : decode method_2_code 17 = .ok (.iload_n 0, 1) := by decide +kernel
theorem d1_18 : decode method_2_code 18 = .ok (.iconst 2, 1) := by decide +kernel
theorem d1_19 : decode method_2_code 19 = .ok (.if_icmp .ne 7, 3) := by decide +kernel
theorem d1_22 : decode method_2_code 22 = .ok (.getstatic 16, 3) := by decide +kernel
theorem d1_25 : decode method_2_code 25 = .ok (.areturn, 1) := by decide +kernel
theorem d1_26 : decode method_2_code 26 = .ok (.iload_n 0, 1) := by decide +kernel
theorem d1_27 : decode method_2_code 27 = .ok (.iconst 3, 1) := by decide +kernel
theorem d1_28 : decode method_2_code 28 = .ok (.if_icmp .ne 7, 3) := by decide +kernel
theorem d1_31 : decode method_2_code 31 = .ok (.getstatic 19, 3) := by decide +kernel
theorem d1_34 : decode method_2_code 34 = .ok (.areturn, 1) := by decide +kernel
theorem d1_35 : decode method_2_code 35 = .ok (.iload_n 0, 1) := by decide +kernel
theorem d1_36 : decode method_2_code 36 = .ok (.iconst 4, 1) := by decide +kernel
theorem d1_37 : decode method_2_code 37 = .ok (.if_icmp .ne 7, 3) := by decide +kernel
theorem d1_40 : decode method_2_code 40 = .ok (.getstatic 22, 3) := by decide +kernel
theorem d1_43 : decode method_2_code 43 = .ok (.areturn, 1) := by decide +kernel
theorem d1_44 : decode method_2_code 44 = .ok (.iload_n 0, 1) := by decide +kernel
theorem d1_45 : decode method_2_code 45 = .ok (.iconst 5, 1) := by decide +kernel
theorem d1_46 : decode method_2_code 46 = .ok (.if_icmp .ne 7, 3) := by decide +kernel
theorem d1_49 : decode method_2_code 49 = .ok (.getstatic 25, 3) := by decide +kernel
theorem d1_52 : decode method_2_code 52 = .ok (.areturn, 1) := by decide +kernel
theorem d1_53 : decode method_2_code 53 = .ok (.iload_n 0, 1) := by decide +kernel
theorem d1_54 : decode method_2_code 54 = .ok (.bipush 6, 2) := by decide +kernel
theorem d1_56 : decode method_2_code 56 = .ok (.if_icmp .ne 7, 3) := by decide +kernel
theorem d1_59 : decode method_2_code 59 = .ok (.getstatic 28, 3) := by decide +kernel
theorem d1_62 : decode method_2_code 62 = .ok (.areturn, 1) := by decide +kernel
theorem d1_63 : decode method_2_code 63 = .ok (.iload_n 0, 1) := by decide +kernel
theorem d1_64 : decode method_2_code 64 = .ok (.bipush 7, 2) := by decide +kernel
theorem d1_66 : decode method_2_code 66 = .ok (.if_icmp .ne 7, 3) := by decide +kernel
theorem d1_69 : decode method_2_code 69 = .ok (.getstatic 31, 3) := by decide +kernel
theorem d1_72 : decode method_2_code 72 = .ok (.areturn, 1) := by decide +kernel
theorem d1_73 : decode method_2_code 73 = .ok (.iload_n 0, 1) := by decide +kernel
theorem d1_74 : decode method_2_code 74 = .ok (.bipush 8, 2) := by decide +kernel
theorem d1_76 : decode method_2_code 76 = .ok (.if_icmp .ne 7, 3) := by decide +kernel
theorem d1_79 : decode method_2_code 79 = .ok (.getstatic 34, 3) := by decide +kernel
theorem d1_82 : decode method_2_code 82 = .ok (.areturn, 1) := by decide +kernel
theorem d1_83 : decode method_2_code 83 = .ok (.getstatic 37, 3) := by decide +kernel
theorem d1_86 : decode method_2_code 86 = .ok (.areturn, 1) := by decide +kernel
def Q1 (Z : State) (p1 : Int32) (w_PAD : Addr) (w_KENMERK : Addr) (w_BRON : Addr) (w_NAAM : Addr) (w_NIVEAU : Addr) (w_WAARDERING : Addr) (w_ARCHIEFVORMER : Addr) (w_BEPERKING : Addr) (w_FORMAAT_CODE : Addr) (w_FORMAAT_NAAM : Addr) (h0 : Heap) (n0 : Nat) (v : Option Value) (h : Heap) (L : List Loc) : Prop := v = some (.ref (pickF p1 w_PAD w_KENMERK w_BRON w_NAAM w_NIVEAU w_WAARDERING w_ARCHIEFVORMER w_BEPERKING w_FORMAAT_CODE w_FORMAAT_NAAM)) ∧ Fr n0 L ∧ h = h0
set_option maxRecDepth 65536 in
set_option maxHeartbeats 40000000 in
theorem rm1_f (l : Launch) (Z : State) (a0 : Array Value) (hw : ∀ d ∈ tables_1, d.before a0 Z = true) (ws : List Jvm.Cond) (p1 : Int32) (w_PAD : Addr) (w_KENMERK : Addr) (w_BRON : Addr) (w_NAAM : Addr) (w_NIVEAU : Addr) (w_WAARDERING : Addr) (w_ARCHIEFVORMER : Addr) (w_BEPERKING : Addr) (w_FORMAAT_CODE : Addr) (w_FORMAAT_NAAM : Addr) (h0 : Heap) (n0 : Nat) (Z0 : n0 ≤ h0.size) (S_PAD : Sta Z h0 "com/example/overbrenger/overbrenger/build/Column" "PAD" "Lcom/example/overbrenger/overbrenger/build/Column;" (.ref w_PAD)) (S_KENMERK : Sta Z h0 "com/example/overbrenger/overbrenger/build/Column" "KENMERK" "Lcom/example/overbrenger/overbrenger/build/Column;" (.ref w_KENMERK)) (S_BRON : Sta Z h0 "com/example/overbrenger/overbrenger/build/Column" "BRON" "Lcom/example/overbrenger/overbrenger/build/Column;" (.ref w_BRON)) (S_NAAM : Sta Z h0 "com/example/overbrenger/overbrenger/build/Column" "NAAM" "Lcom/example/overbrenger/overbrenger/build/Column;" (.ref w_NAAM)) (S_NIVEAU : Sta Z h0 "com/example/overbrenger/overbrenger/build/Column" "NIVEAU" "Lcom/example/overbrenger/overbrenger/build/Column;" (.ref w_NIVEAU)) (S_WAARDERING : Sta Z h0 "com/example/overbrenger/overbrenger/build/Column" "WAARDERING" "Lcom/example/overbrenger/overbrenger/build/Column;" (.ref w_WAARDERING)) (S_ARCHIEFVORMER : Sta Z h0 "com/example/overbrenger/overbrenger/build/Column" "ARCHIEFVORMER" "Lcom/example/overbrenger/overbrenger/build/Column;" (.ref w_ARCHIEFVORMER)) (S_BEPERKING : Sta Z h0 "com/example/overbrenger/overbrenger/build/Column" "BEPERKING" "Lcom/example/overbrenger/overbrenger/build/Column;" (.ref w_BEPERKING)) (S_FORMAAT_CODE : Sta Z h0 "com/example/overbrenger/overbrenger/build/Column" "FORMAAT_CODE" "Lcom/example/overbrenger/overbrenger/build/Column;" (.ref w_FORMAAT_CODE)) (S_FORMAAT_NAAM : Sta Z h0 "com/example/overbrenger/overbrenger/build/Column" "FORMAAT_NAAM" "Lcom/example/overbrenger/overbrenger/build/Column;" (.ref w_FORMAAT_NAAM)) (hc1 : p1 = (0 : Int32)) :
    MetFree l (⟨"com/example/overbrenger/overbrenger/build/ColumnUsePinLaw", "pick", "(I)Lcom/example/overbrenger/overbrenger/build/Column;"⟩ : MethodName) (head1 (Jvm.Cond.code (⟨"com/example/overbrenger/overbrenger/build/ColumnUsePinLaw", "pick", "(I)Lcom/example/overbrenger/overbrenger/build/Column;"⟩ : MethodName) method_2_code 1 (some (.object "com/example/overbrenger/overbrenger/build/Column")) :: ws) ({ frames := 0, cells := 0, slots := 0, locals := 0 } : Room)) (fun a U => a = #[(.int p1)] ∧ Z.Warmed39 U.vm ∧ U.heap = h0) (fun _ _ _ _ _ => True) (fun _ U o U' => ∃ v L, o = .returned v ∧ Q1 Z p1 w_PAD w_KENMERK w_BRON w_NAAM w_NIVEAU w_WAARDERING w_ARCHIEFVORMER w_BEPERKING w_FORMAAT_CODE w_FORMAAT_NAAM h0 n0 v U'.heap L ∧ FrameEnd U o U' L ({ frames := 0, cells := 0, slots := 0, locals := 0 } : Room).cells ({ frames := 0, cells := 0, slots := 0, locals := 0 } : Room).slots) := by
  refine MetFree.of_bodySF (plainFor_of_name pn_1) hisR ?_
  intro p e s m args below meth c s₁ Bd hml0 hP hK
  obtain ⟨rfl, hZ, hh⟩ := hP
  have hx := Bd.exec
  have hby := Bd.bytes
  have hml : c.maxLocals = 1 := hml0
  have hown : s.vm.findClass "com/example/overbrenger/overbrenger/build/ColumnUsePinLaw" = some m.cls := findClass_of_methodNamed Bd.named
  have hnm := (name_of_methodNamed Bd.named Bd.method).1
  have X0 : Stand p l e ({ frames := 0, cells := 0, slots := 0, locals := 0 } : Room) s m #[(.int p1)] below meth c s₁ [] 0 0 := Stand.of_body Bd
  have e0 : s₁.heap = h0 := by rw [← hh, Bd.state]; rfl
  have N0 := Fr.nil n0
  have pre0 : ∀ t, Steps p.tables e below (s₁.setTop (mkF m 0 #[.val (.int p1)] [])) t → Steps p.tables e below (s₁.setTop (entryFrame m #[(.int p1)] 1)) t := fun t k => castTop (ef_1 m p1) k
  -- 3. LAWS
  obtain ⟨T3, X3, e3, st3⟩ := getS2 X0 hx hZ hown (host := "") (Or.inl (hw _ (List.mem_of_getElem? (i := 5) rfl))) Via.refl e0 S_PAD (g := (mkF m 4 #[.val (.int p1)] [])) rfl (hb hby d1_4)
  obtain ⟨fs, hr, hrun, hended, hW, hsame⟩ := X3.leave (v := some (.ref w_PAD)) (fun h => by rw [Bd.returns] at h; cases h)
  refine ⟨_, _, pre0 _ ?_, hrun, hended, _, _, rfl, ?_, ⟨_, rfl⟩, hW, hsame.mono (by decide) (by decide)⟩
  -- 4. STEPS
  · show Steps p.tables e below (s₁.setTop (mkF m 0 #[.val (.int p1)] [])) _
    refine XS.iloadN X0.here hx rfl (hb hby d1_0) rfl ?_
    show Steps p.tables e below (s₁.setTop (mkF m 1 #[.val (.int p1)] [(.int p1)])) _
    refine XS.ifNo X0.here hx rfl (hb hby d1_1) rfl ((if0 _ _).trans (teq hc1).2) ?_
    show Steps p.tables e below (s₁.setTop (mkF m 4 #[.val (.int p1)] [])) _
    refine st3 _ ?_
    show Steps p.tables e below (T3.setTop (mkF m 7 #[.val (.int p1)] [(.ref w_PAD)])) _
    jvm_step X3.here [X3.here.top, hx, (hb hby d1_7), X3.method', Bd.returns, Value.isRef, FieldType.isReference]
    first | (intro acts; rw [hr _ acts rfl rfl rfl]) | rw [hr _ _ rfl rfl rfl]
    exact Steps.refl _
  · show Q1 Z p1 w_PAD w_KENMERK w_BRON w_NAAM w_NIVEAU w_WAARDERING w_ARCHIEFVORMER w_BEPERKING w_FORMAAT_CODE w_FORMAAT_NAAM h0 n0 _ T3.heap _
    rw [e3]
    exact ⟨by simp_all [pickF], N0, rfl⟩
set_option maxRecDepth 65536 in
set_option maxHeartbeats 40000000 in
theorem rm1_tf (l : Launch) (Z : State) (a0 : Array Value) (hw : ∀ d ∈ tables_1, d.before a0 Z = true) (ws : List Jvm.Cond) (p1 : Int32) (w_PAD : Addr) (w_KENMERK : Addr) (w_BRON : Addr) (w_NAAM : Addr) (w_NIVEAU : Addr) (w_WAARDERING : Addr) (w_ARCHIEFVORMER : Addr) (w_BEPERKING : Addr) (w_FORMAAT_CODE : Addr) (w_FORMAAT_NAAM : Addr) (h0 : Heap) (n0 : Nat) (Z0 : n0 ≤ h0.size) (S_PAD : Sta Z h0 "com/example/overbrenger/overbrenger/build/Column" "PAD" "Lcom/example/overbrenger/overbrenger/build/Column;" (.ref w_PAD)) (S_KENMERK : Sta Z h0 "com/example/overbrenger/overbrenger/build/Column" "KENMERK" "Lcom/example/overbrenger/overbrenger/build/Column;" (.ref w_KENMERK)) (S_BRON : Sta Z h0 "com/example/overbrenger/overbrenger/build/Column" "BRON" "Lcom/example/overbrenger/overbrenger/build/Column;" (.ref w_BRON)) (S_NAAM : Sta Z h0 "com/example/overbrenger/overbrenger/build/Column" "NAAM" "Lcom/example/overbrenger/overbrenger/build/Column;" (.ref w_NAAM)) (S_NIVEAU : Sta Z h0 "com/example/overbrenger/overbrenger/build/Column" "NIVEAU" "Lcom/example/overbrenger/overbrenger/build/Column;" (.ref w_NIVEAU)) (S_WAARDERING : Sta Z h0 "com/example/overbrenger/overbrenger/build/Column" "WAARDERING" "Lcom/example/overbrenger/overbrenger/build/Column;" (.ref w_WAARDERING)) (S_ARCHIEFVORMER : Sta Z h0 "com/example/overbrenger/overbrenger/build/Column" "ARCHIEFVORMER" "Lcom/example/overbrenger/overbrenger/build/Column;" (.ref w_ARCHIEFVORMER)) (S_BEPERKING : Sta Z h0 "com/example/overbrenger/overbrenger/build/Column" "BEPERKING" "Lcom/example/overbrenger/overbrenger/build/Column;" (.ref w_BEPERKING)) (S_FORMAAT_CODE : Sta Z h0 "com/example/overbrenger/overbrenger/build/Column" "FORMAAT_CODE" "Lcom/example/overbrenger/overbrenger/build/Column;" (.ref w_FORMAAT_CODE)) (S_FORMAAT_NAAM : Sta Z h0 "com/example/overbrenger/overbrenger/build/Column" "FORMAAT_NAAM" "Lcom/example/overbrenger/overbrenger/build/Column;" (.ref w_FORMAAT_NAAM)) (hc1 : ¬ (p1 = (0 : Int32))) (hc10 : p1 = (1 : Int32)) :
    MetFree l (⟨"com/example/overbrenger/overbrenger/build/ColumnUsePinLaw", "pick", "(I)Lcom/example/overbrenger/overbrenger/build/Column;"⟩ : MethodName) (head1 (Jvm.Cond.code (⟨"com/example/overbrenger/overbrenger/build/ColumnUsePinLaw", "pick", "(I)Lcom/example/overbrenger/overbrenger/build/Column;"⟩ : MethodName) method_2_code 1 (some (.object "com/example/overbrenger/overbrenger/build/Column")) :: ws) ({ frames := 0, cells := 0, slots := 0, locals := 0 } : Room)) (fun a U => a = #[(.int p1)] ∧ Z.Warmed39 U.vm ∧ U.heap = h0) (fun _ _ _ _ _ => True) (fun _ U o U' => ∃ v L, o = .returned v ∧ Q1 Z p1 w_PAD w_KENMERK w_BRON w_NAAM w_NIVEAU w_WAARDERING w_ARCHIEFVORMER w_BEPERKING w_FORMAAT_CODE w_FORMAAT_NAAM h0 n0 v U'.heap L ∧ FrameEnd U o U' L ({ frames := 0, cells := 0, slots := 0, locals := 0 } : Room).cells ({ frames := 0, cells := 0, slots := 0, locals := 0 } : Room).slots) := by
  refine MetFree.of_bodySF (plainFor_of_name pn_1) hisR ?_
  intro p e s m args below meth c s₁ Bd hml0 hP hK
  obtain ⟨rfl, hZ, hh⟩ := hP
  have hx := Bd.exec
  have hby := Bd.bytes
  have hml : c.maxLocals = 1 := hml0
  have hown : s.vm.findClass "com/example/overbrenger/overbrenger/build/ColumnUsePinLaw" = some m.cls := findClass_of_methodNamed Bd.named
  have hnm := (name_of_methodNamed Bd.named Bd.method).1
  have X0 : Stand p l e ({ frames := 0, cells := 0, slots := 0, locals := 0 } : Room) s m #[(.int p1)] below meth c s₁ [] 0 0 := Stand.of_body Bd
  have e0 : s₁.heap = h0 := by rw [← hh, Bd.state]; rfl
  have N0 := Fr.nil n0
  have pre0 : ∀ t, Steps p.tables e below (s₁.setTop (mkF m 0 #[.val (.int p1)] [])) t → Steps p.tables e below (s₁.setTop (entryFrame m #[(.int p1)] 1)) t := fun t k => castTop (ef_1 m p1) k
  -- 3. LAWS
  obtain ⟨T3, X3, e3, st3⟩ := getS2 X0 hx hZ hown (host := "") (Or.inl (hw _ (List.mem_of_getElem? (i := 40) rfl))) Via.refl e0 S_KENMERK (g := (mkF m 13 #[.val (.int p1)] [])) rfl (hb hby d1_13)
  obtain ⟨fs, hr, hrun, hended, hW, hsame⟩ := X3.leave (v := some (.ref w_KENMERK)) (fun h => by rw [Bd.returns] at h; cases h)
  refine ⟨_, _, pre0 _ ?_, hrun, hended, _, _, rfl, ?_, ⟨_, rfl⟩, hW, hsame.mono (by decide) (by decide)⟩
  -- 4. STEPS
  · show Steps p.tables e below (s₁.setTop (mkF m 0 #[.val (.int p1)] [])) _
    refine XS.iloadN X0.here hx rfl (hb hby d1_0) rfl ?_
    show Steps p.tables e below (s₁.setTop (mkF m 1 #[.val (.int p1)] [(.int p1)])) _
    refine XS.ifYes X0.here hx rfl (pc0 := 1) (pc' := 8) rfl (hb hby d1_1) rfl ((if0 _ _).trans (feq hc1).2) (by decide) (by decide) ?_
    show Steps p.tables e below (s₁.setTop (mkF m 8 #[.val (.int p1)] [])) _
    refine XS.iloadN X0.here hx rfl (hb hby d1_8) rfl ?_
    show Steps p.tables e below (s₁.setTop (mkF m 9 #[.val (.int p1)] [(.int p1)])) _
    refine XS.iconst X0.here hx rfl (hb hby d1_9) ?_
    show Steps p.tables e below (s₁.setTop (mkF m 10 #[.val (.int p1)] [(.int (1 : Int32)), (.int p1)])) _
    refine XS.icmpNo X0.here hx rfl (hb hby d1_10) rfl (teq hc10).2 ?_
    show Steps p.tables e below (s₁.setTop (mkF m 13 #[.val (.int p1)] [])) _
    refine st3 _ ?_
    show Steps p.tables e below (T3.setTop (mkF m 16 #[.val (.int p1)] [(.ref w_KENMERK)])) _
    jvm_step X3.here [X3.here.top, hx, (hb hby d1_16), X3.method', Bd.returns, Value.isRef, FieldType.isReference]
    first | (intro acts; rw [hr _ acts rfl rfl rfl]) | rw [hr _ _ rfl rfl rfl]
    exact Steps.refl _
  · show Q1 Z p1 w_PAD w_KENMERK w_BRON w_NAAM w_NIVEAU w_WAARDERING w_ARCHIEFVORMER w_BEPERKING w_FORMAAT_CODE w_FORMAAT_NAAM h0 n0 _ T3.heap _
    rw [e3]
    exact ⟨by simp_all [pickF], N0, rfl⟩
set_option maxRecDepth 65536 in
set_option maxHeartbeats 40000000 in
theorem rm1_ttf (l : Launch) (Z : State) (a0 : Array Value) (hw : ∀ d ∈ tables_1, d.before a0 Z = true) (ws : List Jvm.Cond) (p1 : Int32) (w_PAD : Addr) (w_KENMERK : Addr) (w_BRON : Addr) (w_NAAM : Addr) (w_NIVEAU : Addr) (w_WAARDERING : Addr) (w_ARCHIEFVORMER : Addr) (w_BEPERKING : Addr) (w_FORMAAT_CODE : Addr) (w_FORMAAT_NAAM : Addr) (h0 : Heap) (n0 : Nat) (Z0 : n0 ≤ h0.size) (S_PAD : Sta Z h0 "com/example/overbrenger/overbrenger/build/Column" "PAD" "Lcom/example/overbrenger/overbrenger/build/Column;" (.ref w_PAD)) (S_KENMERK : Sta Z h0 "com/example/overbrenger/overbrenger/build/Column" "KENMERK" "Lcom/example/overbrenger/overbrenger/build/Column;" (.ref w_KENMERK)) (S_BRON : Sta Z h0 "com/example/overbrenger/overbrenger/build/Column" "BRON" "Lcom/example/overbrenger/overbrenger/build/Column;" (.ref w_BRON)) (S_NAAM : Sta Z h0 "com/example/overbrenger/overbrenger/build/Column" "NAAM" "Lcom/example/overbrenger/overbrenger/build/Column;" (.ref w_NAAM)) (S_NIVEAU : Sta Z h0 "com/example/overbrenger/overbrenger/build/Column" "NIVEAU" "Lcom/example/overbrenger/overbrenger/build/Column;" (.ref w_NIVEAU)) (S_WAARDERING : Sta Z h0 "com/example/overbrenger/overbrenger/build/Column" "WAARDERING" "Lcom/example/overbrenger/overbrenger/build/Column;" (.ref w_WAARDERING)) (S_ARCHIEFVORMER : Sta Z h0 "com/example/overbrenger/overbrenger/build/Column" "ARCHIEFVORMER" "Lcom/example/overbrenger/overbrenger/build/Column;" (.ref w_ARCHIEFVORMER)) (S_BEPERKING : Sta Z h0 "com/example/overbrenger/overbrenger/build/Column" "BEPERKING" "Lcom/example/overbrenger/overbrenger/build/Column;" (.ref w_BEPERKING)) (S_FORMAAT_CODE : Sta Z h0 "com/example/overbrenger/overbrenger/build/Column" "FORMAAT_CODE" "Lcom/example/overbrenger/overbrenger/build/Column;" (.ref w_FORMAAT_CODE)) (S_FORMAAT_NAAM : Sta Z h0 "com/example/overbrenger/overbrenger/build/Column" "FORMAAT_NAAM" "Lcom/example/overbrenger/overbrenger/build/Column;" (.ref w_FORMAAT_NAAM)) (hc1 : ¬ (p1 = (0 : Int32))) (hc10 : ¬ (p1 = (1 : Int32))) (hc19 : p1 = (2 : Int32)) :
    MetFree l (⟨"com/example/overbrenger/overbrenger/build/ColumnUsePinLaw", "pick", "(I)Lcom/example/overbrenger/overbrenger/build/Column;"⟩ : MethodName) (head1 (Jvm.Cond.code (⟨"com/example/overbrenger/overbrenger/build/ColumnUsePinLaw", "pick", "(I)Lcom/example/overbrenger/overbrenger/build/Column;"⟩ : MethodName) method_2_code 1 (some (.object "com/example/overbrenger/overbrenger/build/Column")) :: ws) ({ frames := 0, cells := 0, slots := 0, locals := 0 } : Room)) (fun a U => a = #[(.int p1)] ∧ Z.Warmed39 U.vm ∧ U.heap = h0) (fun _ _ _ _ _ => True) (fun _ U o U' => ∃ v L, o = .returned v ∧ Q1 Z p1 w_PAD w_KENMERK w_BRON w_NAAM w_NIVEAU w_WAARDERING w_ARCHIEFVORMER w_BEPERKING w_FORMAAT_CODE w_FORMAAT_NAAM h0 n0 v U'.heap L ∧ FrameEnd U o U' L ({ frames := 0, cells := 0, slots := 0, locals := 0 } : Room).cells ({ frames := 0, cells := 0, slots := 0, locals := 0 } : Room).slots) := by
  refine MetFree.of_bodySF (plainFor_of_name pn_1) hisR ?_
  intro p e s m args below meth c s₁ Bd hml0 hP hK
  obtain ⟨rfl, hZ, hh⟩ := hP
  have hx := Bd.exec
  have hby := Bd.bytes
  have hml : c.maxLocals = 1 := hml0
  have hown : s.vm.findClass "com/example/overbrenger/overbrenger/build/ColumnUsePinLaw" = some m.cls := findClass_of_methodNamed Bd.named
  have hnm := (name_of_methodNamed Bd.named Bd.method).1
  have X0 : Stand p l e ({ frames := 0, cells := 0, slots := 0, locals := 0 } : Room) s m #[(.int p1)] below meth c s₁ [] 0 0 := Stand.of_body Bd
  have e0 : s₁.heap = h0 := by rw [← hh, Bd.state]; rfl
  have N0 := Fr.nil n0
  have pre0 : ∀ t, Steps p.tables e below (s₁.setTop (mkF m 0 #[.val (.int p1)] [])) t → Steps p.tables e below (s₁.setTop (entryFrame m #[(.int p1)] 1)) t := fun t k => castTop (ef_1 m p1) k
  -- 3. LAWS
  obtain ⟨T3, X3, e3, st3⟩ := getS2 X0 hx hZ hown (host := "") (Or.inl (hw _ (List.mem_of_getElem? (i := 36) rfl))) Via.refl e0 S_BRON (g := (mkF m 22 #[.val (.int p1)] [])) rfl (hb hby d1_22)
  obtain ⟨fs, hr, hrun, hended, hW, hsame⟩ := X3.leave (v := some (.ref w_BRON)) (fun h => by rw [Bd.returns] at h; cases h)
  refine ⟨_, _, pre0 _ ?_, hrun, hended, _, _, rfl, ?_, ⟨_, rfl⟩, hW, hsame.mono (by decide) (by decide)⟩
  -- 4. STEPS
  · show Steps p.tables e below (s₁.setTop (mkF m 0 #[.val (.int p1)] [])) _
    refine XS.iloadN X0.here hx rfl (hb hby d1_0) rfl ?_
    show Steps p.tables e below (s₁.setTop (mkF m 1 #[.val (.int p1)] [(.int p1)])) _
    refine XS.ifYes X0.here hx rfl (pc0 := 1) (pc' := 8) rfl (hb hby d1_1) rfl ((if0 _ _).trans (feq hc1).2) (by decide) (by decide) ?_
    show Steps p.tables e below (s₁.setTop (mkF m 8 #[.val (.int p1)] [])) _
    refine XS.iloadN X0.here hx rfl (hb hby d1_8) rfl ?_
    show Steps p.tables e below (s₁.setTop (mkF m 9 #[.val (.int p1)] [(.int p1)])) _
    refine XS.iconst X0.here hx rfl (hb hby d1_9) ?_
    show Steps p.tables e below (s₁.setTop (mkF m 10 #[.val (.int p1)] [(.int (1 : Int32)), (.int p1)])) _
    refine XS.icmpYes X0.here hx rfl (pc0 := 10) (pc' := 17) rfl (hb hby d1_10) rfl (feq hc10).2 (by decide) (by decide) ?_
    show Steps p.tables e below (s₁.setTop (mkF m 17 #[.val (.int p1)] [])) _
    refine XS.iloadN X0.here hx rfl (hb hby d1_17) rfl ?_
    show Steps p.tables e below (s₁.setTop (mkF m 18 #[.val (.int p1)] [(.int p1)])) _
    refine XS.iconst X0.here hx rfl (hb hby d1_18) ?_
    show Steps p.tables e below (s₁.setTop (mkF m 19 #[.val (.int p1)] [(.int (2 : Int32)), (.int p1)])) _
    refine XS.icmpNo X0.here hx rfl (hb hby d1_19) rfl (teq hc19).2 ?_
    show Steps p.tables e below (s₁.setTop (mkF m 22 #[.val (.int p1)] [])) _
    refine st3 _ ?_
    show Steps p.tables e below (T3.setTop (mkF m 25 #[.val (.int p1)] [(.ref w_BRON)])) _
    jvm_step X3.here [X3.here.top, hx, (hb hby d1_25), X3.method', Bd.returns, Value.isRef, FieldType.isReference]
    first | (intro acts; rw [hr _ acts rfl rfl rfl]) | rw [hr _ _ rfl rfl rfl]
    exact Steps.refl _
  · show Q1 Z p1 w_PAD w_KENMERK w_BRON w_NAAM w_NIVEAU w_WAARDERING w_ARCHIEFVORMER w_BEPERKING w_FORMAAT_CODE w_FORMAAT_NAAM h0 n0 _ T3.heap _
    rw [e3]
    exact ⟨by simp_all [pickF], N0, rfl⟩
set_option maxRecDepth 65536 in
set_option maxHeartbeats 40000000 in
theorem rm1_tttf (l : Launch) (Z : State) (a0 : Array Value) (hw : ∀ d ∈ tables_1, d.before a0 Z = true) (ws : List Jvm.Cond) (p1 : Int32) (w_PAD : Addr) (w_KENMERK : Addr) (w_BRON : Addr) (w_NAAM : Addr) (w_NIVEAU : Addr) (w_WAARDERING : Addr) (w_ARCHIEFVORMER : Addr) (w_BEPERKING : Addr) (w_FORMAAT_CODE : Addr) (w_FORMAAT_NAAM : Addr) (h0 : Heap) (n0 : Nat) (Z0 : n0 ≤ h0.size) (S_PAD : Sta Z h0 "com/example/overbrenger/overbrenger/build/Column" "PAD" "Lcom/example/overbrenger/overbrenger/build/Column;" (.ref w_PAD)) (S_KENMERK : Sta Z h0 "com/example/overbrenger/overbrenger/build/Column" "KENMERK" "Lcom/example/overbrenger/overbrenger/build/Column;" (.ref w_KENMERK)) (S_BRON : Sta Z h0 "com/example/overbrenger/overbrenger/build/Column" "BRON" "Lcom/example/overbrenger/overbrenger/build/Column;" (.ref w_BRON)) (S_NAAM : Sta Z h0 "com/example/overbrenger/overbrenger/build/Column" "NAAM" "Lcom/example/overbrenger/overbrenger/build/Column;" (.ref w_NAAM)) (S_NIVEAU : Sta Z h0 "com/example/overbrenger/overbrenger/build/Column" "NIVEAU" "Lcom/example/overbrenger/overbrenger/build/Column;" (.ref w_NIVEAU)) (S_WAARDERING : Sta Z h0 "com/example/overbrenger/overbrenger/build/Column" "WAARDERING" "Lcom/example/overbrenger/overbrenger/build/Column;" (.ref w_WAARDERING)) (S_ARCHIEFVORMER : Sta Z h0 "com/example/overbrenger/overbrenger/build/Column" "ARCHIEFVORMER" "Lcom/example/overbrenger/overbrenger/build/Column;" (.ref w_ARCHIEFVORMER)) (S_BEPERKING : Sta Z h0 "com/example/overbrenger/overbrenger/build/Column" "BEPERKING" "Lcom/example/overbrenger/overbrenger/build/Column;" (.ref w_BEPERKING)) (S_FORMAAT_CODE : Sta Z h0 "com/example/overbrenger/overbrenger/build/Column" "FORMAAT_CODE" "Lcom/example/overbrenger/overbrenger/build/Column;" (.ref w_FORMAAT_CODE)) (S_FORMAAT_NAAM : Sta Z h0 "com/example/overbrenger/overbrenger/build/Column" "FORMAAT_NAAM" "Lcom/example/overbrenger/overbrenger/build/Column;" (.ref w_FORMAAT_NAAM)) (hc1 : ¬ (p1 = (0 : Int32))) (hc10 : ¬ (p1 = (1 : Int32))) (hc19 : ¬ (p1 = (2 : Int32))) (hc28 : p1 = (3 : Int32)) :
    MetFree l (⟨"com/example/overbrenger/overbrenger/build/ColumnUsePinLaw", "pick", "(I)Lcom/example/overbrenger/overbrenger/build/Column;"⟩ : MethodName) (head1 (Jvm.Cond.code (⟨"com/example/overbrenger/overbrenger/build/ColumnUsePinLaw", "pick", "(I)Lcom/example/overbrenger/overbrenger/build/Column;"⟩ : MethodName) method_2_code 1 (some (.object "com/example/overbrenger/overbrenger/build/Column")) :: ws) ({ frames := 0, cells := 0, slots := 0, locals := 0 } : Room)) (fun a U => a = #[(.int p1)] ∧ Z.Warmed39 U.vm ∧ U.heap = h0) (fun _ _ _ _ _ => True) (fun _ U o U' => ∃ v L, o = .returned v ∧ Q1 Z p1 w_PAD w_KENMERK w_BRON w_NAAM w_NIVEAU w_WAARDERING w_ARCHIEFVORMER w_BEPERKING w_FORMAAT_CODE w_FORMAAT_NAAM h0 n0 v U'.heap L ∧ FrameEnd U o U' L ({ frames := 0, cells := 0, slots := 0, locals := 0 } : Room).cells ({ frames := 0, cells := 0, slots := 0, locals := 0 } : Room).slots) := by
  refine MetFree.of_bodySF (plainFor_of_name pn_1) hisR ?_
  intro p e s m args below meth c s₁ Bd hml0 hP hK
  obtain ⟨rfl, hZ, hh⟩ := hP
  have hx := Bd.exec
  have hby := Bd.bytes
  have hml : c.maxLocals = 1 := hml0
  have hown : s.vm.findClass "com/example/overbrenger/overbrenger/build/ColumnUsePinLaw" = some m.cls := findClass_of_methodNamed Bd.named
  have hnm := (name_of_methodNamed Bd.named Bd.method).1
  have X0 : Stand p l e ({ frames := 0, cells := 0, slots := 0, locals := 0 } : Room) s m #[(.int p1)] below meth c s₁ [] 0 0 := Stand.of_body Bd
  have e0 : s₁.heap = h0 := by rw [← hh, Bd.state]; rfl
  have N0 := Fr.nil n0
  have pre0 : ∀ t, Steps p.tables e below (s₁.setTop (mkF m 0 #[.val (.int p1)] [])) t → Steps p.tables e below (s₁.setTop (entryFrame m #[(.int p1)] 1)) t := fun t k => castTop (ef_1 m p1) k
  -- 3. LAWS
  obtain ⟨T3, X3, e3, st3⟩ := getS2 X0 hx hZ hown (host := "") (Or.inl (hw _ (List.mem_of_getElem? (i := 38) rfl))) Via.refl e0 S_NAAM (g := (mkF m 31 #[.val (.int p1)] [])) rfl (hb hby d1_31)
  obtain ⟨fs, hr, hrun, hended, hW, hsame⟩ := X3.leave (v := some (.ref w_NAAM)) (fun h => by rw [Bd.returns] at h; cases h)
  refine ⟨_, _, pre0 _ ?_, hrun, hended, _, _, rfl, ?_, ⟨_, rfl⟩, hW, hsame.mono (by decide) (by decide)⟩
  -- 4. STEPS
  · show Steps p.tables e below (s₁.setTop (mkF m 0 #[.val (.int p1)] [])) _
    refine XS.iloadN X0.here hx rfl (hb hby d1_0) rfl ?_
    show Steps p.tables e below (s₁.setTop (mkF m 1 #[.val (.int p1)] [(.int p1)])) _
    refine XS.ifYes X0.here hx rfl (pc0 := 1) (pc' := 8) rfl (hb hby d1_1) rfl ((if0 _ _).trans (feq hc1).2) (by decide) (by decide) ?_
    show Steps p.tables e below (s₁.setTop (mkF m 8 #[.val (.int p1)] [])) _
    refine XS.iloadN X0.here hx rfl (hb hby d1_8) rfl ?_
    show Steps p.tables e below (s₁.setTop (mkF m 9 #[.val (.int p1)] [(.int p1)])) _
    refine XS.iconst X0.here hx rfl (hb hby d1_9) ?_
    show Steps p.tables e below (s₁.setTop (mkF m 10 #[.val (.int p1)] [(.int (1 : Int32)), (.int p1)])) _
    refine XS.icmpYes X0.here hx rfl (pc0 := 10) (pc' := 17) rfl (hb hby d1_10) rfl (feq hc10).2 (by decide) (by decide) ?_
    show Steps p.tables e below (s₁.setTop (mkF m 17 #[.val (.int p1)] [])) _
    refine XS.iloadN X0.here hx rfl (hb hby d1_17) rfl ?_
    show Steps p.tables e below (s₁.setTop (mkF m 18 #[.val (.int p1)] [(.int p1)])) _
    refine XS.iconst X0.here hx rfl (hb hby d1_18) ?_
    show Steps p.tables e below (s₁.setTop (mkF m 19 #[.val (.int p1)] [(.int (2 : Int32)), (.int p1)])) _
    refine XS.icmpYes X0.here hx rfl (pc0 := 19) (pc' := 26) rfl (hb hby d1_19) rfl (feq hc19).2 (by decide) (by decide) ?_
    show Steps p.tables e below (s₁.setTop (mkF m 26 #[.val (.int p1)] [])) _
    refine XS.iloadN X0.here hx rfl (hb hby d1_26) rfl ?_
    show Steps p.tables e below (s₁.setTop (mkF m 27 #[.val (.int p1)] [(.int p1)])) _
    refine XS.iconst X0.here hx rfl (hb hby d1_27) ?_
    show Steps p.tables e below (s₁.setTop (mkF m 28 #[.val (.int p1)] [(.int (3 : Int32)), (.int p1)])) _
    refine XS.icmpNo X0.here hx rfl (hb hby d1_28) rfl (teq hc28).2 ?_
    show Steps p.tables e below (s₁.setTop (mkF m 31 #[.val (.int p1)] [])) _
    refine st3 _ ?_
    show Steps p.tables e below (T3.setTop (mkF m 34 #[.val (.int p1)] [(.ref w_NAAM)])) _
    jvm_step X3.here [X3.here.top, hx, (hb hby d1_34), X3.method', Bd.returns, Value.isRef, FieldType.isReference]
    first | (intro acts; rw [hr _ acts rfl rfl rfl]) | rw [hr _ _ rfl rfl rfl]
    exact Steps.refl _
  · show Q1 Z p1 w_PAD w_KENMERK w_BRON w_NAAM w_NIVEAU w_WAARDERING w_ARCHIEFVORMER w_BEPERKING w_FORMAAT_CODE w_FORMAAT_NAAM h0 n0 _ T3.heap _
    rw [e3]
    exact ⟨by simp_all [pickF], N0, rfl⟩
set_option maxRecDepth 65536 in
set_option maxHeartbeats 40000000 in
theorem rm1_ttttf (l : Launch) (Z : State) (a0 : Array Value) (hw : ∀ d ∈ tables_1, d.before a0 Z = true) (ws : List Jvm.Cond) (p1 : Int32) (w_PAD : Addr) (w_KENMERK : Addr) (w_BRON : Addr) (w_NAAM : Addr) (w_NIVEAU : Addr) (w_WAARDERING : Addr) (w_ARCHIEFVORMER : Addr) (w_BEPERKING : Addr) (w_FORMAAT_CODE : Addr) (w_FORMAAT_NAAM : Addr) (h0 : Heap) (n0 : Nat) (Z0 : n0 ≤ h0.size) (S_PAD : Sta Z h0 "com/example/overbrenger/overbrenger/build/Column" "PAD" "Lcom/example/overbrenger/overbrenger/build/Column;" (.ref w_PAD)) (S_KENMERK : Sta Z h0 "com/example/overbrenger/overbrenger/build/Column" "KENMERK" "Lcom/example/overbrenger/overbrenger/build/Column;" (.ref w_KENMERK)) (S_BRON : Sta Z h0 "com/example/overbrenger/overbrenger/build/Column" "BRON" "Lcom/example/overbrenger/overbrenger/build/Column;" (.ref w_BRON)) (S_NAAM : Sta Z h0 "com/example/overbrenger/overbrenger/build/Column" "NAAM" "Lcom/example/overbrenger/overbrenger/build/Column;" (.ref w_NAAM)) (S_NIVEAU : Sta Z h0 "com/example/overbrenger/overbrenger/build/Column" "NIVEAU" "Lcom/example/overbrenger/overbrenger/build/Column;" (.ref w_NIVEAU)) (S_WAARDERING : Sta Z h0 "com/example/overbrenger/overbrenger/build/Column" "WAARDERING" "Lcom/example/overbrenger/overbrenger/build/Column;" (.ref w_WAARDERING)) (S_ARCHIEFVORMER : Sta Z h0 "com/example/overbrenger/overbrenger/build/Column" "ARCHIEFVORMER" "Lcom/example/overbrenger/overbrenger/build/Column;" (.ref w_ARCHIEFVORMER)) (S_BEPERKING : Sta Z h0 "com/example/overbrenger/overbrenger/build/Column" "BEPERKING" "Lcom/example/overbrenger/overbrenger/build/Column;" (.ref w_BEPERKING)) (S_FORMAAT_CODE : Sta Z h0 "com/example/overbrenger/overbrenger/build/Column" "FORMAAT_CODE" "Lcom/example/overbrenger/overbrenger/build/Column;" (.ref w_FORMAAT_CODE)) (S_FORMAAT_NAAM : Sta Z h0 "com/example/overbrenger/overbrenger/build/Column" "FORMAAT_NAAM" "Lcom/example/overbrenger/overbrenger/build/Column;" (.ref w_FORMAAT_NAAM)) (hc1 : ¬ (p1 = (0 : Int32))) (hc10 : ¬ (p1 = (1 : Int32))) (hc19 : ¬ (p1 = (2 : Int32))) (hc28 : ¬ (p1 = (3 : Int32))) (hc37 : p1 = (4 : Int32)) :
    MetFree l (⟨"com/example/overbrenger/overbrenger/build/ColumnUsePinLaw", "pick", "(I)Lcom/example/overbrenger/overbrenger/build/Column;"⟩ : MethodName) (head1 (Jvm.Cond.code (⟨"com/example/overbrenger/overbrenger/build/ColumnUsePinLaw", "pick", "(I)Lcom/example/overbrenger/overbrenger/build/Column;"⟩ : MethodName) method_2_code 1 (some (.object "com/example/overbrenger/overbrenger/build/Column")) :: ws) ({ frames := 0, cells := 0, slots := 0, locals := 0 } : Room)) (fun a U => a = #[(.int p1)] ∧ Z.Warmed39 U.vm ∧ U.heap = h0) (fun _ _ _ _ _ => True) (fun _ U o U' => ∃ v L, o = .returned v ∧ Q1 Z p1 w_PAD w_KENMERK w_BRON w_NAAM w_NIVEAU w_WAARDERING w_ARCHIEFVORMER w_BEPERKING w_FORMAAT_CODE w_FORMAAT_NAAM h0 n0 v U'.heap L ∧ FrameEnd U o U' L ({ frames := 0, cells := 0, slots := 0, locals := 0 } : Room).cells ({ frames := 0, cells := 0, slots := 0, locals := 0 } : Room).slots) := by
  refine MetFree.of_bodySF (plainFor_of_name pn_1) hisR ?_
  intro p e s m args below meth c s₁ Bd hml0 hP hK
  obtain ⟨rfl, hZ, hh⟩ := hP
  have hx := Bd.exec
  have hby := Bd.bytes
  have hml : c.maxLocals = 1 := hml0
  have hown : s.vm.findClass "com/example/overbrenger/overbrenger/build/ColumnUsePinLaw" = some m.cls := findClass_of_methodNamed Bd.named
  have hnm := (name_of_methodNamed Bd.named Bd.method).1
  have X0 : Stand p l e ({ frames := 0, cells := 0, slots := 0, locals := 0 } : Room) s m #[(.int p1)] below meth c s₁ [] 0 0 := Stand.of_body Bd
  have e0 : s₁.heap = h0 := by rw [← hh, Bd.state]; rfl
  have N0 := Fr.nil n0
  have pre0 : ∀ t, Steps p.tables e below (s₁.setTop (mkF m 0 #[.val (.int p1)] [])) t → Steps p.tables e below (s₁.setTop (entryFrame m #[(.int p1)] 1)) t := fun t k => castTop (ef_1 m p1) k
  -- 3. LAWS
  obtain ⟨T3, X3, e3, st3⟩ := getS2 X0 hx hZ hown (host := "") (Or.inl (hw _ (List.mem_of_getElem? (i := 21) rfl))) Via.refl e0 S_NIVEAU (g := (mkF m 40 #[.val (.int p1)] [])) rfl (hb hby d1_40)
  obtain ⟨fs, hr, hrun, hended, hW, hsame⟩ := X3.leave (v := some (.ref w_NIVEAU)) (fun h => by rw [Bd.returns] at h; cases h)
  refine ⟨_, _, pre0 _ ?_, hrun, hended, _, _, rfl, ?_, ⟨_, rfl⟩, hW, hsame.mono (by decide) (by decide)⟩
  -- 4. STEPS
  · show Steps p.tables e below (s₁.setTop (mkF m 0 #[.val (.int p1)] [])) _
    refine XS.iloadN X0.here hx rfl (hb hby d1_0) rfl ?_
    show Steps p.tables e below (s₁.setTop (mkF m 1 #[.val (.int p1)] [(.int p1)])) _
    refine XS.ifYes X0.here hx rfl (pc0 := 1) (pc' := 8) rfl (hb hby d1_1) rfl ((if0 _ _).trans (feq hc1).2) (by decide) (by decide) ?_
    show Steps p.tables e below (s₁.setTop (mkF m 8 #[.val (.int p1)] [])) _
    refine XS.iloadN X0.here hx rfl (hb hby d1_8) rfl ?_
    show Steps p.tables e below (s₁.setTop (mkF m 9 #[.val (.int p1)] [(.int p1)])) _
    refine XS.iconst X0.here hx rfl (hb hby d1_9) ?_
    show Steps p.tables e below (s₁.setTop (mkF m 10 #[.val (.int p1)] [(.int (1 : Int32)), (.int p1)])) _
    refine XS.icmpYes X0.here hx rfl (pc0 := 10) (pc' := 17) rfl (hb hby d1_10) rfl (feq hc10).2 (by decide) (by decide) ?_
    show Steps p.tables e below (s₁.setTop (mkF m 17 #[.val (.int p1)] [])) _
    refine XS.iloadN X0.here hx rfl (hb hby d1_17) rfl ?_
    show Steps p.tables e below (s₁.setTop (mkF m 18 #[.val (.int p1)] [(.int p1)])) _
    refine XS.iconst X0.here hx rfl (hb hby d1_18) ?_
    show Steps p.tables e below (s₁.setTop (mkF m 19 #[.val (.int p1)] [(.int (2 : Int32)), (.int p1)])) _
    refine XS.icmpYes X0.here hx rfl (pc0 := 19) (pc' := 26) rfl (hb hby d1_19) rfl (feq hc19).2 (by decide) (by decide) ?_
    show Steps p.tables e below (s₁.setTop (mkF m 26 #[.val (.int p1)] [])) _
    refine XS.iloadN X0.here hx rfl (hb hby d1_26) rfl ?_
    show Steps p.tables e below (s₁.setTop (mkF m 27 #[.val (.int p1)] [(.int p1)])) _
    refine XS.iconst X0.here hx rfl (hb hby d1_27) ?_
    show Steps p.tables e below (s₁.setTop (mkF m 28 #[.val (.int p1)] [(.int (3 : Int32)), (.int p1)])) _
    refine XS.icmpYes X0.here hx rfl (pc0 := 28) (pc' := 35) rfl (hb hby d1_28) rfl (feq hc28).2 (by decide) (by decide) ?_
    show Steps p.tables e below (s₁.setTop (mkF m 35 #[.val (.int p1)] [])) _
    refine XS.iloadN X0.here hx rfl (hb hby d1_35) rfl ?_
    show Steps p.tables e below (s₁.setTop (mkF m 36 #[.val (.int p1)] [(.int p1)])) _
    refine XS.iconst X0.here hx rfl (hb hby d1_36) ?_
    show Steps p.tables e below (s₁.setTop (mkF m 37 #[.val (.int p1)] [(.int (4 : Int32)), (.int p1)])) _
    refine XS.icmpNo X0.here hx rfl (hb hby d1_37) rfl (teq hc37).2 ?_
    show Steps p.tables e below (s₁.setTop (mkF m 40 #[.val (.int p1)] [])) _
    refine st3 _ ?_
    show Steps p.tables e below (T3.setTop (mkF m 43 #[.val (.int p1)] [(.ref w_NIVEAU)])) _
    jvm_step X3.here [X3.here.top, hx, (hb hby d1_43), X3.method', Bd.returns, Value.isRef, FieldType.isReference]
    first | (intro acts; rw [hr _ acts rfl rfl rfl]) | rw [hr _ _ rfl rfl rfl]
    exact Steps.refl _
  · show Q1 Z p1 w_PAD w_KENMERK w_BRON w_NAAM w_NIVEAU w_WAARDERING w_ARCHIEFVORMER w_BEPERKING w_FORMAAT_CODE w_FORMAAT_NAAM h0 n0 _ T3.heap _
    rw [e3]
    exact ⟨by simp_all [pickF], N0, rfl⟩
set_option maxRecDepth 65536 in
set_option maxHeartbeats 40000000 in
theorem rm1_tttttf (l : Launch) (Z : State) (a0 : Array Value) (hw : ∀ d ∈ tables_1, d.before a0 Z = true) (ws : List Jvm.Cond) (p1 : Int32) (w_PAD : Addr) (w_KENMERK : Addr) (w_BRON : Addr) (w_NAAM : Addr) (w_NIVEAU : Addr) (w_WAARDERING : Addr) (w_ARCHIEFVORMER : Addr) (w_BEPERKING : Addr) (w_FORMAAT_CODE : Addr) (w_FORMAAT_NAAM : Addr) (h0 : Heap) (n0 : Nat) (Z0 : n0 ≤ h0.size) (S_PAD : Sta Z h0 "com/example/overbrenger/overbrenger/build/Column" "PAD" "Lcom/example/overbrenger/overbrenger/build/Column;" (.ref w_PAD)) (S_KENMERK : Sta Z h0 "com/example/overbrenger/overbrenger/build/Column" "KENMERK" "Lcom/example/overbrenger/overbrenger/build/Column;" (.ref w_KENMERK)) (S_BRON : Sta Z h0 "com/example/overbrenger/overbrenger/build/Column" "BRON" "Lcom/example/overbrenger/overbrenger/build/Column;" (.ref w_BRON)) (S_NAAM : Sta Z h0 "com/example/overbrenger/overbrenger/build/Column" "NAAM" "Lcom/example/overbrenger/overbrenger/build/Column;" (.ref w_NAAM)) (S_NIVEAU : Sta Z h0 "com/example/overbrenger/overbrenger/build/Column" "NIVEAU" "Lcom/example/overbrenger/overbrenger/build/Column;" (.ref w_NIVEAU)) (S_WAARDERING : Sta Z h0 "com/example/overbrenger/overbrenger/build/Column" "WAARDERING" "Lcom/example/overbrenger/overbrenger/build/Column;" (.ref w_WAARDERING)) (S_ARCHIEFVORMER : Sta Z h0 "com/example/overbrenger/overbrenger/build/Column" "ARCHIEFVORMER" "Lcom/example/overbrenger/overbrenger/build/Column;" (.ref w_ARCHIEFVORMER)) (S_BEPERKING : Sta Z h0 "com/example/overbrenger/overbrenger/build/Column" "BEPERKING" "Lcom/example/overbrenger/overbrenger/build/Column;" (.ref w_BEPERKING)) (S_FORMAAT_CODE : Sta Z h0 "com/example/overbrenger/overbrenger/build/Column" "FORMAAT_CODE" "Lcom/example/overbrenger/overbrenger/build/Column;" (.ref w_FORMAAT_CODE)) (S_FORMAAT_NAAM : Sta Z h0 "com/example/overbrenger/overbrenger/build/Column" "FORMAAT_NAAM" "Lcom/example/overbrenger/overbrenger/build/Column;" (.ref w_FORMAAT_NAAM)) (hc1 : ¬ (p1 = (0 : Int32))) (hc10 : ¬ (p1 = (1 : Int32))) (hc19 : ¬ (p1 = (2 : Int32))) (hc28 : ¬ (p1 = (3 : Int32))) (hc37 : ¬ (p1 = (4 : Int32))) (hc46 : p1 = (5 : Int32)) :
    MetFree l (⟨"com/example/overbrenger/overbrenger/build/ColumnUsePinLaw", "pick", "(I)Lcom/example/overbrenger/overbrenger/build/Column;"⟩ : MethodName) (head1 (Jvm.Cond.code (⟨"com/example/overbrenger/overbrenger/build/ColumnUsePinLaw", "pick", "(I)Lcom/example/overbrenger/overbrenger/build/Column;"⟩ : MethodName) method_2_code 1 (some (.object "com/example/overbrenger/overbrenger/build/Column")) :: ws) ({ frames := 0, cells := 0, slots := 0, locals := 0 } : Room)) (fun a U => a = #[(.int p1)] ∧ Z.Warmed39 U.vm ∧ U.heap = h0) (fun _ _ _ _ _ => True) (fun _ U o U' => ∃ v L, o = .returned v ∧ Q1 Z p1 w_PAD w_KENMERK w_BRON w_NAAM w_NIVEAU w_WAARDERING w_ARCHIEFVORMER w_BEPERKING w_FORMAAT_CODE w_FORMAAT_NAAM h0 n0 v U'.heap L ∧ FrameEnd U o U' L ({ frames := 0, cells := 0, slots := 0, locals := 0 } : Room).cells ({ frames := 0, cells := 0, slots := 0, locals := 0 } : Room).slots) := by
  refine MetFree.of_bodySF (plainFor_of_name pn_1) hisR ?_
  intro p e s m args below meth c s₁ Bd hml0 hP hK
  obtain ⟨rfl, hZ, hh⟩ := hP
  have hx := Bd.exec
  have hby := Bd.bytes
  have hml : c.maxLocals = 1 := hml0
  have hown : s.vm.findClass "com/example/overbrenger/overbrenger/build/ColumnUsePinLaw" = some m.cls := findClass_of_methodNamed Bd.named
  have hnm := (name_of_methodNamed Bd.named Bd.method).1
  have X0 : Stand p l e ({ frames := 0, cells := 0, slots := 0, locals := 0 } : Room) s m #[(.int p1)] below meth c s₁ [] 0 0 := Stand.of_body Bd
  have e0 : s₁.heap = h0 := by rw [← hh, Bd.state]; rfl
  have N0 := Fr.nil n0
  have pre0 : ∀ t, Steps p.tables e below (s₁.setTop (mkF m 0 #[.val (.int p1)] [])) t → Steps p.tables e below (s₁.setTop (entryFrame m #[(.int p1)] 1)) t := fun t k => castTop (ef_1 m p1) k
  -- 3. LAWS
  obtain ⟨T3, X3, e3, st3⟩ := getS2 X0 hx hZ hown (host := "") (Or.inl (hw _ (List.mem_of_getElem? (i := 42) rfl))) Via.refl e0 S_WAARDERING (g := (mkF m 49 #[.val (.int p1)] [])) rfl (hb hby d1_49)
  obtain ⟨fs, hr, hrun, hended, hW, hsame⟩ := X3.leave (v := some (.ref w_WAARDERING)) (fun h => by rw [Bd.returns] at h; cases h)
  refine ⟨_, _, pre0 _ ?_, hrun, hended, _, _, rfl, ?_, ⟨_, rfl⟩, hW, hsame.mono (by decide) (by decide)⟩
  -- 4. STEPS
  · show Steps p.tables e below (s₁.setTop (mkF m 0 #[.val (.int p1)] [])) _
    refine XS.iloadN X0.here hx rfl (hb hby d1_0) rfl ?_
    show Steps p.tables e below (s₁.setTop (mkF m 1 #[.val (.int p1)] [(.int p1)])) _
    refine XS.ifYes X0.here hx rfl (pc0 := 1) (pc' := 8) rfl (hb hby d1_1) rfl ((if0 _ _).trans (feq hc1).2) (by decide) (by decide) ?_
    show Steps p.tables e below (s₁.setTop (mkF m 8 #[.val (.int p1)] [])) _
    refine XS.iloadN X0.here hx rfl (hb hby d1_8) rfl ?_
    show Steps p.tables e below (s₁.setTop (mkF m 9 #[.val (.int p1)] [(.int p1)])) _
    refine XS.iconst X0.here hx rfl (hb hby d1_9) ?_
    show Steps p.tables e below (s₁.setTop (mkF m 10 #[.val (.int p1)] [(.int (1 : Int32)), (.int p1)])) _
    refine XS.icmpYes X0.here hx rfl (pc0 := 10) (pc' := 17) rfl (hb hby d1_10) rfl (feq hc10).2 (by decide) (by decide) ?_
    show Steps p.tables e below (s₁.setTop (mkF m 17 #[.val (.int p1)] [])) _
    refine XS.iloadN X0.here hx rfl (hb hby d1_17) rfl ?_
    show Steps p.tables e below (s₁.setTop (mkF m 18 #[.val (.int p1)] [(.int p1)])) _
    refine XS.iconst X0.here hx rfl (hb hby d1_18) ?_
    show Steps p.tables e below (s₁.setTop (mkF m 19 #[.val (.int p1)] [(.int (2 : Int32)), (.int p1)])) _
    refine XS.icmpYes X0.here hx rfl (pc0 := 19) (pc' := 26) rfl (hb hby d1_19) rfl (feq hc19).2 (by decide) (by decide) ?_
    show Steps p.tables e below (s₁.setTop (mkF m 26 #[.val (.int p1)] [])) _
    refine XS.iloadN X0.here hx rfl (hb hby d1_26) rfl ?_
    show Steps p.tables e below (s₁.setTop (mkF m 27 #[.val (.int p1)] [(.int p1)])) _
    refine XS.iconst X0.here hx rfl (hb hby d1_27) ?_
    show Steps p.tables e below (s₁.setTop (mkF m 28 #[.val (.int p1)] [(.int (3 : Int32)), (.int p1)])) _
    refine XS.icmpYes X0.here hx rfl (pc0 := 28) (pc' := 35) rfl (hb hby d1_28) rfl (feq hc28).2 (by decide) (by decide) ?_
    show Steps p.tables e below (s₁.setTop (mkF m 35 #[.val (.int p1)] [])) _
    refine XS.iloadN X0.here hx rfl (hb hby d1_35) rfl ?_
    show Steps p.tables e below (s₁.setTop (mkF m 36 #[.val (.int p1)] [(.int p1)])) _
    refine XS.iconst X0.here hx rfl (hb hby d1_36) ?_
    show Steps p.tables e below (s₁.setTop (mkF m 37 #[.val (.int p1)] [(.int (4 : Int32)), (.int p1)])) _
    refine XS.icmpYes X0.here hx rfl (pc0 := 37) (pc' := 44) rfl (hb hby d1_37) rfl (feq hc37).2 (by decide) (by decide) ?_
    show Steps p.tables e below (s₁.setTop (mkF m 44 #[.val (.int p1)] [])) _
    refine XS.iloadN X0.here hx rfl (hb hby d1_44) rfl ?_
    show Steps p.tables e below (s₁.setTop (mkF m 45 #[.val (.int p1)] [(.int p1)])) _
    refine XS.iconst X0.here hx rfl (hb hby d1_45) ?_
    show Steps p.tables e below (s₁.setTop (mkF m 46 #[.val (.int p1)] [(.int (5 : Int32)), (.int p1)])) _
    refine XS.icmpNo X0.here hx rfl (hb hby d1_46) rfl (teq hc46).2 ?_
    show Steps p.tables e below (s₁.setTop (mkF m 49 #[.val (.int p1)] [])) _
    refine st3 _ ?_
    show Steps p.tables e below (T3.setTop (mkF m 52 #[.val (.int p1)] [(.ref w_WAARDERING)])) _
    jvm_step X3.here [X3.here.top, hx, (hb hby d1_52), X3.method', Bd.returns, Value.isRef, FieldType.isReference]
    first | (intro acts; rw [hr _ acts rfl rfl rfl]) | rw [hr _ _ rfl rfl rfl]
    exact Steps.refl _
  · show Q1 Z p1 w_PAD w_KENMERK w_BRON w_NAAM w_NIVEAU w_WAARDERING w_ARCHIEFVORMER w_BEPERKING w_FORMAAT_CODE w_FORMAAT_NAAM h0 n0 _ T3.heap _
    rw [e3]
    exact ⟨by simp_all [pickF], N0, rfl⟩
set_option maxRecDepth 65536 in
set_option maxHeartbeats 40000000 in
theorem rm1_ttttttf (l : Launch) (Z : State) (a0 : Array Value) (hw : ∀ d ∈ tables_1, d.before a0 Z = true) (ws : List Jvm.Cond) (p1 : Int32) (w_PAD : Addr) (w_KENMERK : Addr) (w_BRON : Addr) (w_NAAM : Addr) (w_NIVEAU : Addr) (w_WAARDERING : Addr) (w_ARCHIEFVORMER : Addr) (w_BEPERKING : Addr) (w_FORMAAT_CODE : Addr) (w_FORMAAT_NAAM : Addr) (h0 : Heap) (n0 : Nat) (Z0 : n0 ≤ h0.size) (S_PAD : Sta Z h0 "com/example/overbrenger/overbrenger/build/Column" "PAD" "Lcom/example/overbrenger/overbrenger/build/Column;" (.ref w_PAD)) (S_KENMERK : Sta Z h0 "com/example/overbrenger/overbrenger/build/Column" "KENMERK" "Lcom/example/overbrenger/overbrenger/build/Column;" (.ref w_KENMERK)) (S_BRON : Sta Z h0 "com/example/overbrenger/overbrenger/build/Column" "BRON" "Lcom/example/overbrenger/overbrenger/build/Column;" (.ref w_BRON)) (S_NAAM : Sta Z h0 "com/example/overbrenger/overbrenger/build/Column" "NAAM" "Lcom/example/overbrenger/overbrenger/build/Column;" (.ref w_NAAM)) (S_NIVEAU : Sta Z h0 "com/example/overbrenger/overbrenger/build/Column" "NIVEAU" "Lcom/example/overbrenger/overbrenger/build/Column;" (.ref w_NIVEAU)) (S_WAARDERING : Sta Z h0 "com/example/overbrenger/overbrenger/build/Column" "WAARDERING" "Lcom/example/overbrenger/overbrenger/build/Column;" (.ref w_WAARDERING)) (S_ARCHIEFVORMER : Sta Z h0 "com/example/overbrenger/overbrenger/build/Column" "ARCHIEFVORMER" "Lcom/example/overbrenger/overbrenger/build/Column;" (.ref w_ARCHIEFVORMER)) (S_BEPERKING : Sta Z h0 "com/example/overbrenger/overbrenger/build/Column" "BEPERKING" "Lcom/example/overbrenger/overbrenger/build/Column;" (.ref w_BEPERKING)) (S_FORMAAT_CODE : Sta Z h0 "com/example/overbrenger/overbrenger/build/Column" "FORMAAT_CODE" "Lcom/example/overbrenger/overbrenger/build/Column;" (.ref w_FORMAAT_CODE)) (S_FORMAAT_NAAM : Sta Z h0 "com/example/overbrenger/overbrenger/build/Column" "FORMAAT_NAAM" "Lcom/example/overbrenger/overbrenger/build/Column;" (.ref w_FORMAAT_NAAM)) (hc1 : ¬ (p1 = (0 : Int32))) (hc10 : ¬ (p1 = (1 : Int32))) (hc19 : ¬ (p1 = (2 : Int32))) (hc28 : ¬ (p1 = (3 : Int32))) (hc37 : ¬ (p1 = (4 : Int32))) (hc46 : ¬ (p1 = (5 : Int32))) (hc56 : p1 = (6 : Int32)) :
    MetFree l (⟨"com/example/overbrenger/overbrenger/build/ColumnUsePinLaw", "pick", "(I)Lcom/example/overbrenger/overbrenger/build/Column;"⟩ : MethodName) (head1 (Jvm.Cond.code (⟨"com/example/overbrenger/overbrenger/build/ColumnUsePinLaw", "pick", "(I)Lcom/example/overbrenger/overbrenger/build/Column;"⟩ : MethodName) method_2_code 1 (some (.object "com/example/overbrenger/overbrenger/build/Column")) :: ws) ({ frames := 0, cells := 0, slots := 0, locals := 0 } : Room)) (fun a U => a = #[(.int p1)] ∧ Z.Warmed39 U.vm ∧ U.heap = h0) (fun _ _ _ _ _ => True) (fun _ U o U' => ∃ v L, o = .returned v ∧ Q1 Z p1 w_PAD w_KENMERK w_BRON w_NAAM w_NIVEAU w_WAARDERING w_ARCHIEFVORMER w_BEPERKING w_FORMAAT_CODE w_FORMAAT_NAAM h0 n0 v U'.heap L ∧ FrameEnd U o U' L ({ frames := 0, cells := 0, slots := 0, locals := 0 } : Room).cells ({ frames := 0, cells := 0, slots := 0, locals := 0 } : Room).slots) := by
  refine MetFree.of_bodySF (plainFor_of_name pn_1) hisR ?_
  intro p e s m args below meth c s₁ Bd hml0 hP hK
  obtain ⟨rfl, hZ, hh⟩ := hP
  have hx := Bd.exec
  have hby := Bd.bytes
  have hml : c.maxLocals = 1 := hml0
  have hown : s.vm.findClass "com/example/overbrenger/overbrenger/build/ColumnUsePinLaw" = some m.cls := findClass_of_methodNamed Bd.named
  have hnm := (name_of_methodNamed Bd.named Bd.method).1
  have X0 : Stand p l e ({ frames := 0, cells := 0, slots := 0, locals := 0 } : Room) s m #[(.int p1)] below meth c s₁ [] 0 0 := Stand.of_body Bd
  have e0 : s₁.heap = h0 := by rw [← hh, Bd.state]; rfl
  have N0 := Fr.nil n0
  have pre0 : ∀ t, Steps p.tables e below (s₁.setTop (mkF m 0 #[.val (.int p1)] [])) t → Steps p.tables e below (s₁.setTop (entryFrame m #[(.int p1)] 1)) t := fun t k => castTop (ef_1 m p1) k
  -- 3. LAWS
  obtain ⟨T3, X3, e3, st3⟩ := getS2 X0 hx hZ hown (host := "") (Or.inl (hw _ (List.mem_of_getElem? (i := 27) rfl))) Via.refl e0 S_ARCHIEFVORMER (g := (mkF m 59 #[.val (.int p1)] [])) rfl (hb hby d1_59)
  obtain ⟨fs, hr, hrun, hended, hW, hsame⟩ := X3.leave (v := some (.ref w_ARCHIEFVORMER)) (fun h => by rw [Bd.returns] at h; cases h)
  refine ⟨_, _, pre0 _ ?_, hrun, hended, _, _, rfl, ?_, ⟨_, rfl⟩, hW, hsame.mono (by decide) (by decide)⟩
  -- 4. STEPS
  · show Steps p.tables e below (s₁.setTop (mkF m 0 #[.val (.int p1)] [])) _
    refine XS.iloadN X0.here hx rfl (hb hby d1_0) rfl ?_
    show Steps p.tables e below (s₁.setTop (mkF m 1 #[.val (.int p1)] [(.int p1)])) _
    refine XS.ifYes X0.here hx rfl (pc0 := 1) (pc' := 8) rfl (hb hby d1_1) rfl ((if0 _ _).trans (feq hc1).2) (by decide) (by decide) ?_
    show Steps p.tables e below (s₁.setTop (mkF m 8 #[.val (.int p1)] [])) _
    refine XS.iloadN X0.here hx rfl (hb hby d1_8) rfl ?_
    show Steps p.tables e below (s₁.setTop (mkF m 9 #[.val (.int p1)] [(.int p1)])) _
    refine XS.iconst X0.here hx rfl (hb hby d1_9) ?_
    show Steps p.tables e below (s₁.setTop (mkF m 10 #[.val (.int p1)] [(.int (1 : Int32)), (.int p1)])) _
    refine XS.icmpYes X0.here hx rfl (pc0 := 10) (pc' := 17) rfl (hb hby d1_10) rfl (feq hc10).2 (by decide) (by decide) ?_
    show Steps p.tables e below (s₁.setTop (mkF m 17 #[.val (.int p1)] [])) _
    refine XS.iloadN X0.here hx rfl (hb hby d1_17) rfl ?_
    show Steps p.tables e below (s₁.setTop (mkF m 18 #[.val (.int p1)] [(.int p1)])) _
    refine XS.iconst X0.here hx rfl (hb hby d1_18) ?_
    show Steps p.tables e below (s₁.setTop (mkF m 19 #[.val (.int p1)] [(.int (2 : Int32)), (.int p1)])) _
    refine XS.icmpYes X0.here hx rfl (pc0 := 19) (pc' := 26) rfl (hb hby d1_19) rfl (feq hc19).2 (by decide) (by decide) ?_
    show Steps p.tables e below (s₁.setTop (mkF m 26 #[.val (.int p1)] [])) _
    refine XS.iloadN X0.here hx rfl (hb hby d1_26) rfl ?_
    show Steps p.tables e below (s₁.setTop (mkF m 27 #[.val (.int p1)] [(.int p1)])) _
    refine XS.iconst X0.here hx rfl (hb hby d1_27) ?_
    show Steps p.tables e below (s₁.setTop (mkF m 28 #[.val (.int p1)] [(.int (3 : Int32)), (.int p1)])) _
    refine XS.icmpYes X0.here hx rfl (pc0 := 28) (pc' := 35) rfl (hb hby d1_28) rfl (feq hc28).2 (by decide) (by decide) ?_
    show Steps p.tables e below (s₁.setTop (mkF m 35 #[.val (.int p1)] [])) _
    refine XS.iloadN X0.here hx rfl (hb hby d1_35) rfl ?_
    show Steps p.tables e below (s₁.setTop (mkF m 36 #[.val (.int p1)] [(.int p1)])) _
    refine XS.iconst X0.here hx rfl (hb hby d1_36) ?_
    show Steps p.tables e below (s₁.setTop (mkF m 37 #[.val (.int p1)] [(.int (4 : Int32)), (.int p1)])) _
    refine XS.icmpYes X0.here hx rfl (pc0 := 37) (pc' := 44) rfl (hb hby d1_37) rfl (feq hc37).2 (by decide) (by decide) ?_
    show Steps p.tables e below (s₁.setTop (mkF m 44 #[.val (.int p1)] [])) _
    refine XS.iloadN X0.here hx rfl (hb hby d1_44) rfl ?_
    show Steps p.tables e below (s₁.setTop (mkF m 45 #[.val (.int p1)] [(.int p1)])) _
    refine XS.iconst X0.here hx rfl (hb hby d1_45) ?_
    show Steps p.tables e below (s₁.setTop (mkF m 46 #[.val (.int p1)] [(.int (5 : Int32)), (.int p1)])) _
    refine XS.icmpYes X0.here hx rfl (pc0 := 46) (pc' := 53) rfl (hb hby d1_46) rfl (feq hc46).2 (by decide) (by decide) ?_
    show Steps p.tables e below (s₁.setTop (mkF m 53 #[.val (.int p1)] [])) _
    refine XS.iloadN X0.here hx rfl (hb hby d1_53) rfl ?_
    show Steps p.tables e below (s₁.setTop (mkF m 54 #[.val (.int p1)] [(.int p1)])) _
    refine XS.bipush X0.here hx rfl (hb hby d1_54) ?_
    show Steps p.tables e below (s₁.setTop (mkF m 56 #[.val (.int p1)] [(.int (6 : Int32)), (.int p1)])) _
    refine XS.icmpNo X0.here hx rfl (hb hby d1_56) rfl (teq hc56).2 ?_
    show Steps p.tables e below (s₁.setTop (mkF m 59 #[.val (.int p1)] [])) _
    refine st3 _ ?_
    show Steps p.tables e below (T3.setTop (mkF m 62 #[.val (.int p1)] [(.ref w_ARCHIEFVORMER)])) _
    jvm_step X3.here [X3.here.top, hx, (hb hby d1_62), X3.method', Bd.returns, Value.isRef, FieldType.isReference]
    first | (intro acts; rw [hr _ acts rfl rfl rfl]) | rw [hr _ _ rfl rfl rfl]
    exact Steps.refl _
  · show Q1 Z p1 w_PAD w_KENMERK w_BRON w_NAAM w_NIVEAU w_WAARDERING w_ARCHIEFVORMER w_BEPERKING w_FORMAAT_CODE w_FORMAAT_NAAM h0 n0 _ T3.heap _
    rw [e3]
    exact ⟨by simp_all [pickF], N0, rfl⟩
set_option maxRecDepth 65536 in
set_option maxHeartbeats 40000000 in
theorem rm1_tttttttf (l : Launch) (Z : State) (a0 : Array Value) (hw : ∀ d ∈ tables_1, d.before a0 Z = true) (ws : List Jvm.Cond) (p1 : Int32) (w_PAD : Addr) (w_KENMERK : Addr) (w_BRON : Addr) (w_NAAM : Addr) (w_NIVEAU : Addr) (w_WAARDERING : Addr) (w_ARCHIEFVORMER : Addr) (w_BEPERKING : Addr) (w_FORMAAT_CODE : Addr) (w_FORMAAT_NAAM : Addr) (h0 : Heap) (n0 : Nat) (Z0 : n0 ≤ h0.size) (S_PAD : Sta Z h0 "com/example/overbrenger/overbrenger/build/Column" "PAD" "Lcom/example/overbrenger/overbrenger/build/Column;" (.ref w_PAD)) (S_KENMERK : Sta Z h0 "com/example/overbrenger/overbrenger/build/Column" "KENMERK" "Lcom/example/overbrenger/overbrenger/build/Column;" (.ref w_KENMERK)) (S_BRON : Sta Z h0 "com/example/overbrenger/overbrenger/build/Column" "BRON" "Lcom/example/overbrenger/overbrenger/build/Column;" (.ref w_BRON)) (S_NAAM : Sta Z h0 "com/example/overbrenger/overbrenger/build/Column" "NAAM" "Lcom/example/overbrenger/overbrenger/build/Column;" (.ref w_NAAM)) (S_NIVEAU : Sta Z h0 "com/example/overbrenger/overbrenger/build/Column" "NIVEAU" "Lcom/example/overbrenger/overbrenger/build/Column;" (.ref w_NIVEAU)) (S_WAARDERING : Sta Z h0 "com/example/overbrenger/overbrenger/build/Column" "WAARDERING" "Lcom/example/overbrenger/overbrenger/build/Column;" (.ref w_WAARDERING)) (S_ARCHIEFVORMER : Sta Z h0 "com/example/overbrenger/overbrenger/build/Column" "ARCHIEFVORMER" "Lcom/example/overbrenger/overbrenger/build/Column;" (.ref w_ARCHIEFVORMER)) (S_BEPERKING : Sta Z h0 "com/example/overbrenger/overbrenger/build/Column" "BEPERKING" "Lcom/example/overbrenger/overbrenger/build/Column;" (.ref w_BEPERKING)) (S_FORMAAT_CODE : Sta Z h0 "com/example/overbrenger/overbrenger/build/Column" "FORMAAT_CODE" "Lcom/example/overbrenger/overbrenger/build/Column;" (.ref w_FORMAAT_CODE)) (S_FORMAAT_NAAM : Sta Z h0 "com/example/overbrenger/overbrenger/build/Column" "FORMAAT_NAAM" "Lcom/example/overbrenger/overbrenger/build/Column;" (.ref w_FORMAAT_NAAM)) (hc1 : ¬ (p1 = (0 : Int32))) (hc10 : ¬ (p1 = (1 : Int32))) (hc19 : ¬ (p1 = (2 : Int32))) (hc28 : ¬ (p1 = (3 : Int32))) (hc37 : ¬ (p1 = (4 : Int32))) (hc46 : ¬ (p1 = (5 : Int32))) (hc56 : ¬ (p1 = (6 : Int32))) (hc66 : p1 = (7 : Int32)) :
    MetFree l (⟨"com/example/overbrenger/overbrenger/build/ColumnUsePinLaw", "pick", "(I)Lcom/example/overbrenger/overbrenger/build/Column;"⟩ : MethodName) (head1 (Jvm.Cond.code (⟨"com/example/overbrenger/overbrenger/build/ColumnUsePinLaw", "pick", "(I)Lcom/example/overbrenger/overbrenger/build/Column;"⟩ : MethodName) method_2_code 1 (some (.object "com/example/overbrenger/overbrenger/build/Column")) :: ws) ({ frames := 0, cells := 0, slots := 0, locals := 0 } : Room)) (fun a U => a = #[(.int p1)] ∧ Z.Warmed39 U.vm ∧ U.heap = h0) (fun _ _ _ _ _ => True) (fun _ U o U' => ∃ v L, o = .returned v ∧ Q1 Z p1 w_PAD w_KENMERK w_BRON w_NAAM w_NIVEAU w_WAARDERING w_ARCHIEFVORMER w_BEPERKING w_FORMAAT_CODE w_FORMAAT_NAAM h0 n0 v U'.heap L ∧ FrameEnd U o U' L ({ frames := 0, cells := 0, slots := 0, locals := 0 } : Room).cells ({ frames := 0, cells := 0, slots := 0, locals := 0 } : Room).slots) := by
  refine MetFree.of_bodySF (plainFor_of_name pn_1) hisR ?_
  intro p e s m args below meth c s₁ Bd hml0 hP hK
  obtain ⟨rfl, hZ, hh⟩ := hP
  have hx := Bd.exec
  have hby := Bd.bytes
  have hml : c.maxLocals = 1 := hml0
  have hown : s.vm.findClass "com/example/overbrenger/overbrenger/build/ColumnUsePinLaw" = some m.cls := findClass_of_methodNamed Bd.named
  have hnm := (name_of_methodNamed Bd.named Bd.method).1
  have X0 : Stand p l e ({ frames := 0, cells := 0, slots := 0, locals := 0 } : Room) s m #[(.int p1)] below meth c s₁ [] 0 0 := Stand.of_body Bd
  have e0 : s₁.heap = h0 := by rw [← hh, Bd.state]; rfl
  have N0 := Fr.nil n0
  have pre0 : ∀ t, Steps p.tables e below (s₁.setTop (mkF m 0 #[.val (.int p1)] [])) t → Steps p.tables e below (s₁.setTop (entryFrame m #[(.int p1)] 1)) t := fun t k => castTop (ef_1 m p1) k
  -- 3. LAWS
  obtain ⟨T3, X3, e3, st3⟩ := getS2 X0 hx hZ hown (host := "") (Or.inl (hw _ (List.mem_of_getElem? (i := 44) rfl))) Via.refl e0 S_BEPERKING (g := (mkF m 69 #[.val (.int p1)] [])) rfl (hb hby d1_69)
  obtain ⟨fs, hr, hrun, hended, hW, hsame⟩ := X3.leave (v := some (.ref w_BEPERKING)) (fun h => by rw [Bd.returns] at h; cases h)
  refine ⟨_, _, pre0 _ ?_, hrun, hended, _, _, rfl, ?_, ⟨_, rfl⟩, hW, hsame.mono (by decide) (by decide)⟩
  -- 4. STEPS
  · show Steps p.tables e below (s₁.setTop (mkF m 0 #[.val (.int p1)] [])) _
    refine XS.iloadN X0.here hx rfl (hb hby d1_0) rfl ?_
    show Steps p.tables e below (s₁.setTop (mkF m 1 #[.val (.int p1)] [(.int p1)])) _
    refine XS.ifYes X0.here hx rfl (pc0 := 1) (pc' := 8) rfl (hb hby d1_1) rfl ((if0 _ _).trans (feq hc1).2) (by decide) (by decide) ?_
    show Steps p.tables e below (s₁.setTop (mkF m 8 #[.val (.int p1)] [])) _
    refine XS.iloadN X0.here hx rfl (hb hby d1_8) rfl ?_
    show Steps p.tables e below (s₁.setTop (mkF m 9 #[.val (.int p1)] [(.int p1)])) _
    refine XS.iconst X0.here hx rfl (hb hby d1_9) ?_
    show Steps p.tables e below (s₁.setTop (mkF m 10 #[.val (.int p1)] [(.int (1 : Int32)), (.int p1)])) _
    refine XS.icmpYes X0.here hx rfl (pc0 := 10) (pc' := 17) rfl (hb hby d1_10) rfl (feq hc10).2 (by decide) (by decide) ?_
    show Steps p.tables e below (s₁.setTop (mkF m 17 #[.val (.int p1)] [])) _
    refine XS.iloadN X0.here hx rfl (hb hby d1_17) rfl ?_
    show Steps p.tables e below (s₁.setTop (mkF m 18 #[.val (.int p1)] [(.int p1)])) _
    refine XS.iconst X0.here hx rfl (hb hby d1_18) ?_
    show Steps p.tables e below (s₁.setTop (mkF m 19 #[.val (.int p1)] [(.int (2 : Int32)), (.int p1)])) _
    refine XS.icmpYes X0.here hx rfl (pc0 := 19) (pc' := 26) rfl (hb hby d1_19) rfl (feq hc19).2 (by decide) (by decide) ?_
    show Steps p.tables e below (s₁.setTop (mkF m 26 #[.val (.int p1)] [])) _
    refine XS.iloadN X0.here hx rfl (hb hby d1_26) rfl ?_
    show Steps p.tables e below (s₁.setTop (mkF m 27 #[.val (.int p1)] [(.int p1)])) _
    refine XS.iconst X0.here hx rfl (hb hby d1_27) ?_
    show Steps p.tables e below (s₁.setTop (mkF m 28 #[.val (.int p1)] [(.int (3 : Int32)), (.int p1)])) _
    refine XS.icmpYes X0.here hx rfl (pc0 := 28) (pc' := 35) rfl (hb hby d1_28) rfl (feq hc28).2 (by decide) (by decide) ?_
    show Steps p.tables e below (s₁.setTop (mkF m 35 #[.val (.int p1)] [])) _
    refine XS.iloadN X0.here hx rfl (hb hby d1_35) rfl ?_
    show Steps p.tables e below (s₁.setTop (mkF m 36 #[.val (.int p1)] [(.int p1)])) _
    refine XS.iconst X0.here hx rfl (hb hby d1_36) ?_
    show Steps p.tables e below (s₁.setTop (mkF m 37 #[.val (.int p1)] [(.int (4 : Int32)), (.int p1)])) _
    refine XS.icmpYes X0.here hx rfl (pc0 := 37) (pc' := 44) rfl (hb hby d1_37) rfl (feq hc37).2 (by decide) (by decide) ?_
    show Steps p.tables e below (s₁.setTop (mkF m 44 #[.val (.int p1)] [])) _
    refine XS.iloadN X0.here hx rfl (hb hby d1_44) rfl ?_
    show Steps p.tables e below (s₁.setTop (mkF m 45 #[.val (.int p1)] [(.int p1)])) _
    refine XS.iconst X0.here hx rfl (hb hby d1_45) ?_
    show Steps p.tables e below (s₁.setTop (mkF m 46 #[.val (.int p1)] [(.int (5 : Int32)), (.int p1)])) _
    refine XS.icmpYes X0.here hx rfl (pc0 := 46) (pc' := 53) rfl (hb hby d1_46) rfl (feq hc46).2 (by decide) (by decide) ?_
    show Steps p.tables e below (s₁.setTop (mkF m 53 #[.val (.int p1)] [])) _
    refine XS.iloadN X0.here hx rfl (hb hby d1_53) rfl ?_
    show Steps p.tables e below (s₁.setTop (mkF m 54 #[.val (.int p1)] [(.int p1)])) _
    refine XS.bipush X0.here hx rfl (hb hby d1_54) ?_
    show Steps p.tables e below (s₁.setTop (mkF m 56 #[.val (.int p1)] [(.int (6 : Int32)), (.int p1)])) _
    refine XS.icmpYes X0.here hx rfl (pc0 := 56) (pc' := 63) rfl (hb hby d1_56) rfl (feq hc56).2 (by decide) (by decide) ?_
    show Steps p.tables e below (s₁.setTop (mkF m 63 #[.val (.int p1)] [])) _
    refine XS.iloadN X0.here hx rfl (hb hby d1_63) rfl ?_
    show Steps p.tables e below (s₁.setTop (mkF m 64 #[.val (.int p1)] [(.int p1)])) _
    refine XS.bipush X0.here hx rfl (hb hby d1_64) ?_
    show Steps p.tables e below (s₁.setTop (mkF m 66 #[.val (.int p1)] [(.int (7 : Int32)), (.int p1)])) _
    refine XS.icmpNo X0.here hx rfl (hb hby d1_66) rfl (teq hc66).2 ?_
    show Steps p.tables e below (s₁.setTop (mkF m 69 #[.val (.int p1)] [])) _
    refine st3 _ ?_
    show Steps p.tables e below (T3.setTop (mkF m 72 #[.val (.int p1)] [(.ref w_BEPERKING)])) _
    jvm_step X3.here [X3.here.top, hx, (hb hby d1_72), X3.method', Bd.returns, Value.isRef, FieldType.isReference]
    first | (intro acts; rw [hr _ acts rfl rfl rfl]) | rw [hr _ _ rfl rfl rfl]
    exact Steps.refl _
  · show Q1 Z p1 w_PAD w_KENMERK w_BRON w_NAAM w_NIVEAU w_WAARDERING w_ARCHIEFVORMER w_BEPERKING w_FORMAAT_CODE w_FORMAAT_NAAM h0 n0 _ T3.heap _
    rw [e3]
    exact ⟨by simp_all [pickF], N0, rfl⟩
set_option maxRecDepth 65536 in
set_option maxHeartbeats 40000000 in
theorem rm1_ttttttttf (l : Launch) (Z : State) (a0 : Array Value) (hw : ∀ d ∈ tables_1, d.before a0 Z = true) (ws : List Jvm.Cond) (p1 : Int32) (w_PAD : Addr) (w_KENMERK : Addr) (w_BRON : Addr) (w_NAAM : Addr) (w_NIVEAU : Addr) (w_WAARDERING : Addr) (w_ARCHIEFVORMER : Addr) (w_BEPERKING : Addr) (w_FORMAAT_CODE : Addr) (w_FORMAAT_NAAM : Addr) (h0 : Heap) (n0 : Nat) (Z0 : n0 ≤ h0.size) (S_PAD : Sta Z h0 "com/example/overbrenger/overbrenger/build/Column" "PAD" "Lcom/example/overbrenger/overbrenger/build/Column;" (.ref w_PAD)) (S_KENMERK : Sta Z h0 "com/example/overbrenger/overbrenger/build/Column" "KENMERK" "Lcom/example/overbrenger/overbrenger/build/Column;" (.ref w_KENMERK)) (S_BRON : Sta Z h0 "com/example/overbrenger/overbrenger/build/Column" "BRON" "Lcom/example/overbrenger/overbrenger/build/Column;" (.ref w_BRON)) (S_NAAM : Sta Z h0 "com/example/overbrenger/overbrenger/build/Column" "NAAM" "Lcom/example/overbrenger/overbrenger/build/Column;" (.ref w_NAAM)) (S_NIVEAU : Sta Z h0 "com/example/overbrenger/overbrenger/build/Column" "NIVEAU" "Lcom/example/overbrenger/overbrenger/build/Column;" (.ref w_NIVEAU)) (S_WAARDERING : Sta Z h0 "com/example/overbrenger/overbrenger/build/Column" "WAARDERING" "Lcom/example/overbrenger/overbrenger/build/Column;" (.ref w_WAARDERING)) (S_ARCHIEFVORMER : Sta Z h0 "com/example/overbrenger/overbrenger/build/Column" "ARCHIEFVORMER" "Lcom/example/overbrenger/overbrenger/build/Column;" (.ref w_ARCHIEFVORMER)) (S_BEPERKING : Sta Z h0 "com/example/overbrenger/overbrenger/build/Column" "BEPERKING" "Lcom/example/overbrenger/overbrenger/build/Column;" (.ref w_BEPERKING)) (S_FORMAAT_CODE : Sta Z h0 "com/example/overbrenger/overbrenger/build/Column" "FORMAAT_CODE" "Lcom/example/overbrenger/overbrenger/build/Column;" (.ref w_FORMAAT_CODE)) (S_FORMAAT_NAAM : Sta Z h0 "com/example/overbrenger/overbrenger/build/Column" "FORMAAT_NAAM" "Lcom/example/overbrenger/overbrenger/build/Column;" (.ref w_FORMAAT_NAAM)) (hc1 : ¬ (p1 = (0 : Int32))) (hc10 : ¬ (p1 = (1 : Int32))) (hc19 : ¬ (p1 = (2 : Int32))) (hc28 : ¬ (p1 = (3 : Int32))) (hc37 : ¬ (p1 = (4 : Int32))) (hc46 : ¬ (p1 = (5 : Int32))) (hc56 : ¬ (p1 = (6 : Int32))) (hc66 : ¬ (p1 = (7 : Int32))) (hc76 : p1 = (8 : Int32)) :
    MetFree l (⟨"com/example/overbrenger/overbrenger/build/ColumnUsePinLaw", "pick", "(I)Lcom/example/overbrenger/overbrenger/build/Column;"⟩ : MethodName) (head1 (Jvm.Cond.code (⟨"com/example/overbrenger/overbrenger/build/ColumnUsePinLaw", "pick", "(I)Lcom/example/overbrenger/overbrenger/build/Column;"⟩ : MethodName) method_2_code 1 (some (.object "com/example/overbrenger/overbrenger/build/Column")) :: ws) ({ frames := 0, cells := 0, slots := 0, locals := 0 } : Room)) (fun a U => a = #[(.int p1)] ∧ Z.Warmed39 U.vm ∧ U.heap = h0) (fun _ _ _ _ _ => True) (fun _ U o U' => ∃ v L, o = .returned v ∧ Q1 Z p1 w_PAD w_KENMERK w_BRON w_NAAM w_NIVEAU w_WAARDERING w_ARCHIEFVORMER w_BEPERKING w_FORMAAT_CODE w_FORMAAT_NAAM h0 n0 v U'.heap L ∧ FrameEnd U o U' L ({ frames := 0, cells := 0, slots := 0, locals := 0 } : Room).cells ({ frames := 0, cells := 0, slots := 0, locals := 0 } : Room).slots) := by
  refine MetFree.of_bodySF (plainFor_of_name pn_1) hisR ?_
  intro p e s m args below meth c s₁ Bd hml0 hP hK
  obtain ⟨rfl, hZ, hh⟩ := hP
  have hx := Bd.exec
  have hby := Bd.bytes
  have hml : c.maxLocals = 1 := hml0
  have hown : s.vm.findClass "com/example/overbrenger/overbrenger/build/ColumnUsePinLaw" = some m.cls := findClass_of_methodNamed Bd.named
  have hnm := (name_of_methodNamed Bd.named Bd.method).1
  have X0 : Stand p l e ({ frames := 0, cells := 0, slots := 0, locals := 0 } : Room) s m #[(.int p1)] below meth c s₁ [] 0 0 := Stand.of_body Bd
  have e0 : s₁.heap = h0 := by rw [← hh, Bd.state]; rfl
  have N0 := Fr.nil n0
  have pre0 : ∀ t, Steps p.tables e below (s₁.setTop (mkF m 0 #[.val (.int p1)] [])) t → Steps p.tables e below (s₁.setTop (entryFrame m #[(.int p1)] 1)) t := fun t k => castTop (ef_1 m p1) k
  -- 3. LAWS
  obtain ⟨T3, X3, e3, st3⟩ := getS2 X0 hx hZ hown (host := "") (Or.inl (hw _ (List.mem_of_getElem? (i := 25) rfl))) Via.refl e0 S_FORMAAT_CODE (g := (mkF m 79 #[.val (.int p1)] [])) rfl (hb hby d1_79)
  obtain ⟨fs, hr, hrun, hended, hW, hsame⟩ := X3.leave (v := some (.ref w_FORMAAT_CODE)) (fun h => by rw [Bd.returns] at h; cases h)
  refine ⟨_, _, pre0 _ ?_, hrun, hended, _, _, rfl, ?_, ⟨_, rfl⟩, hW, hsame.mono (by decide) (by decide)⟩
  -- 4. STEPS
  · show Steps p.tables e below (s₁.setTop (mkF m 0 #[.val (.int p1)] [])) _
    refine XS.iloadN X0.here hx rfl (hb hby d1_0) rfl ?_
    show Steps p.tables e below (s₁.setTop (mkF m 1 #[.val (.int p1)] [(.int p1)])) _
    refine XS.ifYes X0.here hx rfl (pc0 := 1) (pc' := 8) rfl (hb hby d1_1) rfl ((if0 _ _).trans (feq hc1).2) (by decide) (by decide) ?_
    show Steps p.tables e below (s₁.setTop (mkF m 8 #[.val (.int p1)] [])) _
    refine XS.iloadN X0.here hx rfl (hb hby d1_8) rfl ?_
    show Steps p.tables e below (s₁.setTop (mkF m 9 #[.val (.int p1)] [(.int p1)])) _
    refine XS.iconst X0.here hx rfl (hb hby d1_9) ?_
    show Steps p.tables e below (s₁.setTop (mkF m 10 #[.val (.int p1)] [(.int (1 : Int32)), (.int p1)])) _
    refine XS.icmpYes X0.here hx rfl (pc0 := 10) (pc' := 17) rfl (hb hby d1_10) rfl (feq hc10).2 (by decide) (by decide) ?_
    show Steps p.tables e below (s₁.setTop (mkF m 17 #[.val (.int p1)] [])) _
    refine XS.iloadN X0.here hx rfl (hb hby d1_17) rfl ?_
    show Steps p.tables e below (s₁.setTop (mkF m 18 #[.val (.int p1)] [(.int p1)])) _
    refine XS.iconst X0.here hx rfl (hb hby d1_18) ?_
    show Steps p.tables e below (s₁.setTop (mkF m 19 #[.val (.int p1)] [(.int (2 : Int32)), (.int p1)])) _
    refine XS.icmpYes X0.here hx rfl (pc0 := 19) (pc' := 26) rfl (hb hby d1_19) rfl (feq hc19).2 (by decide) (by decide) ?_
    show Steps p.tables e below (s₁.setTop (mkF m 26 #[.val (.int p1)] [])) _
    refine XS.iloadN X0.here hx rfl (hb hby d1_26) rfl ?_
    show Steps p.tables e below (s₁.setTop (mkF m 27 #[.val (.int p1)] [(.int p1)])) _
    refine XS.iconst X0.here hx rfl (hb hby d1_27) ?_
    show Steps p.tables e below (s₁.setTop (mkF m 28 #[.val (.int p1)] [(.int (3 : Int32)), (.int p1)])) _
    refine XS.icmpYes X0.here hx rfl (pc0 := 28) (pc' := 35) rfl (hb hby d1_28) rfl (feq hc28).2 (by decide) (by decide) ?_
    show Steps p.tables e below (s₁.setTop (mkF m 35 #[.val (.int p1)] [])) _
    refine XS.iloadN X0.here hx rfl (hb hby d1_35) rfl ?_
    show Steps p.tables e below (s₁.setTop (mkF m 36 #[.val (.int p1)] [(.int p1)])) _
    refine XS.iconst X0.here hx rfl (hb hby d1_36) ?_
    show Steps p.tables e below (s₁.setTop (mkF m 37 #[.val (.int p1)] [(.int (4 : Int32)), (.int p1)])) _
    refine XS.icmpYes X0.here hx rfl (pc0 := 37) (pc' := 44) rfl (hb hby d1_37) rfl (feq hc37).2 (by decide) (by decide) ?_
    show Steps p.tables e below (s₁.setTop (mkF m 44 #[.val (.int p1)] [])) _
    refine XS.iloadN X0.here hx rfl (hb hby d1_44) rfl ?_
    show Steps p.tables e below (s₁.setTop (mkF m 45 #[.val (.int p1)] [(.int p1)])) _
    refine XS.iconst X0.here hx rfl (hb hby d1_45) ?_
    show Steps p.tables e below (s₁.setTop (mkF m 46 #[.val (.int p1)] [(.int (5 : Int32)), (.int p1)])) _
    refine XS.icmpYes X0.here hx rfl (pc0 := 46) (pc' := 53) rfl (hb hby d1_46) rfl (feq hc46).2 (by decide) (by decide) ?_
    show Steps p.tables e below (s₁.setTop (mkF m 53 #[.val (.int p1)] [])) _
    refine XS.iloadN X0.here hx rfl (hb hby d1_53) rfl ?_
    show Steps p.tables e below (s₁.setTop (mkF m 54 #[.val (.int p1)] [(.int p1)])) _
    refine XS.bipush X0.here hx rfl (hb hby d1_54) ?_
    show Steps p.tables e below (s₁.setTop (mkF m 56 #[.val (.int p1)] [(.int (6 : Int32)), (.int p1)])) _
    refine XS.icmpYes X0.here hx rfl (pc0 := 56) (pc' := 63) rfl (hb hby d1_56) rfl (feq hc56).2 (by decide) (by decide) ?_
    show Steps p.tables e below (s₁.setTop (mkF m 63 #[.val (.int p1)] [])) _
    refine XS.iloadN X0.here hx rfl (hb hby d1_63) rfl ?_
    show Steps p.tables e below (s₁.setTop (mkF m 64 #[.val (.int p1)] [(.int p1)])) _
    refine XS.bipush X0.here hx rfl (hb hby d1_64) ?_
    show Steps p.tables e below (s₁.setTop (mkF m 66 #[.val (.int p1)] [(.int (7 : Int32)), (.int p1)])) _
    refine XS.icmpYes X0.here hx rfl (pc0 := 66) (pc' := 73) rfl (hb hby d1_66) rfl (feq hc66).2 (by decide) (by decide) ?_
    show Steps p.tables e below (s₁.setTop (mkF m 73 #[.val (.int p1)] [])) _
    refine XS.iloadN X0.here hx rfl (hb hby d1_73) rfl ?_
    show Steps p.tables e below (s₁.setTop (mkF m 74 #[.val (.int p1)] [(.int p1)])) _
    refine XS.bipush X0.here hx rfl (hb hby d1_74) ?_
    show Steps p.tables e below (s₁.setTop (mkF m 76 #[.val (.int p1)] [(.int (8 : Int32)), (.int p1)])) _
    refine XS.icmpNo X0.here hx rfl (hb hby d1_76) rfl (teq hc76).2 ?_
    show Steps p.tables e below (s₁.setTop (mkF m 79 #[.val (.int p1)] [])) _
    refine st3 _ ?_
    show Steps p.tables e below (T3.setTop (mkF m 82 #[.val (.int p1)] [(.ref w_FORMAAT_CODE)])) _
    jvm_step X3.here [X3.here.top, hx, (hb hby d1_82), X3.method', Bd.returns, Value.isRef, FieldType.isReference]
    first | (intro acts; rw [hr _ acts rfl rfl rfl]) | rw [hr _ _ rfl rfl rfl]
    exact Steps.refl _
  · show Q1 Z p1 w_PAD w_KENMERK w_BRON w_NAAM w_NIVEAU w_WAARDERING w_ARCHIEFVORMER w_BEPERKING w_FORMAAT_CODE w_FORMAAT_NAAM h0 n0 _ T3.heap _
    rw [e3]
    exact ⟨by simp_all [pickF], N0, rfl⟩
set_option maxRecDepth 65536 in
set_option maxHeartbeats 40000000 in
theorem rm1_ttttttttt (l : Launch) (Z : State) (a0 : Array Value) (hw : ∀ d ∈ tables_1, d.before a0 Z = true) (ws : List Jvm.Cond) (p1 : Int32) (w_PAD : Addr) (w_KENMERK : Addr) (w_BRON : Addr) (w_NAAM : Addr) (w_NIVEAU : Addr) (w_WAARDERING : Addr) (w_ARCHIEFVORMER : Addr) (w_BEPERKING : Addr) (w_FORMAAT_CODE : Addr) (w_FORMAAT_NAAM : Addr) (h0 : Heap) (n0 : Nat) (Z0 : n0 ≤ h0.size) (S_PAD : Sta Z h0 "com/example/overbrenger/overbrenger/build/Column" "PAD" "Lcom/example/overbrenger/overbrenger/build/Column;" (.ref w_PAD)) (S_KENMERK : Sta Z h0 "com/example/overbrenger/overbrenger/build/Column" "KENMERK" "Lcom/example/overbrenger/overbrenger/build/Column;" (.ref w_KENMERK)) (S_BRON : Sta Z h0 "com/example/overbrenger/overbrenger/build/Column" "BRON" "Lcom/example/overbrenger/overbrenger/build/Column;" (.ref w_BRON)) (S_NAAM : Sta Z h0 "com/example/overbrenger/overbrenger/build/Column" "NAAM" "Lcom/example/overbrenger/overbrenger/build/Column;" (.ref w_NAAM)) (S_NIVEAU : Sta Z h0 "com/example/overbrenger/overbrenger/build/Column" "NIVEAU" "Lcom/example/overbrenger/overbrenger/build/Column;" (.ref w_NIVEAU)) (S_WAARDERING : Sta Z h0 "com/example/overbrenger/overbrenger/build/Column" "WAARDERING" "Lcom/example/overbrenger/overbrenger/build/Column;" (.ref w_WAARDERING)) (S_ARCHIEFVORMER : Sta Z h0 "com/example/overbrenger/overbrenger/build/Column" "ARCHIEFVORMER" "Lcom/example/overbrenger/overbrenger/build/Column;" (.ref w_ARCHIEFVORMER)) (S_BEPERKING : Sta Z h0 "com/example/overbrenger/overbrenger/build/Column" "BEPERKING" "Lcom/example/overbrenger/overbrenger/build/Column;" (.ref w_BEPERKING)) (S_FORMAAT_CODE : Sta Z h0 "com/example/overbrenger/overbrenger/build/Column" "FORMAAT_CODE" "Lcom/example/overbrenger/overbrenger/build/Column;" (.ref w_FORMAAT_CODE)) (S_FORMAAT_NAAM : Sta Z h0 "com/example/overbrenger/overbrenger/build/Column" "FORMAAT_NAAM" "Lcom/example/overbrenger/overbrenger/build/Column;" (.ref w_FORMAAT_NAAM)) (hc1 : ¬ (p1 = (0 : Int32))) (hc10 : ¬ (p1 = (1 : Int32))) (hc19 : ¬ (p1 = (2 : Int32))) (hc28 : ¬ (p1 = (3 : Int32))) (hc37 : ¬ (p1 = (4 : Int32))) (hc46 : ¬ (p1 = (5 : Int32))) (hc56 : ¬ (p1 = (6 : Int32))) (hc66 : ¬ (p1 = (7 : Int32))) (hc76 : ¬ (p1 = (8 : Int32))) :
    MetFree l (⟨"com/example/overbrenger/overbrenger/build/ColumnUsePinLaw", "pick", "(I)Lcom/example/overbrenger/overbrenger/build/Column;"⟩ : MethodName) (head1 (Jvm.Cond.code (⟨"com/example/overbrenger/overbrenger/build/ColumnUsePinLaw", "pick", "(I)Lcom/example/overbrenger/overbrenger/build/Column;"⟩ : MethodName) method_2_code 1 (some (.object "com/example/overbrenger/overbrenger/build/Column")) :: ws) ({ frames := 0, cells := 0, slots := 0, locals := 0 } : Room)) (fun a U => a = #[(.int p1)] ∧ Z.Warmed39 U.vm ∧ U.heap = h0) (fun _ _ _ _ _ => True) (fun _ U o U' => ∃ v L, o = .returned v ∧ Q1 Z p1 w_PAD w_KENMERK w_BRON w_NAAM w_NIVEAU w_WAARDERING w_ARCHIEFVORMER w_BEPERKING w_FORMAAT_CODE w_FORMAAT_NAAM h0 n0 v U'.heap L ∧ FrameEnd U o U' L ({ frames := 0, cells := 0, slots := 0, locals := 0 } : Room).cells ({ frames := 0, cells := 0, slots := 0, locals := 0 } : Room).slots) := by
  refine MetFree.of_bodySF (plainFor_of_name pn_1) hisR ?_
  intro p e s m args below meth c s₁ Bd hml0 hP hK
  obtain ⟨rfl, hZ, hh⟩ := hP
  have hx := Bd.exec
  have hby := Bd.bytes
  have hml : c.maxLocals = 1 := hml0
  have hown : s.vm.findClass "com/example/overbrenger/overbrenger/build/ColumnUsePinLaw" = some m.cls := findClass_of_methodNamed Bd.named
  have hnm := (name_of_methodNamed Bd.named Bd.method).1
  have X0 : Stand p l e ({ frames := 0, cells := 0, slots := 0, locals := 0 } : Room) s m #[(.int p1)] below meth c s₁ [] 0 0 := Stand.of_body Bd
  have e0 : s₁.heap = h0 := by rw [← hh, Bd.state]; rfl
  have N0 := Fr.nil n0
  have pre0 : ∀ t, Steps p.tables e below (s₁.setTop (mkF m 0 #[.val (.int p1)] [])) t → Steps p.tables e below (s₁.setTop (entryFrame m #[(.int p1)] 1)) t := fun t k => castTop (ef_1 m p1) k
  -- 3. LAWS
  obtain ⟨T3, X3, e3, st3⟩ := getS2 X0 hx hZ hown (host := "") (Or.inl (hw _ (List.mem_of_getElem? (i := 34) rfl))) Via.refl e0 S_FORMAAT_NAAM (g := (mkF m 83 #[.val (.int p1)] [])) rfl (hb hby d1_83)
  obtain ⟨fs, hr, hrun, hended, hW, hsame⟩ := X3.leave (v := some (.ref w_FORMAAT_NAAM)) (fun h => by rw [Bd.returns] at h; cases h)
  refine ⟨_, _, pre0 _ ?_, hrun, hended, _, _, rfl, ?_, ⟨_, rfl⟩, hW, hsame.mono (by decide) (by decide)⟩
  -- 4. STEPS
  · show Steps p.tables e below (s₁.setTop (mkF m 0 #[.val (.int p1)] [])) _
    refine XS.iloadN X0.here hx rfl (hb hby d1_0) rfl ?_
    show Steps p.tables e below (s₁.setTop (mkF m 1 #[.val (.int p1)] [(.int p1)])) _
    refine XS.ifYes X0.here hx rfl (pc0 := 1) (pc' := 8) rfl (hb hby d1_1) rfl ((if0 _ _).trans (feq hc1).2) (by decide) (by decide) ?_
    show Steps p.tables e below (s₁.setTop (mkF m 8 #[.val (.int p1)] [])) _
    refine XS.iloadN X0.here hx rfl (hb hby d1_8) rfl ?_
    show Steps p.tables e below (s₁.setTop (mkF m 9 #[.val (.int p1)] [(.int p1)])) _
    refine XS.iconst X0.here hx rfl (hb hby d1_9) ?_
    show Steps p.tables e below (s₁.setTop (mkF m 10 #[.val (.int p1)] [(.int (1 : Int32)), (.int p1)])) _
    refine XS.icmpYes X0.here hx rfl (pc0 := 10) (pc' := 17) rfl (hb hby d1_10) rfl (feq hc10).2 (by decide) (by decide) ?_
    show Steps p.tables e below (s₁.setTop (mkF m 17 #[.val (.int p1)] [])) _
    refine XS.iloadN X0.here hx rfl (hb hby d1_17) rfl ?_
    show Steps p.tables e below (s₁.setTop (mkF m 18 #[.val (.int p1)] [(.int p1)])) _
    refine XS.iconst X0.here hx rfl (hb hby d1_18) ?_
    show Steps p.tables e below (s₁.setTop (mkF m 19 #[.val (.int p1)] [(.int (2 : Int32)), (.int p1)])) _
    refine XS.icmpYes X0.here hx rfl (pc0 := 19) (pc' := 26) rfl (hb hby d1_19) rfl (feq hc19).2 (by decide) (by decide) ?_
    show Steps p.tables e below (s₁.setTop (mkF m 26 #[.val (.int p1)] [])) _
    refine XS.iloadN X0.here hx rfl (hb hby d1_26) rfl ?_
    show Steps p.tables e below (s₁.setTop (mkF m 27 #[.val (.int p1)] [(.int p1)])) _
    refine XS.iconst X0.here hx rfl (hb hby d1_27) ?_
    show Steps p.tables e below (s₁.setTop (mkF m 28 #[.val (.int p1)] [(.int (3 : Int32)), (.int p1)])) _
    refine XS.icmpYes X0.here hx rfl (pc0 := 28) (pc' := 35) rfl (hb hby d1_28) rfl (feq hc28).2 (by decide) (by decide) ?_
    show Steps p.tables e below (s₁.setTop (mkF m 35 #[.val (.int p1)] [])) _
    refine XS.iloadN X0.here hx rfl (hb hby d1_35) rfl ?_
    show Steps p.tables e below (s₁.setTop (mkF m 36 #[.val (.int p1)] [(.int p1)])) _
    refine XS.iconst X0.here hx rfl (hb hby d1_36) ?_
    show Steps p.tables e below (s₁.setTop (mkF m 37 #[.val (.int p1)] [(.int (4 : Int32)), (.int p1)])) _
    refine XS.icmpYes X0.here hx rfl (pc0 := 37) (pc' := 44) rfl (hb hby d1_37) rfl (feq hc37).2 (by decide) (by decide) ?_
    show Steps p.tables e below (s₁.setTop (mkF m 44 #[.val (.int p1)] [])) _
    refine XS.iloadN X0.here hx rfl (hb hby d1_44) rfl ?_
    show Steps p.tables e below (s₁.setTop (mkF m 45 #[.val (.int p1)] [(.int p1)])) _
    refine XS.iconst X0.here hx rfl (hb hby d1_45) ?_
    show Steps p.tables e below (s₁.setTop (mkF m 46 #[.val (.int p1)] [(.int (5 : Int32)), (.int p1)])) _
    refine XS.icmpYes X0.here hx rfl (pc0 := 46) (pc' := 53) rfl (hb hby d1_46) rfl (feq hc46).2 (by decide) (by decide) ?_
    show Steps p.tables e below (s₁.setTop (mkF m 53 #[.val (.int p1)] [])) _
    refine XS.iloadN X0.here hx rfl (hb hby d1_53) rfl ?_
    show Steps p.tables e below (s₁.setTop (mkF m 54 #[.val (.int p1)] [(.int p1)])) _
    refine XS.bipush X0.here hx rfl (hb hby d1_54) ?_
    show Steps p.tables e below (s₁.setTop (mkF m 56 #[.val (.int p1)] [(.int (6 : Int32)), (.int p1)])) _
    refine XS.icmpYes X0.here hx rfl (pc0 := 56) (pc' := 63) rfl (hb hby d1_56) rfl (feq hc56).2 (by decide) (by decide) ?_
    show Steps p.tables e below (s₁.setTop (mkF m 63 #[.val (.int p1)] [])) _
    refine XS.iloadN X0.here hx rfl (hb hby d1_63) rfl ?_
    show Steps p.tables e below (s₁.setTop (mkF m 64 #[.val (.int p1)] [(.int p1)])) _
    refine XS.bipush X0.here hx rfl (hb hby d1_64) ?_
    show Steps p.tables e below (s₁.setTop (mkF m 66 #[.val (.int p1)] [(.int (7 : Int32)), (.int p1)])) _
    refine XS.icmpYes X0.here hx rfl (pc0 := 66) (pc' := 73) rfl (hb hby d1_66) rfl (feq hc66).2 (by decide) (by decide) ?_
    show Steps p.tables e below (s₁.setTop (mkF m 73 #[.val (.int p1)] [])) _
    refine XS.iloadN X0.here hx rfl (hb hby d1_73) rfl ?_
    show Steps p.tables e below (s₁.setTop (mkF m 74 #[.val (.int p1)] [(.int p1)])) _
    refine XS.bipush X0.here hx rfl (hb hby d1_74) ?_
    show Steps p.tables e below (s₁.setTop (mkF m 76 #[.val (.int p1)] [(.int (8 : Int32)), (.int p1)])) _
    refine XS.icmpYes X0.here hx rfl (pc0 := 76) (pc' := 83) rfl (hb hby d1_76) rfl (feq hc76).2 (by decide) (by decide) ?_
    show Steps p.tables e below (s₁.setTop (mkF m 83 #[.val (.int p1)] [])) _
    refine st3 _ ?_
    show Steps p.tables e below (T3.setTop (mkF m 86 #[.val (.int p1)] [(.ref w_FORMAAT_NAAM)])) _
    jvm_step X3.here [X3.here.top, hx, (hb hby d1_86), X3.method', Bd.returns, Value.isRef, FieldType.isReference]
    first | (intro acts; rw [hr _ acts rfl rfl rfl]) | rw [hr _ _ rfl rfl rfl]
    exact Steps.refl _
  · show Q1 Z p1 w_PAD w_KENMERK w_BRON w_NAAM w_NIVEAU w_WAARDERING w_ARCHIEFVORMER w_BEPERKING w_FORMAAT_CODE w_FORMAAT_NAAM h0 n0 _ T3.heap _
    rw [e3]
    exact ⟨by simp_all [pickF], N0, rfl⟩
theorem rm1 (l : Launch) (Z : State) (a0 : Array Value) (hw : ∀ d ∈ tables_1, d.before a0 Z = true) (ws : List Jvm.Cond) (p1 : Int32) (w_PAD : Addr) (w_KENMERK : Addr) (w_BRON : Addr) (w_NAAM : Addr) (w_NIVEAU : Addr) (w_WAARDERING : Addr) (w_ARCHIEFVORMER : Addr) (w_BEPERKING : Addr) (w_FORMAAT_CODE : Addr) (w_FORMAAT_NAAM : Addr) (h0 : Heap) (n0 : Nat) (Z0 : n0 ≤ h0.size) (S_PAD : Sta Z h0 "com/example/overbrenger/overbrenger/build/Column" "PAD" "Lcom/example/overbrenger/overbrenger/build/Column;" (.ref w_PAD)) (S_KENMERK : Sta Z h0 "com/example/overbrenger/overbrenger/build/Column" "KENMERK" "Lcom/example/overbrenger/overbrenger/build/Column;" (.ref w_KENMERK)) (S_BRON : Sta Z h0 "com/example/overbrenger/overbrenger/build/Column" "BRON" "Lcom/example/overbrenger/overbrenger/build/Column;" (.ref w_BRON)) (S_NAAM : Sta Z h0 "com/example/overbrenger/overbrenger/build/Column" "NAAM" "Lcom/example/overbrenger/overbrenger/build/Column;" (.ref w_NAAM)) (S_NIVEAU : Sta Z h0 "com/example/overbrenger/overbrenger/build/Column" "NIVEAU" "Lcom/example/overbrenger/overbrenger/build/Column;" (.ref w_NIVEAU)) (S_WAARDERING : Sta Z h0 "com/example/overbrenger/overbrenger/build/Column" "WAARDERING" "Lcom/example/overbrenger/overbrenger/build/Column;" (.ref w_WAARDERING)) (S_ARCHIEFVORMER : Sta Z h0 "com/example/overbrenger/overbrenger/build/Column" "ARCHIEFVORMER" "Lcom/example/overbrenger/overbrenger/build/Column;" (.ref w_ARCHIEFVORMER)) (S_BEPERKING : Sta Z h0 "com/example/overbrenger/overbrenger/build/Column" "BEPERKING" "Lcom/example/overbrenger/overbrenger/build/Column;" (.ref w_BEPERKING)) (S_FORMAAT_CODE : Sta Z h0 "com/example/overbrenger/overbrenger/build/Column" "FORMAAT_CODE" "Lcom/example/overbrenger/overbrenger/build/Column;" (.ref w_FORMAAT_CODE)) (S_FORMAAT_NAAM : Sta Z h0 "com/example/overbrenger/overbrenger/build/Column" "FORMAAT_NAAM" "Lcom/example/overbrenger/overbrenger/build/Column;" (.ref w_FORMAAT_NAAM)) :
    MetFree l (⟨"com/example/overbrenger/overbrenger/build/ColumnUsePinLaw", "pick", "(I)Lcom/example/overbrenger/overbrenger/build/Column;"⟩ : MethodName) (head1 (Jvm.Cond.code (⟨"com/example/overbrenger/overbrenger/build/ColumnUsePinLaw", "pick", "(I)Lcom/example/overbrenger/overbrenger/build/Column;"⟩ : MethodName) method_2_code 1 (some (.object "com/example/overbrenger/overbrenger/build/Column")) :: ws) ({ frames := 0, cells := 0, slots := 0, locals := 0 } : Room)) (fun a U => a = #[(.int p1)] ∧ Z.Warmed39 U.vm ∧ U.heap = h0) (fun _ _ _ _ _ => True) (fun _ U o U' => ∃ v L, o = .returned v ∧ Q1 Z p1 w_PAD w_KENMERK w_BRON w_NAAM w_NIVEAU w_WAARDERING w_ARCHIEFVORMER w_BEPERKING w_FORMAAT_CODE w_FORMAAT_NAAM h0 n0 v U'.heap L ∧ FrameEnd U o U' L ({ frames := 0, cells := 0, slots := 0, locals := 0 } : Room).cells ({ frames := 0, cells := 0, slots := 0, locals := 0 } : Room).slots) := by
  by_cases hc1 : p1 = (0 : Int32)
  · exact rm1_f l Z a0 hw ws p1 w_PAD w_KENMERK w_BRON w_NAAM w_NIVEAU w_WAARDERING w_ARCHIEFVORMER w_BEPERKING w_FORMAAT_CODE w_FORMAAT_NAAM h0 n0 Z0 S_PAD S_KENMERK S_BRON S_NAAM S_NIVEAU S_WAARDERING S_ARCHIEFVORMER S_BEPERKING S_FORMAAT_CODE S_FORMAAT_NAAM hc1
  · by_cases hc10 : p1 = (1 : Int32)
    · exact rm1_tf l Z a0 hw ws p1 w_PAD w_KENMERK w_BRON w_NAAM w_NIVEAU w_WAARDERING w_ARCHIEFVORMER w_BEPERKING w_FORMAAT_CODE w_FORMAAT_NAAM h0 n0 Z0 S_PAD S_KENMERK S_BRON S_NAAM S_NIVEAU S_WAARDERING S_ARCHIEFVORMER S_BEPERKING S_FORMAAT_CODE S_FORMAAT_NAAM hc1 hc10
    · by_cases hc19 : p1 = (2 : Int32)
      · exact rm1_ttf l Z a0 hw ws p1 w_PAD w_KENMERK w_BRON w_NAAM w_NIVEAU w_WAARDERING w_ARCHIEFVORMER w_BEPERKING w_FORMAAT_CODE w_FORMAAT_NAAM h0 n0 Z0 S_PAD S_KENMERK S_BRON S_NAAM S_NIVEAU S_WAARDERING S_ARCHIEFVORMER S_BEPERKING S_FORMAAT_CODE S_FORMAAT_NAAM hc1 hc10 hc19
      · by_cases hc28 : p1 = (3 : Int32)
        · exact rm1_tttf l Z a0 hw ws p1 w_PAD w_KENMERK w_BRON w_NAAM w_NIVEAU w_WAARDERING w_ARCHIEFVORMER w_BEPERKING w_FORMAAT_CODE w_FORMAAT_NAAM h0 n0 Z0 S_PAD S_KENMERK S_BRON S_NAAM S_NIVEAU S_WAARDERING S_ARCHIEFVORMER S_BEPERKING S_FORMAAT_CODE S_FORMAAT_NAAM hc1 hc10 hc19 hc28
        · by_cases hc37 : p1 = (4 : Int32)
          · exact rm1_ttttf l Z a0 hw ws p1 w_PAD w_KENMERK w_BRON w_NAAM w_NIVEAU w_WAARDERING w_ARCHIEFVORMER w_BEPERKING w_FORMAAT_CODE w_FORMAAT_NAAM h0 n0 Z0 S_PAD S_KENMERK S_BRON S_NAAM S_NIVEAU S_WAARDERING S_ARCHIEFVORMER S_BEPERKING S_FORMAAT_CODE S_FORMAAT_NAAM hc1 hc10 hc19 hc28 hc37
          · by_cases hc46 : p1 = (5 : Int32)
            · exact rm1_tttttf l Z a0 hw ws p1 w_PAD w_KENMERK w_BRON w_NAAM w_NIVEAU w_WAARDERING w_ARCHIEFVORMER w_BEPERKING w_FORMAAT_CODE w_FORMAAT_NAAM h0 n0 Z0 S_PAD S_KENMERK S_BRON S_NAAM S_NIVEAU S_WAARDERING S_ARCHIEFVORMER S_BEPERKING S_FORMAAT_CODE S_FORMAAT_NAAM hc1 hc10 hc19 hc28 hc37 hc46
            · by_cases hc56 : p1 = (6 : Int32)
              · exact rm1_ttttttf l Z a0 hw ws p1 w_PAD w_KENMERK w_BRON w_NAAM w_NIVEAU w_WAARDERING w_ARCHIEFVORMER w_BEPERKING w_FORMAAT_CODE w_FORMAAT_NAAM h0 n0 Z0 S_PAD S_KENMERK S_BRON S_NAAM S_NIVEAU S_WAARDERING S_ARCHIEFVORMER S_BEPERKING S_FORMAAT_CODE S_FORMAAT_NAAM hc1 hc10 hc19 hc28 hc37 hc46 hc56
              · by_cases hc66 : p1 = (7 : Int32)
                · exact rm1_tttttttf l Z a0 hw ws p1 w_PAD w_KENMERK w_BRON w_NAAM w_NIVEAU w_WAARDERING w_ARCHIEFVORMER w_BEPERKING w_FORMAAT_CODE w_FORMAAT_NAAM h0 n0 Z0 S_PAD S_KENMERK S_BRON S_NAAM S_NIVEAU S_WAARDERING S_ARCHIEFVORMER S_BEPERKING S_FORMAAT_CODE S_FORMAAT_NAAM hc1 hc10 hc19 hc28 hc37 hc46 hc56 hc66
                · by_cases hc76 : p1 = (8 : Int32)
                  · exact rm1_ttttttttf l Z a0 hw ws p1 w_PAD w_KENMERK w_BRON w_NAAM w_NIVEAU w_WAARDERING w_ARCHIEFVORMER w_BEPERKING w_FORMAAT_CODE w_FORMAAT_NAAM h0 n0 Z0 S_PAD S_KENMERK S_BRON S_NAAM S_NIVEAU S_WAARDERING S_ARCHIEFVORMER S_BEPERKING S_FORMAAT_CODE S_FORMAAT_NAAM hc1 hc10 hc19 hc28 hc37 hc46 hc56 hc66 hc76
                  · exact rm1_ttttttttt l Z a0 hw ws p1 w_PAD w_KENMERK w_BRON w_NAAM w_NIVEAU w_WAARDERING w_ARCHIEFVORMER w_BEPERKING w_FORMAAT_CODE w_FORMAAT_NAAM h0 n0 Z0 S_PAD S_KENMERK S_BRON S_NAAM S_NIVEAU S_WAARDERING S_ARCHIEFVORMER S_BEPERKING S_FORMAAT_CODE S_FORMAAT_NAAM hc1 hc10 hc19 hc28 hc37 hc46 hc56 hc66 hc76
theorem d2_0 : decode method_3_code 0 = .ok (.iload_n 0, 1) := by decide +kernel
theorem d2_1 : decode method_3_code 1 = .ok (.ifCond .eq 15, 3) := by decide +kernel
theorem d2_16 : decode method_3_code 16 = .ok (.getstatic 40, 3) := by decide +kernel
theorem d2_19 : decode method_3_code 19 = .ok (.areturn, 1) := by decide +kernel
theorem pn_2 : plainName "com/example/overbrenger/overbrenger/build/ColumnUsePinLaw" = true := by first | (simp [plainName, overriddenIn]; done) | decide +kernel
theorem ef_2 (m : MethodId) (x0 : Int32) : entryFrame m #[(.int x0)] 1 = mkF m 0 #[.val (.int x0)] [] := by first | (simp [entryFrame, mkF, argsToLocals, Value.category]; done) | rfl
theorem d2_4 : decode method_3_code 4 = .ok (.iload_n 0, 1) := by decide +kernel
theorem d2_5 : decode method_3_code 5 = .ok (.bipush 8, 2) := by decide +kernel
theorem d2_7 : decode method_3_code 7 = .ok (.if_icmp .eq 9, 3) := by decide +kernel
theorem d2_10 : decode method_3_code 10 = .ok (.iload_n 0, 1) := by decide +kernel
theorem d2_11 : decode method_3_code 11 = .ok (.bipush 9, 2) := by decide +kernel
theorem d2_13 : decode method_3_code 13 = .ok (.if_icmp .ne 7, 3) := by decide +kernel
theorem d2_20 : decode method_3_code 20 = .ok (.getstatic 46, 3) := by decide +kernel
theorem d2_23 : decode method_3_code 23 = .ok (.areturn, 1) := by decide +kernel
def Q2 (Z : State) (p1 : Int32) (w_NONE : Addr) (w_REQUIRED : Addr) (h0 : Heap) (n0 : Nat) (v : Option Value) (h : Heap) (L : List Loc) : Prop := v = some (.ref (foF p1 w_NONE w_REQUIRED)) ∧ Fr n0 L ∧ h = h0
set_option maxRecDepth 65536 in
set_option maxHeartbeats 40000000 in
theorem rm2_t (l : Launch) (Z : State) (a0 : Array Value) (hw : ∀ d ∈ tables_1, d.before a0 Z = true) (ws : List Jvm.Cond) (p1 : Int32) (w_NONE : Addr) (w_REQUIRED : Addr) (h0 : Heap) (n0 : Nat) (Z0 : n0 ≤ h0.size) (S_NONE : Sta Z h0 "com/example/overbrenger/overbrenger/build/Column$Use" "NONE" "Lcom/example/overbrenger/overbrenger/build/Column$Use;" (.ref w_NONE)) (S_REQUIRED : Sta Z h0 "com/example/overbrenger/overbrenger/build/Column$Use" "REQUIRED" "Lcom/example/overbrenger/overbrenger/build/Column$Use;" (.ref w_REQUIRED)) (hc1 : p1 = (0 : Int32)) :
    MetFree l (⟨"com/example/overbrenger/overbrenger/build/ColumnUsePinLaw", "folderUse", "(I)Lcom/example/overbrenger/overbrenger/build/Column$Use;"⟩ : MethodName) (head1 (Jvm.Cond.code (⟨"com/example/overbrenger/overbrenger/build/ColumnUsePinLaw", "folderUse", "(I)Lcom/example/overbrenger/overbrenger/build/Column$Use;"⟩ : MethodName) method_3_code 1 (some (.object "com/example/overbrenger/overbrenger/build/Column$Use")) :: ws) ({ frames := 0, cells := 0, slots := 0, locals := 0 } : Room)) (fun a U => a = #[(.int p1)] ∧ Z.Warmed39 U.vm ∧ U.heap = h0) (fun _ _ _ _ _ => True) (fun _ U o U' => ∃ v L, o = .returned v ∧ Q2 Z p1 w_NONE w_REQUIRED h0 n0 v U'.heap L ∧ FrameEnd U o U' L ({ frames := 0, cells := 0, slots := 0, locals := 0 } : Room).cells ({ frames := 0, cells := 0, slots := 0, locals := 0 } : Room).slots) := by
  refine MetFree.of_bodySF (plainFor_of_name pn_2) hisR ?_
  intro p e s m args below meth c s₁ Bd hml0 hP hK
  obtain ⟨rfl, hZ, hh⟩ := hP
  have hx := Bd.exec
  have hby := Bd.bytes
  have hml : c.maxLocals = 1 := hml0
  have hown : s.vm.findClass "com/example/overbrenger/overbrenger/build/ColumnUsePinLaw" = some m.cls := findClass_of_methodNamed Bd.named
  have hnm := (name_of_methodNamed Bd.named Bd.method).1
  have X0 : Stand p l e ({ frames := 0, cells := 0, slots := 0, locals := 0 } : Room) s m #[(.int p1)] below meth c s₁ [] 0 0 := Stand.of_body Bd
  have e0 : s₁.heap = h0 := by rw [← hh, Bd.state]; rfl
  have N0 := Fr.nil n0
  have pre0 : ∀ t, Steps p.tables e below (s₁.setTop (mkF m 0 #[.val (.int p1)] [])) t → Steps p.tables e below (s₁.setTop (entryFrame m #[(.int p1)] 1)) t := fun t k => castTop (ef_2 m p1) k
  -- 3. LAWS
  obtain ⟨T3, X3, e3, st3⟩ := getS2 X0 hx hZ hown (host := "") (Or.inl (hw _ (List.mem_of_getElem? (i := 11) rfl))) Via.refl e0 S_NONE (g := (mkF m 16 #[.val (.int p1)] [])) rfl (hb hby d2_16)
  obtain ⟨fs, hr, hrun, hended, hW, hsame⟩ := X3.leave (v := some (.ref w_NONE)) (fun h => by rw [Bd.returns] at h; cases h)
  refine ⟨_, _, pre0 _ ?_, hrun, hended, _, _, rfl, ?_, ⟨_, rfl⟩, hW, hsame.mono (by decide) (by decide)⟩
  -- 4. STEPS
  · show Steps p.tables e below (s₁.setTop (mkF m 0 #[.val (.int p1)] [])) _
    refine XS.iloadN X0.here hx rfl (hb hby d2_0) rfl ?_
    show Steps p.tables e below (s₁.setTop (mkF m 1 #[.val (.int p1)] [(.int p1)])) _
    refine XS.ifYes X0.here hx rfl (pc0 := 1) (pc' := 16) rfl (hb hby d2_1) rfl ((if0 _ _).trans (teq hc1).1) (by decide) (by decide) ?_
    show Steps p.tables e below (s₁.setTop (mkF m 16 #[.val (.int p1)] [])) _
    refine st3 _ ?_
    show Steps p.tables e below (T3.setTop (mkF m 19 #[.val (.int p1)] [(.ref w_NONE)])) _
    jvm_step X3.here [X3.here.top, hx, (hb hby d2_19), X3.method', Bd.returns, Value.isRef, FieldType.isReference]
    first | (intro acts; rw [hr _ acts rfl rfl rfl]) | rw [hr _ _ rfl rfl rfl]
    exact Steps.refl _
  · show Q2 Z p1 w_NONE w_REQUIRED h0 n0 _ T3.heap _
    rw [e3]
    exact ⟨by simp_all [foF], N0, rfl⟩
set_option maxRecDepth 65536 in
set_option maxHeartbeats 40000000 in
theorem rm2_ft (l : Launch) (Z : State) (a0 : Array Value) (hw : ∀ d ∈ tables_1, d.before a0 Z = true) (ws : List Jvm.Cond) (p1 : Int32) (w_NONE : Addr) (w_REQUIRED : Addr) (h0 : Heap) (n0 : Nat) (Z0 : n0 ≤ h0.size) (S_NONE : Sta Z h0 "com/example/overbrenger/overbrenger/build/Column$Use" "NONE" "Lcom/example/overbrenger/overbrenger/build/Column$Use;" (.ref w_NONE)) (S_REQUIRED : Sta Z h0 "com/example/overbrenger/overbrenger/build/Column$Use" "REQUIRED" "Lcom/example/overbrenger/overbrenger/build/Column$Use;" (.ref w_REQUIRED)) (hc1 : ¬ (p1 = (0 : Int32))) (hc7 : p1 = (8 : Int32)) :
    MetFree l (⟨"com/example/overbrenger/overbrenger/build/ColumnUsePinLaw", "folderUse", "(I)Lcom/example/overbrenger/overbrenger/build/Column$Use;"⟩ : MethodName) (head1 (Jvm.Cond.code (⟨"com/example/overbrenger/overbrenger/build/ColumnUsePinLaw", "folderUse", "(I)Lcom/example/overbrenger/overbrenger/build/Column$Use;"⟩ : MethodName) method_3_code 1 (some (.object "com/example/overbrenger/overbrenger/build/Column$Use")) :: ws) ({ frames := 0, cells := 0, slots := 0, locals := 0 } : Room)) (fun a U => a = #[(.int p1)] ∧ Z.Warmed39 U.vm ∧ U.heap = h0) (fun _ _ _ _ _ => True) (fun _ U o U' => ∃ v L, o = .returned v ∧ Q2 Z p1 w_NONE w_REQUIRED h0 n0 v U'.heap L ∧ FrameEnd U o U' L ({ frames := 0, cells := 0, slots := 0, locals := 0 } : Room).cells ({ frames := 0, cells := 0, slots := 0, locals := 0 } : Room).slots) := by
  refine MetFree.of_bodySF (plainFor_of_name pn_2) hisR ?_
  intro p e s m args below meth c s₁ Bd hml0 hP hK
  obtain ⟨rfl, hZ, hh⟩ := hP
  have hx := Bd.exec
  have hby := Bd.bytes
  have hml : c.maxLocals = 1 := hml0
  have hown : s.vm.findClass "com/example/overbrenger/overbrenger/build/ColumnUsePinLaw" = some m.cls := findClass_of_methodNamed Bd.named
  have hnm := (name_of_methodNamed Bd.named Bd.method).1
  have X0 : Stand p l e ({ frames := 0, cells := 0, slots := 0, locals := 0 } : Room) s m #[(.int p1)] below meth c s₁ [] 0 0 := Stand.of_body Bd
  have e0 : s₁.heap = h0 := by rw [← hh, Bd.state]; rfl
  have N0 := Fr.nil n0
  have pre0 : ∀ t, Steps p.tables e below (s₁.setTop (mkF m 0 #[.val (.int p1)] [])) t → Steps p.tables e below (s₁.setTop (entryFrame m #[(.int p1)] 1)) t := fun t k => castTop (ef_2 m p1) k
  -- 3. LAWS
  obtain ⟨T3, X3, e3, st3⟩ := getS2 X0 hx hZ hown (host := "") (Or.inl (hw _ (List.mem_of_getElem? (i := 11) rfl))) Via.refl e0 S_NONE (g := (mkF m 16 #[.val (.int p1)] [])) rfl (hb hby d2_16)
  obtain ⟨fs, hr, hrun, hended, hW, hsame⟩ := X3.leave (v := some (.ref w_NONE)) (fun h => by rw [Bd.returns] at h; cases h)
  refine ⟨_, _, pre0 _ ?_, hrun, hended, _, _, rfl, ?_, ⟨_, rfl⟩, hW, hsame.mono (by decide) (by decide)⟩
  -- 4. STEPS
  · show Steps p.tables e below (s₁.setTop (mkF m 0 #[.val (.int p1)] [])) _
    refine XS.iloadN X0.here hx rfl (hb hby d2_0) rfl ?_
    show Steps p.tables e below (s₁.setTop (mkF m 1 #[.val (.int p1)] [(.int p1)])) _
    refine XS.ifNo X0.here hx rfl (hb hby d2_1) rfl ((if0 _ _).trans (feq hc1).1) ?_
    show Steps p.tables e below (s₁.setTop (mkF m 4 #[.val (.int p1)] [])) _
    refine XS.iloadN X0.here hx rfl (hb hby d2_4) rfl ?_
    show Steps p.tables e below (s₁.setTop (mkF m 5 #[.val (.int p1)] [(.int p1)])) _
    refine XS.bipush X0.here hx rfl (hb hby d2_5) ?_
    show Steps p.tables e below (s₁.setTop (mkF m 7 #[.val (.int p1)] [(.int (8 : Int32)), (.int p1)])) _
    refine XS.icmpYes X0.here hx rfl (pc0 := 7) (pc' := 16) rfl (hb hby d2_7) rfl (teq hc7).1 (by decide) (by decide) ?_
    show Steps p.tables e below (s₁.setTop (mkF m 16 #[.val (.int p1)] [])) _
    refine st3 _ ?_
    show Steps p.tables e below (T3.setTop (mkF m 19 #[.val (.int p1)] [(.ref w_NONE)])) _
    jvm_step X3.here [X3.here.top, hx, (hb hby d2_19), X3.method', Bd.returns, Value.isRef, FieldType.isReference]
    first | (intro acts; rw [hr _ acts rfl rfl rfl]) | rw [hr _ _ rfl rfl rfl]
    exact Steps.refl _
  · show Q2 Z p1 w_NONE w_REQUIRED h0 n0 _ T3.heap _
    rw [e3]
    exact ⟨by simp_all [foF], N0, rfl⟩
set_option maxRecDepth 65536 in
set_option maxHeartbeats 40000000 in
theorem rm2_fff (l : Launch) (Z : State) (a0 : Array Value) (hw : ∀ d ∈ tables_1, d.before a0 Z = true) (ws : List Jvm.Cond) (p1 : Int32) (w_NONE : Addr) (w_REQUIRED : Addr) (h0 : Heap) (n0 : Nat) (Z0 : n0 ≤ h0.size) (S_NONE : Sta Z h0 "com/example/overbrenger/overbrenger/build/Column$Use" "NONE" "Lcom/example/overbrenger/overbrenger/build/Column$Use;" (.ref w_NONE)) (S_REQUIRED : Sta Z h0 "com/example/overbrenger/overbrenger/build/Column$Use" "REQUIRED" "Lcom/example/overbrenger/overbrenger/build/Column$Use;" (.ref w_REQUIRED)) (hc1 : ¬ (p1 = (0 : Int32))) (hc7 : ¬ (p1 = (8 : Int32))) (hc13 : p1 = (9 : Int32)) :
    MetFree l (⟨"com/example/overbrenger/overbrenger/build/ColumnUsePinLaw", "folderUse", "(I)Lcom/example/overbrenger/overbrenger/build/Column$Use;"⟩ : MethodName) (head1 (Jvm.Cond.code (⟨"com/example/overbrenger/overbrenger/build/ColumnUsePinLaw", "folderUse", "(I)Lcom/example/overbrenger/overbrenger/build/Column$Use;"⟩ : MethodName) method_3_code 1 (some (.object "com/example/overbrenger/overbrenger/build/Column$Use")) :: ws) ({ frames := 0, cells := 0, slots := 0, locals := 0 } : Room)) (fun a U => a = #[(.int p1)] ∧ Z.Warmed39 U.vm ∧ U.heap = h0) (fun _ _ _ _ _ => True) (fun _ U o U' => ∃ v L, o = .returned v ∧ Q2 Z p1 w_NONE w_REQUIRED h0 n0 v U'.heap L ∧ FrameEnd U o U' L ({ frames := 0, cells := 0, slots := 0, locals := 0 } : Room).cells ({ frames := 0, cells := 0, slots := 0, locals := 0 } : Room).slots) := by
  refine MetFree.of_bodySF (plainFor_of_name pn_2) hisR ?_
  intro p e s m args below meth c s₁ Bd hml0 hP hK
  obtain ⟨rfl, hZ, hh⟩ := hP
  have hx := Bd.exec
  have hby := Bd.bytes
  have hml : c.maxLocals = 1 := hml0
  have hown : s.vm.findClass "com/example/overbrenger/overbrenger/build/ColumnUsePinLaw" = some m.cls := findClass_of_methodNamed Bd.named
  have hnm := (name_of_methodNamed Bd.named Bd.method).1
  have X0 : Stand p l e ({ frames := 0, cells := 0, slots := 0, locals := 0 } : Room) s m #[(.int p1)] below meth c s₁ [] 0 0 := Stand.of_body Bd
  have e0 : s₁.heap = h0 := by rw [← hh, Bd.state]; rfl
  have N0 := Fr.nil n0
  have pre0 : ∀ t, Steps p.tables e below (s₁.setTop (mkF m 0 #[.val (.int p1)] [])) t → Steps p.tables e below (s₁.setTop (entryFrame m #[(.int p1)] 1)) t := fun t k => castTop (ef_2 m p1) k
  -- 3. LAWS
  obtain ⟨T3, X3, e3, st3⟩ := getS2 X0 hx hZ hown (host := "") (Or.inl (hw _ (List.mem_of_getElem? (i := 11) rfl))) Via.refl e0 S_NONE (g := (mkF m 16 #[.val (.int p1)] [])) rfl (hb hby d2_16)
  obtain ⟨fs, hr, hrun, hended, hW, hsame⟩ := X3.leave (v := some (.ref w_NONE)) (fun h => by rw [Bd.returns] at h; cases h)
  refine ⟨_, _, pre0 _ ?_, hrun, hended, _, _, rfl, ?_, ⟨_, rfl⟩, hW, hsame.mono (by decide) (by decide)⟩
  -- 4. STEPS
  · show Steps p.tables e below (s₁.setTop (mkF m 0 #[.val (.int p1)] [])) _
    refine XS.iloadN X0.here hx rfl (hb hby d2_0) rfl ?_
    show Steps p.tables e below (s₁.setTop (mkF m 1 #[.val (.int p1)] [(.int p1)])) _
    refine XS.ifNo X0.here hx rfl (hb hby d2_1) rfl ((if0 _ _).trans (feq hc1).1) ?_
    show Steps p.tables e below (s₁.setTop (mkF m 4 #[.val (.int p1)] [])) _
    refine XS.iloadN X0.here hx rfl (hb hby d2_4) rfl ?_
    show Steps p.tables e below (s₁.setTop (mkF m 5 #[.val (.int p1)] [(.int p1)])) _
    refine XS.bipush X0.here hx rfl (hb hby d2_5) ?_
    show Steps p.tables e below (s₁.setTop (mkF m 7 #[.val (.int p1)] [(.int (8 : Int32)), (.int p1)])) _
    refine XS.icmpNo X0.here hx rfl (hb hby d2_7) rfl (feq hc7).1 ?_
    show Steps p.tables e below (s₁.setTop (mkF m 10 #[.val (.int p1)] [])) _
    refine XS.iloadN X0.here hx rfl (hb hby d2_10) rfl ?_
    show Steps p.tables e below (s₁.setTop (mkF m 11 #[.val (.int p1)] [(.int p1)])) _
    refine XS.bipush X0.here hx rfl (hb hby d2_11) ?_
    show Steps p.tables e below (s₁.setTop (mkF m 13 #[.val (.int p1)] [(.int (9 : Int32)), (.int p1)])) _
    refine XS.icmpNo X0.here hx rfl (hb hby d2_13) rfl (teq hc13).2 ?_
    show Steps p.tables e below (s₁.setTop (mkF m 16 #[.val (.int p1)] [])) _
    refine st3 _ ?_
    show Steps p.tables e below (T3.setTop (mkF m 19 #[.val (.int p1)] [(.ref w_NONE)])) _
    jvm_step X3.here [X3.here.top, hx, (hb hby d2_19), X3.method', Bd.returns, Value.isRef, FieldType.isReference]
    first | (intro acts; rw [hr _ acts rfl rfl rfl]) | rw [hr _ _ rfl rfl rfl]
    exact Steps.refl _
  · show Q2 Z p1 w_NONE w_REQUIRED h0 n0 _ T3.heap _
    rw [e3]
    exact ⟨by simp_all [foF], N0, rfl⟩
set_option maxRecDepth 65536 in
set_option maxHeartbeats 40000000 in
theorem rm2_fft (l : Launch) (Z : State) (a0 : Array Value) (hw : ∀ d ∈ tables_1, d.before a0 Z = true) (ws : List Jvm.Cond) (p1 : Int32) (w_NONE : Addr) (w_REQUIRED : Addr) (h0 : Heap) (n0 : Nat) (Z0 : n0 ≤ h0.size) (S_NONE : Sta Z h0 "com/example/overbrenger/overbrenger/build/Column$Use" "NONE" "Lcom/example/overbrenger/overbrenger/build/Column$Use;" (.ref w_NONE)) (S_REQUIRED : Sta Z h0 "com/example/overbrenger/overbrenger/build/Column$Use" "REQUIRED" "Lcom/example/overbrenger/overbrenger/build/Column$Use;" (.ref w_REQUIRED)) (hc1 : ¬ (p1 = (0 : Int32))) (hc7 : ¬ (p1 = (8 : Int32))) (hc13 : ¬ (p1 = (9 : Int32))) :
    MetFree l (⟨"com/example/overbrenger/overbrenger/build/ColumnUsePinLaw", "folderUse", "(I)Lcom/example/overbrenger/overbrenger/build/Column$Use;"⟩ : MethodName) (head1 (Jvm.Cond.code (⟨"com/example/overbrenger/overbrenger/build/ColumnUsePinLaw", "folderUse", "(I)Lcom/example/overbrenger/overbrenger/build/Column$Use;"⟩ : MethodName) method_3_code 1 (some (.object "com/example/overbrenger/overbrenger/build/Column$Use")) :: ws) ({ frames := 0, cells := 0, slots := 0, locals := 0 } : Room)) (fun a U => a = #[(.int p1)] ∧ Z.Warmed39 U.vm ∧ U.heap = h0) (fun _ _ _ _ _ => True) (fun _ U o U' => ∃ v L, o = .returned v ∧ Q2 Z p1 w_NONE w_REQUIRED h0 n0 v U'.heap L ∧ FrameEnd U o U' L ({ frames := 0, cells := 0, slots := 0, locals := 0 } : Room).cells ({ frames := 0, cells := 0, slots := 0, locals := 0 } : Room).slots) := by
  refine MetFree.of_bodySF (plainFor_of_name pn_2) hisR ?_
  intro p e s m args below meth c s₁ Bd hml0 hP hK
  obtain ⟨rfl, hZ, hh⟩ := hP
  have hx := Bd.exec
  have hby := Bd.bytes
  have hml : c.maxLocals = 1 := hml0
  have hown : s.vm.findClass "com/example/overbrenger/overbrenger/build/ColumnUsePinLaw" = some m.cls := findClass_of_methodNamed Bd.named
  have hnm := (name_of_methodNamed Bd.named Bd.method).1
  have X0 : Stand p l e ({ frames := 0, cells := 0, slots := 0, locals := 0 } : Room) s m #[(.int p1)] below meth c s₁ [] 0 0 := Stand.of_body Bd
  have e0 : s₁.heap = h0 := by rw [← hh, Bd.state]; rfl
  have N0 := Fr.nil n0
  have pre0 : ∀ t, Steps p.tables e below (s₁.setTop (mkF m 0 #[.val (.int p1)] [])) t → Steps p.tables e below (s₁.setTop (entryFrame m #[(.int p1)] 1)) t := fun t k => castTop (ef_2 m p1) k
  -- 3. LAWS
  obtain ⟨T3, X3, e3, st3⟩ := getS2 X0 hx hZ hown (host := "") (Or.inl (hw _ (List.mem_of_getElem? (i := 23) rfl))) Via.refl e0 S_REQUIRED (g := (mkF m 20 #[.val (.int p1)] [])) rfl (hb hby d2_20)
  obtain ⟨fs, hr, hrun, hended, hW, hsame⟩ := X3.leave (v := some (.ref w_REQUIRED)) (fun h => by rw [Bd.returns] at h; cases h)
  refine ⟨_, _, pre0 _ ?_, hrun, hended, _, _, rfl, ?_, ⟨_, rfl⟩, hW, hsame.mono (by decide) (by decide)⟩
  -- 4. STEPS
  · show Steps p.tables e below (s₁.setTop (mkF m 0 #[.val (.int p1)] [])) _
    refine XS.iloadN X0.here hx rfl (hb hby d2_0) rfl ?_
    show Steps p.tables e below (s₁.setTop (mkF m 1 #[.val (.int p1)] [(.int p1)])) _
    refine XS.ifNo X0.here hx rfl (hb hby d2_1) rfl ((if0 _ _).trans (feq hc1).1) ?_
    show Steps p.tables e below (s₁.setTop (mkF m 4 #[.val (.int p1)] [])) _
    refine XS.iloadN X0.here hx rfl (hb hby d2_4) rfl ?_
    show Steps p.tables e below (s₁.setTop (mkF m 5 #[.val (.int p1)] [(.int p1)])) _
    refine XS.bipush X0.here hx rfl (hb hby d2_5) ?_
    show Steps p.tables e below (s₁.setTop (mkF m 7 #[.val (.int p1)] [(.int (8 : Int32)), (.int p1)])) _
    refine XS.icmpNo X0.here hx rfl (hb hby d2_7) rfl (feq hc7).1 ?_
    show Steps p.tables e below (s₁.setTop (mkF m 10 #[.val (.int p1)] [])) _
    refine XS.iloadN X0.here hx rfl (hb hby d2_10) rfl ?_
    show Steps p.tables e below (s₁.setTop (mkF m 11 #[.val (.int p1)] [(.int p1)])) _
    refine XS.bipush X0.here hx rfl (hb hby d2_11) ?_
    show Steps p.tables e below (s₁.setTop (mkF m 13 #[.val (.int p1)] [(.int (9 : Int32)), (.int p1)])) _
    refine XS.icmpYes X0.here hx rfl (pc0 := 13) (pc' := 20) rfl (hb hby d2_13) rfl (feq hc13).2 (by decide) (by decide) ?_
    show Steps p.tables e below (s₁.setTop (mkF m 20 #[.val (.int p1)] [])) _
    refine st3 _ ?_
    show Steps p.tables e below (T3.setTop (mkF m 23 #[.val (.int p1)] [(.ref w_REQUIRED)])) _
    jvm_step X3.here [X3.here.top, hx, (hb hby d2_23), X3.method', Bd.returns, Value.isRef, FieldType.isReference]
    first | (intro acts; rw [hr _ acts rfl rfl rfl]) | rw [hr _ _ rfl rfl rfl]
    exact Steps.refl _
  · show Q2 Z p1 w_NONE w_REQUIRED h0 n0 _ T3.heap _
    rw [e3]
    exact ⟨by simp_all [foF], N0, rfl⟩
theorem rm2 (l : Launch) (Z : State) (a0 : Array Value) (hw : ∀ d ∈ tables_1, d.before a0 Z = true) (ws : List Jvm.Cond) (p1 : Int32) (w_NONE : Addr) (w_REQUIRED : Addr) (h0 : Heap) (n0 : Nat) (Z0 : n0 ≤ h0.size) (S_NONE : Sta Z h0 "com/example/overbrenger/overbrenger/build/Column$Use" "NONE" "Lcom/example/overbrenger/overbrenger/build/Column$Use;" (.ref w_NONE)) (S_REQUIRED : Sta Z h0 "com/example/overbrenger/overbrenger/build/Column$Use" "REQUIRED" "Lcom/example/overbrenger/overbrenger/build/Column$Use;" (.ref w_REQUIRED)) :
    MetFree l (⟨"com/example/overbrenger/overbrenger/build/ColumnUsePinLaw", "folderUse", "(I)Lcom/example/overbrenger/overbrenger/build/Column$Use;"⟩ : MethodName) (head1 (Jvm.Cond.code (⟨"com/example/overbrenger/overbrenger/build/ColumnUsePinLaw", "folderUse", "(I)Lcom/example/overbrenger/overbrenger/build/Column$Use;"⟩ : MethodName) method_3_code 1 (some (.object "com/example/overbrenger/overbrenger/build/Column$Use")) :: ws) ({ frames := 0, cells := 0, slots := 0, locals := 0 } : Room)) (fun a U => a = #[(.int p1)] ∧ Z.Warmed39 U.vm ∧ U.heap = h0) (fun _ _ _ _ _ => True) (fun _ U o U' => ∃ v L, o = .returned v ∧ Q2 Z p1 w_NONE w_REQUIRED h0 n0 v U'.heap L ∧ FrameEnd U o U' L ({ frames := 0, cells := 0, slots := 0, locals := 0 } : Room).cells ({ frames := 0, cells := 0, slots := 0, locals := 0 } : Room).slots) := by
  by_cases hc1 : p1 = (0 : Int32)
  · exact rm2_t l Z a0 hw ws p1 w_NONE w_REQUIRED h0 n0 Z0 S_NONE S_REQUIRED hc1
  · by_cases hc7 : p1 = (8 : Int32)
    · exact rm2_ft l Z a0 hw ws p1 w_NONE w_REQUIRED h0 n0 Z0 S_NONE S_REQUIRED hc1 hc7
    · by_cases hc13 : p1 = (9 : Int32)
      · exact rm2_fff l Z a0 hw ws p1 w_NONE w_REQUIRED h0 n0 Z0 S_NONE S_REQUIRED hc1 hc7 hc13
      · exact rm2_fft l Z a0 hw ws p1 w_NONE w_REQUIRED h0 n0 Z0 S_NONE S_REQUIRED hc1 hc7 hc13
theorem d3_0 : decode prog_9_method_6_code 0 = .ok (.iload_n 1, 1) := by decide +kernel
theorem d3_1 : decode prog_9_method_6_code 1 = .ok (.ifCond .eq 10, 3) := by decide +kernel
theorem d3_11 : decode prog_9_method_6_code 11 = .ok (.aload_n 0, 1) := by decide +kernel
theorem d3_12 : decode prog_9_method_6_code 12 = .ok (.getfield 68, 3) := by decide +kernel
theorem d3_15 : decode prog_9_method_6_code 15 = .ok (.areturn, 1) := by decide +kernel
theorem pn_3 : plainName "com/example/overbrenger/overbrenger/build/Column" = true := by first | (simp [plainName, overriddenIn]; done) | decide +kernel
theorem ef_3 (m : MethodId) (x0 : Addr) (x1 : Int32) : entryFrame m #[(.ref x0), (.int x1)] 2 = mkF m 0 #[.val (.ref x0), .val (.int x1)] [] := by first | (simp [entryFrame, mkF, argsToLocals, Value.category]; done) | rfl
theorem d3_4 : decode prog_9_method_6_code 4 = .ok (.aload_n 0, 1) := by decide +kernel
theorem d3_5 : decode prog_9_method_6_code 5 = .ok (.getfield 64, 3) := by decide +kernel
theorem d3_8 : decode prog_9_method_6_code 8 = .ok (.goto 7, 3) := by decide +kernel
def Q3 (Z : State) (a1 : Addr) (p2 : Int32) (v_files_a1 : Addr) (v_folders_a1 : Addr) (h0 : Heap) (n0 : Nat) (v : Option Value) (h : Heap) (L : List Loc) : Prop := v = some (.ref (useF p2 v_files_a1 v_folders_a1)) ∧ Fr n0 L ∧ h = h0
set_option maxRecDepth 65536 in
set_option maxHeartbeats 40000000 in
theorem rm3_t (l : Launch) (Z : State) (a0 : Array Value) (hw : ∀ d ∈ tables_1, d.before a0 Z = true) (ws : List Jvm.Cond) (a1 : Addr) (p2 : Int32) (v_files_a1 : Addr) (v_folders_a1 : Addr) (h0 : Heap) (n0 : Nat) (Z0 : n0 ≤ h0.size) (F_files_a1 : Fld Z h0 a1 "com/example/overbrenger/overbrenger/build/Column" "files" "Lcom/example/overbrenger/overbrenger/build/Column$Use;" (.ref v_files_a1)) (F_folders_a1 : Fld Z h0 a1 "com/example/overbrenger/overbrenger/build/Column" "folders" "Lcom/example/overbrenger/overbrenger/build/Column$Use;" (.ref v_folders_a1)) (hc1 : p2 = (0 : Int32)) :
    MetFree l (⟨"com/example/overbrenger/overbrenger/build/Column", "use", "(Z)Lcom/example/overbrenger/overbrenger/build/Column$Use;"⟩ : MethodName) (head1 (Jvm.Cond.code (⟨"com/example/overbrenger/overbrenger/build/Column", "use", "(Z)Lcom/example/overbrenger/overbrenger/build/Column$Use;"⟩ : MethodName) prog_9_method_6_code 2 (some (.object "com/example/overbrenger/overbrenger/build/Column$Use")) :: ws) ({ frames := 0, cells := 0, slots := 0, locals := 0 } : Room)) (fun a U => a = #[(.ref a1), (.int p2)] ∧ Z.Warmed39 U.vm ∧ U.heap = h0) (fun _ _ _ _ _ => True) (fun _ U o U' => ∃ v L, o = .returned v ∧ Q3 Z a1 p2 v_files_a1 v_folders_a1 h0 n0 v U'.heap L ∧ FrameEnd U o U' L ({ frames := 0, cells := 0, slots := 0, locals := 0 } : Room).cells ({ frames := 0, cells := 0, slots := 0, locals := 0 } : Room).slots) := by
  refine MetFree.of_bodySF (plainFor_of_name pn_3) hisR ?_
  intro p e s m args below meth c s₁ Bd hml0 hP hK
  obtain ⟨rfl, hZ, hh⟩ := hP
  have hx := Bd.exec
  have hby := Bd.bytes
  have hml : c.maxLocals = 2 := hml0
  have hown : s.vm.findClass "com/example/overbrenger/overbrenger/build/Column" = some m.cls := findClass_of_methodNamed Bd.named
  have hnm := (name_of_methodNamed Bd.named Bd.method).1
  have X0 : Stand p l e ({ frames := 0, cells := 0, slots := 0, locals := 0 } : Room) s m #[(.ref a1), (.int p2)] below meth c s₁ [] 0 0 := Stand.of_body Bd
  have e0 : s₁.heap = h0 := by rw [← hh, Bd.state]; rfl
  have N0 := Fr.nil n0
  have pre0 : ∀ t, Steps p.tables e below (s₁.setTop (mkF m 0 #[.val (.ref a1), .val (.int p2)] [])) t → Steps p.tables e below (s₁.setTop (entryFrame m #[(.ref a1), (.int p2)] 2)) t := fun t k => castTop (ef_3 m a1 p2) k
  -- 3. LAWS
  obtain ⟨T4, X4, e4, st4⟩ := getF X0 hx hZ hown (host := "") (Or.inl (hw _ (List.mem_of_getElem? (i := 32) rfl))) Via.refl e0 F_files_a1 (g := (mkF m 12 #[.val (.ref a1), .val (.int p2)] [(.ref a1)])) rfl rfl (hb hby d3_12)
  obtain ⟨fs, hr, hrun, hended, hW, hsame⟩ := X4.leave (v := some (.ref v_files_a1)) (fun h => by rw [Bd.returns] at h; cases h)
  refine ⟨_, _, pre0 _ ?_, hrun, hended, _, _, rfl, ?_, ⟨_, rfl⟩, hW, hsame.mono (by decide) (by decide)⟩
  -- 4. STEPS
  · show Steps p.tables e below (s₁.setTop (mkF m 0 #[.val (.ref a1), .val (.int p2)] [])) _
    refine XS.iloadN X0.here hx rfl (hb hby d3_0) rfl ?_
    show Steps p.tables e below (s₁.setTop (mkF m 1 #[.val (.ref a1), .val (.int p2)] [(.int p2)])) _
    refine XS.ifYes X0.here hx rfl (pc0 := 1) (pc' := 11) rfl (hb hby d3_1) rfl ((if0 _ _).trans (teq hc1).1) (by decide) (by decide) ?_
    show Steps p.tables e below (s₁.setTop (mkF m 11 #[.val (.ref a1), .val (.int p2)] [])) _
    refine XS.aloadN X0.here hx rfl (hb hby d3_11) rfl rfl ?_
    show Steps p.tables e below (s₁.setTop (mkF m 12 #[.val (.ref a1), .val (.int p2)] [(.ref a1)])) _
    refine st4 _ ?_
    show Steps p.tables e below (T4.setTop (mkF m 15 #[.val (.ref a1), .val (.int p2)] [(.ref v_files_a1)])) _
    jvm_step X4.here [X4.here.top, hx, (hb hby d3_15), X4.method', Bd.returns, Value.isRef, FieldType.isReference]
    first | (intro acts; rw [hr _ acts rfl rfl rfl]) | rw [hr _ _ rfl rfl rfl]
    exact Steps.refl _
  · show Q3 Z a1 p2 v_files_a1 v_folders_a1 h0 n0 _ T4.heap _
    rw [e4]
    exact ⟨by simp_all [useF], N0, rfl⟩
set_option maxRecDepth 65536 in
set_option maxHeartbeats 40000000 in
theorem rm3_f (l : Launch) (Z : State) (a0 : Array Value) (hw : ∀ d ∈ tables_1, d.before a0 Z = true) (ws : List Jvm.Cond) (a1 : Addr) (p2 : Int32) (v_files_a1 : Addr) (v_folders_a1 : Addr) (h0 : Heap) (n0 : Nat) (Z0 : n0 ≤ h0.size) (F_files_a1 : Fld Z h0 a1 "com/example/overbrenger/overbrenger/build/Column" "files" "Lcom/example/overbrenger/overbrenger/build/Column$Use;" (.ref v_files_a1)) (F_folders_a1 : Fld Z h0 a1 "com/example/overbrenger/overbrenger/build/Column" "folders" "Lcom/example/overbrenger/overbrenger/build/Column$Use;" (.ref v_folders_a1)) (hc1 : ¬ (p2 = (0 : Int32))) :
    MetFree l (⟨"com/example/overbrenger/overbrenger/build/Column", "use", "(Z)Lcom/example/overbrenger/overbrenger/build/Column$Use;"⟩ : MethodName) (head1 (Jvm.Cond.code (⟨"com/example/overbrenger/overbrenger/build/Column", "use", "(Z)Lcom/example/overbrenger/overbrenger/build/Column$Use;"⟩ : MethodName) prog_9_method_6_code 2 (some (.object "com/example/overbrenger/overbrenger/build/Column$Use")) :: ws) ({ frames := 0, cells := 0, slots := 0, locals := 0 } : Room)) (fun a U => a = #[(.ref a1), (.int p2)] ∧ Z.Warmed39 U.vm ∧ U.heap = h0) (fun _ _ _ _ _ => True) (fun _ U o U' => ∃ v L, o = .returned v ∧ Q3 Z a1 p2 v_files_a1 v_folders_a1 h0 n0 v U'.heap L ∧ FrameEnd U o U' L ({ frames := 0, cells := 0, slots := 0, locals := 0 } : Room).cells ({ frames := 0, cells := 0, slots := 0, locals := 0 } : Room).slots) := by
  refine MetFree.of_bodySF (plainFor_of_name pn_3) hisR ?_
  intro p e s m args below meth c s₁ Bd hml0 hP hK
  obtain ⟨rfl, hZ, hh⟩ := hP
  have hx := Bd.exec
  have hby := Bd.bytes
  have hml : c.maxLocals = 2 := hml0
  have hown : s.vm.findClass "com/example/overbrenger/overbrenger/build/Column" = some m.cls := findClass_of_methodNamed Bd.named
  have hnm := (name_of_methodNamed Bd.named Bd.method).1
  have X0 : Stand p l e ({ frames := 0, cells := 0, slots := 0, locals := 0 } : Room) s m #[(.ref a1), (.int p2)] below meth c s₁ [] 0 0 := Stand.of_body Bd
  have e0 : s₁.heap = h0 := by rw [← hh, Bd.state]; rfl
  have N0 := Fr.nil n0
  have pre0 : ∀ t, Steps p.tables e below (s₁.setTop (mkF m 0 #[.val (.ref a1), .val (.int p2)] [])) t → Steps p.tables e below (s₁.setTop (entryFrame m #[(.ref a1), (.int p2)] 2)) t := fun t k => castTop (ef_3 m a1 p2) k
  -- 3. LAWS
  obtain ⟨T4, X4, e4, st4⟩ := getF X0 hx hZ hown (host := "") (Or.inl (hw _ (List.mem_of_getElem? (i := 19) rfl))) Via.refl e0 F_folders_a1 (g := (mkF m 5 #[.val (.ref a1), .val (.int p2)] [(.ref a1)])) rfl rfl (hb hby d3_5)
  obtain ⟨fs, hr, hrun, hended, hW, hsame⟩ := X4.leave (v := some (.ref v_folders_a1)) (fun h => by rw [Bd.returns] at h; cases h)
  refine ⟨_, _, pre0 _ ?_, hrun, hended, _, _, rfl, ?_, ⟨_, rfl⟩, hW, hsame.mono (by decide) (by decide)⟩
  -- 4. STEPS
  · show Steps p.tables e below (s₁.setTop (mkF m 0 #[.val (.ref a1), .val (.int p2)] [])) _
    refine XS.iloadN X0.here hx rfl (hb hby d3_0) rfl ?_
    show Steps p.tables e below (s₁.setTop (mkF m 1 #[.val (.ref a1), .val (.int p2)] [(.int p2)])) _
    refine XS.ifNo X0.here hx rfl (hb hby d3_1) rfl ((if0 _ _).trans (feq hc1).1) ?_
    show Steps p.tables e below (s₁.setTop (mkF m 4 #[.val (.ref a1), .val (.int p2)] [])) _
    refine XS.aloadN X0.here hx rfl (hb hby d3_4) rfl rfl ?_
    show Steps p.tables e below (s₁.setTop (mkF m 5 #[.val (.ref a1), .val (.int p2)] [(.ref a1)])) _
    refine st4 _ ?_
    show Steps p.tables e below (T4.setTop (mkF m 8 #[.val (.ref a1), .val (.int p2)] [(.ref v_folders_a1)])) _
    refine XS.goto X4.here hx rfl (pc0 := 8) (pc' := 15) rfl (hb hby d3_8) (by decide) (by decide) ?_
    show Steps p.tables e below (T4.setTop (mkF m 15 #[.val (.ref a1), .val (.int p2)] [(.ref v_folders_a1)])) _
    jvm_step X4.here [X4.here.top, hx, (hb hby d3_15), X4.method', Bd.returns, Value.isRef, FieldType.isReference]
    first | (intro acts; rw [hr _ acts rfl rfl rfl]) | rw [hr _ _ rfl rfl rfl]
    exact Steps.refl _
  · show Q3 Z a1 p2 v_files_a1 v_folders_a1 h0 n0 _ T4.heap _
    rw [e4]
    exact ⟨by simp_all [useF], N0, rfl⟩
theorem rm3 (l : Launch) (Z : State) (a0 : Array Value) (hw : ∀ d ∈ tables_1, d.before a0 Z = true) (ws : List Jvm.Cond) (a1 : Addr) (p2 : Int32) (v_files_a1 : Addr) (v_folders_a1 : Addr) (h0 : Heap) (n0 : Nat) (Z0 : n0 ≤ h0.size) (F_files_a1 : Fld Z h0 a1 "com/example/overbrenger/overbrenger/build/Column" "files" "Lcom/example/overbrenger/overbrenger/build/Column$Use;" (.ref v_files_a1)) (F_folders_a1 : Fld Z h0 a1 "com/example/overbrenger/overbrenger/build/Column" "folders" "Lcom/example/overbrenger/overbrenger/build/Column$Use;" (.ref v_folders_a1)) :
    MetFree l (⟨"com/example/overbrenger/overbrenger/build/Column", "use", "(Z)Lcom/example/overbrenger/overbrenger/build/Column$Use;"⟩ : MethodName) (head1 (Jvm.Cond.code (⟨"com/example/overbrenger/overbrenger/build/Column", "use", "(Z)Lcom/example/overbrenger/overbrenger/build/Column$Use;"⟩ : MethodName) prog_9_method_6_code 2 (some (.object "com/example/overbrenger/overbrenger/build/Column$Use")) :: ws) ({ frames := 0, cells := 0, slots := 0, locals := 0 } : Room)) (fun a U => a = #[(.ref a1), (.int p2)] ∧ Z.Warmed39 U.vm ∧ U.heap = h0) (fun _ _ _ _ _ => True) (fun _ U o U' => ∃ v L, o = .returned v ∧ Q3 Z a1 p2 v_files_a1 v_folders_a1 h0 n0 v U'.heap L ∧ FrameEnd U o U' L ({ frames := 0, cells := 0, slots := 0, locals := 0 } : Room).cells ({ frames := 0, cells := 0, slots := 0, locals := 0 } : Room).slots) := by
  by_cases hc1 : p2 = (0 : Int32)
  · exact rm3_t l Z a0 hw ws a1 p2 v_files_a1 v_folders_a1 h0 n0 Z0 F_files_a1 F_folders_a1 hc1
  · exact rm3_f l Z a0 hw ws a1 p2 v_files_a1 v_folders_a1 h0 n0 Z0 F_files_a1 F_folders_a1 hc1
theorem d4_0 : decode method_4_code 0 = .ok (.iload_n 0, 1) := by decide +kernel
theorem d4_1 : decode method_4_code 1 = .ok (.iconst 1, 1) := by decide +kernel
theorem d4_2 : decode method_4_code 2 = .ok (.if_icmp .eq 20, 3) := by decide +kernel
theorem d4_22 : decode method_4_code 22 = .ok (.getstatic 46, 3) := by decide +kernel
theorem d4_25 : decode method_4_code 25 = .ok (.areturn, 1) := by decide +kernel
theorem pn_4 : plainName "com/example/overbrenger/overbrenger/build/ColumnUsePinLaw" = true := by first | (simp [plainName, overriddenIn]; done) | decide +kernel
theorem ef_4 (m : MethodId) (x0 : Int32) : entryFrame m #[(.int x0)] 1 = mkF m 0 #[.val (.int x0)] [] := by first | (simp [entryFrame, mkF, argsToLocals, Value.category]; done) | rfl
theorem d4_5 : decode method_4_code 5 = .ok (.iload_n 0, 1) := by decide +kernel
theorem d4_6 : decode method_4_code 6 = .ok (.iconst 2, 1) := by decide +kernel
theorem d4_7 : decode method_4_code 7 = .ok (.if_icmp .eq 15, 3) := by decide +kernel
theorem d4_10 : decode method_4_code 10 = .ok (.iload_n 0, 1) := by decide +kernel
theorem d4_11 : decode method_4_code 11 = .ok (.bipush 8, 2) := by decide +kernel
theorem d4_13 : decode method_4_code 13 = .ok (.if_icmp .eq 9, 3) := by decide +kernel
theorem d4_16 : decode method_4_code 16 = .ok (.iload_n 0, 1) := by decide +kernel
theorem d4_17 : decode method_4_code 17 = .ok (.bipush 9, 2) := by decide +kernel
theorem d4_19 : decode method_4_code 19 = .ok (.if_icmp .ne 7, 3) := by decide +kernel
theorem d4_26 : decode method_4_code 26 = .ok (.iload_n 0, 1) := by decide +kernel
theorem d4_27 : decode method_4_code 27 = .ok (.iconst 3, 1) := by decide +kernel
theorem d4_28 : decode method_4_code 28 = .ok (.if_icmp .ne 7, 3) := by decide +kernel
theorem d4_31 : decode method_4_code 31 = .ok (.getstatic 49, 3) := by decide +kernel
theorem d4_34 : decode method_4_code 34 = .ok (.areturn, 1) := by decide +kernel
theorem d4_35 : decode method_4_code 35 = .ok (.getstatic 40, 3) := by decide +kernel
theorem d4_38 : decode method_4_code 38 = .ok (.areturn, 1) := by decide +kernel
def Q4 (Z : State) (p1 : Int32) (w_REQUIRED : Addr) (w_OR_NAME : Addr) (w_NONE : Addr) (h0 : Heap) (n0 : Nat) (v : Option Value) (h : Heap) (L : List Loc) : Prop := v = some (.ref (fiF p1 w_REQUIRED w_OR_NAME w_NONE)) ∧ Fr n0 L ∧ h = h0
set_option maxRecDepth 65536 in
set_option maxHeartbeats 40000000 in
theorem rm4_t (l : Launch) (Z : State) (a0 : Array Value) (hw : ∀ d ∈ tables_1, d.before a0 Z = true) (ws : List Jvm.Cond) (p1 : Int32) (w_REQUIRED : Addr) (w_OR_NAME : Addr) (w_NONE : Addr) (h0 : Heap) (n0 : Nat) (Z0 : n0 ≤ h0.size) (S_REQUIRED : Sta Z h0 "com/example/overbrenger/overbrenger/build/Column$Use" "REQUIRED" "Lcom/example/overbrenger/overbrenger/build/Column$Use;" (.ref w_REQUIRED)) (S_OR_NAME : Sta Z h0 "com/example/overbrenger/overbrenger/build/Column$Use" "OR_NAME" "Lcom/example/overbrenger/overbrenger/build/Column$Use;" (.ref w_OR_NAME)) (S_NONE : Sta Z h0 "com/example/overbrenger/overbrenger/build/Column$Use" "NONE" "Lcom/example/overbrenger/overbrenger/build/Column$Use;" (.ref w_NONE)) (hc2 : p1 = (1 : Int32)) :
    MetFree l (⟨"com/example/overbrenger/overbrenger/build/ColumnUsePinLaw", "fileUse", "(I)Lcom/example/overbrenger/overbrenger/build/Column$Use;"⟩ : MethodName) (head1 (Jvm.Cond.code (⟨"com/example/overbrenger/overbrenger/build/ColumnUsePinLaw", "fileUse", "(I)Lcom/example/overbrenger/overbrenger/build/Column$Use;"⟩ : MethodName) method_4_code 1 (some (.object "com/example/overbrenger/overbrenger/build/Column$Use")) :: ws) ({ frames := 0, cells := 0, slots := 0, locals := 0 } : Room)) (fun a U => a = #[(.int p1)] ∧ Z.Warmed39 U.vm ∧ U.heap = h0) (fun _ _ _ _ _ => True) (fun _ U o U' => ∃ v L, o = .returned v ∧ Q4 Z p1 w_REQUIRED w_OR_NAME w_NONE h0 n0 v U'.heap L ∧ FrameEnd U o U' L ({ frames := 0, cells := 0, slots := 0, locals := 0 } : Room).cells ({ frames := 0, cells := 0, slots := 0, locals := 0 } : Room).slots) := by
  refine MetFree.of_bodySF (plainFor_of_name pn_4) hisR ?_
  intro p e s m args below meth c s₁ Bd hml0 hP hK
  obtain ⟨rfl, hZ, hh⟩ := hP
  have hx := Bd.exec
  have hby := Bd.bytes
  have hml : c.maxLocals = 1 := hml0
  have hown : s.vm.findClass "com/example/overbrenger/overbrenger/build/ColumnUsePinLaw" = some m.cls := findClass_of_methodNamed Bd.named
  have hnm := (name_of_methodNamed Bd.named Bd.method).1
  have X0 : Stand p l e ({ frames := 0, cells := 0, slots := 0, locals := 0 } : Room) s m #[(.int p1)] below meth c s₁ [] 0 0 := Stand.of_body Bd
  have e0 : s₁.heap = h0 := by rw [← hh, Bd.state]; rfl
  have N0 := Fr.nil n0
  have pre0 : ∀ t, Steps p.tables e below (s₁.setTop (mkF m 0 #[.val (.int p1)] [])) t → Steps p.tables e below (s₁.setTop (entryFrame m #[(.int p1)] 1)) t := fun t k => castTop (ef_4 m p1) k
  -- 3. LAWS
  obtain ⟨T3, X3, e3, st3⟩ := getS2 X0 hx hZ hown (host := "") (Or.inl (hw _ (List.mem_of_getElem? (i := 23) rfl))) Via.refl e0 S_REQUIRED (g := (mkF m 22 #[.val (.int p1)] [])) rfl (hb hby d4_22)
  obtain ⟨fs, hr, hrun, hended, hW, hsame⟩ := X3.leave (v := some (.ref w_REQUIRED)) (fun h => by rw [Bd.returns] at h; cases h)
  refine ⟨_, _, pre0 _ ?_, hrun, hended, _, _, rfl, ?_, ⟨_, rfl⟩, hW, hsame.mono (by decide) (by decide)⟩
  -- 4. STEPS
  · show Steps p.tables e below (s₁.setTop (mkF m 0 #[.val (.int p1)] [])) _
    refine XS.iloadN X0.here hx rfl (hb hby d4_0) rfl ?_
    show Steps p.tables e below (s₁.setTop (mkF m 1 #[.val (.int p1)] [(.int p1)])) _
    refine XS.iconst X0.here hx rfl (hb hby d4_1) ?_
    show Steps p.tables e below (s₁.setTop (mkF m 2 #[.val (.int p1)] [(.int (1 : Int32)), (.int p1)])) _
    refine XS.icmpYes X0.here hx rfl (pc0 := 2) (pc' := 22) rfl (hb hby d4_2) rfl (teq hc2).1 (by decide) (by decide) ?_
    show Steps p.tables e below (s₁.setTop (mkF m 22 #[.val (.int p1)] [])) _
    refine st3 _ ?_
    show Steps p.tables e below (T3.setTop (mkF m 25 #[.val (.int p1)] [(.ref w_REQUIRED)])) _
    jvm_step X3.here [X3.here.top, hx, (hb hby d4_25), X3.method', Bd.returns, Value.isRef, FieldType.isReference]
    first | (intro acts; rw [hr _ acts rfl rfl rfl]) | rw [hr _ _ rfl rfl rfl]
    exact Steps.refl _
  · show Q4 Z p1 w_REQUIRED w_OR_NAME w_NONE h0 n0 _ T3.heap _
    rw [e3]
    exact ⟨by simp_all [fiF], N0, rfl⟩
set_option maxRecDepth 65536 in
set_option maxHeartbeats 40000000 in
theorem rm4_ft (l : Launch) (Z : State) (a0 : Array Value) (hw : ∀ d ∈ tables_1, d.before a0 Z = true) (ws : List Jvm.Cond) (p1 : Int32) (w_REQUIRED : Addr) (w_OR_NAME : Addr) (w_NONE : Addr) (h0 : Heap) (n0 : Nat) (Z0 : n0 ≤ h0.size) (S_REQUIRED : Sta Z h0 "com/example/overbrenger/overbrenger/build/Column$Use" "REQUIRED" "Lcom/example/overbrenger/overbrenger/build/Column$Use;" (.ref w_REQUIRED)) (S_OR_NAME : Sta Z h0 "com/example/overbrenger/overbrenger/build/Column$Use" "OR_NAME" "Lcom/example/overbrenger/overbrenger/build/Column$Use;" (.ref w_OR_NAME)) (S_NONE : Sta Z h0 "com/example/overbrenger/overbrenger/build/Column$Use" "NONE" "Lcom/example/overbrenger/overbrenger/build/Column$Use;" (.ref w_NONE)) (hc2 : ¬ (p1 = (1 : Int32))) (hc7 : p1 = (2 : Int32)) :
    MetFree l (⟨"com/example/overbrenger/overbrenger/build/ColumnUsePinLaw", "fileUse", "(I)Lcom/example/overbrenger/overbrenger/build/Column$Use;"⟩ : MethodName) (head1 (Jvm.Cond.code (⟨"com/example/overbrenger/overbrenger/build/ColumnUsePinLaw", "fileUse", "(I)Lcom/example/overbrenger/overbrenger/build/Column$Use;"⟩ : MethodName) method_4_code 1 (some (.object "com/example/overbrenger/overbrenger/build/Column$Use")) :: ws) ({ frames := 0, cells := 0, slots := 0, locals := 0 } : Room)) (fun a U => a = #[(.int p1)] ∧ Z.Warmed39 U.vm ∧ U.heap = h0) (fun _ _ _ _ _ => True) (fun _ U o U' => ∃ v L, o = .returned v ∧ Q4 Z p1 w_REQUIRED w_OR_NAME w_NONE h0 n0 v U'.heap L ∧ FrameEnd U o U' L ({ frames := 0, cells := 0, slots := 0, locals := 0 } : Room).cells ({ frames := 0, cells := 0, slots := 0, locals := 0 } : Room).slots) := by
  refine MetFree.of_bodySF (plainFor_of_name pn_4) hisR ?_
  intro p e s m args below meth c s₁ Bd hml0 hP hK
  obtain ⟨rfl, hZ, hh⟩ := hP
  have hx := Bd.exec
  have hby := Bd.bytes
  have hml : c.maxLocals = 1 := hml0
  have hown : s.vm.findClass "com/example/overbrenger/overbrenger/build/ColumnUsePinLaw" = some m.cls := findClass_of_methodNamed Bd.named
  have hnm := (name_of_methodNamed Bd.named Bd.method).1
  have X0 : Stand p l e ({ frames := 0, cells := 0, slots := 0, locals := 0 } : Room) s m #[(.int p1)] below meth c s₁ [] 0 0 := Stand.of_body Bd
  have e0 : s₁.heap = h0 := by rw [← hh, Bd.state]; rfl
  have N0 := Fr.nil n0
  have pre0 : ∀ t, Steps p.tables e below (s₁.setTop (mkF m 0 #[.val (.int p1)] [])) t → Steps p.tables e below (s₁.setTop (entryFrame m #[(.int p1)] 1)) t := fun t k => castTop (ef_4 m p1) k
  -- 3. LAWS
  obtain ⟨T3, X3, e3, st3⟩ := getS2 X0 hx hZ hown (host := "") (Or.inl (hw _ (List.mem_of_getElem? (i := 23) rfl))) Via.refl e0 S_REQUIRED (g := (mkF m 22 #[.val (.int p1)] [])) rfl (hb hby d4_22)
  obtain ⟨fs, hr, hrun, hended, hW, hsame⟩ := X3.leave (v := some (.ref w_REQUIRED)) (fun h => by rw [Bd.returns] at h; cases h)
  refine ⟨_, _, pre0 _ ?_, hrun, hended, _, _, rfl, ?_, ⟨_, rfl⟩, hW, hsame.mono (by decide) (by decide)⟩
  -- 4. STEPS
  · show Steps p.tables e below (s₁.setTop (mkF m 0 #[.val (.int p1)] [])) _
    refine XS.iloadN X0.here hx rfl (hb hby d4_0) rfl ?_
    show Steps p.tables e below (s₁.setTop (mkF m 1 #[.val (.int p1)] [(.int p1)])) _
    refine XS.iconst X0.here hx rfl (hb hby d4_1) ?_
    show Steps p.tables e below (s₁.setTop (mkF m 2 #[.val (.int p1)] [(.int (1 : Int32)), (.int p1)])) _
    refine XS.icmpNo X0.here hx rfl (hb hby d4_2) rfl (feq hc2).1 ?_
    show Steps p.tables e below (s₁.setTop (mkF m 5 #[.val (.int p1)] [])) _
    refine XS.iloadN X0.here hx rfl (hb hby d4_5) rfl ?_
    show Steps p.tables e below (s₁.setTop (mkF m 6 #[.val (.int p1)] [(.int p1)])) _
    refine XS.iconst X0.here hx rfl (hb hby d4_6) ?_
    show Steps p.tables e below (s₁.setTop (mkF m 7 #[.val (.int p1)] [(.int (2 : Int32)), (.int p1)])) _
    refine XS.icmpYes X0.here hx rfl (pc0 := 7) (pc' := 22) rfl (hb hby d4_7) rfl (teq hc7).1 (by decide) (by decide) ?_
    show Steps p.tables e below (s₁.setTop (mkF m 22 #[.val (.int p1)] [])) _
    refine st3 _ ?_
    show Steps p.tables e below (T3.setTop (mkF m 25 #[.val (.int p1)] [(.ref w_REQUIRED)])) _
    jvm_step X3.here [X3.here.top, hx, (hb hby d4_25), X3.method', Bd.returns, Value.isRef, FieldType.isReference]
    first | (intro acts; rw [hr _ acts rfl rfl rfl]) | rw [hr _ _ rfl rfl rfl]
    exact Steps.refl _
  · show Q4 Z p1 w_REQUIRED w_OR_NAME w_NONE h0 n0 _ T3.heap _
    rw [e3]
    exact ⟨by simp_all [fiF], N0, rfl⟩
set_option maxRecDepth 65536 in
set_option maxHeartbeats 40000000 in
theorem rm4_fft (l : Launch) (Z : State) (a0 : Array Value) (hw : ∀ d ∈ tables_1, d.before a0 Z = true) (ws : List Jvm.Cond) (p1 : Int32) (w_REQUIRED : Addr) (w_OR_NAME : Addr) (w_NONE : Addr) (h0 : Heap) (n0 : Nat) (Z0 : n0 ≤ h0.size) (S_REQUIRED : Sta Z h0 "com/example/overbrenger/overbrenger/build/Column$Use" "REQUIRED" "Lcom/example/overbrenger/overbrenger/build/Column$Use;" (.ref w_REQUIRED)) (S_OR_NAME : Sta Z h0 "com/example/overbrenger/overbrenger/build/Column$Use" "OR_NAME" "Lcom/example/overbrenger/overbrenger/build/Column$Use;" (.ref w_OR_NAME)) (S_NONE : Sta Z h0 "com/example/overbrenger/overbrenger/build/Column$Use" "NONE" "Lcom/example/overbrenger/overbrenger/build/Column$Use;" (.ref w_NONE)) (hc2 : ¬ (p1 = (1 : Int32))) (hc7 : ¬ (p1 = (2 : Int32))) (hc13 : p1 = (8 : Int32)) :
    MetFree l (⟨"com/example/overbrenger/overbrenger/build/ColumnUsePinLaw", "fileUse", "(I)Lcom/example/overbrenger/overbrenger/build/Column$Use;"⟩ : MethodName) (head1 (Jvm.Cond.code (⟨"com/example/overbrenger/overbrenger/build/ColumnUsePinLaw", "fileUse", "(I)Lcom/example/overbrenger/overbrenger/build/Column$Use;"⟩ : MethodName) method_4_code 1 (some (.object "com/example/overbrenger/overbrenger/build/Column$Use")) :: ws) ({ frames := 0, cells := 0, slots := 0, locals := 0 } : Room)) (fun a U => a = #[(.int p1)] ∧ Z.Warmed39 U.vm ∧ U.heap = h0) (fun _ _ _ _ _ => True) (fun _ U o U' => ∃ v L, o = .returned v ∧ Q4 Z p1 w_REQUIRED w_OR_NAME w_NONE h0 n0 v U'.heap L ∧ FrameEnd U o U' L ({ frames := 0, cells := 0, slots := 0, locals := 0 } : Room).cells ({ frames := 0, cells := 0, slots := 0, locals := 0 } : Room).slots) := by
  refine MetFree.of_bodySF (plainFor_of_name pn_4) hisR ?_
  intro p e s m args below meth c s₁ Bd hml0 hP hK
  obtain ⟨rfl, hZ, hh⟩ := hP
  have hx := Bd.exec
  have hby := Bd.bytes
  have hml : c.maxLocals = 1 := hml0
  have hown : s.vm.findClass "com/example/overbrenger/overbrenger/build/ColumnUsePinLaw" = some m.cls := findClass_of_methodNamed Bd.named
  have hnm := (name_of_methodNamed Bd.named Bd.method).1
  have X0 : Stand p l e ({ frames := 0, cells := 0, slots := 0, locals := 0 } : Room) s m #[(.int p1)] below meth c s₁ [] 0 0 := Stand.of_body Bd
  have e0 : s₁.heap = h0 := by rw [← hh, Bd.state]; rfl
  have N0 := Fr.nil n0
  have pre0 : ∀ t, Steps p.tables e below (s₁.setTop (mkF m 0 #[.val (.int p1)] [])) t → Steps p.tables e below (s₁.setTop (entryFrame m #[(.int p1)] 1)) t := fun t k => castTop (ef_4 m p1) k
  -- 3. LAWS
  obtain ⟨T3, X3, e3, st3⟩ := getS2 X0 hx hZ hown (host := "") (Or.inl (hw _ (List.mem_of_getElem? (i := 23) rfl))) Via.refl e0 S_REQUIRED (g := (mkF m 22 #[.val (.int p1)] [])) rfl (hb hby d4_22)
  obtain ⟨fs, hr, hrun, hended, hW, hsame⟩ := X3.leave (v := some (.ref w_REQUIRED)) (fun h => by rw [Bd.returns] at h; cases h)
  refine ⟨_, _, pre0 _ ?_, hrun, hended, _, _, rfl, ?_, ⟨_, rfl⟩, hW, hsame.mono (by decide) (by decide)⟩
  -- 4. STEPS
  · show Steps p.tables e below (s₁.setTop (mkF m 0 #[.val (.int p1)] [])) _
    refine XS.iloadN X0.here hx rfl (hb hby d4_0) rfl ?_
    show Steps p.tables e below (s₁.setTop (mkF m 1 #[.val (.int p1)] [(.int p1)])) _
    refine XS.iconst X0.here hx rfl (hb hby d4_1) ?_
    show Steps p.tables e below (s₁.setTop (mkF m 2 #[.val (.int p1)] [(.int (1 : Int32)), (.int p1)])) _
    refine XS.icmpNo X0.here hx rfl (hb hby d4_2) rfl (feq hc2).1 ?_
    show Steps p.tables e below (s₁.setTop (mkF m 5 #[.val (.int p1)] [])) _
    refine XS.iloadN X0.here hx rfl (hb hby d4_5) rfl ?_
    show Steps p.tables e below (s₁.setTop (mkF m 6 #[.val (.int p1)] [(.int p1)])) _
    refine XS.iconst X0.here hx rfl (hb hby d4_6) ?_
    show Steps p.tables e below (s₁.setTop (mkF m 7 #[.val (.int p1)] [(.int (2 : Int32)), (.int p1)])) _
    refine XS.icmpNo X0.here hx rfl (hb hby d4_7) rfl (feq hc7).1 ?_
    show Steps p.tables e below (s₁.setTop (mkF m 10 #[.val (.int p1)] [])) _
    refine XS.iloadN X0.here hx rfl (hb hby d4_10) rfl ?_
    show Steps p.tables e below (s₁.setTop (mkF m 11 #[.val (.int p1)] [(.int p1)])) _
    refine XS.bipush X0.here hx rfl (hb hby d4_11) ?_
    show Steps p.tables e below (s₁.setTop (mkF m 13 #[.val (.int p1)] [(.int (8 : Int32)), (.int p1)])) _
    refine XS.icmpYes X0.here hx rfl (pc0 := 13) (pc' := 22) rfl (hb hby d4_13) rfl (teq hc13).1 (by decide) (by decide) ?_
    show Steps p.tables e below (s₁.setTop (mkF m 22 #[.val (.int p1)] [])) _
    refine st3 _ ?_
    show Steps p.tables e below (T3.setTop (mkF m 25 #[.val (.int p1)] [(.ref w_REQUIRED)])) _
    jvm_step X3.here [X3.here.top, hx, (hb hby d4_25), X3.method', Bd.returns, Value.isRef, FieldType.isReference]
    first | (intro acts; rw [hr _ acts rfl rfl rfl]) | rw [hr _ _ rfl rfl rfl]
    exact Steps.refl _
  · show Q4 Z p1 w_REQUIRED w_OR_NAME w_NONE h0 n0 _ T3.heap _
    rw [e3]
    exact ⟨by simp_all [fiF], N0, rfl⟩
set_option maxRecDepth 65536 in
set_option maxHeartbeats 40000000 in
theorem rm4_ffff (l : Launch) (Z : State) (a0 : Array Value) (hw : ∀ d ∈ tables_1, d.before a0 Z = true) (ws : List Jvm.Cond) (p1 : Int32) (w_REQUIRED : Addr) (w_OR_NAME : Addr) (w_NONE : Addr) (h0 : Heap) (n0 : Nat) (Z0 : n0 ≤ h0.size) (S_REQUIRED : Sta Z h0 "com/example/overbrenger/overbrenger/build/Column$Use" "REQUIRED" "Lcom/example/overbrenger/overbrenger/build/Column$Use;" (.ref w_REQUIRED)) (S_OR_NAME : Sta Z h0 "com/example/overbrenger/overbrenger/build/Column$Use" "OR_NAME" "Lcom/example/overbrenger/overbrenger/build/Column$Use;" (.ref w_OR_NAME)) (S_NONE : Sta Z h0 "com/example/overbrenger/overbrenger/build/Column$Use" "NONE" "Lcom/example/overbrenger/overbrenger/build/Column$Use;" (.ref w_NONE)) (hc2 : ¬ (p1 = (1 : Int32))) (hc7 : ¬ (p1 = (2 : Int32))) (hc13 : ¬ (p1 = (8 : Int32))) (hc19 : p1 = (9 : Int32)) :
    MetFree l (⟨"com/example/overbrenger/overbrenger/build/ColumnUsePinLaw", "fileUse", "(I)Lcom/example/overbrenger/overbrenger/build/Column$Use;"⟩ : MethodName) (head1 (Jvm.Cond.code (⟨"com/example/overbrenger/overbrenger/build/ColumnUsePinLaw", "fileUse", "(I)Lcom/example/overbrenger/overbrenger/build/Column$Use;"⟩ : MethodName) method_4_code 1 (some (.object "com/example/overbrenger/overbrenger/build/Column$Use")) :: ws) ({ frames := 0, cells := 0, slots := 0, locals := 0 } : Room)) (fun a U => a = #[(.int p1)] ∧ Z.Warmed39 U.vm ∧ U.heap = h0) (fun _ _ _ _ _ => True) (fun _ U o U' => ∃ v L, o = .returned v ∧ Q4 Z p1 w_REQUIRED w_OR_NAME w_NONE h0 n0 v U'.heap L ∧ FrameEnd U o U' L ({ frames := 0, cells := 0, slots := 0, locals := 0 } : Room).cells ({ frames := 0, cells := 0, slots := 0, locals := 0 } : Room).slots) := by
  refine MetFree.of_bodySF (plainFor_of_name pn_4) hisR ?_
  intro p e s m args below meth c s₁ Bd hml0 hP hK
  obtain ⟨rfl, hZ, hh⟩ := hP
  have hx := Bd.exec
  have hby := Bd.bytes
  have hml : c.maxLocals = 1 := hml0
  have hown : s.vm.findClass "com/example/overbrenger/overbrenger/build/ColumnUsePinLaw" = some m.cls := findClass_of_methodNamed Bd.named
  have hnm := (name_of_methodNamed Bd.named Bd.method).1
  have X0 : Stand p l e ({ frames := 0, cells := 0, slots := 0, locals := 0 } : Room) s m #[(.int p1)] below meth c s₁ [] 0 0 := Stand.of_body Bd
  have e0 : s₁.heap = h0 := by rw [← hh, Bd.state]; rfl
  have N0 := Fr.nil n0
  have pre0 : ∀ t, Steps p.tables e below (s₁.setTop (mkF m 0 #[.val (.int p1)] [])) t → Steps p.tables e below (s₁.setTop (entryFrame m #[(.int p1)] 1)) t := fun t k => castTop (ef_4 m p1) k
  -- 3. LAWS
  obtain ⟨T3, X3, e3, st3⟩ := getS2 X0 hx hZ hown (host := "") (Or.inl (hw _ (List.mem_of_getElem? (i := 23) rfl))) Via.refl e0 S_REQUIRED (g := (mkF m 22 #[.val (.int p1)] [])) rfl (hb hby d4_22)
  obtain ⟨fs, hr, hrun, hended, hW, hsame⟩ := X3.leave (v := some (.ref w_REQUIRED)) (fun h => by rw [Bd.returns] at h; cases h)
  refine ⟨_, _, pre0 _ ?_, hrun, hended, _, _, rfl, ?_, ⟨_, rfl⟩, hW, hsame.mono (by decide) (by decide)⟩
  -- 4. STEPS
  · show Steps p.tables e below (s₁.setTop (mkF m 0 #[.val (.int p1)] [])) _
    refine XS.iloadN X0.here hx rfl (hb hby d4_0) rfl ?_
    show Steps p.tables e below (s₁.setTop (mkF m 1 #[.val (.int p1)] [(.int p1)])) _
    refine XS.iconst X0.here hx rfl (hb hby d4_1) ?_
    show Steps p.tables e below (s₁.setTop (mkF m 2 #[.val (.int p1)] [(.int (1 : Int32)), (.int p1)])) _
    refine XS.icmpNo X0.here hx rfl (hb hby d4_2) rfl (feq hc2).1 ?_
    show Steps p.tables e below (s₁.setTop (mkF m 5 #[.val (.int p1)] [])) _
    refine XS.iloadN X0.here hx rfl (hb hby d4_5) rfl ?_
    show Steps p.tables e below (s₁.setTop (mkF m 6 #[.val (.int p1)] [(.int p1)])) _
    refine XS.iconst X0.here hx rfl (hb hby d4_6) ?_
    show Steps p.tables e below (s₁.setTop (mkF m 7 #[.val (.int p1)] [(.int (2 : Int32)), (.int p1)])) _
    refine XS.icmpNo X0.here hx rfl (hb hby d4_7) rfl (feq hc7).1 ?_
    show Steps p.tables e below (s₁.setTop (mkF m 10 #[.val (.int p1)] [])) _
    refine XS.iloadN X0.here hx rfl (hb hby d4_10) rfl ?_
    show Steps p.tables e below (s₁.setTop (mkF m 11 #[.val (.int p1)] [(.int p1)])) _
    refine XS.bipush X0.here hx rfl (hb hby d4_11) ?_
    show Steps p.tables e below (s₁.setTop (mkF m 13 #[.val (.int p1)] [(.int (8 : Int32)), (.int p1)])) _
    refine XS.icmpNo X0.here hx rfl (hb hby d4_13) rfl (feq hc13).1 ?_
    show Steps p.tables e below (s₁.setTop (mkF m 16 #[.val (.int p1)] [])) _
    refine XS.iloadN X0.here hx rfl (hb hby d4_16) rfl ?_
    show Steps p.tables e below (s₁.setTop (mkF m 17 #[.val (.int p1)] [(.int p1)])) _
    refine XS.bipush X0.here hx rfl (hb hby d4_17) ?_
    show Steps p.tables e below (s₁.setTop (mkF m 19 #[.val (.int p1)] [(.int (9 : Int32)), (.int p1)])) _
    refine XS.icmpNo X0.here hx rfl (hb hby d4_19) rfl (teq hc19).2 ?_
    show Steps p.tables e below (s₁.setTop (mkF m 22 #[.val (.int p1)] [])) _
    refine st3 _ ?_
    show Steps p.tables e below (T3.setTop (mkF m 25 #[.val (.int p1)] [(.ref w_REQUIRED)])) _
    jvm_step X3.here [X3.here.top, hx, (hb hby d4_25), X3.method', Bd.returns, Value.isRef, FieldType.isReference]
    first | (intro acts; rw [hr _ acts rfl rfl rfl]) | rw [hr _ _ rfl rfl rfl]
    exact Steps.refl _
  · show Q4 Z p1 w_REQUIRED w_OR_NAME w_NONE h0 n0 _ T3.heap _
    rw [e3]
    exact ⟨by simp_all [fiF], N0, rfl⟩
set_option maxRecDepth 65536 in
set_option maxHeartbeats 40000000 in
theorem rm4_ffftf (l : Launch) (Z : State) (a0 : Array Value) (hw : ∀ d ∈ tables_1, d.before a0 Z = true) (ws : List Jvm.Cond) (p1 : Int32) (w_REQUIRED : Addr) (w_OR_NAME : Addr) (w_NONE : Addr) (h0 : Heap) (n0 : Nat) (Z0 : n0 ≤ h0.size) (S_REQUIRED : Sta Z h0 "com/example/overbrenger/overbrenger/build/Column$Use" "REQUIRED" "Lcom/example/overbrenger/overbrenger/build/Column$Use;" (.ref w_REQUIRED)) (S_OR_NAME : Sta Z h0 "com/example/overbrenger/overbrenger/build/Column$Use" "OR_NAME" "Lcom/example/overbrenger/overbrenger/build/Column$Use;" (.ref w_OR_NAME)) (S_NONE : Sta Z h0 "com/example/overbrenger/overbrenger/build/Column$Use" "NONE" "Lcom/example/overbrenger/overbrenger/build/Column$Use;" (.ref w_NONE)) (hc2 : ¬ (p1 = (1 : Int32))) (hc7 : ¬ (p1 = (2 : Int32))) (hc13 : ¬ (p1 = (8 : Int32))) (hc19 : ¬ (p1 = (9 : Int32))) (hc28 : p1 = (3 : Int32)) :
    MetFree l (⟨"com/example/overbrenger/overbrenger/build/ColumnUsePinLaw", "fileUse", "(I)Lcom/example/overbrenger/overbrenger/build/Column$Use;"⟩ : MethodName) (head1 (Jvm.Cond.code (⟨"com/example/overbrenger/overbrenger/build/ColumnUsePinLaw", "fileUse", "(I)Lcom/example/overbrenger/overbrenger/build/Column$Use;"⟩ : MethodName) method_4_code 1 (some (.object "com/example/overbrenger/overbrenger/build/Column$Use")) :: ws) ({ frames := 0, cells := 0, slots := 0, locals := 0 } : Room)) (fun a U => a = #[(.int p1)] ∧ Z.Warmed39 U.vm ∧ U.heap = h0) (fun _ _ _ _ _ => True) (fun _ U o U' => ∃ v L, o = .returned v ∧ Q4 Z p1 w_REQUIRED w_OR_NAME w_NONE h0 n0 v U'.heap L ∧ FrameEnd U o U' L ({ frames := 0, cells := 0, slots := 0, locals := 0 } : Room).cells ({ frames := 0, cells := 0, slots := 0, locals := 0 } : Room).slots) := by
  refine MetFree.of_bodySF (plainFor_of_name pn_4) hisR ?_
  intro p e s m args below meth c s₁ Bd hml0 hP hK
  obtain ⟨rfl, hZ, hh⟩ := hP
  have hx := Bd.exec
  have hby := Bd.bytes
  have hml : c.maxLocals = 1 := hml0
  have hown : s.vm.findClass "com/example/overbrenger/overbrenger/build/ColumnUsePinLaw" = some m.cls := findClass_of_methodNamed Bd.named
  have hnm := (name_of_methodNamed Bd.named Bd.method).1
  have X0 : Stand p l e ({ frames := 0, cells := 0, slots := 0, locals := 0 } : Room) s m #[(.int p1)] below meth c s₁ [] 0 0 := Stand.of_body Bd
  have e0 : s₁.heap = h0 := by rw [← hh, Bd.state]; rfl
  have N0 := Fr.nil n0
  have pre0 : ∀ t, Steps p.tables e below (s₁.setTop (mkF m 0 #[.val (.int p1)] [])) t → Steps p.tables e below (s₁.setTop (entryFrame m #[(.int p1)] 1)) t := fun t k => castTop (ef_4 m p1) k
  -- 3. LAWS
  obtain ⟨T3, X3, e3, st3⟩ := getS2 X0 hx hZ hown (host := "") (Or.inl (hw _ (List.mem_of_getElem? (i := 46) rfl))) Via.refl e0 S_OR_NAME (g := (mkF m 31 #[.val (.int p1)] [])) rfl (hb hby d4_31)
  obtain ⟨fs, hr, hrun, hended, hW, hsame⟩ := X3.leave (v := some (.ref w_OR_NAME)) (fun h => by rw [Bd.returns] at h; cases h)
  refine ⟨_, _, pre0 _ ?_, hrun, hended, _, _, rfl, ?_, ⟨_, rfl⟩, hW, hsame.mono (by decide) (by decide)⟩
  -- 4. STEPS
  · show Steps p.tables e below (s₁.setTop (mkF m 0 #[.val (.int p1)] [])) _
    refine XS.iloadN X0.here hx rfl (hb hby d4_0) rfl ?_
    show Steps p.tables e below (s₁.setTop (mkF m 1 #[.val (.int p1)] [(.int p1)])) _
    refine XS.iconst X0.here hx rfl (hb hby d4_1) ?_
    show Steps p.tables e below (s₁.setTop (mkF m 2 #[.val (.int p1)] [(.int (1 : Int32)), (.int p1)])) _
    refine XS.icmpNo X0.here hx rfl (hb hby d4_2) rfl (feq hc2).1 ?_
    show Steps p.tables e below (s₁.setTop (mkF m 5 #[.val (.int p1)] [])) _
    refine XS.iloadN X0.here hx rfl (hb hby d4_5) rfl ?_
    show Steps p.tables e below (s₁.setTop (mkF m 6 #[.val (.int p1)] [(.int p1)])) _
    refine XS.iconst X0.here hx rfl (hb hby d4_6) ?_
    show Steps p.tables e below (s₁.setTop (mkF m 7 #[.val (.int p1)] [(.int (2 : Int32)), (.int p1)])) _
    refine XS.icmpNo X0.here hx rfl (hb hby d4_7) rfl (feq hc7).1 ?_
    show Steps p.tables e below (s₁.setTop (mkF m 10 #[.val (.int p1)] [])) _
    refine XS.iloadN X0.here hx rfl (hb hby d4_10) rfl ?_
    show Steps p.tables e below (s₁.setTop (mkF m 11 #[.val (.int p1)] [(.int p1)])) _
    refine XS.bipush X0.here hx rfl (hb hby d4_11) ?_
    show Steps p.tables e below (s₁.setTop (mkF m 13 #[.val (.int p1)] [(.int (8 : Int32)), (.int p1)])) _
    refine XS.icmpNo X0.here hx rfl (hb hby d4_13) rfl (feq hc13).1 ?_
    show Steps p.tables e below (s₁.setTop (mkF m 16 #[.val (.int p1)] [])) _
    refine XS.iloadN X0.here hx rfl (hb hby d4_16) rfl ?_
    show Steps p.tables e below (s₁.setTop (mkF m 17 #[.val (.int p1)] [(.int p1)])) _
    refine XS.bipush X0.here hx rfl (hb hby d4_17) ?_
    show Steps p.tables e below (s₁.setTop (mkF m 19 #[.val (.int p1)] [(.int (9 : Int32)), (.int p1)])) _
    refine XS.icmpYes X0.here hx rfl (pc0 := 19) (pc' := 26) rfl (hb hby d4_19) rfl (feq hc19).2 (by decide) (by decide) ?_
    show Steps p.tables e below (s₁.setTop (mkF m 26 #[.val (.int p1)] [])) _
    refine XS.iloadN X0.here hx rfl (hb hby d4_26) rfl ?_
    show Steps p.tables e below (s₁.setTop (mkF m 27 #[.val (.int p1)] [(.int p1)])) _
    refine XS.iconst X0.here hx rfl (hb hby d4_27) ?_
    show Steps p.tables e below (s₁.setTop (mkF m 28 #[.val (.int p1)] [(.int (3 : Int32)), (.int p1)])) _
    refine XS.icmpNo X0.here hx rfl (hb hby d4_28) rfl (teq hc28).2 ?_
    show Steps p.tables e below (s₁.setTop (mkF m 31 #[.val (.int p1)] [])) _
    refine st3 _ ?_
    show Steps p.tables e below (T3.setTop (mkF m 34 #[.val (.int p1)] [(.ref w_OR_NAME)])) _
    jvm_step X3.here [X3.here.top, hx, (hb hby d4_34), X3.method', Bd.returns, Value.isRef, FieldType.isReference]
    first | (intro acts; rw [hr _ acts rfl rfl rfl]) | rw [hr _ _ rfl rfl rfl]
    exact Steps.refl _
  · show Q4 Z p1 w_REQUIRED w_OR_NAME w_NONE h0 n0 _ T3.heap _
    rw [e3]
    exact ⟨by simp_all [fiF], N0, rfl⟩
set_option maxRecDepth 65536 in
set_option maxHeartbeats 40000000 in
theorem rm4_ffftt (l : Launch) (Z : State) (a0 : Array Value) (hw : ∀ d ∈ tables_1, d.before a0 Z = true) (ws : List Jvm.Cond) (p1 : Int32) (w_REQUIRED : Addr) (w_OR_NAME : Addr) (w_NONE : Addr) (h0 : Heap) (n0 : Nat) (Z0 : n0 ≤ h0.size) (S_REQUIRED : Sta Z h0 "com/example/overbrenger/overbrenger/build/Column$Use" "REQUIRED" "Lcom/example/overbrenger/overbrenger/build/Column$Use;" (.ref w_REQUIRED)) (S_OR_NAME : Sta Z h0 "com/example/overbrenger/overbrenger/build/Column$Use" "OR_NAME" "Lcom/example/overbrenger/overbrenger/build/Column$Use;" (.ref w_OR_NAME)) (S_NONE : Sta Z h0 "com/example/overbrenger/overbrenger/build/Column$Use" "NONE" "Lcom/example/overbrenger/overbrenger/build/Column$Use;" (.ref w_NONE)) (hc2 : ¬ (p1 = (1 : Int32))) (hc7 : ¬ (p1 = (2 : Int32))) (hc13 : ¬ (p1 = (8 : Int32))) (hc19 : ¬ (p1 = (9 : Int32))) (hc28 : ¬ (p1 = (3 : Int32))) :
    MetFree l (⟨"com/example/overbrenger/overbrenger/build/ColumnUsePinLaw", "fileUse", "(I)Lcom/example/overbrenger/overbrenger/build/Column$Use;"⟩ : MethodName) (head1 (Jvm.Cond.code (⟨"com/example/overbrenger/overbrenger/build/ColumnUsePinLaw", "fileUse", "(I)Lcom/example/overbrenger/overbrenger/build/Column$Use;"⟩ : MethodName) method_4_code 1 (some (.object "com/example/overbrenger/overbrenger/build/Column$Use")) :: ws) ({ frames := 0, cells := 0, slots := 0, locals := 0 } : Room)) (fun a U => a = #[(.int p1)] ∧ Z.Warmed39 U.vm ∧ U.heap = h0) (fun _ _ _ _ _ => True) (fun _ U o U' => ∃ v L, o = .returned v ∧ Q4 Z p1 w_REQUIRED w_OR_NAME w_NONE h0 n0 v U'.heap L ∧ FrameEnd U o U' L ({ frames := 0, cells := 0, slots := 0, locals := 0 } : Room).cells ({ frames := 0, cells := 0, slots := 0, locals := 0 } : Room).slots) := by
  refine MetFree.of_bodySF (plainFor_of_name pn_4) hisR ?_
  intro p e s m args below meth c s₁ Bd hml0 hP hK
  obtain ⟨rfl, hZ, hh⟩ := hP
  have hx := Bd.exec
  have hby := Bd.bytes
  have hml : c.maxLocals = 1 := hml0
  have hown : s.vm.findClass "com/example/overbrenger/overbrenger/build/ColumnUsePinLaw" = some m.cls := findClass_of_methodNamed Bd.named
  have hnm := (name_of_methodNamed Bd.named Bd.method).1
  have X0 : Stand p l e ({ frames := 0, cells := 0, slots := 0, locals := 0 } : Room) s m #[(.int p1)] below meth c s₁ [] 0 0 := Stand.of_body Bd
  have e0 : s₁.heap = h0 := by rw [← hh, Bd.state]; rfl
  have N0 := Fr.nil n0
  have pre0 : ∀ t, Steps p.tables e below (s₁.setTop (mkF m 0 #[.val (.int p1)] [])) t → Steps p.tables e below (s₁.setTop (entryFrame m #[(.int p1)] 1)) t := fun t k => castTop (ef_4 m p1) k
  -- 3. LAWS
  obtain ⟨T3, X3, e3, st3⟩ := getS2 X0 hx hZ hown (host := "") (Or.inl (hw _ (List.mem_of_getElem? (i := 11) rfl))) Via.refl e0 S_NONE (g := (mkF m 35 #[.val (.int p1)] [])) rfl (hb hby d4_35)
  obtain ⟨fs, hr, hrun, hended, hW, hsame⟩ := X3.leave (v := some (.ref w_NONE)) (fun h => by rw [Bd.returns] at h; cases h)
  refine ⟨_, _, pre0 _ ?_, hrun, hended, _, _, rfl, ?_, ⟨_, rfl⟩, hW, hsame.mono (by decide) (by decide)⟩
  -- 4. STEPS
  · show Steps p.tables e below (s₁.setTop (mkF m 0 #[.val (.int p1)] [])) _
    refine XS.iloadN X0.here hx rfl (hb hby d4_0) rfl ?_
    show Steps p.tables e below (s₁.setTop (mkF m 1 #[.val (.int p1)] [(.int p1)])) _
    refine XS.iconst X0.here hx rfl (hb hby d4_1) ?_
    show Steps p.tables e below (s₁.setTop (mkF m 2 #[.val (.int p1)] [(.int (1 : Int32)), (.int p1)])) _
    refine XS.icmpNo X0.here hx rfl (hb hby d4_2) rfl (feq hc2).1 ?_
    show Steps p.tables e below (s₁.setTop (mkF m 5 #[.val (.int p1)] [])) _
    refine XS.iloadN X0.here hx rfl (hb hby d4_5) rfl ?_
    show Steps p.tables e below (s₁.setTop (mkF m 6 #[.val (.int p1)] [(.int p1)])) _
    refine XS.iconst X0.here hx rfl (hb hby d4_6) ?_
    show Steps p.tables e below (s₁.setTop (mkF m 7 #[.val (.int p1)] [(.int (2 : Int32)), (.int p1)])) _
    refine XS.icmpNo X0.here hx rfl (hb hby d4_7) rfl (feq hc7).1 ?_
    show Steps p.tables e below (s₁.setTop (mkF m 10 #[.val (.int p1)] [])) _
    refine XS.iloadN X0.here hx rfl (hb hby d4_10) rfl ?_
    show Steps p.tables e below (s₁.setTop (mkF m 11 #[.val (.int p1)] [(.int p1)])) _
    refine XS.bipush X0.here hx rfl (hb hby d4_11) ?_
    show Steps p.tables e below (s₁.setTop (mkF m 13 #[.val (.int p1)] [(.int (8 : Int32)), (.int p1)])) _
    refine XS.icmpNo X0.here hx rfl (hb hby d4_13) rfl (feq hc13).1 ?_
    show Steps p.tables e below (s₁.setTop (mkF m 16 #[.val (.int p1)] [])) _
    refine XS.iloadN X0.here hx rfl (hb hby d4_16) rfl ?_
    show Steps p.tables e below (s₁.setTop (mkF m 17 #[.val (.int p1)] [(.int p1)])) _
    refine XS.bipush X0.here hx rfl (hb hby d4_17) ?_
    show Steps p.tables e below (s₁.setTop (mkF m 19 #[.val (.int p1)] [(.int (9 : Int32)), (.int p1)])) _
    refine XS.icmpYes X0.here hx rfl (pc0 := 19) (pc' := 26) rfl (hb hby d4_19) rfl (feq hc19).2 (by decide) (by decide) ?_
    show Steps p.tables e below (s₁.setTop (mkF m 26 #[.val (.int p1)] [])) _
    refine XS.iloadN X0.here hx rfl (hb hby d4_26) rfl ?_
    show Steps p.tables e below (s₁.setTop (mkF m 27 #[.val (.int p1)] [(.int p1)])) _
    refine XS.iconst X0.here hx rfl (hb hby d4_27) ?_
    show Steps p.tables e below (s₁.setTop (mkF m 28 #[.val (.int p1)] [(.int (3 : Int32)), (.int p1)])) _
    refine XS.icmpYes X0.here hx rfl (pc0 := 28) (pc' := 35) rfl (hb hby d4_28) rfl (feq hc28).2 (by decide) (by decide) ?_
    show Steps p.tables e below (s₁.setTop (mkF m 35 #[.val (.int p1)] [])) _
    refine st3 _ ?_
    show Steps p.tables e below (T3.setTop (mkF m 38 #[.val (.int p1)] [(.ref w_NONE)])) _
    jvm_step X3.here [X3.here.top, hx, (hb hby d4_38), X3.method', Bd.returns, Value.isRef, FieldType.isReference]
    first | (intro acts; rw [hr _ acts rfl rfl rfl]) | rw [hr _ _ rfl rfl rfl]
    exact Steps.refl _
  · show Q4 Z p1 w_REQUIRED w_OR_NAME w_NONE h0 n0 _ T3.heap _
    rw [e3]
    exact ⟨by simp_all [fiF], N0, rfl⟩
theorem rm4 (l : Launch) (Z : State) (a0 : Array Value) (hw : ∀ d ∈ tables_1, d.before a0 Z = true) (ws : List Jvm.Cond) (p1 : Int32) (w_REQUIRED : Addr) (w_OR_NAME : Addr) (w_NONE : Addr) (h0 : Heap) (n0 : Nat) (Z0 : n0 ≤ h0.size) (S_REQUIRED : Sta Z h0 "com/example/overbrenger/overbrenger/build/Column$Use" "REQUIRED" "Lcom/example/overbrenger/overbrenger/build/Column$Use;" (.ref w_REQUIRED)) (S_OR_NAME : Sta Z h0 "com/example/overbrenger/overbrenger/build/Column$Use" "OR_NAME" "Lcom/example/overbrenger/overbrenger/build/Column$Use;" (.ref w_OR_NAME)) (S_NONE : Sta Z h0 "com/example/overbrenger/overbrenger/build/Column$Use" "NONE" "Lcom/example/overbrenger/overbrenger/build/Column$Use;" (.ref w_NONE)) :
    MetFree l (⟨"com/example/overbrenger/overbrenger/build/ColumnUsePinLaw", "fileUse", "(I)Lcom/example/overbrenger/overbrenger/build/Column$Use;"⟩ : MethodName) (head1 (Jvm.Cond.code (⟨"com/example/overbrenger/overbrenger/build/ColumnUsePinLaw", "fileUse", "(I)Lcom/example/overbrenger/overbrenger/build/Column$Use;"⟩ : MethodName) method_4_code 1 (some (.object "com/example/overbrenger/overbrenger/build/Column$Use")) :: ws) ({ frames := 0, cells := 0, slots := 0, locals := 0 } : Room)) (fun a U => a = #[(.int p1)] ∧ Z.Warmed39 U.vm ∧ U.heap = h0) (fun _ _ _ _ _ => True) (fun _ U o U' => ∃ v L, o = .returned v ∧ Q4 Z p1 w_REQUIRED w_OR_NAME w_NONE h0 n0 v U'.heap L ∧ FrameEnd U o U' L ({ frames := 0, cells := 0, slots := 0, locals := 0 } : Room).cells ({ frames := 0, cells := 0, slots := 0, locals := 0 } : Room).slots) := by
  by_cases hc2 : p1 = (1 : Int32)
  · exact rm4_t l Z a0 hw ws p1 w_REQUIRED w_OR_NAME w_NONE h0 n0 Z0 S_REQUIRED S_OR_NAME S_NONE hc2
  · by_cases hc7 : p1 = (2 : Int32)
    · exact rm4_ft l Z a0 hw ws p1 w_REQUIRED w_OR_NAME w_NONE h0 n0 Z0 S_REQUIRED S_OR_NAME S_NONE hc2 hc7
    · by_cases hc13 : p1 = (8 : Int32)
      · exact rm4_fft l Z a0 hw ws p1 w_REQUIRED w_OR_NAME w_NONE h0 n0 Z0 S_REQUIRED S_OR_NAME S_NONE hc2 hc7 hc13
      · by_cases hc19 : p1 = (9 : Int32)
        · exact rm4_ffff l Z a0 hw ws p1 w_REQUIRED w_OR_NAME w_NONE h0 n0 Z0 S_REQUIRED S_OR_NAME S_NONE hc2 hc7 hc13 hc19
        · by_cases hc28 : p1 = (3 : Int32)
          · exact rm4_ffftf l Z a0 hw ws p1 w_REQUIRED w_OR_NAME w_NONE h0 n0 Z0 S_REQUIRED S_OR_NAME S_NONE hc2 hc7 hc13 hc19 hc28
          · exact rm4_ffftt l Z a0 hw ws p1 w_REQUIRED w_OR_NAME w_NONE h0 n0 Z0 S_REQUIRED S_OR_NAME S_NONE hc2 hc7 hc13 hc19 hc28
theorem pn_0 : plainName "com/example/overbrenger/overbrenger/build/ColumnUsePinLaw" = true := by first | (simp [plainName, overriddenIn]; done) | decide +kernel
theorem pd_0_0 : parseMethodDescriptor "(I)Lcom/example/overbrenger/overbrenger/build/Column;" = some ⟨[.int], some (.object "com/example/overbrenger/overbrenger/build/Column")⟩ := by decide +kernel
theorem pd_0_1 : parseMethodDescriptor "(I)Lcom/example/overbrenger/overbrenger/build/Column$Use;" = some ⟨[.int], some (.object "com/example/overbrenger/overbrenger/build/Column$Use")⟩ := by decide +kernel
theorem pd_0_2 : parseMethodDescriptor "(Z)Lcom/example/overbrenger/overbrenger/build/Column$Use;" = some ⟨[.boolean], some (.object "com/example/overbrenger/overbrenger/build/Column$Use")⟩ := by decide +kernel
theorem ef_0 (m : MethodId) (x0 : Int32) (x1 : Int32) : entryFrame m #[(.int x0), (.int x1)] maxLocals = mkF m 0 #[.val (.int x0), .val (.int x1), .unset, .unset, .unset, .unset] [] := by first | (simp [entryFrame, mkF, argsToLocals, Value.category, maxLocals]; done) | rfl
def Q0 (Z : State) (h0 : Heap) (n0 : Nat) (v : Option Value) (h : Heap) (L : List Loc) : Prop := v = some (.int (1 : Int32)) ∧ Fr n0 L
set_option maxRecDepth 65536 in
set_option maxHeartbeats 40000000 in
theorem rm0_fff (l : Launch) (Z : State) (a0 : Array Value) (hw : ∀ d ∈ tables_1, d.before a0 Z = true) (ws : List Jvm.Cond) (p1 : Int32) (p2 : Int32) (w_PAD : Addr) (w_KENMERK : Addr) (w_BRON : Addr) (w_NAAM : Addr) (w_NIVEAU : Addr) (w_WAARDERING : Addr) (w_ARCHIEFVORMER : Addr) (w_BEPERKING : Addr) (w_FORMAAT_CODE : Addr) (w_FORMAAT_NAAM : Addr) (w_NONE : Addr) (w_REQUIRED : Addr) (w_OR_NAME : Addr) (A : Addr) (U : Addr) (V : Addr) (fi : Addr) (fo : Addr) (h0 : Heap) (n0 : Nat) (Z0 : n0 ≤ h0.size) (S_PAD : Sta Z h0 "com/example/overbrenger/overbrenger/build/Column" "PAD" "Lcom/example/overbrenger/overbrenger/build/Column;" (.ref w_PAD)) (S_KENMERK : Sta Z h0 "com/example/overbrenger/overbrenger/build/Column" "KENMERK" "Lcom/example/overbrenger/overbrenger/build/Column;" (.ref w_KENMERK)) (S_BRON : Sta Z h0 "com/example/overbrenger/overbrenger/build/Column" "BRON" "Lcom/example/overbrenger/overbrenger/build/Column;" (.ref w_BRON)) (S_NAAM : Sta Z h0 "com/example/overbrenger/overbrenger/build/Column" "NAAM" "Lcom/example/overbrenger/overbrenger/build/Column;" (.ref w_NAAM)) (S_NIVEAU : Sta Z h0 "com/example/overbrenger/overbrenger/build/Column" "NIVEAU" "Lcom/example/overbrenger/overbrenger/build/Column;" (.ref w_NIVEAU)) (S_WAARDERING : Sta Z h0 "com/example/overbrenger/overbrenger/build/Column" "WAARDERING" "Lcom/example/overbrenger/overbrenger/build/Column;" (.ref w_WAARDERING)) (S_ARCHIEFVORMER : Sta Z h0 "com/example/overbrenger/overbrenger/build/Column" "ARCHIEFVORMER" "Lcom/example/overbrenger/overbrenger/build/Column;" (.ref w_ARCHIEFVORMER)) (S_BEPERKING : Sta Z h0 "com/example/overbrenger/overbrenger/build/Column" "BEPERKING" "Lcom/example/overbrenger/overbrenger/build/Column;" (.ref w_BEPERKING)) (S_FORMAAT_CODE : Sta Z h0 "com/example/overbrenger/overbrenger/build/Column" "FORMAAT_CODE" "Lcom/example/overbrenger/overbrenger/build/Column;" (.ref w_FORMAAT_CODE)) (S_FORMAAT_NAAM : Sta Z h0 "com/example/overbrenger/overbrenger/build/Column" "FORMAAT_NAAM" "Lcom/example/overbrenger/overbrenger/build/Column;" (.ref w_FORMAAT_NAAM)) (S_NONE : Sta Z h0 "com/example/overbrenger/overbrenger/build/Column$Use" "NONE" "Lcom/example/overbrenger/overbrenger/build/Column$Use;" (.ref w_NONE)) (S_REQUIRED : Sta Z h0 "com/example/overbrenger/overbrenger/build/Column$Use" "REQUIRED" "Lcom/example/overbrenger/overbrenger/build/Column$Use;" (.ref w_REQUIRED)) (S_OR_NAME : Sta Z h0 "com/example/overbrenger/overbrenger/build/Column$Use" "OR_NAME" "Lcom/example/overbrenger/overbrenger/build/Column$Use;" (.ref w_OR_NAME)) (E_A : Exa Z h0 A "com/example/overbrenger/overbrenger/build/Column") (F_files_A : Fld Z h0 A "com/example/overbrenger/overbrenger/build/Column" "files" "Lcom/example/overbrenger/overbrenger/build/Column$Use;" (.ref fi)) (F_folders_A : Fld Z h0 A "com/example/overbrenger/overbrenger/build/Column" "folders" "Lcom/example/overbrenger/overbrenger/build/Column$Use;" (.ref fo)) (hA : pickF ((p1 &&& (2147483647 : Int32)) % (10 : Int32)) w_PAD w_KENMERK w_BRON w_NAAM w_NIVEAU w_WAARDERING w_ARCHIEFVORMER w_BEPERKING w_FORMAAT_CODE w_FORMAAT_NAAM = A) (hU : foF ((p1 &&& (2147483647 : Int32)) % (10 : Int32)) w_NONE w_REQUIRED = U) (hV : useF (1 : Int32) fi fo = V) (hc11 : ¬ ((p2 &&& (1 : Int32)) = (0 : Int32))) (hc27 : ¬ ((1 : Int32) = (0 : Int32))) (ha51 : V = U) :
    MetFree l x (head1 (Jvm.Cond.code x code maxLocals ret :: ws) room_1) (fun a U => a = #[(.int p1), (.int p2)] ∧ Z.Warmed39 U.vm ∧ U.heap = h0) (fun _ _ _ _ _ => True) (fun _ U o U' => ∃ v L, o = .returned v ∧ Q0 Z h0 n0 v U'.heap L ∧ FrameEnd U o U' L room_1.cells room_1.slots) := by
  refine MetFree.of_bodySF (plainFor_of_name pn_0) hisR ?_
  intro p e s m args below meth c s₁ Bd hml0 hP hK
  obtain ⟨rfl, hZ, hh⟩ := hP
  have hx := Bd.exec
  have hby := Bd.bytes
  have hml : c.maxLocals = 6 := hml0
  have hown : s.vm.findClass "com/example/overbrenger/overbrenger/build/ColumnUsePinLaw" = some m.cls := findClass_of_methodNamed Bd.named
  have hnm := (name_of_methodNamed Bd.named Bd.method).1
  have X0 : Stand p l e room_1 s m #[(.int p1), (.int p2)] below meth c s₁ [] 0 0 := Stand.of_body Bd
  have e0 : s₁.heap = h0 := by rw [← hh, Bd.state]; rfl
  have N0 := Fr.nil n0
  have pre0 : ∀ t, Steps p.tables e below (s₁.setTop (mkF m 0 #[.val (.int p1), .val (.int p2), .unset, .unset, .unset, .unset] [])) t → Steps p.tables e below (s₁.setTop (entryFrame m #[(.int p1), (.int p2)] maxLocals)) t := fun t k => castTop (ef_0 m p1 p2) k
  -- 3. LAWS
  -- pc 21: com/example/overbrenger/overbrenger/build/ColumnUsePinLaw.pick by its contract rm1
  obtain ⟨_, _, ⟨T3, L3, k3, n3⟩, -, X3, ⟨Lc3, hQ3, l3, y3, z3⟩, st3⟩ := Jvm.LawKit.callS X0 hx (y := (⟨"com/example/overbrenger/overbrenger/build/ColumnUsePinLaw", "pick", "(I)Lcom/example/overbrenger/overbrenger/build/Column;"⟩ : MethodName)) hown (mvT hZ (hw _ (List.mem_of_getElem? (i := 1) rfl))) (mvT hZ (hw _ (List.mem_of_getElem? (i := 2) rfl))) (mvT hZ (hw _ (List.mem_of_getElem? (i := 3) rfl))) (mvT hZ (hw _ (List.mem_of_getElem? (i := 4) rfl))) (by decide) (backOf (W := 0) (rm1 l Z a0 hw [] ((p1 &&& (2147483647 : Int32)) % (10 : Int32)) w_PAD w_KENMERK w_BRON w_NAAM w_NIVEAU w_WAARDERING w_ARCHIEFVORMER w_BEPERKING w_FORMAAT_CODE w_FORMAAT_NAAM h0 n0 Z0 S_PAD S_KENMERK S_BRON S_NAAM S_NIVEAU S_WAARDERING S_ARCHIEFVORMER S_BEPERKING S_FORMAAT_CODE S_FORMAAT_NAAM) hZ (hw _ (List.mem_of_getElem? (i := 4) rfl)) (hw _ (List.mem_of_getElem? (i := 3) rfl)) (by decide) (by decide)) (g := (mkF m 21 #[.val (.int p1), .val (.int p2), .val (.int ((p1 &&& (2147483647 : Int32)) % (10 : Int32))), .val (.int (1 : Int32)), .unset, .unset] [(.int ((p1 &&& (2147483647 : Int32)) % (10 : Int32)))])) rfl (by rw [hml]; rfl) (argsL := [(.int ((p1 &&& (2147483647 : Int32)) % (10 : Int32)))]) (rest := []) (lenOf pd_0_0 rfl) rfl (by show 2 * 0 + _ ≤ _; exact Nat.le_of_eq rfl) (hb hby at_21) (fun _ _ => ⟨rfl, e0, (by decide : 0 + 0 ≤ _), (by decide : 0 + 0 ≤ _)⟩)
  dsimp only [Pt.U, Pt.locs, Pt.cells, Pt.slots] at X3 l3 y3 z3 st3 hQ3
  subst l3 y3 z3
  obtain ⟨rv3, N3q, q3⟩ := hQ3
  rw [hA] at rv3
  subst rv3
  have N3 := Fr.app N0 N3q
  -- pc 31: com/example/overbrenger/overbrenger/build/ColumnUsePinLaw.folderUse by its contract rm2
  obtain ⟨_, _, ⟨T4, L4, k4, n4⟩, -, X4, ⟨Lc4, hQ4, l4, y4, z4⟩, st4⟩ := Jvm.LawKit.callS X3 hx (y := (⟨"com/example/overbrenger/overbrenger/build/ColumnUsePinLaw", "folderUse", "(I)Lcom/example/overbrenger/overbrenger/build/Column$Use;"⟩ : MethodName)) hown (mvT hZ (hw _ (List.mem_of_getElem? (i := 8) rfl))) (mvT hZ (hw _ (List.mem_of_getElem? (i := 9) rfl))) (mvT hZ (hw _ (List.mem_of_getElem? (i := 3) rfl))) (mvT hZ (hw _ (List.mem_of_getElem? (i := 10) rfl))) (by decide) (backOf (W := 0) (rm2 l Z a0 hw [] ((p1 &&& (2147483647 : Int32)) % (10 : Int32)) w_NONE w_REQUIRED h0 n0 Z0 S_NONE S_REQUIRED) hZ (hw _ (List.mem_of_getElem? (i := 10) rfl)) (hw _ (List.mem_of_getElem? (i := 3) rfl)) (by decide) (by decide)) (g := (mkF m 31 #[.val (.int p1), .val (.int p2), .val (.int ((p1 &&& (2147483647 : Int32)) % (10 : Int32))), .val (.int (1 : Int32)), .val (.ref A), .unset] [(.int ((p1 &&& (2147483647 : Int32)) % (10 : Int32)))])) rfl (by rw [hml]; rfl) (argsL := [(.int ((p1 &&& (2147483647 : Int32)) % (10 : Int32)))]) (rest := []) (lenOf pd_0_1 rfl) rfl (by show 2 * 0 + _ ≤ _; exact Nat.le_of_eq rfl) (hb hby at_31) (fun _ _ => ⟨rfl, q3, (by decide : 0 + 0 ≤ _), (by decide : 0 + 0 ≤ _)⟩)
  dsimp only [Pt.U, Pt.locs, Pt.cells, Pt.slots] at X4 l4 y4 z4 st4 hQ4
  subst l4 y4 z4
  obtain ⟨rv4, N4q, q4⟩ := hQ4
  rw [hU] at rv4
  subst rv4
  have N4 := Fr.app N3 N4q
  -- pc 46: com/example/overbrenger/overbrenger/build/Column.use by the contract of the body that the receiver's class selects, rm3
  obtain ⟨cq5, kq5, q5a, q5b, q5c⟩ := isOf hZ q4 E_A
  obtain ⟨_, _, ⟨T5, L5, k5, n5⟩, -, X5, ⟨Lc5, hQ5, l5, y5, z5⟩, st5⟩ := X4.virtualBack hx (y := (⟨"com/example/overbrenger/overbrenger/build/Column", "use", "(Z)Lcom/example/overbrenger/overbrenger/build/Column$Use;"⟩ : MethodName)) (z := (⟨"com/example/overbrenger/overbrenger/build/Column", "use", "(Z)Lcom/example/overbrenger/overbrenger/build/Column$Use;"⟩ : MethodName)) hown (mvT hZ (hw _ (List.mem_of_getElem? (i := 14) rfl))) (mvT hZ (hw _ (List.mem_of_getElem? (i := 15) rfl))) (notFace_of_selects (args := #[]) (mvT hZ (hw _ (List.mem_of_getElem? (i := 17) rfl)))) (mvT hZ (hw _ (List.mem_of_getElem? (i := 17) rfl))) (mvT hZ (hw _ (List.mem_of_getElem? (i := 16) rfl))) (by decide) (backOf (W := 0) (rm3 l Z a0 hw [] A (1 : Int32) fi fo h0 n0 Z0 F_files_A F_folders_A) hZ (hw _ (List.mem_of_getElem? (i := 18) rfl)) (hw _ (List.mem_of_getElem? (i := 6) rfl)) (by decide) (by decide)) q5a q5c (g := (mkF m 46 #[.val (.int p1), .val (.int p2), .val (.int ((p1 &&& (2147483647 : Int32)) % (10 : Int32))), .val (.int (1 : Int32)), .val (.ref A), .val (.ref U)] [(.int (1 : Int32)), (.ref A)])) rfl (by rw [hml]; rfl) (Steps.refl _) (argsL := [(.int (1 : Int32))]) (rest := []) (lenOf pd_0_2 rfl) rfl (by show 2 * 0 + _ ≤ _; exact Nat.le_of_eq rfl) (hb hby at_46) (fun _ _ => ⟨rfl, q4, (by decide : 0 + 0 ≤ _), (by decide : 0 + 0 ≤ _)⟩)
  dsimp only [Pt.U, Pt.locs, Pt.cells, Pt.slots] at X5 l5 y5 z5 st5 hQ5
  subst l5 y5 z5
  obtain ⟨rv5, N5q, q5⟩ := hQ5
  rw [hV] at rv5
  subst rv5
  have N5 := Fr.app N4 N5q
  obtain ⟨fs, hr, hrun, hended, hW, hsame⟩ := X5.leave (v := some (.int (1 : Int32))) (fun h => by rw [Bd.returns] at h; cases h)
  refine ⟨_, _, pre0 _ ?_, hrun, hended, _, _, rfl, ?_, ⟨_, rfl⟩, hW, hsame.mono (by decide) (by decide)⟩
  -- 4. STEPS
  · show Steps p.tables e below (s₁.setTop (mkF m 0 #[.val (.int p1), .val (.int p2), .unset, .unset, .unset, .unset] [])) _
    refine XS.iloadN X0.here hx rfl (hb hby at_0) rfl ?_
    show Steps p.tables e below (s₁.setTop (mkF m 1 #[.val (.int p1), .val (.int p2), .unset, .unset, .unset, .unset] [(.int p1)])) _
    refine X0.ldcInt hx hown (mvT hZ (hw _ (List.mem_of_getElem? (i := 0) rfl))) (g := (mkF m 1 #[.val (.int p1), .val (.int p2), .unset, .unset, .unset, .unset] [(.int p1)])) rfl (hb hby at_1) _ ?_
    show Steps p.tables e below (s₁.setTop (mkF m 3 #[.val (.int p1), .val (.int p2), .unset, .unset, .unset, .unset] [(.int (2147483647 : Int32)), (.int p1)])) _
    refine XS.iand X0.here hx rfl (hb hby at_3) rfl ?_
    show Steps p.tables e below (s₁.setTop (mkF m 4 #[.val (.int p1), .val (.int p2), .unset, .unset, .unset, .unset] [(.int (p1 &&& (2147483647 : Int32)))])) _
    refine XS.bipush X0.here hx rfl (hb hby at_4) ?_
    show Steps p.tables e below (s₁.setTop (mkF m 6 #[.val (.int p1), .val (.int p2), .unset, .unset, .unset, .unset] [(.int (10 : Int32)), (.int (p1 &&& (2147483647 : Int32)))])) _
    refine iremM X0 hx rfl (hb hby at_6) rfl (by decide) ?_
    show Steps p.tables e below (s₁.setTop (mkF m 7 #[.val (.int p1), .val (.int p2), .unset, .unset, .unset, .unset] [(.int ((p1 &&& (2147483647 : Int32)) % (10 : Int32)))])) _
    refine XS.istoreN X0.here hx rfl (hb hby at_7) rfl (l' := #[.val (.int p1), .val (.int p2), .val (.int ((p1 &&& (2147483647 : Int32)) % (10 : Int32))), .unset, .unset, .unset]) rfl ?_
    show Steps p.tables e below (s₁.setTop (mkF m 8 #[.val (.int p1), .val (.int p2), .val (.int ((p1 &&& (2147483647 : Int32)) % (10 : Int32))), .unset, .unset, .unset] [])) _
    refine XS.iloadN X0.here hx rfl (hb hby at_8) rfl ?_
    show Steps p.tables e below (s₁.setTop (mkF m 9 #[.val (.int p1), .val (.int p2), .val (.int ((p1 &&& (2147483647 : Int32)) % (10 : Int32))), .unset, .unset, .unset] [(.int p2)])) _
    refine XS.iconst X0.here hx rfl (hb hby at_9) ?_
    show Steps p.tables e below (s₁.setTop (mkF m 10 #[.val (.int p1), .val (.int p2), .val (.int ((p1 &&& (2147483647 : Int32)) % (10 : Int32))), .unset, .unset, .unset] [(.int (1 : Int32)), (.int p2)])) _
    refine XS.iand X0.here hx rfl (hb hby at_10) rfl ?_
    show Steps p.tables e below (s₁.setTop (mkF m 11 #[.val (.int p1), .val (.int p2), .val (.int ((p1 &&& (2147483647 : Int32)) % (10 : Int32))), .unset, .unset, .unset] [(.int (p2 &&& (1 : Int32)))])) _
    refine XS.ifNo X0.here hx rfl (hb hby at_11) rfl ((if0 _ _).trans (feq hc11).1) ?_
    show Steps p.tables e below (s₁.setTop (mkF m 14 #[.val (.int p1), .val (.int p2), .val (.int ((p1 &&& (2147483647 : Int32)) % (10 : Int32))), .unset, .unset, .unset] [])) _
    refine XS.iconst X0.here hx rfl (hb hby at_14) ?_
    show Steps p.tables e below (s₁.setTop (mkF m 15 #[.val (.int p1), .val (.int p2), .val (.int ((p1 &&& (2147483647 : Int32)) % (10 : Int32))), .unset, .unset, .unset] [(.int (1 : Int32))])) _
    refine XS.goto X0.here hx rfl (pc0 := 15) (pc' := 19) rfl (hb hby at_15) (by decide) (by decide) ?_
    show Steps p.tables e below (s₁.setTop (mkF m 19 #[.val (.int p1), .val (.int p2), .val (.int ((p1 &&& (2147483647 : Int32)) % (10 : Int32))), .unset, .unset, .unset] [(.int (1 : Int32))])) _
    refine XS.istoreN X0.here hx rfl (hb hby at_19) rfl (l' := #[.val (.int p1), .val (.int p2), .val (.int ((p1 &&& (2147483647 : Int32)) % (10 : Int32))), .val (.int (1 : Int32)), .unset, .unset]) rfl ?_
    show Steps p.tables e below (s₁.setTop (mkF m 20 #[.val (.int p1), .val (.int p2), .val (.int ((p1 &&& (2147483647 : Int32)) % (10 : Int32))), .val (.int (1 : Int32)), .unset, .unset] [])) _
    refine XS.iloadN X0.here hx rfl (hb hby at_20) rfl ?_
    show Steps p.tables e below (s₁.setTop (mkF m 21 #[.val (.int p1), .val (.int p2), .val (.int ((p1 &&& (2147483647 : Int32)) % (10 : Int32))), .val (.int (1 : Int32)), .unset, .unset] [(.int ((p1 &&& (2147483647 : Int32)) % (10 : Int32)))])) _
    refine st3 _ ?_
    show Steps p.tables e below (T3.setTop (mkF m 24 #[.val (.int p1), .val (.int p2), .val (.int ((p1 &&& (2147483647 : Int32)) % (10 : Int32))), .val (.int (1 : Int32)), .unset, .unset] [(.ref A)])) _
    refine XS.astore X3.here hx rfl (hb hby at_24) rfl rfl (l' := #[.val (.int p1), .val (.int p2), .val (.int ((p1 &&& (2147483647 : Int32)) % (10 : Int32))), .val (.int (1 : Int32)), .val (.ref A), .unset]) rfl ?_
    show Steps p.tables e below (T3.setTop (mkF m 26 #[.val (.int p1), .val (.int p2), .val (.int ((p1 &&& (2147483647 : Int32)) % (10 : Int32))), .val (.int (1 : Int32)), .val (.ref A), .unset] [])) _
    refine XS.iloadN X3.here hx rfl (hb hby at_26) rfl ?_
    show Steps p.tables e below (T3.setTop (mkF m 27 #[.val (.int p1), .val (.int p2), .val (.int ((p1 &&& (2147483647 : Int32)) % (10 : Int32))), .val (.int (1 : Int32)), .val (.ref A), .unset] [(.int (1 : Int32))])) _
    refine XS.ifNo X3.here hx rfl (hb hby at_27) rfl ((if0 _ _).trans (feq hc27).1) ?_
    show Steps p.tables e below (T3.setTop (mkF m 30 #[.val (.int p1), .val (.int p2), .val (.int ((p1 &&& (2147483647 : Int32)) % (10 : Int32))), .val (.int (1 : Int32)), .val (.ref A), .unset] [])) _
    refine XS.iloadN X3.here hx rfl (hb hby at_30) rfl ?_
    show Steps p.tables e below (T3.setTop (mkF m 31 #[.val (.int p1), .val (.int p2), .val (.int ((p1 &&& (2147483647 : Int32)) % (10 : Int32))), .val (.int (1 : Int32)), .val (.ref A), .unset] [(.int ((p1 &&& (2147483647 : Int32)) % (10 : Int32)))])) _
    refine st4 _ ?_
    show Steps p.tables e below (T4.setTop (mkF m 34 #[.val (.int p1), .val (.int p2), .val (.int ((p1 &&& (2147483647 : Int32)) % (10 : Int32))), .val (.int (1 : Int32)), .val (.ref A), .unset] [(.ref U)])) _
    refine XS.goto X4.here hx rfl (pc0 := 34) (pc' := 41) rfl (hb hby at_34) (by decide) (by decide) ?_
    show Steps p.tables e below (T4.setTop (mkF m 41 #[.val (.int p1), .val (.int p2), .val (.int ((p1 &&& (2147483647 : Int32)) % (10 : Int32))), .val (.int (1 : Int32)), .val (.ref A), .unset] [(.ref U)])) _
    refine XS.astore X4.here hx rfl (hb hby at_41) rfl rfl (l' := #[.val (.int p1), .val (.int p2), .val (.int ((p1 &&& (2147483647 : Int32)) % (10 : Int32))), .val (.int (1 : Int32)), .val (.ref A), .val (.ref U)]) rfl ?_
    show Steps p.tables e below (T4.setTop (mkF m 43 #[.val (.int p1), .val (.int p2), .val (.int ((p1 &&& (2147483647 : Int32)) % (10 : Int32))), .val (.int (1 : Int32)), .val (.ref A), .val (.ref U)] [])) _
    refine XS.aload X4.here hx rfl (hb hby at_43) rfl rfl ?_
    show Steps p.tables e below (T4.setTop (mkF m 45 #[.val (.int p1), .val (.int p2), .val (.int ((p1 &&& (2147483647 : Int32)) % (10 : Int32))), .val (.int (1 : Int32)), .val (.ref A), .val (.ref U)] [(.ref A)])) _
    refine XS.iloadN X4.here hx rfl (hb hby at_45) rfl ?_
    show Steps p.tables e below (T4.setTop (mkF m 46 #[.val (.int p1), .val (.int p2), .val (.int ((p1 &&& (2147483647 : Int32)) % (10 : Int32))), .val (.int (1 : Int32)), .val (.ref A), .val (.ref U)] [(.int (1 : Int32)), (.ref A)])) _
    refine st5.trans ?_
    show Steps p.tables e below (T5.setTop (mkF m 49 #[.val (.int p1), .val (.int p2), .val (.int ((p1 &&& (2147483647 : Int32)) % (10 : Int32))), .val (.int (1 : Int32)), .val (.ref A), .val (.ref U)] [(.ref V)])) _
    refine XS.aload X5.here hx rfl (hb hby at_49) rfl rfl ?_
    show Steps p.tables e below (T5.setTop (mkF m 51 #[.val (.int p1), .val (.int p2), .val (.int ((p1 &&& (2147483647 : Int32)) % (10 : Int32))), .val (.int (1 : Int32)), .val (.ref A), .val (.ref U)] [(.ref U), (.ref V)])) _
    refine Jvm.RoadKit.acmp (g := (mkF m 51 #[.val (.int p1), .val (.int p2), .val (.int ((p1 &&& (2147483647 : Int32)) % (10 : Int32))), .val (.int (1 : Int32)), .val (.ref A), .val (.ref U)] [(.ref U), (.ref V)])) X5 hx rfl rfl rfl (pc0 := 51) (pc' := 54) (same := true) rfl (hb hby at_51) rfl (decide_eq_true (congrArg Value.ref ha51)) (by decide) (by decide) ?_
    show Steps p.tables e below (T5.setTop (mkF m 54 #[.val (.int p1), .val (.int p2), .val (.int ((p1 &&& (2147483647 : Int32)) % (10 : Int32))), .val (.int (1 : Int32)), .val (.ref A), .val (.ref U)] [])) _
    refine XS.iconst X5.here hx rfl (hb hby at_54) ?_
    show Steps p.tables e below (T5.setTop (mkF m 55 #[.val (.int p1), .val (.int p2), .val (.int ((p1 &&& (2147483647 : Int32)) % (10 : Int32))), .val (.int (1 : Int32)), .val (.ref A), .val (.ref U)] [(.int (1 : Int32))])) _
    refine XS.goto X5.here hx rfl (pc0 := 55) (pc' := 59) rfl (hb hby at_55) (by decide) (by decide) ?_
    show Steps p.tables e below (T5.setTop (mkF m 59 #[.val (.int p1), .val (.int p2), .val (.int ((p1 &&& (2147483647 : Int32)) % (10 : Int32))), .val (.int (1 : Int32)), .val (.ref A), .val (.ref U)] [(.int (1 : Int32))])) _
    exact retN X5 hx (t := .boolean) Bd.returns (by simp) (hb hby at_59) hr
  · show Q0 Z h0 n0 _ T5.heap _
    exact ⟨rfl, N5⟩
set_option maxRecDepth 65536 in
set_option maxHeartbeats 40000000 in
theorem rm0_ttf (l : Launch) (Z : State) (a0 : Array Value) (hw : ∀ d ∈ tables_1, d.before a0 Z = true) (ws : List Jvm.Cond) (p1 : Int32) (p2 : Int32) (w_PAD : Addr) (w_KENMERK : Addr) (w_BRON : Addr) (w_NAAM : Addr) (w_NIVEAU : Addr) (w_WAARDERING : Addr) (w_ARCHIEFVORMER : Addr) (w_BEPERKING : Addr) (w_FORMAAT_CODE : Addr) (w_FORMAAT_NAAM : Addr) (w_NONE : Addr) (w_REQUIRED : Addr) (w_OR_NAME : Addr) (A : Addr) (U : Addr) (V : Addr) (fi : Addr) (fo : Addr) (h0 : Heap) (n0 : Nat) (Z0 : n0 ≤ h0.size) (S_PAD : Sta Z h0 "com/example/overbrenger/overbrenger/build/Column" "PAD" "Lcom/example/overbrenger/overbrenger/build/Column;" (.ref w_PAD)) (S_KENMERK : Sta Z h0 "com/example/overbrenger/overbrenger/build/Column" "KENMERK" "Lcom/example/overbrenger/overbrenger/build/Column;" (.ref w_KENMERK)) (S_BRON : Sta Z h0 "com/example/overbrenger/overbrenger/build/Column" "BRON" "Lcom/example/overbrenger/overbrenger/build/Column;" (.ref w_BRON)) (S_NAAM : Sta Z h0 "com/example/overbrenger/overbrenger/build/Column" "NAAM" "Lcom/example/overbrenger/overbrenger/build/Column;" (.ref w_NAAM)) (S_NIVEAU : Sta Z h0 "com/example/overbrenger/overbrenger/build/Column" "NIVEAU" "Lcom/example/overbrenger/overbrenger/build/Column;" (.ref w_NIVEAU)) (S_WAARDERING : Sta Z h0 "com/example/overbrenger/overbrenger/build/Column" "WAARDERING" "Lcom/example/overbrenger/overbrenger/build/Column;" (.ref w_WAARDERING)) (S_ARCHIEFVORMER : Sta Z h0 "com/example/overbrenger/overbrenger/build/Column" "ARCHIEFVORMER" "Lcom/example/overbrenger/overbrenger/build/Column;" (.ref w_ARCHIEFVORMER)) (S_BEPERKING : Sta Z h0 "com/example/overbrenger/overbrenger/build/Column" "BEPERKING" "Lcom/example/overbrenger/overbrenger/build/Column;" (.ref w_BEPERKING)) (S_FORMAAT_CODE : Sta Z h0 "com/example/overbrenger/overbrenger/build/Column" "FORMAAT_CODE" "Lcom/example/overbrenger/overbrenger/build/Column;" (.ref w_FORMAAT_CODE)) (S_FORMAAT_NAAM : Sta Z h0 "com/example/overbrenger/overbrenger/build/Column" "FORMAAT_NAAM" "Lcom/example/overbrenger/overbrenger/build/Column;" (.ref w_FORMAAT_NAAM)) (S_NONE : Sta Z h0 "com/example/overbrenger/overbrenger/build/Column$Use" "NONE" "Lcom/example/overbrenger/overbrenger/build/Column$Use;" (.ref w_NONE)) (S_REQUIRED : Sta Z h0 "com/example/overbrenger/overbrenger/build/Column$Use" "REQUIRED" "Lcom/example/overbrenger/overbrenger/build/Column$Use;" (.ref w_REQUIRED)) (S_OR_NAME : Sta Z h0 "com/example/overbrenger/overbrenger/build/Column$Use" "OR_NAME" "Lcom/example/overbrenger/overbrenger/build/Column$Use;" (.ref w_OR_NAME)) (E_A : Exa Z h0 A "com/example/overbrenger/overbrenger/build/Column") (F_files_A : Fld Z h0 A "com/example/overbrenger/overbrenger/build/Column" "files" "Lcom/example/overbrenger/overbrenger/build/Column$Use;" (.ref fi)) (F_folders_A : Fld Z h0 A "com/example/overbrenger/overbrenger/build/Column" "folders" "Lcom/example/overbrenger/overbrenger/build/Column$Use;" (.ref fo)) (hA : pickF ((p1 &&& (2147483647 : Int32)) % (10 : Int32)) w_PAD w_KENMERK w_BRON w_NAAM w_NIVEAU w_WAARDERING w_ARCHIEFVORMER w_BEPERKING w_FORMAAT_CODE w_FORMAAT_NAAM = A) (hU : fiF ((p1 &&& (2147483647 : Int32)) % (10 : Int32)) w_REQUIRED w_OR_NAME w_NONE = U) (hV : useF (0 : Int32) fi fo = V) (hc11 : (p2 &&& (1 : Int32)) = (0 : Int32)) (ha51 : V = U) :
    MetFree l x (head1 (Jvm.Cond.code x code maxLocals ret :: ws) room_1) (fun a U => a = #[(.int p1), (.int p2)] ∧ Z.Warmed39 U.vm ∧ U.heap = h0) (fun _ _ _ _ _ => True) (fun _ U o U' => ∃ v L, o = .returned v ∧ Q0 Z h0 n0 v U'.heap L ∧ FrameEnd U o U' L room_1.cells room_1.slots) := by
  refine MetFree.of_bodySF (plainFor_of_name pn_0) hisR ?_
  intro p e s m args below meth c s₁ Bd hml0 hP hK
  obtain ⟨rfl, hZ, hh⟩ := hP
  have hx := Bd.exec
  have hby := Bd.bytes
  have hml : c.maxLocals = 6 := hml0
  have hown : s.vm.findClass "com/example/overbrenger/overbrenger/build/ColumnUsePinLaw" = some m.cls := findClass_of_methodNamed Bd.named
  have hnm := (name_of_methodNamed Bd.named Bd.method).1
  have X0 : Stand p l e room_1 s m #[(.int p1), (.int p2)] below meth c s₁ [] 0 0 := Stand.of_body Bd
  have e0 : s₁.heap = h0 := by rw [← hh, Bd.state]; rfl
  have N0 := Fr.nil n0
  have pre0 : ∀ t, Steps p.tables e below (s₁.setTop (mkF m 0 #[.val (.int p1), .val (.int p2), .unset, .unset, .unset, .unset] [])) t → Steps p.tables e below (s₁.setTop (entryFrame m #[(.int p1), (.int p2)] maxLocals)) t := fun t k => castTop (ef_0 m p1 p2) k
  -- 3. LAWS
  -- pc 21: com/example/overbrenger/overbrenger/build/ColumnUsePinLaw.pick by its contract rm1
  obtain ⟨_, _, ⟨T3, L3, k3, n3⟩, -, X3, ⟨Lc3, hQ3, l3, y3, z3⟩, st3⟩ := Jvm.LawKit.callS X0 hx (y := (⟨"com/example/overbrenger/overbrenger/build/ColumnUsePinLaw", "pick", "(I)Lcom/example/overbrenger/overbrenger/build/Column;"⟩ : MethodName)) hown (mvT hZ (hw _ (List.mem_of_getElem? (i := 1) rfl))) (mvT hZ (hw _ (List.mem_of_getElem? (i := 2) rfl))) (mvT hZ (hw _ (List.mem_of_getElem? (i := 3) rfl))) (mvT hZ (hw _ (List.mem_of_getElem? (i := 4) rfl))) (by decide) (backOf (W := 0) (rm1 l Z a0 hw [] ((p1 &&& (2147483647 : Int32)) % (10 : Int32)) w_PAD w_KENMERK w_BRON w_NAAM w_NIVEAU w_WAARDERING w_ARCHIEFVORMER w_BEPERKING w_FORMAAT_CODE w_FORMAAT_NAAM h0 n0 Z0 S_PAD S_KENMERK S_BRON S_NAAM S_NIVEAU S_WAARDERING S_ARCHIEFVORMER S_BEPERKING S_FORMAAT_CODE S_FORMAAT_NAAM) hZ (hw _ (List.mem_of_getElem? (i := 4) rfl)) (hw _ (List.mem_of_getElem? (i := 3) rfl)) (by decide) (by decide)) (g := (mkF m 21 #[.val (.int p1), .val (.int p2), .val (.int ((p1 &&& (2147483647 : Int32)) % (10 : Int32))), .val (.int (0 : Int32)), .unset, .unset] [(.int ((p1 &&& (2147483647 : Int32)) % (10 : Int32)))])) rfl (by rw [hml]; rfl) (argsL := [(.int ((p1 &&& (2147483647 : Int32)) % (10 : Int32)))]) (rest := []) (lenOf pd_0_0 rfl) rfl (by show 2 * 0 + _ ≤ _; exact Nat.le_of_eq rfl) (hb hby at_21) (fun _ _ => ⟨rfl, e0, (by decide : 0 + 0 ≤ _), (by decide : 0 + 0 ≤ _)⟩)
  dsimp only [Pt.U, Pt.locs, Pt.cells, Pt.slots] at X3 l3 y3 z3 st3 hQ3
  subst l3 y3 z3
  obtain ⟨rv3, N3q, q3⟩ := hQ3
  rw [hA] at rv3
  subst rv3
  have N3 := Fr.app N0 N3q
  -- pc 38: com/example/overbrenger/overbrenger/build/ColumnUsePinLaw.fileUse by its contract rm4
  obtain ⟨_, _, ⟨T4, L4, k4, n4⟩, -, X4, ⟨Lc4, hQ4, l4, y4, z4⟩, st4⟩ := Jvm.LawKit.callS X3 hx (y := (⟨"com/example/overbrenger/overbrenger/build/ColumnUsePinLaw", "fileUse", "(I)Lcom/example/overbrenger/overbrenger/build/Column$Use;"⟩ : MethodName)) hown (mvT hZ (hw _ (List.mem_of_getElem? (i := 29) rfl))) (mvT hZ (hw _ (List.mem_of_getElem? (i := 30) rfl))) (mvT hZ (hw _ (List.mem_of_getElem? (i := 3) rfl))) (mvT hZ (hw _ (List.mem_of_getElem? (i := 31) rfl))) (by decide) (backOf (W := 0) (rm4 l Z a0 hw [] ((p1 &&& (2147483647 : Int32)) % (10 : Int32)) w_REQUIRED w_OR_NAME w_NONE h0 n0 Z0 S_REQUIRED S_OR_NAME S_NONE) hZ (hw _ (List.mem_of_getElem? (i := 31) rfl)) (hw _ (List.mem_of_getElem? (i := 3) rfl)) (by decide) (by decide)) (g := (mkF m 38 #[.val (.int p1), .val (.int p2), .val (.int ((p1 &&& (2147483647 : Int32)) % (10 : Int32))), .val (.int (0 : Int32)), .val (.ref A), .unset] [(.int ((p1 &&& (2147483647 : Int32)) % (10 : Int32)))])) rfl (by rw [hml]; rfl) (argsL := [(.int ((p1 &&& (2147483647 : Int32)) % (10 : Int32)))]) (rest := []) (lenOf pd_0_1 rfl) rfl (by show 2 * 0 + _ ≤ _; exact Nat.le_of_eq rfl) (hb hby at_38) (fun _ _ => ⟨rfl, q3, (by decide : 0 + 0 ≤ _), (by decide : 0 + 0 ≤ _)⟩)
  dsimp only [Pt.U, Pt.locs, Pt.cells, Pt.slots] at X4 l4 y4 z4 st4 hQ4
  subst l4 y4 z4
  obtain ⟨rv4, N4q, q4⟩ := hQ4
  rw [hU] at rv4
  subst rv4
  have N4 := Fr.app N3 N4q
  -- pc 46: com/example/overbrenger/overbrenger/build/Column.use by the contract of the body that the receiver's class selects, rm3
  obtain ⟨cq5, kq5, q5a, q5b, q5c⟩ := isOf hZ q4 E_A
  obtain ⟨_, _, ⟨T5, L5, k5, n5⟩, -, X5, ⟨Lc5, hQ5, l5, y5, z5⟩, st5⟩ := X4.virtualBack hx (y := (⟨"com/example/overbrenger/overbrenger/build/Column", "use", "(Z)Lcom/example/overbrenger/overbrenger/build/Column$Use;"⟩ : MethodName)) (z := (⟨"com/example/overbrenger/overbrenger/build/Column", "use", "(Z)Lcom/example/overbrenger/overbrenger/build/Column$Use;"⟩ : MethodName)) hown (mvT hZ (hw _ (List.mem_of_getElem? (i := 14) rfl))) (mvT hZ (hw _ (List.mem_of_getElem? (i := 15) rfl))) (notFace_of_selects (args := #[]) (mvT hZ (hw _ (List.mem_of_getElem? (i := 17) rfl)))) (mvT hZ (hw _ (List.mem_of_getElem? (i := 17) rfl))) (mvT hZ (hw _ (List.mem_of_getElem? (i := 16) rfl))) (by decide) (backOf (W := 0) (rm3 l Z a0 hw [] A (0 : Int32) fi fo h0 n0 Z0 F_files_A F_folders_A) hZ (hw _ (List.mem_of_getElem? (i := 18) rfl)) (hw _ (List.mem_of_getElem? (i := 6) rfl)) (by decide) (by decide)) q5a q5c (g := (mkF m 46 #[.val (.int p1), .val (.int p2), .val (.int ((p1 &&& (2147483647 : Int32)) % (10 : Int32))), .val (.int (0 : Int32)), .val (.ref A), .val (.ref U)] [(.int (0 : Int32)), (.ref A)])) rfl (by rw [hml]; rfl) (Steps.refl _) (argsL := [(.int (0 : Int32))]) (rest := []) (lenOf pd_0_2 rfl) rfl (by show 2 * 0 + _ ≤ _; exact Nat.le_of_eq rfl) (hb hby at_46) (fun _ _ => ⟨rfl, q4, (by decide : 0 + 0 ≤ _), (by decide : 0 + 0 ≤ _)⟩)
  dsimp only [Pt.U, Pt.locs, Pt.cells, Pt.slots] at X5 l5 y5 z5 st5 hQ5
  subst l5 y5 z5
  obtain ⟨rv5, N5q, q5⟩ := hQ5
  rw [hV] at rv5
  subst rv5
  have N5 := Fr.app N4 N5q
  obtain ⟨fs, hr, hrun, hended, hW, hsame⟩ := X5.leave (v := some (.int (1 : Int32))) (fun h => by rw [Bd.returns] at h; cases h)
  refine ⟨_, _, pre0 _ ?_, hrun, hended, _, _, rfl, ?_, ⟨_, rfl⟩, hW, hsame.mono (by decide) (by decide)⟩
  -- 4. STEPS
  · show Steps p.tables e below (s₁.setTop (mkF m 0 #[.val (.int p1), .val (.int p2), .unset, .unset, .unset, .unset] [])) _
    refine XS.iloadN X0.here hx rfl (hb hby at_0) rfl ?_
    show Steps p.tables e below (s₁.setTop (mkF m 1 #[.val (.int p1), .val (.int p2), .unset, .unset, .unset, .unset] [(.int p1)])) _
    refine X0.ldcInt hx hown (mvT hZ (hw _ (List.mem_of_getElem? (i := 0) rfl))) (g := (mkF m 1 #[.val (.int p1), .val (.int p2), .unset, .unset, .unset, .unset] [(.int p1)])) rfl (hb hby at_1) _ ?_
    show Steps p.tables e below (s₁.setTop (mkF m 3 #[.val (.int p1), .val (.int p2), .unset, .unset, .unset, .unset] [(.int (2147483647 : Int32)), (.int p1)])) _
    refine XS.iand X0.here hx rfl (hb hby at_3) rfl ?_
    show Steps p.tables e below (s₁.setTop (mkF m 4 #[.val (.int p1), .val (.int p2), .unset, .unset, .unset, .unset] [(.int (p1 &&& (2147483647 : Int32)))])) _
    refine XS.bipush X0.here hx rfl (hb hby at_4) ?_
    show Steps p.tables e below (s₁.setTop (mkF m 6 #[.val (.int p1), .val (.int p2), .unset, .unset, .unset, .unset] [(.int (10 : Int32)), (.int (p1 &&& (2147483647 : Int32)))])) _
    refine iremM X0 hx rfl (hb hby at_6) rfl (by decide) ?_
    show Steps p.tables e below (s₁.setTop (mkF m 7 #[.val (.int p1), .val (.int p2), .unset, .unset, .unset, .unset] [(.int ((p1 &&& (2147483647 : Int32)) % (10 : Int32)))])) _
    refine XS.istoreN X0.here hx rfl (hb hby at_7) rfl (l' := #[.val (.int p1), .val (.int p2), .val (.int ((p1 &&& (2147483647 : Int32)) % (10 : Int32))), .unset, .unset, .unset]) rfl ?_
    show Steps p.tables e below (s₁.setTop (mkF m 8 #[.val (.int p1), .val (.int p2), .val (.int ((p1 &&& (2147483647 : Int32)) % (10 : Int32))), .unset, .unset, .unset] [])) _
    refine XS.iloadN X0.here hx rfl (hb hby at_8) rfl ?_
    show Steps p.tables e below (s₁.setTop (mkF m 9 #[.val (.int p1), .val (.int p2), .val (.int ((p1 &&& (2147483647 : Int32)) % (10 : Int32))), .unset, .unset, .unset] [(.int p2)])) _
    refine XS.iconst X0.here hx rfl (hb hby at_9) ?_
    show Steps p.tables e below (s₁.setTop (mkF m 10 #[.val (.int p1), .val (.int p2), .val (.int ((p1 &&& (2147483647 : Int32)) % (10 : Int32))), .unset, .unset, .unset] [(.int (1 : Int32)), (.int p2)])) _
    refine XS.iand X0.here hx rfl (hb hby at_10) rfl ?_
    show Steps p.tables e below (s₁.setTop (mkF m 11 #[.val (.int p1), .val (.int p2), .val (.int ((p1 &&& (2147483647 : Int32)) % (10 : Int32))), .unset, .unset, .unset] [(.int (p2 &&& (1 : Int32)))])) _
    refine XS.ifYes X0.here hx rfl (pc0 := 11) (pc' := 18) rfl (hb hby at_11) rfl ((if0 _ _).trans (teq hc11).1) (by decide) (by decide) ?_
    show Steps p.tables e below (s₁.setTop (mkF m 18 #[.val (.int p1), .val (.int p2), .val (.int ((p1 &&& (2147483647 : Int32)) % (10 : Int32))), .unset, .unset, .unset] [])) _
    refine XS.iconst X0.here hx rfl (hb hby at_18) ?_
    show Steps p.tables e below (s₁.setTop (mkF m 19 #[.val (.int p1), .val (.int p2), .val (.int ((p1 &&& (2147483647 : Int32)) % (10 : Int32))), .unset, .unset, .unset] [(.int (0 : Int32))])) _
    refine XS.istoreN X0.here hx rfl (hb hby at_19) rfl (l' := #[.val (.int p1), .val (.int p2), .val (.int ((p1 &&& (2147483647 : Int32)) % (10 : Int32))), .val (.int (0 : Int32)), .unset, .unset]) rfl ?_
    show Steps p.tables e below (s₁.setTop (mkF m 20 #[.val (.int p1), .val (.int p2), .val (.int ((p1 &&& (2147483647 : Int32)) % (10 : Int32))), .val (.int (0 : Int32)), .unset, .unset] [])) _
    refine XS.iloadN X0.here hx rfl (hb hby at_20) rfl ?_
    show Steps p.tables e below (s₁.setTop (mkF m 21 #[.val (.int p1), .val (.int p2), .val (.int ((p1 &&& (2147483647 : Int32)) % (10 : Int32))), .val (.int (0 : Int32)), .unset, .unset] [(.int ((p1 &&& (2147483647 : Int32)) % (10 : Int32)))])) _
    refine st3 _ ?_
    show Steps p.tables e below (T3.setTop (mkF m 24 #[.val (.int p1), .val (.int p2), .val (.int ((p1 &&& (2147483647 : Int32)) % (10 : Int32))), .val (.int (0 : Int32)), .unset, .unset] [(.ref A)])) _
    refine XS.astore X3.here hx rfl (hb hby at_24) rfl rfl (l' := #[.val (.int p1), .val (.int p2), .val (.int ((p1 &&& (2147483647 : Int32)) % (10 : Int32))), .val (.int (0 : Int32)), .val (.ref A), .unset]) rfl ?_
    show Steps p.tables e below (T3.setTop (mkF m 26 #[.val (.int p1), .val (.int p2), .val (.int ((p1 &&& (2147483647 : Int32)) % (10 : Int32))), .val (.int (0 : Int32)), .val (.ref A), .unset] [])) _
    refine XS.iloadN X3.here hx rfl (hb hby at_26) rfl ?_
    show Steps p.tables e below (T3.setTop (mkF m 27 #[.val (.int p1), .val (.int p2), .val (.int ((p1 &&& (2147483647 : Int32)) % (10 : Int32))), .val (.int (0 : Int32)), .val (.ref A), .unset] [(.int (0 : Int32))])) _
    refine XS.ifYes X3.here hx rfl (pc0 := 27) (pc' := 37) rfl (hb hby at_27) rfl ((if0 _ _).trans (teq (rfl : (0 : Int32) = (0 : Int32))).1) (by decide) (by decide) ?_
    show Steps p.tables e below (T3.setTop (mkF m 37 #[.val (.int p1), .val (.int p2), .val (.int ((p1 &&& (2147483647 : Int32)) % (10 : Int32))), .val (.int (0 : Int32)), .val (.ref A), .unset] [])) _
    refine XS.iloadN X3.here hx rfl (hb hby at_37) rfl ?_
    show Steps p.tables e below (T3.setTop (mkF m 38 #[.val (.int p1), .val (.int p2), .val (.int ((p1 &&& (2147483647 : Int32)) % (10 : Int32))), .val (.int (0 : Int32)), .val (.ref A), .unset] [(.int ((p1 &&& (2147483647 : Int32)) % (10 : Int32)))])) _
    refine st4 _ ?_
    show Steps p.tables e below (T4.setTop (mkF m 41 #[.val (.int p1), .val (.int p2), .val (.int ((p1 &&& (2147483647 : Int32)) % (10 : Int32))), .val (.int (0 : Int32)), .val (.ref A), .unset] [(.ref U)])) _
    refine XS.astore X4.here hx rfl (hb hby at_41) rfl rfl (l' := #[.val (.int p1), .val (.int p2), .val (.int ((p1 &&& (2147483647 : Int32)) % (10 : Int32))), .val (.int (0 : Int32)), .val (.ref A), .val (.ref U)]) rfl ?_
    show Steps p.tables e below (T4.setTop (mkF m 43 #[.val (.int p1), .val (.int p2), .val (.int ((p1 &&& (2147483647 : Int32)) % (10 : Int32))), .val (.int (0 : Int32)), .val (.ref A), .val (.ref U)] [])) _
    refine XS.aload X4.here hx rfl (hb hby at_43) rfl rfl ?_
    show Steps p.tables e below (T4.setTop (mkF m 45 #[.val (.int p1), .val (.int p2), .val (.int ((p1 &&& (2147483647 : Int32)) % (10 : Int32))), .val (.int (0 : Int32)), .val (.ref A), .val (.ref U)] [(.ref A)])) _
    refine XS.iloadN X4.here hx rfl (hb hby at_45) rfl ?_
    show Steps p.tables e below (T4.setTop (mkF m 46 #[.val (.int p1), .val (.int p2), .val (.int ((p1 &&& (2147483647 : Int32)) % (10 : Int32))), .val (.int (0 : Int32)), .val (.ref A), .val (.ref U)] [(.int (0 : Int32)), (.ref A)])) _
    refine st5.trans ?_
    show Steps p.tables e below (T5.setTop (mkF m 49 #[.val (.int p1), .val (.int p2), .val (.int ((p1 &&& (2147483647 : Int32)) % (10 : Int32))), .val (.int (0 : Int32)), .val (.ref A), .val (.ref U)] [(.ref V)])) _
    refine XS.aload X5.here hx rfl (hb hby at_49) rfl rfl ?_
    show Steps p.tables e below (T5.setTop (mkF m 51 #[.val (.int p1), .val (.int p2), .val (.int ((p1 &&& (2147483647 : Int32)) % (10 : Int32))), .val (.int (0 : Int32)), .val (.ref A), .val (.ref U)] [(.ref U), (.ref V)])) _
    refine Jvm.RoadKit.acmp (g := (mkF m 51 #[.val (.int p1), .val (.int p2), .val (.int ((p1 &&& (2147483647 : Int32)) % (10 : Int32))), .val (.int (0 : Int32)), .val (.ref A), .val (.ref U)] [(.ref U), (.ref V)])) X5 hx rfl rfl rfl (pc0 := 51) (pc' := 54) (same := true) rfl (hb hby at_51) rfl (decide_eq_true (congrArg Value.ref ha51)) (by decide) (by decide) ?_
    show Steps p.tables e below (T5.setTop (mkF m 54 #[.val (.int p1), .val (.int p2), .val (.int ((p1 &&& (2147483647 : Int32)) % (10 : Int32))), .val (.int (0 : Int32)), .val (.ref A), .val (.ref U)] [])) _
    refine XS.iconst X5.here hx rfl (hb hby at_54) ?_
    show Steps p.tables e below (T5.setTop (mkF m 55 #[.val (.int p1), .val (.int p2), .val (.int ((p1 &&& (2147483647 : Int32)) % (10 : Int32))), .val (.int (0 : Int32)), .val (.ref A), .val (.ref U)] [(.int (1 : Int32))])) _
    refine XS.goto X5.here hx rfl (pc0 := 55) (pc' := 59) rfl (hb hby at_55) (by decide) (by decide) ?_
    show Steps p.tables e below (T5.setTop (mkF m 59 #[.val (.int p1), .val (.int p2), .val (.int ((p1 &&& (2147483647 : Int32)) % (10 : Int32))), .val (.int (0 : Int32)), .val (.ref A), .val (.ref U)] [(.int (1 : Int32))])) _
    exact retN X5 hx (t := .boolean) Bd.returns (by simp) (hb hby at_59) hr
  · show Q0 Z h0 n0 _ T5.heap _
    exact ⟨rfl, N5⟩
theorem own_k (x : Int32) : ((x &&& (2147483647 : Int32)) % (10 : Int32)) = (0 : Int32) ∨ ((x &&& (2147483647 : Int32)) % (10 : Int32)) = (1 : Int32) ∨ ((x &&& (2147483647 : Int32)) % (10 : Int32)) = (2 : Int32) ∨ ((x &&& (2147483647 : Int32)) % (10 : Int32)) = (3 : Int32) ∨ ((x &&& (2147483647 : Int32)) % (10 : Int32)) = (4 : Int32) ∨ ((x &&& (2147483647 : Int32)) % (10 : Int32)) = (5 : Int32) ∨ ((x &&& (2147483647 : Int32)) % (10 : Int32)) = (6 : Int32) ∨ ((x &&& (2147483647 : Int32)) % (10 : Int32)) = (7 : Int32) ∨ ((x &&& (2147483647 : Int32)) % (10 : Int32)) = (8 : Int32) ∨ ((x &&& (2147483647 : Int32)) % (10 : Int32)) = (9 : Int32) := by
  have h := own_rem (d := 10) (n := 10) (own_top31 x) (by decide) (by decide)
  have h1 : ((x &&& (2147483647 : Int32)) % (10 : Int32)).toInt = 0 ∨ ((x &&& (2147483647 : Int32)) % (10 : Int32)).toInt = 1 ∨ ((x &&& (2147483647 : Int32)) % (10 : Int32)).toInt = 2 ∨ ((x &&& (2147483647 : Int32)) % (10 : Int32)).toInt = 3 ∨ ((x &&& (2147483647 : Int32)) % (10 : Int32)).toInt = 4 ∨ ((x &&& (2147483647 : Int32)) % (10 : Int32)).toInt = 5 ∨ ((x &&& (2147483647 : Int32)) % (10 : Int32)).toInt = 6 ∨ ((x &&& (2147483647 : Int32)) % (10 : Int32)).toInt = 7 ∨ ((x &&& (2147483647 : Int32)) % (10 : Int32)).toInt = 8 ∨ ((x &&& (2147483647 : Int32)) % (10 : Int32)).toInt = 9 := by omega
  rcases h1 with h1 | h1 | h1 | h1 | h1 | h1 | h1 | h1 | h1 | h1
  · exact (Or.inl (Int32.toInt_inj.mp h1))
  · exact (Or.inr (Or.inl (Int32.toInt_inj.mp h1)))
  · exact (Or.inr (Or.inr (Or.inl (Int32.toInt_inj.mp h1))))
  · exact (Or.inr (Or.inr (Or.inr (Or.inl (Int32.toInt_inj.mp h1)))))
  · exact (Or.inr (Or.inr (Or.inr (Or.inr (Or.inl (Int32.toInt_inj.mp h1))))))
  · exact (Or.inr (Or.inr (Or.inr (Or.inr (Or.inr (Or.inl (Int32.toInt_inj.mp h1)))))))
  · exact (Or.inr (Or.inr (Or.inr (Or.inr (Or.inr (Or.inr (Or.inl (Int32.toInt_inj.mp h1))))))))
  · exact (Or.inr (Or.inr (Or.inr (Or.inr (Or.inr (Or.inr (Or.inr (Or.inl (Int32.toInt_inj.mp h1)))))))))
  · exact (Or.inr (Or.inr (Or.inr (Or.inr (Or.inr (Or.inr (Or.inr (Or.inr (Or.inl (Int32.toInt_inj.mp h1))))))))))
  · exact (Or.inr (Or.inr (Or.inr (Or.inr (Or.inr (Or.inr (Or.inr (Or.inr (Or.inr (Int32.toInt_inj.mp h1))))))))))
set_option maxRecDepth 65536 in
set_option maxHeartbeats 40000000 in
theorem rm0 (l : Launch) (Z : State) (a0 : Array Value) (hw : ∀ d ∈ tables_1, d.before a0 Z = true) (ws : List Jvm.Cond) (p1 : Int32) (p2 : Int32) (w_PAD : Addr) (w_KENMERK : Addr) (w_BRON : Addr) (w_NAAM : Addr) (w_NIVEAU : Addr) (w_WAARDERING : Addr) (w_ARCHIEFVORMER : Addr) (w_BEPERKING : Addr) (w_FORMAAT_CODE : Addr) (w_FORMAAT_NAAM : Addr) (w_NONE : Addr) (w_REQUIRED : Addr) (w_OR_NAME : Addr) (h0 : Heap) (n0 : Nat) (Z0 : n0 ≤ h0.size) (S_PAD : Sta Z h0 "com/example/overbrenger/overbrenger/build/Column" "PAD" "Lcom/example/overbrenger/overbrenger/build/Column;" (.ref w_PAD)) (S_KENMERK : Sta Z h0 "com/example/overbrenger/overbrenger/build/Column" "KENMERK" "Lcom/example/overbrenger/overbrenger/build/Column;" (.ref w_KENMERK)) (S_BRON : Sta Z h0 "com/example/overbrenger/overbrenger/build/Column" "BRON" "Lcom/example/overbrenger/overbrenger/build/Column;" (.ref w_BRON)) (S_NAAM : Sta Z h0 "com/example/overbrenger/overbrenger/build/Column" "NAAM" "Lcom/example/overbrenger/overbrenger/build/Column;" (.ref w_NAAM)) (S_NIVEAU : Sta Z h0 "com/example/overbrenger/overbrenger/build/Column" "NIVEAU" "Lcom/example/overbrenger/overbrenger/build/Column;" (.ref w_NIVEAU)) (S_WAARDERING : Sta Z h0 "com/example/overbrenger/overbrenger/build/Column" "WAARDERING" "Lcom/example/overbrenger/overbrenger/build/Column;" (.ref w_WAARDERING)) (S_ARCHIEFVORMER : Sta Z h0 "com/example/overbrenger/overbrenger/build/Column" "ARCHIEFVORMER" "Lcom/example/overbrenger/overbrenger/build/Column;" (.ref w_ARCHIEFVORMER)) (S_BEPERKING : Sta Z h0 "com/example/overbrenger/overbrenger/build/Column" "BEPERKING" "Lcom/example/overbrenger/overbrenger/build/Column;" (.ref w_BEPERKING)) (S_FORMAAT_CODE : Sta Z h0 "com/example/overbrenger/overbrenger/build/Column" "FORMAAT_CODE" "Lcom/example/overbrenger/overbrenger/build/Column;" (.ref w_FORMAAT_CODE)) (S_FORMAAT_NAAM : Sta Z h0 "com/example/overbrenger/overbrenger/build/Column" "FORMAAT_NAAM" "Lcom/example/overbrenger/overbrenger/build/Column;" (.ref w_FORMAAT_NAAM)) (S_NONE : Sta Z h0 "com/example/overbrenger/overbrenger/build/Column$Use" "NONE" "Lcom/example/overbrenger/overbrenger/build/Column$Use;" (.ref w_NONE)) (S_REQUIRED : Sta Z h0 "com/example/overbrenger/overbrenger/build/Column$Use" "REQUIRED" "Lcom/example/overbrenger/overbrenger/build/Column$Use;" (.ref w_REQUIRED)) (S_OR_NAME : Sta Z h0 "com/example/overbrenger/overbrenger/build/Column$Use" "OR_NAME" "Lcom/example/overbrenger/overbrenger/build/Column$Use;" (.ref w_OR_NAME)) (E_PAD : Exa Z h0 w_PAD "com/example/overbrenger/overbrenger/build/Column") (E_KENMERK : Exa Z h0 w_KENMERK "com/example/overbrenger/overbrenger/build/Column") (E_BRON : Exa Z h0 w_BRON "com/example/overbrenger/overbrenger/build/Column") (E_NAAM : Exa Z h0 w_NAAM "com/example/overbrenger/overbrenger/build/Column") (E_NIVEAU : Exa Z h0 w_NIVEAU "com/example/overbrenger/overbrenger/build/Column") (E_WAARDERING : Exa Z h0 w_WAARDERING "com/example/overbrenger/overbrenger/build/Column") (E_ARCHIEFVORMER : Exa Z h0 w_ARCHIEFVORMER "com/example/overbrenger/overbrenger/build/Column") (E_BEPERKING : Exa Z h0 w_BEPERKING "com/example/overbrenger/overbrenger/build/Column") (E_FORMAAT_CODE : Exa Z h0 w_FORMAAT_CODE "com/example/overbrenger/overbrenger/build/Column") (E_FORMAAT_NAAM : Exa Z h0 w_FORMAAT_NAAM "com/example/overbrenger/overbrenger/build/Column") (F_files_PAD : Fld Z h0 w_PAD "com/example/overbrenger/overbrenger/build/Column" "files" "Lcom/example/overbrenger/overbrenger/build/Column$Use;" (.ref w_NONE)) (F_folders_PAD : Fld Z h0 w_PAD "com/example/overbrenger/overbrenger/build/Column" "folders" "Lcom/example/overbrenger/overbrenger/build/Column$Use;" (.ref w_NONE)) (F_files_KENMERK : Fld Z h0 w_KENMERK "com/example/overbrenger/overbrenger/build/Column" "files" "Lcom/example/overbrenger/overbrenger/build/Column$Use;" (.ref w_REQUIRED)) (F_folders_KENMERK : Fld Z h0 w_KENMERK "com/example/overbrenger/overbrenger/build/Column" "folders" "Lcom/example/overbrenger/overbrenger/build/Column$Use;" (.ref w_REQUIRED)) (F_files_BRON : Fld Z h0 w_BRON "com/example/overbrenger/overbrenger/build/Column" "files" "Lcom/example/overbrenger/overbrenger/build/Column$Use;" (.ref w_REQUIRED)) (F_folders_BRON : Fld Z h0 w_BRON "com/example/overbrenger/overbrenger/build/Column" "folders" "Lcom/example/overbrenger/overbrenger/build/Column$Use;" (.ref w_REQUIRED)) (F_files_NAAM : Fld Z h0 w_NAAM "com/example/overbrenger/overbrenger/build/Column" "files" "Lcom/example/overbrenger/overbrenger/build/Column$Use;" (.ref w_OR_NAME)) (F_folders_NAAM : Fld Z h0 w_NAAM "com/example/overbrenger/overbrenger/build/Column" "folders" "Lcom/example/overbrenger/overbrenger/build/Column$Use;" (.ref w_REQUIRED)) (F_files_NIVEAU : Fld Z h0 w_NIVEAU "com/example/overbrenger/overbrenger/build/Column" "files" "Lcom/example/overbrenger/overbrenger/build/Column$Use;" (.ref w_NONE)) (F_folders_NIVEAU : Fld Z h0 w_NIVEAU "com/example/overbrenger/overbrenger/build/Column" "folders" "Lcom/example/overbrenger/overbrenger/build/Column$Use;" (.ref w_REQUIRED)) (F_files_WAARDERING : Fld Z h0 w_WAARDERING "com/example/overbrenger/overbrenger/build/Column" "files" "Lcom/example/overbrenger/overbrenger/build/Column$Use;" (.ref w_NONE)) (F_folders_WAARDERING : Fld Z h0 w_WAARDERING "com/example/overbrenger/overbrenger/build/Column" "folders" "Lcom/example/overbrenger/overbrenger/build/Column$Use;" (.ref w_REQUIRED)) (F_files_ARCHIEFVORMER : Fld Z h0 w_ARCHIEFVORMER "com/example/overbrenger/overbrenger/build/Column" "files" "Lcom/example/overbrenger/overbrenger/build/Column$Use;" (.ref w_NONE)) (F_folders_ARCHIEFVORMER : Fld Z h0 w_ARCHIEFVORMER "com/example/overbrenger/overbrenger/build/Column" "folders" "Lcom/example/overbrenger/overbrenger/build/Column$Use;" (.ref w_REQUIRED)) (F_files_BEPERKING : Fld Z h0 w_BEPERKING "com/example/overbrenger/overbrenger/build/Column" "files" "Lcom/example/overbrenger/overbrenger/build/Column$Use;" (.ref w_NONE)) (F_folders_BEPERKING : Fld Z h0 w_BEPERKING "com/example/overbrenger/overbrenger/build/Column" "folders" "Lcom/example/overbrenger/overbrenger/build/Column$Use;" (.ref w_REQUIRED)) (F_files_FORMAAT_CODE : Fld Z h0 w_FORMAAT_CODE "com/example/overbrenger/overbrenger/build/Column" "files" "Lcom/example/overbrenger/overbrenger/build/Column$Use;" (.ref w_REQUIRED)) (F_folders_FORMAAT_CODE : Fld Z h0 w_FORMAAT_CODE "com/example/overbrenger/overbrenger/build/Column" "folders" "Lcom/example/overbrenger/overbrenger/build/Column$Use;" (.ref w_NONE)) (F_files_FORMAAT_NAAM : Fld Z h0 w_FORMAAT_NAAM "com/example/overbrenger/overbrenger/build/Column" "files" "Lcom/example/overbrenger/overbrenger/build/Column$Use;" (.ref w_REQUIRED)) (F_folders_FORMAAT_NAAM : Fld Z h0 w_FORMAAT_NAAM "com/example/overbrenger/overbrenger/build/Column" "folders" "Lcom/example/overbrenger/overbrenger/build/Column$Use;" (.ref w_NONE)) :
    MetFree l x (head1 (Jvm.Cond.code x code maxLocals ret :: ws) room_1) (fun a U => a = #[(.int p1), (.int p2)] ∧ Z.Warmed39 U.vm ∧ U.heap = h0) (fun _ _ _ _ _ => True) (fun _ U o U' => ∃ v L, o = .returned v ∧ Q0 Z h0 n0 v U'.heap L ∧ FrameEnd U o U' L room_1.cells room_1.slots) := by
  by_cases hf : (p2 &&& (1 : Int32)) = (0 : Int32)
  · rcases own_k p1 with h1 | h1 | h1 | h1 | h1 | h1 | h1 | h1 | h1 | h1
    · exact rm0_ttf l Z a0 hw ws p1 p2 w_PAD w_KENMERK w_BRON w_NAAM w_NIVEAU w_WAARDERING w_ARCHIEFVORMER w_BEPERKING w_FORMAAT_CODE w_FORMAAT_NAAM w_NONE w_REQUIRED w_OR_NAME w_PAD w_NONE w_NONE w_NONE w_NONE h0 n0 Z0 S_PAD S_KENMERK S_BRON S_NAAM S_NIVEAU S_WAARDERING S_ARCHIEFVORMER S_BEPERKING S_FORMAAT_CODE S_FORMAAT_NAAM S_NONE S_REQUIRED S_OR_NAME E_PAD F_files_PAD F_folders_PAD (by rw [h1]; rfl) (by rw [h1]; rfl) rfl hf rfl
    · exact rm0_ttf l Z a0 hw ws p1 p2 w_PAD w_KENMERK w_BRON w_NAAM w_NIVEAU w_WAARDERING w_ARCHIEFVORMER w_BEPERKING w_FORMAAT_CODE w_FORMAAT_NAAM w_NONE w_REQUIRED w_OR_NAME w_KENMERK w_REQUIRED w_REQUIRED w_REQUIRED w_REQUIRED h0 n0 Z0 S_PAD S_KENMERK S_BRON S_NAAM S_NIVEAU S_WAARDERING S_ARCHIEFVORMER S_BEPERKING S_FORMAAT_CODE S_FORMAAT_NAAM S_NONE S_REQUIRED S_OR_NAME E_KENMERK F_files_KENMERK F_folders_KENMERK (by rw [h1]; rfl) (by rw [h1]; rfl) rfl hf rfl
    · exact rm0_ttf l Z a0 hw ws p1 p2 w_PAD w_KENMERK w_BRON w_NAAM w_NIVEAU w_WAARDERING w_ARCHIEFVORMER w_BEPERKING w_FORMAAT_CODE w_FORMAAT_NAAM w_NONE w_REQUIRED w_OR_NAME w_BRON w_REQUIRED w_REQUIRED w_REQUIRED w_REQUIRED h0 n0 Z0 S_PAD S_KENMERK S_BRON S_NAAM S_NIVEAU S_WAARDERING S_ARCHIEFVORMER S_BEPERKING S_FORMAAT_CODE S_FORMAAT_NAAM S_NONE S_REQUIRED S_OR_NAME E_BRON F_files_BRON F_folders_BRON (by rw [h1]; rfl) (by rw [h1]; rfl) rfl hf rfl
    · exact rm0_ttf l Z a0 hw ws p1 p2 w_PAD w_KENMERK w_BRON w_NAAM w_NIVEAU w_WAARDERING w_ARCHIEFVORMER w_BEPERKING w_FORMAAT_CODE w_FORMAAT_NAAM w_NONE w_REQUIRED w_OR_NAME w_NAAM w_OR_NAME w_OR_NAME w_OR_NAME w_REQUIRED h0 n0 Z0 S_PAD S_KENMERK S_BRON S_NAAM S_NIVEAU S_WAARDERING S_ARCHIEFVORMER S_BEPERKING S_FORMAAT_CODE S_FORMAAT_NAAM S_NONE S_REQUIRED S_OR_NAME E_NAAM F_files_NAAM F_folders_NAAM (by rw [h1]; rfl) (by rw [h1]; rfl) rfl hf rfl
    · exact rm0_ttf l Z a0 hw ws p1 p2 w_PAD w_KENMERK w_BRON w_NAAM w_NIVEAU w_WAARDERING w_ARCHIEFVORMER w_BEPERKING w_FORMAAT_CODE w_FORMAAT_NAAM w_NONE w_REQUIRED w_OR_NAME w_NIVEAU w_NONE w_NONE w_NONE w_REQUIRED h0 n0 Z0 S_PAD S_KENMERK S_BRON S_NAAM S_NIVEAU S_WAARDERING S_ARCHIEFVORMER S_BEPERKING S_FORMAAT_CODE S_FORMAAT_NAAM S_NONE S_REQUIRED S_OR_NAME E_NIVEAU F_files_NIVEAU F_folders_NIVEAU (by rw [h1]; rfl) (by rw [h1]; rfl) rfl hf rfl
    · exact rm0_ttf l Z a0 hw ws p1 p2 w_PAD w_KENMERK w_BRON w_NAAM w_NIVEAU w_WAARDERING w_ARCHIEFVORMER w_BEPERKING w_FORMAAT_CODE w_FORMAAT_NAAM w_NONE w_REQUIRED w_OR_NAME w_WAARDERING w_NONE w_NONE w_NONE w_REQUIRED h0 n0 Z0 S_PAD S_KENMERK S_BRON S_NAAM S_NIVEAU S_WAARDERING S_ARCHIEFVORMER S_BEPERKING S_FORMAAT_CODE S_FORMAAT_NAAM S_NONE S_REQUIRED S_OR_NAME E_WAARDERING F_files_WAARDERING F_folders_WAARDERING (by rw [h1]; rfl) (by rw [h1]; rfl) rfl hf rfl
    · exact rm0_ttf l Z a0 hw ws p1 p2 w_PAD w_KENMERK w_BRON w_NAAM w_NIVEAU w_WAARDERING w_ARCHIEFVORMER w_BEPERKING w_FORMAAT_CODE w_FORMAAT_NAAM w_NONE w_REQUIRED w_OR_NAME w_ARCHIEFVORMER w_NONE w_NONE w_NONE w_REQUIRED h0 n0 Z0 S_PAD S_KENMERK S_BRON S_NAAM S_NIVEAU S_WAARDERING S_ARCHIEFVORMER S_BEPERKING S_FORMAAT_CODE S_FORMAAT_NAAM S_NONE S_REQUIRED S_OR_NAME E_ARCHIEFVORMER F_files_ARCHIEFVORMER F_folders_ARCHIEFVORMER (by rw [h1]; rfl) (by rw [h1]; rfl) rfl hf rfl
    · exact rm0_ttf l Z a0 hw ws p1 p2 w_PAD w_KENMERK w_BRON w_NAAM w_NIVEAU w_WAARDERING w_ARCHIEFVORMER w_BEPERKING w_FORMAAT_CODE w_FORMAAT_NAAM w_NONE w_REQUIRED w_OR_NAME w_BEPERKING w_NONE w_NONE w_NONE w_REQUIRED h0 n0 Z0 S_PAD S_KENMERK S_BRON S_NAAM S_NIVEAU S_WAARDERING S_ARCHIEFVORMER S_BEPERKING S_FORMAAT_CODE S_FORMAAT_NAAM S_NONE S_REQUIRED S_OR_NAME E_BEPERKING F_files_BEPERKING F_folders_BEPERKING (by rw [h1]; rfl) (by rw [h1]; rfl) rfl hf rfl
    · exact rm0_ttf l Z a0 hw ws p1 p2 w_PAD w_KENMERK w_BRON w_NAAM w_NIVEAU w_WAARDERING w_ARCHIEFVORMER w_BEPERKING w_FORMAAT_CODE w_FORMAAT_NAAM w_NONE w_REQUIRED w_OR_NAME w_FORMAAT_CODE w_REQUIRED w_REQUIRED w_REQUIRED w_NONE h0 n0 Z0 S_PAD S_KENMERK S_BRON S_NAAM S_NIVEAU S_WAARDERING S_ARCHIEFVORMER S_BEPERKING S_FORMAAT_CODE S_FORMAAT_NAAM S_NONE S_REQUIRED S_OR_NAME E_FORMAAT_CODE F_files_FORMAAT_CODE F_folders_FORMAAT_CODE (by rw [h1]; rfl) (by rw [h1]; rfl) rfl hf rfl
    · exact rm0_ttf l Z a0 hw ws p1 p2 w_PAD w_KENMERK w_BRON w_NAAM w_NIVEAU w_WAARDERING w_ARCHIEFVORMER w_BEPERKING w_FORMAAT_CODE w_FORMAAT_NAAM w_NONE w_REQUIRED w_OR_NAME w_FORMAAT_NAAM w_REQUIRED w_REQUIRED w_REQUIRED w_NONE h0 n0 Z0 S_PAD S_KENMERK S_BRON S_NAAM S_NIVEAU S_WAARDERING S_ARCHIEFVORMER S_BEPERKING S_FORMAAT_CODE S_FORMAAT_NAAM S_NONE S_REQUIRED S_OR_NAME E_FORMAAT_NAAM F_files_FORMAAT_NAAM F_folders_FORMAAT_NAAM (by rw [h1]; rfl) (by rw [h1]; rfl) rfl hf rfl
  · rcases own_k p1 with h1 | h1 | h1 | h1 | h1 | h1 | h1 | h1 | h1 | h1
    · exact rm0_fff l Z a0 hw ws p1 p2 w_PAD w_KENMERK w_BRON w_NAAM w_NIVEAU w_WAARDERING w_ARCHIEFVORMER w_BEPERKING w_FORMAAT_CODE w_FORMAAT_NAAM w_NONE w_REQUIRED w_OR_NAME w_PAD w_NONE w_NONE w_NONE w_NONE h0 n0 Z0 S_PAD S_KENMERK S_BRON S_NAAM S_NIVEAU S_WAARDERING S_ARCHIEFVORMER S_BEPERKING S_FORMAAT_CODE S_FORMAAT_NAAM S_NONE S_REQUIRED S_OR_NAME E_PAD F_files_PAD F_folders_PAD (by rw [h1]; rfl) (by rw [h1]; rfl) rfl hf (by decide) rfl
    · exact rm0_fff l Z a0 hw ws p1 p2 w_PAD w_KENMERK w_BRON w_NAAM w_NIVEAU w_WAARDERING w_ARCHIEFVORMER w_BEPERKING w_FORMAAT_CODE w_FORMAAT_NAAM w_NONE w_REQUIRED w_OR_NAME w_KENMERK w_REQUIRED w_REQUIRED w_REQUIRED w_REQUIRED h0 n0 Z0 S_PAD S_KENMERK S_BRON S_NAAM S_NIVEAU S_WAARDERING S_ARCHIEFVORMER S_BEPERKING S_FORMAAT_CODE S_FORMAAT_NAAM S_NONE S_REQUIRED S_OR_NAME E_KENMERK F_files_KENMERK F_folders_KENMERK (by rw [h1]; rfl) (by rw [h1]; rfl) rfl hf (by decide) rfl
    · exact rm0_fff l Z a0 hw ws p1 p2 w_PAD w_KENMERK w_BRON w_NAAM w_NIVEAU w_WAARDERING w_ARCHIEFVORMER w_BEPERKING w_FORMAAT_CODE w_FORMAAT_NAAM w_NONE w_REQUIRED w_OR_NAME w_BRON w_REQUIRED w_REQUIRED w_REQUIRED w_REQUIRED h0 n0 Z0 S_PAD S_KENMERK S_BRON S_NAAM S_NIVEAU S_WAARDERING S_ARCHIEFVORMER S_BEPERKING S_FORMAAT_CODE S_FORMAAT_NAAM S_NONE S_REQUIRED S_OR_NAME E_BRON F_files_BRON F_folders_BRON (by rw [h1]; rfl) (by rw [h1]; rfl) rfl hf (by decide) rfl
    · exact rm0_fff l Z a0 hw ws p1 p2 w_PAD w_KENMERK w_BRON w_NAAM w_NIVEAU w_WAARDERING w_ARCHIEFVORMER w_BEPERKING w_FORMAAT_CODE w_FORMAAT_NAAM w_NONE w_REQUIRED w_OR_NAME w_NAAM w_REQUIRED w_REQUIRED w_OR_NAME w_REQUIRED h0 n0 Z0 S_PAD S_KENMERK S_BRON S_NAAM S_NIVEAU S_WAARDERING S_ARCHIEFVORMER S_BEPERKING S_FORMAAT_CODE S_FORMAAT_NAAM S_NONE S_REQUIRED S_OR_NAME E_NAAM F_files_NAAM F_folders_NAAM (by rw [h1]; rfl) (by rw [h1]; rfl) rfl hf (by decide) rfl
    · exact rm0_fff l Z a0 hw ws p1 p2 w_PAD w_KENMERK w_BRON w_NAAM w_NIVEAU w_WAARDERING w_ARCHIEFVORMER w_BEPERKING w_FORMAAT_CODE w_FORMAAT_NAAM w_NONE w_REQUIRED w_OR_NAME w_NIVEAU w_REQUIRED w_REQUIRED w_NONE w_REQUIRED h0 n0 Z0 S_PAD S_KENMERK S_BRON S_NAAM S_NIVEAU S_WAARDERING S_ARCHIEFVORMER S_BEPERKING S_FORMAAT_CODE S_FORMAAT_NAAM S_NONE S_REQUIRED S_OR_NAME E_NIVEAU F_files_NIVEAU F_folders_NIVEAU (by rw [h1]; rfl) (by rw [h1]; rfl) rfl hf (by decide) rfl
    · exact rm0_fff l Z a0 hw ws p1 p2 w_PAD w_KENMERK w_BRON w_NAAM w_NIVEAU w_WAARDERING w_ARCHIEFVORMER w_BEPERKING w_FORMAAT_CODE w_FORMAAT_NAAM w_NONE w_REQUIRED w_OR_NAME w_WAARDERING w_REQUIRED w_REQUIRED w_NONE w_REQUIRED h0 n0 Z0 S_PAD S_KENMERK S_BRON S_NAAM S_NIVEAU S_WAARDERING S_ARCHIEFVORMER S_BEPERKING S_FORMAAT_CODE S_FORMAAT_NAAM S_NONE S_REQUIRED S_OR_NAME E_WAARDERING F_files_WAARDERING F_folders_WAARDERING (by rw [h1]; rfl) (by rw [h1]; rfl) rfl hf (by decide) rfl
    · exact rm0_fff l Z a0 hw ws p1 p2 w_PAD w_KENMERK w_BRON w_NAAM w_NIVEAU w_WAARDERING w_ARCHIEFVORMER w_BEPERKING w_FORMAAT_CODE w_FORMAAT_NAAM w_NONE w_REQUIRED w_OR_NAME w_ARCHIEFVORMER w_REQUIRED w_REQUIRED w_NONE w_REQUIRED h0 n0 Z0 S_PAD S_KENMERK S_BRON S_NAAM S_NIVEAU S_WAARDERING S_ARCHIEFVORMER S_BEPERKING S_FORMAAT_CODE S_FORMAAT_NAAM S_NONE S_REQUIRED S_OR_NAME E_ARCHIEFVORMER F_files_ARCHIEFVORMER F_folders_ARCHIEFVORMER (by rw [h1]; rfl) (by rw [h1]; rfl) rfl hf (by decide) rfl
    · exact rm0_fff l Z a0 hw ws p1 p2 w_PAD w_KENMERK w_BRON w_NAAM w_NIVEAU w_WAARDERING w_ARCHIEFVORMER w_BEPERKING w_FORMAAT_CODE w_FORMAAT_NAAM w_NONE w_REQUIRED w_OR_NAME w_BEPERKING w_REQUIRED w_REQUIRED w_NONE w_REQUIRED h0 n0 Z0 S_PAD S_KENMERK S_BRON S_NAAM S_NIVEAU S_WAARDERING S_ARCHIEFVORMER S_BEPERKING S_FORMAAT_CODE S_FORMAAT_NAAM S_NONE S_REQUIRED S_OR_NAME E_BEPERKING F_files_BEPERKING F_folders_BEPERKING (by rw [h1]; rfl) (by rw [h1]; rfl) rfl hf (by decide) rfl
    · exact rm0_fff l Z a0 hw ws p1 p2 w_PAD w_KENMERK w_BRON w_NAAM w_NIVEAU w_WAARDERING w_ARCHIEFVORMER w_BEPERKING w_FORMAAT_CODE w_FORMAAT_NAAM w_NONE w_REQUIRED w_OR_NAME w_FORMAAT_CODE w_NONE w_NONE w_REQUIRED w_NONE h0 n0 Z0 S_PAD S_KENMERK S_BRON S_NAAM S_NIVEAU S_WAARDERING S_ARCHIEFVORMER S_BEPERKING S_FORMAAT_CODE S_FORMAAT_NAAM S_NONE S_REQUIRED S_OR_NAME E_FORMAAT_CODE F_files_FORMAAT_CODE F_folders_FORMAAT_CODE (by rw [h1]; rfl) (by rw [h1]; rfl) rfl hf (by decide) rfl
    · exact rm0_fff l Z a0 hw ws p1 p2 w_PAD w_KENMERK w_BRON w_NAAM w_NIVEAU w_WAARDERING w_ARCHIEFVORMER w_BEPERKING w_FORMAAT_CODE w_FORMAAT_NAAM w_NONE w_REQUIRED w_OR_NAME w_FORMAAT_NAAM w_NONE w_NONE w_REQUIRED w_NONE h0 n0 Z0 S_PAD S_KENMERK S_BRON S_NAAM S_NIVEAU S_WAARDERING S_ARCHIEFVORMER S_BEPERKING S_FORMAAT_CODE S_FORMAAT_NAAM S_NONE S_REQUIRED S_OR_NAME E_FORMAAT_NAAM F_files_FORMAAT_NAAM F_folders_FORMAAT_NAAM (by rw [h1]; rfl) (by rw [h1]; rfl) rfl hf (by decide) rfl
set_option maxRecDepth 65536 in
set_option maxHeartbeats 40000000 in
theorem comes_1 {Post : Tables → Env → Array Value → State → Outcome → State → Prop} (hpost : ∀ tb e args s v u, (limb_1_1.after args s (.returned v) u = true ∧ limb_1_2.after args s (.returned v) u = true ∧ True) → FrameEnd s (.returned v) u (Jvm.fieldLocs frame_1_writes args s ++ Jvm.arrayLocs frame_1_arrays args s ++ Jvm.staticLocs frame_1_statics s) 0 0 → Post tb e args s (.returned v) u) :
    ArmFor flags0 classFile x code maxLocals ret World_1 tables_1 room_1 Calls_1 rest_1 Pre_1 Post := by
  intro l hfl _ _ p e ha hc hk s m args below hf hA hF happ hP
  obtain ⟨hcalls, hrest, hpre⟩ := hP
  obtain ⟨-, -, -, hnamed, -, -, -, hat⟩ := (Spec.applies_iff hf).mp happ
  obtain ⟨hg, hn⟩ := and_e (Cond.before_iff.mp (show (Jvm.Cond.and given_1 narrow_1).before args s = true from hpre))
  obtain ⟨g6, g7⟩ := and_e hg
  obtain ⟨g8, g9⟩ := and_e g7
  obtain ⟨w0, w1, rfl⟩ : ∃ w0 w1 : Value, args = #[w0, w1] := by
    have hs : args.size = 2 := by simpa [Cond.value, given_1] using g6
    obtain ⟨L⟩ := args
    match L, hs with
    | [w0, w1], _ => exact ⟨w0, w1, rfl⟩
  have hw := fun d (hd : d ∈ tables_1) => atoms_spec (ws := Jvm.Cond.code x code maxLocals ret :: tables_1) hat d (List.mem_cons_of_mem _ hd)
  have hfit : Fit s := fun {y c} hc i hi => by
    obtain ⟨ha, rfl⟩ := Array.getElem?_eq_some_iff.mp hc
    have q := List.all_eq_true.mp ((Array.all_eq_true_iff_forall_mem.mp hF) _ (Array.getElem_mem ha)) i (List.mem_range.mpr hi)
    simpa [Array.getElem?_eq_getElem hi] using q
  obtain ⟨i0, ei0⟩ := is_v g8
  obtain rfl : w0 = (.int i0) := Option.some.inj ei0
  obtain ⟨i1, ei1⟩ := is_v g9
  obtain rfl : w1 = (.int i1) := Option.some.inj ei1
  obtain ⟨hn0, hn⟩ := and_e hn
  obtain ⟨hn1, hn⟩ := and_e hn
  obtain ⟨hn2, hn⟩ := and_e hn
  obtain ⟨hn3, hn⟩ := and_e hn
  obtain ⟨hn4, hn⟩ := and_e hn
  obtain ⟨hn5, hn⟩ := and_e hn
  obtain ⟨hn6, hn⟩ := and_e hn
  obtain ⟨hn7, hn⟩ := and_e hn
  obtain ⟨hn8, hn⟩ := and_e hn
  obtain ⟨hn9, hn⟩ := and_e hn
  obtain ⟨hn10, hn⟩ := and_e hn
  obtain ⟨hn11, hn⟩ := and_e hn
  obtain ⟨hn12, hn⟩ := and_e hn
  obtain ⟨hn13, hn⟩ := and_e hn
  obtain ⟨hn14, hn⟩ := and_e hn
  obtain ⟨hn15, hn⟩ := and_e hn
  obtain ⟨hn16, hn⟩ := and_e hn
  obtain ⟨hn17, hn⟩ := and_e hn
  obtain ⟨hn18, hn⟩ := and_e hn
  obtain ⟨hn19, hn⟩ := and_e hn
  obtain ⟨hn20, hn⟩ := and_e hn
  obtain ⟨hn21, hn⟩ := and_e hn
  obtain ⟨hn22, hn⟩ := and_e hn
  obtain ⟨hn23, hn⟩ := and_e hn
  obtain ⟨hn24, hn⟩ := and_e hn
  obtain ⟨hn25, hn⟩ := and_e hn
  obtain ⟨hn26, hn⟩ := and_e hn
  obtain ⟨hn27, hn⟩ := and_e hn
  obtain ⟨hn28, hn⟩ := and_e hn
  obtain ⟨hn29, hn⟩ := and_e hn
  obtain ⟨hn30, hn⟩ := and_e hn
  obtain ⟨hn31, hn⟩ := and_e hn
  have hn32 := hn
  obtain ⟨w_PAD, ev_PAD⟩ := exa_v hn0
  have E_PAD := Exa.start ev_PAD hn0
  have S_PAD := Sta.start ev_PAD (Or.inr ⟨hw _ (List.mem_of_getElem? (i := 6) rfl), hw _ (List.mem_of_getElem? (i := 7) rfl)⟩)
  obtain ⟨w_NONE, ev_NONE⟩ := exa_v hn1
  have E_NONE := Exa.start ev_NONE hn1
  have S_NONE := Sta.start ev_NONE (Or.inr ⟨hw _ (List.mem_of_getElem? (i := 12) rfl), hw _ (List.mem_of_getElem? (i := 13) rfl)⟩)
  obtain ⟨w_NIVEAU, ev_NIVEAU⟩ := exa_v hn3
  have E_NIVEAU := Exa.start ev_NIVEAU hn3
  have S_NIVEAU := Sta.start ev_NIVEAU (Or.inr ⟨hw _ (List.mem_of_getElem? (i := 6) rfl), hw _ (List.mem_of_getElem? (i := 22) rfl)⟩)
  obtain ⟨w_REQUIRED, ev_REQUIRED⟩ := exa_v hn4
  have E_REQUIRED := Exa.start ev_REQUIRED hn4
  have S_REQUIRED := Sta.start ev_REQUIRED (Or.inr ⟨hw _ (List.mem_of_getElem? (i := 12) rfl), hw _ (List.mem_of_getElem? (i := 24) rfl)⟩)
  obtain ⟨w_FORMAAT_CODE, ev_FORMAAT_CODE⟩ := exa_v hn6
  have E_FORMAAT_CODE := Exa.start ev_FORMAAT_CODE hn6
  have S_FORMAAT_CODE := Sta.start ev_FORMAAT_CODE (Or.inr ⟨hw _ (List.mem_of_getElem? (i := 6) rfl), hw _ (List.mem_of_getElem? (i := 26) rfl)⟩)
  obtain ⟨w_ARCHIEFVORMER, ev_ARCHIEFVORMER⟩ := exa_v hn8
  have E_ARCHIEFVORMER := Exa.start ev_ARCHIEFVORMER hn8
  have S_ARCHIEFVORMER := Sta.start ev_ARCHIEFVORMER (Or.inr ⟨hw _ (List.mem_of_getElem? (i := 6) rfl), hw _ (List.mem_of_getElem? (i := 28) rfl)⟩)
  obtain ⟨w_FORMAAT_NAAM, ev_FORMAAT_NAAM⟩ := exa_v hn10
  have E_FORMAAT_NAAM := Exa.start ev_FORMAAT_NAAM hn10
  have S_FORMAAT_NAAM := Sta.start ev_FORMAAT_NAAM (Or.inr ⟨hw _ (List.mem_of_getElem? (i := 6) rfl), hw _ (List.mem_of_getElem? (i := 35) rfl)⟩)
  obtain ⟨w_BRON, ev_BRON⟩ := exa_v hn12
  have E_BRON := Exa.start ev_BRON hn12
  have S_BRON := Sta.start ev_BRON (Or.inr ⟨hw _ (List.mem_of_getElem? (i := 6) rfl), hw _ (List.mem_of_getElem? (i := 37) rfl)⟩)
  obtain ⟨w_NAAM, ev_NAAM⟩ := exa_v hn15
  have E_NAAM := Exa.start ev_NAAM hn15
  have S_NAAM := Sta.start ev_NAAM (Or.inr ⟨hw _ (List.mem_of_getElem? (i := 6) rfl), hw _ (List.mem_of_getElem? (i := 39) rfl)⟩)
  obtain ⟨w_KENMERK, ev_KENMERK⟩ := exa_v hn17
  have E_KENMERK := Exa.start ev_KENMERK hn17
  have S_KENMERK := Sta.start ev_KENMERK (Or.inr ⟨hw _ (List.mem_of_getElem? (i := 6) rfl), hw _ (List.mem_of_getElem? (i := 41) rfl)⟩)
  obtain ⟨w_WAARDERING, ev_WAARDERING⟩ := exa_v hn20
  have E_WAARDERING := Exa.start ev_WAARDERING hn20
  have S_WAARDERING := Sta.start ev_WAARDERING (Or.inr ⟨hw _ (List.mem_of_getElem? (i := 6) rfl), hw _ (List.mem_of_getElem? (i := 43) rfl)⟩)
  obtain ⟨w_BEPERKING, ev_BEPERKING⟩ := exa_v hn22
  have E_BEPERKING := Exa.start ev_BEPERKING hn22
  have S_BEPERKING := Sta.start ev_BEPERKING (Or.inr ⟨hw _ (List.mem_of_getElem? (i := 6) rfl), hw _ (List.mem_of_getElem? (i := 45) rfl)⟩)
  obtain ⟨w_OR_NAME, ev_OR_NAME⟩ := exa_v hn30
  have E_OR_NAME := Exa.start ev_OR_NAME hn30
  have S_OR_NAME := Sta.start ev_OR_NAME (Or.inr ⟨hw _ (List.mem_of_getElem? (i := 12) rfl), hw _ (List.mem_of_getElem? (i := 47) rfl)⟩)
  have O_PAD_folders := own_fr ev_PAD ev_NONE hn2
  have O_NIVEAU_folders := own_fr ev_NIVEAU ev_REQUIRED hn5
  have O_FORMAAT_CODE_folders := own_fr ev_FORMAAT_CODE ev_NONE hn7
  have O_ARCHIEFVORMER_files := own_fr ev_ARCHIEFVORMER ev_NONE hn9
  have O_FORMAAT_NAAM_folders := own_fr ev_FORMAAT_NAAM ev_NONE hn11
  have O_BRON_folders := own_fr ev_BRON ev_REQUIRED hn13
  have O_FORMAAT_NAAM_files := own_fr ev_FORMAAT_NAAM ev_REQUIRED hn14
  have O_NAAM_folders := own_fr ev_NAAM ev_REQUIRED hn16
  have O_KENMERK_folders := own_fr ev_KENMERK ev_REQUIRED hn18
  have O_BRON_files := own_fr ev_BRON ev_REQUIRED hn19
  have O_WAARDERING_files := own_fr ev_WAARDERING ev_NONE hn21
  have O_BEPERKING_folders := own_fr ev_BEPERKING ev_REQUIRED hn23
  have O_KENMERK_files := own_fr ev_KENMERK ev_REQUIRED hn24
  have O_WAARDERING_folders := own_fr ev_WAARDERING ev_REQUIRED hn25
  have O_PAD_files := own_fr ev_PAD ev_NONE hn26
  have O_NIVEAU_files := own_fr ev_NIVEAU ev_NONE hn27
  have O_ARCHIEFVORMER_folders := own_fr ev_ARCHIEFVORMER ev_REQUIRED hn28
  have O_BEPERKING_files := own_fr ev_BEPERKING ev_NONE hn29
  have O_NAAM_files := own_fr ev_NAAM ev_OR_NAME hn31
  have O_FORMAAT_CODE_files := own_fr ev_FORMAAT_CODE ev_REQUIRED hn32
  have F_folders_PAD := Fld.start O_PAD_folders
  have F_folders_NIVEAU := Fld.start O_NIVEAU_folders
  have F_folders_FORMAAT_CODE := Fld.start O_FORMAAT_CODE_folders
  have F_files_ARCHIEFVORMER := Fld.start O_ARCHIEFVORMER_files
  have F_folders_FORMAAT_NAAM := Fld.start O_FORMAAT_NAAM_folders
  have F_folders_BRON := Fld.start O_BRON_folders
  have F_files_FORMAAT_NAAM := Fld.start O_FORMAAT_NAAM_files
  have F_folders_NAAM := Fld.start O_NAAM_folders
  have F_folders_KENMERK := Fld.start O_KENMERK_folders
  have F_files_BRON := Fld.start O_BRON_files
  have F_files_WAARDERING := Fld.start O_WAARDERING_files
  have F_folders_BEPERKING := Fld.start O_BEPERKING_folders
  have F_files_KENMERK := Fld.start O_KENMERK_files
  have F_folders_WAARDERING := Fld.start O_WAARDERING_folders
  have F_files_PAD := Fld.start O_PAD_files
  have F_files_NIVEAU := Fld.start O_NIVEAU_files
  have F_folders_ARCHIEFVORMER := Fld.start O_ARCHIEFVORMER_folders
  have F_files_BEPERKING := Fld.start O_BEPERKING_files
  have F_files_NAAM := Fld.start O_NAAM_files
  have F_files_FORMAAT_CODE := Fld.start O_FORMAAT_CODE_files
  obtain ⟨n, o, h1, h2, h3, _, L, rfl, ⟨rfl, N⟩, hq⟩ := rm0 l s _ hw tables_1 i0 i1 w_PAD w_KENMERK w_BRON w_NAAM w_NIVEAU w_WAARDERING w_ARCHIEFVORMER w_BEPERKING w_FORMAAT_CODE w_FORMAAT_NAAM w_NONE w_REQUIRED w_OR_NAME s.heap s.heap.size (Nat.le_refl _) S_PAD S_KENMERK S_BRON S_NAAM S_NIVEAU S_WAARDERING S_ARCHIEFVORMER S_BEPERKING S_FORMAAT_CODE S_FORMAAT_NAAM S_NONE S_REQUIRED S_OR_NAME E_PAD E_KENMERK E_BRON E_NAAM E_NIVEAU E_WAARDERING E_ARCHIEFVORMER E_BEPERKING E_FORMAAT_CODE E_FORMAAT_NAAM F_files_PAD F_folders_PAD F_files_KENMERK F_folders_KENMERK F_files_BRON F_folders_BRON F_files_NAAM F_folders_NAAM F_files_NIVEAU F_folders_NIVEAU F_files_WAARDERING F_folders_WAARDERING F_files_ARCHIEFVORMER F_folders_ARCHIEFVORMER F_files_BEPERKING F_folders_BEPERKING F_files_FORMAAT_CODE F_folders_FORMAAT_CODE F_files_FORMAAT_NAAM F_folders_FORMAAT_NAAM p e ha hc hk s m _ below hf ((Spec.applies_iff_loose hf).mp happ).1 ⟨rfl, State.Warmed39.refl s, rfl⟩ trivial
  refine ⟨n, _, h1, h2, h3, hpost _ _ _ _ _ _ ⟨Cond.after_iff.mpr rfl, Cond.after_iff.mpr (eq_i res_at (Term.int_eval (1)) rfl), trivial⟩ ⟨hq.1, hq.2.1, (hq.2.2.sift fun y hy => Or.inr (N y hy)).mono (by decide) (by decide)⟩⟩
theorem main_1_1 : Claimed_1_1 := comes_1 fun _ _ _ _ _ _ h hF => ⟨h.1, hF⟩
theorem main_1_2 : Claimed_1_2 := comes_1 fun _ _ _ _ _ _ h hF => ⟨h.2.1, hF⟩

end Jvm.Pilot.@@N@@
namespace Jvm.Pilot.@@N@@
open Jvm Jvm.ClassFile Sem Op Lib Jvm.Free Jvm.Stand Jvm.Pilot.@@N@@.Jvm.D
/-! MADE BY PROGRAM (witnessworld.py) out of the Statement's table words and the real class files: 11 classes; the members and pool entries that the words name. The judged class is class 1, her method 4. -/
namespace start1
open Jvm.ClassFile
def u (s : String) : CpInfo := .utf8 (stringToUtf16 s)
/-- a pool by its gaps: so many unusable entries, then the entry; so many at the end -/
def gap : Nat → List CpInfo → List CpInfo
  | 0, r => r
  | n + 1, r => .unusable :: gap n r
def poolList (es : List (Nat × CpInfo)) (last : Nat) : List CpInfo := es.foldr (fun e r => gap e.1 (e.2 :: r)) (gap last [])
def pool (es : List (Nat × CpInfo)) (last : Nat) : Array CpInfo := ⟨poolList es last⟩
def fileOf (pool : Array CpInfo) (this : Nat) (attrs : Array Attribute := #[]) (ms : Array MethodInfo := #[]) (fl : Nat := 33) (sup : Nat := 0) (ifs : Array Nat := #[]) (fds : Array FieldInfo := #[]) : ClassFile where
  minorVersion := 0
  majorVersion := 65
  constantPool := pool
  accessFlags := fl
  thisClass := this
  superClass := sup
  interfaces := ifs
  fields := fds
  methods := ms
  attributes := attrs
def plain (name : String) (sup : Option ClassId) : Class where
  name := name
  kind := .ordinary
  loader := none
  accessFlags := 33
  super := sup
  interfaces := #[]
  cf := none
  fields := #[]
  methods := #[]
  instanceTypes := #[]
  staticTypes := #[]
  resolved := #[]
  callSites := []
  init := .initialized
  statics := none
  mirror := none

def pool0 : Array CpInfo := pool [(5, u "<init>"), (0, u "()V"), (1, .class_ 10), (1, u "java/lang/Object")] 113

def k0m0 : Method := { name := "<init>", desc := "()V", sig := { parameters := [], returnType := none }, accessFlags := 1, code := none }
/-- java/lang/Object -/
def k0 : Class := { plain "java/lang/Object" none with
  accessFlags := 33
  interfaces := #[]
  cf := some (fileOf pool0 8 #[] #[{ accessFlags := 1, nameIndex := 5, descriptorIndex := 6, attributes := #[] }] 33 0 #[] #[])
  fields := #[]
  methods := #[k0m0]
  instanceTypes := #[]
  staticTypes := #[]
  resolved := Array.replicate 124 none
  statics := none }

def pool1 : Array CpInfo := pool [(2, .class_ 4), (1, u "java/lang/Object"), (0, u "<init>"), (0, u "()V"), (0, .fieldref 8 9), (0, .class_ 10), (0, .nameAndType 11 12), (0, u "com/example/overbrenger/overbrenger/build/Column"), (0, u "PAD"), (0, u "Lcom/example/overbrenger/overbrenger/build/Column;"), (0, .fieldref 8 14), (0, .nameAndType 15 12), (0, u "KENMERK"), (0, .fieldref 8 17), (0, .nameAndType 18 12), (0, u "BRON"), (0, .fieldref 8 20), (0, .nameAndType 21 12), (0, u "NAAM"), (0, .fieldref 8 23), (0, .nameAndType 24 12), (0, u "NIVEAU"), (0, .fieldref 8 26), (0, .nameAndType 27 12), (0, u "WAARDERING"), (0, .fieldref 8 29), (0, .nameAndType 30 12), (0, u "ARCHIEFVORMER"), (0, .fieldref 8 32), (0, .nameAndType 33 12), (0, u "BEPERKING"), (0, .fieldref 8 35), (0, .nameAndType 36 12), (0, u "FORMAAT_CODE"), (0, .fieldref 8 38), (0, .nameAndType 39 12), (0, u "FORMAAT_NAAM"), (0, .fieldref 41 42), (0, .class_ 43), (0, .nameAndType 44 45), (0, u "com/example/overbrenger/overbrenger/build/Column$Use"), (0, u "NONE"), (0, u "Lcom/example/overbrenger/overbrenger/build/Column$Use;"), (0, .fieldref 41 47), (0, .nameAndType 48 45), (0, u "REQUIRED"), (0, .fieldref 41 50), (0, .nameAndType 51 45), (0, u "OR_NAME"), (0, .integer 2147483647), (0, .methodref 54 55), (0, .class_ 56), (0, .nameAndType 57 58), (0, u "com/example/overbrenger/overbrenger/build/ColumnUsePinLaw"), (0, u "pick"), (0, u "(I)Lcom/example/overbrenger/overbrenger/build/Column;"), (0, .methodref 54 60), (0, .nameAndType 61 62), (0, u "folderUse"), (0, u "(I)Lcom/example/overbrenger/overbrenger/build/Column$Use;"), (0, .methodref 54 64), (0, .nameAndType 65 62), (0, u "fileUse"), (0, .methodref 8 67), (0, .nameAndType 68 69), (0, u "use"), (0, u "(Z)Lcom/example/overbrenger/overbrenger/build/Column$Use;"), (3, u "law"), (0, u "(II)Z")] 4

def k1m0 : Method := { name := "<init>", desc := "()V", sig := { parameters := [], returnType := none }, accessFlags := 1, code := none }
def k1c1 : Code := { maxStack := 2, maxLocals := 1, code := method_2_code, exceptionTable := #[], attributes := #[] }
def k1m1 : Method := { name := "pick", desc := "(I)Lcom/example/overbrenger/overbrenger/build/Column;", sig := { parameters := [.int], returnType := some (.object "com/example/overbrenger/overbrenger/build/Column") }, accessFlags := 10, code := some k1c1 }
def k1c2 : Code := { maxStack := 2, maxLocals := 1, code := method_3_code, exceptionTable := #[], attributes := #[] }
def k1m2 : Method := { name := "folderUse", desc := "(I)Lcom/example/overbrenger/overbrenger/build/Column$Use;", sig := { parameters := [.int], returnType := some (.object "com/example/overbrenger/overbrenger/build/Column$Use") }, accessFlags := 10, code := some k1c2 }
def k1c3 : Code := { maxStack := 2, maxLocals := 1, code := method_4_code, exceptionTable := #[], attributes := #[] }
def k1m3 : Method := { name := "fileUse", desc := "(I)Lcom/example/overbrenger/overbrenger/build/Column$Use;", sig := { parameters := [.int], returnType := some (.object "com/example/overbrenger/overbrenger/build/Column$Use") }, accessFlags := 10, code := some k1c3 }
def k1c4 : Code := { maxStack := 2, maxLocals := 6, code := code, exceptionTable := #[], attributes := #[] }
def k1m4 : Method := { name := "law", desc := "(II)Z", sig := { parameters := [.int, .int], returnType := some .boolean }, accessFlags := 9, code := some k1c4 }
/-- com/example/overbrenger/overbrenger/build/ColumnUsePinLaw -/
def k1 : Class := { plain "com/example/overbrenger/overbrenger/build/ColumnUsePinLaw" (some 0) with
  accessFlags := 49
  interfaces := #[]
  cf := some (fileOf pool1 54 #[] #[{ accessFlags := 1, nameIndex := 5, descriptorIndex := 6, attributes := #[] }, { accessFlags := 10, nameIndex := 57, descriptorIndex := 58, attributes := #[] }, { accessFlags := 10, nameIndex := 61, descriptorIndex := 62, attributes := #[] }, { accessFlags := 10, nameIndex := 65, descriptorIndex := 62, attributes := #[] }, { accessFlags := 9, nameIndex := 73, descriptorIndex := 74, attributes := #[] }] 49 2 #[] #[])
  fields := #[]
  methods := #[k1m0, k1m1, k1m2, k1m3, k1m4]
  instanceTypes := #[]
  staticTypes := #[]
  resolved := Array.replicate 79 none
  statics := none }

def pool2 : Array CpInfo := pool [(1, .class_ 2), (0, u "java/lang/constant/Constable"), (0, .class_ 4), (0, u "java/lang/Object")] 6

/-- java/lang/constant/Constable -/
def k2 : Class := { plain "java/lang/constant/Constable" (some 0) with
  accessFlags := 1537
  interfaces := #[]
  cf := some (fileOf pool2 1 #[] #[] 1537 3 #[] #[])
  fields := #[]
  methods := #[]
  instanceTypes := #[]
  staticTypes := #[]
  resolved := Array.replicate 11 none
  statics := none }

def pool3 : Array CpInfo := pool [(1, .class_ 2), (0, u "java/lang/Comparable"), (0, .class_ 4), (0, u "java/lang/Object")] 7

/-- java/lang/Comparable -/
def k3 : Class := { plain "java/lang/Comparable" (some 0) with
  accessFlags := 1537
  interfaces := #[]
  cf := some (fileOf pool3 1 #[] #[] 1537 3 #[] #[])
  fields := #[]
  methods := #[]
  instanceTypes := #[]
  staticTypes := #[]
  resolved := Array.replicate 12 none
  statics := none }

def pool4 : Array CpInfo := pool [(1, .class_ 2), (0, u "java/io/Serializable"), (0, .class_ 4), (0, u "java/lang/Object")] 2

/-- java/io/Serializable -/
def k4 : Class := { plain "java/io/Serializable" (some 0) with
  accessFlags := 1537
  interfaces := #[]
  cf := some (fileOf pool4 1 #[] #[] 1537 3 #[] #[])
  fields := #[]
  methods := #[]
  instanceTypes := #[]
  staticTypes := #[]
  resolved := Array.replicate 7 none
  statics := none }

def pool5 : Array CpInfo := pool [(2, .class_ 4), (1, u "java/lang/Enum"), (0, u "name"), (0, u "Ljava/lang/String;"), (2, u "ordinal"), (0, u "I"), (1, .class_ 14), (1, u "java/lang/Object"), (4, u "hash"), (86, .class_ 108), (1, u "java/lang/Enum$EnumDesc"), (2, .class_ 112), (0, u "java/lang/constant/Constable"), (0, .class_ 114), (0, u "java/lang/Comparable"), (0, .class_ 116), (0, u "java/io/Serializable")] 87

/-- java/lang/Enum -/
def k5 : Class := { plain "java/lang/Enum" (some 0) with
  accessFlags := 1057
  interfaces := #[2, 3, 4]
  cf := some (fileOf pool5 2 #[.nestMembers #[106]] #[] 1057 12 #[111, 113, 115] #[{ accessFlags := 18, nameIndex := 5, descriptorIndex := 6, attributes := #[] }, { accessFlags := 18, nameIndex := 9, descriptorIndex := 10, attributes := #[] }, { accessFlags := 2, nameIndex := 19, descriptorIndex := 10, attributes := #[] }])
  fields := #[{ name := "name", type := (.object "java/lang/String"), accessFlags := 18, slot := 0, constantValue := 0 }, { name := "ordinal", type := .int, accessFlags := 18, slot := 1, constantValue := 0 }, { name := "hash", type := .int, accessFlags := 2, slot := 2, constantValue := 0 }]
  methods := #[]
  instanceTypes := #[(.object "java/lang/String"), .int, .int]
  staticTypes := #[]
  resolved := Array.replicate 204 none
  statics := none }

def pool6 : Array CpInfo := pool [(1, .class_ 2), (0, u "com/example/overbrenger/overbrenger/build/Column"), (2, u "PAD"), (0, u "Lcom/example/overbrenger/overbrenger/build/Column;"), (2, u "KENMERK"), (2, u "BRON"), (2, u "NAAM"), (2, u "NIVEAU"), (2, u "WAARDERING"), (2, u "ARCHIEFVORMER"), (2, u "BEPERKING"), (2, u "FORMAAT_CODE"), (2, u "FORMAAT_NAAM"), (2, u "$VALUES"), (0, u "[Lcom/example/overbrenger/overbrenger/build/Column;"), (6, .class_ 46), (1, u "java/lang/Enum"), (15, u "header"), (0, u "Ljava/lang/String;"), (0, .fieldref 1 65), (0, .nameAndType 66 67), (0, u "folders"), (0, u "Lcom/example/overbrenger/overbrenger/build/Column$Use;"), (0, .fieldref 1 69), (0, .nameAndType 70 67), (0, u "files"), (2, u "accepts"), (0, u "Ljava/util/function/Predicate;"), (21, .class_ 98), (1, u "com/example/overbrenger/overbrenger/build/Column$Use"), (53, u "use"), (0, u "(Z)Lcom/example/overbrenger/overbrenger/build/Column$Use;")] 37

def k6c0 : Code := { maxStack := 1, maxLocals := 2, code := prog_9_method_6_code, exceptionTable := #[], attributes := #[] }
def k6m0 : Method := { name := "use", desc := "(Z)Lcom/example/overbrenger/overbrenger/build/Column$Use;", sig := { parameters := [.boolean], returnType := some (.object "com/example/overbrenger/overbrenger/build/Column$Use") }, accessFlags := 0, code := some k6c0 }
/-- com/example/overbrenger/overbrenger/build/Column -/
def k6 : Class := { plain "com/example/overbrenger/overbrenger/build/Column" (some 5) with
  accessFlags := 16432
  interfaces := #[]
  cf := some (fileOf pool6 1 #[.nestMembers #[96]] #[{ accessFlags := 0, nameIndex := 152, descriptorIndex := 153, attributes := #[] }] 16432 44 #[] #[{ accessFlags := 16409, nameIndex := 5, descriptorIndex := 6, attributes := #[] }, { accessFlags := 16409, nameIndex := 9, descriptorIndex := 6, attributes := #[] }, { accessFlags := 16409, nameIndex := 12, descriptorIndex := 6, attributes := #[] }, { accessFlags := 16409, nameIndex := 15, descriptorIndex := 6, attributes := #[] }, { accessFlags := 16409, nameIndex := 18, descriptorIndex := 6, attributes := #[] }, { accessFlags := 16409, nameIndex := 21, descriptorIndex := 6, attributes := #[] }, { accessFlags := 16409, nameIndex := 24, descriptorIndex := 6, attributes := #[] }, { accessFlags := 16409, nameIndex := 27, descriptorIndex := 6, attributes := #[] }, { accessFlags := 16409, nameIndex := 30, descriptorIndex := 6, attributes := #[] }, { accessFlags := 16409, nameIndex := 33, descriptorIndex := 6, attributes := #[] }, { accessFlags := 18, nameIndex := 62, descriptorIndex := 63, attributes := #[] }, { accessFlags := 18, nameIndex := 66, descriptorIndex := 67, attributes := #[] }, { accessFlags := 18, nameIndex := 70, descriptorIndex := 67, attributes := #[] }, { accessFlags := 18, nameIndex := 73, descriptorIndex := 74, attributes := #[] }, { accessFlags := 4122, nameIndex := 36, descriptorIndex := 37, attributes := #[] }])
  fields := #[{ name := "PAD", type := (.object "com/example/overbrenger/overbrenger/build/Column"), accessFlags := 16409, slot := 0, constantValue := 0 }, { name := "KENMERK", type := (.object "com/example/overbrenger/overbrenger/build/Column"), accessFlags := 16409, slot := 1, constantValue := 0 }, { name := "BRON", type := (.object "com/example/overbrenger/overbrenger/build/Column"), accessFlags := 16409, slot := 2, constantValue := 0 }, { name := "NAAM", type := (.object "com/example/overbrenger/overbrenger/build/Column"), accessFlags := 16409, slot := 3, constantValue := 0 }, { name := "NIVEAU", type := (.object "com/example/overbrenger/overbrenger/build/Column"), accessFlags := 16409, slot := 4, constantValue := 0 }, { name := "WAARDERING", type := (.object "com/example/overbrenger/overbrenger/build/Column"), accessFlags := 16409, slot := 5, constantValue := 0 }, { name := "ARCHIEFVORMER", type := (.object "com/example/overbrenger/overbrenger/build/Column"), accessFlags := 16409, slot := 6, constantValue := 0 }, { name := "BEPERKING", type := (.object "com/example/overbrenger/overbrenger/build/Column"), accessFlags := 16409, slot := 7, constantValue := 0 }, { name := "FORMAAT_CODE", type := (.object "com/example/overbrenger/overbrenger/build/Column"), accessFlags := 16409, slot := 8, constantValue := 0 }, { name := "FORMAAT_NAAM", type := (.object "com/example/overbrenger/overbrenger/build/Column"), accessFlags := 16409, slot := 9, constantValue := 0 }, { name := "header", type := (.object "java/lang/String"), accessFlags := 18, slot := 3, constantValue := 0 }, { name := "folders", type := (.object "com/example/overbrenger/overbrenger/build/Column$Use"), accessFlags := 18, slot := 4, constantValue := 0 }, { name := "files", type := (.object "com/example/overbrenger/overbrenger/build/Column$Use"), accessFlags := 18, slot := 5, constantValue := 0 }, { name := "accepts", type := (.object "java/util/function/Predicate"), accessFlags := 18, slot := 6, constantValue := 0 }, { name := "$VALUES", type := (.array (.object "com/example/overbrenger/overbrenger/build/Column")), accessFlags := 4122, slot := 10, constantValue := 0 }]
  methods := #[k6m0]
  instanceTypes := #[(.object "java/lang/String"), .int, .int, (.object "java/lang/String"), (.object "com/example/overbrenger/overbrenger/build/Column$Use"), (.object "com/example/overbrenger/overbrenger/build/Column$Use"), (.object "java/util/function/Predicate")]
  staticTypes := #[(.object "com/example/overbrenger/overbrenger/build/Column"), (.object "com/example/overbrenger/overbrenger/build/Column"), (.object "com/example/overbrenger/overbrenger/build/Column"), (.object "com/example/overbrenger/overbrenger/build/Column"), (.object "com/example/overbrenger/overbrenger/build/Column"), (.object "com/example/overbrenger/overbrenger/build/Column"), (.object "com/example/overbrenger/overbrenger/build/Column"), (.object "com/example/overbrenger/overbrenger/build/Column"), (.object "com/example/overbrenger/overbrenger/build/Column"), (.object "com/example/overbrenger/overbrenger/build/Column"), (.array (.object "com/example/overbrenger/overbrenger/build/Column"))]
  resolved := Array.replicate 191 none
  statics := some 0 }

def pool7 : Array CpInfo := pool [(1, .class_ 2), (0, u "com/example/overbrenger/overbrenger/build/Column$Use"), (2, u "NONE"), (0, u "Lcom/example/overbrenger/overbrenger/build/Column$Use;"), (2, u "OR_NAME"), (2, u "REQUIRED"), (2, u "$VALUES"), (0, u "[Lcom/example/overbrenger/overbrenger/build/Column$Use;"), (6, .class_ 25), (1, u "java/lang/Enum"), (26, .class_ 53), (0, u "com/example/overbrenger/overbrenger/build/Column")] 2

/-- com/example/overbrenger/overbrenger/build/Column$Use -/
def k7 : Class := { plain "com/example/overbrenger/overbrenger/build/Column$Use" (some 5) with
  accessFlags := 16432
  interfaces := #[]
  cf := some (fileOf pool7 1 #[.nestHost 52] #[] 16432 23 #[] #[{ accessFlags := 16409, nameIndex := 5, descriptorIndex := 6, attributes := #[] }, { accessFlags := 16409, nameIndex := 9, descriptorIndex := 6, attributes := #[] }, { accessFlags := 16409, nameIndex := 12, descriptorIndex := 6, attributes := #[] }, { accessFlags := 4122, nameIndex := 15, descriptorIndex := 16, attributes := #[] }])
  fields := #[{ name := "NONE", type := (.object "com/example/overbrenger/overbrenger/build/Column$Use"), accessFlags := 16409, slot := 0, constantValue := 0 }, { name := "OR_NAME", type := (.object "com/example/overbrenger/overbrenger/build/Column$Use"), accessFlags := 16409, slot := 1, constantValue := 0 }, { name := "REQUIRED", type := (.object "com/example/overbrenger/overbrenger/build/Column$Use"), accessFlags := 16409, slot := 2, constantValue := 0 }, { name := "$VALUES", type := (.array (.object "com/example/overbrenger/overbrenger/build/Column$Use")), accessFlags := 4122, slot := 3, constantValue := 0 }]
  methods := #[]
  instanceTypes := #[(.object "java/lang/String"), .int, .int]
  staticTypes := #[(.object "com/example/overbrenger/overbrenger/build/Column$Use"), (.object "com/example/overbrenger/overbrenger/build/Column$Use"), (.object "com/example/overbrenger/overbrenger/build/Column$Use"), (.array (.object "com/example/overbrenger/overbrenger/build/Column$Use"))]
  resolved := Array.replicate 56 none
  statics := some 1 }

def pool8 : Array CpInfo := pool [(1, u "java/lang/Cloneable"), (0, .class_ 1), (0, u "java/lang/Object"), (0, .class_ 3)] 3

/-- java/lang/Cloneable -/
def k8 : Class := { plain "java/lang/Cloneable" (some 0) with
  accessFlags := 1537
  interfaces := #[]
  cf := some (fileOf pool8 2 #[] #[] 1537 4 #[] #[])
  fields := #[]
  methods := #[]
  instanceTypes := #[]
  staticTypes := #[]
  resolved := Array.replicate 8 none
  statics := none }

/-- the primitive byte -/
def k9 : Class := { plain "byte" none with kind := .primitive 'B', accessFlags := 0x411 }
/-- [B -/
def k10 : Class := { plain "[B" (some 0) with kind := .array 9 .byte, interfaces := #[8, 4], accessFlags := 1041 }

def heap : Heap := #[{ cls := 6, slots := #[.ref 5, .ref 6, .ref 7, .ref 8, .ref 9, .ref 10, .ref 11, .ref 12, .ref 13, .ref 14, .null], vm := .statics 6 },
  { cls := 7, slots := #[.ref 2, .ref 4, .ref 3, .null], vm := .statics 7 },
  { cls := 7, slots := #[.null, .int 0, .int 0], vm := .none },
  { cls := 7, slots := #[.null, .int 1, .int 0], vm := .none },
  { cls := 7, slots := #[.null, .int 2, .int 0], vm := .none },
  { cls := 6, slots := #[.null, .int 0, .int 0, .null, .ref 2, .ref 2, .null], vm := .none },
  { cls := 6, slots := #[.null, .int 1, .int 0, .null, .ref 3, .ref 3, .null], vm := .none },
  { cls := 6, slots := #[.null, .int 2, .int 0, .null, .ref 3, .ref 3, .null], vm := .none },
  { cls := 6, slots := #[.null, .int 3, .int 0, .null, .ref 3, .ref 4, .null], vm := .none },
  { cls := 6, slots := #[.null, .int 4, .int 0, .null, .ref 3, .ref 2, .null], vm := .none },
  { cls := 6, slots := #[.null, .int 5, .int 0, .null, .ref 3, .ref 2, .null], vm := .none },
  { cls := 6, slots := #[.null, .int 6, .int 0, .null, .ref 3, .ref 2, .null], vm := .none },
  { cls := 6, slots := #[.null, .int 7, .int 0, .null, .ref 3, .ref 2, .null], vm := .none },
  { cls := 6, slots := #[.null, .int 8, .int 0, .null, .ref 2, .ref 3, .null], vm := .none },
  { cls := 6, slots := #[.null, .int 9, .int 0, .null, .ref 2, .ref 3, .null], vm := .none }]
def classes : Array Class := #[k0, k1, k2, k3, k4, k5, k6, k7, k8, k9, k10]
def interned : List (Array UInt16 × Addr) := []
def slotsUsed : Nat := 94
def theMethod : MethodId := ⟨1, 4⟩
def args0 : Array Value := #[.int 5, .int 2]
def aboutOver (below : List Frame) : State where
  vm := { classes := classes, interned := interned.toArray }
  heap := heap
  slotsUsed := slotsUsed
  threads := #[{ frames := .invoking theMethod args0 :: below }]
def below0 : List Frame := [.native { method := ⟨0, 0⟩, args := #[] }]
def about1 : State := aboutOver below0
def p0 : Program := .bare "" "" ""
def e0 : Env := launch0.env 0 0 0
theorem w_frames : about1.frames = Frame.invoking theMethod args0 :: below0 := rfl
set_option maxRecDepth 65536 in
theorem w_args : argsFit about1.vm theMethod args0 = true := by decide +kernel
set_option maxRecDepth 65536 in
theorem w_heap : heapFits about1 = true := by decide +kernel
set_option maxRecDepth 65536 in
theorem w_runnable : about1.curStatus? = some .runnable := by decide +kernel
set_option maxRecDepth 65536 in
theorem w_alone : about1.alone = true := by decide +kernel
set_option maxRecDepth 65536 in
theorem w_named : about1.methodNamed? x = some theMethod := by decide +kernel
set_option maxRecDepth 65536 in
theorem w_hears : about1.hears theMethod below0 = true := by decide +kernel
set_option maxRecDepth 65536 in
theorem w_ripe : about1.ripe theMethod args0 below0 = true := by decide +kernel
theorem w_running : about1.status = .running := rfl
set_option maxRecDepth 65536 in
theorem w_room : about1.hasRoom e0.platform room_1 = true :=
  launch0.hasRoom_least _ room_1 (by decide +kernel) (by decide +kernel) (by decide +kernel) (by decide +kernel) (by decide +kernel) (by decide +kernel)
theorem allAtoms_all (ts : List Jvm.Cond) (a : Array Jvm.Value) (st : Jvm.State) : (allAtoms ts).before a st = ts.all (fun c => c.before a st) := by
  induction ts with
  | nil => rfl
  | cons c t ih =>
    show (Jvm.Cond.and c (allAtoms t)).before a st = _
    rw [Jvm.Cond.before_and, ih, List.all_cons]
def words1 : List Jvm.Cond := Jvm.Cond.code x code maxLocals ret :: tables_1
/-- a 'code' word, met by the world's own term for the bytes: nothing is compared byte by byte -/
theorem code_word {y : MethodName} {bytes : ByteArray} {mx : Nat} {rt : Option FieldType} {a : Array Value} {s : State} {m : MethodId} {meth : Method} {c : Code} (h1 : s.methodNamed? y = some m) (h2 : s.vm.method? m = some meth) (h3 : meth.code = some c) (h4 : c.code = bytes)
    (h5 : (c.maxLocals == mx && c.exceptionTable.isEmpty && decide (c.maxStack ≤ mostOperands) && decide (meth.sig.returnType = rt) && !meth.locks && decide (parseMethodDescriptor y.desc = some meth.sig)) = true) : (Jvm.Cond.code y bytes mx rt).before a s = true := by
  simp only [Bool.and_eq_true, beq_iff_eq, Bool.not_eq_true', decide_eq_true_eq] at h5
  obtain ⟨⟨⟨⟨⟨g1, g2⟩, g3⟩, g4⟩, g5⟩, g6⟩ := h5
  simp [Cond.before, Cond.holds, Cond.value, h1, h2, h3, h4, g1, g2, g3, g4, g5, g6]
def isCode : Jvm.Cond → Bool
  | .code _ _ _ _ => true
  | _ => false
theorem all_split {L : List Jvm.Cond} {P : Jvm.Cond → Bool} (h1 : L.all (fun c => isCode c || P c) = true) (h2 : ∀ c ∈ L.filter isCode, P c = true) : L.all P = true := by
  refine List.all_eq_true.mpr fun c hc => ?_
  have h := List.all_eq_true.mp h1 c hc
  rcases Bool.eq_false_or_eq_true (isCode c) with hi | hi
  · exact h2 c (List.mem_filter.mpr ⟨hc, hi⟩)
  · simpa [hi] using h
set_option maxRecDepth 65536 in
theorem w_c0 : (Jvm.Cond.code x code maxLocals ret).before args0 about1 = true := code_word (m := ⟨1, 4⟩) (meth := k1m4) (c := k1c4) (by decide +kernel) rfl rfl rfl (by decide +kernel)
set_option maxRecDepth 65536 in
theorem w_c1 : (Jvm.Cond.code ({ cls := "com/example/overbrenger/overbrenger/build/ColumnUsePinLaw", name := "pick", desc := "(I)Lcom/example/overbrenger/overbrenger/build/Column;" } : Jvm.MethodName) method_2_code (1 : Nat) (Option.some (Jvm.ClassFile.FieldType.object "com/example/overbrenger/overbrenger/build/Column"))).before args0 about1 = true := code_word (m := ⟨1, 1⟩) (meth := k1m1) (c := k1c1) (by decide +kernel) rfl rfl rfl (by decide +kernel)
set_option maxRecDepth 65536 in
theorem w_c2 : (Jvm.Cond.code ({ cls := "com/example/overbrenger/overbrenger/build/ColumnUsePinLaw", name := "folderUse", desc := "(I)Lcom/example/overbrenger/overbrenger/build/Column$Use;" } : Jvm.MethodName) method_3_code (1 : Nat) (Option.some (Jvm.ClassFile.FieldType.object "com/example/overbrenger/overbrenger/build/Column$Use"))).before args0 about1 = true := code_word (m := ⟨1, 2⟩) (meth := k1m2) (c := k1c2) (by decide +kernel) rfl rfl rfl (by decide +kernel)
set_option maxRecDepth 65536 in
theorem w_c3 : (Jvm.Cond.code ({ cls := "com/example/overbrenger/overbrenger/build/Column", name := "use", desc := "(Z)Lcom/example/overbrenger/overbrenger/build/Column$Use;" } : Jvm.MethodName) prog_9_method_6_code (2 : Nat) (Option.some (Jvm.ClassFile.FieldType.object "com/example/overbrenger/overbrenger/build/Column$Use"))).before args0 about1 = true := code_word (m := ⟨6, 0⟩) (meth := k6m0) (c := k6c0) (by decide +kernel) rfl rfl rfl (by decide +kernel)
set_option maxRecDepth 65536 in
theorem w_c4 : (Jvm.Cond.code ({ cls := "com/example/overbrenger/overbrenger/build/ColumnUsePinLaw", name := "fileUse", desc := "(I)Lcom/example/overbrenger/overbrenger/build/Column$Use;" } : Jvm.MethodName) method_4_code (1 : Nat) (Option.some (Jvm.ClassFile.FieldType.object "com/example/overbrenger/overbrenger/build/Column$Use"))).before args0 about1 = true := code_word (m := ⟨1, 3⟩) (meth := k1m3) (c := k1c3) (by decide +kernel) rfl rfl rfl (by decide +kernel)
def codes1 : List Jvm.Cond := [Jvm.Cond.code x code maxLocals ret, Jvm.Cond.code ({ cls := "com/example/overbrenger/overbrenger/build/ColumnUsePinLaw", name := "pick", desc := "(I)Lcom/example/overbrenger/overbrenger/build/Column;" } : Jvm.MethodName) method_2_code (1 : Nat) (Option.some (Jvm.ClassFile.FieldType.object "com/example/overbrenger/overbrenger/build/Column")), Jvm.Cond.code ({ cls := "com/example/overbrenger/overbrenger/build/ColumnUsePinLaw", name := "folderUse", desc := "(I)Lcom/example/overbrenger/overbrenger/build/Column$Use;" } : Jvm.MethodName) method_3_code (1 : Nat) (Option.some (Jvm.ClassFile.FieldType.object "com/example/overbrenger/overbrenger/build/Column$Use")), Jvm.Cond.code ({ cls := "com/example/overbrenger/overbrenger/build/Column", name := "use", desc := "(Z)Lcom/example/overbrenger/overbrenger/build/Column$Use;" } : Jvm.MethodName) prog_9_method_6_code (2 : Nat) (Option.some (Jvm.ClassFile.FieldType.object "com/example/overbrenger/overbrenger/build/Column$Use")), Jvm.Cond.code ({ cls := "com/example/overbrenger/overbrenger/build/ColumnUsePinLaw", name := "fileUse", desc := "(I)Lcom/example/overbrenger/overbrenger/build/Column$Use;" } : Jvm.MethodName) method_4_code (1 : Nat) (Option.some (Jvm.ClassFile.FieldType.object "com/example/overbrenger/overbrenger/build/Column$Use"))]
set_option maxRecDepth 65536 in
theorem codes_eq : words1.filter isCode = codes1 := rfl
theorem w_codes : ∀ c ∈ words1.filter isCode, c.before args0 about1 = true := by
  rw [codes_eq]
  intro c hc
  simp only [codes1, List.mem_cons, List.not_mem_nil, or_false] at hc
  rcases hc with rfl | rfl | rfl | rfl | rfl
  · exact w_c0
  · exact w_c1
  · exact w_c2
  · exact w_c3
  · exact w_c4
set_option maxRecDepth 65536 in
theorem w_t1 : (words1.take 24).all (fun c => isCode c || c.before args0 about1) = true := by decide +kernel
set_option maxRecDepth 65536 in
theorem w_t2 : ((words1.drop 24).take 24).all (fun c => isCode c || c.before args0 about1) = true := by decide +kernel
set_option maxRecDepth 65536 in
theorem w_t3 : ((words1.drop 24).drop 24).all (fun c => isCode c || c.before args0 about1) = true := by decide +kernel
theorem w_tables : (allAtoms (Jvm.Cond.code x code maxLocals ret :: tables_1)).before args0 about1 = true := by
  rw [allAtoms_all]
  show words1.all (fun c => c.before args0 about1) = true
  refine all_split ?_ w_codes
  rw [← List.take_append_drop 24 words1, List.all_append, w_t1, ← List.take_append_drop 24 (words1.drop 24), List.all_append, w_t2, w_t3]
  rfl
set_option maxRecDepth 65536 in
theorem w_case : (Jvm.Cond.and given_1 narrow_1).before args0 about1 = true := by decide +kernel
theorem w_applies : (headSpec (Jvm.Cond.code x code maxLocals ret :: tables_1) room_1).applies x e0.platform about1 = true :=
  (Spec.applies_iff w_frames).mpr ⟨w_running, w_runnable, w_alone, w_named, w_hears, w_ripe, w_room, w_tables⟩
theorem atStart : AtStart classFile x code maxLocals ret World_1 tables_1 room_1 Calls_1 rest_1 Pre_1 launch0 p0 e0 about1 theMethod args0 below0 :=
  ⟨lists_1, trivial, launch0.admits_env _ _ _, launch0.least_env, fairChoices_fair.cas, fairChoices_fair.clock, w_frames, w_args, w_heap, w_applies, trivial, trivial, w_case⟩
end start1
theorem witness_1 : WitnessClaimed_1 := ⟨start1.p0, start1.e0, start1.about1, start1.theMethod, start1.args0, start1.below0, start1.atStart⟩
end Jvm.Pilot.@@N@@
