import JvmDerived
import JvmDerived.Pilot.@@N@@Statement
import JvmDerived.Pilot.@@N@@Code
set_option linter.unusedVariables false
set_option linter.unusedSimpArgs false
namespace Jvm.RoadKit
open Sem ClassFile Op Lib Jvm.Stand Jvm.Free Jvm.LawKit
section New
variable {p : Program} {l : Launch} {e : Env} {R : Room} {s : State} {m : MethodId} {args : Array Value} {below : List Frame} {meth : Method} {c : Code} {T : State} {locs : List Loc} {cells slots : Nat}
theorem retI (X : Stand p l e R s m args below meth c T locs cells slots) (hx : p.tables.exec = Jvm.exec) {pc : Nat} {Ls : Array Slot} {z : Int32} {rest : List Value} (hret : meth.sig.returnType = some .int) (hd : decode c.code pc = .ok (.ireturn, 1)) {fs : List Frame}
    (hl : ∀ (f : JFrame) (acts : List Action), f.method = m → f.locked = none → f.entered = [] → (doReturn e (T.setTop f) acts (some (.int z))).1 = T.setFrames fs) : Steps p.tables e below (T.setTop (mkF m pc Ls (.int z :: rest))) (T.setFrames fs) := by
  have hm' : T.vm.method? m = some meth := X.method'
  have hn : narrow .int (.int z) = .int z := rfl
  show Steps p.tables e below (T.setTop { method := m, pc := pc, locals := Ls, stack := _ :: rest, locked := none }) _
  jvm_step X.here [X.here.top, hx, hd, hm', hret, hn]
  first | (intro acts; rw [hl _ acts rfl rfl rfl]) | rw [hl _ _ rfl rfl rfl]
  exact Steps.refl _
end New
end Jvm.RoadKit
namespace Jvm.Pilot.@@N@@
open Jvm Jvm.ClassFile Sem Op Lib Jvm.Free Jvm.Stand Jvm.LawKit Jvm.RoadKit Bundle Jvm.Pilot.@@N@@.Jvm.D
theorem own_fi {s : State} {args : Array Value} {t : Term} {C n d : String} {k : Int32} {x : Addr} (ht : t.eval args s none [] s = some (.ref x)) (h : (Jvm.Cond.eq (.field t C n d) (.int k)).value args s none s [] = some true) : s.fieldOf? x C n d = some (.int k) := by
  obtain ⟨u, v, e1, e2, k1, k2⟩ := cmp_v (Or.inl h)
  have e3 : (Term.int k).eval args s none [] s = some (.int k) := Term.int_eval k
  obtain rfl : v = .int k := Option.some.inj (e2.symm.trans e3)
  obtain ⟨z, rfl⟩ := k2
  have e4 : some true = some (decide (z = k)) := h.symm.trans (by simp [Cond.value, e1, e3])
  have e5 : z = k := of_decide_eq_true (Option.some.inj e4).symm
  subst e5
  exact (fld_at ht).symm.trans e1
theorem own_fr {s : State} {args : Array Value} {t t2 : Term} {C n d : String} {x y : Addr} (ht : t.eval args s none [] s = some (.ref x)) (ht2 : t2.eval args s none [] s = some (.ref y)) (h : (Jvm.Cond.eq (.field t C n d) t2).value args s none s [] = some true) : s.fieldOf? x C n d = some (.ref y) := by
  obtain ⟨u, v, e1, e2, k1, k2⟩ := cmp_v (Or.inl h)
  obtain rfl : v = .ref y := Option.some.inj (e2.symm.trans ht2)
  have hu : u.isRef = true := k2.2
  have e5 : u = .ref y := gotT (eq_R e1 ht2 hu rfl) h
  subst e5
  exact (fld_at ht).symm.trans e1
theorem own_ne {s : State} {a b : Addr} {C n d : String} {j k : Int32} (h1 : s.fieldOf? a C n d = some (.int j)) (h2 : s.fieldOf? b C n d = some (.int k)) (hne : j ≠ k) : a ≠ b := fun q => by
  subst q
  have h := h1.symm.trans h2
  injection h with h
  injection h with h
  exact hne h
def atF (p i : Int32) : Int32 := ((p.toUInt32 >>> (((8 : Int32) * i) &&& 31).toUInt32).toInt32).toInt8.toInt32
theorem own_nar (x : Int32) : nar .byte (x.toInt8.toInt32) = x.toInt8.toInt32 := by simp [nar]
theorem own_narAt (p i : Int32) : nar .byte (atF p i) = atF p i := own_nar _
theorem own_rem5 (x : Int32) : 0 ≤ ((x &&& (7 : Int32)) % (5 : Int32)).toInt ∧ ((x &&& (7 : Int32)) % (5 : Int32)).toInt < 5 := by
  have h := c_mask x 7 3 (by decide) (by decide)
  have h0 : 0 ≤ (x &&& 7).toInt := by omega
  have h2 := (c_irem (x &&& 7) 5 5 (by decide)).1 h0
  constructor <;> rw [h2]
  · exact Int.emod_nonneg _ (by omega)
  · exact Int.emod_lt_of_pos _ (by omega)
theorem own_k (x : Int32) : ((x &&& (7 : Int32)) % (5 : Int32)) = (0 : Int32) ∨ ((x &&& (7 : Int32)) % (5 : Int32)) = (1 : Int32) ∨ ((x &&& (7 : Int32)) % (5 : Int32)) = (2 : Int32) ∨ ((x &&& (7 : Int32)) % (5 : Int32)) = (3 : Int32) ∨ ((x &&& (7 : Int32)) % (5 : Int32)) = (4 : Int32) := by
  have h := own_rem5 x
  have h1 : ((x &&& (7 : Int32)) % (5 : Int32)).toInt = 0 ∨ ((x &&& (7 : Int32)) % (5 : Int32)).toInt = 1 ∨ ((x &&& (7 : Int32)) % (5 : Int32)).toInt = 2 ∨ ((x &&& (7 : Int32)) % (5 : Int32)).toInt = 3 ∨ ((x &&& (7 : Int32)) % (5 : Int32)).toInt = 4 := by omega
  rcases h1 with h1 | h1 | h1 | h1 | h1
  · exact (Or.inl (Int32.toInt_inj.mp h1))
  · exact (Or.inr (Or.inl (Int32.toInt_inj.mp h1)))
  · exact (Or.inr (Or.inr (Or.inl (Int32.toInt_inj.mp h1))))
  · exact (Or.inr (Or.inr (Or.inr (Or.inl (Int32.toInt_inj.mp h1)))))
  · exact (Or.inr (Or.inr (Or.inr (Or.inr (Int32.toInt_inj.mp h1)))))
theorem d11_0 : decode method_2_code 0 = .ok (.iload_n 0, 1) := by decide +kernel
theorem d11_1 : decode method_2_code 1 = .ok (.bipush 8, 2) := by decide +kernel
theorem d11_3 : decode method_2_code 3 = .ok (.iload_n 1, 1) := by decide +kernel
theorem d11_4 : decode method_2_code 4 = .ok (.imul, 1) := by decide +kernel
theorem d11_5 : decode method_2_code 5 = .ok (.iushr, 1) := by decide +kernel
theorem d11_6 : decode method_2_code 6 = .ok (.i2b, 1) := by decide +kernel
theorem d11_7 : decode method_2_code 7 = .ok (.ireturn, 1) := by decide +kernel
theorem pn_11 : plainName "com/example/quotewire/quotewire/wire/FrameBinaryPinLaw" = true := by first | (simp [plainName, overriddenIn]; done) | decide +kernel
theorem ef_11 (m : MethodId) (x0 : Int32) (x1 : Int32) : entryFrame m #[(.int x0), (.int x1)] 2 = mkF m 0 #[.val (.int x0), .val (.int x1)] [] := by first | (simp [entryFrame, mkF, argsToLocals, Value.category]; done) | rfl
def Q11 (Z : State) (p1 : Int32) (p2 : Int32) (h0 : Heap) (n0 : Nat) (v : Option Value) (h : Heap) (L : List Loc) : Prop := v = some (.int (atF p1 p2)) ∧ Fr n0 L ∧ h = h0
set_option maxRecDepth 65536 in
set_option maxHeartbeats 40000000 in
theorem rm11_o (l : Launch) (Z : State) (a0 : Array Value) (hw : ∀ d ∈ tables_1, d.before a0 Z = true) (ws : List Jvm.Cond) (p1 : Int32) (p2 : Int32) (h0 : Heap) (n0 : Nat) (Z0 : n0 ≤ h0.size)  :
    MetFree l (⟨"com/example/quotewire/quotewire/wire/FrameBinaryPinLaw", "at", "(II)B"⟩ : MethodName) (head1 (Jvm.Cond.code (⟨"com/example/quotewire/quotewire/wire/FrameBinaryPinLaw", "at", "(II)B"⟩ : MethodName) method_2_code 2 (some .byte) :: ws) ({ frames := 0, cells := 0, slots := 0, locals := 0 } : Room)) (fun a U => a = #[(.int p1), (.int p2)] ∧ Z.Warmed39 U.vm ∧ U.heap = h0) (fun _ _ _ _ _ => True) (fun _ U o U' => ∃ v L, o = .returned v ∧ Q11 Z p1 p2 h0 n0 v U'.heap L ∧ FrameEnd U o U' L ({ frames := 0, cells := 0, slots := 0, locals := 0 } : Room).cells ({ frames := 0, cells := 0, slots := 0, locals := 0 } : Room).slots) := by
  refine MetFree.of_bodySF (plainFor_of_name pn_11) hisR ?_
  intro p e s m args below meth c s₁ Bd hml0 hP hK
  obtain ⟨rfl, hZ, hh⟩ := hP
  have hx := Bd.exec
  have hby := Bd.bytes
  have hml : c.maxLocals = 2 := hml0
  have hown : s.vm.findClass "com/example/quotewire/quotewire/wire/FrameBinaryPinLaw" = some m.cls := findClass_of_methodNamed Bd.named
  have hnm := (name_of_methodNamed Bd.named Bd.method).1
  have X0 : Stand p l e ({ frames := 0, cells := 0, slots := 0, locals := 0 } : Room) s m #[(.int p1), (.int p2)] below meth c s₁ [] 0 0 := Stand.of_body Bd
  have e0 : s₁.heap = h0 := by rw [← hh, Bd.state]; rfl
  have N0 := Fr.nil n0
  have pre0 : ∀ t, Steps p.tables e below (s₁.setTop (mkF m 0 #[.val (.int p1), .val (.int p2)] [])) t → Steps p.tables e below (s₁.setTop (entryFrame m #[(.int p1), (.int p2)] 2)) t := fun t k => castTop (ef_11 m p1 p2) k
  -- 3. LAWS

  obtain ⟨fs, hr, hrun, hended, hW, hsame⟩ := X0.leave (v := some (.int (nar .byte (((p1.toUInt32 >>> (((8 : Int32) * p2) &&& 31).toUInt32).toInt32).toInt8.toInt32)))) (fun h => by rw [Bd.returns] at h; cases h)
  refine ⟨_, _, pre0 _ ?_, hrun, hended, _, _, rfl, ?_, ⟨_, rfl⟩, hW, hsame.mono (by decide) (by decide)⟩
  -- 4. STEPS
  · show Steps p.tables e below (s₁.setTop (mkF m 0 #[.val (.int p1), .val (.int p2)] [])) _
    refine XS.iloadN X0.here hx rfl (hb hby d11_0) rfl ?_
    show Steps p.tables e below (s₁.setTop (mkF m 1 #[.val (.int p1), .val (.int p2)] [(.int p1)])) _
    refine XS.bipush X0.here hx rfl (hb hby d11_1) ?_
    show Steps p.tables e below (s₁.setTop (mkF m 3 #[.val (.int p1), .val (.int p2)] [(.int (8 : Int32)), (.int p1)])) _
    refine XS.iloadN X0.here hx rfl (hb hby d11_3) rfl ?_
    show Steps p.tables e below (s₁.setTop (mkF m 4 #[.val (.int p1), .val (.int p2)] [(.int p2), (.int (8 : Int32)), (.int p1)])) _
    refine XS.imul X0.here hx rfl (hb hby d11_4) rfl ?_
    show Steps p.tables e below (s₁.setTop (mkF m 5 #[.val (.int p1), .val (.int p2)] [(.int ((8 : Int32) * p2)), (.int p1)])) _
    refine XS.iushr X0.here hx rfl (hb hby d11_5) rfl ?_
    show Steps p.tables e below (s₁.setTop (mkF m 6 #[.val (.int p1), .val (.int p2)] [(.int ((p1.toUInt32 >>> (((8 : Int32) * p2) &&& 31).toUInt32).toInt32))])) _
    refine XS.i2b X0.here hx rfl (hb hby d11_6) rfl ?_
    show Steps p.tables e below (s₁.setTop (mkF m 7 #[.val (.int p1), .val (.int p2)] [(.int (((p1.toUInt32 >>> (((8 : Int32) * p2) &&& 31).toUInt32).toInt32).toInt8.toInt32))])) _
    exact retN X0 hx (t := .byte) Bd.returns (by simp) (hb hby d11_7) hr
  · show Q11 Z p1 p2 h0 n0 _ s₁.heap _
    rw [e0]
    exact ⟨by rw [own_nar]; rfl, N0, rfl⟩
theorem rm11 (l : Launch) (Z : State) (a0 : Array Value) (hw : ∀ d ∈ tables_1, d.before a0 Z = true) (ws : List Jvm.Cond) (p1 : Int32) (p2 : Int32) (h0 : Heap) (n0 : Nat) (Z0 : n0 ≤ h0.size)  :
    MetFree l (⟨"com/example/quotewire/quotewire/wire/FrameBinaryPinLaw", "at", "(II)B"⟩ : MethodName) (head1 (Jvm.Cond.code (⟨"com/example/quotewire/quotewire/wire/FrameBinaryPinLaw", "at", "(II)B"⟩ : MethodName) method_2_code 2 (some .byte) :: ws) ({ frames := 0, cells := 0, slots := 0, locals := 0 } : Room)) (fun a U => a = #[(.int p1), (.int p2)] ∧ Z.Warmed39 U.vm ∧ U.heap = h0) (fun _ _ _ _ _ => True) (fun _ U o U' => ∃ v L, o = .returned v ∧ Q11 Z p1 p2 h0 n0 v U'.heap L ∧ FrameEnd U o U' L ({ frames := 0, cells := 0, slots := 0, locals := 0 } : Room).cells ({ frames := 0, cells := 0, slots := 0, locals := 0 } : Room).slots) := by
  exact rm11_o l Z a0 hw ws p1 p2 h0 n0 Z0 
theorem d4_0 : decode jdk_31_method_11_code 0 = .ok (.aload_n 0, 1) := by decide +kernel
theorem d4_1 : decode jdk_31_method_11_code 1 = .ok (.ifnonnull 12, 3) := by decide +kernel
theorem d4_13 : decode jdk_31_method_11_code 13 = .ok (.aload_n 0, 1) := by decide +kernel
theorem d4_14 : decode jdk_31_method_11_code 14 = .ok (.areturn, 1) := by decide +kernel
theorem pn_4 : plainName "java/util/Objects" = true := by first | (simp [plainName, overriddenIn]; done) | decide +kernel
theorem ef_4 (m : MethodId) (x0 : Addr) (x1 : Addr) : entryFrame m #[(.ref x0), (.ref x1)] 2 = mkF m 0 #[.val (.ref x0), .val (.ref x1)] [] := by first | (simp [entryFrame, mkF, argsToLocals, Value.category]; done) | rfl
def Q4 (Z : State) (a1 : Addr) (a2 : Addr) (h0 : Heap) (n0 : Nat) (v : Option Value) (h : Heap) (L : List Loc) : Prop := v = some (.ref a1) ∧ Fr n0 L ∧ h = h0
set_option maxRecDepth 65536 in
set_option maxHeartbeats 40000000 in
theorem rm4_t (l : Launch) (Z : State) (a0 : Array Value) (hw : ∀ d ∈ tables_1, d.before a0 Z = true) (ws : List Jvm.Cond) (a1 : Addr) (a2 : Addr) (h0 : Heap) (n0 : Nat) (Z0 : n0 ≤ h0.size)  :
    MetFree l (⟨"java/util/Objects", "requireNonNull", "(Ljava/lang/Object;Ljava/lang/String;)Ljava/lang/Object;"⟩ : MethodName) (head1 (Jvm.Cond.code (⟨"java/util/Objects", "requireNonNull", "(Ljava/lang/Object;Ljava/lang/String;)Ljava/lang/Object;"⟩ : MethodName) jdk_31_method_11_code 2 (some (.object "java/lang/Object")) :: ws) ({ frames := 0, cells := 0, slots := 0, locals := 0 } : Room)) (fun a U => a = #[(.ref a1), (.ref a2)] ∧ Z.Warmed39 U.vm ∧ U.heap = h0) (fun _ _ _ _ _ => True) (fun _ U o U' => ∃ v L, o = .returned v ∧ Q4 Z a1 a2 h0 n0 v U'.heap L ∧ FrameEnd U o U' L ({ frames := 0, cells := 0, slots := 0, locals := 0 } : Room).cells ({ frames := 0, cells := 0, slots := 0, locals := 0 } : Room).slots) := by
  refine MetFree.of_bodySF (plainFor_of_name pn_4) hisR ?_
  intro p e s m args below meth c s₁ Bd hml0 hP hK
  obtain ⟨rfl, hZ, hh⟩ := hP
  have hx := Bd.exec
  have hby := Bd.bytes
  have hml : c.maxLocals = 2 := hml0
  have hown : s.vm.findClass "java/util/Objects" = some m.cls := findClass_of_methodNamed Bd.named
  have hnm := (name_of_methodNamed Bd.named Bd.method).1
  have X0 : Stand p l e ({ frames := 0, cells := 0, slots := 0, locals := 0 } : Room) s m #[(.ref a1), (.ref a2)] below meth c s₁ [] 0 0 := Stand.of_body Bd
  have e0 : s₁.heap = h0 := by rw [← hh, Bd.state]; rfl
  have N0 := Fr.nil n0
  have pre0 : ∀ t, Steps p.tables e below (s₁.setTop (mkF m 0 #[.val (.ref a1), .val (.ref a2)] [])) t → Steps p.tables e below (s₁.setTop (entryFrame m #[(.ref a1), (.ref a2)] 2)) t := fun t k => castTop (ef_4 m a1 a2) k
  -- 3. LAWS

  obtain ⟨fs, hr, hrun, hended, hW, hsame⟩ := X0.leave (v := some (.ref a1)) (fun h => by rw [Bd.returns] at h; cases h)
  refine ⟨_, _, pre0 _ ?_, hrun, hended, _, _, rfl, ?_, ⟨_, rfl⟩, hW, hsame.mono (by decide) (by decide)⟩
  -- 4. STEPS
  · show Steps p.tables e below (s₁.setTop (mkF m 0 #[.val (.ref a1), .val (.ref a2)] [])) _
    refine XS.aloadN X0.here hx rfl (hb hby d4_0) rfl rfl ?_
    show Steps p.tables e below (s₁.setTop (mkF m 1 #[.val (.ref a1), .val (.ref a2)] [(.ref a1)])) _
    refine XS.ifnonnullYes X0.here hx rfl (pc0 := 1) (pc' := 13) rfl (hb hby d4_1) rfl (by decide) (by decide) ?_
    show Steps p.tables e below (s₁.setTop (mkF m 13 #[.val (.ref a1), .val (.ref a2)] [])) _
    refine XS.aloadN X0.here hx rfl (hb hby d4_13) rfl rfl ?_
    show Steps p.tables e below (s₁.setTop (mkF m 14 #[.val (.ref a1), .val (.ref a2)] [(.ref a1)])) _
    jvm_step X0.here [X0.here.top, hx, (hb hby d4_14), X0.method', Bd.returns, Value.isRef, FieldType.isReference]
    first | (intro acts; rw [hr _ acts rfl rfl rfl]) | rw [hr _ _ rfl rfl rfl]
    exact Steps.refl _
  · show Q4 Z a1 a2 h0 n0 _ s₁.heap _
    rw [e0]
    exact ⟨by rfl, N0, rfl⟩
theorem rm4 (l : Launch) (Z : State) (a0 : Array Value) (hw : ∀ d ∈ tables_1, d.before a0 Z = true) (ws : List Jvm.Cond) (a1 : Addr) (a2 : Addr) (h0 : Heap) (n0 : Nat) (Z0 : n0 ≤ h0.size)  :
    MetFree l (⟨"java/util/Objects", "requireNonNull", "(Ljava/lang/Object;Ljava/lang/String;)Ljava/lang/Object;"⟩ : MethodName) (head1 (Jvm.Cond.code (⟨"java/util/Objects", "requireNonNull", "(Ljava/lang/Object;Ljava/lang/String;)Ljava/lang/Object;"⟩ : MethodName) jdk_31_method_11_code 2 (some (.object "java/lang/Object")) :: ws) ({ frames := 0, cells := 0, slots := 0, locals := 0 } : Room)) (fun a U => a = #[(.ref a1), (.ref a2)] ∧ Z.Warmed39 U.vm ∧ U.heap = h0) (fun _ _ _ _ _ => True) (fun _ U o U' => ∃ v L, o = .returned v ∧ Q4 Z a1 a2 h0 n0 v U'.heap L ∧ FrameEnd U o U' L ({ frames := 0, cells := 0, slots := 0, locals := 0 } : Room).cells ({ frames := 0, cells := 0, slots := 0, locals := 0 } : Room).slots) := by
  exact rm4_t l Z a0 hw ws a1 a2 h0 n0 Z0 
theorem d8_0 : decode prog_32_method_4_code 0 = .ok (.aload_n 0, 1) := by decide +kernel
theorem d8_1 : decode prog_32_method_4_code 1 = .ok (.getfield 7, 3) := by decide +kernel
theorem d8_4 : decode prog_32_method_4_code 4 = .ok (.lreturn, 1) := by decide +kernel
theorem pn_8 : plainName "com/example/quotewire/quotewire/wire/Frame" = true := by first | (simp [plainName, overriddenIn]; done) | decide +kernel
theorem ef_8 (m : MethodId) (x0 : Addr) : entryFrame m #[(.ref x0)] 1 = mkF m 0 #[.val (.ref x0)] [] := by first | (simp [entryFrame, mkF, argsToLocals, Value.category]; done) | rfl
def Q8 (Z : State) (a1 : Addr) (v_time_a1 : Int64) (h0 : Heap) (n0 : Nat) (v : Option Value) (h : Heap) (L : List Loc) : Prop := v = some (.long v_time_a1) ∧ Fr n0 L ∧ h = h0
set_option maxRecDepth 65536 in
set_option maxHeartbeats 40000000 in
theorem rm8_o (l : Launch) (Z : State) (a0 : Array Value) (hw : ∀ d ∈ tables_1, d.before a0 Z = true) (ws : List Jvm.Cond) (a1 : Addr) (v_time_a1 : Int64) (h0 : Heap) (n0 : Nat) (Z0 : n0 ≤ h0.size) (F_time_a1 : Fld Z h0 a1 "com/example/quotewire/quotewire/wire/Frame" "time" "J" (.long v_time_a1)) :
    MetFree l (⟨"com/example/quotewire/quotewire/wire/Frame", "time", "()J"⟩ : MethodName) (head1 (Jvm.Cond.code (⟨"com/example/quotewire/quotewire/wire/Frame", "time", "()J"⟩ : MethodName) prog_32_method_4_code 1 (some .long) :: ws) ({ frames := 0, cells := 0, slots := 0, locals := 0 } : Room)) (fun a U => a = #[(.ref a1)] ∧ Z.Warmed39 U.vm ∧ U.heap = h0) (fun _ _ _ _ _ => True) (fun _ U o U' => ∃ v L, o = .returned v ∧ Q8 Z a1 v_time_a1 h0 n0 v U'.heap L ∧ FrameEnd U o U' L ({ frames := 0, cells := 0, slots := 0, locals := 0 } : Room).cells ({ frames := 0, cells := 0, slots := 0, locals := 0 } : Room).slots) := by
  refine MetFree.of_bodySF (plainFor_of_name pn_8) hisR ?_
  intro p e s m args below meth c s₁ Bd hml0 hP hK
  obtain ⟨rfl, hZ, hh⟩ := hP
  have hx := Bd.exec
  have hby := Bd.bytes
  have hml : c.maxLocals = 1 := hml0
  have hown : s.vm.findClass "com/example/quotewire/quotewire/wire/Frame" = some m.cls := findClass_of_methodNamed Bd.named
  have hnm := (name_of_methodNamed Bd.named Bd.method).1
  have X0 : Stand p l e ({ frames := 0, cells := 0, slots := 0, locals := 0 } : Room) s m #[(.ref a1)] below meth c s₁ [] 0 0 := Stand.of_body Bd
  have e0 : s₁.heap = h0 := by rw [← hh, Bd.state]; rfl
  have N0 := Fr.nil n0
  have pre0 : ∀ t, Steps p.tables e below (s₁.setTop (mkF m 0 #[.val (.ref a1)] [])) t → Steps p.tables e below (s₁.setTop (entryFrame m #[(.ref a1)] 1)) t := fun t k => castTop (ef_8 m a1) k
  -- 3. LAWS
  obtain ⟨T3, X3, e3, st3⟩ := getF X0 hx hZ hown (host := "") (Or.inl (hw _ (List.mem_of_getElem? (i := 25) rfl))) Via.refl e0 F_time_a1 (g := (mkF m 1 #[.val (.ref a1)] [(.ref a1)])) rfl rfl (hb hby d8_1)
  obtain ⟨fs, hr, hrun, hended, hW, hsame⟩ := X3.leave (v := some (.long v_time_a1)) (fun h => by rw [Bd.returns] at h; cases h)
  refine ⟨_, _, pre0 _ ?_, hrun, hended, _, _, rfl, ?_, ⟨_, rfl⟩, hW, hsame.mono (by decide) (by decide)⟩
  -- 4. STEPS
  · show Steps p.tables e below (s₁.setTop (mkF m 0 #[.val (.ref a1)] [])) _
    refine XS.aloadN X0.here hx rfl (hb hby d8_0) rfl rfl ?_
    show Steps p.tables e below (s₁.setTop (mkF m 1 #[.val (.ref a1)] [(.ref a1)])) _
    refine st3 _ ?_
    show Steps p.tables e below (T3.setTop (mkF m 4 #[.val (.ref a1)] [(.long v_time_a1)])) _
    jvm_step X3.here [X3.here.top, hx, (hb hby d8_4), X3.method', Bd.returns, narrow]
    first | (intro acts; rw [hr _ acts rfl rfl rfl]) | rw [hr _ _ rfl rfl rfl]
    exact Steps.refl _
  · show Q8 Z a1 v_time_a1 h0 n0 _ T3.heap _
    rw [e3]
    exact ⟨by rfl, N0, rfl⟩
theorem rm8 (l : Launch) (Z : State) (a0 : Array Value) (hw : ∀ d ∈ tables_1, d.before a0 Z = true) (ws : List Jvm.Cond) (a1 : Addr) (v_time_a1 : Int64) (h0 : Heap) (n0 : Nat) (Z0 : n0 ≤ h0.size) (F_time_a1 : Fld Z h0 a1 "com/example/quotewire/quotewire/wire/Frame" "time" "J" (.long v_time_a1)) :
    MetFree l (⟨"com/example/quotewire/quotewire/wire/Frame", "time", "()J"⟩ : MethodName) (head1 (Jvm.Cond.code (⟨"com/example/quotewire/quotewire/wire/Frame", "time", "()J"⟩ : MethodName) prog_32_method_4_code 1 (some .long) :: ws) ({ frames := 0, cells := 0, slots := 0, locals := 0 } : Room)) (fun a U => a = #[(.ref a1)] ∧ Z.Warmed39 U.vm ∧ U.heap = h0) (fun _ _ _ _ _ => True) (fun _ U o U' => ∃ v L, o = .returned v ∧ Q8 Z a1 v_time_a1 h0 n0 v U'.heap L ∧ FrameEnd U o U' L ({ frames := 0, cells := 0, slots := 0, locals := 0 } : Room).cells ({ frames := 0, cells := 0, slots := 0, locals := 0 } : Room).slots) := by
  exact rm8_o l Z a0 hw ws a1 v_time_a1 h0 n0 Z0 F_time_a1
theorem d9_0 : decode prog_32_method_5_code 0 = .ok (.aload_n 0, 1) := by decide +kernel
theorem d9_1 : decode prog_32_method_5_code 1 = .ok (.getfield 23, 3) := by decide +kernel
theorem d9_4 : decode prog_32_method_5_code 4 = .ok (.areturn, 1) := by decide +kernel
theorem pn_9 : plainName "com/example/quotewire/quotewire/wire/Frame" = true := by first | (simp [plainName, overriddenIn]; done) | decide +kernel
theorem ef_9 (m : MethodId) (x0 : Addr) : entryFrame m #[(.ref x0)] 1 = mkF m 0 #[.val (.ref x0)] [] := by first | (simp [entryFrame, mkF, argsToLocals, Value.category]; done) | rfl
def Q9 (Z : State) (a1 : Addr) (v_direction_a1 : Addr) (h0 : Heap) (n0 : Nat) (v : Option Value) (h : Heap) (L : List Loc) : Prop := v = some (.ref v_direction_a1) ∧ Fr n0 L ∧ h = h0
set_option maxRecDepth 65536 in
set_option maxHeartbeats 40000000 in
theorem rm9_o (l : Launch) (Z : State) (a0 : Array Value) (hw : ∀ d ∈ tables_1, d.before a0 Z = true) (ws : List Jvm.Cond) (a1 : Addr) (v_direction_a1 : Addr) (h0 : Heap) (n0 : Nat) (Z0 : n0 ≤ h0.size) (F_direction_a1 : Fld Z h0 a1 "com/example/quotewire/quotewire/wire/Frame" "direction" "Lcom/example/quotewire/quotewire/wire/Frame$Direction;" (.ref v_direction_a1)) :
    MetFree l (⟨"com/example/quotewire/quotewire/wire/Frame", "direction", "()Lcom/example/quotewire/quotewire/wire/Frame$Direction;"⟩ : MethodName) (head1 (Jvm.Cond.code (⟨"com/example/quotewire/quotewire/wire/Frame", "direction", "()Lcom/example/quotewire/quotewire/wire/Frame$Direction;"⟩ : MethodName) prog_32_method_5_code 1 (some (.object "com/example/quotewire/quotewire/wire/Frame$Direction")) :: ws) ({ frames := 0, cells := 0, slots := 0, locals := 0 } : Room)) (fun a U => a = #[(.ref a1)] ∧ Z.Warmed39 U.vm ∧ U.heap = h0) (fun _ _ _ _ _ => True) (fun _ U o U' => ∃ v L, o = .returned v ∧ Q9 Z a1 v_direction_a1 h0 n0 v U'.heap L ∧ FrameEnd U o U' L ({ frames := 0, cells := 0, slots := 0, locals := 0 } : Room).cells ({ frames := 0, cells := 0, slots := 0, locals := 0 } : Room).slots) := by
  refine MetFree.of_bodySF (plainFor_of_name pn_9) hisR ?_
  intro p e s m args below meth c s₁ Bd hml0 hP hK
  obtain ⟨rfl, hZ, hh⟩ := hP
  have hx := Bd.exec
  have hby := Bd.bytes
  have hml : c.maxLocals = 1 := hml0
  have hown : s.vm.findClass "com/example/quotewire/quotewire/wire/Frame" = some m.cls := findClass_of_methodNamed Bd.named
  have hnm := (name_of_methodNamed Bd.named Bd.method).1
  have X0 : Stand p l e ({ frames := 0, cells := 0, slots := 0, locals := 0 } : Room) s m #[(.ref a1)] below meth c s₁ [] 0 0 := Stand.of_body Bd
  have e0 : s₁.heap = h0 := by rw [← hh, Bd.state]; rfl
  have N0 := Fr.nil n0
  have pre0 : ∀ t, Steps p.tables e below (s₁.setTop (mkF m 0 #[.val (.ref a1)] [])) t → Steps p.tables e below (s₁.setTop (entryFrame m #[(.ref a1)] 1)) t := fun t k => castTop (ef_9 m a1) k
  -- 3. LAWS
  obtain ⟨T3, X3, e3, st3⟩ := getF X0 hx hZ hown (host := "") (Or.inl (hw _ (List.mem_of_getElem? (i := 40) rfl))) Via.refl e0 F_direction_a1 (g := (mkF m 1 #[.val (.ref a1)] [(.ref a1)])) rfl rfl (hb hby d9_1)
  obtain ⟨fs, hr, hrun, hended, hW, hsame⟩ := X3.leave (v := some (.ref v_direction_a1)) (fun h => by rw [Bd.returns] at h; cases h)
  refine ⟨_, _, pre0 _ ?_, hrun, hended, _, _, rfl, ?_, ⟨_, rfl⟩, hW, hsame.mono (by decide) (by decide)⟩
  -- 4. STEPS
  · show Steps p.tables e below (s₁.setTop (mkF m 0 #[.val (.ref a1)] [])) _
    refine XS.aloadN X0.here hx rfl (hb hby d9_0) rfl rfl ?_
    show Steps p.tables e below (s₁.setTop (mkF m 1 #[.val (.ref a1)] [(.ref a1)])) _
    refine st3 _ ?_
    show Steps p.tables e below (T3.setTop (mkF m 4 #[.val (.ref a1)] [(.ref v_direction_a1)])) _
    jvm_step X3.here [X3.here.top, hx, (hb hby d9_4), X3.method', Bd.returns, Value.isRef, FieldType.isReference]
    first | (intro acts; rw [hr _ acts rfl rfl rfl]) | rw [hr _ _ rfl rfl rfl]
    exact Steps.refl _
  · show Q9 Z a1 v_direction_a1 h0 n0 _ T3.heap _
    rw [e3]
    exact ⟨by rfl, N0, rfl⟩
theorem rm9 (l : Launch) (Z : State) (a0 : Array Value) (hw : ∀ d ∈ tables_1, d.before a0 Z = true) (ws : List Jvm.Cond) (a1 : Addr) (v_direction_a1 : Addr) (h0 : Heap) (n0 : Nat) (Z0 : n0 ≤ h0.size) (F_direction_a1 : Fld Z h0 a1 "com/example/quotewire/quotewire/wire/Frame" "direction" "Lcom/example/quotewire/quotewire/wire/Frame$Direction;" (.ref v_direction_a1)) :
    MetFree l (⟨"com/example/quotewire/quotewire/wire/Frame", "direction", "()Lcom/example/quotewire/quotewire/wire/Frame$Direction;"⟩ : MethodName) (head1 (Jvm.Cond.code (⟨"com/example/quotewire/quotewire/wire/Frame", "direction", "()Lcom/example/quotewire/quotewire/wire/Frame$Direction;"⟩ : MethodName) prog_32_method_5_code 1 (some (.object "com/example/quotewire/quotewire/wire/Frame$Direction")) :: ws) ({ frames := 0, cells := 0, slots := 0, locals := 0 } : Room)) (fun a U => a = #[(.ref a1)] ∧ Z.Warmed39 U.vm ∧ U.heap = h0) (fun _ _ _ _ _ => True) (fun _ U o U' => ∃ v L, o = .returned v ∧ Q9 Z a1 v_direction_a1 h0 n0 v U'.heap L ∧ FrameEnd U o U' L ({ frames := 0, cells := 0, slots := 0, locals := 0 } : Room).cells ({ frames := 0, cells := 0, slots := 0, locals := 0 } : Room).slots) := by
  exact rm9_o l Z a0 hw ws a1 v_direction_a1 h0 n0 Z0 F_direction_a1
theorem d10_0 : decode prog_32_method_6_code 0 = .ok (.aload_n 0, 1) := by decide +kernel
theorem d10_1 : decode prog_32_method_6_code 1 = .ok (.getfield 26, 3) := by decide +kernel
theorem d10_4 : decode prog_32_method_6_code 4 = .ok (.ifnull 7, 3) := by decide +kernel
theorem d10_7 : decode prog_32_method_6_code 7 = .ok (.iconst 1, 1) := by decide +kernel
theorem d10_8 : decode prog_32_method_6_code 8 = .ok (.goto 4, 3) := by decide +kernel
theorem d10_12 : decode prog_32_method_6_code 12 = .ok (.ireturn, 1) := by decide +kernel
theorem pn_10 : plainName "com/example/quotewire/quotewire/wire/Frame" = true := by first | (simp [plainName, overriddenIn]; done) | decide +kernel
theorem ef_10 (m : MethodId) (x0 : Addr) : entryFrame m #[(.ref x0)] 1 = mkF m 0 #[.val (.ref x0)] [] := by first | (simp [entryFrame, mkF, argsToLocals, Value.category]; done) | rfl
theorem d10_11 : decode prog_32_method_6_code 11 = .ok (.iconst 0, 1) := by decide +kernel
def Q10 (Z : State) (a1 : Addr) (h0 : Heap) (n0 : Nat) (v : Option Value) (h : Heap) (L : List Loc) : Prop := v = some (.int (0 : Int32)) ∧ Fr n0 L ∧ h = h0
set_option maxRecDepth 65536 in
set_option maxHeartbeats 40000000 in
theorem rm10 (l : Launch) (Z : State) (a0 : Array Value) (hw : ∀ d ∈ tables_1, d.before a0 Z = true) (ws : List Jvm.Cond) (a1 : Addr) (h0 : Heap) (n0 : Nat) (Z0 : n0 ≤ h0.size) (F_text_a1 : Fld Z h0 a1 "com/example/quotewire/quotewire/wire/Frame" "text" "Ljava/lang/String;" .null) :
    MetFree l (⟨"com/example/quotewire/quotewire/wire/Frame", "isText", "()Z"⟩ : MethodName) (head1 (Jvm.Cond.code (⟨"com/example/quotewire/quotewire/wire/Frame", "isText", "()Z"⟩ : MethodName) prog_32_method_6_code 1 (some .boolean) :: ws) ({ frames := 0, cells := 0, slots := 0, locals := 0 } : Room)) (fun a U => a = #[(.ref a1)] ∧ Z.Warmed39 U.vm ∧ U.heap = h0) (fun _ _ _ _ _ => True) (fun _ U o U' => ∃ v L, o = .returned v ∧ Q10 Z a1 h0 n0 v U'.heap L ∧ FrameEnd U o U' L ({ frames := 0, cells := 0, slots := 0, locals := 0 } : Room).cells ({ frames := 0, cells := 0, slots := 0, locals := 0 } : Room).slots) := by
  refine MetFree.of_bodySF (plainFor_of_name pn_10) hisR ?_
  intro p e s m args below meth c s₁ Bd hml0 hP hK
  obtain ⟨rfl, hZ, hh⟩ := hP
  have hx := Bd.exec
  have hby := Bd.bytes
  have hml : c.maxLocals = 1 := hml0
  have hown : s.vm.findClass "com/example/quotewire/quotewire/wire/Frame" = some m.cls := findClass_of_methodNamed Bd.named
  have hnm := (name_of_methodNamed Bd.named Bd.method).1
  have X0 : Stand p l e ({ frames := 0, cells := 0, slots := 0, locals := 0 } : Room) s m #[(.ref a1)] below meth c s₁ [] 0 0 := Stand.of_body Bd
  have e0 : s₁.heap = h0 := by rw [← hh, Bd.state]; rfl
  have N0 := Fr.nil n0
  have pre0 : ∀ t, Steps p.tables e below (s₁.setTop (mkF m 0 #[.val (.ref a1)] [])) t → Steps p.tables e below (s₁.setTop (entryFrame m #[(.ref a1)] 1)) t := fun t k => castTop (ef_10 m a1) k
  -- 3. LAWS
  obtain ⟨T3, X3, e3, st3⟩ := getF X0 hx hZ hown (host := "") (Or.inl (hw _ (List.mem_of_getElem? (i := 42) rfl))) Via.refl e0 F_text_a1 (g := (mkF m 1 #[.val (.ref a1)] [(.ref a1)])) rfl rfl (hb hby d10_1)
  obtain ⟨fs, hr, hrun, hended, hW, hsame⟩ := X3.leave (v := some (.int (0 : Int32))) (fun h => by rw [Bd.returns] at h; cases h)
  refine ⟨_, _, pre0 _ ?_, hrun, hended, _, _, rfl, ?_, ⟨_, rfl⟩, hW, hsame.mono (by decide) (by decide)⟩
  -- 4. STEPS
  · show Steps p.tables e below (s₁.setTop (mkF m 0 #[.val (.ref a1)] [])) _
    refine XS.aloadN X0.here hx rfl (hb hby d10_0) rfl rfl ?_
    show Steps p.tables e below (s₁.setTop (mkF m 1 #[.val (.ref a1)] [(.ref a1)])) _
    refine st3 _ ?_
    show Steps p.tables e below (T3.setTop (mkF m 4 #[.val (.ref a1)] [.null])) _
    refine XS.ifnullYes X3.here hx rfl (pc0 := 4) (pc' := 11) rfl (hb hby d10_4) rfl (by decide) (by decide) ?_
    show Steps p.tables e below (T3.setTop (mkF m 11 #[.val (.ref a1)] [])) _
    refine XS.iconst X3.here hx rfl (hb hby d10_11) ?_
    show Steps p.tables e below (T3.setTop (mkF m 12 #[.val (.ref a1)] [(.int (0 : Int32))])) _
    exact retN X3 hx (t := .boolean) Bd.returns (by simp) (hb hby d10_12) hr
  · show Q10 Z a1 h0 n0 _ T3.heap _
    rw [e3]
    exact ⟨rfl, N0, rfl⟩
theorem d6_0 : decode prog_32_method_8_code 0 = .ok (.aload_n 0, 1) := by decide +kernel
theorem d6_1 : decode prog_32_method_8_code 1 = .ok (.getfield 30, 3) := by decide +kernel
theorem d6_4 : decode prog_32_method_8_code 4 = .ok (.ifnonnull 13, 3) := by decide +kernel
theorem d6_17 : decode prog_32_method_8_code 17 = .ok (.aload_n 0, 1) := by decide +kernel
theorem d6_18 : decode prog_32_method_8_code 18 = .ok (.getfield 30, 3) := by decide +kernel
theorem d6_21 : decode prog_32_method_8_code 21 = .ok (.invokevirtual 40, 3) := by decide +kernel
theorem d6_24 : decode prog_32_method_8_code 24 = .ok (.checkcast 41, 3) := by decide +kernel
theorem d6_27 : decode prog_32_method_8_code 27 = .ok (.areturn, 1) := by decide +kernel
theorem pn_6 : plainName "com/example/quotewire/quotewire/wire/Frame" = true := by first | (simp [plainName, overriddenIn]; done) | decide +kernel
theorem pd_6_1 : parseMethodDescriptor "()Ljava/lang/Object;" = some ⟨[], some (.object "java/lang/Object")⟩ := by decide +kernel
theorem ef_6 (m : MethodId) (x0 : Addr) : entryFrame m #[(.ref x0)] 1 = mkF m 0 #[.val (.ref x0)] [] := by first | (simp [entryFrame, mkF, argsToLocals, Value.category]; done) | rfl
def Q6 (Z : State) (a1 : Addr) (k : ClassId) (z : Int32) (vs : List Value) (dv : Value) (h0 : Heap) (n0 : Nat) (v : Option Value) (h : Heap) (L : List Loc) : Prop := Fr n0 L ∧ ∃ b : Addr, v = some (.ref b) ∧ h0.size ≤ b ∧ Keep h0 h [] ∧ Arv Z h b k .byte z vs dv ∧ Exa Z h b "[B"
set_option maxRecDepth 65536 in
set_option maxHeartbeats 40000000 in
theorem rm6 (l : Launch) (Z : State) (a0 : Array Value) (hw : ∀ d ∈ tables_1, d.before a0 Z = true) (ws : List Jvm.Cond) (a1 : Addr) (w2 : Addr) (k : ClassId) (z : Int32) (vs : List Value) (dv : Value) (h0 : Heap) (n0 : Nat) (Z0 : n0 ≤ h0.size) (F_binary_a1 : Fld Z h0 a1 "com/example/quotewire/quotewire/wire/Frame" "binary" "[B" (.ref w2)) (E_w2 : Exa Z h0 w2 "[B") (V : Arv Z h0 w2 k .byte z vs dv) (hz : z.toNatClampNeg ≤ 4) :
    MetFree l (⟨"com/example/quotewire/quotewire/wire/Frame", "binary", "()[B"⟩ : MethodName) (head1 (Jvm.Cond.code (⟨"com/example/quotewire/quotewire/wire/Frame", "binary", "()[B"⟩ : MethodName) prog_32_method_8_code 1 (some (.array .byte)) :: ws) ({ frames := 1, cells := 1, slots := 4, locals := 14 } : Room)) (fun a U => a = #[(.ref a1)] ∧ Z.Warmed39 U.vm ∧ U.heap = h0) (fun _ _ _ _ _ => True) (fun _ U o U' => ∃ v L, o = .returned v ∧ Q6 Z a1 k z vs dv h0 n0 v U'.heap L ∧ FrameEnd U o U' L ({ frames := 1, cells := 1, slots := 4, locals := 14 } : Room).cells ({ frames := 1, cells := 1, slots := 4, locals := 14 } : Room).slots) := by
  refine MetFree.of_bodySF (plainFor_of_name pn_6) hisR ?_
  intro p e s m args below meth c s₁ Bd hml0 hP hK
  obtain ⟨rfl, hZ, hh⟩ := hP
  have hx := Bd.exec
  have hby := Bd.bytes
  have hml : c.maxLocals = 1 := hml0
  have hown : s.vm.findClass "com/example/quotewire/quotewire/wire/Frame" = some m.cls := findClass_of_methodNamed Bd.named
  have hnm := (name_of_methodNamed Bd.named Bd.method).1
  have X0 : Stand p l e ({ frames := 1, cells := 1, slots := 4, locals := 14 } : Room) s m #[(.ref a1)] below meth c s₁ [] 0 0 := Stand.of_body Bd
  have e0 : s₁.heap = h0 := by rw [← hh, Bd.state]; rfl
  have N0 := Fr.nil n0
  have pre0 : ∀ t, Steps p.tables e below (s₁.setTop (mkF m 0 #[.val (.ref a1)] [])) t → Steps p.tables e below (s₁.setTop (entryFrame m #[(.ref a1)] 1)) t := fun t k => castTop (ef_6 m a1) k
  -- 3. LAWS
  obtain ⟨T3, X3, e3, st3⟩ := getF X0 hx hZ hown (host := "") (Or.inl (hw _ (List.mem_of_getElem? (i := 44) rfl))) Via.refl e0 F_binary_a1 (g := (mkF m 1 #[.val (.ref a1)] [(.ref a1)])) rfl rfl (hb hby d6_1)
  obtain ⟨T4, X4, e4, st4⟩ := getF X3 hx hZ hown (host := "") (Or.inl (hw _ (List.mem_of_getElem? (i := 44) rfl))) Via.refl e3 F_binary_a1 (g := (mkF m 18 #[.val (.ref a1)] [(.ref a1)])) rfl rfl (hb hby d6_18)
  obtain ⟨T5, h5, X5, e5, E5, A5, B5, st5⟩ := cloneH X4 hx hZ hown (hw _ (List.mem_of_getElem? (i := 10) rfl)) (hw _ (List.mem_of_getElem? (i := 11) rfl)) (hw _ (List.mem_of_getElem? (i := 15) rfl)) (hw _ (List.mem_of_getElem? (i := 13) rfl)) (hw _ (List.mem_of_getElem? (i := 14) rfl)) (hw _ (List.mem_of_getElem? (i := 16) rfl)) e4 V.arh E_w2 (g := (mkF m 21 #[.val (.ref a1)] [(.ref w2)])) rfl (by rw [hml]; rfl) rfl (hb hby d6_21) (by decide) (W := 0) (cap := 4) (by show 2 * 0 + _ ≤ _; exact Nat.le_of_eq rfl) (by decide) hz (by decide) (by decide)
  obtain ⟨b5, g5⟩ : ∃ z, z = h0.size := ⟨_, rfl⟩
  rw [← g5] at A5 B5 st5
  have V5 : Arv Z h5 b5 k .byte z vs dv := A5
  obtain ⟨T6, X6, e6, st6⟩ := castY X5 hx hZ hown (hw _ (List.mem_of_getElem? (i := 17) rfl)) e5 (Ins.self B5) (g := (mkF m 24 #[.val (.ref a1)] [(.ref b5)])) rfl rfl (hb hby d6_24)
  obtain ⟨fs, hr, hrun, hended, hW, hsame⟩ := X6.leave (v := some (.ref b5)) (fun h => by rw [Bd.returns] at h; cases h)
  refine ⟨_, _, pre0 _ ?_, hrun, hended, _, _, rfl, ?_, ⟨_, rfl⟩, hW, hsame.mono (by decide) (by decide)⟩
  -- 4. STEPS
  · show Steps p.tables e below (s₁.setTop (mkF m 0 #[.val (.ref a1)] [])) _
    refine XS.aloadN X0.here hx rfl (hb hby d6_0) rfl rfl ?_
    show Steps p.tables e below (s₁.setTop (mkF m 1 #[.val (.ref a1)] [(.ref a1)])) _
    refine st3 _ ?_
    show Steps p.tables e below (T3.setTop (mkF m 4 #[.val (.ref a1)] [(.ref w2)])) _
    refine XS.ifnonnullYes X3.here hx rfl (pc0 := 4) (pc' := 17) rfl (hb hby d6_4) rfl (by decide) (by decide) ?_
    show Steps p.tables e below (T3.setTop (mkF m 17 #[.val (.ref a1)] [])) _
    refine XS.aloadN X3.here hx rfl (hb hby d6_17) rfl rfl ?_
    show Steps p.tables e below (T3.setTop (mkF m 18 #[.val (.ref a1)] [(.ref a1)])) _
    refine st4 _ ?_
    show Steps p.tables e below (T4.setTop (mkF m 21 #[.val (.ref a1)] [(.ref w2)])) _
    refine st5 _ ?_
    show Steps p.tables e below (T5.setTop (mkF m 24 #[.val (.ref a1)] [(.ref b5)])) _
    refine st6 _ ?_
    show Steps p.tables e below (T6.setTop (mkF m 27 #[.val (.ref a1)] [(.ref b5)])) _
    jvm_step X6.here [X6.here.top, hx, (hb hby d6_27), X6.method', Bd.returns, Value.isRef, FieldType.isReference]
    first | (intro acts; rw [hr _ acts rfl rfl rfl]) | rw [hr _ _ rfl rfl rfl]
    exact Steps.refl _
  · show Q6 Z a1 k z vs dv h0 n0 _ T6.heap _
    rw [e6]
    exact ⟨N0, b5, rfl, Nat.le_of_eq g5.symm, (Keep.refl h0 []).ext E5, V5, B5⟩
theorem d5_0 : decode method_4_code 0 = .ok (.aload_n 0, 1) := by decide +kernel
theorem d5_1 : decode method_4_code 1 = .ok (.arraylength, 1) := by decide +kernel
theorem d5_2 : decode method_4_code 2 = .ok (.istore_n 1, 1) := by decide +kernel
theorem d5_3 : decode method_4_code 3 = .ok (.iload_n 1, 1) := by decide +kernel
theorem d5_4 : decode method_4_code 4 = .ok (.ifCond .le 12, 3) := by decide +kernel
theorem d5_16 : decode method_4_code 16 = .ok (.iload_n 1, 1) := by decide +kernel
theorem d5_17 : decode method_4_code 17 = .ok (.iconst 1, 1) := by decide +kernel
theorem d5_18 : decode method_4_code 18 = .ok (.if_icmp .le 12, 3) := by decide +kernel
theorem d5_30 : decode method_4_code 30 = .ok (.iload_n 1, 1) := by decide +kernel
theorem d5_31 : decode method_4_code 31 = .ok (.iconst 2, 1) := by decide +kernel
theorem d5_32 : decode method_4_code 32 = .ok (.if_icmp .le 12, 3) := by decide +kernel
theorem d5_44 : decode method_4_code 44 = .ok (.iload_n 1, 1) := by decide +kernel
theorem d5_45 : decode method_4_code 45 = .ok (.iconst 3, 1) := by decide +kernel
theorem d5_46 : decode method_4_code 46 = .ok (.if_icmp .le 12, 3) := by decide +kernel
theorem d5_58 : decode method_4_code 58 = .ok (.return_, 1) := by decide +kernel
theorem pn_5 : plainName "com/example/quotewire/quotewire/wire/FrameBinaryPinLaw" = true := by first | (simp [plainName, overriddenIn]; done) | decide +kernel
theorem ef_5 (m : MethodId) (x0 : Addr) : entryFrame m #[(.ref x0)] 2 = mkF m 0 #[.val (.ref x0), .unset] [] := by first | (simp [entryFrame, mkF, argsToLocals, Value.category]; done) | rfl
def Q5 (Z : State) (a1 : Addr) (h0 : Heap) (n0 : Nat) (v : Option Value) (h : Heap) (L : List Loc) : Prop := v = none ∧ Fr n0 L ∧ Keep h0 h [a1]
set_option maxRecDepth 65536 in
set_option maxHeartbeats 40000000 in
theorem rm5_0 (l : Launch) (Z : State) (a0 : Array Value) (hw : ∀ d ∈ tables_1, d.before a0 Z = true) (ws : List Jvm.Cond) (a1 : Addr) (k : ClassId)  (dv : Value) (h0 : Heap) (n0 : Nat) (Z0 : n0 ≤ h0.size) (V : Arv Z h0 a1 k .byte (0 : Int32) [] dv) (g_a1 : n0 ≤ a1) :
    MetFree l (⟨"com/example/quotewire/quotewire/wire/FrameBinaryPinLaw", "flip", "([B)V"⟩ : MethodName) (head1 (Jvm.Cond.code (⟨"com/example/quotewire/quotewire/wire/FrameBinaryPinLaw", "flip", "([B)V"⟩ : MethodName) method_4_code 2 none :: ws) ({ frames := 0, cells := 0, slots := 0, locals := 0 } : Room)) (fun a U => a = #[(.ref a1)] ∧ Z.Warmed39 U.vm ∧ U.heap = h0) (fun _ _ _ _ _ => True) (fun _ U o U' => ∃ v L, o = .returned v ∧ Q5 Z a1 h0 n0 v U'.heap L ∧ FrameEnd U o U' L ({ frames := 0, cells := 0, slots := 0, locals := 0 } : Room).cells ({ frames := 0, cells := 0, slots := 0, locals := 0 } : Room).slots) := by
  refine MetFree.of_bodySF (plainFor_of_name pn_5) hisR ?_
  intro p e s m args below meth c s₁ Bd hml0 hP hK
  obtain ⟨rfl, hZ, hh⟩ := hP
  have hx := Bd.exec
  have hby := Bd.bytes
  have hml : c.maxLocals = 2 := hml0
  have hown : s.vm.findClass "com/example/quotewire/quotewire/wire/FrameBinaryPinLaw" = some m.cls := findClass_of_methodNamed Bd.named
  have hnm := (name_of_methodNamed Bd.named Bd.method).1
  have X0 : Stand p l e ({ frames := 0, cells := 0, slots := 0, locals := 0 } : Room) s m #[(.ref a1)] below meth c s₁ [] 0 0 := Stand.of_body Bd
  have e0 : s₁.heap = h0 := by rw [← hh, Bd.state]; rfl
  have N0 := Fr.nil n0
  have pre0 : ∀ t, Steps p.tables e below (s₁.setTop (mkF m 0 #[.val (.ref a1), .unset] [])) t → Steps p.tables e below (s₁.setTop (entryFrame m #[(.ref a1)] 2)) t := fun t k => castTop (ef_5 m a1) k
  -- 3. LAWS
  obtain ⟨c_0, Ar_0, q_0, S_0, N_0, H_0, G_0⟩ := V

  obtain ⟨fs, hr, hrun, hended, hW, hsame⟩ := X0.leave (v := none) (fun _ => rfl)
  refine ⟨_, _, pre0 _ ?_, hrun, hended, _, _, rfl, ?_, ⟨_, rfl⟩, hW, hsame.mono (by decide) (by decide)⟩
  -- 4. STEPS
  · show Steps p.tables e below (s₁.setTop (mkF m 0 #[.val (.ref a1), .unset] [])) _
    refine XS.aloadN X0.here hx rfl (hb hby d5_0) rfl rfl ?_
    show Steps p.tables e below (s₁.setTop (mkF m 1 #[.val (.ref a1), .unset] [(.ref a1)])) _
    refine X0.arraylength hx (by rw [e0]; exact Ar_0.1) (State.isArrayOf_alike hZ.alike Ar_0.2.1) (g := (mkF m 1 #[.val (.ref a1), .unset] [(.ref a1)])) rfl rfl (hb hby d5_1) _ ?_
    rw [len_of S_0 N_0]
    show Steps p.tables e below (s₁.setTop (mkF m 2 #[.val (.ref a1), .unset] [(.int (0 : Int32))])) _
    refine XS.istoreN X0.here hx rfl (hb hby d5_2) rfl (l' := #[.val (.ref a1), .val (.int (0 : Int32))]) rfl ?_
    show Steps p.tables e below (s₁.setTop (mkF m 3 #[.val (.ref a1), .val (.int (0 : Int32))] [])) _
    refine XS.iloadN X0.here hx rfl (hb hby d5_3) rfl ?_
    show Steps p.tables e below (s₁.setTop (mkF m 4 #[.val (.ref a1), .val (.int (0 : Int32))] [(.int (0 : Int32))])) _
    refine XS.ifYes X0.here hx rfl (pc0 := 4) (pc' := 16) rfl (hb hby d5_4) rfl ((if0 _ _).trans (flt (by decide)).2.2.2) (by decide) (by decide) ?_
    show Steps p.tables e below (s₁.setTop (mkF m 16 #[.val (.ref a1), .val (.int (0 : Int32))] [])) _
    refine XS.iloadN X0.here hx rfl (hb hby d5_16) rfl ?_
    show Steps p.tables e below (s₁.setTop (mkF m 17 #[.val (.ref a1), .val (.int (0 : Int32))] [(.int (0 : Int32))])) _
    refine XS.iconst X0.here hx rfl (hb hby d5_17) ?_
    show Steps p.tables e below (s₁.setTop (mkF m 18 #[.val (.ref a1), .val (.int (0 : Int32))] [(.int (1 : Int32)), (.int (0 : Int32))])) _
    refine XS.icmpYes X0.here hx rfl (pc0 := 18) (pc' := 30) rfl (hb hby d5_18) rfl (flt (by decide)).2.2.2 (by decide) (by decide) ?_
    show Steps p.tables e below (s₁.setTop (mkF m 30 #[.val (.ref a1), .val (.int (0 : Int32))] [])) _
    refine XS.iloadN X0.here hx rfl (hb hby d5_30) rfl ?_
    show Steps p.tables e below (s₁.setTop (mkF m 31 #[.val (.ref a1), .val (.int (0 : Int32))] [(.int (0 : Int32))])) _
    refine XS.iconst X0.here hx rfl (hb hby d5_31) ?_
    show Steps p.tables e below (s₁.setTop (mkF m 32 #[.val (.ref a1), .val (.int (0 : Int32))] [(.int (2 : Int32)), (.int (0 : Int32))])) _
    refine XS.icmpYes X0.here hx rfl (pc0 := 32) (pc' := 44) rfl (hb hby d5_32) rfl (flt (by decide)).2.2.2 (by decide) (by decide) ?_
    show Steps p.tables e below (s₁.setTop (mkF m 44 #[.val (.ref a1), .val (.int (0 : Int32))] [])) _
    refine XS.iloadN X0.here hx rfl (hb hby d5_44) rfl ?_
    show Steps p.tables e below (s₁.setTop (mkF m 45 #[.val (.ref a1), .val (.int (0 : Int32))] [(.int (0 : Int32))])) _
    refine XS.iconst X0.here hx rfl (hb hby d5_45) ?_
    show Steps p.tables e below (s₁.setTop (mkF m 46 #[.val (.ref a1), .val (.int (0 : Int32))] [(.int (3 : Int32)), (.int (0 : Int32))])) _
    refine XS.icmpYes X0.here hx rfl (pc0 := 46) (pc' := 58) rfl (hb hby d5_46) rfl (flt (by decide)).2.2.2 (by decide) (by decide) ?_
    show Steps p.tables e below (s₁.setTop (mkF m 58 #[.val (.ref a1), .val (.int (0 : Int32))] [])) _
    exact X0.returnOut hx Bd.returns (hb hby d5_58) hr
  · show Q5 Z a1 h0 n0 _ s₁.heap _
    rw [e0]
    exact ⟨rfl, N0, Keep.refl h0 [a1]⟩
theorem d5_7 : decode method_4_code 7 = .ok (.aload_n 0, 1) := by decide +kernel
theorem d5_8 : decode method_4_code 8 = .ok (.iconst 0, 1) := by decide +kernel
theorem d5_9 : decode method_4_code 9 = .ok (.aload_n 0, 1) := by decide +kernel
theorem d5_10 : decode method_4_code 10 = .ok (.iconst 0, 1) := by decide +kernel
theorem d5_11 : decode method_4_code 11 = .ok (.baload, 1) := by decide +kernel
theorem d5_12 : decode method_4_code 12 = .ok (.iconst (-1), 1) := by decide +kernel
theorem d5_13 : decode method_4_code 13 = .ok (.ixor, 1) := by decide +kernel
theorem d5_14 : decode method_4_code 14 = .ok (.i2b, 1) := by decide +kernel
theorem d5_15 : decode method_4_code 15 = .ok (.bastore, 1) := by decide +kernel
set_option maxRecDepth 65536 in
set_option maxHeartbeats 40000000 in
theorem rm5_1 (l : Launch) (Z : State) (a0 : Array Value) (hw : ∀ d ∈ tables_1, d.before a0 Z = true) (ws : List Jvm.Cond) (a1 : Addr) (k : ClassId) (y0 : Int32) (dv : Value) (h0 : Heap) (n0 : Nat) (Z0 : n0 ≤ h0.size) (V : Arv Z h0 a1 k .byte (1 : Int32) [.int y0] dv) (g_a1 : n0 ≤ a1) :
    MetFree l (⟨"com/example/quotewire/quotewire/wire/FrameBinaryPinLaw", "flip", "([B)V"⟩ : MethodName) (head1 (Jvm.Cond.code (⟨"com/example/quotewire/quotewire/wire/FrameBinaryPinLaw", "flip", "([B)V"⟩ : MethodName) method_4_code 2 none :: ws) ({ frames := 0, cells := 0, slots := 0, locals := 0 } : Room)) (fun a U => a = #[(.ref a1)] ∧ Z.Warmed39 U.vm ∧ U.heap = h0) (fun _ _ _ _ _ => True) (fun _ U o U' => ∃ v L, o = .returned v ∧ Q5 Z a1 h0 n0 v U'.heap L ∧ FrameEnd U o U' L ({ frames := 0, cells := 0, slots := 0, locals := 0 } : Room).cells ({ frames := 0, cells := 0, slots := 0, locals := 0 } : Room).slots) := by
  refine MetFree.of_bodySF (plainFor_of_name pn_5) hisR ?_
  intro p e s m args below meth c s₁ Bd hml0 hP hK
  obtain ⟨rfl, hZ, hh⟩ := hP
  have hx := Bd.exec
  have hby := Bd.bytes
  have hml : c.maxLocals = 2 := hml0
  have hown : s.vm.findClass "com/example/quotewire/quotewire/wire/FrameBinaryPinLaw" = some m.cls := findClass_of_methodNamed Bd.named
  have hnm := (name_of_methodNamed Bd.named Bd.method).1
  have X0 : Stand p l e ({ frames := 0, cells := 0, slots := 0, locals := 0 } : Room) s m #[(.ref a1)] below meth c s₁ [] 0 0 := Stand.of_body Bd
  have e0 : s₁.heap = h0 := by rw [← hh, Bd.state]; rfl
  have N0 := Fr.nil n0
  have pre0 : ∀ t, Steps p.tables e below (s₁.setTop (mkF m 0 #[.val (.ref a1), .unset] [])) t → Steps p.tables e below (s₁.setTop (entryFrame m #[(.ref a1)] 2)) t := fun t k => castTop (ef_5 m a1) k
  -- 3. LAWS
  obtain ⟨c_0, Ar_0, q_0, S_0, N_0, H_0, G_0⟩ := V
  have hin15 := inb_of (j := (0 : Int32)) S_0 ⟨by decide, by decide⟩
  have hat_0 : c_0.slots[((0 : Int32)).toNatClampNeg]? = some (.int y0) := H_0 _ (Nat.lt_of_not_le fun q => hin15 (Or.inr q))
  obtain ⟨T3, h3, X3, e3, W3, st3⟩ := stB X0 hx hZ e0 Ar_0 (j := (0 : Int32)) hin15 (g := (mkF m 15 #[.val (.ref a1), .val (.int (1 : Int32))] [(.int ((y0 ^^^ (-1 : Int32)).toInt8.toInt32)), (.int (0 : Int32)), (.ref a1)])) rfl rfl (hb hby d5_15)
  have V_1 : Arv Z h3 a1 k .byte (1 : Int32) [.int (nar .byte ((y0 ^^^ (-1 : Int32)).toInt8.toInt32))] dv := Arv.set Ar_0 q_0 S_0 N_0 H_0 G_0 (fits_nar_byte _) W3 0 rfl (Nat.le_of_ble_eq_true rfl)
  obtain ⟨c_1, Ar_1, q_1, S_1, N_1, H_1, G_1⟩ := V_1
  have N3 := Fr.snoc X3 N0 g_a1
  have K3 : Keep h0 h3 [a1] := (Keep.refl h0 [a1]).wr W3 (Or.inl (List.mem_of_getElem? (i := 0) rfl))
  obtain ⟨fs, hr, hrun, hended, hW, hsame⟩ := X3.leave (v := none) (fun _ => rfl)
  refine ⟨_, _, pre0 _ ?_, hrun, hended, _, _, rfl, ?_, ⟨_, rfl⟩, hW, hsame.mono (by decide) (by decide)⟩
  -- 4. STEPS
  · show Steps p.tables e below (s₁.setTop (mkF m 0 #[.val (.ref a1), .unset] [])) _
    refine XS.aloadN X0.here hx rfl (hb hby d5_0) rfl rfl ?_
    show Steps p.tables e below (s₁.setTop (mkF m 1 #[.val (.ref a1), .unset] [(.ref a1)])) _
    refine X0.arraylength hx (by rw [e0]; exact Ar_0.1) (State.isArrayOf_alike hZ.alike Ar_0.2.1) (g := (mkF m 1 #[.val (.ref a1), .unset] [(.ref a1)])) rfl rfl (hb hby d5_1) _ ?_
    rw [len_of S_0 N_0]
    show Steps p.tables e below (s₁.setTop (mkF m 2 #[.val (.ref a1), .unset] [(.int (1 : Int32))])) _
    refine XS.istoreN X0.here hx rfl (hb hby d5_2) rfl (l' := #[.val (.ref a1), .val (.int (1 : Int32))]) rfl ?_
    show Steps p.tables e below (s₁.setTop (mkF m 3 #[.val (.ref a1), .val (.int (1 : Int32))] [])) _
    refine XS.iloadN X0.here hx rfl (hb hby d5_3) rfl ?_
    show Steps p.tables e below (s₁.setTop (mkF m 4 #[.val (.ref a1), .val (.int (1 : Int32))] [(.int (1 : Int32))])) _
    refine XS.ifNo X0.here hx rfl (hb hby d5_4) rfl ((if0 _ _).trans (tlt (by decide)).2.2.2) ?_
    show Steps p.tables e below (s₁.setTop (mkF m 7 #[.val (.ref a1), .val (.int (1 : Int32))] [])) _
    refine XS.aloadN X0.here hx rfl (hb hby d5_7) rfl rfl ?_
    show Steps p.tables e below (s₁.setTop (mkF m 8 #[.val (.ref a1), .val (.int (1 : Int32))] [(.ref a1)])) _
    refine XS.iconst X0.here hx rfl (hb hby d5_8) ?_
    show Steps p.tables e below (s₁.setTop (mkF m 9 #[.val (.ref a1), .val (.int (1 : Int32))] [(.int (0 : Int32)), (.ref a1)])) _
    refine XS.aloadN X0.here hx rfl (hb hby d5_9) rfl rfl ?_
    show Steps p.tables e below (s₁.setTop (mkF m 10 #[.val (.ref a1), .val (.int (1 : Int32))] [(.ref a1), (.int (0 : Int32)), (.ref a1)])) _
    refine XS.iconst X0.here hx rfl (hb hby d5_10) ?_
    show Steps p.tables e below (s₁.setTop (mkF m 11 #[.val (.ref a1), .val (.int (1 : Int32))] [(.int (0 : Int32)), (.ref a1), (.int (0 : Int32)), (.ref a1)])) _
    refine X0.baloadBytes hx (j := (0 : Int32)) (v := (.int y0)) (by rw [e0]; exact Ar_0.1) (State.isArrayOf_alike hZ.alike Ar_0.2.1) Ar_0.2.2 hin15 hat_0 (g := (mkF m 11 #[.val (.ref a1), .val (.int (1 : Int32))] [(.int (0 : Int32)), (.ref a1), (.int (0 : Int32)), (.ref a1)])) rfl rfl (hb hby d5_11) _ ?_
    show Steps p.tables e below (s₁.setTop (mkF m 12 #[.val (.ref a1), .val (.int (1 : Int32))] [(.int y0), (.int (0 : Int32)), (.ref a1)])) _
    refine XS.iconst X0.here hx rfl (hb hby d5_12) ?_
    show Steps p.tables e below (s₁.setTop (mkF m 13 #[.val (.ref a1), .val (.int (1 : Int32))] [(.int (-1 : Int32)), (.int y0), (.int (0 : Int32)), (.ref a1)])) _
    refine XS.ixor X0.here hx rfl (hb hby d5_13) rfl ?_
    show Steps p.tables e below (s₁.setTop (mkF m 14 #[.val (.ref a1), .val (.int (1 : Int32))] [(.int (y0 ^^^ (-1 : Int32))), (.int (0 : Int32)), (.ref a1)])) _
    refine XS.i2b X0.here hx rfl (hb hby d5_14) rfl ?_
    show Steps p.tables e below (s₁.setTop (mkF m 15 #[.val (.ref a1), .val (.int (1 : Int32))] [(.int ((y0 ^^^ (-1 : Int32)).toInt8.toInt32)), (.int (0 : Int32)), (.ref a1)])) _
    refine st3 _ ?_
    show Steps p.tables e below (T3.setTop (mkF m 16 #[.val (.ref a1), .val (.int (1 : Int32))] [])) _
    refine XS.iloadN X3.here hx rfl (hb hby d5_16) rfl ?_
    show Steps p.tables e below (T3.setTop (mkF m 17 #[.val (.ref a1), .val (.int (1 : Int32))] [(.int (1 : Int32))])) _
    refine XS.iconst X3.here hx rfl (hb hby d5_17) ?_
    show Steps p.tables e below (T3.setTop (mkF m 18 #[.val (.ref a1), .val (.int (1 : Int32))] [(.int (1 : Int32)), (.int (1 : Int32))])) _
    refine XS.icmpYes X3.here hx rfl (pc0 := 18) (pc' := 30) rfl (hb hby d5_18) rfl (flt (by decide)).2.2.2 (by decide) (by decide) ?_
    show Steps p.tables e below (T3.setTop (mkF m 30 #[.val (.ref a1), .val (.int (1 : Int32))] [])) _
    refine XS.iloadN X3.here hx rfl (hb hby d5_30) rfl ?_
    show Steps p.tables e below (T3.setTop (mkF m 31 #[.val (.ref a1), .val (.int (1 : Int32))] [(.int (1 : Int32))])) _
    refine XS.iconst X3.here hx rfl (hb hby d5_31) ?_
    show Steps p.tables e below (T3.setTop (mkF m 32 #[.val (.ref a1), .val (.int (1 : Int32))] [(.int (2 : Int32)), (.int (1 : Int32))])) _
    refine XS.icmpYes X3.here hx rfl (pc0 := 32) (pc' := 44) rfl (hb hby d5_32) rfl (flt (by decide)).2.2.2 (by decide) (by decide) ?_
    show Steps p.tables e below (T3.setTop (mkF m 44 #[.val (.ref a1), .val (.int (1 : Int32))] [])) _
    refine XS.iloadN X3.here hx rfl (hb hby d5_44) rfl ?_
    show Steps p.tables e below (T3.setTop (mkF m 45 #[.val (.ref a1), .val (.int (1 : Int32))] [(.int (1 : Int32))])) _
    refine XS.iconst X3.here hx rfl (hb hby d5_45) ?_
    show Steps p.tables e below (T3.setTop (mkF m 46 #[.val (.ref a1), .val (.int (1 : Int32))] [(.int (3 : Int32)), (.int (1 : Int32))])) _
    refine XS.icmpYes X3.here hx rfl (pc0 := 46) (pc' := 58) rfl (hb hby d5_46) rfl (flt (by decide)).2.2.2 (by decide) (by decide) ?_
    show Steps p.tables e below (T3.setTop (mkF m 58 #[.val (.ref a1), .val (.int (1 : Int32))] [])) _
    exact X3.returnOut hx Bd.returns (hb hby d5_58) hr
  · show Q5 Z a1 h0 n0 _ T3.heap _
    rw [e3]
    exact ⟨rfl, N3, K3⟩
theorem d5_21 : decode method_4_code 21 = .ok (.aload_n 0, 1) := by decide +kernel
theorem d5_22 : decode method_4_code 22 = .ok (.iconst 1, 1) := by decide +kernel
theorem d5_23 : decode method_4_code 23 = .ok (.aload_n 0, 1) := by decide +kernel
theorem d5_24 : decode method_4_code 24 = .ok (.iconst 1, 1) := by decide +kernel
theorem d5_25 : decode method_4_code 25 = .ok (.baload, 1) := by decide +kernel
theorem d5_26 : decode method_4_code 26 = .ok (.iconst (-1), 1) := by decide +kernel
theorem d5_27 : decode method_4_code 27 = .ok (.ixor, 1) := by decide +kernel
theorem d5_28 : decode method_4_code 28 = .ok (.i2b, 1) := by decide +kernel
theorem d5_29 : decode method_4_code 29 = .ok (.bastore, 1) := by decide +kernel
set_option maxRecDepth 65536 in
set_option maxHeartbeats 40000000 in
theorem rm5_2 (l : Launch) (Z : State) (a0 : Array Value) (hw : ∀ d ∈ tables_1, d.before a0 Z = true) (ws : List Jvm.Cond) (a1 : Addr) (k : ClassId) (y0 : Int32) (y1 : Int32) (dv : Value) (h0 : Heap) (n0 : Nat) (Z0 : n0 ≤ h0.size) (V : Arv Z h0 a1 k .byte (2 : Int32) [.int y0, .int y1] dv) (g_a1 : n0 ≤ a1) :
    MetFree l (⟨"com/example/quotewire/quotewire/wire/FrameBinaryPinLaw", "flip", "([B)V"⟩ : MethodName) (head1 (Jvm.Cond.code (⟨"com/example/quotewire/quotewire/wire/FrameBinaryPinLaw", "flip", "([B)V"⟩ : MethodName) method_4_code 2 none :: ws) ({ frames := 0, cells := 0, slots := 0, locals := 0 } : Room)) (fun a U => a = #[(.ref a1)] ∧ Z.Warmed39 U.vm ∧ U.heap = h0) (fun _ _ _ _ _ => True) (fun _ U o U' => ∃ v L, o = .returned v ∧ Q5 Z a1 h0 n0 v U'.heap L ∧ FrameEnd U o U' L ({ frames := 0, cells := 0, slots := 0, locals := 0 } : Room).cells ({ frames := 0, cells := 0, slots := 0, locals := 0 } : Room).slots) := by
  refine MetFree.of_bodySF (plainFor_of_name pn_5) hisR ?_
  intro p e s m args below meth c s₁ Bd hml0 hP hK
  obtain ⟨rfl, hZ, hh⟩ := hP
  have hx := Bd.exec
  have hby := Bd.bytes
  have hml : c.maxLocals = 2 := hml0
  have hown : s.vm.findClass "com/example/quotewire/quotewire/wire/FrameBinaryPinLaw" = some m.cls := findClass_of_methodNamed Bd.named
  have hnm := (name_of_methodNamed Bd.named Bd.method).1
  have X0 : Stand p l e ({ frames := 0, cells := 0, slots := 0, locals := 0 } : Room) s m #[(.ref a1)] below meth c s₁ [] 0 0 := Stand.of_body Bd
  have e0 : s₁.heap = h0 := by rw [← hh, Bd.state]; rfl
  have N0 := Fr.nil n0
  have pre0 : ∀ t, Steps p.tables e below (s₁.setTop (mkF m 0 #[.val (.ref a1), .unset] [])) t → Steps p.tables e below (s₁.setTop (entryFrame m #[(.ref a1)] 2)) t := fun t k => castTop (ef_5 m a1) k
  -- 3. LAWS
  obtain ⟨c_0, Ar_0, q_0, S_0, N_0, H_0, G_0⟩ := V
  have hin15 := inb_of (j := (0 : Int32)) S_0 ⟨by decide, by decide⟩
  have hat_0 : c_0.slots[((0 : Int32)).toNatClampNeg]? = some (.int y0) := H_0 _ (Nat.lt_of_not_le fun q => hin15 (Or.inr q))
  obtain ⟨T3, h3, X3, e3, W3, st3⟩ := stB X0 hx hZ e0 Ar_0 (j := (0 : Int32)) hin15 (g := (mkF m 15 #[.val (.ref a1), .val (.int (2 : Int32))] [(.int ((y0 ^^^ (-1 : Int32)).toInt8.toInt32)), (.int (0 : Int32)), (.ref a1)])) rfl rfl (hb hby d5_15)
  have V_1 : Arv Z h3 a1 k .byte (2 : Int32) [.int (nar .byte ((y0 ^^^ (-1 : Int32)).toInt8.toInt32)), .int y1] dv := Arv.set Ar_0 q_0 S_0 N_0 H_0 G_0 (fits_nar_byte _) W3 0 rfl (Nat.le_of_ble_eq_true rfl)
  obtain ⟨c_1, Ar_1, q_1, S_1, N_1, H_1, G_1⟩ := V_1
  have N3 := Fr.snoc X3 N0 g_a1
  have K3 : Keep h0 h3 [a1] := (Keep.refl h0 [a1]).wr W3 (Or.inl (List.mem_of_getElem? (i := 0) rfl))
  have hin29 := inb_of (j := (1 : Int32)) S_1 ⟨by decide, by decide⟩
  have hat_1 : c_1.slots[((1 : Int32)).toNatClampNeg]? = some (.int y1) := H_1 _ (Nat.lt_of_not_le fun q => hin29 (Or.inr q))
  obtain ⟨T5, h5, X5, e5, W5, st5⟩ := stB X3 hx hZ e3 Ar_1 (j := (1 : Int32)) hin29 (g := (mkF m 29 #[.val (.ref a1), .val (.int (2 : Int32))] [(.int ((y1 ^^^ (-1 : Int32)).toInt8.toInt32)), (.int (1 : Int32)), (.ref a1)])) rfl rfl (hb hby d5_29)
  have V_2 : Arv Z h5 a1 k .byte (2 : Int32) [.int (nar .byte ((y0 ^^^ (-1 : Int32)).toInt8.toInt32)), .int (nar .byte ((y1 ^^^ (-1 : Int32)).toInt8.toInt32))] dv := Arv.set Ar_1 q_1 S_1 N_1 H_1 G_1 (fits_nar_byte _) W5 1 rfl (Nat.le_of_ble_eq_true rfl)
  obtain ⟨c_2, Ar_2, q_2, S_2, N_2, H_2, G_2⟩ := V_2
  have N5 := Fr.snoc X5 N3 g_a1
  have K5 : Keep h0 h5 [a1] := K3.wr W5 (Or.inl (List.mem_of_getElem? (i := 0) rfl))
  obtain ⟨fs, hr, hrun, hended, hW, hsame⟩ := X5.leave (v := none) (fun _ => rfl)
  refine ⟨_, _, pre0 _ ?_, hrun, hended, _, _, rfl, ?_, ⟨_, rfl⟩, hW, hsame.mono (by decide) (by decide)⟩
  -- 4. STEPS
  · show Steps p.tables e below (s₁.setTop (mkF m 0 #[.val (.ref a1), .unset] [])) _
    refine XS.aloadN X0.here hx rfl (hb hby d5_0) rfl rfl ?_
    show Steps p.tables e below (s₁.setTop (mkF m 1 #[.val (.ref a1), .unset] [(.ref a1)])) _
    refine X0.arraylength hx (by rw [e0]; exact Ar_0.1) (State.isArrayOf_alike hZ.alike Ar_0.2.1) (g := (mkF m 1 #[.val (.ref a1), .unset] [(.ref a1)])) rfl rfl (hb hby d5_1) _ ?_
    rw [len_of S_0 N_0]
    show Steps p.tables e below (s₁.setTop (mkF m 2 #[.val (.ref a1), .unset] [(.int (2 : Int32))])) _
    refine XS.istoreN X0.here hx rfl (hb hby d5_2) rfl (l' := #[.val (.ref a1), .val (.int (2 : Int32))]) rfl ?_
    show Steps p.tables e below (s₁.setTop (mkF m 3 #[.val (.ref a1), .val (.int (2 : Int32))] [])) _
    refine XS.iloadN X0.here hx rfl (hb hby d5_3) rfl ?_
    show Steps p.tables e below (s₁.setTop (mkF m 4 #[.val (.ref a1), .val (.int (2 : Int32))] [(.int (2 : Int32))])) _
    refine XS.ifNo X0.here hx rfl (hb hby d5_4) rfl ((if0 _ _).trans (tlt (by decide)).2.2.2) ?_
    show Steps p.tables e below (s₁.setTop (mkF m 7 #[.val (.ref a1), .val (.int (2 : Int32))] [])) _
    refine XS.aloadN X0.here hx rfl (hb hby d5_7) rfl rfl ?_
    show Steps p.tables e below (s₁.setTop (mkF m 8 #[.val (.ref a1), .val (.int (2 : Int32))] [(.ref a1)])) _
    refine XS.iconst X0.here hx rfl (hb hby d5_8) ?_
    show Steps p.tables e below (s₁.setTop (mkF m 9 #[.val (.ref a1), .val (.int (2 : Int32))] [(.int (0 : Int32)), (.ref a1)])) _
    refine XS.aloadN X0.here hx rfl (hb hby d5_9) rfl rfl ?_
    show Steps p.tables e below (s₁.setTop (mkF m 10 #[.val (.ref a1), .val (.int (2 : Int32))] [(.ref a1), (.int (0 : Int32)), (.ref a1)])) _
    refine XS.iconst X0.here hx rfl (hb hby d5_10) ?_
    show Steps p.tables e below (s₁.setTop (mkF m 11 #[.val (.ref a1), .val (.int (2 : Int32))] [(.int (0 : Int32)), (.ref a1), (.int (0 : Int32)), (.ref a1)])) _
    refine X0.baloadBytes hx (j := (0 : Int32)) (v := (.int y0)) (by rw [e0]; exact Ar_0.1) (State.isArrayOf_alike hZ.alike Ar_0.2.1) Ar_0.2.2 hin15 hat_0 (g := (mkF m 11 #[.val (.ref a1), .val (.int (2 : Int32))] [(.int (0 : Int32)), (.ref a1), (.int (0 : Int32)), (.ref a1)])) rfl rfl (hb hby d5_11) _ ?_
    show Steps p.tables e below (s₁.setTop (mkF m 12 #[.val (.ref a1), .val (.int (2 : Int32))] [(.int y0), (.int (0 : Int32)), (.ref a1)])) _
    refine XS.iconst X0.here hx rfl (hb hby d5_12) ?_
    show Steps p.tables e below (s₁.setTop (mkF m 13 #[.val (.ref a1), .val (.int (2 : Int32))] [(.int (-1 : Int32)), (.int y0), (.int (0 : Int32)), (.ref a1)])) _
    refine XS.ixor X0.here hx rfl (hb hby d5_13) rfl ?_
    show Steps p.tables e below (s₁.setTop (mkF m 14 #[.val (.ref a1), .val (.int (2 : Int32))] [(.int (y0 ^^^ (-1 : Int32))), (.int (0 : Int32)), (.ref a1)])) _
    refine XS.i2b X0.here hx rfl (hb hby d5_14) rfl ?_
    show Steps p.tables e below (s₁.setTop (mkF m 15 #[.val (.ref a1), .val (.int (2 : Int32))] [(.int ((y0 ^^^ (-1 : Int32)).toInt8.toInt32)), (.int (0 : Int32)), (.ref a1)])) _
    refine st3 _ ?_
    show Steps p.tables e below (T3.setTop (mkF m 16 #[.val (.ref a1), .val (.int (2 : Int32))] [])) _
    refine XS.iloadN X3.here hx rfl (hb hby d5_16) rfl ?_
    show Steps p.tables e below (T3.setTop (mkF m 17 #[.val (.ref a1), .val (.int (2 : Int32))] [(.int (2 : Int32))])) _
    refine XS.iconst X3.here hx rfl (hb hby d5_17) ?_
    show Steps p.tables e below (T3.setTop (mkF m 18 #[.val (.ref a1), .val (.int (2 : Int32))] [(.int (1 : Int32)), (.int (2 : Int32))])) _
    refine XS.icmpNo X3.here hx rfl (hb hby d5_18) rfl (tlt (by decide)).2.2.2 ?_
    show Steps p.tables e below (T3.setTop (mkF m 21 #[.val (.ref a1), .val (.int (2 : Int32))] [])) _
    refine XS.aloadN X3.here hx rfl (hb hby d5_21) rfl rfl ?_
    show Steps p.tables e below (T3.setTop (mkF m 22 #[.val (.ref a1), .val (.int (2 : Int32))] [(.ref a1)])) _
    refine XS.iconst X3.here hx rfl (hb hby d5_22) ?_
    show Steps p.tables e below (T3.setTop (mkF m 23 #[.val (.ref a1), .val (.int (2 : Int32))] [(.int (1 : Int32)), (.ref a1)])) _
    refine XS.aloadN X3.here hx rfl (hb hby d5_23) rfl rfl ?_
    show Steps p.tables e below (T3.setTop (mkF m 24 #[.val (.ref a1), .val (.int (2 : Int32))] [(.ref a1), (.int (1 : Int32)), (.ref a1)])) _
    refine XS.iconst X3.here hx rfl (hb hby d5_24) ?_
    show Steps p.tables e below (T3.setTop (mkF m 25 #[.val (.ref a1), .val (.int (2 : Int32))] [(.int (1 : Int32)), (.ref a1), (.int (1 : Int32)), (.ref a1)])) _
    refine X3.baloadBytes hx (j := (1 : Int32)) (v := (.int y1)) (by rw [e3]; exact Ar_1.1) (State.isArrayOf_alike hZ.alike Ar_1.2.1) Ar_1.2.2 hin29 hat_1 (g := (mkF m 25 #[.val (.ref a1), .val (.int (2 : Int32))] [(.int (1 : Int32)), (.ref a1), (.int (1 : Int32)), (.ref a1)])) rfl rfl (hb hby d5_25) _ ?_
    show Steps p.tables e below (T3.setTop (mkF m 26 #[.val (.ref a1), .val (.int (2 : Int32))] [(.int y1), (.int (1 : Int32)), (.ref a1)])) _
    refine XS.iconst X3.here hx rfl (hb hby d5_26) ?_
    show Steps p.tables e below (T3.setTop (mkF m 27 #[.val (.ref a1), .val (.int (2 : Int32))] [(.int (-1 : Int32)), (.int y1), (.int (1 : Int32)), (.ref a1)])) _
    refine XS.ixor X3.here hx rfl (hb hby d5_27) rfl ?_
    show Steps p.tables e below (T3.setTop (mkF m 28 #[.val (.ref a1), .val (.int (2 : Int32))] [(.int (y1 ^^^ (-1 : Int32))), (.int (1 : Int32)), (.ref a1)])) _
    refine XS.i2b X3.here hx rfl (hb hby d5_28) rfl ?_
    show Steps p.tables e below (T3.setTop (mkF m 29 #[.val (.ref a1), .val (.int (2 : Int32))] [(.int ((y1 ^^^ (-1 : Int32)).toInt8.toInt32)), (.int (1 : Int32)), (.ref a1)])) _
    refine st5 _ ?_
    show Steps p.tables e below (T5.setTop (mkF m 30 #[.val (.ref a1), .val (.int (2 : Int32))] [])) _
    refine XS.iloadN X5.here hx rfl (hb hby d5_30) rfl ?_
    show Steps p.tables e below (T5.setTop (mkF m 31 #[.val (.ref a1), .val (.int (2 : Int32))] [(.int (2 : Int32))])) _
    refine XS.iconst X5.here hx rfl (hb hby d5_31) ?_
    show Steps p.tables e below (T5.setTop (mkF m 32 #[.val (.ref a1), .val (.int (2 : Int32))] [(.int (2 : Int32)), (.int (2 : Int32))])) _
    refine XS.icmpYes X5.here hx rfl (pc0 := 32) (pc' := 44) rfl (hb hby d5_32) rfl (flt (by decide)).2.2.2 (by decide) (by decide) ?_
    show Steps p.tables e below (T5.setTop (mkF m 44 #[.val (.ref a1), .val (.int (2 : Int32))] [])) _
    refine XS.iloadN X5.here hx rfl (hb hby d5_44) rfl ?_
    show Steps p.tables e below (T5.setTop (mkF m 45 #[.val (.ref a1), .val (.int (2 : Int32))] [(.int (2 : Int32))])) _
    refine XS.iconst X5.here hx rfl (hb hby d5_45) ?_
    show Steps p.tables e below (T5.setTop (mkF m 46 #[.val (.ref a1), .val (.int (2 : Int32))] [(.int (3 : Int32)), (.int (2 : Int32))])) _
    refine XS.icmpYes X5.here hx rfl (pc0 := 46) (pc' := 58) rfl (hb hby d5_46) rfl (flt (by decide)).2.2.2 (by decide) (by decide) ?_
    show Steps p.tables e below (T5.setTop (mkF m 58 #[.val (.ref a1), .val (.int (2 : Int32))] [])) _
    exact X5.returnOut hx Bd.returns (hb hby d5_58) hr
  · show Q5 Z a1 h0 n0 _ T5.heap _
    rw [e5]
    exact ⟨rfl, N5, K5⟩
theorem d5_35 : decode method_4_code 35 = .ok (.aload_n 0, 1) := by decide +kernel
theorem d5_36 : decode method_4_code 36 = .ok (.iconst 2, 1) := by decide +kernel
theorem d5_37 : decode method_4_code 37 = .ok (.aload_n 0, 1) := by decide +kernel
theorem d5_38 : decode method_4_code 38 = .ok (.iconst 2, 1) := by decide +kernel
theorem d5_39 : decode method_4_code 39 = .ok (.baload, 1) := by decide +kernel
theorem d5_40 : decode method_4_code 40 = .ok (.iconst (-1), 1) := by decide +kernel
theorem d5_41 : decode method_4_code 41 = .ok (.ixor, 1) := by decide +kernel
theorem d5_42 : decode method_4_code 42 = .ok (.i2b, 1) := by decide +kernel
theorem d5_43 : decode method_4_code 43 = .ok (.bastore, 1) := by decide +kernel
set_option maxRecDepth 65536 in
set_option maxHeartbeats 40000000 in
theorem rm5_3 (l : Launch) (Z : State) (a0 : Array Value) (hw : ∀ d ∈ tables_1, d.before a0 Z = true) (ws : List Jvm.Cond) (a1 : Addr) (k : ClassId) (y0 : Int32) (y1 : Int32) (y2 : Int32) (dv : Value) (h0 : Heap) (n0 : Nat) (Z0 : n0 ≤ h0.size) (V : Arv Z h0 a1 k .byte (3 : Int32) [.int y0, .int y1, .int y2] dv) (g_a1 : n0 ≤ a1) :
    MetFree l (⟨"com/example/quotewire/quotewire/wire/FrameBinaryPinLaw", "flip", "([B)V"⟩ : MethodName) (head1 (Jvm.Cond.code (⟨"com/example/quotewire/quotewire/wire/FrameBinaryPinLaw", "flip", "([B)V"⟩ : MethodName) method_4_code 2 none :: ws) ({ frames := 0, cells := 0, slots := 0, locals := 0 } : Room)) (fun a U => a = #[(.ref a1)] ∧ Z.Warmed39 U.vm ∧ U.heap = h0) (fun _ _ _ _ _ => True) (fun _ U o U' => ∃ v L, o = .returned v ∧ Q5 Z a1 h0 n0 v U'.heap L ∧ FrameEnd U o U' L ({ frames := 0, cells := 0, slots := 0, locals := 0 } : Room).cells ({ frames := 0, cells := 0, slots := 0, locals := 0 } : Room).slots) := by
  refine MetFree.of_bodySF (plainFor_of_name pn_5) hisR ?_
  intro p e s m args below meth c s₁ Bd hml0 hP hK
  obtain ⟨rfl, hZ, hh⟩ := hP
  have hx := Bd.exec
  have hby := Bd.bytes
  have hml : c.maxLocals = 2 := hml0
  have hown : s.vm.findClass "com/example/quotewire/quotewire/wire/FrameBinaryPinLaw" = some m.cls := findClass_of_methodNamed Bd.named
  have hnm := (name_of_methodNamed Bd.named Bd.method).1
  have X0 : Stand p l e ({ frames := 0, cells := 0, slots := 0, locals := 0 } : Room) s m #[(.ref a1)] below meth c s₁ [] 0 0 := Stand.of_body Bd
  have e0 : s₁.heap = h0 := by rw [← hh, Bd.state]; rfl
  have N0 := Fr.nil n0
  have pre0 : ∀ t, Steps p.tables e below (s₁.setTop (mkF m 0 #[.val (.ref a1), .unset] [])) t → Steps p.tables e below (s₁.setTop (entryFrame m #[(.ref a1)] 2)) t := fun t k => castTop (ef_5 m a1) k
  -- 3. LAWS
  obtain ⟨c_0, Ar_0, q_0, S_0, N_0, H_0, G_0⟩ := V
  have hin15 := inb_of (j := (0 : Int32)) S_0 ⟨by decide, by decide⟩
  have hat_0 : c_0.slots[((0 : Int32)).toNatClampNeg]? = some (.int y0) := H_0 _ (Nat.lt_of_not_le fun q => hin15 (Or.inr q))
  obtain ⟨T3, h3, X3, e3, W3, st3⟩ := stB X0 hx hZ e0 Ar_0 (j := (0 : Int32)) hin15 (g := (mkF m 15 #[.val (.ref a1), .val (.int (3 : Int32))] [(.int ((y0 ^^^ (-1 : Int32)).toInt8.toInt32)), (.int (0 : Int32)), (.ref a1)])) rfl rfl (hb hby d5_15)
  have V_1 : Arv Z h3 a1 k .byte (3 : Int32) [.int (nar .byte ((y0 ^^^ (-1 : Int32)).toInt8.toInt32)), .int y1, .int y2] dv := Arv.set Ar_0 q_0 S_0 N_0 H_0 G_0 (fits_nar_byte _) W3 0 rfl (Nat.le_of_ble_eq_true rfl)
  obtain ⟨c_1, Ar_1, q_1, S_1, N_1, H_1, G_1⟩ := V_1
  have N3 := Fr.snoc X3 N0 g_a1
  have K3 : Keep h0 h3 [a1] := (Keep.refl h0 [a1]).wr W3 (Or.inl (List.mem_of_getElem? (i := 0) rfl))
  have hin29 := inb_of (j := (1 : Int32)) S_1 ⟨by decide, by decide⟩
  have hat_1 : c_1.slots[((1 : Int32)).toNatClampNeg]? = some (.int y1) := H_1 _ (Nat.lt_of_not_le fun q => hin29 (Or.inr q))
  obtain ⟨T5, h5, X5, e5, W5, st5⟩ := stB X3 hx hZ e3 Ar_1 (j := (1 : Int32)) hin29 (g := (mkF m 29 #[.val (.ref a1), .val (.int (3 : Int32))] [(.int ((y1 ^^^ (-1 : Int32)).toInt8.toInt32)), (.int (1 : Int32)), (.ref a1)])) rfl rfl (hb hby d5_29)
  have V_2 : Arv Z h5 a1 k .byte (3 : Int32) [.int (nar .byte ((y0 ^^^ (-1 : Int32)).toInt8.toInt32)), .int (nar .byte ((y1 ^^^ (-1 : Int32)).toInt8.toInt32)), .int y2] dv := Arv.set Ar_1 q_1 S_1 N_1 H_1 G_1 (fits_nar_byte _) W5 1 rfl (Nat.le_of_ble_eq_true rfl)
  obtain ⟨c_2, Ar_2, q_2, S_2, N_2, H_2, G_2⟩ := V_2
  have N5 := Fr.snoc X5 N3 g_a1
  have K5 : Keep h0 h5 [a1] := K3.wr W5 (Or.inl (List.mem_of_getElem? (i := 0) rfl))
  have hin43 := inb_of (j := (2 : Int32)) S_2 ⟨by decide, by decide⟩
  have hat_2 : c_2.slots[((2 : Int32)).toNatClampNeg]? = some (.int y2) := H_2 _ (Nat.lt_of_not_le fun q => hin43 (Or.inr q))
  obtain ⟨T7, h7, X7, e7, W7, st7⟩ := stB X5 hx hZ e5 Ar_2 (j := (2 : Int32)) hin43 (g := (mkF m 43 #[.val (.ref a1), .val (.int (3 : Int32))] [(.int ((y2 ^^^ (-1 : Int32)).toInt8.toInt32)), (.int (2 : Int32)), (.ref a1)])) rfl rfl (hb hby d5_43)
  have V_3 : Arv Z h7 a1 k .byte (3 : Int32) [.int (nar .byte ((y0 ^^^ (-1 : Int32)).toInt8.toInt32)), .int (nar .byte ((y1 ^^^ (-1 : Int32)).toInt8.toInt32)), .int (nar .byte ((y2 ^^^ (-1 : Int32)).toInt8.toInt32))] dv := Arv.set Ar_2 q_2 S_2 N_2 H_2 G_2 (fits_nar_byte _) W7 2 rfl (Nat.le_of_ble_eq_true rfl)
  obtain ⟨c_3, Ar_3, q_3, S_3, N_3, H_3, G_3⟩ := V_3
  have N7 := Fr.snoc X7 N5 g_a1
  have K7 : Keep h0 h7 [a1] := K5.wr W7 (Or.inl (List.mem_of_getElem? (i := 0) rfl))
  obtain ⟨fs, hr, hrun, hended, hW, hsame⟩ := X7.leave (v := none) (fun _ => rfl)
  refine ⟨_, _, pre0 _ ?_, hrun, hended, _, _, rfl, ?_, ⟨_, rfl⟩, hW, hsame.mono (by decide) (by decide)⟩
  -- 4. STEPS
  · show Steps p.tables e below (s₁.setTop (mkF m 0 #[.val (.ref a1), .unset] [])) _
    refine XS.aloadN X0.here hx rfl (hb hby d5_0) rfl rfl ?_
    show Steps p.tables e below (s₁.setTop (mkF m 1 #[.val (.ref a1), .unset] [(.ref a1)])) _
    refine X0.arraylength hx (by rw [e0]; exact Ar_0.1) (State.isArrayOf_alike hZ.alike Ar_0.2.1) (g := (mkF m 1 #[.val (.ref a1), .unset] [(.ref a1)])) rfl rfl (hb hby d5_1) _ ?_
    rw [len_of S_0 N_0]
    show Steps p.tables e below (s₁.setTop (mkF m 2 #[.val (.ref a1), .unset] [(.int (3 : Int32))])) _
    refine XS.istoreN X0.here hx rfl (hb hby d5_2) rfl (l' := #[.val (.ref a1), .val (.int (3 : Int32))]) rfl ?_
    show Steps p.tables e below (s₁.setTop (mkF m 3 #[.val (.ref a1), .val (.int (3 : Int32))] [])) _
    refine XS.iloadN X0.here hx rfl (hb hby d5_3) rfl ?_
    show Steps p.tables e below (s₁.setTop (mkF m 4 #[.val (.ref a1), .val (.int (3 : Int32))] [(.int (3 : Int32))])) _
    refine XS.ifNo X0.here hx rfl (hb hby d5_4) rfl ((if0 _ _).trans (tlt (by decide)).2.2.2) ?_
    show Steps p.tables e below (s₁.setTop (mkF m 7 #[.val (.ref a1), .val (.int (3 : Int32))] [])) _
    refine XS.aloadN X0.here hx rfl (hb hby d5_7) rfl rfl ?_
    show Steps p.tables e below (s₁.setTop (mkF m 8 #[.val (.ref a1), .val (.int (3 : Int32))] [(.ref a1)])) _
    refine XS.iconst X0.here hx rfl (hb hby d5_8) ?_
    show Steps p.tables e below (s₁.setTop (mkF m 9 #[.val (.ref a1), .val (.int (3 : Int32))] [(.int (0 : Int32)), (.ref a1)])) _
    refine XS.aloadN X0.here hx rfl (hb hby d5_9) rfl rfl ?_
    show Steps p.tables e below (s₁.setTop (mkF m 10 #[.val (.ref a1), .val (.int (3 : Int32))] [(.ref a1), (.int (0 : Int32)), (.ref a1)])) _
    refine XS.iconst X0.here hx rfl (hb hby d5_10) ?_
    show Steps p.tables e below (s₁.setTop (mkF m 11 #[.val (.ref a1), .val (.int (3 : Int32))] [(.int (0 : Int32)), (.ref a1), (.int (0 : Int32)), (.ref a1)])) _
    refine X0.baloadBytes hx (j := (0 : Int32)) (v := (.int y0)) (by rw [e0]; exact Ar_0.1) (State.isArrayOf_alike hZ.alike Ar_0.2.1) Ar_0.2.2 hin15 hat_0 (g := (mkF m 11 #[.val (.ref a1), .val (.int (3 : Int32))] [(.int (0 : Int32)), (.ref a1), (.int (0 : Int32)), (.ref a1)])) rfl rfl (hb hby d5_11) _ ?_
    show Steps p.tables e below (s₁.setTop (mkF m 12 #[.val (.ref a1), .val (.int (3 : Int32))] [(.int y0), (.int (0 : Int32)), (.ref a1)])) _
    refine XS.iconst X0.here hx rfl (hb hby d5_12) ?_
    show Steps p.tables e below (s₁.setTop (mkF m 13 #[.val (.ref a1), .val (.int (3 : Int32))] [(.int (-1 : Int32)), (.int y0), (.int (0 : Int32)), (.ref a1)])) _
    refine XS.ixor X0.here hx rfl (hb hby d5_13) rfl ?_
    show Steps p.tables e below (s₁.setTop (mkF m 14 #[.val (.ref a1), .val (.int (3 : Int32))] [(.int (y0 ^^^ (-1 : Int32))), (.int (0 : Int32)), (.ref a1)])) _
    refine XS.i2b X0.here hx rfl (hb hby d5_14) rfl ?_
    show Steps p.tables e below (s₁.setTop (mkF m 15 #[.val (.ref a1), .val (.int (3 : Int32))] [(.int ((y0 ^^^ (-1 : Int32)).toInt8.toInt32)), (.int (0 : Int32)), (.ref a1)])) _
    refine st3 _ ?_
    show Steps p.tables e below (T3.setTop (mkF m 16 #[.val (.ref a1), .val (.int (3 : Int32))] [])) _
    refine XS.iloadN X3.here hx rfl (hb hby d5_16) rfl ?_
    show Steps p.tables e below (T3.setTop (mkF m 17 #[.val (.ref a1), .val (.int (3 : Int32))] [(.int (3 : Int32))])) _
    refine XS.iconst X3.here hx rfl (hb hby d5_17) ?_
    show Steps p.tables e below (T3.setTop (mkF m 18 #[.val (.ref a1), .val (.int (3 : Int32))] [(.int (1 : Int32)), (.int (3 : Int32))])) _
    refine XS.icmpNo X3.here hx rfl (hb hby d5_18) rfl (tlt (by decide)).2.2.2 ?_
    show Steps p.tables e below (T3.setTop (mkF m 21 #[.val (.ref a1), .val (.int (3 : Int32))] [])) _
    refine XS.aloadN X3.here hx rfl (hb hby d5_21) rfl rfl ?_
    show Steps p.tables e below (T3.setTop (mkF m 22 #[.val (.ref a1), .val (.int (3 : Int32))] [(.ref a1)])) _
    refine XS.iconst X3.here hx rfl (hb hby d5_22) ?_
    show Steps p.tables e below (T3.setTop (mkF m 23 #[.val (.ref a1), .val (.int (3 : Int32))] [(.int (1 : Int32)), (.ref a1)])) _
    refine XS.aloadN X3.here hx rfl (hb hby d5_23) rfl rfl ?_
    show Steps p.tables e below (T3.setTop (mkF m 24 #[.val (.ref a1), .val (.int (3 : Int32))] [(.ref a1), (.int (1 : Int32)), (.ref a1)])) _
    refine XS.iconst X3.here hx rfl (hb hby d5_24) ?_
    show Steps p.tables e below (T3.setTop (mkF m 25 #[.val (.ref a1), .val (.int (3 : Int32))] [(.int (1 : Int32)), (.ref a1), (.int (1 : Int32)), (.ref a1)])) _
    refine X3.baloadBytes hx (j := (1 : Int32)) (v := (.int y1)) (by rw [e3]; exact Ar_1.1) (State.isArrayOf_alike hZ.alike Ar_1.2.1) Ar_1.2.2 hin29 hat_1 (g := (mkF m 25 #[.val (.ref a1), .val (.int (3 : Int32))] [(.int (1 : Int32)), (.ref a1), (.int (1 : Int32)), (.ref a1)])) rfl rfl (hb hby d5_25) _ ?_
    show Steps p.tables e below (T3.setTop (mkF m 26 #[.val (.ref a1), .val (.int (3 : Int32))] [(.int y1), (.int (1 : Int32)), (.ref a1)])) _
    refine XS.iconst X3.here hx rfl (hb hby d5_26) ?_
    show Steps p.tables e below (T3.setTop (mkF m 27 #[.val (.ref a1), .val (.int (3 : Int32))] [(.int (-1 : Int32)), (.int y1), (.int (1 : Int32)), (.ref a1)])) _
    refine XS.ixor X3.here hx rfl (hb hby d5_27) rfl ?_
    show Steps p.tables e below (T3.setTop (mkF m 28 #[.val (.ref a1), .val (.int (3 : Int32))] [(.int (y1 ^^^ (-1 : Int32))), (.int (1 : Int32)), (.ref a1)])) _
    refine XS.i2b X3.here hx rfl (hb hby d5_28) rfl ?_
    show Steps p.tables e below (T3.setTop (mkF m 29 #[.val (.ref a1), .val (.int (3 : Int32))] [(.int ((y1 ^^^ (-1 : Int32)).toInt8.toInt32)), (.int (1 : Int32)), (.ref a1)])) _
    refine st5 _ ?_
    show Steps p.tables e below (T5.setTop (mkF m 30 #[.val (.ref a1), .val (.int (3 : Int32))] [])) _
    refine XS.iloadN X5.here hx rfl (hb hby d5_30) rfl ?_
    show Steps p.tables e below (T5.setTop (mkF m 31 #[.val (.ref a1), .val (.int (3 : Int32))] [(.int (3 : Int32))])) _
    refine XS.iconst X5.here hx rfl (hb hby d5_31) ?_
    show Steps p.tables e below (T5.setTop (mkF m 32 #[.val (.ref a1), .val (.int (3 : Int32))] [(.int (2 : Int32)), (.int (3 : Int32))])) _
    refine XS.icmpNo X5.here hx rfl (hb hby d5_32) rfl (tlt (by decide)).2.2.2 ?_
    show Steps p.tables e below (T5.setTop (mkF m 35 #[.val (.ref a1), .val (.int (3 : Int32))] [])) _
    refine XS.aloadN X5.here hx rfl (hb hby d5_35) rfl rfl ?_
    show Steps p.tables e below (T5.setTop (mkF m 36 #[.val (.ref a1), .val (.int (3 : Int32))] [(.ref a1)])) _
    refine XS.iconst X5.here hx rfl (hb hby d5_36) ?_
    show Steps p.tables e below (T5.setTop (mkF m 37 #[.val (.ref a1), .val (.int (3 : Int32))] [(.int (2 : Int32)), (.ref a1)])) _
    refine XS.aloadN X5.here hx rfl (hb hby d5_37) rfl rfl ?_
    show Steps p.tables e below (T5.setTop (mkF m 38 #[.val (.ref a1), .val (.int (3 : Int32))] [(.ref a1), (.int (2 : Int32)), (.ref a1)])) _
    refine XS.iconst X5.here hx rfl (hb hby d5_38) ?_
    show Steps p.tables e below (T5.setTop (mkF m 39 #[.val (.ref a1), .val (.int (3 : Int32))] [(.int (2 : Int32)), (.ref a1), (.int (2 : Int32)), (.ref a1)])) _
    refine X5.baloadBytes hx (j := (2 : Int32)) (v := (.int y2)) (by rw [e5]; exact Ar_2.1) (State.isArrayOf_alike hZ.alike Ar_2.2.1) Ar_2.2.2 hin43 hat_2 (g := (mkF m 39 #[.val (.ref a1), .val (.int (3 : Int32))] [(.int (2 : Int32)), (.ref a1), (.int (2 : Int32)), (.ref a1)])) rfl rfl (hb hby d5_39) _ ?_
    show Steps p.tables e below (T5.setTop (mkF m 40 #[.val (.ref a1), .val (.int (3 : Int32))] [(.int y2), (.int (2 : Int32)), (.ref a1)])) _
    refine XS.iconst X5.here hx rfl (hb hby d5_40) ?_
    show Steps p.tables e below (T5.setTop (mkF m 41 #[.val (.ref a1), .val (.int (3 : Int32))] [(.int (-1 : Int32)), (.int y2), (.int (2 : Int32)), (.ref a1)])) _
    refine XS.ixor X5.here hx rfl (hb hby d5_41) rfl ?_
    show Steps p.tables e below (T5.setTop (mkF m 42 #[.val (.ref a1), .val (.int (3 : Int32))] [(.int (y2 ^^^ (-1 : Int32))), (.int (2 : Int32)), (.ref a1)])) _
    refine XS.i2b X5.here hx rfl (hb hby d5_42) rfl ?_
    show Steps p.tables e below (T5.setTop (mkF m 43 #[.val (.ref a1), .val (.int (3 : Int32))] [(.int ((y2 ^^^ (-1 : Int32)).toInt8.toInt32)), (.int (2 : Int32)), (.ref a1)])) _
    refine st7 _ ?_
    show Steps p.tables e below (T7.setTop (mkF m 44 #[.val (.ref a1), .val (.int (3 : Int32))] [])) _
    refine XS.iloadN X7.here hx rfl (hb hby d5_44) rfl ?_
    show Steps p.tables e below (T7.setTop (mkF m 45 #[.val (.ref a1), .val (.int (3 : Int32))] [(.int (3 : Int32))])) _
    refine XS.iconst X7.here hx rfl (hb hby d5_45) ?_
    show Steps p.tables e below (T7.setTop (mkF m 46 #[.val (.ref a1), .val (.int (3 : Int32))] [(.int (3 : Int32)), (.int (3 : Int32))])) _
    refine XS.icmpYes X7.here hx rfl (pc0 := 46) (pc' := 58) rfl (hb hby d5_46) rfl (flt (by decide)).2.2.2 (by decide) (by decide) ?_
    show Steps p.tables e below (T7.setTop (mkF m 58 #[.val (.ref a1), .val (.int (3 : Int32))] [])) _
    exact X7.returnOut hx Bd.returns (hb hby d5_58) hr
  · show Q5 Z a1 h0 n0 _ T7.heap _
    rw [e7]
    exact ⟨rfl, N7, K7⟩
theorem d5_49 : decode method_4_code 49 = .ok (.aload_n 0, 1) := by decide +kernel
theorem d5_50 : decode method_4_code 50 = .ok (.iconst 3, 1) := by decide +kernel
theorem d5_51 : decode method_4_code 51 = .ok (.aload_n 0, 1) := by decide +kernel
theorem d5_52 : decode method_4_code 52 = .ok (.iconst 3, 1) := by decide +kernel
theorem d5_53 : decode method_4_code 53 = .ok (.baload, 1) := by decide +kernel
theorem d5_54 : decode method_4_code 54 = .ok (.iconst (-1), 1) := by decide +kernel
theorem d5_55 : decode method_4_code 55 = .ok (.ixor, 1) := by decide +kernel
theorem d5_56 : decode method_4_code 56 = .ok (.i2b, 1) := by decide +kernel
theorem d5_57 : decode method_4_code 57 = .ok (.bastore, 1) := by decide +kernel
set_option maxRecDepth 65536 in
set_option maxHeartbeats 40000000 in
theorem rm5_4 (l : Launch) (Z : State) (a0 : Array Value) (hw : ∀ d ∈ tables_1, d.before a0 Z = true) (ws : List Jvm.Cond) (a1 : Addr) (k : ClassId) (y0 : Int32) (y1 : Int32) (y2 : Int32) (y3 : Int32) (dv : Value) (h0 : Heap) (n0 : Nat) (Z0 : n0 ≤ h0.size) (V : Arv Z h0 a1 k .byte (4 : Int32) [.int y0, .int y1, .int y2, .int y3] dv) (g_a1 : n0 ≤ a1) :
    MetFree l (⟨"com/example/quotewire/quotewire/wire/FrameBinaryPinLaw", "flip", "([B)V"⟩ : MethodName) (head1 (Jvm.Cond.code (⟨"com/example/quotewire/quotewire/wire/FrameBinaryPinLaw", "flip", "([B)V"⟩ : MethodName) method_4_code 2 none :: ws) ({ frames := 0, cells := 0, slots := 0, locals := 0 } : Room)) (fun a U => a = #[(.ref a1)] ∧ Z.Warmed39 U.vm ∧ U.heap = h0) (fun _ _ _ _ _ => True) (fun _ U o U' => ∃ v L, o = .returned v ∧ Q5 Z a1 h0 n0 v U'.heap L ∧ FrameEnd U o U' L ({ frames := 0, cells := 0, slots := 0, locals := 0 } : Room).cells ({ frames := 0, cells := 0, slots := 0, locals := 0 } : Room).slots) := by
  refine MetFree.of_bodySF (plainFor_of_name pn_5) hisR ?_
  intro p e s m args below meth c s₁ Bd hml0 hP hK
  obtain ⟨rfl, hZ, hh⟩ := hP
  have hx := Bd.exec
  have hby := Bd.bytes
  have hml : c.maxLocals = 2 := hml0
  have hown : s.vm.findClass "com/example/quotewire/quotewire/wire/FrameBinaryPinLaw" = some m.cls := findClass_of_methodNamed Bd.named
  have hnm := (name_of_methodNamed Bd.named Bd.method).1
  have X0 : Stand p l e ({ frames := 0, cells := 0, slots := 0, locals := 0 } : Room) s m #[(.ref a1)] below meth c s₁ [] 0 0 := Stand.of_body Bd
  have e0 : s₁.heap = h0 := by rw [← hh, Bd.state]; rfl
  have N0 := Fr.nil n0
  have pre0 : ∀ t, Steps p.tables e below (s₁.setTop (mkF m 0 #[.val (.ref a1), .unset] [])) t → Steps p.tables e below (s₁.setTop (entryFrame m #[(.ref a1)] 2)) t := fun t k => castTop (ef_5 m a1) k
  -- 3. LAWS
  obtain ⟨c_0, Ar_0, q_0, S_0, N_0, H_0, G_0⟩ := V
  have hin15 := inb_of (j := (0 : Int32)) S_0 ⟨by decide, by decide⟩
  have hat_0 : c_0.slots[((0 : Int32)).toNatClampNeg]? = some (.int y0) := H_0 _ (Nat.lt_of_not_le fun q => hin15 (Or.inr q))
  obtain ⟨T3, h3, X3, e3, W3, st3⟩ := stB X0 hx hZ e0 Ar_0 (j := (0 : Int32)) hin15 (g := (mkF m 15 #[.val (.ref a1), .val (.int (4 : Int32))] [(.int ((y0 ^^^ (-1 : Int32)).toInt8.toInt32)), (.int (0 : Int32)), (.ref a1)])) rfl rfl (hb hby d5_15)
  have V_1 : Arv Z h3 a1 k .byte (4 : Int32) [.int (nar .byte ((y0 ^^^ (-1 : Int32)).toInt8.toInt32)), .int y1, .int y2, .int y3] dv := Arv.set Ar_0 q_0 S_0 N_0 H_0 G_0 (fits_nar_byte _) W3 0 rfl (Nat.le_of_ble_eq_true rfl)
  obtain ⟨c_1, Ar_1, q_1, S_1, N_1, H_1, G_1⟩ := V_1
  have N3 := Fr.snoc X3 N0 g_a1
  have K3 : Keep h0 h3 [a1] := (Keep.refl h0 [a1]).wr W3 (Or.inl (List.mem_of_getElem? (i := 0) rfl))
  have hin29 := inb_of (j := (1 : Int32)) S_1 ⟨by decide, by decide⟩
  have hat_1 : c_1.slots[((1 : Int32)).toNatClampNeg]? = some (.int y1) := H_1 _ (Nat.lt_of_not_le fun q => hin29 (Or.inr q))
  obtain ⟨T5, h5, X5, e5, W5, st5⟩ := stB X3 hx hZ e3 Ar_1 (j := (1 : Int32)) hin29 (g := (mkF m 29 #[.val (.ref a1), .val (.int (4 : Int32))] [(.int ((y1 ^^^ (-1 : Int32)).toInt8.toInt32)), (.int (1 : Int32)), (.ref a1)])) rfl rfl (hb hby d5_29)
  have V_2 : Arv Z h5 a1 k .byte (4 : Int32) [.int (nar .byte ((y0 ^^^ (-1 : Int32)).toInt8.toInt32)), .int (nar .byte ((y1 ^^^ (-1 : Int32)).toInt8.toInt32)), .int y2, .int y3] dv := Arv.set Ar_1 q_1 S_1 N_1 H_1 G_1 (fits_nar_byte _) W5 1 rfl (Nat.le_of_ble_eq_true rfl)
  obtain ⟨c_2, Ar_2, q_2, S_2, N_2, H_2, G_2⟩ := V_2
  have N5 := Fr.snoc X5 N3 g_a1
  have K5 : Keep h0 h5 [a1] := K3.wr W5 (Or.inl (List.mem_of_getElem? (i := 0) rfl))
  have hin43 := inb_of (j := (2 : Int32)) S_2 ⟨by decide, by decide⟩
  have hat_2 : c_2.slots[((2 : Int32)).toNatClampNeg]? = some (.int y2) := H_2 _ (Nat.lt_of_not_le fun q => hin43 (Or.inr q))
  obtain ⟨T7, h7, X7, e7, W7, st7⟩ := stB X5 hx hZ e5 Ar_2 (j := (2 : Int32)) hin43 (g := (mkF m 43 #[.val (.ref a1), .val (.int (4 : Int32))] [(.int ((y2 ^^^ (-1 : Int32)).toInt8.toInt32)), (.int (2 : Int32)), (.ref a1)])) rfl rfl (hb hby d5_43)
  have V_3 : Arv Z h7 a1 k .byte (4 : Int32) [.int (nar .byte ((y0 ^^^ (-1 : Int32)).toInt8.toInt32)), .int (nar .byte ((y1 ^^^ (-1 : Int32)).toInt8.toInt32)), .int (nar .byte ((y2 ^^^ (-1 : Int32)).toInt8.toInt32)), .int y3] dv := Arv.set Ar_2 q_2 S_2 N_2 H_2 G_2 (fits_nar_byte _) W7 2 rfl (Nat.le_of_ble_eq_true rfl)
  obtain ⟨c_3, Ar_3, q_3, S_3, N_3, H_3, G_3⟩ := V_3
  have N7 := Fr.snoc X7 N5 g_a1
  have K7 : Keep h0 h7 [a1] := K5.wr W7 (Or.inl (List.mem_of_getElem? (i := 0) rfl))
  have hin57 := inb_of (j := (3 : Int32)) S_3 ⟨by decide, by decide⟩
  have hat_3 : c_3.slots[((3 : Int32)).toNatClampNeg]? = some (.int y3) := H_3 _ (Nat.lt_of_not_le fun q => hin57 (Or.inr q))
  obtain ⟨T9, h9, X9, e9, W9, st9⟩ := stB X7 hx hZ e7 Ar_3 (j := (3 : Int32)) hin57 (g := (mkF m 57 #[.val (.ref a1), .val (.int (4 : Int32))] [(.int ((y3 ^^^ (-1 : Int32)).toInt8.toInt32)), (.int (3 : Int32)), (.ref a1)])) rfl rfl (hb hby d5_57)
  have V_4 : Arv Z h9 a1 k .byte (4 : Int32) [.int (nar .byte ((y0 ^^^ (-1 : Int32)).toInt8.toInt32)), .int (nar .byte ((y1 ^^^ (-1 : Int32)).toInt8.toInt32)), .int (nar .byte ((y2 ^^^ (-1 : Int32)).toInt8.toInt32)), .int (nar .byte ((y3 ^^^ (-1 : Int32)).toInt8.toInt32))] dv := Arv.set Ar_3 q_3 S_3 N_3 H_3 G_3 (fits_nar_byte _) W9 3 rfl (Nat.le_of_ble_eq_true rfl)
  obtain ⟨c_4, Ar_4, q_4, S_4, N_4, H_4, G_4⟩ := V_4
  have N9 := Fr.snoc X9 N7 g_a1
  have K9 : Keep h0 h9 [a1] := K7.wr W9 (Or.inl (List.mem_of_getElem? (i := 0) rfl))
  obtain ⟨fs, hr, hrun, hended, hW, hsame⟩ := X9.leave (v := none) (fun _ => rfl)
  refine ⟨_, _, pre0 _ ?_, hrun, hended, _, _, rfl, ?_, ⟨_, rfl⟩, hW, hsame.mono (by decide) (by decide)⟩
  -- 4. STEPS
  · show Steps p.tables e below (s₁.setTop (mkF m 0 #[.val (.ref a1), .unset] [])) _
    refine XS.aloadN X0.here hx rfl (hb hby d5_0) rfl rfl ?_
    show Steps p.tables e below (s₁.setTop (mkF m 1 #[.val (.ref a1), .unset] [(.ref a1)])) _
    refine X0.arraylength hx (by rw [e0]; exact Ar_0.1) (State.isArrayOf_alike hZ.alike Ar_0.2.1) (g := (mkF m 1 #[.val (.ref a1), .unset] [(.ref a1)])) rfl rfl (hb hby d5_1) _ ?_
    rw [len_of S_0 N_0]
    show Steps p.tables e below (s₁.setTop (mkF m 2 #[.val (.ref a1), .unset] [(.int (4 : Int32))])) _
    refine XS.istoreN X0.here hx rfl (hb hby d5_2) rfl (l' := #[.val (.ref a1), .val (.int (4 : Int32))]) rfl ?_
    show Steps p.tables e below (s₁.setTop (mkF m 3 #[.val (.ref a1), .val (.int (4 : Int32))] [])) _
    refine XS.iloadN X0.here hx rfl (hb hby d5_3) rfl ?_
    show Steps p.tables e below (s₁.setTop (mkF m 4 #[.val (.ref a1), .val (.int (4 : Int32))] [(.int (4 : Int32))])) _
    refine XS.ifNo X0.here hx rfl (hb hby d5_4) rfl ((if0 _ _).trans (tlt (by decide)).2.2.2) ?_
    show Steps p.tables e below (s₁.setTop (mkF m 7 #[.val (.ref a1), .val (.int (4 : Int32))] [])) _
    refine XS.aloadN X0.here hx rfl (hb hby d5_7) rfl rfl ?_
    show Steps p.tables e below (s₁.setTop (mkF m 8 #[.val (.ref a1), .val (.int (4 : Int32))] [(.ref a1)])) _
    refine XS.iconst X0.here hx rfl (hb hby d5_8) ?_
    show Steps p.tables e below (s₁.setTop (mkF m 9 #[.val (.ref a1), .val (.int (4 : Int32))] [(.int (0 : Int32)), (.ref a1)])) _
    refine XS.aloadN X0.here hx rfl (hb hby d5_9) rfl rfl ?_
    show Steps p.tables e below (s₁.setTop (mkF m 10 #[.val (.ref a1), .val (.int (4 : Int32))] [(.ref a1), (.int (0 : Int32)), (.ref a1)])) _
    refine XS.iconst X0.here hx rfl (hb hby d5_10) ?_
    show Steps p.tables e below (s₁.setTop (mkF m 11 #[.val (.ref a1), .val (.int (4 : Int32))] [(.int (0 : Int32)), (.ref a1), (.int (0 : Int32)), (.ref a1)])) _
    refine X0.baloadBytes hx (j := (0 : Int32)) (v := (.int y0)) (by rw [e0]; exact Ar_0.1) (State.isArrayOf_alike hZ.alike Ar_0.2.1) Ar_0.2.2 hin15 hat_0 (g := (mkF m 11 #[.val (.ref a1), .val (.int (4 : Int32))] [(.int (0 : Int32)), (.ref a1), (.int (0 : Int32)), (.ref a1)])) rfl rfl (hb hby d5_11) _ ?_
    show Steps p.tables e below (s₁.setTop (mkF m 12 #[.val (.ref a1), .val (.int (4 : Int32))] [(.int y0), (.int (0 : Int32)), (.ref a1)])) _
    refine XS.iconst X0.here hx rfl (hb hby d5_12) ?_
    show Steps p.tables e below (s₁.setTop (mkF m 13 #[.val (.ref a1), .val (.int (4 : Int32))] [(.int (-1 : Int32)), (.int y0), (.int (0 : Int32)), (.ref a1)])) _
    refine XS.ixor X0.here hx rfl (hb hby d5_13) rfl ?_
    show Steps p.tables e below (s₁.setTop (mkF m 14 #[.val (.ref a1), .val (.int (4 : Int32))] [(.int (y0 ^^^ (-1 : Int32))), (.int (0 : Int32)), (.ref a1)])) _
    refine XS.i2b X0.here hx rfl (hb hby d5_14) rfl ?_
    show Steps p.tables e below (s₁.setTop (mkF m 15 #[.val (.ref a1), .val (.int (4 : Int32))] [(.int ((y0 ^^^ (-1 : Int32)).toInt8.toInt32)), (.int (0 : Int32)), (.ref a1)])) _
    refine st3 _ ?_
    show Steps p.tables e below (T3.setTop (mkF m 16 #[.val (.ref a1), .val (.int (4 : Int32))] [])) _
    refine XS.iloadN X3.here hx rfl (hb hby d5_16) rfl ?_
    show Steps p.tables e below (T3.setTop (mkF m 17 #[.val (.ref a1), .val (.int (4 : Int32))] [(.int (4 : Int32))])) _
    refine XS.iconst X3.here hx rfl (hb hby d5_17) ?_
    show Steps p.tables e below (T3.setTop (mkF m 18 #[.val (.ref a1), .val (.int (4 : Int32))] [(.int (1 : Int32)), (.int (4 : Int32))])) _
    refine XS.icmpNo X3.here hx rfl (hb hby d5_18) rfl (tlt (by decide)).2.2.2 ?_
    show Steps p.tables e below (T3.setTop (mkF m 21 #[.val (.ref a1), .val (.int (4 : Int32))] [])) _
    refine XS.aloadN X3.here hx rfl (hb hby d5_21) rfl rfl ?_
    show Steps p.tables e below (T3.setTop (mkF m 22 #[.val (.ref a1), .val (.int (4 : Int32))] [(.ref a1)])) _
    refine XS.iconst X3.here hx rfl (hb hby d5_22) ?_
    show Steps p.tables e below (T3.setTop (mkF m 23 #[.val (.ref a1), .val (.int (4 : Int32))] [(.int (1 : Int32)), (.ref a1)])) _
    refine XS.aloadN X3.here hx rfl (hb hby d5_23) rfl rfl ?_
    show Steps p.tables e below (T3.setTop (mkF m 24 #[.val (.ref a1), .val (.int (4 : Int32))] [(.ref a1), (.int (1 : Int32)), (.ref a1)])) _
    refine XS.iconst X3.here hx rfl (hb hby d5_24) ?_
    show Steps p.tables e below (T3.setTop (mkF m 25 #[.val (.ref a1), .val (.int (4 : Int32))] [(.int (1 : Int32)), (.ref a1), (.int (1 : Int32)), (.ref a1)])) _
    refine X3.baloadBytes hx (j := (1 : Int32)) (v := (.int y1)) (by rw [e3]; exact Ar_1.1) (State.isArrayOf_alike hZ.alike Ar_1.2.1) Ar_1.2.2 hin29 hat_1 (g := (mkF m 25 #[.val (.ref a1), .val (.int (4 : Int32))] [(.int (1 : Int32)), (.ref a1), (.int (1 : Int32)), (.ref a1)])) rfl rfl (hb hby d5_25) _ ?_
    show Steps p.tables e below (T3.setTop (mkF m 26 #[.val (.ref a1), .val (.int (4 : Int32))] [(.int y1), (.int (1 : Int32)), (.ref a1)])) _
    refine XS.iconst X3.here hx rfl (hb hby d5_26) ?_
    show Steps p.tables e below (T3.setTop (mkF m 27 #[.val (.ref a1), .val (.int (4 : Int32))] [(.int (-1 : Int32)), (.int y1), (.int (1 : Int32)), (.ref a1)])) _
    refine XS.ixor X3.here hx rfl (hb hby d5_27) rfl ?_
    show Steps p.tables e below (T3.setTop (mkF m 28 #[.val (.ref a1), .val (.int (4 : Int32))] [(.int (y1 ^^^ (-1 : Int32))), (.int (1 : Int32)), (.ref a1)])) _
    refine XS.i2b X3.here hx rfl (hb hby d5_28) rfl ?_
    show Steps p.tables e below (T3.setTop (mkF m 29 #[.val (.ref a1), .val (.int (4 : Int32))] [(.int ((y1 ^^^ (-1 : Int32)).toInt8.toInt32)), (.int (1 : Int32)), (.ref a1)])) _
    refine st5 _ ?_
    show Steps p.tables e below (T5.setTop (mkF m 30 #[.val (.ref a1), .val (.int (4 : Int32))] [])) _
    refine XS.iloadN X5.here hx rfl (hb hby d5_30) rfl ?_
    show Steps p.tables e below (T5.setTop (mkF m 31 #[.val (.ref a1), .val (.int (4 : Int32))] [(.int (4 : Int32))])) _
    refine XS.iconst X5.here hx rfl (hb hby d5_31) ?_
    show Steps p.tables e below (T5.setTop (mkF m 32 #[.val (.ref a1), .val (.int (4 : Int32))] [(.int (2 : Int32)), (.int (4 : Int32))])) _
    refine XS.icmpNo X5.here hx rfl (hb hby d5_32) rfl (tlt (by decide)).2.2.2 ?_
    show Steps p.tables e below (T5.setTop (mkF m 35 #[.val (.ref a1), .val (.int (4 : Int32))] [])) _
    refine XS.aloadN X5.here hx rfl (hb hby d5_35) rfl rfl ?_
    show Steps p.tables e below (T5.setTop (mkF m 36 #[.val (.ref a1), .val (.int (4 : Int32))] [(.ref a1)])) _
    refine XS.iconst X5.here hx rfl (hb hby d5_36) ?_
    show Steps p.tables e below (T5.setTop (mkF m 37 #[.val (.ref a1), .val (.int (4 : Int32))] [(.int (2 : Int32)), (.ref a1)])) _
    refine XS.aloadN X5.here hx rfl (hb hby d5_37) rfl rfl ?_
    show Steps p.tables e below (T5.setTop (mkF m 38 #[.val (.ref a1), .val (.int (4 : Int32))] [(.ref a1), (.int (2 : Int32)), (.ref a1)])) _
    refine XS.iconst X5.here hx rfl (hb hby d5_38) ?_
    show Steps p.tables e below (T5.setTop (mkF m 39 #[.val (.ref a1), .val (.int (4 : Int32))] [(.int (2 : Int32)), (.ref a1), (.int (2 : Int32)), (.ref a1)])) _
    refine X5.baloadBytes hx (j := (2 : Int32)) (v := (.int y2)) (by rw [e5]; exact Ar_2.1) (State.isArrayOf_alike hZ.alike Ar_2.2.1) Ar_2.2.2 hin43 hat_2 (g := (mkF m 39 #[.val (.ref a1), .val (.int (4 : Int32))] [(.int (2 : Int32)), (.ref a1), (.int (2 : Int32)), (.ref a1)])) rfl rfl (hb hby d5_39) _ ?_
    show Steps p.tables e below (T5.setTop (mkF m 40 #[.val (.ref a1), .val (.int (4 : Int32))] [(.int y2), (.int (2 : Int32)), (.ref a1)])) _
    refine XS.iconst X5.here hx rfl (hb hby d5_40) ?_
    show Steps p.tables e below (T5.setTop (mkF m 41 #[.val (.ref a1), .val (.int (4 : Int32))] [(.int (-1 : Int32)), (.int y2), (.int (2 : Int32)), (.ref a1)])) _
    refine XS.ixor X5.here hx rfl (hb hby d5_41) rfl ?_
    show Steps p.tables e below (T5.setTop (mkF m 42 #[.val (.ref a1), .val (.int (4 : Int32))] [(.int (y2 ^^^ (-1 : Int32))), (.int (2 : Int32)), (.ref a1)])) _
    refine XS.i2b X5.here hx rfl (hb hby d5_42) rfl ?_
    show Steps p.tables e below (T5.setTop (mkF m 43 #[.val (.ref a1), .val (.int (4 : Int32))] [(.int ((y2 ^^^ (-1 : Int32)).toInt8.toInt32)), (.int (2 : Int32)), (.ref a1)])) _
    refine st7 _ ?_
    show Steps p.tables e below (T7.setTop (mkF m 44 #[.val (.ref a1), .val (.int (4 : Int32))] [])) _
    refine XS.iloadN X7.here hx rfl (hb hby d5_44) rfl ?_
    show Steps p.tables e below (T7.setTop (mkF m 45 #[.val (.ref a1), .val (.int (4 : Int32))] [(.int (4 : Int32))])) _
    refine XS.iconst X7.here hx rfl (hb hby d5_45) ?_
    show Steps p.tables e below (T7.setTop (mkF m 46 #[.val (.ref a1), .val (.int (4 : Int32))] [(.int (3 : Int32)), (.int (4 : Int32))])) _
    refine XS.icmpNo X7.here hx rfl (hb hby d5_46) rfl (tlt (by decide)).2.2.2 ?_
    show Steps p.tables e below (T7.setTop (mkF m 49 #[.val (.ref a1), .val (.int (4 : Int32))] [])) _
    refine XS.aloadN X7.here hx rfl (hb hby d5_49) rfl rfl ?_
    show Steps p.tables e below (T7.setTop (mkF m 50 #[.val (.ref a1), .val (.int (4 : Int32))] [(.ref a1)])) _
    refine XS.iconst X7.here hx rfl (hb hby d5_50) ?_
    show Steps p.tables e below (T7.setTop (mkF m 51 #[.val (.ref a1), .val (.int (4 : Int32))] [(.int (3 : Int32)), (.ref a1)])) _
    refine XS.aloadN X7.here hx rfl (hb hby d5_51) rfl rfl ?_
    show Steps p.tables e below (T7.setTop (mkF m 52 #[.val (.ref a1), .val (.int (4 : Int32))] [(.ref a1), (.int (3 : Int32)), (.ref a1)])) _
    refine XS.iconst X7.here hx rfl (hb hby d5_52) ?_
    show Steps p.tables e below (T7.setTop (mkF m 53 #[.val (.ref a1), .val (.int (4 : Int32))] [(.int (3 : Int32)), (.ref a1), (.int (3 : Int32)), (.ref a1)])) _
    refine X7.baloadBytes hx (j := (3 : Int32)) (v := (.int y3)) (by rw [e7]; exact Ar_3.1) (State.isArrayOf_alike hZ.alike Ar_3.2.1) Ar_3.2.2 hin57 hat_3 (g := (mkF m 53 #[.val (.ref a1), .val (.int (4 : Int32))] [(.int (3 : Int32)), (.ref a1), (.int (3 : Int32)), (.ref a1)])) rfl rfl (hb hby d5_53) _ ?_
    show Steps p.tables e below (T7.setTop (mkF m 54 #[.val (.ref a1), .val (.int (4 : Int32))] [(.int y3), (.int (3 : Int32)), (.ref a1)])) _
    refine XS.iconst X7.here hx rfl (hb hby d5_54) ?_
    show Steps p.tables e below (T7.setTop (mkF m 55 #[.val (.ref a1), .val (.int (4 : Int32))] [(.int (-1 : Int32)), (.int y3), (.int (3 : Int32)), (.ref a1)])) _
    refine XS.ixor X7.here hx rfl (hb hby d5_55) rfl ?_
    show Steps p.tables e below (T7.setTop (mkF m 56 #[.val (.ref a1), .val (.int (4 : Int32))] [(.int (y3 ^^^ (-1 : Int32))), (.int (3 : Int32)), (.ref a1)])) _
    refine XS.i2b X7.here hx rfl (hb hby d5_56) rfl ?_
    show Steps p.tables e below (T7.setTop (mkF m 57 #[.val (.ref a1), .val (.int (4 : Int32))] [(.int ((y3 ^^^ (-1 : Int32)).toInt8.toInt32)), (.int (3 : Int32)), (.ref a1)])) _
    refine st9 _ ?_
    show Steps p.tables e below (T9.setTop (mkF m 58 #[.val (.ref a1), .val (.int (4 : Int32))] [])) _
    exact X9.returnOut hx Bd.returns (hb hby d5_58) hr
  · show Q5 Z a1 h0 n0 _ T9.heap _
    rw [e9]
    exact ⟨rfl, N9, K9⟩
theorem d7_0 : decode method_3_code 0 = .ok (.aload_n 0, 1) := by decide +kernel
theorem d7_1 : decode method_3_code 1 = .ok (.ifnull 9, 3) := by decide +kernel
theorem d7_4 : decode method_3_code 4 = .ok (.aload_n 0, 1) := by decide +kernel
theorem d7_5 : decode method_3_code 5 = .ok (.arraylength, 1) := by decide +kernel
theorem d7_6 : decode method_3_code 6 = .ok (.iload_n 1, 1) := by decide +kernel
theorem d7_7 : decode method_3_code 7 = .ok (.if_icmp .eq 5, 3) := by decide +kernel
theorem d7_12 : decode method_3_code 12 = .ok (.iload_n 1, 1) := by decide +kernel
theorem d7_13 : decode method_3_code 13 = .ok (.ifCond .le 16, 3) := by decide +kernel
theorem d7_29 : decode method_3_code 29 = .ok (.iload_n 1, 1) := by decide +kernel
theorem d7_30 : decode method_3_code 30 = .ok (.iconst 1, 1) := by decide +kernel
theorem d7_31 : decode method_3_code 31 = .ok (.if_icmp .le 16, 3) := by decide +kernel
theorem d7_47 : decode method_3_code 47 = .ok (.iload_n 1, 1) := by decide +kernel
theorem d7_48 : decode method_3_code 48 = .ok (.iconst 2, 1) := by decide +kernel
theorem d7_49 : decode method_3_code 49 = .ok (.if_icmp .le 16, 3) := by decide +kernel
theorem d7_65 : decode method_3_code 65 = .ok (.iload_n 1, 1) := by decide +kernel
theorem d7_66 : decode method_3_code 66 = .ok (.iconst 3, 1) := by decide +kernel
theorem d7_67 : decode method_3_code 67 = .ok (.if_icmp .le 16, 3) := by decide +kernel
theorem d7_83 : decode method_3_code 83 = .ok (.iconst 1, 1) := by decide +kernel
theorem d7_84 : decode method_3_code 84 = .ok (.ireturn, 1) := by decide +kernel
theorem pn_7 : plainName "com/example/quotewire/quotewire/wire/FrameBinaryPinLaw" = true := by first | (simp [plainName, overriddenIn]; done) | decide +kernel
theorem ef_7 (m : MethodId) (x0 : Addr) (x1 : Int32) (x2 : Int32) : entryFrame m #[(.ref x0), (.int x1), (.int x2)] 3 = mkF m 0 #[.val (.ref x0), .val (.int x1), .val (.int x2)] [] := by first | (simp [entryFrame, mkF, argsToLocals, Value.category]; done) | rfl
def Q7 (Z : State) (a1 : Addr) (h0 : Heap) (n0 : Nat) (v : Option Value) (h : Heap) (L : List Loc) : Prop := v = some (.int (1 : Int32)) ∧ Fr n0 L ∧ h = h0
set_option maxRecDepth 65536 in
set_option maxHeartbeats 40000000 in
theorem rm7_0 (l : Launch) (Z : State) (a0 : Array Value) (hw : ∀ d ∈ tables_1, d.before a0 Z = true) (ws : List Jvm.Cond) (a1 : Addr) (p3 : Int32) (k : ClassId) (dv : Value) (h0 : Heap) (n0 : Nat) (Z0 : n0 ≤ h0.size) (V : Arv Z h0 a1 k .byte (0 : Int32) [] dv) :
    MetFree l (⟨"com/example/quotewire/quotewire/wire/FrameBinaryPinLaw", "same", "([BII)Z"⟩ : MethodName) (head1 (Jvm.Cond.code (⟨"com/example/quotewire/quotewire/wire/FrameBinaryPinLaw", "same", "([BII)Z"⟩ : MethodName) method_3_code 3 (some .boolean) :: ws) ({ frames := 0, cells := 0, slots := 0, locals := 0 } : Room)) (fun a U => a = #[(.ref a1), (.int (0 : Int32)), (.int p3)] ∧ Z.Warmed39 U.vm ∧ U.heap = h0) (fun _ _ _ _ _ => True) (fun _ U o U' => ∃ v L, o = .returned v ∧ Q7 Z a1 h0 n0 v U'.heap L ∧ FrameEnd U o U' L ({ frames := 0, cells := 0, slots := 0, locals := 0 } : Room).cells ({ frames := 0, cells := 0, slots := 0, locals := 0 } : Room).slots) := by
  refine MetFree.of_bodySF (plainFor_of_name pn_7) hisR ?_
  intro p e s m args below meth c s₁ Bd hml0 hP hK
  obtain ⟨rfl, hZ, hh⟩ := hP
  have hx := Bd.exec
  have hby := Bd.bytes
  have hml : c.maxLocals = 3 := hml0
  have hown : s.vm.findClass "com/example/quotewire/quotewire/wire/FrameBinaryPinLaw" = some m.cls := findClass_of_methodNamed Bd.named
  have hnm := (name_of_methodNamed Bd.named Bd.method).1
  have X0 : Stand p l e ({ frames := 0, cells := 0, slots := 0, locals := 0 } : Room) s m #[(.ref a1), (.int (0 : Int32)), (.int p3)] below meth c s₁ [] 0 0 := Stand.of_body Bd
  have e0 : s₁.heap = h0 := by rw [← hh, Bd.state]; rfl
  have N0 := Fr.nil n0
  have pre0 : ∀ t, Steps p.tables e below (s₁.setTop (mkF m 0 #[.val (.ref a1), .val (.int (0 : Int32)), .val (.int p3)] [])) t → Steps p.tables e below (s₁.setTop (entryFrame m #[(.ref a1), (.int (0 : Int32)), (.int p3)] 3)) t := fun t k => castTop (ef_7 m a1 (0 : Int32) p3) k
  -- 3. LAWS
  obtain ⟨c_0, Ar_0, q_0, S_0, N_0, H_0, G_0⟩ := V

  obtain ⟨fs, hr, hrun, hended, hW, hsame⟩ := X0.leave (v := some (.int (1 : Int32))) (fun h => by rw [Bd.returns] at h; cases h)
  refine ⟨_, _, pre0 _ ?_, hrun, hended, _, _, rfl, ?_, ⟨_, rfl⟩, hW, hsame.mono (by decide) (by decide)⟩
  · show Steps p.tables e below (s₁.setTop (mkF m 0 #[.val (.ref a1), .val (.int (0 : Int32)), .val (.int p3)] [])) _
    refine XS.aloadN X0.here hx rfl (hb hby d7_0) rfl rfl ?_
    show Steps p.tables e below (s₁.setTop (mkF m 1 #[.val (.ref a1), .val (.int (0 : Int32)), .val (.int p3)] [(.ref a1)])) _
    refine XS.ifnullNo X0.here hx rfl (hb hby d7_1) rfl ?_
    show Steps p.tables e below (s₁.setTop (mkF m 4 #[.val (.ref a1), .val (.int (0 : Int32)), .val (.int p3)] [])) _
    refine XS.aloadN X0.here hx rfl (hb hby d7_4) rfl rfl ?_
    show Steps p.tables e below (s₁.setTop (mkF m 5 #[.val (.ref a1), .val (.int (0 : Int32)), .val (.int p3)] [(.ref a1)])) _
    refine X0.arraylength hx (by rw [e0]; exact Ar_0.1) (State.isArrayOf_alike hZ.alike Ar_0.2.1) (g := (mkF m 5 #[.val (.ref a1), .val (.int (0 : Int32)), .val (.int p3)] [(.ref a1)])) rfl rfl (hb hby d7_5) _ ?_
    rw [len_of S_0 N_0]
    show Steps p.tables e below (s₁.setTop (mkF m 6 #[.val (.ref a1), .val (.int (0 : Int32)), .val (.int p3)] [(.int (0 : Int32))])) _
    refine XS.iloadN X0.here hx rfl (hb hby d7_6) rfl ?_
    show Steps p.tables e below (s₁.setTop (mkF m 7 #[.val (.ref a1), .val (.int (0 : Int32)), .val (.int p3)] [(.int (0 : Int32)), (.int (0 : Int32))])) _
    refine XS.icmpYes X0.here hx rfl (pc0 := 7) (pc' := 12) rfl (hb hby d7_7) rfl (teq (by decide)).1 (by decide) (by decide) ?_
    show Steps p.tables e below (s₁.setTop (mkF m 12 #[.val (.ref a1), .val (.int (0 : Int32)), .val (.int p3)] [])) _
    refine XS.iloadN X0.here hx rfl (hb hby d7_12) rfl ?_
    show Steps p.tables e below (s₁.setTop (mkF m 13 #[.val (.ref a1), .val (.int (0 : Int32)), .val (.int p3)] [(.int (0 : Int32))])) _
    refine XS.ifYes X0.here hx rfl (pc0 := 13) (pc' := 29) rfl (hb hby d7_13) rfl ((if0 _ _).trans (flt (by decide)).2.2.2) (by decide) (by decide) ?_
    show Steps p.tables e below (s₁.setTop (mkF m 29 #[.val (.ref a1), .val (.int (0 : Int32)), .val (.int p3)] [])) _
    refine XS.iloadN X0.here hx rfl (hb hby d7_29) rfl ?_
    show Steps p.tables e below (s₁.setTop (mkF m 30 #[.val (.ref a1), .val (.int (0 : Int32)), .val (.int p3)] [(.int (0 : Int32))])) _
    refine XS.iconst X0.here hx rfl (hb hby d7_30) ?_
    show Steps p.tables e below (s₁.setTop (mkF m 31 #[.val (.ref a1), .val (.int (0 : Int32)), .val (.int p3)] [(.int (1 : Int32)), (.int (0 : Int32))])) _
    refine XS.icmpYes X0.here hx rfl (pc0 := 31) (pc' := 47) rfl (hb hby d7_31) rfl (flt (by decide)).2.2.2 (by decide) (by decide) ?_
    show Steps p.tables e below (s₁.setTop (mkF m 47 #[.val (.ref a1), .val (.int (0 : Int32)), .val (.int p3)] [])) _
    refine XS.iloadN X0.here hx rfl (hb hby d7_47) rfl ?_
    show Steps p.tables e below (s₁.setTop (mkF m 48 #[.val (.ref a1), .val (.int (0 : Int32)), .val (.int p3)] [(.int (0 : Int32))])) _
    refine XS.iconst X0.here hx rfl (hb hby d7_48) ?_
    show Steps p.tables e below (s₁.setTop (mkF m 49 #[.val (.ref a1), .val (.int (0 : Int32)), .val (.int p3)] [(.int (2 : Int32)), (.int (0 : Int32))])) _
    refine XS.icmpYes X0.here hx rfl (pc0 := 49) (pc' := 65) rfl (hb hby d7_49) rfl (flt (by decide)).2.2.2 (by decide) (by decide) ?_
    show Steps p.tables e below (s₁.setTop (mkF m 65 #[.val (.ref a1), .val (.int (0 : Int32)), .val (.int p3)] [])) _
    refine XS.iloadN X0.here hx rfl (hb hby d7_65) rfl ?_
    show Steps p.tables e below (s₁.setTop (mkF m 66 #[.val (.ref a1), .val (.int (0 : Int32)), .val (.int p3)] [(.int (0 : Int32))])) _
    refine XS.iconst X0.here hx rfl (hb hby d7_66) ?_
    show Steps p.tables e below (s₁.setTop (mkF m 67 #[.val (.ref a1), .val (.int (0 : Int32)), .val (.int p3)] [(.int (3 : Int32)), (.int (0 : Int32))])) _
    refine XS.icmpYes X0.here hx rfl (pc0 := 67) (pc' := 83) rfl (hb hby d7_67) rfl (flt (by decide)).2.2.2 (by decide) (by decide) ?_
    show Steps p.tables e below (s₁.setTop (mkF m 83 #[.val (.ref a1), .val (.int (0 : Int32)), .val (.int p3)] [])) _
    refine XS.iconst X0.here hx rfl (hb hby d7_83) ?_
    show Steps p.tables e below (s₁.setTop (mkF m 84 #[.val (.ref a1), .val (.int (0 : Int32)), .val (.int p3)] [(.int (1 : Int32))])) _
    exact retN X0 hx (t := .boolean) Bd.returns (by simp) (hb hby d7_84) hr
  · show Q7 Z a1 h0 n0 _ s₁.heap _
    rw [e0]
    exact ⟨rfl, N0, rfl⟩
theorem d7_16 : decode method_3_code 16 = .ok (.aload_n 0, 1) := by decide +kernel
theorem d7_17 : decode method_3_code 17 = .ok (.iconst 0, 1) := by decide +kernel
theorem d7_18 : decode method_3_code 18 = .ok (.baload, 1) := by decide +kernel
theorem d7_19 : decode method_3_code 19 = .ok (.iload_n 2, 1) := by decide +kernel
theorem d7_20 : decode method_3_code 20 = .ok (.iconst 0, 1) := by decide +kernel
theorem d7_21 : decode method_3_code 21 = .ok (.invokestatic 7, 3) := by decide +kernel
theorem d7_24 : decode method_3_code 24 = .ok (.if_icmp .eq 5, 3) := by decide +kernel
theorem pd_7_11 : parseMethodDescriptor "(II)B" = some ⟨[.int, .int], some .byte⟩ := by decide +kernel
set_option maxRecDepth 65536 in
set_option maxHeartbeats 40000000 in
theorem rm7_1 (l : Launch) (Z : State) (a0 : Array Value) (hw : ∀ d ∈ tables_1, d.before a0 Z = true) (ws : List Jvm.Cond) (a1 : Addr) (p3 : Int32) (k : ClassId) (dv : Value) (h0 : Heap) (n0 : Nat) (Z0 : n0 ≤ h0.size) (V : Arv Z h0 a1 k .byte (1 : Int32) [.int (atF p3 0)] dv) :
    MetFree l (⟨"com/example/quotewire/quotewire/wire/FrameBinaryPinLaw", "same", "([BII)Z"⟩ : MethodName) (head1 (Jvm.Cond.code (⟨"com/example/quotewire/quotewire/wire/FrameBinaryPinLaw", "same", "([BII)Z"⟩ : MethodName) method_3_code 3 (some .boolean) :: ws) ({ frames := 1, cells := 0, slots := 0, locals := 14 } : Room)) (fun a U => a = #[(.ref a1), (.int (1 : Int32)), (.int p3)] ∧ Z.Warmed39 U.vm ∧ U.heap = h0) (fun _ _ _ _ _ => True) (fun _ U o U' => ∃ v L, o = .returned v ∧ Q7 Z a1 h0 n0 v U'.heap L ∧ FrameEnd U o U' L ({ frames := 1, cells := 0, slots := 0, locals := 14 } : Room).cells ({ frames := 1, cells := 0, slots := 0, locals := 14 } : Room).slots) := by
  refine MetFree.of_bodySF (plainFor_of_name pn_7) hisR ?_
  intro p e s m args below meth c s₁ Bd hml0 hP hK
  obtain ⟨rfl, hZ, hh⟩ := hP
  have hx := Bd.exec
  have hby := Bd.bytes
  have hml : c.maxLocals = 3 := hml0
  have hown : s.vm.findClass "com/example/quotewire/quotewire/wire/FrameBinaryPinLaw" = some m.cls := findClass_of_methodNamed Bd.named
  have hnm := (name_of_methodNamed Bd.named Bd.method).1
  have X0 : Stand p l e ({ frames := 1, cells := 0, slots := 0, locals := 14 } : Room) s m #[(.ref a1), (.int (1 : Int32)), (.int p3)] below meth c s₁ [] 0 0 := Stand.of_body Bd
  have e0 : s₁.heap = h0 := by rw [← hh, Bd.state]; rfl
  have N0 := Fr.nil n0
  have pre0 : ∀ t, Steps p.tables e below (s₁.setTop (mkF m 0 #[.val (.ref a1), .val (.int (1 : Int32)), .val (.int p3)] [])) t → Steps p.tables e below (s₁.setTop (entryFrame m #[(.ref a1), (.int (1 : Int32)), (.int p3)] 3)) t := fun t k => castTop (ef_7 m a1 (1 : Int32) p3) k
  -- 3. LAWS
  obtain ⟨c_0, Ar_0, q_0, S_0, N_0, H_0, G_0⟩ := V
  have hin_0 := inb_of (j := (0 : Int32)) S_0 ⟨by decide, by decide⟩
  have hat_0 : c_0.slots[((0 : Int32)).toNatClampNeg]? = some (.int (atF p3 (0 : Int32))) := H_0 _ (Nat.lt_of_not_le fun q => hin_0 (Or.inr q))
  obtain ⟨_, _, ⟨T5, L5, k5, n5⟩, -, X5, ⟨Lc5, hQ5, l5, y5, z5⟩, st5⟩ := Jvm.LawKit.callS X0 hx (y := (⟨"com/example/quotewire/quotewire/wire/FrameBinaryPinLaw", "at", "(II)B"⟩ : MethodName)) hown (mvT hZ (hw _ (List.mem_of_getElem? (i := 73) rfl))) (mvT hZ (hw _ (List.mem_of_getElem? (i := 74) rfl))) (mvT hZ (hw _ (List.mem_of_getElem? (i := 48) rfl))) (mvT hZ (hw _ (List.mem_of_getElem? (i := 75) rfl))) (by decide) (backOf (W := 1) (rm11 l Z a0 hw [] p3 (0 : Int32)  h0 n0 Z0 ) hZ (hw _ (List.mem_of_getElem? (i := 75) rfl)) (hw _ (List.mem_of_getElem? (i := 48) rfl)) (by decide) (by decide)) (g := (mkF m 21 #[.val (.ref a1), .val (.int (1 : Int32)), .val (.int p3)] [(.int (0 : Int32)), (.int p3), (.int (atF p3 (0 : Int32)))])) rfl (by rw [hml]; rfl) (argsL := [(.int p3), (.int (0 : Int32))]) (rest := [(.int (atF p3 (0 : Int32)))]) (lenOf pd_7_11 rfl) rfl (by show 2 * 0 + _ ≤ _; exact Nat.le_of_eq rfl) (hb hby d7_21) (fun _ _ => ⟨rfl, e0, (by decide : 0 + 0 ≤ _), (by decide : 0 + 0 ≤ _)⟩)
  dsimp only [Pt.U, Pt.locs, Pt.cells, Pt.slots] at X5 l5 y5 z5 st5 hQ5
  subst l5 y5 z5
  obtain ⟨rfl, N5q, q5⟩ := hQ5
  have N5 := Fr.app N0 N5q
  obtain ⟨fs, hr, hrun, hended, hW, hsame⟩ := X5.leave (v := some (.int (1 : Int32))) (fun h => by rw [Bd.returns] at h; cases h)
  refine ⟨_, _, pre0 _ ?_, hrun, hended, _, _, rfl, ?_, ⟨_, rfl⟩, hW, hsame.mono (by decide) (by decide)⟩
  · show Steps p.tables e below (s₁.setTop (mkF m 0 #[.val (.ref a1), .val (.int (1 : Int32)), .val (.int p3)] [])) _
    refine XS.aloadN X0.here hx rfl (hb hby d7_0) rfl rfl ?_
    show Steps p.tables e below (s₁.setTop (mkF m 1 #[.val (.ref a1), .val (.int (1 : Int32)), .val (.int p3)] [(.ref a1)])) _
    refine XS.ifnullNo X0.here hx rfl (hb hby d7_1) rfl ?_
    show Steps p.tables e below (s₁.setTop (mkF m 4 #[.val (.ref a1), .val (.int (1 : Int32)), .val (.int p3)] [])) _
    refine XS.aloadN X0.here hx rfl (hb hby d7_4) rfl rfl ?_
    show Steps p.tables e below (s₁.setTop (mkF m 5 #[.val (.ref a1), .val (.int (1 : Int32)), .val (.int p3)] [(.ref a1)])) _
    refine X0.arraylength hx (by rw [e0]; exact Ar_0.1) (State.isArrayOf_alike hZ.alike Ar_0.2.1) (g := (mkF m 5 #[.val (.ref a1), .val (.int (1 : Int32)), .val (.int p3)] [(.ref a1)])) rfl rfl (hb hby d7_5) _ ?_
    rw [len_of S_0 N_0]
    show Steps p.tables e below (s₁.setTop (mkF m 6 #[.val (.ref a1), .val (.int (1 : Int32)), .val (.int p3)] [(.int (1 : Int32))])) _
    refine XS.iloadN X0.here hx rfl (hb hby d7_6) rfl ?_
    show Steps p.tables e below (s₁.setTop (mkF m 7 #[.val (.ref a1), .val (.int (1 : Int32)), .val (.int p3)] [(.int (1 : Int32)), (.int (1 : Int32))])) _
    refine XS.icmpYes X0.here hx rfl (pc0 := 7) (pc' := 12) rfl (hb hby d7_7) rfl (teq (by decide)).1 (by decide) (by decide) ?_
    show Steps p.tables e below (s₁.setTop (mkF m 12 #[.val (.ref a1), .val (.int (1 : Int32)), .val (.int p3)] [])) _
    refine XS.iloadN X0.here hx rfl (hb hby d7_12) rfl ?_
    show Steps p.tables e below (s₁.setTop (mkF m 13 #[.val (.ref a1), .val (.int (1 : Int32)), .val (.int p3)] [(.int (1 : Int32))])) _
    refine XS.ifNo X0.here hx rfl (hb hby d7_13) rfl ((if0 _ _).trans (tlt (by decide)).2.2.2) ?_
    show Steps p.tables e below (s₁.setTop (mkF m 16 #[.val (.ref a1), .val (.int (1 : Int32)), .val (.int p3)] [])) _
    refine XS.aloadN X0.here hx rfl (hb hby d7_16) rfl rfl ?_
    show Steps p.tables e below (s₁.setTop (mkF m 17 #[.val (.ref a1), .val (.int (1 : Int32)), .val (.int p3)] [(.ref a1)])) _
    refine XS.iconst X0.here hx rfl (hb hby d7_17) ?_
    show Steps p.tables e below (s₁.setTop (mkF m 18 #[.val (.ref a1), .val (.int (1 : Int32)), .val (.int p3)] [(.int (0 : Int32)), (.ref a1)])) _
    refine X0.baloadBytes hx (j := (0 : Int32)) (v := (.int (atF p3 (0 : Int32)))) (by rw [e0]; exact Ar_0.1) (State.isArrayOf_alike hZ.alike Ar_0.2.1) Ar_0.2.2 hin_0 hat_0 (g := (mkF m 18 #[.val (.ref a1), .val (.int (1 : Int32)), .val (.int p3)] [(.int (0 : Int32)), (.ref a1)])) rfl rfl (hb hby d7_18) _ ?_
    show Steps p.tables e below (s₁.setTop (mkF m 19 #[.val (.ref a1), .val (.int (1 : Int32)), .val (.int p3)] [(.int (atF p3 (0 : Int32)))])) _
    refine XS.iloadN X0.here hx rfl (hb hby d7_19) rfl ?_
    show Steps p.tables e below (s₁.setTop (mkF m 20 #[.val (.ref a1), .val (.int (1 : Int32)), .val (.int p3)] [(.int p3), (.int (atF p3 (0 : Int32)))])) _
    refine XS.iconst X0.here hx rfl (hb hby d7_20) ?_
    show Steps p.tables e below (s₁.setTop (mkF m 21 #[.val (.ref a1), .val (.int (1 : Int32)), .val (.int p3)] [(.int (0 : Int32)), (.int p3), (.int (atF p3 (0 : Int32)))])) _
    refine st5 _ ?_
    show Steps p.tables e below (T5.setTop (mkF m 24 #[.val (.ref a1), .val (.int (1 : Int32)), .val (.int p3)] [(.int (atF p3 (0 : Int32))), (.int (atF p3 (0 : Int32)))])) _
    refine XS.icmpYes X5.here hx rfl (pc0 := 24) (pc' := 29) rfl (hb hby d7_24) rfl (teq rfl).1 (by decide) (by decide) ?_
    show Steps p.tables e below (T5.setTop (mkF m 29 #[.val (.ref a1), .val (.int (1 : Int32)), .val (.int p3)] [])) _
    refine XS.iloadN X5.here hx rfl (hb hby d7_29) rfl ?_
    show Steps p.tables e below (T5.setTop (mkF m 30 #[.val (.ref a1), .val (.int (1 : Int32)), .val (.int p3)] [(.int (1 : Int32))])) _
    refine XS.iconst X5.here hx rfl (hb hby d7_30) ?_
    show Steps p.tables e below (T5.setTop (mkF m 31 #[.val (.ref a1), .val (.int (1 : Int32)), .val (.int p3)] [(.int (1 : Int32)), (.int (1 : Int32))])) _
    refine XS.icmpYes X5.here hx rfl (pc0 := 31) (pc' := 47) rfl (hb hby d7_31) rfl (flt (by decide)).2.2.2 (by decide) (by decide) ?_
    show Steps p.tables e below (T5.setTop (mkF m 47 #[.val (.ref a1), .val (.int (1 : Int32)), .val (.int p3)] [])) _
    refine XS.iloadN X5.here hx rfl (hb hby d7_47) rfl ?_
    show Steps p.tables e below (T5.setTop (mkF m 48 #[.val (.ref a1), .val (.int (1 : Int32)), .val (.int p3)] [(.int (1 : Int32))])) _
    refine XS.iconst X5.here hx rfl (hb hby d7_48) ?_
    show Steps p.tables e below (T5.setTop (mkF m 49 #[.val (.ref a1), .val (.int (1 : Int32)), .val (.int p3)] [(.int (2 : Int32)), (.int (1 : Int32))])) _
    refine XS.icmpYes X5.here hx rfl (pc0 := 49) (pc' := 65) rfl (hb hby d7_49) rfl (flt (by decide)).2.2.2 (by decide) (by decide) ?_
    show Steps p.tables e below (T5.setTop (mkF m 65 #[.val (.ref a1), .val (.int (1 : Int32)), .val (.int p3)] [])) _
    refine XS.iloadN X5.here hx rfl (hb hby d7_65) rfl ?_
    show Steps p.tables e below (T5.setTop (mkF m 66 #[.val (.ref a1), .val (.int (1 : Int32)), .val (.int p3)] [(.int (1 : Int32))])) _
    refine XS.iconst X5.here hx rfl (hb hby d7_66) ?_
    show Steps p.tables e below (T5.setTop (mkF m 67 #[.val (.ref a1), .val (.int (1 : Int32)), .val (.int p3)] [(.int (3 : Int32)), (.int (1 : Int32))])) _
    refine XS.icmpYes X5.here hx rfl (pc0 := 67) (pc' := 83) rfl (hb hby d7_67) rfl (flt (by decide)).2.2.2 (by decide) (by decide) ?_
    show Steps p.tables e below (T5.setTop (mkF m 83 #[.val (.ref a1), .val (.int (1 : Int32)), .val (.int p3)] [])) _
    refine XS.iconst X5.here hx rfl (hb hby d7_83) ?_
    show Steps p.tables e below (T5.setTop (mkF m 84 #[.val (.ref a1), .val (.int (1 : Int32)), .val (.int p3)] [(.int (1 : Int32))])) _
    exact retN X5 hx (t := .boolean) Bd.returns (by simp) (hb hby d7_84) hr
  · show Q7 Z a1 h0 n0 _ T5.heap _
    exact ⟨rfl, N5, q5⟩
theorem d7_34 : decode method_3_code 34 = .ok (.aload_n 0, 1) := by decide +kernel
theorem d7_35 : decode method_3_code 35 = .ok (.iconst 1, 1) := by decide +kernel
theorem d7_36 : decode method_3_code 36 = .ok (.baload, 1) := by decide +kernel
theorem d7_37 : decode method_3_code 37 = .ok (.iload_n 2, 1) := by decide +kernel
theorem d7_38 : decode method_3_code 38 = .ok (.iconst 1, 1) := by decide +kernel
theorem d7_39 : decode method_3_code 39 = .ok (.invokestatic 7, 3) := by decide +kernel
theorem d7_42 : decode method_3_code 42 = .ok (.if_icmp .eq 5, 3) := by decide +kernel
set_option maxRecDepth 65536 in
set_option maxHeartbeats 40000000 in
theorem rm7_2 (l : Launch) (Z : State) (a0 : Array Value) (hw : ∀ d ∈ tables_1, d.before a0 Z = true) (ws : List Jvm.Cond) (a1 : Addr) (p3 : Int32) (k : ClassId) (dv : Value) (h0 : Heap) (n0 : Nat) (Z0 : n0 ≤ h0.size) (V : Arv Z h0 a1 k .byte (2 : Int32) [.int (atF p3 0), .int (atF p3 1)] dv) :
    MetFree l (⟨"com/example/quotewire/quotewire/wire/FrameBinaryPinLaw", "same", "([BII)Z"⟩ : MethodName) (head1 (Jvm.Cond.code (⟨"com/example/quotewire/quotewire/wire/FrameBinaryPinLaw", "same", "([BII)Z"⟩ : MethodName) method_3_code 3 (some .boolean) :: ws) ({ frames := 1, cells := 0, slots := 0, locals := 14 } : Room)) (fun a U => a = #[(.ref a1), (.int (2 : Int32)), (.int p3)] ∧ Z.Warmed39 U.vm ∧ U.heap = h0) (fun _ _ _ _ _ => True) (fun _ U o U' => ∃ v L, o = .returned v ∧ Q7 Z a1 h0 n0 v U'.heap L ∧ FrameEnd U o U' L ({ frames := 1, cells := 0, slots := 0, locals := 14 } : Room).cells ({ frames := 1, cells := 0, slots := 0, locals := 14 } : Room).slots) := by
  refine MetFree.of_bodySF (plainFor_of_name pn_7) hisR ?_
  intro p e s m args below meth c s₁ Bd hml0 hP hK
  obtain ⟨rfl, hZ, hh⟩ := hP
  have hx := Bd.exec
  have hby := Bd.bytes
  have hml : c.maxLocals = 3 := hml0
  have hown : s.vm.findClass "com/example/quotewire/quotewire/wire/FrameBinaryPinLaw" = some m.cls := findClass_of_methodNamed Bd.named
  have hnm := (name_of_methodNamed Bd.named Bd.method).1
  have X0 : Stand p l e ({ frames := 1, cells := 0, slots := 0, locals := 14 } : Room) s m #[(.ref a1), (.int (2 : Int32)), (.int p3)] below meth c s₁ [] 0 0 := Stand.of_body Bd
  have e0 : s₁.heap = h0 := by rw [← hh, Bd.state]; rfl
  have N0 := Fr.nil n0
  have pre0 : ∀ t, Steps p.tables e below (s₁.setTop (mkF m 0 #[.val (.ref a1), .val (.int (2 : Int32)), .val (.int p3)] [])) t → Steps p.tables e below (s₁.setTop (entryFrame m #[(.ref a1), (.int (2 : Int32)), (.int p3)] 3)) t := fun t k => castTop (ef_7 m a1 (2 : Int32) p3) k
  -- 3. LAWS
  obtain ⟨c_0, Ar_0, q_0, S_0, N_0, H_0, G_0⟩ := V
  have hin_0 := inb_of (j := (0 : Int32)) S_0 ⟨by decide, by decide⟩
  have hat_0 : c_0.slots[((0 : Int32)).toNatClampNeg]? = some (.int (atF p3 (0 : Int32))) := H_0 _ (Nat.lt_of_not_le fun q => hin_0 (Or.inr q))
  have hin_1 := inb_of (j := (1 : Int32)) S_0 ⟨by decide, by decide⟩
  have hat_1 : c_0.slots[((1 : Int32)).toNatClampNeg]? = some (.int (atF p3 (1 : Int32))) := H_0 _ (Nat.lt_of_not_le fun q => hin_1 (Or.inr q))
  obtain ⟨_, _, ⟨T5, L5, k5, n5⟩, -, X5, ⟨Lc5, hQ5, l5, y5, z5⟩, st5⟩ := Jvm.LawKit.callS X0 hx (y := (⟨"com/example/quotewire/quotewire/wire/FrameBinaryPinLaw", "at", "(II)B"⟩ : MethodName)) hown (mvT hZ (hw _ (List.mem_of_getElem? (i := 73) rfl))) (mvT hZ (hw _ (List.mem_of_getElem? (i := 74) rfl))) (mvT hZ (hw _ (List.mem_of_getElem? (i := 48) rfl))) (mvT hZ (hw _ (List.mem_of_getElem? (i := 75) rfl))) (by decide) (backOf (W := 1) (rm11 l Z a0 hw [] p3 (0 : Int32)  h0 n0 Z0 ) hZ (hw _ (List.mem_of_getElem? (i := 75) rfl)) (hw _ (List.mem_of_getElem? (i := 48) rfl)) (by decide) (by decide)) (g := (mkF m 21 #[.val (.ref a1), .val (.int (2 : Int32)), .val (.int p3)] [(.int (0 : Int32)), (.int p3), (.int (atF p3 (0 : Int32)))])) rfl (by rw [hml]; rfl) (argsL := [(.int p3), (.int (0 : Int32))]) (rest := [(.int (atF p3 (0 : Int32)))]) (lenOf pd_7_11 rfl) rfl (by show 2 * 0 + _ ≤ _; exact Nat.le_of_eq rfl) (hb hby d7_21) (fun _ _ => ⟨rfl, e0, (by decide : 0 + 0 ≤ _), (by decide : 0 + 0 ≤ _)⟩)
  dsimp only [Pt.U, Pt.locs, Pt.cells, Pt.slots] at X5 l5 y5 z5 st5 hQ5
  subst l5 y5 z5
  obtain ⟨rfl, N5q, q5⟩ := hQ5
  have N5 := Fr.app N0 N5q
  obtain ⟨_, _, ⟨T7, L7, k7, n7⟩, -, X7, ⟨Lc7, hQ7, l7, y7, z7⟩, st7⟩ := Jvm.LawKit.callS X5 hx (y := (⟨"com/example/quotewire/quotewire/wire/FrameBinaryPinLaw", "at", "(II)B"⟩ : MethodName)) hown (mvT hZ (hw _ (List.mem_of_getElem? (i := 73) rfl))) (mvT hZ (hw _ (List.mem_of_getElem? (i := 74) rfl))) (mvT hZ (hw _ (List.mem_of_getElem? (i := 48) rfl))) (mvT hZ (hw _ (List.mem_of_getElem? (i := 75) rfl))) (by decide) (backOf (W := 1) (rm11 l Z a0 hw [] p3 (1 : Int32)  h0 n0 Z0 ) hZ (hw _ (List.mem_of_getElem? (i := 75) rfl)) (hw _ (List.mem_of_getElem? (i := 48) rfl)) (by decide) (by decide)) (g := (mkF m 39 #[.val (.ref a1), .val (.int (2 : Int32)), .val (.int p3)] [(.int (1 : Int32)), (.int p3), (.int (atF p3 (1 : Int32)))])) rfl (by rw [hml]; rfl) (argsL := [(.int p3), (.int (1 : Int32))]) (rest := [(.int (atF p3 (1 : Int32)))]) (lenOf pd_7_11 rfl) rfl (by show 2 * 0 + _ ≤ _; exact Nat.le_of_eq rfl) (hb hby d7_39) (fun _ _ => ⟨rfl, q5, (by decide : 0 + 0 ≤ _), (by decide : 0 + 0 ≤ _)⟩)
  dsimp only [Pt.U, Pt.locs, Pt.cells, Pt.slots] at X7 l7 y7 z7 st7 hQ7
  subst l7 y7 z7
  obtain ⟨rfl, N7q, q7⟩ := hQ7
  have N7 := Fr.app N5 N7q
  obtain ⟨fs, hr, hrun, hended, hW, hsame⟩ := X7.leave (v := some (.int (1 : Int32))) (fun h => by rw [Bd.returns] at h; cases h)
  refine ⟨_, _, pre0 _ ?_, hrun, hended, _, _, rfl, ?_, ⟨_, rfl⟩, hW, hsame.mono (by decide) (by decide)⟩
  · show Steps p.tables e below (s₁.setTop (mkF m 0 #[.val (.ref a1), .val (.int (2 : Int32)), .val (.int p3)] [])) _
    refine XS.aloadN X0.here hx rfl (hb hby d7_0) rfl rfl ?_
    show Steps p.tables e below (s₁.setTop (mkF m 1 #[.val (.ref a1), .val (.int (2 : Int32)), .val (.int p3)] [(.ref a1)])) _
    refine XS.ifnullNo X0.here hx rfl (hb hby d7_1) rfl ?_
    show Steps p.tables e below (s₁.setTop (mkF m 4 #[.val (.ref a1), .val (.int (2 : Int32)), .val (.int p3)] [])) _
    refine XS.aloadN X0.here hx rfl (hb hby d7_4) rfl rfl ?_
    show Steps p.tables e below (s₁.setTop (mkF m 5 #[.val (.ref a1), .val (.int (2 : Int32)), .val (.int p3)] [(.ref a1)])) _
    refine X0.arraylength hx (by rw [e0]; exact Ar_0.1) (State.isArrayOf_alike hZ.alike Ar_0.2.1) (g := (mkF m 5 #[.val (.ref a1), .val (.int (2 : Int32)), .val (.int p3)] [(.ref a1)])) rfl rfl (hb hby d7_5) _ ?_
    rw [len_of S_0 N_0]
    show Steps p.tables e below (s₁.setTop (mkF m 6 #[.val (.ref a1), .val (.int (2 : Int32)), .val (.int p3)] [(.int (2 : Int32))])) _
    refine XS.iloadN X0.here hx rfl (hb hby d7_6) rfl ?_
    show Steps p.tables e below (s₁.setTop (mkF m 7 #[.val (.ref a1), .val (.int (2 : Int32)), .val (.int p3)] [(.int (2 : Int32)), (.int (2 : Int32))])) _
    refine XS.icmpYes X0.here hx rfl (pc0 := 7) (pc' := 12) rfl (hb hby d7_7) rfl (teq (by decide)).1 (by decide) (by decide) ?_
    show Steps p.tables e below (s₁.setTop (mkF m 12 #[.val (.ref a1), .val (.int (2 : Int32)), .val (.int p3)] [])) _
    refine XS.iloadN X0.here hx rfl (hb hby d7_12) rfl ?_
    show Steps p.tables e below (s₁.setTop (mkF m 13 #[.val (.ref a1), .val (.int (2 : Int32)), .val (.int p3)] [(.int (2 : Int32))])) _
    refine XS.ifNo X0.here hx rfl (hb hby d7_13) rfl ((if0 _ _).trans (tlt (by decide)).2.2.2) ?_
    show Steps p.tables e below (s₁.setTop (mkF m 16 #[.val (.ref a1), .val (.int (2 : Int32)), .val (.int p3)] [])) _
    refine XS.aloadN X0.here hx rfl (hb hby d7_16) rfl rfl ?_
    show Steps p.tables e below (s₁.setTop (mkF m 17 #[.val (.ref a1), .val (.int (2 : Int32)), .val (.int p3)] [(.ref a1)])) _
    refine XS.iconst X0.here hx rfl (hb hby d7_17) ?_
    show Steps p.tables e below (s₁.setTop (mkF m 18 #[.val (.ref a1), .val (.int (2 : Int32)), .val (.int p3)] [(.int (0 : Int32)), (.ref a1)])) _
    refine X0.baloadBytes hx (j := (0 : Int32)) (v := (.int (atF p3 (0 : Int32)))) (by rw [e0]; exact Ar_0.1) (State.isArrayOf_alike hZ.alike Ar_0.2.1) Ar_0.2.2 hin_0 hat_0 (g := (mkF m 18 #[.val (.ref a1), .val (.int (2 : Int32)), .val (.int p3)] [(.int (0 : Int32)), (.ref a1)])) rfl rfl (hb hby d7_18) _ ?_
    show Steps p.tables e below (s₁.setTop (mkF m 19 #[.val (.ref a1), .val (.int (2 : Int32)), .val (.int p3)] [(.int (atF p3 (0 : Int32)))])) _
    refine XS.iloadN X0.here hx rfl (hb hby d7_19) rfl ?_
    show Steps p.tables e below (s₁.setTop (mkF m 20 #[.val (.ref a1), .val (.int (2 : Int32)), .val (.int p3)] [(.int p3), (.int (atF p3 (0 : Int32)))])) _
    refine XS.iconst X0.here hx rfl (hb hby d7_20) ?_
    show Steps p.tables e below (s₁.setTop (mkF m 21 #[.val (.ref a1), .val (.int (2 : Int32)), .val (.int p3)] [(.int (0 : Int32)), (.int p3), (.int (atF p3 (0 : Int32)))])) _
    refine st5 _ ?_
    show Steps p.tables e below (T5.setTop (mkF m 24 #[.val (.ref a1), .val (.int (2 : Int32)), .val (.int p3)] [(.int (atF p3 (0 : Int32))), (.int (atF p3 (0 : Int32)))])) _
    refine XS.icmpYes X5.here hx rfl (pc0 := 24) (pc' := 29) rfl (hb hby d7_24) rfl (teq rfl).1 (by decide) (by decide) ?_
    show Steps p.tables e below (T5.setTop (mkF m 29 #[.val (.ref a1), .val (.int (2 : Int32)), .val (.int p3)] [])) _
    refine XS.iloadN X5.here hx rfl (hb hby d7_29) rfl ?_
    show Steps p.tables e below (T5.setTop (mkF m 30 #[.val (.ref a1), .val (.int (2 : Int32)), .val (.int p3)] [(.int (2 : Int32))])) _
    refine XS.iconst X5.here hx rfl (hb hby d7_30) ?_
    show Steps p.tables e below (T5.setTop (mkF m 31 #[.val (.ref a1), .val (.int (2 : Int32)), .val (.int p3)] [(.int (1 : Int32)), (.int (2 : Int32))])) _
    refine XS.icmpNo X5.here hx rfl (hb hby d7_31) rfl (tlt (by decide)).2.2.2 ?_
    show Steps p.tables e below (T5.setTop (mkF m 34 #[.val (.ref a1), .val (.int (2 : Int32)), .val (.int p3)] [])) _
    refine XS.aloadN X5.here hx rfl (hb hby d7_34) rfl rfl ?_
    show Steps p.tables e below (T5.setTop (mkF m 35 #[.val (.ref a1), .val (.int (2 : Int32)), .val (.int p3)] [(.ref a1)])) _
    refine XS.iconst X5.here hx rfl (hb hby d7_35) ?_
    show Steps p.tables e below (T5.setTop (mkF m 36 #[.val (.ref a1), .val (.int (2 : Int32)), .val (.int p3)] [(.int (1 : Int32)), (.ref a1)])) _
    refine X5.baloadBytes hx (j := (1 : Int32)) (v := (.int (atF p3 (1 : Int32)))) (by rw [q5]; exact Ar_0.1) (State.isArrayOf_alike hZ.alike Ar_0.2.1) Ar_0.2.2 hin_1 hat_1 (g := (mkF m 36 #[.val (.ref a1), .val (.int (2 : Int32)), .val (.int p3)] [(.int (1 : Int32)), (.ref a1)])) rfl rfl (hb hby d7_36) _ ?_
    show Steps p.tables e below (T5.setTop (mkF m 37 #[.val (.ref a1), .val (.int (2 : Int32)), .val (.int p3)] [(.int (atF p3 (1 : Int32)))])) _
    refine XS.iloadN X5.here hx rfl (hb hby d7_37) rfl ?_
    show Steps p.tables e below (T5.setTop (mkF m 38 #[.val (.ref a1), .val (.int (2 : Int32)), .val (.int p3)] [(.int p3), (.int (atF p3 (1 : Int32)))])) _
    refine XS.iconst X5.here hx rfl (hb hby d7_38) ?_
    show Steps p.tables e below (T5.setTop (mkF m 39 #[.val (.ref a1), .val (.int (2 : Int32)), .val (.int p3)] [(.int (1 : Int32)), (.int p3), (.int (atF p3 (1 : Int32)))])) _
    refine st7 _ ?_
    show Steps p.tables e below (T7.setTop (mkF m 42 #[.val (.ref a1), .val (.int (2 : Int32)), .val (.int p3)] [(.int (atF p3 (1 : Int32))), (.int (atF p3 (1 : Int32)))])) _
    refine XS.icmpYes X7.here hx rfl (pc0 := 42) (pc' := 47) rfl (hb hby d7_42) rfl (teq rfl).1 (by decide) (by decide) ?_
    show Steps p.tables e below (T7.setTop (mkF m 47 #[.val (.ref a1), .val (.int (2 : Int32)), .val (.int p3)] [])) _
    refine XS.iloadN X7.here hx rfl (hb hby d7_47) rfl ?_
    show Steps p.tables e below (T7.setTop (mkF m 48 #[.val (.ref a1), .val (.int (2 : Int32)), .val (.int p3)] [(.int (2 : Int32))])) _
    refine XS.iconst X7.here hx rfl (hb hby d7_48) ?_
    show Steps p.tables e below (T7.setTop (mkF m 49 #[.val (.ref a1), .val (.int (2 : Int32)), .val (.int p3)] [(.int (2 : Int32)), (.int (2 : Int32))])) _
    refine XS.icmpYes X7.here hx rfl (pc0 := 49) (pc' := 65) rfl (hb hby d7_49) rfl (flt (by decide)).2.2.2 (by decide) (by decide) ?_
    show Steps p.tables e below (T7.setTop (mkF m 65 #[.val (.ref a1), .val (.int (2 : Int32)), .val (.int p3)] [])) _
    refine XS.iloadN X7.here hx rfl (hb hby d7_65) rfl ?_
    show Steps p.tables e below (T7.setTop (mkF m 66 #[.val (.ref a1), .val (.int (2 : Int32)), .val (.int p3)] [(.int (2 : Int32))])) _
    refine XS.iconst X7.here hx rfl (hb hby d7_66) ?_
    show Steps p.tables e below (T7.setTop (mkF m 67 #[.val (.ref a1), .val (.int (2 : Int32)), .val (.int p3)] [(.int (3 : Int32)), (.int (2 : Int32))])) _
    refine XS.icmpYes X7.here hx rfl (pc0 := 67) (pc' := 83) rfl (hb hby d7_67) rfl (flt (by decide)).2.2.2 (by decide) (by decide) ?_
    show Steps p.tables e below (T7.setTop (mkF m 83 #[.val (.ref a1), .val (.int (2 : Int32)), .val (.int p3)] [])) _
    refine XS.iconst X7.here hx rfl (hb hby d7_83) ?_
    show Steps p.tables e below (T7.setTop (mkF m 84 #[.val (.ref a1), .val (.int (2 : Int32)), .val (.int p3)] [(.int (1 : Int32))])) _
    exact retN X7 hx (t := .boolean) Bd.returns (by simp) (hb hby d7_84) hr
  · show Q7 Z a1 h0 n0 _ T7.heap _
    exact ⟨rfl, N7, q7⟩
theorem d7_52 : decode method_3_code 52 = .ok (.aload_n 0, 1) := by decide +kernel
theorem d7_53 : decode method_3_code 53 = .ok (.iconst 2, 1) := by decide +kernel
theorem d7_54 : decode method_3_code 54 = .ok (.baload, 1) := by decide +kernel
theorem d7_55 : decode method_3_code 55 = .ok (.iload_n 2, 1) := by decide +kernel
theorem d7_56 : decode method_3_code 56 = .ok (.iconst 2, 1) := by decide +kernel
theorem d7_57 : decode method_3_code 57 = .ok (.invokestatic 7, 3) := by decide +kernel
theorem d7_60 : decode method_3_code 60 = .ok (.if_icmp .eq 5, 3) := by decide +kernel
set_option maxRecDepth 65536 in
set_option maxHeartbeats 40000000 in
theorem rm7_3 (l : Launch) (Z : State) (a0 : Array Value) (hw : ∀ d ∈ tables_1, d.before a0 Z = true) (ws : List Jvm.Cond) (a1 : Addr) (p3 : Int32) (k : ClassId) (dv : Value) (h0 : Heap) (n0 : Nat) (Z0 : n0 ≤ h0.size) (V : Arv Z h0 a1 k .byte (3 : Int32) [.int (atF p3 0), .int (atF p3 1), .int (atF p3 2)] dv) :
    MetFree l (⟨"com/example/quotewire/quotewire/wire/FrameBinaryPinLaw", "same", "([BII)Z"⟩ : MethodName) (head1 (Jvm.Cond.code (⟨"com/example/quotewire/quotewire/wire/FrameBinaryPinLaw", "same", "([BII)Z"⟩ : MethodName) method_3_code 3 (some .boolean) :: ws) ({ frames := 1, cells := 0, slots := 0, locals := 14 } : Room)) (fun a U => a = #[(.ref a1), (.int (3 : Int32)), (.int p3)] ∧ Z.Warmed39 U.vm ∧ U.heap = h0) (fun _ _ _ _ _ => True) (fun _ U o U' => ∃ v L, o = .returned v ∧ Q7 Z a1 h0 n0 v U'.heap L ∧ FrameEnd U o U' L ({ frames := 1, cells := 0, slots := 0, locals := 14 } : Room).cells ({ frames := 1, cells := 0, slots := 0, locals := 14 } : Room).slots) := by
  refine MetFree.of_bodySF (plainFor_of_name pn_7) hisR ?_
  intro p e s m args below meth c s₁ Bd hml0 hP hK
  obtain ⟨rfl, hZ, hh⟩ := hP
  have hx := Bd.exec
  have hby := Bd.bytes
  have hml : c.maxLocals = 3 := hml0
  have hown : s.vm.findClass "com/example/quotewire/quotewire/wire/FrameBinaryPinLaw" = some m.cls := findClass_of_methodNamed Bd.named
  have hnm := (name_of_methodNamed Bd.named Bd.method).1
  have X0 : Stand p l e ({ frames := 1, cells := 0, slots := 0, locals := 14 } : Room) s m #[(.ref a1), (.int (3 : Int32)), (.int p3)] below meth c s₁ [] 0 0 := Stand.of_body Bd
  have e0 : s₁.heap = h0 := by rw [← hh, Bd.state]; rfl
  have N0 := Fr.nil n0
  have pre0 : ∀ t, Steps p.tables e below (s₁.setTop (mkF m 0 #[.val (.ref a1), .val (.int (3 : Int32)), .val (.int p3)] [])) t → Steps p.tables e below (s₁.setTop (entryFrame m #[(.ref a1), (.int (3 : Int32)), (.int p3)] 3)) t := fun t k => castTop (ef_7 m a1 (3 : Int32) p3) k
  -- 3. LAWS
  obtain ⟨c_0, Ar_0, q_0, S_0, N_0, H_0, G_0⟩ := V
  have hin_0 := inb_of (j := (0 : Int32)) S_0 ⟨by decide, by decide⟩
  have hat_0 : c_0.slots[((0 : Int32)).toNatClampNeg]? = some (.int (atF p3 (0 : Int32))) := H_0 _ (Nat.lt_of_not_le fun q => hin_0 (Or.inr q))
  have hin_1 := inb_of (j := (1 : Int32)) S_0 ⟨by decide, by decide⟩
  have hat_1 : c_0.slots[((1 : Int32)).toNatClampNeg]? = some (.int (atF p3 (1 : Int32))) := H_0 _ (Nat.lt_of_not_le fun q => hin_1 (Or.inr q))
  have hin_2 := inb_of (j := (2 : Int32)) S_0 ⟨by decide, by decide⟩
  have hat_2 : c_0.slots[((2 : Int32)).toNatClampNeg]? = some (.int (atF p3 (2 : Int32))) := H_0 _ (Nat.lt_of_not_le fun q => hin_2 (Or.inr q))
  obtain ⟨_, _, ⟨T5, L5, k5, n5⟩, -, X5, ⟨Lc5, hQ5, l5, y5, z5⟩, st5⟩ := Jvm.LawKit.callS X0 hx (y := (⟨"com/example/quotewire/quotewire/wire/FrameBinaryPinLaw", "at", "(II)B"⟩ : MethodName)) hown (mvT hZ (hw _ (List.mem_of_getElem? (i := 73) rfl))) (mvT hZ (hw _ (List.mem_of_getElem? (i := 74) rfl))) (mvT hZ (hw _ (List.mem_of_getElem? (i := 48) rfl))) (mvT hZ (hw _ (List.mem_of_getElem? (i := 75) rfl))) (by decide) (backOf (W := 1) (rm11 l Z a0 hw [] p3 (0 : Int32)  h0 n0 Z0 ) hZ (hw _ (List.mem_of_getElem? (i := 75) rfl)) (hw _ (List.mem_of_getElem? (i := 48) rfl)) (by decide) (by decide)) (g := (mkF m 21 #[.val (.ref a1), .val (.int (3 : Int32)), .val (.int p3)] [(.int (0 : Int32)), (.int p3), (.int (atF p3 (0 : Int32)))])) rfl (by rw [hml]; rfl) (argsL := [(.int p3), (.int (0 : Int32))]) (rest := [(.int (atF p3 (0 : Int32)))]) (lenOf pd_7_11 rfl) rfl (by show 2 * 0 + _ ≤ _; exact Nat.le_of_eq rfl) (hb hby d7_21) (fun _ _ => ⟨rfl, e0, (by decide : 0 + 0 ≤ _), (by decide : 0 + 0 ≤ _)⟩)
  dsimp only [Pt.U, Pt.locs, Pt.cells, Pt.slots] at X5 l5 y5 z5 st5 hQ5
  subst l5 y5 z5
  obtain ⟨rfl, N5q, q5⟩ := hQ5
  have N5 := Fr.app N0 N5q
  obtain ⟨_, _, ⟨T7, L7, k7, n7⟩, -, X7, ⟨Lc7, hQ7, l7, y7, z7⟩, st7⟩ := Jvm.LawKit.callS X5 hx (y := (⟨"com/example/quotewire/quotewire/wire/FrameBinaryPinLaw", "at", "(II)B"⟩ : MethodName)) hown (mvT hZ (hw _ (List.mem_of_getElem? (i := 73) rfl))) (mvT hZ (hw _ (List.mem_of_getElem? (i := 74) rfl))) (mvT hZ (hw _ (List.mem_of_getElem? (i := 48) rfl))) (mvT hZ (hw _ (List.mem_of_getElem? (i := 75) rfl))) (by decide) (backOf (W := 1) (rm11 l Z a0 hw [] p3 (1 : Int32)  h0 n0 Z0 ) hZ (hw _ (List.mem_of_getElem? (i := 75) rfl)) (hw _ (List.mem_of_getElem? (i := 48) rfl)) (by decide) (by decide)) (g := (mkF m 39 #[.val (.ref a1), .val (.int (3 : Int32)), .val (.int p3)] [(.int (1 : Int32)), (.int p3), (.int (atF p3 (1 : Int32)))])) rfl (by rw [hml]; rfl) (argsL := [(.int p3), (.int (1 : Int32))]) (rest := [(.int (atF p3 (1 : Int32)))]) (lenOf pd_7_11 rfl) rfl (by show 2 * 0 + _ ≤ _; exact Nat.le_of_eq rfl) (hb hby d7_39) (fun _ _ => ⟨rfl, q5, (by decide : 0 + 0 ≤ _), (by decide : 0 + 0 ≤ _)⟩)
  dsimp only [Pt.U, Pt.locs, Pt.cells, Pt.slots] at X7 l7 y7 z7 st7 hQ7
  subst l7 y7 z7
  obtain ⟨rfl, N7q, q7⟩ := hQ7
  have N7 := Fr.app N5 N7q
  obtain ⟨_, _, ⟨T9, L9, k9, n9⟩, -, X9, ⟨Lc9, hQ9, l9, y9, z9⟩, st9⟩ := Jvm.LawKit.callS X7 hx (y := (⟨"com/example/quotewire/quotewire/wire/FrameBinaryPinLaw", "at", "(II)B"⟩ : MethodName)) hown (mvT hZ (hw _ (List.mem_of_getElem? (i := 73) rfl))) (mvT hZ (hw _ (List.mem_of_getElem? (i := 74) rfl))) (mvT hZ (hw _ (List.mem_of_getElem? (i := 48) rfl))) (mvT hZ (hw _ (List.mem_of_getElem? (i := 75) rfl))) (by decide) (backOf (W := 1) (rm11 l Z a0 hw [] p3 (2 : Int32)  h0 n0 Z0 ) hZ (hw _ (List.mem_of_getElem? (i := 75) rfl)) (hw _ (List.mem_of_getElem? (i := 48) rfl)) (by decide) (by decide)) (g := (mkF m 57 #[.val (.ref a1), .val (.int (3 : Int32)), .val (.int p3)] [(.int (2 : Int32)), (.int p3), (.int (atF p3 (2 : Int32)))])) rfl (by rw [hml]; rfl) (argsL := [(.int p3), (.int (2 : Int32))]) (rest := [(.int (atF p3 (2 : Int32)))]) (lenOf pd_7_11 rfl) rfl (by show 2 * 0 + _ ≤ _; exact Nat.le_of_eq rfl) (hb hby d7_57) (fun _ _ => ⟨rfl, q7, (by decide : 0 + 0 ≤ _), (by decide : 0 + 0 ≤ _)⟩)
  dsimp only [Pt.U, Pt.locs, Pt.cells, Pt.slots] at X9 l9 y9 z9 st9 hQ9
  subst l9 y9 z9
  obtain ⟨rfl, N9q, q9⟩ := hQ9
  have N9 := Fr.app N7 N9q
  obtain ⟨fs, hr, hrun, hended, hW, hsame⟩ := X9.leave (v := some (.int (1 : Int32))) (fun h => by rw [Bd.returns] at h; cases h)
  refine ⟨_, _, pre0 _ ?_, hrun, hended, _, _, rfl, ?_, ⟨_, rfl⟩, hW, hsame.mono (by decide) (by decide)⟩
  · show Steps p.tables e below (s₁.setTop (mkF m 0 #[.val (.ref a1), .val (.int (3 : Int32)), .val (.int p3)] [])) _
    refine XS.aloadN X0.here hx rfl (hb hby d7_0) rfl rfl ?_
    show Steps p.tables e below (s₁.setTop (mkF m 1 #[.val (.ref a1), .val (.int (3 : Int32)), .val (.int p3)] [(.ref a1)])) _
    refine XS.ifnullNo X0.here hx rfl (hb hby d7_1) rfl ?_
    show Steps p.tables e below (s₁.setTop (mkF m 4 #[.val (.ref a1), .val (.int (3 : Int32)), .val (.int p3)] [])) _
    refine XS.aloadN X0.here hx rfl (hb hby d7_4) rfl rfl ?_
    show Steps p.tables e below (s₁.setTop (mkF m 5 #[.val (.ref a1), .val (.int (3 : Int32)), .val (.int p3)] [(.ref a1)])) _
    refine X0.arraylength hx (by rw [e0]; exact Ar_0.1) (State.isArrayOf_alike hZ.alike Ar_0.2.1) (g := (mkF m 5 #[.val (.ref a1), .val (.int (3 : Int32)), .val (.int p3)] [(.ref a1)])) rfl rfl (hb hby d7_5) _ ?_
    rw [len_of S_0 N_0]
    show Steps p.tables e below (s₁.setTop (mkF m 6 #[.val (.ref a1), .val (.int (3 : Int32)), .val (.int p3)] [(.int (3 : Int32))])) _
    refine XS.iloadN X0.here hx rfl (hb hby d7_6) rfl ?_
    show Steps p.tables e below (s₁.setTop (mkF m 7 #[.val (.ref a1), .val (.int (3 : Int32)), .val (.int p3)] [(.int (3 : Int32)), (.int (3 : Int32))])) _
    refine XS.icmpYes X0.here hx rfl (pc0 := 7) (pc' := 12) rfl (hb hby d7_7) rfl (teq (by decide)).1 (by decide) (by decide) ?_
    show Steps p.tables e below (s₁.setTop (mkF m 12 #[.val (.ref a1), .val (.int (3 : Int32)), .val (.int p3)] [])) _
    refine XS.iloadN X0.here hx rfl (hb hby d7_12) rfl ?_
    show Steps p.tables e below (s₁.setTop (mkF m 13 #[.val (.ref a1), .val (.int (3 : Int32)), .val (.int p3)] [(.int (3 : Int32))])) _
    refine XS.ifNo X0.here hx rfl (hb hby d7_13) rfl ((if0 _ _).trans (tlt (by decide)).2.2.2) ?_
    show Steps p.tables e below (s₁.setTop (mkF m 16 #[.val (.ref a1), .val (.int (3 : Int32)), .val (.int p3)] [])) _
    refine XS.aloadN X0.here hx rfl (hb hby d7_16) rfl rfl ?_
    show Steps p.tables e below (s₁.setTop (mkF m 17 #[.val (.ref a1), .val (.int (3 : Int32)), .val (.int p3)] [(.ref a1)])) _
    refine XS.iconst X0.here hx rfl (hb hby d7_17) ?_
    show Steps p.tables e below (s₁.setTop (mkF m 18 #[.val (.ref a1), .val (.int (3 : Int32)), .val (.int p3)] [(.int (0 : Int32)), (.ref a1)])) _
    refine X0.baloadBytes hx (j := (0 : Int32)) (v := (.int (atF p3 (0 : Int32)))) (by rw [e0]; exact Ar_0.1) (State.isArrayOf_alike hZ.alike Ar_0.2.1) Ar_0.2.2 hin_0 hat_0 (g := (mkF m 18 #[.val (.ref a1), .val (.int (3 : Int32)), .val (.int p3)] [(.int (0 : Int32)), (.ref a1)])) rfl rfl (hb hby d7_18) _ ?_
    show Steps p.tables e below (s₁.setTop (mkF m 19 #[.val (.ref a1), .val (.int (3 : Int32)), .val (.int p3)] [(.int (atF p3 (0 : Int32)))])) _
    refine XS.iloadN X0.here hx rfl (hb hby d7_19) rfl ?_
    show Steps p.tables e below (s₁.setTop (mkF m 20 #[.val (.ref a1), .val (.int (3 : Int32)), .val (.int p3)] [(.int p3), (.int (atF p3 (0 : Int32)))])) _
    refine XS.iconst X0.here hx rfl (hb hby d7_20) ?_
    show Steps p.tables e below (s₁.setTop (mkF m 21 #[.val (.ref a1), .val (.int (3 : Int32)), .val (.int p3)] [(.int (0 : Int32)), (.int p3), (.int (atF p3 (0 : Int32)))])) _
    refine st5 _ ?_
    show Steps p.tables e below (T5.setTop (mkF m 24 #[.val (.ref a1), .val (.int (3 : Int32)), .val (.int p3)] [(.int (atF p3 (0 : Int32))), (.int (atF p3 (0 : Int32)))])) _
    refine XS.icmpYes X5.here hx rfl (pc0 := 24) (pc' := 29) rfl (hb hby d7_24) rfl (teq rfl).1 (by decide) (by decide) ?_
    show Steps p.tables e below (T5.setTop (mkF m 29 #[.val (.ref a1), .val (.int (3 : Int32)), .val (.int p3)] [])) _
    refine XS.iloadN X5.here hx rfl (hb hby d7_29) rfl ?_
    show Steps p.tables e below (T5.setTop (mkF m 30 #[.val (.ref a1), .val (.int (3 : Int32)), .val (.int p3)] [(.int (3 : Int32))])) _
    refine XS.iconst X5.here hx rfl (hb hby d7_30) ?_
    show Steps p.tables e below (T5.setTop (mkF m 31 #[.val (.ref a1), .val (.int (3 : Int32)), .val (.int p3)] [(.int (1 : Int32)), (.int (3 : Int32))])) _
    refine XS.icmpNo X5.here hx rfl (hb hby d7_31) rfl (tlt (by decide)).2.2.2 ?_
    show Steps p.tables e below (T5.setTop (mkF m 34 #[.val (.ref a1), .val (.int (3 : Int32)), .val (.int p3)] [])) _
    refine XS.aloadN X5.here hx rfl (hb hby d7_34) rfl rfl ?_
    show Steps p.tables e below (T5.setTop (mkF m 35 #[.val (.ref a1), .val (.int (3 : Int32)), .val (.int p3)] [(.ref a1)])) _
    refine XS.iconst X5.here hx rfl (hb hby d7_35) ?_
    show Steps p.tables e below (T5.setTop (mkF m 36 #[.val (.ref a1), .val (.int (3 : Int32)), .val (.int p3)] [(.int (1 : Int32)), (.ref a1)])) _
    refine X5.baloadBytes hx (j := (1 : Int32)) (v := (.int (atF p3 (1 : Int32)))) (by rw [q5]; exact Ar_0.1) (State.isArrayOf_alike hZ.alike Ar_0.2.1) Ar_0.2.2 hin_1 hat_1 (g := (mkF m 36 #[.val (.ref a1), .val (.int (3 : Int32)), .val (.int p3)] [(.int (1 : Int32)), (.ref a1)])) rfl rfl (hb hby d7_36) _ ?_
    show Steps p.tables e below (T5.setTop (mkF m 37 #[.val (.ref a1), .val (.int (3 : Int32)), .val (.int p3)] [(.int (atF p3 (1 : Int32)))])) _
    refine XS.iloadN X5.here hx rfl (hb hby d7_37) rfl ?_
    show Steps p.tables e below (T5.setTop (mkF m 38 #[.val (.ref a1), .val (.int (3 : Int32)), .val (.int p3)] [(.int p3), (.int (atF p3 (1 : Int32)))])) _
    refine XS.iconst X5.here hx rfl (hb hby d7_38) ?_
    show Steps p.tables e below (T5.setTop (mkF m 39 #[.val (.ref a1), .val (.int (3 : Int32)), .val (.int p3)] [(.int (1 : Int32)), (.int p3), (.int (atF p3 (1 : Int32)))])) _
    refine st7 _ ?_
    show Steps p.tables e below (T7.setTop (mkF m 42 #[.val (.ref a1), .val (.int (3 : Int32)), .val (.int p3)] [(.int (atF p3 (1 : Int32))), (.int (atF p3 (1 : Int32)))])) _
    refine XS.icmpYes X7.here hx rfl (pc0 := 42) (pc' := 47) rfl (hb hby d7_42) rfl (teq rfl).1 (by decide) (by decide) ?_
    show Steps p.tables e below (T7.setTop (mkF m 47 #[.val (.ref a1), .val (.int (3 : Int32)), .val (.int p3)] [])) _
    refine XS.iloadN X7.here hx rfl (hb hby d7_47) rfl ?_
    show Steps p.tables e below (T7.setTop (mkF m 48 #[.val (.ref a1), .val (.int (3 : Int32)), .val (.int p3)] [(.int (3 : Int32))])) _
    refine XS.iconst X7.here hx rfl (hb hby d7_48) ?_
    show Steps p.tables e below (T7.setTop (mkF m 49 #[.val (.ref a1), .val (.int (3 : Int32)), .val (.int p3)] [(.int (2 : Int32)), (.int (3 : Int32))])) _
    refine XS.icmpNo X7.here hx rfl (hb hby d7_49) rfl (tlt (by decide)).2.2.2 ?_
    show Steps p.tables e below (T7.setTop (mkF m 52 #[.val (.ref a1), .val (.int (3 : Int32)), .val (.int p3)] [])) _
    refine XS.aloadN X7.here hx rfl (hb hby d7_52) rfl rfl ?_
    show Steps p.tables e below (T7.setTop (mkF m 53 #[.val (.ref a1), .val (.int (3 : Int32)), .val (.int p3)] [(.ref a1)])) _
    refine XS.iconst X7.here hx rfl (hb hby d7_53) ?_
    show Steps p.tables e below (T7.setTop (mkF m 54 #[.val (.ref a1), .val (.int (3 : Int32)), .val (.int p3)] [(.int (2 : Int32)), (.ref a1)])) _
    refine X7.baloadBytes hx (j := (2 : Int32)) (v := (.int (atF p3 (2 : Int32)))) (by rw [q7]; exact Ar_0.1) (State.isArrayOf_alike hZ.alike Ar_0.2.1) Ar_0.2.2 hin_2 hat_2 (g := (mkF m 54 #[.val (.ref a1), .val (.int (3 : Int32)), .val (.int p3)] [(.int (2 : Int32)), (.ref a1)])) rfl rfl (hb hby d7_54) _ ?_
    show Steps p.tables e below (T7.setTop (mkF m 55 #[.val (.ref a1), .val (.int (3 : Int32)), .val (.int p3)] [(.int (atF p3 (2 : Int32)))])) _
    refine XS.iloadN X7.here hx rfl (hb hby d7_55) rfl ?_
    show Steps p.tables e below (T7.setTop (mkF m 56 #[.val (.ref a1), .val (.int (3 : Int32)), .val (.int p3)] [(.int p3), (.int (atF p3 (2 : Int32)))])) _
    refine XS.iconst X7.here hx rfl (hb hby d7_56) ?_
    show Steps p.tables e below (T7.setTop (mkF m 57 #[.val (.ref a1), .val (.int (3 : Int32)), .val (.int p3)] [(.int (2 : Int32)), (.int p3), (.int (atF p3 (2 : Int32)))])) _
    refine st9 _ ?_
    show Steps p.tables e below (T9.setTop (mkF m 60 #[.val (.ref a1), .val (.int (3 : Int32)), .val (.int p3)] [(.int (atF p3 (2 : Int32))), (.int (atF p3 (2 : Int32)))])) _
    refine XS.icmpYes X9.here hx rfl (pc0 := 60) (pc' := 65) rfl (hb hby d7_60) rfl (teq rfl).1 (by decide) (by decide) ?_
    show Steps p.tables e below (T9.setTop (mkF m 65 #[.val (.ref a1), .val (.int (3 : Int32)), .val (.int p3)] [])) _
    refine XS.iloadN X9.here hx rfl (hb hby d7_65) rfl ?_
    show Steps p.tables e below (T9.setTop (mkF m 66 #[.val (.ref a1), .val (.int (3 : Int32)), .val (.int p3)] [(.int (3 : Int32))])) _
    refine XS.iconst X9.here hx rfl (hb hby d7_66) ?_
    show Steps p.tables e below (T9.setTop (mkF m 67 #[.val (.ref a1), .val (.int (3 : Int32)), .val (.int p3)] [(.int (3 : Int32)), (.int (3 : Int32))])) _
    refine XS.icmpYes X9.here hx rfl (pc0 := 67) (pc' := 83) rfl (hb hby d7_67) rfl (flt (by decide)).2.2.2 (by decide) (by decide) ?_
    show Steps p.tables e below (T9.setTop (mkF m 83 #[.val (.ref a1), .val (.int (3 : Int32)), .val (.int p3)] [])) _
    refine XS.iconst X9.here hx rfl (hb hby d7_83) ?_
    show Steps p.tables e below (T9.setTop (mkF m 84 #[.val (.ref a1), .val (.int (3 : Int32)), .val (.int p3)] [(.int (1 : Int32))])) _
    exact retN X9 hx (t := .boolean) Bd.returns (by simp) (hb hby d7_84) hr
  · show Q7 Z a1 h0 n0 _ T9.heap _
    exact ⟨rfl, N9, q9⟩
theorem d7_70 : decode method_3_code 70 = .ok (.aload_n 0, 1) := by decide +kernel
theorem d7_71 : decode method_3_code 71 = .ok (.iconst 3, 1) := by decide +kernel
theorem d7_72 : decode method_3_code 72 = .ok (.baload, 1) := by decide +kernel
theorem d7_73 : decode method_3_code 73 = .ok (.iload_n 2, 1) := by decide +kernel
theorem d7_74 : decode method_3_code 74 = .ok (.iconst 3, 1) := by decide +kernel
theorem d7_75 : decode method_3_code 75 = .ok (.invokestatic 7, 3) := by decide +kernel
theorem d7_78 : decode method_3_code 78 = .ok (.if_icmp .eq 5, 3) := by decide +kernel
set_option maxRecDepth 65536 in
set_option maxHeartbeats 40000000 in
theorem rm7_4 (l : Launch) (Z : State) (a0 : Array Value) (hw : ∀ d ∈ tables_1, d.before a0 Z = true) (ws : List Jvm.Cond) (a1 : Addr) (p3 : Int32) (k : ClassId) (dv : Value) (h0 : Heap) (n0 : Nat) (Z0 : n0 ≤ h0.size) (V : Arv Z h0 a1 k .byte (4 : Int32) [.int (atF p3 0), .int (atF p3 1), .int (atF p3 2), .int (atF p3 3)] dv) :
    MetFree l (⟨"com/example/quotewire/quotewire/wire/FrameBinaryPinLaw", "same", "([BII)Z"⟩ : MethodName) (head1 (Jvm.Cond.code (⟨"com/example/quotewire/quotewire/wire/FrameBinaryPinLaw", "same", "([BII)Z"⟩ : MethodName) method_3_code 3 (some .boolean) :: ws) ({ frames := 1, cells := 0, slots := 0, locals := 14 } : Room)) (fun a U => a = #[(.ref a1), (.int (4 : Int32)), (.int p3)] ∧ Z.Warmed39 U.vm ∧ U.heap = h0) (fun _ _ _ _ _ => True) (fun _ U o U' => ∃ v L, o = .returned v ∧ Q7 Z a1 h0 n0 v U'.heap L ∧ FrameEnd U o U' L ({ frames := 1, cells := 0, slots := 0, locals := 14 } : Room).cells ({ frames := 1, cells := 0, slots := 0, locals := 14 } : Room).slots) := by
  refine MetFree.of_bodySF (plainFor_of_name pn_7) hisR ?_
  intro p e s m args below meth c s₁ Bd hml0 hP hK
  obtain ⟨rfl, hZ, hh⟩ := hP
  have hx := Bd.exec
  have hby := Bd.bytes
  have hml : c.maxLocals = 3 := hml0
  have hown : s.vm.findClass "com/example/quotewire/quotewire/wire/FrameBinaryPinLaw" = some m.cls := findClass_of_methodNamed Bd.named
  have hnm := (name_of_methodNamed Bd.named Bd.method).1
  have X0 : Stand p l e ({ frames := 1, cells := 0, slots := 0, locals := 14 } : Room) s m #[(.ref a1), (.int (4 : Int32)), (.int p3)] below meth c s₁ [] 0 0 := Stand.of_body Bd
  have e0 : s₁.heap = h0 := by rw [← hh, Bd.state]; rfl
  have N0 := Fr.nil n0
  have pre0 : ∀ t, Steps p.tables e below (s₁.setTop (mkF m 0 #[.val (.ref a1), .val (.int (4 : Int32)), .val (.int p3)] [])) t → Steps p.tables e below (s₁.setTop (entryFrame m #[(.ref a1), (.int (4 : Int32)), (.int p3)] 3)) t := fun t k => castTop (ef_7 m a1 (4 : Int32) p3) k
  -- 3. LAWS
  obtain ⟨c_0, Ar_0, q_0, S_0, N_0, H_0, G_0⟩ := V
  have hin_0 := inb_of (j := (0 : Int32)) S_0 ⟨by decide, by decide⟩
  have hat_0 : c_0.slots[((0 : Int32)).toNatClampNeg]? = some (.int (atF p3 (0 : Int32))) := H_0 _ (Nat.lt_of_not_le fun q => hin_0 (Or.inr q))
  have hin_1 := inb_of (j := (1 : Int32)) S_0 ⟨by decide, by decide⟩
  have hat_1 : c_0.slots[((1 : Int32)).toNatClampNeg]? = some (.int (atF p3 (1 : Int32))) := H_0 _ (Nat.lt_of_not_le fun q => hin_1 (Or.inr q))
  have hin_2 := inb_of (j := (2 : Int32)) S_0 ⟨by decide, by decide⟩
  have hat_2 : c_0.slots[((2 : Int32)).toNatClampNeg]? = some (.int (atF p3 (2 : Int32))) := H_0 _ (Nat.lt_of_not_le fun q => hin_2 (Or.inr q))
  have hin_3 := inb_of (j := (3 : Int32)) S_0 ⟨by decide, by decide⟩
  have hat_3 : c_0.slots[((3 : Int32)).toNatClampNeg]? = some (.int (atF p3 (3 : Int32))) := H_0 _ (Nat.lt_of_not_le fun q => hin_3 (Or.inr q))
  obtain ⟨_, _, ⟨T5, L5, k5, n5⟩, -, X5, ⟨Lc5, hQ5, l5, y5, z5⟩, st5⟩ := Jvm.LawKit.callS X0 hx (y := (⟨"com/example/quotewire/quotewire/wire/FrameBinaryPinLaw", "at", "(II)B"⟩ : MethodName)) hown (mvT hZ (hw _ (List.mem_of_getElem? (i := 73) rfl))) (mvT hZ (hw _ (List.mem_of_getElem? (i := 74) rfl))) (mvT hZ (hw _ (List.mem_of_getElem? (i := 48) rfl))) (mvT hZ (hw _ (List.mem_of_getElem? (i := 75) rfl))) (by decide) (backOf (W := 1) (rm11 l Z a0 hw [] p3 (0 : Int32)  h0 n0 Z0 ) hZ (hw _ (List.mem_of_getElem? (i := 75) rfl)) (hw _ (List.mem_of_getElem? (i := 48) rfl)) (by decide) (by decide)) (g := (mkF m 21 #[.val (.ref a1), .val (.int (4 : Int32)), .val (.int p3)] [(.int (0 : Int32)), (.int p3), (.int (atF p3 (0 : Int32)))])) rfl (by rw [hml]; rfl) (argsL := [(.int p3), (.int (0 : Int32))]) (rest := [(.int (atF p3 (0 : Int32)))]) (lenOf pd_7_11 rfl) rfl (by show 2 * 0 + _ ≤ _; exact Nat.le_of_eq rfl) (hb hby d7_21) (fun _ _ => ⟨rfl, e0, (by decide : 0 + 0 ≤ _), (by decide : 0 + 0 ≤ _)⟩)
  dsimp only [Pt.U, Pt.locs, Pt.cells, Pt.slots] at X5 l5 y5 z5 st5 hQ5
  subst l5 y5 z5
  obtain ⟨rfl, N5q, q5⟩ := hQ5
  have N5 := Fr.app N0 N5q
  obtain ⟨_, _, ⟨T7, L7, k7, n7⟩, -, X7, ⟨Lc7, hQ7, l7, y7, z7⟩, st7⟩ := Jvm.LawKit.callS X5 hx (y := (⟨"com/example/quotewire/quotewire/wire/FrameBinaryPinLaw", "at", "(II)B"⟩ : MethodName)) hown (mvT hZ (hw _ (List.mem_of_getElem? (i := 73) rfl))) (mvT hZ (hw _ (List.mem_of_getElem? (i := 74) rfl))) (mvT hZ (hw _ (List.mem_of_getElem? (i := 48) rfl))) (mvT hZ (hw _ (List.mem_of_getElem? (i := 75) rfl))) (by decide) (backOf (W := 1) (rm11 l Z a0 hw [] p3 (1 : Int32)  h0 n0 Z0 ) hZ (hw _ (List.mem_of_getElem? (i := 75) rfl)) (hw _ (List.mem_of_getElem? (i := 48) rfl)) (by decide) (by decide)) (g := (mkF m 39 #[.val (.ref a1), .val (.int (4 : Int32)), .val (.int p3)] [(.int (1 : Int32)), (.int p3), (.int (atF p3 (1 : Int32)))])) rfl (by rw [hml]; rfl) (argsL := [(.int p3), (.int (1 : Int32))]) (rest := [(.int (atF p3 (1 : Int32)))]) (lenOf pd_7_11 rfl) rfl (by show 2 * 0 + _ ≤ _; exact Nat.le_of_eq rfl) (hb hby d7_39) (fun _ _ => ⟨rfl, q5, (by decide : 0 + 0 ≤ _), (by decide : 0 + 0 ≤ _)⟩)
  dsimp only [Pt.U, Pt.locs, Pt.cells, Pt.slots] at X7 l7 y7 z7 st7 hQ7
  subst l7 y7 z7
  obtain ⟨rfl, N7q, q7⟩ := hQ7
  have N7 := Fr.app N5 N7q
  obtain ⟨_, _, ⟨T9, L9, k9, n9⟩, -, X9, ⟨Lc9, hQ9, l9, y9, z9⟩, st9⟩ := Jvm.LawKit.callS X7 hx (y := (⟨"com/example/quotewire/quotewire/wire/FrameBinaryPinLaw", "at", "(II)B"⟩ : MethodName)) hown (mvT hZ (hw _ (List.mem_of_getElem? (i := 73) rfl))) (mvT hZ (hw _ (List.mem_of_getElem? (i := 74) rfl))) (mvT hZ (hw _ (List.mem_of_getElem? (i := 48) rfl))) (mvT hZ (hw _ (List.mem_of_getElem? (i := 75) rfl))) (by decide) (backOf (W := 1) (rm11 l Z a0 hw [] p3 (2 : Int32)  h0 n0 Z0 ) hZ (hw _ (List.mem_of_getElem? (i := 75) rfl)) (hw _ (List.mem_of_getElem? (i := 48) rfl)) (by decide) (by decide)) (g := (mkF m 57 #[.val (.ref a1), .val (.int (4 : Int32)), .val (.int p3)] [(.int (2 : Int32)), (.int p3), (.int (atF p3 (2 : Int32)))])) rfl (by rw [hml]; rfl) (argsL := [(.int p3), (.int (2 : Int32))]) (rest := [(.int (atF p3 (2 : Int32)))]) (lenOf pd_7_11 rfl) rfl (by show 2 * 0 + _ ≤ _; exact Nat.le_of_eq rfl) (hb hby d7_57) (fun _ _ => ⟨rfl, q7, (by decide : 0 + 0 ≤ _), (by decide : 0 + 0 ≤ _)⟩)
  dsimp only [Pt.U, Pt.locs, Pt.cells, Pt.slots] at X9 l9 y9 z9 st9 hQ9
  subst l9 y9 z9
  obtain ⟨rfl, N9q, q9⟩ := hQ9
  have N9 := Fr.app N7 N9q
  obtain ⟨_, _, ⟨T11, L11, k11, n11⟩, -, X11, ⟨Lc11, hQ11, l11, y11, z11⟩, st11⟩ := Jvm.LawKit.callS X9 hx (y := (⟨"com/example/quotewire/quotewire/wire/FrameBinaryPinLaw", "at", "(II)B"⟩ : MethodName)) hown (mvT hZ (hw _ (List.mem_of_getElem? (i := 73) rfl))) (mvT hZ (hw _ (List.mem_of_getElem? (i := 74) rfl))) (mvT hZ (hw _ (List.mem_of_getElem? (i := 48) rfl))) (mvT hZ (hw _ (List.mem_of_getElem? (i := 75) rfl))) (by decide) (backOf (W := 1) (rm11 l Z a0 hw [] p3 (3 : Int32)  h0 n0 Z0 ) hZ (hw _ (List.mem_of_getElem? (i := 75) rfl)) (hw _ (List.mem_of_getElem? (i := 48) rfl)) (by decide) (by decide)) (g := (mkF m 75 #[.val (.ref a1), .val (.int (4 : Int32)), .val (.int p3)] [(.int (3 : Int32)), (.int p3), (.int (atF p3 (3 : Int32)))])) rfl (by rw [hml]; rfl) (argsL := [(.int p3), (.int (3 : Int32))]) (rest := [(.int (atF p3 (3 : Int32)))]) (lenOf pd_7_11 rfl) rfl (by show 2 * 0 + _ ≤ _; exact Nat.le_of_eq rfl) (hb hby d7_75) (fun _ _ => ⟨rfl, q9, (by decide : 0 + 0 ≤ _), (by decide : 0 + 0 ≤ _)⟩)
  dsimp only [Pt.U, Pt.locs, Pt.cells, Pt.slots] at X11 l11 y11 z11 st11 hQ11
  subst l11 y11 z11
  obtain ⟨rfl, N11q, q11⟩ := hQ11
  have N11 := Fr.app N9 N11q
  obtain ⟨fs, hr, hrun, hended, hW, hsame⟩ := X11.leave (v := some (.int (1 : Int32))) (fun h => by rw [Bd.returns] at h; cases h)
  refine ⟨_, _, pre0 _ ?_, hrun, hended, _, _, rfl, ?_, ⟨_, rfl⟩, hW, hsame.mono (by decide) (by decide)⟩
  · show Steps p.tables e below (s₁.setTop (mkF m 0 #[.val (.ref a1), .val (.int (4 : Int32)), .val (.int p3)] [])) _
    refine XS.aloadN X0.here hx rfl (hb hby d7_0) rfl rfl ?_
    show Steps p.tables e below (s₁.setTop (mkF m 1 #[.val (.ref a1), .val (.int (4 : Int32)), .val (.int p3)] [(.ref a1)])) _
    refine XS.ifnullNo X0.here hx rfl (hb hby d7_1) rfl ?_
    show Steps p.tables e below (s₁.setTop (mkF m 4 #[.val (.ref a1), .val (.int (4 : Int32)), .val (.int p3)] [])) _
    refine XS.aloadN X0.here hx rfl (hb hby d7_4) rfl rfl ?_
    show Steps p.tables e below (s₁.setTop (mkF m 5 #[.val (.ref a1), .val (.int (4 : Int32)), .val (.int p3)] [(.ref a1)])) _
    refine X0.arraylength hx (by rw [e0]; exact Ar_0.1) (State.isArrayOf_alike hZ.alike Ar_0.2.1) (g := (mkF m 5 #[.val (.ref a1), .val (.int (4 : Int32)), .val (.int p3)] [(.ref a1)])) rfl rfl (hb hby d7_5) _ ?_
    rw [len_of S_0 N_0]
    show Steps p.tables e below (s₁.setTop (mkF m 6 #[.val (.ref a1), .val (.int (4 : Int32)), .val (.int p3)] [(.int (4 : Int32))])) _
    refine XS.iloadN X0.here hx rfl (hb hby d7_6) rfl ?_
    show Steps p.tables e below (s₁.setTop (mkF m 7 #[.val (.ref a1), .val (.int (4 : Int32)), .val (.int p3)] [(.int (4 : Int32)), (.int (4 : Int32))])) _
    refine XS.icmpYes X0.here hx rfl (pc0 := 7) (pc' := 12) rfl (hb hby d7_7) rfl (teq (by decide)).1 (by decide) (by decide) ?_
    show Steps p.tables e below (s₁.setTop (mkF m 12 #[.val (.ref a1), .val (.int (4 : Int32)), .val (.int p3)] [])) _
    refine XS.iloadN X0.here hx rfl (hb hby d7_12) rfl ?_
    show Steps p.tables e below (s₁.setTop (mkF m 13 #[.val (.ref a1), .val (.int (4 : Int32)), .val (.int p3)] [(.int (4 : Int32))])) _
    refine XS.ifNo X0.here hx rfl (hb hby d7_13) rfl ((if0 _ _).trans (tlt (by decide)).2.2.2) ?_
    show Steps p.tables e below (s₁.setTop (mkF m 16 #[.val (.ref a1), .val (.int (4 : Int32)), .val (.int p3)] [])) _
    refine XS.aloadN X0.here hx rfl (hb hby d7_16) rfl rfl ?_
    show Steps p.tables e below (s₁.setTop (mkF m 17 #[.val (.ref a1), .val (.int (4 : Int32)), .val (.int p3)] [(.ref a1)])) _
    refine XS.iconst X0.here hx rfl (hb hby d7_17) ?_
    show Steps p.tables e below (s₁.setTop (mkF m 18 #[.val (.ref a1), .val (.int (4 : Int32)), .val (.int p3)] [(.int (0 : Int32)), (.ref a1)])) _
    refine X0.baloadBytes hx (j := (0 : Int32)) (v := (.int (atF p3 (0 : Int32)))) (by rw [e0]; exact Ar_0.1) (State.isArrayOf_alike hZ.alike Ar_0.2.1) Ar_0.2.2 hin_0 hat_0 (g := (mkF m 18 #[.val (.ref a1), .val (.int (4 : Int32)), .val (.int p3)] [(.int (0 : Int32)), (.ref a1)])) rfl rfl (hb hby d7_18) _ ?_
    show Steps p.tables e below (s₁.setTop (mkF m 19 #[.val (.ref a1), .val (.int (4 : Int32)), .val (.int p3)] [(.int (atF p3 (0 : Int32)))])) _
    refine XS.iloadN X0.here hx rfl (hb hby d7_19) rfl ?_
    show Steps p.tables e below (s₁.setTop (mkF m 20 #[.val (.ref a1), .val (.int (4 : Int32)), .val (.int p3)] [(.int p3), (.int (atF p3 (0 : Int32)))])) _
    refine XS.iconst X0.here hx rfl (hb hby d7_20) ?_
    show Steps p.tables e below (s₁.setTop (mkF m 21 #[.val (.ref a1), .val (.int (4 : Int32)), .val (.int p3)] [(.int (0 : Int32)), (.int p3), (.int (atF p3 (0 : Int32)))])) _
    refine st5 _ ?_
    show Steps p.tables e below (T5.setTop (mkF m 24 #[.val (.ref a1), .val (.int (4 : Int32)), .val (.int p3)] [(.int (atF p3 (0 : Int32))), (.int (atF p3 (0 : Int32)))])) _
    refine XS.icmpYes X5.here hx rfl (pc0 := 24) (pc' := 29) rfl (hb hby d7_24) rfl (teq rfl).1 (by decide) (by decide) ?_
    show Steps p.tables e below (T5.setTop (mkF m 29 #[.val (.ref a1), .val (.int (4 : Int32)), .val (.int p3)] [])) _
    refine XS.iloadN X5.here hx rfl (hb hby d7_29) rfl ?_
    show Steps p.tables e below (T5.setTop (mkF m 30 #[.val (.ref a1), .val (.int (4 : Int32)), .val (.int p3)] [(.int (4 : Int32))])) _
    refine XS.iconst X5.here hx rfl (hb hby d7_30) ?_
    show Steps p.tables e below (T5.setTop (mkF m 31 #[.val (.ref a1), .val (.int (4 : Int32)), .val (.int p3)] [(.int (1 : Int32)), (.int (4 : Int32))])) _
    refine XS.icmpNo X5.here hx rfl (hb hby d7_31) rfl (tlt (by decide)).2.2.2 ?_
    show Steps p.tables e below (T5.setTop (mkF m 34 #[.val (.ref a1), .val (.int (4 : Int32)), .val (.int p3)] [])) _
    refine XS.aloadN X5.here hx rfl (hb hby d7_34) rfl rfl ?_
    show Steps p.tables e below (T5.setTop (mkF m 35 #[.val (.ref a1), .val (.int (4 : Int32)), .val (.int p3)] [(.ref a1)])) _
    refine XS.iconst X5.here hx rfl (hb hby d7_35) ?_
    show Steps p.tables e below (T5.setTop (mkF m 36 #[.val (.ref a1), .val (.int (4 : Int32)), .val (.int p3)] [(.int (1 : Int32)), (.ref a1)])) _
    refine X5.baloadBytes hx (j := (1 : Int32)) (v := (.int (atF p3 (1 : Int32)))) (by rw [q5]; exact Ar_0.1) (State.isArrayOf_alike hZ.alike Ar_0.2.1) Ar_0.2.2 hin_1 hat_1 (g := (mkF m 36 #[.val (.ref a1), .val (.int (4 : Int32)), .val (.int p3)] [(.int (1 : Int32)), (.ref a1)])) rfl rfl (hb hby d7_36) _ ?_
    show Steps p.tables e below (T5.setTop (mkF m 37 #[.val (.ref a1), .val (.int (4 : Int32)), .val (.int p3)] [(.int (atF p3 (1 : Int32)))])) _
    refine XS.iloadN X5.here hx rfl (hb hby d7_37) rfl ?_
    show Steps p.tables e below (T5.setTop (mkF m 38 #[.val (.ref a1), .val (.int (4 : Int32)), .val (.int p3)] [(.int p3), (.int (atF p3 (1 : Int32)))])) _
    refine XS.iconst X5.here hx rfl (hb hby d7_38) ?_
    show Steps p.tables e below (T5.setTop (mkF m 39 #[.val (.ref a1), .val (.int (4 : Int32)), .val (.int p3)] [(.int (1 : Int32)), (.int p3), (.int (atF p3 (1 : Int32)))])) _
    refine st7 _ ?_
    show Steps p.tables e below (T7.setTop (mkF m 42 #[.val (.ref a1), .val (.int (4 : Int32)), .val (.int p3)] [(.int (atF p3 (1 : Int32))), (.int (atF p3 (1 : Int32)))])) _
    refine XS.icmpYes X7.here hx rfl (pc0 := 42) (pc' := 47) rfl (hb hby d7_42) rfl (teq rfl).1 (by decide) (by decide) ?_
    show Steps p.tables e below (T7.setTop (mkF m 47 #[.val (.ref a1), .val (.int (4 : Int32)), .val (.int p3)] [])) _
    refine XS.iloadN X7.here hx rfl (hb hby d7_47) rfl ?_
    show Steps p.tables e below (T7.setTop (mkF m 48 #[.val (.ref a1), .val (.int (4 : Int32)), .val (.int p3)] [(.int (4 : Int32))])) _
    refine XS.iconst X7.here hx rfl (hb hby d7_48) ?_
    show Steps p.tables e below (T7.setTop (mkF m 49 #[.val (.ref a1), .val (.int (4 : Int32)), .val (.int p3)] [(.int (2 : Int32)), (.int (4 : Int32))])) _
    refine XS.icmpNo X7.here hx rfl (hb hby d7_49) rfl (tlt (by decide)).2.2.2 ?_
    show Steps p.tables e below (T7.setTop (mkF m 52 #[.val (.ref a1), .val (.int (4 : Int32)), .val (.int p3)] [])) _
    refine XS.aloadN X7.here hx rfl (hb hby d7_52) rfl rfl ?_
    show Steps p.tables e below (T7.setTop (mkF m 53 #[.val (.ref a1), .val (.int (4 : Int32)), .val (.int p3)] [(.ref a1)])) _
    refine XS.iconst X7.here hx rfl (hb hby d7_53) ?_
    show Steps p.tables e below (T7.setTop (mkF m 54 #[.val (.ref a1), .val (.int (4 : Int32)), .val (.int p3)] [(.int (2 : Int32)), (.ref a1)])) _
    refine X7.baloadBytes hx (j := (2 : Int32)) (v := (.int (atF p3 (2 : Int32)))) (by rw [q7]; exact Ar_0.1) (State.isArrayOf_alike hZ.alike Ar_0.2.1) Ar_0.2.2 hin_2 hat_2 (g := (mkF m 54 #[.val (.ref a1), .val (.int (4 : Int32)), .val (.int p3)] [(.int (2 : Int32)), (.ref a1)])) rfl rfl (hb hby d7_54) _ ?_
    show Steps p.tables e below (T7.setTop (mkF m 55 #[.val (.ref a1), .val (.int (4 : Int32)), .val (.int p3)] [(.int (atF p3 (2 : Int32)))])) _
    refine XS.iloadN X7.here hx rfl (hb hby d7_55) rfl ?_
    show Steps p.tables e below (T7.setTop (mkF m 56 #[.val (.ref a1), .val (.int (4 : Int32)), .val (.int p3)] [(.int p3), (.int (atF p3 (2 : Int32)))])) _
    refine XS.iconst X7.here hx rfl (hb hby d7_56) ?_
    show Steps p.tables e below (T7.setTop (mkF m 57 #[.val (.ref a1), .val (.int (4 : Int32)), .val (.int p3)] [(.int (2 : Int32)), (.int p3), (.int (atF p3 (2 : Int32)))])) _
    refine st9 _ ?_
    show Steps p.tables e below (T9.setTop (mkF m 60 #[.val (.ref a1), .val (.int (4 : Int32)), .val (.int p3)] [(.int (atF p3 (2 : Int32))), (.int (atF p3 (2 : Int32)))])) _
    refine XS.icmpYes X9.here hx rfl (pc0 := 60) (pc' := 65) rfl (hb hby d7_60) rfl (teq rfl).1 (by decide) (by decide) ?_
    show Steps p.tables e below (T9.setTop (mkF m 65 #[.val (.ref a1), .val (.int (4 : Int32)), .val (.int p3)] [])) _
    refine XS.iloadN X9.here hx rfl (hb hby d7_65) rfl ?_
    show Steps p.tables e below (T9.setTop (mkF m 66 #[.val (.ref a1), .val (.int (4 : Int32)), .val (.int p3)] [(.int (4 : Int32))])) _
    refine XS.iconst X9.here hx rfl (hb hby d7_66) ?_
    show Steps p.tables e below (T9.setTop (mkF m 67 #[.val (.ref a1), .val (.int (4 : Int32)), .val (.int p3)] [(.int (3 : Int32)), (.int (4 : Int32))])) _
    refine XS.icmpNo X9.here hx rfl (hb hby d7_67) rfl (tlt (by decide)).2.2.2 ?_
    show Steps p.tables e below (T9.setTop (mkF m 70 #[.val (.ref a1), .val (.int (4 : Int32)), .val (.int p3)] [])) _
    refine XS.aloadN X9.here hx rfl (hb hby d7_70) rfl rfl ?_
    show Steps p.tables e below (T9.setTop (mkF m 71 #[.val (.ref a1), .val (.int (4 : Int32)), .val (.int p3)] [(.ref a1)])) _
    refine XS.iconst X9.here hx rfl (hb hby d7_71) ?_
    show Steps p.tables e below (T9.setTop (mkF m 72 #[.val (.ref a1), .val (.int (4 : Int32)), .val (.int p3)] [(.int (3 : Int32)), (.ref a1)])) _
    refine X9.baloadBytes hx (j := (3 : Int32)) (v := (.int (atF p3 (3 : Int32)))) (by rw [q9]; exact Ar_0.1) (State.isArrayOf_alike hZ.alike Ar_0.2.1) Ar_0.2.2 hin_3 hat_3 (g := (mkF m 72 #[.val (.ref a1), .val (.int (4 : Int32)), .val (.int p3)] [(.int (3 : Int32)), (.ref a1)])) rfl rfl (hb hby d7_72) _ ?_
    show Steps p.tables e below (T9.setTop (mkF m 73 #[.val (.ref a1), .val (.int (4 : Int32)), .val (.int p3)] [(.int (atF p3 (3 : Int32)))])) _
    refine XS.iloadN X9.here hx rfl (hb hby d7_73) rfl ?_
    show Steps p.tables e below (T9.setTop (mkF m 74 #[.val (.ref a1), .val (.int (4 : Int32)), .val (.int p3)] [(.int p3), (.int (atF p3 (3 : Int32)))])) _
    refine XS.iconst X9.here hx rfl (hb hby d7_74) ?_
    show Steps p.tables e below (T9.setTop (mkF m 75 #[.val (.ref a1), .val (.int (4 : Int32)), .val (.int p3)] [(.int (3 : Int32)), (.int p3), (.int (atF p3 (3 : Int32)))])) _
    refine st11 _ ?_
    show Steps p.tables e below (T11.setTop (mkF m 78 #[.val (.ref a1), .val (.int (4 : Int32)), .val (.int p3)] [(.int (atF p3 (3 : Int32))), (.int (atF p3 (3 : Int32)))])) _
    refine XS.icmpYes X11.here hx rfl (pc0 := 78) (pc' := 83) rfl (hb hby d7_78) rfl (teq rfl).1 (by decide) (by decide) ?_
    show Steps p.tables e below (T11.setTop (mkF m 83 #[.val (.ref a1), .val (.int (4 : Int32)), .val (.int p3)] [])) _
    refine XS.iconst X11.here hx rfl (hb hby d7_83) ?_
    show Steps p.tables e below (T11.setTop (mkF m 84 #[.val (.ref a1), .val (.int (4 : Int32)), .val (.int p3)] [(.int (1 : Int32))])) _
    exact retN X11 hx (t := .boolean) Bd.returns (by simp) (hb hby d7_84) hr
  · show Q7 Z a1 h0 n0 _ T11.heap _
    exact ⟨rfl, N11, q11⟩
theorem d2_0 : decode prog_32_method_1_code 0 = .ok (.aload_n 0, 1) := by decide +kernel
theorem d2_1 : decode prog_32_method_1_code 1 = .ok (.invokespecial 1, 3) := by decide +kernel
theorem d2_4 : decode prog_32_method_1_code 4 = .ok (.aload_n 0, 1) := by decide +kernel
theorem d2_5 : decode prog_32_method_1_code 5 = .ok (.lload_n 1, 1) := by decide +kernel
theorem d2_6 : decode prog_32_method_1_code 6 = .ok (.putfield 7, 3) := by decide +kernel
theorem d2_9 : decode prog_32_method_1_code 9 = .ok (.aload_n 0, 1) := by decide +kernel
theorem d2_10 : decode prog_32_method_1_code 10 = .ok (.aload_n 3, 1) := by decide +kernel
theorem d2_11 : decode prog_32_method_1_code 11 = .ok (.ldc 13, 2) := by decide +kernel
theorem pn_2 : plainName "com/example/quotewire/quotewire/wire/Frame" = true := by first | (simp [plainName, overriddenIn]; done) | decide +kernel
theorem ef_2 (m : MethodId) (x0 : Addr) (x1 : Int64) (x2 : Addr) (x4 : Addr) : entryFrame m #[(.ref x0), (.long x1), (.ref x2), .null, (.ref x4)] 6 = mkF m 0 #[.val (.ref x0), .val (.long x1), .second, .val (.ref x2), .val .null, .val (.ref x4)] [] := by first | (simp [entryFrame, mkF, argsToLocals, Value.category]; done) | rfl
theorem d2_13 : decode prog_32_method_1_code 13 = .ok (.invokestatic 15, 3) := by decide +kernel
theorem d2_16 : decode prog_32_method_1_code 16 = .ok (.checkcast 21, 3) := by decide +kernel
theorem d2_19 : decode prog_32_method_1_code 19 = .ok (.putfield 23, 3) := by decide +kernel
theorem d2_22 : decode prog_32_method_1_code 22 = .ok (.aload_n 0, 1) := by decide +kernel
theorem d2_23 : decode prog_32_method_1_code 23 = .ok (.aload 4, 2) := by decide +kernel
theorem d2_25 : decode prog_32_method_1_code 25 = .ok (.putfield 26, 3) := by decide +kernel
theorem d2_28 : decode prog_32_method_1_code 28 = .ok (.aload_n 0, 1) := by decide +kernel
theorem d2_29 : decode prog_32_method_1_code 29 = .ok (.aload 5, 2) := by decide +kernel
theorem d2_31 : decode prog_32_method_1_code 31 = .ok (.putfield 30, 3) := by decide +kernel
theorem d2_34 : decode prog_32_method_1_code 34 = .ok (.return_, 1) := by decide +kernel
theorem pd_rnn : parseMethodDescriptor "(Ljava/lang/Object;Ljava/lang/String;)Ljava/lang/Object;" = some ⟨[(.object "java/lang/Object"), (.object "java/lang/String")], some (.object "java/lang/Object")⟩ := by decide +kernel
theorem own_str {Z : State} {a0 : Array Value} (hw : ∀ d ∈ tables_1, d.before a0 Z = true) : ∀ d ∈ Bundle.stringAtoms, d.before a0 Z = true := by
  intro d hd
  simp only [Bundle.stringAtoms, List.mem_cons, List.not_mem_nil, or_false] at hd
  rcases hd with rfl | rfl | rfl | rfl | rfl | rfl | rfl
  · exact (hw _ (List.mem_of_getElem? (i := 28) rfl))
  · exact (hw _ (List.mem_of_getElem? (i := 29) rfl))
  · exact (hw _ (List.mem_of_getElem? (i := 3) rfl))
  · exact (hw _ (List.mem_of_getElem? (i := 30) rfl))
  · exact (hw _ (List.mem_of_getElem? (i := 31) rfl))
  · exact (hw _ (List.mem_of_getElem? (i := 32) rfl))
  · exact (hw _ (List.mem_of_getElem? (i := 33) rfl))
def Q2 (Z : State) (a1 : Addr) (q2 : Int64) (a3 : Addr) (a5 : Addr) (h0 : Heap) (n0 : Nat) (v : Option Value) (h : Heap) (L : List Loc) : Prop := v = none ∧ Fr n0 L ∧ Keep h0 h [a1] ∧ Exa Z h a1 "com/example/quotewire/quotewire/wire/Frame" ∧ Fld Z h a1 "com/example/quotewire/quotewire/wire/Frame" "time" "J" (.long q2) ∧ Fld Z h a1 "com/example/quotewire/quotewire/wire/Frame" "direction" "Lcom/example/quotewire/quotewire/wire/Frame$Direction;" (.ref a3) ∧ Fld Z h a1 "com/example/quotewire/quotewire/wire/Frame" "text" "Ljava/lang/String;" .null ∧ Fld Z h a1 "com/example/quotewire/quotewire/wire/Frame" "binary" "[B" (.ref a5)
set_option maxRecDepth 65536 in
set_option maxHeartbeats 40000000 in
theorem rm2 (l : Launch) (Z : State) (a0 : Array Value) (hw : ∀ d ∈ tables_1, d.before a0 Z = true) (ws : List Jvm.Cond) (a1 : Addr) (q2 : Int64) (a3 : Addr) (a5 : Addr) (h0 : Heap) (n0 : Nat) (Z0 : n0 ≤ h0.size) (E_a1 : Exa Z h0 a1 "com/example/quotewire/quotewire/wire/Frame") (F_time : Fld Z h0 a1 "com/example/quotewire/quotewire/wire/Frame" "time" "J" (.long (0 : Int64))) (F_direction : Fld Z h0 a1 "com/example/quotewire/quotewire/wire/Frame" "direction" "Lcom/example/quotewire/quotewire/wire/Frame$Direction;" .null) (F_text : Fld Z h0 a1 "com/example/quotewire/quotewire/wire/Frame" "text" "Ljava/lang/String;" .null) (F_binary : Fld Z h0 a1 "com/example/quotewire/quotewire/wire/Frame" "binary" "[B" .null) (g_a1 : n0 ≤ a1) (E_a3 : Exa Z h0 a3 "com/example/quotewire/quotewire/wire/Frame$Direction") :
    MetFree l (⟨"com/example/quotewire/quotewire/wire/Frame", "<init>", "(JLcom/example/quotewire/quotewire/wire/Frame$Direction;Ljava/lang/String;[B)V"⟩ : MethodName) (head1 (Jvm.Cond.code (⟨"com/example/quotewire/quotewire/wire/Frame", "<init>", "(JLcom/example/quotewire/quotewire/wire/Frame$Direction;Ljava/lang/String;[B)V"⟩ : MethodName) prog_32_method_1_code 6 none :: ws) ({ frames := 1, cells := 2, slots := 40, locals := 14 } : Room)) (fun a U => a = #[(.ref a1), (.long q2), (.ref a3), .null, (.ref a5)] ∧ Z.Warmed39 U.vm ∧ U.heap = h0) (fun _ _ _ _ _ => True) (fun _ U o U' => ∃ v L, o = .returned v ∧ Q2 Z a1 q2 a3 a5 h0 n0 v U'.heap L ∧ ReturnedEndW U o U' L ({ frames := 1, cells := 2, slots := 40, locals := 14 } : Room).cells ({ frames := 1, cells := 2, slots := 40, locals := 14 } : Room).slots) := by
  refine MetFree.of_bodySF (plainFor_of_name pn_2) hisR ?_
  intro p e s m args below meth c s₁ Bd hml0 hP hK
  obtain ⟨rfl, hZ, hh⟩ := hP
  have hx := Bd.exec
  have hby := Bd.bytes
  have hml : c.maxLocals = 6 := hml0
  have hown : s.vm.findClass "com/example/quotewire/quotewire/wire/Frame" = some m.cls := findClass_of_methodNamed Bd.named
  have hnm := (name_of_methodNamed Bd.named Bd.method).1
  have X0 : Stand p l e ({ frames := 1, cells := 2, slots := 40, locals := 14 } : Room) s m #[(.ref a1), (.long q2), (.ref a3), .null, (.ref a5)] below meth c s₁ [] 0 0 := Stand.of_body Bd
  have e0 : s₁.heap = h0 := by rw [← hh, Bd.state]; rfl
  have N0 := Fr.nil n0
  have pre0 : ∀ t, Steps p.tables e below (s₁.setTop (mkF m 0 #[.val (.ref a1), .val (.long q2), .second, .val (.ref a3), .val .null, .val (.ref a5)] [])) t → Steps p.tables e below (s₁.setTop (entryFrame m #[(.ref a1), (.long q2), (.ref a3), .null, (.ref a5)] 6)) t := fun t k => castTop (ef_2 m a1 q2 a3 a5) k
  obtain ⟨T6, X6, e6, st6⟩ := initO X0 hx hZ hown (hw _ (List.mem_of_getElem? (i := 22) rfl)) (hw _ (List.mem_of_getElem? (i := 23) rfl)) (hw _ (List.mem_of_getElem? (i := 24) rfl)) e0 (g := (mkF m 1 #[.val (.ref a1), .val (.long q2), .second, .val (.ref a3), .val .null, .val (.ref a5)] [(.ref a1)])) rfl (by rw [hml]; rfl) rfl (hb hby d2_1) (by decide) (W := 0) (by show 2 * 0 + _ ≤ _; exact Nat.le_of_eq rfl) (by decide)
  obtain ⟨T7, h7, X7, e7, W7, st7⟩ := putF X6 hx hZ hown (host := "") (Or.inl (hw _ (List.mem_of_getElem? (i := 25) rfl))) Via.refl e6 F_time E_a1 (Or.inr ⟨(hw _ (List.mem_of_getElem? (i := 26) rfl)), rfl, hnm⟩) (hw _ (List.mem_of_getElem? (i := 9) rfl)) (ty := .long) (by decide) rfl rfl (g := (mkF m 6 #[.val (.ref a1), .val (.long q2), .second, .val (.ref a3), .val .null, .val (.ref a5)] [(.long q2), (.ref a1)])) rfl rfl (hb hby d2_6)
  have F7t : Fld Z h7 a1 "com/example/quotewire/quotewire/wire/Frame" "time" "J" (.long q2) := F_time.same W7
  have F7d := F_direction.other W7 (Or.inr (slot_ne (Or.inr (hw _ (List.mem_of_getElem? (i := 41) rfl))) (Or.inr (hw _ (List.mem_of_getElem? (i := 26) rfl))) (by decide) (t := (.object "com/example/quotewire/quotewire/wire/Frame$Direction")) (t' := .long) (by decide) (by decide)))
  have F7x := F_text.other W7 (Or.inr (slot_ne (Or.inr (hw _ (List.mem_of_getElem? (i := 43) rfl))) (Or.inr (hw _ (List.mem_of_getElem? (i := 26) rfl))) (by decide) (t := (.object "java/lang/String")) (t' := .long) (by decide) (by decide)))
  have F7b := F_binary.other W7 (Or.inr (slot_ne (Or.inr (hw _ (List.mem_of_getElem? (i := 45) rfl))) (Or.inr (hw _ (List.mem_of_getElem? (i := 26) rfl))) (by decide) (t := (.array .byte)) (t' := .long) (by decide) (by decide)))
  have E7 := E_a1.wr W7
  have E37 := E_a3.wr W7
  have K7 : Keep h0 h7 [a1] := (Keep.refl h0 [a1]).wr W7 (Or.inl (List.mem_of_getElem? (i := 0) rfl))
  have N7 := Fr.snoc X7 N0 g_a1
  have X7s : Stand p l e ({ frames := 1, cells := 2, slots := 40, locals := 14 } : Room) (s.setVm s.vm) m #[(.ref a1), (.long q2), (.ref a3), .null, (.ref a5)] below meth c T7 _ 0 0 := X7
  obtain ⟨lit, T8, h8, k8, X8, e8, Ex8, S8, hk8, hZ8, hown8, st8⟩ := ldcS (s := s) (vm0 := s.vm) X7s hx hZ hown (hw _ (List.mem_of_getElem? (i := 27) rfl)) (own_str hw) e7 ((State.WarmedH.refl s).since 0) (Nat.zero_le _) (g := (mkF m 11 #[.val (.ref a1), .val (.long q2), .second, .val (.ref a3), .val .null, .val (.ref a5)] [(.ref a3), (.ref a1)])) rfl (hb hby d2_11) (n := 36) (by decide) (by decide) (by decide) (by decide)
  have Z8 : n0 ≤ h8.size := Nat.le_trans (Nat.le_trans Z0 K7.1) Ex8.1
  obtain ⟨_, _, ⟨T9, L9, kk9, n9⟩, -, X9, ⟨Lc9, hQ9, l9, y9, z9⟩, st9⟩ := Jvm.LawKit.callS X8 hx (y := (⟨"java/util/Objects", "requireNonNull", "(Ljava/lang/Object;Ljava/lang/String;)Ljava/lang/Object;"⟩ : MethodName)) hown8 (mvT hZ8 (hw _ (List.mem_of_getElem? (i := 34) rfl))) (mvT hZ8 (hw _ (List.mem_of_getElem? (i := 35) rfl))) (mvT hZ8 (hw _ (List.mem_of_getElem? (i := 36) rfl))) (mvT hZ8 (hw _ (List.mem_of_getElem? (i := 37) rfl))) (by decide) (backOf (W := 1) (rm4 l Z a0 hw [] a3 lit h8 n0 Z8) hZ8 (hw _ (List.mem_of_getElem? (i := 37) rfl)) (hw _ (List.mem_of_getElem? (i := 36) rfl)) (by decide) (by decide)) (g := (mkF m 13 #[.val (.ref a1), .val (.long q2), .second, .val (.ref a3), .val .null, .val (.ref a5)] [(.ref lit), (.ref a3), (.ref a1)])) rfl (by rw [hml]; rfl) (argsL := [(.ref a3), (.ref lit)]) (rest := [(.ref a1)]) (lenOf pd_rnn rfl) rfl (by show 2 * 0 + _ ≤ _; exact Nat.le_of_eq rfl) (hb hby d2_13) (fun _ _ => ⟨rfl, e8, (by decide : 2 + 0 ≤ _), (by decide : 40 + 0 ≤ _)⟩)
  dsimp only [Pt.U, Pt.locs, Pt.cells, Pt.slots] at X9 l9 y9 z9 st9 hQ9
  subst l9 y9 z9
  obtain ⟨rfl, N9q, q9⟩ := hQ9
  have N9 := Fr.app N7 N9q
  obtain ⟨T10, X10, e10, st10⟩ := castY X9 hx hZ8 hown8 (hw _ (List.mem_of_getElem? (i := 38) rfl)) q9 (Ins.self (E37.ext Ex8)) (g := (mkF m 16 #[.val (.ref a1), .val (.long q2), .second, .val (.ref a3), .val .null, .val (.ref a5)] [(.ref a3), (.ref a1)])) rfl rfl (hb hby d2_16)
  obtain ⟨T11, h11, X11, e11, W11, st11⟩ := putF X10 hx hZ8 hown8 (host := "") (Or.inl (hw _ (List.mem_of_getElem? (i := 40) rfl))) Via.refl e10 (F7d.ext Ex8) (E7.ext Ex8) (Or.inr ⟨(hw _ (List.mem_of_getElem? (i := 41) rfl)), rfl, hnm⟩) (hw _ (List.mem_of_getElem? (i := 9) rfl)) (ty := (.object "com/example/quotewire/quotewire/wire/Frame$Direction")) (by decide) rfl rfl (g := (mkF m 19 #[.val (.ref a1), .val (.long q2), .second, .val (.ref a3), .val .null, .val (.ref a5)] [(.ref a3), (.ref a1)])) rfl rfl (hb hby d2_19)
  have F11d : Fld Z h11 a1 "com/example/quotewire/quotewire/wire/Frame" "direction" "Lcom/example/quotewire/quotewire/wire/Frame$Direction;" (.ref a3) := (F7d.ext Ex8).same W11
  have F11t := (F7t.ext Ex8).other W11 (Or.inr (slot_ne (Or.inr (hw _ (List.mem_of_getElem? (i := 26) rfl))) (Or.inr (hw _ (List.mem_of_getElem? (i := 41) rfl))) (by decide) (t := .long) (t' := (.object "com/example/quotewire/quotewire/wire/Frame$Direction")) (by decide) (by decide)))
  have F11x := (F7x.ext Ex8).other W11 (Or.inr (slot_ne (Or.inr (hw _ (List.mem_of_getElem? (i := 43) rfl))) (Or.inr (hw _ (List.mem_of_getElem? (i := 41) rfl))) (by decide) (t := (.object "java/lang/String")) (t' := (.object "com/example/quotewire/quotewire/wire/Frame$Direction")) (by decide) (by decide)))
  have F11b := (F7b.ext Ex8).other W11 (Or.inr (slot_ne (Or.inr (hw _ (List.mem_of_getElem? (i := 45) rfl))) (Or.inr (hw _ (List.mem_of_getElem? (i := 41) rfl))) (by decide) (t := (.array .byte)) (t' := (.object "com/example/quotewire/quotewire/wire/Frame$Direction")) (by decide) (by decide)))
  have E11 := (E7.ext Ex8).wr W11
  have K11 : Keep h0 h11 [a1] := (K7.ext Ex8).wr W11 (Or.inl (List.mem_of_getElem? (i := 0) rfl))
  have N11 := Fr.snoc X11 N9 g_a1
  obtain ⟨T12, h12, X12, e12, W12, st12⟩ := putF X11 hx hZ8 hown8 (host := "") (Or.inl (hw _ (List.mem_of_getElem? (i := 42) rfl))) Via.refl e11 F11x E11 (Or.inr ⟨(hw _ (List.mem_of_getElem? (i := 43) rfl)), rfl, hnm⟩) (hw _ (List.mem_of_getElem? (i := 9) rfl)) (ty := (.object "java/lang/String")) (by decide) rfl rfl (g := (mkF m 25 #[.val (.ref a1), .val (.long q2), .second, .val (.ref a3), .val .null, .val (.ref a5)] [.null, (.ref a1)])) rfl rfl (hb hby d2_25)
  have F12x : Fld Z h12 a1 "com/example/quotewire/quotewire/wire/Frame" "text" "Ljava/lang/String;" .null := F11x.same W12
  have F12t := F11t.other W12 (Or.inr (slot_ne (Or.inr (hw _ (List.mem_of_getElem? (i := 26) rfl))) (Or.inr (hw _ (List.mem_of_getElem? (i := 43) rfl))) (by decide) (t := .long) (t' := (.object "java/lang/String")) (by decide) (by decide)))
  have F12d := F11d.other W12 (Or.inr (slot_ne (Or.inr (hw _ (List.mem_of_getElem? (i := 41) rfl))) (Or.inr (hw _ (List.mem_of_getElem? (i := 43) rfl))) (by decide) (t := (.object "com/example/quotewire/quotewire/wire/Frame$Direction")) (t' := (.object "java/lang/String")) (by decide) (by decide)))
  have F12b := F11b.other W12 (Or.inr (slot_ne (Or.inr (hw _ (List.mem_of_getElem? (i := 45) rfl))) (Or.inr (hw _ (List.mem_of_getElem? (i := 43) rfl))) (by decide) (t := (.array .byte)) (t' := (.object "java/lang/String")) (by decide) (by decide)))
  have E12 := E11.wr W12
  have K12 : Keep h0 h12 [a1] := K11.wr W12 (Or.inl (List.mem_of_getElem? (i := 0) rfl))
  have N12 := Fr.snoc X12 N11 g_a1
  obtain ⟨T13, h13, X13, e13, W13, st13⟩ := putF X12 hx hZ8 hown8 (host := "") (Or.inl (hw _ (List.mem_of_getElem? (i := 44) rfl))) Via.refl e12 F12b E12 (Or.inr ⟨(hw _ (List.mem_of_getElem? (i := 45) rfl)), rfl, hnm⟩) (hw _ (List.mem_of_getElem? (i := 9) rfl)) (ty := (.array .byte)) (by decide) rfl rfl (g := (mkF m 31 #[.val (.ref a1), .val (.long q2), .second, .val (.ref a3), .val .null, .val (.ref a5)] [(.ref a5), (.ref a1)])) rfl rfl (hb hby d2_31)
  have F13b : Fld Z h13 a1 "com/example/quotewire/quotewire/wire/Frame" "binary" "[B" (.ref a5) := F12b.same W13
  have F13t := F12t.other W13 (Or.inr (slot_ne (Or.inr (hw _ (List.mem_of_getElem? (i := 26) rfl))) (Or.inr (hw _ (List.mem_of_getElem? (i := 45) rfl))) (by decide) (t := .long) (t' := (.array .byte)) (by decide) (by decide)))
  have F13d := F12d.other W13 (Or.inr (slot_ne (Or.inr (hw _ (List.mem_of_getElem? (i := 41) rfl))) (Or.inr (hw _ (List.mem_of_getElem? (i := 45) rfl))) (by decide) (t := (.object "com/example/quotewire/quotewire/wire/Frame$Direction")) (t' := (.array .byte)) (by decide) (by decide)))
  have F13x := F12x.other W13 (Or.inr (slot_ne (Or.inr (hw _ (List.mem_of_getElem? (i := 43) rfl))) (Or.inr (hw _ (List.mem_of_getElem? (i := 45) rfl))) (by decide) (t := (.object "java/lang/String")) (t' := (.array .byte)) (by decide) (by decide)))
  have E13 := E12.wr W13
  have K13 : Keep h0 h13 [a1] := K12.wr W13 (Or.inl (List.mem_of_getElem? (i := 0) rfl))
  have N13 := Fr.snoc X13 N12 g_a1
  have hgrow : k8 ≤ T13.heap.size := by rw [e13, W13.size, W12.size, W11.size]; exact hk8
  obtain ⟨fs, hr, hrun, hended, hRW⟩ := X13.leaveW S8 hgrow (v := none) (fun _ => rfl)
  refine ⟨_, _, pre0 _ ?_, hrun, hended, _, _, rfl, ?_, hRW.1, hRW.2.1, hRW.2.2.1, hRW.2.2.2.mono (by decide) (by decide)⟩
  · show Steps p.tables e below (s₁.setTop (mkF m 0 #[.val (.ref a1), .val (.long q2), .second, .val (.ref a3), .val .null, .val (.ref a5)] [])) _
    refine XS.aloadN X0.here hx rfl (hb hby d2_0) rfl rfl ?_
    show Steps p.tables e below (s₁.setTop (mkF m 1 #[.val (.ref a1), .val (.long q2), .second, .val (.ref a3), .val .null, .val (.ref a5)] [(.ref a1)])) _
    refine st6 _ ?_
    show Steps p.tables e below (T6.setTop (mkF m 4 #[.val (.ref a1), .val (.long q2), .second, .val (.ref a3), .val .null, .val (.ref a5)] [])) _
    refine XS.aloadN X6.here hx rfl (hb hby d2_4) rfl rfl ?_
    show Steps p.tables e below (T6.setTop (mkF m 5 #[.val (.ref a1), .val (.long q2), .second, .val (.ref a3), .val .null, .val (.ref a5)] [(.ref a1)])) _
    refine XS.lloadN X6.here hx rfl (hb hby d2_5) rfl ?_
    show Steps p.tables e below (T6.setTop (mkF m 6 #[.val (.ref a1), .val (.long q2), .second, .val (.ref a3), .val .null, .val (.ref a5)] [(.long q2), (.ref a1)])) _
    refine st7 _ ?_
    show Steps p.tables e below (T7.setTop (mkF m 9 #[.val (.ref a1), .val (.long q2), .second, .val (.ref a3), .val .null, .val (.ref a5)] [])) _
    refine XS.aloadN X7.here hx rfl (hb hby d2_9) rfl rfl ?_
    show Steps p.tables e below (T7.setTop (mkF m 10 #[.val (.ref a1), .val (.long q2), .second, .val (.ref a3), .val .null, .val (.ref a5)] [(.ref a1)])) _
    refine XS.aloadN X7.here hx rfl (hb hby d2_10) rfl rfl ?_
    show Steps p.tables e below (T7.setTop (mkF m 11 #[.val (.ref a1), .val (.long q2), .second, .val (.ref a3), .val .null, .val (.ref a5)] [(.ref a3), (.ref a1)])) _
    refine st8 _ ?_
    show Steps p.tables e below (T8.setTop (mkF m 13 #[.val (.ref a1), .val (.long q2), .second, .val (.ref a3), .val .null, .val (.ref a5)] [(.ref lit), (.ref a3), (.ref a1)])) _
    refine st9 _ ?_
    show Steps p.tables e below (T9.setTop (mkF m 16 #[.val (.ref a1), .val (.long q2), .second, .val (.ref a3), .val .null, .val (.ref a5)] [(.ref a3), (.ref a1)])) _
    refine st10 _ ?_
    show Steps p.tables e below (T10.setTop (mkF m 19 #[.val (.ref a1), .val (.long q2), .second, .val (.ref a3), .val .null, .val (.ref a5)] [(.ref a3), (.ref a1)])) _
    refine st11 _ ?_
    show Steps p.tables e below (T11.setTop (mkF m 22 #[.val (.ref a1), .val (.long q2), .second, .val (.ref a3), .val .null, .val (.ref a5)] [])) _
    refine XS.aloadN X11.here hx rfl (hb hby d2_22) rfl rfl ?_
    show Steps p.tables e below (T11.setTop (mkF m 23 #[.val (.ref a1), .val (.long q2), .second, .val (.ref a3), .val .null, .val (.ref a5)] [(.ref a1)])) _
    refine XS.aload X11.here hx rfl (hb hby d2_23) rfl rfl ?_
    show Steps p.tables e below (T11.setTop (mkF m 25 #[.val (.ref a1), .val (.long q2), .second, .val (.ref a3), .val .null, .val (.ref a5)] [.null, (.ref a1)])) _
    refine st12 _ ?_
    show Steps p.tables e below (T12.setTop (mkF m 28 #[.val (.ref a1), .val (.long q2), .second, .val (.ref a3), .val .null, .val (.ref a5)] [])) _
    refine XS.aloadN X12.here hx rfl (hb hby d2_28) rfl rfl ?_
    show Steps p.tables e below (T12.setTop (mkF m 29 #[.val (.ref a1), .val (.long q2), .second, .val (.ref a3), .val .null, .val (.ref a5)] [(.ref a1)])) _
    refine XS.aload X12.here hx rfl (hb hby d2_29) rfl rfl ?_
    show Steps p.tables e below (T12.setTop (mkF m 31 #[.val (.ref a1), .val (.long q2), .second, .val (.ref a3), .val .null, .val (.ref a5)] [(.ref a5), (.ref a1)])) _
    refine st13 _ ?_
    show Steps p.tables e below (T13.setTop (mkF m 34 #[.val (.ref a1), .val (.long q2), .second, .val (.ref a3), .val .null, .val (.ref a5)] [])) _
    exact X13.returnOut hx Bd.returns (hb hby d2_34) hr
  · show Q2 Z a1 q2 a3 a5 h0 n0 _ T13.heap _
    rw [e13]
    exact ⟨rfl, N13, K13, E13, F13t, F13d, F13x, F13b⟩
theorem d1_0 : decode prog_32_method_3_code 0 = .ok (.new 8, 3) := by decide +kernel
theorem d1_3 : decode prog_32_method_3_code 3 = .ok (.dup, 1) := by decide +kernel
theorem d1_4 : decode prog_32_method_3_code 4 = .ok (.lload_n 0, 1) := by decide +kernel
theorem d1_5 : decode prog_32_method_3_code 5 = .ok (.aload_n 2, 1) := by decide +kernel
theorem d1_6 : decode prog_32_method_3_code 6 = .ok (.aconst_null, 1) := by decide +kernel
theorem d1_7 : decode prog_32_method_3_code 7 = .ok (.aload_n 3, 1) := by decide +kernel
theorem d1_8 : decode prog_32_method_3_code 8 = .ok (.invokevirtual 40, 3) := by decide +kernel
theorem d1_11 : decode prog_32_method_3_code 11 = .ok (.checkcast 41, 3) := by decide +kernel
theorem d1_14 : decode prog_32_method_3_code 14 = .ok (.invokespecial 37, 3) := by decide +kernel
theorem d1_17 : decode prog_32_method_3_code 17 = .ok (.areturn, 1) := by decide +kernel
theorem pn_1 : plainName "com/example/quotewire/quotewire/wire/Frame" = true := by first | (simp [plainName, overriddenIn]; done) | decide +kernel
theorem pd_1_1 : parseMethodDescriptor "()Ljava/lang/Object;" = some ⟨[], some (.object "java/lang/Object")⟩ := by decide +kernel
theorem pd_1_2 : parseMethodDescriptor "(JLcom/example/quotewire/quotewire/wire/Frame$Direction;Ljava/lang/String;[B)V" = some ⟨[.long, (.object "com/example/quotewire/quotewire/wire/Frame$Direction"), (.object "java/lang/String"), (.array .byte)], none⟩ := by decide +kernel
theorem ef_1 (m : MethodId) (x0 : Int64) (x1 : Addr) (x2 : Addr) : entryFrame m #[(.long x0), (.ref x1), (.ref x2)] 4 = mkF m 0 #[.val (.long x0), .second, .val (.ref x1), .val (.ref x2)] [] := by first | (simp [entryFrame, mkF, argsToLocals, Value.category]; done) | rfl
def Q1 (Z : State) (q1 : Int64) (a2 : Addr) (a3 : Addr) (k : ClassId) (z : Int32) (vs : List Value) (dv : Value) (h0 : Heap) (n0 : Nat) (v : Option Value) (h : Heap) (L : List Loc) : Prop := Fr n0 L ∧ ∃ f b : Addr, v = some (.ref f) ∧ h0.size ≤ f ∧ h0.size ≤ b ∧ Keep h0 h [] ∧ Exa Z h f "com/example/quotewire/quotewire/wire/Frame" ∧ Exa Z h b "[B" ∧ Fld Z h f "com/example/quotewire/quotewire/wire/Frame" "time" "J" (.long q1) ∧ Fld Z h f "com/example/quotewire/quotewire/wire/Frame" "direction" "Lcom/example/quotewire/quotewire/wire/Frame$Direction;" (.ref a2) ∧ Fld Z h f "com/example/quotewire/quotewire/wire/Frame" "text" "Ljava/lang/String;" .null ∧ Fld Z h f "com/example/quotewire/quotewire/wire/Frame" "binary" "[B" (.ref b) ∧ Arv Z h b k .byte z vs dv
set_option maxRecDepth 65536 in
set_option maxHeartbeats 40000000 in
theorem rm1 (l : Launch) (Z : State) (a0 : Array Value) (hw : ∀ d ∈ tables_1, d.before a0 Z = true) (ws : List Jvm.Cond) (q1 : Int64) (a2 : Addr) (a3 : Addr) (k : ClassId) (z : Int32) (vs : List Value) (dv : Value) (h0 : Heap) (n0 : Nat) (Z0 : n0 ≤ h0.size) (E_a2 : Exa Z h0 a2 "com/example/quotewire/quotewire/wire/Frame$Direction") (E_a3 : Exa Z h0 a3 "[B") (V : Arv Z h0 a3 k .byte z vs dv) (hz : z.toNatClampNeg ≤ 4) :
    MetFree l (⟨"com/example/quotewire/quotewire/wire/Frame", "binary", "(JLcom/example/quotewire/quotewire/wire/Frame$Direction;[B)Lcom/example/quotewire/quotewire/wire/Frame;"⟩ : MethodName) (head1 (Jvm.Cond.code (⟨"com/example/quotewire/quotewire/wire/Frame", "binary", "(JLcom/example/quotewire/quotewire/wire/Frame$Direction;[B)Lcom/example/quotewire/quotewire/wire/Frame;"⟩ : MethodName) prog_32_method_3_code 4 (some (.object "com/example/quotewire/quotewire/wire/Frame")) :: ws) ({ frames := 2, cells := 4, slots := 48, locals := 32 } : Room)) (fun a U => a = #[(.long q1), (.ref a2), (.ref a3)] ∧ Z.Warmed39 U.vm ∧ U.heap = h0) (fun _ _ _ _ _ => True) (fun _ U o U' => ∃ v L, o = .returned v ∧ Q1 Z q1 a2 a3 k z vs dv h0 n0 v U'.heap L ∧ ReturnedEndW U o U' L ({ frames := 2, cells := 4, slots := 48, locals := 32 } : Room).cells ({ frames := 2, cells := 4, slots := 48, locals := 32 } : Room).slots) := by
  refine MetFree.of_bodySF (plainFor_of_name pn_1) hisR ?_
  intro p e s m args below meth c s₁ Bd hml0 hP hK
  obtain ⟨rfl, hZ, hh⟩ := hP
  have hx := Bd.exec
  have hby := Bd.bytes
  have hml : c.maxLocals = 4 := hml0
  have hown : s.vm.findClass "com/example/quotewire/quotewire/wire/Frame" = some m.cls := findClass_of_methodNamed Bd.named
  have hnm := (name_of_methodNamed Bd.named Bd.method).1
  have X0 : Stand p l e ({ frames := 2, cells := 4, slots := 48, locals := 32 } : Room) s m #[(.long q1), (.ref a2), (.ref a3)] below meth c s₁ [] 0 0 := Stand.of_body Bd
  have e0 : s₁.heap = h0 := by rw [← hh, Bd.state]; rfl
  have N0 := Fr.nil n0
  have pre0 : ∀ t, Steps p.tables e below (s₁.setTop (mkF m 0 #[.val (.long q1), .second, .val (.ref a2), .val (.ref a3)] [])) t → Steps p.tables e below (s₁.setTop (entryFrame m #[(.long q1), (.ref a2), (.ref a3)] 4)) t := fun t k => castTop (ef_1 m q1 a2 a3) k
  -- 3. LAWS
  obtain ⟨T4, h4, X4, e4, E4, A4, D4, -, st4⟩ := newO X0 hx hZ hown (hw _ (List.mem_of_getElem? (i := 8) rfl)) (hw _ (List.mem_of_getElem? (i := 9) rfl)) (hw _ (List.mem_of_getElem? (i := 6) rfl)) e0 (g := (mkF m 0 #[.val (.long q1), .second, .val (.ref a2), .val (.ref a3)] [])) rfl (hb hby d1_0) (by decide) (by decide)
  obtain ⟨b4, g4⟩ : ∃ z, z = h0.size := ⟨_, rfl⟩      -- the fresh object's address
  rw [← g4] at A4 D4 st4      -- A4 : Exa Z h4 b4 "com/example/quotewire/quotewire/wire/Frame"; E4 : Ext h0 h4 (carries every older fact: .ext E4)
  have F_time_b4 : Fld Z h4 b4 "com/example/quotewire/quotewire/wire/Frame" "time" "J" (.long (0 : Int64)) := D4 (Or.inr (hw _ (List.mem_of_getElem? (i := 26) rfl))) (ty := .long) (by decide)
  have F_direction_b4 : Fld Z h4 b4 "com/example/quotewire/quotewire/wire/Frame" "direction" "Lcom/example/quotewire/quotewire/wire/Frame$Direction;" .null := D4 (Or.inr (hw _ (List.mem_of_getElem? (i := 41) rfl))) (ty := (.object "com/example/quotewire/quotewire/wire/Frame$Direction")) (by decide)
  have F_text_b4 : Fld Z h4 b4 "com/example/quotewire/quotewire/wire/Frame" "text" "Ljava/lang/String;" .null := D4 (Or.inr (hw _ (List.mem_of_getElem? (i := 43) rfl))) (ty := (.object "java/lang/String")) (by decide)
  have F_binary_b4 : Fld Z h4 b4 "com/example/quotewire/quotewire/wire/Frame" "binary" "[B" .null := D4 (Or.inr (hw _ (List.mem_of_getElem? (i := 45) rfl))) (ty := (.array .byte)) (by decide)
  have E_b4 := A4
  have g_b4 : n0 ≤ b4 := Nat.le_trans Z0 (Nat.le_of_eq g4.symm)
  have sz_b4 : h0.size ≤ b4 := (Nat.le_trans (Keep.refl h0 []).1 (Nat.le_of_eq g4.symm))
  have K4 : Keep h0 h4 [] := (Keep.refl h0 []).ext E4
  obtain ⟨T5, h5, X5, e5, E5, A5, B5, st5⟩ := cloneH X4 hx hZ hown (hw _ (List.mem_of_getElem? (i := 10) rfl)) (hw _ (List.mem_of_getElem? (i := 11) rfl)) (hw _ (List.mem_of_getElem? (i := 15) rfl)) (hw _ (List.mem_of_getElem? (i := 13) rfl)) (hw _ (List.mem_of_getElem? (i := 14) rfl)) (hw _ (List.mem_of_getElem? (i := 16) rfl)) e4 (V.ext E4).arh (E_a3.ext E4) (g := (mkF m 8 #[.val (.long q1), .second, .val (.ref a2), .val (.ref a3)] [(.ref a3), .null, (.ref a2), (.long q1), (.ref b4), (.ref b4)])) rfl (by rw [hml]; rfl) rfl (hb hby d1_8) (by decide) (W := 6) (cap := 4) (by show 2 * 0 + _ ≤ _; exact Nat.le_of_eq rfl) (by decide) hz (by decide) (by decide)
  obtain ⟨b5, g5⟩ : ∃ z, z = h4.size := ⟨_, rfl⟩
  rw [← g5] at A5 B5 st5
  have V5 : Arv Z h5 b5 k .byte z vs dv := A5
  have hne : b5 ≠ b4 := fun q => absurd (E_b4.lt) (by rw [← q, g5]; exact Nat.lt_irrefl _)
  have K5 : Keep h0 h5 [] := K4.ext E5
  have Z5 : n0 ≤ h5.size := Nat.le_trans Z0 K5.1
  obtain ⟨T6, X6, e6, st6⟩ := castY X5 hx hZ hown (hw _ (List.mem_of_getElem? (i := 17) rfl)) e5 (Ins.self B5) (g := (mkF m 11 #[.val (.long q1), .second, .val (.ref a2), .val (.ref a3)] [(.ref b5), .null, (.ref a2), (.long q1), (.ref b4), (.ref b4)])) rfl rfl (hb hby d1_11)
  -- pc 14: the constructor of com/example/quotewire/quotewire/wire/Frame by its contract rm2
  obtain ⟨_, _, ⟨T7, L7, k7, n7⟩, -, X7, S7, gr7, ⟨Lc7, hQ7, l7, y7, z7⟩, st7⟩ := X6.specialBackS hx (y := (⟨"com/example/quotewire/quotewire/wire/Frame", "<init>", "(JLcom/example/quotewire/quotewire/wire/Frame$Direction;Ljava/lang/String;[B)V"⟩ : MethodName)) rfl hown (mvT hZ (hw _ (List.mem_of_getElem? (i := 19) rfl))) (mvT hZ (hw _ (List.mem_of_getElem? (i := 20) rfl))) (mvT hZ (hw _ (List.mem_of_getElem? (i := 21) rfl))) (by decide) (backOfS (W := 1) (rm2 l Z a0 hw [] b4 q1 a2 b5 h5 n0 Z5 (E_b4.ext E5) (F_time_b4.ext E5) (F_direction_b4.ext E5) (F_text_b4.ext E5) (F_binary_b4.ext E5) g_b4 ((E_a2.ext E4).ext E5)) hZ (hw _ (List.mem_of_getElem? (i := 21) rfl)) (hw _ (List.mem_of_getElem? (i := 6) rfl)) (by decide) (by decide)) (g := (mkF m 14 #[.val (.long q1), .second, .val (.ref a2), .val (.ref a3)] [(.ref b5), .null, (.ref a2), (.long q1), (.ref b4), (.ref b4)])) rfl (by rw [hml]; rfl) (Steps.refl _) (a := b4) (argsL := [(.long q1), (.ref a2), .null, (.ref b5)]) (rest := [(.ref b4)]) (lenOf pd_1_2 rfl) rfl (by show 2 * 0 + _ ≤ _; exact Nat.le_of_eq rfl) (hb hby d1_14) (fun _ _ => ⟨rfl, e6, (by decide : 2 + 2 ≤ _), (by decide : 8 + 40 ≤ _)⟩)
  dsimp only [Pt.U, Pt.locs, Pt.cells, Pt.slots] at X7 S7 gr7 l7 y7 z7 st7 hQ7
  subst l7 y7 z7
  obtain ⟨rfl, N7q, K7, E7f, F7t, F7d, F7x, F7b⟩ := hQ7      -- what it returned, that it wrote nothing old, and the rest of your Q2
  have N7 := Fr.app N0 N7q
  obtain ⟨fs, hr, hrun, hended, hRW⟩ := X7.leaveW S7 (Nat.le_refl _) (v := some (.ref b4)) (fun h => by rw [Bd.returns] at h; cases h)
  refine ⟨_, _, pre0 _ ?_, hrun, hended, _, _, rfl, ?_, hRW.1, hRW.2.1, hRW.2.2.1, hRW.2.2.2.mono (by decide) (by decide)⟩
  -- 4. STEPS
  · show Steps p.tables e below (s₁.setTop (mkF m 0 #[.val (.long q1), .second, .val (.ref a2), .val (.ref a3)] [])) _
    refine st4 _ ?_
    show Steps p.tables e below (T4.setTop (mkF m 3 #[.val (.long q1), .second, .val (.ref a2), .val (.ref a3)] [(.ref b4)])) _
    refine XS.dup X4.here hx rfl (hb hby d1_3) rfl rfl ?_
    show Steps p.tables e below (T4.setTop (mkF m 4 #[.val (.long q1), .second, .val (.ref a2), .val (.ref a3)] [(.ref b4), (.ref b4)])) _
    refine XS.lloadN X4.here hx rfl (hb hby d1_4) rfl ?_
    show Steps p.tables e below (T4.setTop (mkF m 5 #[.val (.long q1), .second, .val (.ref a2), .val (.ref a3)] [(.long q1), (.ref b4), (.ref b4)])) _
    refine XS.aloadN X4.here hx rfl (hb hby d1_5) rfl rfl ?_
    show Steps p.tables e below (T4.setTop (mkF m 6 #[.val (.long q1), .second, .val (.ref a2), .val (.ref a3)] [(.ref a2), (.long q1), (.ref b4), (.ref b4)])) _
    refine XS.aconstNull X4.here hx rfl (hb hby d1_6) ?_
    show Steps p.tables e below (T4.setTop (mkF m 7 #[.val (.long q1), .second, .val (.ref a2), .val (.ref a3)] [.null, (.ref a2), (.long q1), (.ref b4), (.ref b4)])) _
    refine XS.aloadN X4.here hx rfl (hb hby d1_7) rfl rfl ?_
    show Steps p.tables e below (T4.setTop (mkF m 8 #[.val (.long q1), .second, .val (.ref a2), .val (.ref a3)] [(.ref a3), .null, (.ref a2), (.long q1), (.ref b4), (.ref b4)])) _
    refine st5 _ ?_
    show Steps p.tables e below (T5.setTop (mkF m 11 #[.val (.long q1), .second, .val (.ref a2), .val (.ref a3)] [(.ref b5), .null, (.ref a2), (.long q1), (.ref b4), (.ref b4)])) _
    refine st6 _ ?_
    show Steps p.tables e below (T6.setTop (mkF m 14 #[.val (.long q1), .second, .val (.ref a2), .val (.ref a3)] [(.ref b5), .null, (.ref a2), (.long q1), (.ref b4), (.ref b4)])) _
    refine st7.trans ?_
    show Steps p.tables e below (T7.setTop (mkF m 17 #[.val (.long q1), .second, .val (.ref a2), .val (.ref a3)] [(.ref b4)])) _
    jvm_step X7.here [X7.here.top, hx, (hb hby d1_17), X7.method', Bd.returns, Value.isRef, FieldType.isReference]
    first | (intro acts; rw [hr _ acts rfl rfl rfl]) | rw [hr _ _ rfl rfl rfl]
    exact Steps.refl _
  · show Q1 Z q1 a2 a3 k z vs dv h0 n0 _ T7.heap _
    exact ⟨N7, b4, b5, rfl, sz_b4, Nat.le_trans K4.1 (Nat.le_of_eq g5.symm), K5.trans K7 (fun x hx => by cases List.mem_singleton.mp hx; exact Or.inr sz_b4), E7f, B5.keep K7, F7t, F7d, F7x, F7b, V5.keep K7 (fun q => hne (List.mem_singleton.mp q))⟩
def Q0 (Z : State) (h0 : Heap) (n0 : Nat) (v : Option Value) (h : Heap) (L : List Loc) : Prop := v = some (.int (1 : Int32)) ∧ Fr n0 L
theorem pn_0 : plainName "com/example/quotewire/quotewire/wire/FrameBinaryPinLaw" = true := by first | (simp [plainName, overriddenIn]; done) | decide +kernel
theorem pd_0_0 : parseMethodDescriptor "(JLcom/example/quotewire/quotewire/wire/Frame$Direction;[B)Lcom/example/quotewire/quotewire/wire/Frame;" = some ⟨[.long, (.object "com/example/quotewire/quotewire/wire/Frame$Direction"), (.array .byte)], some (.object "com/example/quotewire/quotewire/wire/Frame")⟩ := by decide +kernel
theorem pd_0_5 : parseMethodDescriptor "([B)V" = some ⟨[(.array .byte)], none⟩ := by decide +kernel
theorem pd_0_6 : parseMethodDescriptor "()[B" = some ⟨[], some (.array .byte)⟩ := by decide +kernel
theorem pd_0_7 : parseMethodDescriptor "([BII)Z" = some ⟨[(.array .byte), .int, .int], some .boolean⟩ := by decide +kernel
theorem pd_0_8 : parseMethodDescriptor "()J" = some ⟨[], some .long⟩ := by decide +kernel
theorem pd_0_9 : parseMethodDescriptor "()Lcom/example/quotewire/quotewire/wire/Frame$Direction;" = some ⟨[], some (.object "com/example/quotewire/quotewire/wire/Frame$Direction")⟩ := by decide +kernel
theorem pd_0_10 : parseMethodDescriptor "()Z" = some ⟨[], some .boolean⟩ := by decide +kernel
theorem ef_0 (m : MethodId) (x0 : Int64) (x1 : Int32) (x2 : Int32) (x3 : Int32) : entryFrame m #[(.long x0), (.int x1), (.int x2), (.int x3)] maxLocals = mkF m 0 #[.val (.long x0), .second, .val (.int x1), .val (.int x2), .val (.int x3), .unset, .unset, .unset, .unset, .unset, .unset, .unset] [] := by first | (simp [entryFrame, mkF, argsToLocals, Value.category, maxLocals]; done) | rfl
set_option maxRecDepth 65536 in
set_option maxHeartbeats 40000000 in
theorem rm0_OUT_0 (l : Launch) (Z : State) (a0 : Array Value) (hw : ∀ d ∈ tables_1, d.before a0 Z = true) (ws : List Jvm.Cond) (q1 : Int64) (p2 : Int32) (p3 : Int32) (p4 : Int32) (w_OUT : Addr) (h0 : Heap) (n0 : Nat) (Z0 : n0 ≤ h0.size) (S_OUT : Sta Z h0 "com/example/quotewire/quotewire/wire/Frame$Direction" "OUT" "Lcom/example/quotewire/quotewire/wire/Frame$Direction;" (.ref w_OUT)) (E_OUT : Exa Z h0 w_OUT "com/example/quotewire/quotewire/wire/Frame$Direction") (hc3 : ¬ ((p2 &&& (1 : Int32)) = (0 : Int32))) (hk : ((p4 &&& (7 : Int32)) % (5 : Int32)) = (0 : Int32)) :
    MetFree l x (head1 (Jvm.Cond.code x code maxLocals ret :: ws) room_1) (fun a U => a = #[(.long q1), (.int p2), (.int p3), (.int p4)] ∧ Z.Warmed39 U.vm ∧ U.heap = h0) (fun _ _ _ _ _ => True) (fun _ U o U' => ∃ v L, o = .returned v ∧ Q0 Z h0 n0 v U'.heap L ∧ ReturnedEndW U o U' L room_1.cells room_1.slots) := by
  refine MetFree.of_bodySF (plainFor_of_name pn_0) hisR ?_
  intro p e s m args below meth c s₁ Bd hml0 hP hK
  obtain ⟨rfl, hZ, hh⟩ := hP
  have hx := Bd.exec
  have hby := Bd.bytes
  have hml : c.maxLocals = 12 := hml0
  have hown : s.vm.findClass "com/example/quotewire/quotewire/wire/FrameBinaryPinLaw" = some m.cls := findClass_of_methodNamed Bd.named
  have hnm := (name_of_methodNamed Bd.named Bd.method).1
  have X0 : Stand p l e room_1 s m #[(.long q1), (.int p2), (.int p3), (.int p4)] below meth c s₁ [] 0 0 := Stand.of_body Bd
  have e0 : s₁.heap = h0 := by rw [← hh, Bd.state]; rfl
  have N0 := Fr.nil n0
  have pre0 : ∀ t, Steps p.tables e below (s₁.setTop (mkF m 0 #[.val (.long q1), .second, .val (.int p2), .val (.int p3), .val (.int p4), .unset, .unset, .unset, .unset, .unset, .unset, .unset] [])) t → Steps p.tables e below (s₁.setTop (entryFrame m #[(.long q1), (.int p2), (.int p3), (.int p4)] maxLocals)) t := fun t k => castTop (ef_0 m q1 p2 p3 p4) k
  -- 3. LAWS
  obtain ⟨T6, X6, e6, st6⟩ := getS2 X0 hx hZ hown (host := "") (Or.inl (hw _ (List.mem_of_getElem? (i := 76) rfl))) Via.refl e0 S_OUT (g := (mkF m 6 #[.val (.long q1), .second, .val (.int p2), .val (.int p3), .val (.int p4), .unset, .unset, .unset, .unset, .unset, .unset, .unset] [])) rfl (hb hby at_6)
  obtain ⟨T7, h7, k7, X7, e7, E7, A7, B7, st7⟩ := newPE X6 hx hZ (hw _ (List.mem_of_getElem? (i := 3) rfl)) e6 (g := (mkF m 28 #[.val (.long q1), .second, .val (.int p2), .val (.int p3), .val (.int p4), .val (.ref w_OUT), .val (.int (0 : Int32)), .unset, .unset, .unset, .unset, .unset] [(.int (0 : Int32))])) rfl (hb hby at_28) rfl (by decide) (cap := 4) (by decide) (by decide) (by decide) (by decide) (ad := "[B") (by decide)
  obtain ⟨b7, g7⟩ : ∃ z, z = h0.size := ⟨_, rfl⟩      -- the fresh array's address
  rw [← g7] at A7 B7 st7
  have V0 : Arv Z h7 b7 k7 .byte (0 : Int32) [] (.int (0 : Int32)) := (Arv.new A7 (by decide)).pad (pad_rep [] (.int (0 : Int32)) 0)
  have g_b7 : n0 ≤ b7 := Nat.le_trans Z0 (Nat.le_of_eq g7.symm)
  have sz_b7 : h0.size ≤ b7 := (Nat.le_trans (Keep.refl h0 []).1 (Nat.le_of_eq g7.symm))
  have K7 : Keep h0 h7 [] := (Keep.refl h0 []).ext E7
  have Zc_0 : n0 ≤ h7.size := Nat.le_trans Z0 K7.1
  have D_0 := E_OUT.ext E7
  have D_c : Exa Z h7 w_OUT "com/example/quotewire/quotewire/wire/Frame$Direction" := D_0
  have B_c : Exa Z h7 b7 "[B" := B7
  obtain ⟨_, _, ⟨T8, L8, k8, n8⟩, -, X8, S8, gr8, ⟨Lc8, hQ8, l8, y8, z8⟩, st8⟩ := callSS X7 hx (y := (⟨"com/example/quotewire/quotewire/wire/Frame", "binary", "(JLcom/example/quotewire/quotewire/wire/Frame$Direction;[B)Lcom/example/quotewire/quotewire/wire/Frame;"⟩ : MethodName)) hown (mvT hZ (hw _ (List.mem_of_getElem? (i := 4) rfl))) (mvT hZ (hw _ (List.mem_of_getElem? (i := 5) rfl))) (mvT hZ (hw _ (List.mem_of_getElem? (i := 6) rfl))) (mvT hZ (hw _ (List.mem_of_getElem? (i := 7) rfl))) (by decide) (backOfS (W := 0) (rm1 l Z a0 hw [] q1 w_OUT b7 k7 (0 : Int32) [] (.int (0 : Int32)) h7 n0 Zc_0 D_c B_c V0 (by decide)) hZ (hw _ (List.mem_of_getElem? (i := 7) rfl)) (hw _ (List.mem_of_getElem? (i := 6) rfl)) (by decide) (by decide)) (g := (mkF m 96 #[.val (.long q1), .second, .val (.int p2), .val (.int p3), .val (.int p4), .val (.ref w_OUT), .val (.int (0 : Int32)), .val (.ref b7), .unset, .unset, .unset, .unset] [(.ref b7), (.ref w_OUT), (.long q1)])) rfl (by rw [hml]; rfl) (argsL := [(.long q1), (.ref w_OUT), (.ref b7)]) (rest := []) (lenOf pd_0_0 rfl) rfl (by show 2 * 0 + _ ≤ _; exact Nat.le_of_eq rfl) (hb hby at_96) (fun _ _ => ⟨rfl, e7, (by decide : 1 + 4 ≤ _), (by decide : 4 + 48 ≤ _)⟩)
  dsimp only [Pt.U, Pt.locs, Pt.cells, Pt.slots] at X8 S8 gr8 l8 y8 z8 st8 hQ8
  subst l8 y8 z8
  obtain ⟨N8q, f, fb, rfl, zf, zb, K8, Ef_8, Eb_8, Ft_8, Fd_8, Fx_8, Fb_8, Vb_8⟩ := hQ8
  have hZw : Z.Warmed39 (s.setVm T8.vm).vm := State.Warmed39.trans (t := s) hZ S8.1
  have hownw : (s.setVm T8.vm).vm.findClass "com/example/quotewire/quotewire/wire/FrameBinaryPinLaw" = some m.cls := by rw [show (s.setVm T8.vm).vm = T8.vm from rfl, S8.1.alike.findClass]; exact hown
  have Z_8 : n0 ≤ T8.heap.size := Nat.le_trans Zc_0 K8.1
  have Vs : Arv Z T8.heap b7 k7 .byte (0 : Int32) [] (.int (0 : Int32)) := V0.keep K8 (fun q => nomatch q)
  have lb : b7 < h7.size := V0.lt
  have nf : f ∉ [b7] := fun q => absurd (List.mem_singleton.mp q) (Nat.ne_of_gt (Nat.lt_of_lt_of_le lb zf))
  have nb : fb ∉ [b7] := fun q => absurd (List.mem_singleton.mp q) (Nat.ne_of_gt (Nat.lt_of_lt_of_le lb zb))
  have N8 := Fr.app N0 N8q
  obtain ⟨_, _, ⟨T9, L9, k9, n9⟩, -, X9, ⟨Lc9, hQ9, l9, y9, z9⟩, st9⟩ := Jvm.LawKit.callS X8 hx (y := (⟨"com/example/quotewire/quotewire/wire/FrameBinaryPinLaw", "flip", "([B)V"⟩ : MethodName)) hownw (mvT hZw (hw _ (List.mem_of_getElem? (i := 46) rfl))) (mvT hZw (hw _ (List.mem_of_getElem? (i := 47) rfl))) (mvT hZw (hw _ (List.mem_of_getElem? (i := 48) rfl))) (mvT hZw (hw _ (List.mem_of_getElem? (i := 49) rfl))) (by decide) (backOf (W := 0) (rm5_0 l Z a0 hw [] b7 k7  (.int (0 : Int32)) T8.heap n0 Z_8 Vs g_b7) hZw (hw _ (List.mem_of_getElem? (i := 49) rfl)) (hw _ (List.mem_of_getElem? (i := 48) rfl)) (by decide) (by decide)) (g := (mkF m 103 #[.val (.long q1), .second, .val (.int p2), .val (.int p3), .val (.int p4), .val (.ref w_OUT), .val (.int (0 : Int32)), .val (.ref b7), .val (.ref f), .unset, .unset, .unset] [(.ref b7)])) rfl (by rw [hml]; rfl) (argsL := [(.ref b7)]) (rest := []) (lenOf pd_0_5 rfl) rfl (by show 2 * 0 + _ ≤ _; exact Nat.le_of_eq rfl) (hb hby at_103) (fun _ _ => ⟨rfl, rfl, (by decide : 5 + 0 ≤ _), (by decide : 52 + 0 ≤ _)⟩)
  dsimp only [Pt.U, Pt.locs, Pt.cells, Pt.slots] at X9 l9 y9 z9 st9 hQ9
  subst l9 y9 z9
  obtain ⟨rfl, N9q, K9⟩ := hQ9
  have Ef_9 := Ef_8.keep K9
  have Eb_9 := Eb_8.keep K9
  have Ft_9 := Ft_8.keep K9 nf
  have Fd_9 := Fd_8.keep K9 nf
  have Fx_9 := Fx_8.keep K9 nf
  have Fb_9 := Fb_8.keep K9 nf
  have Vb_9 := Vb_8.keep K9 nb
  have Z_9 : n0 ≤ T9.heap.size := Nat.le_trans Z_8 K9.1
  have N9 := Fr.app N8 N9q
  obtain ⟨cq10, kq10, q10a, q10b, q10c⟩ := isOf hZw rfl Ef_9
  obtain ⟨_, _, ⟨T10, L10, k10, n10⟩, -, X10, ⟨Lc10, hQ10, l10, y10, z10⟩, st10⟩ := X9.virtualBack hx (y := (⟨"com/example/quotewire/quotewire/wire/Frame", "binary", "()[B"⟩ : MethodName)) (z := (⟨"com/example/quotewire/quotewire/wire/Frame", "binary", "()[B"⟩ : MethodName)) hownw (mvT hZw (hw _ (List.mem_of_getElem? (i := 50) rfl))) (mvT hZw (hw _ (List.mem_of_getElem? (i := 51) rfl))) (notFace_of_selects (args := #[]) (mvT hZw (hw _ (List.mem_of_getElem? (i := 53) rfl)))) (mvT hZw (hw _ (List.mem_of_getElem? (i := 53) rfl))) (mvT hZw (hw _ (List.mem_of_getElem? (i := 52) rfl))) (by decide) (backOf (W := 0) (rm6 l Z a0 hw [] f fb k7 (0 : Int32) [] (.int (0 : Int32)) T9.heap n0 Z_9 Fb_9 Eb_9 Vb_9 (by decide)) hZw (hw _ (List.mem_of_getElem? (i := 54) rfl)) (hw _ (List.mem_of_getElem? (i := 6) rfl)) (by decide) (by decide)) q10a q10c (g := (mkF m 108 #[.val (.long q1), .second, .val (.int p2), .val (.int p3), .val (.int p4), .val (.ref w_OUT), .val (.int (0 : Int32)), .val (.ref b7), .val (.ref f), .unset, .unset, .unset] [(.ref f)])) rfl (by rw [hml]; rfl) (Steps.refl _) (argsL := []) (rest := []) (lenOf pd_0_6 rfl) rfl (by show 2 * 0 + _ ≤ _; exact Nat.le_of_eq rfl) (hb hby at_108) (fun _ _ => ⟨rfl, rfl, (by decide : 5 + 1 ≤ _), (by decide : 52 + 4 ≤ _)⟩)
  dsimp only [Pt.U, Pt.locs, Pt.cells, Pt.slots] at X10 l10 y10 z10 st10 hQ10
  subst l10 y10 z10
  obtain ⟨N10q, o1, rfl, zo1, K10, Vo1, Eo1⟩ := hQ10
  have nf1 : f ∉ [o1] := fun q => absurd (List.mem_singleton.mp q) (Nat.ne_of_lt (Nat.lt_of_lt_of_le Ef_9.lt zo1))
  have nb1 : fb ∉ [o1] := fun q => absurd (List.mem_singleton.mp q) (Nat.ne_of_lt (Nat.lt_of_lt_of_le Eb_9.lt zo1))
  have g_o1 : n0 ≤ o1 := Nat.le_trans Z_9 zo1
  have Ef_10 := Ef_9.keep K10
  have Eb_10 := Eb_9.keep K10
  have Ft_10 := Ft_9.keep K10 (fun q => nomatch q)
  have Fd_10 := Fd_9.keep K10 (fun q => nomatch q)
  have Fx_10 := Fx_9.keep K10 (fun q => nomatch q)
  have Fb_10 := Fb_9.keep K10 (fun q => nomatch q)
  have Vb_10 := Vb_9.keep K10 (fun q => nomatch q)
  have Z_10 : n0 ≤ T10.heap.size := Nat.le_trans Z_9 K10.1
  have N10 := Fr.app N9 N10q
  obtain ⟨_, _, ⟨T11, L11, k11, n11⟩, -, X11, ⟨Lc11, hQ11, l11, y11, z11⟩, st11⟩ := Jvm.LawKit.callS X10 hx (y := (⟨"com/example/quotewire/quotewire/wire/FrameBinaryPinLaw", "same", "([BII)Z"⟩ : MethodName)) hownw (mvT hZw (hw _ (List.mem_of_getElem? (i := 55) rfl))) (mvT hZw (hw _ (List.mem_of_getElem? (i := 56) rfl))) (mvT hZw (hw _ (List.mem_of_getElem? (i := 48) rfl))) (mvT hZw (hw _ (List.mem_of_getElem? (i := 57) rfl))) (by decide) (backOf (W := 0) (rm7_0 l Z a0 hw [] o1 p3 k7 (.int (0 : Int32)) T10.heap n0 Z_10 Vo1) hZw (hw _ (List.mem_of_getElem? (i := 57) rfl)) (hw _ (List.mem_of_getElem? (i := 48) rfl)) (by decide) (by decide)) (g := (mkF m 118 #[.val (.long q1), .second, .val (.int p2), .val (.int p3), .val (.int p4), .val (.ref w_OUT), .val (.int (0 : Int32)), .val (.ref b7), .val (.ref f), .val (.ref o1), .unset, .unset] [(.int p3), (.int (0 : Int32)), (.ref o1)])) rfl (by rw [hml]; rfl) (argsL := [(.ref o1), (.int (0 : Int32)), (.int p3)]) (rest := []) (lenOf pd_0_7 rfl) rfl (by show 2 * 0 + _ ≤ _; exact Nat.le_of_eq rfl) (hb hby at_118) (fun _ _ => ⟨rfl, rfl, (by decide : 6 + 0 ≤ _), (by decide : 56 + 0 ≤ _)⟩)
  dsimp only [Pt.U, Pt.locs, Pt.cells, Pt.slots] at X11 l11 y11 z11 st11 hQ11
  subst l11 y11 z11
  obtain ⟨rfl, N11q, q11⟩ := hQ11
  have K11 : Keep T10.heap T11.heap [] := by rw [q11]; exact Keep.refl _ _
  have Vo1_ := Vo1.keep K11 (fun q => nomatch q)
  have Ef_11 := Ef_10.keep K11
  have Eb_11 := Eb_10.keep K11
  have Ft_11 := Ft_10.keep K11 (fun q => nomatch q)
  have Fd_11 := Fd_10.keep K11 (fun q => nomatch q)
  have Fx_11 := Fx_10.keep K11 (fun q => nomatch q)
  have Fb_11 := Fb_10.keep K11 (fun q => nomatch q)
  have Vb_11 := Vb_10.keep K11 (fun q => nomatch q)
  have Z_11 : n0 ≤ T11.heap.size := Nat.le_trans Z_10 K11.1
  have N11 := Fr.app N10 N11q
  obtain ⟨_, _, ⟨T12, L12, k12, n12⟩, -, X12, ⟨Lc12, hQ12, l12, y12, z12⟩, st12⟩ := Jvm.LawKit.callS X11 hx (y := (⟨"com/example/quotewire/quotewire/wire/FrameBinaryPinLaw", "flip", "([B)V"⟩ : MethodName)) hownw (mvT hZw (hw _ (List.mem_of_getElem? (i := 46) rfl))) (mvT hZw (hw _ (List.mem_of_getElem? (i := 47) rfl))) (mvT hZw (hw _ (List.mem_of_getElem? (i := 48) rfl))) (mvT hZw (hw _ (List.mem_of_getElem? (i := 49) rfl))) (by decide) (backOf (W := 0) (rm5_0 l Z a0 hw [] o1 k7  (.int (0 : Int32)) T11.heap n0 Z_11 Vo1_ g_o1) hZw (hw _ (List.mem_of_getElem? (i := 49) rfl)) (hw _ (List.mem_of_getElem? (i := 48) rfl)) (by decide) (by decide)) (g := (mkF m 125 #[.val (.long q1), .second, .val (.int p2), .val (.int p3), .val (.int p4), .val (.ref w_OUT), .val (.int (0 : Int32)), .val (.ref b7), .val (.ref f), .val (.ref o1), .val (.int (1 : Int32)), .unset] [(.ref o1)])) rfl (by rw [hml]; rfl) (argsL := [(.ref o1)]) (rest := []) (lenOf pd_0_5 rfl) rfl (by show 2 * 0 + _ ≤ _; exact Nat.le_of_eq rfl) (hb hby at_125) (fun _ _ => ⟨rfl, rfl, (by decide : 6 + 0 ≤ _), (by decide : 56 + 0 ≤ _)⟩)
  dsimp only [Pt.U, Pt.locs, Pt.cells, Pt.slots] at X12 l12 y12 z12 st12 hQ12
  subst l12 y12 z12
  obtain ⟨rfl, N12q, K12⟩ := hQ12
  have Ef_12 := Ef_11.keep K12
  have Eb_12 := Eb_11.keep K12
  have Ft_12 := Ft_11.keep K12 nf1
  have Fd_12 := Fd_11.keep K12 nf1
  have Fx_12 := Fx_11.keep K12 nf1
  have Fb_12 := Fb_11.keep K12 nf1
  have Vb_12 := Vb_11.keep K12 nb1
  have Z_12 : n0 ≤ T12.heap.size := Nat.le_trans Z_11 K12.1
  have N12 := Fr.app N11 N12q
  obtain ⟨cq13, kq13, q13a, q13b, q13c⟩ := isOf hZw rfl Ef_12
  obtain ⟨_, _, ⟨T13, L13, k13, n13⟩, -, X13, ⟨Lc13, hQ13, l13, y13, z13⟩, st13⟩ := X12.virtualBack hx (y := (⟨"com/example/quotewire/quotewire/wire/Frame", "binary", "()[B"⟩ : MethodName)) (z := (⟨"com/example/quotewire/quotewire/wire/Frame", "binary", "()[B"⟩ : MethodName)) hownw (mvT hZw (hw _ (List.mem_of_getElem? (i := 50) rfl))) (mvT hZw (hw _ (List.mem_of_getElem? (i := 51) rfl))) (notFace_of_selects (args := #[]) (mvT hZw (hw _ (List.mem_of_getElem? (i := 53) rfl)))) (mvT hZw (hw _ (List.mem_of_getElem? (i := 53) rfl))) (mvT hZw (hw _ (List.mem_of_getElem? (i := 52) rfl))) (by decide) (backOf (W := 0) (rm6 l Z a0 hw [] f fb k7 (0 : Int32) [] (.int (0 : Int32)) T12.heap n0 Z_12 Fb_12 Eb_12 Vb_12 (by decide)) hZw (hw _ (List.mem_of_getElem? (i := 54) rfl)) (hw _ (List.mem_of_getElem? (i := 6) rfl)) (by decide) (by decide)) q13a q13c (g := (mkF m 130 #[.val (.long q1), .second, .val (.int p2), .val (.int p3), .val (.int p4), .val (.ref w_OUT), .val (.int (0 : Int32)), .val (.ref b7), .val (.ref f), .val (.ref o1), .val (.int (1 : Int32)), .unset] [(.ref f)])) rfl (by rw [hml]; rfl) (Steps.refl _) (argsL := []) (rest := []) (lenOf pd_0_6 rfl) rfl (by show 2 * 0 + _ ≤ _; exact Nat.le_of_eq rfl) (hb hby at_130) (fun _ _ => ⟨rfl, rfl, (by decide : 6 + 1 ≤ _), (by decide : 56 + 4 ≤ _)⟩)
  dsimp only [Pt.U, Pt.locs, Pt.cells, Pt.slots] at X13 l13 y13 z13 st13 hQ13
  subst l13 y13 z13
  obtain ⟨N13q, o2, rfl, zo2, K13, Vo2, Eo2⟩ := hQ13
  have Ef_13 := Ef_12.keep K13
  have Eb_13 := Eb_12.keep K13
  have Ft_13 := Ft_12.keep K13 (fun q => nomatch q)
  have Fd_13 := Fd_12.keep K13 (fun q => nomatch q)
  have Fx_13 := Fx_12.keep K13 (fun q => nomatch q)
  have Fb_13 := Fb_12.keep K13 (fun q => nomatch q)
  have Vb_13 := Vb_12.keep K13 (fun q => nomatch q)
  have Z_13 : n0 ≤ T13.heap.size := Nat.le_trans Z_12 K13.1
  have N13 := Fr.app N12 N13q
  obtain ⟨_, _, ⟨T14, L14, k14, n14⟩, -, X14, ⟨Lc14, hQ14, l14, y14, z14⟩, st14⟩ := Jvm.LawKit.callS X13 hx (y := (⟨"com/example/quotewire/quotewire/wire/FrameBinaryPinLaw", "same", "([BII)Z"⟩ : MethodName)) hownw (mvT hZw (hw _ (List.mem_of_getElem? (i := 55) rfl))) (mvT hZw (hw _ (List.mem_of_getElem? (i := 56) rfl))) (mvT hZw (hw _ (List.mem_of_getElem? (i := 48) rfl))) (mvT hZw (hw _ (List.mem_of_getElem? (i := 57) rfl))) (by decide) (backOf (W := 0) (rm7_0 l Z a0 hw [] o2 p3 k7 (.int (0 : Int32)) T13.heap n0 Z_13 Vo2) hZw (hw _ (List.mem_of_getElem? (i := 57) rfl)) (hw _ (List.mem_of_getElem? (i := 48) rfl)) (by decide) (by decide)) (g := (mkF m 145 #[.val (.long q1), .second, .val (.int p2), .val (.int p3), .val (.int p4), .val (.ref w_OUT), .val (.int (0 : Int32)), .val (.ref b7), .val (.ref f), .val (.ref o1), .val (.int (1 : Int32)), .val (.ref o2)] [(.int p3), (.int (0 : Int32)), (.ref o2)])) rfl (by rw [hml]; rfl) (argsL := [(.ref o2), (.int (0 : Int32)), (.int p3)]) (rest := []) (lenOf pd_0_7 rfl) rfl (by show 2 * 0 + _ ≤ _; exact Nat.le_of_eq rfl) (hb hby at_145) (fun _ _ => ⟨rfl, rfl, (by decide : 7 + 0 ≤ _), (by decide : 60 + 0 ≤ _)⟩)
  dsimp only [Pt.U, Pt.locs, Pt.cells, Pt.slots] at X14 l14 y14 z14 st14 hQ14
  subst l14 y14 z14
  obtain ⟨rfl, N14q, q14⟩ := hQ14
  have K14 : Keep T13.heap T14.heap [] := by rw [q14]; exact Keep.refl _ _
  have Ef_14 := Ef_13.keep K14
  have Eb_14 := Eb_13.keep K14
  have Ft_14 := Ft_13.keep K14 (fun q => nomatch q)
  have Fd_14 := Fd_13.keep K14 (fun q => nomatch q)
  have Fx_14 := Fx_13.keep K14 (fun q => nomatch q)
  have Fb_14 := Fb_13.keep K14 (fun q => nomatch q)
  have Vb_14 := Vb_13.keep K14 (fun q => nomatch q)
  have Z_14 : n0 ≤ T14.heap.size := Nat.le_trans Z_13 K14.1
  have N14 := Fr.app N13 N14q
  obtain ⟨cq15, kq15, q15a, q15b, q15c⟩ := isOf hZw rfl Ef_14
  obtain ⟨_, _, ⟨T15, L15, k15, n15⟩, -, X15, ⟨Lc15, hQ15, l15, y15, z15⟩, st15⟩ := X14.virtualBack hx (y := (⟨"com/example/quotewire/quotewire/wire/Frame", "time", "()J"⟩ : MethodName)) (z := (⟨"com/example/quotewire/quotewire/wire/Frame", "time", "()J"⟩ : MethodName)) hownw (mvT hZw (hw _ (List.mem_of_getElem? (i := 58) rfl))) (mvT hZw (hw _ (List.mem_of_getElem? (i := 59) rfl))) (notFace_of_selects (args := #[]) (mvT hZw (hw _ (List.mem_of_getElem? (i := 61) rfl)))) (mvT hZw (hw _ (List.mem_of_getElem? (i := 61) rfl))) (mvT hZw (hw _ (List.mem_of_getElem? (i := 60) rfl))) (by decide) (backOf (W := 0) (rm8 l Z a0 hw [] f q1 T14.heap n0 Z_14 Ft_14) hZw (hw _ (List.mem_of_getElem? (i := 62) rfl)) (hw _ (List.mem_of_getElem? (i := 6) rfl)) (by decide) (by decide)) q15a q15c (g := (mkF m 165 #[.val (.long q1), .second, .val (.int p2), .val (.int p3), .val (.int p4), .val (.ref w_OUT), .val (.int (0 : Int32)), .val (.ref b7), .val (.ref f), .val (.ref o1), .val (.int (1 : Int32)), .val (.ref o2)] [(.ref f)])) rfl (by rw [hml]; rfl) (Steps.refl _) (argsL := []) (rest := []) (lenOf pd_0_8 rfl) rfl (by show 2 * 0 + _ ≤ _; exact Nat.le_of_eq rfl) (hb hby at_165) (fun _ _ => ⟨rfl, rfl, (by decide : 7 + 0 ≤ _), (by decide : 60 + 0 ≤ _)⟩)
  dsimp only [Pt.U, Pt.locs, Pt.cells, Pt.slots] at X15 l15 y15 z15 st15 hQ15
  subst l15 y15 z15
  obtain ⟨rfl, N15q, q15⟩ := hQ15
  have K15 : Keep T14.heap T15.heap [] := by rw [q15]; exact Keep.refl _ _
  have Ef_15 := Ef_14.keep K15
  have Eb_15 := Eb_14.keep K15
  have Ft_15 := Ft_14.keep K15 (fun q => nomatch q)
  have Fd_15 := Fd_14.keep K15 (fun q => nomatch q)
  have Fx_15 := Fx_14.keep K15 (fun q => nomatch q)
  have Fb_15 := Fb_14.keep K15 (fun q => nomatch q)
  have Vb_15 := Vb_14.keep K15 (fun q => nomatch q)
  have Z_15 : n0 ≤ T15.heap.size := Nat.le_trans Z_14 K15.1
  have N15 := Fr.app N14 N15q
  obtain ⟨cq16, kq16, q16a, q16b, q16c⟩ := isOf hZw rfl Ef_15
  obtain ⟨_, _, ⟨T16, L16, k16, n16⟩, -, X16, ⟨Lc16, hQ16, l16, y16, z16⟩, st16⟩ := X15.virtualBack hx (y := (⟨"com/example/quotewire/quotewire/wire/Frame", "direction", "()Lcom/example/quotewire/quotewire/wire/Frame$Direction;"⟩ : MethodName)) (z := (⟨"com/example/quotewire/quotewire/wire/Frame", "direction", "()Lcom/example/quotewire/quotewire/wire/Frame$Direction;"⟩ : MethodName)) hownw (mvT hZw (hw _ (List.mem_of_getElem? (i := 63) rfl))) (mvT hZw (hw _ (List.mem_of_getElem? (i := 64) rfl))) (notFace_of_selects (args := #[]) (mvT hZw (hw _ (List.mem_of_getElem? (i := 66) rfl)))) (mvT hZw (hw _ (List.mem_of_getElem? (i := 66) rfl))) (mvT hZw (hw _ (List.mem_of_getElem? (i := 65) rfl))) (by decide) (backOf (W := 0) (rm9 l Z a0 hw [] f w_OUT T15.heap n0 Z_15 Fd_15) hZw (hw _ (List.mem_of_getElem? (i := 67) rfl)) (hw _ (List.mem_of_getElem? (i := 6) rfl)) (by decide) (by decide)) q16a q16c (g := (mkF m 187 #[.val (.long q1), .second, .val (.int p2), .val (.int p3), .val (.int p4), .val (.ref w_OUT), .val (.int (0 : Int32)), .val (.ref b7), .val (.ref f), .val (.ref o1), .val (.int (1 : Int32)), .val (.ref o2)] [(.ref f)])) rfl (by rw [hml]; rfl) (Steps.refl _) (argsL := []) (rest := []) (lenOf pd_0_9 rfl) rfl (by show 2 * 0 + _ ≤ _; exact Nat.le_of_eq rfl) (hb hby at_187) (fun _ _ => ⟨rfl, rfl, (by decide : 7 + 0 ≤ _), (by decide : 60 + 0 ≤ _)⟩)
  dsimp only [Pt.U, Pt.locs, Pt.cells, Pt.slots] at X16 l16 y16 z16 st16 hQ16
  subst l16 y16 z16
  obtain ⟨rfl, N16q, q16⟩ := hQ16
  have K16 : Keep T15.heap T16.heap [] := by rw [q16]; exact Keep.refl _ _
  have Ef_16 := Ef_15.keep K16
  have Eb_16 := Eb_15.keep K16
  have Ft_16 := Ft_15.keep K16 (fun q => nomatch q)
  have Fd_16 := Fd_15.keep K16 (fun q => nomatch q)
  have Fx_16 := Fx_15.keep K16 (fun q => nomatch q)
  have Fb_16 := Fb_15.keep K16 (fun q => nomatch q)
  have Vb_16 := Vb_15.keep K16 (fun q => nomatch q)
  have Z_16 : n0 ≤ T16.heap.size := Nat.le_trans Z_15 K16.1
  have N16 := Fr.app N15 N16q
  obtain ⟨cq17, kq17, q17a, q17b, q17c⟩ := isOf hZw rfl Ef_16
  obtain ⟨_, _, ⟨T17, L17, k17, n17⟩, -, X17, ⟨Lc17, hQ17, l17, y17, z17⟩, st17⟩ := X16.virtualBack hx (y := (⟨"com/example/quotewire/quotewire/wire/Frame", "isText", "()Z"⟩ : MethodName)) (z := (⟨"com/example/quotewire/quotewire/wire/Frame", "isText", "()Z"⟩ : MethodName)) hownw (mvT hZw (hw _ (List.mem_of_getElem? (i := 68) rfl))) (mvT hZw (hw _ (List.mem_of_getElem? (i := 69) rfl))) (notFace_of_selects (args := #[]) (mvT hZw (hw _ (List.mem_of_getElem? (i := 71) rfl)))) (mvT hZw (hw _ (List.mem_of_getElem? (i := 71) rfl))) (mvT hZw (hw _ (List.mem_of_getElem? (i := 70) rfl))) (by decide) (backOf (W := 0) (rm10 l Z a0 hw [] f T16.heap n0 Z_16 Fx_16) hZw (hw _ (List.mem_of_getElem? (i := 72) rfl)) (hw _ (List.mem_of_getElem? (i := 6) rfl)) (by decide) (by decide)) q17a q17c (g := (mkF m 209 #[.val (.long q1), .second, .val (.int p2), .val (.int p3), .val (.int p4), .val (.ref w_OUT), .val (.int (0 : Int32)), .val (.ref b7), .val (.ref f), .val (.ref o1), .val (.int (1 : Int32)), .val (.ref o2)] [(.ref f)])) rfl (by rw [hml]; rfl) (Steps.refl _) (argsL := []) (rest := []) (lenOf pd_0_10 rfl) rfl (by show 2 * 0 + _ ≤ _; exact Nat.le_of_eq rfl) (hb hby at_209) (fun _ _ => ⟨rfl, rfl, (by decide : 7 + 0 ≤ _), (by decide : 60 + 0 ≤ _)⟩)
  dsimp only [Pt.U, Pt.locs, Pt.cells, Pt.slots] at X17 l17 y17 z17 st17 hQ17
  subst l17 y17 z17
  obtain ⟨rfl, N17q, q17⟩ := hQ17
  have K17 : Keep T16.heap T17.heap [] := by rw [q17]; exact Keep.refl _ _
  have Ef_17 := Ef_16.keep K17
  have Eb_17 := Eb_16.keep K17
  have Ft_17 := Ft_16.keep K17 (fun q => nomatch q)
  have Fd_17 := Fd_16.keep K17 (fun q => nomatch q)
  have Fx_17 := Fx_16.keep K17 (fun q => nomatch q)
  have Fb_17 := Fb_16.keep K17 (fun q => nomatch q)
  have Vb_17 := Vb_16.keep K17 (fun q => nomatch q)
  have Z_17 : n0 ≤ T17.heap.size := Nat.le_trans Z_16 K17.1
  have N17 := Fr.app N16 N17q
  have grow : T8.heap.size ≤ T17.heap.size := Nat.le_trans (Nat.le_trans (Nat.le_trans (Nat.le_trans (Nat.le_trans (Nat.le_trans (Nat.le_trans (Nat.le_trans K9.1 K10.1) K11.1) K12.1) K13.1) K14.1) K15.1) K16.1) K17.1
  obtain ⟨fs, hr, hrun, hended, hRW⟩ := X17.leaveW S8 grow (v := some (.int (1 : Int32))) (fun h => by rw [Bd.returns] at h; cases h)
  refine ⟨_, _, pre0 _ ?_, hrun, hended, _, _, rfl, ?_, hRW.1, hRW.2.1, hRW.2.2.1, hRW.2.2.2.mono (by decide) (by decide)⟩
  -- 4. STEPS
  · show Steps p.tables e below (s₁.setTop (mkF m 0 #[.val (.long q1), .second, .val (.int p2), .val (.int p3), .val (.int p4), .unset, .unset, .unset, .unset, .unset, .unset, .unset] [])) _
    refine XS.iloadN X0.here hx rfl (hb hby at_0) rfl ?_
    show Steps p.tables e below (s₁.setTop (mkF m 1 #[.val (.long q1), .second, .val (.int p2), .val (.int p3), .val (.int p4), .unset, .unset, .unset, .unset, .unset, .unset, .unset] [(.int p2)])) _
    refine XS.iconst X0.here hx rfl (hb hby at_1) ?_
    show Steps p.tables e below (s₁.setTop (mkF m 2 #[.val (.long q1), .second, .val (.int p2), .val (.int p3), .val (.int p4), .unset, .unset, .unset, .unset, .unset, .unset, .unset] [(.int (1 : Int32)), (.int p2)])) _
    refine XS.iand X0.here hx rfl (hb hby at_2) rfl ?_
    show Steps p.tables e below (s₁.setTop (mkF m 3 #[.val (.long q1), .second, .val (.int p2), .val (.int p3), .val (.int p4), .unset, .unset, .unset, .unset, .unset, .unset, .unset] [(.int (p2 &&& (1 : Int32)))])) _
    refine XS.ifNo X0.here hx rfl (hb hby at_3) rfl ((if0 _ _).trans (feq hc3).1) ?_
    show Steps p.tables e below (s₁.setTop (mkF m 6 #[.val (.long q1), .second, .val (.int p2), .val (.int p3), .val (.int p4), .unset, .unset, .unset, .unset, .unset, .unset, .unset] [])) _
    refine st6 _ ?_
    show Steps p.tables e below (T6.setTop (mkF m 9 #[.val (.long q1), .second, .val (.int p2), .val (.int p3), .val (.int p4), .unset, .unset, .unset, .unset, .unset, .unset, .unset] [(.ref w_OUT)])) _
    refine XS.goto X6.here hx rfl (pc0 := 9) (pc' := 15) rfl (hb hby at_9) (by decide) (by decide) ?_
    show Steps p.tables e below (T6.setTop (mkF m 15 #[.val (.long q1), .second, .val (.int p2), .val (.int p3), .val (.int p4), .unset, .unset, .unset, .unset, .unset, .unset, .unset] [(.ref w_OUT)])) _
    refine XS.astore X6.here hx rfl (hb hby at_15) rfl rfl (l' := #[.val (.long q1), .second, .val (.int p2), .val (.int p3), .val (.int p4), .val (.ref w_OUT), .unset, .unset, .unset, .unset, .unset, .unset]) rfl ?_
    show Steps p.tables e below (T6.setTop (mkF m 17 #[.val (.long q1), .second, .val (.int p2), .val (.int p3), .val (.int p4), .val (.ref w_OUT), .unset, .unset, .unset, .unset, .unset, .unset] [])) _
    refine XS.iload X6.here hx rfl (hb hby at_17) rfl ?_
    show Steps p.tables e below (T6.setTop (mkF m 19 #[.val (.long q1), .second, .val (.int p2), .val (.int p3), .val (.int p4), .val (.ref w_OUT), .unset, .unset, .unset, .unset, .unset, .unset] [(.int p4)])) _
    refine XS.bipush X6.here hx rfl (hb hby at_19) ?_
    show Steps p.tables e below (T6.setTop (mkF m 21 #[.val (.long q1), .second, .val (.int p2), .val (.int p3), .val (.int p4), .val (.ref w_OUT), .unset, .unset, .unset, .unset, .unset, .unset] [(.int (7 : Int32)), (.int p4)])) _
    refine XS.iand X6.here hx rfl (hb hby at_21) rfl ?_
    show Steps p.tables e below (T6.setTop (mkF m 22 #[.val (.long q1), .second, .val (.int p2), .val (.int p3), .val (.int p4), .val (.ref w_OUT), .unset, .unset, .unset, .unset, .unset, .unset] [(.int (p4 &&& (7 : Int32)))])) _
    refine XS.iconst X6.here hx rfl (hb hby at_22) ?_
    show Steps p.tables e below (T6.setTop (mkF m 23 #[.val (.long q1), .second, .val (.int p2), .val (.int p3), .val (.int p4), .val (.ref w_OUT), .unset, .unset, .unset, .unset, .unset, .unset] [(.int (5 : Int32)), (.int (p4 &&& (7 : Int32)))])) _
    refine iremM X6 hx rfl (hb hby at_23) rfl (by decide) ?_
    rw [hk]
    show Steps p.tables e below (T6.setTop (mkF m 24 #[.val (.long q1), .second, .val (.int p2), .val (.int p3), .val (.int p4), .val (.ref w_OUT), .unset, .unset, .unset, .unset, .unset, .unset] [(.int (0 : Int32))])) _
    refine XS.istore X6.here hx rfl (hb hby at_24) rfl (l' := #[.val (.long q1), .second, .val (.int p2), .val (.int p3), .val (.int p4), .val (.ref w_OUT), .val (.int (0 : Int32)), .unset, .unset, .unset, .unset, .unset]) rfl ?_
    show Steps p.tables e below (T6.setTop (mkF m 26 #[.val (.long q1), .second, .val (.int p2), .val (.int p3), .val (.int p4), .val (.ref w_OUT), .val (.int (0 : Int32)), .unset, .unset, .unset, .unset, .unset] [])) _
    refine XS.iload X6.here hx rfl (hb hby at_26) rfl ?_
    show Steps p.tables e below (T6.setTop (mkF m 28 #[.val (.long q1), .second, .val (.int p2), .val (.int p3), .val (.int p4), .val (.ref w_OUT), .val (.int (0 : Int32)), .unset, .unset, .unset, .unset, .unset] [(.int (0 : Int32))])) _
    refine st7 _ ?_
    show Steps p.tables e below (T7.setTop (mkF m 30 #[.val (.long q1), .second, .val (.int p2), .val (.int p3), .val (.int p4), .val (.ref w_OUT), .val (.int (0 : Int32)), .unset, .unset, .unset, .unset, .unset] [(.ref b7)])) _
    refine XS.astore X7.here hx rfl (hb hby at_30) rfl rfl (l' := #[.val (.long q1), .second, .val (.int p2), .val (.int p3), .val (.int p4), .val (.ref w_OUT), .val (.int (0 : Int32)), .val (.ref b7), .unset, .unset, .unset, .unset]) rfl ?_
    show Steps p.tables e below (T7.setTop (mkF m 32 #[.val (.long q1), .second, .val (.int p2), .val (.int p3), .val (.int p4), .val (.ref w_OUT), .val (.int (0 : Int32)), .val (.ref b7), .unset, .unset, .unset, .unset] [])) _
    refine XS.iload X7.here hx rfl (hb hby at_32) rfl ?_
    show Steps p.tables e below (T7.setTop (mkF m 34 #[.val (.long q1), .second, .val (.int p2), .val (.int p3), .val (.int p4), .val (.ref w_OUT), .val (.int (0 : Int32)), .val (.ref b7), .unset, .unset, .unset, .unset] [(.int (0 : Int32))])) _
    refine XS.ifYes X7.here hx rfl (pc0 := 34) (pc' := 46) rfl (hb hby at_34) rfl ((if0 _ _).trans (flt (by decide)).2.2.2) (by decide) (by decide) ?_
    show Steps p.tables e below (T7.setTop (mkF m 46 #[.val (.long q1), .second, .val (.int p2), .val (.int p3), .val (.int p4), .val (.ref w_OUT), .val (.int (0 : Int32)), .val (.ref b7), .unset, .unset, .unset, .unset] [])) _
    refine XS.iload X7.here hx rfl (hb hby at_46) rfl ?_
    show Steps p.tables e below (T7.setTop (mkF m 48 #[.val (.long q1), .second, .val (.int p2), .val (.int p3), .val (.int p4), .val (.ref w_OUT), .val (.int (0 : Int32)), .val (.ref b7), .unset, .unset, .unset, .unset] [(.int (0 : Int32))])) _
    refine XS.iconst X7.here hx rfl (hb hby at_48) ?_
    show Steps p.tables e below (T7.setTop (mkF m 49 #[.val (.long q1), .second, .val (.int p2), .val (.int p3), .val (.int p4), .val (.ref w_OUT), .val (.int (0 : Int32)), .val (.ref b7), .unset, .unset, .unset, .unset] [(.int (1 : Int32)), (.int (0 : Int32))])) _
    refine XS.icmpYes X7.here hx rfl (pc0 := 49) (pc' := 61) rfl (hb hby at_49) rfl (flt (by decide)).2.2.2 (by decide) (by decide) ?_
    show Steps p.tables e below (T7.setTop (mkF m 61 #[.val (.long q1), .second, .val (.int p2), .val (.int p3), .val (.int p4), .val (.ref w_OUT), .val (.int (0 : Int32)), .val (.ref b7), .unset, .unset, .unset, .unset] [])) _
    refine XS.iload X7.here hx rfl (hb hby at_61) rfl ?_
    show Steps p.tables e below (T7.setTop (mkF m 63 #[.val (.long q1), .second, .val (.int p2), .val (.int p3), .val (.int p4), .val (.ref w_OUT), .val (.int (0 : Int32)), .val (.ref b7), .unset, .unset, .unset, .unset] [(.int (0 : Int32))])) _
    refine XS.iconst X7.here hx rfl (hb hby at_63) ?_
    show Steps p.tables e below (T7.setTop (mkF m 64 #[.val (.long q1), .second, .val (.int p2), .val (.int p3), .val (.int p4), .val (.ref w_OUT), .val (.int (0 : Int32)), .val (.ref b7), .unset, .unset, .unset, .unset] [(.int (2 : Int32)), (.int (0 : Int32))])) _
    refine XS.icmpYes X7.here hx rfl (pc0 := 64) (pc' := 76) rfl (hb hby at_64) rfl (flt (by decide)).2.2.2 (by decide) (by decide) ?_
    show Steps p.tables e below (T7.setTop (mkF m 76 #[.val (.long q1), .second, .val (.int p2), .val (.int p3), .val (.int p4), .val (.ref w_OUT), .val (.int (0 : Int32)), .val (.ref b7), .unset, .unset, .unset, .unset] [])) _
    refine XS.iload X7.here hx rfl (hb hby at_76) rfl ?_
    show Steps p.tables e below (T7.setTop (mkF m 78 #[.val (.long q1), .second, .val (.int p2), .val (.int p3), .val (.int p4), .val (.ref w_OUT), .val (.int (0 : Int32)), .val (.ref b7), .unset, .unset, .unset, .unset] [(.int (0 : Int32))])) _
    refine XS.iconst X7.here hx rfl (hb hby at_78) ?_
    show Steps p.tables e below (T7.setTop (mkF m 79 #[.val (.long q1), .second, .val (.int p2), .val (.int p3), .val (.int p4), .val (.ref w_OUT), .val (.int (0 : Int32)), .val (.ref b7), .unset, .unset, .unset, .unset] [(.int (3 : Int32)), (.int (0 : Int32))])) _
    refine XS.icmpYes X7.here hx rfl (pc0 := 79) (pc' := 91) rfl (hb hby at_79) rfl (flt (by decide)).2.2.2 (by decide) (by decide) ?_
    show Steps p.tables e below (T7.setTop (mkF m 91 #[.val (.long q1), .second, .val (.int p2), .val (.int p3), .val (.int p4), .val (.ref w_OUT), .val (.int (0 : Int32)), .val (.ref b7), .unset, .unset, .unset, .unset] [])) _
    refine XS.lloadN X7.here hx rfl (hb hby at_91) rfl ?_
    show Steps p.tables e below (T7.setTop (mkF m 92 #[.val (.long q1), .second, .val (.int p2), .val (.int p3), .val (.int p4), .val (.ref w_OUT), .val (.int (0 : Int32)), .val (.ref b7), .unset, .unset, .unset, .unset] [(.long q1)])) _
    refine XS.aload X7.here hx rfl (hb hby at_92) rfl rfl ?_
    show Steps p.tables e below (T7.setTop (mkF m 94 #[.val (.long q1), .second, .val (.int p2), .val (.int p3), .val (.int p4), .val (.ref w_OUT), .val (.int (0 : Int32)), .val (.ref b7), .unset, .unset, .unset, .unset] [(.ref w_OUT), (.long q1)])) _
    refine XS.aload X7.here hx rfl (hb hby at_94) rfl rfl ?_
    show Steps p.tables e below (T7.setTop (mkF m 96 #[.val (.long q1), .second, .val (.int p2), .val (.int p3), .val (.int p4), .val (.ref w_OUT), .val (.int (0 : Int32)), .val (.ref b7), .unset, .unset, .unset, .unset] [(.ref b7), (.ref w_OUT), (.long q1)])) _
    refine st8.trans ?_
    show Steps p.tables e below (T8.setTop (mkF m 99 #[.val (.long q1), .second, .val (.int p2), .val (.int p3), .val (.int p4), .val (.ref w_OUT), .val (.int (0 : Int32)), .val (.ref b7), .unset, .unset, .unset, .unset] [(.ref f)])) _
    refine XS.astore X8.here hx rfl (hb hby at_99) rfl rfl (l' := #[.val (.long q1), .second, .val (.int p2), .val (.int p3), .val (.int p4), .val (.ref w_OUT), .val (.int (0 : Int32)), .val (.ref b7), .val (.ref f), .unset, .unset, .unset]) rfl ?_
    show Steps p.tables e below (T8.setTop (mkF m 101 #[.val (.long q1), .second, .val (.int p2), .val (.int p3), .val (.int p4), .val (.ref w_OUT), .val (.int (0 : Int32)), .val (.ref b7), .val (.ref f), .unset, .unset, .unset] [])) _
    refine XS.aload X8.here hx rfl (hb hby at_101) rfl rfl ?_
    show Steps p.tables e below (T8.setTop (mkF m 103 #[.val (.long q1), .second, .val (.int p2), .val (.int p3), .val (.int p4), .val (.ref w_OUT), .val (.int (0 : Int32)), .val (.ref b7), .val (.ref f), .unset, .unset, .unset] [(.ref b7)])) _
    refine st9 _ ?_
    show Steps p.tables e below (T9.setTop (mkF m 106 #[.val (.long q1), .second, .val (.int p2), .val (.int p3), .val (.int p4), .val (.ref w_OUT), .val (.int (0 : Int32)), .val (.ref b7), .val (.ref f), .unset, .unset, .unset] [])) _
    refine XS.aload X9.here hx rfl (hb hby at_106) rfl rfl ?_
    show Steps p.tables e below (T9.setTop (mkF m 108 #[.val (.long q1), .second, .val (.int p2), .val (.int p3), .val (.int p4), .val (.ref w_OUT), .val (.int (0 : Int32)), .val (.ref b7), .val (.ref f), .unset, .unset, .unset] [(.ref f)])) _
    refine st10.trans ?_
    show Steps p.tables e below (T10.setTop (mkF m 111 #[.val (.long q1), .second, .val (.int p2), .val (.int p3), .val (.int p4), .val (.ref w_OUT), .val (.int (0 : Int32)), .val (.ref b7), .val (.ref f), .unset, .unset, .unset] [(.ref o1)])) _
    refine XS.astore X10.here hx rfl (hb hby at_111) rfl rfl (l' := #[.val (.long q1), .second, .val (.int p2), .val (.int p3), .val (.int p4), .val (.ref w_OUT), .val (.int (0 : Int32)), .val (.ref b7), .val (.ref f), .val (.ref o1), .unset, .unset]) rfl ?_
    show Steps p.tables e below (T10.setTop (mkF m 113 #[.val (.long q1), .second, .val (.int p2), .val (.int p3), .val (.int p4), .val (.ref w_OUT), .val (.int (0 : Int32)), .val (.ref b7), .val (.ref f), .val (.ref o1), .unset, .unset] [])) _
    refine XS.aload X10.here hx rfl (hb hby at_113) rfl rfl ?_
    show Steps p.tables e below (T10.setTop (mkF m 115 #[.val (.long q1), .second, .val (.int p2), .val (.int p3), .val (.int p4), .val (.ref w_OUT), .val (.int (0 : Int32)), .val (.ref b7), .val (.ref f), .val (.ref o1), .unset, .unset] [(.ref o1)])) _
    refine XS.iload X10.here hx rfl (hb hby at_115) rfl ?_
    show Steps p.tables e below (T10.setTop (mkF m 117 #[.val (.long q1), .second, .val (.int p2), .val (.int p3), .val (.int p4), .val (.ref w_OUT), .val (.int (0 : Int32)), .val (.ref b7), .val (.ref f), .val (.ref o1), .unset, .unset] [(.int (0 : Int32)), (.ref o1)])) _
    refine XS.iloadN X10.here hx rfl (hb hby at_117) rfl ?_
    show Steps p.tables e below (T10.setTop (mkF m 118 #[.val (.long q1), .second, .val (.int p2), .val (.int p3), .val (.int p4), .val (.ref w_OUT), .val (.int (0 : Int32)), .val (.ref b7), .val (.ref f), .val (.ref o1), .unset, .unset] [(.int p3), (.int (0 : Int32)), (.ref o1)])) _
    refine st11 _ ?_
    show Steps p.tables e below (T11.setTop (mkF m 121 #[.val (.long q1), .second, .val (.int p2), .val (.int p3), .val (.int p4), .val (.ref w_OUT), .val (.int (0 : Int32)), .val (.ref b7), .val (.ref f), .val (.ref o1), .unset, .unset] [(.int (1 : Int32))])) _
    refine XS.istore X11.here hx rfl (hb hby at_121) rfl (l' := #[.val (.long q1), .second, .val (.int p2), .val (.int p3), .val (.int p4), .val (.ref w_OUT), .val (.int (0 : Int32)), .val (.ref b7), .val (.ref f), .val (.ref o1), .val (.int (1 : Int32)), .unset]) rfl ?_
    show Steps p.tables e below (T11.setTop (mkF m 123 #[.val (.long q1), .second, .val (.int p2), .val (.int p3), .val (.int p4), .val (.ref w_OUT), .val (.int (0 : Int32)), .val (.ref b7), .val (.ref f), .val (.ref o1), .val (.int (1 : Int32)), .unset] [])) _
    refine XS.aload X11.here hx rfl (hb hby at_123) rfl rfl ?_
    show Steps p.tables e below (T11.setTop (mkF m 125 #[.val (.long q1), .second, .val (.int p2), .val (.int p3), .val (.int p4), .val (.ref w_OUT), .val (.int (0 : Int32)), .val (.ref b7), .val (.ref f), .val (.ref o1), .val (.int (1 : Int32)), .unset] [(.ref o1)])) _
    refine st12 _ ?_
    show Steps p.tables e below (T12.setTop (mkF m 128 #[.val (.long q1), .second, .val (.int p2), .val (.int p3), .val (.int p4), .val (.ref w_OUT), .val (.int (0 : Int32)), .val (.ref b7), .val (.ref f), .val (.ref o1), .val (.int (1 : Int32)), .unset] [])) _
    refine XS.aload X12.here hx rfl (hb hby at_128) rfl rfl ?_
    show Steps p.tables e below (T12.setTop (mkF m 130 #[.val (.long q1), .second, .val (.int p2), .val (.int p3), .val (.int p4), .val (.ref w_OUT), .val (.int (0 : Int32)), .val (.ref b7), .val (.ref f), .val (.ref o1), .val (.int (1 : Int32)), .unset] [(.ref f)])) _
    refine st13.trans ?_
    show Steps p.tables e below (T13.setTop (mkF m 133 #[.val (.long q1), .second, .val (.int p2), .val (.int p3), .val (.int p4), .val (.ref w_OUT), .val (.int (0 : Int32)), .val (.ref b7), .val (.ref f), .val (.ref o1), .val (.int (1 : Int32)), .unset] [(.ref o2)])) _
    refine XS.astore X13.here hx rfl (hb hby at_133) rfl rfl (l' := #[.val (.long q1), .second, .val (.int p2), .val (.int p3), .val (.int p4), .val (.ref w_OUT), .val (.int (0 : Int32)), .val (.ref b7), .val (.ref f), .val (.ref o1), .val (.int (1 : Int32)), .val (.ref o2)]) rfl ?_
    show Steps p.tables e below (T13.setTop (mkF m 135 #[.val (.long q1), .second, .val (.int p2), .val (.int p3), .val (.int p4), .val (.ref w_OUT), .val (.int (0 : Int32)), .val (.ref b7), .val (.ref f), .val (.ref o1), .val (.int (1 : Int32)), .val (.ref o2)] [])) _
    refine XS.iload X13.here hx rfl (hb hby at_135) rfl ?_
    show Steps p.tables e below (T13.setTop (mkF m 137 #[.val (.long q1), .second, .val (.int p2), .val (.int p3), .val (.int p4), .val (.ref w_OUT), .val (.int (0 : Int32)), .val (.ref b7), .val (.ref f), .val (.ref o1), .val (.int (1 : Int32)), .val (.ref o2)] [(.int (1 : Int32))])) _
    refine XS.ifNo X13.here hx rfl (hb hby at_137) rfl ((if0 _ _).trans (feq (by decide)).1) ?_
    show Steps p.tables e below (T13.setTop (mkF m 140 #[.val (.long q1), .second, .val (.int p2), .val (.int p3), .val (.int p4), .val (.ref w_OUT), .val (.int (0 : Int32)), .val (.ref b7), .val (.ref f), .val (.ref o1), .val (.int (1 : Int32)), .val (.ref o2)] [])) _
    refine XS.aload X13.here hx rfl (hb hby at_140) rfl rfl ?_
    show Steps p.tables e below (T13.setTop (mkF m 142 #[.val (.long q1), .second, .val (.int p2), .val (.int p3), .val (.int p4), .val (.ref w_OUT), .val (.int (0 : Int32)), .val (.ref b7), .val (.ref f), .val (.ref o1), .val (.int (1 : Int32)), .val (.ref o2)] [(.ref o2)])) _
    refine XS.iload X13.here hx rfl (hb hby at_142) rfl ?_
    show Steps p.tables e below (T13.setTop (mkF m 144 #[.val (.long q1), .second, .val (.int p2), .val (.int p3), .val (.int p4), .val (.ref w_OUT), .val (.int (0 : Int32)), .val (.ref b7), .val (.ref f), .val (.ref o1), .val (.int (1 : Int32)), .val (.ref o2)] [(.int (0 : Int32)), (.ref o2)])) _
    refine XS.iloadN X13.here hx rfl (hb hby at_144) rfl ?_
    show Steps p.tables e below (T13.setTop (mkF m 145 #[.val (.long q1), .second, .val (.int p2), .val (.int p3), .val (.int p4), .val (.ref w_OUT), .val (.int (0 : Int32)), .val (.ref b7), .val (.ref f), .val (.ref o1), .val (.int (1 : Int32)), .val (.ref o2)] [(.int p3), (.int (0 : Int32)), (.ref o2)])) _
    refine st14 _ ?_
    show Steps p.tables e below (T14.setTop (mkF m 148 #[.val (.long q1), .second, .val (.int p2), .val (.int p3), .val (.int p4), .val (.ref w_OUT), .val (.int (0 : Int32)), .val (.ref b7), .val (.ref f), .val (.ref o1), .val (.int (1 : Int32)), .val (.ref o2)] [(.int (1 : Int32))])) _
    refine XS.ifNo X14.here hx rfl (hb hby at_148) rfl ((if0 _ _).trans (feq (by decide)).1) ?_
    show Steps p.tables e below (T14.setTop (mkF m 151 #[.val (.long q1), .second, .val (.int p2), .val (.int p3), .val (.int p4), .val (.ref w_OUT), .val (.int (0 : Int32)), .val (.ref b7), .val (.ref f), .val (.ref o1), .val (.int (1 : Int32)), .val (.ref o2)] [])) _
    refine XS.iconst X14.here hx rfl (hb hby at_151) ?_
    show Steps p.tables e below (T14.setTop (mkF m 152 #[.val (.long q1), .second, .val (.int p2), .val (.int p3), .val (.int p4), .val (.ref w_OUT), .val (.int (0 : Int32)), .val (.ref b7), .val (.ref f), .val (.ref o1), .val (.int (1 : Int32)), .val (.ref o2)] [(.int (1 : Int32))])) _
    refine XS.goto X14.here hx rfl (pc0 := 152) (pc' := 156) rfl (hb hby at_152) (by decide) (by decide) ?_
    show Steps p.tables e below (T14.setTop (mkF m 156 #[.val (.long q1), .second, .val (.int p2), .val (.int p3), .val (.int p4), .val (.ref w_OUT), .val (.int (0 : Int32)), .val (.ref b7), .val (.ref f), .val (.ref o1), .val (.int (1 : Int32)), .val (.ref o2)] [(.int (1 : Int32))])) _
    refine XS.istore X14.here hx rfl (hb hby at_156) rfl (l' := #[.val (.long q1), .second, .val (.int p2), .val (.int p3), .val (.int p4), .val (.ref w_OUT), .val (.int (0 : Int32)), .val (.ref b7), .val (.ref f), .val (.ref o1), .val (.int (1 : Int32)), .val (.ref o2)]) rfl ?_
    show Steps p.tables e below (T14.setTop (mkF m 158 #[.val (.long q1), .second, .val (.int p2), .val (.int p3), .val (.int p4), .val (.ref w_OUT), .val (.int (0 : Int32)), .val (.ref b7), .val (.ref f), .val (.ref o1), .val (.int (1 : Int32)), .val (.ref o2)] [])) _
    refine XS.iload X14.here hx rfl (hb hby at_158) rfl ?_
    show Steps p.tables e below (T14.setTop (mkF m 160 #[.val (.long q1), .second, .val (.int p2), .val (.int p3), .val (.int p4), .val (.ref w_OUT), .val (.int (0 : Int32)), .val (.ref b7), .val (.ref f), .val (.ref o1), .val (.int (1 : Int32)), .val (.ref o2)] [(.int (1 : Int32))])) _
    refine XS.ifNo X14.here hx rfl (hb hby at_160) rfl ((if0 _ _).trans (feq (by decide)).1) ?_
    show Steps p.tables e below (T14.setTop (mkF m 163 #[.val (.long q1), .second, .val (.int p2), .val (.int p3), .val (.int p4), .val (.ref w_OUT), .val (.int (0 : Int32)), .val (.ref b7), .val (.ref f), .val (.ref o1), .val (.int (1 : Int32)), .val (.ref o2)] [])) _
    refine XS.aload X14.here hx rfl (hb hby at_163) rfl rfl ?_
    show Steps p.tables e below (T14.setTop (mkF m 165 #[.val (.long q1), .second, .val (.int p2), .val (.int p3), .val (.int p4), .val (.ref w_OUT), .val (.int (0 : Int32)), .val (.ref b7), .val (.ref f), .val (.ref o1), .val (.int (1 : Int32)), .val (.ref o2)] [(.ref f)])) _
    refine st15.trans ?_
    show Steps p.tables e below (T15.setTop (mkF m 168 #[.val (.long q1), .second, .val (.int p2), .val (.int p3), .val (.int p4), .val (.ref w_OUT), .val (.int (0 : Int32)), .val (.ref b7), .val (.ref f), .val (.ref o1), .val (.int (1 : Int32)), .val (.ref o2)] [(.long q1)])) _
    refine XS.lloadN X15.here hx rfl (hb hby at_168) rfl ?_
    show Steps p.tables e below (T15.setTop (mkF m 169 #[.val (.long q1), .second, .val (.int p2), .val (.int p3), .val (.int p4), .val (.ref w_OUT), .val (.int (0 : Int32)), .val (.ref b7), .val (.ref f), .val (.ref o1), .val (.int (1 : Int32)), .val (.ref o2)] [(.long q1), (.long q1)])) _
    refine XS.lcmp X15.here hx rfl (hb hby at_169) rfl ?_
    show Steps p.tables e below (T15.setTop (mkF m 170 #[.val (.long q1), .second, .val (.int p2), .val (.int p3), .val (.int p4), .val (.ref w_OUT), .val (.int (0 : Int32)), .val (.ref b7), .val (.ref f), .val (.ref o1), .val (.int (1 : Int32)), .val (.ref o2)] [(.int (lcmpW q1 q1))])) _
    refine XS.ifNo X15.here hx rfl (hb hby at_170) rfl ((if0 _ _).trans (teq ((lw_eq q1 q1).mpr rfl)).2) ?_
    show Steps p.tables e below (T15.setTop (mkF m 173 #[.val (.long q1), .second, .val (.int p2), .val (.int p3), .val (.int p4), .val (.ref w_OUT), .val (.int (0 : Int32)), .val (.ref b7), .val (.ref f), .val (.ref o1), .val (.int (1 : Int32)), .val (.ref o2)] [])) _
    refine XS.iconst X15.here hx rfl (hb hby at_173) ?_
    show Steps p.tables e below (T15.setTop (mkF m 174 #[.val (.long q1), .second, .val (.int p2), .val (.int p3), .val (.int p4), .val (.ref w_OUT), .val (.int (0 : Int32)), .val (.ref b7), .val (.ref f), .val (.ref o1), .val (.int (1 : Int32)), .val (.ref o2)] [(.int (1 : Int32))])) _
    refine XS.goto X15.here hx rfl (pc0 := 174) (pc' := 178) rfl (hb hby at_174) (by decide) (by decide) ?_
    show Steps p.tables e below (T15.setTop (mkF m 178 #[.val (.long q1), .second, .val (.int p2), .val (.int p3), .val (.int p4), .val (.ref w_OUT), .val (.int (0 : Int32)), .val (.ref b7), .val (.ref f), .val (.ref o1), .val (.int (1 : Int32)), .val (.ref o2)] [(.int (1 : Int32))])) _
    refine XS.istore X15.here hx rfl (hb hby at_178) rfl (l' := #[.val (.long q1), .second, .val (.int p2), .val (.int p3), .val (.int p4), .val (.ref w_OUT), .val (.int (0 : Int32)), .val (.ref b7), .val (.ref f), .val (.ref o1), .val (.int (1 : Int32)), .val (.ref o2)]) rfl ?_
    show Steps p.tables e below (T15.setTop (mkF m 180 #[.val (.long q1), .second, .val (.int p2), .val (.int p3), .val (.int p4), .val (.ref w_OUT), .val (.int (0 : Int32)), .val (.ref b7), .val (.ref f), .val (.ref o1), .val (.int (1 : Int32)), .val (.ref o2)] [])) _
    refine XS.iload X15.here hx rfl (hb hby at_180) rfl ?_
    show Steps p.tables e below (T15.setTop (mkF m 182 #[.val (.long q1), .second, .val (.int p2), .val (.int p3), .val (.int p4), .val (.ref w_OUT), .val (.int (0 : Int32)), .val (.ref b7), .val (.ref f), .val (.ref o1), .val (.int (1 : Int32)), .val (.ref o2)] [(.int (1 : Int32))])) _
    refine XS.ifNo X15.here hx rfl (hb hby at_182) rfl ((if0 _ _).trans (feq (by decide)).1) ?_
    show Steps p.tables e below (T15.setTop (mkF m 185 #[.val (.long q1), .second, .val (.int p2), .val (.int p3), .val (.int p4), .val (.ref w_OUT), .val (.int (0 : Int32)), .val (.ref b7), .val (.ref f), .val (.ref o1), .val (.int (1 : Int32)), .val (.ref o2)] [])) _
    refine XS.aload X15.here hx rfl (hb hby at_185) rfl rfl ?_
    show Steps p.tables e below (T15.setTop (mkF m 187 #[.val (.long q1), .second, .val (.int p2), .val (.int p3), .val (.int p4), .val (.ref w_OUT), .val (.int (0 : Int32)), .val (.ref b7), .val (.ref f), .val (.ref o1), .val (.int (1 : Int32)), .val (.ref o2)] [(.ref f)])) _
    refine st16.trans ?_
    show Steps p.tables e below (T16.setTop (mkF m 190 #[.val (.long q1), .second, .val (.int p2), .val (.int p3), .val (.int p4), .val (.ref w_OUT), .val (.int (0 : Int32)), .val (.ref b7), .val (.ref f), .val (.ref o1), .val (.int (1 : Int32)), .val (.ref o2)] [(.ref w_OUT)])) _
    refine XS.aload X16.here hx rfl (hb hby at_190) rfl rfl ?_
    show Steps p.tables e below (T16.setTop (mkF m 192 #[.val (.long q1), .second, .val (.int p2), .val (.int p3), .val (.int p4), .val (.ref w_OUT), .val (.int (0 : Int32)), .val (.ref b7), .val (.ref f), .val (.ref o1), .val (.int (1 : Int32)), .val (.ref o2)] [(.ref w_OUT), (.ref w_OUT)])) _
    refine Jvm.RoadKit.acmp (g := (mkF m 192 #[.val (.long q1), .second, .val (.int p2), .val (.int p3), .val (.int p4), .val (.ref w_OUT), .val (.int (0 : Int32)), .val (.ref b7), .val (.ref f), .val (.ref o1), .val (.int (1 : Int32)), .val (.ref o2)] [(.ref w_OUT), (.ref w_OUT)])) X16 hx rfl rfl rfl (pc0 := 192) (pc' := 195) (same := true) rfl (hb hby at_192) rfl (decide_eq_true rfl) (by decide) (by decide) ?_
    show Steps p.tables e below (T16.setTop (mkF m 195 #[.val (.long q1), .second, .val (.int p2), .val (.int p3), .val (.int p4), .val (.ref w_OUT), .val (.int (0 : Int32)), .val (.ref b7), .val (.ref f), .val (.ref o1), .val (.int (1 : Int32)), .val (.ref o2)] [])) _
    refine XS.iconst X16.here hx rfl (hb hby at_195) ?_
    show Steps p.tables e below (T16.setTop (mkF m 196 #[.val (.long q1), .second, .val (.int p2), .val (.int p3), .val (.int p4), .val (.ref w_OUT), .val (.int (0 : Int32)), .val (.ref b7), .val (.ref f), .val (.ref o1), .val (.int (1 : Int32)), .val (.ref o2)] [(.int (1 : Int32))])) _
    refine XS.goto X16.here hx rfl (pc0 := 196) (pc' := 200) rfl (hb hby at_196) (by decide) (by decide) ?_
    show Steps p.tables e below (T16.setTop (mkF m 200 #[.val (.long q1), .second, .val (.int p2), .val (.int p3), .val (.int p4), .val (.ref w_OUT), .val (.int (0 : Int32)), .val (.ref b7), .val (.ref f), .val (.ref o1), .val (.int (1 : Int32)), .val (.ref o2)] [(.int (1 : Int32))])) _
    refine XS.istore X16.here hx rfl (hb hby at_200) rfl (l' := #[.val (.long q1), .second, .val (.int p2), .val (.int p3), .val (.int p4), .val (.ref w_OUT), .val (.int (0 : Int32)), .val (.ref b7), .val (.ref f), .val (.ref o1), .val (.int (1 : Int32)), .val (.ref o2)]) rfl ?_
    show Steps p.tables e below (T16.setTop (mkF m 202 #[.val (.long q1), .second, .val (.int p2), .val (.int p3), .val (.int p4), .val (.ref w_OUT), .val (.int (0 : Int32)), .val (.ref b7), .val (.ref f), .val (.ref o1), .val (.int (1 : Int32)), .val (.ref o2)] [])) _
    refine XS.iload X16.here hx rfl (hb hby at_202) rfl ?_
    show Steps p.tables e below (T16.setTop (mkF m 204 #[.val (.long q1), .second, .val (.int p2), .val (.int p3), .val (.int p4), .val (.ref w_OUT), .val (.int (0 : Int32)), .val (.ref b7), .val (.ref f), .val (.ref o1), .val (.int (1 : Int32)), .val (.ref o2)] [(.int (1 : Int32))])) _
    refine XS.ifNo X16.here hx rfl (hb hby at_204) rfl ((if0 _ _).trans (feq (by decide)).1) ?_
    show Steps p.tables e below (T16.setTop (mkF m 207 #[.val (.long q1), .second, .val (.int p2), .val (.int p3), .val (.int p4), .val (.ref w_OUT), .val (.int (0 : Int32)), .val (.ref b7), .val (.ref f), .val (.ref o1), .val (.int (1 : Int32)), .val (.ref o2)] [])) _
    refine XS.aload X16.here hx rfl (hb hby at_207) rfl rfl ?_
    show Steps p.tables e below (T16.setTop (mkF m 209 #[.val (.long q1), .second, .val (.int p2), .val (.int p3), .val (.int p4), .val (.ref w_OUT), .val (.int (0 : Int32)), .val (.ref b7), .val (.ref f), .val (.ref o1), .val (.int (1 : Int32)), .val (.ref o2)] [(.ref f)])) _
    refine st17.trans ?_
    show Steps p.tables e below (T17.setTop (mkF m 212 #[.val (.long q1), .second, .val (.int p2), .val (.int p3), .val (.int p4), .val (.ref w_OUT), .val (.int (0 : Int32)), .val (.ref b7), .val (.ref f), .val (.ref o1), .val (.int (1 : Int32)), .val (.ref o2)] [(.int (0 : Int32))])) _
    refine XS.ifNo X17.here hx rfl (hb hby at_212) rfl ((if0 _ _).trans (teq (by decide)).2) ?_
    show Steps p.tables e below (T17.setTop (mkF m 215 #[.val (.long q1), .second, .val (.int p2), .val (.int p3), .val (.int p4), .val (.ref w_OUT), .val (.int (0 : Int32)), .val (.ref b7), .val (.ref f), .val (.ref o1), .val (.int (1 : Int32)), .val (.ref o2)] [])) _
    refine XS.iconst X17.here hx rfl (hb hby at_215) ?_
    show Steps p.tables e below (T17.setTop (mkF m 216 #[.val (.long q1), .second, .val (.int p2), .val (.int p3), .val (.int p4), .val (.ref w_OUT), .val (.int (0 : Int32)), .val (.ref b7), .val (.ref f), .val (.ref o1), .val (.int (1 : Int32)), .val (.ref o2)] [(.int (1 : Int32))])) _
    refine XS.goto X17.here hx rfl (pc0 := 216) (pc' := 220) rfl (hb hby at_216) (by decide) (by decide) ?_
    show Steps p.tables e below (T17.setTop (mkF m 220 #[.val (.long q1), .second, .val (.int p2), .val (.int p3), .val (.int p4), .val (.ref w_OUT), .val (.int (0 : Int32)), .val (.ref b7), .val (.ref f), .val (.ref o1), .val (.int (1 : Int32)), .val (.ref o2)] [(.int (1 : Int32))])) _
    refine XS.istore X17.here hx rfl (hb hby at_220) rfl (l' := #[.val (.long q1), .second, .val (.int p2), .val (.int p3), .val (.int p4), .val (.ref w_OUT), .val (.int (0 : Int32)), .val (.ref b7), .val (.ref f), .val (.ref o1), .val (.int (1 : Int32)), .val (.ref o2)]) rfl ?_
    show Steps p.tables e below (T17.setTop (mkF m 222 #[.val (.long q1), .second, .val (.int p2), .val (.int p3), .val (.int p4), .val (.ref w_OUT), .val (.int (0 : Int32)), .val (.ref b7), .val (.ref f), .val (.ref o1), .val (.int (1 : Int32)), .val (.ref o2)] [])) _
    refine XS.iload X17.here hx rfl (hb hby at_222) rfl ?_
    show Steps p.tables e below (T17.setTop (mkF m 224 #[.val (.long q1), .second, .val (.int p2), .val (.int p3), .val (.int p4), .val (.ref w_OUT), .val (.int (0 : Int32)), .val (.ref b7), .val (.ref f), .val (.ref o1), .val (.int (1 : Int32)), .val (.ref o2)] [(.int (1 : Int32))])) _
    exact retN X17 hx (t := .boolean) Bd.returns (by simp) (hb hby at_224) hr
  · show Q0 Z h0 n0 _ T17.heap _
    exact ⟨rfl, N17⟩
theorem pd_0_11 : parseMethodDescriptor "(II)B" = some ⟨[.int, .int], some .byte⟩ := by decide +kernel
set_option maxRecDepth 65536 in
set_option maxHeartbeats 40000000 in
theorem rm0_OUT_1 (l : Launch) (Z : State) (a0 : Array Value) (hw : ∀ d ∈ tables_1, d.before a0 Z = true) (ws : List Jvm.Cond) (q1 : Int64) (p2 : Int32) (p3 : Int32) (p4 : Int32) (w_OUT : Addr) (h0 : Heap) (n0 : Nat) (Z0 : n0 ≤ h0.size) (S_OUT : Sta Z h0 "com/example/quotewire/quotewire/wire/Frame$Direction" "OUT" "Lcom/example/quotewire/quotewire/wire/Frame$Direction;" (.ref w_OUT)) (E_OUT : Exa Z h0 w_OUT "com/example/quotewire/quotewire/wire/Frame$Direction") (hc3 : ¬ ((p2 &&& (1 : Int32)) = (0 : Int32))) (hk : ((p4 &&& (7 : Int32)) % (5 : Int32)) = (1 : Int32)) :
    MetFree l x (head1 (Jvm.Cond.code x code maxLocals ret :: ws) room_1) (fun a U => a = #[(.long q1), (.int p2), (.int p3), (.int p4)] ∧ Z.Warmed39 U.vm ∧ U.heap = h0) (fun _ _ _ _ _ => True) (fun _ U o U' => ∃ v L, o = .returned v ∧ Q0 Z h0 n0 v U'.heap L ∧ ReturnedEndW U o U' L room_1.cells room_1.slots) := by
  refine MetFree.of_bodySF (plainFor_of_name pn_0) hisR ?_
  intro p e s m args below meth c s₁ Bd hml0 hP hK
  obtain ⟨rfl, hZ, hh⟩ := hP
  have hx := Bd.exec
  have hby := Bd.bytes
  have hml : c.maxLocals = 12 := hml0
  have hown : s.vm.findClass "com/example/quotewire/quotewire/wire/FrameBinaryPinLaw" = some m.cls := findClass_of_methodNamed Bd.named
  have hnm := (name_of_methodNamed Bd.named Bd.method).1
  have X0 : Stand p l e room_1 s m #[(.long q1), (.int p2), (.int p3), (.int p4)] below meth c s₁ [] 0 0 := Stand.of_body Bd
  have e0 : s₁.heap = h0 := by rw [← hh, Bd.state]; rfl
  have N0 := Fr.nil n0
  have pre0 : ∀ t, Steps p.tables e below (s₁.setTop (mkF m 0 #[.val (.long q1), .second, .val (.int p2), .val (.int p3), .val (.int p4), .unset, .unset, .unset, .unset, .unset, .unset, .unset] [])) t → Steps p.tables e below (s₁.setTop (entryFrame m #[(.long q1), (.int p2), (.int p3), (.int p4)] maxLocals)) t := fun t k => castTop (ef_0 m q1 p2 p3 p4) k
  -- 3. LAWS
  obtain ⟨T6, X6, e6, st6⟩ := getS2 X0 hx hZ hown (host := "") (Or.inl (hw _ (List.mem_of_getElem? (i := 76) rfl))) Via.refl e0 S_OUT (g := (mkF m 6 #[.val (.long q1), .second, .val (.int p2), .val (.int p3), .val (.int p4), .unset, .unset, .unset, .unset, .unset, .unset, .unset] [])) rfl (hb hby at_6)
  obtain ⟨T7, h7, k7, X7, e7, E7, A7, B7, st7⟩ := newPE X6 hx hZ (hw _ (List.mem_of_getElem? (i := 3) rfl)) e6 (g := (mkF m 28 #[.val (.long q1), .second, .val (.int p2), .val (.int p3), .val (.int p4), .val (.ref w_OUT), .val (.int (1 : Int32)), .unset, .unset, .unset, .unset, .unset] [(.int (1 : Int32))])) rfl (hb hby at_28) rfl (by decide) (cap := 4) (by decide) (by decide) (by decide) (by decide) (ad := "[B") (by decide)
  obtain ⟨b7, g7⟩ : ∃ z, z = h0.size := ⟨_, rfl⟩      -- the fresh array's address
  rw [← g7] at A7 B7 st7
  have V0 : Arv Z h7 b7 k7 .byte (1 : Int32) [.int (0 : Int32)] (.int (0 : Int32)) := (Arv.new A7 (by decide)).pad (pad_rep [] (.int (0 : Int32)) 1)
  have g_b7 : n0 ≤ b7 := Nat.le_trans Z0 (Nat.le_of_eq g7.symm)
  have sz_b7 : h0.size ≤ b7 := (Nat.le_trans (Keep.refl h0 []).1 (Nat.le_of_eq g7.symm))
  have K7 : Keep h0 h7 [] := (Keep.refl h0 []).ext E7
  have Zc_0 : n0 ≤ h7.size := Nat.le_trans Z0 K7.1
  have D_0 := E_OUT.ext E7
  obtain ⟨_, _, ⟨T8, L8, k8, n8⟩, -, X8, ⟨Lc8, hQ8, l8, y8, z8⟩, st8⟩ := Jvm.LawKit.callS X7 hx (y := (⟨"com/example/quotewire/quotewire/wire/FrameBinaryPinLaw", "at", "(II)B"⟩ : MethodName)) hown (mvT hZ (hw _ (List.mem_of_getElem? (i := 73) rfl))) (mvT hZ (hw _ (List.mem_of_getElem? (i := 74) rfl))) (mvT hZ (hw _ (List.mem_of_getElem? (i := 48) rfl))) (mvT hZ (hw _ (List.mem_of_getElem? (i := 75) rfl))) (by decide) (backOf (W := 2) (rm11 l Z a0 hw [] p3 (0 : Int32) h7 n0 Zc_0) hZ (hw _ (List.mem_of_getElem? (i := 75) rfl)) (hw _ (List.mem_of_getElem? (i := 48) rfl)) (by decide) (by decide)) (g := (mkF m 42 #[.val (.long q1), .second, .val (.int p2), .val (.int p3), .val (.int p4), .val (.ref w_OUT), .val (.int (1 : Int32)), .val (.ref b7), .unset, .unset, .unset, .unset] [(.int (0 : Int32)), (.int p3), (.int (0 : Int32)), (.ref b7)])) rfl (by rw [hml]; rfl) (argsL := [(.int p3), (.int (0 : Int32))]) (rest := [(.int (0 : Int32)), (.ref b7)]) (lenOf pd_0_11 rfl) rfl (by show 2 * 0 + _ ≤ _; exact Nat.le_of_eq rfl) (hb hby at_42) (fun _ _ => ⟨rfl, e7, (by decide : 1 + 0 ≤ _), (by decide : 4 + 0 ≤ _)⟩)
  dsimp only [Pt.U, Pt.locs, Pt.cells, Pt.slots] at X8 l8 y8 z8 st8 hQ8
  subst l8 y8 z8
  obtain ⟨rfl, N8q, q8⟩ := hQ8
  have N8 := Fr.app N0 N8q
  obtain ⟨c_8, Ar_8, qa_8, S_8, N_8, H_8, G_8⟩ : Arv Z T8.heap b7 k7 .byte (1 : Int32) [.int (0 : Int32)] (.int (0 : Int32)) := by rw [q8]; exact V0
  have hin45 := inb_of (j := (0 : Int32)) S_8 ⟨by decide, by decide⟩
  obtain ⟨T9, h9, X9, e9, W9, st9⟩ := stB X8 hx hZ rfl Ar_8 (j := (0 : Int32)) hin45 (g := (mkF m 45 #[.val (.long q1), .second, .val (.int p2), .val (.int p3), .val (.int p4), .val (.ref w_OUT), .val (.int (1 : Int32)), .val (.ref b7), .unset, .unset, .unset, .unset] [(.int (atF p3 (0 : Int32))), (.int (0 : Int32)), (.ref b7)])) rfl rfl (hb hby at_45)
  rw [own_narAt] at W9
  have V1 : Arv Z h9 b7 k7 .byte (1 : Int32) [.int (atF p3 0)] (.int (0 : Int32)) := Arv.set Ar_8 qa_8 S_8 N_8 H_8 G_8 (by rw [← own_narAt]; exact fits_nar_byte _) W9 0 rfl (Nat.le_of_ble_eq_true rfl)
  have K9 : Keep h0 h9 [] := ((by rw [q8]; exact K7 : Keep h0 T8.heap [])).wr W9 (Or.inr sz_b7)
  have Zc_1 : n0 ≤ h9.size := Nat.le_trans Z0 K9.1
  have D_1 : Exa Z h9 w_OUT "com/example/quotewire/quotewire/wire/Frame$Direction" := ((by rw [q8]; exact D_0 : Exa Z T8.heap w_OUT "com/example/quotewire/quotewire/wire/Frame$Direction")).wr W9
  have BB_1 : Exa Z h9 b7 "[B" := ((by rw [q8]; exact B7 : Exa Z T8.heap b7 "[B")).wr W9
  have N9 := Fr.snoc X9 N8 g_b7
  have D_c : Exa Z h9 w_OUT "com/example/quotewire/quotewire/wire/Frame$Direction" := D_1
  have B_c : Exa Z h9 b7 "[B" := BB_1
  obtain ⟨_, _, ⟨T10, L10, k10, n10⟩, -, X10, S10, gr10, ⟨Lc10, hQ10, l10, y10, z10⟩, st10⟩ := callSS X9 hx (y := (⟨"com/example/quotewire/quotewire/wire/Frame", "binary", "(JLcom/example/quotewire/quotewire/wire/Frame$Direction;[B)Lcom/example/quotewire/quotewire/wire/Frame;"⟩ : MethodName)) hown (mvT hZ (hw _ (List.mem_of_getElem? (i := 4) rfl))) (mvT hZ (hw _ (List.mem_of_getElem? (i := 5) rfl))) (mvT hZ (hw _ (List.mem_of_getElem? (i := 6) rfl))) (mvT hZ (hw _ (List.mem_of_getElem? (i := 7) rfl))) (by decide) (backOfS (W := 0) (rm1 l Z a0 hw [] q1 w_OUT b7 k7 (1 : Int32) [.int (atF p3 0)] (.int (0 : Int32)) h9 n0 Zc_1 D_c B_c V1 (by decide)) hZ (hw _ (List.mem_of_getElem? (i := 7) rfl)) (hw _ (List.mem_of_getElem? (i := 6) rfl)) (by decide) (by decide)) (g := (mkF m 96 #[.val (.long q1), .second, .val (.int p2), .val (.int p3), .val (.int p4), .val (.ref w_OUT), .val (.int (1 : Int32)), .val (.ref b7), .unset, .unset, .unset, .unset] [(.ref b7), (.ref w_OUT), (.long q1)])) rfl (by rw [hml]; rfl) (argsL := [(.long q1), (.ref w_OUT), (.ref b7)]) (rest := []) (lenOf pd_0_0 rfl) rfl (by show 2 * 0 + _ ≤ _; exact Nat.le_of_eq rfl) (hb hby at_96) (fun _ _ => ⟨rfl, e9, (by decide : 1 + 4 ≤ _), (by decide : 4 + 48 ≤ _)⟩)
  dsimp only [Pt.U, Pt.locs, Pt.cells, Pt.slots] at X10 S10 gr10 l10 y10 z10 st10 hQ10
  subst l10 y10 z10
  obtain ⟨N10q, f, fb, rfl, zf, zb, K10, Ef_10, Eb_10, Ft_10, Fd_10, Fx_10, Fb_10, Vb_10⟩ := hQ10
  have hZw : Z.Warmed39 (s.setVm T10.vm).vm := State.Warmed39.trans (t := s) hZ S10.1
  have hownw : (s.setVm T10.vm).vm.findClass "com/example/quotewire/quotewire/wire/FrameBinaryPinLaw" = some m.cls := by rw [show (s.setVm T10.vm).vm = T10.vm from rfl, S10.1.alike.findClass]; exact hown
  have Z_10 : n0 ≤ T10.heap.size := Nat.le_trans Zc_1 K10.1
  have Vs : Arv Z T10.heap b7 k7 .byte (1 : Int32) [.int (atF p3 0)] (.int (0 : Int32)) := V1.keep K10 (fun q => nomatch q)
  have lb : b7 < h9.size := V1.lt
  have nf : f ∉ [b7] := fun q => absurd (List.mem_singleton.mp q) (Nat.ne_of_gt (Nat.lt_of_lt_of_le lb zf))
  have nb : fb ∉ [b7] := fun q => absurd (List.mem_singleton.mp q) (Nat.ne_of_gt (Nat.lt_of_lt_of_le lb zb))
  have N10 := Fr.app N9 N10q
  obtain ⟨_, _, ⟨T11, L11, k11, n11⟩, -, X11, ⟨Lc11, hQ11, l11, y11, z11⟩, st11⟩ := Jvm.LawKit.callS X10 hx (y := (⟨"com/example/quotewire/quotewire/wire/FrameBinaryPinLaw", "flip", "([B)V"⟩ : MethodName)) hownw (mvT hZw (hw _ (List.mem_of_getElem? (i := 46) rfl))) (mvT hZw (hw _ (List.mem_of_getElem? (i := 47) rfl))) (mvT hZw (hw _ (List.mem_of_getElem? (i := 48) rfl))) (mvT hZw (hw _ (List.mem_of_getElem? (i := 49) rfl))) (by decide) (backOf (W := 0) (rm5_1 l Z a0 hw [] b7 k7 (atF p3 (0 : Int32)) (.int (0 : Int32)) T10.heap n0 Z_10 Vs g_b7) hZw (hw _ (List.mem_of_getElem? (i := 49) rfl)) (hw _ (List.mem_of_getElem? (i := 48) rfl)) (by decide) (by decide)) (g := (mkF m 103 #[.val (.long q1), .second, .val (.int p2), .val (.int p3), .val (.int p4), .val (.ref w_OUT), .val (.int (1 : Int32)), .val (.ref b7), .val (.ref f), .unset, .unset, .unset] [(.ref b7)])) rfl (by rw [hml]; rfl) (argsL := [(.ref b7)]) (rest := []) (lenOf pd_0_5 rfl) rfl (by show 2 * 0 + _ ≤ _; exact Nat.le_of_eq rfl) (hb hby at_103) (fun _ _ => ⟨rfl, rfl, (by decide : 5 + 0 ≤ _), (by decide : 52 + 0 ≤ _)⟩)
  dsimp only [Pt.U, Pt.locs, Pt.cells, Pt.slots] at X11 l11 y11 z11 st11 hQ11
  subst l11 y11 z11
  obtain ⟨rfl, N11q, K11⟩ := hQ11
  have Ef_11 := Ef_10.keep K11
  have Eb_11 := Eb_10.keep K11
  have Ft_11 := Ft_10.keep K11 nf
  have Fd_11 := Fd_10.keep K11 nf
  have Fx_11 := Fx_10.keep K11 nf
  have Fb_11 := Fb_10.keep K11 nf
  have Vb_11 := Vb_10.keep K11 nb
  have Z_11 : n0 ≤ T11.heap.size := Nat.le_trans Z_10 K11.1
  have N11 := Fr.app N10 N11q
  obtain ⟨cq12, kq12, q12a, q12b, q12c⟩ := isOf hZw rfl Ef_11
  obtain ⟨_, _, ⟨T12, L12, k12, n12⟩, -, X12, ⟨Lc12, hQ12, l12, y12, z12⟩, st12⟩ := X11.virtualBack hx (y := (⟨"com/example/quotewire/quotewire/wire/Frame", "binary", "()[B"⟩ : MethodName)) (z := (⟨"com/example/quotewire/quotewire/wire/Frame", "binary", "()[B"⟩ : MethodName)) hownw (mvT hZw (hw _ (List.mem_of_getElem? (i := 50) rfl))) (mvT hZw (hw _ (List.mem_of_getElem? (i := 51) rfl))) (notFace_of_selects (args := #[]) (mvT hZw (hw _ (List.mem_of_getElem? (i := 53) rfl)))) (mvT hZw (hw _ (List.mem_of_getElem? (i := 53) rfl))) (mvT hZw (hw _ (List.mem_of_getElem? (i := 52) rfl))) (by decide) (backOf (W := 0) (rm6 l Z a0 hw [] f fb k7 (1 : Int32) [.int (atF p3 0)] (.int (0 : Int32)) T11.heap n0 Z_11 Fb_11 Eb_11 Vb_11 (by decide)) hZw (hw _ (List.mem_of_getElem? (i := 54) rfl)) (hw _ (List.mem_of_getElem? (i := 6) rfl)) (by decide) (by decide)) q12a q12c (g := (mkF m 108 #[.val (.long q1), .second, .val (.int p2), .val (.int p3), .val (.int p4), .val (.ref w_OUT), .val (.int (1 : Int32)), .val (.ref b7), .val (.ref f), .unset, .unset, .unset] [(.ref f)])) rfl (by rw [hml]; rfl) (Steps.refl _) (argsL := []) (rest := []) (lenOf pd_0_6 rfl) rfl (by show 2 * 0 + _ ≤ _; exact Nat.le_of_eq rfl) (hb hby at_108) (fun _ _ => ⟨rfl, rfl, (by decide : 5 + 1 ≤ _), (by decide : 52 + 4 ≤ _)⟩)
  dsimp only [Pt.U, Pt.locs, Pt.cells, Pt.slots] at X12 l12 y12 z12 st12 hQ12
  subst l12 y12 z12
  obtain ⟨N12q, o1, rfl, zo1, K12, Vo1, Eo1⟩ := hQ12
  have nf1 : f ∉ [o1] := fun q => absurd (List.mem_singleton.mp q) (Nat.ne_of_lt (Nat.lt_of_lt_of_le Ef_11.lt zo1))
  have nb1 : fb ∉ [o1] := fun q => absurd (List.mem_singleton.mp q) (Nat.ne_of_lt (Nat.lt_of_lt_of_le Eb_11.lt zo1))
  have g_o1 : n0 ≤ o1 := Nat.le_trans Z_11 zo1
  have Ef_12 := Ef_11.keep K12
  have Eb_12 := Eb_11.keep K12
  have Ft_12 := Ft_11.keep K12 (fun q => nomatch q)
  have Fd_12 := Fd_11.keep K12 (fun q => nomatch q)
  have Fx_12 := Fx_11.keep K12 (fun q => nomatch q)
  have Fb_12 := Fb_11.keep K12 (fun q => nomatch q)
  have Vb_12 := Vb_11.keep K12 (fun q => nomatch q)
  have Z_12 : n0 ≤ T12.heap.size := Nat.le_trans Z_11 K12.1
  have N12 := Fr.app N11 N12q
  obtain ⟨_, _, ⟨T13, L13, k13, n13⟩, -, X13, ⟨Lc13, hQ13, l13, y13, z13⟩, st13⟩ := Jvm.LawKit.callS X12 hx (y := (⟨"com/example/quotewire/quotewire/wire/FrameBinaryPinLaw", "same", "([BII)Z"⟩ : MethodName)) hownw (mvT hZw (hw _ (List.mem_of_getElem? (i := 55) rfl))) (mvT hZw (hw _ (List.mem_of_getElem? (i := 56) rfl))) (mvT hZw (hw _ (List.mem_of_getElem? (i := 48) rfl))) (mvT hZw (hw _ (List.mem_of_getElem? (i := 57) rfl))) (by decide) (backOf (W := 0) (rm7_1 l Z a0 hw [] o1 p3 k7 (.int (0 : Int32)) T12.heap n0 Z_12 Vo1) hZw (hw _ (List.mem_of_getElem? (i := 57) rfl)) (hw _ (List.mem_of_getElem? (i := 48) rfl)) (by decide) (by decide)) (g := (mkF m 118 #[.val (.long q1), .second, .val (.int p2), .val (.int p3), .val (.int p4), .val (.ref w_OUT), .val (.int (1 : Int32)), .val (.ref b7), .val (.ref f), .val (.ref o1), .unset, .unset] [(.int p3), (.int (1 : Int32)), (.ref o1)])) rfl (by rw [hml]; rfl) (argsL := [(.ref o1), (.int (1 : Int32)), (.int p3)]) (rest := []) (lenOf pd_0_7 rfl) rfl (by show 2 * 0 + _ ≤ _; exact Nat.le_of_eq rfl) (hb hby at_118) (fun _ _ => ⟨rfl, rfl, (by decide : 6 + 0 ≤ _), (by decide : 56 + 0 ≤ _)⟩)
  dsimp only [Pt.U, Pt.locs, Pt.cells, Pt.slots] at X13 l13 y13 z13 st13 hQ13
  subst l13 y13 z13
  obtain ⟨rfl, N13q, q13⟩ := hQ13
  have K13 : Keep T12.heap T13.heap [] := by rw [q13]; exact Keep.refl _ _
  have Vo1_ := Vo1.keep K13 (fun q => nomatch q)
  have Ef_13 := Ef_12.keep K13
  have Eb_13 := Eb_12.keep K13
  have Ft_13 := Ft_12.keep K13 (fun q => nomatch q)
  have Fd_13 := Fd_12.keep K13 (fun q => nomatch q)
  have Fx_13 := Fx_12.keep K13 (fun q => nomatch q)
  have Fb_13 := Fb_12.keep K13 (fun q => nomatch q)
  have Vb_13 := Vb_12.keep K13 (fun q => nomatch q)
  have Z_13 : n0 ≤ T13.heap.size := Nat.le_trans Z_12 K13.1
  have N13 := Fr.app N12 N13q
  obtain ⟨_, _, ⟨T14, L14, k14, n14⟩, -, X14, ⟨Lc14, hQ14, l14, y14, z14⟩, st14⟩ := Jvm.LawKit.callS X13 hx (y := (⟨"com/example/quotewire/quotewire/wire/FrameBinaryPinLaw", "flip", "([B)V"⟩ : MethodName)) hownw (mvT hZw (hw _ (List.mem_of_getElem? (i := 46) rfl))) (mvT hZw (hw _ (List.mem_of_getElem? (i := 47) rfl))) (mvT hZw (hw _ (List.mem_of_getElem? (i := 48) rfl))) (mvT hZw (hw _ (List.mem_of_getElem? (i := 49) rfl))) (by decide) (backOf (W := 0) (rm5_1 l Z a0 hw [] o1 k7 (atF p3 (0 : Int32)) (.int (0 : Int32)) T13.heap n0 Z_13 Vo1_ g_o1) hZw (hw _ (List.mem_of_getElem? (i := 49) rfl)) (hw _ (List.mem_of_getElem? (i := 48) rfl)) (by decide) (by decide)) (g := (mkF m 125 #[.val (.long q1), .second, .val (.int p2), .val (.int p3), .val (.int p4), .val (.ref w_OUT), .val (.int (1 : Int32)), .val (.ref b7), .val (.ref f), .val (.ref o1), .val (.int (1 : Int32)), .unset] [(.ref o1)])) rfl (by rw [hml]; rfl) (argsL := [(.ref o1)]) (rest := []) (lenOf pd_0_5 rfl) rfl (by show 2 * 0 + _ ≤ _; exact Nat.le_of_eq rfl) (hb hby at_125) (fun _ _ => ⟨rfl, rfl, (by decide : 6 + 0 ≤ _), (by decide : 56 + 0 ≤ _)⟩)
  dsimp only [Pt.U, Pt.locs, Pt.cells, Pt.slots] at X14 l14 y14 z14 st14 hQ14
  subst l14 y14 z14
  obtain ⟨rfl, N14q, K14⟩ := hQ14
  have Ef_14 := Ef_13.keep K14
  have Eb_14 := Eb_13.keep K14
  have Ft_14 := Ft_13.keep K14 nf1
  have Fd_14 := Fd_13.keep K14 nf1
  have Fx_14 := Fx_13.keep K14 nf1
  have Fb_14 := Fb_13.keep K14 nf1
  have Vb_14 := Vb_13.keep K14 nb1
  have Z_14 : n0 ≤ T14.heap.size := Nat.le_trans Z_13 K14.1
  have N14 := Fr.app N13 N14q
  obtain ⟨cq15, kq15, q15a, q15b, q15c⟩ := isOf hZw rfl Ef_14
  obtain ⟨_, _, ⟨T15, L15, k15, n15⟩, -, X15, ⟨Lc15, hQ15, l15, y15, z15⟩, st15⟩ := X14.virtualBack hx (y := (⟨"com/example/quotewire/quotewire/wire/Frame", "binary", "()[B"⟩ : MethodName)) (z := (⟨"com/example/quotewire/quotewire/wire/Frame", "binary", "()[B"⟩ : MethodName)) hownw (mvT hZw (hw _ (List.mem_of_getElem? (i := 50) rfl))) (mvT hZw (hw _ (List.mem_of_getElem? (i := 51) rfl))) (notFace_of_selects (args := #[]) (mvT hZw (hw _ (List.mem_of_getElem? (i := 53) rfl)))) (mvT hZw (hw _ (List.mem_of_getElem? (i := 53) rfl))) (mvT hZw (hw _ (List.mem_of_getElem? (i := 52) rfl))) (by decide) (backOf (W := 0) (rm6 l Z a0 hw [] f fb k7 (1 : Int32) [.int (atF p3 0)] (.int (0 : Int32)) T14.heap n0 Z_14 Fb_14 Eb_14 Vb_14 (by decide)) hZw (hw _ (List.mem_of_getElem? (i := 54) rfl)) (hw _ (List.mem_of_getElem? (i := 6) rfl)) (by decide) (by decide)) q15a q15c (g := (mkF m 130 #[.val (.long q1), .second, .val (.int p2), .val (.int p3), .val (.int p4), .val (.ref w_OUT), .val (.int (1 : Int32)), .val (.ref b7), .val (.ref f), .val (.ref o1), .val (.int (1 : Int32)), .unset] [(.ref f)])) rfl (by rw [hml]; rfl) (Steps.refl _) (argsL := []) (rest := []) (lenOf pd_0_6 rfl) rfl (by show 2 * 0 + _ ≤ _; exact Nat.le_of_eq rfl) (hb hby at_130) (fun _ _ => ⟨rfl, rfl, (by decide : 6 + 1 ≤ _), (by decide : 56 + 4 ≤ _)⟩)
  dsimp only [Pt.U, Pt.locs, Pt.cells, Pt.slots] at X15 l15 y15 z15 st15 hQ15
  subst l15 y15 z15
  obtain ⟨N15q, o2, rfl, zo2, K15, Vo2, Eo2⟩ := hQ15
  have Ef_15 := Ef_14.keep K15
  have Eb_15 := Eb_14.keep K15
  have Ft_15 := Ft_14.keep K15 (fun q => nomatch q)
  have Fd_15 := Fd_14.keep K15 (fun q => nomatch q)
  have Fx_15 := Fx_14.keep K15 (fun q => nomatch q)
  have Fb_15 := Fb_14.keep K15 (fun q => nomatch q)
  have Vb_15 := Vb_14.keep K15 (fun q => nomatch q)
  have Z_15 : n0 ≤ T15.heap.size := Nat.le_trans Z_14 K15.1
  have N15 := Fr.app N14 N15q
  obtain ⟨_, _, ⟨T16, L16, k16, n16⟩, -, X16, ⟨Lc16, hQ16, l16, y16, z16⟩, st16⟩ := Jvm.LawKit.callS X15 hx (y := (⟨"com/example/quotewire/quotewire/wire/FrameBinaryPinLaw", "same", "([BII)Z"⟩ : MethodName)) hownw (mvT hZw (hw _ (List.mem_of_getElem? (i := 55) rfl))) (mvT hZw (hw _ (List.mem_of_getElem? (i := 56) rfl))) (mvT hZw (hw _ (List.mem_of_getElem? (i := 48) rfl))) (mvT hZw (hw _ (List.mem_of_getElem? (i := 57) rfl))) (by decide) (backOf (W := 0) (rm7_1 l Z a0 hw [] o2 p3 k7 (.int (0 : Int32)) T15.heap n0 Z_15 Vo2) hZw (hw _ (List.mem_of_getElem? (i := 57) rfl)) (hw _ (List.mem_of_getElem? (i := 48) rfl)) (by decide) (by decide)) (g := (mkF m 145 #[.val (.long q1), .second, .val (.int p2), .val (.int p3), .val (.int p4), .val (.ref w_OUT), .val (.int (1 : Int32)), .val (.ref b7), .val (.ref f), .val (.ref o1), .val (.int (1 : Int32)), .val (.ref o2)] [(.int p3), (.int (1 : Int32)), (.ref o2)])) rfl (by rw [hml]; rfl) (argsL := [(.ref o2), (.int (1 : Int32)), (.int p3)]) (rest := []) (lenOf pd_0_7 rfl) rfl (by show 2 * 0 + _ ≤ _; exact Nat.le_of_eq rfl) (hb hby at_145) (fun _ _ => ⟨rfl, rfl, (by decide : 7 + 0 ≤ _), (by decide : 60 + 0 ≤ _)⟩)
  dsimp only [Pt.U, Pt.locs, Pt.cells, Pt.slots] at X16 l16 y16 z16 st16 hQ16
  subst l16 y16 z16
  obtain ⟨rfl, N16q, q16⟩ := hQ16
  have K16 : Keep T15.heap T16.heap [] := by rw [q16]; exact Keep.refl _ _
  have Ef_16 := Ef_15.keep K16
  have Eb_16 := Eb_15.keep K16
  have Ft_16 := Ft_15.keep K16 (fun q => nomatch q)
  have Fd_16 := Fd_15.keep K16 (fun q => nomatch q)
  have Fx_16 := Fx_15.keep K16 (fun q => nomatch q)
  have Fb_16 := Fb_15.keep K16 (fun q => nomatch q)
  have Vb_16 := Vb_15.keep K16 (fun q => nomatch q)
  have Z_16 : n0 ≤ T16.heap.size := Nat.le_trans Z_15 K16.1
  have N16 := Fr.app N15 N16q
  obtain ⟨cq17, kq17, q17a, q17b, q17c⟩ := isOf hZw rfl Ef_16
  obtain ⟨_, _, ⟨T17, L17, k17, n17⟩, -, X17, ⟨Lc17, hQ17, l17, y17, z17⟩, st17⟩ := X16.virtualBack hx (y := (⟨"com/example/quotewire/quotewire/wire/Frame", "time", "()J"⟩ : MethodName)) (z := (⟨"com/example/quotewire/quotewire/wire/Frame", "time", "()J"⟩ : MethodName)) hownw (mvT hZw (hw _ (List.mem_of_getElem? (i := 58) rfl))) (mvT hZw (hw _ (List.mem_of_getElem? (i := 59) rfl))) (notFace_of_selects (args := #[]) (mvT hZw (hw _ (List.mem_of_getElem? (i := 61) rfl)))) (mvT hZw (hw _ (List.mem_of_getElem? (i := 61) rfl))) (mvT hZw (hw _ (List.mem_of_getElem? (i := 60) rfl))) (by decide) (backOf (W := 0) (rm8 l Z a0 hw [] f q1 T16.heap n0 Z_16 Ft_16) hZw (hw _ (List.mem_of_getElem? (i := 62) rfl)) (hw _ (List.mem_of_getElem? (i := 6) rfl)) (by decide) (by decide)) q17a q17c (g := (mkF m 165 #[.val (.long q1), .second, .val (.int p2), .val (.int p3), .val (.int p4), .val (.ref w_OUT), .val (.int (1 : Int32)), .val (.ref b7), .val (.ref f), .val (.ref o1), .val (.int (1 : Int32)), .val (.ref o2)] [(.ref f)])) rfl (by rw [hml]; rfl) (Steps.refl _) (argsL := []) (rest := []) (lenOf pd_0_8 rfl) rfl (by show 2 * 0 + _ ≤ _; exact Nat.le_of_eq rfl) (hb hby at_165) (fun _ _ => ⟨rfl, rfl, (by decide : 7 + 0 ≤ _), (by decide : 60 + 0 ≤ _)⟩)
  dsimp only [Pt.U, Pt.locs, Pt.cells, Pt.slots] at X17 l17 y17 z17 st17 hQ17
  subst l17 y17 z17
  obtain ⟨rfl, N17q, q17⟩ := hQ17
  have K17 : Keep T16.heap T17.heap [] := by rw [q17]; exact Keep.refl _ _
  have Ef_17 := Ef_16.keep K17
  have Eb_17 := Eb_16.keep K17
  have Ft_17 := Ft_16.keep K17 (fun q => nomatch q)
  have Fd_17 := Fd_16.keep K17 (fun q => nomatch q)
  have Fx_17 := Fx_16.keep K17 (fun q => nomatch q)
  have Fb_17 := Fb_16.keep K17 (fun q => nomatch q)
  have Vb_17 := Vb_16.keep K17 (fun q => nomatch q)
  have Z_17 : n0 ≤ T17.heap.size := Nat.le_trans Z_16 K17.1
  have N17 := Fr.app N16 N17q
  obtain ⟨cq18, kq18, q18a, q18b, q18c⟩ := isOf hZw rfl Ef_17
  obtain ⟨_, _, ⟨T18, L18, k18, n18⟩, -, X18, ⟨Lc18, hQ18, l18, y18, z18⟩, st18⟩ := X17.virtualBack hx (y := (⟨"com/example/quotewire/quotewire/wire/Frame", "direction", "()Lcom/example/quotewire/quotewire/wire/Frame$Direction;"⟩ : MethodName)) (z := (⟨"com/example/quotewire/quotewire/wire/Frame", "direction", "()Lcom/example/quotewire/quotewire/wire/Frame$Direction;"⟩ : MethodName)) hownw (mvT hZw (hw _ (List.mem_of_getElem? (i := 63) rfl))) (mvT hZw (hw _ (List.mem_of_getElem? (i := 64) rfl))) (notFace_of_selects (args := #[]) (mvT hZw (hw _ (List.mem_of_getElem? (i := 66) rfl)))) (mvT hZw (hw _ (List.mem_of_getElem? (i := 66) rfl))) (mvT hZw (hw _ (List.mem_of_getElem? (i := 65) rfl))) (by decide) (backOf (W := 0) (rm9 l Z a0 hw [] f w_OUT T17.heap n0 Z_17 Fd_17) hZw (hw _ (List.mem_of_getElem? (i := 67) rfl)) (hw _ (List.mem_of_getElem? (i := 6) rfl)) (by decide) (by decide)) q18a q18c (g := (mkF m 187 #[.val (.long q1), .second, .val (.int p2), .val (.int p3), .val (.int p4), .val (.ref w_OUT), .val (.int (1 : Int32)), .val (.ref b7), .val (.ref f), .val (.ref o1), .val (.int (1 : Int32)), .val (.ref o2)] [(.ref f)])) rfl (by rw [hml]; rfl) (Steps.refl _) (argsL := []) (rest := []) (lenOf pd_0_9 rfl) rfl (by show 2 * 0 + _ ≤ _; exact Nat.le_of_eq rfl) (hb hby at_187) (fun _ _ => ⟨rfl, rfl, (by decide : 7 + 0 ≤ _), (by decide : 60 + 0 ≤ _)⟩)
  dsimp only [Pt.U, Pt.locs, Pt.cells, Pt.slots] at X18 l18 y18 z18 st18 hQ18
  subst l18 y18 z18
  obtain ⟨rfl, N18q, q18⟩ := hQ18
  have K18 : Keep T17.heap T18.heap [] := by rw [q18]; exact Keep.refl _ _
  have Ef_18 := Ef_17.keep K18
  have Eb_18 := Eb_17.keep K18
  have Ft_18 := Ft_17.keep K18 (fun q => nomatch q)
  have Fd_18 := Fd_17.keep K18 (fun q => nomatch q)
  have Fx_18 := Fx_17.keep K18 (fun q => nomatch q)
  have Fb_18 := Fb_17.keep K18 (fun q => nomatch q)
  have Vb_18 := Vb_17.keep K18 (fun q => nomatch q)
  have Z_18 : n0 ≤ T18.heap.size := Nat.le_trans Z_17 K18.1
  have N18 := Fr.app N17 N18q
  obtain ⟨cq19, kq19, q19a, q19b, q19c⟩ := isOf hZw rfl Ef_18
  obtain ⟨_, _, ⟨T19, L19, k19, n19⟩, -, X19, ⟨Lc19, hQ19, l19, y19, z19⟩, st19⟩ := X18.virtualBack hx (y := (⟨"com/example/quotewire/quotewire/wire/Frame", "isText", "()Z"⟩ : MethodName)) (z := (⟨"com/example/quotewire/quotewire/wire/Frame", "isText", "()Z"⟩ : MethodName)) hownw (mvT hZw (hw _ (List.mem_of_getElem? (i := 68) rfl))) (mvT hZw (hw _ (List.mem_of_getElem? (i := 69) rfl))) (notFace_of_selects (args := #[]) (mvT hZw (hw _ (List.mem_of_getElem? (i := 71) rfl)))) (mvT hZw (hw _ (List.mem_of_getElem? (i := 71) rfl))) (mvT hZw (hw _ (List.mem_of_getElem? (i := 70) rfl))) (by decide) (backOf (W := 0) (rm10 l Z a0 hw [] f T18.heap n0 Z_18 Fx_18) hZw (hw _ (List.mem_of_getElem? (i := 72) rfl)) (hw _ (List.mem_of_getElem? (i := 6) rfl)) (by decide) (by decide)) q19a q19c (g := (mkF m 209 #[.val (.long q1), .second, .val (.int p2), .val (.int p3), .val (.int p4), .val (.ref w_OUT), .val (.int (1 : Int32)), .val (.ref b7), .val (.ref f), .val (.ref o1), .val (.int (1 : Int32)), .val (.ref o2)] [(.ref f)])) rfl (by rw [hml]; rfl) (Steps.refl _) (argsL := []) (rest := []) (lenOf pd_0_10 rfl) rfl (by show 2 * 0 + _ ≤ _; exact Nat.le_of_eq rfl) (hb hby at_209) (fun _ _ => ⟨rfl, rfl, (by decide : 7 + 0 ≤ _), (by decide : 60 + 0 ≤ _)⟩)
  dsimp only [Pt.U, Pt.locs, Pt.cells, Pt.slots] at X19 l19 y19 z19 st19 hQ19
  subst l19 y19 z19
  obtain ⟨rfl, N19q, q19⟩ := hQ19
  have K19 : Keep T18.heap T19.heap [] := by rw [q19]; exact Keep.refl _ _
  have Ef_19 := Ef_18.keep K19
  have Eb_19 := Eb_18.keep K19
  have Ft_19 := Ft_18.keep K19 (fun q => nomatch q)
  have Fd_19 := Fd_18.keep K19 (fun q => nomatch q)
  have Fx_19 := Fx_18.keep K19 (fun q => nomatch q)
  have Fb_19 := Fb_18.keep K19 (fun q => nomatch q)
  have Vb_19 := Vb_18.keep K19 (fun q => nomatch q)
  have Z_19 : n0 ≤ T19.heap.size := Nat.le_trans Z_18 K19.1
  have N19 := Fr.app N18 N19q
  have grow : T10.heap.size ≤ T19.heap.size := Nat.le_trans (Nat.le_trans (Nat.le_trans (Nat.le_trans (Nat.le_trans (Nat.le_trans (Nat.le_trans (Nat.le_trans K11.1 K12.1) K13.1) K14.1) K15.1) K16.1) K17.1) K18.1) K19.1
  obtain ⟨fs, hr, hrun, hended, hRW⟩ := X19.leaveW S10 grow (v := some (.int (1 : Int32))) (fun h => by rw [Bd.returns] at h; cases h)
  refine ⟨_, _, pre0 _ ?_, hrun, hended, _, _, rfl, ?_, hRW.1, hRW.2.1, hRW.2.2.1, hRW.2.2.2.mono (by decide) (by decide)⟩
  -- 4. STEPS
  · show Steps p.tables e below (s₁.setTop (mkF m 0 #[.val (.long q1), .second, .val (.int p2), .val (.int p3), .val (.int p4), .unset, .unset, .unset, .unset, .unset, .unset, .unset] [])) _
    refine XS.iloadN X0.here hx rfl (hb hby at_0) rfl ?_
    show Steps p.tables e below (s₁.setTop (mkF m 1 #[.val (.long q1), .second, .val (.int p2), .val (.int p3), .val (.int p4), .unset, .unset, .unset, .unset, .unset, .unset, .unset] [(.int p2)])) _
    refine XS.iconst X0.here hx rfl (hb hby at_1) ?_
    show Steps p.tables e below (s₁.setTop (mkF m 2 #[.val (.long q1), .second, .val (.int p2), .val (.int p3), .val (.int p4), .unset, .unset, .unset, .unset, .unset, .unset, .unset] [(.int (1 : Int32)), (.int p2)])) _
    refine XS.iand X0.here hx rfl (hb hby at_2) rfl ?_
    show Steps p.tables e below (s₁.setTop (mkF m 3 #[.val (.long q1), .second, .val (.int p2), .val (.int p3), .val (.int p4), .unset, .unset, .unset, .unset, .unset, .unset, .unset] [(.int (p2 &&& (1 : Int32)))])) _
    refine XS.ifNo X0.here hx rfl (hb hby at_3) rfl ((if0 _ _).trans (feq hc3).1) ?_
    show Steps p.tables e below (s₁.setTop (mkF m 6 #[.val (.long q1), .second, .val (.int p2), .val (.int p3), .val (.int p4), .unset, .unset, .unset, .unset, .unset, .unset, .unset] [])) _
    refine st6 _ ?_
    show Steps p.tables e below (T6.setTop (mkF m 9 #[.val (.long q1), .second, .val (.int p2), .val (.int p3), .val (.int p4), .unset, .unset, .unset, .unset, .unset, .unset, .unset] [(.ref w_OUT)])) _
    refine XS.goto X6.here hx rfl (pc0 := 9) (pc' := 15) rfl (hb hby at_9) (by decide) (by decide) ?_
    show Steps p.tables e below (T6.setTop (mkF m 15 #[.val (.long q1), .second, .val (.int p2), .val (.int p3), .val (.int p4), .unset, .unset, .unset, .unset, .unset, .unset, .unset] [(.ref w_OUT)])) _
    refine XS.astore X6.here hx rfl (hb hby at_15) rfl rfl (l' := #[.val (.long q1), .second, .val (.int p2), .val (.int p3), .val (.int p4), .val (.ref w_OUT), .unset, .unset, .unset, .unset, .unset, .unset]) rfl ?_
    show Steps p.tables e below (T6.setTop (mkF m 17 #[.val (.long q1), .second, .val (.int p2), .val (.int p3), .val (.int p4), .val (.ref w_OUT), .unset, .unset, .unset, .unset, .unset, .unset] [])) _
    refine XS.iload X6.here hx rfl (hb hby at_17) rfl ?_
    show Steps p.tables e below (T6.setTop (mkF m 19 #[.val (.long q1), .second, .val (.int p2), .val (.int p3), .val (.int p4), .val (.ref w_OUT), .unset, .unset, .unset, .unset, .unset, .unset] [(.int p4)])) _
    refine XS.bipush X6.here hx rfl (hb hby at_19) ?_
    show Steps p.tables e below (T6.setTop (mkF m 21 #[.val (.long q1), .second, .val (.int p2), .val (.int p3), .val (.int p4), .val (.ref w_OUT), .unset, .unset, .unset, .unset, .unset, .unset] [(.int (7 : Int32)), (.int p4)])) _
    refine XS.iand X6.here hx rfl (hb hby at_21) rfl ?_
    show Steps p.tables e below (T6.setTop (mkF m 22 #[.val (.long q1), .second, .val (.int p2), .val (.int p3), .val (.int p4), .val (.ref w_OUT), .unset, .unset, .unset, .unset, .unset, .unset] [(.int (p4 &&& (7 : Int32)))])) _
    refine XS.iconst X6.here hx rfl (hb hby at_22) ?_
    show Steps p.tables e below (T6.setTop (mkF m 23 #[.val (.long q1), .second, .val (.int p2), .val (.int p3), .val (.int p4), .val (.ref w_OUT), .unset, .unset, .unset, .unset, .unset, .unset] [(.int (5 : Int32)), (.int (p4 &&& (7 : Int32)))])) _
    refine iremM X6 hx rfl (hb hby at_23) rfl (by decide) ?_
    rw [hk]
    show Steps p.tables e below (T6.setTop (mkF m 24 #[.val (.long q1), .second, .val (.int p2), .val (.int p3), .val (.int p4), .val (.ref w_OUT), .unset, .unset, .unset, .unset, .unset, .unset] [(.int (1 : Int32))])) _
    refine XS.istore X6.here hx rfl (hb hby at_24) rfl (l' := #[.val (.long q1), .second, .val (.int p2), .val (.int p3), .val (.int p4), .val (.ref w_OUT), .val (.int (1 : Int32)), .unset, .unset, .unset, .unset, .unset]) rfl ?_
    show Steps p.tables e below (T6.setTop (mkF m 26 #[.val (.long q1), .second, .val (.int p2), .val (.int p3), .val (.int p4), .val (.ref w_OUT), .val (.int (1 : Int32)), .unset, .unset, .unset, .unset, .unset] [])) _
    refine XS.iload X6.here hx rfl (hb hby at_26) rfl ?_
    show Steps p.tables e below (T6.setTop (mkF m 28 #[.val (.long q1), .second, .val (.int p2), .val (.int p3), .val (.int p4), .val (.ref w_OUT), .val (.int (1 : Int32)), .unset, .unset, .unset, .unset, .unset] [(.int (1 : Int32))])) _
    refine st7 _ ?_
    show Steps p.tables e below (T7.setTop (mkF m 30 #[.val (.long q1), .second, .val (.int p2), .val (.int p3), .val (.int p4), .val (.ref w_OUT), .val (.int (1 : Int32)), .unset, .unset, .unset, .unset, .unset] [(.ref b7)])) _
    refine XS.astore X7.here hx rfl (hb hby at_30) rfl rfl (l' := #[.val (.long q1), .second, .val (.int p2), .val (.int p3), .val (.int p4), .val (.ref w_OUT), .val (.int (1 : Int32)), .val (.ref b7), .unset, .unset, .unset, .unset]) rfl ?_
    show Steps p.tables e below (T7.setTop (mkF m 32 #[.val (.long q1), .second, .val (.int p2), .val (.int p3), .val (.int p4), .val (.ref w_OUT), .val (.int (1 : Int32)), .val (.ref b7), .unset, .unset, .unset, .unset] [])) _
    refine XS.iload X7.here hx rfl (hb hby at_32) rfl ?_
    show Steps p.tables e below (T7.setTop (mkF m 34 #[.val (.long q1), .second, .val (.int p2), .val (.int p3), .val (.int p4), .val (.ref w_OUT), .val (.int (1 : Int32)), .val (.ref b7), .unset, .unset, .unset, .unset] [(.int (1 : Int32))])) _
    refine XS.ifNo X7.here hx rfl (hb hby at_34) rfl ((if0 _ _).trans (tlt (by decide)).2.2.2) ?_
    show Steps p.tables e below (T7.setTop (mkF m 37 #[.val (.long q1), .second, .val (.int p2), .val (.int p3), .val (.int p4), .val (.ref w_OUT), .val (.int (1 : Int32)), .val (.ref b7), .unset, .unset, .unset, .unset] [])) _
    refine XS.aload X7.here hx rfl (hb hby at_37) rfl rfl ?_
    show Steps p.tables e below (T7.setTop (mkF m 39 #[.val (.long q1), .second, .val (.int p2), .val (.int p3), .val (.int p4), .val (.ref w_OUT), .val (.int (1 : Int32)), .val (.ref b7), .unset, .unset, .unset, .unset] [(.ref b7)])) _
    refine XS.iconst X7.here hx rfl (hb hby at_39) ?_
    show Steps p.tables e below (T7.setTop (mkF m 40 #[.val (.long q1), .second, .val (.int p2), .val (.int p3), .val (.int p4), .val (.ref w_OUT), .val (.int (1 : Int32)), .val (.ref b7), .unset, .unset, .unset, .unset] [(.int (0 : Int32)), (.ref b7)])) _
    refine XS.iloadN X7.here hx rfl (hb hby at_40) rfl ?_
    show Steps p.tables e below (T7.setTop (mkF m 41 #[.val (.long q1), .second, .val (.int p2), .val (.int p3), .val (.int p4), .val (.ref w_OUT), .val (.int (1 : Int32)), .val (.ref b7), .unset, .unset, .unset, .unset] [(.int p3), (.int (0 : Int32)), (.ref b7)])) _
    refine XS.iconst X7.here hx rfl (hb hby at_41) ?_
    show Steps p.tables e below (T7.setTop (mkF m 42 #[.val (.long q1), .second, .val (.int p2), .val (.int p3), .val (.int p4), .val (.ref w_OUT), .val (.int (1 : Int32)), .val (.ref b7), .unset, .unset, .unset, .unset] [(.int (0 : Int32)), (.int p3), (.int (0 : Int32)), (.ref b7)])) _
    refine st8 _ ?_
    show Steps p.tables e below (T8.setTop (mkF m 45 #[.val (.long q1), .second, .val (.int p2), .val (.int p3), .val (.int p4), .val (.ref w_OUT), .val (.int (1 : Int32)), .val (.ref b7), .unset, .unset, .unset, .unset] [(.int (atF p3 (0 : Int32))), (.int (0 : Int32)), (.ref b7)])) _
    refine st9 _ ?_
    show Steps p.tables e below (T9.setTop (mkF m 46 #[.val (.long q1), .second, .val (.int p2), .val (.int p3), .val (.int p4), .val (.ref w_OUT), .val (.int (1 : Int32)), .val (.ref b7), .unset, .unset, .unset, .unset] [])) _
    refine XS.iload X9.here hx rfl (hb hby at_46) rfl ?_
    show Steps p.tables e below (T9.setTop (mkF m 48 #[.val (.long q1), .second, .val (.int p2), .val (.int p3), .val (.int p4), .val (.ref w_OUT), .val (.int (1 : Int32)), .val (.ref b7), .unset, .unset, .unset, .unset] [(.int (1 : Int32))])) _
    refine XS.iconst X9.here hx rfl (hb hby at_48) ?_
    show Steps p.tables e below (T9.setTop (mkF m 49 #[.val (.long q1), .second, .val (.int p2), .val (.int p3), .val (.int p4), .val (.ref w_OUT), .val (.int (1 : Int32)), .val (.ref b7), .unset, .unset, .unset, .unset] [(.int (1 : Int32)), (.int (1 : Int32))])) _
    refine XS.icmpYes X9.here hx rfl (pc0 := 49) (pc' := 61) rfl (hb hby at_49) rfl (flt (by decide)).2.2.2 (by decide) (by decide) ?_
    show Steps p.tables e below (T9.setTop (mkF m 61 #[.val (.long q1), .second, .val (.int p2), .val (.int p3), .val (.int p4), .val (.ref w_OUT), .val (.int (1 : Int32)), .val (.ref b7), .unset, .unset, .unset, .unset] [])) _
    refine XS.iload X9.here hx rfl (hb hby at_61) rfl ?_
    show Steps p.tables e below (T9.setTop (mkF m 63 #[.val (.long q1), .second, .val (.int p2), .val (.int p3), .val (.int p4), .val (.ref w_OUT), .val (.int (1 : Int32)), .val (.ref b7), .unset, .unset, .unset, .unset] [(.int (1 : Int32))])) _
    refine XS.iconst X9.here hx rfl (hb hby at_63) ?_
    show Steps p.tables e below (T9.setTop (mkF m 64 #[.val (.long q1), .second, .val (.int p2), .val (.int p3), .val (.int p4), .val (.ref w_OUT), .val (.int (1 : Int32)), .val (.ref b7), .unset, .unset, .unset, .unset] [(.int (2 : Int32)), (.int (1 : Int32))])) _
    refine XS.icmpYes X9.here hx rfl (pc0 := 64) (pc' := 76) rfl (hb hby at_64) rfl (flt (by decide)).2.2.2 (by decide) (by decide) ?_
    show Steps p.tables e below (T9.setTop (mkF m 76 #[.val (.long q1), .second, .val (.int p2), .val (.int p3), .val (.int p4), .val (.ref w_OUT), .val (.int (1 : Int32)), .val (.ref b7), .unset, .unset, .unset, .unset] [])) _
    refine XS.iload X9.here hx rfl (hb hby at_76) rfl ?_
    show Steps p.tables e below (T9.setTop (mkF m 78 #[.val (.long q1), .second, .val (.int p2), .val (.int p3), .val (.int p4), .val (.ref w_OUT), .val (.int (1 : Int32)), .val (.ref b7), .unset, .unset, .unset, .unset] [(.int (1 : Int32))])) _
    refine XS.iconst X9.here hx rfl (hb hby at_78) ?_
    show Steps p.tables e below (T9.setTop (mkF m 79 #[.val (.long q1), .second, .val (.int p2), .val (.int p3), .val (.int p4), .val (.ref w_OUT), .val (.int (1 : Int32)), .val (.ref b7), .unset, .unset, .unset, .unset] [(.int (3 : Int32)), (.int (1 : Int32))])) _
    refine XS.icmpYes X9.here hx rfl (pc0 := 79) (pc' := 91) rfl (hb hby at_79) rfl (flt (by decide)).2.2.2 (by decide) (by decide) ?_
    show Steps p.tables e below (T9.setTop (mkF m 91 #[.val (.long q1), .second, .val (.int p2), .val (.int p3), .val (.int p4), .val (.ref w_OUT), .val (.int (1 : Int32)), .val (.ref b7), .unset, .unset, .unset, .unset] [])) _
    refine XS.lloadN X9.here hx rfl (hb hby at_91) rfl ?_
    show Steps p.tables e below (T9.setTop (mkF m 92 #[.val (.long q1), .second, .val (.int p2), .val (.int p3), .val (.int p4), .val (.ref w_OUT), .val (.int (1 : Int32)), .val (.ref b7), .unset, .unset, .unset, .unset] [(.long q1)])) _
    refine XS.aload X9.here hx rfl (hb hby at_92) rfl rfl ?_
    show Steps p.tables e below (T9.setTop (mkF m 94 #[.val (.long q1), .second, .val (.int p2), .val (.int p3), .val (.int p4), .val (.ref w_OUT), .val (.int (1 : Int32)), .val (.ref b7), .unset, .unset, .unset, .unset] [(.ref w_OUT), (.long q1)])) _
    refine XS.aload X9.here hx rfl (hb hby at_94) rfl rfl ?_
    show Steps p.tables e below (T9.setTop (mkF m 96 #[.val (.long q1), .second, .val (.int p2), .val (.int p3), .val (.int p4), .val (.ref w_OUT), .val (.int (1 : Int32)), .val (.ref b7), .unset, .unset, .unset, .unset] [(.ref b7), (.ref w_OUT), (.long q1)])) _
    refine st10.trans ?_
    show Steps p.tables e below (T10.setTop (mkF m 99 #[.val (.long q1), .second, .val (.int p2), .val (.int p3), .val (.int p4), .val (.ref w_OUT), .val (.int (1 : Int32)), .val (.ref b7), .unset, .unset, .unset, .unset] [(.ref f)])) _
    refine XS.astore X10.here hx rfl (hb hby at_99) rfl rfl (l' := #[.val (.long q1), .second, .val (.int p2), .val (.int p3), .val (.int p4), .val (.ref w_OUT), .val (.int (1 : Int32)), .val (.ref b7), .val (.ref f), .unset, .unset, .unset]) rfl ?_
    show Steps p.tables e below (T10.setTop (mkF m 101 #[.val (.long q1), .second, .val (.int p2), .val (.int p3), .val (.int p4), .val (.ref w_OUT), .val (.int (1 : Int32)), .val (.ref b7), .val (.ref f), .unset, .unset, .unset] [])) _
    refine XS.aload X10.here hx rfl (hb hby at_101) rfl rfl ?_
    show Steps p.tables e below (T10.setTop (mkF m 103 #[.val (.long q1), .second, .val (.int p2), .val (.int p3), .val (.int p4), .val (.ref w_OUT), .val (.int (1 : Int32)), .val (.ref b7), .val (.ref f), .unset, .unset, .unset] [(.ref b7)])) _
    refine st11 _ ?_
    show Steps p.tables e below (T11.setTop (mkF m 106 #[.val (.long q1), .second, .val (.int p2), .val (.int p3), .val (.int p4), .val (.ref w_OUT), .val (.int (1 : Int32)), .val (.ref b7), .val (.ref f), .unset, .unset, .unset] [])) _
    refine XS.aload X11.here hx rfl (hb hby at_106) rfl rfl ?_
    show Steps p.tables e below (T11.setTop (mkF m 108 #[.val (.long q1), .second, .val (.int p2), .val (.int p3), .val (.int p4), .val (.ref w_OUT), .val (.int (1 : Int32)), .val (.ref b7), .val (.ref f), .unset, .unset, .unset] [(.ref f)])) _
    refine st12.trans ?_
    show Steps p.tables e below (T12.setTop (mkF m 111 #[.val (.long q1), .second, .val (.int p2), .val (.int p3), .val (.int p4), .val (.ref w_OUT), .val (.int (1 : Int32)), .val (.ref b7), .val (.ref f), .unset, .unset, .unset] [(.ref o1)])) _
    refine XS.astore X12.here hx rfl (hb hby at_111) rfl rfl (l' := #[.val (.long q1), .second, .val (.int p2), .val (.int p3), .val (.int p4), .val (.ref w_OUT), .val (.int (1 : Int32)), .val (.ref b7), .val (.ref f), .val (.ref o1), .unset, .unset]) rfl ?_
    show Steps p.tables e below (T12.setTop (mkF m 113 #[.val (.long q1), .second, .val (.int p2), .val (.int p3), .val (.int p4), .val (.ref w_OUT), .val (.int (1 : Int32)), .val (.ref b7), .val (.ref f), .val (.ref o1), .unset, .unset] [])) _
    refine XS.aload X12.here hx rfl (hb hby at_113) rfl rfl ?_
    show Steps p.tables e below (T12.setTop (mkF m 115 #[.val (.long q1), .second, .val (.int p2), .val (.int p3), .val (.int p4), .val (.ref w_OUT), .val (.int (1 : Int32)), .val (.ref b7), .val (.ref f), .val (.ref o1), .unset, .unset] [(.ref o1)])) _
    refine XS.iload X12.here hx rfl (hb hby at_115) rfl ?_
    show Steps p.tables e below (T12.setTop (mkF m 117 #[.val (.long q1), .second, .val (.int p2), .val (.int p3), .val (.int p4), .val (.ref w_OUT), .val (.int (1 : Int32)), .val (.ref b7), .val (.ref f), .val (.ref o1), .unset, .unset] [(.int (1 : Int32)), (.ref o1)])) _
    refine XS.iloadN X12.here hx rfl (hb hby at_117) rfl ?_
    show Steps p.tables e below (T12.setTop (mkF m 118 #[.val (.long q1), .second, .val (.int p2), .val (.int p3), .val (.int p4), .val (.ref w_OUT), .val (.int (1 : Int32)), .val (.ref b7), .val (.ref f), .val (.ref o1), .unset, .unset] [(.int p3), (.int (1 : Int32)), (.ref o1)])) _
    refine st13 _ ?_
    show Steps p.tables e below (T13.setTop (mkF m 121 #[.val (.long q1), .second, .val (.int p2), .val (.int p3), .val (.int p4), .val (.ref w_OUT), .val (.int (1 : Int32)), .val (.ref b7), .val (.ref f), .val (.ref o1), .unset, .unset] [(.int (1 : Int32))])) _
    refine XS.istore X13.here hx rfl (hb hby at_121) rfl (l' := #[.val (.long q1), .second, .val (.int p2), .val (.int p3), .val (.int p4), .val (.ref w_OUT), .val (.int (1 : Int32)), .val (.ref b7), .val (.ref f), .val (.ref o1), .val (.int (1 : Int32)), .unset]) rfl ?_
    show Steps p.tables e below (T13.setTop (mkF m 123 #[.val (.long q1), .second, .val (.int p2), .val (.int p3), .val (.int p4), .val (.ref w_OUT), .val (.int (1 : Int32)), .val (.ref b7), .val (.ref f), .val (.ref o1), .val (.int (1 : Int32)), .unset] [])) _
    refine XS.aload X13.here hx rfl (hb hby at_123) rfl rfl ?_
    show Steps p.tables e below (T13.setTop (mkF m 125 #[.val (.long q1), .second, .val (.int p2), .val (.int p3), .val (.int p4), .val (.ref w_OUT), .val (.int (1 : Int32)), .val (.ref b7), .val (.ref f), .val (.ref o1), .val (.int (1 : Int32)), .unset] [(.ref o1)])) _
    refine st14 _ ?_
    show Steps p.tables e below (T14.setTop (mkF m 128 #[.val (.long q1), .second, .val (.int p2), .val (.int p3), .val (.int p4), .val (.ref w_OUT), .val (.int (1 : Int32)), .val (.ref b7), .val (.ref f), .val (.ref o1), .val (.int (1 : Int32)), .unset] [])) _
    refine XS.aload X14.here hx rfl (hb hby at_128) rfl rfl ?_
    show Steps p.tables e below (T14.setTop (mkF m 130 #[.val (.long q1), .second, .val (.int p2), .val (.int p3), .val (.int p4), .val (.ref w_OUT), .val (.int (1 : Int32)), .val (.ref b7), .val (.ref f), .val (.ref o1), .val (.int (1 : Int32)), .unset] [(.ref f)])) _
    refine st15.trans ?_
    show Steps p.tables e below (T15.setTop (mkF m 133 #[.val (.long q1), .second, .val (.int p2), .val (.int p3), .val (.int p4), .val (.ref w_OUT), .val (.int (1 : Int32)), .val (.ref b7), .val (.ref f), .val (.ref o1), .val (.int (1 : Int32)), .unset] [(.ref o2)])) _
    refine XS.astore X15.here hx rfl (hb hby at_133) rfl rfl (l' := #[.val (.long q1), .second, .val (.int p2), .val (.int p3), .val (.int p4), .val (.ref w_OUT), .val (.int (1 : Int32)), .val (.ref b7), .val (.ref f), .val (.ref o1), .val (.int (1 : Int32)), .val (.ref o2)]) rfl ?_
    show Steps p.tables e below (T15.setTop (mkF m 135 #[.val (.long q1), .second, .val (.int p2), .val (.int p3), .val (.int p4), .val (.ref w_OUT), .val (.int (1 : Int32)), .val (.ref b7), .val (.ref f), .val (.ref o1), .val (.int (1 : Int32)), .val (.ref o2)] [])) _
    refine XS.iload X15.here hx rfl (hb hby at_135) rfl ?_
    show Steps p.tables e below (T15.setTop (mkF m 137 #[.val (.long q1), .second, .val (.int p2), .val (.int p3), .val (.int p4), .val (.ref w_OUT), .val (.int (1 : Int32)), .val (.ref b7), .val (.ref f), .val (.ref o1), .val (.int (1 : Int32)), .val (.ref o2)] [(.int (1 : Int32))])) _
    refine XS.ifNo X15.here hx rfl (hb hby at_137) rfl ((if0 _ _).trans (feq (by decide)).1) ?_
    show Steps p.tables e below (T15.setTop (mkF m 140 #[.val (.long q1), .second, .val (.int p2), .val (.int p3), .val (.int p4), .val (.ref w_OUT), .val (.int (1 : Int32)), .val (.ref b7), .val (.ref f), .val (.ref o1), .val (.int (1 : Int32)), .val (.ref o2)] [])) _
    refine XS.aload X15.here hx rfl (hb hby at_140) rfl rfl ?_
    show Steps p.tables e below (T15.setTop (mkF m 142 #[.val (.long q1), .second, .val (.int p2), .val (.int p3), .val (.int p4), .val (.ref w_OUT), .val (.int (1 : Int32)), .val (.ref b7), .val (.ref f), .val (.ref o1), .val (.int (1 : Int32)), .val (.ref o2)] [(.ref o2)])) _
    refine XS.iload X15.here hx rfl (hb hby at_142) rfl ?_
    show Steps p.tables e below (T15.setTop (mkF m 144 #[.val (.long q1), .second, .val (.int p2), .val (.int p3), .val (.int p4), .val (.ref w_OUT), .val (.int (1 : Int32)), .val (.ref b7), .val (.ref f), .val (.ref o1), .val (.int (1 : Int32)), .val (.ref o2)] [(.int (1 : Int32)), (.ref o2)])) _
    refine XS.iloadN X15.here hx rfl (hb hby at_144) rfl ?_
    show Steps p.tables e below (T15.setTop (mkF m 145 #[.val (.long q1), .second, .val (.int p2), .val (.int p3), .val (.int p4), .val (.ref w_OUT), .val (.int (1 : Int32)), .val (.ref b7), .val (.ref f), .val (.ref o1), .val (.int (1 : Int32)), .val (.ref o2)] [(.int p3), (.int (1 : Int32)), (.ref o2)])) _
    refine st16 _ ?_
    show Steps p.tables e below (T16.setTop (mkF m 148 #[.val (.long q1), .second, .val (.int p2), .val (.int p3), .val (.int p4), .val (.ref w_OUT), .val (.int (1 : Int32)), .val (.ref b7), .val (.ref f), .val (.ref o1), .val (.int (1 : Int32)), .val (.ref o2)] [(.int (1 : Int32))])) _
    refine XS.ifNo X16.here hx rfl (hb hby at_148) rfl ((if0 _ _).trans (feq (by decide)).1) ?_
    show Steps p.tables e below (T16.setTop (mkF m 151 #[.val (.long q1), .second, .val (.int p2), .val (.int p3), .val (.int p4), .val (.ref w_OUT), .val (.int (1 : Int32)), .val (.ref b7), .val (.ref f), .val (.ref o1), .val (.int (1 : Int32)), .val (.ref o2)] [])) _
    refine XS.iconst X16.here hx rfl (hb hby at_151) ?_
    show Steps p.tables e below (T16.setTop (mkF m 152 #[.val (.long q1), .second, .val (.int p2), .val (.int p3), .val (.int p4), .val (.ref w_OUT), .val (.int (1 : Int32)), .val (.ref b7), .val (.ref f), .val (.ref o1), .val (.int (1 : Int32)), .val (.ref o2)] [(.int (1 : Int32))])) _
    refine XS.goto X16.here hx rfl (pc0 := 152) (pc' := 156) rfl (hb hby at_152) (by decide) (by decide) ?_
    show Steps p.tables e below (T16.setTop (mkF m 156 #[.val (.long q1), .second, .val (.int p2), .val (.int p3), .val (.int p4), .val (.ref w_OUT), .val (.int (1 : Int32)), .val (.ref b7), .val (.ref f), .val (.ref o1), .val (.int (1 : Int32)), .val (.ref o2)] [(.int (1 : Int32))])) _
    refine XS.istore X16.here hx rfl (hb hby at_156) rfl (l' := #[.val (.long q1), .second, .val (.int p2), .val (.int p3), .val (.int p4), .val (.ref w_OUT), .val (.int (1 : Int32)), .val (.ref b7), .val (.ref f), .val (.ref o1), .val (.int (1 : Int32)), .val (.ref o2)]) rfl ?_
    show Steps p.tables e below (T16.setTop (mkF m 158 #[.val (.long q1), .second, .val (.int p2), .val (.int p3), .val (.int p4), .val (.ref w_OUT), .val (.int (1 : Int32)), .val (.ref b7), .val (.ref f), .val (.ref o1), .val (.int (1 : Int32)), .val (.ref o2)] [])) _
    refine XS.iload X16.here hx rfl (hb hby at_158) rfl ?_
    show Steps p.tables e below (T16.setTop (mkF m 160 #[.val (.long q1), .second, .val (.int p2), .val (.int p3), .val (.int p4), .val (.ref w_OUT), .val (.int (1 : Int32)), .val (.ref b7), .val (.ref f), .val (.ref o1), .val (.int (1 : Int32)), .val (.ref o2)] [(.int (1 : Int32))])) _
    refine XS.ifNo X16.here hx rfl (hb hby at_160) rfl ((if0 _ _).trans (feq (by decide)).1) ?_
    show Steps p.tables e below (T16.setTop (mkF m 163 #[.val (.long q1), .second, .val (.int p2), .val (.int p3), .val (.int p4), .val (.ref w_OUT), .val (.int (1 : Int32)), .val (.ref b7), .val (.ref f), .val (.ref o1), .val (.int (1 : Int32)), .val (.ref o2)] [])) _
    refine XS.aload X16.here hx rfl (hb hby at_163) rfl rfl ?_
    show Steps p.tables e below (T16.setTop (mkF m 165 #[.val (.long q1), .second, .val (.int p2), .val (.int p3), .val (.int p4), .val (.ref w_OUT), .val (.int (1 : Int32)), .val (.ref b7), .val (.ref f), .val (.ref o1), .val (.int (1 : Int32)), .val (.ref o2)] [(.ref f)])) _
    refine st17.trans ?_
    show Steps p.tables e below (T17.setTop (mkF m 168 #[.val (.long q1), .second, .val (.int p2), .val (.int p3), .val (.int p4), .val (.ref w_OUT), .val (.int (1 : Int32)), .val (.ref b7), .val (.ref f), .val (.ref o1), .val (.int (1 : Int32)), .val (.ref o2)] [(.long q1)])) _
    refine XS.lloadN X17.here hx rfl (hb hby at_168) rfl ?_
    show Steps p.tables e below (T17.setTop (mkF m 169 #[.val (.long q1), .second, .val (.int p2), .val (.int p3), .val (.int p4), .val (.ref w_OUT), .val (.int (1 : Int32)), .val (.ref b7), .val (.ref f), .val (.ref o1), .val (.int (1 : Int32)), .val (.ref o2)] [(.long q1), (.long q1)])) _
    refine XS.lcmp X17.here hx rfl (hb hby at_169) rfl ?_
    show Steps p.tables e below (T17.setTop (mkF m 170 #[.val (.long q1), .second, .val (.int p2), .val (.int p3), .val (.int p4), .val (.ref w_OUT), .val (.int (1 : Int32)), .val (.ref b7), .val (.ref f), .val (.ref o1), .val (.int (1 : Int32)), .val (.ref o2)] [(.int (lcmpW q1 q1))])) _
    refine XS.ifNo X17.here hx rfl (hb hby at_170) rfl ((if0 _ _).trans (teq ((lw_eq q1 q1).mpr rfl)).2) ?_
    show Steps p.tables e below (T17.setTop (mkF m 173 #[.val (.long q1), .second, .val (.int p2), .val (.int p3), .val (.int p4), .val (.ref w_OUT), .val (.int (1 : Int32)), .val (.ref b7), .val (.ref f), .val (.ref o1), .val (.int (1 : Int32)), .val (.ref o2)] [])) _
    refine XS.iconst X17.here hx rfl (hb hby at_173) ?_
    show Steps p.tables e below (T17.setTop (mkF m 174 #[.val (.long q1), .second, .val (.int p2), .val (.int p3), .val (.int p4), .val (.ref w_OUT), .val (.int (1 : Int32)), .val (.ref b7), .val (.ref f), .val (.ref o1), .val (.int (1 : Int32)), .val (.ref o2)] [(.int (1 : Int32))])) _
    refine XS.goto X17.here hx rfl (pc0 := 174) (pc' := 178) rfl (hb hby at_174) (by decide) (by decide) ?_
    show Steps p.tables e below (T17.setTop (mkF m 178 #[.val (.long q1), .second, .val (.int p2), .val (.int p3), .val (.int p4), .val (.ref w_OUT), .val (.int (1 : Int32)), .val (.ref b7), .val (.ref f), .val (.ref o1), .val (.int (1 : Int32)), .val (.ref o2)] [(.int (1 : Int32))])) _
    refine XS.istore X17.here hx rfl (hb hby at_178) rfl (l' := #[.val (.long q1), .second, .val (.int p2), .val (.int p3), .val (.int p4), .val (.ref w_OUT), .val (.int (1 : Int32)), .val (.ref b7), .val (.ref f), .val (.ref o1), .val (.int (1 : Int32)), .val (.ref o2)]) rfl ?_
    show Steps p.tables e below (T17.setTop (mkF m 180 #[.val (.long q1), .second, .val (.int p2), .val (.int p3), .val (.int p4), .val (.ref w_OUT), .val (.int (1 : Int32)), .val (.ref b7), .val (.ref f), .val (.ref o1), .val (.int (1 : Int32)), .val (.ref o2)] [])) _
    refine XS.iload X17.here hx rfl (hb hby at_180) rfl ?_
    show Steps p.tables e below (T17.setTop (mkF m 182 #[.val (.long q1), .second, .val (.int p2), .val (.int p3), .val (.int p4), .val (.ref w_OUT), .val (.int (1 : Int32)), .val (.ref b7), .val (.ref f), .val (.ref o1), .val (.int (1 : Int32)), .val (.ref o2)] [(.int (1 : Int32))])) _
    refine XS.ifNo X17.here hx rfl (hb hby at_182) rfl ((if0 _ _).trans (feq (by decide)).1) ?_
    show Steps p.tables e below (T17.setTop (mkF m 185 #[.val (.long q1), .second, .val (.int p2), .val (.int p3), .val (.int p4), .val (.ref w_OUT), .val (.int (1 : Int32)), .val (.ref b7), .val (.ref f), .val (.ref o1), .val (.int (1 : Int32)), .val (.ref o2)] [])) _
    refine XS.aload X17.here hx rfl (hb hby at_185) rfl rfl ?_
    show Steps p.tables e below (T17.setTop (mkF m 187 #[.val (.long q1), .second, .val (.int p2), .val (.int p3), .val (.int p4), .val (.ref w_OUT), .val (.int (1 : Int32)), .val (.ref b7), .val (.ref f), .val (.ref o1), .val (.int (1 : Int32)), .val (.ref o2)] [(.ref f)])) _
    refine st18.trans ?_
    show Steps p.tables e below (T18.setTop (mkF m 190 #[.val (.long q1), .second, .val (.int p2), .val (.int p3), .val (.int p4), .val (.ref w_OUT), .val (.int (1 : Int32)), .val (.ref b7), .val (.ref f), .val (.ref o1), .val (.int (1 : Int32)), .val (.ref o2)] [(.ref w_OUT)])) _
    refine XS.aload X18.here hx rfl (hb hby at_190) rfl rfl ?_
    show Steps p.tables e below (T18.setTop (mkF m 192 #[.val (.long q1), .second, .val (.int p2), .val (.int p3), .val (.int p4), .val (.ref w_OUT), .val (.int (1 : Int32)), .val (.ref b7), .val (.ref f), .val (.ref o1), .val (.int (1 : Int32)), .val (.ref o2)] [(.ref w_OUT), (.ref w_OUT)])) _
    refine Jvm.RoadKit.acmp (g := (mkF m 192 #[.val (.long q1), .second, .val (.int p2), .val (.int p3), .val (.int p4), .val (.ref w_OUT), .val (.int (1 : Int32)), .val (.ref b7), .val (.ref f), .val (.ref o1), .val (.int (1 : Int32)), .val (.ref o2)] [(.ref w_OUT), (.ref w_OUT)])) X18 hx rfl rfl rfl (pc0 := 192) (pc' := 195) (same := true) rfl (hb hby at_192) rfl (decide_eq_true rfl) (by decide) (by decide) ?_
    show Steps p.tables e below (T18.setTop (mkF m 195 #[.val (.long q1), .second, .val (.int p2), .val (.int p3), .val (.int p4), .val (.ref w_OUT), .val (.int (1 : Int32)), .val (.ref b7), .val (.ref f), .val (.ref o1), .val (.int (1 : Int32)), .val (.ref o2)] [])) _
    refine XS.iconst X18.here hx rfl (hb hby at_195) ?_
    show Steps p.tables e below (T18.setTop (mkF m 196 #[.val (.long q1), .second, .val (.int p2), .val (.int p3), .val (.int p4), .val (.ref w_OUT), .val (.int (1 : Int32)), .val (.ref b7), .val (.ref f), .val (.ref o1), .val (.int (1 : Int32)), .val (.ref o2)] [(.int (1 : Int32))])) _
    refine XS.goto X18.here hx rfl (pc0 := 196) (pc' := 200) rfl (hb hby at_196) (by decide) (by decide) ?_
    show Steps p.tables e below (T18.setTop (mkF m 200 #[.val (.long q1), .second, .val (.int p2), .val (.int p3), .val (.int p4), .val (.ref w_OUT), .val (.int (1 : Int32)), .val (.ref b7), .val (.ref f), .val (.ref o1), .val (.int (1 : Int32)), .val (.ref o2)] [(.int (1 : Int32))])) _
    refine XS.istore X18.here hx rfl (hb hby at_200) rfl (l' := #[.val (.long q1), .second, .val (.int p2), .val (.int p3), .val (.int p4), .val (.ref w_OUT), .val (.int (1 : Int32)), .val (.ref b7), .val (.ref f), .val (.ref o1), .val (.int (1 : Int32)), .val (.ref o2)]) rfl ?_
    show Steps p.tables e below (T18.setTop (mkF m 202 #[.val (.long q1), .second, .val (.int p2), .val (.int p3), .val (.int p4), .val (.ref w_OUT), .val (.int (1 : Int32)), .val (.ref b7), .val (.ref f), .val (.ref o1), .val (.int (1 : Int32)), .val (.ref o2)] [])) _
    refine XS.iload X18.here hx rfl (hb hby at_202) rfl ?_
    show Steps p.tables e below (T18.setTop (mkF m 204 #[.val (.long q1), .second, .val (.int p2), .val (.int p3), .val (.int p4), .val (.ref w_OUT), .val (.int (1 : Int32)), .val (.ref b7), .val (.ref f), .val (.ref o1), .val (.int (1 : Int32)), .val (.ref o2)] [(.int (1 : Int32))])) _
    refine XS.ifNo X18.here hx rfl (hb hby at_204) rfl ((if0 _ _).trans (feq (by decide)).1) ?_
    show Steps p.tables e below (T18.setTop (mkF m 207 #[.val (.long q1), .second, .val (.int p2), .val (.int p3), .val (.int p4), .val (.ref w_OUT), .val (.int (1 : Int32)), .val (.ref b7), .val (.ref f), .val (.ref o1), .val (.int (1 : Int32)), .val (.ref o2)] [])) _
    refine XS.aload X18.here hx rfl (hb hby at_207) rfl rfl ?_
    show Steps p.tables e below (T18.setTop (mkF m 209 #[.val (.long q1), .second, .val (.int p2), .val (.int p3), .val (.int p4), .val (.ref w_OUT), .val (.int (1 : Int32)), .val (.ref b7), .val (.ref f), .val (.ref o1), .val (.int (1 : Int32)), .val (.ref o2)] [(.ref f)])) _
    refine st19.trans ?_
    show Steps p.tables e below (T19.setTop (mkF m 212 #[.val (.long q1), .second, .val (.int p2), .val (.int p3), .val (.int p4), .val (.ref w_OUT), .val (.int (1 : Int32)), .val (.ref b7), .val (.ref f), .val (.ref o1), .val (.int (1 : Int32)), .val (.ref o2)] [(.int (0 : Int32))])) _
    refine XS.ifNo X19.here hx rfl (hb hby at_212) rfl ((if0 _ _).trans (teq (by decide)).2) ?_
    show Steps p.tables e below (T19.setTop (mkF m 215 #[.val (.long q1), .second, .val (.int p2), .val (.int p3), .val (.int p4), .val (.ref w_OUT), .val (.int (1 : Int32)), .val (.ref b7), .val (.ref f), .val (.ref o1), .val (.int (1 : Int32)), .val (.ref o2)] [])) _
    refine XS.iconst X19.here hx rfl (hb hby at_215) ?_
    show Steps p.tables e below (T19.setTop (mkF m 216 #[.val (.long q1), .second, .val (.int p2), .val (.int p3), .val (.int p4), .val (.ref w_OUT), .val (.int (1 : Int32)), .val (.ref b7), .val (.ref f), .val (.ref o1), .val (.int (1 : Int32)), .val (.ref o2)] [(.int (1 : Int32))])) _
    refine XS.goto X19.here hx rfl (pc0 := 216) (pc' := 220) rfl (hb hby at_216) (by decide) (by decide) ?_
    show Steps p.tables e below (T19.setTop (mkF m 220 #[.val (.long q1), .second, .val (.int p2), .val (.int p3), .val (.int p4), .val (.ref w_OUT), .val (.int (1 : Int32)), .val (.ref b7), .val (.ref f), .val (.ref o1), .val (.int (1 : Int32)), .val (.ref o2)] [(.int (1 : Int32))])) _
    refine XS.istore X19.here hx rfl (hb hby at_220) rfl (l' := #[.val (.long q1), .second, .val (.int p2), .val (.int p3), .val (.int p4), .val (.ref w_OUT), .val (.int (1 : Int32)), .val (.ref b7), .val (.ref f), .val (.ref o1), .val (.int (1 : Int32)), .val (.ref o2)]) rfl ?_
    show Steps p.tables e below (T19.setTop (mkF m 222 #[.val (.long q1), .second, .val (.int p2), .val (.int p3), .val (.int p4), .val (.ref w_OUT), .val (.int (1 : Int32)), .val (.ref b7), .val (.ref f), .val (.ref o1), .val (.int (1 : Int32)), .val (.ref o2)] [])) _
    refine XS.iload X19.here hx rfl (hb hby at_222) rfl ?_
    show Steps p.tables e below (T19.setTop (mkF m 224 #[.val (.long q1), .second, .val (.int p2), .val (.int p3), .val (.int p4), .val (.ref w_OUT), .val (.int (1 : Int32)), .val (.ref b7), .val (.ref f), .val (.ref o1), .val (.int (1 : Int32)), .val (.ref o2)] [(.int (1 : Int32))])) _
    exact retN X19 hx (t := .boolean) Bd.returns (by simp) (hb hby at_224) hr
  · show Q0 Z h0 n0 _ T19.heap _
    exact ⟨rfl, N19⟩
set_option maxRecDepth 65536 in
set_option maxHeartbeats 40000000 in
theorem rm0_OUT_2 (l : Launch) (Z : State) (a0 : Array Value) (hw : ∀ d ∈ tables_1, d.before a0 Z = true) (ws : List Jvm.Cond) (q1 : Int64) (p2 : Int32) (p3 : Int32) (p4 : Int32) (w_OUT : Addr) (h0 : Heap) (n0 : Nat) (Z0 : n0 ≤ h0.size) (S_OUT : Sta Z h0 "com/example/quotewire/quotewire/wire/Frame$Direction" "OUT" "Lcom/example/quotewire/quotewire/wire/Frame$Direction;" (.ref w_OUT)) (E_OUT : Exa Z h0 w_OUT "com/example/quotewire/quotewire/wire/Frame$Direction") (hc3 : ¬ ((p2 &&& (1 : Int32)) = (0 : Int32))) (hk : ((p4 &&& (7 : Int32)) % (5 : Int32)) = (2 : Int32)) :
    MetFree l x (head1 (Jvm.Cond.code x code maxLocals ret :: ws) room_1) (fun a U => a = #[(.long q1), (.int p2), (.int p3), (.int p4)] ∧ Z.Warmed39 U.vm ∧ U.heap = h0) (fun _ _ _ _ _ => True) (fun _ U o U' => ∃ v L, o = .returned v ∧ Q0 Z h0 n0 v U'.heap L ∧ ReturnedEndW U o U' L room_1.cells room_1.slots) := by
  refine MetFree.of_bodySF (plainFor_of_name pn_0) hisR ?_
  intro p e s m args below meth c s₁ Bd hml0 hP hK
  obtain ⟨rfl, hZ, hh⟩ := hP
  have hx := Bd.exec
  have hby := Bd.bytes
  have hml : c.maxLocals = 12 := hml0
  have hown : s.vm.findClass "com/example/quotewire/quotewire/wire/FrameBinaryPinLaw" = some m.cls := findClass_of_methodNamed Bd.named
  have hnm := (name_of_methodNamed Bd.named Bd.method).1
  have X0 : Stand p l e room_1 s m #[(.long q1), (.int p2), (.int p3), (.int p4)] below meth c s₁ [] 0 0 := Stand.of_body Bd
  have e0 : s₁.heap = h0 := by rw [← hh, Bd.state]; rfl
  have N0 := Fr.nil n0
  have pre0 : ∀ t, Steps p.tables e below (s₁.setTop (mkF m 0 #[.val (.long q1), .second, .val (.int p2), .val (.int p3), .val (.int p4), .unset, .unset, .unset, .unset, .unset, .unset, .unset] [])) t → Steps p.tables e below (s₁.setTop (entryFrame m #[(.long q1), (.int p2), (.int p3), (.int p4)] maxLocals)) t := fun t k => castTop (ef_0 m q1 p2 p3 p4) k
  -- 3. LAWS
  obtain ⟨T6, X6, e6, st6⟩ := getS2 X0 hx hZ hown (host := "") (Or.inl (hw _ (List.mem_of_getElem? (i := 76) rfl))) Via.refl e0 S_OUT (g := (mkF m 6 #[.val (.long q1), .second, .val (.int p2), .val (.int p3), .val (.int p4), .unset, .unset, .unset, .unset, .unset, .unset, .unset] [])) rfl (hb hby at_6)
  obtain ⟨T7, h7, k7, X7, e7, E7, A7, B7, st7⟩ := newPE X6 hx hZ (hw _ (List.mem_of_getElem? (i := 3) rfl)) e6 (g := (mkF m 28 #[.val (.long q1), .second, .val (.int p2), .val (.int p3), .val (.int p4), .val (.ref w_OUT), .val (.int (2 : Int32)), .unset, .unset, .unset, .unset, .unset] [(.int (2 : Int32))])) rfl (hb hby at_28) rfl (by decide) (cap := 4) (by decide) (by decide) (by decide) (by decide) (ad := "[B") (by decide)
  obtain ⟨b7, g7⟩ : ∃ z, z = h0.size := ⟨_, rfl⟩      -- the fresh array's address
  rw [← g7] at A7 B7 st7
  have V0 : Arv Z h7 b7 k7 .byte (2 : Int32) [.int (0 : Int32), .int (0 : Int32)] (.int (0 : Int32)) := (Arv.new A7 (by decide)).pad (pad_rep [] (.int (0 : Int32)) 2)
  have g_b7 : n0 ≤ b7 := Nat.le_trans Z0 (Nat.le_of_eq g7.symm)
  have sz_b7 : h0.size ≤ b7 := (Nat.le_trans (Keep.refl h0 []).1 (Nat.le_of_eq g7.symm))
  have K7 : Keep h0 h7 [] := (Keep.refl h0 []).ext E7
  have Zc_0 : n0 ≤ h7.size := Nat.le_trans Z0 K7.1
  have D_0 := E_OUT.ext E7
  obtain ⟨_, _, ⟨T8, L8, k8, n8⟩, -, X8, ⟨Lc8, hQ8, l8, y8, z8⟩, st8⟩ := Jvm.LawKit.callS X7 hx (y := (⟨"com/example/quotewire/quotewire/wire/FrameBinaryPinLaw", "at", "(II)B"⟩ : MethodName)) hown (mvT hZ (hw _ (List.mem_of_getElem? (i := 73) rfl))) (mvT hZ (hw _ (List.mem_of_getElem? (i := 74) rfl))) (mvT hZ (hw _ (List.mem_of_getElem? (i := 48) rfl))) (mvT hZ (hw _ (List.mem_of_getElem? (i := 75) rfl))) (by decide) (backOf (W := 2) (rm11 l Z a0 hw [] p3 (0 : Int32) h7 n0 Zc_0) hZ (hw _ (List.mem_of_getElem? (i := 75) rfl)) (hw _ (List.mem_of_getElem? (i := 48) rfl)) (by decide) (by decide)) (g := (mkF m 42 #[.val (.long q1), .second, .val (.int p2), .val (.int p3), .val (.int p4), .val (.ref w_OUT), .val (.int (2 : Int32)), .val (.ref b7), .unset, .unset, .unset, .unset] [(.int (0 : Int32)), (.int p3), (.int (0 : Int32)), (.ref b7)])) rfl (by rw [hml]; rfl) (argsL := [(.int p3), (.int (0 : Int32))]) (rest := [(.int (0 : Int32)), (.ref b7)]) (lenOf pd_0_11 rfl) rfl (by show 2 * 0 + _ ≤ _; exact Nat.le_of_eq rfl) (hb hby at_42) (fun _ _ => ⟨rfl, e7, (by decide : 1 + 0 ≤ _), (by decide : 4 + 0 ≤ _)⟩)
  dsimp only [Pt.U, Pt.locs, Pt.cells, Pt.slots] at X8 l8 y8 z8 st8 hQ8
  subst l8 y8 z8
  obtain ⟨rfl, N8q, q8⟩ := hQ8
  have N8 := Fr.app N0 N8q
  obtain ⟨c_8, Ar_8, qa_8, S_8, N_8, H_8, G_8⟩ : Arv Z T8.heap b7 k7 .byte (2 : Int32) [.int (0 : Int32), .int (0 : Int32)] (.int (0 : Int32)) := by rw [q8]; exact V0
  have hin45 := inb_of (j := (0 : Int32)) S_8 ⟨by decide, by decide⟩
  obtain ⟨T9, h9, X9, e9, W9, st9⟩ := stB X8 hx hZ rfl Ar_8 (j := (0 : Int32)) hin45 (g := (mkF m 45 #[.val (.long q1), .second, .val (.int p2), .val (.int p3), .val (.int p4), .val (.ref w_OUT), .val (.int (2 : Int32)), .val (.ref b7), .unset, .unset, .unset, .unset] [(.int (atF p3 (0 : Int32))), (.int (0 : Int32)), (.ref b7)])) rfl rfl (hb hby at_45)
  rw [own_narAt] at W9
  have V1 : Arv Z h9 b7 k7 .byte (2 : Int32) [.int (atF p3 0), .int (0 : Int32)] (.int (0 : Int32)) := Arv.set Ar_8 qa_8 S_8 N_8 H_8 G_8 (by rw [← own_narAt]; exact fits_nar_byte _) W9 0 rfl (Nat.le_of_ble_eq_true rfl)
  have K9 : Keep h0 h9 [] := ((by rw [q8]; exact K7 : Keep h0 T8.heap [])).wr W9 (Or.inr sz_b7)
  have Zc_1 : n0 ≤ h9.size := Nat.le_trans Z0 K9.1
  have D_1 : Exa Z h9 w_OUT "com/example/quotewire/quotewire/wire/Frame$Direction" := ((by rw [q8]; exact D_0 : Exa Z T8.heap w_OUT "com/example/quotewire/quotewire/wire/Frame$Direction")).wr W9
  have BB_1 : Exa Z h9 b7 "[B" := ((by rw [q8]; exact B7 : Exa Z T8.heap b7 "[B")).wr W9
  have N9 := Fr.snoc X9 N8 g_b7
  obtain ⟨_, _, ⟨T10, L10, k10, n10⟩, -, X10, ⟨Lc10, hQ10, l10, y10, z10⟩, st10⟩ := Jvm.LawKit.callS X9 hx (y := (⟨"com/example/quotewire/quotewire/wire/FrameBinaryPinLaw", "at", "(II)B"⟩ : MethodName)) hown (mvT hZ (hw _ (List.mem_of_getElem? (i := 73) rfl))) (mvT hZ (hw _ (List.mem_of_getElem? (i := 74) rfl))) (mvT hZ (hw _ (List.mem_of_getElem? (i := 48) rfl))) (mvT hZ (hw _ (List.mem_of_getElem? (i := 75) rfl))) (by decide) (backOf (W := 2) (rm11 l Z a0 hw [] p3 (1 : Int32) h9 n0 Zc_1) hZ (hw _ (List.mem_of_getElem? (i := 75) rfl)) (hw _ (List.mem_of_getElem? (i := 48) rfl)) (by decide) (by decide)) (g := (mkF m 57 #[.val (.long q1), .second, .val (.int p2), .val (.int p3), .val (.int p4), .val (.ref w_OUT), .val (.int (2 : Int32)), .val (.ref b7), .unset, .unset, .unset, .unset] [(.int (1 : Int32)), (.int p3), (.int (1 : Int32)), (.ref b7)])) rfl (by rw [hml]; rfl) (argsL := [(.int p3), (.int (1 : Int32))]) (rest := [(.int (1 : Int32)), (.ref b7)]) (lenOf pd_0_11 rfl) rfl (by show 2 * 0 + _ ≤ _; exact Nat.le_of_eq rfl) (hb hby at_57) (fun _ _ => ⟨rfl, e9, (by decide : 1 + 0 ≤ _), (by decide : 4 + 0 ≤ _)⟩)
  dsimp only [Pt.U, Pt.locs, Pt.cells, Pt.slots] at X10 l10 y10 z10 st10 hQ10
  subst l10 y10 z10
  obtain ⟨rfl, N10q, q10⟩ := hQ10
  have N10 := Fr.app N9 N10q
  obtain ⟨c_10, Ar_10, qa_10, S_10, N_10, H_10, G_10⟩ : Arv Z T10.heap b7 k7 .byte (2 : Int32) [.int (atF p3 0), .int (0 : Int32)] (.int (0 : Int32)) := by rw [q10]; exact V1
  have hin60 := inb_of (j := (1 : Int32)) S_10 ⟨by decide, by decide⟩
  obtain ⟨T11, h11, X11, e11, W11, st11⟩ := stB X10 hx hZ rfl Ar_10 (j := (1 : Int32)) hin60 (g := (mkF m 60 #[.val (.long q1), .second, .val (.int p2), .val (.int p3), .val (.int p4), .val (.ref w_OUT), .val (.int (2 : Int32)), .val (.ref b7), .unset, .unset, .unset, .unset] [(.int (atF p3 (1 : Int32))), (.int (1 : Int32)), (.ref b7)])) rfl rfl (hb hby at_60)
  rw [own_narAt] at W11
  have V2 : Arv Z h11 b7 k7 .byte (2 : Int32) [.int (atF p3 0), .int (atF p3 1)] (.int (0 : Int32)) := Arv.set Ar_10 qa_10 S_10 N_10 H_10 G_10 (by rw [← own_narAt]; exact fits_nar_byte _) W11 1 rfl (Nat.le_of_ble_eq_true rfl)
  have K11 : Keep h0 h11 [] := ((by rw [q10]; exact K9 : Keep h0 T10.heap [])).wr W11 (Or.inr sz_b7)
  have Zc_2 : n0 ≤ h11.size := Nat.le_trans Z0 K11.1
  have D_2 : Exa Z h11 w_OUT "com/example/quotewire/quotewire/wire/Frame$Direction" := ((by rw [q10]; exact D_1 : Exa Z T10.heap w_OUT "com/example/quotewire/quotewire/wire/Frame$Direction")).wr W11
  have BB_2 : Exa Z h11 b7 "[B" := ((by rw [q10]; exact BB_1 : Exa Z T10.heap b7 "[B")).wr W11
  have N11 := Fr.snoc X11 N10 g_b7
  have D_c : Exa Z h11 w_OUT "com/example/quotewire/quotewire/wire/Frame$Direction" := D_2
  have B_c : Exa Z h11 b7 "[B" := BB_2
  obtain ⟨_, _, ⟨T12, L12, k12, n12⟩, -, X12, S12, gr12, ⟨Lc12, hQ12, l12, y12, z12⟩, st12⟩ := callSS X11 hx (y := (⟨"com/example/quotewire/quotewire/wire/Frame", "binary", "(JLcom/example/quotewire/quotewire/wire/Frame$Direction;[B)Lcom/example/quotewire/quotewire/wire/Frame;"⟩ : MethodName)) hown (mvT hZ (hw _ (List.mem_of_getElem? (i := 4) rfl))) (mvT hZ (hw _ (List.mem_of_getElem? (i := 5) rfl))) (mvT hZ (hw _ (List.mem_of_getElem? (i := 6) rfl))) (mvT hZ (hw _ (List.mem_of_getElem? (i := 7) rfl))) (by decide) (backOfS (W := 0) (rm1 l Z a0 hw [] q1 w_OUT b7 k7 (2 : Int32) [.int (atF p3 0), .int (atF p3 1)] (.int (0 : Int32)) h11 n0 Zc_2 D_c B_c V2 (by decide)) hZ (hw _ (List.mem_of_getElem? (i := 7) rfl)) (hw _ (List.mem_of_getElem? (i := 6) rfl)) (by decide) (by decide)) (g := (mkF m 96 #[.val (.long q1), .second, .val (.int p2), .val (.int p3), .val (.int p4), .val (.ref w_OUT), .val (.int (2 : Int32)), .val (.ref b7), .unset, .unset, .unset, .unset] [(.ref b7), (.ref w_OUT), (.long q1)])) rfl (by rw [hml]; rfl) (argsL := [(.long q1), (.ref w_OUT), (.ref b7)]) (rest := []) (lenOf pd_0_0 rfl) rfl (by show 2 * 0 + _ ≤ _; exact Nat.le_of_eq rfl) (hb hby at_96) (fun _ _ => ⟨rfl, e11, (by decide : 1 + 4 ≤ _), (by decide : 4 + 48 ≤ _)⟩)
  dsimp only [Pt.U, Pt.locs, Pt.cells, Pt.slots] at X12 S12 gr12 l12 y12 z12 st12 hQ12
  subst l12 y12 z12
  obtain ⟨N12q, f, fb, rfl, zf, zb, K12, Ef_12, Eb_12, Ft_12, Fd_12, Fx_12, Fb_12, Vb_12⟩ := hQ12
  have hZw : Z.Warmed39 (s.setVm T12.vm).vm := State.Warmed39.trans (t := s) hZ S12.1
  have hownw : (s.setVm T12.vm).vm.findClass "com/example/quotewire/quotewire/wire/FrameBinaryPinLaw" = some m.cls := by rw [show (s.setVm T12.vm).vm = T12.vm from rfl, S12.1.alike.findClass]; exact hown
  have Z_12 : n0 ≤ T12.heap.size := Nat.le_trans Zc_2 K12.1
  have Vs : Arv Z T12.heap b7 k7 .byte (2 : Int32) [.int (atF p3 0), .int (atF p3 1)] (.int (0 : Int32)) := V2.keep K12 (fun q => nomatch q)
  have lb : b7 < h11.size := V2.lt
  have nf : f ∉ [b7] := fun q => absurd (List.mem_singleton.mp q) (Nat.ne_of_gt (Nat.lt_of_lt_of_le lb zf))
  have nb : fb ∉ [b7] := fun q => absurd (List.mem_singleton.mp q) (Nat.ne_of_gt (Nat.lt_of_lt_of_le lb zb))
  have N12 := Fr.app N11 N12q
  obtain ⟨_, _, ⟨T13, L13, k13, n13⟩, -, X13, ⟨Lc13, hQ13, l13, y13, z13⟩, st13⟩ := Jvm.LawKit.callS X12 hx (y := (⟨"com/example/quotewire/quotewire/wire/FrameBinaryPinLaw", "flip", "([B)V"⟩ : MethodName)) hownw (mvT hZw (hw _ (List.mem_of_getElem? (i := 46) rfl))) (mvT hZw (hw _ (List.mem_of_getElem? (i := 47) rfl))) (mvT hZw (hw _ (List.mem_of_getElem? (i := 48) rfl))) (mvT hZw (hw _ (List.mem_of_getElem? (i := 49) rfl))) (by decide) (backOf (W := 0) (rm5_2 l Z a0 hw [] b7 k7 (atF p3 (0 : Int32)) (atF p3 (1 : Int32)) (.int (0 : Int32)) T12.heap n0 Z_12 Vs g_b7) hZw (hw _ (List.mem_of_getElem? (i := 49) rfl)) (hw _ (List.mem_of_getElem? (i := 48) rfl)) (by decide) (by decide)) (g := (mkF m 103 #[.val (.long q1), .second, .val (.int p2), .val (.int p3), .val (.int p4), .val (.ref w_OUT), .val (.int (2 : Int32)), .val (.ref b7), .val (.ref f), .unset, .unset, .unset] [(.ref b7)])) rfl (by rw [hml]; rfl) (argsL := [(.ref b7)]) (rest := []) (lenOf pd_0_5 rfl) rfl (by show 2 * 0 + _ ≤ _; exact Nat.le_of_eq rfl) (hb hby at_103) (fun _ _ => ⟨rfl, rfl, (by decide : 5 + 0 ≤ _), (by decide : 52 + 0 ≤ _)⟩)
  dsimp only [Pt.U, Pt.locs, Pt.cells, Pt.slots] at X13 l13 y13 z13 st13 hQ13
  subst l13 y13 z13
  obtain ⟨rfl, N13q, K13⟩ := hQ13
  have Ef_13 := Ef_12.keep K13
  have Eb_13 := Eb_12.keep K13
  have Ft_13 := Ft_12.keep K13 nf
  have Fd_13 := Fd_12.keep K13 nf
  have Fx_13 := Fx_12.keep K13 nf
  have Fb_13 := Fb_12.keep K13 nf
  have Vb_13 := Vb_12.keep K13 nb
  have Z_13 : n0 ≤ T13.heap.size := Nat.le_trans Z_12 K13.1
  have N13 := Fr.app N12 N13q
  obtain ⟨cq14, kq14, q14a, q14b, q14c⟩ := isOf hZw rfl Ef_13
  obtain ⟨_, _, ⟨T14, L14, k14, n14⟩, -, X14, ⟨Lc14, hQ14, l14, y14, z14⟩, st14⟩ := X13.virtualBack hx (y := (⟨"com/example/quotewire/quotewire/wire/Frame", "binary", "()[B"⟩ : MethodName)) (z := (⟨"com/example/quotewire/quotewire/wire/Frame", "binary", "()[B"⟩ : MethodName)) hownw (mvT hZw (hw _ (List.mem_of_getElem? (i := 50) rfl))) (mvT hZw (hw _ (List.mem_of_getElem? (i := 51) rfl))) (notFace_of_selects (args := #[]) (mvT hZw (hw _ (List.mem_of_getElem? (i := 53) rfl)))) (mvT hZw (hw _ (List.mem_of_getElem? (i := 53) rfl))) (mvT hZw (hw _ (List.mem_of_getElem? (i := 52) rfl))) (by decide) (backOf (W := 0) (rm6 l Z a0 hw [] f fb k7 (2 : Int32) [.int (atF p3 0), .int (atF p3 1)] (.int (0 : Int32)) T13.heap n0 Z_13 Fb_13 Eb_13 Vb_13 (by decide)) hZw (hw _ (List.mem_of_getElem? (i := 54) rfl)) (hw _ (List.mem_of_getElem? (i := 6) rfl)) (by decide) (by decide)) q14a q14c (g := (mkF m 108 #[.val (.long q1), .second, .val (.int p2), .val (.int p3), .val (.int p4), .val (.ref w_OUT), .val (.int (2 : Int32)), .val (.ref b7), .val (.ref f), .unset, .unset, .unset] [(.ref f)])) rfl (by rw [hml]; rfl) (Steps.refl _) (argsL := []) (rest := []) (lenOf pd_0_6 rfl) rfl (by show 2 * 0 + _ ≤ _; exact Nat.le_of_eq rfl) (hb hby at_108) (fun _ _ => ⟨rfl, rfl, (by decide : 5 + 1 ≤ _), (by decide : 52 + 4 ≤ _)⟩)
  dsimp only [Pt.U, Pt.locs, Pt.cells, Pt.slots] at X14 l14 y14 z14 st14 hQ14
  subst l14 y14 z14
  obtain ⟨N14q, o1, rfl, zo1, K14, Vo1, Eo1⟩ := hQ14
  have nf1 : f ∉ [o1] := fun q => absurd (List.mem_singleton.mp q) (Nat.ne_of_lt (Nat.lt_of_lt_of_le Ef_13.lt zo1))
  have nb1 : fb ∉ [o1] := fun q => absurd (List.mem_singleton.mp q) (Nat.ne_of_lt (Nat.lt_of_lt_of_le Eb_13.lt zo1))
  have g_o1 : n0 ≤ o1 := Nat.le_trans Z_13 zo1
  have Ef_14 := Ef_13.keep K14
  have Eb_14 := Eb_13.keep K14
  have Ft_14 := Ft_13.keep K14 (fun q => nomatch q)
  have Fd_14 := Fd_13.keep K14 (fun q => nomatch q)
  have Fx_14 := Fx_13.keep K14 (fun q => nomatch q)
  have Fb_14 := Fb_13.keep K14 (fun q => nomatch q)
  have Vb_14 := Vb_13.keep K14 (fun q => nomatch q)
  have Z_14 : n0 ≤ T14.heap.size := Nat.le_trans Z_13 K14.1
  have N14 := Fr.app N13 N14q
  obtain ⟨_, _, ⟨T15, L15, k15, n15⟩, -, X15, ⟨Lc15, hQ15, l15, y15, z15⟩, st15⟩ := Jvm.LawKit.callS X14 hx (y := (⟨"com/example/quotewire/quotewire/wire/FrameBinaryPinLaw", "same", "([BII)Z"⟩ : MethodName)) hownw (mvT hZw (hw _ (List.mem_of_getElem? (i := 55) rfl))) (mvT hZw (hw _ (List.mem_of_getElem? (i := 56) rfl))) (mvT hZw (hw _ (List.mem_of_getElem? (i := 48) rfl))) (mvT hZw (hw _ (List.mem_of_getElem? (i := 57) rfl))) (by decide) (backOf (W := 0) (rm7_2 l Z a0 hw [] o1 p3 k7 (.int (0 : Int32)) T14.heap n0 Z_14 Vo1) hZw (hw _ (List.mem_of_getElem? (i := 57) rfl)) (hw _ (List.mem_of_getElem? (i := 48) rfl)) (by decide) (by decide)) (g := (mkF m 118 #[.val (.long q1), .second, .val (.int p2), .val (.int p3), .val (.int p4), .val (.ref w_OUT), .val (.int (2 : Int32)), .val (.ref b7), .val (.ref f), .val (.ref o1), .unset, .unset] [(.int p3), (.int (2 : Int32)), (.ref o1)])) rfl (by rw [hml]; rfl) (argsL := [(.ref o1), (.int (2 : Int32)), (.int p3)]) (rest := []) (lenOf pd_0_7 rfl) rfl (by show 2 * 0 + _ ≤ _; exact Nat.le_of_eq rfl) (hb hby at_118) (fun _ _ => ⟨rfl, rfl, (by decide : 6 + 0 ≤ _), (by decide : 56 + 0 ≤ _)⟩)
  dsimp only [Pt.U, Pt.locs, Pt.cells, Pt.slots] at X15 l15 y15 z15 st15 hQ15
  subst l15 y15 z15
  obtain ⟨rfl, N15q, q15⟩ := hQ15
  have K15 : Keep T14.heap T15.heap [] := by rw [q15]; exact Keep.refl _ _
  have Vo1_ := Vo1.keep K15 (fun q => nomatch q)
  have Ef_15 := Ef_14.keep K15
  have Eb_15 := Eb_14.keep K15
  have Ft_15 := Ft_14.keep K15 (fun q => nomatch q)
  have Fd_15 := Fd_14.keep K15 (fun q => nomatch q)
  have Fx_15 := Fx_14.keep K15 (fun q => nomatch q)
  have Fb_15 := Fb_14.keep K15 (fun q => nomatch q)
  have Vb_15 := Vb_14.keep K15 (fun q => nomatch q)
  have Z_15 : n0 ≤ T15.heap.size := Nat.le_trans Z_14 K15.1
  have N15 := Fr.app N14 N15q
  obtain ⟨_, _, ⟨T16, L16, k16, n16⟩, -, X16, ⟨Lc16, hQ16, l16, y16, z16⟩, st16⟩ := Jvm.LawKit.callS X15 hx (y := (⟨"com/example/quotewire/quotewire/wire/FrameBinaryPinLaw", "flip", "([B)V"⟩ : MethodName)) hownw (mvT hZw (hw _ (List.mem_of_getElem? (i := 46) rfl))) (mvT hZw (hw _ (List.mem_of_getElem? (i := 47) rfl))) (mvT hZw (hw _ (List.mem_of_getElem? (i := 48) rfl))) (mvT hZw (hw _ (List.mem_of_getElem? (i := 49) rfl))) (by decide) (backOf (W := 0) (rm5_2 l Z a0 hw [] o1 k7 (atF p3 (0 : Int32)) (atF p3 (1 : Int32)) (.int (0 : Int32)) T15.heap n0 Z_15 Vo1_ g_o1) hZw (hw _ (List.mem_of_getElem? (i := 49) rfl)) (hw _ (List.mem_of_getElem? (i := 48) rfl)) (by decide) (by decide)) (g := (mkF m 125 #[.val (.long q1), .second, .val (.int p2), .val (.int p3), .val (.int p4), .val (.ref w_OUT), .val (.int (2 : Int32)), .val (.ref b7), .val (.ref f), .val (.ref o1), .val (.int (1 : Int32)), .unset] [(.ref o1)])) rfl (by rw [hml]; rfl) (argsL := [(.ref o1)]) (rest := []) (lenOf pd_0_5 rfl) rfl (by show 2 * 0 + _ ≤ _; exact Nat.le_of_eq rfl) (hb hby at_125) (fun _ _ => ⟨rfl, rfl, (by decide : 6 + 0 ≤ _), (by decide : 56 + 0 ≤ _)⟩)
  dsimp only [Pt.U, Pt.locs, Pt.cells, Pt.slots] at X16 l16 y16 z16 st16 hQ16
  subst l16 y16 z16
  obtain ⟨rfl, N16q, K16⟩ := hQ16
  have Ef_16 := Ef_15.keep K16
  have Eb_16 := Eb_15.keep K16
  have Ft_16 := Ft_15.keep K16 nf1
  have Fd_16 := Fd_15.keep K16 nf1
  have Fx_16 := Fx_15.keep K16 nf1
  have Fb_16 := Fb_15.keep K16 nf1
  have Vb_16 := Vb_15.keep K16 nb1
  have Z_16 : n0 ≤ T16.heap.size := Nat.le_trans Z_15 K16.1
  have N16 := Fr.app N15 N16q
  obtain ⟨cq17, kq17, q17a, q17b, q17c⟩ := isOf hZw rfl Ef_16
  obtain ⟨_, _, ⟨T17, L17, k17, n17⟩, -, X17, ⟨Lc17, hQ17, l17, y17, z17⟩, st17⟩ := X16.virtualBack hx (y := (⟨"com/example/quotewire/quotewire/wire/Frame", "binary", "()[B"⟩ : MethodName)) (z := (⟨"com/example/quotewire/quotewire/wire/Frame", "binary", "()[B"⟩ : MethodName)) hownw (mvT hZw (hw _ (List.mem_of_getElem? (i := 50) rfl))) (mvT hZw (hw _ (List.mem_of_getElem? (i := 51) rfl))) (notFace_of_selects (args := #[]) (mvT hZw (hw _ (List.mem_of_getElem? (i := 53) rfl)))) (mvT hZw (hw _ (List.mem_of_getElem? (i := 53) rfl))) (mvT hZw (hw _ (List.mem_of_getElem? (i := 52) rfl))) (by decide) (backOf (W := 0) (rm6 l Z a0 hw [] f fb k7 (2 : Int32) [.int (atF p3 0), .int (atF p3 1)] (.int (0 : Int32)) T16.heap n0 Z_16 Fb_16 Eb_16 Vb_16 (by decide)) hZw (hw _ (List.mem_of_getElem? (i := 54) rfl)) (hw _ (List.mem_of_getElem? (i := 6) rfl)) (by decide) (by decide)) q17a q17c (g := (mkF m 130 #[.val (.long q1), .second, .val (.int p2), .val (.int p3), .val (.int p4), .val (.ref w_OUT), .val (.int (2 : Int32)), .val (.ref b7), .val (.ref f), .val (.ref o1), .val (.int (1 : Int32)), .unset] [(.ref f)])) rfl (by rw [hml]; rfl) (Steps.refl _) (argsL := []) (rest := []) (lenOf pd_0_6 rfl) rfl (by show 2 * 0 + _ ≤ _; exact Nat.le_of_eq rfl) (hb hby at_130) (fun _ _ => ⟨rfl, rfl, (by decide : 6 + 1 ≤ _), (by decide : 56 + 4 ≤ _)⟩)
  dsimp only [Pt.U, Pt.locs, Pt.cells, Pt.slots] at X17 l17 y17 z17 st17 hQ17
  subst l17 y17 z17
  obtain ⟨N17q, o2, rfl, zo2, K17, Vo2, Eo2⟩ := hQ17
  have Ef_17 := Ef_16.keep K17
  have Eb_17 := Eb_16.keep K17
  have Ft_17 := Ft_16.keep K17 (fun q => nomatch q)
  have Fd_17 := Fd_16.keep K17 (fun q => nomatch q)
  have Fx_17 := Fx_16.keep K17 (fun q => nomatch q)
  have Fb_17 := Fb_16.keep K17 (fun q => nomatch q)
  have Vb_17 := Vb_16.keep K17 (fun q => nomatch q)
  have Z_17 : n0 ≤ T17.heap.size := Nat.le_trans Z_16 K17.1
  have N17 := Fr.app N16 N17q
  obtain ⟨_, _, ⟨T18, L18, k18, n18⟩, -, X18, ⟨Lc18, hQ18, l18, y18, z18⟩, st18⟩ := Jvm.LawKit.callS X17 hx (y := (⟨"com/example/quotewire/quotewire/wire/FrameBinaryPinLaw", "same", "([BII)Z"⟩ : MethodName)) hownw (mvT hZw (hw _ (List.mem_of_getElem? (i := 55) rfl))) (mvT hZw (hw _ (List.mem_of_getElem? (i := 56) rfl))) (mvT hZw (hw _ (List.mem_of_getElem? (i := 48) rfl))) (mvT hZw (hw _ (List.mem_of_getElem? (i := 57) rfl))) (by decide) (backOf (W := 0) (rm7_2 l Z a0 hw [] o2 p3 k7 (.int (0 : Int32)) T17.heap n0 Z_17 Vo2) hZw (hw _ (List.mem_of_getElem? (i := 57) rfl)) (hw _ (List.mem_of_getElem? (i := 48) rfl)) (by decide) (by decide)) (g := (mkF m 145 #[.val (.long q1), .second, .val (.int p2), .val (.int p3), .val (.int p4), .val (.ref w_OUT), .val (.int (2 : Int32)), .val (.ref b7), .val (.ref f), .val (.ref o1), .val (.int (1 : Int32)), .val (.ref o2)] [(.int p3), (.int (2 : Int32)), (.ref o2)])) rfl (by rw [hml]; rfl) (argsL := [(.ref o2), (.int (2 : Int32)), (.int p3)]) (rest := []) (lenOf pd_0_7 rfl) rfl (by show 2 * 0 + _ ≤ _; exact Nat.le_of_eq rfl) (hb hby at_145) (fun _ _ => ⟨rfl, rfl, (by decide : 7 + 0 ≤ _), (by decide : 60 + 0 ≤ _)⟩)
  dsimp only [Pt.U, Pt.locs, Pt.cells, Pt.slots] at X18 l18 y18 z18 st18 hQ18
  subst l18 y18 z18
  obtain ⟨rfl, N18q, q18⟩ := hQ18
  have K18 : Keep T17.heap T18.heap [] := by rw [q18]; exact Keep.refl _ _
  have Ef_18 := Ef_17.keep K18
  have Eb_18 := Eb_17.keep K18
  have Ft_18 := Ft_17.keep K18 (fun q => nomatch q)
  have Fd_18 := Fd_17.keep K18 (fun q => nomatch q)
  have Fx_18 := Fx_17.keep K18 (fun q => nomatch q)
  have Fb_18 := Fb_17.keep K18 (fun q => nomatch q)
  have Vb_18 := Vb_17.keep K18 (fun q => nomatch q)
  have Z_18 : n0 ≤ T18.heap.size := Nat.le_trans Z_17 K18.1
  have N18 := Fr.app N17 N18q
  obtain ⟨cq19, kq19, q19a, q19b, q19c⟩ := isOf hZw rfl Ef_18
  obtain ⟨_, _, ⟨T19, L19, k19, n19⟩, -, X19, ⟨Lc19, hQ19, l19, y19, z19⟩, st19⟩ := X18.virtualBack hx (y := (⟨"com/example/quotewire/quotewire/wire/Frame", "time", "()J"⟩ : MethodName)) (z := (⟨"com/example/quotewire/quotewire/wire/Frame", "time", "()J"⟩ : MethodName)) hownw (mvT hZw (hw _ (List.mem_of_getElem? (i := 58) rfl))) (mvT hZw (hw _ (List.mem_of_getElem? (i := 59) rfl))) (notFace_of_selects (args := #[]) (mvT hZw (hw _ (List.mem_of_getElem? (i := 61) rfl)))) (mvT hZw (hw _ (List.mem_of_getElem? (i := 61) rfl))) (mvT hZw (hw _ (List.mem_of_getElem? (i := 60) rfl))) (by decide) (backOf (W := 0) (rm8 l Z a0 hw [] f q1 T18.heap n0 Z_18 Ft_18) hZw (hw _ (List.mem_of_getElem? (i := 62) rfl)) (hw _ (List.mem_of_getElem? (i := 6) rfl)) (by decide) (by decide)) q19a q19c (g := (mkF m 165 #[.val (.long q1), .second, .val (.int p2), .val (.int p3), .val (.int p4), .val (.ref w_OUT), .val (.int (2 : Int32)), .val (.ref b7), .val (.ref f), .val (.ref o1), .val (.int (1 : Int32)), .val (.ref o2)] [(.ref f)])) rfl (by rw [hml]; rfl) (Steps.refl _) (argsL := []) (rest := []) (lenOf pd_0_8 rfl) rfl (by show 2 * 0 + _ ≤ _; exact Nat.le_of_eq rfl) (hb hby at_165) (fun _ _ => ⟨rfl, rfl, (by decide : 7 + 0 ≤ _), (by decide : 60 + 0 ≤ _)⟩)
  dsimp only [Pt.U, Pt.locs, Pt.cells, Pt.slots] at X19 l19 y19 z19 st19 hQ19
  subst l19 y19 z19
  obtain ⟨rfl, N19q, q19⟩ := hQ19
  have K19 : Keep T18.heap T19.heap [] := by rw [q19]; exact Keep.refl _ _
  have Ef_19 := Ef_18.keep K19
  have Eb_19 := Eb_18.keep K19
  have Ft_19 := Ft_18.keep K19 (fun q => nomatch q)
  have Fd_19 := Fd_18.keep K19 (fun q => nomatch q)
  have Fx_19 := Fx_18.keep K19 (fun q => nomatch q)
  have Fb_19 := Fb_18.keep K19 (fun q => nomatch q)
  have Vb_19 := Vb_18.keep K19 (fun q => nomatch q)
  have Z_19 : n0 ≤ T19.heap.size := Nat.le_trans Z_18 K19.1
  have N19 := Fr.app N18 N19q
  obtain ⟨cq20, kq20, q20a, q20b, q20c⟩ := isOf hZw rfl Ef_19
  obtain ⟨_, _, ⟨T20, L20, k20, n20⟩, -, X20, ⟨Lc20, hQ20, l20, y20, z20⟩, st20⟩ := X19.virtualBack hx (y := (⟨"com/example/quotewire/quotewire/wire/Frame", "direction", "()Lcom/example/quotewire/quotewire/wire/Frame$Direction;"⟩ : MethodName)) (z := (⟨"com/example/quotewire/quotewire/wire/Frame", "direction", "()Lcom/example/quotewire/quotewire/wire/Frame$Direction;"⟩ : MethodName)) hownw (mvT hZw (hw _ (List.mem_of_getElem? (i := 63) rfl))) (mvT hZw (hw _ (List.mem_of_getElem? (i := 64) rfl))) (notFace_of_selects (args := #[]) (mvT hZw (hw _ (List.mem_of_getElem? (i := 66) rfl)))) (mvT hZw (hw _ (List.mem_of_getElem? (i := 66) rfl))) (mvT hZw (hw _ (List.mem_of_getElem? (i := 65) rfl))) (by decide) (backOf (W := 0) (rm9 l Z a0 hw [] f w_OUT T19.heap n0 Z_19 Fd_19) hZw (hw _ (List.mem_of_getElem? (i := 67) rfl)) (hw _ (List.mem_of_getElem? (i := 6) rfl)) (by decide) (by decide)) q20a q20c (g := (mkF m 187 #[.val (.long q1), .second, .val (.int p2), .val (.int p3), .val (.int p4), .val (.ref w_OUT), .val (.int (2 : Int32)), .val (.ref b7), .val (.ref f), .val (.ref o1), .val (.int (1 : Int32)), .val (.ref o2)] [(.ref f)])) rfl (by rw [hml]; rfl) (Steps.refl _) (argsL := []) (rest := []) (lenOf pd_0_9 rfl) rfl (by show 2 * 0 + _ ≤ _; exact Nat.le_of_eq rfl) (hb hby at_187) (fun _ _ => ⟨rfl, rfl, (by decide : 7 + 0 ≤ _), (by decide : 60 + 0 ≤ _)⟩)
  dsimp only [Pt.U, Pt.locs, Pt.cells, Pt.slots] at X20 l20 y20 z20 st20 hQ20
  subst l20 y20 z20
  obtain ⟨rfl, N20q, q20⟩ := hQ20
  have K20 : Keep T19.heap T20.heap [] := by rw [q20]; exact Keep.refl _ _
  have Ef_20 := Ef_19.keep K20
  have Eb_20 := Eb_19.keep K20
  have Ft_20 := Ft_19.keep K20 (fun q => nomatch q)
  have Fd_20 := Fd_19.keep K20 (fun q => nomatch q)
  have Fx_20 := Fx_19.keep K20 (fun q => nomatch q)
  have Fb_20 := Fb_19.keep K20 (fun q => nomatch q)
  have Vb_20 := Vb_19.keep K20 (fun q => nomatch q)
  have Z_20 : n0 ≤ T20.heap.size := Nat.le_trans Z_19 K20.1
  have N20 := Fr.app N19 N20q
  obtain ⟨cq21, kq21, q21a, q21b, q21c⟩ := isOf hZw rfl Ef_20
  obtain ⟨_, _, ⟨T21, L21, k21, n21⟩, -, X21, ⟨Lc21, hQ21, l21, y21, z21⟩, st21⟩ := X20.virtualBack hx (y := (⟨"com/example/quotewire/quotewire/wire/Frame", "isText", "()Z"⟩ : MethodName)) (z := (⟨"com/example/quotewire/quotewire/wire/Frame", "isText", "()Z"⟩ : MethodName)) hownw (mvT hZw (hw _ (List.mem_of_getElem? (i := 68) rfl))) (mvT hZw (hw _ (List.mem_of_getElem? (i := 69) rfl))) (notFace_of_selects (args := #[]) (mvT hZw (hw _ (List.mem_of_getElem? (i := 71) rfl)))) (mvT hZw (hw _ (List.mem_of_getElem? (i := 71) rfl))) (mvT hZw (hw _ (List.mem_of_getElem? (i := 70) rfl))) (by decide) (backOf (W := 0) (rm10 l Z a0 hw [] f T20.heap n0 Z_20 Fx_20) hZw (hw _ (List.mem_of_getElem? (i := 72) rfl)) (hw _ (List.mem_of_getElem? (i := 6) rfl)) (by decide) (by decide)) q21a q21c (g := (mkF m 209 #[.val (.long q1), .second, .val (.int p2), .val (.int p3), .val (.int p4), .val (.ref w_OUT), .val (.int (2 : Int32)), .val (.ref b7), .val (.ref f), .val (.ref o1), .val (.int (1 : Int32)), .val (.ref o2)] [(.ref f)])) rfl (by rw [hml]; rfl) (Steps.refl _) (argsL := []) (rest := []) (lenOf pd_0_10 rfl) rfl (by show 2 * 0 + _ ≤ _; exact Nat.le_of_eq rfl) (hb hby at_209) (fun _ _ => ⟨rfl, rfl, (by decide : 7 + 0 ≤ _), (by decide : 60 + 0 ≤ _)⟩)
  dsimp only [Pt.U, Pt.locs, Pt.cells, Pt.slots] at X21 l21 y21 z21 st21 hQ21
  subst l21 y21 z21
  obtain ⟨rfl, N21q, q21⟩ := hQ21
  have K21 : Keep T20.heap T21.heap [] := by rw [q21]; exact Keep.refl _ _
  have Ef_21 := Ef_20.keep K21
  have Eb_21 := Eb_20.keep K21
  have Ft_21 := Ft_20.keep K21 (fun q => nomatch q)
  have Fd_21 := Fd_20.keep K21 (fun q => nomatch q)
  have Fx_21 := Fx_20.keep K21 (fun q => nomatch q)
  have Fb_21 := Fb_20.keep K21 (fun q => nomatch q)
  have Vb_21 := Vb_20.keep K21 (fun q => nomatch q)
  have Z_21 : n0 ≤ T21.heap.size := Nat.le_trans Z_20 K21.1
  have N21 := Fr.app N20 N21q
  have grow : T12.heap.size ≤ T21.heap.size := Nat.le_trans (Nat.le_trans (Nat.le_trans (Nat.le_trans (Nat.le_trans (Nat.le_trans (Nat.le_trans (Nat.le_trans K13.1 K14.1) K15.1) K16.1) K17.1) K18.1) K19.1) K20.1) K21.1
  obtain ⟨fs, hr, hrun, hended, hRW⟩ := X21.leaveW S12 grow (v := some (.int (1 : Int32))) (fun h => by rw [Bd.returns] at h; cases h)
  refine ⟨_, _, pre0 _ ?_, hrun, hended, _, _, rfl, ?_, hRW.1, hRW.2.1, hRW.2.2.1, hRW.2.2.2.mono (by decide) (by decide)⟩
  -- 4. STEPS
  · show Steps p.tables e below (s₁.setTop (mkF m 0 #[.val (.long q1), .second, .val (.int p2), .val (.int p3), .val (.int p4), .unset, .unset, .unset, .unset, .unset, .unset, .unset] [])) _
    refine XS.iloadN X0.here hx rfl (hb hby at_0) rfl ?_
    show Steps p.tables e below (s₁.setTop (mkF m 1 #[.val (.long q1), .second, .val (.int p2), .val (.int p3), .val (.int p4), .unset, .unset, .unset, .unset, .unset, .unset, .unset] [(.int p2)])) _
    refine XS.iconst X0.here hx rfl (hb hby at_1) ?_
    show Steps p.tables e below (s₁.setTop (mkF m 2 #[.val (.long q1), .second, .val (.int p2), .val (.int p3), .val (.int p4), .unset, .unset, .unset, .unset, .unset, .unset, .unset] [(.int (1 : Int32)), (.int p2)])) _
    refine XS.iand X0.here hx rfl (hb hby at_2) rfl ?_
    show Steps p.tables e below (s₁.setTop (mkF m 3 #[.val (.long q1), .second, .val (.int p2), .val (.int p3), .val (.int p4), .unset, .unset, .unset, .unset, .unset, .unset, .unset] [(.int (p2 &&& (1 : Int32)))])) _
    refine XS.ifNo X0.here hx rfl (hb hby at_3) rfl ((if0 _ _).trans (feq hc3).1) ?_
    show Steps p.tables e below (s₁.setTop (mkF m 6 #[.val (.long q1), .second, .val (.int p2), .val (.int p3), .val (.int p4), .unset, .unset, .unset, .unset, .unset, .unset, .unset] [])) _
    refine st6 _ ?_
    show Steps p.tables e below (T6.setTop (mkF m 9 #[.val (.long q1), .second, .val (.int p2), .val (.int p3), .val (.int p4), .unset, .unset, .unset, .unset, .unset, .unset, .unset] [(.ref w_OUT)])) _
    refine XS.goto X6.here hx rfl (pc0 := 9) (pc' := 15) rfl (hb hby at_9) (by decide) (by decide) ?_
    show Steps p.tables e below (T6.setTop (mkF m 15 #[.val (.long q1), .second, .val (.int p2), .val (.int p3), .val (.int p4), .unset, .unset, .unset, .unset, .unset, .unset, .unset] [(.ref w_OUT)])) _
    refine XS.astore X6.here hx rfl (hb hby at_15) rfl rfl (l' := #[.val (.long q1), .second, .val (.int p2), .val (.int p3), .val (.int p4), .val (.ref w_OUT), .unset, .unset, .unset, .unset, .unset, .unset]) rfl ?_
    show Steps p.tables e below (T6.setTop (mkF m 17 #[.val (.long q1), .second, .val (.int p2), .val (.int p3), .val (.int p4), .val (.ref w_OUT), .unset, .unset, .unset, .unset, .unset, .unset] [])) _
    refine XS.iload X6.here hx rfl (hb hby at_17) rfl ?_
    show Steps p.tables e below (T6.setTop (mkF m 19 #[.val (.long q1), .second, .val (.int p2), .val (.int p3), .val (.int p4), .val (.ref w_OUT), .unset, .unset, .unset, .unset, .unset, .unset] [(.int p4)])) _
    refine XS.bipush X6.here hx rfl (hb hby at_19) ?_
    show Steps p.tables e below (T6.setTop (mkF m 21 #[.val (.long q1), .second, .val (.int p2), .val (.int p3), .val (.int p4), .val (.ref w_OUT), .unset, .unset, .unset, .unset, .unset, .unset] [(.int (7 : Int32)), (.int p4)])) _
    refine XS.iand X6.here hx rfl (hb hby at_21) rfl ?_
    show Steps p.tables e below (T6.setTop (mkF m 22 #[.val (.long q1), .second, .val (.int p2), .val (.int p3), .val (.int p4), .val (.ref w_OUT), .unset, .unset, .unset, .unset, .unset, .unset] [(.int (p4 &&& (7 : Int32)))])) _
    refine XS.iconst X6.here hx rfl (hb hby at_22) ?_
    show Steps p.tables e below (T6.setTop (mkF m 23 #[.val (.long q1), .second, .val (.int p2), .val (.int p3), .val (.int p4), .val (.ref w_OUT), .unset, .unset, .unset, .unset, .unset, .unset] [(.int (5 : Int32)), (.int (p4 &&& (7 : Int32)))])) _
    refine iremM X6 hx rfl (hb hby at_23) rfl (by decide) ?_
    rw [hk]
    show Steps p.tables e below (T6.setTop (mkF m 24 #[.val (.long q1), .second, .val (.int p2), .val (.int p3), .val (.int p4), .val (.ref w_OUT), .unset, .unset, .unset, .unset, .unset, .unset] [(.int (2 : Int32))])) _
    refine XS.istore X6.here hx rfl (hb hby at_24) rfl (l' := #[.val (.long q1), .second, .val (.int p2), .val (.int p3), .val (.int p4), .val (.ref w_OUT), .val (.int (2 : Int32)), .unset, .unset, .unset, .unset, .unset]) rfl ?_
    show Steps p.tables e below (T6.setTop (mkF m 26 #[.val (.long q1), .second, .val (.int p2), .val (.int p3), .val (.int p4), .val (.ref w_OUT), .val (.int (2 : Int32)), .unset, .unset, .unset, .unset, .unset] [])) _
    refine XS.iload X6.here hx rfl (hb hby at_26) rfl ?_
    show Steps p.tables e below (T6.setTop (mkF m 28 #[.val (.long q1), .second, .val (.int p2), .val (.int p3), .val (.int p4), .val (.ref w_OUT), .val (.int (2 : Int32)), .unset, .unset, .unset, .unset, .unset] [(.int (2 : Int32))])) _
    refine st7 _ ?_
    show Steps p.tables e below (T7.setTop (mkF m 30 #[.val (.long q1), .second, .val (.int p2), .val (.int p3), .val (.int p4), .val (.ref w_OUT), .val (.int (2 : Int32)), .unset, .unset, .unset, .unset, .unset] [(.ref b7)])) _
    refine XS.astore X7.here hx rfl (hb hby at_30) rfl rfl (l' := #[.val (.long q1), .second, .val (.int p2), .val (.int p3), .val (.int p4), .val (.ref w_OUT), .val (.int (2 : Int32)), .val (.ref b7), .unset, .unset, .unset, .unset]) rfl ?_
    show Steps p.tables e below (T7.setTop (mkF m 32 #[.val (.long q1), .second, .val (.int p2), .val (.int p3), .val (.int p4), .val (.ref w_OUT), .val (.int (2 : Int32)), .val (.ref b7), .unset, .unset, .unset, .unset] [])) _
    refine XS.iload X7.here hx rfl (hb hby at_32) rfl ?_
    show Steps p.tables e below (T7.setTop (mkF m 34 #[.val (.long q1), .second, .val (.int p2), .val (.int p3), .val (.int p4), .val (.ref w_OUT), .val (.int (2 : Int32)), .val (.ref b7), .unset, .unset, .unset, .unset] [(.int (2 : Int32))])) _
    refine XS.ifNo X7.here hx rfl (hb hby at_34) rfl ((if0 _ _).trans (tlt (by decide)).2.2.2) ?_
    show Steps p.tables e below (T7.setTop (mkF m 37 #[.val (.long q1), .second, .val (.int p2), .val (.int p3), .val (.int p4), .val (.ref w_OUT), .val (.int (2 : Int32)), .val (.ref b7), .unset, .unset, .unset, .unset] [])) _
    refine XS.aload X7.here hx rfl (hb hby at_37) rfl rfl ?_
    show Steps p.tables e below (T7.setTop (mkF m 39 #[.val (.long q1), .second, .val (.int p2), .val (.int p3), .val (.int p4), .val (.ref w_OUT), .val (.int (2 : Int32)), .val (.ref b7), .unset, .unset, .unset, .unset] [(.ref b7)])) _
    refine XS.iconst X7.here hx rfl (hb hby at_39) ?_
    show Steps p.tables e below (T7.setTop (mkF m 40 #[.val (.long q1), .second, .val (.int p2), .val (.int p3), .val (.int p4), .val (.ref w_OUT), .val (.int (2 : Int32)), .val (.ref b7), .unset, .unset, .unset, .unset] [(.int (0 : Int32)), (.ref b7)])) _
    refine XS.iloadN X7.here hx rfl (hb hby at_40) rfl ?_
    show Steps p.tables e below (T7.setTop (mkF m 41 #[.val (.long q1), .second, .val (.int p2), .val (.int p3), .val (.int p4), .val (.ref w_OUT), .val (.int (2 : Int32)), .val (.ref b7), .unset, .unset, .unset, .unset] [(.int p3), (.int (0 : Int32)), (.ref b7)])) _
    refine XS.iconst X7.here hx rfl (hb hby at_41) ?_
    show Steps p.tables e below (T7.setTop (mkF m 42 #[.val (.long q1), .second, .val (.int p2), .val (.int p3), .val (.int p4), .val (.ref w_OUT), .val (.int (2 : Int32)), .val (.ref b7), .unset, .unset, .unset, .unset] [(.int (0 : Int32)), (.int p3), (.int (0 : Int32)), (.ref b7)])) _
    refine st8 _ ?_
    show Steps p.tables e below (T8.setTop (mkF m 45 #[.val (.long q1), .second, .val (.int p2), .val (.int p3), .val (.int p4), .val (.ref w_OUT), .val (.int (2 : Int32)), .val (.ref b7), .unset, .unset, .unset, .unset] [(.int (atF p3 (0 : Int32))), (.int (0 : Int32)), (.ref b7)])) _
    refine st9 _ ?_
    show Steps p.tables e below (T9.setTop (mkF m 46 #[.val (.long q1), .second, .val (.int p2), .val (.int p3), .val (.int p4), .val (.ref w_OUT), .val (.int (2 : Int32)), .val (.ref b7), .unset, .unset, .unset, .unset] [])) _
    refine XS.iload X9.here hx rfl (hb hby at_46) rfl ?_
    show Steps p.tables e below (T9.setTop (mkF m 48 #[.val (.long q1), .second, .val (.int p2), .val (.int p3), .val (.int p4), .val (.ref w_OUT), .val (.int (2 : Int32)), .val (.ref b7), .unset, .unset, .unset, .unset] [(.int (2 : Int32))])) _
    refine XS.iconst X9.here hx rfl (hb hby at_48) ?_
    show Steps p.tables e below (T9.setTop (mkF m 49 #[.val (.long q1), .second, .val (.int p2), .val (.int p3), .val (.int p4), .val (.ref w_OUT), .val (.int (2 : Int32)), .val (.ref b7), .unset, .unset, .unset, .unset] [(.int (1 : Int32)), (.int (2 : Int32))])) _
    refine XS.icmpNo X9.here hx rfl (hb hby at_49) rfl (tlt (by decide)).2.2.2 ?_
    show Steps p.tables e below (T9.setTop (mkF m 52 #[.val (.long q1), .second, .val (.int p2), .val (.int p3), .val (.int p4), .val (.ref w_OUT), .val (.int (2 : Int32)), .val (.ref b7), .unset, .unset, .unset, .unset] [])) _
    refine XS.aload X9.here hx rfl (hb hby at_52) rfl rfl ?_
    show Steps p.tables e below (T9.setTop (mkF m 54 #[.val (.long q1), .second, .val (.int p2), .val (.int p3), .val (.int p4), .val (.ref w_OUT), .val (.int (2 : Int32)), .val (.ref b7), .unset, .unset, .unset, .unset] [(.ref b7)])) _
    refine XS.iconst X9.here hx rfl (hb hby at_54) ?_
    show Steps p.tables e below (T9.setTop (mkF m 55 #[.val (.long q1), .second, .val (.int p2), .val (.int p3), .val (.int p4), .val (.ref w_OUT), .val (.int (2 : Int32)), .val (.ref b7), .unset, .unset, .unset, .unset] [(.int (1 : Int32)), (.ref b7)])) _
    refine XS.iloadN X9.here hx rfl (hb hby at_55) rfl ?_
    show Steps p.tables e below (T9.setTop (mkF m 56 #[.val (.long q1), .second, .val (.int p2), .val (.int p3), .val (.int p4), .val (.ref w_OUT), .val (.int (2 : Int32)), .val (.ref b7), .unset, .unset, .unset, .unset] [(.int p3), (.int (1 : Int32)), (.ref b7)])) _
    refine XS.iconst X9.here hx rfl (hb hby at_56) ?_
    show Steps p.tables e below (T9.setTop (mkF m 57 #[.val (.long q1), .second, .val (.int p2), .val (.int p3), .val (.int p4), .val (.ref w_OUT), .val (.int (2 : Int32)), .val (.ref b7), .unset, .unset, .unset, .unset] [(.int (1 : Int32)), (.int p3), (.int (1 : Int32)), (.ref b7)])) _
    refine st10 _ ?_
    show Steps p.tables e below (T10.setTop (mkF m 60 #[.val (.long q1), .second, .val (.int p2), .val (.int p3), .val (.int p4), .val (.ref w_OUT), .val (.int (2 : Int32)), .val (.ref b7), .unset, .unset, .unset, .unset] [(.int (atF p3 (1 : Int32))), (.int (1 : Int32)), (.ref b7)])) _
    refine st11 _ ?_
    show Steps p.tables e below (T11.setTop (mkF m 61 #[.val (.long q1), .second, .val (.int p2), .val (.int p3), .val (.int p4), .val (.ref w_OUT), .val (.int (2 : Int32)), .val (.ref b7), .unset, .unset, .unset, .unset] [])) _
    refine XS.iload X11.here hx rfl (hb hby at_61) rfl ?_
    show Steps p.tables e below (T11.setTop (mkF m 63 #[.val (.long q1), .second, .val (.int p2), .val (.int p3), .val (.int p4), .val (.ref w_OUT), .val (.int (2 : Int32)), .val (.ref b7), .unset, .unset, .unset, .unset] [(.int (2 : Int32))])) _
    refine XS.iconst X11.here hx rfl (hb hby at_63) ?_
    show Steps p.tables e below (T11.setTop (mkF m 64 #[.val (.long q1), .second, .val (.int p2), .val (.int p3), .val (.int p4), .val (.ref w_OUT), .val (.int (2 : Int32)), .val (.ref b7), .unset, .unset, .unset, .unset] [(.int (2 : Int32)), (.int (2 : Int32))])) _
    refine XS.icmpYes X11.here hx rfl (pc0 := 64) (pc' := 76) rfl (hb hby at_64) rfl (flt (by decide)).2.2.2 (by decide) (by decide) ?_
    show Steps p.tables e below (T11.setTop (mkF m 76 #[.val (.long q1), .second, .val (.int p2), .val (.int p3), .val (.int p4), .val (.ref w_OUT), .val (.int (2 : Int32)), .val (.ref b7), .unset, .unset, .unset, .unset] [])) _
    refine XS.iload X11.here hx rfl (hb hby at_76) rfl ?_
    show Steps p.tables e below (T11.setTop (mkF m 78 #[.val (.long q1), .second, .val (.int p2), .val (.int p3), .val (.int p4), .val (.ref w_OUT), .val (.int (2 : Int32)), .val (.ref b7), .unset, .unset, .unset, .unset] [(.int (2 : Int32))])) _
    refine XS.iconst X11.here hx rfl (hb hby at_78) ?_
    show Steps p.tables e below (T11.setTop (mkF m 79 #[.val (.long q1), .second, .val (.int p2), .val (.int p3), .val (.int p4), .val (.ref w_OUT), .val (.int (2 : Int32)), .val (.ref b7), .unset, .unset, .unset, .unset] [(.int (3 : Int32)), (.int (2 : Int32))])) _
    refine XS.icmpYes X11.here hx rfl (pc0 := 79) (pc' := 91) rfl (hb hby at_79) rfl (flt (by decide)).2.2.2 (by decide) (by decide) ?_
    show Steps p.tables e below (T11.setTop (mkF m 91 #[.val (.long q1), .second, .val (.int p2), .val (.int p3), .val (.int p4), .val (.ref w_OUT), .val (.int (2 : Int32)), .val (.ref b7), .unset, .unset, .unset, .unset] [])) _
    refine XS.lloadN X11.here hx rfl (hb hby at_91) rfl ?_
    show Steps p.tables e below (T11.setTop (mkF m 92 #[.val (.long q1), .second, .val (.int p2), .val (.int p3), .val (.int p4), .val (.ref w_OUT), .val (.int (2 : Int32)), .val (.ref b7), .unset, .unset, .unset, .unset] [(.long q1)])) _
    refine XS.aload X11.here hx rfl (hb hby at_92) rfl rfl ?_
    show Steps p.tables e below (T11.setTop (mkF m 94 #[.val (.long q1), .second, .val (.int p2), .val (.int p3), .val (.int p4), .val (.ref w_OUT), .val (.int (2 : Int32)), .val (.ref b7), .unset, .unset, .unset, .unset] [(.ref w_OUT), (.long q1)])) _
    refine XS.aload X11.here hx rfl (hb hby at_94) rfl rfl ?_
    show Steps p.tables e below (T11.setTop (mkF m 96 #[.val (.long q1), .second, .val (.int p2), .val (.int p3), .val (.int p4), .val (.ref w_OUT), .val (.int (2 : Int32)), .val (.ref b7), .unset, .unset, .unset, .unset] [(.ref b7), (.ref w_OUT), (.long q1)])) _
    refine st12.trans ?_
    show Steps p.tables e below (T12.setTop (mkF m 99 #[.val (.long q1), .second, .val (.int p2), .val (.int p3), .val (.int p4), .val (.ref w_OUT), .val (.int (2 : Int32)), .val (.ref b7), .unset, .unset, .unset, .unset] [(.ref f)])) _
    refine XS.astore X12.here hx rfl (hb hby at_99) rfl rfl (l' := #[.val (.long q1), .second, .val (.int p2), .val (.int p3), .val (.int p4), .val (.ref w_OUT), .val (.int (2 : Int32)), .val (.ref b7), .val (.ref f), .unset, .unset, .unset]) rfl ?_
    show Steps p.tables e below (T12.setTop (mkF m 101 #[.val (.long q1), .second, .val (.int p2), .val (.int p3), .val (.int p4), .val (.ref w_OUT), .val (.int (2 : Int32)), .val (.ref b7), .val (.ref f), .unset, .unset, .unset] [])) _
    refine XS.aload X12.here hx rfl (hb hby at_101) rfl rfl ?_
    show Steps p.tables e below (T12.setTop (mkF m 103 #[.val (.long q1), .second, .val (.int p2), .val (.int p3), .val (.int p4), .val (.ref w_OUT), .val (.int (2 : Int32)), .val (.ref b7), .val (.ref f), .unset, .unset, .unset] [(.ref b7)])) _
    refine st13 _ ?_
    show Steps p.tables e below (T13.setTop (mkF m 106 #[.val (.long q1), .second, .val (.int p2), .val (.int p3), .val (.int p4), .val (.ref w_OUT), .val (.int (2 : Int32)), .val (.ref b7), .val (.ref f), .unset, .unset, .unset] [])) _
    refine XS.aload X13.here hx rfl (hb hby at_106) rfl rfl ?_
    show Steps p.tables e below (T13.setTop (mkF m 108 #[.val (.long q1), .second, .val (.int p2), .val (.int p3), .val (.int p4), .val (.ref w_OUT), .val (.int (2 : Int32)), .val (.ref b7), .val (.ref f), .unset, .unset, .unset] [(.ref f)])) _
    refine st14.trans ?_
    show Steps p.tables e below (T14.setTop (mkF m 111 #[.val (.long q1), .second, .val (.int p2), .val (.int p3), .val (.int p4), .val (.ref w_OUT), .val (.int (2 : Int32)), .val (.ref b7), .val (.ref f), .unset, .unset, .unset] [(.ref o1)])) _
    refine XS.astore X14.here hx rfl (hb hby at_111) rfl rfl (l' := #[.val (.long q1), .second, .val (.int p2), .val (.int p3), .val (.int p4), .val (.ref w_OUT), .val (.int (2 : Int32)), .val (.ref b7), .val (.ref f), .val (.ref o1), .unset, .unset]) rfl ?_
    show Steps p.tables e below (T14.setTop (mkF m 113 #[.val (.long q1), .second, .val (.int p2), .val (.int p3), .val (.int p4), .val (.ref w_OUT), .val (.int (2 : Int32)), .val (.ref b7), .val (.ref f), .val (.ref o1), .unset, .unset] [])) _
    refine XS.aload X14.here hx rfl (hb hby at_113) rfl rfl ?_
    show Steps p.tables e below (T14.setTop (mkF m 115 #[.val (.long q1), .second, .val (.int p2), .val (.int p3), .val (.int p4), .val (.ref w_OUT), .val (.int (2 : Int32)), .val (.ref b7), .val (.ref f), .val (.ref o1), .unset, .unset] [(.ref o1)])) _
    refine XS.iload X14.here hx rfl (hb hby at_115) rfl ?_
    show Steps p.tables e below (T14.setTop (mkF m 117 #[.val (.long q1), .second, .val (.int p2), .val (.int p3), .val (.int p4), .val (.ref w_OUT), .val (.int (2 : Int32)), .val (.ref b7), .val (.ref f), .val (.ref o1), .unset, .unset] [(.int (2 : Int32)), (.ref o1)])) _
    refine XS.iloadN X14.here hx rfl (hb hby at_117) rfl ?_
    show Steps p.tables e below (T14.setTop (mkF m 118 #[.val (.long q1), .second, .val (.int p2), .val (.int p3), .val (.int p4), .val (.ref w_OUT), .val (.int (2 : Int32)), .val (.ref b7), .val (.ref f), .val (.ref o1), .unset, .unset] [(.int p3), (.int (2 : Int32)), (.ref o1)])) _
    refine st15 _ ?_
    show Steps p.tables e below (T15.setTop (mkF m 121 #[.val (.long q1), .second, .val (.int p2), .val (.int p3), .val (.int p4), .val (.ref w_OUT), .val (.int (2 : Int32)), .val (.ref b7), .val (.ref f), .val (.ref o1), .unset, .unset] [(.int (1 : Int32))])) _
    refine XS.istore X15.here hx rfl (hb hby at_121) rfl (l' := #[.val (.long q1), .second, .val (.int p2), .val (.int p3), .val (.int p4), .val (.ref w_OUT), .val (.int (2 : Int32)), .val (.ref b7), .val (.ref f), .val (.ref o1), .val (.int (1 : Int32)), .unset]) rfl ?_
    show Steps p.tables e below (T15.setTop (mkF m 123 #[.val (.long q1), .second, .val (.int p2), .val (.int p3), .val (.int p4), .val (.ref w_OUT), .val (.int (2 : Int32)), .val (.ref b7), .val (.ref f), .val (.ref o1), .val (.int (1 : Int32)), .unset] [])) _
    refine XS.aload X15.here hx rfl (hb hby at_123) rfl rfl ?_
    show Steps p.tables e below (T15.setTop (mkF m 125 #[.val (.long q1), .second, .val (.int p2), .val (.int p3), .val (.int p4), .val (.ref w_OUT), .val (.int (2 : Int32)), .val (.ref b7), .val (.ref f), .val (.ref o1), .val (.int (1 : Int32)), .unset] [(.ref o1)])) _
    refine st16 _ ?_
    show Steps p.tables e below (T16.setTop (mkF m 128 #[.val (.long q1), .second, .val (.int p2), .val (.int p3), .val (.int p4), .val (.ref w_OUT), .val (.int (2 : Int32)), .val (.ref b7), .val (.ref f), .val (.ref o1), .val (.int (1 : Int32)), .unset] [])) _
    refine XS.aload X16.here hx rfl (hb hby at_128) rfl rfl ?_
    show Steps p.tables e below (T16.setTop (mkF m 130 #[.val (.long q1), .second, .val (.int p2), .val (.int p3), .val (.int p4), .val (.ref w_OUT), .val (.int (2 : Int32)), .val (.ref b7), .val (.ref f), .val (.ref o1), .val (.int (1 : Int32)), .unset] [(.ref f)])) _
    refine st17.trans ?_
    show Steps p.tables e below (T17.setTop (mkF m 133 #[.val (.long q1), .second, .val (.int p2), .val (.int p3), .val (.int p4), .val (.ref w_OUT), .val (.int (2 : Int32)), .val (.ref b7), .val (.ref f), .val (.ref o1), .val (.int (1 : Int32)), .unset] [(.ref o2)])) _
    refine XS.astore X17.here hx rfl (hb hby at_133) rfl rfl (l' := #[.val (.long q1), .second, .val (.int p2), .val (.int p3), .val (.int p4), .val (.ref w_OUT), .val (.int (2 : Int32)), .val (.ref b7), .val (.ref f), .val (.ref o1), .val (.int (1 : Int32)), .val (.ref o2)]) rfl ?_
    show Steps p.tables e below (T17.setTop (mkF m 135 #[.val (.long q1), .second, .val (.int p2), .val (.int p3), .val (.int p4), .val (.ref w_OUT), .val (.int (2 : Int32)), .val (.ref b7), .val (.ref f), .val (.ref o1), .val (.int (1 : Int32)), .val (.ref o2)] [])) _
    refine XS.iload X17.here hx rfl (hb hby at_135) rfl ?_
    show Steps p.tables e below (T17.setTop (mkF m 137 #[.val (.long q1), .second, .val (.int p2), .val (.int p3), .val (.int p4), .val (.ref w_OUT), .val (.int (2 : Int32)), .val (.ref b7), .val (.ref f), .val (.ref o1), .val (.int (1 : Int32)), .val (.ref o2)] [(.int (1 : Int32))])) _
    refine XS.ifNo X17.here hx rfl (hb hby at_137) rfl ((if0 _ _).trans (feq (by decide)).1) ?_
    show Steps p.tables e below (T17.setTop (mkF m 140 #[.val (.long q1), .second, .val (.int p2), .val (.int p3), .val (.int p4), .val (.ref w_OUT), .val (.int (2 : Int32)), .val (.ref b7), .val (.ref f), .val (.ref o1), .val (.int (1 : Int32)), .val (.ref o2)] [])) _
    refine XS.aload X17.here hx rfl (hb hby at_140) rfl rfl ?_
    show Steps p.tables e below (T17.setTop (mkF m 142 #[.val (.long q1), .second, .val (.int p2), .val (.int p3), .val (.int p4), .val (.ref w_OUT), .val (.int (2 : Int32)), .val (.ref b7), .val (.ref f), .val (.ref o1), .val (.int (1 : Int32)), .val (.ref o2)] [(.ref o2)])) _
    refine XS.iload X17.here hx rfl (hb hby at_142) rfl ?_
    show Steps p.tables e below (T17.setTop (mkF m 144 #[.val (.long q1), .second, .val (.int p2), .val (.int p3), .val (.int p4), .val (.ref w_OUT), .val (.int (2 : Int32)), .val (.ref b7), .val (.ref f), .val (.ref o1), .val (.int (1 : Int32)), .val (.ref o2)] [(.int (2 : Int32)), (.ref o2)])) _
    refine XS.iloadN X17.here hx rfl (hb hby at_144) rfl ?_
    show Steps p.tables e below (T17.setTop (mkF m 145 #[.val (.long q1), .second, .val (.int p2), .val (.int p3), .val (.int p4), .val (.ref w_OUT), .val (.int (2 : Int32)), .val (.ref b7), .val (.ref f), .val (.ref o1), .val (.int (1 : Int32)), .val (.ref o2)] [(.int p3), (.int (2 : Int32)), (.ref o2)])) _
    refine st18 _ ?_
    show Steps p.tables e below (T18.setTop (mkF m 148 #[.val (.long q1), .second, .val (.int p2), .val (.int p3), .val (.int p4), .val (.ref w_OUT), .val (.int (2 : Int32)), .val (.ref b7), .val (.ref f), .val (.ref o1), .val (.int (1 : Int32)), .val (.ref o2)] [(.int (1 : Int32))])) _
    refine XS.ifNo X18.here hx rfl (hb hby at_148) rfl ((if0 _ _).trans (feq (by decide)).1) ?_
    show Steps p.tables e below (T18.setTop (mkF m 151 #[.val (.long q1), .second, .val (.int p2), .val (.int p3), .val (.int p4), .val (.ref w_OUT), .val (.int (2 : Int32)), .val (.ref b7), .val (.ref f), .val (.ref o1), .val (.int (1 : Int32)), .val (.ref o2)] [])) _
    refine XS.iconst X18.here hx rfl (hb hby at_151) ?_
    show Steps p.tables e below (T18.setTop (mkF m 152 #[.val (.long q1), .second, .val (.int p2), .val (.int p3), .val (.int p4), .val (.ref w_OUT), .val (.int (2 : Int32)), .val (.ref b7), .val (.ref f), .val (.ref o1), .val (.int (1 : Int32)), .val (.ref o2)] [(.int (1 : Int32))])) _
    refine XS.goto X18.here hx rfl (pc0 := 152) (pc' := 156) rfl (hb hby at_152) (by decide) (by decide) ?_
    show Steps p.tables e below (T18.setTop (mkF m 156 #[.val (.long q1), .second, .val (.int p2), .val (.int p3), .val (.int p4), .val (.ref w_OUT), .val (.int (2 : Int32)), .val (.ref b7), .val (.ref f), .val (.ref o1), .val (.int (1 : Int32)), .val (.ref o2)] [(.int (1 : Int32))])) _
    refine XS.istore X18.here hx rfl (hb hby at_156) rfl (l' := #[.val (.long q1), .second, .val (.int p2), .val (.int p3), .val (.int p4), .val (.ref w_OUT), .val (.int (2 : Int32)), .val (.ref b7), .val (.ref f), .val (.ref o1), .val (.int (1 : Int32)), .val (.ref o2)]) rfl ?_
    show Steps p.tables e below (T18.setTop (mkF m 158 #[.val (.long q1), .second, .val (.int p2), .val (.int p3), .val (.int p4), .val (.ref w_OUT), .val (.int (2 : Int32)), .val (.ref b7), .val (.ref f), .val (.ref o1), .val (.int (1 : Int32)), .val (.ref o2)] [])) _
    refine XS.iload X18.here hx rfl (hb hby at_158) rfl ?_
    show Steps p.tables e below (T18.setTop (mkF m 160 #[.val (.long q1), .second, .val (.int p2), .val (.int p3), .val (.int p4), .val (.ref w_OUT), .val (.int (2 : Int32)), .val (.ref b7), .val (.ref f), .val (.ref o1), .val (.int (1 : Int32)), .val (.ref o2)] [(.int (1 : Int32))])) _
    refine XS.ifNo X18.here hx rfl (hb hby at_160) rfl ((if0 _ _).trans (feq (by decide)).1) ?_
    show Steps p.tables e below (T18.setTop (mkF m 163 #[.val (.long q1), .second, .val (.int p2), .val (.int p3), .val (.int p4), .val (.ref w_OUT), .val (.int (2 : Int32)), .val (.ref b7), .val (.ref f), .val (.ref o1), .val (.int (1 : Int32)), .val (.ref o2)] [])) _
    refine XS.aload X18.here hx rfl (hb hby at_163) rfl rfl ?_
    show Steps p.tables e below (T18.setTop (mkF m 165 #[.val (.long q1), .second, .val (.int p2), .val (.int p3), .val (.int p4), .val (.ref w_OUT), .val (.int (2 : Int32)), .val (.ref b7), .val (.ref f), .val (.ref o1), .val (.int (1 : Int32)), .val (.ref o2)] [(.ref f)])) _
    refine st19.trans ?_
    show Steps p.tables e below (T19.setTop (mkF m 168 #[.val (.long q1), .second, .val (.int p2), .val (.int p3), .val (.int p4), .val (.ref w_OUT), .val (.int (2 : Int32)), .val (.ref b7), .val (.ref f), .val (.ref o1), .val (.int (1 : Int32)), .val (.ref o2)] [(.long q1)])) _
    refine XS.lloadN X19.here hx rfl (hb hby at_168) rfl ?_
    show Steps p.tables e below (T19.setTop (mkF m 169 #[.val (.long q1), .second, .val (.int p2), .val (.int p3), .val (.int p4), .val (.ref w_OUT), .val (.int (2 : Int32)), .val (.ref b7), .val (.ref f), .val (.ref o1), .val (.int (1 : Int32)), .val (.ref o2)] [(.long q1), (.long q1)])) _
    refine XS.lcmp X19.here hx rfl (hb hby at_169) rfl ?_
    show Steps p.tables e below (T19.setTop (mkF m 170 #[.val (.long q1), .second, .val (.int p2), .val (.int p3), .val (.int p4), .val (.ref w_OUT), .val (.int (2 : Int32)), .val (.ref b7), .val (.ref f), .val (.ref o1), .val (.int (1 : Int32)), .val (.ref o2)] [(.int (lcmpW q1 q1))])) _
    refine XS.ifNo X19.here hx rfl (hb hby at_170) rfl ((if0 _ _).trans (teq ((lw_eq q1 q1).mpr rfl)).2) ?_
    show Steps p.tables e below (T19.setTop (mkF m 173 #[.val (.long q1), .second, .val (.int p2), .val (.int p3), .val (.int p4), .val (.ref w_OUT), .val (.int (2 : Int32)), .val (.ref b7), .val (.ref f), .val (.ref o1), .val (.int (1 : Int32)), .val (.ref o2)] [])) _
    refine XS.iconst X19.here hx rfl (hb hby at_173) ?_
    show Steps p.tables e below (T19.setTop (mkF m 174 #[.val (.long q1), .second, .val (.int p2), .val (.int p3), .val (.int p4), .val (.ref w_OUT), .val (.int (2 : Int32)), .val (.ref b7), .val (.ref f), .val (.ref o1), .val (.int (1 : Int32)), .val (.ref o2)] [(.int (1 : Int32))])) _
    refine XS.goto X19.here hx rfl (pc0 := 174) (pc' := 178) rfl (hb hby at_174) (by decide) (by decide) ?_
    show Steps p.tables e below (T19.setTop (mkF m 178 #[.val (.long q1), .second, .val (.int p2), .val (.int p3), .val (.int p4), .val (.ref w_OUT), .val (.int (2 : Int32)), .val (.ref b7), .val (.ref f), .val (.ref o1), .val (.int (1 : Int32)), .val (.ref o2)] [(.int (1 : Int32))])) _
    refine XS.istore X19.here hx rfl (hb hby at_178) rfl (l' := #[.val (.long q1), .second, .val (.int p2), .val (.int p3), .val (.int p4), .val (.ref w_OUT), .val (.int (2 : Int32)), .val (.ref b7), .val (.ref f), .val (.ref o1), .val (.int (1 : Int32)), .val (.ref o2)]) rfl ?_
    show Steps p.tables e below (T19.setTop (mkF m 180 #[.val (.long q1), .second, .val (.int p2), .val (.int p3), .val (.int p4), .val (.ref w_OUT), .val (.int (2 : Int32)), .val (.ref b7), .val (.ref f), .val (.ref o1), .val (.int (1 : Int32)), .val (.ref o2)] [])) _
    refine XS.iload X19.here hx rfl (hb hby at_180) rfl ?_
    show Steps p.tables e below (T19.setTop (mkF m 182 #[.val (.long q1), .second, .val (.int p2), .val (.int p3), .val (.int p4), .val (.ref w_OUT), .val (.int (2 : Int32)), .val (.ref b7), .val (.ref f), .val (.ref o1), .val (.int (1 : Int32)), .val (.ref o2)] [(.int (1 : Int32))])) _
    refine XS.ifNo X19.here hx rfl (hb hby at_182) rfl ((if0 _ _).trans (feq (by decide)).1) ?_
    show Steps p.tables e below (T19.setTop (mkF m 185 #[.val (.long q1), .second, .val (.int p2), .val (.int p3), .val (.int p4), .val (.ref w_OUT), .val (.int (2 : Int32)), .val (.ref b7), .val (.ref f), .val (.ref o1), .val (.int (1 : Int32)), .val (.ref o2)] [])) _
    refine XS.aload X19.here hx rfl (hb hby at_185) rfl rfl ?_
    show Steps p.tables e below (T19.setTop (mkF m 187 #[.val (.long q1), .second, .val (.int p2), .val (.int p3), .val (.int p4), .val (.ref w_OUT), .val (.int (2 : Int32)), .val (.ref b7), .val (.ref f), .val (.ref o1), .val (.int (1 : Int32)), .val (.ref o2)] [(.ref f)])) _
    refine st20.trans ?_
    show Steps p.tables e below (T20.setTop (mkF m 190 #[.val (.long q1), .second, .val (.int p2), .val (.int p3), .val (.int p4), .val (.ref w_OUT), .val (.int (2 : Int32)), .val (.ref b7), .val (.ref f), .val (.ref o1), .val (.int (1 : Int32)), .val (.ref o2)] [(.ref w_OUT)])) _
    refine XS.aload X20.here hx rfl (hb hby at_190) rfl rfl ?_
    show Steps p.tables e below (T20.setTop (mkF m 192 #[.val (.long q1), .second, .val (.int p2), .val (.int p3), .val (.int p4), .val (.ref w_OUT), .val (.int (2 : Int32)), .val (.ref b7), .val (.ref f), .val (.ref o1), .val (.int (1 : Int32)), .val (.ref o2)] [(.ref w_OUT), (.ref w_OUT)])) _
    refine Jvm.RoadKit.acmp (g := (mkF m 192 #[.val (.long q1), .second, .val (.int p2), .val (.int p3), .val (.int p4), .val (.ref w_OUT), .val (.int (2 : Int32)), .val (.ref b7), .val (.ref f), .val (.ref o1), .val (.int (1 : Int32)), .val (.ref o2)] [(.ref w_OUT), (.ref w_OUT)])) X20 hx rfl rfl rfl (pc0 := 192) (pc' := 195) (same := true) rfl (hb hby at_192) rfl (decide_eq_true rfl) (by decide) (by decide) ?_
    show Steps p.tables e below (T20.setTop (mkF m 195 #[.val (.long q1), .second, .val (.int p2), .val (.int p3), .val (.int p4), .val (.ref w_OUT), .val (.int (2 : Int32)), .val (.ref b7), .val (.ref f), .val (.ref o1), .val (.int (1 : Int32)), .val (.ref o2)] [])) _
    refine XS.iconst X20.here hx rfl (hb hby at_195) ?_
    show Steps p.tables e below (T20.setTop (mkF m 196 #[.val (.long q1), .second, .val (.int p2), .val (.int p3), .val (.int p4), .val (.ref w_OUT), .val (.int (2 : Int32)), .val (.ref b7), .val (.ref f), .val (.ref o1), .val (.int (1 : Int32)), .val (.ref o2)] [(.int (1 : Int32))])) _
    refine XS.goto X20.here hx rfl (pc0 := 196) (pc' := 200) rfl (hb hby at_196) (by decide) (by decide) ?_
    show Steps p.tables e below (T20.setTop (mkF m 200 #[.val (.long q1), .second, .val (.int p2), .val (.int p3), .val (.int p4), .val (.ref w_OUT), .val (.int (2 : Int32)), .val (.ref b7), .val (.ref f), .val (.ref o1), .val (.int (1 : Int32)), .val (.ref o2)] [(.int (1 : Int32))])) _
    refine XS.istore X20.here hx rfl (hb hby at_200) rfl (l' := #[.val (.long q1), .second, .val (.int p2), .val (.int p3), .val (.int p4), .val (.ref w_OUT), .val (.int (2 : Int32)), .val (.ref b7), .val (.ref f), .val (.ref o1), .val (.int (1 : Int32)), .val (.ref o2)]) rfl ?_
    show Steps p.tables e below (T20.setTop (mkF m 202 #[.val (.long q1), .second, .val (.int p2), .val (.int p3), .val (.int p4), .val (.ref w_OUT), .val (.int (2 : Int32)), .val (.ref b7), .val (.ref f), .val (.ref o1), .val (.int (1 : Int32)), .val (.ref o2)] [])) _
    refine XS.iload X20.here hx rfl (hb hby at_202) rfl ?_
    show Steps p.tables e below (T20.setTop (mkF m 204 #[.val (.long q1), .second, .val (.int p2), .val (.int p3), .val (.int p4), .val (.ref w_OUT), .val (.int (2 : Int32)), .val (.ref b7), .val (.ref f), .val (.ref o1), .val (.int (1 : Int32)), .val (.ref o2)] [(.int (1 : Int32))])) _
    refine XS.ifNo X20.here hx rfl (hb hby at_204) rfl ((if0 _ _).trans (feq (by decide)).1) ?_
    show Steps p.tables e below (T20.setTop (mkF m 207 #[.val (.long q1), .second, .val (.int p2), .val (.int p3), .val (.int p4), .val (.ref w_OUT), .val (.int (2 : Int32)), .val (.ref b7), .val (.ref f), .val (.ref o1), .val (.int (1 : Int32)), .val (.ref o2)] [])) _
    refine XS.aload X20.here hx rfl (hb hby at_207) rfl rfl ?_
    show Steps p.tables e below (T20.setTop (mkF m 209 #[.val (.long q1), .second, .val (.int p2), .val (.int p3), .val (.int p4), .val (.ref w_OUT), .val (.int (2 : Int32)), .val (.ref b7), .val (.ref f), .val (.ref o1), .val (.int (1 : Int32)), .val (.ref o2)] [(.ref f)])) _
    refine st21.trans ?_
    show Steps p.tables e below (T21.setTop (mkF m 212 #[.val (.long q1), .second, .val (.int p2), .val (.int p3), .val (.int p4), .val (.ref w_OUT), .val (.int (2 : Int32)), .val (.ref b7), .val (.ref f), .val (.ref o1), .val (.int (1 : Int32)), .val (.ref o2)] [(.int (0 : Int32))])) _
    refine XS.ifNo X21.here hx rfl (hb hby at_212) rfl ((if0 _ _).trans (teq (by decide)).2) ?_
    show Steps p.tables e below (T21.setTop (mkF m 215 #[.val (.long q1), .second, .val (.int p2), .val (.int p3), .val (.int p4), .val (.ref w_OUT), .val (.int (2 : Int32)), .val (.ref b7), .val (.ref f), .val (.ref o1), .val (.int (1 : Int32)), .val (.ref o2)] [])) _
    refine XS.iconst X21.here hx rfl (hb hby at_215) ?_
    show Steps p.tables e below (T21.setTop (mkF m 216 #[.val (.long q1), .second, .val (.int p2), .val (.int p3), .val (.int p4), .val (.ref w_OUT), .val (.int (2 : Int32)), .val (.ref b7), .val (.ref f), .val (.ref o1), .val (.int (1 : Int32)), .val (.ref o2)] [(.int (1 : Int32))])) _
    refine XS.goto X21.here hx rfl (pc0 := 216) (pc' := 220) rfl (hb hby at_216) (by decide) (by decide) ?_
    show Steps p.tables e below (T21.setTop (mkF m 220 #[.val (.long q1), .second, .val (.int p2), .val (.int p3), .val (.int p4), .val (.ref w_OUT), .val (.int (2 : Int32)), .val (.ref b7), .val (.ref f), .val (.ref o1), .val (.int (1 : Int32)), .val (.ref o2)] [(.int (1 : Int32))])) _
    refine XS.istore X21.here hx rfl (hb hby at_220) rfl (l' := #[.val (.long q1), .second, .val (.int p2), .val (.int p3), .val (.int p4), .val (.ref w_OUT), .val (.int (2 : Int32)), .val (.ref b7), .val (.ref f), .val (.ref o1), .val (.int (1 : Int32)), .val (.ref o2)]) rfl ?_
    show Steps p.tables e below (T21.setTop (mkF m 222 #[.val (.long q1), .second, .val (.int p2), .val (.int p3), .val (.int p4), .val (.ref w_OUT), .val (.int (2 : Int32)), .val (.ref b7), .val (.ref f), .val (.ref o1), .val (.int (1 : Int32)), .val (.ref o2)] [])) _
    refine XS.iload X21.here hx rfl (hb hby at_222) rfl ?_
    show Steps p.tables e below (T21.setTop (mkF m 224 #[.val (.long q1), .second, .val (.int p2), .val (.int p3), .val (.int p4), .val (.ref w_OUT), .val (.int (2 : Int32)), .val (.ref b7), .val (.ref f), .val (.ref o1), .val (.int (1 : Int32)), .val (.ref o2)] [(.int (1 : Int32))])) _
    exact retN X21 hx (t := .boolean) Bd.returns (by simp) (hb hby at_224) hr
  · show Q0 Z h0 n0 _ T21.heap _
    exact ⟨rfl, N21⟩
set_option maxRecDepth 65536 in
set_option maxHeartbeats 40000000 in
theorem rm0_OUT_3 (l : Launch) (Z : State) (a0 : Array Value) (hw : ∀ d ∈ tables_1, d.before a0 Z = true) (ws : List Jvm.Cond) (q1 : Int64) (p2 : Int32) (p3 : Int32) (p4 : Int32) (w_OUT : Addr) (h0 : Heap) (n0 : Nat) (Z0 : n0 ≤ h0.size) (S_OUT : Sta Z h0 "com/example/quotewire/quotewire/wire/Frame$Direction" "OUT" "Lcom/example/quotewire/quotewire/wire/Frame$Direction;" (.ref w_OUT)) (E_OUT : Exa Z h0 w_OUT "com/example/quotewire/quotewire/wire/Frame$Direction") (hc3 : ¬ ((p2 &&& (1 : Int32)) = (0 : Int32))) (hk : ((p4 &&& (7 : Int32)) % (5 : Int32)) = (3 : Int32)) :
    MetFree l x (head1 (Jvm.Cond.code x code maxLocals ret :: ws) room_1) (fun a U => a = #[(.long q1), (.int p2), (.int p3), (.int p4)] ∧ Z.Warmed39 U.vm ∧ U.heap = h0) (fun _ _ _ _ _ => True) (fun _ U o U' => ∃ v L, o = .returned v ∧ Q0 Z h0 n0 v U'.heap L ∧ ReturnedEndW U o U' L room_1.cells room_1.slots) := by
  refine MetFree.of_bodySF (plainFor_of_name pn_0) hisR ?_
  intro p e s m args below meth c s₁ Bd hml0 hP hK
  obtain ⟨rfl, hZ, hh⟩ := hP
  have hx := Bd.exec
  have hby := Bd.bytes
  have hml : c.maxLocals = 12 := hml0
  have hown : s.vm.findClass "com/example/quotewire/quotewire/wire/FrameBinaryPinLaw" = some m.cls := findClass_of_methodNamed Bd.named
  have hnm := (name_of_methodNamed Bd.named Bd.method).1
  have X0 : Stand p l e room_1 s m #[(.long q1), (.int p2), (.int p3), (.int p4)] below meth c s₁ [] 0 0 := Stand.of_body Bd
  have e0 : s₁.heap = h0 := by rw [← hh, Bd.state]; rfl
  have N0 := Fr.nil n0
  have pre0 : ∀ t, Steps p.tables e below (s₁.setTop (mkF m 0 #[.val (.long q1), .second, .val (.int p2), .val (.int p3), .val (.int p4), .unset, .unset, .unset, .unset, .unset, .unset, .unset] [])) t → Steps p.tables e below (s₁.setTop (entryFrame m #[(.long q1), (.int p2), (.int p3), (.int p4)] maxLocals)) t := fun t k => castTop (ef_0 m q1 p2 p3 p4) k
  -- 3. LAWS
  obtain ⟨T6, X6, e6, st6⟩ := getS2 X0 hx hZ hown (host := "") (Or.inl (hw _ (List.mem_of_getElem? (i := 76) rfl))) Via.refl e0 S_OUT (g := (mkF m 6 #[.val (.long q1), .second, .val (.int p2), .val (.int p3), .val (.int p4), .unset, .unset, .unset, .unset, .unset, .unset, .unset] [])) rfl (hb hby at_6)
  obtain ⟨T7, h7, k7, X7, e7, E7, A7, B7, st7⟩ := newPE X6 hx hZ (hw _ (List.mem_of_getElem? (i := 3) rfl)) e6 (g := (mkF m 28 #[.val (.long q1), .second, .val (.int p2), .val (.int p3), .val (.int p4), .val (.ref w_OUT), .val (.int (3 : Int32)), .unset, .unset, .unset, .unset, .unset] [(.int (3 : Int32))])) rfl (hb hby at_28) rfl (by decide) (cap := 4) (by decide) (by decide) (by decide) (by decide) (ad := "[B") (by decide)
  obtain ⟨b7, g7⟩ : ∃ z, z = h0.size := ⟨_, rfl⟩      -- the fresh array's address
  rw [← g7] at A7 B7 st7
  have V0 : Arv Z h7 b7 k7 .byte (3 : Int32) [.int (0 : Int32), .int (0 : Int32), .int (0 : Int32)] (.int (0 : Int32)) := (Arv.new A7 (by decide)).pad (pad_rep [] (.int (0 : Int32)) 3)
  have g_b7 : n0 ≤ b7 := Nat.le_trans Z0 (Nat.le_of_eq g7.symm)
  have sz_b7 : h0.size ≤ b7 := (Nat.le_trans (Keep.refl h0 []).1 (Nat.le_of_eq g7.symm))
  have K7 : Keep h0 h7 [] := (Keep.refl h0 []).ext E7
  have Zc_0 : n0 ≤ h7.size := Nat.le_trans Z0 K7.1
  have D_0 := E_OUT.ext E7
  obtain ⟨_, _, ⟨T8, L8, k8, n8⟩, -, X8, ⟨Lc8, hQ8, l8, y8, z8⟩, st8⟩ := Jvm.LawKit.callS X7 hx (y := (⟨"com/example/quotewire/quotewire/wire/FrameBinaryPinLaw", "at", "(II)B"⟩ : MethodName)) hown (mvT hZ (hw _ (List.mem_of_getElem? (i := 73) rfl))) (mvT hZ (hw _ (List.mem_of_getElem? (i := 74) rfl))) (mvT hZ (hw _ (List.mem_of_getElem? (i := 48) rfl))) (mvT hZ (hw _ (List.mem_of_getElem? (i := 75) rfl))) (by decide) (backOf (W := 2) (rm11 l Z a0 hw [] p3 (0 : Int32) h7 n0 Zc_0) hZ (hw _ (List.mem_of_getElem? (i := 75) rfl)) (hw _ (List.mem_of_getElem? (i := 48) rfl)) (by decide) (by decide)) (g := (mkF m 42 #[.val (.long q1), .second, .val (.int p2), .val (.int p3), .val (.int p4), .val (.ref w_OUT), .val (.int (3 : Int32)), .val (.ref b7), .unset, .unset, .unset, .unset] [(.int (0 : Int32)), (.int p3), (.int (0 : Int32)), (.ref b7)])) rfl (by rw [hml]; rfl) (argsL := [(.int p3), (.int (0 : Int32))]) (rest := [(.int (0 : Int32)), (.ref b7)]) (lenOf pd_0_11 rfl) rfl (by show 2 * 0 + _ ≤ _; exact Nat.le_of_eq rfl) (hb hby at_42) (fun _ _ => ⟨rfl, e7, (by decide : 1 + 0 ≤ _), (by decide : 4 + 0 ≤ _)⟩)
  dsimp only [Pt.U, Pt.locs, Pt.cells, Pt.slots] at X8 l8 y8 z8 st8 hQ8
  subst l8 y8 z8
  obtain ⟨rfl, N8q, q8⟩ := hQ8
  have N8 := Fr.app N0 N8q
  obtain ⟨c_8, Ar_8, qa_8, S_8, N_8, H_8, G_8⟩ : Arv Z T8.heap b7 k7 .byte (3 : Int32) [.int (0 : Int32), .int (0 : Int32), .int (0 : Int32)] (.int (0 : Int32)) := by rw [q8]; exact V0
  have hin45 := inb_of (j := (0 : Int32)) S_8 ⟨by decide, by decide⟩
  obtain ⟨T9, h9, X9, e9, W9, st9⟩ := stB X8 hx hZ rfl Ar_8 (j := (0 : Int32)) hin45 (g := (mkF m 45 #[.val (.long q1), .second, .val (.int p2), .val (.int p3), .val (.int p4), .val (.ref w_OUT), .val (.int (3 : Int32)), .val (.ref b7), .unset, .unset, .unset, .unset] [(.int (atF p3 (0 : Int32))), (.int (0 : Int32)), (.ref b7)])) rfl rfl (hb hby at_45)
  rw [own_narAt] at W9
  have V1 : Arv Z h9 b7 k7 .byte (3 : Int32) [.int (atF p3 0), .int (0 : Int32), .int (0 : Int32)] (.int (0 : Int32)) := Arv.set Ar_8 qa_8 S_8 N_8 H_8 G_8 (by rw [← own_narAt]; exact fits_nar_byte _) W9 0 rfl (Nat.le_of_ble_eq_true rfl)
  have K9 : Keep h0 h9 [] := ((by rw [q8]; exact K7 : Keep h0 T8.heap [])).wr W9 (Or.inr sz_b7)
  have Zc_1 : n0 ≤ h9.size := Nat.le_trans Z0 K9.1
  have D_1 : Exa Z h9 w_OUT "com/example/quotewire/quotewire/wire/Frame$Direction" := ((by rw [q8]; exact D_0 : Exa Z T8.heap w_OUT "com/example/quotewire/quotewire/wire/Frame$Direction")).wr W9
  have BB_1 : Exa Z h9 b7 "[B" := ((by rw [q8]; exact B7 : Exa Z T8.heap b7 "[B")).wr W9
  have N9 := Fr.snoc X9 N8 g_b7
  obtain ⟨_, _, ⟨T10, L10, k10, n10⟩, -, X10, ⟨Lc10, hQ10, l10, y10, z10⟩, st10⟩ := Jvm.LawKit.callS X9 hx (y := (⟨"com/example/quotewire/quotewire/wire/FrameBinaryPinLaw", "at", "(II)B"⟩ : MethodName)) hown (mvT hZ (hw _ (List.mem_of_getElem? (i := 73) rfl))) (mvT hZ (hw _ (List.mem_of_getElem? (i := 74) rfl))) (mvT hZ (hw _ (List.mem_of_getElem? (i := 48) rfl))) (mvT hZ (hw _ (List.mem_of_getElem? (i := 75) rfl))) (by decide) (backOf (W := 2) (rm11 l Z a0 hw [] p3 (1 : Int32) h9 n0 Zc_1) hZ (hw _ (List.mem_of_getElem? (i := 75) rfl)) (hw _ (List.mem_of_getElem? (i := 48) rfl)) (by decide) (by decide)) (g := (mkF m 57 #[.val (.long q1), .second, .val (.int p2), .val (.int p3), .val (.int p4), .val (.ref w_OUT), .val (.int (3 : Int32)), .val (.ref b7), .unset, .unset, .unset, .unset] [(.int (1 : Int32)), (.int p3), (.int (1 : Int32)), (.ref b7)])) rfl (by rw [hml]; rfl) (argsL := [(.int p3), (.int (1 : Int32))]) (rest := [(.int (1 : Int32)), (.ref b7)]) (lenOf pd_0_11 rfl) rfl (by show 2 * 0 + _ ≤ _; exact Nat.le_of_eq rfl) (hb hby at_57) (fun _ _ => ⟨rfl, e9, (by decide : 1 + 0 ≤ _), (by decide : 4 + 0 ≤ _)⟩)
  dsimp only [Pt.U, Pt.locs, Pt.cells, Pt.slots] at X10 l10 y10 z10 st10 hQ10
  subst l10 y10 z10
  obtain ⟨rfl, N10q, q10⟩ := hQ10
  have N10 := Fr.app N9 N10q
  obtain ⟨c_10, Ar_10, qa_10, S_10, N_10, H_10, G_10⟩ : Arv Z T10.heap b7 k7 .byte (3 : Int32) [.int (atF p3 0), .int (0 : Int32), .int (0 : Int32)] (.int (0 : Int32)) := by rw [q10]; exact V1
  have hin60 := inb_of (j := (1 : Int32)) S_10 ⟨by decide, by decide⟩
  obtain ⟨T11, h11, X11, e11, W11, st11⟩ := stB X10 hx hZ rfl Ar_10 (j := (1 : Int32)) hin60 (g := (mkF m 60 #[.val (.long q1), .second, .val (.int p2), .val (.int p3), .val (.int p4), .val (.ref w_OUT), .val (.int (3 : Int32)), .val (.ref b7), .unset, .unset, .unset, .unset] [(.int (atF p3 (1 : Int32))), (.int (1 : Int32)), (.ref b7)])) rfl rfl (hb hby at_60)
  rw [own_narAt] at W11
  have V2 : Arv Z h11 b7 k7 .byte (3 : Int32) [.int (atF p3 0), .int (atF p3 1), .int (0 : Int32)] (.int (0 : Int32)) := Arv.set Ar_10 qa_10 S_10 N_10 H_10 G_10 (by rw [← own_narAt]; exact fits_nar_byte _) W11 1 rfl (Nat.le_of_ble_eq_true rfl)
  have K11 : Keep h0 h11 [] := ((by rw [q10]; exact K9 : Keep h0 T10.heap [])).wr W11 (Or.inr sz_b7)
  have Zc_2 : n0 ≤ h11.size := Nat.le_trans Z0 K11.1
  have D_2 : Exa Z h11 w_OUT "com/example/quotewire/quotewire/wire/Frame$Direction" := ((by rw [q10]; exact D_1 : Exa Z T10.heap w_OUT "com/example/quotewire/quotewire/wire/Frame$Direction")).wr W11
  have BB_2 : Exa Z h11 b7 "[B" := ((by rw [q10]; exact BB_1 : Exa Z T10.heap b7 "[B")).wr W11
  have N11 := Fr.snoc X11 N10 g_b7
  obtain ⟨_, _, ⟨T12, L12, k12, n12⟩, -, X12, ⟨Lc12, hQ12, l12, y12, z12⟩, st12⟩ := Jvm.LawKit.callS X11 hx (y := (⟨"com/example/quotewire/quotewire/wire/FrameBinaryPinLaw", "at", "(II)B"⟩ : MethodName)) hown (mvT hZ (hw _ (List.mem_of_getElem? (i := 73) rfl))) (mvT hZ (hw _ (List.mem_of_getElem? (i := 74) rfl))) (mvT hZ (hw _ (List.mem_of_getElem? (i := 48) rfl))) (mvT hZ (hw _ (List.mem_of_getElem? (i := 75) rfl))) (by decide) (backOf (W := 2) (rm11 l Z a0 hw [] p3 (2 : Int32) h11 n0 Zc_2) hZ (hw _ (List.mem_of_getElem? (i := 75) rfl)) (hw _ (List.mem_of_getElem? (i := 48) rfl)) (by decide) (by decide)) (g := (mkF m 72 #[.val (.long q1), .second, .val (.int p2), .val (.int p3), .val (.int p4), .val (.ref w_OUT), .val (.int (3 : Int32)), .val (.ref b7), .unset, .unset, .unset, .unset] [(.int (2 : Int32)), (.int p3), (.int (2 : Int32)), (.ref b7)])) rfl (by rw [hml]; rfl) (argsL := [(.int p3), (.int (2 : Int32))]) (rest := [(.int (2 : Int32)), (.ref b7)]) (lenOf pd_0_11 rfl) rfl (by show 2 * 0 + _ ≤ _; exact Nat.le_of_eq rfl) (hb hby at_72) (fun _ _ => ⟨rfl, e11, (by decide : 1 + 0 ≤ _), (by decide : 4 + 0 ≤ _)⟩)
  dsimp only [Pt.U, Pt.locs, Pt.cells, Pt.slots] at X12 l12 y12 z12 st12 hQ12
  subst l12 y12 z12
  obtain ⟨rfl, N12q, q12⟩ := hQ12
  have N12 := Fr.app N11 N12q
  obtain ⟨c_12, Ar_12, qa_12, S_12, N_12, H_12, G_12⟩ : Arv Z T12.heap b7 k7 .byte (3 : Int32) [.int (atF p3 0), .int (atF p3 1), .int (0 : Int32)] (.int (0 : Int32)) := by rw [q12]; exact V2
  have hin75 := inb_of (j := (2 : Int32)) S_12 ⟨by decide, by decide⟩
  obtain ⟨T13, h13, X13, e13, W13, st13⟩ := stB X12 hx hZ rfl Ar_12 (j := (2 : Int32)) hin75 (g := (mkF m 75 #[.val (.long q1), .second, .val (.int p2), .val (.int p3), .val (.int p4), .val (.ref w_OUT), .val (.int (3 : Int32)), .val (.ref b7), .unset, .unset, .unset, .unset] [(.int (atF p3 (2 : Int32))), (.int (2 : Int32)), (.ref b7)])) rfl rfl (hb hby at_75)
  rw [own_narAt] at W13
  have V3 : Arv Z h13 b7 k7 .byte (3 : Int32) [.int (atF p3 0), .int (atF p3 1), .int (atF p3 2)] (.int (0 : Int32)) := Arv.set Ar_12 qa_12 S_12 N_12 H_12 G_12 (by rw [← own_narAt]; exact fits_nar_byte _) W13 2 rfl (Nat.le_of_ble_eq_true rfl)
  have K13 : Keep h0 h13 [] := ((by rw [q12]; exact K11 : Keep h0 T12.heap [])).wr W13 (Or.inr sz_b7)
  have Zc_3 : n0 ≤ h13.size := Nat.le_trans Z0 K13.1
  have D_3 : Exa Z h13 w_OUT "com/example/quotewire/quotewire/wire/Frame$Direction" := ((by rw [q12]; exact D_2 : Exa Z T12.heap w_OUT "com/example/quotewire/quotewire/wire/Frame$Direction")).wr W13
  have BB_3 : Exa Z h13 b7 "[B" := ((by rw [q12]; exact BB_2 : Exa Z T12.heap b7 "[B")).wr W13
  have N13 := Fr.snoc X13 N12 g_b7
  have D_c : Exa Z h13 w_OUT "com/example/quotewire/quotewire/wire/Frame$Direction" := D_3
  have B_c : Exa Z h13 b7 "[B" := BB_3
  obtain ⟨_, _, ⟨T14, L14, k14, n14⟩, -, X14, S14, gr14, ⟨Lc14, hQ14, l14, y14, z14⟩, st14⟩ := callSS X13 hx (y := (⟨"com/example/quotewire/quotewire/wire/Frame", "binary", "(JLcom/example/quotewire/quotewire/wire/Frame$Direction;[B)Lcom/example/quotewire/quotewire/wire/Frame;"⟩ : MethodName)) hown (mvT hZ (hw _ (List.mem_of_getElem? (i := 4) rfl))) (mvT hZ (hw _ (List.mem_of_getElem? (i := 5) rfl))) (mvT hZ (hw _ (List.mem_of_getElem? (i := 6) rfl))) (mvT hZ (hw _ (List.mem_of_getElem? (i := 7) rfl))) (by decide) (backOfS (W := 0) (rm1 l Z a0 hw [] q1 w_OUT b7 k7 (3 : Int32) [.int (atF p3 0), .int (atF p3 1), .int (atF p3 2)] (.int (0 : Int32)) h13 n0 Zc_3 D_c B_c V3 (by decide)) hZ (hw _ (List.mem_of_getElem? (i := 7) rfl)) (hw _ (List.mem_of_getElem? (i := 6) rfl)) (by decide) (by decide)) (g := (mkF m 96 #[.val (.long q1), .second, .val (.int p2), .val (.int p3), .val (.int p4), .val (.ref w_OUT), .val (.int (3 : Int32)), .val (.ref b7), .unset, .unset, .unset, .unset] [(.ref b7), (.ref w_OUT), (.long q1)])) rfl (by rw [hml]; rfl) (argsL := [(.long q1), (.ref w_OUT), (.ref b7)]) (rest := []) (lenOf pd_0_0 rfl) rfl (by show 2 * 0 + _ ≤ _; exact Nat.le_of_eq rfl) (hb hby at_96) (fun _ _ => ⟨rfl, e13, (by decide : 1 + 4 ≤ _), (by decide : 4 + 48 ≤ _)⟩)
  dsimp only [Pt.U, Pt.locs, Pt.cells, Pt.slots] at X14 S14 gr14 l14 y14 z14 st14 hQ14
  subst l14 y14 z14
  obtain ⟨N14q, f, fb, rfl, zf, zb, K14, Ef_14, Eb_14, Ft_14, Fd_14, Fx_14, Fb_14, Vb_14⟩ := hQ14
  have hZw : Z.Warmed39 (s.setVm T14.vm).vm := State.Warmed39.trans (t := s) hZ S14.1
  have hownw : (s.setVm T14.vm).vm.findClass "com/example/quotewire/quotewire/wire/FrameBinaryPinLaw" = some m.cls := by rw [show (s.setVm T14.vm).vm = T14.vm from rfl, S14.1.alike.findClass]; exact hown
  have Z_14 : n0 ≤ T14.heap.size := Nat.le_trans Zc_3 K14.1
  have Vs : Arv Z T14.heap b7 k7 .byte (3 : Int32) [.int (atF p3 0), .int (atF p3 1), .int (atF p3 2)] (.int (0 : Int32)) := V3.keep K14 (fun q => nomatch q)
  have lb : b7 < h13.size := V3.lt
  have nf : f ∉ [b7] := fun q => absurd (List.mem_singleton.mp q) (Nat.ne_of_gt (Nat.lt_of_lt_of_le lb zf))
  have nb : fb ∉ [b7] := fun q => absurd (List.mem_singleton.mp q) (Nat.ne_of_gt (Nat.lt_of_lt_of_le lb zb))
  have N14 := Fr.app N13 N14q
  obtain ⟨_, _, ⟨T15, L15, k15, n15⟩, -, X15, ⟨Lc15, hQ15, l15, y15, z15⟩, st15⟩ := Jvm.LawKit.callS X14 hx (y := (⟨"com/example/quotewire/quotewire/wire/FrameBinaryPinLaw", "flip", "([B)V"⟩ : MethodName)) hownw (mvT hZw (hw _ (List.mem_of_getElem? (i := 46) rfl))) (mvT hZw (hw _ (List.mem_of_getElem? (i := 47) rfl))) (mvT hZw (hw _ (List.mem_of_getElem? (i := 48) rfl))) (mvT hZw (hw _ (List.mem_of_getElem? (i := 49) rfl))) (by decide) (backOf (W := 0) (rm5_3 l Z a0 hw [] b7 k7 (atF p3 (0 : Int32)) (atF p3 (1 : Int32)) (atF p3 (2 : Int32)) (.int (0 : Int32)) T14.heap n0 Z_14 Vs g_b7) hZw (hw _ (List.mem_of_getElem? (i := 49) rfl)) (hw _ (List.mem_of_getElem? (i := 48) rfl)) (by decide) (by decide)) (g := (mkF m 103 #[.val (.long q1), .second, .val (.int p2), .val (.int p3), .val (.int p4), .val (.ref w_OUT), .val (.int (3 : Int32)), .val (.ref b7), .val (.ref f), .unset, .unset, .unset] [(.ref b7)])) rfl (by rw [hml]; rfl) (argsL := [(.ref b7)]) (rest := []) (lenOf pd_0_5 rfl) rfl (by show 2 * 0 + _ ≤ _; exact Nat.le_of_eq rfl) (hb hby at_103) (fun _ _ => ⟨rfl, rfl, (by decide : 5 + 0 ≤ _), (by decide : 52 + 0 ≤ _)⟩)
  dsimp only [Pt.U, Pt.locs, Pt.cells, Pt.slots] at X15 l15 y15 z15 st15 hQ15
  subst l15 y15 z15
  obtain ⟨rfl, N15q, K15⟩ := hQ15
  have Ef_15 := Ef_14.keep K15
  have Eb_15 := Eb_14.keep K15
  have Ft_15 := Ft_14.keep K15 nf
  have Fd_15 := Fd_14.keep K15 nf
  have Fx_15 := Fx_14.keep K15 nf
  have Fb_15 := Fb_14.keep K15 nf
  have Vb_15 := Vb_14.keep K15 nb
  have Z_15 : n0 ≤ T15.heap.size := Nat.le_trans Z_14 K15.1
  have N15 := Fr.app N14 N15q
  obtain ⟨cq16, kq16, q16a, q16b, q16c⟩ := isOf hZw rfl Ef_15
  obtain ⟨_, _, ⟨T16, L16, k16, n16⟩, -, X16, ⟨Lc16, hQ16, l16, y16, z16⟩, st16⟩ := X15.virtualBack hx (y := (⟨"com/example/quotewire/quotewire/wire/Frame", "binary", "()[B"⟩ : MethodName)) (z := (⟨"com/example/quotewire/quotewire/wire/Frame", "binary", "()[B"⟩ : MethodName)) hownw (mvT hZw (hw _ (List.mem_of_getElem? (i := 50) rfl))) (mvT hZw (hw _ (List.mem_of_getElem? (i := 51) rfl))) (notFace_of_selects (args := #[]) (mvT hZw (hw _ (List.mem_of_getElem? (i := 53) rfl)))) (mvT hZw (hw _ (List.mem_of_getElem? (i := 53) rfl))) (mvT hZw (hw _ (List.mem_of_getElem? (i := 52) rfl))) (by decide) (backOf (W := 0) (rm6 l Z a0 hw [] f fb k7 (3 : Int32) [.int (atF p3 0), .int (atF p3 1), .int (atF p3 2)] (.int (0 : Int32)) T15.heap n0 Z_15 Fb_15 Eb_15 Vb_15 (by decide)) hZw (hw _ (List.mem_of_getElem? (i := 54) rfl)) (hw _ (List.mem_of_getElem? (i := 6) rfl)) (by decide) (by decide)) q16a q16c (g := (mkF m 108 #[.val (.long q1), .second, .val (.int p2), .val (.int p3), .val (.int p4), .val (.ref w_OUT), .val (.int (3 : Int32)), .val (.ref b7), .val (.ref f), .unset, .unset, .unset] [(.ref f)])) rfl (by rw [hml]; rfl) (Steps.refl _) (argsL := []) (rest := []) (lenOf pd_0_6 rfl) rfl (by show 2 * 0 + _ ≤ _; exact Nat.le_of_eq rfl) (hb hby at_108) (fun _ _ => ⟨rfl, rfl, (by decide : 5 + 1 ≤ _), (by decide : 52 + 4 ≤ _)⟩)
  dsimp only [Pt.U, Pt.locs, Pt.cells, Pt.slots] at X16 l16 y16 z16 st16 hQ16
  subst l16 y16 z16
  obtain ⟨N16q, o1, rfl, zo1, K16, Vo1, Eo1⟩ := hQ16
  have nf1 : f ∉ [o1] := fun q => absurd (List.mem_singleton.mp q) (Nat.ne_of_lt (Nat.lt_of_lt_of_le Ef_15.lt zo1))
  have nb1 : fb ∉ [o1] := fun q => absurd (List.mem_singleton.mp q) (Nat.ne_of_lt (Nat.lt_of_lt_of_le Eb_15.lt zo1))
  have g_o1 : n0 ≤ o1 := Nat.le_trans Z_15 zo1
  have Ef_16 := Ef_15.keep K16
  have Eb_16 := Eb_15.keep K16
  have Ft_16 := Ft_15.keep K16 (fun q => nomatch q)
  have Fd_16 := Fd_15.keep K16 (fun q => nomatch q)
  have Fx_16 := Fx_15.keep K16 (fun q => nomatch q)
  have Fb_16 := Fb_15.keep K16 (fun q => nomatch q)
  have Vb_16 := Vb_15.keep K16 (fun q => nomatch q)
  have Z_16 : n0 ≤ T16.heap.size := Nat.le_trans Z_15 K16.1
  have N16 := Fr.app N15 N16q
  obtain ⟨_, _, ⟨T17, L17, k17, n17⟩, -, X17, ⟨Lc17, hQ17, l17, y17, z17⟩, st17⟩ := Jvm.LawKit.callS X16 hx (y := (⟨"com/example/quotewire/quotewire/wire/FrameBinaryPinLaw", "same", "([BII)Z"⟩ : MethodName)) hownw (mvT hZw (hw _ (List.mem_of_getElem? (i := 55) rfl))) (mvT hZw (hw _ (List.mem_of_getElem? (i := 56) rfl))) (mvT hZw (hw _ (List.mem_of_getElem? (i := 48) rfl))) (mvT hZw (hw _ (List.mem_of_getElem? (i := 57) rfl))) (by decide) (backOf (W := 0) (rm7_3 l Z a0 hw [] o1 p3 k7 (.int (0 : Int32)) T16.heap n0 Z_16 Vo1) hZw (hw _ (List.mem_of_getElem? (i := 57) rfl)) (hw _ (List.mem_of_getElem? (i := 48) rfl)) (by decide) (by decide)) (g := (mkF m 118 #[.val (.long q1), .second, .val (.int p2), .val (.int p3), .val (.int p4), .val (.ref w_OUT), .val (.int (3 : Int32)), .val (.ref b7), .val (.ref f), .val (.ref o1), .unset, .unset] [(.int p3), (.int (3 : Int32)), (.ref o1)])) rfl (by rw [hml]; rfl) (argsL := [(.ref o1), (.int (3 : Int32)), (.int p3)]) (rest := []) (lenOf pd_0_7 rfl) rfl (by show 2 * 0 + _ ≤ _; exact Nat.le_of_eq rfl) (hb hby at_118) (fun _ _ => ⟨rfl, rfl, (by decide : 6 + 0 ≤ _), (by decide : 56 + 0 ≤ _)⟩)
  dsimp only [Pt.U, Pt.locs, Pt.cells, Pt.slots] at X17 l17 y17 z17 st17 hQ17
  subst l17 y17 z17
  obtain ⟨rfl, N17q, q17⟩ := hQ17
  have K17 : Keep T16.heap T17.heap [] := by rw [q17]; exact Keep.refl _ _
  have Vo1_ := Vo1.keep K17 (fun q => nomatch q)
  have Ef_17 := Ef_16.keep K17
  have Eb_17 := Eb_16.keep K17
  have Ft_17 := Ft_16.keep K17 (fun q => nomatch q)
  have Fd_17 := Fd_16.keep K17 (fun q => nomatch q)
  have Fx_17 := Fx_16.keep K17 (fun q => nomatch q)
  have Fb_17 := Fb_16.keep K17 (fun q => nomatch q)
  have Vb_17 := Vb_16.keep K17 (fun q => nomatch q)
  have Z_17 : n0 ≤ T17.heap.size := Nat.le_trans Z_16 K17.1
  have N17 := Fr.app N16 N17q
  obtain ⟨_, _, ⟨T18, L18, k18, n18⟩, -, X18, ⟨Lc18, hQ18, l18, y18, z18⟩, st18⟩ := Jvm.LawKit.callS X17 hx (y := (⟨"com/example/quotewire/quotewire/wire/FrameBinaryPinLaw", "flip", "([B)V"⟩ : MethodName)) hownw (mvT hZw (hw _ (List.mem_of_getElem? (i := 46) rfl))) (mvT hZw (hw _ (List.mem_of_getElem? (i := 47) rfl))) (mvT hZw (hw _ (List.mem_of_getElem? (i := 48) rfl))) (mvT hZw (hw _ (List.mem_of_getElem? (i := 49) rfl))) (by decide) (backOf (W := 0) (rm5_3 l Z a0 hw [] o1 k7 (atF p3 (0 : Int32)) (atF p3 (1 : Int32)) (atF p3 (2 : Int32)) (.int (0 : Int32)) T17.heap n0 Z_17 Vo1_ g_o1) hZw (hw _ (List.mem_of_getElem? (i := 49) rfl)) (hw _ (List.mem_of_getElem? (i := 48) rfl)) (by decide) (by decide)) (g := (mkF m 125 #[.val (.long q1), .second, .val (.int p2), .val (.int p3), .val (.int p4), .val (.ref w_OUT), .val (.int (3 : Int32)), .val (.ref b7), .val (.ref f), .val (.ref o1), .val (.int (1 : Int32)), .unset] [(.ref o1)])) rfl (by rw [hml]; rfl) (argsL := [(.ref o1)]) (rest := []) (lenOf pd_0_5 rfl) rfl (by show 2 * 0 + _ ≤ _; exact Nat.le_of_eq rfl) (hb hby at_125) (fun _ _ => ⟨rfl, rfl, (by decide : 6 + 0 ≤ _), (by decide : 56 + 0 ≤ _)⟩)
  dsimp only [Pt.U, Pt.locs, Pt.cells, Pt.slots] at X18 l18 y18 z18 st18 hQ18
  subst l18 y18 z18
  obtain ⟨rfl, N18q, K18⟩ := hQ18
  have Ef_18 := Ef_17.keep K18
  have Eb_18 := Eb_17.keep K18
  have Ft_18 := Ft_17.keep K18 nf1
  have Fd_18 := Fd_17.keep K18 nf1
  have Fx_18 := Fx_17.keep K18 nf1
  have Fb_18 := Fb_17.keep K18 nf1
  have Vb_18 := Vb_17.keep K18 nb1
  have Z_18 : n0 ≤ T18.heap.size := Nat.le_trans Z_17 K18.1
  have N18 := Fr.app N17 N18q
  obtain ⟨cq19, kq19, q19a, q19b, q19c⟩ := isOf hZw rfl Ef_18
  obtain ⟨_, _, ⟨T19, L19, k19, n19⟩, -, X19, ⟨Lc19, hQ19, l19, y19, z19⟩, st19⟩ := X18.virtualBack hx (y := (⟨"com/example/quotewire/quotewire/wire/Frame", "binary", "()[B"⟩ : MethodName)) (z := (⟨"com/example/quotewire/quotewire/wire/Frame", "binary", "()[B"⟩ : MethodName)) hownw (mvT hZw (hw _ (List.mem_of_getElem? (i := 50) rfl))) (mvT hZw (hw _ (List.mem_of_getElem? (i := 51) rfl))) (notFace_of_selects (args := #[]) (mvT hZw (hw _ (List.mem_of_getElem? (i := 53) rfl)))) (mvT hZw (hw _ (List.mem_of_getElem? (i := 53) rfl))) (mvT hZw (hw _ (List.mem_of_getElem? (i := 52) rfl))) (by decide) (backOf (W := 0) (rm6 l Z a0 hw [] f fb k7 (3 : Int32) [.int (atF p3 0), .int (atF p3 1), .int (atF p3 2)] (.int (0 : Int32)) T18.heap n0 Z_18 Fb_18 Eb_18 Vb_18 (by decide)) hZw (hw _ (List.mem_of_getElem? (i := 54) rfl)) (hw _ (List.mem_of_getElem? (i := 6) rfl)) (by decide) (by decide)) q19a q19c (g := (mkF m 130 #[.val (.long q1), .second, .val (.int p2), .val (.int p3), .val (.int p4), .val (.ref w_OUT), .val (.int (3 : Int32)), .val (.ref b7), .val (.ref f), .val (.ref o1), .val (.int (1 : Int32)), .unset] [(.ref f)])) rfl (by rw [hml]; rfl) (Steps.refl _) (argsL := []) (rest := []) (lenOf pd_0_6 rfl) rfl (by show 2 * 0 + _ ≤ _; exact Nat.le_of_eq rfl) (hb hby at_130) (fun _ _ => ⟨rfl, rfl, (by decide : 6 + 1 ≤ _), (by decide : 56 + 4 ≤ _)⟩)
  dsimp only [Pt.U, Pt.locs, Pt.cells, Pt.slots] at X19 l19 y19 z19 st19 hQ19
  subst l19 y19 z19
  obtain ⟨N19q, o2, rfl, zo2, K19, Vo2, Eo2⟩ := hQ19
  have Ef_19 := Ef_18.keep K19
  have Eb_19 := Eb_18.keep K19
  have Ft_19 := Ft_18.keep K19 (fun q => nomatch q)
  have Fd_19 := Fd_18.keep K19 (fun q => nomatch q)
  have Fx_19 := Fx_18.keep K19 (fun q => nomatch q)
  have Fb_19 := Fb_18.keep K19 (fun q => nomatch q)
  have Vb_19 := Vb_18.keep K19 (fun q => nomatch q)
  have Z_19 : n0 ≤ T19.heap.size := Nat.le_trans Z_18 K19.1
  have N19 := Fr.app N18 N19q
  obtain ⟨_, _, ⟨T20, L20, k20, n20⟩, -, X20, ⟨Lc20, hQ20, l20, y20, z20⟩, st20⟩ := Jvm.LawKit.callS X19 hx (y := (⟨"com/example/quotewire/quotewire/wire/FrameBinaryPinLaw", "same", "([BII)Z"⟩ : MethodName)) hownw (mvT hZw (hw _ (List.mem_of_getElem? (i := 55) rfl))) (mvT hZw (hw _ (List.mem_of_getElem? (i := 56) rfl))) (mvT hZw (hw _ (List.mem_of_getElem? (i := 48) rfl))) (mvT hZw (hw _ (List.mem_of_getElem? (i := 57) rfl))) (by decide) (backOf (W := 0) (rm7_3 l Z a0 hw [] o2 p3 k7 (.int (0 : Int32)) T19.heap n0 Z_19 Vo2) hZw (hw _ (List.mem_of_getElem? (i := 57) rfl)) (hw _ (List.mem_of_getElem? (i := 48) rfl)) (by decide) (by decide)) (g := (mkF m 145 #[.val (.long q1), .second, .val (.int p2), .val (.int p3), .val (.int p4), .val (.ref w_OUT), .val (.int (3 : Int32)), .val (.ref b7), .val (.ref f), .val (.ref o1), .val (.int (1 : Int32)), .val (.ref o2)] [(.int p3), (.int (3 : Int32)), (.ref o2)])) rfl (by rw [hml]; rfl) (argsL := [(.ref o2), (.int (3 : Int32)), (.int p3)]) (rest := []) (lenOf pd_0_7 rfl) rfl (by show 2 * 0 + _ ≤ _; exact Nat.le_of_eq rfl) (hb hby at_145) (fun _ _ => ⟨rfl, rfl, (by decide : 7 + 0 ≤ _), (by decide : 60 + 0 ≤ _)⟩)
  dsimp only [Pt.U, Pt.locs, Pt.cells, Pt.slots] at X20 l20 y20 z20 st20 hQ20
  subst l20 y20 z20
  obtain ⟨rfl, N20q, q20⟩ := hQ20
  have K20 : Keep T19.heap T20.heap [] := by rw [q20]; exact Keep.refl _ _
  have Ef_20 := Ef_19.keep K20
  have Eb_20 := Eb_19.keep K20
  have Ft_20 := Ft_19.keep K20 (fun q => nomatch q)
  have Fd_20 := Fd_19.keep K20 (fun q => nomatch q)
  have Fx_20 := Fx_19.keep K20 (fun q => nomatch q)
  have Fb_20 := Fb_19.keep K20 (fun q => nomatch q)
  have Vb_20 := Vb_19.keep K20 (fun q => nomatch q)
  have Z_20 : n0 ≤ T20.heap.size := Nat.le_trans Z_19 K20.1
  have N20 := Fr.app N19 N20q
  obtain ⟨cq21, kq21, q21a, q21b, q21c⟩ := isOf hZw rfl Ef_20
  obtain ⟨_, _, ⟨T21, L21, k21, n21⟩, -, X21, ⟨Lc21, hQ21, l21, y21, z21⟩, st21⟩ := X20.virtualBack hx (y := (⟨"com/example/quotewire/quotewire/wire/Frame", "time", "()J"⟩ : MethodName)) (z := (⟨"com/example/quotewire/quotewire/wire/Frame", "time", "()J"⟩ : MethodName)) hownw (mvT hZw (hw _ (List.mem_of_getElem? (i := 58) rfl))) (mvT hZw (hw _ (List.mem_of_getElem? (i := 59) rfl))) (notFace_of_selects (args := #[]) (mvT hZw (hw _ (List.mem_of_getElem? (i := 61) rfl)))) (mvT hZw (hw _ (List.mem_of_getElem? (i := 61) rfl))) (mvT hZw (hw _ (List.mem_of_getElem? (i := 60) rfl))) (by decide) (backOf (W := 0) (rm8 l Z a0 hw [] f q1 T20.heap n0 Z_20 Ft_20) hZw (hw _ (List.mem_of_getElem? (i := 62) rfl)) (hw _ (List.mem_of_getElem? (i := 6) rfl)) (by decide) (by decide)) q21a q21c (g := (mkF m 165 #[.val (.long q1), .second, .val (.int p2), .val (.int p3), .val (.int p4), .val (.ref w_OUT), .val (.int (3 : Int32)), .val (.ref b7), .val (.ref f), .val (.ref o1), .val (.int (1 : Int32)), .val (.ref o2)] [(.ref f)])) rfl (by rw [hml]; rfl) (Steps.refl _) (argsL := []) (rest := []) (lenOf pd_0_8 rfl) rfl (by show 2 * 0 + _ ≤ _; exact Nat.le_of_eq rfl) (hb hby at_165) (fun _ _ => ⟨rfl, rfl, (by decide : 7 + 0 ≤ _), (by decide : 60 + 0 ≤ _)⟩)
  dsimp only [Pt.U, Pt.locs, Pt.cells, Pt.slots] at X21 l21 y21 z21 st21 hQ21
  subst l21 y21 z21
  obtain ⟨rfl, N21q, q21⟩ := hQ21
  have K21 : Keep T20.heap T21.heap [] := by rw [q21]; exact Keep.refl _ _
  have Ef_21 := Ef_20.keep K21
  have Eb_21 := Eb_20.keep K21
  have Ft_21 := Ft_20.keep K21 (fun q => nomatch q)
  have Fd_21 := Fd_20.keep K21 (fun q => nomatch q)
  have Fx_21 := Fx_20.keep K21 (fun q => nomatch q)
  have Fb_21 := Fb_20.keep K21 (fun q => nomatch q)
  have Vb_21 := Vb_20.keep K21 (fun q => nomatch q)
  have Z_21 : n0 ≤ T21.heap.size := Nat.le_trans Z_20 K21.1
  have N21 := Fr.app N20 N21q
  obtain ⟨cq22, kq22, q22a, q22b, q22c⟩ := isOf hZw rfl Ef_21
  obtain ⟨_, _, ⟨T22, L22, k22, n22⟩, -, X22, ⟨Lc22, hQ22, l22, y22, z22⟩, st22⟩ := X21.virtualBack hx (y := (⟨"com/example/quotewire/quotewire/wire/Frame", "direction", "()Lcom/example/quotewire/quotewire/wire/Frame$Direction;"⟩ : MethodName)) (z := (⟨"com/example/quotewire/quotewire/wire/Frame", "direction", "()Lcom/example/quotewire/quotewire/wire/Frame$Direction;"⟩ : MethodName)) hownw (mvT hZw (hw _ (List.mem_of_getElem? (i := 63) rfl))) (mvT hZw (hw _ (List.mem_of_getElem? (i := 64) rfl))) (notFace_of_selects (args := #[]) (mvT hZw (hw _ (List.mem_of_getElem? (i := 66) rfl)))) (mvT hZw (hw _ (List.mem_of_getElem? (i := 66) rfl))) (mvT hZw (hw _ (List.mem_of_getElem? (i := 65) rfl))) (by decide) (backOf (W := 0) (rm9 l Z a0 hw [] f w_OUT T21.heap n0 Z_21 Fd_21) hZw (hw _ (List.mem_of_getElem? (i := 67) rfl)) (hw _ (List.mem_of_getElem? (i := 6) rfl)) (by decide) (by decide)) q22a q22c (g := (mkF m 187 #[.val (.long q1), .second, .val (.int p2), .val (.int p3), .val (.int p4), .val (.ref w_OUT), .val (.int (3 : Int32)), .val (.ref b7), .val (.ref f), .val (.ref o1), .val (.int (1 : Int32)), .val (.ref o2)] [(.ref f)])) rfl (by rw [hml]; rfl) (Steps.refl _) (argsL := []) (rest := []) (lenOf pd_0_9 rfl) rfl (by show 2 * 0 + _ ≤ _; exact Nat.le_of_eq rfl) (hb hby at_187) (fun _ _ => ⟨rfl, rfl, (by decide : 7 + 0 ≤ _), (by decide : 60 + 0 ≤ _)⟩)
  dsimp only [Pt.U, Pt.locs, Pt.cells, Pt.slots] at X22 l22 y22 z22 st22 hQ22
  subst l22 y22 z22
  obtain ⟨rfl, N22q, q22⟩ := hQ22
  have K22 : Keep T21.heap T22.heap [] := by rw [q22]; exact Keep.refl _ _
  have Ef_22 := Ef_21.keep K22
  have Eb_22 := Eb_21.keep K22
  have Ft_22 := Ft_21.keep K22 (fun q => nomatch q)
  have Fd_22 := Fd_21.keep K22 (fun q => nomatch q)
  have Fx_22 := Fx_21.keep K22 (fun q => nomatch q)
  have Fb_22 := Fb_21.keep K22 (fun q => nomatch q)
  have Vb_22 := Vb_21.keep K22 (fun q => nomatch q)
  have Z_22 : n0 ≤ T22.heap.size := Nat.le_trans Z_21 K22.1
  have N22 := Fr.app N21 N22q
  obtain ⟨cq23, kq23, q23a, q23b, q23c⟩ := isOf hZw rfl Ef_22
  obtain ⟨_, _, ⟨T23, L23, k23, n23⟩, -, X23, ⟨Lc23, hQ23, l23, y23, z23⟩, st23⟩ := X22.virtualBack hx (y := (⟨"com/example/quotewire/quotewire/wire/Frame", "isText", "()Z"⟩ : MethodName)) (z := (⟨"com/example/quotewire/quotewire/wire/Frame", "isText", "()Z"⟩ : MethodName)) hownw (mvT hZw (hw _ (List.mem_of_getElem? (i := 68) rfl))) (mvT hZw (hw _ (List.mem_of_getElem? (i := 69) rfl))) (notFace_of_selects (args := #[]) (mvT hZw (hw _ (List.mem_of_getElem? (i := 71) rfl)))) (mvT hZw (hw _ (List.mem_of_getElem? (i := 71) rfl))) (mvT hZw (hw _ (List.mem_of_getElem? (i := 70) rfl))) (by decide) (backOf (W := 0) (rm10 l Z a0 hw [] f T22.heap n0 Z_22 Fx_22) hZw (hw _ (List.mem_of_getElem? (i := 72) rfl)) (hw _ (List.mem_of_getElem? (i := 6) rfl)) (by decide) (by decide)) q23a q23c (g := (mkF m 209 #[.val (.long q1), .second, .val (.int p2), .val (.int p3), .val (.int p4), .val (.ref w_OUT), .val (.int (3 : Int32)), .val (.ref b7), .val (.ref f), .val (.ref o1), .val (.int (1 : Int32)), .val (.ref o2)] [(.ref f)])) rfl (by rw [hml]; rfl) (Steps.refl _) (argsL := []) (rest := []) (lenOf pd_0_10 rfl) rfl (by show 2 * 0 + _ ≤ _; exact Nat.le_of_eq rfl) (hb hby at_209) (fun _ _ => ⟨rfl, rfl, (by decide : 7 + 0 ≤ _), (by decide : 60 + 0 ≤ _)⟩)
  dsimp only [Pt.U, Pt.locs, Pt.cells, Pt.slots] at X23 l23 y23 z23 st23 hQ23
  subst l23 y23 z23
  obtain ⟨rfl, N23q, q23⟩ := hQ23
  have K23 : Keep T22.heap T23.heap [] := by rw [q23]; exact Keep.refl _ _
  have Ef_23 := Ef_22.keep K23
  have Eb_23 := Eb_22.keep K23
  have Ft_23 := Ft_22.keep K23 (fun q => nomatch q)
  have Fd_23 := Fd_22.keep K23 (fun q => nomatch q)
  have Fx_23 := Fx_22.keep K23 (fun q => nomatch q)
  have Fb_23 := Fb_22.keep K23 (fun q => nomatch q)
  have Vb_23 := Vb_22.keep K23 (fun q => nomatch q)
  have Z_23 : n0 ≤ T23.heap.size := Nat.le_trans Z_22 K23.1
  have N23 := Fr.app N22 N23q
  have grow : T14.heap.size ≤ T23.heap.size := Nat.le_trans (Nat.le_trans (Nat.le_trans (Nat.le_trans (Nat.le_trans (Nat.le_trans (Nat.le_trans (Nat.le_trans K15.1 K16.1) K17.1) K18.1) K19.1) K20.1) K21.1) K22.1) K23.1
  obtain ⟨fs, hr, hrun, hended, hRW⟩ := X23.leaveW S14 grow (v := some (.int (1 : Int32))) (fun h => by rw [Bd.returns] at h; cases h)
  refine ⟨_, _, pre0 _ ?_, hrun, hended, _, _, rfl, ?_, hRW.1, hRW.2.1, hRW.2.2.1, hRW.2.2.2.mono (by decide) (by decide)⟩
  -- 4. STEPS
  · show Steps p.tables e below (s₁.setTop (mkF m 0 #[.val (.long q1), .second, .val (.int p2), .val (.int p3), .val (.int p4), .unset, .unset, .unset, .unset, .unset, .unset, .unset] [])) _
    refine XS.iloadN X0.here hx rfl (hb hby at_0) rfl ?_
    show Steps p.tables e below (s₁.setTop (mkF m 1 #[.val (.long q1), .second, .val (.int p2), .val (.int p3), .val (.int p4), .unset, .unset, .unset, .unset, .unset, .unset, .unset] [(.int p2)])) _
    refine XS.iconst X0.here hx rfl (hb hby at_1) ?_
    show Steps p.tables e below (s₁.setTop (mkF m 2 #[.val (.long q1), .second, .val (.int p2), .val (.int p3), .val (.int p4), .unset, .unset, .unset, .unset, .unset, .unset, .unset] [(.int (1 : Int32)), (.int p2)])) _
    refine XS.iand X0.here hx rfl (hb hby at_2) rfl ?_
    show Steps p.tables e below (s₁.setTop (mkF m 3 #[.val (.long q1), .second, .val (.int p2), .val (.int p3), .val (.int p4), .unset, .unset, .unset, .unset, .unset, .unset, .unset] [(.int (p2 &&& (1 : Int32)))])) _
    refine XS.ifNo X0.here hx rfl (hb hby at_3) rfl ((if0 _ _).trans (feq hc3).1) ?_
    show Steps p.tables e below (s₁.setTop (mkF m 6 #[.val (.long q1), .second, .val (.int p2), .val (.int p3), .val (.int p4), .unset, .unset, .unset, .unset, .unset, .unset, .unset] [])) _
    refine st6 _ ?_
    show Steps p.tables e below (T6.setTop (mkF m 9 #[.val (.long q1), .second, .val (.int p2), .val (.int p3), .val (.int p4), .unset, .unset, .unset, .unset, .unset, .unset, .unset] [(.ref w_OUT)])) _
    refine XS.goto X6.here hx rfl (pc0 := 9) (pc' := 15) rfl (hb hby at_9) (by decide) (by decide) ?_
    show Steps p.tables e below (T6.setTop (mkF m 15 #[.val (.long q1), .second, .val (.int p2), .val (.int p3), .val (.int p4), .unset, .unset, .unset, .unset, .unset, .unset, .unset] [(.ref w_OUT)])) _
    refine XS.astore X6.here hx rfl (hb hby at_15) rfl rfl (l' := #[.val (.long q1), .second, .val (.int p2), .val (.int p3), .val (.int p4), .val (.ref w_OUT), .unset, .unset, .unset, .unset, .unset, .unset]) rfl ?_
    show Steps p.tables e below (T6.setTop (mkF m 17 #[.val (.long q1), .second, .val (.int p2), .val (.int p3), .val (.int p4), .val (.ref w_OUT), .unset, .unset, .unset, .unset, .unset, .unset] [])) _
    refine XS.iload X6.here hx rfl (hb hby at_17) rfl ?_
    show Steps p.tables e below (T6.setTop (mkF m 19 #[.val (.long q1), .second, .val (.int p2), .val (.int p3), .val (.int p4), .val (.ref w_OUT), .unset, .unset, .unset, .unset, .unset, .unset] [(.int p4)])) _
    refine XS.bipush X6.here hx rfl (hb hby at_19) ?_
    show Steps p.tables e below (T6.setTop (mkF m 21 #[.val (.long q1), .second, .val (.int p2), .val (.int p3), .val (.int p4), .val (.ref w_OUT), .unset, .unset, .unset, .unset, .unset, .unset] [(.int (7 : Int32)), (.int p4)])) _
    refine XS.iand X6.here hx rfl (hb hby at_21) rfl ?_
    show Steps p.tables e below (T6.setTop (mkF m 22 #[.val (.long q1), .second, .val (.int p2), .val (.int p3), .val (.int p4), .val (.ref w_OUT), .unset, .unset, .unset, .unset, .unset, .unset] [(.int (p4 &&& (7 : Int32)))])) _
    refine XS.iconst X6.here hx rfl (hb hby at_22) ?_
    show Steps p.tables e below (T6.setTop (mkF m 23 #[.val (.long q1), .second, .val (.int p2), .val (.int p3), .val (.int p4), .val (.ref w_OUT), .unset, .unset, .unset, .unset, .unset, .unset] [(.int (5 : Int32)), (.int (p4 &&& (7 : Int32)))])) _
    refine iremM X6 hx rfl (hb hby at_23) rfl (by decide) ?_
    rw [hk]
    show Steps p.tables e below (T6.setTop (mkF m 24 #[.val (.long q1), .second, .val (.int p2), .val (.int p3), .val (.int p4), .val (.ref w_OUT), .unset, .unset, .unset, .unset, .unset, .unset] [(.int (3 : Int32))])) _
    refine XS.istore X6.here hx rfl (hb hby at_24) rfl (l' := #[.val (.long q1), .second, .val (.int p2), .val (.int p3), .val (.int p4), .val (.ref w_OUT), .val (.int (3 : Int32)), .unset, .unset, .unset, .unset, .unset]) rfl ?_
    show Steps p.tables e below (T6.setTop (mkF m 26 #[.val (.long q1), .second, .val (.int p2), .val (.int p3), .val (.int p4), .val (.ref w_OUT), .val (.int (3 : Int32)), .unset, .unset, .unset, .unset, .unset] [])) _
    refine XS.iload X6.here hx rfl (hb hby at_26) rfl ?_
    show Steps p.tables e below (T6.setTop (mkF m 28 #[.val (.long q1), .second, .val (.int p2), .val (.int p3), .val (.int p4), .val (.ref w_OUT), .val (.int (3 : Int32)), .unset, .unset, .unset, .unset, .unset] [(.int (3 : Int32))])) _
    refine st7 _ ?_
    show Steps p.tables e below (T7.setTop (mkF m 30 #[.val (.long q1), .second, .val (.int p2), .val (.int p3), .val (.int p4), .val (.ref w_OUT), .val (.int (3 : Int32)), .unset, .unset, .unset, .unset, .unset] [(.ref b7)])) _
    refine XS.astore X7.here hx rfl (hb hby at_30) rfl rfl (l' := #[.val (.long q1), .second, .val (.int p2), .val (.int p3), .val (.int p4), .val (.ref w_OUT), .val (.int (3 : Int32)), .val (.ref b7), .unset, .unset, .unset, .unset]) rfl ?_
    show Steps p.tables e below (T7.setTop (mkF m 32 #[.val (.long q1), .second, .val (.int p2), .val (.int p3), .val (.int p4), .val (.ref w_OUT), .val (.int (3 : Int32)), .val (.ref b7), .unset, .unset, .unset, .unset] [])) _
    refine XS.iload X7.here hx rfl (hb hby at_32) rfl ?_
    show Steps p.tables e below (T7.setTop (mkF m 34 #[.val (.long q1), .second, .val (.int p2), .val (.int p3), .val (.int p4), .val (.ref w_OUT), .val (.int (3 : Int32)), .val (.ref b7), .unset, .unset, .unset, .unset] [(.int (3 : Int32))])) _
    refine XS.ifNo X7.here hx rfl (hb hby at_34) rfl ((if0 _ _).trans (tlt (by decide)).2.2.2) ?_
    show Steps p.tables e below (T7.setTop (mkF m 37 #[.val (.long q1), .second, .val (.int p2), .val (.int p3), .val (.int p4), .val (.ref w_OUT), .val (.int (3 : Int32)), .val (.ref b7), .unset, .unset, .unset, .unset] [])) _
    refine XS.aload X7.here hx rfl (hb hby at_37) rfl rfl ?_
    show Steps p.tables e below (T7.setTop (mkF m 39 #[.val (.long q1), .second, .val (.int p2), .val (.int p3), .val (.int p4), .val (.ref w_OUT), .val (.int (3 : Int32)), .val (.ref b7), .unset, .unset, .unset, .unset] [(.ref b7)])) _
    refine XS.iconst X7.here hx rfl (hb hby at_39) ?_
    show Steps p.tables e below (T7.setTop (mkF m 40 #[.val (.long q1), .second, .val (.int p2), .val (.int p3), .val (.int p4), .val (.ref w_OUT), .val (.int (3 : Int32)), .val (.ref b7), .unset, .unset, .unset, .unset] [(.int (0 : Int32)), (.ref b7)])) _
    refine XS.iloadN X7.here hx rfl (hb hby at_40) rfl ?_
    show Steps p.tables e below (T7.setTop (mkF m 41 #[.val (.long q1), .second, .val (.int p2), .val (.int p3), .val (.int p4), .val (.ref w_OUT), .val (.int (3 : Int32)), .val (.ref b7), .unset, .unset, .unset, .unset] [(.int p3), (.int (0 : Int32)), (.ref b7)])) _
    refine XS.iconst X7.here hx rfl (hb hby at_41) ?_
    show Steps p.tables e below (T7.setTop (mkF m 42 #[.val (.long q1), .second, .val (.int p2), .val (.int p3), .val (.int p4), .val (.ref w_OUT), .val (.int (3 : Int32)), .val (.ref b7), .unset, .unset, .unset, .unset] [(.int (0 : Int32)), (.int p3), (.int (0 : Int32)), (.ref b7)])) _
    refine st8 _ ?_
    show Steps p.tables e below (T8.setTop (mkF m 45 #[.val (.long q1), .second, .val (.int p2), .val (.int p3), .val (.int p4), .val (.ref w_OUT), .val (.int (3 : Int32)), .val (.ref b7), .unset, .unset, .unset, .unset] [(.int (atF p3 (0 : Int32))), (.int (0 : Int32)), (.ref b7)])) _
    refine st9 _ ?_
    show Steps p.tables e below (T9.setTop (mkF m 46 #[.val (.long q1), .second, .val (.int p2), .val (.int p3), .val (.int p4), .val (.ref w_OUT), .val (.int (3 : Int32)), .val (.ref b7), .unset, .unset, .unset, .unset] [])) _
    refine XS.iload X9.here hx rfl (hb hby at_46) rfl ?_
    show Steps p.tables e below (T9.setTop (mkF m 48 #[.val (.long q1), .second, .val (.int p2), .val (.int p3), .val (.int p4), .val (.ref w_OUT), .val (.int (3 : Int32)), .val (.ref b7), .unset, .unset, .unset, .unset] [(.int (3 : Int32))])) _
    refine XS.iconst X9.here hx rfl (hb hby at_48) ?_
    show Steps p.tables e below (T9.setTop (mkF m 49 #[.val (.long q1), .second, .val (.int p2), .val (.int p3), .val (.int p4), .val (.ref w_OUT), .val (.int (3 : Int32)), .val (.ref b7), .unset, .unset, .unset, .unset] [(.int (1 : Int32)), (.int (3 : Int32))])) _
    refine XS.icmpNo X9.here hx rfl (hb hby at_49) rfl (tlt (by decide)).2.2.2 ?_
    show Steps p.tables e below (T9.setTop (mkF m 52 #[.val (.long q1), .second, .val (.int p2), .val (.int p3), .val (.int p4), .val (.ref w_OUT), .val (.int (3 : Int32)), .val (.ref b7), .unset, .unset, .unset, .unset] [])) _
    refine XS.aload X9.here hx rfl (hb hby at_52) rfl rfl ?_
    show Steps p.tables e below (T9.setTop (mkF m 54 #[.val (.long q1), .second, .val (.int p2), .val (.int p3), .val (.int p4), .val (.ref w_OUT), .val (.int (3 : Int32)), .val (.ref b7), .unset, .unset, .unset, .unset] [(.ref b7)])) _
    refine XS.iconst X9.here hx rfl (hb hby at_54) ?_
    show Steps p.tables e below (T9.setTop (mkF m 55 #[.val (.long q1), .second, .val (.int p2), .val (.int p3), .val (.int p4), .val (.ref w_OUT), .val (.int (3 : Int32)), .val (.ref b7), .unset, .unset, .unset, .unset] [(.int (1 : Int32)), (.ref b7)])) _
    refine XS.iloadN X9.here hx rfl (hb hby at_55) rfl ?_
    show Steps p.tables e below (T9.setTop (mkF m 56 #[.val (.long q1), .second, .val (.int p2), .val (.int p3), .val (.int p4), .val (.ref w_OUT), .val (.int (3 : Int32)), .val (.ref b7), .unset, .unset, .unset, .unset] [(.int p3), (.int (1 : Int32)), (.ref b7)])) _
    refine XS.iconst X9.here hx rfl (hb hby at_56) ?_
    show Steps p.tables e below (T9.setTop (mkF m 57 #[.val (.long q1), .second, .val (.int p2), .val (.int p3), .val (.int p4), .val (.ref w_OUT), .val (.int (3 : Int32)), .val (.ref b7), .unset, .unset, .unset, .unset] [(.int (1 : Int32)), (.int p3), (.int (1 : Int32)), (.ref b7)])) _
    refine st10 _ ?_
    show Steps p.tables e below (T10.setTop (mkF m 60 #[.val (.long q1), .second, .val (.int p2), .val (.int p3), .val (.int p4), .val (.ref w_OUT), .val (.int (3 : Int32)), .val (.ref b7), .unset, .unset, .unset, .unset] [(.int (atF p3 (1 : Int32))), (.int (1 : Int32)), (.ref b7)])) _
    refine st11 _ ?_
    show Steps p.tables e below (T11.setTop (mkF m 61 #[.val (.long q1), .second, .val (.int p2), .val (.int p3), .val (.int p4), .val (.ref w_OUT), .val (.int (3 : Int32)), .val (.ref b7), .unset, .unset, .unset, .unset] [])) _
    refine XS.iload X11.here hx rfl (hb hby at_61) rfl ?_
    show Steps p.tables e below (T11.setTop (mkF m 63 #[.val (.long q1), .second, .val (.int p2), .val (.int p3), .val (.int p4), .val (.ref w_OUT), .val (.int (3 : Int32)), .val (.ref b7), .unset, .unset, .unset, .unset] [(.int (3 : Int32))])) _
    refine XS.iconst X11.here hx rfl (hb hby at_63) ?_
    show Steps p.tables e below (T11.setTop (mkF m 64 #[.val (.long q1), .second, .val (.int p2), .val (.int p3), .val (.int p4), .val (.ref w_OUT), .val (.int (3 : Int32)), .val (.ref b7), .unset, .unset, .unset, .unset] [(.int (2 : Int32)), (.int (3 : Int32))])) _
    refine XS.icmpNo X11.here hx rfl (hb hby at_64) rfl (tlt (by decide)).2.2.2 ?_
    show Steps p.tables e below (T11.setTop (mkF m 67 #[.val (.long q1), .second, .val (.int p2), .val (.int p3), .val (.int p4), .val (.ref w_OUT), .val (.int (3 : Int32)), .val (.ref b7), .unset, .unset, .unset, .unset] [])) _
    refine XS.aload X11.here hx rfl (hb hby at_67) rfl rfl ?_
    show Steps p.tables e below (T11.setTop (mkF m 69 #[.val (.long q1), .second, .val (.int p2), .val (.int p3), .val (.int p4), .val (.ref w_OUT), .val (.int (3 : Int32)), .val (.ref b7), .unset, .unset, .unset, .unset] [(.ref b7)])) _
    refine XS.iconst X11.here hx rfl (hb hby at_69) ?_
    show Steps p.tables e below (T11.setTop (mkF m 70 #[.val (.long q1), .second, .val (.int p2), .val (.int p3), .val (.int p4), .val (.ref w_OUT), .val (.int (3 : Int32)), .val (.ref b7), .unset, .unset, .unset, .unset] [(.int (2 : Int32)), (.ref b7)])) _
    refine XS.iloadN X11.here hx rfl (hb hby at_70) rfl ?_
    show Steps p.tables e below (T11.setTop (mkF m 71 #[.val (.long q1), .second, .val (.int p2), .val (.int p3), .val (.int p4), .val (.ref w_OUT), .val (.int (3 : Int32)), .val (.ref b7), .unset, .unset, .unset, .unset] [(.int p3), (.int (2 : Int32)), (.ref b7)])) _
    refine XS.iconst X11.here hx rfl (hb hby at_71) ?_
    show Steps p.tables e below (T11.setTop (mkF m 72 #[.val (.long q1), .second, .val (.int p2), .val (.int p3), .val (.int p4), .val (.ref w_OUT), .val (.int (3 : Int32)), .val (.ref b7), .unset, .unset, .unset, .unset] [(.int (2 : Int32)), (.int p3), (.int (2 : Int32)), (.ref b7)])) _
    refine st12 _ ?_
    show Steps p.tables e below (T12.setTop (mkF m 75 #[.val (.long q1), .second, .val (.int p2), .val (.int p3), .val (.int p4), .val (.ref w_OUT), .val (.int (3 : Int32)), .val (.ref b7), .unset, .unset, .unset, .unset] [(.int (atF p3 (2 : Int32))), (.int (2 : Int32)), (.ref b7)])) _
    refine st13 _ ?_
    show Steps p.tables e below (T13.setTop (mkF m 76 #[.val (.long q1), .second, .val (.int p2), .val (.int p3), .val (.int p4), .val (.ref w_OUT), .val (.int (3 : Int32)), .val (.ref b7), .unset, .unset, .unset, .unset] [])) _
    refine XS.iload X13.here hx rfl (hb hby at_76) rfl ?_
    show Steps p.tables e below (T13.setTop (mkF m 78 #[.val (.long q1), .second, .val (.int p2), .val (.int p3), .val (.int p4), .val (.ref w_OUT), .val (.int (3 : Int32)), .val (.ref b7), .unset, .unset, .unset, .unset] [(.int (3 : Int32))])) _
    refine XS.iconst X13.here hx rfl (hb hby at_78) ?_
    show Steps p.tables e below (T13.setTop (mkF m 79 #[.val (.long q1), .second, .val (.int p2), .val (.int p3), .val (.int p4), .val (.ref w_OUT), .val (.int (3 : Int32)), .val (.ref b7), .unset, .unset, .unset, .unset] [(.int (3 : Int32)), (.int (3 : Int32))])) _
    refine XS.icmpYes X13.here hx rfl (pc0 := 79) (pc' := 91) rfl (hb hby at_79) rfl (flt (by decide)).2.2.2 (by decide) (by decide) ?_
    show Steps p.tables e below (T13.setTop (mkF m 91 #[.val (.long q1), .second, .val (.int p2), .val (.int p3), .val (.int p4), .val (.ref w_OUT), .val (.int (3 : Int32)), .val (.ref b7), .unset, .unset, .unset, .unset] [])) _
    refine XS.lloadN X13.here hx rfl (hb hby at_91) rfl ?_
    show Steps p.tables e below (T13.setTop (mkF m 92 #[.val (.long q1), .second, .val (.int p2), .val (.int p3), .val (.int p4), .val (.ref w_OUT), .val (.int (3 : Int32)), .val (.ref b7), .unset, .unset, .unset, .unset] [(.long q1)])) _
    refine XS.aload X13.here hx rfl (hb hby at_92) rfl rfl ?_
    show Steps p.tables e below (T13.setTop (mkF m 94 #[.val (.long q1), .second, .val (.int p2), .val (.int p3), .val (.int p4), .val (.ref w_OUT), .val (.int (3 : Int32)), .val (.ref b7), .unset, .unset, .unset, .unset] [(.ref w_OUT), (.long q1)])) _
    refine XS.aload X13.here hx rfl (hb hby at_94) rfl rfl ?_
    show Steps p.tables e below (T13.setTop (mkF m 96 #[.val (.long q1), .second, .val (.int p2), .val (.int p3), .val (.int p4), .val (.ref w_OUT), .val (.int (3 : Int32)), .val (.ref b7), .unset, .unset, .unset, .unset] [(.ref b7), (.ref w_OUT), (.long q1)])) _
    refine st14.trans ?_
    show Steps p.tables e below (T14.setTop (mkF m 99 #[.val (.long q1), .second, .val (.int p2), .val (.int p3), .val (.int p4), .val (.ref w_OUT), .val (.int (3 : Int32)), .val (.ref b7), .unset, .unset, .unset, .unset] [(.ref f)])) _
    refine XS.astore X14.here hx rfl (hb hby at_99) rfl rfl (l' := #[.val (.long q1), .second, .val (.int p2), .val (.int p3), .val (.int p4), .val (.ref w_OUT), .val (.int (3 : Int32)), .val (.ref b7), .val (.ref f), .unset, .unset, .unset]) rfl ?_
    show Steps p.tables e below (T14.setTop (mkF m 101 #[.val (.long q1), .second, .val (.int p2), .val (.int p3), .val (.int p4), .val (.ref w_OUT), .val (.int (3 : Int32)), .val (.ref b7), .val (.ref f), .unset, .unset, .unset] [])) _
    refine XS.aload X14.here hx rfl (hb hby at_101) rfl rfl ?_
    show Steps p.tables e below (T14.setTop (mkF m 103 #[.val (.long q1), .second, .val (.int p2), .val (.int p3), .val (.int p4), .val (.ref w_OUT), .val (.int (3 : Int32)), .val (.ref b7), .val (.ref f), .unset, .unset, .unset] [(.ref b7)])) _
    refine st15 _ ?_
    show Steps p.tables e below (T15.setTop (mkF m 106 #[.val (.long q1), .second, .val (.int p2), .val (.int p3), .val (.int p4), .val (.ref w_OUT), .val (.int (3 : Int32)), .val (.ref b7), .val (.ref f), .unset, .unset, .unset] [])) _
    refine XS.aload X15.here hx rfl (hb hby at_106) rfl rfl ?_
    show Steps p.tables e below (T15.setTop (mkF m 108 #[.val (.long q1), .second, .val (.int p2), .val (.int p3), .val (.int p4), .val (.ref w_OUT), .val (.int (3 : Int32)), .val (.ref b7), .val (.ref f), .unset, .unset, .unset] [(.ref f)])) _
    refine st16.trans ?_
    show Steps p.tables e below (T16.setTop (mkF m 111 #[.val (.long q1), .second, .val (.int p2), .val (.int p3), .val (.int p4), .val (.ref w_OUT), .val (.int (3 : Int32)), .val (.ref b7), .val (.ref f), .unset, .unset, .unset] [(.ref o1)])) _
    refine XS.astore X16.here hx rfl (hb hby at_111) rfl rfl (l' := #[.val (.long q1), .second, .val (.int p2), .val (.int p3), .val (.int p4), .val (.ref w_OUT), .val (.int (3 : Int32)), .val (.ref b7), .val (.ref f), .val (.ref o1), .unset, .unset]) rfl ?_
    show Steps p.tables e below (T16.setTop (mkF m 113 #[.val (.long q1), .second, .val (.int p2), .val (.int p3), .val (.int p4), .val (.ref w_OUT), .val (.int (3 : Int32)), .val (.ref b7), .val (.ref f), .val (.ref o1), .unset, .unset] [])) _
    refine XS.aload X16.here hx rfl (hb hby at_113) rfl rfl ?_
    show Steps p.tables e below (T16.setTop (mkF m 115 #[.val (.long q1), .second, .val (.int p2), .val (.int p3), .val (.int p4), .val (.ref w_OUT), .val (.int (3 : Int32)), .val (.ref b7), .val (.ref f), .val (.ref o1), .unset, .unset] [(.ref o1)])) _
    refine XS.iload X16.here hx rfl (hb hby at_115) rfl ?_
    show Steps p.tables e below (T16.setTop (mkF m 117 #[.val (.long q1), .second, .val (.int p2), .val (.int p3), .val (.int p4), .val (.ref w_OUT), .val (.int (3 : Int32)), .val (.ref b7), .val (.ref f), .val (.ref o1), .unset, .unset] [(.int (3 : Int32)), (.ref o1)])) _
    refine XS.iloadN X16.here hx rfl (hb hby at_117) rfl ?_
    show Steps p.tables e below (T16.setTop (mkF m 118 #[.val (.long q1), .second, .val (.int p2), .val (.int p3), .val (.int p4), .val (.ref w_OUT), .val (.int (3 : Int32)), .val (.ref b7), .val (.ref f), .val (.ref o1), .unset, .unset] [(.int p3), (.int (3 : Int32)), (.ref o1)])) _
    refine st17 _ ?_
    show Steps p.tables e below (T17.setTop (mkF m 121 #[.val (.long q1), .second, .val (.int p2), .val (.int p3), .val (.int p4), .val (.ref w_OUT), .val (.int (3 : Int32)), .val (.ref b7), .val (.ref f), .val (.ref o1), .unset, .unset] [(.int (1 : Int32))])) _
    refine XS.istore X17.here hx rfl (hb hby at_121) rfl (l' := #[.val (.long q1), .second, .val (.int p2), .val (.int p3), .val (.int p4), .val (.ref w_OUT), .val (.int (3 : Int32)), .val (.ref b7), .val (.ref f), .val (.ref o1), .val (.int (1 : Int32)), .unset]) rfl ?_
    show Steps p.tables e below (T17.setTop (mkF m 123 #[.val (.long q1), .second, .val (.int p2), .val (.int p3), .val (.int p4), .val (.ref w_OUT), .val (.int (3 : Int32)), .val (.ref b7), .val (.ref f), .val (.ref o1), .val (.int (1 : Int32)), .unset] [])) _
    refine XS.aload X17.here hx rfl (hb hby at_123) rfl rfl ?_
    show Steps p.tables e below (T17.setTop (mkF m 125 #[.val (.long q1), .second, .val (.int p2), .val (.int p3), .val (.int p4), .val (.ref w_OUT), .val (.int (3 : Int32)), .val (.ref b7), .val (.ref f), .val (.ref o1), .val (.int (1 : Int32)), .unset] [(.ref o1)])) _
    refine st18 _ ?_
    show Steps p.tables e below (T18.setTop (mkF m 128 #[.val (.long q1), .second, .val (.int p2), .val (.int p3), .val (.int p4), .val (.ref w_OUT), .val (.int (3 : Int32)), .val (.ref b7), .val (.ref f), .val (.ref o1), .val (.int (1 : Int32)), .unset] [])) _
    refine XS.aload X18.here hx rfl (hb hby at_128) rfl rfl ?_
    show Steps p.tables e below (T18.setTop (mkF m 130 #[.val (.long q1), .second, .val (.int p2), .val (.int p3), .val (.int p4), .val (.ref w_OUT), .val (.int (3 : Int32)), .val (.ref b7), .val (.ref f), .val (.ref o1), .val (.int (1 : Int32)), .unset] [(.ref f)])) _
    refine st19.trans ?_
    show Steps p.tables e below (T19.setTop (mkF m 133 #[.val (.long q1), .second, .val (.int p2), .val (.int p3), .val (.int p4), .val (.ref w_OUT), .val (.int (3 : Int32)), .val (.ref b7), .val (.ref f), .val (.ref o1), .val (.int (1 : Int32)), .unset] [(.ref o2)])) _
    refine XS.astore X19.here hx rfl (hb hby at_133) rfl rfl (l' := #[.val (.long q1), .second, .val (.int p2), .val (.int p3), .val (.int p4), .val (.ref w_OUT), .val (.int (3 : Int32)), .val (.ref b7), .val (.ref f), .val (.ref o1), .val (.int (1 : Int32)), .val (.ref o2)]) rfl ?_
    show Steps p.tables e below (T19.setTop (mkF m 135 #[.val (.long q1), .second, .val (.int p2), .val (.int p3), .val (.int p4), .val (.ref w_OUT), .val (.int (3 : Int32)), .val (.ref b7), .val (.ref f), .val (.ref o1), .val (.int (1 : Int32)), .val (.ref o2)] [])) _
    refine XS.iload X19.here hx rfl (hb hby at_135) rfl ?_
    show Steps p.tables e below (T19.setTop (mkF m 137 #[.val (.long q1), .second, .val (.int p2), .val (.int p3), .val (.int p4), .val (.ref w_OUT), .val (.int (3 : Int32)), .val (.ref b7), .val (.ref f), .val (.ref o1), .val (.int (1 : Int32)), .val (.ref o2)] [(.int (1 : Int32))])) _
    refine XS.ifNo X19.here hx rfl (hb hby at_137) rfl ((if0 _ _).trans (feq (by decide)).1) ?_
    show Steps p.tables e below (T19.setTop (mkF m 140 #[.val (.long q1), .second, .val (.int p2), .val (.int p3), .val (.int p4), .val (.ref w_OUT), .val (.int (3 : Int32)), .val (.ref b7), .val (.ref f), .val (.ref o1), .val (.int (1 : Int32)), .val (.ref o2)] [])) _
    refine XS.aload X19.here hx rfl (hb hby at_140) rfl rfl ?_
    show Steps p.tables e below (T19.setTop (mkF m 142 #[.val (.long q1), .second, .val (.int p2), .val (.int p3), .val (.int p4), .val (.ref w_OUT), .val (.int (3 : Int32)), .val (.ref b7), .val (.ref f), .val (.ref o1), .val (.int (1 : Int32)), .val (.ref o2)] [(.ref o2)])) _
    refine XS.iload X19.here hx rfl (hb hby at_142) rfl ?_
    show Steps p.tables e below (T19.setTop (mkF m 144 #[.val (.long q1), .second, .val (.int p2), .val (.int p3), .val (.int p4), .val (.ref w_OUT), .val (.int (3 : Int32)), .val (.ref b7), .val (.ref f), .val (.ref o1), .val (.int (1 : Int32)), .val (.ref o2)] [(.int (3 : Int32)), (.ref o2)])) _
    refine XS.iloadN X19.here hx rfl (hb hby at_144) rfl ?_
    show Steps p.tables e below (T19.setTop (mkF m 145 #[.val (.long q1), .second, .val (.int p2), .val (.int p3), .val (.int p4), .val (.ref w_OUT), .val (.int (3 : Int32)), .val (.ref b7), .val (.ref f), .val (.ref o1), .val (.int (1 : Int32)), .val (.ref o2)] [(.int p3), (.int (3 : Int32)), (.ref o2)])) _
    refine st20 _ ?_
    show Steps p.tables e below (T20.setTop (mkF m 148 #[.val (.long q1), .second, .val (.int p2), .val (.int p3), .val (.int p4), .val (.ref w_OUT), .val (.int (3 : Int32)), .val (.ref b7), .val (.ref f), .val (.ref o1), .val (.int (1 : Int32)), .val (.ref o2)] [(.int (1 : Int32))])) _
    refine XS.ifNo X20.here hx rfl (hb hby at_148) rfl ((if0 _ _).trans (feq (by decide)).1) ?_
    show Steps p.tables e below (T20.setTop (mkF m 151 #[.val (.long q1), .second, .val (.int p2), .val (.int p3), .val (.int p4), .val (.ref w_OUT), .val (.int (3 : Int32)), .val (.ref b7), .val (.ref f), .val (.ref o1), .val (.int (1 : Int32)), .val (.ref o2)] [])) _
    refine XS.iconst X20.here hx rfl (hb hby at_151) ?_
    show Steps p.tables e below (T20.setTop (mkF m 152 #[.val (.long q1), .second, .val (.int p2), .val (.int p3), .val (.int p4), .val (.ref w_OUT), .val (.int (3 : Int32)), .val (.ref b7), .val (.ref f), .val (.ref o1), .val (.int (1 : Int32)), .val (.ref o2)] [(.int (1 : Int32))])) _
    refine XS.goto X20.here hx rfl (pc0 := 152) (pc' := 156) rfl (hb hby at_152) (by decide) (by decide) ?_
    show Steps p.tables e below (T20.setTop (mkF m 156 #[.val (.long q1), .second, .val (.int p2), .val (.int p3), .val (.int p4), .val (.ref w_OUT), .val (.int (3 : Int32)), .val (.ref b7), .val (.ref f), .val (.ref o1), .val (.int (1 : Int32)), .val (.ref o2)] [(.int (1 : Int32))])) _
    refine XS.istore X20.here hx rfl (hb hby at_156) rfl (l' := #[.val (.long q1), .second, .val (.int p2), .val (.int p3), .val (.int p4), .val (.ref w_OUT), .val (.int (3 : Int32)), .val (.ref b7), .val (.ref f), .val (.ref o1), .val (.int (1 : Int32)), .val (.ref o2)]) rfl ?_
    show Steps p.tables e below (T20.setTop (mkF m 158 #[.val (.long q1), .second, .val (.int p2), .val (.int p3), .val (.int p4), .val (.ref w_OUT), .val (.int (3 : Int32)), .val (.ref b7), .val (.ref f), .val (.ref o1), .val (.int (1 : Int32)), .val (.ref o2)] [])) _
    refine XS.iload X20.here hx rfl (hb hby at_158) rfl ?_
    show Steps p.tables e below (T20.setTop (mkF m 160 #[.val (.long q1), .second, .val (.int p2), .val (.int p3), .val (.int p4), .val (.ref w_OUT), .val (.int (3 : Int32)), .val (.ref b7), .val (.ref f), .val (.ref o1), .val (.int (1 : Int32)), .val (.ref o2)] [(.int (1 : Int32))])) _
    refine XS.ifNo X20.here hx rfl (hb hby at_160) rfl ((if0 _ _).trans (feq (by decide)).1) ?_
    show Steps p.tables e below (T20.setTop (mkF m 163 #[.val (.long q1), .second, .val (.int p2), .val (.int p3), .val (.int p4), .val (.ref w_OUT), .val (.int (3 : Int32)), .val (.ref b7), .val (.ref f), .val (.ref o1), .val (.int (1 : Int32)), .val (.ref o2)] [])) _
    refine XS.aload X20.here hx rfl (hb hby at_163) rfl rfl ?_
    show Steps p.tables e below (T20.setTop (mkF m 165 #[.val (.long q1), .second, .val (.int p2), .val (.int p3), .val (.int p4), .val (.ref w_OUT), .val (.int (3 : Int32)), .val (.ref b7), .val (.ref f), .val (.ref o1), .val (.int (1 : Int32)), .val (.ref o2)] [(.ref f)])) _
    refine st21.trans ?_
    show Steps p.tables e below (T21.setTop (mkF m 168 #[.val (.long q1), .second, .val (.int p2), .val (.int p3), .val (.int p4), .val (.ref w_OUT), .val (.int (3 : Int32)), .val (.ref b7), .val (.ref f), .val (.ref o1), .val (.int (1 : Int32)), .val (.ref o2)] [(.long q1)])) _
    refine XS.lloadN X21.here hx rfl (hb hby at_168) rfl ?_
    show Steps p.tables e below (T21.setTop (mkF m 169 #[.val (.long q1), .second, .val (.int p2), .val (.int p3), .val (.int p4), .val (.ref w_OUT), .val (.int (3 : Int32)), .val (.ref b7), .val (.ref f), .val (.ref o1), .val (.int (1 : Int32)), .val (.ref o2)] [(.long q1), (.long q1)])) _
    refine XS.lcmp X21.here hx rfl (hb hby at_169) rfl ?_
    show Steps p.tables e below (T21.setTop (mkF m 170 #[.val (.long q1), .second, .val (.int p2), .val (.int p3), .val (.int p4), .val (.ref w_OUT), .val (.int (3 : Int32)), .val (.ref b7), .val (.ref f), .val (.ref o1), .val (.int (1 : Int32)), .val (.ref o2)] [(.int (lcmpW q1 q1))])) _
    refine XS.ifNo X21.here hx rfl (hb hby at_170) rfl ((if0 _ _).trans (teq ((lw_eq q1 q1).mpr rfl)).2) ?_
    show Steps p.tables e below (T21.setTop (mkF m 173 #[.val (.long q1), .second, .val (.int p2), .val (.int p3), .val (.int p4), .val (.ref w_OUT), .val (.int (3 : Int32)), .val (.ref b7), .val (.ref f), .val (.ref o1), .val (.int (1 : Int32)), .val (.ref o2)] [])) _
    refine XS.iconst X21.here hx rfl (hb hby at_173) ?_
    show Steps p.tables e below (T21.setTop (mkF m 174 #[.val (.long q1), .second, .val (.int p2), .val (.int p3), .val (.int p4), .val (.ref w_OUT), .val (.int (3 : Int32)), .val (.ref b7), .val (.ref f), .val (.ref o1), .val (.int (1 : Int32)), .val (.ref o2)] [(.int (1 : Int32))])) _
    refine XS.goto X21.here hx rfl (pc0 := 174) (pc' := 178) rfl (hb hby at_174) (by decide) (by decide) ?_
    show Steps p.tables e below (T21.setTop (mkF m 178 #[.val (.long q1), .second, .val (.int p2), .val (.int p3), .val (.int p4), .val (.ref w_OUT), .val (.int (3 : Int32)), .val (.ref b7), .val (.ref f), .val (.ref o1), .val (.int (1 : Int32)), .val (.ref o2)] [(.int (1 : Int32))])) _
    refine XS.istore X21.here hx rfl (hb hby at_178) rfl (l' := #[.val (.long q1), .second, .val (.int p2), .val (.int p3), .val (.int p4), .val (.ref w_OUT), .val (.int (3 : Int32)), .val (.ref b7), .val (.ref f), .val (.ref o1), .val (.int (1 : Int32)), .val (.ref o2)]) rfl ?_
    show Steps p.tables e below (T21.setTop (mkF m 180 #[.val (.long q1), .second, .val (.int p2), .val (.int p3), .val (.int p4), .val (.ref w_OUT), .val (.int (3 : Int32)), .val (.ref b7), .val (.ref f), .val (.ref o1), .val (.int (1 : Int32)), .val (.ref o2)] [])) _
    refine XS.iload X21.here hx rfl (hb hby at_180) rfl ?_
    show Steps p.tables e below (T21.setTop (mkF m 182 #[.val (.long q1), .second, .val (.int p2), .val (.int p3), .val (.int p4), .val (.ref w_OUT), .val (.int (3 : Int32)), .val (.ref b7), .val (.ref f), .val (.ref o1), .val (.int (1 : Int32)), .val (.ref o2)] [(.int (1 : Int32))])) _
    refine XS.ifNo X21.here hx rfl (hb hby at_182) rfl ((if0 _ _).trans (feq (by decide)).1) ?_
    show Steps p.tables e below (T21.setTop (mkF m 185 #[.val (.long q1), .second, .val (.int p2), .val (.int p3), .val (.int p4), .val (.ref w_OUT), .val (.int (3 : Int32)), .val (.ref b7), .val (.ref f), .val (.ref o1), .val (.int (1 : Int32)), .val (.ref o2)] [])) _
    refine XS.aload X21.here hx rfl (hb hby at_185) rfl rfl ?_
    show Steps p.tables e below (T21.setTop (mkF m 187 #[.val (.long q1), .second, .val (.int p2), .val (.int p3), .val (.int p4), .val (.ref w_OUT), .val (.int (3 : Int32)), .val (.ref b7), .val (.ref f), .val (.ref o1), .val (.int (1 : Int32)), .val (.ref o2)] [(.ref f)])) _
    refine st22.trans ?_
    show Steps p.tables e below (T22.setTop (mkF m 190 #[.val (.long q1), .second, .val (.int p2), .val (.int p3), .val (.int p4), .val (.ref w_OUT), .val (.int (3 : Int32)), .val (.ref b7), .val (.ref f), .val (.ref o1), .val (.int (1 : Int32)), .val (.ref o2)] [(.ref w_OUT)])) _
    refine XS.aload X22.here hx rfl (hb hby at_190) rfl rfl ?_
    show Steps p.tables e below (T22.setTop (mkF m 192 #[.val (.long q1), .second, .val (.int p2), .val (.int p3), .val (.int p4), .val (.ref w_OUT), .val (.int (3 : Int32)), .val (.ref b7), .val (.ref f), .val (.ref o1), .val (.int (1 : Int32)), .val (.ref o2)] [(.ref w_OUT), (.ref w_OUT)])) _
    refine Jvm.RoadKit.acmp (g := (mkF m 192 #[.val (.long q1), .second, .val (.int p2), .val (.int p3), .val (.int p4), .val (.ref w_OUT), .val (.int (3 : Int32)), .val (.ref b7), .val (.ref f), .val (.ref o1), .val (.int (1 : Int32)), .val (.ref o2)] [(.ref w_OUT), (.ref w_OUT)])) X22 hx rfl rfl rfl (pc0 := 192) (pc' := 195) (same := true) rfl (hb hby at_192) rfl (decide_eq_true rfl) (by decide) (by decide) ?_
    show Steps p.tables e below (T22.setTop (mkF m 195 #[.val (.long q1), .second, .val (.int p2), .val (.int p3), .val (.int p4), .val (.ref w_OUT), .val (.int (3 : Int32)), .val (.ref b7), .val (.ref f), .val (.ref o1), .val (.int (1 : Int32)), .val (.ref o2)] [])) _
    refine XS.iconst X22.here hx rfl (hb hby at_195) ?_
    show Steps p.tables e below (T22.setTop (mkF m 196 #[.val (.long q1), .second, .val (.int p2), .val (.int p3), .val (.int p4), .val (.ref w_OUT), .val (.int (3 : Int32)), .val (.ref b7), .val (.ref f), .val (.ref o1), .val (.int (1 : Int32)), .val (.ref o2)] [(.int (1 : Int32))])) _
    refine XS.goto X22.here hx rfl (pc0 := 196) (pc' := 200) rfl (hb hby at_196) (by decide) (by decide) ?_
    show Steps p.tables e below (T22.setTop (mkF m 200 #[.val (.long q1), .second, .val (.int p2), .val (.int p3), .val (.int p4), .val (.ref w_OUT), .val (.int (3 : Int32)), .val (.ref b7), .val (.ref f), .val (.ref o1), .val (.int (1 : Int32)), .val (.ref o2)] [(.int (1 : Int32))])) _
    refine XS.istore X22.here hx rfl (hb hby at_200) rfl (l' := #[.val (.long q1), .second, .val (.int p2), .val (.int p3), .val (.int p4), .val (.ref w_OUT), .val (.int (3 : Int32)), .val (.ref b7), .val (.ref f), .val (.ref o1), .val (.int (1 : Int32)), .val (.ref o2)]) rfl ?_
    show Steps p.tables e below (T22.setTop (mkF m 202 #[.val (.long q1), .second, .val (.int p2), .val (.int p3), .val (.int p4), .val (.ref w_OUT), .val (.int (3 : Int32)), .val (.ref b7), .val (.ref f), .val (.ref o1), .val (.int (1 : Int32)), .val (.ref o2)] [])) _
    refine XS.iload X22.here hx rfl (hb hby at_202) rfl ?_
    show Steps p.tables e below (T22.setTop (mkF m 204 #[.val (.long q1), .second, .val (.int p2), .val (.int p3), .val (.int p4), .val (.ref w_OUT), .val (.int (3 : Int32)), .val (.ref b7), .val (.ref f), .val (.ref o1), .val (.int (1 : Int32)), .val (.ref o2)] [(.int (1 : Int32))])) _
    refine XS.ifNo X22.here hx rfl (hb hby at_204) rfl ((if0 _ _).trans (feq (by decide)).1) ?_
    show Steps p.tables e below (T22.setTop (mkF m 207 #[.val (.long q1), .second, .val (.int p2), .val (.int p3), .val (.int p4), .val (.ref w_OUT), .val (.int (3 : Int32)), .val (.ref b7), .val (.ref f), .val (.ref o1), .val (.int (1 : Int32)), .val (.ref o2)] [])) _
    refine XS.aload X22.here hx rfl (hb hby at_207) rfl rfl ?_
    show Steps p.tables e below (T22.setTop (mkF m 209 #[.val (.long q1), .second, .val (.int p2), .val (.int p3), .val (.int p4), .val (.ref w_OUT), .val (.int (3 : Int32)), .val (.ref b7), .val (.ref f), .val (.ref o1), .val (.int (1 : Int32)), .val (.ref o2)] [(.ref f)])) _
    refine st23.trans ?_
    show Steps p.tables e below (T23.setTop (mkF m 212 #[.val (.long q1), .second, .val (.int p2), .val (.int p3), .val (.int p4), .val (.ref w_OUT), .val (.int (3 : Int32)), .val (.ref b7), .val (.ref f), .val (.ref o1), .val (.int (1 : Int32)), .val (.ref o2)] [(.int (0 : Int32))])) _
    refine XS.ifNo X23.here hx rfl (hb hby at_212) rfl ((if0 _ _).trans (teq (by decide)).2) ?_
    show Steps p.tables e below (T23.setTop (mkF m 215 #[.val (.long q1), .second, .val (.int p2), .val (.int p3), .val (.int p4), .val (.ref w_OUT), .val (.int (3 : Int32)), .val (.ref b7), .val (.ref f), .val (.ref o1), .val (.int (1 : Int32)), .val (.ref o2)] [])) _
    refine XS.iconst X23.here hx rfl (hb hby at_215) ?_
    show Steps p.tables e below (T23.setTop (mkF m 216 #[.val (.long q1), .second, .val (.int p2), .val (.int p3), .val (.int p4), .val (.ref w_OUT), .val (.int (3 : Int32)), .val (.ref b7), .val (.ref f), .val (.ref o1), .val (.int (1 : Int32)), .val (.ref o2)] [(.int (1 : Int32))])) _
    refine XS.goto X23.here hx rfl (pc0 := 216) (pc' := 220) rfl (hb hby at_216) (by decide) (by decide) ?_
    show Steps p.tables e below (T23.setTop (mkF m 220 #[.val (.long q1), .second, .val (.int p2), .val (.int p3), .val (.int p4), .val (.ref w_OUT), .val (.int (3 : Int32)), .val (.ref b7), .val (.ref f), .val (.ref o1), .val (.int (1 : Int32)), .val (.ref o2)] [(.int (1 : Int32))])) _
    refine XS.istore X23.here hx rfl (hb hby at_220) rfl (l' := #[.val (.long q1), .second, .val (.int p2), .val (.int p3), .val (.int p4), .val (.ref w_OUT), .val (.int (3 : Int32)), .val (.ref b7), .val (.ref f), .val (.ref o1), .val (.int (1 : Int32)), .val (.ref o2)]) rfl ?_
    show Steps p.tables e below (T23.setTop (mkF m 222 #[.val (.long q1), .second, .val (.int p2), .val (.int p3), .val (.int p4), .val (.ref w_OUT), .val (.int (3 : Int32)), .val (.ref b7), .val (.ref f), .val (.ref o1), .val (.int (1 : Int32)), .val (.ref o2)] [])) _
    refine XS.iload X23.here hx rfl (hb hby at_222) rfl ?_
    show Steps p.tables e below (T23.setTop (mkF m 224 #[.val (.long q1), .second, .val (.int p2), .val (.int p3), .val (.int p4), .val (.ref w_OUT), .val (.int (3 : Int32)), .val (.ref b7), .val (.ref f), .val (.ref o1), .val (.int (1 : Int32)), .val (.ref o2)] [(.int (1 : Int32))])) _
    exact retN X23 hx (t := .boolean) Bd.returns (by simp) (hb hby at_224) hr
  · show Q0 Z h0 n0 _ T23.heap _
    exact ⟨rfl, N23⟩
set_option maxRecDepth 65536 in
set_option maxHeartbeats 40000000 in
theorem rm0_OUT_4 (l : Launch) (Z : State) (a0 : Array Value) (hw : ∀ d ∈ tables_1, d.before a0 Z = true) (ws : List Jvm.Cond) (q1 : Int64) (p2 : Int32) (p3 : Int32) (p4 : Int32) (w_OUT : Addr) (h0 : Heap) (n0 : Nat) (Z0 : n0 ≤ h0.size) (S_OUT : Sta Z h0 "com/example/quotewire/quotewire/wire/Frame$Direction" "OUT" "Lcom/example/quotewire/quotewire/wire/Frame$Direction;" (.ref w_OUT)) (E_OUT : Exa Z h0 w_OUT "com/example/quotewire/quotewire/wire/Frame$Direction") (hc3 : ¬ ((p2 &&& (1 : Int32)) = (0 : Int32))) (hk : ((p4 &&& (7 : Int32)) % (5 : Int32)) = (4 : Int32)) :
    MetFree l x (head1 (Jvm.Cond.code x code maxLocals ret :: ws) room_1) (fun a U => a = #[(.long q1), (.int p2), (.int p3), (.int p4)] ∧ Z.Warmed39 U.vm ∧ U.heap = h0) (fun _ _ _ _ _ => True) (fun _ U o U' => ∃ v L, o = .returned v ∧ Q0 Z h0 n0 v U'.heap L ∧ ReturnedEndW U o U' L room_1.cells room_1.slots) := by
  refine MetFree.of_bodySF (plainFor_of_name pn_0) hisR ?_
  intro p e s m args below meth c s₁ Bd hml0 hP hK
  obtain ⟨rfl, hZ, hh⟩ := hP
  have hx := Bd.exec
  have hby := Bd.bytes
  have hml : c.maxLocals = 12 := hml0
  have hown : s.vm.findClass "com/example/quotewire/quotewire/wire/FrameBinaryPinLaw" = some m.cls := findClass_of_methodNamed Bd.named
  have hnm := (name_of_methodNamed Bd.named Bd.method).1
  have X0 : Stand p l e room_1 s m #[(.long q1), (.int p2), (.int p3), (.int p4)] below meth c s₁ [] 0 0 := Stand.of_body Bd
  have e0 : s₁.heap = h0 := by rw [← hh, Bd.state]; rfl
  have N0 := Fr.nil n0
  have pre0 : ∀ t, Steps p.tables e below (s₁.setTop (mkF m 0 #[.val (.long q1), .second, .val (.int p2), .val (.int p3), .val (.int p4), .unset, .unset, .unset, .unset, .unset, .unset, .unset] [])) t → Steps p.tables e below (s₁.setTop (entryFrame m #[(.long q1), (.int p2), (.int p3), (.int p4)] maxLocals)) t := fun t k => castTop (ef_0 m q1 p2 p3 p4) k
  -- 3. LAWS
  obtain ⟨T6, X6, e6, st6⟩ := getS2 X0 hx hZ hown (host := "") (Or.inl (hw _ (List.mem_of_getElem? (i := 76) rfl))) Via.refl e0 S_OUT (g := (mkF m 6 #[.val (.long q1), .second, .val (.int p2), .val (.int p3), .val (.int p4), .unset, .unset, .unset, .unset, .unset, .unset, .unset] [])) rfl (hb hby at_6)
  obtain ⟨T7, h7, k7, X7, e7, E7, A7, B7, st7⟩ := newPE X6 hx hZ (hw _ (List.mem_of_getElem? (i := 3) rfl)) e6 (g := (mkF m 28 #[.val (.long q1), .second, .val (.int p2), .val (.int p3), .val (.int p4), .val (.ref w_OUT), .val (.int (4 : Int32)), .unset, .unset, .unset, .unset, .unset] [(.int (4 : Int32))])) rfl (hb hby at_28) rfl (by decide) (cap := 4) (by decide) (by decide) (by decide) (by decide) (ad := "[B") (by decide)
  obtain ⟨b7, g7⟩ : ∃ z, z = h0.size := ⟨_, rfl⟩      -- the fresh array's address
  rw [← g7] at A7 B7 st7
  have V0 : Arv Z h7 b7 k7 .byte (4 : Int32) [.int (0 : Int32), .int (0 : Int32), .int (0 : Int32), .int (0 : Int32)] (.int (0 : Int32)) := (Arv.new A7 (by decide)).pad (pad_rep [] (.int (0 : Int32)) 4)
  have g_b7 : n0 ≤ b7 := Nat.le_trans Z0 (Nat.le_of_eq g7.symm)
  have sz_b7 : h0.size ≤ b7 := (Nat.le_trans (Keep.refl h0 []).1 (Nat.le_of_eq g7.symm))
  have K7 : Keep h0 h7 [] := (Keep.refl h0 []).ext E7
  have Zc_0 : n0 ≤ h7.size := Nat.le_trans Z0 K7.1
  have D_0 := E_OUT.ext E7
  obtain ⟨_, _, ⟨T8, L8, k8, n8⟩, -, X8, ⟨Lc8, hQ8, l8, y8, z8⟩, st8⟩ := Jvm.LawKit.callS X7 hx (y := (⟨"com/example/quotewire/quotewire/wire/FrameBinaryPinLaw", "at", "(II)B"⟩ : MethodName)) hown (mvT hZ (hw _ (List.mem_of_getElem? (i := 73) rfl))) (mvT hZ (hw _ (List.mem_of_getElem? (i := 74) rfl))) (mvT hZ (hw _ (List.mem_of_getElem? (i := 48) rfl))) (mvT hZ (hw _ (List.mem_of_getElem? (i := 75) rfl))) (by decide) (backOf (W := 2) (rm11 l Z a0 hw [] p3 (0 : Int32) h7 n0 Zc_0) hZ (hw _ (List.mem_of_getElem? (i := 75) rfl)) (hw _ (List.mem_of_getElem? (i := 48) rfl)) (by decide) (by decide)) (g := (mkF m 42 #[.val (.long q1), .second, .val (.int p2), .val (.int p3), .val (.int p4), .val (.ref w_OUT), .val (.int (4 : Int32)), .val (.ref b7), .unset, .unset, .unset, .unset] [(.int (0 : Int32)), (.int p3), (.int (0 : Int32)), (.ref b7)])) rfl (by rw [hml]; rfl) (argsL := [(.int p3), (.int (0 : Int32))]) (rest := [(.int (0 : Int32)), (.ref b7)]) (lenOf pd_0_11 rfl) rfl (by show 2 * 0 + _ ≤ _; exact Nat.le_of_eq rfl) (hb hby at_42) (fun _ _ => ⟨rfl, e7, (by decide : 1 + 0 ≤ _), (by decide : 4 + 0 ≤ _)⟩)
  dsimp only [Pt.U, Pt.locs, Pt.cells, Pt.slots] at X8 l8 y8 z8 st8 hQ8
  subst l8 y8 z8
  obtain ⟨rfl, N8q, q8⟩ := hQ8
  have N8 := Fr.app N0 N8q
  obtain ⟨c_8, Ar_8, qa_8, S_8, N_8, H_8, G_8⟩ : Arv Z T8.heap b7 k7 .byte (4 : Int32) [.int (0 : Int32), .int (0 : Int32), .int (0 : Int32), .int (0 : Int32)] (.int (0 : Int32)) := by rw [q8]; exact V0
  have hin45 := inb_of (j := (0 : Int32)) S_8 ⟨by decide, by decide⟩
  obtain ⟨T9, h9, X9, e9, W9, st9⟩ := stB X8 hx hZ rfl Ar_8 (j := (0 : Int32)) hin45 (g := (mkF m 45 #[.val (.long q1), .second, .val (.int p2), .val (.int p3), .val (.int p4), .val (.ref w_OUT), .val (.int (4 : Int32)), .val (.ref b7), .unset, .unset, .unset, .unset] [(.int (atF p3 (0 : Int32))), (.int (0 : Int32)), (.ref b7)])) rfl rfl (hb hby at_45)
  rw [own_narAt] at W9
  have V1 : Arv Z h9 b7 k7 .byte (4 : Int32) [.int (atF p3 0), .int (0 : Int32), .int (0 : Int32), .int (0 : Int32)] (.int (0 : Int32)) := Arv.set Ar_8 qa_8 S_8 N_8 H_8 G_8 (by rw [← own_narAt]; exact fits_nar_byte _) W9 0 rfl (Nat.le_of_ble_eq_true rfl)
  have K9 : Keep h0 h9 [] := ((by rw [q8]; exact K7 : Keep h0 T8.heap [])).wr W9 (Or.inr sz_b7)
  have Zc_1 : n0 ≤ h9.size := Nat.le_trans Z0 K9.1
  have D_1 : Exa Z h9 w_OUT "com/example/quotewire/quotewire/wire/Frame$Direction" := ((by rw [q8]; exact D_0 : Exa Z T8.heap w_OUT "com/example/quotewire/quotewire/wire/Frame$Direction")).wr W9
  have BB_1 : Exa Z h9 b7 "[B" := ((by rw [q8]; exact B7 : Exa Z T8.heap b7 "[B")).wr W9
  have N9 := Fr.snoc X9 N8 g_b7
  obtain ⟨_, _, ⟨T10, L10, k10, n10⟩, -, X10, ⟨Lc10, hQ10, l10, y10, z10⟩, st10⟩ := Jvm.LawKit.callS X9 hx (y := (⟨"com/example/quotewire/quotewire/wire/FrameBinaryPinLaw", "at", "(II)B"⟩ : MethodName)) hown (mvT hZ (hw _ (List.mem_of_getElem? (i := 73) rfl))) (mvT hZ (hw _ (List.mem_of_getElem? (i := 74) rfl))) (mvT hZ (hw _ (List.mem_of_getElem? (i := 48) rfl))) (mvT hZ (hw _ (List.mem_of_getElem? (i := 75) rfl))) (by decide) (backOf (W := 2) (rm11 l Z a0 hw [] p3 (1 : Int32) h9 n0 Zc_1) hZ (hw _ (List.mem_of_getElem? (i := 75) rfl)) (hw _ (List.mem_of_getElem? (i := 48) rfl)) (by decide) (by decide)) (g := (mkF m 57 #[.val (.long q1), .second, .val (.int p2), .val (.int p3), .val (.int p4), .val (.ref w_OUT), .val (.int (4 : Int32)), .val (.ref b7), .unset, .unset, .unset, .unset] [(.int (1 : Int32)), (.int p3), (.int (1 : Int32)), (.ref b7)])) rfl (by rw [hml]; rfl) (argsL := [(.int p3), (.int (1 : Int32))]) (rest := [(.int (1 : Int32)), (.ref b7)]) (lenOf pd_0_11 rfl) rfl (by show 2 * 0 + _ ≤ _; exact Nat.le_of_eq rfl) (hb hby at_57) (fun _ _ => ⟨rfl, e9, (by decide : 1 + 0 ≤ _), (by decide : 4 + 0 ≤ _)⟩)
  dsimp only [Pt.U, Pt.locs, Pt.cells, Pt.slots] at X10 l10 y10 z10 st10 hQ10
  subst l10 y10 z10
  obtain ⟨rfl, N10q, q10⟩ := hQ10
  have N10 := Fr.app N9 N10q
  obtain ⟨c_10, Ar_10, qa_10, S_10, N_10, H_10, G_10⟩ : Arv Z T10.heap b7 k7 .byte (4 : Int32) [.int (atF p3 0), .int (0 : Int32), .int (0 : Int32), .int (0 : Int32)] (.int (0 : Int32)) := by rw [q10]; exact V1
  have hin60 := inb_of (j := (1 : Int32)) S_10 ⟨by decide, by decide⟩
  obtain ⟨T11, h11, X11, e11, W11, st11⟩ := stB X10 hx hZ rfl Ar_10 (j := (1 : Int32)) hin60 (g := (mkF m 60 #[.val (.long q1), .second, .val (.int p2), .val (.int p3), .val (.int p4), .val (.ref w_OUT), .val (.int (4 : Int32)), .val (.ref b7), .unset, .unset, .unset, .unset] [(.int (atF p3 (1 : Int32))), (.int (1 : Int32)), (.ref b7)])) rfl rfl (hb hby at_60)
  rw [own_narAt] at W11
  have V2 : Arv Z h11 b7 k7 .byte (4 : Int32) [.int (atF p3 0), .int (atF p3 1), .int (0 : Int32), .int (0 : Int32)] (.int (0 : Int32)) := Arv.set Ar_10 qa_10 S_10 N_10 H_10 G_10 (by rw [← own_narAt]; exact fits_nar_byte _) W11 1 rfl (Nat.le_of_ble_eq_true rfl)
  have K11 : Keep h0 h11 [] := ((by rw [q10]; exact K9 : Keep h0 T10.heap [])).wr W11 (Or.inr sz_b7)
  have Zc_2 : n0 ≤ h11.size := Nat.le_trans Z0 K11.1
  have D_2 : Exa Z h11 w_OUT "com/example/quotewire/quotewire/wire/Frame$Direction" := ((by rw [q10]; exact D_1 : Exa Z T10.heap w_OUT "com/example/quotewire/quotewire/wire/Frame$Direction")).wr W11
  have BB_2 : Exa Z h11 b7 "[B" := ((by rw [q10]; exact BB_1 : Exa Z T10.heap b7 "[B")).wr W11
  have N11 := Fr.snoc X11 N10 g_b7
  obtain ⟨_, _, ⟨T12, L12, k12, n12⟩, -, X12, ⟨Lc12, hQ12, l12, y12, z12⟩, st12⟩ := Jvm.LawKit.callS X11 hx (y := (⟨"com/example/quotewire/quotewire/wire/FrameBinaryPinLaw", "at", "(II)B"⟩ : MethodName)) hown (mvT hZ (hw _ (List.mem_of_getElem? (i := 73) rfl))) (mvT hZ (hw _ (List.mem_of_getElem? (i := 74) rfl))) (mvT hZ (hw _ (List.mem_of_getElem? (i := 48) rfl))) (mvT hZ (hw _ (List.mem_of_getElem? (i := 75) rfl))) (by decide) (backOf (W := 2) (rm11 l Z a0 hw [] p3 (2 : Int32) h11 n0 Zc_2) hZ (hw _ (List.mem_of_getElem? (i := 75) rfl)) (hw _ (List.mem_of_getElem? (i := 48) rfl)) (by decide) (by decide)) (g := (mkF m 72 #[.val (.long q1), .second, .val (.int p2), .val (.int p3), .val (.int p4), .val (.ref w_OUT), .val (.int (4 : Int32)), .val (.ref b7), .unset, .unset, .unset, .unset] [(.int (2 : Int32)), (.int p3), (.int (2 : Int32)), (.ref b7)])) rfl (by rw [hml]; rfl) (argsL := [(.int p3), (.int (2 : Int32))]) (rest := [(.int (2 : Int32)), (.ref b7)]) (lenOf pd_0_11 rfl) rfl (by show 2 * 0 + _ ≤ _; exact Nat.le_of_eq rfl) (hb hby at_72) (fun _ _ => ⟨rfl, e11, (by decide : 1 + 0 ≤ _), (by decide : 4 + 0 ≤ _)⟩)
  dsimp only [Pt.U, Pt.locs, Pt.cells, Pt.slots] at X12 l12 y12 z12 st12 hQ12
  subst l12 y12 z12
  obtain ⟨rfl, N12q, q12⟩ := hQ12
  have N12 := Fr.app N11 N12q
  obtain ⟨c_12, Ar_12, qa_12, S_12, N_12, H_12, G_12⟩ : Arv Z T12.heap b7 k7 .byte (4 : Int32) [.int (atF p3 0), .int (atF p3 1), .int (0 : Int32), .int (0 : Int32)] (.int (0 : Int32)) := by rw [q12]; exact V2
  have hin75 := inb_of (j := (2 : Int32)) S_12 ⟨by decide, by decide⟩
  obtain ⟨T13, h13, X13, e13, W13, st13⟩ := stB X12 hx hZ rfl Ar_12 (j := (2 : Int32)) hin75 (g := (mkF m 75 #[.val (.long q1), .second, .val (.int p2), .val (.int p3), .val (.int p4), .val (.ref w_OUT), .val (.int (4 : Int32)), .val (.ref b7), .unset, .unset, .unset, .unset] [(.int (atF p3 (2 : Int32))), (.int (2 : Int32)), (.ref b7)])) rfl rfl (hb hby at_75)
  rw [own_narAt] at W13
  have V3 : Arv Z h13 b7 k7 .byte (4 : Int32) [.int (atF p3 0), .int (atF p3 1), .int (atF p3 2), .int (0 : Int32)] (.int (0 : Int32)) := Arv.set Ar_12 qa_12 S_12 N_12 H_12 G_12 (by rw [← own_narAt]; exact fits_nar_byte _) W13 2 rfl (Nat.le_of_ble_eq_true rfl)
  have K13 : Keep h0 h13 [] := ((by rw [q12]; exact K11 : Keep h0 T12.heap [])).wr W13 (Or.inr sz_b7)
  have Zc_3 : n0 ≤ h13.size := Nat.le_trans Z0 K13.1
  have D_3 : Exa Z h13 w_OUT "com/example/quotewire/quotewire/wire/Frame$Direction" := ((by rw [q12]; exact D_2 : Exa Z T12.heap w_OUT "com/example/quotewire/quotewire/wire/Frame$Direction")).wr W13
  have BB_3 : Exa Z h13 b7 "[B" := ((by rw [q12]; exact BB_2 : Exa Z T12.heap b7 "[B")).wr W13
  have N13 := Fr.snoc X13 N12 g_b7
  obtain ⟨_, _, ⟨T14, L14, k14, n14⟩, -, X14, ⟨Lc14, hQ14, l14, y14, z14⟩, st14⟩ := Jvm.LawKit.callS X13 hx (y := (⟨"com/example/quotewire/quotewire/wire/FrameBinaryPinLaw", "at", "(II)B"⟩ : MethodName)) hown (mvT hZ (hw _ (List.mem_of_getElem? (i := 73) rfl))) (mvT hZ (hw _ (List.mem_of_getElem? (i := 74) rfl))) (mvT hZ (hw _ (List.mem_of_getElem? (i := 48) rfl))) (mvT hZ (hw _ (List.mem_of_getElem? (i := 75) rfl))) (by decide) (backOf (W := 2) (rm11 l Z a0 hw [] p3 (3 : Int32) h13 n0 Zc_3) hZ (hw _ (List.mem_of_getElem? (i := 75) rfl)) (hw _ (List.mem_of_getElem? (i := 48) rfl)) (by decide) (by decide)) (g := (mkF m 87 #[.val (.long q1), .second, .val (.int p2), .val (.int p3), .val (.int p4), .val (.ref w_OUT), .val (.int (4 : Int32)), .val (.ref b7), .unset, .unset, .unset, .unset] [(.int (3 : Int32)), (.int p3), (.int (3 : Int32)), (.ref b7)])) rfl (by rw [hml]; rfl) (argsL := [(.int p3), (.int (3 : Int32))]) (rest := [(.int (3 : Int32)), (.ref b7)]) (lenOf pd_0_11 rfl) rfl (by show 2 * 0 + _ ≤ _; exact Nat.le_of_eq rfl) (hb hby at_87) (fun _ _ => ⟨rfl, e13, (by decide : 1 + 0 ≤ _), (by decide : 4 + 0 ≤ _)⟩)
  dsimp only [Pt.U, Pt.locs, Pt.cells, Pt.slots] at X14 l14 y14 z14 st14 hQ14
  subst l14 y14 z14
  obtain ⟨rfl, N14q, q14⟩ := hQ14
  have N14 := Fr.app N13 N14q
  obtain ⟨c_14, Ar_14, qa_14, S_14, N_14, H_14, G_14⟩ : Arv Z T14.heap b7 k7 .byte (4 : Int32) [.int (atF p3 0), .int (atF p3 1), .int (atF p3 2), .int (0 : Int32)] (.int (0 : Int32)) := by rw [q14]; exact V3
  have hin90 := inb_of (j := (3 : Int32)) S_14 ⟨by decide, by decide⟩
  obtain ⟨T15, h15, X15, e15, W15, st15⟩ := stB X14 hx hZ rfl Ar_14 (j := (3 : Int32)) hin90 (g := (mkF m 90 #[.val (.long q1), .second, .val (.int p2), .val (.int p3), .val (.int p4), .val (.ref w_OUT), .val (.int (4 : Int32)), .val (.ref b7), .unset, .unset, .unset, .unset] [(.int (atF p3 (3 : Int32))), (.int (3 : Int32)), (.ref b7)])) rfl rfl (hb hby at_90)
  rw [own_narAt] at W15
  have V4 : Arv Z h15 b7 k7 .byte (4 : Int32) [.int (atF p3 0), .int (atF p3 1), .int (atF p3 2), .int (atF p3 3)] (.int (0 : Int32)) := Arv.set Ar_14 qa_14 S_14 N_14 H_14 G_14 (by rw [← own_narAt]; exact fits_nar_byte _) W15 3 rfl (Nat.le_of_ble_eq_true rfl)
  have K15 : Keep h0 h15 [] := ((by rw [q14]; exact K13 : Keep h0 T14.heap [])).wr W15 (Or.inr sz_b7)
  have Zc_4 : n0 ≤ h15.size := Nat.le_trans Z0 K15.1
  have D_4 : Exa Z h15 w_OUT "com/example/quotewire/quotewire/wire/Frame$Direction" := ((by rw [q14]; exact D_3 : Exa Z T14.heap w_OUT "com/example/quotewire/quotewire/wire/Frame$Direction")).wr W15
  have BB_4 : Exa Z h15 b7 "[B" := ((by rw [q14]; exact BB_3 : Exa Z T14.heap b7 "[B")).wr W15
  have N15 := Fr.snoc X15 N14 g_b7
  have D_c : Exa Z h15 w_OUT "com/example/quotewire/quotewire/wire/Frame$Direction" := D_4
  have B_c : Exa Z h15 b7 "[B" := BB_4
  obtain ⟨_, _, ⟨T16, L16, k16, n16⟩, -, X16, S16, gr16, ⟨Lc16, hQ16, l16, y16, z16⟩, st16⟩ := callSS X15 hx (y := (⟨"com/example/quotewire/quotewire/wire/Frame", "binary", "(JLcom/example/quotewire/quotewire/wire/Frame$Direction;[B)Lcom/example/quotewire/quotewire/wire/Frame;"⟩ : MethodName)) hown (mvT hZ (hw _ (List.mem_of_getElem? (i := 4) rfl))) (mvT hZ (hw _ (List.mem_of_getElem? (i := 5) rfl))) (mvT hZ (hw _ (List.mem_of_getElem? (i := 6) rfl))) (mvT hZ (hw _ (List.mem_of_getElem? (i := 7) rfl))) (by decide) (backOfS (W := 0) (rm1 l Z a0 hw [] q1 w_OUT b7 k7 (4 : Int32) [.int (atF p3 0), .int (atF p3 1), .int (atF p3 2), .int (atF p3 3)] (.int (0 : Int32)) h15 n0 Zc_4 D_c B_c V4 (by decide)) hZ (hw _ (List.mem_of_getElem? (i := 7) rfl)) (hw _ (List.mem_of_getElem? (i := 6) rfl)) (by decide) (by decide)) (g := (mkF m 96 #[.val (.long q1), .second, .val (.int p2), .val (.int p3), .val (.int p4), .val (.ref w_OUT), .val (.int (4 : Int32)), .val (.ref b7), .unset, .unset, .unset, .unset] [(.ref b7), (.ref w_OUT), (.long q1)])) rfl (by rw [hml]; rfl) (argsL := [(.long q1), (.ref w_OUT), (.ref b7)]) (rest := []) (lenOf pd_0_0 rfl) rfl (by show 2 * 0 + _ ≤ _; exact Nat.le_of_eq rfl) (hb hby at_96) (fun _ _ => ⟨rfl, e15, (by decide : 1 + 4 ≤ _), (by decide : 4 + 48 ≤ _)⟩)
  dsimp only [Pt.U, Pt.locs, Pt.cells, Pt.slots] at X16 S16 gr16 l16 y16 z16 st16 hQ16
  subst l16 y16 z16
  obtain ⟨N16q, f, fb, rfl, zf, zb, K16, Ef_16, Eb_16, Ft_16, Fd_16, Fx_16, Fb_16, Vb_16⟩ := hQ16
  have hZw : Z.Warmed39 (s.setVm T16.vm).vm := State.Warmed39.trans (t := s) hZ S16.1
  have hownw : (s.setVm T16.vm).vm.findClass "com/example/quotewire/quotewire/wire/FrameBinaryPinLaw" = some m.cls := by rw [show (s.setVm T16.vm).vm = T16.vm from rfl, S16.1.alike.findClass]; exact hown
  have Z_16 : n0 ≤ T16.heap.size := Nat.le_trans Zc_4 K16.1
  have Vs : Arv Z T16.heap b7 k7 .byte (4 : Int32) [.int (atF p3 0), .int (atF p3 1), .int (atF p3 2), .int (atF p3 3)] (.int (0 : Int32)) := V4.keep K16 (fun q => nomatch q)
  have lb : b7 < h15.size := V4.lt
  have nf : f ∉ [b7] := fun q => absurd (List.mem_singleton.mp q) (Nat.ne_of_gt (Nat.lt_of_lt_of_le lb zf))
  have nb : fb ∉ [b7] := fun q => absurd (List.mem_singleton.mp q) (Nat.ne_of_gt (Nat.lt_of_lt_of_le lb zb))
  have N16 := Fr.app N15 N16q
  obtain ⟨_, _, ⟨T17, L17, k17, n17⟩, -, X17, ⟨Lc17, hQ17, l17, y17, z17⟩, st17⟩ := Jvm.LawKit.callS X16 hx (y := (⟨"com/example/quotewire/quotewire/wire/FrameBinaryPinLaw", "flip", "([B)V"⟩ : MethodName)) hownw (mvT hZw (hw _ (List.mem_of_getElem? (i := 46) rfl))) (mvT hZw (hw _ (List.mem_of_getElem? (i := 47) rfl))) (mvT hZw (hw _ (List.mem_of_getElem? (i := 48) rfl))) (mvT hZw (hw _ (List.mem_of_getElem? (i := 49) rfl))) (by decide) (backOf (W := 0) (rm5_4 l Z a0 hw [] b7 k7 (atF p3 (0 : Int32)) (atF p3 (1 : Int32)) (atF p3 (2 : Int32)) (atF p3 (3 : Int32)) (.int (0 : Int32)) T16.heap n0 Z_16 Vs g_b7) hZw (hw _ (List.mem_of_getElem? (i := 49) rfl)) (hw _ (List.mem_of_getElem? (i := 48) rfl)) (by decide) (by decide)) (g := (mkF m 103 #[.val (.long q1), .second, .val (.int p2), .val (.int p3), .val (.int p4), .val (.ref w_OUT), .val (.int (4 : Int32)), .val (.ref b7), .val (.ref f), .unset, .unset, .unset] [(.ref b7)])) rfl (by rw [hml]; rfl) (argsL := [(.ref b7)]) (rest := []) (lenOf pd_0_5 rfl) rfl (by show 2 * 0 + _ ≤ _; exact Nat.le_of_eq rfl) (hb hby at_103) (fun _ _ => ⟨rfl, rfl, (by decide : 5 + 0 ≤ _), (by decide : 52 + 0 ≤ _)⟩)
  dsimp only [Pt.U, Pt.locs, Pt.cells, Pt.slots] at X17 l17 y17 z17 st17 hQ17
  subst l17 y17 z17
  obtain ⟨rfl, N17q, K17⟩ := hQ17
  have Ef_17 := Ef_16.keep K17
  have Eb_17 := Eb_16.keep K17
  have Ft_17 := Ft_16.keep K17 nf
  have Fd_17 := Fd_16.keep K17 nf
  have Fx_17 := Fx_16.keep K17 nf
  have Fb_17 := Fb_16.keep K17 nf
  have Vb_17 := Vb_16.keep K17 nb
  have Z_17 : n0 ≤ T17.heap.size := Nat.le_trans Z_16 K17.1
  have N17 := Fr.app N16 N17q
  obtain ⟨cq18, kq18, q18a, q18b, q18c⟩ := isOf hZw rfl Ef_17
  obtain ⟨_, _, ⟨T18, L18, k18, n18⟩, -, X18, ⟨Lc18, hQ18, l18, y18, z18⟩, st18⟩ := X17.virtualBack hx (y := (⟨"com/example/quotewire/quotewire/wire/Frame", "binary", "()[B"⟩ : MethodName)) (z := (⟨"com/example/quotewire/quotewire/wire/Frame", "binary", "()[B"⟩ : MethodName)) hownw (mvT hZw (hw _ (List.mem_of_getElem? (i := 50) rfl))) (mvT hZw (hw _ (List.mem_of_getElem? (i := 51) rfl))) (notFace_of_selects (args := #[]) (mvT hZw (hw _ (List.mem_of_getElem? (i := 53) rfl)))) (mvT hZw (hw _ (List.mem_of_getElem? (i := 53) rfl))) (mvT hZw (hw _ (List.mem_of_getElem? (i := 52) rfl))) (by decide) (backOf (W := 0) (rm6 l Z a0 hw [] f fb k7 (4 : Int32) [.int (atF p3 0), .int (atF p3 1), .int (atF p3 2), .int (atF p3 3)] (.int (0 : Int32)) T17.heap n0 Z_17 Fb_17 Eb_17 Vb_17 (by decide)) hZw (hw _ (List.mem_of_getElem? (i := 54) rfl)) (hw _ (List.mem_of_getElem? (i := 6) rfl)) (by decide) (by decide)) q18a q18c (g := (mkF m 108 #[.val (.long q1), .second, .val (.int p2), .val (.int p3), .val (.int p4), .val (.ref w_OUT), .val (.int (4 : Int32)), .val (.ref b7), .val (.ref f), .unset, .unset, .unset] [(.ref f)])) rfl (by rw [hml]; rfl) (Steps.refl _) (argsL := []) (rest := []) (lenOf pd_0_6 rfl) rfl (by show 2 * 0 + _ ≤ _; exact Nat.le_of_eq rfl) (hb hby at_108) (fun _ _ => ⟨rfl, rfl, (by decide : 5 + 1 ≤ _), (by decide : 52 + 4 ≤ _)⟩)
  dsimp only [Pt.U, Pt.locs, Pt.cells, Pt.slots] at X18 l18 y18 z18 st18 hQ18
  subst l18 y18 z18
  obtain ⟨N18q, o1, rfl, zo1, K18, Vo1, Eo1⟩ := hQ18
  have nf1 : f ∉ [o1] := fun q => absurd (List.mem_singleton.mp q) (Nat.ne_of_lt (Nat.lt_of_lt_of_le Ef_17.lt zo1))
  have nb1 : fb ∉ [o1] := fun q => absurd (List.mem_singleton.mp q) (Nat.ne_of_lt (Nat.lt_of_lt_of_le Eb_17.lt zo1))
  have g_o1 : n0 ≤ o1 := Nat.le_trans Z_17 zo1
  have Ef_18 := Ef_17.keep K18
  have Eb_18 := Eb_17.keep K18
  have Ft_18 := Ft_17.keep K18 (fun q => nomatch q)
  have Fd_18 := Fd_17.keep K18 (fun q => nomatch q)
  have Fx_18 := Fx_17.keep K18 (fun q => nomatch q)
  have Fb_18 := Fb_17.keep K18 (fun q => nomatch q)
  have Vb_18 := Vb_17.keep K18 (fun q => nomatch q)
  have Z_18 : n0 ≤ T18.heap.size := Nat.le_trans Z_17 K18.1
  have N18 := Fr.app N17 N18q
  obtain ⟨_, _, ⟨T19, L19, k19, n19⟩, -, X19, ⟨Lc19, hQ19, l19, y19, z19⟩, st19⟩ := Jvm.LawKit.callS X18 hx (y := (⟨"com/example/quotewire/quotewire/wire/FrameBinaryPinLaw", "same", "([BII)Z"⟩ : MethodName)) hownw (mvT hZw (hw _ (List.mem_of_getElem? (i := 55) rfl))) (mvT hZw (hw _ (List.mem_of_getElem? (i := 56) rfl))) (mvT hZw (hw _ (List.mem_of_getElem? (i := 48) rfl))) (mvT hZw (hw _ (List.mem_of_getElem? (i := 57) rfl))) (by decide) (backOf (W := 0) (rm7_4 l Z a0 hw [] o1 p3 k7 (.int (0 : Int32)) T18.heap n0 Z_18 Vo1) hZw (hw _ (List.mem_of_getElem? (i := 57) rfl)) (hw _ (List.mem_of_getElem? (i := 48) rfl)) (by decide) (by decide)) (g := (mkF m 118 #[.val (.long q1), .second, .val (.int p2), .val (.int p3), .val (.int p4), .val (.ref w_OUT), .val (.int (4 : Int32)), .val (.ref b7), .val (.ref f), .val (.ref o1), .unset, .unset] [(.int p3), (.int (4 : Int32)), (.ref o1)])) rfl (by rw [hml]; rfl) (argsL := [(.ref o1), (.int (4 : Int32)), (.int p3)]) (rest := []) (lenOf pd_0_7 rfl) rfl (by show 2 * 0 + _ ≤ _; exact Nat.le_of_eq rfl) (hb hby at_118) (fun _ _ => ⟨rfl, rfl, (by decide : 6 + 0 ≤ _), (by decide : 56 + 0 ≤ _)⟩)
  dsimp only [Pt.U, Pt.locs, Pt.cells, Pt.slots] at X19 l19 y19 z19 st19 hQ19
  subst l19 y19 z19
  obtain ⟨rfl, N19q, q19⟩ := hQ19
  have K19 : Keep T18.heap T19.heap [] := by rw [q19]; exact Keep.refl _ _
  have Vo1_ := Vo1.keep K19 (fun q => nomatch q)
  have Ef_19 := Ef_18.keep K19
  have Eb_19 := Eb_18.keep K19
  have Ft_19 := Ft_18.keep K19 (fun q => nomatch q)
  have Fd_19 := Fd_18.keep K19 (fun q => nomatch q)
  have Fx_19 := Fx_18.keep K19 (fun q => nomatch q)
  have Fb_19 := Fb_18.keep K19 (fun q => nomatch q)
  have Vb_19 := Vb_18.keep K19 (fun q => nomatch q)
  have Z_19 : n0 ≤ T19.heap.size := Nat.le_trans Z_18 K19.1
  have N19 := Fr.app N18 N19q
  obtain ⟨_, _, ⟨T20, L20, k20, n20⟩, -, X20, ⟨Lc20, hQ20, l20, y20, z20⟩, st20⟩ := Jvm.LawKit.callS X19 hx (y := (⟨"com/example/quotewire/quotewire/wire/FrameBinaryPinLaw", "flip", "([B)V"⟩ : MethodName)) hownw (mvT hZw (hw _ (List.mem_of_getElem? (i := 46) rfl))) (mvT hZw (hw _ (List.mem_of_getElem? (i := 47) rfl))) (mvT hZw (hw _ (List.mem_of_getElem? (i := 48) rfl))) (mvT hZw (hw _ (List.mem_of_getElem? (i := 49) rfl))) (by decide) (backOf (W := 0) (rm5_4 l Z a0 hw [] o1 k7 (atF p3 (0 : Int32)) (atF p3 (1 : Int32)) (atF p3 (2 : Int32)) (atF p3 (3 : Int32)) (.int (0 : Int32)) T19.heap n0 Z_19 Vo1_ g_o1) hZw (hw _ (List.mem_of_getElem? (i := 49) rfl)) (hw _ (List.mem_of_getElem? (i := 48) rfl)) (by decide) (by decide)) (g := (mkF m 125 #[.val (.long q1), .second, .val (.int p2), .val (.int p3), .val (.int p4), .val (.ref w_OUT), .val (.int (4 : Int32)), .val (.ref b7), .val (.ref f), .val (.ref o1), .val (.int (1 : Int32)), .unset] [(.ref o1)])) rfl (by rw [hml]; rfl) (argsL := [(.ref o1)]) (rest := []) (lenOf pd_0_5 rfl) rfl (by show 2 * 0 + _ ≤ _; exact Nat.le_of_eq rfl) (hb hby at_125) (fun _ _ => ⟨rfl, rfl, (by decide : 6 + 0 ≤ _), (by decide : 56 + 0 ≤ _)⟩)
  dsimp only [Pt.U, Pt.locs, Pt.cells, Pt.slots] at X20 l20 y20 z20 st20 hQ20
  subst l20 y20 z20
  obtain ⟨rfl, N20q, K20⟩ := hQ20
  have Ef_20 := Ef_19.keep K20
  have Eb_20 := Eb_19.keep K20
  have Ft_20 := Ft_19.keep K20 nf1
  have Fd_20 := Fd_19.keep K20 nf1
  have Fx_20 := Fx_19.keep K20 nf1
  have Fb_20 := Fb_19.keep K20 nf1
  have Vb_20 := Vb_19.keep K20 nb1
  have Z_20 : n0 ≤ T20.heap.size := Nat.le_trans Z_19 K20.1
  have N20 := Fr.app N19 N20q
  obtain ⟨cq21, kq21, q21a, q21b, q21c⟩ := isOf hZw rfl Ef_20
  obtain ⟨_, _, ⟨T21, L21, k21, n21⟩, -, X21, ⟨Lc21, hQ21, l21, y21, z21⟩, st21⟩ := X20.virtualBack hx (y := (⟨"com/example/quotewire/quotewire/wire/Frame", "binary", "()[B"⟩ : MethodName)) (z := (⟨"com/example/quotewire/quotewire/wire/Frame", "binary", "()[B"⟩ : MethodName)) hownw (mvT hZw (hw _ (List.mem_of_getElem? (i := 50) rfl))) (mvT hZw (hw _ (List.mem_of_getElem? (i := 51) rfl))) (notFace_of_selects (args := #[]) (mvT hZw (hw _ (List.mem_of_getElem? (i := 53) rfl)))) (mvT hZw (hw _ (List.mem_of_getElem? (i := 53) rfl))) (mvT hZw (hw _ (List.mem_of_getElem? (i := 52) rfl))) (by decide) (backOf (W := 0) (rm6 l Z a0 hw [] f fb k7 (4 : Int32) [.int (atF p3 0), .int (atF p3 1), .int (atF p3 2), .int (atF p3 3)] (.int (0 : Int32)) T20.heap n0 Z_20 Fb_20 Eb_20 Vb_20 (by decide)) hZw (hw _ (List.mem_of_getElem? (i := 54) rfl)) (hw _ (List.mem_of_getElem? (i := 6) rfl)) (by decide) (by decide)) q21a q21c (g := (mkF m 130 #[.val (.long q1), .second, .val (.int p2), .val (.int p3), .val (.int p4), .val (.ref w_OUT), .val (.int (4 : Int32)), .val (.ref b7), .val (.ref f), .val (.ref o1), .val (.int (1 : Int32)), .unset] [(.ref f)])) rfl (by rw [hml]; rfl) (Steps.refl _) (argsL := []) (rest := []) (lenOf pd_0_6 rfl) rfl (by show 2 * 0 + _ ≤ _; exact Nat.le_of_eq rfl) (hb hby at_130) (fun _ _ => ⟨rfl, rfl, (by decide : 6 + 1 ≤ _), (by decide : 56 + 4 ≤ _)⟩)
  dsimp only [Pt.U, Pt.locs, Pt.cells, Pt.slots] at X21 l21 y21 z21 st21 hQ21
  subst l21 y21 z21
  obtain ⟨N21q, o2, rfl, zo2, K21, Vo2, Eo2⟩ := hQ21
  have Ef_21 := Ef_20.keep K21
  have Eb_21 := Eb_20.keep K21
  have Ft_21 := Ft_20.keep K21 (fun q => nomatch q)
  have Fd_21 := Fd_20.keep K21 (fun q => nomatch q)
  have Fx_21 := Fx_20.keep K21 (fun q => nomatch q)
  have Fb_21 := Fb_20.keep K21 (fun q => nomatch q)
  have Vb_21 := Vb_20.keep K21 (fun q => nomatch q)
  have Z_21 : n0 ≤ T21.heap.size := Nat.le_trans Z_20 K21.1
  have N21 := Fr.app N20 N21q
  obtain ⟨_, _, ⟨T22, L22, k22, n22⟩, -, X22, ⟨Lc22, hQ22, l22, y22, z22⟩, st22⟩ := Jvm.LawKit.callS X21 hx (y := (⟨"com/example/quotewire/quotewire/wire/FrameBinaryPinLaw", "same", "([BII)Z"⟩ : MethodName)) hownw (mvT hZw (hw _ (List.mem_of_getElem? (i := 55) rfl))) (mvT hZw (hw _ (List.mem_of_getElem? (i := 56) rfl))) (mvT hZw (hw _ (List.mem_of_getElem? (i := 48) rfl))) (mvT hZw (hw _ (List.mem_of_getElem? (i := 57) rfl))) (by decide) (backOf (W := 0) (rm7_4 l Z a0 hw [] o2 p3 k7 (.int (0 : Int32)) T21.heap n0 Z_21 Vo2) hZw (hw _ (List.mem_of_getElem? (i := 57) rfl)) (hw _ (List.mem_of_getElem? (i := 48) rfl)) (by decide) (by decide)) (g := (mkF m 145 #[.val (.long q1), .second, .val (.int p2), .val (.int p3), .val (.int p4), .val (.ref w_OUT), .val (.int (4 : Int32)), .val (.ref b7), .val (.ref f), .val (.ref o1), .val (.int (1 : Int32)), .val (.ref o2)] [(.int p3), (.int (4 : Int32)), (.ref o2)])) rfl (by rw [hml]; rfl) (argsL := [(.ref o2), (.int (4 : Int32)), (.int p3)]) (rest := []) (lenOf pd_0_7 rfl) rfl (by show 2 * 0 + _ ≤ _; exact Nat.le_of_eq rfl) (hb hby at_145) (fun _ _ => ⟨rfl, rfl, (by decide : 7 + 0 ≤ _), (by decide : 60 + 0 ≤ _)⟩)
  dsimp only [Pt.U, Pt.locs, Pt.cells, Pt.slots] at X22 l22 y22 z22 st22 hQ22
  subst l22 y22 z22
  obtain ⟨rfl, N22q, q22⟩ := hQ22
  have K22 : Keep T21.heap T22.heap [] := by rw [q22]; exact Keep.refl _ _
  have Ef_22 := Ef_21.keep K22
  have Eb_22 := Eb_21.keep K22
  have Ft_22 := Ft_21.keep K22 (fun q => nomatch q)
  have Fd_22 := Fd_21.keep K22 (fun q => nomatch q)
  have Fx_22 := Fx_21.keep K22 (fun q => nomatch q)
  have Fb_22 := Fb_21.keep K22 (fun q => nomatch q)
  have Vb_22 := Vb_21.keep K22 (fun q => nomatch q)
  have Z_22 : n0 ≤ T22.heap.size := Nat.le_trans Z_21 K22.1
  have N22 := Fr.app N21 N22q
  obtain ⟨cq23, kq23, q23a, q23b, q23c⟩ := isOf hZw rfl Ef_22
  obtain ⟨_, _, ⟨T23, L23, k23, n23⟩, -, X23, ⟨Lc23, hQ23, l23, y23, z23⟩, st23⟩ := X22.virtualBack hx (y := (⟨"com/example/quotewire/quotewire/wire/Frame", "time", "()J"⟩ : MethodName)) (z := (⟨"com/example/quotewire/quotewire/wire/Frame", "time", "()J"⟩ : MethodName)) hownw (mvT hZw (hw _ (List.mem_of_getElem? (i := 58) rfl))) (mvT hZw (hw _ (List.mem_of_getElem? (i := 59) rfl))) (notFace_of_selects (args := #[]) (mvT hZw (hw _ (List.mem_of_getElem? (i := 61) rfl)))) (mvT hZw (hw _ (List.mem_of_getElem? (i := 61) rfl))) (mvT hZw (hw _ (List.mem_of_getElem? (i := 60) rfl))) (by decide) (backOf (W := 0) (rm8 l Z a0 hw [] f q1 T22.heap n0 Z_22 Ft_22) hZw (hw _ (List.mem_of_getElem? (i := 62) rfl)) (hw _ (List.mem_of_getElem? (i := 6) rfl)) (by decide) (by decide)) q23a q23c (g := (mkF m 165 #[.val (.long q1), .second, .val (.int p2), .val (.int p3), .val (.int p4), .val (.ref w_OUT), .val (.int (4 : Int32)), .val (.ref b7), .val (.ref f), .val (.ref o1), .val (.int (1 : Int32)), .val (.ref o2)] [(.ref f)])) rfl (by rw [hml]; rfl) (Steps.refl _) (argsL := []) (rest := []) (lenOf pd_0_8 rfl) rfl (by show 2 * 0 + _ ≤ _; exact Nat.le_of_eq rfl) (hb hby at_165) (fun _ _ => ⟨rfl, rfl, (by decide : 7 + 0 ≤ _), (by decide : 60 + 0 ≤ _)⟩)
  dsimp only [Pt.U, Pt.locs, Pt.cells, Pt.slots] at X23 l23 y23 z23 st23 hQ23
  subst l23 y23 z23
  obtain ⟨rfl, N23q, q23⟩ := hQ23
  have K23 : Keep T22.heap T23.heap [] := by rw [q23]; exact Keep.refl _ _
  have Ef_23 := Ef_22.keep K23
  have Eb_23 := Eb_22.keep K23
  have Ft_23 := Ft_22.keep K23 (fun q => nomatch q)
  have Fd_23 := Fd_22.keep K23 (fun q => nomatch q)
  have Fx_23 := Fx_22.keep K23 (fun q => nomatch q)
  have Fb_23 := Fb_22.keep K23 (fun q => nomatch q)
  have Vb_23 := Vb_22.keep K23 (fun q => nomatch q)
  have Z_23 : n0 ≤ T23.heap.size := Nat.le_trans Z_22 K23.1
  have N23 := Fr.app N22 N23q
  obtain ⟨cq24, kq24, q24a, q24b, q24c⟩ := isOf hZw rfl Ef_23
  obtain ⟨_, _, ⟨T24, L24, k24, n24⟩, -, X24, ⟨Lc24, hQ24, l24, y24, z24⟩, st24⟩ := X23.virtualBack hx (y := (⟨"com/example/quotewire/quotewire/wire/Frame", "direction", "()Lcom/example/quotewire/quotewire/wire/Frame$Direction;"⟩ : MethodName)) (z := (⟨"com/example/quotewire/quotewire/wire/Frame", "direction", "()Lcom/example/quotewire/quotewire/wire/Frame$Direction;"⟩ : MethodName)) hownw (mvT hZw (hw _ (List.mem_of_getElem? (i := 63) rfl))) (mvT hZw (hw _ (List.mem_of_getElem? (i := 64) rfl))) (notFace_of_selects (args := #[]) (mvT hZw (hw _ (List.mem_of_getElem? (i := 66) rfl)))) (mvT hZw (hw _ (List.mem_of_getElem? (i := 66) rfl))) (mvT hZw (hw _ (List.mem_of_getElem? (i := 65) rfl))) (by decide) (backOf (W := 0) (rm9 l Z a0 hw [] f w_OUT T23.heap n0 Z_23 Fd_23) hZw (hw _ (List.mem_of_getElem? (i := 67) rfl)) (hw _ (List.mem_of_getElem? (i := 6) rfl)) (by decide) (by decide)) q24a q24c (g := (mkF m 187 #[.val (.long q1), .second, .val (.int p2), .val (.int p3), .val (.int p4), .val (.ref w_OUT), .val (.int (4 : Int32)), .val (.ref b7), .val (.ref f), .val (.ref o1), .val (.int (1 : Int32)), .val (.ref o2)] [(.ref f)])) rfl (by rw [hml]; rfl) (Steps.refl _) (argsL := []) (rest := []) (lenOf pd_0_9 rfl) rfl (by show 2 * 0 + _ ≤ _; exact Nat.le_of_eq rfl) (hb hby at_187) (fun _ _ => ⟨rfl, rfl, (by decide : 7 + 0 ≤ _), (by decide : 60 + 0 ≤ _)⟩)
  dsimp only [Pt.U, Pt.locs, Pt.cells, Pt.slots] at X24 l24 y24 z24 st24 hQ24
  subst l24 y24 z24
  obtain ⟨rfl, N24q, q24⟩ := hQ24
  have K24 : Keep T23.heap T24.heap [] := by rw [q24]; exact Keep.refl _ _
  have Ef_24 := Ef_23.keep K24
  have Eb_24 := Eb_23.keep K24
  have Ft_24 := Ft_23.keep K24 (fun q => nomatch q)
  have Fd_24 := Fd_23.keep K24 (fun q => nomatch q)
  have Fx_24 := Fx_23.keep K24 (fun q => nomatch q)
  have Fb_24 := Fb_23.keep K24 (fun q => nomatch q)
  have Vb_24 := Vb_23.keep K24 (fun q => nomatch q)
  have Z_24 : n0 ≤ T24.heap.size := Nat.le_trans Z_23 K24.1
  have N24 := Fr.app N23 N24q
  obtain ⟨cq25, kq25, q25a, q25b, q25c⟩ := isOf hZw rfl Ef_24
  obtain ⟨_, _, ⟨T25, L25, k25, n25⟩, -, X25, ⟨Lc25, hQ25, l25, y25, z25⟩, st25⟩ := X24.virtualBack hx (y := (⟨"com/example/quotewire/quotewire/wire/Frame", "isText", "()Z"⟩ : MethodName)) (z := (⟨"com/example/quotewire/quotewire/wire/Frame", "isText", "()Z"⟩ : MethodName)) hownw (mvT hZw (hw _ (List.mem_of_getElem? (i := 68) rfl))) (mvT hZw (hw _ (List.mem_of_getElem? (i := 69) rfl))) (notFace_of_selects (args := #[]) (mvT hZw (hw _ (List.mem_of_getElem? (i := 71) rfl)))) (mvT hZw (hw _ (List.mem_of_getElem? (i := 71) rfl))) (mvT hZw (hw _ (List.mem_of_getElem? (i := 70) rfl))) (by decide) (backOf (W := 0) (rm10 l Z a0 hw [] f T24.heap n0 Z_24 Fx_24) hZw (hw _ (List.mem_of_getElem? (i := 72) rfl)) (hw _ (List.mem_of_getElem? (i := 6) rfl)) (by decide) (by decide)) q25a q25c (g := (mkF m 209 #[.val (.long q1), .second, .val (.int p2), .val (.int p3), .val (.int p4), .val (.ref w_OUT), .val (.int (4 : Int32)), .val (.ref b7), .val (.ref f), .val (.ref o1), .val (.int (1 : Int32)), .val (.ref o2)] [(.ref f)])) rfl (by rw [hml]; rfl) (Steps.refl _) (argsL := []) (rest := []) (lenOf pd_0_10 rfl) rfl (by show 2 * 0 + _ ≤ _; exact Nat.le_of_eq rfl) (hb hby at_209) (fun _ _ => ⟨rfl, rfl, (by decide : 7 + 0 ≤ _), (by decide : 60 + 0 ≤ _)⟩)
  dsimp only [Pt.U, Pt.locs, Pt.cells, Pt.slots] at X25 l25 y25 z25 st25 hQ25
  subst l25 y25 z25
  obtain ⟨rfl, N25q, q25⟩ := hQ25
  have K25 : Keep T24.heap T25.heap [] := by rw [q25]; exact Keep.refl _ _
  have Ef_25 := Ef_24.keep K25
  have Eb_25 := Eb_24.keep K25
  have Ft_25 := Ft_24.keep K25 (fun q => nomatch q)
  have Fd_25 := Fd_24.keep K25 (fun q => nomatch q)
  have Fx_25 := Fx_24.keep K25 (fun q => nomatch q)
  have Fb_25 := Fb_24.keep K25 (fun q => nomatch q)
  have Vb_25 := Vb_24.keep K25 (fun q => nomatch q)
  have Z_25 : n0 ≤ T25.heap.size := Nat.le_trans Z_24 K25.1
  have N25 := Fr.app N24 N25q
  have grow : T16.heap.size ≤ T25.heap.size := Nat.le_trans (Nat.le_trans (Nat.le_trans (Nat.le_trans (Nat.le_trans (Nat.le_trans (Nat.le_trans (Nat.le_trans K17.1 K18.1) K19.1) K20.1) K21.1) K22.1) K23.1) K24.1) K25.1
  obtain ⟨fs, hr, hrun, hended, hRW⟩ := X25.leaveW S16 grow (v := some (.int (1 : Int32))) (fun h => by rw [Bd.returns] at h; cases h)
  refine ⟨_, _, pre0 _ ?_, hrun, hended, _, _, rfl, ?_, hRW.1, hRW.2.1, hRW.2.2.1, hRW.2.2.2.mono (by decide) (by decide)⟩
  -- 4. STEPS
  · show Steps p.tables e below (s₁.setTop (mkF m 0 #[.val (.long q1), .second, .val (.int p2), .val (.int p3), .val (.int p4), .unset, .unset, .unset, .unset, .unset, .unset, .unset] [])) _
    refine XS.iloadN X0.here hx rfl (hb hby at_0) rfl ?_
    show Steps p.tables e below (s₁.setTop (mkF m 1 #[.val (.long q1), .second, .val (.int p2), .val (.int p3), .val (.int p4), .unset, .unset, .unset, .unset, .unset, .unset, .unset] [(.int p2)])) _
    refine XS.iconst X0.here hx rfl (hb hby at_1) ?_
    show Steps p.tables e below (s₁.setTop (mkF m 2 #[.val (.long q1), .second, .val (.int p2), .val (.int p3), .val (.int p4), .unset, .unset, .unset, .unset, .unset, .unset, .unset] [(.int (1 : Int32)), (.int p2)])) _
    refine XS.iand X0.here hx rfl (hb hby at_2) rfl ?_
    show Steps p.tables e below (s₁.setTop (mkF m 3 #[.val (.long q1), .second, .val (.int p2), .val (.int p3), .val (.int p4), .unset, .unset, .unset, .unset, .unset, .unset, .unset] [(.int (p2 &&& (1 : Int32)))])) _
    refine XS.ifNo X0.here hx rfl (hb hby at_3) rfl ((if0 _ _).trans (feq hc3).1) ?_
    show Steps p.tables e below (s₁.setTop (mkF m 6 #[.val (.long q1), .second, .val (.int p2), .val (.int p3), .val (.int p4), .unset, .unset, .unset, .unset, .unset, .unset, .unset] [])) _
    refine st6 _ ?_
    show Steps p.tables e below (T6.setTop (mkF m 9 #[.val (.long q1), .second, .val (.int p2), .val (.int p3), .val (.int p4), .unset, .unset, .unset, .unset, .unset, .unset, .unset] [(.ref w_OUT)])) _
    refine XS.goto X6.here hx rfl (pc0 := 9) (pc' := 15) rfl (hb hby at_9) (by decide) (by decide) ?_
    show Steps p.tables e below (T6.setTop (mkF m 15 #[.val (.long q1), .second, .val (.int p2), .val (.int p3), .val (.int p4), .unset, .unset, .unset, .unset, .unset, .unset, .unset] [(.ref w_OUT)])) _
    refine XS.astore X6.here hx rfl (hb hby at_15) rfl rfl (l' := #[.val (.long q1), .second, .val (.int p2), .val (.int p3), .val (.int p4), .val (.ref w_OUT), .unset, .unset, .unset, .unset, .unset, .unset]) rfl ?_
    show Steps p.tables e below (T6.setTop (mkF m 17 #[.val (.long q1), .second, .val (.int p2), .val (.int p3), .val (.int p4), .val (.ref w_OUT), .unset, .unset, .unset, .unset, .unset, .unset] [])) _
    refine XS.iload X6.here hx rfl (hb hby at_17) rfl ?_
    show Steps p.tables e below (T6.setTop (mkF m 19 #[.val (.long q1), .second, .val (.int p2), .val (.int p3), .val (.int p4), .val (.ref w_OUT), .unset, .unset, .unset, .unset, .unset, .unset] [(.int p4)])) _
    refine XS.bipush X6.here hx rfl (hb hby at_19) ?_
    show Steps p.tables e below (T6.setTop (mkF m 21 #[.val (.long q1), .second, .val (.int p2), .val (.int p3), .val (.int p4), .val (.ref w_OUT), .unset, .unset, .unset, .unset, .unset, .unset] [(.int (7 : Int32)), (.int p4)])) _
    refine XS.iand X6.here hx rfl (hb hby at_21) rfl ?_
    show Steps p.tables e below (T6.setTop (mkF m 22 #[.val (.long q1), .second, .val (.int p2), .val (.int p3), .val (.int p4), .val (.ref w_OUT), .unset, .unset, .unset, .unset, .unset, .unset] [(.int (p4 &&& (7 : Int32)))])) _
    refine XS.iconst X6.here hx rfl (hb hby at_22) ?_
    show Steps p.tables e below (T6.setTop (mkF m 23 #[.val (.long q1), .second, .val (.int p2), .val (.int p3), .val (.int p4), .val (.ref w_OUT), .unset, .unset, .unset, .unset, .unset, .unset] [(.int (5 : Int32)), (.int (p4 &&& (7 : Int32)))])) _
    refine iremM X6 hx rfl (hb hby at_23) rfl (by decide) ?_
    rw [hk]
    show Steps p.tables e below (T6.setTop (mkF m 24 #[.val (.long q1), .second, .val (.int p2), .val (.int p3), .val (.int p4), .val (.ref w_OUT), .unset, .unset, .unset, .unset, .unset, .unset] [(.int (4 : Int32))])) _
    refine XS.istore X6.here hx rfl (hb hby at_24) rfl (l' := #[.val (.long q1), .second, .val (.int p2), .val (.int p3), .val (.int p4), .val (.ref w_OUT), .val (.int (4 : Int32)), .unset, .unset, .unset, .unset, .unset]) rfl ?_
    show Steps p.tables e below (T6.setTop (mkF m 26 #[.val (.long q1), .second, .val (.int p2), .val (.int p3), .val (.int p4), .val (.ref w_OUT), .val (.int (4 : Int32)), .unset, .unset, .unset, .unset, .unset] [])) _
    refine XS.iload X6.here hx rfl (hb hby at_26) rfl ?_
    show Steps p.tables e below (T6.setTop (mkF m 28 #[.val (.long q1), .second, .val (.int p2), .val (.int p3), .val (.int p4), .val (.ref w_OUT), .val (.int (4 : Int32)), .unset, .unset, .unset, .unset, .unset] [(.int (4 : Int32))])) _
    refine st7 _ ?_
    show Steps p.tables e below (T7.setTop (mkF m 30 #[.val (.long q1), .second, .val (.int p2), .val (.int p3), .val (.int p4), .val (.ref w_OUT), .val (.int (4 : Int32)), .unset, .unset, .unset, .unset, .unset] [(.ref b7)])) _
    refine XS.astore X7.here hx rfl (hb hby at_30) rfl rfl (l' := #[.val (.long q1), .second, .val (.int p2), .val (.int p3), .val (.int p4), .val (.ref w_OUT), .val (.int (4 : Int32)), .val (.ref b7), .unset, .unset, .unset, .unset]) rfl ?_
    show Steps p.tables e below (T7.setTop (mkF m 32 #[.val (.long q1), .second, .val (.int p2), .val (.int p3), .val (.int p4), .val (.ref w_OUT), .val (.int (4 : Int32)), .val (.ref b7), .unset, .unset, .unset, .unset] [])) _
    refine XS.iload X7.here hx rfl (hb hby at_32) rfl ?_
    show Steps p.tables e below (T7.setTop (mkF m 34 #[.val (.long q1), .second, .val (.int p2), .val (.int p3), .val (.int p4), .val (.ref w_OUT), .val (.int (4 : Int32)), .val (.ref b7), .unset, .unset, .unset, .unset] [(.int (4 : Int32))])) _
    refine XS.ifNo X7.here hx rfl (hb hby at_34) rfl ((if0 _ _).trans (tlt (by decide)).2.2.2) ?_
    show Steps p.tables e below (T7.setTop (mkF m 37 #[.val (.long q1), .second, .val (.int p2), .val (.int p3), .val (.int p4), .val (.ref w_OUT), .val (.int (4 : Int32)), .val (.ref b7), .unset, .unset, .unset, .unset] [])) _
    refine XS.aload X7.here hx rfl (hb hby at_37) rfl rfl ?_
    show Steps p.tables e below (T7.setTop (mkF m 39 #[.val (.long q1), .second, .val (.int p2), .val (.int p3), .val (.int p4), .val (.ref w_OUT), .val (.int (4 : Int32)), .val (.ref b7), .unset, .unset, .unset, .unset] [(.ref b7)])) _
    refine XS.iconst X7.here hx rfl (hb hby at_39) ?_
    show Steps p.tables e below (T7.setTop (mkF m 40 #[.val (.long q1), .second, .val (.int p2), .val (.int p3), .val (.int p4), .val (.ref w_OUT), .val (.int (4 : Int32)), .val (.ref b7), .unset, .unset, .unset, .unset] [(.int (0 : Int32)), (.ref b7)])) _
    refine XS.iloadN X7.here hx rfl (hb hby at_40) rfl ?_
    show Steps p.tables e below (T7.setTop (mkF m 41 #[.val (.long q1), .second, .val (.int p2), .val (.int p3), .val (.int p4), .val (.ref w_OUT), .val (.int (4 : Int32)), .val (.ref b7), .unset, .unset, .unset, .unset] [(.int p3), (.int (0 : Int32)), (.ref b7)])) _
    refine XS.iconst X7.here hx rfl (hb hby at_41) ?_
    show Steps p.tables e below (T7.setTop (mkF m 42 #[.val (.long q1), .second, .val (.int p2), .val (.int p3), .val (.int p4), .val (.ref w_OUT), .val (.int (4 : Int32)), .val (.ref b7), .unset, .unset, .unset, .unset] [(.int (0 : Int32)), (.int p3), (.int (0 : Int32)), (.ref b7)])) _
    refine st8 _ ?_
    show Steps p.tables e below (T8.setTop (mkF m 45 #[.val (.long q1), .second, .val (.int p2), .val (.int p3), .val (.int p4), .val (.ref w_OUT), .val (.int (4 : Int32)), .val (.ref b7), .unset, .unset, .unset, .unset] [(.int (atF p3 (0 : Int32))), (.int (0 : Int32)), (.ref b7)])) _
    refine st9 _ ?_
    show Steps p.tables e below (T9.setTop (mkF m 46 #[.val (.long q1), .second, .val (.int p2), .val (.int p3), .val (.int p4), .val (.ref w_OUT), .val (.int (4 : Int32)), .val (.ref b7), .unset, .unset, .unset, .unset] [])) _
    refine XS.iload X9.here hx rfl (hb hby at_46) rfl ?_
    show Steps p.tables e below (T9.setTop (mkF m 48 #[.val (.long q1), .second, .val (.int p2), .val (.int p3), .val (.int p4), .val (.ref w_OUT), .val (.int (4 : Int32)), .val (.ref b7), .unset, .unset, .unset, .unset] [(.int (4 : Int32))])) _
    refine XS.iconst X9.here hx rfl (hb hby at_48) ?_
    show Steps p.tables e below (T9.setTop (mkF m 49 #[.val (.long q1), .second, .val (.int p2), .val (.int p3), .val (.int p4), .val (.ref w_OUT), .val (.int (4 : Int32)), .val (.ref b7), .unset, .unset, .unset, .unset] [(.int (1 : Int32)), (.int (4 : Int32))])) _
    refine XS.icmpNo X9.here hx rfl (hb hby at_49) rfl (tlt (by decide)).2.2.2 ?_
    show Steps p.tables e below (T9.setTop (mkF m 52 #[.val (.long q1), .second, .val (.int p2), .val (.int p3), .val (.int p4), .val (.ref w_OUT), .val (.int (4 : Int32)), .val (.ref b7), .unset, .unset, .unset, .unset] [])) _
    refine XS.aload X9.here hx rfl (hb hby at_52) rfl rfl ?_
    show Steps p.tables e below (T9.setTop (mkF m 54 #[.val (.long q1), .second, .val (.int p2), .val (.int p3), .val (.int p4), .val (.ref w_OUT), .val (.int (4 : Int32)), .val (.ref b7), .unset, .unset, .unset, .unset] [(.ref b7)])) _
    refine XS.iconst X9.here hx rfl (hb hby at_54) ?_
    show Steps p.tables e below (T9.setTop (mkF m 55 #[.val (.long q1), .second, .val (.int p2), .val (.int p3), .val (.int p4), .val (.ref w_OUT), .val (.int (4 : Int32)), .val (.ref b7), .unset, .unset, .unset, .unset] [(.int (1 : Int32)), (.ref b7)])) _
    refine XS.iloadN X9.here hx rfl (hb hby at_55) rfl ?_
    show Steps p.tables e below (T9.setTop (mkF m 56 #[.val (.long q1), .second, .val (.int p2), .val (.int p3), .val (.int p4), .val (.ref w_OUT), .val (.int (4 : Int32)), .val (.ref b7), .unset, .unset, .unset, .unset] [(.int p3), (.int (1 : Int32)), (.ref b7)])) _
    refine XS.iconst X9.here hx rfl (hb hby at_56) ?_
    show Steps p.tables e below (T9.setTop (mkF m 57 #[.val (.long q1), .second, .val (.int p2), .val (.int p3), .val (.int p4), .val (.ref w_OUT), .val (.int (4 : Int32)), .val (.ref b7), .unset, .unset, .unset, .unset] [(.int (1 : Int32)), (.int p3), (.int (1 : Int32)), (.ref b7)])) _
    refine st10 _ ?_
    show Steps p.tables e below (T10.setTop (mkF m 60 #[.val (.long q1), .second, .val (.int p2), .val (.int p3), .val (.int p4), .val (.ref w_OUT), .val (.int (4 : Int32)), .val (.ref b7), .unset, .unset, .unset, .unset] [(.int (atF p3 (1 : Int32))), (.int (1 : Int32)), (.ref b7)])) _
    refine st11 _ ?_
    show Steps p.tables e below (T11.setTop (mkF m 61 #[.val (.long q1), .second, .val (.int p2), .val (.int p3), .val (.int p4), .val (.ref w_OUT), .val (.int (4 : Int32)), .val (.ref b7), .unset, .unset, .unset, .unset] [])) _
    refine XS.iload X11.here hx rfl (hb hby at_61) rfl ?_
    show Steps p.tables e below (T11.setTop (mkF m 63 #[.val (.long q1), .second, .val (.int p2), .val (.int p3), .val (.int p4), .val (.ref w_OUT), .val (.int (4 : Int32)), .val (.ref b7), .unset, .unset, .unset, .unset] [(.int (4 : Int32))])) _
    refine XS.iconst X11.here hx rfl (hb hby at_63) ?_
    show Steps p.tables e below (T11.setTop (mkF m 64 #[.val (.long q1), .second, .val (.int p2), .val (.int p3), .val (.int p4), .val (.ref w_OUT), .val (.int (4 : Int32)), .val (.ref b7), .unset, .unset, .unset, .unset] [(.int (2 : Int32)), (.int (4 : Int32))])) _
    refine XS.icmpNo X11.here hx rfl (hb hby at_64) rfl (tlt (by decide)).2.2.2 ?_
    show Steps p.tables e below (T11.setTop (mkF m 67 #[.val (.long q1), .second, .val (.int p2), .val (.int p3), .val (.int p4), .val (.ref w_OUT), .val (.int (4 : Int32)), .val (.ref b7), .unset, .unset, .unset, .unset] [])) _
    refine XS.aload X11.here hx rfl (hb hby at_67) rfl rfl ?_
    show Steps p.tables e below (T11.setTop (mkF m 69 #[.val (.long q1), .second, .val (.int p2), .val (.int p3), .val (.int p4), .val (.ref w_OUT), .val (.int (4 : Int32)), .val (.ref b7), .unset, .unset, .unset, .unset] [(.ref b7)])) _
    refine XS.iconst X11.here hx rfl (hb hby at_69) ?_
    show Steps p.tables e below (T11.setTop (mkF m 70 #[.val (.long q1), .second, .val (.int p2), .val (.int p3), .val (.int p4), .val (.ref w_OUT), .val (.int (4 : Int32)), .val (.ref b7), .unset, .unset, .unset, .unset] [(.int (2 : Int32)), (.ref b7)])) _
    refine XS.iloadN X11.here hx rfl (hb hby at_70) rfl ?_
    show Steps p.tables e below (T11.setTop (mkF m 71 #[.val (.long q1), .second, .val (.int p2), .val (.int p3), .val (.int p4), .val (.ref w_OUT), .val (.int (4 : Int32)), .val (.ref b7), .unset, .unset, .unset, .unset] [(.int p3), (.int (2 : Int32)), (.ref b7)])) _
    refine XS.iconst X11.here hx rfl (hb hby at_71) ?_
    show Steps p.tables e below (T11.setTop (mkF m 72 #[.val (.long q1), .second, .val (.int p2), .val (.int p3), .val (.int p4), .val (.ref w_OUT), .val (.int (4 : Int32)), .val (.ref b7), .unset, .unset, .unset, .unset] [(.int (2 : Int32)), (.int p3), (.int (2 : Int32)), (.ref b7)])) _
    refine st12 _ ?_
    show Steps p.tables e below (T12.setTop (mkF m 75 #[.val (.long q1), .second, .val (.int p2), .val (.int p3), .val (.int p4), .val (.ref w_OUT), .val (.int (4 : Int32)), .val (.ref b7), .unset, .unset, .unset, .unset] [(.int (atF p3 (2 : Int32))), (.int (2 : Int32)), (.ref b7)])) _
    refine st13 _ ?_
    show Steps p.tables e below (T13.setTop (mkF m 76 #[.val (.long q1), .second, .val (.int p2), .val (.int p3), .val (.int p4), .val (.ref w_OUT), .val (.int (4 : Int32)), .val (.ref b7), .unset, .unset, .unset, .unset] [])) _
    refine XS.iload X13.here hx rfl (hb hby at_76) rfl ?_
    show Steps p.tables e below (T13.setTop (mkF m 78 #[.val (.long q1), .second, .val (.int p2), .val (.int p3), .val (.int p4), .val (.ref w_OUT), .val (.int (4 : Int32)), .val (.ref b7), .unset, .unset, .unset, .unset] [(.int (4 : Int32))])) _
    refine XS.iconst X13.here hx rfl (hb hby at_78) ?_
    show Steps p.tables e below (T13.setTop (mkF m 79 #[.val (.long q1), .second, .val (.int p2), .val (.int p3), .val (.int p4), .val (.ref w_OUT), .val (.int (4 : Int32)), .val (.ref b7), .unset, .unset, .unset, .unset] [(.int (3 : Int32)), (.int (4 : Int32))])) _
    refine XS.icmpNo X13.here hx rfl (hb hby at_79) rfl (tlt (by decide)).2.2.2 ?_
    show Steps p.tables e below (T13.setTop (mkF m 82 #[.val (.long q1), .second, .val (.int p2), .val (.int p3), .val (.int p4), .val (.ref w_OUT), .val (.int (4 : Int32)), .val (.ref b7), .unset, .unset, .unset, .unset] [])) _
    refine XS.aload X13.here hx rfl (hb hby at_82) rfl rfl ?_
    show Steps p.tables e below (T13.setTop (mkF m 84 #[.val (.long q1), .second, .val (.int p2), .val (.int p3), .val (.int p4), .val (.ref w_OUT), .val (.int (4 : Int32)), .val (.ref b7), .unset, .unset, .unset, .unset] [(.ref b7)])) _
    refine XS.iconst X13.here hx rfl (hb hby at_84) ?_
    show Steps p.tables e below (T13.setTop (mkF m 85 #[.val (.long q1), .second, .val (.int p2), .val (.int p3), .val (.int p4), .val (.ref w_OUT), .val (.int (4 : Int32)), .val (.ref b7), .unset, .unset, .unset, .unset] [(.int (3 : Int32)), (.ref b7)])) _
    refine XS.iloadN X13.here hx rfl (hb hby at_85) rfl ?_
    show Steps p.tables e below (T13.setTop (mkF m 86 #[.val (.long q1), .second, .val (.int p2), .val (.int p3), .val (.int p4), .val (.ref w_OUT), .val (.int (4 : Int32)), .val (.ref b7), .unset, .unset, .unset, .unset] [(.int p3), (.int (3 : Int32)), (.ref b7)])) _
    refine XS.iconst X13.here hx rfl (hb hby at_86) ?_
    show Steps p.tables e below (T13.setTop (mkF m 87 #[.val (.long q1), .second, .val (.int p2), .val (.int p3), .val (.int p4), .val (.ref w_OUT), .val (.int (4 : Int32)), .val (.ref b7), .unset, .unset, .unset, .unset] [(.int (3 : Int32)), (.int p3), (.int (3 : Int32)), (.ref b7)])) _
    refine st14 _ ?_
    show Steps p.tables e below (T14.setTop (mkF m 90 #[.val (.long q1), .second, .val (.int p2), .val (.int p3), .val (.int p4), .val (.ref w_OUT), .val (.int (4 : Int32)), .val (.ref b7), .unset, .unset, .unset, .unset] [(.int (atF p3 (3 : Int32))), (.int (3 : Int32)), (.ref b7)])) _
    refine st15 _ ?_
    show Steps p.tables e below (T15.setTop (mkF m 91 #[.val (.long q1), .second, .val (.int p2), .val (.int p3), .val (.int p4), .val (.ref w_OUT), .val (.int (4 : Int32)), .val (.ref b7), .unset, .unset, .unset, .unset] [])) _
    refine XS.lloadN X15.here hx rfl (hb hby at_91) rfl ?_
    show Steps p.tables e below (T15.setTop (mkF m 92 #[.val (.long q1), .second, .val (.int p2), .val (.int p3), .val (.int p4), .val (.ref w_OUT), .val (.int (4 : Int32)), .val (.ref b7), .unset, .unset, .unset, .unset] [(.long q1)])) _
    refine XS.aload X15.here hx rfl (hb hby at_92) rfl rfl ?_
    show Steps p.tables e below (T15.setTop (mkF m 94 #[.val (.long q1), .second, .val (.int p2), .val (.int p3), .val (.int p4), .val (.ref w_OUT), .val (.int (4 : Int32)), .val (.ref b7), .unset, .unset, .unset, .unset] [(.ref w_OUT), (.long q1)])) _
    refine XS.aload X15.here hx rfl (hb hby at_94) rfl rfl ?_
    show Steps p.tables e below (T15.setTop (mkF m 96 #[.val (.long q1), .second, .val (.int p2), .val (.int p3), .val (.int p4), .val (.ref w_OUT), .val (.int (4 : Int32)), .val (.ref b7), .unset, .unset, .unset, .unset] [(.ref b7), (.ref w_OUT), (.long q1)])) _
    refine st16.trans ?_
    show Steps p.tables e below (T16.setTop (mkF m 99 #[.val (.long q1), .second, .val (.int p2), .val (.int p3), .val (.int p4), .val (.ref w_OUT), .val (.int (4 : Int32)), .val (.ref b7), .unset, .unset, .unset, .unset] [(.ref f)])) _
    refine XS.astore X16.here hx rfl (hb hby at_99) rfl rfl (l' := #[.val (.long q1), .second, .val (.int p2), .val (.int p3), .val (.int p4), .val (.ref w_OUT), .val (.int (4 : Int32)), .val (.ref b7), .val (.ref f), .unset, .unset, .unset]) rfl ?_
    show Steps p.tables e below (T16.setTop (mkF m 101 #[.val (.long q1), .second, .val (.int p2), .val (.int p3), .val (.int p4), .val (.ref w_OUT), .val (.int (4 : Int32)), .val (.ref b7), .val (.ref f), .unset, .unset, .unset] [])) _
    refine XS.aload X16.here hx rfl (hb hby at_101) rfl rfl ?_
    show Steps p.tables e below (T16.setTop (mkF m 103 #[.val (.long q1), .second, .val (.int p2), .val (.int p3), .val (.int p4), .val (.ref w_OUT), .val (.int (4 : Int32)), .val (.ref b7), .val (.ref f), .unset, .unset, .unset] [(.ref b7)])) _
    refine st17 _ ?_
    show Steps p.tables e below (T17.setTop (mkF m 106 #[.val (.long q1), .second, .val (.int p2), .val (.int p3), .val (.int p4), .val (.ref w_OUT), .val (.int (4 : Int32)), .val (.ref b7), .val (.ref f), .unset, .unset, .unset] [])) _
    refine XS.aload X17.here hx rfl (hb hby at_106) rfl rfl ?_
    show Steps p.tables e below (T17.setTop (mkF m 108 #[.val (.long q1), .second, .val (.int p2), .val (.int p3), .val (.int p4), .val (.ref w_OUT), .val (.int (4 : Int32)), .val (.ref b7), .val (.ref f), .unset, .unset, .unset] [(.ref f)])) _
    refine st18.trans ?_
    show Steps p.tables e below (T18.setTop (mkF m 111 #[.val (.long q1), .second, .val (.int p2), .val (.int p3), .val (.int p4), .val (.ref w_OUT), .val (.int (4 : Int32)), .val (.ref b7), .val (.ref f), .unset, .unset, .unset] [(.ref o1)])) _
    refine XS.astore X18.here hx rfl (hb hby at_111) rfl rfl (l' := #[.val (.long q1), .second, .val (.int p2), .val (.int p3), .val (.int p4), .val (.ref w_OUT), .val (.int (4 : Int32)), .val (.ref b7), .val (.ref f), .val (.ref o1), .unset, .unset]) rfl ?_
    show Steps p.tables e below (T18.setTop (mkF m 113 #[.val (.long q1), .second, .val (.int p2), .val (.int p3), .val (.int p4), .val (.ref w_OUT), .val (.int (4 : Int32)), .val (.ref b7), .val (.ref f), .val (.ref o1), .unset, .unset] [])) _
    refine XS.aload X18.here hx rfl (hb hby at_113) rfl rfl ?_
    show Steps p.tables e below (T18.setTop (mkF m 115 #[.val (.long q1), .second, .val (.int p2), .val (.int p3), .val (.int p4), .val (.ref w_OUT), .val (.int (4 : Int32)), .val (.ref b7), .val (.ref f), .val (.ref o1), .unset, .unset] [(.ref o1)])) _
    refine XS.iload X18.here hx rfl (hb hby at_115) rfl ?_
    show Steps p.tables e below (T18.setTop (mkF m 117 #[.val (.long q1), .second, .val (.int p2), .val (.int p3), .val (.int p4), .val (.ref w_OUT), .val (.int (4 : Int32)), .val (.ref b7), .val (.ref f), .val (.ref o1), .unset, .unset] [(.int (4 : Int32)), (.ref o1)])) _
    refine XS.iloadN X18.here hx rfl (hb hby at_117) rfl ?_
    show Steps p.tables e below (T18.setTop (mkF m 118 #[.val (.long q1), .second, .val (.int p2), .val (.int p3), .val (.int p4), .val (.ref w_OUT), .val (.int (4 : Int32)), .val (.ref b7), .val (.ref f), .val (.ref o1), .unset, .unset] [(.int p3), (.int (4 : Int32)), (.ref o1)])) _
    refine st19 _ ?_
    show Steps p.tables e below (T19.setTop (mkF m 121 #[.val (.long q1), .second, .val (.int p2), .val (.int p3), .val (.int p4), .val (.ref w_OUT), .val (.int (4 : Int32)), .val (.ref b7), .val (.ref f), .val (.ref o1), .unset, .unset] [(.int (1 : Int32))])) _
    refine XS.istore X19.here hx rfl (hb hby at_121) rfl (l' := #[.val (.long q1), .second, .val (.int p2), .val (.int p3), .val (.int p4), .val (.ref w_OUT), .val (.int (4 : Int32)), .val (.ref b7), .val (.ref f), .val (.ref o1), .val (.int (1 : Int32)), .unset]) rfl ?_
    show Steps p.tables e below (T19.setTop (mkF m 123 #[.val (.long q1), .second, .val (.int p2), .val (.int p3), .val (.int p4), .val (.ref w_OUT), .val (.int (4 : Int32)), .val (.ref b7), .val (.ref f), .val (.ref o1), .val (.int (1 : Int32)), .unset] [])) _
    refine XS.aload X19.here hx rfl (hb hby at_123) rfl rfl ?_
    show Steps p.tables e below (T19.setTop (mkF m 125 #[.val (.long q1), .second, .val (.int p2), .val (.int p3), .val (.int p4), .val (.ref w_OUT), .val (.int (4 : Int32)), .val (.ref b7), .val (.ref f), .val (.ref o1), .val (.int (1 : Int32)), .unset] [(.ref o1)])) _
    refine st20 _ ?_
    show Steps p.tables e below (T20.setTop (mkF m 128 #[.val (.long q1), .second, .val (.int p2), .val (.int p3), .val (.int p4), .val (.ref w_OUT), .val (.int (4 : Int32)), .val (.ref b7), .val (.ref f), .val (.ref o1), .val (.int (1 : Int32)), .unset] [])) _
    refine XS.aload X20.here hx rfl (hb hby at_128) rfl rfl ?_
    show Steps p.tables e below (T20.setTop (mkF m 130 #[.val (.long q1), .second, .val (.int p2), .val (.int p3), .val (.int p4), .val (.ref w_OUT), .val (.int (4 : Int32)), .val (.ref b7), .val (.ref f), .val (.ref o1), .val (.int (1 : Int32)), .unset] [(.ref f)])) _
    refine st21.trans ?_
    show Steps p.tables e below (T21.setTop (mkF m 133 #[.val (.long q1), .second, .val (.int p2), .val (.int p3), .val (.int p4), .val (.ref w_OUT), .val (.int (4 : Int32)), .val (.ref b7), .val (.ref f), .val (.ref o1), .val (.int (1 : Int32)), .unset] [(.ref o2)])) _
    refine XS.astore X21.here hx rfl (hb hby at_133) rfl rfl (l' := #[.val (.long q1), .second, .val (.int p2), .val (.int p3), .val (.int p4), .val (.ref w_OUT), .val (.int (4 : Int32)), .val (.ref b7), .val (.ref f), .val (.ref o1), .val (.int (1 : Int32)), .val (.ref o2)]) rfl ?_
    show Steps p.tables e below (T21.setTop (mkF m 135 #[.val (.long q1), .second, .val (.int p2), .val (.int p3), .val (.int p4), .val (.ref w_OUT), .val (.int (4 : Int32)), .val (.ref b7), .val (.ref f), .val (.ref o1), .val (.int (1 : Int32)), .val (.ref o2)] [])) _
    refine XS.iload X21.here hx rfl (hb hby at_135) rfl ?_
    show Steps p.tables e below (T21.setTop (mkF m 137 #[.val (.long q1), .second, .val (.int p2), .val (.int p3), .val (.int p4), .val (.ref w_OUT), .val (.int (4 : Int32)), .val (.ref b7), .val (.ref f), .val (.ref o1), .val (.int (1 : Int32)), .val (.ref o2)] [(.int (1 : Int32))])) _
    refine XS.ifNo X21.here hx rfl (hb hby at_137) rfl ((if0 _ _).trans (feq (by decide)).1) ?_
    show Steps p.tables e below (T21.setTop (mkF m 140 #[.val (.long q1), .second, .val (.int p2), .val (.int p3), .val (.int p4), .val (.ref w_OUT), .val (.int (4 : Int32)), .val (.ref b7), .val (.ref f), .val (.ref o1), .val (.int (1 : Int32)), .val (.ref o2)] [])) _
    refine XS.aload X21.here hx rfl (hb hby at_140) rfl rfl ?_
    show Steps p.tables e below (T21.setTop (mkF m 142 #[.val (.long q1), .second, .val (.int p2), .val (.int p3), .val (.int p4), .val (.ref w_OUT), .val (.int (4 : Int32)), .val (.ref b7), .val (.ref f), .val (.ref o1), .val (.int (1 : Int32)), .val (.ref o2)] [(.ref o2)])) _
    refine XS.iload X21.here hx rfl (hb hby at_142) rfl ?_
    show Steps p.tables e below (T21.setTop (mkF m 144 #[.val (.long q1), .second, .val (.int p2), .val (.int p3), .val (.int p4), .val (.ref w_OUT), .val (.int (4 : Int32)), .val (.ref b7), .val (.ref f), .val (.ref o1), .val (.int (1 : Int32)), .val (.ref o2)] [(.int (4 : Int32)), (.ref o2)])) _
    refine XS.iloadN X21.here hx rfl (hb hby at_144) rfl ?_
    show Steps p.tables e below (T21.setTop (mkF m 145 #[.val (.long q1), .second, .val (.int p2), .val (.int p3), .val (.int p4), .val (.ref w_OUT), .val (.int (4 : Int32)), .val (.ref b7), .val (.ref f), .val (.ref o1), .val (.int (1 : Int32)), .val (.ref o2)] [(.int p3), (.int (4 : Int32)), (.ref o2)])) _
    refine st22 _ ?_
    show Steps p.tables e below (T22.setTop (mkF m 148 #[.val (.long q1), .second, .val (.int p2), .val (.int p3), .val (.int p4), .val (.ref w_OUT), .val (.int (4 : Int32)), .val (.ref b7), .val (.ref f), .val (.ref o1), .val (.int (1 : Int32)), .val (.ref o2)] [(.int (1 : Int32))])) _
    refine XS.ifNo X22.here hx rfl (hb hby at_148) rfl ((if0 _ _).trans (feq (by decide)).1) ?_
    show Steps p.tables e below (T22.setTop (mkF m 151 #[.val (.long q1), .second, .val (.int p2), .val (.int p3), .val (.int p4), .val (.ref w_OUT), .val (.int (4 : Int32)), .val (.ref b7), .val (.ref f), .val (.ref o1), .val (.int (1 : Int32)), .val (.ref o2)] [])) _
    refine XS.iconst X22.here hx rfl (hb hby at_151) ?_
    show Steps p.tables e below (T22.setTop (mkF m 152 #[.val (.long q1), .second, .val (.int p2), .val (.int p3), .val (.int p4), .val (.ref w_OUT), .val (.int (4 : Int32)), .val (.ref b7), .val (.ref f), .val (.ref o1), .val (.int (1 : Int32)), .val (.ref o2)] [(.int (1 : Int32))])) _
    refine XS.goto X22.here hx rfl (pc0 := 152) (pc' := 156) rfl (hb hby at_152) (by decide) (by decide) ?_
    show Steps p.tables e below (T22.setTop (mkF m 156 #[.val (.long q1), .second, .val (.int p2), .val (.int p3), .val (.int p4), .val (.ref w_OUT), .val (.int (4 : Int32)), .val (.ref b7), .val (.ref f), .val (.ref o1), .val (.int (1 : Int32)), .val (.ref o2)] [(.int (1 : Int32))])) _
    refine XS.istore X22.here hx rfl (hb hby at_156) rfl (l' := #[.val (.long q1), .second, .val (.int p2), .val (.int p3), .val (.int p4), .val (.ref w_OUT), .val (.int (4 : Int32)), .val (.ref b7), .val (.ref f), .val (.ref o1), .val (.int (1 : Int32)), .val (.ref o2)]) rfl ?_
    show Steps p.tables e below (T22.setTop (mkF m 158 #[.val (.long q1), .second, .val (.int p2), .val (.int p3), .val (.int p4), .val (.ref w_OUT), .val (.int (4 : Int32)), .val (.ref b7), .val (.ref f), .val (.ref o1), .val (.int (1 : Int32)), .val (.ref o2)] [])) _
    refine XS.iload X22.here hx rfl (hb hby at_158) rfl ?_
    show Steps p.tables e below (T22.setTop (mkF m 160 #[.val (.long q1), .second, .val (.int p2), .val (.int p3), .val (.int p4), .val (.ref w_OUT), .val (.int (4 : Int32)), .val (.ref b7), .val (.ref f), .val (.ref o1), .val (.int (1 : Int32)), .val (.ref o2)] [(.int (1 : Int32))])) _
    refine XS.ifNo X22.here hx rfl (hb hby at_160) rfl ((if0 _ _).trans (feq (by decide)).1) ?_
    show Steps p.tables e below (T22.setTop (mkF m 163 #[.val (.long q1), .second, .val (.int p2), .val (.int p3), .val (.int p4), .val (.ref w_OUT), .val (.int (4 : Int32)), .val (.ref b7), .val (.ref f), .val (.ref o1), .val (.int (1 : Int32)), .val (.ref o2)] [])) _
    refine XS.aload X22.here hx rfl (hb hby at_163) rfl rfl ?_
    show Steps p.tables e below (T22.setTop (mkF m 165 #[.val (.long q1), .second, .val (.int p2), .val (.int p3), .val (.int p4), .val (.ref w_OUT), .val (.int (4 : Int32)), .val (.ref b7), .val (.ref f), .val (.ref o1), .val (.int (1 : Int32)), .val (.ref o2)] [(.ref f)])) _
    refine st23.trans ?_
    show Steps p.tables e below (T23.setTop (mkF m 168 #[.val (.long q1), .second, .val (.int p2), .val (.int p3), .val (.int p4), .val (.ref w_OUT), .val (.int (4 : Int32)), .val (.ref b7), .val (.ref f), .val (.ref o1), .val (.int (1 : Int32)), .val (.ref o2)] [(.long q1)])) _
    refine XS.lloadN X23.here hx rfl (hb hby at_168) rfl ?_
    show Steps p.tables e below (T23.setTop (mkF m 169 #[.val (.long q1), .second, .val (.int p2), .val (.int p3), .val (.int p4), .val (.ref w_OUT), .val (.int (4 : Int32)), .val (.ref b7), .val (.ref f), .val (.ref o1), .val (.int (1 : Int32)), .val (.ref o2)] [(.long q1), (.long q1)])) _
    refine XS.lcmp X23.here hx rfl (hb hby at_169) rfl ?_
    show Steps p.tables e below (T23.setTop (mkF m 170 #[.val (.long q1), .second, .val (.int p2), .val (.int p3), .val (.int p4), .val (.ref w_OUT), .val (.int (4 : Int32)), .val (.ref b7), .val (.ref f), .val (.ref o1), .val (.int (1 : Int32)), .val (.ref o2)] [(.int (lcmpW q1 q1))])) _
    refine XS.ifNo X23.here hx rfl (hb hby at_170) rfl ((if0 _ _).trans (teq ((lw_eq q1 q1).mpr rfl)).2) ?_
    show Steps p.tables e below (T23.setTop (mkF m 173 #[.val (.long q1), .second, .val (.int p2), .val (.int p3), .val (.int p4), .val (.ref w_OUT), .val (.int (4 : Int32)), .val (.ref b7), .val (.ref f), .val (.ref o1), .val (.int (1 : Int32)), .val (.ref o2)] [])) _
    refine XS.iconst X23.here hx rfl (hb hby at_173) ?_
    show Steps p.tables e below (T23.setTop (mkF m 174 #[.val (.long q1), .second, .val (.int p2), .val (.int p3), .val (.int p4), .val (.ref w_OUT), .val (.int (4 : Int32)), .val (.ref b7), .val (.ref f), .val (.ref o1), .val (.int (1 : Int32)), .val (.ref o2)] [(.int (1 : Int32))])) _
    refine XS.goto X23.here hx rfl (pc0 := 174) (pc' := 178) rfl (hb hby at_174) (by decide) (by decide) ?_
    show Steps p.tables e below (T23.setTop (mkF m 178 #[.val (.long q1), .second, .val (.int p2), .val (.int p3), .val (.int p4), .val (.ref w_OUT), .val (.int (4 : Int32)), .val (.ref b7), .val (.ref f), .val (.ref o1), .val (.int (1 : Int32)), .val (.ref o2)] [(.int (1 : Int32))])) _
    refine XS.istore X23.here hx rfl (hb hby at_178) rfl (l' := #[.val (.long q1), .second, .val (.int p2), .val (.int p3), .val (.int p4), .val (.ref w_OUT), .val (.int (4 : Int32)), .val (.ref b7), .val (.ref f), .val (.ref o1), .val (.int (1 : Int32)), .val (.ref o2)]) rfl ?_
    show Steps p.tables e below (T23.setTop (mkF m 180 #[.val (.long q1), .second, .val (.int p2), .val (.int p3), .val (.int p4), .val (.ref w_OUT), .val (.int (4 : Int32)), .val (.ref b7), .val (.ref f), .val (.ref o1), .val (.int (1 : Int32)), .val (.ref o2)] [])) _
    refine XS.iload X23.here hx rfl (hb hby at_180) rfl ?_
    show Steps p.tables e below (T23.setTop (mkF m 182 #[.val (.long q1), .second, .val (.int p2), .val (.int p3), .val (.int p4), .val (.ref w_OUT), .val (.int (4 : Int32)), .val (.ref b7), .val (.ref f), .val (.ref o1), .val (.int (1 : Int32)), .val (.ref o2)] [(.int (1 : Int32))])) _
    refine XS.ifNo X23.here hx rfl (hb hby at_182) rfl ((if0 _ _).trans (feq (by decide)).1) ?_
    show Steps p.tables e below (T23.setTop (mkF m 185 #[.val (.long q1), .second, .val (.int p2), .val (.int p3), .val (.int p4), .val (.ref w_OUT), .val (.int (4 : Int32)), .val (.ref b7), .val (.ref f), .val (.ref o1), .val (.int (1 : Int32)), .val (.ref o2)] [])) _
    refine XS.aload X23.here hx rfl (hb hby at_185) rfl rfl ?_
    show Steps p.tables e below (T23.setTop (mkF m 187 #[.val (.long q1), .second, .val (.int p2), .val (.int p3), .val (.int p4), .val (.ref w_OUT), .val (.int (4 : Int32)), .val (.ref b7), .val (.ref f), .val (.ref o1), .val (.int (1 : Int32)), .val (.ref o2)] [(.ref f)])) _
    refine st24.trans ?_
    show Steps p.tables e below (T24.setTop (mkF m 190 #[.val (.long q1), .second, .val (.int p2), .val (.int p3), .val (.int p4), .val (.ref w_OUT), .val (.int (4 : Int32)), .val (.ref b7), .val (.ref f), .val (.ref o1), .val (.int (1 : Int32)), .val (.ref o2)] [(.ref w_OUT)])) _
    refine XS.aload X24.here hx rfl (hb hby at_190) rfl rfl ?_
    show Steps p.tables e below (T24.setTop (mkF m 192 #[.val (.long q1), .second, .val (.int p2), .val (.int p3), .val (.int p4), .val (.ref w_OUT), .val (.int (4 : Int32)), .val (.ref b7), .val (.ref f), .val (.ref o1), .val (.int (1 : Int32)), .val (.ref o2)] [(.ref w_OUT), (.ref w_OUT)])) _
    refine Jvm.RoadKit.acmp (g := (mkF m 192 #[.val (.long q1), .second, .val (.int p2), .val (.int p3), .val (.int p4), .val (.ref w_OUT), .val (.int (4 : Int32)), .val (.ref b7), .val (.ref f), .val (.ref o1), .val (.int (1 : Int32)), .val (.ref o2)] [(.ref w_OUT), (.ref w_OUT)])) X24 hx rfl rfl rfl (pc0 := 192) (pc' := 195) (same := true) rfl (hb hby at_192) rfl (decide_eq_true rfl) (by decide) (by decide) ?_
    show Steps p.tables e below (T24.setTop (mkF m 195 #[.val (.long q1), .second, .val (.int p2), .val (.int p3), .val (.int p4), .val (.ref w_OUT), .val (.int (4 : Int32)), .val (.ref b7), .val (.ref f), .val (.ref o1), .val (.int (1 : Int32)), .val (.ref o2)] [])) _
    refine XS.iconst X24.here hx rfl (hb hby at_195) ?_
    show Steps p.tables e below (T24.setTop (mkF m 196 #[.val (.long q1), .second, .val (.int p2), .val (.int p3), .val (.int p4), .val (.ref w_OUT), .val (.int (4 : Int32)), .val (.ref b7), .val (.ref f), .val (.ref o1), .val (.int (1 : Int32)), .val (.ref o2)] [(.int (1 : Int32))])) _
    refine XS.goto X24.here hx rfl (pc0 := 196) (pc' := 200) rfl (hb hby at_196) (by decide) (by decide) ?_
    show Steps p.tables e below (T24.setTop (mkF m 200 #[.val (.long q1), .second, .val (.int p2), .val (.int p3), .val (.int p4), .val (.ref w_OUT), .val (.int (4 : Int32)), .val (.ref b7), .val (.ref f), .val (.ref o1), .val (.int (1 : Int32)), .val (.ref o2)] [(.int (1 : Int32))])) _
    refine XS.istore X24.here hx rfl (hb hby at_200) rfl (l' := #[.val (.long q1), .second, .val (.int p2), .val (.int p3), .val (.int p4), .val (.ref w_OUT), .val (.int (4 : Int32)), .val (.ref b7), .val (.ref f), .val (.ref o1), .val (.int (1 : Int32)), .val (.ref o2)]) rfl ?_
    show Steps p.tables e below (T24.setTop (mkF m 202 #[.val (.long q1), .second, .val (.int p2), .val (.int p3), .val (.int p4), .val (.ref w_OUT), .val (.int (4 : Int32)), .val (.ref b7), .val (.ref f), .val (.ref o1), .val (.int (1 : Int32)), .val (.ref o2)] [])) _
    refine XS.iload X24.here hx rfl (hb hby at_202) rfl ?_
    show Steps p.tables e below (T24.setTop (mkF m 204 #[.val (.long q1), .second, .val (.int p2), .val (.int p3), .val (.int p4), .val (.ref w_OUT), .val (.int (4 : Int32)), .val (.ref b7), .val (.ref f), .val (.ref o1), .val (.int (1 : Int32)), .val (.ref o2)] [(.int (1 : Int32))])) _
    refine XS.ifNo X24.here hx rfl (hb hby at_204) rfl ((if0 _ _).trans (feq (by decide)).1) ?_
    show Steps p.tables e below (T24.setTop (mkF m 207 #[.val (.long q1), .second, .val (.int p2), .val (.int p3), .val (.int p4), .val (.ref w_OUT), .val (.int (4 : Int32)), .val (.ref b7), .val (.ref f), .val (.ref o1), .val (.int (1 : Int32)), .val (.ref o2)] [])) _
    refine XS.aload X24.here hx rfl (hb hby at_207) rfl rfl ?_
    show Steps p.tables e below (T24.setTop (mkF m 209 #[.val (.long q1), .second, .val (.int p2), .val (.int p3), .val (.int p4), .val (.ref w_OUT), .val (.int (4 : Int32)), .val (.ref b7), .val (.ref f), .val (.ref o1), .val (.int (1 : Int32)), .val (.ref o2)] [(.ref f)])) _
    refine st25.trans ?_
    show Steps p.tables e below (T25.setTop (mkF m 212 #[.val (.long q1), .second, .val (.int p2), .val (.int p3), .val (.int p4), .val (.ref w_OUT), .val (.int (4 : Int32)), .val (.ref b7), .val (.ref f), .val (.ref o1), .val (.int (1 : Int32)), .val (.ref o2)] [(.int (0 : Int32))])) _
    refine XS.ifNo X25.here hx rfl (hb hby at_212) rfl ((if0 _ _).trans (teq (by decide)).2) ?_
    show Steps p.tables e below (T25.setTop (mkF m 215 #[.val (.long q1), .second, .val (.int p2), .val (.int p3), .val (.int p4), .val (.ref w_OUT), .val (.int (4 : Int32)), .val (.ref b7), .val (.ref f), .val (.ref o1), .val (.int (1 : Int32)), .val (.ref o2)] [])) _
    refine XS.iconst X25.here hx rfl (hb hby at_215) ?_
    show Steps p.tables e below (T25.setTop (mkF m 216 #[.val (.long q1), .second, .val (.int p2), .val (.int p3), .val (.int p4), .val (.ref w_OUT), .val (.int (4 : Int32)), .val (.ref b7), .val (.ref f), .val (.ref o1), .val (.int (1 : Int32)), .val (.ref o2)] [(.int (1 : Int32))])) _
    refine XS.goto X25.here hx rfl (pc0 := 216) (pc' := 220) rfl (hb hby at_216) (by decide) (by decide) ?_
    show Steps p.tables e below (T25.setTop (mkF m 220 #[.val (.long q1), .second, .val (.int p2), .val (.int p3), .val (.int p4), .val (.ref w_OUT), .val (.int (4 : Int32)), .val (.ref b7), .val (.ref f), .val (.ref o1), .val (.int (1 : Int32)), .val (.ref o2)] [(.int (1 : Int32))])) _
    refine XS.istore X25.here hx rfl (hb hby at_220) rfl (l' := #[.val (.long q1), .second, .val (.int p2), .val (.int p3), .val (.int p4), .val (.ref w_OUT), .val (.int (4 : Int32)), .val (.ref b7), .val (.ref f), .val (.ref o1), .val (.int (1 : Int32)), .val (.ref o2)]) rfl ?_
    show Steps p.tables e below (T25.setTop (mkF m 222 #[.val (.long q1), .second, .val (.int p2), .val (.int p3), .val (.int p4), .val (.ref w_OUT), .val (.int (4 : Int32)), .val (.ref b7), .val (.ref f), .val (.ref o1), .val (.int (1 : Int32)), .val (.ref o2)] [])) _
    refine XS.iload X25.here hx rfl (hb hby at_222) rfl ?_
    show Steps p.tables e below (T25.setTop (mkF m 224 #[.val (.long q1), .second, .val (.int p2), .val (.int p3), .val (.int p4), .val (.ref w_OUT), .val (.int (4 : Int32)), .val (.ref b7), .val (.ref f), .val (.ref o1), .val (.int (1 : Int32)), .val (.ref o2)] [(.int (1 : Int32))])) _
    exact retN X25 hx (t := .boolean) Bd.returns (by simp) (hb hby at_224) hr
  · show Q0 Z h0 n0 _ T25.heap _
    exact ⟨rfl, N25⟩
set_option maxRecDepth 65536 in
set_option maxHeartbeats 40000000 in
theorem rm0_IN_0 (l : Launch) (Z : State) (a0 : Array Value) (hw : ∀ d ∈ tables_1, d.before a0 Z = true) (ws : List Jvm.Cond) (q1 : Int64) (p2 : Int32) (p3 : Int32) (p4 : Int32) (w_IN : Addr) (h0 : Heap) (n0 : Nat) (Z0 : n0 ≤ h0.size) (S_IN : Sta Z h0 "com/example/quotewire/quotewire/wire/Frame$Direction" "IN" "Lcom/example/quotewire/quotewire/wire/Frame$Direction;" (.ref w_IN)) (E_IN : Exa Z h0 w_IN "com/example/quotewire/quotewire/wire/Frame$Direction") (hc3 : (p2 &&& (1 : Int32)) = (0 : Int32)) (hk : ((p4 &&& (7 : Int32)) % (5 : Int32)) = (0 : Int32)) :
    MetFree l x (head1 (Jvm.Cond.code x code maxLocals ret :: ws) room_1) (fun a U => a = #[(.long q1), (.int p2), (.int p3), (.int p4)] ∧ Z.Warmed39 U.vm ∧ U.heap = h0) (fun _ _ _ _ _ => True) (fun _ U o U' => ∃ v L, o = .returned v ∧ Q0 Z h0 n0 v U'.heap L ∧ ReturnedEndW U o U' L room_1.cells room_1.slots) := by
  refine MetFree.of_bodySF (plainFor_of_name pn_0) hisR ?_
  intro p e s m args below meth c s₁ Bd hml0 hP hK
  obtain ⟨rfl, hZ, hh⟩ := hP
  have hx := Bd.exec
  have hby := Bd.bytes
  have hml : c.maxLocals = 12 := hml0
  have hown : s.vm.findClass "com/example/quotewire/quotewire/wire/FrameBinaryPinLaw" = some m.cls := findClass_of_methodNamed Bd.named
  have hnm := (name_of_methodNamed Bd.named Bd.method).1
  have X0 : Stand p l e room_1 s m #[(.long q1), (.int p2), (.int p3), (.int p4)] below meth c s₁ [] 0 0 := Stand.of_body Bd
  have e0 : s₁.heap = h0 := by rw [← hh, Bd.state]; rfl
  have N0 := Fr.nil n0
  have pre0 : ∀ t, Steps p.tables e below (s₁.setTop (mkF m 0 #[.val (.long q1), .second, .val (.int p2), .val (.int p3), .val (.int p4), .unset, .unset, .unset, .unset, .unset, .unset, .unset] [])) t → Steps p.tables e below (s₁.setTop (entryFrame m #[(.long q1), (.int p2), (.int p3), (.int p4)] maxLocals)) t := fun t k => castTop (ef_0 m q1 p2 p3 p4) k
  -- 3. LAWS
  obtain ⟨T6, X6, e6, st6⟩ := getS2 X0 hx hZ hown (host := "") (Or.inl (hw _ (List.mem_of_getElem? (i := 0) rfl))) Via.refl e0 S_IN (g := (mkF m 12 #[.val (.long q1), .second, .val (.int p2), .val (.int p3), .val (.int p4), .unset, .unset, .unset, .unset, .unset, .unset, .unset] [])) rfl (hb hby at_12)
  obtain ⟨T7, h7, k7, X7, e7, E7, A7, B7, st7⟩ := newPE X6 hx hZ (hw _ (List.mem_of_getElem? (i := 3) rfl)) e6 (g := (mkF m 28 #[.val (.long q1), .second, .val (.int p2), .val (.int p3), .val (.int p4), .val (.ref w_IN), .val (.int (0 : Int32)), .unset, .unset, .unset, .unset, .unset] [(.int (0 : Int32))])) rfl (hb hby at_28) rfl (by decide) (cap := 4) (by decide) (by decide) (by decide) (by decide) (ad := "[B") (by decide)
  obtain ⟨b7, g7⟩ : ∃ z, z = h0.size := ⟨_, rfl⟩      -- the fresh array's address
  rw [← g7] at A7 B7 st7
  have V0 : Arv Z h7 b7 k7 .byte (0 : Int32) [] (.int (0 : Int32)) := (Arv.new A7 (by decide)).pad (pad_rep [] (.int (0 : Int32)) 0)
  have g_b7 : n0 ≤ b7 := Nat.le_trans Z0 (Nat.le_of_eq g7.symm)
  have sz_b7 : h0.size ≤ b7 := (Nat.le_trans (Keep.refl h0 []).1 (Nat.le_of_eq g7.symm))
  have K7 : Keep h0 h7 [] := (Keep.refl h0 []).ext E7
  have Zc_0 : n0 ≤ h7.size := Nat.le_trans Z0 K7.1
  have D_0 := E_IN.ext E7
  have D_c : Exa Z h7 w_IN "com/example/quotewire/quotewire/wire/Frame$Direction" := D_0
  have B_c : Exa Z h7 b7 "[B" := B7
  obtain ⟨_, _, ⟨T8, L8, k8, n8⟩, -, X8, S8, gr8, ⟨Lc8, hQ8, l8, y8, z8⟩, st8⟩ := callSS X7 hx (y := (⟨"com/example/quotewire/quotewire/wire/Frame", "binary", "(JLcom/example/quotewire/quotewire/wire/Frame$Direction;[B)Lcom/example/quotewire/quotewire/wire/Frame;"⟩ : MethodName)) hown (mvT hZ (hw _ (List.mem_of_getElem? (i := 4) rfl))) (mvT hZ (hw _ (List.mem_of_getElem? (i := 5) rfl))) (mvT hZ (hw _ (List.mem_of_getElem? (i := 6) rfl))) (mvT hZ (hw _ (List.mem_of_getElem? (i := 7) rfl))) (by decide) (backOfS (W := 0) (rm1 l Z a0 hw [] q1 w_IN b7 k7 (0 : Int32) [] (.int (0 : Int32)) h7 n0 Zc_0 D_c B_c V0 (by decide)) hZ (hw _ (List.mem_of_getElem? (i := 7) rfl)) (hw _ (List.mem_of_getElem? (i := 6) rfl)) (by decide) (by decide)) (g := (mkF m 96 #[.val (.long q1), .second, .val (.int p2), .val (.int p3), .val (.int p4), .val (.ref w_IN), .val (.int (0 : Int32)), .val (.ref b7), .unset, .unset, .unset, .unset] [(.ref b7), (.ref w_IN), (.long q1)])) rfl (by rw [hml]; rfl) (argsL := [(.long q1), (.ref w_IN), (.ref b7)]) (rest := []) (lenOf pd_0_0 rfl) rfl (by show 2 * 0 + _ ≤ _; exact Nat.le_of_eq rfl) (hb hby at_96) (fun _ _ => ⟨rfl, e7, (by decide : 1 + 4 ≤ _), (by decide : 4 + 48 ≤ _)⟩)
  dsimp only [Pt.U, Pt.locs, Pt.cells, Pt.slots] at X8 S8 gr8 l8 y8 z8 st8 hQ8
  subst l8 y8 z8
  obtain ⟨N8q, f, fb, rfl, zf, zb, K8, Ef_8, Eb_8, Ft_8, Fd_8, Fx_8, Fb_8, Vb_8⟩ := hQ8
  have hZw : Z.Warmed39 (s.setVm T8.vm).vm := State.Warmed39.trans (t := s) hZ S8.1
  have hownw : (s.setVm T8.vm).vm.findClass "com/example/quotewire/quotewire/wire/FrameBinaryPinLaw" = some m.cls := by rw [show (s.setVm T8.vm).vm = T8.vm from rfl, S8.1.alike.findClass]; exact hown
  have Z_8 : n0 ≤ T8.heap.size := Nat.le_trans Zc_0 K8.1
  have Vs : Arv Z T8.heap b7 k7 .byte (0 : Int32) [] (.int (0 : Int32)) := V0.keep K8 (fun q => nomatch q)
  have lb : b7 < h7.size := V0.lt
  have nf : f ∉ [b7] := fun q => absurd (List.mem_singleton.mp q) (Nat.ne_of_gt (Nat.lt_of_lt_of_le lb zf))
  have nb : fb ∉ [b7] := fun q => absurd (List.mem_singleton.mp q) (Nat.ne_of_gt (Nat.lt_of_lt_of_le lb zb))
  have N8 := Fr.app N0 N8q
  obtain ⟨_, _, ⟨T9, L9, k9, n9⟩, -, X9, ⟨Lc9, hQ9, l9, y9, z9⟩, st9⟩ := Jvm.LawKit.callS X8 hx (y := (⟨"com/example/quotewire/quotewire/wire/FrameBinaryPinLaw", "flip", "([B)V"⟩ : MethodName)) hownw (mvT hZw (hw _ (List.mem_of_getElem? (i := 46) rfl))) (mvT hZw (hw _ (List.mem_of_getElem? (i := 47) rfl))) (mvT hZw (hw _ (List.mem_of_getElem? (i := 48) rfl))) (mvT hZw (hw _ (List.mem_of_getElem? (i := 49) rfl))) (by decide) (backOf (W := 0) (rm5_0 l Z a0 hw [] b7 k7  (.int (0 : Int32)) T8.heap n0 Z_8 Vs g_b7) hZw (hw _ (List.mem_of_getElem? (i := 49) rfl)) (hw _ (List.mem_of_getElem? (i := 48) rfl)) (by decide) (by decide)) (g := (mkF m 103 #[.val (.long q1), .second, .val (.int p2), .val (.int p3), .val (.int p4), .val (.ref w_IN), .val (.int (0 : Int32)), .val (.ref b7), .val (.ref f), .unset, .unset, .unset] [(.ref b7)])) rfl (by rw [hml]; rfl) (argsL := [(.ref b7)]) (rest := []) (lenOf pd_0_5 rfl) rfl (by show 2 * 0 + _ ≤ _; exact Nat.le_of_eq rfl) (hb hby at_103) (fun _ _ => ⟨rfl, rfl, (by decide : 5 + 0 ≤ _), (by decide : 52 + 0 ≤ _)⟩)
  dsimp only [Pt.U, Pt.locs, Pt.cells, Pt.slots] at X9 l9 y9 z9 st9 hQ9
  subst l9 y9 z9
  obtain ⟨rfl, N9q, K9⟩ := hQ9
  have Ef_9 := Ef_8.keep K9
  have Eb_9 := Eb_8.keep K9
  have Ft_9 := Ft_8.keep K9 nf
  have Fd_9 := Fd_8.keep K9 nf
  have Fx_9 := Fx_8.keep K9 nf
  have Fb_9 := Fb_8.keep K9 nf
  have Vb_9 := Vb_8.keep K9 nb
  have Z_9 : n0 ≤ T9.heap.size := Nat.le_trans Z_8 K9.1
  have N9 := Fr.app N8 N9q
  obtain ⟨cq10, kq10, q10a, q10b, q10c⟩ := isOf hZw rfl Ef_9
  obtain ⟨_, _, ⟨T10, L10, k10, n10⟩, -, X10, ⟨Lc10, hQ10, l10, y10, z10⟩, st10⟩ := X9.virtualBack hx (y := (⟨"com/example/quotewire/quotewire/wire/Frame", "binary", "()[B"⟩ : MethodName)) (z := (⟨"com/example/quotewire/quotewire/wire/Frame", "binary", "()[B"⟩ : MethodName)) hownw (mvT hZw (hw _ (List.mem_of_getElem? (i := 50) rfl))) (mvT hZw (hw _ (List.mem_of_getElem? (i := 51) rfl))) (notFace_of_selects (args := #[]) (mvT hZw (hw _ (List.mem_of_getElem? (i := 53) rfl)))) (mvT hZw (hw _ (List.mem_of_getElem? (i := 53) rfl))) (mvT hZw (hw _ (List.mem_of_getElem? (i := 52) rfl))) (by decide) (backOf (W := 0) (rm6 l Z a0 hw [] f fb k7 (0 : Int32) [] (.int (0 : Int32)) T9.heap n0 Z_9 Fb_9 Eb_9 Vb_9 (by decide)) hZw (hw _ (List.mem_of_getElem? (i := 54) rfl)) (hw _ (List.mem_of_getElem? (i := 6) rfl)) (by decide) (by decide)) q10a q10c (g := (mkF m 108 #[.val (.long q1), .second, .val (.int p2), .val (.int p3), .val (.int p4), .val (.ref w_IN), .val (.int (0 : Int32)), .val (.ref b7), .val (.ref f), .unset, .unset, .unset] [(.ref f)])) rfl (by rw [hml]; rfl) (Steps.refl _) (argsL := []) (rest := []) (lenOf pd_0_6 rfl) rfl (by show 2 * 0 + _ ≤ _; exact Nat.le_of_eq rfl) (hb hby at_108) (fun _ _ => ⟨rfl, rfl, (by decide : 5 + 1 ≤ _), (by decide : 52 + 4 ≤ _)⟩)
  dsimp only [Pt.U, Pt.locs, Pt.cells, Pt.slots] at X10 l10 y10 z10 st10 hQ10
  subst l10 y10 z10
  obtain ⟨N10q, o1, rfl, zo1, K10, Vo1, Eo1⟩ := hQ10
  have nf1 : f ∉ [o1] := fun q => absurd (List.mem_singleton.mp q) (Nat.ne_of_lt (Nat.lt_of_lt_of_le Ef_9.lt zo1))
  have nb1 : fb ∉ [o1] := fun q => absurd (List.mem_singleton.mp q) (Nat.ne_of_lt (Nat.lt_of_lt_of_le Eb_9.lt zo1))
  have g_o1 : n0 ≤ o1 := Nat.le_trans Z_9 zo1
  have Ef_10 := Ef_9.keep K10
  have Eb_10 := Eb_9.keep K10
  have Ft_10 := Ft_9.keep K10 (fun q => nomatch q)
  have Fd_10 := Fd_9.keep K10 (fun q => nomatch q)
  have Fx_10 := Fx_9.keep K10 (fun q => nomatch q)
  have Fb_10 := Fb_9.keep K10 (fun q => nomatch q)
  have Vb_10 := Vb_9.keep K10 (fun q => nomatch q)
  have Z_10 : n0 ≤ T10.heap.size := Nat.le_trans Z_9 K10.1
  have N10 := Fr.app N9 N10q
  obtain ⟨_, _, ⟨T11, L11, k11, n11⟩, -, X11, ⟨Lc11, hQ11, l11, y11, z11⟩, st11⟩ := Jvm.LawKit.callS X10 hx (y := (⟨"com/example/quotewire/quotewire/wire/FrameBinaryPinLaw", "same", "([BII)Z"⟩ : MethodName)) hownw (mvT hZw (hw _ (List.mem_of_getElem? (i := 55) rfl))) (mvT hZw (hw _ (List.mem_of_getElem? (i := 56) rfl))) (mvT hZw (hw _ (List.mem_of_getElem? (i := 48) rfl))) (mvT hZw (hw _ (List.mem_of_getElem? (i := 57) rfl))) (by decide) (backOf (W := 0) (rm7_0 l Z a0 hw [] o1 p3 k7 (.int (0 : Int32)) T10.heap n0 Z_10 Vo1) hZw (hw _ (List.mem_of_getElem? (i := 57) rfl)) (hw _ (List.mem_of_getElem? (i := 48) rfl)) (by decide) (by decide)) (g := (mkF m 118 #[.val (.long q1), .second, .val (.int p2), .val (.int p3), .val (.int p4), .val (.ref w_IN), .val (.int (0 : Int32)), .val (.ref b7), .val (.ref f), .val (.ref o1), .unset, .unset] [(.int p3), (.int (0 : Int32)), (.ref o1)])) rfl (by rw [hml]; rfl) (argsL := [(.ref o1), (.int (0 : Int32)), (.int p3)]) (rest := []) (lenOf pd_0_7 rfl) rfl (by show 2 * 0 + _ ≤ _; exact Nat.le_of_eq rfl) (hb hby at_118) (fun _ _ => ⟨rfl, rfl, (by decide : 6 + 0 ≤ _), (by decide : 56 + 0 ≤ _)⟩)
  dsimp only [Pt.U, Pt.locs, Pt.cells, Pt.slots] at X11 l11 y11 z11 st11 hQ11
  subst l11 y11 z11
  obtain ⟨rfl, N11q, q11⟩ := hQ11
  have K11 : Keep T10.heap T11.heap [] := by rw [q11]; exact Keep.refl _ _
  have Vo1_ := Vo1.keep K11 (fun q => nomatch q)
  have Ef_11 := Ef_10.keep K11
  have Eb_11 := Eb_10.keep K11
  have Ft_11 := Ft_10.keep K11 (fun q => nomatch q)
  have Fd_11 := Fd_10.keep K11 (fun q => nomatch q)
  have Fx_11 := Fx_10.keep K11 (fun q => nomatch q)
  have Fb_11 := Fb_10.keep K11 (fun q => nomatch q)
  have Vb_11 := Vb_10.keep K11 (fun q => nomatch q)
  have Z_11 : n0 ≤ T11.heap.size := Nat.le_trans Z_10 K11.1
  have N11 := Fr.app N10 N11q
  obtain ⟨_, _, ⟨T12, L12, k12, n12⟩, -, X12, ⟨Lc12, hQ12, l12, y12, z12⟩, st12⟩ := Jvm.LawKit.callS X11 hx (y := (⟨"com/example/quotewire/quotewire/wire/FrameBinaryPinLaw", "flip", "([B)V"⟩ : MethodName)) hownw (mvT hZw (hw _ (List.mem_of_getElem? (i := 46) rfl))) (mvT hZw (hw _ (List.mem_of_getElem? (i := 47) rfl))) (mvT hZw (hw _ (List.mem_of_getElem? (i := 48) rfl))) (mvT hZw (hw _ (List.mem_of_getElem? (i := 49) rfl))) (by decide) (backOf (W := 0) (rm5_0 l Z a0 hw [] o1 k7  (.int (0 : Int32)) T11.heap n0 Z_11 Vo1_ g_o1) hZw (hw _ (List.mem_of_getElem? (i := 49) rfl)) (hw _ (List.mem_of_getElem? (i := 48) rfl)) (by decide) (by decide)) (g := (mkF m 125 #[.val (.long q1), .second, .val (.int p2), .val (.int p3), .val (.int p4), .val (.ref w_IN), .val (.int (0 : Int32)), .val (.ref b7), .val (.ref f), .val (.ref o1), .val (.int (1 : Int32)), .unset] [(.ref o1)])) rfl (by rw [hml]; rfl) (argsL := [(.ref o1)]) (rest := []) (lenOf pd_0_5 rfl) rfl (by show 2 * 0 + _ ≤ _; exact Nat.le_of_eq rfl) (hb hby at_125) (fun _ _ => ⟨rfl, rfl, (by decide : 6 + 0 ≤ _), (by decide : 56 + 0 ≤ _)⟩)
  dsimp only [Pt.U, Pt.locs, Pt.cells, Pt.slots] at X12 l12 y12 z12 st12 hQ12
  subst l12 y12 z12
  obtain ⟨rfl, N12q, K12⟩ := hQ12
  have Ef_12 := Ef_11.keep K12
  have Eb_12 := Eb_11.keep K12
  have Ft_12 := Ft_11.keep K12 nf1
  have Fd_12 := Fd_11.keep K12 nf1
  have Fx_12 := Fx_11.keep K12 nf1
  have Fb_12 := Fb_11.keep K12 nf1
  have Vb_12 := Vb_11.keep K12 nb1
  have Z_12 : n0 ≤ T12.heap.size := Nat.le_trans Z_11 K12.1
  have N12 := Fr.app N11 N12q
  obtain ⟨cq13, kq13, q13a, q13b, q13c⟩ := isOf hZw rfl Ef_12
  obtain ⟨_, _, ⟨T13, L13, k13, n13⟩, -, X13, ⟨Lc13, hQ13, l13, y13, z13⟩, st13⟩ := X12.virtualBack hx (y := (⟨"com/example/quotewire/quotewire/wire/Frame", "binary", "()[B"⟩ : MethodName)) (z := (⟨"com/example/quotewire/quotewire/wire/Frame", "binary", "()[B"⟩ : MethodName)) hownw (mvT hZw (hw _ (List.mem_of_getElem? (i := 50) rfl))) (mvT hZw (hw _ (List.mem_of_getElem? (i := 51) rfl))) (notFace_of_selects (args := #[]) (mvT hZw (hw _ (List.mem_of_getElem? (i := 53) rfl)))) (mvT hZw (hw _ (List.mem_of_getElem? (i := 53) rfl))) (mvT hZw (hw _ (List.mem_of_getElem? (i := 52) rfl))) (by decide) (backOf (W := 0) (rm6 l Z a0 hw [] f fb k7 (0 : Int32) [] (.int (0 : Int32)) T12.heap n0 Z_12 Fb_12 Eb_12 Vb_12 (by decide)) hZw (hw _ (List.mem_of_getElem? (i := 54) rfl)) (hw _ (List.mem_of_getElem? (i := 6) rfl)) (by decide) (by decide)) q13a q13c (g := (mkF m 130 #[.val (.long q1), .second, .val (.int p2), .val (.int p3), .val (.int p4), .val (.ref w_IN), .val (.int (0 : Int32)), .val (.ref b7), .val (.ref f), .val (.ref o1), .val (.int (1 : Int32)), .unset] [(.ref f)])) rfl (by rw [hml]; rfl) (Steps.refl _) (argsL := []) (rest := []) (lenOf pd_0_6 rfl) rfl (by show 2 * 0 + _ ≤ _; exact Nat.le_of_eq rfl) (hb hby at_130) (fun _ _ => ⟨rfl, rfl, (by decide : 6 + 1 ≤ _), (by decide : 56 + 4 ≤ _)⟩)
  dsimp only [Pt.U, Pt.locs, Pt.cells, Pt.slots] at X13 l13 y13 z13 st13 hQ13
  subst l13 y13 z13
  obtain ⟨N13q, o2, rfl, zo2, K13, Vo2, Eo2⟩ := hQ13
  have Ef_13 := Ef_12.keep K13
  have Eb_13 := Eb_12.keep K13
  have Ft_13 := Ft_12.keep K13 (fun q => nomatch q)
  have Fd_13 := Fd_12.keep K13 (fun q => nomatch q)
  have Fx_13 := Fx_12.keep K13 (fun q => nomatch q)
  have Fb_13 := Fb_12.keep K13 (fun q => nomatch q)
  have Vb_13 := Vb_12.keep K13 (fun q => nomatch q)
  have Z_13 : n0 ≤ T13.heap.size := Nat.le_trans Z_12 K13.1
  have N13 := Fr.app N12 N13q
  obtain ⟨_, _, ⟨T14, L14, k14, n14⟩, -, X14, ⟨Lc14, hQ14, l14, y14, z14⟩, st14⟩ := Jvm.LawKit.callS X13 hx (y := (⟨"com/example/quotewire/quotewire/wire/FrameBinaryPinLaw", "same", "([BII)Z"⟩ : MethodName)) hownw (mvT hZw (hw _ (List.mem_of_getElem? (i := 55) rfl))) (mvT hZw (hw _ (List.mem_of_getElem? (i := 56) rfl))) (mvT hZw (hw _ (List.mem_of_getElem? (i := 48) rfl))) (mvT hZw (hw _ (List.mem_of_getElem? (i := 57) rfl))) (by decide) (backOf (W := 0) (rm7_0 l Z a0 hw [] o2 p3 k7 (.int (0 : Int32)) T13.heap n0 Z_13 Vo2) hZw (hw _ (List.mem_of_getElem? (i := 57) rfl)) (hw _ (List.mem_of_getElem? (i := 48) rfl)) (by decide) (by decide)) (g := (mkF m 145 #[.val (.long q1), .second, .val (.int p2), .val (.int p3), .val (.int p4), .val (.ref w_IN), .val (.int (0 : Int32)), .val (.ref b7), .val (.ref f), .val (.ref o1), .val (.int (1 : Int32)), .val (.ref o2)] [(.int p3), (.int (0 : Int32)), (.ref o2)])) rfl (by rw [hml]; rfl) (argsL := [(.ref o2), (.int (0 : Int32)), (.int p3)]) (rest := []) (lenOf pd_0_7 rfl) rfl (by show 2 * 0 + _ ≤ _; exact Nat.le_of_eq rfl) (hb hby at_145) (fun _ _ => ⟨rfl, rfl, (by decide : 7 + 0 ≤ _), (by decide : 60 + 0 ≤ _)⟩)
  dsimp only [Pt.U, Pt.locs, Pt.cells, Pt.slots] at X14 l14 y14 z14 st14 hQ14
  subst l14 y14 z14
  obtain ⟨rfl, N14q, q14⟩ := hQ14
  have K14 : Keep T13.heap T14.heap [] := by rw [q14]; exact Keep.refl _ _
  have Ef_14 := Ef_13.keep K14
  have Eb_14 := Eb_13.keep K14
  have Ft_14 := Ft_13.keep K14 (fun q => nomatch q)
  have Fd_14 := Fd_13.keep K14 (fun q => nomatch q)
  have Fx_14 := Fx_13.keep K14 (fun q => nomatch q)
  have Fb_14 := Fb_13.keep K14 (fun q => nomatch q)
  have Vb_14 := Vb_13.keep K14 (fun q => nomatch q)
  have Z_14 : n0 ≤ T14.heap.size := Nat.le_trans Z_13 K14.1
  have N14 := Fr.app N13 N14q
  obtain ⟨cq15, kq15, q15a, q15b, q15c⟩ := isOf hZw rfl Ef_14
  obtain ⟨_, _, ⟨T15, L15, k15, n15⟩, -, X15, ⟨Lc15, hQ15, l15, y15, z15⟩, st15⟩ := X14.virtualBack hx (y := (⟨"com/example/quotewire/quotewire/wire/Frame", "time", "()J"⟩ : MethodName)) (z := (⟨"com/example/quotewire/quotewire/wire/Frame", "time", "()J"⟩ : MethodName)) hownw (mvT hZw (hw _ (List.mem_of_getElem? (i := 58) rfl))) (mvT hZw (hw _ (List.mem_of_getElem? (i := 59) rfl))) (notFace_of_selects (args := #[]) (mvT hZw (hw _ (List.mem_of_getElem? (i := 61) rfl)))) (mvT hZw (hw _ (List.mem_of_getElem? (i := 61) rfl))) (mvT hZw (hw _ (List.mem_of_getElem? (i := 60) rfl))) (by decide) (backOf (W := 0) (rm8 l Z a0 hw [] f q1 T14.heap n0 Z_14 Ft_14) hZw (hw _ (List.mem_of_getElem? (i := 62) rfl)) (hw _ (List.mem_of_getElem? (i := 6) rfl)) (by decide) (by decide)) q15a q15c (g := (mkF m 165 #[.val (.long q1), .second, .val (.int p2), .val (.int p3), .val (.int p4), .val (.ref w_IN), .val (.int (0 : Int32)), .val (.ref b7), .val (.ref f), .val (.ref o1), .val (.int (1 : Int32)), .val (.ref o2)] [(.ref f)])) rfl (by rw [hml]; rfl) (Steps.refl _) (argsL := []) (rest := []) (lenOf pd_0_8 rfl) rfl (by show 2 * 0 + _ ≤ _; exact Nat.le_of_eq rfl) (hb hby at_165) (fun _ _ => ⟨rfl, rfl, (by decide : 7 + 0 ≤ _), (by decide : 60 + 0 ≤ _)⟩)
  dsimp only [Pt.U, Pt.locs, Pt.cells, Pt.slots] at X15 l15 y15 z15 st15 hQ15
  subst l15 y15 z15
  obtain ⟨rfl, N15q, q15⟩ := hQ15
  have K15 : Keep T14.heap T15.heap [] := by rw [q15]; exact Keep.refl _ _
  have Ef_15 := Ef_14.keep K15
  have Eb_15 := Eb_14.keep K15
  have Ft_15 := Ft_14.keep K15 (fun q => nomatch q)
  have Fd_15 := Fd_14.keep K15 (fun q => nomatch q)
  have Fx_15 := Fx_14.keep K15 (fun q => nomatch q)
  have Fb_15 := Fb_14.keep K15 (fun q => nomatch q)
  have Vb_15 := Vb_14.keep K15 (fun q => nomatch q)
  have Z_15 : n0 ≤ T15.heap.size := Nat.le_trans Z_14 K15.1
  have N15 := Fr.app N14 N15q
  obtain ⟨cq16, kq16, q16a, q16b, q16c⟩ := isOf hZw rfl Ef_15
  obtain ⟨_, _, ⟨T16, L16, k16, n16⟩, -, X16, ⟨Lc16, hQ16, l16, y16, z16⟩, st16⟩ := X15.virtualBack hx (y := (⟨"com/example/quotewire/quotewire/wire/Frame", "direction", "()Lcom/example/quotewire/quotewire/wire/Frame$Direction;"⟩ : MethodName)) (z := (⟨"com/example/quotewire/quotewire/wire/Frame", "direction", "()Lcom/example/quotewire/quotewire/wire/Frame$Direction;"⟩ : MethodName)) hownw (mvT hZw (hw _ (List.mem_of_getElem? (i := 63) rfl))) (mvT hZw (hw _ (List.mem_of_getElem? (i := 64) rfl))) (notFace_of_selects (args := #[]) (mvT hZw (hw _ (List.mem_of_getElem? (i := 66) rfl)))) (mvT hZw (hw _ (List.mem_of_getElem? (i := 66) rfl))) (mvT hZw (hw _ (List.mem_of_getElem? (i := 65) rfl))) (by decide) (backOf (W := 0) (rm9 l Z a0 hw [] f w_IN T15.heap n0 Z_15 Fd_15) hZw (hw _ (List.mem_of_getElem? (i := 67) rfl)) (hw _ (List.mem_of_getElem? (i := 6) rfl)) (by decide) (by decide)) q16a q16c (g := (mkF m 187 #[.val (.long q1), .second, .val (.int p2), .val (.int p3), .val (.int p4), .val (.ref w_IN), .val (.int (0 : Int32)), .val (.ref b7), .val (.ref f), .val (.ref o1), .val (.int (1 : Int32)), .val (.ref o2)] [(.ref f)])) rfl (by rw [hml]; rfl) (Steps.refl _) (argsL := []) (rest := []) (lenOf pd_0_9 rfl) rfl (by show 2 * 0 + _ ≤ _; exact Nat.le_of_eq rfl) (hb hby at_187) (fun _ _ => ⟨rfl, rfl, (by decide : 7 + 0 ≤ _), (by decide : 60 + 0 ≤ _)⟩)
  dsimp only [Pt.U, Pt.locs, Pt.cells, Pt.slots] at X16 l16 y16 z16 st16 hQ16
  subst l16 y16 z16
  obtain ⟨rfl, N16q, q16⟩ := hQ16
  have K16 : Keep T15.heap T16.heap [] := by rw [q16]; exact Keep.refl _ _
  have Ef_16 := Ef_15.keep K16
  have Eb_16 := Eb_15.keep K16
  have Ft_16 := Ft_15.keep K16 (fun q => nomatch q)
  have Fd_16 := Fd_15.keep K16 (fun q => nomatch q)
  have Fx_16 := Fx_15.keep K16 (fun q => nomatch q)
  have Fb_16 := Fb_15.keep K16 (fun q => nomatch q)
  have Vb_16 := Vb_15.keep K16 (fun q => nomatch q)
  have Z_16 : n0 ≤ T16.heap.size := Nat.le_trans Z_15 K16.1
  have N16 := Fr.app N15 N16q
  obtain ⟨cq17, kq17, q17a, q17b, q17c⟩ := isOf hZw rfl Ef_16
  obtain ⟨_, _, ⟨T17, L17, k17, n17⟩, -, X17, ⟨Lc17, hQ17, l17, y17, z17⟩, st17⟩ := X16.virtualBack hx (y := (⟨"com/example/quotewire/quotewire/wire/Frame", "isText", "()Z"⟩ : MethodName)) (z := (⟨"com/example/quotewire/quotewire/wire/Frame", "isText", "()Z"⟩ : MethodName)) hownw (mvT hZw (hw _ (List.mem_of_getElem? (i := 68) rfl))) (mvT hZw (hw _ (List.mem_of_getElem? (i := 69) rfl))) (notFace_of_selects (args := #[]) (mvT hZw (hw _ (List.mem_of_getElem? (i := 71) rfl)))) (mvT hZw (hw _ (List.mem_of_getElem? (i := 71) rfl))) (mvT hZw (hw _ (List.mem_of_getElem? (i := 70) rfl))) (by decide) (backOf (W := 0) (rm10 l Z a0 hw [] f T16.heap n0 Z_16 Fx_16) hZw (hw _ (List.mem_of_getElem? (i := 72) rfl)) (hw _ (List.mem_of_getElem? (i := 6) rfl)) (by decide) (by decide)) q17a q17c (g := (mkF m 209 #[.val (.long q1), .second, .val (.int p2), .val (.int p3), .val (.int p4), .val (.ref w_IN), .val (.int (0 : Int32)), .val (.ref b7), .val (.ref f), .val (.ref o1), .val (.int (1 : Int32)), .val (.ref o2)] [(.ref f)])) rfl (by rw [hml]; rfl) (Steps.refl _) (argsL := []) (rest := []) (lenOf pd_0_10 rfl) rfl (by show 2 * 0 + _ ≤ _; exact Nat.le_of_eq rfl) (hb hby at_209) (fun _ _ => ⟨rfl, rfl, (by decide : 7 + 0 ≤ _), (by decide : 60 + 0 ≤ _)⟩)
  dsimp only [Pt.U, Pt.locs, Pt.cells, Pt.slots] at X17 l17 y17 z17 st17 hQ17
  subst l17 y17 z17
  obtain ⟨rfl, N17q, q17⟩ := hQ17
  have K17 : Keep T16.heap T17.heap [] := by rw [q17]; exact Keep.refl _ _
  have Ef_17 := Ef_16.keep K17
  have Eb_17 := Eb_16.keep K17
  have Ft_17 := Ft_16.keep K17 (fun q => nomatch q)
  have Fd_17 := Fd_16.keep K17 (fun q => nomatch q)
  have Fx_17 := Fx_16.keep K17 (fun q => nomatch q)
  have Fb_17 := Fb_16.keep K17 (fun q => nomatch q)
  have Vb_17 := Vb_16.keep K17 (fun q => nomatch q)
  have Z_17 : n0 ≤ T17.heap.size := Nat.le_trans Z_16 K17.1
  have N17 := Fr.app N16 N17q
  have grow : T8.heap.size ≤ T17.heap.size := Nat.le_trans (Nat.le_trans (Nat.le_trans (Nat.le_trans (Nat.le_trans (Nat.le_trans (Nat.le_trans (Nat.le_trans K9.1 K10.1) K11.1) K12.1) K13.1) K14.1) K15.1) K16.1) K17.1
  obtain ⟨fs, hr, hrun, hended, hRW⟩ := X17.leaveW S8 grow (v := some (.int (1 : Int32))) (fun h => by rw [Bd.returns] at h; cases h)
  refine ⟨_, _, pre0 _ ?_, hrun, hended, _, _, rfl, ?_, hRW.1, hRW.2.1, hRW.2.2.1, hRW.2.2.2.mono (by decide) (by decide)⟩
  -- 4. STEPS
  · show Steps p.tables e below (s₁.setTop (mkF m 0 #[.val (.long q1), .second, .val (.int p2), .val (.int p3), .val (.int p4), .unset, .unset, .unset, .unset, .unset, .unset, .unset] [])) _
    refine XS.iloadN X0.here hx rfl (hb hby at_0) rfl ?_
    show Steps p.tables e below (s₁.setTop (mkF m 1 #[.val (.long q1), .second, .val (.int p2), .val (.int p3), .val (.int p4), .unset, .unset, .unset, .unset, .unset, .unset, .unset] [(.int p2)])) _
    refine XS.iconst X0.here hx rfl (hb hby at_1) ?_
    show Steps p.tables e below (s₁.setTop (mkF m 2 #[.val (.long q1), .second, .val (.int p2), .val (.int p3), .val (.int p4), .unset, .unset, .unset, .unset, .unset, .unset, .unset] [(.int (1 : Int32)), (.int p2)])) _
    refine XS.iand X0.here hx rfl (hb hby at_2) rfl ?_
    show Steps p.tables e below (s₁.setTop (mkF m 3 #[.val (.long q1), .second, .val (.int p2), .val (.int p3), .val (.int p4), .unset, .unset, .unset, .unset, .unset, .unset, .unset] [(.int (p2 &&& (1 : Int32)))])) _
    refine XS.ifYes X0.here hx rfl (pc0 := 3) (pc' := 12) rfl (hb hby at_3) rfl ((if0 _ _).trans (teq hc3).1) (by decide) (by decide) ?_
    show Steps p.tables e below (s₁.setTop (mkF m 12 #[.val (.long q1), .second, .val (.int p2), .val (.int p3), .val (.int p4), .unset, .unset, .unset, .unset, .unset, .unset, .unset] [])) _
    refine st6 _ ?_
    show Steps p.tables e below (T6.setTop (mkF m 15 #[.val (.long q1), .second, .val (.int p2), .val (.int p3), .val (.int p4), .unset, .unset, .unset, .unset, .unset, .unset, .unset] [(.ref w_IN)])) _
    refine XS.astore X6.here hx rfl (hb hby at_15) rfl rfl (l' := #[.val (.long q1), .second, .val (.int p2), .val (.int p3), .val (.int p4), .val (.ref w_IN), .unset, .unset, .unset, .unset, .unset, .unset]) rfl ?_
    show Steps p.tables e below (T6.setTop (mkF m 17 #[.val (.long q1), .second, .val (.int p2), .val (.int p3), .val (.int p4), .val (.ref w_IN), .unset, .unset, .unset, .unset, .unset, .unset] [])) _
    refine XS.iload X6.here hx rfl (hb hby at_17) rfl ?_
    show Steps p.tables e below (T6.setTop (mkF m 19 #[.val (.long q1), .second, .val (.int p2), .val (.int p3), .val (.int p4), .val (.ref w_IN), .unset, .unset, .unset, .unset, .unset, .unset] [(.int p4)])) _
    refine XS.bipush X6.here hx rfl (hb hby at_19) ?_
    show Steps p.tables e below (T6.setTop (mkF m 21 #[.val (.long q1), .second, .val (.int p2), .val (.int p3), .val (.int p4), .val (.ref w_IN), .unset, .unset, .unset, .unset, .unset, .unset] [(.int (7 : Int32)), (.int p4)])) _
    refine XS.iand X6.here hx rfl (hb hby at_21) rfl ?_
    show Steps p.tables e below (T6.setTop (mkF m 22 #[.val (.long q1), .second, .val (.int p2), .val (.int p3), .val (.int p4), .val (.ref w_IN), .unset, .unset, .unset, .unset, .unset, .unset] [(.int (p4 &&& (7 : Int32)))])) _
    refine XS.iconst X6.here hx rfl (hb hby at_22) ?_
    show Steps p.tables e below (T6.setTop (mkF m 23 #[.val (.long q1), .second, .val (.int p2), .val (.int p3), .val (.int p4), .val (.ref w_IN), .unset, .unset, .unset, .unset, .unset, .unset] [(.int (5 : Int32)), (.int (p4 &&& (7 : Int32)))])) _
    refine iremM X6 hx rfl (hb hby at_23) rfl (by decide) ?_
    rw [hk]
    show Steps p.tables e below (T6.setTop (mkF m 24 #[.val (.long q1), .second, .val (.int p2), .val (.int p3), .val (.int p4), .val (.ref w_IN), .unset, .unset, .unset, .unset, .unset, .unset] [(.int (0 : Int32))])) _
    refine XS.istore X6.here hx rfl (hb hby at_24) rfl (l' := #[.val (.long q1), .second, .val (.int p2), .val (.int p3), .val (.int p4), .val (.ref w_IN), .val (.int (0 : Int32)), .unset, .unset, .unset, .unset, .unset]) rfl ?_
    show Steps p.tables e below (T6.setTop (mkF m 26 #[.val (.long q1), .second, .val (.int p2), .val (.int p3), .val (.int p4), .val (.ref w_IN), .val (.int (0 : Int32)), .unset, .unset, .unset, .unset, .unset] [])) _
    refine XS.iload X6.here hx rfl (hb hby at_26) rfl ?_
    show Steps p.tables e below (T6.setTop (mkF m 28 #[.val (.long q1), .second, .val (.int p2), .val (.int p3), .val (.int p4), .val (.ref w_IN), .val (.int (0 : Int32)), .unset, .unset, .unset, .unset, .unset] [(.int (0 : Int32))])) _
    refine st7 _ ?_
    show Steps p.tables e below (T7.setTop (mkF m 30 #[.val (.long q1), .second, .val (.int p2), .val (.int p3), .val (.int p4), .val (.ref w_IN), .val (.int (0 : Int32)), .unset, .unset, .unset, .unset, .unset] [(.ref b7)])) _
    refine XS.astore X7.here hx rfl (hb hby at_30) rfl rfl (l' := #[.val (.long q1), .second, .val (.int p2), .val (.int p3), .val (.int p4), .val (.ref w_IN), .val (.int (0 : Int32)), .val (.ref b7), .unset, .unset, .unset, .unset]) rfl ?_
    show Steps p.tables e below (T7.setTop (mkF m 32 #[.val (.long q1), .second, .val (.int p2), .val (.int p3), .val (.int p4), .val (.ref w_IN), .val (.int (0 : Int32)), .val (.ref b7), .unset, .unset, .unset, .unset] [])) _
    refine XS.iload X7.here hx rfl (hb hby at_32) rfl ?_
    show Steps p.tables e below (T7.setTop (mkF m 34 #[.val (.long q1), .second, .val (.int p2), .val (.int p3), .val (.int p4), .val (.ref w_IN), .val (.int (0 : Int32)), .val (.ref b7), .unset, .unset, .unset, .unset] [(.int (0 : Int32))])) _
    refine XS.ifYes X7.here hx rfl (pc0 := 34) (pc' := 46) rfl (hb hby at_34) rfl ((if0 _ _).trans (flt (by decide)).2.2.2) (by decide) (by decide) ?_
    show Steps p.tables e below (T7.setTop (mkF m 46 #[.val (.long q1), .second, .val (.int p2), .val (.int p3), .val (.int p4), .val (.ref w_IN), .val (.int (0 : Int32)), .val (.ref b7), .unset, .unset, .unset, .unset] [])) _
    refine XS.iload X7.here hx rfl (hb hby at_46) rfl ?_
    show Steps p.tables e below (T7.setTop (mkF m 48 #[.val (.long q1), .second, .val (.int p2), .val (.int p3), .val (.int p4), .val (.ref w_IN), .val (.int (0 : Int32)), .val (.ref b7), .unset, .unset, .unset, .unset] [(.int (0 : Int32))])) _
    refine XS.iconst X7.here hx rfl (hb hby at_48) ?_
    show Steps p.tables e below (T7.setTop (mkF m 49 #[.val (.long q1), .second, .val (.int p2), .val (.int p3), .val (.int p4), .val (.ref w_IN), .val (.int (0 : Int32)), .val (.ref b7), .unset, .unset, .unset, .unset] [(.int (1 : Int32)), (.int (0 : Int32))])) _
    refine XS.icmpYes X7.here hx rfl (pc0 := 49) (pc' := 61) rfl (hb hby at_49) rfl (flt (by decide)).2.2.2 (by decide) (by decide) ?_
    show Steps p.tables e below (T7.setTop (mkF m 61 #[.val (.long q1), .second, .val (.int p2), .val (.int p3), .val (.int p4), .val (.ref w_IN), .val (.int (0 : Int32)), .val (.ref b7), .unset, .unset, .unset, .unset] [])) _
    refine XS.iload X7.here hx rfl (hb hby at_61) rfl ?_
    show Steps p.tables e below (T7.setTop (mkF m 63 #[.val (.long q1), .second, .val (.int p2), .val (.int p3), .val (.int p4), .val (.ref w_IN), .val (.int (0 : Int32)), .val (.ref b7), .unset, .unset, .unset, .unset] [(.int (0 : Int32))])) _
    refine XS.iconst X7.here hx rfl (hb hby at_63) ?_
    show Steps p.tables e below (T7.setTop (mkF m 64 #[.val (.long q1), .second, .val (.int p2), .val (.int p3), .val (.int p4), .val (.ref w_IN), .val (.int (0 : Int32)), .val (.ref b7), .unset, .unset, .unset, .unset] [(.int (2 : Int32)), (.int (0 : Int32))])) _
    refine XS.icmpYes X7.here hx rfl (pc0 := 64) (pc' := 76) rfl (hb hby at_64) rfl (flt (by decide)).2.2.2 (by decide) (by decide) ?_
    show Steps p.tables e below (T7.setTop (mkF m 76 #[.val (.long q1), .second, .val (.int p2), .val (.int p3), .val (.int p4), .val (.ref w_IN), .val (.int (0 : Int32)), .val (.ref b7), .unset, .unset, .unset, .unset] [])) _
    refine XS.iload X7.here hx rfl (hb hby at_76) rfl ?_
    show Steps p.tables e below (T7.setTop (mkF m 78 #[.val (.long q1), .second, .val (.int p2), .val (.int p3), .val (.int p4), .val (.ref w_IN), .val (.int (0 : Int32)), .val (.ref b7), .unset, .unset, .unset, .unset] [(.int (0 : Int32))])) _
    refine XS.iconst X7.here hx rfl (hb hby at_78) ?_
    show Steps p.tables e below (T7.setTop (mkF m 79 #[.val (.long q1), .second, .val (.int p2), .val (.int p3), .val (.int p4), .val (.ref w_IN), .val (.int (0 : Int32)), .val (.ref b7), .unset, .unset, .unset, .unset] [(.int (3 : Int32)), (.int (0 : Int32))])) _
    refine XS.icmpYes X7.here hx rfl (pc0 := 79) (pc' := 91) rfl (hb hby at_79) rfl (flt (by decide)).2.2.2 (by decide) (by decide) ?_
    show Steps p.tables e below (T7.setTop (mkF m 91 #[.val (.long q1), .second, .val (.int p2), .val (.int p3), .val (.int p4), .val (.ref w_IN), .val (.int (0 : Int32)), .val (.ref b7), .unset, .unset, .unset, .unset] [])) _
    refine XS.lloadN X7.here hx rfl (hb hby at_91) rfl ?_
    show Steps p.tables e below (T7.setTop (mkF m 92 #[.val (.long q1), .second, .val (.int p2), .val (.int p3), .val (.int p4), .val (.ref w_IN), .val (.int (0 : Int32)), .val (.ref b7), .unset, .unset, .unset, .unset] [(.long q1)])) _
    refine XS.aload X7.here hx rfl (hb hby at_92) rfl rfl ?_
    show Steps p.tables e below (T7.setTop (mkF m 94 #[.val (.long q1), .second, .val (.int p2), .val (.int p3), .val (.int p4), .val (.ref w_IN), .val (.int (0 : Int32)), .val (.ref b7), .unset, .unset, .unset, .unset] [(.ref w_IN), (.long q1)])) _
    refine XS.aload X7.here hx rfl (hb hby at_94) rfl rfl ?_
    show Steps p.tables e below (T7.setTop (mkF m 96 #[.val (.long q1), .second, .val (.int p2), .val (.int p3), .val (.int p4), .val (.ref w_IN), .val (.int (0 : Int32)), .val (.ref b7), .unset, .unset, .unset, .unset] [(.ref b7), (.ref w_IN), (.long q1)])) _
    refine st8.trans ?_
    show Steps p.tables e below (T8.setTop (mkF m 99 #[.val (.long q1), .second, .val (.int p2), .val (.int p3), .val (.int p4), .val (.ref w_IN), .val (.int (0 : Int32)), .val (.ref b7), .unset, .unset, .unset, .unset] [(.ref f)])) _
    refine XS.astore X8.here hx rfl (hb hby at_99) rfl rfl (l' := #[.val (.long q1), .second, .val (.int p2), .val (.int p3), .val (.int p4), .val (.ref w_IN), .val (.int (0 : Int32)), .val (.ref b7), .val (.ref f), .unset, .unset, .unset]) rfl ?_
    show Steps p.tables e below (T8.setTop (mkF m 101 #[.val (.long q1), .second, .val (.int p2), .val (.int p3), .val (.int p4), .val (.ref w_IN), .val (.int (0 : Int32)), .val (.ref b7), .val (.ref f), .unset, .unset, .unset] [])) _
    refine XS.aload X8.here hx rfl (hb hby at_101) rfl rfl ?_
    show Steps p.tables e below (T8.setTop (mkF m 103 #[.val (.long q1), .second, .val (.int p2), .val (.int p3), .val (.int p4), .val (.ref w_IN), .val (.int (0 : Int32)), .val (.ref b7), .val (.ref f), .unset, .unset, .unset] [(.ref b7)])) _
    refine st9 _ ?_
    show Steps p.tables e below (T9.setTop (mkF m 106 #[.val (.long q1), .second, .val (.int p2), .val (.int p3), .val (.int p4), .val (.ref w_IN), .val (.int (0 : Int32)), .val (.ref b7), .val (.ref f), .unset, .unset, .unset] [])) _
    refine XS.aload X9.here hx rfl (hb hby at_106) rfl rfl ?_
    show Steps p.tables e below (T9.setTop (mkF m 108 #[.val (.long q1), .second, .val (.int p2), .val (.int p3), .val (.int p4), .val (.ref w_IN), .val (.int (0 : Int32)), .val (.ref b7), .val (.ref f), .unset, .unset, .unset] [(.ref f)])) _
    refine st10.trans ?_
    show Steps p.tables e below (T10.setTop (mkF m 111 #[.val (.long q1), .second, .val (.int p2), .val (.int p3), .val (.int p4), .val (.ref w_IN), .val (.int (0 : Int32)), .val (.ref b7), .val (.ref f), .unset, .unset, .unset] [(.ref o1)])) _
    refine XS.astore X10.here hx rfl (hb hby at_111) rfl rfl (l' := #[.val (.long q1), .second, .val (.int p2), .val (.int p3), .val (.int p4), .val (.ref w_IN), .val (.int (0 : Int32)), .val (.ref b7), .val (.ref f), .val (.ref o1), .unset, .unset]) rfl ?_
    show Steps p.tables e below (T10.setTop (mkF m 113 #[.val (.long q1), .second, .val (.int p2), .val (.int p3), .val (.int p4), .val (.ref w_IN), .val (.int (0 : Int32)), .val (.ref b7), .val (.ref f), .val (.ref o1), .unset, .unset] [])) _
    refine XS.aload X10.here hx rfl (hb hby at_113) rfl rfl ?_
    show Steps p.tables e below (T10.setTop (mkF m 115 #[.val (.long q1), .second, .val (.int p2), .val (.int p3), .val (.int p4), .val (.ref w_IN), .val (.int (0 : Int32)), .val (.ref b7), .val (.ref f), .val (.ref o1), .unset, .unset] [(.ref o1)])) _
    refine XS.iload X10.here hx rfl (hb hby at_115) rfl ?_
    show Steps p.tables e below (T10.setTop (mkF m 117 #[.val (.long q1), .second, .val (.int p2), .val (.int p3), .val (.int p4), .val (.ref w_IN), .val (.int (0 : Int32)), .val (.ref b7), .val (.ref f), .val (.ref o1), .unset, .unset] [(.int (0 : Int32)), (.ref o1)])) _
    refine XS.iloadN X10.here hx rfl (hb hby at_117) rfl ?_
    show Steps p.tables e below (T10.setTop (mkF m 118 #[.val (.long q1), .second, .val (.int p2), .val (.int p3), .val (.int p4), .val (.ref w_IN), .val (.int (0 : Int32)), .val (.ref b7), .val (.ref f), .val (.ref o1), .unset, .unset] [(.int p3), (.int (0 : Int32)), (.ref o1)])) _
    refine st11 _ ?_
    show Steps p.tables e below (T11.setTop (mkF m 121 #[.val (.long q1), .second, .val (.int p2), .val (.int p3), .val (.int p4), .val (.ref w_IN), .val (.int (0 : Int32)), .val (.ref b7), .val (.ref f), .val (.ref o1), .unset, .unset] [(.int (1 : Int32))])) _
    refine XS.istore X11.here hx rfl (hb hby at_121) rfl (l' := #[.val (.long q1), .second, .val (.int p2), .val (.int p3), .val (.int p4), .val (.ref w_IN), .val (.int (0 : Int32)), .val (.ref b7), .val (.ref f), .val (.ref o1), .val (.int (1 : Int32)), .unset]) rfl ?_
    show Steps p.tables e below (T11.setTop (mkF m 123 #[.val (.long q1), .second, .val (.int p2), .val (.int p3), .val (.int p4), .val (.ref w_IN), .val (.int (0 : Int32)), .val (.ref b7), .val (.ref f), .val (.ref o1), .val (.int (1 : Int32)), .unset] [])) _
    refine XS.aload X11.here hx rfl (hb hby at_123) rfl rfl ?_
    show Steps p.tables e below (T11.setTop (mkF m 125 #[.val (.long q1), .second, .val (.int p2), .val (.int p3), .val (.int p4), .val (.ref w_IN), .val (.int (0 : Int32)), .val (.ref b7), .val (.ref f), .val (.ref o1), .val (.int (1 : Int32)), .unset] [(.ref o1)])) _
    refine st12 _ ?_
    show Steps p.tables e below (T12.setTop (mkF m 128 #[.val (.long q1), .second, .val (.int p2), .val (.int p3), .val (.int p4), .val (.ref w_IN), .val (.int (0 : Int32)), .val (.ref b7), .val (.ref f), .val (.ref o1), .val (.int (1 : Int32)), .unset] [])) _
    refine XS.aload X12.here hx rfl (hb hby at_128) rfl rfl ?_
    show Steps p.tables e below (T12.setTop (mkF m 130 #[.val (.long q1), .second, .val (.int p2), .val (.int p3), .val (.int p4), .val (.ref w_IN), .val (.int (0 : Int32)), .val (.ref b7), .val (.ref f), .val (.ref o1), .val (.int (1 : Int32)), .unset] [(.ref f)])) _
    refine st13.trans ?_
    show Steps p.tables e below (T13.setTop (mkF m 133 #[.val (.long q1), .second, .val (.int p2), .val (.int p3), .val (.int p4), .val (.ref w_IN), .val (.int (0 : Int32)), .val (.ref b7), .val (.ref f), .val (.ref o1), .val (.int (1 : Int32)), .unset] [(.ref o2)])) _
    refine XS.astore X13.here hx rfl (hb hby at_133) rfl rfl (l' := #[.val (.long q1), .second, .val (.int p2), .val (.int p3), .val (.int p4), .val (.ref w_IN), .val (.int (0 : Int32)), .val (.ref b7), .val (.ref f), .val (.ref o1), .val (.int (1 : Int32)), .val (.ref o2)]) rfl ?_
    show Steps p.tables e below (T13.setTop (mkF m 135 #[.val (.long q1), .second, .val (.int p2), .val (.int p3), .val (.int p4), .val (.ref w_IN), .val (.int (0 : Int32)), .val (.ref b7), .val (.ref f), .val (.ref o1), .val (.int (1 : Int32)), .val (.ref o2)] [])) _
    refine XS.iload X13.here hx rfl (hb hby at_135) rfl ?_
    show Steps p.tables e below (T13.setTop (mkF m 137 #[.val (.long q1), .second, .val (.int p2), .val (.int p3), .val (.int p4), .val (.ref w_IN), .val (.int (0 : Int32)), .val (.ref b7), .val (.ref f), .val (.ref o1), .val (.int (1 : Int32)), .val (.ref o2)] [(.int (1 : Int32))])) _
    refine XS.ifNo X13.here hx rfl (hb hby at_137) rfl ((if0 _ _).trans (feq (by decide)).1) ?_
    show Steps p.tables e below (T13.setTop (mkF m 140 #[.val (.long q1), .second, .val (.int p2), .val (.int p3), .val (.int p4), .val (.ref w_IN), .val (.int (0 : Int32)), .val (.ref b7), .val (.ref f), .val (.ref o1), .val (.int (1 : Int32)), .val (.ref o2)] [])) _
    refine XS.aload X13.here hx rfl (hb hby at_140) rfl rfl ?_
    show Steps p.tables e below (T13.setTop (mkF m 142 #[.val (.long q1), .second, .val (.int p2), .val (.int p3), .val (.int p4), .val (.ref w_IN), .val (.int (0 : Int32)), .val (.ref b7), .val (.ref f), .val (.ref o1), .val (.int (1 : Int32)), .val (.ref o2)] [(.ref o2)])) _
    refine XS.iload X13.here hx rfl (hb hby at_142) rfl ?_
    show Steps p.tables e below (T13.setTop (mkF m 144 #[.val (.long q1), .second, .val (.int p2), .val (.int p3), .val (.int p4), .val (.ref w_IN), .val (.int (0 : Int32)), .val (.ref b7), .val (.ref f), .val (.ref o1), .val (.int (1 : Int32)), .val (.ref o2)] [(.int (0 : Int32)), (.ref o2)])) _
    refine XS.iloadN X13.here hx rfl (hb hby at_144) rfl ?_
    show Steps p.tables e below (T13.setTop (mkF m 145 #[.val (.long q1), .second, .val (.int p2), .val (.int p3), .val (.int p4), .val (.ref w_IN), .val (.int (0 : Int32)), .val (.ref b7), .val (.ref f), .val (.ref o1), .val (.int (1 : Int32)), .val (.ref o2)] [(.int p3), (.int (0 : Int32)), (.ref o2)])) _
    refine st14 _ ?_
    show Steps p.tables e below (T14.setTop (mkF m 148 #[.val (.long q1), .second, .val (.int p2), .val (.int p3), .val (.int p4), .val (.ref w_IN), .val (.int (0 : Int32)), .val (.ref b7), .val (.ref f), .val (.ref o1), .val (.int (1 : Int32)), .val (.ref o2)] [(.int (1 : Int32))])) _
    refine XS.ifNo X14.here hx rfl (hb hby at_148) rfl ((if0 _ _).trans (feq (by decide)).1) ?_
    show Steps p.tables e below (T14.setTop (mkF m 151 #[.val (.long q1), .second, .val (.int p2), .val (.int p3), .val (.int p4), .val (.ref w_IN), .val (.int (0 : Int32)), .val (.ref b7), .val (.ref f), .val (.ref o1), .val (.int (1 : Int32)), .val (.ref o2)] [])) _
    refine XS.iconst X14.here hx rfl (hb hby at_151) ?_
    show Steps p.tables e below (T14.setTop (mkF m 152 #[.val (.long q1), .second, .val (.int p2), .val (.int p3), .val (.int p4), .val (.ref w_IN), .val (.int (0 : Int32)), .val (.ref b7), .val (.ref f), .val (.ref o1), .val (.int (1 : Int32)), .val (.ref o2)] [(.int (1 : Int32))])) _
    refine XS.goto X14.here hx rfl (pc0 := 152) (pc' := 156) rfl (hb hby at_152) (by decide) (by decide) ?_
    show Steps p.tables e below (T14.setTop (mkF m 156 #[.val (.long q1), .second, .val (.int p2), .val (.int p3), .val (.int p4), .val (.ref w_IN), .val (.int (0 : Int32)), .val (.ref b7), .val (.ref f), .val (.ref o1), .val (.int (1 : Int32)), .val (.ref o2)] [(.int (1 : Int32))])) _
    refine XS.istore X14.here hx rfl (hb hby at_156) rfl (l' := #[.val (.long q1), .second, .val (.int p2), .val (.int p3), .val (.int p4), .val (.ref w_IN), .val (.int (0 : Int32)), .val (.ref b7), .val (.ref f), .val (.ref o1), .val (.int (1 : Int32)), .val (.ref o2)]) rfl ?_
    show Steps p.tables e below (T14.setTop (mkF m 158 #[.val (.long q1), .second, .val (.int p2), .val (.int p3), .val (.int p4), .val (.ref w_IN), .val (.int (0 : Int32)), .val (.ref b7), .val (.ref f), .val (.ref o1), .val (.int (1 : Int32)), .val (.ref o2)] [])) _
    refine XS.iload X14.here hx rfl (hb hby at_158) rfl ?_
    show Steps p.tables e below (T14.setTop (mkF m 160 #[.val (.long q1), .second, .val (.int p2), .val (.int p3), .val (.int p4), .val (.ref w_IN), .val (.int (0 : Int32)), .val (.ref b7), .val (.ref f), .val (.ref o1), .val (.int (1 : Int32)), .val (.ref o2)] [(.int (1 : Int32))])) _
    refine XS.ifNo X14.here hx rfl (hb hby at_160) rfl ((if0 _ _).trans (feq (by decide)).1) ?_
    show Steps p.tables e below (T14.setTop (mkF m 163 #[.val (.long q1), .second, .val (.int p2), .val (.int p3), .val (.int p4), .val (.ref w_IN), .val (.int (0 : Int32)), .val (.ref b7), .val (.ref f), .val (.ref o1), .val (.int (1 : Int32)), .val (.ref o2)] [])) _
    refine XS.aload X14.here hx rfl (hb hby at_163) rfl rfl ?_
    show Steps p.tables e below (T14.setTop (mkF m 165 #[.val (.long q1), .second, .val (.int p2), .val (.int p3), .val (.int p4), .val (.ref w_IN), .val (.int (0 : Int32)), .val (.ref b7), .val (.ref f), .val (.ref o1), .val (.int (1 : Int32)), .val (.ref o2)] [(.ref f)])) _
    refine st15.trans ?_
    show Steps p.tables e below (T15.setTop (mkF m 168 #[.val (.long q1), .second, .val (.int p2), .val (.int p3), .val (.int p4), .val (.ref w_IN), .val (.int (0 : Int32)), .val (.ref b7), .val (.ref f), .val (.ref o1), .val (.int (1 : Int32)), .val (.ref o2)] [(.long q1)])) _
    refine XS.lloadN X15.here hx rfl (hb hby at_168) rfl ?_
    show Steps p.tables e below (T15.setTop (mkF m 169 #[.val (.long q1), .second, .val (.int p2), .val (.int p3), .val (.int p4), .val (.ref w_IN), .val (.int (0 : Int32)), .val (.ref b7), .val (.ref f), .val (.ref o1), .val (.int (1 : Int32)), .val (.ref o2)] [(.long q1), (.long q1)])) _
    refine XS.lcmp X15.here hx rfl (hb hby at_169) rfl ?_
    show Steps p.tables e below (T15.setTop (mkF m 170 #[.val (.long q1), .second, .val (.int p2), .val (.int p3), .val (.int p4), .val (.ref w_IN), .val (.int (0 : Int32)), .val (.ref b7), .val (.ref f), .val (.ref o1), .val (.int (1 : Int32)), .val (.ref o2)] [(.int (lcmpW q1 q1))])) _
    refine XS.ifNo X15.here hx rfl (hb hby at_170) rfl ((if0 _ _).trans (teq ((lw_eq q1 q1).mpr rfl)).2) ?_
    show Steps p.tables e below (T15.setTop (mkF m 173 #[.val (.long q1), .second, .val (.int p2), .val (.int p3), .val (.int p4), .val (.ref w_IN), .val (.int (0 : Int32)), .val (.ref b7), .val (.ref f), .val (.ref o1), .val (.int (1 : Int32)), .val (.ref o2)] [])) _
    refine XS.iconst X15.here hx rfl (hb hby at_173) ?_
    show Steps p.tables e below (T15.setTop (mkF m 174 #[.val (.long q1), .second, .val (.int p2), .val (.int p3), .val (.int p4), .val (.ref w_IN), .val (.int (0 : Int32)), .val (.ref b7), .val (.ref f), .val (.ref o1), .val (.int (1 : Int32)), .val (.ref o2)] [(.int (1 : Int32))])) _
    refine XS.goto X15.here hx rfl (pc0 := 174) (pc' := 178) rfl (hb hby at_174) (by decide) (by decide) ?_
    show Steps p.tables e below (T15.setTop (mkF m 178 #[.val (.long q1), .second, .val (.int p2), .val (.int p3), .val (.int p4), .val (.ref w_IN), .val (.int (0 : Int32)), .val (.ref b7), .val (.ref f), .val (.ref o1), .val (.int (1 : Int32)), .val (.ref o2)] [(.int (1 : Int32))])) _
    refine XS.istore X15.here hx rfl (hb hby at_178) rfl (l' := #[.val (.long q1), .second, .val (.int p2), .val (.int p3), .val (.int p4), .val (.ref w_IN), .val (.int (0 : Int32)), .val (.ref b7), .val (.ref f), .val (.ref o1), .val (.int (1 : Int32)), .val (.ref o2)]) rfl ?_
    show Steps p.tables e below (T15.setTop (mkF m 180 #[.val (.long q1), .second, .val (.int p2), .val (.int p3), .val (.int p4), .val (.ref w_IN), .val (.int (0 : Int32)), .val (.ref b7), .val (.ref f), .val (.ref o1), .val (.int (1 : Int32)), .val (.ref o2)] [])) _
    refine XS.iload X15.here hx rfl (hb hby at_180) rfl ?_
    show Steps p.tables e below (T15.setTop (mkF m 182 #[.val (.long q1), .second, .val (.int p2), .val (.int p3), .val (.int p4), .val (.ref w_IN), .val (.int (0 : Int32)), .val (.ref b7), .val (.ref f), .val (.ref o1), .val (.int (1 : Int32)), .val (.ref o2)] [(.int (1 : Int32))])) _
    refine XS.ifNo X15.here hx rfl (hb hby at_182) rfl ((if0 _ _).trans (feq (by decide)).1) ?_
    show Steps p.tables e below (T15.setTop (mkF m 185 #[.val (.long q1), .second, .val (.int p2), .val (.int p3), .val (.int p4), .val (.ref w_IN), .val (.int (0 : Int32)), .val (.ref b7), .val (.ref f), .val (.ref o1), .val (.int (1 : Int32)), .val (.ref o2)] [])) _
    refine XS.aload X15.here hx rfl (hb hby at_185) rfl rfl ?_
    show Steps p.tables e below (T15.setTop (mkF m 187 #[.val (.long q1), .second, .val (.int p2), .val (.int p3), .val (.int p4), .val (.ref w_IN), .val (.int (0 : Int32)), .val (.ref b7), .val (.ref f), .val (.ref o1), .val (.int (1 : Int32)), .val (.ref o2)] [(.ref f)])) _
    refine st16.trans ?_
    show Steps p.tables e below (T16.setTop (mkF m 190 #[.val (.long q1), .second, .val (.int p2), .val (.int p3), .val (.int p4), .val (.ref w_IN), .val (.int (0 : Int32)), .val (.ref b7), .val (.ref f), .val (.ref o1), .val (.int (1 : Int32)), .val (.ref o2)] [(.ref w_IN)])) _
    refine XS.aload X16.here hx rfl (hb hby at_190) rfl rfl ?_
    show Steps p.tables e below (T16.setTop (mkF m 192 #[.val (.long q1), .second, .val (.int p2), .val (.int p3), .val (.int p4), .val (.ref w_IN), .val (.int (0 : Int32)), .val (.ref b7), .val (.ref f), .val (.ref o1), .val (.int (1 : Int32)), .val (.ref o2)] [(.ref w_IN), (.ref w_IN)])) _
    refine Jvm.RoadKit.acmp (g := (mkF m 192 #[.val (.long q1), .second, .val (.int p2), .val (.int p3), .val (.int p4), .val (.ref w_IN), .val (.int (0 : Int32)), .val (.ref b7), .val (.ref f), .val (.ref o1), .val (.int (1 : Int32)), .val (.ref o2)] [(.ref w_IN), (.ref w_IN)])) X16 hx rfl rfl rfl (pc0 := 192) (pc' := 195) (same := true) rfl (hb hby at_192) rfl (decide_eq_true rfl) (by decide) (by decide) ?_
    show Steps p.tables e below (T16.setTop (mkF m 195 #[.val (.long q1), .second, .val (.int p2), .val (.int p3), .val (.int p4), .val (.ref w_IN), .val (.int (0 : Int32)), .val (.ref b7), .val (.ref f), .val (.ref o1), .val (.int (1 : Int32)), .val (.ref o2)] [])) _
    refine XS.iconst X16.here hx rfl (hb hby at_195) ?_
    show Steps p.tables e below (T16.setTop (mkF m 196 #[.val (.long q1), .second, .val (.int p2), .val (.int p3), .val (.int p4), .val (.ref w_IN), .val (.int (0 : Int32)), .val (.ref b7), .val (.ref f), .val (.ref o1), .val (.int (1 : Int32)), .val (.ref o2)] [(.int (1 : Int32))])) _
    refine XS.goto X16.here hx rfl (pc0 := 196) (pc' := 200) rfl (hb hby at_196) (by decide) (by decide) ?_
    show Steps p.tables e below (T16.setTop (mkF m 200 #[.val (.long q1), .second, .val (.int p2), .val (.int p3), .val (.int p4), .val (.ref w_IN), .val (.int (0 : Int32)), .val (.ref b7), .val (.ref f), .val (.ref o1), .val (.int (1 : Int32)), .val (.ref o2)] [(.int (1 : Int32))])) _
    refine XS.istore X16.here hx rfl (hb hby at_200) rfl (l' := #[.val (.long q1), .second, .val (.int p2), .val (.int p3), .val (.int p4), .val (.ref w_IN), .val (.int (0 : Int32)), .val (.ref b7), .val (.ref f), .val (.ref o1), .val (.int (1 : Int32)), .val (.ref o2)]) rfl ?_
    show Steps p.tables e below (T16.setTop (mkF m 202 #[.val (.long q1), .second, .val (.int p2), .val (.int p3), .val (.int p4), .val (.ref w_IN), .val (.int (0 : Int32)), .val (.ref b7), .val (.ref f), .val (.ref o1), .val (.int (1 : Int32)), .val (.ref o2)] [])) _
    refine XS.iload X16.here hx rfl (hb hby at_202) rfl ?_
    show Steps p.tables e below (T16.setTop (mkF m 204 #[.val (.long q1), .second, .val (.int p2), .val (.int p3), .val (.int p4), .val (.ref w_IN), .val (.int (0 : Int32)), .val (.ref b7), .val (.ref f), .val (.ref o1), .val (.int (1 : Int32)), .val (.ref o2)] [(.int (1 : Int32))])) _
    refine XS.ifNo X16.here hx rfl (hb hby at_204) rfl ((if0 _ _).trans (feq (by decide)).1) ?_
    show Steps p.tables e below (T16.setTop (mkF m 207 #[.val (.long q1), .second, .val (.int p2), .val (.int p3), .val (.int p4), .val (.ref w_IN), .val (.int (0 : Int32)), .val (.ref b7), .val (.ref f), .val (.ref o1), .val (.int (1 : Int32)), .val (.ref o2)] [])) _
    refine XS.aload X16.here hx rfl (hb hby at_207) rfl rfl ?_
    show Steps p.tables e below (T16.setTop (mkF m 209 #[.val (.long q1), .second, .val (.int p2), .val (.int p3), .val (.int p4), .val (.ref w_IN), .val (.int (0 : Int32)), .val (.ref b7), .val (.ref f), .val (.ref o1), .val (.int (1 : Int32)), .val (.ref o2)] [(.ref f)])) _
    refine st17.trans ?_
    show Steps p.tables e below (T17.setTop (mkF m 212 #[.val (.long q1), .second, .val (.int p2), .val (.int p3), .val (.int p4), .val (.ref w_IN), .val (.int (0 : Int32)), .val (.ref b7), .val (.ref f), .val (.ref o1), .val (.int (1 : Int32)), .val (.ref o2)] [(.int (0 : Int32))])) _
    refine XS.ifNo X17.here hx rfl (hb hby at_212) rfl ((if0 _ _).trans (teq (by decide)).2) ?_
    show Steps p.tables e below (T17.setTop (mkF m 215 #[.val (.long q1), .second, .val (.int p2), .val (.int p3), .val (.int p4), .val (.ref w_IN), .val (.int (0 : Int32)), .val (.ref b7), .val (.ref f), .val (.ref o1), .val (.int (1 : Int32)), .val (.ref o2)] [])) _
    refine XS.iconst X17.here hx rfl (hb hby at_215) ?_
    show Steps p.tables e below (T17.setTop (mkF m 216 #[.val (.long q1), .second, .val (.int p2), .val (.int p3), .val (.int p4), .val (.ref w_IN), .val (.int (0 : Int32)), .val (.ref b7), .val (.ref f), .val (.ref o1), .val (.int (1 : Int32)), .val (.ref o2)] [(.int (1 : Int32))])) _
    refine XS.goto X17.here hx rfl (pc0 := 216) (pc' := 220) rfl (hb hby at_216) (by decide) (by decide) ?_
    show Steps p.tables e below (T17.setTop (mkF m 220 #[.val (.long q1), .second, .val (.int p2), .val (.int p3), .val (.int p4), .val (.ref w_IN), .val (.int (0 : Int32)), .val (.ref b7), .val (.ref f), .val (.ref o1), .val (.int (1 : Int32)), .val (.ref o2)] [(.int (1 : Int32))])) _
    refine XS.istore X17.here hx rfl (hb hby at_220) rfl (l' := #[.val (.long q1), .second, .val (.int p2), .val (.int p3), .val (.int p4), .val (.ref w_IN), .val (.int (0 : Int32)), .val (.ref b7), .val (.ref f), .val (.ref o1), .val (.int (1 : Int32)), .val (.ref o2)]) rfl ?_
    show Steps p.tables e below (T17.setTop (mkF m 222 #[.val (.long q1), .second, .val (.int p2), .val (.int p3), .val (.int p4), .val (.ref w_IN), .val (.int (0 : Int32)), .val (.ref b7), .val (.ref f), .val (.ref o1), .val (.int (1 : Int32)), .val (.ref o2)] [])) _
    refine XS.iload X17.here hx rfl (hb hby at_222) rfl ?_
    show Steps p.tables e below (T17.setTop (mkF m 224 #[.val (.long q1), .second, .val (.int p2), .val (.int p3), .val (.int p4), .val (.ref w_IN), .val (.int (0 : Int32)), .val (.ref b7), .val (.ref f), .val (.ref o1), .val (.int (1 : Int32)), .val (.ref o2)] [(.int (1 : Int32))])) _
    exact retN X17 hx (t := .boolean) Bd.returns (by simp) (hb hby at_224) hr
  · show Q0 Z h0 n0 _ T17.heap _
    exact ⟨rfl, N17⟩
set_option maxRecDepth 65536 in
set_option maxHeartbeats 40000000 in
theorem rm0_IN_1 (l : Launch) (Z : State) (a0 : Array Value) (hw : ∀ d ∈ tables_1, d.before a0 Z = true) (ws : List Jvm.Cond) (q1 : Int64) (p2 : Int32) (p3 : Int32) (p4 : Int32) (w_IN : Addr) (h0 : Heap) (n0 : Nat) (Z0 : n0 ≤ h0.size) (S_IN : Sta Z h0 "com/example/quotewire/quotewire/wire/Frame$Direction" "IN" "Lcom/example/quotewire/quotewire/wire/Frame$Direction;" (.ref w_IN)) (E_IN : Exa Z h0 w_IN "com/example/quotewire/quotewire/wire/Frame$Direction") (hc3 : (p2 &&& (1 : Int32)) = (0 : Int32)) (hk : ((p4 &&& (7 : Int32)) % (5 : Int32)) = (1 : Int32)) :
    MetFree l x (head1 (Jvm.Cond.code x code maxLocals ret :: ws) room_1) (fun a U => a = #[(.long q1), (.int p2), (.int p3), (.int p4)] ∧ Z.Warmed39 U.vm ∧ U.heap = h0) (fun _ _ _ _ _ => True) (fun _ U o U' => ∃ v L, o = .returned v ∧ Q0 Z h0 n0 v U'.heap L ∧ ReturnedEndW U o U' L room_1.cells room_1.slots) := by
  refine MetFree.of_bodySF (plainFor_of_name pn_0) hisR ?_
  intro p e s m args below meth c s₁ Bd hml0 hP hK
  obtain ⟨rfl, hZ, hh⟩ := hP
  have hx := Bd.exec
  have hby := Bd.bytes
  have hml : c.maxLocals = 12 := hml0
  have hown : s.vm.findClass "com/example/quotewire/quotewire/wire/FrameBinaryPinLaw" = some m.cls := findClass_of_methodNamed Bd.named
  have hnm := (name_of_methodNamed Bd.named Bd.method).1
  have X0 : Stand p l e room_1 s m #[(.long q1), (.int p2), (.int p3), (.int p4)] below meth c s₁ [] 0 0 := Stand.of_body Bd
  have e0 : s₁.heap = h0 := by rw [← hh, Bd.state]; rfl
  have N0 := Fr.nil n0
  have pre0 : ∀ t, Steps p.tables e below (s₁.setTop (mkF m 0 #[.val (.long q1), .second, .val (.int p2), .val (.int p3), .val (.int p4), .unset, .unset, .unset, .unset, .unset, .unset, .unset] [])) t → Steps p.tables e below (s₁.setTop (entryFrame m #[(.long q1), (.int p2), (.int p3), (.int p4)] maxLocals)) t := fun t k => castTop (ef_0 m q1 p2 p3 p4) k
  -- 3. LAWS
  obtain ⟨T6, X6, e6, st6⟩ := getS2 X0 hx hZ hown (host := "") (Or.inl (hw _ (List.mem_of_getElem? (i := 0) rfl))) Via.refl e0 S_IN (g := (mkF m 12 #[.val (.long q1), .second, .val (.int p2), .val (.int p3), .val (.int p4), .unset, .unset, .unset, .unset, .unset, .unset, .unset] [])) rfl (hb hby at_12)
  obtain ⟨T7, h7, k7, X7, e7, E7, A7, B7, st7⟩ := newPE X6 hx hZ (hw _ (List.mem_of_getElem? (i := 3) rfl)) e6 (g := (mkF m 28 #[.val (.long q1), .second, .val (.int p2), .val (.int p3), .val (.int p4), .val (.ref w_IN), .val (.int (1 : Int32)), .unset, .unset, .unset, .unset, .unset] [(.int (1 : Int32))])) rfl (hb hby at_28) rfl (by decide) (cap := 4) (by decide) (by decide) (by decide) (by decide) (ad := "[B") (by decide)
  obtain ⟨b7, g7⟩ : ∃ z, z = h0.size := ⟨_, rfl⟩      -- the fresh array's address
  rw [← g7] at A7 B7 st7
  have V0 : Arv Z h7 b7 k7 .byte (1 : Int32) [.int (0 : Int32)] (.int (0 : Int32)) := (Arv.new A7 (by decide)).pad (pad_rep [] (.int (0 : Int32)) 1)
  have g_b7 : n0 ≤ b7 := Nat.le_trans Z0 (Nat.le_of_eq g7.symm)
  have sz_b7 : h0.size ≤ b7 := (Nat.le_trans (Keep.refl h0 []).1 (Nat.le_of_eq g7.symm))
  have K7 : Keep h0 h7 [] := (Keep.refl h0 []).ext E7
  have Zc_0 : n0 ≤ h7.size := Nat.le_trans Z0 K7.1
  have D_0 := E_IN.ext E7
  obtain ⟨_, _, ⟨T8, L8, k8, n8⟩, -, X8, ⟨Lc8, hQ8, l8, y8, z8⟩, st8⟩ := Jvm.LawKit.callS X7 hx (y := (⟨"com/example/quotewire/quotewire/wire/FrameBinaryPinLaw", "at", "(II)B"⟩ : MethodName)) hown (mvT hZ (hw _ (List.mem_of_getElem? (i := 73) rfl))) (mvT hZ (hw _ (List.mem_of_getElem? (i := 74) rfl))) (mvT hZ (hw _ (List.mem_of_getElem? (i := 48) rfl))) (mvT hZ (hw _ (List.mem_of_getElem? (i := 75) rfl))) (by decide) (backOf (W := 2) (rm11 l Z a0 hw [] p3 (0 : Int32) h7 n0 Zc_0) hZ (hw _ (List.mem_of_getElem? (i := 75) rfl)) (hw _ (List.mem_of_getElem? (i := 48) rfl)) (by decide) (by decide)) (g := (mkF m 42 #[.val (.long q1), .second, .val (.int p2), .val (.int p3), .val (.int p4), .val (.ref w_IN), .val (.int (1 : Int32)), .val (.ref b7), .unset, .unset, .unset, .unset] [(.int (0 : Int32)), (.int p3), (.int (0 : Int32)), (.ref b7)])) rfl (by rw [hml]; rfl) (argsL := [(.int p3), (.int (0 : Int32))]) (rest := [(.int (0 : Int32)), (.ref b7)]) (lenOf pd_0_11 rfl) rfl (by show 2 * 0 + _ ≤ _; exact Nat.le_of_eq rfl) (hb hby at_42) (fun _ _ => ⟨rfl, e7, (by decide : 1 + 0 ≤ _), (by decide : 4 + 0 ≤ _)⟩)
  dsimp only [Pt.U, Pt.locs, Pt.cells, Pt.slots] at X8 l8 y8 z8 st8 hQ8
  subst l8 y8 z8
  obtain ⟨rfl, N8q, q8⟩ := hQ8
  have N8 := Fr.app N0 N8q
  obtain ⟨c_8, Ar_8, qa_8, S_8, N_8, H_8, G_8⟩ : Arv Z T8.heap b7 k7 .byte (1 : Int32) [.int (0 : Int32)] (.int (0 : Int32)) := by rw [q8]; exact V0
  have hin45 := inb_of (j := (0 : Int32)) S_8 ⟨by decide, by decide⟩
  obtain ⟨T9, h9, X9, e9, W9, st9⟩ := stB X8 hx hZ rfl Ar_8 (j := (0 : Int32)) hin45 (g := (mkF m 45 #[.val (.long q1), .second, .val (.int p2), .val (.int p3), .val (.int p4), .val (.ref w_IN), .val (.int (1 : Int32)), .val (.ref b7), .unset, .unset, .unset, .unset] [(.int (atF p3 (0 : Int32))), (.int (0 : Int32)), (.ref b7)])) rfl rfl (hb hby at_45)
  rw [own_narAt] at W9
  have V1 : Arv Z h9 b7 k7 .byte (1 : Int32) [.int (atF p3 0)] (.int (0 : Int32)) := Arv.set Ar_8 qa_8 S_8 N_8 H_8 G_8 (by rw [← own_narAt]; exact fits_nar_byte _) W9 0 rfl (Nat.le_of_ble_eq_true rfl)
  have K9 : Keep h0 h9 [] := ((by rw [q8]; exact K7 : Keep h0 T8.heap [])).wr W9 (Or.inr sz_b7)
  have Zc_1 : n0 ≤ h9.size := Nat.le_trans Z0 K9.1
  have D_1 : Exa Z h9 w_IN "com/example/quotewire/quotewire/wire/Frame$Direction" := ((by rw [q8]; exact D_0 : Exa Z T8.heap w_IN "com/example/quotewire/quotewire/wire/Frame$Direction")).wr W9
  have BB_1 : Exa Z h9 b7 "[B" := ((by rw [q8]; exact B7 : Exa Z T8.heap b7 "[B")).wr W9
  have N9 := Fr.snoc X9 N8 g_b7
  have D_c : Exa Z h9 w_IN "com/example/quotewire/quotewire/wire/Frame$Direction" := D_1
  have B_c : Exa Z h9 b7 "[B" := BB_1
  obtain ⟨_, _, ⟨T10, L10, k10, n10⟩, -, X10, S10, gr10, ⟨Lc10, hQ10, l10, y10, z10⟩, st10⟩ := callSS X9 hx (y := (⟨"com/example/quotewire/quotewire/wire/Frame", "binary", "(JLcom/example/quotewire/quotewire/wire/Frame$Direction;[B)Lcom/example/quotewire/quotewire/wire/Frame;"⟩ : MethodName)) hown (mvT hZ (hw _ (List.mem_of_getElem? (i := 4) rfl))) (mvT hZ (hw _ (List.mem_of_getElem? (i := 5) rfl))) (mvT hZ (hw _ (List.mem_of_getElem? (i := 6) rfl))) (mvT hZ (hw _ (List.mem_of_getElem? (i := 7) rfl))) (by decide) (backOfS (W := 0) (rm1 l Z a0 hw [] q1 w_IN b7 k7 (1 : Int32) [.int (atF p3 0)] (.int (0 : Int32)) h9 n0 Zc_1 D_c B_c V1 (by decide)) hZ (hw _ (List.mem_of_getElem? (i := 7) rfl)) (hw _ (List.mem_of_getElem? (i := 6) rfl)) (by decide) (by decide)) (g := (mkF m 96 #[.val (.long q1), .second, .val (.int p2), .val (.int p3), .val (.int p4), .val (.ref w_IN), .val (.int (1 : Int32)), .val (.ref b7), .unset, .unset, .unset, .unset] [(.ref b7), (.ref w_IN), (.long q1)])) rfl (by rw [hml]; rfl) (argsL := [(.long q1), (.ref w_IN), (.ref b7)]) (rest := []) (lenOf pd_0_0 rfl) rfl (by show 2 * 0 + _ ≤ _; exact Nat.le_of_eq rfl) (hb hby at_96) (fun _ _ => ⟨rfl, e9, (by decide : 1 + 4 ≤ _), (by decide : 4 + 48 ≤ _)⟩)
  dsimp only [Pt.U, Pt.locs, Pt.cells, Pt.slots] at X10 S10 gr10 l10 y10 z10 st10 hQ10
  subst l10 y10 z10
  obtain ⟨N10q, f, fb, rfl, zf, zb, K10, Ef_10, Eb_10, Ft_10, Fd_10, Fx_10, Fb_10, Vb_10⟩ := hQ10
  have hZw : Z.Warmed39 (s.setVm T10.vm).vm := State.Warmed39.trans (t := s) hZ S10.1
  have hownw : (s.setVm T10.vm).vm.findClass "com/example/quotewire/quotewire/wire/FrameBinaryPinLaw" = some m.cls := by rw [show (s.setVm T10.vm).vm = T10.vm from rfl, S10.1.alike.findClass]; exact hown
  have Z_10 : n0 ≤ T10.heap.size := Nat.le_trans Zc_1 K10.1
  have Vs : Arv Z T10.heap b7 k7 .byte (1 : Int32) [.int (atF p3 0)] (.int (0 : Int32)) := V1.keep K10 (fun q => nomatch q)
  have lb : b7 < h9.size := V1.lt
  have nf : f ∉ [b7] := fun q => absurd (List.mem_singleton.mp q) (Nat.ne_of_gt (Nat.lt_of_lt_of_le lb zf))
  have nb : fb ∉ [b7] := fun q => absurd (List.mem_singleton.mp q) (Nat.ne_of_gt (Nat.lt_of_lt_of_le lb zb))
  have N10 := Fr.app N9 N10q
  obtain ⟨_, _, ⟨T11, L11, k11, n11⟩, -, X11, ⟨Lc11, hQ11, l11, y11, z11⟩, st11⟩ := Jvm.LawKit.callS X10 hx (y := (⟨"com/example/quotewire/quotewire/wire/FrameBinaryPinLaw", "flip", "([B)V"⟩ : MethodName)) hownw (mvT hZw (hw _ (List.mem_of_getElem? (i := 46) rfl))) (mvT hZw (hw _ (List.mem_of_getElem? (i := 47) rfl))) (mvT hZw (hw _ (List.mem_of_getElem? (i := 48) rfl))) (mvT hZw (hw _ (List.mem_of_getElem? (i := 49) rfl))) (by decide) (backOf (W := 0) (rm5_1 l Z a0 hw [] b7 k7 (atF p3 (0 : Int32)) (.int (0 : Int32)) T10.heap n0 Z_10 Vs g_b7) hZw (hw _ (List.mem_of_getElem? (i := 49) rfl)) (hw _ (List.mem_of_getElem? (i := 48) rfl)) (by decide) (by decide)) (g := (mkF m 103 #[.val (.long q1), .second, .val (.int p2), .val (.int p3), .val (.int p4), .val (.ref w_IN), .val (.int (1 : Int32)), .val (.ref b7), .val (.ref f), .unset, .unset, .unset] [(.ref b7)])) rfl (by rw [hml]; rfl) (argsL := [(.ref b7)]) (rest := []) (lenOf pd_0_5 rfl) rfl (by show 2 * 0 + _ ≤ _; exact Nat.le_of_eq rfl) (hb hby at_103) (fun _ _ => ⟨rfl, rfl, (by decide : 5 + 0 ≤ _), (by decide : 52 + 0 ≤ _)⟩)
  dsimp only [Pt.U, Pt.locs, Pt.cells, Pt.slots] at X11 l11 y11 z11 st11 hQ11
  subst l11 y11 z11
  obtain ⟨rfl, N11q, K11⟩ := hQ11
  have Ef_11 := Ef_10.keep K11
  have Eb_11 := Eb_10.keep K11
  have Ft_11 := Ft_10.keep K11 nf
  have Fd_11 := Fd_10.keep K11 nf
  have Fx_11 := Fx_10.keep K11 nf
  have Fb_11 := Fb_10.keep K11 nf
  have Vb_11 := Vb_10.keep K11 nb
  have Z_11 : n0 ≤ T11.heap.size := Nat.le_trans Z_10 K11.1
  have N11 := Fr.app N10 N11q
  obtain ⟨cq12, kq12, q12a, q12b, q12c⟩ := isOf hZw rfl Ef_11
  obtain ⟨_, _, ⟨T12, L12, k12, n12⟩, -, X12, ⟨Lc12, hQ12, l12, y12, z12⟩, st12⟩ := X11.virtualBack hx (y := (⟨"com/example/quotewire/quotewire/wire/Frame", "binary", "()[B"⟩ : MethodName)) (z := (⟨"com/example/quotewire/quotewire/wire/Frame", "binary", "()[B"⟩ : MethodName)) hownw (mvT hZw (hw _ (List.mem_of_getElem? (i := 50) rfl))) (mvT hZw (hw _ (List.mem_of_getElem? (i := 51) rfl))) (notFace_of_selects (args := #[]) (mvT hZw (hw _ (List.mem_of_getElem? (i := 53) rfl)))) (mvT hZw (hw _ (List.mem_of_getElem? (i := 53) rfl))) (mvT hZw (hw _ (List.mem_of_getElem? (i := 52) rfl))) (by decide) (backOf (W := 0) (rm6 l Z a0 hw [] f fb k7 (1 : Int32) [.int (atF p3 0)] (.int (0 : Int32)) T11.heap n0 Z_11 Fb_11 Eb_11 Vb_11 (by decide)) hZw (hw _ (List.mem_of_getElem? (i := 54) rfl)) (hw _ (List.mem_of_getElem? (i := 6) rfl)) (by decide) (by decide)) q12a q12c (g := (mkF m 108 #[.val (.long q1), .second, .val (.int p2), .val (.int p3), .val (.int p4), .val (.ref w_IN), .val (.int (1 : Int32)), .val (.ref b7), .val (.ref f), .unset, .unset, .unset] [(.ref f)])) rfl (by rw [hml]; rfl) (Steps.refl _) (argsL := []) (rest := []) (lenOf pd_0_6 rfl) rfl (by show 2 * 0 + _ ≤ _; exact Nat.le_of_eq rfl) (hb hby at_108) (fun _ _ => ⟨rfl, rfl, (by decide : 5 + 1 ≤ _), (by decide : 52 + 4 ≤ _)⟩)
  dsimp only [Pt.U, Pt.locs, Pt.cells, Pt.slots] at X12 l12 y12 z12 st12 hQ12
  subst l12 y12 z12
  obtain ⟨N12q, o1, rfl, zo1, K12, Vo1, Eo1⟩ := hQ12
  have nf1 : f ∉ [o1] := fun q => absurd (List.mem_singleton.mp q) (Nat.ne_of_lt (Nat.lt_of_lt_of_le Ef_11.lt zo1))
  have nb1 : fb ∉ [o1] := fun q => absurd (List.mem_singleton.mp q) (Nat.ne_of_lt (Nat.lt_of_lt_of_le Eb_11.lt zo1))
  have g_o1 : n0 ≤ o1 := Nat.le_trans Z_11 zo1
  have Ef_12 := Ef_11.keep K12
  have Eb_12 := Eb_11.keep K12
  have Ft_12 := Ft_11.keep K12 (fun q => nomatch q)
  have Fd_12 := Fd_11.keep K12 (fun q => nomatch q)
  have Fx_12 := Fx_11.keep K12 (fun q => nomatch q)
  have Fb_12 := Fb_11.keep K12 (fun q => nomatch q)
  have Vb_12 := Vb_11.keep K12 (fun q => nomatch q)
  have Z_12 : n0 ≤ T12.heap.size := Nat.le_trans Z_11 K12.1
  have N12 := Fr.app N11 N12q
  obtain ⟨_, _, ⟨T13, L13, k13, n13⟩, -, X13, ⟨Lc13, hQ13, l13, y13, z13⟩, st13⟩ := Jvm.LawKit.callS X12 hx (y := (⟨"com/example/quotewire/quotewire/wire/FrameBinaryPinLaw", "same", "([BII)Z"⟩ : MethodName)) hownw (mvT hZw (hw _ (List.mem_of_getElem? (i := 55) rfl))) (mvT hZw (hw _ (List.mem_of_getElem? (i := 56) rfl))) (mvT hZw (hw _ (List.mem_of_getElem? (i := 48) rfl))) (mvT hZw (hw _ (List.mem_of_getElem? (i := 57) rfl))) (by decide) (backOf (W := 0) (rm7_1 l Z a0 hw [] o1 p3 k7 (.int (0 : Int32)) T12.heap n0 Z_12 Vo1) hZw (hw _ (List.mem_of_getElem? (i := 57) rfl)) (hw _ (List.mem_of_getElem? (i := 48) rfl)) (by decide) (by decide)) (g := (mkF m 118 #[.val (.long q1), .second, .val (.int p2), .val (.int p3), .val (.int p4), .val (.ref w_IN), .val (.int (1 : Int32)), .val (.ref b7), .val (.ref f), .val (.ref o1), .unset, .unset] [(.int p3), (.int (1 : Int32)), (.ref o1)])) rfl (by rw [hml]; rfl) (argsL := [(.ref o1), (.int (1 : Int32)), (.int p3)]) (rest := []) (lenOf pd_0_7 rfl) rfl (by show 2 * 0 + _ ≤ _; exact Nat.le_of_eq rfl) (hb hby at_118) (fun _ _ => ⟨rfl, rfl, (by decide : 6 + 0 ≤ _), (by decide : 56 + 0 ≤ _)⟩)
  dsimp only [Pt.U, Pt.locs, Pt.cells, Pt.slots] at X13 l13 y13 z13 st13 hQ13
  subst l13 y13 z13
  obtain ⟨rfl, N13q, q13⟩ := hQ13
  have K13 : Keep T12.heap T13.heap [] := by rw [q13]; exact Keep.refl _ _
  have Vo1_ := Vo1.keep K13 (fun q => nomatch q)
  have Ef_13 := Ef_12.keep K13
  have Eb_13 := Eb_12.keep K13
  have Ft_13 := Ft_12.keep K13 (fun q => nomatch q)
  have Fd_13 := Fd_12.keep K13 (fun q => nomatch q)
  have Fx_13 := Fx_12.keep K13 (fun q => nomatch q)
  have Fb_13 := Fb_12.keep K13 (fun q => nomatch q)
  have Vb_13 := Vb_12.keep K13 (fun q => nomatch q)
  have Z_13 : n0 ≤ T13.heap.size := Nat.le_trans Z_12 K13.1
  have N13 := Fr.app N12 N13q
  obtain ⟨_, _, ⟨T14, L14, k14, n14⟩, -, X14, ⟨Lc14, hQ14, l14, y14, z14⟩, st14⟩ := Jvm.LawKit.callS X13 hx (y := (⟨"com/example/quotewire/quotewire/wire/FrameBinaryPinLaw", "flip", "([B)V"⟩ : MethodName)) hownw (mvT hZw (hw _ (List.mem_of_getElem? (i := 46) rfl))) (mvT hZw (hw _ (List.mem_of_getElem? (i := 47) rfl))) (mvT hZw (hw _ (List.mem_of_getElem? (i := 48) rfl))) (mvT hZw (hw _ (List.mem_of_getElem? (i := 49) rfl))) (by decide) (backOf (W := 0) (rm5_1 l Z a0 hw [] o1 k7 (atF p3 (0 : Int32)) (.int (0 : Int32)) T13.heap n0 Z_13 Vo1_ g_o1) hZw (hw _ (List.mem_of_getElem? (i := 49) rfl)) (hw _ (List.mem_of_getElem? (i := 48) rfl)) (by decide) (by decide)) (g := (mkF m 125 #[.val (.long q1), .second, .val (.int p2), .val (.int p3), .val (.int p4), .val (.ref w_IN), .val (.int (1 : Int32)), .val (.ref b7), .val (.ref f), .val (.ref o1), .val (.int (1 : Int32)), .unset] [(.ref o1)])) rfl (by rw [hml]; rfl) (argsL := [(.ref o1)]) (rest := []) (lenOf pd_0_5 rfl) rfl (by show 2 * 0 + _ ≤ _; exact Nat.le_of_eq rfl) (hb hby at_125) (fun _ _ => ⟨rfl, rfl, (by decide : 6 + 0 ≤ _), (by decide : 56 + 0 ≤ _)⟩)
  dsimp only [Pt.U, Pt.locs, Pt.cells, Pt.slots] at X14 l14 y14 z14 st14 hQ14
  subst l14 y14 z14
  obtain ⟨rfl, N14q, K14⟩ := hQ14
  have Ef_14 := Ef_13.keep K14
  have Eb_14 := Eb_13.keep K14
  have Ft_14 := Ft_13.keep K14 nf1
  have Fd_14 := Fd_13.keep K14 nf1
  have Fx_14 := Fx_13.keep K14 nf1
  have Fb_14 := Fb_13.keep K14 nf1
  have Vb_14 := Vb_13.keep K14 nb1
  have Z_14 : n0 ≤ T14.heap.size := Nat.le_trans Z_13 K14.1
  have N14 := Fr.app N13 N14q
  obtain ⟨cq15, kq15, q15a, q15b, q15c⟩ := isOf hZw rfl Ef_14
  obtain ⟨_, _, ⟨T15, L15, k15, n15⟩, -, X15, ⟨Lc15, hQ15, l15, y15, z15⟩, st15⟩ := X14.virtualBack hx (y := (⟨"com/example/quotewire/quotewire/wire/Frame", "binary", "()[B"⟩ : MethodName)) (z := (⟨"com/example/quotewire/quotewire/wire/Frame", "binary", "()[B"⟩ : MethodName)) hownw (mvT hZw (hw _ (List.mem_of_getElem? (i := 50) rfl))) (mvT hZw (hw _ (List.mem_of_getElem? (i := 51) rfl))) (notFace_of_selects (args := #[]) (mvT hZw (hw _ (List.mem_of_getElem? (i := 53) rfl)))) (mvT hZw (hw _ (List.mem_of_getElem? (i := 53) rfl))) (mvT hZw (hw _ (List.mem_of_getElem? (i := 52) rfl))) (by decide) (backOf (W := 0) (rm6 l Z a0 hw [] f fb k7 (1 : Int32) [.int (atF p3 0)] (.int (0 : Int32)) T14.heap n0 Z_14 Fb_14 Eb_14 Vb_14 (by decide)) hZw (hw _ (List.mem_of_getElem? (i := 54) rfl)) (hw _ (List.mem_of_getElem? (i := 6) rfl)) (by decide) (by decide)) q15a q15c (g := (mkF m 130 #[.val (.long q1), .second, .val (.int p2), .val (.int p3), .val (.int p4), .val (.ref w_IN), .val (.int (1 : Int32)), .val (.ref b7), .val (.ref f), .val (.ref o1), .val (.int (1 : Int32)), .unset] [(.ref f)])) rfl (by rw [hml]; rfl) (Steps.refl _) (argsL := []) (rest := []) (lenOf pd_0_6 rfl) rfl (by show 2 * 0 + _ ≤ _; exact Nat.le_of_eq rfl) (hb hby at_130) (fun _ _ => ⟨rfl, rfl, (by decide : 6 + 1 ≤ _), (by decide : 56 + 4 ≤ _)⟩)
  dsimp only [Pt.U, Pt.locs, Pt.cells, Pt.slots] at X15 l15 y15 z15 st15 hQ15
  subst l15 y15 z15
  obtain ⟨N15q, o2, rfl, zo2, K15, Vo2, Eo2⟩ := hQ15
  have Ef_15 := Ef_14.keep K15
  have Eb_15 := Eb_14.keep K15
  have Ft_15 := Ft_14.keep K15 (fun q => nomatch q)
  have Fd_15 := Fd_14.keep K15 (fun q => nomatch q)
  have Fx_15 := Fx_14.keep K15 (fun q => nomatch q)
  have Fb_15 := Fb_14.keep K15 (fun q => nomatch q)
  have Vb_15 := Vb_14.keep K15 (fun q => nomatch q)
  have Z_15 : n0 ≤ T15.heap.size := Nat.le_trans Z_14 K15.1
  have N15 := Fr.app N14 N15q
  obtain ⟨_, _, ⟨T16, L16, k16, n16⟩, -, X16, ⟨Lc16, hQ16, l16, y16, z16⟩, st16⟩ := Jvm.LawKit.callS X15 hx (y := (⟨"com/example/quotewire/quotewire/wire/FrameBinaryPinLaw", "same", "([BII)Z"⟩ : MethodName)) hownw (mvT hZw (hw _ (List.mem_of_getElem? (i := 55) rfl))) (mvT hZw (hw _ (List.mem_of_getElem? (i := 56) rfl))) (mvT hZw (hw _ (List.mem_of_getElem? (i := 48) rfl))) (mvT hZw (hw _ (List.mem_of_getElem? (i := 57) rfl))) (by decide) (backOf (W := 0) (rm7_1 l Z a0 hw [] o2 p3 k7 (.int (0 : Int32)) T15.heap n0 Z_15 Vo2) hZw (hw _ (List.mem_of_getElem? (i := 57) rfl)) (hw _ (List.mem_of_getElem? (i := 48) rfl)) (by decide) (by decide)) (g := (mkF m 145 #[.val (.long q1), .second, .val (.int p2), .val (.int p3), .val (.int p4), .val (.ref w_IN), .val (.int (1 : Int32)), .val (.ref b7), .val (.ref f), .val (.ref o1), .val (.int (1 : Int32)), .val (.ref o2)] [(.int p3), (.int (1 : Int32)), (.ref o2)])) rfl (by rw [hml]; rfl) (argsL := [(.ref o2), (.int (1 : Int32)), (.int p3)]) (rest := []) (lenOf pd_0_7 rfl) rfl (by show 2 * 0 + _ ≤ _; exact Nat.le_of_eq rfl) (hb hby at_145) (fun _ _ => ⟨rfl, rfl, (by decide : 7 + 0 ≤ _), (by decide : 60 + 0 ≤ _)⟩)
  dsimp only [Pt.U, Pt.locs, Pt.cells, Pt.slots] at X16 l16 y16 z16 st16 hQ16
  subst l16 y16 z16
  obtain ⟨rfl, N16q, q16⟩ := hQ16
  have K16 : Keep T15.heap T16.heap [] := by rw [q16]; exact Keep.refl _ _
  have Ef_16 := Ef_15.keep K16
  have Eb_16 := Eb_15.keep K16
  have Ft_16 := Ft_15.keep K16 (fun q => nomatch q)
  have Fd_16 := Fd_15.keep K16 (fun q => nomatch q)
  have Fx_16 := Fx_15.keep K16 (fun q => nomatch q)
  have Fb_16 := Fb_15.keep K16 (fun q => nomatch q)
  have Vb_16 := Vb_15.keep K16 (fun q => nomatch q)
  have Z_16 : n0 ≤ T16.heap.size := Nat.le_trans Z_15 K16.1
  have N16 := Fr.app N15 N16q
  obtain ⟨cq17, kq17, q17a, q17b, q17c⟩ := isOf hZw rfl Ef_16
  obtain ⟨_, _, ⟨T17, L17, k17, n17⟩, -, X17, ⟨Lc17, hQ17, l17, y17, z17⟩, st17⟩ := X16.virtualBack hx (y := (⟨"com/example/quotewire/quotewire/wire/Frame", "time", "()J"⟩ : MethodName)) (z := (⟨"com/example/quotewire/quotewire/wire/Frame", "time", "()J"⟩ : MethodName)) hownw (mvT hZw (hw _ (List.mem_of_getElem? (i := 58) rfl))) (mvT hZw (hw _ (List.mem_of_getElem? (i := 59) rfl))) (notFace_of_selects (args := #[]) (mvT hZw (hw _ (List.mem_of_getElem? (i := 61) rfl)))) (mvT hZw (hw _ (List.mem_of_getElem? (i := 61) rfl))) (mvT hZw (hw _ (List.mem_of_getElem? (i := 60) rfl))) (by decide) (backOf (W := 0) (rm8 l Z a0 hw [] f q1 T16.heap n0 Z_16 Ft_16) hZw (hw _ (List.mem_of_getElem? (i := 62) rfl)) (hw _ (List.mem_of_getElem? (i := 6) rfl)) (by decide) (by decide)) q17a q17c (g := (mkF m 165 #[.val (.long q1), .second, .val (.int p2), .val (.int p3), .val (.int p4), .val (.ref w_IN), .val (.int (1 : Int32)), .val (.ref b7), .val (.ref f), .val (.ref o1), .val (.int (1 : Int32)), .val (.ref o2)] [(.ref f)])) rfl (by rw [hml]; rfl) (Steps.refl _) (argsL := []) (rest := []) (lenOf pd_0_8 rfl) rfl (by show 2 * 0 + _ ≤ _; exact Nat.le_of_eq rfl) (hb hby at_165) (fun _ _ => ⟨rfl, rfl, (by decide : 7 + 0 ≤ _), (by decide : 60 + 0 ≤ _)⟩)
  dsimp only [Pt.U, Pt.locs, Pt.cells, Pt.slots] at X17 l17 y17 z17 st17 hQ17
  subst l17 y17 z17
  obtain ⟨rfl, N17q, q17⟩ := hQ17
  have K17 : Keep T16.heap T17.heap [] := by rw [q17]; exact Keep.refl _ _
  have Ef_17 := Ef_16.keep K17
  have Eb_17 := Eb_16.keep K17
  have Ft_17 := Ft_16.keep K17 (fun q => nomatch q)
  have Fd_17 := Fd_16.keep K17 (fun q => nomatch q)
  have Fx_17 := Fx_16.keep K17 (fun q => nomatch q)
  have Fb_17 := Fb_16.keep K17 (fun q => nomatch q)
  have Vb_17 := Vb_16.keep K17 (fun q => nomatch q)
  have Z_17 : n0 ≤ T17.heap.size := Nat.le_trans Z_16 K17.1
  have N17 := Fr.app N16 N17q
  obtain ⟨cq18, kq18, q18a, q18b, q18c⟩ := isOf hZw rfl Ef_17
  obtain ⟨_, _, ⟨T18, L18, k18, n18⟩, -, X18, ⟨Lc18, hQ18, l18, y18, z18⟩, st18⟩ := X17.virtualBack hx (y := (⟨"com/example/quotewire/quotewire/wire/Frame", "direction", "()Lcom/example/quotewire/quotewire/wire/Frame$Direction;"⟩ : MethodName)) (z := (⟨"com/example/quotewire/quotewire/wire/Frame", "direction", "()Lcom/example/quotewire/quotewire/wire/Frame$Direction;"⟩ : MethodName)) hownw (mvT hZw (hw _ (List.mem_of_getElem? (i := 63) rfl))) (mvT hZw (hw _ (List.mem_of_getElem? (i := 64) rfl))) (notFace_of_selects (args := #[]) (mvT hZw (hw _ (List.mem_of_getElem? (i := 66) rfl)))) (mvT hZw (hw _ (List.mem_of_getElem? (i := 66) rfl))) (mvT hZw (hw _ (List.mem_of_getElem? (i := 65) rfl))) (by decide) (backOf (W := 0) (rm9 l Z a0 hw [] f w_IN T17.heap n0 Z_17 Fd_17) hZw (hw _ (List.mem_of_getElem? (i := 67) rfl)) (hw _ (List.mem_of_getElem? (i := 6) rfl)) (by decide) (by decide)) q18a q18c (g := (mkF m 187 #[.val (.long q1), .second, .val (.int p2), .val (.int p3), .val (.int p4), .val (.ref w_IN), .val (.int (1 : Int32)), .val (.ref b7), .val (.ref f), .val (.ref o1), .val (.int (1 : Int32)), .val (.ref o2)] [(.ref f)])) rfl (by rw [hml]; rfl) (Steps.refl _) (argsL := []) (rest := []) (lenOf pd_0_9 rfl) rfl (by show 2 * 0 + _ ≤ _; exact Nat.le_of_eq rfl) (hb hby at_187) (fun _ _ => ⟨rfl, rfl, (by decide : 7 + 0 ≤ _), (by decide : 60 + 0 ≤ _)⟩)
  dsimp only [Pt.U, Pt.locs, Pt.cells, Pt.slots] at X18 l18 y18 z18 st18 hQ18
  subst l18 y18 z18
  obtain ⟨rfl, N18q, q18⟩ := hQ18
  have K18 : Keep T17.heap T18.heap [] := by rw [q18]; exact Keep.refl _ _
  have Ef_18 := Ef_17.keep K18
  have Eb_18 := Eb_17.keep K18
  have Ft_18 := Ft_17.keep K18 (fun q => nomatch q)
  have Fd_18 := Fd_17.keep K18 (fun q => nomatch q)
  have Fx_18 := Fx_17.keep K18 (fun q => nomatch q)
  have Fb_18 := Fb_17.keep K18 (fun q => nomatch q)
  have Vb_18 := Vb_17.keep K18 (fun q => nomatch q)
  have Z_18 : n0 ≤ T18.heap.size := Nat.le_trans Z_17 K18.1
  have N18 := Fr.app N17 N18q
  obtain ⟨cq19, kq19, q19a, q19b, q19c⟩ := isOf hZw rfl Ef_18
  obtain ⟨_, _, ⟨T19, L19, k19, n19⟩, -, X19, ⟨Lc19, hQ19, l19, y19, z19⟩, st19⟩ := X18.virtualBack hx (y := (⟨"com/example/quotewire/quotewire/wire/Frame", "isText", "()Z"⟩ : MethodName)) (z := (⟨"com/example/quotewire/quotewire/wire/Frame", "isText", "()Z"⟩ : MethodName)) hownw (mvT hZw (hw _ (List.mem_of_getElem? (i := 68) rfl))) (mvT hZw (hw _ (List.mem_of_getElem? (i := 69) rfl))) (notFace_of_selects (args := #[]) (mvT hZw (hw _ (List.mem_of_getElem? (i := 71) rfl)))) (mvT hZw (hw _ (List.mem_of_getElem? (i := 71) rfl))) (mvT hZw (hw _ (List.mem_of_getElem? (i := 70) rfl))) (by decide) (backOf (W := 0) (rm10 l Z a0 hw [] f T18.heap n0 Z_18 Fx_18) hZw (hw _ (List.mem_of_getElem? (i := 72) rfl)) (hw _ (List.mem_of_getElem? (i := 6) rfl)) (by decide) (by decide)) q19a q19c (g := (mkF m 209 #[.val (.long q1), .second, .val (.int p2), .val (.int p3), .val (.int p4), .val (.ref w_IN), .val (.int (1 : Int32)), .val (.ref b7), .val (.ref f), .val (.ref o1), .val (.int (1 : Int32)), .val (.ref o2)] [(.ref f)])) rfl (by rw [hml]; rfl) (Steps.refl _) (argsL := []) (rest := []) (lenOf pd_0_10 rfl) rfl (by show 2 * 0 + _ ≤ _; exact Nat.le_of_eq rfl) (hb hby at_209) (fun _ _ => ⟨rfl, rfl, (by decide : 7 + 0 ≤ _), (by decide : 60 + 0 ≤ _)⟩)
  dsimp only [Pt.U, Pt.locs, Pt.cells, Pt.slots] at X19 l19 y19 z19 st19 hQ19
  subst l19 y19 z19
  obtain ⟨rfl, N19q, q19⟩ := hQ19
  have K19 : Keep T18.heap T19.heap [] := by rw [q19]; exact Keep.refl _ _
  have Ef_19 := Ef_18.keep K19
  have Eb_19 := Eb_18.keep K19
  have Ft_19 := Ft_18.keep K19 (fun q => nomatch q)
  have Fd_19 := Fd_18.keep K19 (fun q => nomatch q)
  have Fx_19 := Fx_18.keep K19 (fun q => nomatch q)
  have Fb_19 := Fb_18.keep K19 (fun q => nomatch q)
  have Vb_19 := Vb_18.keep K19 (fun q => nomatch q)
  have Z_19 : n0 ≤ T19.heap.size := Nat.le_trans Z_18 K19.1
  have N19 := Fr.app N18 N19q
  have grow : T10.heap.size ≤ T19.heap.size := Nat.le_trans (Nat.le_trans (Nat.le_trans (Nat.le_trans (Nat.le_trans (Nat.le_trans (Nat.le_trans (Nat.le_trans K11.1 K12.1) K13.1) K14.1) K15.1) K16.1) K17.1) K18.1) K19.1
  obtain ⟨fs, hr, hrun, hended, hRW⟩ := X19.leaveW S10 grow (v := some (.int (1 : Int32))) (fun h => by rw [Bd.returns] at h; cases h)
  refine ⟨_, _, pre0 _ ?_, hrun, hended, _, _, rfl, ?_, hRW.1, hRW.2.1, hRW.2.2.1, hRW.2.2.2.mono (by decide) (by decide)⟩
  -- 4. STEPS
  · show Steps p.tables e below (s₁.setTop (mkF m 0 #[.val (.long q1), .second, .val (.int p2), .val (.int p3), .val (.int p4), .unset, .unset, .unset, .unset, .unset, .unset, .unset] [])) _
    refine XS.iloadN X0.here hx rfl (hb hby at_0) rfl ?_
    show Steps p.tables e below (s₁.setTop (mkF m 1 #[.val (.long q1), .second, .val (.int p2), .val (.int p3), .val (.int p4), .unset, .unset, .unset, .unset, .unset, .unset, .unset] [(.int p2)])) _
    refine XS.iconst X0.here hx rfl (hb hby at_1) ?_
    show Steps p.tables e below (s₁.setTop (mkF m 2 #[.val (.long q1), .second, .val (.int p2), .val (.int p3), .val (.int p4), .unset, .unset, .unset, .unset, .unset, .unset, .unset] [(.int (1 : Int32)), (.int p2)])) _
    refine XS.iand X0.here hx rfl (hb hby at_2) rfl ?_
    show Steps p.tables e below (s₁.setTop (mkF m 3 #[.val (.long q1), .second, .val (.int p2), .val (.int p3), .val (.int p4), .unset, .unset, .unset, .unset, .unset, .unset, .unset] [(.int (p2 &&& (1 : Int32)))])) _
    refine XS.ifYes X0.here hx rfl (pc0 := 3) (pc' := 12) rfl (hb hby at_3) rfl ((if0 _ _).trans (teq hc3).1) (by decide) (by decide) ?_
    show Steps p.tables e below (s₁.setTop (mkF m 12 #[.val (.long q1), .second, .val (.int p2), .val (.int p3), .val (.int p4), .unset, .unset, .unset, .unset, .unset, .unset, .unset] [])) _
    refine st6 _ ?_
    show Steps p.tables e below (T6.setTop (mkF m 15 #[.val (.long q1), .second, .val (.int p2), .val (.int p3), .val (.int p4), .unset, .unset, .unset, .unset, .unset, .unset, .unset] [(.ref w_IN)])) _
    refine XS.astore X6.here hx rfl (hb hby at_15) rfl rfl (l' := #[.val (.long q1), .second, .val (.int p2), .val (.int p3), .val (.int p4), .val (.ref w_IN), .unset, .unset, .unset, .unset, .unset, .unset]) rfl ?_
    show Steps p.tables e below (T6.setTop (mkF m 17 #[.val (.long q1), .second, .val (.int p2), .val (.int p3), .val (.int p4), .val (.ref w_IN), .unset, .unset, .unset, .unset, .unset, .unset] [])) _
    refine XS.iload X6.here hx rfl (hb hby at_17) rfl ?_
    show Steps p.tables e below (T6.setTop (mkF m 19 #[.val (.long q1), .second, .val (.int p2), .val (.int p3), .val (.int p4), .val (.ref w_IN), .unset, .unset, .unset, .unset, .unset, .unset] [(.int p4)])) _
    refine XS.bipush X6.here hx rfl (hb hby at_19) ?_
    show Steps p.tables e below (T6.setTop (mkF m 21 #[.val (.long q1), .second, .val (.int p2), .val (.int p3), .val (.int p4), .val (.ref w_IN), .unset, .unset, .unset, .unset, .unset, .unset] [(.int (7 : Int32)), (.int p4)])) _
    refine XS.iand X6.here hx rfl (hb hby at_21) rfl ?_
    show Steps p.tables e below (T6.setTop (mkF m 22 #[.val (.long q1), .second, .val (.int p2), .val (.int p3), .val (.int p4), .val (.ref w_IN), .unset, .unset, .unset, .unset, .unset, .unset] [(.int (p4 &&& (7 : Int32)))])) _
    refine XS.iconst X6.here hx rfl (hb hby at_22) ?_
    show Steps p.tables e below (T6.setTop (mkF m 23 #[.val (.long q1), .second, .val (.int p2), .val (.int p3), .val (.int p4), .val (.ref w_IN), .unset, .unset, .unset, .unset, .unset, .unset] [(.int (5 : Int32)), (.int (p4 &&& (7 : Int32)))])) _
    refine iremM X6 hx rfl (hb hby at_23) rfl (by decide) ?_
    rw [hk]
    show Steps p.tables e below (T6.setTop (mkF m 24 #[.val (.long q1), .second, .val (.int p2), .val (.int p3), .val (.int p4), .val (.ref w_IN), .unset, .unset, .unset, .unset, .unset, .unset] [(.int (1 : Int32))])) _
    refine XS.istore X6.here hx rfl (hb hby at_24) rfl (l' := #[.val (.long q1), .second, .val (.int p2), .val (.int p3), .val (.int p4), .val (.ref w_IN), .val (.int (1 : Int32)), .unset, .unset, .unset, .unset, .unset]) rfl ?_
    show Steps p.tables e below (T6.setTop (mkF m 26 #[.val (.long q1), .second, .val (.int p2), .val (.int p3), .val (.int p4), .val (.ref w_IN), .val (.int (1 : Int32)), .unset, .unset, .unset, .unset, .unset] [])) _
    refine XS.iload X6.here hx rfl (hb hby at_26) rfl ?_
    show Steps p.tables e below (T6.setTop (mkF m 28 #[.val (.long q1), .second, .val (.int p2), .val (.int p3), .val (.int p4), .val (.ref w_IN), .val (.int (1 : Int32)), .unset, .unset, .unset, .unset, .unset] [(.int (1 : Int32))])) _
    refine st7 _ ?_
    show Steps p.tables e below (T7.setTop (mkF m 30 #[.val (.long q1), .second, .val (.int p2), .val (.int p3), .val (.int p4), .val (.ref w_IN), .val (.int (1 : Int32)), .unset, .unset, .unset, .unset, .unset] [(.ref b7)])) _
    refine XS.astore X7.here hx rfl (hb hby at_30) rfl rfl (l' := #[.val (.long q1), .second, .val (.int p2), .val (.int p3), .val (.int p4), .val (.ref w_IN), .val (.int (1 : Int32)), .val (.ref b7), .unset, .unset, .unset, .unset]) rfl ?_
    show Steps p.tables e below (T7.setTop (mkF m 32 #[.val (.long q1), .second, .val (.int p2), .val (.int p3), .val (.int p4), .val (.ref w_IN), .val (.int (1 : Int32)), .val (.ref b7), .unset, .unset, .unset, .unset] [])) _
    refine XS.iload X7.here hx rfl (hb hby at_32) rfl ?_
    show Steps p.tables e below (T7.setTop (mkF m 34 #[.val (.long q1), .second, .val (.int p2), .val (.int p3), .val (.int p4), .val (.ref w_IN), .val (.int (1 : Int32)), .val (.ref b7), .unset, .unset, .unset, .unset] [(.int (1 : Int32))])) _
    refine XS.ifNo X7.here hx rfl (hb hby at_34) rfl ((if0 _ _).trans (tlt (by decide)).2.2.2) ?_
    show Steps p.tables e below (T7.setTop (mkF m 37 #[.val (.long q1), .second, .val (.int p2), .val (.int p3), .val (.int p4), .val (.ref w_IN), .val (.int (1 : Int32)), .val (.ref b7), .unset, .unset, .unset, .unset] [])) _
    refine XS.aload X7.here hx rfl (hb hby at_37) rfl rfl ?_
    show Steps p.tables e below (T7.setTop (mkF m 39 #[.val (.long q1), .second, .val (.int p2), .val (.int p3), .val (.int p4), .val (.ref w_IN), .val (.int (1 : Int32)), .val (.ref b7), .unset, .unset, .unset, .unset] [(.ref b7)])) _
    refine XS.iconst X7.here hx rfl (hb hby at_39) ?_
    show Steps p.tables e below (T7.setTop (mkF m 40 #[.val (.long q1), .second, .val (.int p2), .val (.int p3), .val (.int p4), .val (.ref w_IN), .val (.int (1 : Int32)), .val (.ref b7), .unset, .unset, .unset, .unset] [(.int (0 : Int32)), (.ref b7)])) _
    refine XS.iloadN X7.here hx rfl (hb hby at_40) rfl ?_
    show Steps p.tables e below (T7.setTop (mkF m 41 #[.val (.long q1), .second, .val (.int p2), .val (.int p3), .val (.int p4), .val (.ref w_IN), .val (.int (1 : Int32)), .val (.ref b7), .unset, .unset, .unset, .unset] [(.int p3), (.int (0 : Int32)), (.ref b7)])) _
    refine XS.iconst X7.here hx rfl (hb hby at_41) ?_
    show Steps p.tables e below (T7.setTop (mkF m 42 #[.val (.long q1), .second, .val (.int p2), .val (.int p3), .val (.int p4), .val (.ref w_IN), .val (.int (1 : Int32)), .val (.ref b7), .unset, .unset, .unset, .unset] [(.int (0 : Int32)), (.int p3), (.int (0 : Int32)), (.ref b7)])) _
    refine st8 _ ?_
    show Steps p.tables e below (T8.setTop (mkF m 45 #[.val (.long q1), .second, .val (.int p2), .val (.int p3), .val (.int p4), .val (.ref w_IN), .val (.int (1 : Int32)), .val (.ref b7), .unset, .unset, .unset, .unset] [(.int (atF p3 (0 : Int32))), (.int (0 : Int32)), (.ref b7)])) _
    refine st9 _ ?_
    show Steps p.tables e below (T9.setTop (mkF m 46 #[.val (.long q1), .second, .val (.int p2), .val (.int p3), .val (.int p4), .val (.ref w_IN), .val (.int (1 : Int32)), .val (.ref b7), .unset, .unset, .unset, .unset] [])) _
    refine XS.iload X9.here hx rfl (hb hby at_46) rfl ?_
    show Steps p.tables e below (T9.setTop (mkF m 48 #[.val (.long q1), .second, .val (.int p2), .val (.int p3), .val (.int p4), .val (.ref w_IN), .val (.int (1 : Int32)), .val (.ref b7), .unset, .unset, .unset, .unset] [(.int (1 : Int32))])) _
    refine XS.iconst X9.here hx rfl (hb hby at_48) ?_
    show Steps p.tables e below (T9.setTop (mkF m 49 #[.val (.long q1), .second, .val (.int p2), .val (.int p3), .val (.int p4), .val (.ref w_IN), .val (.int (1 : Int32)), .val (.ref b7), .unset, .unset, .unset, .unset] [(.int (1 : Int32)), (.int (1 : Int32))])) _
    refine XS.icmpYes X9.here hx rfl (pc0 := 49) (pc' := 61) rfl (hb hby at_49) rfl (flt (by decide)).2.2.2 (by decide) (by decide) ?_
    show Steps p.tables e below (T9.setTop (mkF m 61 #[.val (.long q1), .second, .val (.int p2), .val (.int p3), .val (.int p4), .val (.ref w_IN), .val (.int (1 : Int32)), .val (.ref b7), .unset, .unset, .unset, .unset] [])) _
    refine XS.iload X9.here hx rfl (hb hby at_61) rfl ?_
    show Steps p.tables e below (T9.setTop (mkF m 63 #[.val (.long q1), .second, .val (.int p2), .val (.int p3), .val (.int p4), .val (.ref w_IN), .val (.int (1 : Int32)), .val (.ref b7), .unset, .unset, .unset, .unset] [(.int (1 : Int32))])) _
    refine XS.iconst X9.here hx rfl (hb hby at_63) ?_
    show Steps p.tables e below (T9.setTop (mkF m 64 #[.val (.long q1), .second, .val (.int p2), .val (.int p3), .val (.int p4), .val (.ref w_IN), .val (.int (1 : Int32)), .val (.ref b7), .unset, .unset, .unset, .unset] [(.int (2 : Int32)), (.int (1 : Int32))])) _
    refine XS.icmpYes X9.here hx rfl (pc0 := 64) (pc' := 76) rfl (hb hby at_64) rfl (flt (by decide)).2.2.2 (by decide) (by decide) ?_
    show Steps p.tables e below (T9.setTop (mkF m 76 #[.val (.long q1), .second, .val (.int p2), .val (.int p3), .val (.int p4), .val (.ref w_IN), .val (.int (1 : Int32)), .val (.ref b7), .unset, .unset, .unset, .unset] [])) _
    refine XS.iload X9.here hx rfl (hb hby at_76) rfl ?_
    show Steps p.tables e below (T9.setTop (mkF m 78 #[.val (.long q1), .second, .val (.int p2), .val (.int p3), .val (.int p4), .val (.ref w_IN), .val (.int (1 : Int32)), .val (.ref b7), .unset, .unset, .unset, .unset] [(.int (1 : Int32))])) _
    refine XS.iconst X9.here hx rfl (hb hby at_78) ?_
    show Steps p.tables e below (T9.setTop (mkF m 79 #[.val (.long q1), .second, .val (.int p2), .val (.int p3), .val (.int p4), .val (.ref w_IN), .val (.int (1 : Int32)), .val (.ref b7), .unset, .unset, .unset, .unset] [(.int (3 : Int32)), (.int (1 : Int32))])) _
    refine XS.icmpYes X9.here hx rfl (pc0 := 79) (pc' := 91) rfl (hb hby at_79) rfl (flt (by decide)).2.2.2 (by decide) (by decide) ?_
    show Steps p.tables e below (T9.setTop (mkF m 91 #[.val (.long q1), .second, .val (.int p2), .val (.int p3), .val (.int p4), .val (.ref w_IN), .val (.int (1 : Int32)), .val (.ref b7), .unset, .unset, .unset, .unset] [])) _
    refine XS.lloadN X9.here hx rfl (hb hby at_91) rfl ?_
    show Steps p.tables e below (T9.setTop (mkF m 92 #[.val (.long q1), .second, .val (.int p2), .val (.int p3), .val (.int p4), .val (.ref w_IN), .val (.int (1 : Int32)), .val (.ref b7), .unset, .unset, .unset, .unset] [(.long q1)])) _
    refine XS.aload X9.here hx rfl (hb hby at_92) rfl rfl ?_
    show Steps p.tables e below (T9.setTop (mkF m 94 #[.val (.long q1), .second, .val (.int p2), .val (.int p3), .val (.int p4), .val (.ref w_IN), .val (.int (1 : Int32)), .val (.ref b7), .unset, .unset, .unset, .unset] [(.ref w_IN), (.long q1)])) _
    refine XS.aload X9.here hx rfl (hb hby at_94) rfl rfl ?_
    show Steps p.tables e below (T9.setTop (mkF m 96 #[.val (.long q1), .second, .val (.int p2), .val (.int p3), .val (.int p4), .val (.ref w_IN), .val (.int (1 : Int32)), .val (.ref b7), .unset, .unset, .unset, .unset] [(.ref b7), (.ref w_IN), (.long q1)])) _
    refine st10.trans ?_
    show Steps p.tables e below (T10.setTop (mkF m 99 #[.val (.long q1), .second, .val (.int p2), .val (.int p3), .val (.int p4), .val (.ref w_IN), .val (.int (1 : Int32)), .val (.ref b7), .unset, .unset, .unset, .unset] [(.ref f)])) _
    refine XS.astore X10.here hx rfl (hb hby at_99) rfl rfl (l' := #[.val (.long q1), .second, .val (.int p2), .val (.int p3), .val (.int p4), .val (.ref w_IN), .val (.int (1 : Int32)), .val (.ref b7), .val (.ref f), .unset, .unset, .unset]) rfl ?_
    show Steps p.tables e below (T10.setTop (mkF m 101 #[.val (.long q1), .second, .val (.int p2), .val (.int p3), .val (.int p4), .val (.ref w_IN), .val (.int (1 : Int32)), .val (.ref b7), .val (.ref f), .unset, .unset, .unset] [])) _
    refine XS.aload X10.here hx rfl (hb hby at_101) rfl rfl ?_
    show Steps p.tables e below (T10.setTop (mkF m 103 #[.val (.long q1), .second, .val (.int p2), .val (.int p3), .val (.int p4), .val (.ref w_IN), .val (.int (1 : Int32)), .val (.ref b7), .val (.ref f), .unset, .unset, .unset] [(.ref b7)])) _
    refine st11 _ ?_
    show Steps p.tables e below (T11.setTop (mkF m 106 #[.val (.long q1), .second, .val (.int p2), .val (.int p3), .val (.int p4), .val (.ref w_IN), .val (.int (1 : Int32)), .val (.ref b7), .val (.ref f), .unset, .unset, .unset] [])) _
    refine XS.aload X11.here hx rfl (hb hby at_106) rfl rfl ?_
    show Steps p.tables e below (T11.setTop (mkF m 108 #[.val (.long q1), .second, .val (.int p2), .val (.int p3), .val (.int p4), .val (.ref w_IN), .val (.int (1 : Int32)), .val (.ref b7), .val (.ref f), .unset, .unset, .unset] [(.ref f)])) _
    refine st12.trans ?_
    show Steps p.tables e below (T12.setTop (mkF m 111 #[.val (.long q1), .second, .val (.int p2), .val (.int p3), .val (.int p4), .val (.ref w_IN), .val (.int (1 : Int32)), .val (.ref b7), .val (.ref f), .unset, .unset, .unset] [(.ref o1)])) _
    refine XS.astore X12.here hx rfl (hb hby at_111) rfl rfl (l' := #[.val (.long q1), .second, .val (.int p2), .val (.int p3), .val (.int p4), .val (.ref w_IN), .val (.int (1 : Int32)), .val (.ref b7), .val (.ref f), .val (.ref o1), .unset, .unset]) rfl ?_
    show Steps p.tables e below (T12.setTop (mkF m 113 #[.val (.long q1), .second, .val (.int p2), .val (.int p3), .val (.int p4), .val (.ref w_IN), .val (.int (1 : Int32)), .val (.ref b7), .val (.ref f), .val (.ref o1), .unset, .unset] [])) _
    refine XS.aload X12.here hx rfl (hb hby at_113) rfl rfl ?_
    show Steps p.tables e below (T12.setTop (mkF m 115 #[.val (.long q1), .second, .val (.int p2), .val (.int p3), .val (.int p4), .val (.ref w_IN), .val (.int (1 : Int32)), .val (.ref b7), .val (.ref f), .val (.ref o1), .unset, .unset] [(.ref o1)])) _
    refine XS.iload X12.here hx rfl (hb hby at_115) rfl ?_
    show Steps p.tables e below (T12.setTop (mkF m 117 #[.val (.long q1), .second, .val (.int p2), .val (.int p3), .val (.int p4), .val (.ref w_IN), .val (.int (1 : Int32)), .val (.ref b7), .val (.ref f), .val (.ref o1), .unset, .unset] [(.int (1 : Int32)), (.ref o1)])) _
    refine XS.iloadN X12.here hx rfl (hb hby at_117) rfl ?_
    show Steps p.tables e below (T12.setTop (mkF m 118 #[.val (.long q1), .second, .val (.int p2), .val (.int p3), .val (.int p4), .val (.ref w_IN), .val (.int (1 : Int32)), .val (.ref b7), .val (.ref f), .val (.ref o1), .unset, .unset] [(.int p3), (.int (1 : Int32)), (.ref o1)])) _
    refine st13 _ ?_
    show Steps p.tables e below (T13.setTop (mkF m 121 #[.val (.long q1), .second, .val (.int p2), .val (.int p3), .val (.int p4), .val (.ref w_IN), .val (.int (1 : Int32)), .val (.ref b7), .val (.ref f), .val (.ref o1), .unset, .unset] [(.int (1 : Int32))])) _
    refine XS.istore X13.here hx rfl (hb hby at_121) rfl (l' := #[.val (.long q1), .second, .val (.int p2), .val (.int p3), .val (.int p4), .val (.ref w_IN), .val (.int (1 : Int32)), .val (.ref b7), .val (.ref f), .val (.ref o1), .val (.int (1 : Int32)), .unset]) rfl ?_
    show Steps p.tables e below (T13.setTop (mkF m 123 #[.val (.long q1), .second, .val (.int p2), .val (.int p3), .val (.int p4), .val (.ref w_IN), .val (.int (1 : Int32)), .val (.ref b7), .val (.ref f), .val (.ref o1), .val (.int (1 : Int32)), .unset] [])) _
    refine XS.aload X13.here hx rfl (hb hby at_123) rfl rfl ?_
    show Steps p.tables e below (T13.setTop (mkF m 125 #[.val (.long q1), .second, .val (.int p2), .val (.int p3), .val (.int p4), .val (.ref w_IN), .val (.int (1 : Int32)), .val (.ref b7), .val (.ref f), .val (.ref o1), .val (.int (1 : Int32)), .unset] [(.ref o1)])) _
    refine st14 _ ?_
    show Steps p.tables e below (T14.setTop (mkF m 128 #[.val (.long q1), .second, .val (.int p2), .val (.int p3), .val (.int p4), .val (.ref w_IN), .val (.int (1 : Int32)), .val (.ref b7), .val (.ref f), .val (.ref o1), .val (.int (1 : Int32)), .unset] [])) _
    refine XS.aload X14.here hx rfl (hb hby at_128) rfl rfl ?_
    show Steps p.tables e below (T14.setTop (mkF m 130 #[.val (.long q1), .second, .val (.int p2), .val (.int p3), .val (.int p4), .val (.ref w_IN), .val (.int (1 : Int32)), .val (.ref b7), .val (.ref f), .val (.ref o1), .val (.int (1 : Int32)), .unset] [(.ref f)])) _
    refine st15.trans ?_
    show Steps p.tables e below (T15.setTop (mkF m 133 #[.val (.long q1), .second, .val (.int p2), .val (.int p3), .val (.int p4), .val (.ref w_IN), .val (.int (1 : Int32)), .val (.ref b7), .val (.ref f), .val (.ref o1), .val (.int (1 : Int32)), .unset] [(.ref o2)])) _
    refine XS.astore X15.here hx rfl (hb hby at_133) rfl rfl (l' := #[.val (.long q1), .second, .val (.int p2), .val (.int p3), .val (.int p4), .val (.ref w_IN), .val (.int (1 : Int32)), .val (.ref b7), .val (.ref f), .val (.ref o1), .val (.int (1 : Int32)), .val (.ref o2)]) rfl ?_
    show Steps p.tables e below (T15.setTop (mkF m 135 #[.val (.long q1), .second, .val (.int p2), .val (.int p3), .val (.int p4), .val (.ref w_IN), .val (.int (1 : Int32)), .val (.ref b7), .val (.ref f), .val (.ref o1), .val (.int (1 : Int32)), .val (.ref o2)] [])) _
    refine XS.iload X15.here hx rfl (hb hby at_135) rfl ?_
    show Steps p.tables e below (T15.setTop (mkF m 137 #[.val (.long q1), .second, .val (.int p2), .val (.int p3), .val (.int p4), .val (.ref w_IN), .val (.int (1 : Int32)), .val (.ref b7), .val (.ref f), .val (.ref o1), .val (.int (1 : Int32)), .val (.ref o2)] [(.int (1 : Int32))])) _
    refine XS.ifNo X15.here hx rfl (hb hby at_137) rfl ((if0 _ _).trans (feq (by decide)).1) ?_
    show Steps p.tables e below (T15.setTop (mkF m 140 #[.val (.long q1), .second, .val (.int p2), .val (.int p3), .val (.int p4), .val (.ref w_IN), .val (.int (1 : Int32)), .val (.ref b7), .val (.ref f), .val (.ref o1), .val (.int (1 : Int32)), .val (.ref o2)] [])) _
    refine XS.aload X15.here hx rfl (hb hby at_140) rfl rfl ?_
    show Steps p.tables e below (T15.setTop (mkF m 142 #[.val (.long q1), .second, .val (.int p2), .val (.int p3), .val (.int p4), .val (.ref w_IN), .val (.int (1 : Int32)), .val (.ref b7), .val (.ref f), .val (.ref o1), .val (.int (1 : Int32)), .val (.ref o2)] [(.ref o2)])) _
    refine XS.iload X15.here hx rfl (hb hby at_142) rfl ?_
    show Steps p.tables e below (T15.setTop (mkF m 144 #[.val (.long q1), .second, .val (.int p2), .val (.int p3), .val (.int p4), .val (.ref w_IN), .val (.int (1 : Int32)), .val (.ref b7), .val (.ref f), .val (.ref o1), .val (.int (1 : Int32)), .val (.ref o2)] [(.int (1 : Int32)), (.ref o2)])) _
    refine XS.iloadN X15.here hx rfl (hb hby at_144) rfl ?_
    show Steps p.tables e below (T15.setTop (mkF m 145 #[.val (.long q1), .second, .val (.int p2), .val (.int p3), .val (.int p4), .val (.ref w_IN), .val (.int (1 : Int32)), .val (.ref b7), .val (.ref f), .val (.ref o1), .val (.int (1 : Int32)), .val (.ref o2)] [(.int p3), (.int (1 : Int32)), (.ref o2)])) _
    refine st16 _ ?_
    show Steps p.tables e below (T16.setTop (mkF m 148 #[.val (.long q1), .second, .val (.int p2), .val (.int p3), .val (.int p4), .val (.ref w_IN), .val (.int (1 : Int32)), .val (.ref b7), .val (.ref f), .val (.ref o1), .val (.int (1 : Int32)), .val (.ref o2)] [(.int (1 : Int32))])) _
    refine XS.ifNo X16.here hx rfl (hb hby at_148) rfl ((if0 _ _).trans (feq (by decide)).1) ?_
    show Steps p.tables e below (T16.setTop (mkF m 151 #[.val (.long q1), .second, .val (.int p2), .val (.int p3), .val (.int p4), .val (.ref w_IN), .val (.int (1 : Int32)), .val (.ref b7), .val (.ref f), .val (.ref o1), .val (.int (1 : Int32)), .val (.ref o2)] [])) _
    refine XS.iconst X16.here hx rfl (hb hby at_151) ?_
    show Steps p.tables e below (T16.setTop (mkF m 152 #[.val (.long q1), .second, .val (.int p2), .val (.int p3), .val (.int p4), .val (.ref w_IN), .val (.int (1 : Int32)), .val (.ref b7), .val (.ref f), .val (.ref o1), .val (.int (1 : Int32)), .val (.ref o2)] [(.int (1 : Int32))])) _
    refine XS.goto X16.here hx rfl (pc0 := 152) (pc' := 156) rfl (hb hby at_152) (by decide) (by decide) ?_
    show Steps p.tables e below (T16.setTop (mkF m 156 #[.val (.long q1), .second, .val (.int p2), .val (.int p3), .val (.int p4), .val (.ref w_IN), .val (.int (1 : Int32)), .val (.ref b7), .val (.ref f), .val (.ref o1), .val (.int (1 : Int32)), .val (.ref o2)] [(.int (1 : Int32))])) _
    refine XS.istore X16.here hx rfl (hb hby at_156) rfl (l' := #[.val (.long q1), .second, .val (.int p2), .val (.int p3), .val (.int p4), .val (.ref w_IN), .val (.int (1 : Int32)), .val (.ref b7), .val (.ref f), .val (.ref o1), .val (.int (1 : Int32)), .val (.ref o2)]) rfl ?_
    show Steps p.tables e below (T16.setTop (mkF m 158 #[.val (.long q1), .second, .val (.int p2), .val (.int p3), .val (.int p4), .val (.ref w_IN), .val (.int (1 : Int32)), .val (.ref b7), .val (.ref f), .val (.ref o1), .val (.int (1 : Int32)), .val (.ref o2)] [])) _
    refine XS.iload X16.here hx rfl (hb hby at_158) rfl ?_
    show Steps p.tables e below (T16.setTop (mkF m 160 #[.val (.long q1), .second, .val (.int p2), .val (.int p3), .val (.int p4), .val (.ref w_IN), .val (.int (1 : Int32)), .val (.ref b7), .val (.ref f), .val (.ref o1), .val (.int (1 : Int32)), .val (.ref o2)] [(.int (1 : Int32))])) _
    refine XS.ifNo X16.here hx rfl (hb hby at_160) rfl ((if0 _ _).trans (feq (by decide)).1) ?_
    show Steps p.tables e below (T16.setTop (mkF m 163 #[.val (.long q1), .second, .val (.int p2), .val (.int p3), .val (.int p4), .val (.ref w_IN), .val (.int (1 : Int32)), .val (.ref b7), .val (.ref f), .val (.ref o1), .val (.int (1 : Int32)), .val (.ref o2)] [])) _
    refine XS.aload X16.here hx rfl (hb hby at_163) rfl rfl ?_
    show Steps p.tables e below (T16.setTop (mkF m 165 #[.val (.long q1), .second, .val (.int p2), .val (.int p3), .val (.int p4), .val (.ref w_IN), .val (.int (1 : Int32)), .val (.ref b7), .val (.ref f), .val (.ref o1), .val (.int (1 : Int32)), .val (.ref o2)] [(.ref f)])) _
    refine st17.trans ?_
    show Steps p.tables e below (T17.setTop (mkF m 168 #[.val (.long q1), .second, .val (.int p2), .val (.int p3), .val (.int p4), .val (.ref w_IN), .val (.int (1 : Int32)), .val (.ref b7), .val (.ref f), .val (.ref o1), .val (.int (1 : Int32)), .val (.ref o2)] [(.long q1)])) _
    refine XS.lloadN X17.here hx rfl (hb hby at_168) rfl ?_
    show Steps p.tables e below (T17.setTop (mkF m 169 #[.val (.long q1), .second, .val (.int p2), .val (.int p3), .val (.int p4), .val (.ref w_IN), .val (.int (1 : Int32)), .val (.ref b7), .val (.ref f), .val (.ref o1), .val (.int (1 : Int32)), .val (.ref o2)] [(.long q1), (.long q1)])) _
    refine XS.lcmp X17.here hx rfl (hb hby at_169) rfl ?_
    show Steps p.tables e below (T17.setTop (mkF m 170 #[.val (.long q1), .second, .val (.int p2), .val (.int p3), .val (.int p4), .val (.ref w_IN), .val (.int (1 : Int32)), .val (.ref b7), .val (.ref f), .val (.ref o1), .val (.int (1 : Int32)), .val (.ref o2)] [(.int (lcmpW q1 q1))])) _
    refine XS.ifNo X17.here hx rfl (hb hby at_170) rfl ((if0 _ _).trans (teq ((lw_eq q1 q1).mpr rfl)).2) ?_
    show Steps p.tables e below (T17.setTop (mkF m 173 #[.val (.long q1), .second, .val (.int p2), .val (.int p3), .val (.int p4), .val (.ref w_IN), .val (.int (1 : Int32)), .val (.ref b7), .val (.ref f), .val (.ref o1), .val (.int (1 : Int32)), .val (.ref o2)] [])) _
    refine XS.iconst X17.here hx rfl (hb hby at_173) ?_
    show Steps p.tables e below (T17.setTop (mkF m 174 #[.val (.long q1), .second, .val (.int p2), .val (.int p3), .val (.int p4), .val (.ref w_IN), .val (.int (1 : Int32)), .val (.ref b7), .val (.ref f), .val (.ref o1), .val (.int (1 : Int32)), .val (.ref o2)] [(.int (1 : Int32))])) _
    refine XS.goto X17.here hx rfl (pc0 := 174) (pc' := 178) rfl (hb hby at_174) (by decide) (by decide) ?_
    show Steps p.tables e below (T17.setTop (mkF m 178 #[.val (.long q1), .second, .val (.int p2), .val (.int p3), .val (.int p4), .val (.ref w_IN), .val (.int (1 : Int32)), .val (.ref b7), .val (.ref f), .val (.ref o1), .val (.int (1 : Int32)), .val (.ref o2)] [(.int (1 : Int32))])) _
    refine XS.istore X17.here hx rfl (hb hby at_178) rfl (l' := #[.val (.long q1), .second, .val (.int p2), .val (.int p3), .val (.int p4), .val (.ref w_IN), .val (.int (1 : Int32)), .val (.ref b7), .val (.ref f), .val (.ref o1), .val (.int (1 : Int32)), .val (.ref o2)]) rfl ?_
    show Steps p.tables e below (T17.setTop (mkF m 180 #[.val (.long q1), .second, .val (.int p2), .val (.int p3), .val (.int p4), .val (.ref w_IN), .val (.int (1 : Int32)), .val (.ref b7), .val (.ref f), .val (.ref o1), .val (.int (1 : Int32)), .val (.ref o2)] [])) _
    refine XS.iload X17.here hx rfl (hb hby at_180) rfl ?_
    show Steps p.tables e below (T17.setTop (mkF m 182 #[.val (.long q1), .second, .val (.int p2), .val (.int p3), .val (.int p4), .val (.ref w_IN), .val (.int (1 : Int32)), .val (.ref b7), .val (.ref f), .val (.ref o1), .val (.int (1 : Int32)), .val (.ref o2)] [(.int (1 : Int32))])) _
    refine XS.ifNo X17.here hx rfl (hb hby at_182) rfl ((if0 _ _).trans (feq (by decide)).1) ?_
    show Steps p.tables e below (T17.setTop (mkF m 185 #[.val (.long q1), .second, .val (.int p2), .val (.int p3), .val (.int p4), .val (.ref w_IN), .val (.int (1 : Int32)), .val (.ref b7), .val (.ref f), .val (.ref o1), .val (.int (1 : Int32)), .val (.ref o2)] [])) _
    refine XS.aload X17.here hx rfl (hb hby at_185) rfl rfl ?_
    show Steps p.tables e below (T17.setTop (mkF m 187 #[.val (.long q1), .second, .val (.int p2), .val (.int p3), .val (.int p4), .val (.ref w_IN), .val (.int (1 : Int32)), .val (.ref b7), .val (.ref f), .val (.ref o1), .val (.int (1 : Int32)), .val (.ref o2)] [(.ref f)])) _
    refine st18.trans ?_
    show Steps p.tables e below (T18.setTop (mkF m 190 #[.val (.long q1), .second, .val (.int p2), .val (.int p3), .val (.int p4), .val (.ref w_IN), .val (.int (1 : Int32)), .val (.ref b7), .val (.ref f), .val (.ref o1), .val (.int (1 : Int32)), .val (.ref o2)] [(.ref w_IN)])) _
    refine XS.aload X18.here hx rfl (hb hby at_190) rfl rfl ?_
    show Steps p.tables e below (T18.setTop (mkF m 192 #[.val (.long q1), .second, .val (.int p2), .val (.int p3), .val (.int p4), .val (.ref w_IN), .val (.int (1 : Int32)), .val (.ref b7), .val (.ref f), .val (.ref o1), .val (.int (1 : Int32)), .val (.ref o2)] [(.ref w_IN), (.ref w_IN)])) _
    refine Jvm.RoadKit.acmp (g := (mkF m 192 #[.val (.long q1), .second, .val (.int p2), .val (.int p3), .val (.int p4), .val (.ref w_IN), .val (.int (1 : Int32)), .val (.ref b7), .val (.ref f), .val (.ref o1), .val (.int (1 : Int32)), .val (.ref o2)] [(.ref w_IN), (.ref w_IN)])) X18 hx rfl rfl rfl (pc0 := 192) (pc' := 195) (same := true) rfl (hb hby at_192) rfl (decide_eq_true rfl) (by decide) (by decide) ?_
    show Steps p.tables e below (T18.setTop (mkF m 195 #[.val (.long q1), .second, .val (.int p2), .val (.int p3), .val (.int p4), .val (.ref w_IN), .val (.int (1 : Int32)), .val (.ref b7), .val (.ref f), .val (.ref o1), .val (.int (1 : Int32)), .val (.ref o2)] [])) _
    refine XS.iconst X18.here hx rfl (hb hby at_195) ?_
    show Steps p.tables e below (T18.setTop (mkF m 196 #[.val (.long q1), .second, .val (.int p2), .val (.int p3), .val (.int p4), .val (.ref w_IN), .val (.int (1 : Int32)), .val (.ref b7), .val (.ref f), .val (.ref o1), .val (.int (1 : Int32)), .val (.ref o2)] [(.int (1 : Int32))])) _
    refine XS.goto X18.here hx rfl (pc0 := 196) (pc' := 200) rfl (hb hby at_196) (by decide) (by decide) ?_
    show Steps p.tables e below (T18.setTop (mkF m 200 #[.val (.long q1), .second, .val (.int p2), .val (.int p3), .val (.int p4), .val (.ref w_IN), .val (.int (1 : Int32)), .val (.ref b7), .val (.ref f), .val (.ref o1), .val (.int (1 : Int32)), .val (.ref o2)] [(.int (1 : Int32))])) _
    refine XS.istore X18.here hx rfl (hb hby at_200) rfl (l' := #[.val (.long q1), .second, .val (.int p2), .val (.int p3), .val (.int p4), .val (.ref w_IN), .val (.int (1 : Int32)), .val (.ref b7), .val (.ref f), .val (.ref o1), .val (.int (1 : Int32)), .val (.ref o2)]) rfl ?_
    show Steps p.tables e below (T18.setTop (mkF m 202 #[.val (.long q1), .second, .val (.int p2), .val (.int p3), .val (.int p4), .val (.ref w_IN), .val (.int (1 : Int32)), .val (.ref b7), .val (.ref f), .val (.ref o1), .val (.int (1 : Int32)), .val (.ref o2)] [])) _
    refine XS.iload X18.here hx rfl (hb hby at_202) rfl ?_
    show Steps p.tables e below (T18.setTop (mkF m 204 #[.val (.long q1), .second, .val (.int p2), .val (.int p3), .val (.int p4), .val (.ref w_IN), .val (.int (1 : Int32)), .val (.ref b7), .val (.ref f), .val (.ref o1), .val (.int (1 : Int32)), .val (.ref o2)] [(.int (1 : Int32))])) _
    refine XS.ifNo X18.here hx rfl (hb hby at_204) rfl ((if0 _ _).trans (feq (by decide)).1) ?_
    show Steps p.tables e below (T18.setTop (mkF m 207 #[.val (.long q1), .second, .val (.int p2), .val (.int p3), .val (.int p4), .val (.ref w_IN), .val (.int (1 : Int32)), .val (.ref b7), .val (.ref f), .val (.ref o1), .val (.int (1 : Int32)), .val (.ref o2)] [])) _
    refine XS.aload X18.here hx rfl (hb hby at_207) rfl rfl ?_
    show Steps p.tables e below (T18.setTop (mkF m 209 #[.val (.long q1), .second, .val (.int p2), .val (.int p3), .val (.int p4), .val (.ref w_IN), .val (.int (1 : Int32)), .val (.ref b7), .val (.ref f), .val (.ref o1), .val (.int (1 : Int32)), .val (.ref o2)] [(.ref f)])) _
    refine st19.trans ?_
    show Steps p.tables e below (T19.setTop (mkF m 212 #[.val (.long q1), .second, .val (.int p2), .val (.int p3), .val (.int p4), .val (.ref w_IN), .val (.int (1 : Int32)), .val (.ref b7), .val (.ref f), .val (.ref o1), .val (.int (1 : Int32)), .val (.ref o2)] [(.int (0 : Int32))])) _
    refine XS.ifNo X19.here hx rfl (hb hby at_212) rfl ((if0 _ _).trans (teq (by decide)).2) ?_
    show Steps p.tables e below (T19.setTop (mkF m 215 #[.val (.long q1), .second, .val (.int p2), .val (.int p3), .val (.int p4), .val (.ref w_IN), .val (.int (1 : Int32)), .val (.ref b7), .val (.ref f), .val (.ref o1), .val (.int (1 : Int32)), .val (.ref o2)] [])) _
    refine XS.iconst X19.here hx rfl (hb hby at_215) ?_
    show Steps p.tables e below (T19.setTop (mkF m 216 #[.val (.long q1), .second, .val (.int p2), .val (.int p3), .val (.int p4), .val (.ref w_IN), .val (.int (1 : Int32)), .val (.ref b7), .val (.ref f), .val (.ref o1), .val (.int (1 : Int32)), .val (.ref o2)] [(.int (1 : Int32))])) _
    refine XS.goto X19.here hx rfl (pc0 := 216) (pc' := 220) rfl (hb hby at_216) (by decide) (by decide) ?_
    show Steps p.tables e below (T19.setTop (mkF m 220 #[.val (.long q1), .second, .val (.int p2), .val (.int p3), .val (.int p4), .val (.ref w_IN), .val (.int (1 : Int32)), .val (.ref b7), .val (.ref f), .val (.ref o1), .val (.int (1 : Int32)), .val (.ref o2)] [(.int (1 : Int32))])) _
    refine XS.istore X19.here hx rfl (hb hby at_220) rfl (l' := #[.val (.long q1), .second, .val (.int p2), .val (.int p3), .val (.int p4), .val (.ref w_IN), .val (.int (1 : Int32)), .val (.ref b7), .val (.ref f), .val (.ref o1), .val (.int (1 : Int32)), .val (.ref o2)]) rfl ?_
    show Steps p.tables e below (T19.setTop (mkF m 222 #[.val (.long q1), .second, .val (.int p2), .val (.int p3), .val (.int p4), .val (.ref w_IN), .val (.int (1 : Int32)), .val (.ref b7), .val (.ref f), .val (.ref o1), .val (.int (1 : Int32)), .val (.ref o2)] [])) _
    refine XS.iload X19.here hx rfl (hb hby at_222) rfl ?_
    show Steps p.tables e below (T19.setTop (mkF m 224 #[.val (.long q1), .second, .val (.int p2), .val (.int p3), .val (.int p4), .val (.ref w_IN), .val (.int (1 : Int32)), .val (.ref b7), .val (.ref f), .val (.ref o1), .val (.int (1 : Int32)), .val (.ref o2)] [(.int (1 : Int32))])) _
    exact retN X19 hx (t := .boolean) Bd.returns (by simp) (hb hby at_224) hr
  · show Q0 Z h0 n0 _ T19.heap _
    exact ⟨rfl, N19⟩
set_option maxRecDepth 65536 in
set_option maxHeartbeats 40000000 in
theorem rm0_IN_2 (l : Launch) (Z : State) (a0 : Array Value) (hw : ∀ d ∈ tables_1, d.before a0 Z = true) (ws : List Jvm.Cond) (q1 : Int64) (p2 : Int32) (p3 : Int32) (p4 : Int32) (w_IN : Addr) (h0 : Heap) (n0 : Nat) (Z0 : n0 ≤ h0.size) (S_IN : Sta Z h0 "com/example/quotewire/quotewire/wire/Frame$Direction" "IN" "Lcom/example/quotewire/quotewire/wire/Frame$Direction;" (.ref w_IN)) (E_IN : Exa Z h0 w_IN "com/example/quotewire/quotewire/wire/Frame$Direction") (hc3 : (p2 &&& (1 : Int32)) = (0 : Int32)) (hk : ((p4 &&& (7 : Int32)) % (5 : Int32)) = (2 : Int32)) :
    MetFree l x (head1 (Jvm.Cond.code x code maxLocals ret :: ws) room_1) (fun a U => a = #[(.long q1), (.int p2), (.int p3), (.int p4)] ∧ Z.Warmed39 U.vm ∧ U.heap = h0) (fun _ _ _ _ _ => True) (fun _ U o U' => ∃ v L, o = .returned v ∧ Q0 Z h0 n0 v U'.heap L ∧ ReturnedEndW U o U' L room_1.cells room_1.slots) := by
  refine MetFree.of_bodySF (plainFor_of_name pn_0) hisR ?_
  intro p e s m args below meth c s₁ Bd hml0 hP hK
  obtain ⟨rfl, hZ, hh⟩ := hP
  have hx := Bd.exec
  have hby := Bd.bytes
  have hml : c.maxLocals = 12 := hml0
  have hown : s.vm.findClass "com/example/quotewire/quotewire/wire/FrameBinaryPinLaw" = some m.cls := findClass_of_methodNamed Bd.named
  have hnm := (name_of_methodNamed Bd.named Bd.method).1
  have X0 : Stand p l e room_1 s m #[(.long q1), (.int p2), (.int p3), (.int p4)] below meth c s₁ [] 0 0 := Stand.of_body Bd
  have e0 : s₁.heap = h0 := by rw [← hh, Bd.state]; rfl
  have N0 := Fr.nil n0
  have pre0 : ∀ t, Steps p.tables e below (s₁.setTop (mkF m 0 #[.val (.long q1), .second, .val (.int p2), .val (.int p3), .val (.int p4), .unset, .unset, .unset, .unset, .unset, .unset, .unset] [])) t → Steps p.tables e below (s₁.setTop (entryFrame m #[(.long q1), (.int p2), (.int p3), (.int p4)] maxLocals)) t := fun t k => castTop (ef_0 m q1 p2 p3 p4) k
  -- 3. LAWS
  obtain ⟨T6, X6, e6, st6⟩ := getS2 X0 hx hZ hown (host := "") (Or.inl (hw _ (List.mem_of_getElem? (i := 0) rfl))) Via.refl e0 S_IN (g := (mkF m 12 #[.val (.long q1), .second, .val (.int p2), .val (.int p3), .val (.int p4), .unset, .unset, .unset, .unset, .unset, .unset, .unset] [])) rfl (hb hby at_12)
  obtain ⟨T7, h7, k7, X7, e7, E7, A7, B7, st7⟩ := newPE X6 hx hZ (hw _ (List.mem_of_getElem? (i := 3) rfl)) e6 (g := (mkF m 28 #[.val (.long q1), .second, .val (.int p2), .val (.int p3), .val (.int p4), .val (.ref w_IN), .val (.int (2 : Int32)), .unset, .unset, .unset, .unset, .unset] [(.int (2 : Int32))])) rfl (hb hby at_28) rfl (by decide) (cap := 4) (by decide) (by decide) (by decide) (by decide) (ad := "[B") (by decide)
  obtain ⟨b7, g7⟩ : ∃ z, z = h0.size := ⟨_, rfl⟩      -- the fresh array's address
  rw [← g7] at A7 B7 st7
  have V0 : Arv Z h7 b7 k7 .byte (2 : Int32) [.int (0 : Int32), .int (0 : Int32)] (.int (0 : Int32)) := (Arv.new A7 (by decide)).pad (pad_rep [] (.int (0 : Int32)) 2)
  have g_b7 : n0 ≤ b7 := Nat.le_trans Z0 (Nat.le_of_eq g7.symm)
  have sz_b7 : h0.size ≤ b7 := (Nat.le_trans (Keep.refl h0 []).1 (Nat.le_of_eq g7.symm))
  have K7 : Keep h0 h7 [] := (Keep.refl h0 []).ext E7
  have Zc_0 : n0 ≤ h7.size := Nat.le_trans Z0 K7.1
  have D_0 := E_IN.ext E7
  obtain ⟨_, _, ⟨T8, L8, k8, n8⟩, -, X8, ⟨Lc8, hQ8, l8, y8, z8⟩, st8⟩ := Jvm.LawKit.callS X7 hx (y := (⟨"com/example/quotewire/quotewire/wire/FrameBinaryPinLaw", "at", "(II)B"⟩ : MethodName)) hown (mvT hZ (hw _ (List.mem_of_getElem? (i := 73) rfl))) (mvT hZ (hw _ (List.mem_of_getElem? (i := 74) rfl))) (mvT hZ (hw _ (List.mem_of_getElem? (i := 48) rfl))) (mvT hZ (hw _ (List.mem_of_getElem? (i := 75) rfl))) (by decide) (backOf (W := 2) (rm11 l Z a0 hw [] p3 (0 : Int32) h7 n0 Zc_0) hZ (hw _ (List.mem_of_getElem? (i := 75) rfl)) (hw _ (List.mem_of_getElem? (i := 48) rfl)) (by decide) (by decide)) (g := (mkF m 42 #[.val (.long q1), .second, .val (.int p2), .val (.int p3), .val (.int p4), .val (.ref w_IN), .val (.int (2 : Int32)), .val (.ref b7), .unset, .unset, .unset, .unset] [(.int (0 : Int32)), (.int p3), (.int (0 : Int32)), (.ref b7)])) rfl (by rw [hml]; rfl) (argsL := [(.int p3), (.int (0 : Int32))]) (rest := [(.int (0 : Int32)), (.ref b7)]) (lenOf pd_0_11 rfl) rfl (by show 2 * 0 + _ ≤ _; exact Nat.le_of_eq rfl) (hb hby at_42) (fun _ _ => ⟨rfl, e7, (by decide : 1 + 0 ≤ _), (by decide : 4 + 0 ≤ _)⟩)
  dsimp only [Pt.U, Pt.locs, Pt.cells, Pt.slots] at X8 l8 y8 z8 st8 hQ8
  subst l8 y8 z8
  obtain ⟨rfl, N8q, q8⟩ := hQ8
  have N8 := Fr.app N0 N8q
  obtain ⟨c_8, Ar_8, qa_8, S_8, N_8, H_8, G_8⟩ : Arv Z T8.heap b7 k7 .byte (2 : Int32) [.int (0 : Int32), .int (0 : Int32)] (.int (0 : Int32)) := by rw [q8]; exact V0
  have hin45 := inb_of (j := (0 : Int32)) S_8 ⟨by decide, by decide⟩
  obtain ⟨T9, h9, X9, e9, W9, st9⟩ := stB X8 hx hZ rfl Ar_8 (j := (0 : Int32)) hin45 (g := (mkF m 45 #[.val (.long q1), .second, .val (.int p2), .val (.int p3), .val (.int p4), .val (.ref w_IN), .val (.int (2 : Int32)), .val (.ref b7), .unset, .unset, .unset, .unset] [(.int (atF p3 (0 : Int32))), (.int (0 : Int32)), (.ref b7)])) rfl rfl (hb hby at_45)
  rw [own_narAt] at W9
  have V1 : Arv Z h9 b7 k7 .byte (2 : Int32) [.int (atF p3 0), .int (0 : Int32)] (.int (0 : Int32)) := Arv.set Ar_8 qa_8 S_8 N_8 H_8 G_8 (by rw [← own_narAt]; exact fits_nar_byte _) W9 0 rfl (Nat.le_of_ble_eq_true rfl)
  have K9 : Keep h0 h9 [] := ((by rw [q8]; exact K7 : Keep h0 T8.heap [])).wr W9 (Or.inr sz_b7)
  have Zc_1 : n0 ≤ h9.size := Nat.le_trans Z0 K9.1
  have D_1 : Exa Z h9 w_IN "com/example/quotewire/quotewire/wire/Frame$Direction" := ((by rw [q8]; exact D_0 : Exa Z T8.heap w_IN "com/example/quotewire/quotewire/wire/Frame$Direction")).wr W9
  have BB_1 : Exa Z h9 b7 "[B" := ((by rw [q8]; exact B7 : Exa Z T8.heap b7 "[B")).wr W9
  have N9 := Fr.snoc X9 N8 g_b7
  obtain ⟨_, _, ⟨T10, L10, k10, n10⟩, -, X10, ⟨Lc10, hQ10, l10, y10, z10⟩, st10⟩ := Jvm.LawKit.callS X9 hx (y := (⟨"com/example/quotewire/quotewire/wire/FrameBinaryPinLaw", "at", "(II)B"⟩ : MethodName)) hown (mvT hZ (hw _ (List.mem_of_getElem? (i := 73) rfl))) (mvT hZ (hw _ (List.mem_of_getElem? (i := 74) rfl))) (mvT hZ (hw _ (List.mem_of_getElem? (i := 48) rfl))) (mvT hZ (hw _ (List.mem_of_getElem? (i := 75) rfl))) (by decide) (backOf (W := 2) (rm11 l Z a0 hw [] p3 (1 : Int32) h9 n0 Zc_1) hZ (hw _ (List.mem_of_getElem? (i := 75) rfl)) (hw _ (List.mem_of_getElem? (i := 48) rfl)) (by decide) (by decide)) (g := (mkF m 57 #[.val (.long q1), .second, .val (.int p2), .val (.int p3), .val (.int p4), .val (.ref w_IN), .val (.int (2 : Int32)), .val (.ref b7), .unset, .unset, .unset, .unset] [(.int (1 : Int32)), (.int p3), (.int (1 : Int32)), (.ref b7)])) rfl (by rw [hml]; rfl) (argsL := [(.int p3), (.int (1 : Int32))]) (rest := [(.int (1 : Int32)), (.ref b7)]) (lenOf pd_0_11 rfl) rfl (by show 2 * 0 + _ ≤ _; exact Nat.le_of_eq rfl) (hb hby at_57) (fun _ _ => ⟨rfl, e9, (by decide : 1 + 0 ≤ _), (by decide : 4 + 0 ≤ _)⟩)
  dsimp only [Pt.U, Pt.locs, Pt.cells, Pt.slots] at X10 l10 y10 z10 st10 hQ10
  subst l10 y10 z10
  obtain ⟨rfl, N10q, q10⟩ := hQ10
  have N10 := Fr.app N9 N10q
  obtain ⟨c_10, Ar_10, qa_10, S_10, N_10, H_10, G_10⟩ : Arv Z T10.heap b7 k7 .byte (2 : Int32) [.int (atF p3 0), .int (0 : Int32)] (.int (0 : Int32)) := by rw [q10]; exact V1
  have hin60 := inb_of (j := (1 : Int32)) S_10 ⟨by decide, by decide⟩
  obtain ⟨T11, h11, X11, e11, W11, st11⟩ := stB X10 hx hZ rfl Ar_10 (j := (1 : Int32)) hin60 (g := (mkF m 60 #[.val (.long q1), .second, .val (.int p2), .val (.int p3), .val (.int p4), .val (.ref w_IN), .val (.int (2 : Int32)), .val (.ref b7), .unset, .unset, .unset, .unset] [(.int (atF p3 (1 : Int32))), (.int (1 : Int32)), (.ref b7)])) rfl rfl (hb hby at_60)
  rw [own_narAt] at W11
  have V2 : Arv Z h11 b7 k7 .byte (2 : Int32) [.int (atF p3 0), .int (atF p3 1)] (.int (0 : Int32)) := Arv.set Ar_10 qa_10 S_10 N_10 H_10 G_10 (by rw [← own_narAt]; exact fits_nar_byte _) W11 1 rfl (Nat.le_of_ble_eq_true rfl)
  have K11 : Keep h0 h11 [] := ((by rw [q10]; exact K9 : Keep h0 T10.heap [])).wr W11 (Or.inr sz_b7)
  have Zc_2 : n0 ≤ h11.size := Nat.le_trans Z0 K11.1
  have D_2 : Exa Z h11 w_IN "com/example/quotewire/quotewire/wire/Frame$Direction" := ((by rw [q10]; exact D_1 : Exa Z T10.heap w_IN "com/example/quotewire/quotewire/wire/Frame$Direction")).wr W11
  have BB_2 : Exa Z h11 b7 "[B" := ((by rw [q10]; exact BB_1 : Exa Z T10.heap b7 "[B")).wr W11
  have N11 := Fr.snoc X11 N10 g_b7
  have D_c : Exa Z h11 w_IN "com/example/quotewire/quotewire/wire/Frame$Direction" := D_2
  have B_c : Exa Z h11 b7 "[B" := BB_2
  obtain ⟨_, _, ⟨T12, L12, k12, n12⟩, -, X12, S12, gr12, ⟨Lc12, hQ12, l12, y12, z12⟩, st12⟩ := callSS X11 hx (y := (⟨"com/example/quotewire/quotewire/wire/Frame", "binary", "(JLcom/example/quotewire/quotewire/wire/Frame$Direction;[B)Lcom/example/quotewire/quotewire/wire/Frame;"⟩ : MethodName)) hown (mvT hZ (hw _ (List.mem_of_getElem? (i := 4) rfl))) (mvT hZ (hw _ (List.mem_of_getElem? (i := 5) rfl))) (mvT hZ (hw _ (List.mem_of_getElem? (i := 6) rfl))) (mvT hZ (hw _ (List.mem_of_getElem? (i := 7) rfl))) (by decide) (backOfS (W := 0) (rm1 l Z a0 hw [] q1 w_IN b7 k7 (2 : Int32) [.int (atF p3 0), .int (atF p3 1)] (.int (0 : Int32)) h11 n0 Zc_2 D_c B_c V2 (by decide)) hZ (hw _ (List.mem_of_getElem? (i := 7) rfl)) (hw _ (List.mem_of_getElem? (i := 6) rfl)) (by decide) (by decide)) (g := (mkF m 96 #[.val (.long q1), .second, .val (.int p2), .val (.int p3), .val (.int p4), .val (.ref w_IN), .val (.int (2 : Int32)), .val (.ref b7), .unset, .unset, .unset, .unset] [(.ref b7), (.ref w_IN), (.long q1)])) rfl (by rw [hml]; rfl) (argsL := [(.long q1), (.ref w_IN), (.ref b7)]) (rest := []) (lenOf pd_0_0 rfl) rfl (by show 2 * 0 + _ ≤ _; exact Nat.le_of_eq rfl) (hb hby at_96) (fun _ _ => ⟨rfl, e11, (by decide : 1 + 4 ≤ _), (by decide : 4 + 48 ≤ _)⟩)
  dsimp only [Pt.U, Pt.locs, Pt.cells, Pt.slots] at X12 S12 gr12 l12 y12 z12 st12 hQ12
  subst l12 y12 z12
  obtain ⟨N12q, f, fb, rfl, zf, zb, K12, Ef_12, Eb_12, Ft_12, Fd_12, Fx_12, Fb_12, Vb_12⟩ := hQ12
  have hZw : Z.Warmed39 (s.setVm T12.vm).vm := State.Warmed39.trans (t := s) hZ S12.1
  have hownw : (s.setVm T12.vm).vm.findClass "com/example/quotewire/quotewire/wire/FrameBinaryPinLaw" = some m.cls := by rw [show (s.setVm T12.vm).vm = T12.vm from rfl, S12.1.alike.findClass]; exact hown
  have Z_12 : n0 ≤ T12.heap.size := Nat.le_trans Zc_2 K12.1
  have Vs : Arv Z T12.heap b7 k7 .byte (2 : Int32) [.int (atF p3 0), .int (atF p3 1)] (.int (0 : Int32)) := V2.keep K12 (fun q => nomatch q)
  have lb : b7 < h11.size := V2.lt
  have nf : f ∉ [b7] := fun q => absurd (List.mem_singleton.mp q) (Nat.ne_of_gt (Nat.lt_of_lt_of_le lb zf))
  have nb : fb ∉ [b7] := fun q => absurd (List.mem_singleton.mp q) (Nat.ne_of_gt (Nat.lt_of_lt_of_le lb zb))
  have N12 := Fr.app N11 N12q
  obtain ⟨_, _, ⟨T13, L13, k13, n13⟩, -, X13, ⟨Lc13, hQ13, l13, y13, z13⟩, st13⟩ := Jvm.LawKit.callS X12 hx (y := (⟨"com/example/quotewire/quotewire/wire/FrameBinaryPinLaw", "flip", "([B)V"⟩ : MethodName)) hownw (mvT hZw (hw _ (List.mem_of_getElem? (i := 46) rfl))) (mvT hZw (hw _ (List.mem_of_getElem? (i := 47) rfl))) (mvT hZw (hw _ (List.mem_of_getElem? (i := 48) rfl))) (mvT hZw (hw _ (List.mem_of_getElem? (i := 49) rfl))) (by decide) (backOf (W := 0) (rm5_2 l Z a0 hw [] b7 k7 (atF p3 (0 : Int32)) (atF p3 (1 : Int32)) (.int (0 : Int32)) T12.heap n0 Z_12 Vs g_b7) hZw (hw _ (List.mem_of_getElem? (i := 49) rfl)) (hw _ (List.mem_of_getElem? (i := 48) rfl)) (by decide) (by decide)) (g := (mkF m 103 #[.val (.long q1), .second, .val (.int p2), .val (.int p3), .val (.int p4), .val (.ref w_IN), .val (.int (2 : Int32)), .val (.ref b7), .val (.ref f), .unset, .unset, .unset] [(.ref b7)])) rfl (by rw [hml]; rfl) (argsL := [(.ref b7)]) (rest := []) (lenOf pd_0_5 rfl) rfl (by show 2 * 0 + _ ≤ _; exact Nat.le_of_eq rfl) (hb hby at_103) (fun _ _ => ⟨rfl, rfl, (by decide : 5 + 0 ≤ _), (by decide : 52 + 0 ≤ _)⟩)
  dsimp only [Pt.U, Pt.locs, Pt.cells, Pt.slots] at X13 l13 y13 z13 st13 hQ13
  subst l13 y13 z13
  obtain ⟨rfl, N13q, K13⟩ := hQ13
  have Ef_13 := Ef_12.keep K13
  have Eb_13 := Eb_12.keep K13
  have Ft_13 := Ft_12.keep K13 nf
  have Fd_13 := Fd_12.keep K13 nf
  have Fx_13 := Fx_12.keep K13 nf
  have Fb_13 := Fb_12.keep K13 nf
  have Vb_13 := Vb_12.keep K13 nb
  have Z_13 : n0 ≤ T13.heap.size := Nat.le_trans Z_12 K13.1
  have N13 := Fr.app N12 N13q
  obtain ⟨cq14, kq14, q14a, q14b, q14c⟩ := isOf hZw rfl Ef_13
  obtain ⟨_, _, ⟨T14, L14, k14, n14⟩, -, X14, ⟨Lc14, hQ14, l14, y14, z14⟩, st14⟩ := X13.virtualBack hx (y := (⟨"com/example/quotewire/quotewire/wire/Frame", "binary", "()[B"⟩ : MethodName)) (z := (⟨"com/example/quotewire/quotewire/wire/Frame", "binary", "()[B"⟩ : MethodName)) hownw (mvT hZw (hw _ (List.mem_of_getElem? (i := 50) rfl))) (mvT hZw (hw _ (List.mem_of_getElem? (i := 51) rfl))) (notFace_of_selects (args := #[]) (mvT hZw (hw _ (List.mem_of_getElem? (i := 53) rfl)))) (mvT hZw (hw _ (List.mem_of_getElem? (i := 53) rfl))) (mvT hZw (hw _ (List.mem_of_getElem? (i := 52) rfl))) (by decide) (backOf (W := 0) (rm6 l Z a0 hw [] f fb k7 (2 : Int32) [.int (atF p3 0), .int (atF p3 1)] (.int (0 : Int32)) T13.heap n0 Z_13 Fb_13 Eb_13 Vb_13 (by decide)) hZw (hw _ (List.mem_of_getElem? (i := 54) rfl)) (hw _ (List.mem_of_getElem? (i := 6) rfl)) (by decide) (by decide)) q14a q14c (g := (mkF m 108 #[.val (.long q1), .second, .val (.int p2), .val (.int p3), .val (.int p4), .val (.ref w_IN), .val (.int (2 : Int32)), .val (.ref b7), .val (.ref f), .unset, .unset, .unset] [(.ref f)])) rfl (by rw [hml]; rfl) (Steps.refl _) (argsL := []) (rest := []) (lenOf pd_0_6 rfl) rfl (by show 2 * 0 + _ ≤ _; exact Nat.le_of_eq rfl) (hb hby at_108) (fun _ _ => ⟨rfl, rfl, (by decide : 5 + 1 ≤ _), (by decide : 52 + 4 ≤ _)⟩)
  dsimp only [Pt.U, Pt.locs, Pt.cells, Pt.slots] at X14 l14 y14 z14 st14 hQ14
  subst l14 y14 z14
  obtain ⟨N14q, o1, rfl, zo1, K14, Vo1, Eo1⟩ := hQ14
  have nf1 : f ∉ [o1] := fun q => absurd (List.mem_singleton.mp q) (Nat.ne_of_lt (Nat.lt_of_lt_of_le Ef_13.lt zo1))
  have nb1 : fb ∉ [o1] := fun q => absurd (List.mem_singleton.mp q) (Nat.ne_of_lt (Nat.lt_of_lt_of_le Eb_13.lt zo1))
  have g_o1 : n0 ≤ o1 := Nat.le_trans Z_13 zo1
  have Ef_14 := Ef_13.keep K14
  have Eb_14 := Eb_13.keep K14
  have Ft_14 := Ft_13.keep K14 (fun q => nomatch q)
  have Fd_14 := Fd_13.keep K14 (fun q => nomatch q)
  have Fx_14 := Fx_13.keep K14 (fun q => nomatch q)
  have Fb_14 := Fb_13.keep K14 (fun q => nomatch q)
  have Vb_14 := Vb_13.keep K14 (fun q => nomatch q)
  have Z_14 : n0 ≤ T14.heap.size := Nat.le_trans Z_13 K14.1
  have N14 := Fr.app N13 N14q
  obtain ⟨_, _, ⟨T15, L15, k15, n15⟩, -, X15, ⟨Lc15, hQ15, l15, y15, z15⟩, st15⟩ := Jvm.LawKit.callS X14 hx (y := (⟨"com/example/quotewire/quotewire/wire/FrameBinaryPinLaw", "same", "([BII)Z"⟩ : MethodName)) hownw (mvT hZw (hw _ (List.mem_of_getElem? (i := 55) rfl))) (mvT hZw (hw _ (List.mem_of_getElem? (i := 56) rfl))) (mvT hZw (hw _ (List.mem_of_getElem? (i := 48) rfl))) (mvT hZw (hw _ (List.mem_of_getElem? (i := 57) rfl))) (by decide) (backOf (W := 0) (rm7_2 l Z a0 hw [] o1 p3 k7 (.int (0 : Int32)) T14.heap n0 Z_14 Vo1) hZw (hw _ (List.mem_of_getElem? (i := 57) rfl)) (hw _ (List.mem_of_getElem? (i := 48) rfl)) (by decide) (by decide)) (g := (mkF m 118 #[.val (.long q1), .second, .val (.int p2), .val (.int p3), .val (.int p4), .val (.ref w_IN), .val (.int (2 : Int32)), .val (.ref b7), .val (.ref f), .val (.ref o1), .unset, .unset] [(.int p3), (.int (2 : Int32)), (.ref o1)])) rfl (by rw [hml]; rfl) (argsL := [(.ref o1), (.int (2 : Int32)), (.int p3)]) (rest := []) (lenOf pd_0_7 rfl) rfl (by show 2 * 0 + _ ≤ _; exact Nat.le_of_eq rfl) (hb hby at_118) (fun _ _ => ⟨rfl, rfl, (by decide : 6 + 0 ≤ _), (by decide : 56 + 0 ≤ _)⟩)
  dsimp only [Pt.U, Pt.locs, Pt.cells, Pt.slots] at X15 l15 y15 z15 st15 hQ15
  subst l15 y15 z15
  obtain ⟨rfl, N15q, q15⟩ := hQ15
  have K15 : Keep T14.heap T15.heap [] := by rw [q15]; exact Keep.refl _ _
  have Vo1_ := Vo1.keep K15 (fun q => nomatch q)
  have Ef_15 := Ef_14.keep K15
  have Eb_15 := Eb_14.keep K15
  have Ft_15 := Ft_14.keep K15 (fun q => nomatch q)
  have Fd_15 := Fd_14.keep K15 (fun q => nomatch q)
  have Fx_15 := Fx_14.keep K15 (fun q => nomatch q)
  have Fb_15 := Fb_14.keep K15 (fun q => nomatch q)
  have Vb_15 := Vb_14.keep K15 (fun q => nomatch q)
  have Z_15 : n0 ≤ T15.heap.size := Nat.le_trans Z_14 K15.1
  have N15 := Fr.app N14 N15q
  obtain ⟨_, _, ⟨T16, L16, k16, n16⟩, -, X16, ⟨Lc16, hQ16, l16, y16, z16⟩, st16⟩ := Jvm.LawKit.callS X15 hx (y := (⟨"com/example/quotewire/quotewire/wire/FrameBinaryPinLaw", "flip", "([B)V"⟩ : MethodName)) hownw (mvT hZw (hw _ (List.mem_of_getElem? (i := 46) rfl))) (mvT hZw (hw _ (List.mem_of_getElem? (i := 47) rfl))) (mvT hZw (hw _ (List.mem_of_getElem? (i := 48) rfl))) (mvT hZw (hw _ (List.mem_of_getElem? (i := 49) rfl))) (by decide) (backOf (W := 0) (rm5_2 l Z a0 hw [] o1 k7 (atF p3 (0 : Int32)) (atF p3 (1 : Int32)) (.int (0 : Int32)) T15.heap n0 Z_15 Vo1_ g_o1) hZw (hw _ (List.mem_of_getElem? (i := 49) rfl)) (hw _ (List.mem_of_getElem? (i := 48) rfl)) (by decide) (by decide)) (g := (mkF m 125 #[.val (.long q1), .second, .val (.int p2), .val (.int p3), .val (.int p4), .val (.ref w_IN), .val (.int (2 : Int32)), .val (.ref b7), .val (.ref f), .val (.ref o1), .val (.int (1 : Int32)), .unset] [(.ref o1)])) rfl (by rw [hml]; rfl) (argsL := [(.ref o1)]) (rest := []) (lenOf pd_0_5 rfl) rfl (by show 2 * 0 + _ ≤ _; exact Nat.le_of_eq rfl) (hb hby at_125) (fun _ _ => ⟨rfl, rfl, (by decide : 6 + 0 ≤ _), (by decide : 56 + 0 ≤ _)⟩)
  dsimp only [Pt.U, Pt.locs, Pt.cells, Pt.slots] at X16 l16 y16 z16 st16 hQ16
  subst l16 y16 z16
  obtain ⟨rfl, N16q, K16⟩ := hQ16
  have Ef_16 := Ef_15.keep K16
  have Eb_16 := Eb_15.keep K16
  have Ft_16 := Ft_15.keep K16 nf1
  have Fd_16 := Fd_15.keep K16 nf1
  have Fx_16 := Fx_15.keep K16 nf1
  have Fb_16 := Fb_15.keep K16 nf1
  have Vb_16 := Vb_15.keep K16 nb1
  have Z_16 : n0 ≤ T16.heap.size := Nat.le_trans Z_15 K16.1
  have N16 := Fr.app N15 N16q
  obtain ⟨cq17, kq17, q17a, q17b, q17c⟩ := isOf hZw rfl Ef_16
  obtain ⟨_, _, ⟨T17, L17, k17, n17⟩, -, X17, ⟨Lc17, hQ17, l17, y17, z17⟩, st17⟩ := X16.virtualBack hx (y := (⟨"com/example/quotewire/quotewire/wire/Frame", "binary", "()[B"⟩ : MethodName)) (z := (⟨"com/example/quotewire/quotewire/wire/Frame", "binary", "()[B"⟩ : MethodName)) hownw (mvT hZw (hw _ (List.mem_of_getElem? (i := 50) rfl))) (mvT hZw (hw _ (List.mem_of_getElem? (i := 51) rfl))) (notFace_of_selects (args := #[]) (mvT hZw (hw _ (List.mem_of_getElem? (i := 53) rfl)))) (mvT hZw (hw _ (List.mem_of_getElem? (i := 53) rfl))) (mvT hZw (hw _ (List.mem_of_getElem? (i := 52) rfl))) (by decide) (backOf (W := 0) (rm6 l Z a0 hw [] f fb k7 (2 : Int32) [.int (atF p3 0), .int (atF p3 1)] (.int (0 : Int32)) T16.heap n0 Z_16 Fb_16 Eb_16 Vb_16 (by decide)) hZw (hw _ (List.mem_of_getElem? (i := 54) rfl)) (hw _ (List.mem_of_getElem? (i := 6) rfl)) (by decide) (by decide)) q17a q17c (g := (mkF m 130 #[.val (.long q1), .second, .val (.int p2), .val (.int p3), .val (.int p4), .val (.ref w_IN), .val (.int (2 : Int32)), .val (.ref b7), .val (.ref f), .val (.ref o1), .val (.int (1 : Int32)), .unset] [(.ref f)])) rfl (by rw [hml]; rfl) (Steps.refl _) (argsL := []) (rest := []) (lenOf pd_0_6 rfl) rfl (by show 2 * 0 + _ ≤ _; exact Nat.le_of_eq rfl) (hb hby at_130) (fun _ _ => ⟨rfl, rfl, (by decide : 6 + 1 ≤ _), (by decide : 56 + 4 ≤ _)⟩)
  dsimp only [Pt.U, Pt.locs, Pt.cells, Pt.slots] at X17 l17 y17 z17 st17 hQ17
  subst l17 y17 z17
  obtain ⟨N17q, o2, rfl, zo2, K17, Vo2, Eo2⟩ := hQ17
  have Ef_17 := Ef_16.keep K17
  have Eb_17 := Eb_16.keep K17
  have Ft_17 := Ft_16.keep K17 (fun q => nomatch q)
  have Fd_17 := Fd_16.keep K17 (fun q => nomatch q)
  have Fx_17 := Fx_16.keep K17 (fun q => nomatch q)
  have Fb_17 := Fb_16.keep K17 (fun q => nomatch q)
  have Vb_17 := Vb_16.keep K17 (fun q => nomatch q)
  have Z_17 : n0 ≤ T17.heap.size := Nat.le_trans Z_16 K17.1
  have N17 := Fr.app N16 N17q
  obtain ⟨_, _, ⟨T18, L18, k18, n18⟩, -, X18, ⟨Lc18, hQ18, l18, y18, z18⟩, st18⟩ := Jvm.LawKit.callS X17 hx (y := (⟨"com/example/quotewire/quotewire/wire/FrameBinaryPinLaw", "same", "([BII)Z"⟩ : MethodName)) hownw (mvT hZw (hw _ (List.mem_of_getElem? (i := 55) rfl))) (mvT hZw (hw _ (List.mem_of_getElem? (i := 56) rfl))) (mvT hZw (hw _ (List.mem_of_getElem? (i := 48) rfl))) (mvT hZw (hw _ (List.mem_of_getElem? (i := 57) rfl))) (by decide) (backOf (W := 0) (rm7_2 l Z a0 hw [] o2 p3 k7 (.int (0 : Int32)) T17.heap n0 Z_17 Vo2) hZw (hw _ (List.mem_of_getElem? (i := 57) rfl)) (hw _ (List.mem_of_getElem? (i := 48) rfl)) (by decide) (by decide)) (g := (mkF m 145 #[.val (.long q1), .second, .val (.int p2), .val (.int p3), .val (.int p4), .val (.ref w_IN), .val (.int (2 : Int32)), .val (.ref b7), .val (.ref f), .val (.ref o1), .val (.int (1 : Int32)), .val (.ref o2)] [(.int p3), (.int (2 : Int32)), (.ref o2)])) rfl (by rw [hml]; rfl) (argsL := [(.ref o2), (.int (2 : Int32)), (.int p3)]) (rest := []) (lenOf pd_0_7 rfl) rfl (by show 2 * 0 + _ ≤ _; exact Nat.le_of_eq rfl) (hb hby at_145) (fun _ _ => ⟨rfl, rfl, (by decide : 7 + 0 ≤ _), (by decide : 60 + 0 ≤ _)⟩)
  dsimp only [Pt.U, Pt.locs, Pt.cells, Pt.slots] at X18 l18 y18 z18 st18 hQ18
  subst l18 y18 z18
  obtain ⟨rfl, N18q, q18⟩ := hQ18
  have K18 : Keep T17.heap T18.heap [] := by rw [q18]; exact Keep.refl _ _
  have Ef_18 := Ef_17.keep K18
  have Eb_18 := Eb_17.keep K18
  have Ft_18 := Ft_17.keep K18 (fun q => nomatch q)
  have Fd_18 := Fd_17.keep K18 (fun q => nomatch q)
  have Fx_18 := Fx_17.keep K18 (fun q => nomatch q)
  have Fb_18 := Fb_17.keep K18 (fun q => nomatch q)
  have Vb_18 := Vb_17.keep K18 (fun q => nomatch q)
  have Z_18 : n0 ≤ T18.heap.size := Nat.le_trans Z_17 K18.1
  have N18 := Fr.app N17 N18q
  obtain ⟨cq19, kq19, q19a, q19b, q19c⟩ := isOf hZw rfl Ef_18
  obtain ⟨_, _, ⟨T19, L19, k19, n19⟩, -, X19, ⟨Lc19, hQ19, l19, y19, z19⟩, st19⟩ := X18.virtualBack hx (y := (⟨"com/example/quotewire/quotewire/wire/Frame", "time", "()J"⟩ : MethodName)) (z := (⟨"com/example/quotewire/quotewire/wire/Frame", "time", "()J"⟩ : MethodName)) hownw (mvT hZw (hw _ (List.mem_of_getElem? (i := 58) rfl))) (mvT hZw (hw _ (List.mem_of_getElem? (i := 59) rfl))) (notFace_of_selects (args := #[]) (mvT hZw (hw _ (List.mem_of_getElem? (i := 61) rfl)))) (mvT hZw (hw _ (List.mem_of_getElem? (i := 61) rfl))) (mvT hZw (hw _ (List.mem_of_getElem? (i := 60) rfl))) (by decide) (backOf (W := 0) (rm8 l Z a0 hw [] f q1 T18.heap n0 Z_18 Ft_18) hZw (hw _ (List.mem_of_getElem? (i := 62) rfl)) (hw _ (List.mem_of_getElem? (i := 6) rfl)) (by decide) (by decide)) q19a q19c (g := (mkF m 165 #[.val (.long q1), .second, .val (.int p2), .val (.int p3), .val (.int p4), .val (.ref w_IN), .val (.int (2 : Int32)), .val (.ref b7), .val (.ref f), .val (.ref o1), .val (.int (1 : Int32)), .val (.ref o2)] [(.ref f)])) rfl (by rw [hml]; rfl) (Steps.refl _) (argsL := []) (rest := []) (lenOf pd_0_8 rfl) rfl (by show 2 * 0 + _ ≤ _; exact Nat.le_of_eq rfl) (hb hby at_165) (fun _ _ => ⟨rfl, rfl, (by decide : 7 + 0 ≤ _), (by decide : 60 + 0 ≤ _)⟩)
  dsimp only [Pt.U, Pt.locs, Pt.cells, Pt.slots] at X19 l19 y19 z19 st19 hQ19
  subst l19 y19 z19
  obtain ⟨rfl, N19q, q19⟩ := hQ19
  have K19 : Keep T18.heap T19.heap [] := by rw [q19]; exact Keep.refl _ _
  have Ef_19 := Ef_18.keep K19
  have Eb_19 := Eb_18.keep K19
  have Ft_19 := Ft_18.keep K19 (fun q => nomatch q)
  have Fd_19 := Fd_18.keep K19 (fun q => nomatch q)
  have Fx_19 := Fx_18.keep K19 (fun q => nomatch q)
  have Fb_19 := Fb_18.keep K19 (fun q => nomatch q)
  have Vb_19 := Vb_18.keep K19 (fun q => nomatch q)
  have Z_19 : n0 ≤ T19.heap.size := Nat.le_trans Z_18 K19.1
  have N19 := Fr.app N18 N19q
  obtain ⟨cq20, kq20, q20a, q20b, q20c⟩ := isOf hZw rfl Ef_19
  obtain ⟨_, _, ⟨T20, L20, k20, n20⟩, -, X20, ⟨Lc20, hQ20, l20, y20, z20⟩, st20⟩ := X19.virtualBack hx (y := (⟨"com/example/quotewire/quotewire/wire/Frame", "direction", "()Lcom/example/quotewire/quotewire/wire/Frame$Direction;"⟩ : MethodName)) (z := (⟨"com/example/quotewire/quotewire/wire/Frame", "direction", "()Lcom/example/quotewire/quotewire/wire/Frame$Direction;"⟩ : MethodName)) hownw (mvT hZw (hw _ (List.mem_of_getElem? (i := 63) rfl))) (mvT hZw (hw _ (List.mem_of_getElem? (i := 64) rfl))) (notFace_of_selects (args := #[]) (mvT hZw (hw _ (List.mem_of_getElem? (i := 66) rfl)))) (mvT hZw (hw _ (List.mem_of_getElem? (i := 66) rfl))) (mvT hZw (hw _ (List.mem_of_getElem? (i := 65) rfl))) (by decide) (backOf (W := 0) (rm9 l Z a0 hw [] f w_IN T19.heap n0 Z_19 Fd_19) hZw (hw _ (List.mem_of_getElem? (i := 67) rfl)) (hw _ (List.mem_of_getElem? (i := 6) rfl)) (by decide) (by decide)) q20a q20c (g := (mkF m 187 #[.val (.long q1), .second, .val (.int p2), .val (.int p3), .val (.int p4), .val (.ref w_IN), .val (.int (2 : Int32)), .val (.ref b7), .val (.ref f), .val (.ref o1), .val (.int (1 : Int32)), .val (.ref o2)] [(.ref f)])) rfl (by rw [hml]; rfl) (Steps.refl _) (argsL := []) (rest := []) (lenOf pd_0_9 rfl) rfl (by show 2 * 0 + _ ≤ _; exact Nat.le_of_eq rfl) (hb hby at_187) (fun _ _ => ⟨rfl, rfl, (by decide : 7 + 0 ≤ _), (by decide : 60 + 0 ≤ _)⟩)
  dsimp only [Pt.U, Pt.locs, Pt.cells, Pt.slots] at X20 l20 y20 z20 st20 hQ20
  subst l20 y20 z20
  obtain ⟨rfl, N20q, q20⟩ := hQ20
  have K20 : Keep T19.heap T20.heap [] := by rw [q20]; exact Keep.refl _ _
  have Ef_20 := Ef_19.keep K20
  have Eb_20 := Eb_19.keep K20
  have Ft_20 := Ft_19.keep K20 (fun q => nomatch q)
  have Fd_20 := Fd_19.keep K20 (fun q => nomatch q)
  have Fx_20 := Fx_19.keep K20 (fun q => nomatch q)
  have Fb_20 := Fb_19.keep K20 (fun q => nomatch q)
  have Vb_20 := Vb_19.keep K20 (fun q => nomatch q)
  have Z_20 : n0 ≤ T20.heap.size := Nat.le_trans Z_19 K20.1
  have N20 := Fr.app N19 N20q
  obtain ⟨cq21, kq21, q21a, q21b, q21c⟩ := isOf hZw rfl Ef_20
  obtain ⟨_, _, ⟨T21, L21, k21, n21⟩, -, X21, ⟨Lc21, hQ21, l21, y21, z21⟩, st21⟩ := X20.virtualBack hx (y := (⟨"com/example/quotewire/quotewire/wire/Frame", "isText", "()Z"⟩ : MethodName)) (z := (⟨"com/example/quotewire/quotewire/wire/Frame", "isText", "()Z"⟩ : MethodName)) hownw (mvT hZw (hw _ (List.mem_of_getElem? (i := 68) rfl))) (mvT hZw (hw _ (List.mem_of_getElem? (i := 69) rfl))) (notFace_of_selects (args := #[]) (mvT hZw (hw _ (List.mem_of_getElem? (i := 71) rfl)))) (mvT hZw (hw _ (List.mem_of_getElem? (i := 71) rfl))) (mvT hZw (hw _ (List.mem_of_getElem? (i := 70) rfl))) (by decide) (backOf (W := 0) (rm10 l Z a0 hw [] f T20.heap n0 Z_20 Fx_20) hZw (hw _ (List.mem_of_getElem? (i := 72) rfl)) (hw _ (List.mem_of_getElem? (i := 6) rfl)) (by decide) (by decide)) q21a q21c (g := (mkF m 209 #[.val (.long q1), .second, .val (.int p2), .val (.int p3), .val (.int p4), .val (.ref w_IN), .val (.int (2 : Int32)), .val (.ref b7), .val (.ref f), .val (.ref o1), .val (.int (1 : Int32)), .val (.ref o2)] [(.ref f)])) rfl (by rw [hml]; rfl) (Steps.refl _) (argsL := []) (rest := []) (lenOf pd_0_10 rfl) rfl (by show 2 * 0 + _ ≤ _; exact Nat.le_of_eq rfl) (hb hby at_209) (fun _ _ => ⟨rfl, rfl, (by decide : 7 + 0 ≤ _), (by decide : 60 + 0 ≤ _)⟩)
  dsimp only [Pt.U, Pt.locs, Pt.cells, Pt.slots] at X21 l21 y21 z21 st21 hQ21
  subst l21 y21 z21
  obtain ⟨rfl, N21q, q21⟩ := hQ21
  have K21 : Keep T20.heap T21.heap [] := by rw [q21]; exact Keep.refl _ _
  have Ef_21 := Ef_20.keep K21
  have Eb_21 := Eb_20.keep K21
  have Ft_21 := Ft_20.keep K21 (fun q => nomatch q)
  have Fd_21 := Fd_20.keep K21 (fun q => nomatch q)
  have Fx_21 := Fx_20.keep K21 (fun q => nomatch q)
  have Fb_21 := Fb_20.keep K21 (fun q => nomatch q)
  have Vb_21 := Vb_20.keep K21 (fun q => nomatch q)
  have Z_21 : n0 ≤ T21.heap.size := Nat.le_trans Z_20 K21.1
  have N21 := Fr.app N20 N21q
  have grow : T12.heap.size ≤ T21.heap.size := Nat.le_trans (Nat.le_trans (Nat.le_trans (Nat.le_trans (Nat.le_trans (Nat.le_trans (Nat.le_trans (Nat.le_trans K13.1 K14.1) K15.1) K16.1) K17.1) K18.1) K19.1) K20.1) K21.1
  obtain ⟨fs, hr, hrun, hended, hRW⟩ := X21.leaveW S12 grow (v := some (.int (1 : Int32))) (fun h => by rw [Bd.returns] at h; cases h)
  refine ⟨_, _, pre0 _ ?_, hrun, hended, _, _, rfl, ?_, hRW.1, hRW.2.1, hRW.2.2.1, hRW.2.2.2.mono (by decide) (by decide)⟩
  -- 4. STEPS
  · show Steps p.tables e below (s₁.setTop (mkF m 0 #[.val (.long q1), .second, .val (.int p2), .val (.int p3), .val (.int p4), .unset, .unset, .unset, .unset, .unset, .unset, .unset] [])) _
    refine XS.iloadN X0.here hx rfl (hb hby at_0) rfl ?_
    show Steps p.tables e below (s₁.setTop (mkF m 1 #[.val (.long q1), .second, .val (.int p2), .val (.int p3), .val (.int p4), .unset, .unset, .unset, .unset, .unset, .unset, .unset] [(.int p2)])) _
    refine XS.iconst X0.here hx rfl (hb hby at_1) ?_
    show Steps p.tables e below (s₁.setTop (mkF m 2 #[.val (.long q1), .second, .val (.int p2), .val (.int p3), .val (.int p4), .unset, .unset, .unset, .unset, .unset, .unset, .unset] [(.int (1 : Int32)), (.int p2)])) _
    refine XS.iand X0.here hx rfl (hb hby at_2) rfl ?_
    show Steps p.tables e below (s₁.setTop (mkF m 3 #[.val (.long q1), .second, .val (.int p2), .val (.int p3), .val (.int p4), .unset, .unset, .unset, .unset, .unset, .unset, .unset] [(.int (p2 &&& (1 : Int32)))])) _
    refine XS.ifYes X0.here hx rfl (pc0 := 3) (pc' := 12) rfl (hb hby at_3) rfl ((if0 _ _).trans (teq hc3).1) (by decide) (by decide) ?_
    show Steps p.tables e below (s₁.setTop (mkF m 12 #[.val (.long q1), .second, .val (.int p2), .val (.int p3), .val (.int p4), .unset, .unset, .unset, .unset, .unset, .unset, .unset] [])) _
    refine st6 _ ?_
    show Steps p.tables e below (T6.setTop (mkF m 15 #[.val (.long q1), .second, .val (.int p2), .val (.int p3), .val (.int p4), .unset, .unset, .unset, .unset, .unset, .unset, .unset] [(.ref w_IN)])) _
    refine XS.astore X6.here hx rfl (hb hby at_15) rfl rfl (l' := #[.val (.long q1), .second, .val (.int p2), .val (.int p3), .val (.int p4), .val (.ref w_IN), .unset, .unset, .unset, .unset, .unset, .unset]) rfl ?_
    show Steps p.tables e below (T6.setTop (mkF m 17 #[.val (.long q1), .second, .val (.int p2), .val (.int p3), .val (.int p4), .val (.ref w_IN), .unset, .unset, .unset, .unset, .unset, .unset] [])) _
    refine XS.iload X6.here hx rfl (hb hby at_17) rfl ?_
    show Steps p.tables e below (T6.setTop (mkF m 19 #[.val (.long q1), .second, .val (.int p2), .val (.int p3), .val (.int p4), .val (.ref w_IN), .unset, .unset, .unset, .unset, .unset, .unset] [(.int p4)])) _
    refine XS.bipush X6.here hx rfl (hb hby at_19) ?_
    show Steps p.tables e below (T6.setTop (mkF m 21 #[.val (.long q1), .second, .val (.int p2), .val (.int p3), .val (.int p4), .val (.ref w_IN), .unset, .unset, .unset, .unset, .unset, .unset] [(.int (7 : Int32)), (.int p4)])) _
    refine XS.iand X6.here hx rfl (hb hby at_21) rfl ?_
    show Steps p.tables e below (T6.setTop (mkF m 22 #[.val (.long q1), .second, .val (.int p2), .val (.int p3), .val (.int p4), .val (.ref w_IN), .unset, .unset, .unset, .unset, .unset, .unset] [(.int (p4 &&& (7 : Int32)))])) _
    refine XS.iconst X6.here hx rfl (hb hby at_22) ?_
    show Steps p.tables e below (T6.setTop (mkF m 23 #[.val (.long q1), .second, .val (.int p2), .val (.int p3), .val (.int p4), .val (.ref w_IN), .unset, .unset, .unset, .unset, .unset, .unset] [(.int (5 : Int32)), (.int (p4 &&& (7 : Int32)))])) _
    refine iremM X6 hx rfl (hb hby at_23) rfl (by decide) ?_
    rw [hk]
    show Steps p.tables e below (T6.setTop (mkF m 24 #[.val (.long q1), .second, .val (.int p2), .val (.int p3), .val (.int p4), .val (.ref w_IN), .unset, .unset, .unset, .unset, .unset, .unset] [(.int (2 : Int32))])) _
    refine XS.istore X6.here hx rfl (hb hby at_24) rfl (l' := #[.val (.long q1), .second, .val (.int p2), .val (.int p3), .val (.int p4), .val (.ref w_IN), .val (.int (2 : Int32)), .unset, .unset, .unset, .unset, .unset]) rfl ?_
    show Steps p.tables e below (T6.setTop (mkF m 26 #[.val (.long q1), .second, .val (.int p2), .val (.int p3), .val (.int p4), .val (.ref w_IN), .val (.int (2 : Int32)), .unset, .unset, .unset, .unset, .unset] [])) _
    refine XS.iload X6.here hx rfl (hb hby at_26) rfl ?_
    show Steps p.tables e below (T6.setTop (mkF m 28 #[.val (.long q1), .second, .val (.int p2), .val (.int p3), .val (.int p4), .val (.ref w_IN), .val (.int (2 : Int32)), .unset, .unset, .unset, .unset, .unset] [(.int (2 : Int32))])) _
    refine st7 _ ?_
    show Steps p.tables e below (T7.setTop (mkF m 30 #[.val (.long q1), .second, .val (.int p2), .val (.int p3), .val (.int p4), .val (.ref w_IN), .val (.int (2 : Int32)), .unset, .unset, .unset, .unset, .unset] [(.ref b7)])) _
    refine XS.astore X7.here hx rfl (hb hby at_30) rfl rfl (l' := #[.val (.long q1), .second, .val (.int p2), .val (.int p3), .val (.int p4), .val (.ref w_IN), .val (.int (2 : Int32)), .val (.ref b7), .unset, .unset, .unset, .unset]) rfl ?_
    show Steps p.tables e below (T7.setTop (mkF m 32 #[.val (.long q1), .second, .val (.int p2), .val (.int p3), .val (.int p4), .val (.ref w_IN), .val (.int (2 : Int32)), .val (.ref b7), .unset, .unset, .unset, .unset] [])) _
    refine XS.iload X7.here hx rfl (hb hby at_32) rfl ?_
    show Steps p.tables e below (T7.setTop (mkF m 34 #[.val (.long q1), .second, .val (.int p2), .val (.int p3), .val (.int p4), .val (.ref w_IN), .val (.int (2 : Int32)), .val (.ref b7), .unset, .unset, .unset, .unset] [(.int (2 : Int32))])) _
    refine XS.ifNo X7.here hx rfl (hb hby at_34) rfl ((if0 _ _).trans (tlt (by decide)).2.2.2) ?_
    show Steps p.tables e below (T7.setTop (mkF m 37 #[.val (.long q1), .second, .val (.int p2), .val (.int p3), .val (.int p4), .val (.ref w_IN), .val (.int (2 : Int32)), .val (.ref b7), .unset, .unset, .unset, .unset] [])) _
    refine XS.aload X7.here hx rfl (hb hby at_37) rfl rfl ?_
    show Steps p.tables e below (T7.setTop (mkF m 39 #[.val (.long q1), .second, .val (.int p2), .val (.int p3), .val (.int p4), .val (.ref w_IN), .val (.int (2 : Int32)), .val (.ref b7), .unset, .unset, .unset, .unset] [(.ref b7)])) _
    refine XS.iconst X7.here hx rfl (hb hby at_39) ?_
    show Steps p.tables e below (T7.setTop (mkF m 40 #[.val (.long q1), .second, .val (.int p2), .val (.int p3), .val (.int p4), .val (.ref w_IN), .val (.int (2 : Int32)), .val (.ref b7), .unset, .unset, .unset, .unset] [(.int (0 : Int32)), (.ref b7)])) _
    refine XS.iloadN X7.here hx rfl (hb hby at_40) rfl ?_
    show Steps p.tables e below (T7.setTop (mkF m 41 #[.val (.long q1), .second, .val (.int p2), .val (.int p3), .val (.int p4), .val (.ref w_IN), .val (.int (2 : Int32)), .val (.ref b7), .unset, .unset, .unset, .unset] [(.int p3), (.int (0 : Int32)), (.ref b7)])) _
    refine XS.iconst X7.here hx rfl (hb hby at_41) ?_
    show Steps p.tables e below (T7.setTop (mkF m 42 #[.val (.long q1), .second, .val (.int p2), .val (.int p3), .val (.int p4), .val (.ref w_IN), .val (.int (2 : Int32)), .val (.ref b7), .unset, .unset, .unset, .unset] [(.int (0 : Int32)), (.int p3), (.int (0 : Int32)), (.ref b7)])) _
    refine st8 _ ?_
    show Steps p.tables e below (T8.setTop (mkF m 45 #[.val (.long q1), .second, .val (.int p2), .val (.int p3), .val (.int p4), .val (.ref w_IN), .val (.int (2 : Int32)), .val (.ref b7), .unset, .unset, .unset, .unset] [(.int (atF p3 (0 : Int32))), (.int (0 : Int32)), (.ref b7)])) _
    refine st9 _ ?_
    show Steps p.tables e below (T9.setTop (mkF m 46 #[.val (.long q1), .second, .val (.int p2), .val (.int p3), .val (.int p4), .val (.ref w_IN), .val (.int (2 : Int32)), .val (.ref b7), .unset, .unset, .unset, .unset] [])) _
    refine XS.iload X9.here hx rfl (hb hby at_46) rfl ?_
    show Steps p.tables e below (T9.setTop (mkF m 48 #[.val (.long q1), .second, .val (.int p2), .val (.int p3), .val (.int p4), .val (.ref w_IN), .val (.int (2 : Int32)), .val (.ref b7), .unset, .unset, .unset, .unset] [(.int (2 : Int32))])) _
    refine XS.iconst X9.here hx rfl (hb hby at_48) ?_
    show Steps p.tables e below (T9.setTop (mkF m 49 #[.val (.long q1), .second, .val (.int p2), .val (.int p3), .val (.int p4), .val (.ref w_IN), .val (.int (2 : Int32)), .val (.ref b7), .unset, .unset, .unset, .unset] [(.int (1 : Int32)), (.int (2 : Int32))])) _
    refine XS.icmpNo X9.here hx rfl (hb hby at_49) rfl (tlt (by decide)).2.2.2 ?_
    show Steps p.tables e below (T9.setTop (mkF m 52 #[.val (.long q1), .second, .val (.int p2), .val (.int p3), .val (.int p4), .val (.ref w_IN), .val (.int (2 : Int32)), .val (.ref b7), .unset, .unset, .unset, .unset] [])) _
    refine XS.aload X9.here hx rfl (hb hby at_52) rfl rfl ?_
    show Steps p.tables e below (T9.setTop (mkF m 54 #[.val (.long q1), .second, .val (.int p2), .val (.int p3), .val (.int p4), .val (.ref w_IN), .val (.int (2 : Int32)), .val (.ref b7), .unset, .unset, .unset, .unset] [(.ref b7)])) _
    refine XS.iconst X9.here hx rfl (hb hby at_54) ?_
    show Steps p.tables e below (T9.setTop (mkF m 55 #[.val (.long q1), .second, .val (.int p2), .val (.int p3), .val (.int p4), .val (.ref w_IN), .val (.int (2 : Int32)), .val (.ref b7), .unset, .unset, .unset, .unset] [(.int (1 : Int32)), (.ref b7)])) _
    refine XS.iloadN X9.here hx rfl (hb hby at_55) rfl ?_
    show Steps p.tables e below (T9.setTop (mkF m 56 #[.val (.long q1), .second, .val (.int p2), .val (.int p3), .val (.int p4), .val (.ref w_IN), .val (.int (2 : Int32)), .val (.ref b7), .unset, .unset, .unset, .unset] [(.int p3), (.int (1 : Int32)), (.ref b7)])) _
    refine XS.iconst X9.here hx rfl (hb hby at_56) ?_
    show Steps p.tables e below (T9.setTop (mkF m 57 #[.val (.long q1), .second, .val (.int p2), .val (.int p3), .val (.int p4), .val (.ref w_IN), .val (.int (2 : Int32)), .val (.ref b7), .unset, .unset, .unset, .unset] [(.int (1 : Int32)), (.int p3), (.int (1 : Int32)), (.ref b7)])) _
    refine st10 _ ?_
    show Steps p.tables e below (T10.setTop (mkF m 60 #[.val (.long q1), .second, .val (.int p2), .val (.int p3), .val (.int p4), .val (.ref w_IN), .val (.int (2 : Int32)), .val (.ref b7), .unset, .unset, .unset, .unset] [(.int (atF p3 (1 : Int32))), (.int (1 : Int32)), (.ref b7)])) _
    refine st11 _ ?_
    show Steps p.tables e below (T11.setTop (mkF m 61 #[.val (.long q1), .second, .val (.int p2), .val (.int p3), .val (.int p4), .val (.ref w_IN), .val (.int (2 : Int32)), .val (.ref b7), .unset, .unset, .unset, .unset] [])) _
    refine XS.iload X11.here hx rfl (hb hby at_61) rfl ?_
    show Steps p.tables e below (T11.setTop (mkF m 63 #[.val (.long q1), .second, .val (.int p2), .val (.int p3), .val (.int p4), .val (.ref w_IN), .val (.int (2 : Int32)), .val (.ref b7), .unset, .unset, .unset, .unset] [(.int (2 : Int32))])) _
    refine XS.iconst X11.here hx rfl (hb hby at_63) ?_
    show Steps p.tables e below (T11.setTop (mkF m 64 #[.val (.long q1), .second, .val (.int p2), .val (.int p3), .val (.int p4), .val (.ref w_IN), .val (.int (2 : Int32)), .val (.ref b7), .unset, .unset, .unset, .unset] [(.int (2 : Int32)), (.int (2 : Int32))])) _
    refine XS.icmpYes X11.here hx rfl (pc0 := 64) (pc' := 76) rfl (hb hby at_64) rfl (flt (by decide)).2.2.2 (by decide) (by decide) ?_
    show Steps p.tables e below (T11.setTop (mkF m 76 #[.val (.long q1), .second, .val (.int p2), .val (.int p3), .val (.int p4), .val (.ref w_IN), .val (.int (2 : Int32)), .val (.ref b7), .unset, .unset, .unset, .unset] [])) _
    refine XS.iload X11.here hx rfl (hb hby at_76) rfl ?_
    show Steps p.tables e below (T11.setTop (mkF m 78 #[.val (.long q1), .second, .val (.int p2), .val (.int p3), .val (.int p4), .val (.ref w_IN), .val (.int (2 : Int32)), .val (.ref b7), .unset, .unset, .unset, .unset] [(.int (2 : Int32))])) _
    refine XS.iconst X11.here hx rfl (hb hby at_78) ?_
    show Steps p.tables e below (T11.setTop (mkF m 79 #[.val (.long q1), .second, .val (.int p2), .val (.int p3), .val (.int p4), .val (.ref w_IN), .val (.int (2 : Int32)), .val (.ref b7), .unset, .unset, .unset, .unset] [(.int (3 : Int32)), (.int (2 : Int32))])) _
    refine XS.icmpYes X11.here hx rfl (pc0 := 79) (pc' := 91) rfl (hb hby at_79) rfl (flt (by decide)).2.2.2 (by decide) (by decide) ?_
    show Steps p.tables e below (T11.setTop (mkF m 91 #[.val (.long q1), .second, .val (.int p2), .val (.int p3), .val (.int p4), .val (.ref w_IN), .val (.int (2 : Int32)), .val (.ref b7), .unset, .unset, .unset, .unset] [])) _
    refine XS.lloadN X11.here hx rfl (hb hby at_91) rfl ?_
    show Steps p.tables e below (T11.setTop (mkF m 92 #[.val (.long q1), .second, .val (.int p2), .val (.int p3), .val (.int p4), .val (.ref w_IN), .val (.int (2 : Int32)), .val (.ref b7), .unset, .unset, .unset, .unset] [(.long q1)])) _
    refine XS.aload X11.here hx rfl (hb hby at_92) rfl rfl ?_
    show Steps p.tables e below (T11.setTop (mkF m 94 #[.val (.long q1), .second, .val (.int p2), .val (.int p3), .val (.int p4), .val (.ref w_IN), .val (.int (2 : Int32)), .val (.ref b7), .unset, .unset, .unset, .unset] [(.ref w_IN), (.long q1)])) _
    refine XS.aload X11.here hx rfl (hb hby at_94) rfl rfl ?_
    show Steps p.tables e below (T11.setTop (mkF m 96 #[.val (.long q1), .second, .val (.int p2), .val (.int p3), .val (.int p4), .val (.ref w_IN), .val (.int (2 : Int32)), .val (.ref b7), .unset, .unset, .unset, .unset] [(.ref b7), (.ref w_IN), (.long q1)])) _
    refine st12.trans ?_
    show Steps p.tables e below (T12.setTop (mkF m 99 #[.val (.long q1), .second, .val (.int p2), .val (.int p3), .val (.int p4), .val (.ref w_IN), .val (.int (2 : Int32)), .val (.ref b7), .unset, .unset, .unset, .unset] [(.ref f)])) _
    refine XS.astore X12.here hx rfl (hb hby at_99) rfl rfl (l' := #[.val (.long q1), .second, .val (.int p2), .val (.int p3), .val (.int p4), .val (.ref w_IN), .val (.int (2 : Int32)), .val (.ref b7), .val (.ref f), .unset, .unset, .unset]) rfl ?_
    show Steps p.tables e below (T12.setTop (mkF m 101 #[.val (.long q1), .second, .val (.int p2), .val (.int p3), .val (.int p4), .val (.ref w_IN), .val (.int (2 : Int32)), .val (.ref b7), .val (.ref f), .unset, .unset, .unset] [])) _
    refine XS.aload X12.here hx rfl (hb hby at_101) rfl rfl ?_
    show Steps p.tables e below (T12.setTop (mkF m 103 #[.val (.long q1), .second, .val (.int p2), .val (.int p3), .val (.int p4), .val (.ref w_IN), .val (.int (2 : Int32)), .val (.ref b7), .val (.ref f), .unset, .unset, .unset] [(.ref b7)])) _
    refine st13 _ ?_
    show Steps p.tables e below (T13.setTop (mkF m 106 #[.val (.long q1), .second, .val (.int p2), .val (.int p3), .val (.int p4), .val (.ref w_IN), .val (.int (2 : Int32)), .val (.ref b7), .val (.ref f), .unset, .unset, .unset] [])) _
    refine XS.aload X13.here hx rfl (hb hby at_106) rfl rfl ?_
    show Steps p.tables e below (T13.setTop (mkF m 108 #[.val (.long q1), .second, .val (.int p2), .val (.int p3), .val (.int p4), .val (.ref w_IN), .val (.int (2 : Int32)), .val (.ref b7), .val (.ref f), .unset, .unset, .unset] [(.ref f)])) _
    refine st14.trans ?_
    show Steps p.tables e below (T14.setTop (mkF m 111 #[.val (.long q1), .second, .val (.int p2), .val (.int p3), .val (.int p4), .val (.ref w_IN), .val (.int (2 : Int32)), .val (.ref b7), .val (.ref f), .unset, .unset, .unset] [(.ref o1)])) _
    refine XS.astore X14.here hx rfl (hb hby at_111) rfl rfl (l' := #[.val (.long q1), .second, .val (.int p2), .val (.int p3), .val (.int p4), .val (.ref w_IN), .val (.int (2 : Int32)), .val (.ref b7), .val (.ref f), .val (.ref o1), .unset, .unset]) rfl ?_
    show Steps p.tables e below (T14.setTop (mkF m 113 #[.val (.long q1), .second, .val (.int p2), .val (.int p3), .val (.int p4), .val (.ref w_IN), .val (.int (2 : Int32)), .val (.ref b7), .val (.ref f), .val (.ref o1), .unset, .unset] [])) _
    refine XS.aload X14.here hx rfl (hb hby at_113) rfl rfl ?_
    show Steps p.tables e below (T14.setTop (mkF m 115 #[.val (.long q1), .second, .val (.int p2), .val (.int p3), .val (.int p4), .val (.ref w_IN), .val (.int (2 : Int32)), .val (.ref b7), .val (.ref f), .val (.ref o1), .unset, .unset] [(.ref o1)])) _
    refine XS.iload X14.here hx rfl (hb hby at_115) rfl ?_
    show Steps p.tables e below (T14.setTop (mkF m 117 #[.val (.long q1), .second, .val (.int p2), .val (.int p3), .val (.int p4), .val (.ref w_IN), .val (.int (2 : Int32)), .val (.ref b7), .val (.ref f), .val (.ref o1), .unset, .unset] [(.int (2 : Int32)), (.ref o1)])) _
    refine XS.iloadN X14.here hx rfl (hb hby at_117) rfl ?_
    show Steps p.tables e below (T14.setTop (mkF m 118 #[.val (.long q1), .second, .val (.int p2), .val (.int p3), .val (.int p4), .val (.ref w_IN), .val (.int (2 : Int32)), .val (.ref b7), .val (.ref f), .val (.ref o1), .unset, .unset] [(.int p3), (.int (2 : Int32)), (.ref o1)])) _
    refine st15 _ ?_
    show Steps p.tables e below (T15.setTop (mkF m 121 #[.val (.long q1), .second, .val (.int p2), .val (.int p3), .val (.int p4), .val (.ref w_IN), .val (.int (2 : Int32)), .val (.ref b7), .val (.ref f), .val (.ref o1), .unset, .unset] [(.int (1 : Int32))])) _
    refine XS.istore X15.here hx rfl (hb hby at_121) rfl (l' := #[.val (.long q1), .second, .val (.int p2), .val (.int p3), .val (.int p4), .val (.ref w_IN), .val (.int (2 : Int32)), .val (.ref b7), .val (.ref f), .val (.ref o1), .val (.int (1 : Int32)), .unset]) rfl ?_
    show Steps p.tables e below (T15.setTop (mkF m 123 #[.val (.long q1), .second, .val (.int p2), .val (.int p3), .val (.int p4), .val (.ref w_IN), .val (.int (2 : Int32)), .val (.ref b7), .val (.ref f), .val (.ref o1), .val (.int (1 : Int32)), .unset] [])) _
    refine XS.aload X15.here hx rfl (hb hby at_123) rfl rfl ?_
    show Steps p.tables e below (T15.setTop (mkF m 125 #[.val (.long q1), .second, .val (.int p2), .val (.int p3), .val (.int p4), .val (.ref w_IN), .val (.int (2 : Int32)), .val (.ref b7), .val (.ref f), .val (.ref o1), .val (.int (1 : Int32)), .unset] [(.ref o1)])) _
    refine st16 _ ?_
    show Steps p.tables e below (T16.setTop (mkF m 128 #[.val (.long q1), .second, .val (.int p2), .val (.int p3), .val (.int p4), .val (.ref w_IN), .val (.int (2 : Int32)), .val (.ref b7), .val (.ref f), .val (.ref o1), .val (.int (1 : Int32)), .unset] [])) _
    refine XS.aload X16.here hx rfl (hb hby at_128) rfl rfl ?_
    show Steps p.tables e below (T16.setTop (mkF m 130 #[.val (.long q1), .second, .val (.int p2), .val (.int p3), .val (.int p4), .val (.ref w_IN), .val (.int (2 : Int32)), .val (.ref b7), .val (.ref f), .val (.ref o1), .val (.int (1 : Int32)), .unset] [(.ref f)])) _
    refine st17.trans ?_
    show Steps p.tables e below (T17.setTop (mkF m 133 #[.val (.long q1), .second, .val (.int p2), .val (.int p3), .val (.int p4), .val (.ref w_IN), .val (.int (2 : Int32)), .val (.ref b7), .val (.ref f), .val (.ref o1), .val (.int (1 : Int32)), .unset] [(.ref o2)])) _
    refine XS.astore X17.here hx rfl (hb hby at_133) rfl rfl (l' := #[.val (.long q1), .second, .val (.int p2), .val (.int p3), .val (.int p4), .val (.ref w_IN), .val (.int (2 : Int32)), .val (.ref b7), .val (.ref f), .val (.ref o1), .val (.int (1 : Int32)), .val (.ref o2)]) rfl ?_
    show Steps p.tables e below (T17.setTop (mkF m 135 #[.val (.long q1), .second, .val (.int p2), .val (.int p3), .val (.int p4), .val (.ref w_IN), .val (.int (2 : Int32)), .val (.ref b7), .val (.ref f), .val (.ref o1), .val (.int (1 : Int32)), .val (.ref o2)] [])) _
    refine XS.iload X17.here hx rfl (hb hby at_135) rfl ?_
    show Steps p.tables e below (T17.setTop (mkF m 137 #[.val (.long q1), .second, .val (.int p2), .val (.int p3), .val (.int p4), .val (.ref w_IN), .val (.int (2 : Int32)), .val (.ref b7), .val (.ref f), .val (.ref o1), .val (.int (1 : Int32)), .val (.ref o2)] [(.int (1 : Int32))])) _
    refine XS.ifNo X17.here hx rfl (hb hby at_137) rfl ((if0 _ _).trans (feq (by decide)).1) ?_
    show Steps p.tables e below (T17.setTop (mkF m 140 #[.val (.long q1), .second, .val (.int p2), .val (.int p3), .val (.int p4), .val (.ref w_IN), .val (.int (2 : Int32)), .val (.ref b7), .val (.ref f), .val (.ref o1), .val (.int (1 : Int32)), .val (.ref o2)] [])) _
    refine XS.aload X17.here hx rfl (hb hby at_140) rfl rfl ?_
    show Steps p.tables e below (T17.setTop (mkF m 142 #[.val (.long q1), .second, .val (.int p2), .val (.int p3), .val (.int p4), .val (.ref w_IN), .val (.int (2 : Int32)), .val (.ref b7), .val (.ref f), .val (.ref o1), .val (.int (1 : Int32)), .val (.ref o2)] [(.ref o2)])) _
    refine XS.iload X17.here hx rfl (hb hby at_142) rfl ?_
    show Steps p.tables e below (T17.setTop (mkF m 144 #[.val (.long q1), .second, .val (.int p2), .val (.int p3), .val (.int p4), .val (.ref w_IN), .val (.int (2 : Int32)), .val (.ref b7), .val (.ref f), .val (.ref o1), .val (.int (1 : Int32)), .val (.ref o2)] [(.int (2 : Int32)), (.ref o2)])) _
    refine XS.iloadN X17.here hx rfl (hb hby at_144) rfl ?_
    show Steps p.tables e below (T17.setTop (mkF m 145 #[.val (.long q1), .second, .val (.int p2), .val (.int p3), .val (.int p4), .val (.ref w_IN), .val (.int (2 : Int32)), .val (.ref b7), .val (.ref f), .val (.ref o1), .val (.int (1 : Int32)), .val (.ref o2)] [(.int p3), (.int (2 : Int32)), (.ref o2)])) _
    refine st18 _ ?_
    show Steps p.tables e below (T18.setTop (mkF m 148 #[.val (.long q1), .second, .val (.int p2), .val (.int p3), .val (.int p4), .val (.ref w_IN), .val (.int (2 : Int32)), .val (.ref b7), .val (.ref f), .val (.ref o1), .val (.int (1 : Int32)), .val (.ref o2)] [(.int (1 : Int32))])) _
    refine XS.ifNo X18.here hx rfl (hb hby at_148) rfl ((if0 _ _).trans (feq (by decide)).1) ?_
    show Steps p.tables e below (T18.setTop (mkF m 151 #[.val (.long q1), .second, .val (.int p2), .val (.int p3), .val (.int p4), .val (.ref w_IN), .val (.int (2 : Int32)), .val (.ref b7), .val (.ref f), .val (.ref o1), .val (.int (1 : Int32)), .val (.ref o2)] [])) _
    refine XS.iconst X18.here hx rfl (hb hby at_151) ?_
    show Steps p.tables e below (T18.setTop (mkF m 152 #[.val (.long q1), .second, .val (.int p2), .val (.int p3), .val (.int p4), .val (.ref w_IN), .val (.int (2 : Int32)), .val (.ref b7), .val (.ref f), .val (.ref o1), .val (.int (1 : Int32)), .val (.ref o2)] [(.int (1 : Int32))])) _
    refine XS.goto X18.here hx rfl (pc0 := 152) (pc' := 156) rfl (hb hby at_152) (by decide) (by decide) ?_
    show Steps p.tables e below (T18.setTop (mkF m 156 #[.val (.long q1), .second, .val (.int p2), .val (.int p3), .val (.int p4), .val (.ref w_IN), .val (.int (2 : Int32)), .val (.ref b7), .val (.ref f), .val (.ref o1), .val (.int (1 : Int32)), .val (.ref o2)] [(.int (1 : Int32))])) _
    refine XS.istore X18.here hx rfl (hb hby at_156) rfl (l' := #[.val (.long q1), .second, .val (.int p2), .val (.int p3), .val (.int p4), .val (.ref w_IN), .val (.int (2 : Int32)), .val (.ref b7), .val (.ref f), .val (.ref o1), .val (.int (1 : Int32)), .val (.ref o2)]) rfl ?_
    show Steps p.tables e below (T18.setTop (mkF m 158 #[.val (.long q1), .second, .val (.int p2), .val (.int p3), .val (.int p4), .val (.ref w_IN), .val (.int (2 : Int32)), .val (.ref b7), .val (.ref f), .val (.ref o1), .val (.int (1 : Int32)), .val (.ref o2)] [])) _
    refine XS.iload X18.here hx rfl (hb hby at_158) rfl ?_
    show Steps p.tables e below (T18.setTop (mkF m 160 #[.val (.long q1), .second, .val (.int p2), .val (.int p3), .val (.int p4), .val (.ref w_IN), .val (.int (2 : Int32)), .val (.ref b7), .val (.ref f), .val (.ref o1), .val (.int (1 : Int32)), .val (.ref o2)] [(.int (1 : Int32))])) _
    refine XS.ifNo X18.here hx rfl (hb hby at_160) rfl ((if0 _ _).trans (feq (by decide)).1) ?_
    show Steps p.tables e below (T18.setTop (mkF m 163 #[.val (.long q1), .second, .val (.int p2), .val (.int p3), .val (.int p4), .val (.ref w_IN), .val (.int (2 : Int32)), .val (.ref b7), .val (.ref f), .val (.ref o1), .val (.int (1 : Int32)), .val (.ref o2)] [])) _
    refine XS.aload X18.here hx rfl (hb hby at_163) rfl rfl ?_
    show Steps p.tables e below (T18.setTop (mkF m 165 #[.val (.long q1), .second, .val (.int p2), .val (.int p3), .val (.int p4), .val (.ref w_IN), .val (.int (2 : Int32)), .val (.ref b7), .val (.ref f), .val (.ref o1), .val (.int (1 : Int32)), .val (.ref o2)] [(.ref f)])) _
    refine st19.trans ?_
    show Steps p.tables e below (T19.setTop (mkF m 168 #[.val (.long q1), .second, .val (.int p2), .val (.int p3), .val (.int p4), .val (.ref w_IN), .val (.int (2 : Int32)), .val (.ref b7), .val (.ref f), .val (.ref o1), .val (.int (1 : Int32)), .val (.ref o2)] [(.long q1)])) _
    refine XS.lloadN X19.here hx rfl (hb hby at_168) rfl ?_
    show Steps p.tables e below (T19.setTop (mkF m 169 #[.val (.long q1), .second, .val (.int p2), .val (.int p3), .val (.int p4), .val (.ref w_IN), .val (.int (2 : Int32)), .val (.ref b7), .val (.ref f), .val (.ref o1), .val (.int (1 : Int32)), .val (.ref o2)] [(.long q1), (.long q1)])) _
    refine XS.lcmp X19.here hx rfl (hb hby at_169) rfl ?_
    show Steps p.tables e below (T19.setTop (mkF m 170 #[.val (.long q1), .second, .val (.int p2), .val (.int p3), .val (.int p4), .val (.ref w_IN), .val (.int (2 : Int32)), .val (.ref b7), .val (.ref f), .val (.ref o1), .val (.int (1 : Int32)), .val (.ref o2)] [(.int (lcmpW q1 q1))])) _
    refine XS.ifNo X19.here hx rfl (hb hby at_170) rfl ((if0 _ _).trans (teq ((lw_eq q1 q1).mpr rfl)).2) ?_
    show Steps p.tables e below (T19.setTop (mkF m 173 #[.val (.long q1), .second, .val (.int p2), .val (.int p3), .val (.int p4), .val (.ref w_IN), .val (.int (2 : Int32)), .val (.ref b7), .val (.ref f), .val (.ref o1), .val (.int (1 : Int32)), .val (.ref o2)] [])) _
    refine XS.iconst X19.here hx rfl (hb hby at_173) ?_
    show Steps p.tables e below (T19.setTop (mkF m 174 #[.val (.long q1), .second, .val (.int p2), .val (.int p3), .val (.int p4), .val (.ref w_IN), .val (.int (2 : Int32)), .val (.ref b7), .val (.ref f), .val (.ref o1), .val (.int (1 : Int32)), .val (.ref o2)] [(.int (1 : Int32))])) _
    refine XS.goto X19.here hx rfl (pc0 := 174) (pc' := 178) rfl (hb hby at_174) (by decide) (by decide) ?_
    show Steps p.tables e below (T19.setTop (mkF m 178 #[.val (.long q1), .second, .val (.int p2), .val (.int p3), .val (.int p4), .val (.ref w_IN), .val (.int (2 : Int32)), .val (.ref b7), .val (.ref f), .val (.ref o1), .val (.int (1 : Int32)), .val (.ref o2)] [(.int (1 : Int32))])) _
    refine XS.istore X19.here hx rfl (hb hby at_178) rfl (l' := #[.val (.long q1), .second, .val (.int p2), .val (.int p3), .val (.int p4), .val (.ref w_IN), .val (.int (2 : Int32)), .val (.ref b7), .val (.ref f), .val (.ref o1), .val (.int (1 : Int32)), .val (.ref o2)]) rfl ?_
    show Steps p.tables e below (T19.setTop (mkF m 180 #[.val (.long q1), .second, .val (.int p2), .val (.int p3), .val (.int p4), .val (.ref w_IN), .val (.int (2 : Int32)), .val (.ref b7), .val (.ref f), .val (.ref o1), .val (.int (1 : Int32)), .val (.ref o2)] [])) _
    refine XS.iload X19.here hx rfl (hb hby at_180) rfl ?_
    show Steps p.tables e below (T19.setTop (mkF m 182 #[.val (.long q1), .second, .val (.int p2), .val (.int p3), .val (.int p4), .val (.ref w_IN), .val (.int (2 : Int32)), .val (.ref b7), .val (.ref f), .val (.ref o1), .val (.int (1 : Int32)), .val (.ref o2)] [(.int (1 : Int32))])) _
    refine XS.ifNo X19.here hx rfl (hb hby at_182) rfl ((if0 _ _).trans (feq (by decide)).1) ?_
    show Steps p.tables e below (T19.setTop (mkF m 185 #[.val (.long q1), .second, .val (.int p2), .val (.int p3), .val (.int p4), .val (.ref w_IN), .val (.int (2 : Int32)), .val (.ref b7), .val (.ref f), .val (.ref o1), .val (.int (1 : Int32)), .val (.ref o2)] [])) _
    refine XS.aload X19.here hx rfl (hb hby at_185) rfl rfl ?_
    show Steps p.tables e below (T19.setTop (mkF m 187 #[.val (.long q1), .second, .val (.int p2), .val (.int p3), .val (.int p4), .val (.ref w_IN), .val (.int (2 : Int32)), .val (.ref b7), .val (.ref f), .val (.ref o1), .val (.int (1 : Int32)), .val (.ref o2)] [(.ref f)])) _
    refine st20.trans ?_
    show Steps p.tables e below (T20.setTop (mkF m 190 #[.val (.long q1), .second, .val (.int p2), .val (.int p3), .val (.int p4), .val (.ref w_IN), .val (.int (2 : Int32)), .val (.ref b7), .val (.ref f), .val (.ref o1), .val (.int (1 : Int32)), .val (.ref o2)] [(.ref w_IN)])) _
    refine XS.aload X20.here hx rfl (hb hby at_190) rfl rfl ?_
    show Steps p.tables e below (T20.setTop (mkF m 192 #[.val (.long q1), .second, .val (.int p2), .val (.int p3), .val (.int p4), .val (.ref w_IN), .val (.int (2 : Int32)), .val (.ref b7), .val (.ref f), .val (.ref o1), .val (.int (1 : Int32)), .val (.ref o2)] [(.ref w_IN), (.ref w_IN)])) _
    refine Jvm.RoadKit.acmp (g := (mkF m 192 #[.val (.long q1), .second, .val (.int p2), .val (.int p3), .val (.int p4), .val (.ref w_IN), .val (.int (2 : Int32)), .val (.ref b7), .val (.ref f), .val (.ref o1), .val (.int (1 : Int32)), .val (.ref o2)] [(.ref w_IN), (.ref w_IN)])) X20 hx rfl rfl rfl (pc0 := 192) (pc' := 195) (same := true) rfl (hb hby at_192) rfl (decide_eq_true rfl) (by decide) (by decide) ?_
    show Steps p.tables e below (T20.setTop (mkF m 195 #[.val (.long q1), .second, .val (.int p2), .val (.int p3), .val (.int p4), .val (.ref w_IN), .val (.int (2 : Int32)), .val (.ref b7), .val (.ref f), .val (.ref o1), .val (.int (1 : Int32)), .val (.ref o2)] [])) _
    refine XS.iconst X20.here hx rfl (hb hby at_195) ?_
    show Steps p.tables e below (T20.setTop (mkF m 196 #[.val (.long q1), .second, .val (.int p2), .val (.int p3), .val (.int p4), .val (.ref w_IN), .val (.int (2 : Int32)), .val (.ref b7), .val (.ref f), .val (.ref o1), .val (.int (1 : Int32)), .val (.ref o2)] [(.int (1 : Int32))])) _
    refine XS.goto X20.here hx rfl (pc0 := 196) (pc' := 200) rfl (hb hby at_196) (by decide) (by decide) ?_
    show Steps p.tables e below (T20.setTop (mkF m 200 #[.val (.long q1), .second, .val (.int p2), .val (.int p3), .val (.int p4), .val (.ref w_IN), .val (.int (2 : Int32)), .val (.ref b7), .val (.ref f), .val (.ref o1), .val (.int (1 : Int32)), .val (.ref o2)] [(.int (1 : Int32))])) _
    refine XS.istore X20.here hx rfl (hb hby at_200) rfl (l' := #[.val (.long q1), .second, .val (.int p2), .val (.int p3), .val (.int p4), .val (.ref w_IN), .val (.int (2 : Int32)), .val (.ref b7), .val (.ref f), .val (.ref o1), .val (.int (1 : Int32)), .val (.ref o2)]) rfl ?_
    show Steps p.tables e below (T20.setTop (mkF m 202 #[.val (.long q1), .second, .val (.int p2), .val (.int p3), .val (.int p4), .val (.ref w_IN), .val (.int (2 : Int32)), .val (.ref b7), .val (.ref f), .val (.ref o1), .val (.int (1 : Int32)), .val (.ref o2)] [])) _
    refine XS.iload X20.here hx rfl (hb hby at_202) rfl ?_
    show Steps p.tables e below (T20.setTop (mkF m 204 #[.val (.long q1), .second, .val (.int p2), .val (.int p3), .val (.int p4), .val (.ref w_IN), .val (.int (2 : Int32)), .val (.ref b7), .val (.ref f), .val (.ref o1), .val (.int (1 : Int32)), .val (.ref o2)] [(.int (1 : Int32))])) _
    refine XS.ifNo X20.here hx rfl (hb hby at_204) rfl ((if0 _ _).trans (feq (by decide)).1) ?_
    show Steps p.tables e below (T20.setTop (mkF m 207 #[.val (.long q1), .second, .val (.int p2), .val (.int p3), .val (.int p4), .val (.ref w_IN), .val (.int (2 : Int32)), .val (.ref b7), .val (.ref f), .val (.ref o1), .val (.int (1 : Int32)), .val (.ref o2)] [])) _
    refine XS.aload X20.here hx rfl (hb hby at_207) rfl rfl ?_
    show Steps p.tables e below (T20.setTop (mkF m 209 #[.val (.long q1), .second, .val (.int p2), .val (.int p3), .val (.int p4), .val (.ref w_IN), .val (.int (2 : Int32)), .val (.ref b7), .val (.ref f), .val (.ref o1), .val (.int (1 : Int32)), .val (.ref o2)] [(.ref f)])) _
    refine st21.trans ?_
    show Steps p.tables e below (T21.setTop (mkF m 212 #[.val (.long q1), .second, .val (.int p2), .val (.int p3), .val (.int p4), .val (.ref w_IN), .val (.int (2 : Int32)), .val (.ref b7), .val (.ref f), .val (.ref o1), .val (.int (1 : Int32)), .val (.ref o2)] [(.int (0 : Int32))])) _
    refine XS.ifNo X21.here hx rfl (hb hby at_212) rfl ((if0 _ _).trans (teq (by decide)).2) ?_
    show Steps p.tables e below (T21.setTop (mkF m 215 #[.val (.long q1), .second, .val (.int p2), .val (.int p3), .val (.int p4), .val (.ref w_IN), .val (.int (2 : Int32)), .val (.ref b7), .val (.ref f), .val (.ref o1), .val (.int (1 : Int32)), .val (.ref o2)] [])) _
    refine XS.iconst X21.here hx rfl (hb hby at_215) ?_
    show Steps p.tables e below (T21.setTop (mkF m 216 #[.val (.long q1), .second, .val (.int p2), .val (.int p3), .val (.int p4), .val (.ref w_IN), .val (.int (2 : Int32)), .val (.ref b7), .val (.ref f), .val (.ref o1), .val (.int (1 : Int32)), .val (.ref o2)] [(.int (1 : Int32))])) _
    refine XS.goto X21.here hx rfl (pc0 := 216) (pc' := 220) rfl (hb hby at_216) (by decide) (by decide) ?_
    show Steps p.tables e below (T21.setTop (mkF m 220 #[.val (.long q1), .second, .val (.int p2), .val (.int p3), .val (.int p4), .val (.ref w_IN), .val (.int (2 : Int32)), .val (.ref b7), .val (.ref f), .val (.ref o1), .val (.int (1 : Int32)), .val (.ref o2)] [(.int (1 : Int32))])) _
    refine XS.istore X21.here hx rfl (hb hby at_220) rfl (l' := #[.val (.long q1), .second, .val (.int p2), .val (.int p3), .val (.int p4), .val (.ref w_IN), .val (.int (2 : Int32)), .val (.ref b7), .val (.ref f), .val (.ref o1), .val (.int (1 : Int32)), .val (.ref o2)]) rfl ?_
    show Steps p.tables e below (T21.setTop (mkF m 222 #[.val (.long q1), .second, .val (.int p2), .val (.int p3), .val (.int p4), .val (.ref w_IN), .val (.int (2 : Int32)), .val (.ref b7), .val (.ref f), .val (.ref o1), .val (.int (1 : Int32)), .val (.ref o2)] [])) _
    refine XS.iload X21.here hx rfl (hb hby at_222) rfl ?_
    show Steps p.tables e below (T21.setTop (mkF m 224 #[.val (.long q1), .second, .val (.int p2), .val (.int p3), .val (.int p4), .val (.ref w_IN), .val (.int (2 : Int32)), .val (.ref b7), .val (.ref f), .val (.ref o1), .val (.int (1 : Int32)), .val (.ref o2)] [(.int (1 : Int32))])) _
    exact retN X21 hx (t := .boolean) Bd.returns (by simp) (hb hby at_224) hr
  · show Q0 Z h0 n0 _ T21.heap _
    exact ⟨rfl, N21⟩
set_option maxRecDepth 65536 in
set_option maxHeartbeats 40000000 in
theorem rm0_IN_3 (l : Launch) (Z : State) (a0 : Array Value) (hw : ∀ d ∈ tables_1, d.before a0 Z = true) (ws : List Jvm.Cond) (q1 : Int64) (p2 : Int32) (p3 : Int32) (p4 : Int32) (w_IN : Addr) (h0 : Heap) (n0 : Nat) (Z0 : n0 ≤ h0.size) (S_IN : Sta Z h0 "com/example/quotewire/quotewire/wire/Frame$Direction" "IN" "Lcom/example/quotewire/quotewire/wire/Frame$Direction;" (.ref w_IN)) (E_IN : Exa Z h0 w_IN "com/example/quotewire/quotewire/wire/Frame$Direction") (hc3 : (p2 &&& (1 : Int32)) = (0 : Int32)) (hk : ((p4 &&& (7 : Int32)) % (5 : Int32)) = (3 : Int32)) :
    MetFree l x (head1 (Jvm.Cond.code x code maxLocals ret :: ws) room_1) (fun a U => a = #[(.long q1), (.int p2), (.int p3), (.int p4)] ∧ Z.Warmed39 U.vm ∧ U.heap = h0) (fun _ _ _ _ _ => True) (fun _ U o U' => ∃ v L, o = .returned v ∧ Q0 Z h0 n0 v U'.heap L ∧ ReturnedEndW U o U' L room_1.cells room_1.slots) := by
  refine MetFree.of_bodySF (plainFor_of_name pn_0) hisR ?_
  intro p e s m args below meth c s₁ Bd hml0 hP hK
  obtain ⟨rfl, hZ, hh⟩ := hP
  have hx := Bd.exec
  have hby := Bd.bytes
  have hml : c.maxLocals = 12 := hml0
  have hown : s.vm.findClass "com/example/quotewire/quotewire/wire/FrameBinaryPinLaw" = some m.cls := findClass_of_methodNamed Bd.named
  have hnm := (name_of_methodNamed Bd.named Bd.method).1
  have X0 : Stand p l e room_1 s m #[(.long q1), (.int p2), (.int p3), (.int p4)] below meth c s₁ [] 0 0 := Stand.of_body Bd
  have e0 : s₁.heap = h0 := by rw [← hh, Bd.state]; rfl
  have N0 := Fr.nil n0
  have pre0 : ∀ t, Steps p.tables e below (s₁.setTop (mkF m 0 #[.val (.long q1), .second, .val (.int p2), .val (.int p3), .val (.int p4), .unset, .unset, .unset, .unset, .unset, .unset, .unset] [])) t → Steps p.tables e below (s₁.setTop (entryFrame m #[(.long q1), (.int p2), (.int p3), (.int p4)] maxLocals)) t := fun t k => castTop (ef_0 m q1 p2 p3 p4) k
  -- 3. LAWS
  obtain ⟨T6, X6, e6, st6⟩ := getS2 X0 hx hZ hown (host := "") (Or.inl (hw _ (List.mem_of_getElem? (i := 0) rfl))) Via.refl e0 S_IN (g := (mkF m 12 #[.val (.long q1), .second, .val (.int p2), .val (.int p3), .val (.int p4), .unset, .unset, .unset, .unset, .unset, .unset, .unset] [])) rfl (hb hby at_12)
  obtain ⟨T7, h7, k7, X7, e7, E7, A7, B7, st7⟩ := newPE X6 hx hZ (hw _ (List.mem_of_getElem? (i := 3) rfl)) e6 (g := (mkF m 28 #[.val (.long q1), .second, .val (.int p2), .val (.int p3), .val (.int p4), .val (.ref w_IN), .val (.int (3 : Int32)), .unset, .unset, .unset, .unset, .unset] [(.int (3 : Int32))])) rfl (hb hby at_28) rfl (by decide) (cap := 4) (by decide) (by decide) (by decide) (by decide) (ad := "[B") (by decide)
  obtain ⟨b7, g7⟩ : ∃ z, z = h0.size := ⟨_, rfl⟩      -- the fresh array's address
  rw [← g7] at A7 B7 st7
  have V0 : Arv Z h7 b7 k7 .byte (3 : Int32) [.int (0 : Int32), .int (0 : Int32), .int (0 : Int32)] (.int (0 : Int32)) := (Arv.new A7 (by decide)).pad (pad_rep [] (.int (0 : Int32)) 3)
  have g_b7 : n0 ≤ b7 := Nat.le_trans Z0 (Nat.le_of_eq g7.symm)
  have sz_b7 : h0.size ≤ b7 := (Nat.le_trans (Keep.refl h0 []).1 (Nat.le_of_eq g7.symm))
  have K7 : Keep h0 h7 [] := (Keep.refl h0 []).ext E7
  have Zc_0 : n0 ≤ h7.size := Nat.le_trans Z0 K7.1
  have D_0 := E_IN.ext E7
  obtain ⟨_, _, ⟨T8, L8, k8, n8⟩, -, X8, ⟨Lc8, hQ8, l8, y8, z8⟩, st8⟩ := Jvm.LawKit.callS X7 hx (y := (⟨"com/example/quotewire/quotewire/wire/FrameBinaryPinLaw", "at", "(II)B"⟩ : MethodName)) hown (mvT hZ (hw _ (List.mem_of_getElem? (i := 73) rfl))) (mvT hZ (hw _ (List.mem_of_getElem? (i := 74) rfl))) (mvT hZ (hw _ (List.mem_of_getElem? (i := 48) rfl))) (mvT hZ (hw _ (List.mem_of_getElem? (i := 75) rfl))) (by decide) (backOf (W := 2) (rm11 l Z a0 hw [] p3 (0 : Int32) h7 n0 Zc_0) hZ (hw _ (List.mem_of_getElem? (i := 75) rfl)) (hw _ (List.mem_of_getElem? (i := 48) rfl)) (by decide) (by decide)) (g := (mkF m 42 #[.val (.long q1), .second, .val (.int p2), .val (.int p3), .val (.int p4), .val (.ref w_IN), .val (.int (3 : Int32)), .val (.ref b7), .unset, .unset, .unset, .unset] [(.int (0 : Int32)), (.int p3), (.int (0 : Int32)), (.ref b7)])) rfl (by rw [hml]; rfl) (argsL := [(.int p3), (.int (0 : Int32))]) (rest := [(.int (0 : Int32)), (.ref b7)]) (lenOf pd_0_11 rfl) rfl (by show 2 * 0 + _ ≤ _; exact Nat.le_of_eq rfl) (hb hby at_42) (fun _ _ => ⟨rfl, e7, (by decide : 1 + 0 ≤ _), (by decide : 4 + 0 ≤ _)⟩)
  dsimp only [Pt.U, Pt.locs, Pt.cells, Pt.slots] at X8 l8 y8 z8 st8 hQ8
  subst l8 y8 z8
  obtain ⟨rfl, N8q, q8⟩ := hQ8
  have N8 := Fr.app N0 N8q
  obtain ⟨c_8, Ar_8, qa_8, S_8, N_8, H_8, G_8⟩ : Arv Z T8.heap b7 k7 .byte (3 : Int32) [.int (0 : Int32), .int (0 : Int32), .int (0 : Int32)] (.int (0 : Int32)) := by rw [q8]; exact V0
  have hin45 := inb_of (j := (0 : Int32)) S_8 ⟨by decide, by decide⟩
  obtain ⟨T9, h9, X9, e9, W9, st9⟩ := stB X8 hx hZ rfl Ar_8 (j := (0 : Int32)) hin45 (g := (mkF m 45 #[.val (.long q1), .second, .val (.int p2), .val (.int p3), .val (.int p4), .val (.ref w_IN), .val (.int (3 : Int32)), .val (.ref b7), .unset, .unset, .unset, .unset] [(.int (atF p3 (0 : Int32))), (.int (0 : Int32)), (.ref b7)])) rfl rfl (hb hby at_45)
  rw [own_narAt] at W9
  have V1 : Arv Z h9 b7 k7 .byte (3 : Int32) [.int (atF p3 0), .int (0 : Int32), .int (0 : Int32)] (.int (0 : Int32)) := Arv.set Ar_8 qa_8 S_8 N_8 H_8 G_8 (by rw [← own_narAt]; exact fits_nar_byte _) W9 0 rfl (Nat.le_of_ble_eq_true rfl)
  have K9 : Keep h0 h9 [] := ((by rw [q8]; exact K7 : Keep h0 T8.heap [])).wr W9 (Or.inr sz_b7)
  have Zc_1 : n0 ≤ h9.size := Nat.le_trans Z0 K9.1
  have D_1 : Exa Z h9 w_IN "com/example/quotewire/quotewire/wire/Frame$Direction" := ((by rw [q8]; exact D_0 : Exa Z T8.heap w_IN "com/example/quotewire/quotewire/wire/Frame$Direction")).wr W9
  have BB_1 : Exa Z h9 b7 "[B" := ((by rw [q8]; exact B7 : Exa Z T8.heap b7 "[B")).wr W9
  have N9 := Fr.snoc X9 N8 g_b7
  obtain ⟨_, _, ⟨T10, L10, k10, n10⟩, -, X10, ⟨Lc10, hQ10, l10, y10, z10⟩, st10⟩ := Jvm.LawKit.callS X9 hx (y := (⟨"com/example/quotewire/quotewire/wire/FrameBinaryPinLaw", "at", "(II)B"⟩ : MethodName)) hown (mvT hZ (hw _ (List.mem_of_getElem? (i := 73) rfl))) (mvT hZ (hw _ (List.mem_of_getElem? (i := 74) rfl))) (mvT hZ (hw _ (List.mem_of_getElem? (i := 48) rfl))) (mvT hZ (hw _ (List.mem_of_getElem? (i := 75) rfl))) (by decide) (backOf (W := 2) (rm11 l Z a0 hw [] p3 (1 : Int32) h9 n0 Zc_1) hZ (hw _ (List.mem_of_getElem? (i := 75) rfl)) (hw _ (List.mem_of_getElem? (i := 48) rfl)) (by decide) (by decide)) (g := (mkF m 57 #[.val (.long q1), .second, .val (.int p2), .val (.int p3), .val (.int p4), .val (.ref w_IN), .val (.int (3 : Int32)), .val (.ref b7), .unset, .unset, .unset, .unset] [(.int (1 : Int32)), (.int p3), (.int (1 : Int32)), (.ref b7)])) rfl (by rw [hml]; rfl) (argsL := [(.int p3), (.int (1 : Int32))]) (rest := [(.int (1 : Int32)), (.ref b7)]) (lenOf pd_0_11 rfl) rfl (by show 2 * 0 + _ ≤ _; exact Nat.le_of_eq rfl) (hb hby at_57) (fun _ _ => ⟨rfl, e9, (by decide : 1 + 0 ≤ _), (by decide : 4 + 0 ≤ _)⟩)
  dsimp only [Pt.U, Pt.locs, Pt.cells, Pt.slots] at X10 l10 y10 z10 st10 hQ10
  subst l10 y10 z10
  obtain ⟨rfl, N10q, q10⟩ := hQ10
  have N10 := Fr.app N9 N10q
  obtain ⟨c_10, Ar_10, qa_10, S_10, N_10, H_10, G_10⟩ : Arv Z T10.heap b7 k7 .byte (3 : Int32) [.int (atF p3 0), .int (0 : Int32), .int (0 : Int32)] (.int (0 : Int32)) := by rw [q10]; exact V1
  have hin60 := inb_of (j := (1 : Int32)) S_10 ⟨by decide, by decide⟩
  obtain ⟨T11, h11, X11, e11, W11, st11⟩ := stB X10 hx hZ rfl Ar_10 (j := (1 : Int32)) hin60 (g := (mkF m 60 #[.val (.long q1), .second, .val (.int p2), .val (.int p3), .val (.int p4), .val (.ref w_IN), .val (.int (3 : Int32)), .val (.ref b7), .unset, .unset, .unset, .unset] [(.int (atF p3 (1 : Int32))), (.int (1 : Int32)), (.ref b7)])) rfl rfl (hb hby at_60)
  rw [own_narAt] at W11
  have V2 : Arv Z h11 b7 k7 .byte (3 : Int32) [.int (atF p3 0), .int (atF p3 1), .int (0 : Int32)] (.int (0 : Int32)) := Arv.set Ar_10 qa_10 S_10 N_10 H_10 G_10 (by rw [← own_narAt]; exact fits_nar_byte _) W11 1 rfl (Nat.le_of_ble_eq_true rfl)
  have K11 : Keep h0 h11 [] := ((by rw [q10]; exact K9 : Keep h0 T10.heap [])).wr W11 (Or.inr sz_b7)
  have Zc_2 : n0 ≤ h11.size := Nat.le_trans Z0 K11.1
  have D_2 : Exa Z h11 w_IN "com/example/quotewire/quotewire/wire/Frame$Direction" := ((by rw [q10]; exact D_1 : Exa Z T10.heap w_IN "com/example/quotewire/quotewire/wire/Frame$Direction")).wr W11
  have BB_2 : Exa Z h11 b7 "[B" := ((by rw [q10]; exact BB_1 : Exa Z T10.heap b7 "[B")).wr W11
  have N11 := Fr.snoc X11 N10 g_b7
  obtain ⟨_, _, ⟨T12, L12, k12, n12⟩, -, X12, ⟨Lc12, hQ12, l12, y12, z12⟩, st12⟩ := Jvm.LawKit.callS X11 hx (y := (⟨"com/example/quotewire/quotewire/wire/FrameBinaryPinLaw", "at", "(II)B"⟩ : MethodName)) hown (mvT hZ (hw _ (List.mem_of_getElem? (i := 73) rfl))) (mvT hZ (hw _ (List.mem_of_getElem? (i := 74) rfl))) (mvT hZ (hw _ (List.mem_of_getElem? (i := 48) rfl))) (mvT hZ (hw _ (List.mem_of_getElem? (i := 75) rfl))) (by decide) (backOf (W := 2) (rm11 l Z a0 hw [] p3 (2 : Int32) h11 n0 Zc_2) hZ (hw _ (List.mem_of_getElem? (i := 75) rfl)) (hw _ (List.mem_of_getElem? (i := 48) rfl)) (by decide) (by decide)) (g := (mkF m 72 #[.val (.long q1), .second, .val (.int p2), .val (.int p3), .val (.int p4), .val (.ref w_IN), .val (.int (3 : Int32)), .val (.ref b7), .unset, .unset, .unset, .unset] [(.int (2 : Int32)), (.int p3), (.int (2 : Int32)), (.ref b7)])) rfl (by rw [hml]; rfl) (argsL := [(.int p3), (.int (2 : Int32))]) (rest := [(.int (2 : Int32)), (.ref b7)]) (lenOf pd_0_11 rfl) rfl (by show 2 * 0 + _ ≤ _; exact Nat.le_of_eq rfl) (hb hby at_72) (fun _ _ => ⟨rfl, e11, (by decide : 1 + 0 ≤ _), (by decide : 4 + 0 ≤ _)⟩)
  dsimp only [Pt.U, Pt.locs, Pt.cells, Pt.slots] at X12 l12 y12 z12 st12 hQ12
  subst l12 y12 z12
  obtain ⟨rfl, N12q, q12⟩ := hQ12
  have N12 := Fr.app N11 N12q
  obtain ⟨c_12, Ar_12, qa_12, S_12, N_12, H_12, G_12⟩ : Arv Z T12.heap b7 k7 .byte (3 : Int32) [.int (atF p3 0), .int (atF p3 1), .int (0 : Int32)] (.int (0 : Int32)) := by rw [q12]; exact V2
  have hin75 := inb_of (j := (2 : Int32)) S_12 ⟨by decide, by decide⟩
  obtain ⟨T13, h13, X13, e13, W13, st13⟩ := stB X12 hx hZ rfl Ar_12 (j := (2 : Int32)) hin75 (g := (mkF m 75 #[.val (.long q1), .second, .val (.int p2), .val (.int p3), .val (.int p4), .val (.ref w_IN), .val (.int (3 : Int32)), .val (.ref b7), .unset, .unset, .unset, .unset] [(.int (atF p3 (2 : Int32))), (.int (2 : Int32)), (.ref b7)])) rfl rfl (hb hby at_75)
  rw [own_narAt] at W13
  have V3 : Arv Z h13 b7 k7 .byte (3 : Int32) [.int (atF p3 0), .int (atF p3 1), .int (atF p3 2)] (.int (0 : Int32)) := Arv.set Ar_12 qa_12 S_12 N_12 H_12 G_12 (by rw [← own_narAt]; exact fits_nar_byte _) W13 2 rfl (Nat.le_of_ble_eq_true rfl)
  have K13 : Keep h0 h13 [] := ((by rw [q12]; exact K11 : Keep h0 T12.heap [])).wr W13 (Or.inr sz_b7)
  have Zc_3 : n0 ≤ h13.size := Nat.le_trans Z0 K13.1
  have D_3 : Exa Z h13 w_IN "com/example/quotewire/quotewire/wire/Frame$Direction" := ((by rw [q12]; exact D_2 : Exa Z T12.heap w_IN "com/example/quotewire/quotewire/wire/Frame$Direction")).wr W13
  have BB_3 : Exa Z h13 b7 "[B" := ((by rw [q12]; exact BB_2 : Exa Z T12.heap b7 "[B")).wr W13
  have N13 := Fr.snoc X13 N12 g_b7
  have D_c : Exa Z h13 w_IN "com/example/quotewire/quotewire/wire/Frame$Direction" := D_3
  have B_c : Exa Z h13 b7 "[B" := BB_3
  obtain ⟨_, _, ⟨T14, L14, k14, n14⟩, -, X14, S14, gr14, ⟨Lc14, hQ14, l14, y14, z14⟩, st14⟩ := callSS X13 hx (y := (⟨"com/example/quotewire/quotewire/wire/Frame", "binary", "(JLcom/example/quotewire/quotewire/wire/Frame$Direction;[B)Lcom/example/quotewire/quotewire/wire/Frame;"⟩ : MethodName)) hown (mvT hZ (hw _ (List.mem_of_getElem? (i := 4) rfl))) (mvT hZ (hw _ (List.mem_of_getElem? (i := 5) rfl))) (mvT hZ (hw _ (List.mem_of_getElem? (i := 6) rfl))) (mvT hZ (hw _ (List.mem_of_getElem? (i := 7) rfl))) (by decide) (backOfS (W := 0) (rm1 l Z a0 hw [] q1 w_IN b7 k7 (3 : Int32) [.int (atF p3 0), .int (atF p3 1), .int (atF p3 2)] (.int (0 : Int32)) h13 n0 Zc_3 D_c B_c V3 (by decide)) hZ (hw _ (List.mem_of_getElem? (i := 7) rfl)) (hw _ (List.mem_of_getElem? (i := 6) rfl)) (by decide) (by decide)) (g := (mkF m 96 #[.val (.long q1), .second, .val (.int p2), .val (.int p3), .val (.int p4), .val (.ref w_IN), .val (.int (3 : Int32)), .val (.ref b7), .unset, .unset, .unset, .unset] [(.ref b7), (.ref w_IN), (.long q1)])) rfl (by rw [hml]; rfl) (argsL := [(.long q1), (.ref w_IN), (.ref b7)]) (rest := []) (lenOf pd_0_0 rfl) rfl (by show 2 * 0 + _ ≤ _; exact Nat.le_of_eq rfl) (hb hby at_96) (fun _ _ => ⟨rfl, e13, (by decide : 1 + 4 ≤ _), (by decide : 4 + 48 ≤ _)⟩)
  dsimp only [Pt.U, Pt.locs, Pt.cells, Pt.slots] at X14 S14 gr14 l14 y14 z14 st14 hQ14
  subst l14 y14 z14
  obtain ⟨N14q, f, fb, rfl, zf, zb, K14, Ef_14, Eb_14, Ft_14, Fd_14, Fx_14, Fb_14, Vb_14⟩ := hQ14
  have hZw : Z.Warmed39 (s.setVm T14.vm).vm := State.Warmed39.trans (t := s) hZ S14.1
  have hownw : (s.setVm T14.vm).vm.findClass "com/example/quotewire/quotewire/wire/FrameBinaryPinLaw" = some m.cls := by rw [show (s.setVm T14.vm).vm = T14.vm from rfl, S14.1.alike.findClass]; exact hown
  have Z_14 : n0 ≤ T14.heap.size := Nat.le_trans Zc_3 K14.1
  have Vs : Arv Z T14.heap b7 k7 .byte (3 : Int32) [.int (atF p3 0), .int (atF p3 1), .int (atF p3 2)] (.int (0 : Int32)) := V3.keep K14 (fun q => nomatch q)
  have lb : b7 < h13.size := V3.lt
  have nf : f ∉ [b7] := fun q => absurd (List.mem_singleton.mp q) (Nat.ne_of_gt (Nat.lt_of_lt_of_le lb zf))
  have nb : fb ∉ [b7] := fun q => absurd (List.mem_singleton.mp q) (Nat.ne_of_gt (Nat.lt_of_lt_of_le lb zb))
  have N14 := Fr.app N13 N14q
  obtain ⟨_, _, ⟨T15, L15, k15, n15⟩, -, X15, ⟨Lc15, hQ15, l15, y15, z15⟩, st15⟩ := Jvm.LawKit.callS X14 hx (y := (⟨"com/example/quotewire/quotewire/wire/FrameBinaryPinLaw", "flip", "([B)V"⟩ : MethodName)) hownw (mvT hZw (hw _ (List.mem_of_getElem? (i := 46) rfl))) (mvT hZw (hw _ (List.mem_of_getElem? (i := 47) rfl))) (mvT hZw (hw _ (List.mem_of_getElem? (i := 48) rfl))) (mvT hZw (hw _ (List.mem_of_getElem? (i := 49) rfl))) (by decide) (backOf (W := 0) (rm5_3 l Z a0 hw [] b7 k7 (atF p3 (0 : Int32)) (atF p3 (1 : Int32)) (atF p3 (2 : Int32)) (.int (0 : Int32)) T14.heap n0 Z_14 Vs g_b7) hZw (hw _ (List.mem_of_getElem? (i := 49) rfl)) (hw _ (List.mem_of_getElem? (i := 48) rfl)) (by decide) (by decide)) (g := (mkF m 103 #[.val (.long q1), .second, .val (.int p2), .val (.int p3), .val (.int p4), .val (.ref w_IN), .val (.int (3 : Int32)), .val (.ref b7), .val (.ref f), .unset, .unset, .unset] [(.ref b7)])) rfl (by rw [hml]; rfl) (argsL := [(.ref b7)]) (rest := []) (lenOf pd_0_5 rfl) rfl (by show 2 * 0 + _ ≤ _; exact Nat.le_of_eq rfl) (hb hby at_103) (fun _ _ => ⟨rfl, rfl, (by decide : 5 + 0 ≤ _), (by decide : 52 + 0 ≤ _)⟩)
  dsimp only [Pt.U, Pt.locs, Pt.cells, Pt.slots] at X15 l15 y15 z15 st15 hQ15
  subst l15 y15 z15
  obtain ⟨rfl, N15q, K15⟩ := hQ15
  have Ef_15 := Ef_14.keep K15
  have Eb_15 := Eb_14.keep K15
  have Ft_15 := Ft_14.keep K15 nf
  have Fd_15 := Fd_14.keep K15 nf
  have Fx_15 := Fx_14.keep K15 nf
  have Fb_15 := Fb_14.keep K15 nf
  have Vb_15 := Vb_14.keep K15 nb
  have Z_15 : n0 ≤ T15.heap.size := Nat.le_trans Z_14 K15.1
  have N15 := Fr.app N14 N15q
  obtain ⟨cq16, kq16, q16a, q16b, q16c⟩ := isOf hZw rfl Ef_15
  obtain ⟨_, _, ⟨T16, L16, k16, n16⟩, -, X16, ⟨Lc16, hQ16, l16, y16, z16⟩, st16⟩ := X15.virtualBack hx (y := (⟨"com/example/quotewire/quotewire/wire/Frame", "binary", "()[B"⟩ : MethodName)) (z := (⟨"com/example/quotewire/quotewire/wire/Frame", "binary", "()[B"⟩ : MethodName)) hownw (mvT hZw (hw _ (List.mem_of_getElem? (i := 50) rfl))) (mvT hZw (hw _ (List.mem_of_getElem? (i := 51) rfl))) (notFace_of_selects (args := #[]) (mvT hZw (hw _ (List.mem_of_getElem? (i := 53) rfl)))) (mvT hZw (hw _ (List.mem_of_getElem? (i := 53) rfl))) (mvT hZw (hw _ (List.mem_of_getElem? (i := 52) rfl))) (by decide) (backOf (W := 0) (rm6 l Z a0 hw [] f fb k7 (3 : Int32) [.int (atF p3 0), .int (atF p3 1), .int (atF p3 2)] (.int (0 : Int32)) T15.heap n0 Z_15 Fb_15 Eb_15 Vb_15 (by decide)) hZw (hw _ (List.mem_of_getElem? (i := 54) rfl)) (hw _ (List.mem_of_getElem? (i := 6) rfl)) (by decide) (by decide)) q16a q16c (g := (mkF m 108 #[.val (.long q1), .second, .val (.int p2), .val (.int p3), .val (.int p4), .val (.ref w_IN), .val (.int (3 : Int32)), .val (.ref b7), .val (.ref f), .unset, .unset, .unset] [(.ref f)])) rfl (by rw [hml]; rfl) (Steps.refl _) (argsL := []) (rest := []) (lenOf pd_0_6 rfl) rfl (by show 2 * 0 + _ ≤ _; exact Nat.le_of_eq rfl) (hb hby at_108) (fun _ _ => ⟨rfl, rfl, (by decide : 5 + 1 ≤ _), (by decide : 52 + 4 ≤ _)⟩)
  dsimp only [Pt.U, Pt.locs, Pt.cells, Pt.slots] at X16 l16 y16 z16 st16 hQ16
  subst l16 y16 z16
  obtain ⟨N16q, o1, rfl, zo1, K16, Vo1, Eo1⟩ := hQ16
  have nf1 : f ∉ [o1] := fun q => absurd (List.mem_singleton.mp q) (Nat.ne_of_lt (Nat.lt_of_lt_of_le Ef_15.lt zo1))
  have nb1 : fb ∉ [o1] := fun q => absurd (List.mem_singleton.mp q) (Nat.ne_of_lt (Nat.lt_of_lt_of_le Eb_15.lt zo1))
  have g_o1 : n0 ≤ o1 := Nat.le_trans Z_15 zo1
  have Ef_16 := Ef_15.keep K16
  have Eb_16 := Eb_15.keep K16
  have Ft_16 := Ft_15.keep K16 (fun q => nomatch q)
  have Fd_16 := Fd_15.keep K16 (fun q => nomatch q)
  have Fx_16 := Fx_15.keep K16 (fun q => nomatch q)
  have Fb_16 := Fb_15.keep K16 (fun q => nomatch q)
  have Vb_16 := Vb_15.keep K16 (fun q => nomatch q)
  have Z_16 : n0 ≤ T16.heap.size := Nat.le_trans Z_15 K16.1
  have N16 := Fr.app N15 N16q
  obtain ⟨_, _, ⟨T17, L17, k17, n17⟩, -, X17, ⟨Lc17, hQ17, l17, y17, z17⟩, st17⟩ := Jvm.LawKit.callS X16 hx (y := (⟨"com/example/quotewire/quotewire/wire/FrameBinaryPinLaw", "same", "([BII)Z"⟩ : MethodName)) hownw (mvT hZw (hw _ (List.mem_of_getElem? (i := 55) rfl))) (mvT hZw (hw _ (List.mem_of_getElem? (i := 56) rfl))) (mvT hZw (hw _ (List.mem_of_getElem? (i := 48) rfl))) (mvT hZw (hw _ (List.mem_of_getElem? (i := 57) rfl))) (by decide) (backOf (W := 0) (rm7_3 l Z a0 hw [] o1 p3 k7 (.int (0 : Int32)) T16.heap n0 Z_16 Vo1) hZw (hw _ (List.mem_of_getElem? (i := 57) rfl)) (hw _ (List.mem_of_getElem? (i := 48) rfl)) (by decide) (by decide)) (g := (mkF m 118 #[.val (.long q1), .second, .val (.int p2), .val (.int p3), .val (.int p4), .val (.ref w_IN), .val (.int (3 : Int32)), .val (.ref b7), .val (.ref f), .val (.ref o1), .unset, .unset] [(.int p3), (.int (3 : Int32)), (.ref o1)])) rfl (by rw [hml]; rfl) (argsL := [(.ref o1), (.int (3 : Int32)), (.int p3)]) (rest := []) (lenOf pd_0_7 rfl) rfl (by show 2 * 0 + _ ≤ _; exact Nat.le_of_eq rfl) (hb hby at_118) (fun _ _ => ⟨rfl, rfl, (by decide : 6 + 0 ≤ _), (by decide : 56 + 0 ≤ _)⟩)
  dsimp only [Pt.U, Pt.locs, Pt.cells, Pt.slots] at X17 l17 y17 z17 st17 hQ17
  subst l17 y17 z17
  obtain ⟨rfl, N17q, q17⟩ := hQ17
  have K17 : Keep T16.heap T17.heap [] := by rw [q17]; exact Keep.refl _ _
  have Vo1_ := Vo1.keep K17 (fun q => nomatch q)
  have Ef_17 := Ef_16.keep K17
  have Eb_17 := Eb_16.keep K17
  have Ft_17 := Ft_16.keep K17 (fun q => nomatch q)
  have Fd_17 := Fd_16.keep K17 (fun q => nomatch q)
  have Fx_17 := Fx_16.keep K17 (fun q => nomatch q)
  have Fb_17 := Fb_16.keep K17 (fun q => nomatch q)
  have Vb_17 := Vb_16.keep K17 (fun q => nomatch q)
  have Z_17 : n0 ≤ T17.heap.size := Nat.le_trans Z_16 K17.1
  have N17 := Fr.app N16 N17q
  obtain ⟨_, _, ⟨T18, L18, k18, n18⟩, -, X18, ⟨Lc18, hQ18, l18, y18, z18⟩, st18⟩ := Jvm.LawKit.callS X17 hx (y := (⟨"com/example/quotewire/quotewire/wire/FrameBinaryPinLaw", "flip", "([B)V"⟩ : MethodName)) hownw (mvT hZw (hw _ (List.mem_of_getElem? (i := 46) rfl))) (mvT hZw (hw _ (List.mem_of_getElem? (i := 47) rfl))) (mvT hZw (hw _ (List.mem_of_getElem? (i := 48) rfl))) (mvT hZw (hw _ (List.mem_of_getElem? (i := 49) rfl))) (by decide) (backOf (W := 0) (rm5_3 l Z a0 hw [] o1 k7 (atF p3 (0 : Int32)) (atF p3 (1 : Int32)) (atF p3 (2 : Int32)) (.int (0 : Int32)) T17.heap n0 Z_17 Vo1_ g_o1) hZw (hw _ (List.mem_of_getElem? (i := 49) rfl)) (hw _ (List.mem_of_getElem? (i := 48) rfl)) (by decide) (by decide)) (g := (mkF m 125 #[.val (.long q1), .second, .val (.int p2), .val (.int p3), .val (.int p4), .val (.ref w_IN), .val (.int (3 : Int32)), .val (.ref b7), .val (.ref f), .val (.ref o1), .val (.int (1 : Int32)), .unset] [(.ref o1)])) rfl (by rw [hml]; rfl) (argsL := [(.ref o1)]) (rest := []) (lenOf pd_0_5 rfl) rfl (by show 2 * 0 + _ ≤ _; exact Nat.le_of_eq rfl) (hb hby at_125) (fun _ _ => ⟨rfl, rfl, (by decide : 6 + 0 ≤ _), (by decide : 56 + 0 ≤ _)⟩)
  dsimp only [Pt.U, Pt.locs, Pt.cells, Pt.slots] at X18 l18 y18 z18 st18 hQ18
  subst l18 y18 z18
  obtain ⟨rfl, N18q, K18⟩ := hQ18
  have Ef_18 := Ef_17.keep K18
  have Eb_18 := Eb_17.keep K18
  have Ft_18 := Ft_17.keep K18 nf1
  have Fd_18 := Fd_17.keep K18 nf1
  have Fx_18 := Fx_17.keep K18 nf1
  have Fb_18 := Fb_17.keep K18 nf1
  have Vb_18 := Vb_17.keep K18 nb1
  have Z_18 : n0 ≤ T18.heap.size := Nat.le_trans Z_17 K18.1
  have N18 := Fr.app N17 N18q
  obtain ⟨cq19, kq19, q19a, q19b, q19c⟩ := isOf hZw rfl Ef_18
  obtain ⟨_, _, ⟨T19, L19, k19, n19⟩, -, X19, ⟨Lc19, hQ19, l19, y19, z19⟩, st19⟩ := X18.virtualBack hx (y := (⟨"com/example/quotewire/quotewire/wire/Frame", "binary", "()[B"⟩ : MethodName)) (z := (⟨"com/example/quotewire/quotewire/wire/Frame", "binary", "()[B"⟩ : MethodName)) hownw (mvT hZw (hw _ (List.mem_of_getElem? (i := 50) rfl))) (mvT hZw (hw _ (List.mem_of_getElem? (i := 51) rfl))) (notFace_of_selects (args := #[]) (mvT hZw (hw _ (List.mem_of_getElem? (i := 53) rfl)))) (mvT hZw (hw _ (List.mem_of_getElem? (i := 53) rfl))) (mvT hZw (hw _ (List.mem_of_getElem? (i := 52) rfl))) (by decide) (backOf (W := 0) (rm6 l Z a0 hw [] f fb k7 (3 : Int32) [.int (atF p3 0), .int (atF p3 1), .int (atF p3 2)] (.int (0 : Int32)) T18.heap n0 Z_18 Fb_18 Eb_18 Vb_18 (by decide)) hZw (hw _ (List.mem_of_getElem? (i := 54) rfl)) (hw _ (List.mem_of_getElem? (i := 6) rfl)) (by decide) (by decide)) q19a q19c (g := (mkF m 130 #[.val (.long q1), .second, .val (.int p2), .val (.int p3), .val (.int p4), .val (.ref w_IN), .val (.int (3 : Int32)), .val (.ref b7), .val (.ref f), .val (.ref o1), .val (.int (1 : Int32)), .unset] [(.ref f)])) rfl (by rw [hml]; rfl) (Steps.refl _) (argsL := []) (rest := []) (lenOf pd_0_6 rfl) rfl (by show 2 * 0 + _ ≤ _; exact Nat.le_of_eq rfl) (hb hby at_130) (fun _ _ => ⟨rfl, rfl, (by decide : 6 + 1 ≤ _), (by decide : 56 + 4 ≤ _)⟩)
  dsimp only [Pt.U, Pt.locs, Pt.cells, Pt.slots] at X19 l19 y19 z19 st19 hQ19
  subst l19 y19 z19
  obtain ⟨N19q, o2, rfl, zo2, K19, Vo2, Eo2⟩ := hQ19
  have Ef_19 := Ef_18.keep K19
  have Eb_19 := Eb_18.keep K19
  have Ft_19 := Ft_18.keep K19 (fun q => nomatch q)
  have Fd_19 := Fd_18.keep K19 (fun q => nomatch q)
  have Fx_19 := Fx_18.keep K19 (fun q => nomatch q)
  have Fb_19 := Fb_18.keep K19 (fun q => nomatch q)
  have Vb_19 := Vb_18.keep K19 (fun q => nomatch q)
  have Z_19 : n0 ≤ T19.heap.size := Nat.le_trans Z_18 K19.1
  have N19 := Fr.app N18 N19q
  obtain ⟨_, _, ⟨T20, L20, k20, n20⟩, -, X20, ⟨Lc20, hQ20, l20, y20, z20⟩, st20⟩ := Jvm.LawKit.callS X19 hx (y := (⟨"com/example/quotewire/quotewire/wire/FrameBinaryPinLaw", "same", "([BII)Z"⟩ : MethodName)) hownw (mvT hZw (hw _ (List.mem_of_getElem? (i := 55) rfl))) (mvT hZw (hw _ (List.mem_of_getElem? (i := 56) rfl))) (mvT hZw (hw _ (List.mem_of_getElem? (i := 48) rfl))) (mvT hZw (hw _ (List.mem_of_getElem? (i := 57) rfl))) (by decide) (backOf (W := 0) (rm7_3 l Z a0 hw [] o2 p3 k7 (.int (0 : Int32)) T19.heap n0 Z_19 Vo2) hZw (hw _ (List.mem_of_getElem? (i := 57) rfl)) (hw _ (List.mem_of_getElem? (i := 48) rfl)) (by decide) (by decide)) (g := (mkF m 145 #[.val (.long q1), .second, .val (.int p2), .val (.int p3), .val (.int p4), .val (.ref w_IN), .val (.int (3 : Int32)), .val (.ref b7), .val (.ref f), .val (.ref o1), .val (.int (1 : Int32)), .val (.ref o2)] [(.int p3), (.int (3 : Int32)), (.ref o2)])) rfl (by rw [hml]; rfl) (argsL := [(.ref o2), (.int (3 : Int32)), (.int p3)]) (rest := []) (lenOf pd_0_7 rfl) rfl (by show 2 * 0 + _ ≤ _; exact Nat.le_of_eq rfl) (hb hby at_145) (fun _ _ => ⟨rfl, rfl, (by decide : 7 + 0 ≤ _), (by decide : 60 + 0 ≤ _)⟩)
  dsimp only [Pt.U, Pt.locs, Pt.cells, Pt.slots] at X20 l20 y20 z20 st20 hQ20
  subst l20 y20 z20
  obtain ⟨rfl, N20q, q20⟩ := hQ20
  have K20 : Keep T19.heap T20.heap [] := by rw [q20]; exact Keep.refl _ _
  have Ef_20 := Ef_19.keep K20
  have Eb_20 := Eb_19.keep K20
  have Ft_20 := Ft_19.keep K20 (fun q => nomatch q)
  have Fd_20 := Fd_19.keep K20 (fun q => nomatch q)
  have Fx_20 := Fx_19.keep K20 (fun q => nomatch q)
  have Fb_20 := Fb_19.keep K20 (fun q => nomatch q)
  have Vb_20 := Vb_19.keep K20 (fun q => nomatch q)
  have Z_20 : n0 ≤ T20.heap.size := Nat.le_trans Z_19 K20.1
  have N20 := Fr.app N19 N20q
  obtain ⟨cq21, kq21, q21a, q21b, q21c⟩ := isOf hZw rfl Ef_20
  obtain ⟨_, _, ⟨T21, L21, k21, n21⟩, -, X21, ⟨Lc21, hQ21, l21, y21, z21⟩, st21⟩ := X20.virtualBack hx (y := (⟨"com/example/quotewire/quotewire/wire/Frame", "time", "()J"⟩ : MethodName)) (z := (⟨"com/example/quotewire/quotewire/wire/Frame", "time", "()J"⟩ : MethodName)) hownw (mvT hZw (hw _ (List.mem_of_getElem? (i := 58) rfl))) (mvT hZw (hw _ (List.mem_of_getElem? (i := 59) rfl))) (notFace_of_selects (args := #[]) (mvT hZw (hw _ (List.mem_of_getElem? (i := 61) rfl)))) (mvT hZw (hw _ (List.mem_of_getElem? (i := 61) rfl))) (mvT hZw (hw _ (List.mem_of_getElem? (i := 60) rfl))) (by decide) (backOf (W := 0) (rm8 l Z a0 hw [] f q1 T20.heap n0 Z_20 Ft_20) hZw (hw _ (List.mem_of_getElem? (i := 62) rfl)) (hw _ (List.mem_of_getElem? (i := 6) rfl)) (by decide) (by decide)) q21a q21c (g := (mkF m 165 #[.val (.long q1), .second, .val (.int p2), .val (.int p3), .val (.int p4), .val (.ref w_IN), .val (.int (3 : Int32)), .val (.ref b7), .val (.ref f), .val (.ref o1), .val (.int (1 : Int32)), .val (.ref o2)] [(.ref f)])) rfl (by rw [hml]; rfl) (Steps.refl _) (argsL := []) (rest := []) (lenOf pd_0_8 rfl) rfl (by show 2 * 0 + _ ≤ _; exact Nat.le_of_eq rfl) (hb hby at_165) (fun _ _ => ⟨rfl, rfl, (by decide : 7 + 0 ≤ _), (by decide : 60 + 0 ≤ _)⟩)
  dsimp only [Pt.U, Pt.locs, Pt.cells, Pt.slots] at X21 l21 y21 z21 st21 hQ21
  subst l21 y21 z21
  obtain ⟨rfl, N21q, q21⟩ := hQ21
  have K21 : Keep T20.heap T21.heap [] := by rw [q21]; exact Keep.refl _ _
  have Ef_21 := Ef_20.keep K21
  have Eb_21 := Eb_20.keep K21
  have Ft_21 := Ft_20.keep K21 (fun q => nomatch q)
  have Fd_21 := Fd_20.keep K21 (fun q => nomatch q)
  have Fx_21 := Fx_20.keep K21 (fun q => nomatch q)
  have Fb_21 := Fb_20.keep K21 (fun q => nomatch q)
  have Vb_21 := Vb_20.keep K21 (fun q => nomatch q)
  have Z_21 : n0 ≤ T21.heap.size := Nat.le_trans Z_20 K21.1
  have N21 := Fr.app N20 N21q
  obtain ⟨cq22, kq22, q22a, q22b, q22c⟩ := isOf hZw rfl Ef_21
  obtain ⟨_, _, ⟨T22, L22, k22, n22⟩, -, X22, ⟨Lc22, hQ22, l22, y22, z22⟩, st22⟩ := X21.virtualBack hx (y := (⟨"com/example/quotewire/quotewire/wire/Frame", "direction", "()Lcom/example/quotewire/quotewire/wire/Frame$Direction;"⟩ : MethodName)) (z := (⟨"com/example/quotewire/quotewire/wire/Frame", "direction", "()Lcom/example/quotewire/quotewire/wire/Frame$Direction;"⟩ : MethodName)) hownw (mvT hZw (hw _ (List.mem_of_getElem? (i := 63) rfl))) (mvT hZw (hw _ (List.mem_of_getElem? (i := 64) rfl))) (notFace_of_selects (args := #[]) (mvT hZw (hw _ (List.mem_of_getElem? (i := 66) rfl)))) (mvT hZw (hw _ (List.mem_of_getElem? (i := 66) rfl))) (mvT hZw (hw _ (List.mem_of_getElem? (i := 65) rfl))) (by decide) (backOf (W := 0) (rm9 l Z a0 hw [] f w_IN T21.heap n0 Z_21 Fd_21) hZw (hw _ (List.mem_of_getElem? (i := 67) rfl)) (hw _ (List.mem_of_getElem? (i := 6) rfl)) (by decide) (by decide)) q22a q22c (g := (mkF m 187 #[.val (.long q1), .second, .val (.int p2), .val (.int p3), .val (.int p4), .val (.ref w_IN), .val (.int (3 : Int32)), .val (.ref b7), .val (.ref f), .val (.ref o1), .val (.int (1 : Int32)), .val (.ref o2)] [(.ref f)])) rfl (by rw [hml]; rfl) (Steps.refl _) (argsL := []) (rest := []) (lenOf pd_0_9 rfl) rfl (by show 2 * 0 + _ ≤ _; exact Nat.le_of_eq rfl) (hb hby at_187) (fun _ _ => ⟨rfl, rfl, (by decide : 7 + 0 ≤ _), (by decide : 60 + 0 ≤ _)⟩)
  dsimp only [Pt.U, Pt.locs, Pt.cells, Pt.slots] at X22 l22 y22 z22 st22 hQ22
  subst l22 y22 z22
  obtain ⟨rfl, N22q, q22⟩ := hQ22
  have K22 : Keep T21.heap T22.heap [] := by rw [q22]; exact Keep.refl _ _
  have Ef_22 := Ef_21.keep K22
  have Eb_22 := Eb_21.keep K22
  have Ft_22 := Ft_21.keep K22 (fun q => nomatch q)
  have Fd_22 := Fd_21.keep K22 (fun q => nomatch q)
  have Fx_22 := Fx_21.keep K22 (fun q => nomatch q)
  have Fb_22 := Fb_21.keep K22 (fun q => nomatch q)
  have Vb_22 := Vb_21.keep K22 (fun q => nomatch q)
  have Z_22 : n0 ≤ T22.heap.size := Nat.le_trans Z_21 K22.1
  have N22 := Fr.app N21 N22q
  obtain ⟨cq23, kq23, q23a, q23b, q23c⟩ := isOf hZw rfl Ef_22
  obtain ⟨_, _, ⟨T23, L23, k23, n23⟩, -, X23, ⟨Lc23, hQ23, l23, y23, z23⟩, st23⟩ := X22.virtualBack hx (y := (⟨"com/example/quotewire/quotewire/wire/Frame", "isText", "()Z"⟩ : MethodName)) (z := (⟨"com/example/quotewire/quotewire/wire/Frame", "isText", "()Z"⟩ : MethodName)) hownw (mvT hZw (hw _ (List.mem_of_getElem? (i := 68) rfl))) (mvT hZw (hw _ (List.mem_of_getElem? (i := 69) rfl))) (notFace_of_selects (args := #[]) (mvT hZw (hw _ (List.mem_of_getElem? (i := 71) rfl)))) (mvT hZw (hw _ (List.mem_of_getElem? (i := 71) rfl))) (mvT hZw (hw _ (List.mem_of_getElem? (i := 70) rfl))) (by decide) (backOf (W := 0) (rm10 l Z a0 hw [] f T22.heap n0 Z_22 Fx_22) hZw (hw _ (List.mem_of_getElem? (i := 72) rfl)) (hw _ (List.mem_of_getElem? (i := 6) rfl)) (by decide) (by decide)) q23a q23c (g := (mkF m 209 #[.val (.long q1), .second, .val (.int p2), .val (.int p3), .val (.int p4), .val (.ref w_IN), .val (.int (3 : Int32)), .val (.ref b7), .val (.ref f), .val (.ref o1), .val (.int (1 : Int32)), .val (.ref o2)] [(.ref f)])) rfl (by rw [hml]; rfl) (Steps.refl _) (argsL := []) (rest := []) (lenOf pd_0_10 rfl) rfl (by show 2 * 0 + _ ≤ _; exact Nat.le_of_eq rfl) (hb hby at_209) (fun _ _ => ⟨rfl, rfl, (by decide : 7 + 0 ≤ _), (by decide : 60 + 0 ≤ _)⟩)
  dsimp only [Pt.U, Pt.locs, Pt.cells, Pt.slots] at X23 l23 y23 z23 st23 hQ23
  subst l23 y23 z23
  obtain ⟨rfl, N23q, q23⟩ := hQ23
  have K23 : Keep T22.heap T23.heap [] := by rw [q23]; exact Keep.refl _ _
  have Ef_23 := Ef_22.keep K23
  have Eb_23 := Eb_22.keep K23
  have Ft_23 := Ft_22.keep K23 (fun q => nomatch q)
  have Fd_23 := Fd_22.keep K23 (fun q => nomatch q)
  have Fx_23 := Fx_22.keep K23 (fun q => nomatch q)
  have Fb_23 := Fb_22.keep K23 (fun q => nomatch q)
  have Vb_23 := Vb_22.keep K23 (fun q => nomatch q)
  have Z_23 : n0 ≤ T23.heap.size := Nat.le_trans Z_22 K23.1
  have N23 := Fr.app N22 N23q
  have grow : T14.heap.size ≤ T23.heap.size := Nat.le_trans (Nat.le_trans (Nat.le_trans (Nat.le_trans (Nat.le_trans (Nat.le_trans (Nat.le_trans (Nat.le_trans K15.1 K16.1) K17.1) K18.1) K19.1) K20.1) K21.1) K22.1) K23.1
  obtain ⟨fs, hr, hrun, hended, hRW⟩ := X23.leaveW S14 grow (v := some (.int (1 : Int32))) (fun h => by rw [Bd.returns] at h; cases h)
  refine ⟨_, _, pre0 _ ?_, hrun, hended, _, _, rfl, ?_, hRW.1, hRW.2.1, hRW.2.2.1, hRW.2.2.2.mono (by decide) (by decide)⟩
  -- 4. STEPS
  · show Steps p.tables e below (s₁.setTop (mkF m 0 #[.val (.long q1), .second, .val (.int p2), .val (.int p3), .val (.int p4), .unset, .unset, .unset, .unset, .unset, .unset, .unset] [])) _
    refine XS.iloadN X0.here hx rfl (hb hby at_0) rfl ?_
    show Steps p.tables e below (s₁.setTop (mkF m 1 #[.val (.long q1), .second, .val (.int p2), .val (.int p3), .val (.int p4), .unset, .unset, .unset, .unset, .unset, .unset, .unset] [(.int p2)])) _
    refine XS.iconst X0.here hx rfl (hb hby at_1) ?_
    show Steps p.tables e below (s₁.setTop (mkF m 2 #[.val (.long q1), .second, .val (.int p2), .val (.int p3), .val (.int p4), .unset, .unset, .unset, .unset, .unset, .unset, .unset] [(.int (1 : Int32)), (.int p2)])) _
    refine XS.iand X0.here hx rfl (hb hby at_2) rfl ?_
    show Steps p.tables e below (s₁.setTop (mkF m 3 #[.val (.long q1), .second, .val (.int p2), .val (.int p3), .val (.int p4), .unset, .unset, .unset, .unset, .unset, .unset, .unset] [(.int (p2 &&& (1 : Int32)))])) _
    refine XS.ifYes X0.here hx rfl (pc0 := 3) (pc' := 12) rfl (hb hby at_3) rfl ((if0 _ _).trans (teq hc3).1) (by decide) (by decide) ?_
    show Steps p.tables e below (s₁.setTop (mkF m 12 #[.val (.long q1), .second, .val (.int p2), .val (.int p3), .val (.int p4), .unset, .unset, .unset, .unset, .unset, .unset, .unset] [])) _
    refine st6 _ ?_
    show Steps p.tables e below (T6.setTop (mkF m 15 #[.val (.long q1), .second, .val (.int p2), .val (.int p3), .val (.int p4), .unset, .unset, .unset, .unset, .unset, .unset, .unset] [(.ref w_IN)])) _
    refine XS.astore X6.here hx rfl (hb hby at_15) rfl rfl (l' := #[.val (.long q1), .second, .val (.int p2), .val (.int p3), .val (.int p4), .val (.ref w_IN), .unset, .unset, .unset, .unset, .unset, .unset]) rfl ?_
    show Steps p.tables e below (T6.setTop (mkF m 17 #[.val (.long q1), .second, .val (.int p2), .val (.int p3), .val (.int p4), .val (.ref w_IN), .unset, .unset, .unset, .unset, .unset, .unset] [])) _
    refine XS.iload X6.here hx rfl (hb hby at_17) rfl ?_
    show Steps p.tables e below (T6.setTop (mkF m 19 #[.val (.long q1), .second, .val (.int p2), .val (.int p3), .val (.int p4), .val (.ref w_IN), .unset, .unset, .unset, .unset, .unset, .unset] [(.int p4)])) _
    refine XS.bipush X6.here hx rfl (hb hby at_19) ?_
    show Steps p.tables e below (T6.setTop (mkF m 21 #[.val (.long q1), .second, .val (.int p2), .val (.int p3), .val (.int p4), .val (.ref w_IN), .unset, .unset, .unset, .unset, .unset, .unset] [(.int (7 : Int32)), (.int p4)])) _
    refine XS.iand X6.here hx rfl (hb hby at_21) rfl ?_
    show Steps p.tables e below (T6.setTop (mkF m 22 #[.val (.long q1), .second, .val (.int p2), .val (.int p3), .val (.int p4), .val (.ref w_IN), .unset, .unset, .unset, .unset, .unset, .unset] [(.int (p4 &&& (7 : Int32)))])) _
    refine XS.iconst X6.here hx rfl (hb hby at_22) ?_
    show Steps p.tables e below (T6.setTop (mkF m 23 #[.val (.long q1), .second, .val (.int p2), .val (.int p3), .val (.int p4), .val (.ref w_IN), .unset, .unset, .unset, .unset, .unset, .unset] [(.int (5 : Int32)), (.int (p4 &&& (7 : Int32)))])) _
    refine iremM X6 hx rfl (hb hby at_23) rfl (by decide) ?_
    rw [hk]
    show Steps p.tables e below (T6.setTop (mkF m 24 #[.val (.long q1), .second, .val (.int p2), .val (.int p3), .val (.int p4), .val (.ref w_IN), .unset, .unset, .unset, .unset, .unset, .unset] [(.int (3 : Int32))])) _
    refine XS.istore X6.here hx rfl (hb hby at_24) rfl (l' := #[.val (.long q1), .second, .val (.int p2), .val (.int p3), .val (.int p4), .val (.ref w_IN), .val (.int (3 : Int32)), .unset, .unset, .unset, .unset, .unset]) rfl ?_
    show Steps p.tables e below (T6.setTop (mkF m 26 #[.val (.long q1), .second, .val (.int p2), .val (.int p3), .val (.int p4), .val (.ref w_IN), .val (.int (3 : Int32)), .unset, .unset, .unset, .unset, .unset] [])) _
    refine XS.iload X6.here hx rfl (hb hby at_26) rfl ?_
    show Steps p.tables e below (T6.setTop (mkF m 28 #[.val (.long q1), .second, .val (.int p2), .val (.int p3), .val (.int p4), .val (.ref w_IN), .val (.int (3 : Int32)), .unset, .unset, .unset, .unset, .unset] [(.int (3 : Int32))])) _
    refine st7 _ ?_
    show Steps p.tables e below (T7.setTop (mkF m 30 #[.val (.long q1), .second, .val (.int p2), .val (.int p3), .val (.int p4), .val (.ref w_IN), .val (.int (3 : Int32)), .unset, .unset, .unset, .unset, .unset] [(.ref b7)])) _
    refine XS.astore X7.here hx rfl (hb hby at_30) rfl rfl (l' := #[.val (.long q1), .second, .val (.int p2), .val (.int p3), .val (.int p4), .val (.ref w_IN), .val (.int (3 : Int32)), .val (.ref b7), .unset, .unset, .unset, .unset]) rfl ?_
    show Steps p.tables e below (T7.setTop (mkF m 32 #[.val (.long q1), .second, .val (.int p2), .val (.int p3), .val (.int p4), .val (.ref w_IN), .val (.int (3 : Int32)), .val (.ref b7), .unset, .unset, .unset, .unset] [])) _
    refine XS.iload X7.here hx rfl (hb hby at_32) rfl ?_
    show Steps p.tables e below (T7.setTop (mkF m 34 #[.val (.long q1), .second, .val (.int p2), .val (.int p3), .val (.int p4), .val (.ref w_IN), .val (.int (3 : Int32)), .val (.ref b7), .unset, .unset, .unset, .unset] [(.int (3 : Int32))])) _
    refine XS.ifNo X7.here hx rfl (hb hby at_34) rfl ((if0 _ _).trans (tlt (by decide)).2.2.2) ?_
    show Steps p.tables e below (T7.setTop (mkF m 37 #[.val (.long q1), .second, .val (.int p2), .val (.int p3), .val (.int p4), .val (.ref w_IN), .val (.int (3 : Int32)), .val (.ref b7), .unset, .unset, .unset, .unset] [])) _
    refine XS.aload X7.here hx rfl (hb hby at_37) rfl rfl ?_
    show Steps p.tables e below (T7.setTop (mkF m 39 #[.val (.long q1), .second, .val (.int p2), .val (.int p3), .val (.int p4), .val (.ref w_IN), .val (.int (3 : Int32)), .val (.ref b7), .unset, .unset, .unset, .unset] [(.ref b7)])) _
    refine XS.iconst X7.here hx rfl (hb hby at_39) ?_
    show Steps p.tables e below (T7.setTop (mkF m 40 #[.val (.long q1), .second, .val (.int p2), .val (.int p3), .val (.int p4), .val (.ref w_IN), .val (.int (3 : Int32)), .val (.ref b7), .unset, .unset, .unset, .unset] [(.int (0 : Int32)), (.ref b7)])) _
    refine XS.iloadN X7.here hx rfl (hb hby at_40) rfl ?_
    show Steps p.tables e below (T7.setTop (mkF m 41 #[.val (.long q1), .second, .val (.int p2), .val (.int p3), .val (.int p4), .val (.ref w_IN), .val (.int (3 : Int32)), .val (.ref b7), .unset, .unset, .unset, .unset] [(.int p3), (.int (0 : Int32)), (.ref b7)])) _
    refine XS.iconst X7.here hx rfl (hb hby at_41) ?_
    show Steps p.tables e below (T7.setTop (mkF m 42 #[.val (.long q1), .second, .val (.int p2), .val (.int p3), .val (.int p4), .val (.ref w_IN), .val (.int (3 : Int32)), .val (.ref b7), .unset, .unset, .unset, .unset] [(.int (0 : Int32)), (.int p3), (.int (0 : Int32)), (.ref b7)])) _
    refine st8 _ ?_
    show Steps p.tables e below (T8.setTop (mkF m 45 #[.val (.long q1), .second, .val (.int p2), .val (.int p3), .val (.int p4), .val (.ref w_IN), .val (.int (3 : Int32)), .val (.ref b7), .unset, .unset, .unset, .unset] [(.int (atF p3 (0 : Int32))), (.int (0 : Int32)), (.ref b7)])) _
    refine st9 _ ?_
    show Steps p.tables e below (T9.setTop (mkF m 46 #[.val (.long q1), .second, .val (.int p2), .val (.int p3), .val (.int p4), .val (.ref w_IN), .val (.int (3 : Int32)), .val (.ref b7), .unset, .unset, .unset, .unset] [])) _
    refine XS.iload X9.here hx rfl (hb hby at_46) rfl ?_
    show Steps p.tables e below (T9.setTop (mkF m 48 #[.val (.long q1), .second, .val (.int p2), .val (.int p3), .val (.int p4), .val (.ref w_IN), .val (.int (3 : Int32)), .val (.ref b7), .unset, .unset, .unset, .unset] [(.int (3 : Int32))])) _
    refine XS.iconst X9.here hx rfl (hb hby at_48) ?_
    show Steps p.tables e below (T9.setTop (mkF m 49 #[.val (.long q1), .second, .val (.int p2), .val (.int p3), .val (.int p4), .val (.ref w_IN), .val (.int (3 : Int32)), .val (.ref b7), .unset, .unset, .unset, .unset] [(.int (1 : Int32)), (.int (3 : Int32))])) _
    refine XS.icmpNo X9.here hx rfl (hb hby at_49) rfl (tlt (by decide)).2.2.2 ?_
    show Steps p.tables e below (T9.setTop (mkF m 52 #[.val (.long q1), .second, .val (.int p2), .val (.int p3), .val (.int p4), .val (.ref w_IN), .val (.int (3 : Int32)), .val (.ref b7), .unset, .unset, .unset, .unset] [])) _
    refine XS.aload X9.here hx rfl (hb hby at_52) rfl rfl ?_
    show Steps p.tables e below (T9.setTop (mkF m 54 #[.val (.long q1), .second, .val (.int p2), .val (.int p3), .val (.int p4), .val (.ref w_IN), .val (.int (3 : Int32)), .val (.ref b7), .unset, .unset, .unset, .unset] [(.ref b7)])) _
    refine XS.iconst X9.here hx rfl (hb hby at_54) ?_
    show Steps p.tables e below (T9.setTop (mkF m 55 #[.val (.long q1), .second, .val (.int p2), .val (.int p3), .val (.int p4), .val (.ref w_IN), .val (.int (3 : Int32)), .val (.ref b7), .unset, .unset, .unset, .unset] [(.int (1 : Int32)), (.ref b7)])) _
    refine XS.iloadN X9.here hx rfl (hb hby at_55) rfl ?_
    show Steps p.tables e below (T9.setTop (mkF m 56 #[.val (.long q1), .second, .val (.int p2), .val (.int p3), .val (.int p4), .val (.ref w_IN), .val (.int (3 : Int32)), .val (.ref b7), .unset, .unset, .unset, .unset] [(.int p3), (.int (1 : Int32)), (.ref b7)])) _
    refine XS.iconst X9.here hx rfl (hb hby at_56) ?_
    show Steps p.tables e below (T9.setTop (mkF m 57 #[.val (.long q1), .second, .val (.int p2), .val (.int p3), .val (.int p4), .val (.ref w_IN), .val (.int (3 : Int32)), .val (.ref b7), .unset, .unset, .unset, .unset] [(.int (1 : Int32)), (.int p3), (.int (1 : Int32)), (.ref b7)])) _
    refine st10 _ ?_
    show Steps p.tables e below (T10.setTop (mkF m 60 #[.val (.long q1), .second, .val (.int p2), .val (.int p3), .val (.int p4), .val (.ref w_IN), .val (.int (3 : Int32)), .val (.ref b7), .unset, .unset, .unset, .unset] [(.int (atF p3 (1 : Int32))), (.int (1 : Int32)), (.ref b7)])) _
    refine st11 _ ?_
    show Steps p.tables e below (T11.setTop (mkF m 61 #[.val (.long q1), .second, .val (.int p2), .val (.int p3), .val (.int p4), .val (.ref w_IN), .val (.int (3 : Int32)), .val (.ref b7), .unset, .unset, .unset, .unset] [])) _
    refine XS.iload X11.here hx rfl (hb hby at_61) rfl ?_
    show Steps p.tables e below (T11.setTop (mkF m 63 #[.val (.long q1), .second, .val (.int p2), .val (.int p3), .val (.int p4), .val (.ref w_IN), .val (.int (3 : Int32)), .val (.ref b7), .unset, .unset, .unset, .unset] [(.int (3 : Int32))])) _
    refine XS.iconst X11.here hx rfl (hb hby at_63) ?_
    show Steps p.tables e below (T11.setTop (mkF m 64 #[.val (.long q1), .second, .val (.int p2), .val (.int p3), .val (.int p4), .val (.ref w_IN), .val (.int (3 : Int32)), .val (.ref b7), .unset, .unset, .unset, .unset] [(.int (2 : Int32)), (.int (3 : Int32))])) _
    refine XS.icmpNo X11.here hx rfl (hb hby at_64) rfl (tlt (by decide)).2.2.2 ?_
    show Steps p.tables e below (T11.setTop (mkF m 67 #[.val (.long q1), .second, .val (.int p2), .val (.int p3), .val (.int p4), .val (.ref w_IN), .val (.int (3 : Int32)), .val (.ref b7), .unset, .unset, .unset, .unset] [])) _
    refine XS.aload X11.here hx rfl (hb hby at_67) rfl rfl ?_
    show Steps p.tables e below (T11.setTop (mkF m 69 #[.val (.long q1), .second, .val (.int p2), .val (.int p3), .val (.int p4), .val (.ref w_IN), .val (.int (3 : Int32)), .val (.ref b7), .unset, .unset, .unset, .unset] [(.ref b7)])) _
    refine XS.iconst X11.here hx rfl (hb hby at_69) ?_
    show Steps p.tables e below (T11.setTop (mkF m 70 #[.val (.long q1), .second, .val (.int p2), .val (.int p3), .val (.int p4), .val (.ref w_IN), .val (.int (3 : Int32)), .val (.ref b7), .unset, .unset, .unset, .unset] [(.int (2 : Int32)), (.ref b7)])) _
    refine XS.iloadN X11.here hx rfl (hb hby at_70) rfl ?_
    show Steps p.tables e below (T11.setTop (mkF m 71 #[.val (.long q1), .second, .val (.int p2), .val (.int p3), .val (.int p4), .val (.ref w_IN), .val (.int (3 : Int32)), .val (.ref b7), .unset, .unset, .unset, .unset] [(.int p3), (.int (2 : Int32)), (.ref b7)])) _
    refine XS.iconst X11.here hx rfl (hb hby at_71) ?_
    show Steps p.tables e below (T11.setTop (mkF m 72 #[.val (.long q1), .second, .val (.int p2), .val (.int p3), .val (.int p4), .val (.ref w_IN), .val (.int (3 : Int32)), .val (.ref b7), .unset, .unset, .unset, .unset] [(.int (2 : Int32)), (.int p3), (.int (2 : Int32)), (.ref b7)])) _
    refine st12 _ ?_
    show Steps p.tables e below (T12.setTop (mkF m 75 #[.val (.long q1), .second, .val (.int p2), .val (.int p3), .val (.int p4), .val (.ref w_IN), .val (.int (3 : Int32)), .val (.ref b7), .unset, .unset, .unset, .unset] [(.int (atF p3 (2 : Int32))), (.int (2 : Int32)), (.ref b7)])) _
    refine st13 _ ?_
    show Steps p.tables e below (T13.setTop (mkF m 76 #[.val (.long q1), .second, .val (.int p2), .val (.int p3), .val (.int p4), .val (.ref w_IN), .val (.int (3 : Int32)), .val (.ref b7), .unset, .unset, .unset, .unset] [])) _
    refine XS.iload X13.here hx rfl (hb hby at_76) rfl ?_
    show Steps p.tables e below (T13.setTop (mkF m 78 #[.val (.long q1), .second, .val (.int p2), .val (.int p3), .val (.int p4), .val (.ref w_IN), .val (.int (3 : Int32)), .val (.ref b7), .unset, .unset, .unset, .unset] [(.int (3 : Int32))])) _
    refine XS.iconst X13.here hx rfl (hb hby at_78) ?_
    show Steps p.tables e below (T13.setTop (mkF m 79 #[.val (.long q1), .second, .val (.int p2), .val (.int p3), .val (.int p4), .val (.ref w_IN), .val (.int (3 : Int32)), .val (.ref b7), .unset, .unset, .unset, .unset] [(.int (3 : Int32)), (.int (3 : Int32))])) _
    refine XS.icmpYes X13.here hx rfl (pc0 := 79) (pc' := 91) rfl (hb hby at_79) rfl (flt (by decide)).2.2.2 (by decide) (by decide) ?_
    show Steps p.tables e below (T13.setTop (mkF m 91 #[.val (.long q1), .second, .val (.int p2), .val (.int p3), .val (.int p4), .val (.ref w_IN), .val (.int (3 : Int32)), .val (.ref b7), .unset, .unset, .unset, .unset] [])) _
    refine XS.lloadN X13.here hx rfl (hb hby at_91) rfl ?_
    show Steps p.tables e below (T13.setTop (mkF m 92 #[.val (.long q1), .second, .val (.int p2), .val (.int p3), .val (.int p4), .val (.ref w_IN), .val (.int (3 : Int32)), .val (.ref b7), .unset, .unset, .unset, .unset] [(.long q1)])) _
    refine XS.aload X13.here hx rfl (hb hby at_92) rfl rfl ?_
    show Steps p.tables e below (T13.setTop (mkF m 94 #[.val (.long q1), .second, .val (.int p2), .val (.int p3), .val (.int p4), .val (.ref w_IN), .val (.int (3 : Int32)), .val (.ref b7), .unset, .unset, .unset, .unset] [(.ref w_IN), (.long q1)])) _
    refine XS.aload X13.here hx rfl (hb hby at_94) rfl rfl ?_
    show Steps p.tables e below (T13.setTop (mkF m 96 #[.val (.long q1), .second, .val (.int p2), .val (.int p3), .val (.int p4), .val (.ref w_IN), .val (.int (3 : Int32)), .val (.ref b7), .unset, .unset, .unset, .unset] [(.ref b7), (.ref w_IN), (.long q1)])) _
    refine st14.trans ?_
    show Steps p.tables e below (T14.setTop (mkF m 99 #[.val (.long q1), .second, .val (.int p2), .val (.int p3), .val (.int p4), .val (.ref w_IN), .val (.int (3 : Int32)), .val (.ref b7), .unset, .unset, .unset, .unset] [(.ref f)])) _
    refine XS.astore X14.here hx rfl (hb hby at_99) rfl rfl (l' := #[.val (.long q1), .second, .val (.int p2), .val (.int p3), .val (.int p4), .val (.ref w_IN), .val (.int (3 : Int32)), .val (.ref b7), .val (.ref f), .unset, .unset, .unset]) rfl ?_
    show Steps p.tables e below (T14.setTop (mkF m 101 #[.val (.long q1), .second, .val (.int p2), .val (.int p3), .val (.int p4), .val (.ref w_IN), .val (.int (3 : Int32)), .val (.ref b7), .val (.ref f), .unset, .unset, .unset] [])) _
    refine XS.aload X14.here hx rfl (hb hby at_101) rfl rfl ?_
    show Steps p.tables e below (T14.setTop (mkF m 103 #[.val (.long q1), .second, .val (.int p2), .val (.int p3), .val (.int p4), .val (.ref w_IN), .val (.int (3 : Int32)), .val (.ref b7), .val (.ref f), .unset, .unset, .unset] [(.ref b7)])) _
    refine st15 _ ?_
    show Steps p.tables e below (T15.setTop (mkF m 106 #[.val (.long q1), .second, .val (.int p2), .val (.int p3), .val (.int p4), .val (.ref w_IN), .val (.int (3 : Int32)), .val (.ref b7), .val (.ref f), .unset, .unset, .unset] [])) _
    refine XS.aload X15.here hx rfl (hb hby at_106) rfl rfl ?_
    show Steps p.tables e below (T15.setTop (mkF m 108 #[.val (.long q1), .second, .val (.int p2), .val (.int p3), .val (.int p4), .val (.ref w_IN), .val (.int (3 : Int32)), .val (.ref b7), .val (.ref f), .unset, .unset, .unset] [(.ref f)])) _
    refine st16.trans ?_
    show Steps p.tables e below (T16.setTop (mkF m 111 #[.val (.long q1), .second, .val (.int p2), .val (.int p3), .val (.int p4), .val (.ref w_IN), .val (.int (3 : Int32)), .val (.ref b7), .val (.ref f), .unset, .unset, .unset] [(.ref o1)])) _
    refine XS.astore X16.here hx rfl (hb hby at_111) rfl rfl (l' := #[.val (.long q1), .second, .val (.int p2), .val (.int p3), .val (.int p4), .val (.ref w_IN), .val (.int (3 : Int32)), .val (.ref b7), .val (.ref f), .val (.ref o1), .unset, .unset]) rfl ?_
    show Steps p.tables e below (T16.setTop (mkF m 113 #[.val (.long q1), .second, .val (.int p2), .val (.int p3), .val (.int p4), .val (.ref w_IN), .val (.int (3 : Int32)), .val (.ref b7), .val (.ref f), .val (.ref o1), .unset, .unset] [])) _
    refine XS.aload X16.here hx rfl (hb hby at_113) rfl rfl ?_
    show Steps p.tables e below (T16.setTop (mkF m 115 #[.val (.long q1), .second, .val (.int p2), .val (.int p3), .val (.int p4), .val (.ref w_IN), .val (.int (3 : Int32)), .val (.ref b7), .val (.ref f), .val (.ref o1), .unset, .unset] [(.ref o1)])) _
    refine XS.iload X16.here hx rfl (hb hby at_115) rfl ?_
    show Steps p.tables e below (T16.setTop (mkF m 117 #[.val (.long q1), .second, .val (.int p2), .val (.int p3), .val (.int p4), .val (.ref w_IN), .val (.int (3 : Int32)), .val (.ref b7), .val (.ref f), .val (.ref o1), .unset, .unset] [(.int (3 : Int32)), (.ref o1)])) _
    refine XS.iloadN X16.here hx rfl (hb hby at_117) rfl ?_
    show Steps p.tables e below (T16.setTop (mkF m 118 #[.val (.long q1), .second, .val (.int p2), .val (.int p3), .val (.int p4), .val (.ref w_IN), .val (.int (3 : Int32)), .val (.ref b7), .val (.ref f), .val (.ref o1), .unset, .unset] [(.int p3), (.int (3 : Int32)), (.ref o1)])) _
    refine st17 _ ?_
    show Steps p.tables e below (T17.setTop (mkF m 121 #[.val (.long q1), .second, .val (.int p2), .val (.int p3), .val (.int p4), .val (.ref w_IN), .val (.int (3 : Int32)), .val (.ref b7), .val (.ref f), .val (.ref o1), .unset, .unset] [(.int (1 : Int32))])) _
    refine XS.istore X17.here hx rfl (hb hby at_121) rfl (l' := #[.val (.long q1), .second, .val (.int p2), .val (.int p3), .val (.int p4), .val (.ref w_IN), .val (.int (3 : Int32)), .val (.ref b7), .val (.ref f), .val (.ref o1), .val (.int (1 : Int32)), .unset]) rfl ?_
    show Steps p.tables e below (T17.setTop (mkF m 123 #[.val (.long q1), .second, .val (.int p2), .val (.int p3), .val (.int p4), .val (.ref w_IN), .val (.int (3 : Int32)), .val (.ref b7), .val (.ref f), .val (.ref o1), .val (.int (1 : Int32)), .unset] [])) _
    refine XS.aload X17.here hx rfl (hb hby at_123) rfl rfl ?_
    show Steps p.tables e below (T17.setTop (mkF m 125 #[.val (.long q1), .second, .val (.int p2), .val (.int p3), .val (.int p4), .val (.ref w_IN), .val (.int (3 : Int32)), .val (.ref b7), .val (.ref f), .val (.ref o1), .val (.int (1 : Int32)), .unset] [(.ref o1)])) _
    refine st18 _ ?_
    show Steps p.tables e below (T18.setTop (mkF m 128 #[.val (.long q1), .second, .val (.int p2), .val (.int p3), .val (.int p4), .val (.ref w_IN), .val (.int (3 : Int32)), .val (.ref b7), .val (.ref f), .val (.ref o1), .val (.int (1 : Int32)), .unset] [])) _
    refine XS.aload X18.here hx rfl (hb hby at_128) rfl rfl ?_
    show Steps p.tables e below (T18.setTop (mkF m 130 #[.val (.long q1), .second, .val (.int p2), .val (.int p3), .val (.int p4), .val (.ref w_IN), .val (.int (3 : Int32)), .val (.ref b7), .val (.ref f), .val (.ref o1), .val (.int (1 : Int32)), .unset] [(.ref f)])) _
    refine st19.trans ?_
    show Steps p.tables e below (T19.setTop (mkF m 133 #[.val (.long q1), .second, .val (.int p2), .val (.int p3), .val (.int p4), .val (.ref w_IN), .val (.int (3 : Int32)), .val (.ref b7), .val (.ref f), .val (.ref o1), .val (.int (1 : Int32)), .unset] [(.ref o2)])) _
    refine XS.astore X19.here hx rfl (hb hby at_133) rfl rfl (l' := #[.val (.long q1), .second, .val (.int p2), .val (.int p3), .val (.int p4), .val (.ref w_IN), .val (.int (3 : Int32)), .val (.ref b7), .val (.ref f), .val (.ref o1), .val (.int (1 : Int32)), .val (.ref o2)]) rfl ?_
    show Steps p.tables e below (T19.setTop (mkF m 135 #[.val (.long q1), .second, .val (.int p2), .val (.int p3), .val (.int p4), .val (.ref w_IN), .val (.int (3 : Int32)), .val (.ref b7), .val (.ref f), .val (.ref o1), .val (.int (1 : Int32)), .val (.ref o2)] [])) _
    refine XS.iload X19.here hx rfl (hb hby at_135) rfl ?_
    show Steps p.tables e below (T19.setTop (mkF m 137 #[.val (.long q1), .second, .val (.int p2), .val (.int p3), .val (.int p4), .val (.ref w_IN), .val (.int (3 : Int32)), .val (.ref b7), .val (.ref f), .val (.ref o1), .val (.int (1 : Int32)), .val (.ref o2)] [(.int (1 : Int32))])) _
    refine XS.ifNo X19.here hx rfl (hb hby at_137) rfl ((if0 _ _).trans (feq (by decide)).1) ?_
    show Steps p.tables e below (T19.setTop (mkF m 140 #[.val (.long q1), .second, .val (.int p2), .val (.int p3), .val (.int p4), .val (.ref w_IN), .val (.int (3 : Int32)), .val (.ref b7), .val (.ref f), .val (.ref o1), .val (.int (1 : Int32)), .val (.ref o2)] [])) _
    refine XS.aload X19.here hx rfl (hb hby at_140) rfl rfl ?_
    show Steps p.tables e below (T19.setTop (mkF m 142 #[.val (.long q1), .second, .val (.int p2), .val (.int p3), .val (.int p4), .val (.ref w_IN), .val (.int (3 : Int32)), .val (.ref b7), .val (.ref f), .val (.ref o1), .val (.int (1 : Int32)), .val (.ref o2)] [(.ref o2)])) _
    refine XS.iload X19.here hx rfl (hb hby at_142) rfl ?_
    show Steps p.tables e below (T19.setTop (mkF m 144 #[.val (.long q1), .second, .val (.int p2), .val (.int p3), .val (.int p4), .val (.ref w_IN), .val (.int (3 : Int32)), .val (.ref b7), .val (.ref f), .val (.ref o1), .val (.int (1 : Int32)), .val (.ref o2)] [(.int (3 : Int32)), (.ref o2)])) _
    refine XS.iloadN X19.here hx rfl (hb hby at_144) rfl ?_
    show Steps p.tables e below (T19.setTop (mkF m 145 #[.val (.long q1), .second, .val (.int p2), .val (.int p3), .val (.int p4), .val (.ref w_IN), .val (.int (3 : Int32)), .val (.ref b7), .val (.ref f), .val (.ref o1), .val (.int (1 : Int32)), .val (.ref o2)] [(.int p3), (.int (3 : Int32)), (.ref o2)])) _
    refine st20 _ ?_
    show Steps p.tables e below (T20.setTop (mkF m 148 #[.val (.long q1), .second, .val (.int p2), .val (.int p3), .val (.int p4), .val (.ref w_IN), .val (.int (3 : Int32)), .val (.ref b7), .val (.ref f), .val (.ref o1), .val (.int (1 : Int32)), .val (.ref o2)] [(.int (1 : Int32))])) _
    refine XS.ifNo X20.here hx rfl (hb hby at_148) rfl ((if0 _ _).trans (feq (by decide)).1) ?_
    show Steps p.tables e below (T20.setTop (mkF m 151 #[.val (.long q1), .second, .val (.int p2), .val (.int p3), .val (.int p4), .val (.ref w_IN), .val (.int (3 : Int32)), .val (.ref b7), .val (.ref f), .val (.ref o1), .val (.int (1 : Int32)), .val (.ref o2)] [])) _
    refine XS.iconst X20.here hx rfl (hb hby at_151) ?_
    show Steps p.tables e below (T20.setTop (mkF m 152 #[.val (.long q1), .second, .val (.int p2), .val (.int p3), .val (.int p4), .val (.ref w_IN), .val (.int (3 : Int32)), .val (.ref b7), .val (.ref f), .val (.ref o1), .val (.int (1 : Int32)), .val (.ref o2)] [(.int (1 : Int32))])) _
    refine XS.goto X20.here hx rfl (pc0 := 152) (pc' := 156) rfl (hb hby at_152) (by decide) (by decide) ?_
    show Steps p.tables e below (T20.setTop (mkF m 156 #[.val (.long q1), .second, .val (.int p2), .val (.int p3), .val (.int p4), .val (.ref w_IN), .val (.int (3 : Int32)), .val (.ref b7), .val (.ref f), .val (.ref o1), .val (.int (1 : Int32)), .val (.ref o2)] [(.int (1 : Int32))])) _
    refine XS.istore X20.here hx rfl (hb hby at_156) rfl (l' := #[.val (.long q1), .second, .val (.int p2), .val (.int p3), .val (.int p4), .val (.ref w_IN), .val (.int (3 : Int32)), .val (.ref b7), .val (.ref f), .val (.ref o1), .val (.int (1 : Int32)), .val (.ref o2)]) rfl ?_
    show Steps p.tables e below (T20.setTop (mkF m 158 #[.val (.long q1), .second, .val (.int p2), .val (.int p3), .val (.int p4), .val (.ref w_IN), .val (.int (3 : Int32)), .val (.ref b7), .val (.ref f), .val (.ref o1), .val (.int (1 : Int32)), .val (.ref o2)] [])) _
    refine XS.iload X20.here hx rfl (hb hby at_158) rfl ?_
    show Steps p.tables e below (T20.setTop (mkF m 160 #[.val (.long q1), .second, .val (.int p2), .val (.int p3), .val (.int p4), .val (.ref w_IN), .val (.int (3 : Int32)), .val (.ref b7), .val (.ref f), .val (.ref o1), .val (.int (1 : Int32)), .val (.ref o2)] [(.int (1 : Int32))])) _
    refine XS.ifNo X20.here hx rfl (hb hby at_160) rfl ((if0 _ _).trans (feq (by decide)).1) ?_
    show Steps p.tables e below (T20.setTop (mkF m 163 #[.val (.long q1), .second, .val (.int p2), .val (.int p3), .val (.int p4), .val (.ref w_IN), .val (.int (3 : Int32)), .val (.ref b7), .val (.ref f), .val (.ref o1), .val (.int (1 : Int32)), .val (.ref o2)] [])) _
    refine XS.aload X20.here hx rfl (hb hby at_163) rfl rfl ?_
    show Steps p.tables e below (T20.setTop (mkF m 165 #[.val (.long q1), .second, .val (.int p2), .val (.int p3), .val (.int p4), .val (.ref w_IN), .val (.int (3 : Int32)), .val (.ref b7), .val (.ref f), .val (.ref o1), .val (.int (1 : Int32)), .val (.ref o2)] [(.ref f)])) _
    refine st21.trans ?_
    show Steps p.tables e below (T21.setTop (mkF m 168 #[.val (.long q1), .second, .val (.int p2), .val (.int p3), .val (.int p4), .val (.ref w_IN), .val (.int (3 : Int32)), .val (.ref b7), .val (.ref f), .val (.ref o1), .val (.int (1 : Int32)), .val (.ref o2)] [(.long q1)])) _
    refine XS.lloadN X21.here hx rfl (hb hby at_168) rfl ?_
    show Steps p.tables e below (T21.setTop (mkF m 169 #[.val (.long q1), .second, .val (.int p2), .val (.int p3), .val (.int p4), .val (.ref w_IN), .val (.int (3 : Int32)), .val (.ref b7), .val (.ref f), .val (.ref o1), .val (.int (1 : Int32)), .val (.ref o2)] [(.long q1), (.long q1)])) _
    refine XS.lcmp X21.here hx rfl (hb hby at_169) rfl ?_
    show Steps p.tables e below (T21.setTop (mkF m 170 #[.val (.long q1), .second, .val (.int p2), .val (.int p3), .val (.int p4), .val (.ref w_IN), .val (.int (3 : Int32)), .val (.ref b7), .val (.ref f), .val (.ref o1), .val (.int (1 : Int32)), .val (.ref o2)] [(.int (lcmpW q1 q1))])) _
    refine XS.ifNo X21.here hx rfl (hb hby at_170) rfl ((if0 _ _).trans (teq ((lw_eq q1 q1).mpr rfl)).2) ?_
    show Steps p.tables e below (T21.setTop (mkF m 173 #[.val (.long q1), .second, .val (.int p2), .val (.int p3), .val (.int p4), .val (.ref w_IN), .val (.int (3 : Int32)), .val (.ref b7), .val (.ref f), .val (.ref o1), .val (.int (1 : Int32)), .val (.ref o2)] [])) _
    refine XS.iconst X21.here hx rfl (hb hby at_173) ?_
    show Steps p.tables e below (T21.setTop (mkF m 174 #[.val (.long q1), .second, .val (.int p2), .val (.int p3), .val (.int p4), .val (.ref w_IN), .val (.int (3 : Int32)), .val (.ref b7), .val (.ref f), .val (.ref o1), .val (.int (1 : Int32)), .val (.ref o2)] [(.int (1 : Int32))])) _
    refine XS.goto X21.here hx rfl (pc0 := 174) (pc' := 178) rfl (hb hby at_174) (by decide) (by decide) ?_
    show Steps p.tables e below (T21.setTop (mkF m 178 #[.val (.long q1), .second, .val (.int p2), .val (.int p3), .val (.int p4), .val (.ref w_IN), .val (.int (3 : Int32)), .val (.ref b7), .val (.ref f), .val (.ref o1), .val (.int (1 : Int32)), .val (.ref o2)] [(.int (1 : Int32))])) _
    refine XS.istore X21.here hx rfl (hb hby at_178) rfl (l' := #[.val (.long q1), .second, .val (.int p2), .val (.int p3), .val (.int p4), .val (.ref w_IN), .val (.int (3 : Int32)), .val (.ref b7), .val (.ref f), .val (.ref o1), .val (.int (1 : Int32)), .val (.ref o2)]) rfl ?_
    show Steps p.tables e below (T21.setTop (mkF m 180 #[.val (.long q1), .second, .val (.int p2), .val (.int p3), .val (.int p4), .val (.ref w_IN), .val (.int (3 : Int32)), .val (.ref b7), .val (.ref f), .val (.ref o1), .val (.int (1 : Int32)), .val (.ref o2)] [])) _
    refine XS.iload X21.here hx rfl (hb hby at_180) rfl ?_
    show Steps p.tables e below (T21.setTop (mkF m 182 #[.val (.long q1), .second, .val (.int p2), .val (.int p3), .val (.int p4), .val (.ref w_IN), .val (.int (3 : Int32)), .val (.ref b7), .val (.ref f), .val (.ref o1), .val (.int (1 : Int32)), .val (.ref o2)] [(.int (1 : Int32))])) _
    refine XS.ifNo X21.here hx rfl (hb hby at_182) rfl ((if0 _ _).trans (feq (by decide)).1) ?_
    show Steps p.tables e below (T21.setTop (mkF m 185 #[.val (.long q1), .second, .val (.int p2), .val (.int p3), .val (.int p4), .val (.ref w_IN), .val (.int (3 : Int32)), .val (.ref b7), .val (.ref f), .val (.ref o1), .val (.int (1 : Int32)), .val (.ref o2)] [])) _
    refine XS.aload X21.here hx rfl (hb hby at_185) rfl rfl ?_
    show Steps p.tables e below (T21.setTop (mkF m 187 #[.val (.long q1), .second, .val (.int p2), .val (.int p3), .val (.int p4), .val (.ref w_IN), .val (.int (3 : Int32)), .val (.ref b7), .val (.ref f), .val (.ref o1), .val (.int (1 : Int32)), .val (.ref o2)] [(.ref f)])) _
    refine st22.trans ?_
    show Steps p.tables e below (T22.setTop (mkF m 190 #[.val (.long q1), .second, .val (.int p2), .val (.int p3), .val (.int p4), .val (.ref w_IN), .val (.int (3 : Int32)), .val (.ref b7), .val (.ref f), .val (.ref o1), .val (.int (1 : Int32)), .val (.ref o2)] [(.ref w_IN)])) _
    refine XS.aload X22.here hx rfl (hb hby at_190) rfl rfl ?_
    show Steps p.tables e below (T22.setTop (mkF m 192 #[.val (.long q1), .second, .val (.int p2), .val (.int p3), .val (.int p4), .val (.ref w_IN), .val (.int (3 : Int32)), .val (.ref b7), .val (.ref f), .val (.ref o1), .val (.int (1 : Int32)), .val (.ref o2)] [(.ref w_IN), (.ref w_IN)])) _
    refine Jvm.RoadKit.acmp (g := (mkF m 192 #[.val (.long q1), .second, .val (.int p2), .val (.int p3), .val (.int p4), .val (.ref w_IN), .val (.int (3 : Int32)), .val (.ref b7), .val (.ref f), .val (.ref o1), .val (.int (1 : Int32)), .val (.ref o2)] [(.ref w_IN), (.ref w_IN)])) X22 hx rfl rfl rfl (pc0 := 192) (pc' := 195) (same := true) rfl (hb hby at_192) rfl (decide_eq_true rfl) (by decide) (by decide) ?_
    show Steps p.tables e below (T22.setTop (mkF m 195 #[.val (.long q1), .second, .val (.int p2), .val (.int p3), .val (.int p4), .val (.ref w_IN), .val (.int (3 : Int32)), .val (.ref b7), .val (.ref f), .val (.ref o1), .val (.int (1 : Int32)), .val (.ref o2)] [])) _
    refine XS.iconst X22.here hx rfl (hb hby at_195) ?_
    show Steps p.tables e below (T22.setTop (mkF m 196 #[.val (.long q1), .second, .val (.int p2), .val (.int p3), .val (.int p4), .val (.ref w_IN), .val (.int (3 : Int32)), .val (.ref b7), .val (.ref f), .val (.ref o1), .val (.int (1 : Int32)), .val (.ref o2)] [(.int (1 : Int32))])) _
    refine XS.goto X22.here hx rfl (pc0 := 196) (pc' := 200) rfl (hb hby at_196) (by decide) (by decide) ?_
    show Steps p.tables e below (T22.setTop (mkF m 200 #[.val (.long q1), .second, .val (.int p2), .val (.int p3), .val (.int p4), .val (.ref w_IN), .val (.int (3 : Int32)), .val (.ref b7), .val (.ref f), .val (.ref o1), .val (.int (1 : Int32)), .val (.ref o2)] [(.int (1 : Int32))])) _
    refine XS.istore X22.here hx rfl (hb hby at_200) rfl (l' := #[.val (.long q1), .second, .val (.int p2), .val (.int p3), .val (.int p4), .val (.ref w_IN), .val (.int (3 : Int32)), .val (.ref b7), .val (.ref f), .val (.ref o1), .val (.int (1 : Int32)), .val (.ref o2)]) rfl ?_
    show Steps p.tables e below (T22.setTop (mkF m 202 #[.val (.long q1), .second, .val (.int p2), .val (.int p3), .val (.int p4), .val (.ref w_IN), .val (.int (3 : Int32)), .val (.ref b7), .val (.ref f), .val (.ref o1), .val (.int (1 : Int32)), .val (.ref o2)] [])) _
    refine XS.iload X22.here hx rfl (hb hby at_202) rfl ?_
    show Steps p.tables e below (T22.setTop (mkF m 204 #[.val (.long q1), .second, .val (.int p2), .val (.int p3), .val (.int p4), .val (.ref w_IN), .val (.int (3 : Int32)), .val (.ref b7), .val (.ref f), .val (.ref o1), .val (.int (1 : Int32)), .val (.ref o2)] [(.int (1 : Int32))])) _
    refine XS.ifNo X22.here hx rfl (hb hby at_204) rfl ((if0 _ _).trans (feq (by decide)).1) ?_
    show Steps p.tables e below (T22.setTop (mkF m 207 #[.val (.long q1), .second, .val (.int p2), .val (.int p3), .val (.int p4), .val (.ref w_IN), .val (.int (3 : Int32)), .val (.ref b7), .val (.ref f), .val (.ref o1), .val (.int (1 : Int32)), .val (.ref o2)] [])) _
    refine XS.aload X22.here hx rfl (hb hby at_207) rfl rfl ?_
    show Steps p.tables e below (T22.setTop (mkF m 209 #[.val (.long q1), .second, .val (.int p2), .val (.int p3), .val (.int p4), .val (.ref w_IN), .val (.int (3 : Int32)), .val (.ref b7), .val (.ref f), .val (.ref o1), .val (.int (1 : Int32)), .val (.ref o2)] [(.ref f)])) _
    refine st23.trans ?_
    show Steps p.tables e below (T23.setTop (mkF m 212 #[.val (.long q1), .second, .val (.int p2), .val (.int p3), .val (.int p4), .val (.ref w_IN), .val (.int (3 : Int32)), .val (.ref b7), .val (.ref f), .val (.ref o1), .val (.int (1 : Int32)), .val (.ref o2)] [(.int (0 : Int32))])) _
    refine XS.ifNo X23.here hx rfl (hb hby at_212) rfl ((if0 _ _).trans (teq (by decide)).2) ?_
    show Steps p.tables e below (T23.setTop (mkF m 215 #[.val (.long q1), .second, .val (.int p2), .val (.int p3), .val (.int p4), .val (.ref w_IN), .val (.int (3 : Int32)), .val (.ref b7), .val (.ref f), .val (.ref o1), .val (.int (1 : Int32)), .val (.ref o2)] [])) _
    refine XS.iconst X23.here hx rfl (hb hby at_215) ?_
    show Steps p.tables e below (T23.setTop (mkF m 216 #[.val (.long q1), .second, .val (.int p2), .val (.int p3), .val (.int p4), .val (.ref w_IN), .val (.int (3 : Int32)), .val (.ref b7), .val (.ref f), .val (.ref o1), .val (.int (1 : Int32)), .val (.ref o2)] [(.int (1 : Int32))])) _
    refine XS.goto X23.here hx rfl (pc0 := 216) (pc' := 220) rfl (hb hby at_216) (by decide) (by decide) ?_
    show Steps p.tables e below (T23.setTop (mkF m 220 #[.val (.long q1), .second, .val (.int p2), .val (.int p3), .val (.int p4), .val (.ref w_IN), .val (.int (3 : Int32)), .val (.ref b7), .val (.ref f), .val (.ref o1), .val (.int (1 : Int32)), .val (.ref o2)] [(.int (1 : Int32))])) _
    refine XS.istore X23.here hx rfl (hb hby at_220) rfl (l' := #[.val (.long q1), .second, .val (.int p2), .val (.int p3), .val (.int p4), .val (.ref w_IN), .val (.int (3 : Int32)), .val (.ref b7), .val (.ref f), .val (.ref o1), .val (.int (1 : Int32)), .val (.ref o2)]) rfl ?_
    show Steps p.tables e below (T23.setTop (mkF m 222 #[.val (.long q1), .second, .val (.int p2), .val (.int p3), .val (.int p4), .val (.ref w_IN), .val (.int (3 : Int32)), .val (.ref b7), .val (.ref f), .val (.ref o1), .val (.int (1 : Int32)), .val (.ref o2)] [])) _
    refine XS.iload X23.here hx rfl (hb hby at_222) rfl ?_
    show Steps p.tables e below (T23.setTop (mkF m 224 #[.val (.long q1), .second, .val (.int p2), .val (.int p3), .val (.int p4), .val (.ref w_IN), .val (.int (3 : Int32)), .val (.ref b7), .val (.ref f), .val (.ref o1), .val (.int (1 : Int32)), .val (.ref o2)] [(.int (1 : Int32))])) _
    exact retN X23 hx (t := .boolean) Bd.returns (by simp) (hb hby at_224) hr
  · show Q0 Z h0 n0 _ T23.heap _
    exact ⟨rfl, N23⟩
set_option maxRecDepth 65536 in
set_option maxHeartbeats 40000000 in
theorem rm0_IN_4 (l : Launch) (Z : State) (a0 : Array Value) (hw : ∀ d ∈ tables_1, d.before a0 Z = true) (ws : List Jvm.Cond) (q1 : Int64) (p2 : Int32) (p3 : Int32) (p4 : Int32) (w_IN : Addr) (h0 : Heap) (n0 : Nat) (Z0 : n0 ≤ h0.size) (S_IN : Sta Z h0 "com/example/quotewire/quotewire/wire/Frame$Direction" "IN" "Lcom/example/quotewire/quotewire/wire/Frame$Direction;" (.ref w_IN)) (E_IN : Exa Z h0 w_IN "com/example/quotewire/quotewire/wire/Frame$Direction") (hc3 : (p2 &&& (1 : Int32)) = (0 : Int32)) (hk : ((p4 &&& (7 : Int32)) % (5 : Int32)) = (4 : Int32)) :
    MetFree l x (head1 (Jvm.Cond.code x code maxLocals ret :: ws) room_1) (fun a U => a = #[(.long q1), (.int p2), (.int p3), (.int p4)] ∧ Z.Warmed39 U.vm ∧ U.heap = h0) (fun _ _ _ _ _ => True) (fun _ U o U' => ∃ v L, o = .returned v ∧ Q0 Z h0 n0 v U'.heap L ∧ ReturnedEndW U o U' L room_1.cells room_1.slots) := by
  refine MetFree.of_bodySF (plainFor_of_name pn_0) hisR ?_
  intro p e s m args below meth c s₁ Bd hml0 hP hK
  obtain ⟨rfl, hZ, hh⟩ := hP
  have hx := Bd.exec
  have hby := Bd.bytes
  have hml : c.maxLocals = 12 := hml0
  have hown : s.vm.findClass "com/example/quotewire/quotewire/wire/FrameBinaryPinLaw" = some m.cls := findClass_of_methodNamed Bd.named
  have hnm := (name_of_methodNamed Bd.named Bd.method).1
  have X0 : Stand p l e room_1 s m #[(.long q1), (.int p2), (.int p3), (.int p4)] below meth c s₁ [] 0 0 := Stand.of_body Bd
  have e0 : s₁.heap = h0 := by rw [← hh, Bd.state]; rfl
  have N0 := Fr.nil n0
  have pre0 : ∀ t, Steps p.tables e below (s₁.setTop (mkF m 0 #[.val (.long q1), .second, .val (.int p2), .val (.int p3), .val (.int p4), .unset, .unset, .unset, .unset, .unset, .unset, .unset] [])) t → Steps p.tables e below (s₁.setTop (entryFrame m #[(.long q1), (.int p2), (.int p3), (.int p4)] maxLocals)) t := fun t k => castTop (ef_0 m q1 p2 p3 p4) k
  -- 3. LAWS
  obtain ⟨T6, X6, e6, st6⟩ := getS2 X0 hx hZ hown (host := "") (Or.inl (hw _ (List.mem_of_getElem? (i := 0) rfl))) Via.refl e0 S_IN (g := (mkF m 12 #[.val (.long q1), .second, .val (.int p2), .val (.int p3), .val (.int p4), .unset, .unset, .unset, .unset, .unset, .unset, .unset] [])) rfl (hb hby at_12)
  obtain ⟨T7, h7, k7, X7, e7, E7, A7, B7, st7⟩ := newPE X6 hx hZ (hw _ (List.mem_of_getElem? (i := 3) rfl)) e6 (g := (mkF m 28 #[.val (.long q1), .second, .val (.int p2), .val (.int p3), .val (.int p4), .val (.ref w_IN), .val (.int (4 : Int32)), .unset, .unset, .unset, .unset, .unset] [(.int (4 : Int32))])) rfl (hb hby at_28) rfl (by decide) (cap := 4) (by decide) (by decide) (by decide) (by decide) (ad := "[B") (by decide)
  obtain ⟨b7, g7⟩ : ∃ z, z = h0.size := ⟨_, rfl⟩      -- the fresh array's address
  rw [← g7] at A7 B7 st7
  have V0 : Arv Z h7 b7 k7 .byte (4 : Int32) [.int (0 : Int32), .int (0 : Int32), .int (0 : Int32), .int (0 : Int32)] (.int (0 : Int32)) := (Arv.new A7 (by decide)).pad (pad_rep [] (.int (0 : Int32)) 4)
  have g_b7 : n0 ≤ b7 := Nat.le_trans Z0 (Nat.le_of_eq g7.symm)
  have sz_b7 : h0.size ≤ b7 := (Nat.le_trans (Keep.refl h0 []).1 (Nat.le_of_eq g7.symm))
  have K7 : Keep h0 h7 [] := (Keep.refl h0 []).ext E7
  have Zc_0 : n0 ≤ h7.size := Nat.le_trans Z0 K7.1
  have D_0 := E_IN.ext E7
  obtain ⟨_, _, ⟨T8, L8, k8, n8⟩, -, X8, ⟨Lc8, hQ8, l8, y8, z8⟩, st8⟩ := Jvm.LawKit.callS X7 hx (y := (⟨"com/example/quotewire/quotewire/wire/FrameBinaryPinLaw", "at", "(II)B"⟩ : MethodName)) hown (mvT hZ (hw _ (List.mem_of_getElem? (i := 73) rfl))) (mvT hZ (hw _ (List.mem_of_getElem? (i := 74) rfl))) (mvT hZ (hw _ (List.mem_of_getElem? (i := 48) rfl))) (mvT hZ (hw _ (List.mem_of_getElem? (i := 75) rfl))) (by decide) (backOf (W := 2) (rm11 l Z a0 hw [] p3 (0 : Int32) h7 n0 Zc_0) hZ (hw _ (List.mem_of_getElem? (i := 75) rfl)) (hw _ (List.mem_of_getElem? (i := 48) rfl)) (by decide) (by decide)) (g := (mkF m 42 #[.val (.long q1), .second, .val (.int p2), .val (.int p3), .val (.int p4), .val (.ref w_IN), .val (.int (4 : Int32)), .val (.ref b7), .unset, .unset, .unset, .unset] [(.int (0 : Int32)), (.int p3), (.int (0 : Int32)), (.ref b7)])) rfl (by rw [hml]; rfl) (argsL := [(.int p3), (.int (0 : Int32))]) (rest := [(.int (0 : Int32)), (.ref b7)]) (lenOf pd_0_11 rfl) rfl (by show 2 * 0 + _ ≤ _; exact Nat.le_of_eq rfl) (hb hby at_42) (fun _ _ => ⟨rfl, e7, (by decide : 1 + 0 ≤ _), (by decide : 4 + 0 ≤ _)⟩)
  dsimp only [Pt.U, Pt.locs, Pt.cells, Pt.slots] at X8 l8 y8 z8 st8 hQ8
  subst l8 y8 z8
  obtain ⟨rfl, N8q, q8⟩ := hQ8
  have N8 := Fr.app N0 N8q
  obtain ⟨c_8, Ar_8, qa_8, S_8, N_8, H_8, G_8⟩ : Arv Z T8.heap b7 k7 .byte (4 : Int32) [.int (0 : Int32), .int (0 : Int32), .int (0 : Int32), .int (0 : Int32)] (.int (0 : Int32)) := by rw [q8]; exact V0
  have hin45 := inb_of (j := (0 : Int32)) S_8 ⟨by decide, by decide⟩
  obtain ⟨T9, h9, X9, e9, W9, st9⟩ := stB X8 hx hZ rfl Ar_8 (j := (0 : Int32)) hin45 (g := (mkF m 45 #[.val (.long q1), .second, .val (.int p2), .val (.int p3), .val (.int p4), .val (.ref w_IN), .val (.int (4 : Int32)), .val (.ref b7), .unset, .unset, .unset, .unset] [(.int (atF p3 (0 : Int32))), (.int (0 : Int32)), (.ref b7)])) rfl rfl (hb hby at_45)
  rw [own_narAt] at W9
  have V1 : Arv Z h9 b7 k7 .byte (4 : Int32) [.int (atF p3 0), .int (0 : Int32), .int (0 : Int32), .int (0 : Int32)] (.int (0 : Int32)) := Arv.set Ar_8 qa_8 S_8 N_8 H_8 G_8 (by rw [← own_narAt]; exact fits_nar_byte _) W9 0 rfl (Nat.le_of_ble_eq_true rfl)
  have K9 : Keep h0 h9 [] := ((by rw [q8]; exact K7 : Keep h0 T8.heap [])).wr W9 (Or.inr sz_b7)
  have Zc_1 : n0 ≤ h9.size := Nat.le_trans Z0 K9.1
  have D_1 : Exa Z h9 w_IN "com/example/quotewire/quotewire/wire/Frame$Direction" := ((by rw [q8]; exact D_0 : Exa Z T8.heap w_IN "com/example/quotewire/quotewire/wire/Frame$Direction")).wr W9
  have BB_1 : Exa Z h9 b7 "[B" := ((by rw [q8]; exact B7 : Exa Z T8.heap b7 "[B")).wr W9
  have N9 := Fr.snoc X9 N8 g_b7
  obtain ⟨_, _, ⟨T10, L10, k10, n10⟩, -, X10, ⟨Lc10, hQ10, l10, y10, z10⟩, st10⟩ := Jvm.LawKit.callS X9 hx (y := (⟨"com/example/quotewire/quotewire/wire/FrameBinaryPinLaw", "at", "(II)B"⟩ : MethodName)) hown (mvT hZ (hw _ (List.mem_of_getElem? (i := 73) rfl))) (mvT hZ (hw _ (List.mem_of_getElem? (i := 74) rfl))) (mvT hZ (hw _ (List.mem_of_getElem? (i := 48) rfl))) (mvT hZ (hw _ (List.mem_of_getElem? (i := 75) rfl))) (by decide) (backOf (W := 2) (rm11 l Z a0 hw [] p3 (1 : Int32) h9 n0 Zc_1) hZ (hw _ (List.mem_of_getElem? (i := 75) rfl)) (hw _ (List.mem_of_getElem? (i := 48) rfl)) (by decide) (by decide)) (g := (mkF m 57 #[.val (.long q1), .second, .val (.int p2), .val (.int p3), .val (.int p4), .val (.ref w_IN), .val (.int (4 : Int32)), .val (.ref b7), .unset, .unset, .unset, .unset] [(.int (1 : Int32)), (.int p3), (.int (1 : Int32)), (.ref b7)])) rfl (by rw [hml]; rfl) (argsL := [(.int p3), (.int (1 : Int32))]) (rest := [(.int (1 : Int32)), (.ref b7)]) (lenOf pd_0_11 rfl) rfl (by show 2 * 0 + _ ≤ _; exact Nat.le_of_eq rfl) (hb hby at_57) (fun _ _ => ⟨rfl, e9, (by decide : 1 + 0 ≤ _), (by decide : 4 + 0 ≤ _)⟩)
  dsimp only [Pt.U, Pt.locs, Pt.cells, Pt.slots] at X10 l10 y10 z10 st10 hQ10
  subst l10 y10 z10
  obtain ⟨rfl, N10q, q10⟩ := hQ10
  have N10 := Fr.app N9 N10q
  obtain ⟨c_10, Ar_10, qa_10, S_10, N_10, H_10, G_10⟩ : Arv Z T10.heap b7 k7 .byte (4 : Int32) [.int (atF p3 0), .int (0 : Int32), .int (0 : Int32), .int (0 : Int32)] (.int (0 : Int32)) := by rw [q10]; exact V1
  have hin60 := inb_of (j := (1 : Int32)) S_10 ⟨by decide, by decide⟩
  obtain ⟨T11, h11, X11, e11, W11, st11⟩ := stB X10 hx hZ rfl Ar_10 (j := (1 : Int32)) hin60 (g := (mkF m 60 #[.val (.long q1), .second, .val (.int p2), .val (.int p3), .val (.int p4), .val (.ref w_IN), .val (.int (4 : Int32)), .val (.ref b7), .unset, .unset, .unset, .unset] [(.int (atF p3 (1 : Int32))), (.int (1 : Int32)), (.ref b7)])) rfl rfl (hb hby at_60)
  rw [own_narAt] at W11
  have V2 : Arv Z h11 b7 k7 .byte (4 : Int32) [.int (atF p3 0), .int (atF p3 1), .int (0 : Int32), .int (0 : Int32)] (.int (0 : Int32)) := Arv.set Ar_10 qa_10 S_10 N_10 H_10 G_10 (by rw [← own_narAt]; exact fits_nar_byte _) W11 1 rfl (Nat.le_of_ble_eq_true rfl)
  have K11 : Keep h0 h11 [] := ((by rw [q10]; exact K9 : Keep h0 T10.heap [])).wr W11 (Or.inr sz_b7)
  have Zc_2 : n0 ≤ h11.size := Nat.le_trans Z0 K11.1
  have D_2 : Exa Z h11 w_IN "com/example/quotewire/quotewire/wire/Frame$Direction" := ((by rw [q10]; exact D_1 : Exa Z T10.heap w_IN "com/example/quotewire/quotewire/wire/Frame$Direction")).wr W11
  have BB_2 : Exa Z h11 b7 "[B" := ((by rw [q10]; exact BB_1 : Exa Z T10.heap b7 "[B")).wr W11
  have N11 := Fr.snoc X11 N10 g_b7
  obtain ⟨_, _, ⟨T12, L12, k12, n12⟩, -, X12, ⟨Lc12, hQ12, l12, y12, z12⟩, st12⟩ := Jvm.LawKit.callS X11 hx (y := (⟨"com/example/quotewire/quotewire/wire/FrameBinaryPinLaw", "at", "(II)B"⟩ : MethodName)) hown (mvT hZ (hw _ (List.mem_of_getElem? (i := 73) rfl))) (mvT hZ (hw _ (List.mem_of_getElem? (i := 74) rfl))) (mvT hZ (hw _ (List.mem_of_getElem? (i := 48) rfl))) (mvT hZ (hw _ (List.mem_of_getElem? (i := 75) rfl))) (by decide) (backOf (W := 2) (rm11 l Z a0 hw [] p3 (2 : Int32) h11 n0 Zc_2) hZ (hw _ (List.mem_of_getElem? (i := 75) rfl)) (hw _ (List.mem_of_getElem? (i := 48) rfl)) (by decide) (by decide)) (g := (mkF m 72 #[.val (.long q1), .second, .val (.int p2), .val (.int p3), .val (.int p4), .val (.ref w_IN), .val (.int (4 : Int32)), .val (.ref b7), .unset, .unset, .unset, .unset] [(.int (2 : Int32)), (.int p3), (.int (2 : Int32)), (.ref b7)])) rfl (by rw [hml]; rfl) (argsL := [(.int p3), (.int (2 : Int32))]) (rest := [(.int (2 : Int32)), (.ref b7)]) (lenOf pd_0_11 rfl) rfl (by show 2 * 0 + _ ≤ _; exact Nat.le_of_eq rfl) (hb hby at_72) (fun _ _ => ⟨rfl, e11, (by decide : 1 + 0 ≤ _), (by decide : 4 + 0 ≤ _)⟩)
  dsimp only [Pt.U, Pt.locs, Pt.cells, Pt.slots] at X12 l12 y12 z12 st12 hQ12
  subst l12 y12 z12
  obtain ⟨rfl, N12q, q12⟩ := hQ12
  have N12 := Fr.app N11 N12q
  obtain ⟨c_12, Ar_12, qa_12, S_12, N_12, H_12, G_12⟩ : Arv Z T12.heap b7 k7 .byte (4 : Int32) [.int (atF p3 0), .int (atF p3 1), .int (0 : Int32), .int (0 : Int32)] (.int (0 : Int32)) := by rw [q12]; exact V2
  have hin75 := inb_of (j := (2 : Int32)) S_12 ⟨by decide, by decide⟩
  obtain ⟨T13, h13, X13, e13, W13, st13⟩ := stB X12 hx hZ rfl Ar_12 (j := (2 : Int32)) hin75 (g := (mkF m 75 #[.val (.long q1), .second, .val (.int p2), .val (.int p3), .val (.int p4), .val (.ref w_IN), .val (.int (4 : Int32)), .val (.ref b7), .unset, .unset, .unset, .unset] [(.int (atF p3 (2 : Int32))), (.int (2 : Int32)), (.ref b7)])) rfl rfl (hb hby at_75)
  rw [own_narAt] at W13
  have V3 : Arv Z h13 b7 k7 .byte (4 : Int32) [.int (atF p3 0), .int (atF p3 1), .int (atF p3 2), .int (0 : Int32)] (.int (0 : Int32)) := Arv.set Ar_12 qa_12 S_12 N_12 H_12 G_12 (by rw [← own_narAt]; exact fits_nar_byte _) W13 2 rfl (Nat.le_of_ble_eq_true rfl)
  have K13 : Keep h0 h13 [] := ((by rw [q12]; exact K11 : Keep h0 T12.heap [])).wr W13 (Or.inr sz_b7)
  have Zc_3 : n0 ≤ h13.size := Nat.le_trans Z0 K13.1
  have D_3 : Exa Z h13 w_IN "com/example/quotewire/quotewire/wire/Frame$Direction" := ((by rw [q12]; exact D_2 : Exa Z T12.heap w_IN "com/example/quotewire/quotewire/wire/Frame$Direction")).wr W13
  have BB_3 : Exa Z h13 b7 "[B" := ((by rw [q12]; exact BB_2 : Exa Z T12.heap b7 "[B")).wr W13
  have N13 := Fr.snoc X13 N12 g_b7
  obtain ⟨_, _, ⟨T14, L14, k14, n14⟩, -, X14, ⟨Lc14, hQ14, l14, y14, z14⟩, st14⟩ := Jvm.LawKit.callS X13 hx (y := (⟨"com/example/quotewire/quotewire/wire/FrameBinaryPinLaw", "at", "(II)B"⟩ : MethodName)) hown (mvT hZ (hw _ (List.mem_of_getElem? (i := 73) rfl))) (mvT hZ (hw _ (List.mem_of_getElem? (i := 74) rfl))) (mvT hZ (hw _ (List.mem_of_getElem? (i := 48) rfl))) (mvT hZ (hw _ (List.mem_of_getElem? (i := 75) rfl))) (by decide) (backOf (W := 2) (rm11 l Z a0 hw [] p3 (3 : Int32) h13 n0 Zc_3) hZ (hw _ (List.mem_of_getElem? (i := 75) rfl)) (hw _ (List.mem_of_getElem? (i := 48) rfl)) (by decide) (by decide)) (g := (mkF m 87 #[.val (.long q1), .second, .val (.int p2), .val (.int p3), .val (.int p4), .val (.ref w_IN), .val (.int (4 : Int32)), .val (.ref b7), .unset, .unset, .unset, .unset] [(.int (3 : Int32)), (.int p3), (.int (3 : Int32)), (.ref b7)])) rfl (by rw [hml]; rfl) (argsL := [(.int p3), (.int (3 : Int32))]) (rest := [(.int (3 : Int32)), (.ref b7)]) (lenOf pd_0_11 rfl) rfl (by show 2 * 0 + _ ≤ _; exact Nat.le_of_eq rfl) (hb hby at_87) (fun _ _ => ⟨rfl, e13, (by decide : 1 + 0 ≤ _), (by decide : 4 + 0 ≤ _)⟩)
  dsimp only [Pt.U, Pt.locs, Pt.cells, Pt.slots] at X14 l14 y14 z14 st14 hQ14
  subst l14 y14 z14
  obtain ⟨rfl, N14q, q14⟩ := hQ14
  have N14 := Fr.app N13 N14q
  obtain ⟨c_14, Ar_14, qa_14, S_14, N_14, H_14, G_14⟩ : Arv Z T14.heap b7 k7 .byte (4 : Int32) [.int (atF p3 0), .int (atF p3 1), .int (atF p3 2), .int (0 : Int32)] (.int (0 : Int32)) := by rw [q14]; exact V3
  have hin90 := inb_of (j := (3 : Int32)) S_14 ⟨by decide, by decide⟩
  obtain ⟨T15, h15, X15, e15, W15, st15⟩ := stB X14 hx hZ rfl Ar_14 (j := (3 : Int32)) hin90 (g := (mkF m 90 #[.val (.long q1), .second, .val (.int p2), .val (.int p3), .val (.int p4), .val (.ref w_IN), .val (.int (4 : Int32)), .val (.ref b7), .unset, .unset, .unset, .unset] [(.int (atF p3 (3 : Int32))), (.int (3 : Int32)), (.ref b7)])) rfl rfl (hb hby at_90)
  rw [own_narAt] at W15
  have V4 : Arv Z h15 b7 k7 .byte (4 : Int32) [.int (atF p3 0), .int (atF p3 1), .int (atF p3 2), .int (atF p3 3)] (.int (0 : Int32)) := Arv.set Ar_14 qa_14 S_14 N_14 H_14 G_14 (by rw [← own_narAt]; exact fits_nar_byte _) W15 3 rfl (Nat.le_of_ble_eq_true rfl)
  have K15 : Keep h0 h15 [] := ((by rw [q14]; exact K13 : Keep h0 T14.heap [])).wr W15 (Or.inr sz_b7)
  have Zc_4 : n0 ≤ h15.size := Nat.le_trans Z0 K15.1
  have D_4 : Exa Z h15 w_IN "com/example/quotewire/quotewire/wire/Frame$Direction" := ((by rw [q14]; exact D_3 : Exa Z T14.heap w_IN "com/example/quotewire/quotewire/wire/Frame$Direction")).wr W15
  have BB_4 : Exa Z h15 b7 "[B" := ((by rw [q14]; exact BB_3 : Exa Z T14.heap b7 "[B")).wr W15
  have N15 := Fr.snoc X15 N14 g_b7
  have D_c : Exa Z h15 w_IN "com/example/quotewire/quotewire/wire/Frame$Direction" := D_4
  have B_c : Exa Z h15 b7 "[B" := BB_4
  obtain ⟨_, _, ⟨T16, L16, k16, n16⟩, -, X16, S16, gr16, ⟨Lc16, hQ16, l16, y16, z16⟩, st16⟩ := callSS X15 hx (y := (⟨"com/example/quotewire/quotewire/wire/Frame", "binary", "(JLcom/example/quotewire/quotewire/wire/Frame$Direction;[B)Lcom/example/quotewire/quotewire/wire/Frame;"⟩ : MethodName)) hown (mvT hZ (hw _ (List.mem_of_getElem? (i := 4) rfl))) (mvT hZ (hw _ (List.mem_of_getElem? (i := 5) rfl))) (mvT hZ (hw _ (List.mem_of_getElem? (i := 6) rfl))) (mvT hZ (hw _ (List.mem_of_getElem? (i := 7) rfl))) (by decide) (backOfS (W := 0) (rm1 l Z a0 hw [] q1 w_IN b7 k7 (4 : Int32) [.int (atF p3 0), .int (atF p3 1), .int (atF p3 2), .int (atF p3 3)] (.int (0 : Int32)) h15 n0 Zc_4 D_c B_c V4 (by decide)) hZ (hw _ (List.mem_of_getElem? (i := 7) rfl)) (hw _ (List.mem_of_getElem? (i := 6) rfl)) (by decide) (by decide)) (g := (mkF m 96 #[.val (.long q1), .second, .val (.int p2), .val (.int p3), .val (.int p4), .val (.ref w_IN), .val (.int (4 : Int32)), .val (.ref b7), .unset, .unset, .unset, .unset] [(.ref b7), (.ref w_IN), (.long q1)])) rfl (by rw [hml]; rfl) (argsL := [(.long q1), (.ref w_IN), (.ref b7)]) (rest := []) (lenOf pd_0_0 rfl) rfl (by show 2 * 0 + _ ≤ _; exact Nat.le_of_eq rfl) (hb hby at_96) (fun _ _ => ⟨rfl, e15, (by decide : 1 + 4 ≤ _), (by decide : 4 + 48 ≤ _)⟩)
  dsimp only [Pt.U, Pt.locs, Pt.cells, Pt.slots] at X16 S16 gr16 l16 y16 z16 st16 hQ16
  subst l16 y16 z16
  obtain ⟨N16q, f, fb, rfl, zf, zb, K16, Ef_16, Eb_16, Ft_16, Fd_16, Fx_16, Fb_16, Vb_16⟩ := hQ16
  have hZw : Z.Warmed39 (s.setVm T16.vm).vm := State.Warmed39.trans (t := s) hZ S16.1
  have hownw : (s.setVm T16.vm).vm.findClass "com/example/quotewire/quotewire/wire/FrameBinaryPinLaw" = some m.cls := by rw [show (s.setVm T16.vm).vm = T16.vm from rfl, S16.1.alike.findClass]; exact hown
  have Z_16 : n0 ≤ T16.heap.size := Nat.le_trans Zc_4 K16.1
  have Vs : Arv Z T16.heap b7 k7 .byte (4 : Int32) [.int (atF p3 0), .int (atF p3 1), .int (atF p3 2), .int (atF p3 3)] (.int (0 : Int32)) := V4.keep K16 (fun q => nomatch q)
  have lb : b7 < h15.size := V4.lt
  have nf : f ∉ [b7] := fun q => absurd (List.mem_singleton.mp q) (Nat.ne_of_gt (Nat.lt_of_lt_of_le lb zf))
  have nb : fb ∉ [b7] := fun q => absurd (List.mem_singleton.mp q) (Nat.ne_of_gt (Nat.lt_of_lt_of_le lb zb))
  have N16 := Fr.app N15 N16q
  obtain ⟨_, _, ⟨T17, L17, k17, n17⟩, -, X17, ⟨Lc17, hQ17, l17, y17, z17⟩, st17⟩ := Jvm.LawKit.callS X16 hx (y := (⟨"com/example/quotewire/quotewire/wire/FrameBinaryPinLaw", "flip", "([B)V"⟩ : MethodName)) hownw (mvT hZw (hw _ (List.mem_of_getElem? (i := 46) rfl))) (mvT hZw (hw _ (List.mem_of_getElem? (i := 47) rfl))) (mvT hZw (hw _ (List.mem_of_getElem? (i := 48) rfl))) (mvT hZw (hw _ (List.mem_of_getElem? (i := 49) rfl))) (by decide) (backOf (W := 0) (rm5_4 l Z a0 hw [] b7 k7 (atF p3 (0 : Int32)) (atF p3 (1 : Int32)) (atF p3 (2 : Int32)) (atF p3 (3 : Int32)) (.int (0 : Int32)) T16.heap n0 Z_16 Vs g_b7) hZw (hw _ (List.mem_of_getElem? (i := 49) rfl)) (hw _ (List.mem_of_getElem? (i := 48) rfl)) (by decide) (by decide)) (g := (mkF m 103 #[.val (.long q1), .second, .val (.int p2), .val (.int p3), .val (.int p4), .val (.ref w_IN), .val (.int (4 : Int32)), .val (.ref b7), .val (.ref f), .unset, .unset, .unset] [(.ref b7)])) rfl (by rw [hml]; rfl) (argsL := [(.ref b7)]) (rest := []) (lenOf pd_0_5 rfl) rfl (by show 2 * 0 + _ ≤ _; exact Nat.le_of_eq rfl) (hb hby at_103) (fun _ _ => ⟨rfl, rfl, (by decide : 5 + 0 ≤ _), (by decide : 52 + 0 ≤ _)⟩)
  dsimp only [Pt.U, Pt.locs, Pt.cells, Pt.slots] at X17 l17 y17 z17 st17 hQ17
  subst l17 y17 z17
  obtain ⟨rfl, N17q, K17⟩ := hQ17
  have Ef_17 := Ef_16.keep K17
  have Eb_17 := Eb_16.keep K17
  have Ft_17 := Ft_16.keep K17 nf
  have Fd_17 := Fd_16.keep K17 nf
  have Fx_17 := Fx_16.keep K17 nf
  have Fb_17 := Fb_16.keep K17 nf
  have Vb_17 := Vb_16.keep K17 nb
  have Z_17 : n0 ≤ T17.heap.size := Nat.le_trans Z_16 K17.1
  have N17 := Fr.app N16 N17q
  obtain ⟨cq18, kq18, q18a, q18b, q18c⟩ := isOf hZw rfl Ef_17
  obtain ⟨_, _, ⟨T18, L18, k18, n18⟩, -, X18, ⟨Lc18, hQ18, l18, y18, z18⟩, st18⟩ := X17.virtualBack hx (y := (⟨"com/example/quotewire/quotewire/wire/Frame", "binary", "()[B"⟩ : MethodName)) (z := (⟨"com/example/quotewire/quotewire/wire/Frame", "binary", "()[B"⟩ : MethodName)) hownw (mvT hZw (hw _ (List.mem_of_getElem? (i := 50) rfl))) (mvT hZw (hw _ (List.mem_of_getElem? (i := 51) rfl))) (notFace_of_selects (args := #[]) (mvT hZw (hw _ (List.mem_of_getElem? (i := 53) rfl)))) (mvT hZw (hw _ (List.mem_of_getElem? (i := 53) rfl))) (mvT hZw (hw _ (List.mem_of_getElem? (i := 52) rfl))) (by decide) (backOf (W := 0) (rm6 l Z a0 hw [] f fb k7 (4 : Int32) [.int (atF p3 0), .int (atF p3 1), .int (atF p3 2), .int (atF p3 3)] (.int (0 : Int32)) T17.heap n0 Z_17 Fb_17 Eb_17 Vb_17 (by decide)) hZw (hw _ (List.mem_of_getElem? (i := 54) rfl)) (hw _ (List.mem_of_getElem? (i := 6) rfl)) (by decide) (by decide)) q18a q18c (g := (mkF m 108 #[.val (.long q1), .second, .val (.int p2), .val (.int p3), .val (.int p4), .val (.ref w_IN), .val (.int (4 : Int32)), .val (.ref b7), .val (.ref f), .unset, .unset, .unset] [(.ref f)])) rfl (by rw [hml]; rfl) (Steps.refl _) (argsL := []) (rest := []) (lenOf pd_0_6 rfl) rfl (by show 2 * 0 + _ ≤ _; exact Nat.le_of_eq rfl) (hb hby at_108) (fun _ _ => ⟨rfl, rfl, (by decide : 5 + 1 ≤ _), (by decide : 52 + 4 ≤ _)⟩)
  dsimp only [Pt.U, Pt.locs, Pt.cells, Pt.slots] at X18 l18 y18 z18 st18 hQ18
  subst l18 y18 z18
  obtain ⟨N18q, o1, rfl, zo1, K18, Vo1, Eo1⟩ := hQ18
  have nf1 : f ∉ [o1] := fun q => absurd (List.mem_singleton.mp q) (Nat.ne_of_lt (Nat.lt_of_lt_of_le Ef_17.lt zo1))
  have nb1 : fb ∉ [o1] := fun q => absurd (List.mem_singleton.mp q) (Nat.ne_of_lt (Nat.lt_of_lt_of_le Eb_17.lt zo1))
  have g_o1 : n0 ≤ o1 := Nat.le_trans Z_17 zo1
  have Ef_18 := Ef_17.keep K18
  have Eb_18 := Eb_17.keep K18
  have Ft_18 := Ft_17.keep K18 (fun q => nomatch q)
  have Fd_18 := Fd_17.keep K18 (fun q => nomatch q)
  have Fx_18 := Fx_17.keep K18 (fun q => nomatch q)
  have Fb_18 := Fb_17.keep K18 (fun q => nomatch q)
  have Vb_18 := Vb_17.keep K18 (fun q => nomatch q)
  have Z_18 : n0 ≤ T18.heap.size := Nat.le_trans Z_17 K18.1
  have N18 := Fr.app N17 N18q
  obtain ⟨_, _, ⟨T19, L19, k19, n19⟩, -, X19, ⟨Lc19, hQ19, l19, y19, z19⟩, st19⟩ := Jvm.LawKit.callS X18 hx (y := (⟨"com/example/quotewire/quotewire/wire/FrameBinaryPinLaw", "same", "([BII)Z"⟩ : MethodName)) hownw (mvT hZw (hw _ (List.mem_of_getElem? (i := 55) rfl))) (mvT hZw (hw _ (List.mem_of_getElem? (i := 56) rfl))) (mvT hZw (hw _ (List.mem_of_getElem? (i := 48) rfl))) (mvT hZw (hw _ (List.mem_of_getElem? (i := 57) rfl))) (by decide) (backOf (W := 0) (rm7_4 l Z a0 hw [] o1 p3 k7 (.int (0 : Int32)) T18.heap n0 Z_18 Vo1) hZw (hw _ (List.mem_of_getElem? (i := 57) rfl)) (hw _ (List.mem_of_getElem? (i := 48) rfl)) (by decide) (by decide)) (g := (mkF m 118 #[.val (.long q1), .second, .val (.int p2), .val (.int p3), .val (.int p4), .val (.ref w_IN), .val (.int (4 : Int32)), .val (.ref b7), .val (.ref f), .val (.ref o1), .unset, .unset] [(.int p3), (.int (4 : Int32)), (.ref o1)])) rfl (by rw [hml]; rfl) (argsL := [(.ref o1), (.int (4 : Int32)), (.int p3)]) (rest := []) (lenOf pd_0_7 rfl) rfl (by show 2 * 0 + _ ≤ _; exact Nat.le_of_eq rfl) (hb hby at_118) (fun _ _ => ⟨rfl, rfl, (by decide : 6 + 0 ≤ _), (by decide : 56 + 0 ≤ _)⟩)
  dsimp only [Pt.U, Pt.locs, Pt.cells, Pt.slots] at X19 l19 y19 z19 st19 hQ19
  subst l19 y19 z19
  obtain ⟨rfl, N19q, q19⟩ := hQ19
  have K19 : Keep T18.heap T19.heap [] := by rw [q19]; exact Keep.refl _ _
  have Vo1_ := Vo1.keep K19 (fun q => nomatch q)
  have Ef_19 := Ef_18.keep K19
  have Eb_19 := Eb_18.keep K19
  have Ft_19 := Ft_18.keep K19 (fun q => nomatch q)
  have Fd_19 := Fd_18.keep K19 (fun q => nomatch q)
  have Fx_19 := Fx_18.keep K19 (fun q => nomatch q)
  have Fb_19 := Fb_18.keep K19 (fun q => nomatch q)
  have Vb_19 := Vb_18.keep K19 (fun q => nomatch q)
  have Z_19 : n0 ≤ T19.heap.size := Nat.le_trans Z_18 K19.1
  have N19 := Fr.app N18 N19q
  obtain ⟨_, _, ⟨T20, L20, k20, n20⟩, -, X20, ⟨Lc20, hQ20, l20, y20, z20⟩, st20⟩ := Jvm.LawKit.callS X19 hx (y := (⟨"com/example/quotewire/quotewire/wire/FrameBinaryPinLaw", "flip", "([B)V"⟩ : MethodName)) hownw (mvT hZw (hw _ (List.mem_of_getElem? (i := 46) rfl))) (mvT hZw (hw _ (List.mem_of_getElem? (i := 47) rfl))) (mvT hZw (hw _ (List.mem_of_getElem? (i := 48) rfl))) (mvT hZw (hw _ (List.mem_of_getElem? (i := 49) rfl))) (by decide) (backOf (W := 0) (rm5_4 l Z a0 hw [] o1 k7 (atF p3 (0 : Int32)) (atF p3 (1 : Int32)) (atF p3 (2 : Int32)) (atF p3 (3 : Int32)) (.int (0 : Int32)) T19.heap n0 Z_19 Vo1_ g_o1) hZw (hw _ (List.mem_of_getElem? (i := 49) rfl)) (hw _ (List.mem_of_getElem? (i := 48) rfl)) (by decide) (by decide)) (g := (mkF m 125 #[.val (.long q1), .second, .val (.int p2), .val (.int p3), .val (.int p4), .val (.ref w_IN), .val (.int (4 : Int32)), .val (.ref b7), .val (.ref f), .val (.ref o1), .val (.int (1 : Int32)), .unset] [(.ref o1)])) rfl (by rw [hml]; rfl) (argsL := [(.ref o1)]) (rest := []) (lenOf pd_0_5 rfl) rfl (by show 2 * 0 + _ ≤ _; exact Nat.le_of_eq rfl) (hb hby at_125) (fun _ _ => ⟨rfl, rfl, (by decide : 6 + 0 ≤ _), (by decide : 56 + 0 ≤ _)⟩)
  dsimp only [Pt.U, Pt.locs, Pt.cells, Pt.slots] at X20 l20 y20 z20 st20 hQ20
  subst l20 y20 z20
  obtain ⟨rfl, N20q, K20⟩ := hQ20
  have Ef_20 := Ef_19.keep K20
  have Eb_20 := Eb_19.keep K20
  have Ft_20 := Ft_19.keep K20 nf1
  have Fd_20 := Fd_19.keep K20 nf1
  have Fx_20 := Fx_19.keep K20 nf1
  have Fb_20 := Fb_19.keep K20 nf1
  have Vb_20 := Vb_19.keep K20 nb1
  have Z_20 : n0 ≤ T20.heap.size := Nat.le_trans Z_19 K20.1
  have N20 := Fr.app N19 N20q
  obtain ⟨cq21, kq21, q21a, q21b, q21c⟩ := isOf hZw rfl Ef_20
  obtain ⟨_, _, ⟨T21, L21, k21, n21⟩, -, X21, ⟨Lc21, hQ21, l21, y21, z21⟩, st21⟩ := X20.virtualBack hx (y := (⟨"com/example/quotewire/quotewire/wire/Frame", "binary", "()[B"⟩ : MethodName)) (z := (⟨"com/example/quotewire/quotewire/wire/Frame", "binary", "()[B"⟩ : MethodName)) hownw (mvT hZw (hw _ (List.mem_of_getElem? (i := 50) rfl))) (mvT hZw (hw _ (List.mem_of_getElem? (i := 51) rfl))) (notFace_of_selects (args := #[]) (mvT hZw (hw _ (List.mem_of_getElem? (i := 53) rfl)))) (mvT hZw (hw _ (List.mem_of_getElem? (i := 53) rfl))) (mvT hZw (hw _ (List.mem_of_getElem? (i := 52) rfl))) (by decide) (backOf (W := 0) (rm6 l Z a0 hw [] f fb k7 (4 : Int32) [.int (atF p3 0), .int (atF p3 1), .int (atF p3 2), .int (atF p3 3)] (.int (0 : Int32)) T20.heap n0 Z_20 Fb_20 Eb_20 Vb_20 (by decide)) hZw (hw _ (List.mem_of_getElem? (i := 54) rfl)) (hw _ (List.mem_of_getElem? (i := 6) rfl)) (by decide) (by decide)) q21a q21c (g := (mkF m 130 #[.val (.long q1), .second, .val (.int p2), .val (.int p3), .val (.int p4), .val (.ref w_IN), .val (.int (4 : Int32)), .val (.ref b7), .val (.ref f), .val (.ref o1), .val (.int (1 : Int32)), .unset] [(.ref f)])) rfl (by rw [hml]; rfl) (Steps.refl _) (argsL := []) (rest := []) (lenOf pd_0_6 rfl) rfl (by show 2 * 0 + _ ≤ _; exact Nat.le_of_eq rfl) (hb hby at_130) (fun _ _ => ⟨rfl, rfl, (by decide : 6 + 1 ≤ _), (by decide : 56 + 4 ≤ _)⟩)
  dsimp only [Pt.U, Pt.locs, Pt.cells, Pt.slots] at X21 l21 y21 z21 st21 hQ21
  subst l21 y21 z21
  obtain ⟨N21q, o2, rfl, zo2, K21, Vo2, Eo2⟩ := hQ21
  have Ef_21 := Ef_20.keep K21
  have Eb_21 := Eb_20.keep K21
  have Ft_21 := Ft_20.keep K21 (fun q => nomatch q)
  have Fd_21 := Fd_20.keep K21 (fun q => nomatch q)
  have Fx_21 := Fx_20.keep K21 (fun q => nomatch q)
  have Fb_21 := Fb_20.keep K21 (fun q => nomatch q)
  have Vb_21 := Vb_20.keep K21 (fun q => nomatch q)
  have Z_21 : n0 ≤ T21.heap.size := Nat.le_trans Z_20 K21.1
  have N21 := Fr.app N20 N21q
  obtain ⟨_, _, ⟨T22, L22, k22, n22⟩, -, X22, ⟨Lc22, hQ22, l22, y22, z22⟩, st22⟩ := Jvm.LawKit.callS X21 hx (y := (⟨"com/example/quotewire/quotewire/wire/FrameBinaryPinLaw", "same", "([BII)Z"⟩ : MethodName)) hownw (mvT hZw (hw _ (List.mem_of_getElem? (i := 55) rfl))) (mvT hZw (hw _ (List.mem_of_getElem? (i := 56) rfl))) (mvT hZw (hw _ (List.mem_of_getElem? (i := 48) rfl))) (mvT hZw (hw _ (List.mem_of_getElem? (i := 57) rfl))) (by decide) (backOf (W := 0) (rm7_4 l Z a0 hw [] o2 p3 k7 (.int (0 : Int32)) T21.heap n0 Z_21 Vo2) hZw (hw _ (List.mem_of_getElem? (i := 57) rfl)) (hw _ (List.mem_of_getElem? (i := 48) rfl)) (by decide) (by decide)) (g := (mkF m 145 #[.val (.long q1), .second, .val (.int p2), .val (.int p3), .val (.int p4), .val (.ref w_IN), .val (.int (4 : Int32)), .val (.ref b7), .val (.ref f), .val (.ref o1), .val (.int (1 : Int32)), .val (.ref o2)] [(.int p3), (.int (4 : Int32)), (.ref o2)])) rfl (by rw [hml]; rfl) (argsL := [(.ref o2), (.int (4 : Int32)), (.int p3)]) (rest := []) (lenOf pd_0_7 rfl) rfl (by show 2 * 0 + _ ≤ _; exact Nat.le_of_eq rfl) (hb hby at_145) (fun _ _ => ⟨rfl, rfl, (by decide : 7 + 0 ≤ _), (by decide : 60 + 0 ≤ _)⟩)
  dsimp only [Pt.U, Pt.locs, Pt.cells, Pt.slots] at X22 l22 y22 z22 st22 hQ22
  subst l22 y22 z22
  obtain ⟨rfl, N22q, q22⟩ := hQ22
  have K22 : Keep T21.heap T22.heap [] := by rw [q22]; exact Keep.refl _ _
  have Ef_22 := Ef_21.keep K22
  have Eb_22 := Eb_21.keep K22
  have Ft_22 := Ft_21.keep K22 (fun q => nomatch q)
  have Fd_22 := Fd_21.keep K22 (fun q => nomatch q)
  have Fx_22 := Fx_21.keep K22 (fun q => nomatch q)
  have Fb_22 := Fb_21.keep K22 (fun q => nomatch q)
  have Vb_22 := Vb_21.keep K22 (fun q => nomatch q)
  have Z_22 : n0 ≤ T22.heap.size := Nat.le_trans Z_21 K22.1
  have N22 := Fr.app N21 N22q
  obtain ⟨cq23, kq23, q23a, q23b, q23c⟩ := isOf hZw rfl Ef_22
  obtain ⟨_, _, ⟨T23, L23, k23, n23⟩, -, X23, ⟨Lc23, hQ23, l23, y23, z23⟩, st23⟩ := X22.virtualBack hx (y := (⟨"com/example/quotewire/quotewire/wire/Frame", "time", "()J"⟩ : MethodName)) (z := (⟨"com/example/quotewire/quotewire/wire/Frame", "time", "()J"⟩ : MethodName)) hownw (mvT hZw (hw _ (List.mem_of_getElem? (i := 58) rfl))) (mvT hZw (hw _ (List.mem_of_getElem? (i := 59) rfl))) (notFace_of_selects (args := #[]) (mvT hZw (hw _ (List.mem_of_getElem? (i := 61) rfl)))) (mvT hZw (hw _ (List.mem_of_getElem? (i := 61) rfl))) (mvT hZw (hw _ (List.mem_of_getElem? (i := 60) rfl))) (by decide) (backOf (W := 0) (rm8 l Z a0 hw [] f q1 T22.heap n0 Z_22 Ft_22) hZw (hw _ (List.mem_of_getElem? (i := 62) rfl)) (hw _ (List.mem_of_getElem? (i := 6) rfl)) (by decide) (by decide)) q23a q23c (g := (mkF m 165 #[.val (.long q1), .second, .val (.int p2), .val (.int p3), .val (.int p4), .val (.ref w_IN), .val (.int (4 : Int32)), .val (.ref b7), .val (.ref f), .val (.ref o1), .val (.int (1 : Int32)), .val (.ref o2)] [(.ref f)])) rfl (by rw [hml]; rfl) (Steps.refl _) (argsL := []) (rest := []) (lenOf pd_0_8 rfl) rfl (by show 2 * 0 + _ ≤ _; exact Nat.le_of_eq rfl) (hb hby at_165) (fun _ _ => ⟨rfl, rfl, (by decide : 7 + 0 ≤ _), (by decide : 60 + 0 ≤ _)⟩)
  dsimp only [Pt.U, Pt.locs, Pt.cells, Pt.slots] at X23 l23 y23 z23 st23 hQ23
  subst l23 y23 z23
  obtain ⟨rfl, N23q, q23⟩ := hQ23
  have K23 : Keep T22.heap T23.heap [] := by rw [q23]; exact Keep.refl _ _
  have Ef_23 := Ef_22.keep K23
  have Eb_23 := Eb_22.keep K23
  have Ft_23 := Ft_22.keep K23 (fun q => nomatch q)
  have Fd_23 := Fd_22.keep K23 (fun q => nomatch q)
  have Fx_23 := Fx_22.keep K23 (fun q => nomatch q)
  have Fb_23 := Fb_22.keep K23 (fun q => nomatch q)
  have Vb_23 := Vb_22.keep K23 (fun q => nomatch q)
  have Z_23 : n0 ≤ T23.heap.size := Nat.le_trans Z_22 K23.1
  have N23 := Fr.app N22 N23q
  obtain ⟨cq24, kq24, q24a, q24b, q24c⟩ := isOf hZw rfl Ef_23
  obtain ⟨_, _, ⟨T24, L24, k24, n24⟩, -, X24, ⟨Lc24, hQ24, l24, y24, z24⟩, st24⟩ := X23.virtualBack hx (y := (⟨"com/example/quotewire/quotewire/wire/Frame", "direction", "()Lcom/example/quotewire/quotewire/wire/Frame$Direction;"⟩ : MethodName)) (z := (⟨"com/example/quotewire/quotewire/wire/Frame", "direction", "()Lcom/example/quotewire/quotewire/wire/Frame$Direction;"⟩ : MethodName)) hownw (mvT hZw (hw _ (List.mem_of_getElem? (i := 63) rfl))) (mvT hZw (hw _ (List.mem_of_getElem? (i := 64) rfl))) (notFace_of_selects (args := #[]) (mvT hZw (hw _ (List.mem_of_getElem? (i := 66) rfl)))) (mvT hZw (hw _ (List.mem_of_getElem? (i := 66) rfl))) (mvT hZw (hw _ (List.mem_of_getElem? (i := 65) rfl))) (by decide) (backOf (W := 0) (rm9 l Z a0 hw [] f w_IN T23.heap n0 Z_23 Fd_23) hZw (hw _ (List.mem_of_getElem? (i := 67) rfl)) (hw _ (List.mem_of_getElem? (i := 6) rfl)) (by decide) (by decide)) q24a q24c (g := (mkF m 187 #[.val (.long q1), .second, .val (.int p2), .val (.int p3), .val (.int p4), .val (.ref w_IN), .val (.int (4 : Int32)), .val (.ref b7), .val (.ref f), .val (.ref o1), .val (.int (1 : Int32)), .val (.ref o2)] [(.ref f)])) rfl (by rw [hml]; rfl) (Steps.refl _) (argsL := []) (rest := []) (lenOf pd_0_9 rfl) rfl (by show 2 * 0 + _ ≤ _; exact Nat.le_of_eq rfl) (hb hby at_187) (fun _ _ => ⟨rfl, rfl, (by decide : 7 + 0 ≤ _), (by decide : 60 + 0 ≤ _)⟩)
  dsimp only [Pt.U, Pt.locs, Pt.cells, Pt.slots] at X24 l24 y24 z24 st24 hQ24
  subst l24 y24 z24
  obtain ⟨rfl, N24q, q24⟩ := hQ24
  have K24 : Keep T23.heap T24.heap [] := by rw [q24]; exact Keep.refl _ _
  have Ef_24 := Ef_23.keep K24
  have Eb_24 := Eb_23.keep K24
  have Ft_24 := Ft_23.keep K24 (fun q => nomatch q)
  have Fd_24 := Fd_23.keep K24 (fun q => nomatch q)
  have Fx_24 := Fx_23.keep K24 (fun q => nomatch q)
  have Fb_24 := Fb_23.keep K24 (fun q => nomatch q)
  have Vb_24 := Vb_23.keep K24 (fun q => nomatch q)
  have Z_24 : n0 ≤ T24.heap.size := Nat.le_trans Z_23 K24.1
  have N24 := Fr.app N23 N24q
  obtain ⟨cq25, kq25, q25a, q25b, q25c⟩ := isOf hZw rfl Ef_24
  obtain ⟨_, _, ⟨T25, L25, k25, n25⟩, -, X25, ⟨Lc25, hQ25, l25, y25, z25⟩, st25⟩ := X24.virtualBack hx (y := (⟨"com/example/quotewire/quotewire/wire/Frame", "isText", "()Z"⟩ : MethodName)) (z := (⟨"com/example/quotewire/quotewire/wire/Frame", "isText", "()Z"⟩ : MethodName)) hownw (mvT hZw (hw _ (List.mem_of_getElem? (i := 68) rfl))) (mvT hZw (hw _ (List.mem_of_getElem? (i := 69) rfl))) (notFace_of_selects (args := #[]) (mvT hZw (hw _ (List.mem_of_getElem? (i := 71) rfl)))) (mvT hZw (hw _ (List.mem_of_getElem? (i := 71) rfl))) (mvT hZw (hw _ (List.mem_of_getElem? (i := 70) rfl))) (by decide) (backOf (W := 0) (rm10 l Z a0 hw [] f T24.heap n0 Z_24 Fx_24) hZw (hw _ (List.mem_of_getElem? (i := 72) rfl)) (hw _ (List.mem_of_getElem? (i := 6) rfl)) (by decide) (by decide)) q25a q25c (g := (mkF m 209 #[.val (.long q1), .second, .val (.int p2), .val (.int p3), .val (.int p4), .val (.ref w_IN), .val (.int (4 : Int32)), .val (.ref b7), .val (.ref f), .val (.ref o1), .val (.int (1 : Int32)), .val (.ref o2)] [(.ref f)])) rfl (by rw [hml]; rfl) (Steps.refl _) (argsL := []) (rest := []) (lenOf pd_0_10 rfl) rfl (by show 2 * 0 + _ ≤ _; exact Nat.le_of_eq rfl) (hb hby at_209) (fun _ _ => ⟨rfl, rfl, (by decide : 7 + 0 ≤ _), (by decide : 60 + 0 ≤ _)⟩)
  dsimp only [Pt.U, Pt.locs, Pt.cells, Pt.slots] at X25 l25 y25 z25 st25 hQ25
  subst l25 y25 z25
  obtain ⟨rfl, N25q, q25⟩ := hQ25
  have K25 : Keep T24.heap T25.heap [] := by rw [q25]; exact Keep.refl _ _
  have Ef_25 := Ef_24.keep K25
  have Eb_25 := Eb_24.keep K25
  have Ft_25 := Ft_24.keep K25 (fun q => nomatch q)
  have Fd_25 := Fd_24.keep K25 (fun q => nomatch q)
  have Fx_25 := Fx_24.keep K25 (fun q => nomatch q)
  have Fb_25 := Fb_24.keep K25 (fun q => nomatch q)
  have Vb_25 := Vb_24.keep K25 (fun q => nomatch q)
  have Z_25 : n0 ≤ T25.heap.size := Nat.le_trans Z_24 K25.1
  have N25 := Fr.app N24 N25q
  have grow : T16.heap.size ≤ T25.heap.size := Nat.le_trans (Nat.le_trans (Nat.le_trans (Nat.le_trans (Nat.le_trans (Nat.le_trans (Nat.le_trans (Nat.le_trans K17.1 K18.1) K19.1) K20.1) K21.1) K22.1) K23.1) K24.1) K25.1
  obtain ⟨fs, hr, hrun, hended, hRW⟩ := X25.leaveW S16 grow (v := some (.int (1 : Int32))) (fun h => by rw [Bd.returns] at h; cases h)
  refine ⟨_, _, pre0 _ ?_, hrun, hended, _, _, rfl, ?_, hRW.1, hRW.2.1, hRW.2.2.1, hRW.2.2.2.mono (by decide) (by decide)⟩
  -- 4. STEPS
  · show Steps p.tables e below (s₁.setTop (mkF m 0 #[.val (.long q1), .second, .val (.int p2), .val (.int p3), .val (.int p4), .unset, .unset, .unset, .unset, .unset, .unset, .unset] [])) _
    refine XS.iloadN X0.here hx rfl (hb hby at_0) rfl ?_
    show Steps p.tables e below (s₁.setTop (mkF m 1 #[.val (.long q1), .second, .val (.int p2), .val (.int p3), .val (.int p4), .unset, .unset, .unset, .unset, .unset, .unset, .unset] [(.int p2)])) _
    refine XS.iconst X0.here hx rfl (hb hby at_1) ?_
    show Steps p.tables e below (s₁.setTop (mkF m 2 #[.val (.long q1), .second, .val (.int p2), .val (.int p3), .val (.int p4), .unset, .unset, .unset, .unset, .unset, .unset, .unset] [(.int (1 : Int32)), (.int p2)])) _
    refine XS.iand X0.here hx rfl (hb hby at_2) rfl ?_
    show Steps p.tables e below (s₁.setTop (mkF m 3 #[.val (.long q1), .second, .val (.int p2), .val (.int p3), .val (.int p4), .unset, .unset, .unset, .unset, .unset, .unset, .unset] [(.int (p2 &&& (1 : Int32)))])) _
    refine XS.ifYes X0.here hx rfl (pc0 := 3) (pc' := 12) rfl (hb hby at_3) rfl ((if0 _ _).trans (teq hc3).1) (by decide) (by decide) ?_
    show Steps p.tables e below (s₁.setTop (mkF m 12 #[.val (.long q1), .second, .val (.int p2), .val (.int p3), .val (.int p4), .unset, .unset, .unset, .unset, .unset, .unset, .unset] [])) _
    refine st6 _ ?_
    show Steps p.tables e below (T6.setTop (mkF m 15 #[.val (.long q1), .second, .val (.int p2), .val (.int p3), .val (.int p4), .unset, .unset, .unset, .unset, .unset, .unset, .unset] [(.ref w_IN)])) _
    refine XS.astore X6.here hx rfl (hb hby at_15) rfl rfl (l' := #[.val (.long q1), .second, .val (.int p2), .val (.int p3), .val (.int p4), .val (.ref w_IN), .unset, .unset, .unset, .unset, .unset, .unset]) rfl ?_
    show Steps p.tables e below (T6.setTop (mkF m 17 #[.val (.long q1), .second, .val (.int p2), .val (.int p3), .val (.int p4), .val (.ref w_IN), .unset, .unset, .unset, .unset, .unset, .unset] [])) _
    refine XS.iload X6.here hx rfl (hb hby at_17) rfl ?_
    show Steps p.tables e below (T6.setTop (mkF m 19 #[.val (.long q1), .second, .val (.int p2), .val (.int p3), .val (.int p4), .val (.ref w_IN), .unset, .unset, .unset, .unset, .unset, .unset] [(.int p4)])) _
    refine XS.bipush X6.here hx rfl (hb hby at_19) ?_
    show Steps p.tables e below (T6.setTop (mkF m 21 #[.val (.long q1), .second, .val (.int p2), .val (.int p3), .val (.int p4), .val (.ref w_IN), .unset, .unset, .unset, .unset, .unset, .unset] [(.int (7 : Int32)), (.int p4)])) _
    refine XS.iand X6.here hx rfl (hb hby at_21) rfl ?_
    show Steps p.tables e below (T6.setTop (mkF m 22 #[.val (.long q1), .second, .val (.int p2), .val (.int p3), .val (.int p4), .val (.ref w_IN), .unset, .unset, .unset, .unset, .unset, .unset] [(.int (p4 &&& (7 : Int32)))])) _
    refine XS.iconst X6.here hx rfl (hb hby at_22) ?_
    show Steps p.tables e below (T6.setTop (mkF m 23 #[.val (.long q1), .second, .val (.int p2), .val (.int p3), .val (.int p4), .val (.ref w_IN), .unset, .unset, .unset, .unset, .unset, .unset] [(.int (5 : Int32)), (.int (p4 &&& (7 : Int32)))])) _
    refine iremM X6 hx rfl (hb hby at_23) rfl (by decide) ?_
    rw [hk]
    show Steps p.tables e below (T6.setTop (mkF m 24 #[.val (.long q1), .second, .val (.int p2), .val (.int p3), .val (.int p4), .val (.ref w_IN), .unset, .unset, .unset, .unset, .unset, .unset] [(.int (4 : Int32))])) _
    refine XS.istore X6.here hx rfl (hb hby at_24) rfl (l' := #[.val (.long q1), .second, .val (.int p2), .val (.int p3), .val (.int p4), .val (.ref w_IN), .val (.int (4 : Int32)), .unset, .unset, .unset, .unset, .unset]) rfl ?_
    show Steps p.tables e below (T6.setTop (mkF m 26 #[.val (.long q1), .second, .val (.int p2), .val (.int p3), .val (.int p4), .val (.ref w_IN), .val (.int (4 : Int32)), .unset, .unset, .unset, .unset, .unset] [])) _
    refine XS.iload X6.here hx rfl (hb hby at_26) rfl ?_
    show Steps p.tables e below (T6.setTop (mkF m 28 #[.val (.long q1), .second, .val (.int p2), .val (.int p3), .val (.int p4), .val (.ref w_IN), .val (.int (4 : Int32)), .unset, .unset, .unset, .unset, .unset] [(.int (4 : Int32))])) _
    refine st7 _ ?_
    show Steps p.tables e below (T7.setTop (mkF m 30 #[.val (.long q1), .second, .val (.int p2), .val (.int p3), .val (.int p4), .val (.ref w_IN), .val (.int (4 : Int32)), .unset, .unset, .unset, .unset, .unset] [(.ref b7)])) _
    refine XS.astore X7.here hx rfl (hb hby at_30) rfl rfl (l' := #[.val (.long q1), .second, .val (.int p2), .val (.int p3), .val (.int p4), .val (.ref w_IN), .val (.int (4 : Int32)), .val (.ref b7), .unset, .unset, .unset, .unset]) rfl ?_
    show Steps p.tables e below (T7.setTop (mkF m 32 #[.val (.long q1), .second, .val (.int p2), .val (.int p3), .val (.int p4), .val (.ref w_IN), .val (.int (4 : Int32)), .val (.ref b7), .unset, .unset, .unset, .unset] [])) _
    refine XS.iload X7.here hx rfl (hb hby at_32) rfl ?_
    show Steps p.tables e below (T7.setTop (mkF m 34 #[.val (.long q1), .second, .val (.int p2), .val (.int p3), .val (.int p4), .val (.ref w_IN), .val (.int (4 : Int32)), .val (.ref b7), .unset, .unset, .unset, .unset] [(.int (4 : Int32))])) _
    refine XS.ifNo X7.here hx rfl (hb hby at_34) rfl ((if0 _ _).trans (tlt (by decide)).2.2.2) ?_
    show Steps p.tables e below (T7.setTop (mkF m 37 #[.val (.long q1), .second, .val (.int p2), .val (.int p3), .val (.int p4), .val (.ref w_IN), .val (.int (4 : Int32)), .val (.ref b7), .unset, .unset, .unset, .unset] [])) _
    refine XS.aload X7.here hx rfl (hb hby at_37) rfl rfl ?_
    show Steps p.tables e below (T7.setTop (mkF m 39 #[.val (.long q1), .second, .val (.int p2), .val (.int p3), .val (.int p4), .val (.ref w_IN), .val (.int (4 : Int32)), .val (.ref b7), .unset, .unset, .unset, .unset] [(.ref b7)])) _
    refine XS.iconst X7.here hx rfl (hb hby at_39) ?_
    show Steps p.tables e below (T7.setTop (mkF m 40 #[.val (.long q1), .second, .val (.int p2), .val (.int p3), .val (.int p4), .val (.ref w_IN), .val (.int (4 : Int32)), .val (.ref b7), .unset, .unset, .unset, .unset] [(.int (0 : Int32)), (.ref b7)])) _
    refine XS.iloadN X7.here hx rfl (hb hby at_40) rfl ?_
    show Steps p.tables e below (T7.setTop (mkF m 41 #[.val (.long q1), .second, .val (.int p2), .val (.int p3), .val (.int p4), .val (.ref w_IN), .val (.int (4 : Int32)), .val (.ref b7), .unset, .unset, .unset, .unset] [(.int p3), (.int (0 : Int32)), (.ref b7)])) _
    refine XS.iconst X7.here hx rfl (hb hby at_41) ?_
    show Steps p.tables e below (T7.setTop (mkF m 42 #[.val (.long q1), .second, .val (.int p2), .val (.int p3), .val (.int p4), .val (.ref w_IN), .val (.int (4 : Int32)), .val (.ref b7), .unset, .unset, .unset, .unset] [(.int (0 : Int32)), (.int p3), (.int (0 : Int32)), (.ref b7)])) _
    refine st8 _ ?_
    show Steps p.tables e below (T8.setTop (mkF m 45 #[.val (.long q1), .second, .val (.int p2), .val (.int p3), .val (.int p4), .val (.ref w_IN), .val (.int (4 : Int32)), .val (.ref b7), .unset, .unset, .unset, .unset] [(.int (atF p3 (0 : Int32))), (.int (0 : Int32)), (.ref b7)])) _
    refine st9 _ ?_
    show Steps p.tables e below (T9.setTop (mkF m 46 #[.val (.long q1), .second, .val (.int p2), .val (.int p3), .val (.int p4), .val (.ref w_IN), .val (.int (4 : Int32)), .val (.ref b7), .unset, .unset, .unset, .unset] [])) _
    refine XS.iload X9.here hx rfl (hb hby at_46) rfl ?_
    show Steps p.tables e below (T9.setTop (mkF m 48 #[.val (.long q1), .second, .val (.int p2), .val (.int p3), .val (.int p4), .val (.ref w_IN), .val (.int (4 : Int32)), .val (.ref b7), .unset, .unset, .unset, .unset] [(.int (4 : Int32))])) _
    refine XS.iconst X9.here hx rfl (hb hby at_48) ?_
    show Steps p.tables e below (T9.setTop (mkF m 49 #[.val (.long q1), .second, .val (.int p2), .val (.int p3), .val (.int p4), .val (.ref w_IN), .val (.int (4 : Int32)), .val (.ref b7), .unset, .unset, .unset, .unset] [(.int (1 : Int32)), (.int (4 : Int32))])) _
    refine XS.icmpNo X9.here hx rfl (hb hby at_49) rfl (tlt (by decide)).2.2.2 ?_
    show Steps p.tables e below (T9.setTop (mkF m 52 #[.val (.long q1), .second, .val (.int p2), .val (.int p3), .val (.int p4), .val (.ref w_IN), .val (.int (4 : Int32)), .val (.ref b7), .unset, .unset, .unset, .unset] [])) _
    refine XS.aload X9.here hx rfl (hb hby at_52) rfl rfl ?_
    show Steps p.tables e below (T9.setTop (mkF m 54 #[.val (.long q1), .second, .val (.int p2), .val (.int p3), .val (.int p4), .val (.ref w_IN), .val (.int (4 : Int32)), .val (.ref b7), .unset, .unset, .unset, .unset] [(.ref b7)])) _
    refine XS.iconst X9.here hx rfl (hb hby at_54) ?_
    show Steps p.tables e below (T9.setTop (mkF m 55 #[.val (.long q1), .second, .val (.int p2), .val (.int p3), .val (.int p4), .val (.ref w_IN), .val (.int (4 : Int32)), .val (.ref b7), .unset, .unset, .unset, .unset] [(.int (1 : Int32)), (.ref b7)])) _
    refine XS.iloadN X9.here hx rfl (hb hby at_55) rfl ?_
    show Steps p.tables e below (T9.setTop (mkF m 56 #[.val (.long q1), .second, .val (.int p2), .val (.int p3), .val (.int p4), .val (.ref w_IN), .val (.int (4 : Int32)), .val (.ref b7), .unset, .unset, .unset, .unset] [(.int p3), (.int (1 : Int32)), (.ref b7)])) _
    refine XS.iconst X9.here hx rfl (hb hby at_56) ?_
    show Steps p.tables e below (T9.setTop (mkF m 57 #[.val (.long q1), .second, .val (.int p2), .val (.int p3), .val (.int p4), .val (.ref w_IN), .val (.int (4 : Int32)), .val (.ref b7), .unset, .unset, .unset, .unset] [(.int (1 : Int32)), (.int p3), (.int (1 : Int32)), (.ref b7)])) _
    refine st10 _ ?_
    show Steps p.tables e below (T10.setTop (mkF m 60 #[.val (.long q1), .second, .val (.int p2), .val (.int p3), .val (.int p4), .val (.ref w_IN), .val (.int (4 : Int32)), .val (.ref b7), .unset, .unset, .unset, .unset] [(.int (atF p3 (1 : Int32))), (.int (1 : Int32)), (.ref b7)])) _
    refine st11 _ ?_
    show Steps p.tables e below (T11.setTop (mkF m 61 #[.val (.long q1), .second, .val (.int p2), .val (.int p3), .val (.int p4), .val (.ref w_IN), .val (.int (4 : Int32)), .val (.ref b7), .unset, .unset, .unset, .unset] [])) _
    refine XS.iload X11.here hx rfl (hb hby at_61) rfl ?_
    show Steps p.tables e below (T11.setTop (mkF m 63 #[.val (.long q1), .second, .val (.int p2), .val (.int p3), .val (.int p4), .val (.ref w_IN), .val (.int (4 : Int32)), .val (.ref b7), .unset, .unset, .unset, .unset] [(.int (4 : Int32))])) _
    refine XS.iconst X11.here hx rfl (hb hby at_63) ?_
    show Steps p.tables e below (T11.setTop (mkF m 64 #[.val (.long q1), .second, .val (.int p2), .val (.int p3), .val (.int p4), .val (.ref w_IN), .val (.int (4 : Int32)), .val (.ref b7), .unset, .unset, .unset, .unset] [(.int (2 : Int32)), (.int (4 : Int32))])) _
    refine XS.icmpNo X11.here hx rfl (hb hby at_64) rfl (tlt (by decide)).2.2.2 ?_
    show Steps p.tables e below (T11.setTop (mkF m 67 #[.val (.long q1), .second, .val (.int p2), .val (.int p3), .val (.int p4), .val (.ref w_IN), .val (.int (4 : Int32)), .val (.ref b7), .unset, .unset, .unset, .unset] [])) _
    refine XS.aload X11.here hx rfl (hb hby at_67) rfl rfl ?_
    show Steps p.tables e below (T11.setTop (mkF m 69 #[.val (.long q1), .second, .val (.int p2), .val (.int p3), .val (.int p4), .val (.ref w_IN), .val (.int (4 : Int32)), .val (.ref b7), .unset, .unset, .unset, .unset] [(.ref b7)])) _
    refine XS.iconst X11.here hx rfl (hb hby at_69) ?_
    show Steps p.tables e below (T11.setTop (mkF m 70 #[.val (.long q1), .second, .val (.int p2), .val (.int p3), .val (.int p4), .val (.ref w_IN), .val (.int (4 : Int32)), .val (.ref b7), .unset, .unset, .unset, .unset] [(.int (2 : Int32)), (.ref b7)])) _
    refine XS.iloadN X11.here hx rfl (hb hby at_70) rfl ?_
    show Steps p.tables e below (T11.setTop (mkF m 71 #[.val (.long q1), .second, .val (.int p2), .val (.int p3), .val (.int p4), .val (.ref w_IN), .val (.int (4 : Int32)), .val (.ref b7), .unset, .unset, .unset, .unset] [(.int p3), (.int (2 : Int32)), (.ref b7)])) _
    refine XS.iconst X11.here hx rfl (hb hby at_71) ?_
    show Steps p.tables e below (T11.setTop (mkF m 72 #[.val (.long q1), .second, .val (.int p2), .val (.int p3), .val (.int p4), .val (.ref w_IN), .val (.int (4 : Int32)), .val (.ref b7), .unset, .unset, .unset, .unset] [(.int (2 : Int32)), (.int p3), (.int (2 : Int32)), (.ref b7)])) _
    refine st12 _ ?_
    show Steps p.tables e below (T12.setTop (mkF m 75 #[.val (.long q1), .second, .val (.int p2), .val (.int p3), .val (.int p4), .val (.ref w_IN), .val (.int (4 : Int32)), .val (.ref b7), .unset, .unset, .unset, .unset] [(.int (atF p3 (2 : Int32))), (.int (2 : Int32)), (.ref b7)])) _
    refine st13 _ ?_
    show Steps p.tables e below (T13.setTop (mkF m 76 #[.val (.long q1), .second, .val (.int p2), .val (.int p3), .val (.int p4), .val (.ref w_IN), .val (.int (4 : Int32)), .val (.ref b7), .unset, .unset, .unset, .unset] [])) _
    refine XS.iload X13.here hx rfl (hb hby at_76) rfl ?_
    show Steps p.tables e below (T13.setTop (mkF m 78 #[.val (.long q1), .second, .val (.int p2), .val (.int p3), .val (.int p4), .val (.ref w_IN), .val (.int (4 : Int32)), .val (.ref b7), .unset, .unset, .unset, .unset] [(.int (4 : Int32))])) _
    refine XS.iconst X13.here hx rfl (hb hby at_78) ?_
    show Steps p.tables e below (T13.setTop (mkF m 79 #[.val (.long q1), .second, .val (.int p2), .val (.int p3), .val (.int p4), .val (.ref w_IN), .val (.int (4 : Int32)), .val (.ref b7), .unset, .unset, .unset, .unset] [(.int (3 : Int32)), (.int (4 : Int32))])) _
    refine XS.icmpNo X13.here hx rfl (hb hby at_79) rfl (tlt (by decide)).2.2.2 ?_
    show Steps p.tables e below (T13.setTop (mkF m 82 #[.val (.long q1), .second, .val (.int p2), .val (.int p3), .val (.int p4), .val (.ref w_IN), .val (.int (4 : Int32)), .val (.ref b7), .unset, .unset, .unset, .unset] [])) _
    refine XS.aload X13.here hx rfl (hb hby at_82) rfl rfl ?_
    show Steps p.tables e below (T13.setTop (mkF m 84 #[.val (.long q1), .second, .val (.int p2), .val (.int p3), .val (.int p4), .val (.ref w_IN), .val (.int (4 : Int32)), .val (.ref b7), .unset, .unset, .unset, .unset] [(.ref b7)])) _
    refine XS.iconst X13.here hx rfl (hb hby at_84) ?_
    show Steps p.tables e below (T13.setTop (mkF m 85 #[.val (.long q1), .second, .val (.int p2), .val (.int p3), .val (.int p4), .val (.ref w_IN), .val (.int (4 : Int32)), .val (.ref b7), .unset, .unset, .unset, .unset] [(.int (3 : Int32)), (.ref b7)])) _
    refine XS.iloadN X13.here hx rfl (hb hby at_85) rfl ?_
    show Steps p.tables e below (T13.setTop (mkF m 86 #[.val (.long q1), .second, .val (.int p2), .val (.int p3), .val (.int p4), .val (.ref w_IN), .val (.int (4 : Int32)), .val (.ref b7), .unset, .unset, .unset, .unset] [(.int p3), (.int (3 : Int32)), (.ref b7)])) _
    refine XS.iconst X13.here hx rfl (hb hby at_86) ?_
    show Steps p.tables e below (T13.setTop (mkF m 87 #[.val (.long q1), .second, .val (.int p2), .val (.int p3), .val (.int p4), .val (.ref w_IN), .val (.int (4 : Int32)), .val (.ref b7), .unset, .unset, .unset, .unset] [(.int (3 : Int32)), (.int p3), (.int (3 : Int32)), (.ref b7)])) _
    refine st14 _ ?_
    show Steps p.tables e below (T14.setTop (mkF m 90 #[.val (.long q1), .second, .val (.int p2), .val (.int p3), .val (.int p4), .val (.ref w_IN), .val (.int (4 : Int32)), .val (.ref b7), .unset, .unset, .unset, .unset] [(.int (atF p3 (3 : Int32))), (.int (3 : Int32)), (.ref b7)])) _
    refine st15 _ ?_
    show Steps p.tables e below (T15.setTop (mkF m 91 #[.val (.long q1), .second, .val (.int p2), .val (.int p3), .val (.int p4), .val (.ref w_IN), .val (.int (4 : Int32)), .val (.ref b7), .unset, .unset, .unset, .unset] [])) _
    refine XS.lloadN X15.here hx rfl (hb hby at_91) rfl ?_
    show Steps p.tables e below (T15.setTop (mkF m 92 #[.val (.long q1), .second, .val (.int p2), .val (.int p3), .val (.int p4), .val (.ref w_IN), .val (.int (4 : Int32)), .val (.ref b7), .unset, .unset, .unset, .unset] [(.long q1)])) _
    refine XS.aload X15.here hx rfl (hb hby at_92) rfl rfl ?_
    show Steps p.tables e below (T15.setTop (mkF m 94 #[.val (.long q1), .second, .val (.int p2), .val (.int p3), .val (.int p4), .val (.ref w_IN), .val (.int (4 : Int32)), .val (.ref b7), .unset, .unset, .unset, .unset] [(.ref w_IN), (.long q1)])) _
    refine XS.aload X15.here hx rfl (hb hby at_94) rfl rfl ?_
    show Steps p.tables e below (T15.setTop (mkF m 96 #[.val (.long q1), .second, .val (.int p2), .val (.int p3), .val (.int p4), .val (.ref w_IN), .val (.int (4 : Int32)), .val (.ref b7), .unset, .unset, .unset, .unset] [(.ref b7), (.ref w_IN), (.long q1)])) _
    refine st16.trans ?_
    show Steps p.tables e below (T16.setTop (mkF m 99 #[.val (.long q1), .second, .val (.int p2), .val (.int p3), .val (.int p4), .val (.ref w_IN), .val (.int (4 : Int32)), .val (.ref b7), .unset, .unset, .unset, .unset] [(.ref f)])) _
    refine XS.astore X16.here hx rfl (hb hby at_99) rfl rfl (l' := #[.val (.long q1), .second, .val (.int p2), .val (.int p3), .val (.int p4), .val (.ref w_IN), .val (.int (4 : Int32)), .val (.ref b7), .val (.ref f), .unset, .unset, .unset]) rfl ?_
    show Steps p.tables e below (T16.setTop (mkF m 101 #[.val (.long q1), .second, .val (.int p2), .val (.int p3), .val (.int p4), .val (.ref w_IN), .val (.int (4 : Int32)), .val (.ref b7), .val (.ref f), .unset, .unset, .unset] [])) _
    refine XS.aload X16.here hx rfl (hb hby at_101) rfl rfl ?_
    show Steps p.tables e below (T16.setTop (mkF m 103 #[.val (.long q1), .second, .val (.int p2), .val (.int p3), .val (.int p4), .val (.ref w_IN), .val (.int (4 : Int32)), .val (.ref b7), .val (.ref f), .unset, .unset, .unset] [(.ref b7)])) _
    refine st17 _ ?_
    show Steps p.tables e below (T17.setTop (mkF m 106 #[.val (.long q1), .second, .val (.int p2), .val (.int p3), .val (.int p4), .val (.ref w_IN), .val (.int (4 : Int32)), .val (.ref b7), .val (.ref f), .unset, .unset, .unset] [])) _
    refine XS.aload X17.here hx rfl (hb hby at_106) rfl rfl ?_
    show Steps p.tables e below (T17.setTop (mkF m 108 #[.val (.long q1), .second, .val (.int p2), .val (.int p3), .val (.int p4), .val (.ref w_IN), .val (.int (4 : Int32)), .val (.ref b7), .val (.ref f), .unset, .unset, .unset] [(.ref f)])) _
    refine st18.trans ?_
    show Steps p.tables e below (T18.setTop (mkF m 111 #[.val (.long q1), .second, .val (.int p2), .val (.int p3), .val (.int p4), .val (.ref w_IN), .val (.int (4 : Int32)), .val (.ref b7), .val (.ref f), .unset, .unset, .unset] [(.ref o1)])) _
    refine XS.astore X18.here hx rfl (hb hby at_111) rfl rfl (l' := #[.val (.long q1), .second, .val (.int p2), .val (.int p3), .val (.int p4), .val (.ref w_IN), .val (.int (4 : Int32)), .val (.ref b7), .val (.ref f), .val (.ref o1), .unset, .unset]) rfl ?_
    show Steps p.tables e below (T18.setTop (mkF m 113 #[.val (.long q1), .second, .val (.int p2), .val (.int p3), .val (.int p4), .val (.ref w_IN), .val (.int (4 : Int32)), .val (.ref b7), .val (.ref f), .val (.ref o1), .unset, .unset] [])) _
    refine XS.aload X18.here hx rfl (hb hby at_113) rfl rfl ?_
    show Steps p.tables e below (T18.setTop (mkF m 115 #[.val (.long q1), .second, .val (.int p2), .val (.int p3), .val (.int p4), .val (.ref w_IN), .val (.int (4 : Int32)), .val (.ref b7), .val (.ref f), .val (.ref o1), .unset, .unset] [(.ref o1)])) _
    refine XS.iload X18.here hx rfl (hb hby at_115) rfl ?_
    show Steps p.tables e below (T18.setTop (mkF m 117 #[.val (.long q1), .second, .val (.int p2), .val (.int p3), .val (.int p4), .val (.ref w_IN), .val (.int (4 : Int32)), .val (.ref b7), .val (.ref f), .val (.ref o1), .unset, .unset] [(.int (4 : Int32)), (.ref o1)])) _
    refine XS.iloadN X18.here hx rfl (hb hby at_117) rfl ?_
    show Steps p.tables e below (T18.setTop (mkF m 118 #[.val (.long q1), .second, .val (.int p2), .val (.int p3), .val (.int p4), .val (.ref w_IN), .val (.int (4 : Int32)), .val (.ref b7), .val (.ref f), .val (.ref o1), .unset, .unset] [(.int p3), (.int (4 : Int32)), (.ref o1)])) _
    refine st19 _ ?_
    show Steps p.tables e below (T19.setTop (mkF m 121 #[.val (.long q1), .second, .val (.int p2), .val (.int p3), .val (.int p4), .val (.ref w_IN), .val (.int (4 : Int32)), .val (.ref b7), .val (.ref f), .val (.ref o1), .unset, .unset] [(.int (1 : Int32))])) _
    refine XS.istore X19.here hx rfl (hb hby at_121) rfl (l' := #[.val (.long q1), .second, .val (.int p2), .val (.int p3), .val (.int p4), .val (.ref w_IN), .val (.int (4 : Int32)), .val (.ref b7), .val (.ref f), .val (.ref o1), .val (.int (1 : Int32)), .unset]) rfl ?_
    show Steps p.tables e below (T19.setTop (mkF m 123 #[.val (.long q1), .second, .val (.int p2), .val (.int p3), .val (.int p4), .val (.ref w_IN), .val (.int (4 : Int32)), .val (.ref b7), .val (.ref f), .val (.ref o1), .val (.int (1 : Int32)), .unset] [])) _
    refine XS.aload X19.here hx rfl (hb hby at_123) rfl rfl ?_
    show Steps p.tables e below (T19.setTop (mkF m 125 #[.val (.long q1), .second, .val (.int p2), .val (.int p3), .val (.int p4), .val (.ref w_IN), .val (.int (4 : Int32)), .val (.ref b7), .val (.ref f), .val (.ref o1), .val (.int (1 : Int32)), .unset] [(.ref o1)])) _
    refine st20 _ ?_
    show Steps p.tables e below (T20.setTop (mkF m 128 #[.val (.long q1), .second, .val (.int p2), .val (.int p3), .val (.int p4), .val (.ref w_IN), .val (.int (4 : Int32)), .val (.ref b7), .val (.ref f), .val (.ref o1), .val (.int (1 : Int32)), .unset] [])) _
    refine XS.aload X20.here hx rfl (hb hby at_128) rfl rfl ?_
    show Steps p.tables e below (T20.setTop (mkF m 130 #[.val (.long q1), .second, .val (.int p2), .val (.int p3), .val (.int p4), .val (.ref w_IN), .val (.int (4 : Int32)), .val (.ref b7), .val (.ref f), .val (.ref o1), .val (.int (1 : Int32)), .unset] [(.ref f)])) _
    refine st21.trans ?_
    show Steps p.tables e below (T21.setTop (mkF m 133 #[.val (.long q1), .second, .val (.int p2), .val (.int p3), .val (.int p4), .val (.ref w_IN), .val (.int (4 : Int32)), .val (.ref b7), .val (.ref f), .val (.ref o1), .val (.int (1 : Int32)), .unset] [(.ref o2)])) _
    refine XS.astore X21.here hx rfl (hb hby at_133) rfl rfl (l' := #[.val (.long q1), .second, .val (.int p2), .val (.int p3), .val (.int p4), .val (.ref w_IN), .val (.int (4 : Int32)), .val (.ref b7), .val (.ref f), .val (.ref o1), .val (.int (1 : Int32)), .val (.ref o2)]) rfl ?_
    show Steps p.tables e below (T21.setTop (mkF m 135 #[.val (.long q1), .second, .val (.int p2), .val (.int p3), .val (.int p4), .val (.ref w_IN), .val (.int (4 : Int32)), .val (.ref b7), .val (.ref f), .val (.ref o1), .val (.int (1 : Int32)), .val (.ref o2)] [])) _
    refine XS.iload X21.here hx rfl (hb hby at_135) rfl ?_
    show Steps p.tables e below (T21.setTop (mkF m 137 #[.val (.long q1), .second, .val (.int p2), .val (.int p3), .val (.int p4), .val (.ref w_IN), .val (.int (4 : Int32)), .val (.ref b7), .val (.ref f), .val (.ref o1), .val (.int (1 : Int32)), .val (.ref o2)] [(.int (1 : Int32))])) _
    refine XS.ifNo X21.here hx rfl (hb hby at_137) rfl ((if0 _ _).trans (feq (by decide)).1) ?_
    show Steps p.tables e below (T21.setTop (mkF m 140 #[.val (.long q1), .second, .val (.int p2), .val (.int p3), .val (.int p4), .val (.ref w_IN), .val (.int (4 : Int32)), .val (.ref b7), .val (.ref f), .val (.ref o1), .val (.int (1 : Int32)), .val (.ref o2)] [])) _
    refine XS.aload X21.here hx rfl (hb hby at_140) rfl rfl ?_
    show Steps p.tables e below (T21.setTop (mkF m 142 #[.val (.long q1), .second, .val (.int p2), .val (.int p3), .val (.int p4), .val (.ref w_IN), .val (.int (4 : Int32)), .val (.ref b7), .val (.ref f), .val (.ref o1), .val (.int (1 : Int32)), .val (.ref o2)] [(.ref o2)])) _
    refine XS.iload X21.here hx rfl (hb hby at_142) rfl ?_
    show Steps p.tables e below (T21.setTop (mkF m 144 #[.val (.long q1), .second, .val (.int p2), .val (.int p3), .val (.int p4), .val (.ref w_IN), .val (.int (4 : Int32)), .val (.ref b7), .val (.ref f), .val (.ref o1), .val (.int (1 : Int32)), .val (.ref o2)] [(.int (4 : Int32)), (.ref o2)])) _
    refine XS.iloadN X21.here hx rfl (hb hby at_144) rfl ?_
    show Steps p.tables e below (T21.setTop (mkF m 145 #[.val (.long q1), .second, .val (.int p2), .val (.int p3), .val (.int p4), .val (.ref w_IN), .val (.int (4 : Int32)), .val (.ref b7), .val (.ref f), .val (.ref o1), .val (.int (1 : Int32)), .val (.ref o2)] [(.int p3), (.int (4 : Int32)), (.ref o2)])) _
    refine st22 _ ?_
    show Steps p.tables e below (T22.setTop (mkF m 148 #[.val (.long q1), .second, .val (.int p2), .val (.int p3), .val (.int p4), .val (.ref w_IN), .val (.int (4 : Int32)), .val (.ref b7), .val (.ref f), .val (.ref o1), .val (.int (1 : Int32)), .val (.ref o2)] [(.int (1 : Int32))])) _
    refine XS.ifNo X22.here hx rfl (hb hby at_148) rfl ((if0 _ _).trans (feq (by decide)).1) ?_
    show Steps p.tables e below (T22.setTop (mkF m 151 #[.val (.long q1), .second, .val (.int p2), .val (.int p3), .val (.int p4), .val (.ref w_IN), .val (.int (4 : Int32)), .val (.ref b7), .val (.ref f), .val (.ref o1), .val (.int (1 : Int32)), .val (.ref o2)] [])) _
    refine XS.iconst X22.here hx rfl (hb hby at_151) ?_
    show Steps p.tables e below (T22.setTop (mkF m 152 #[.val (.long q1), .second, .val (.int p2), .val (.int p3), .val (.int p4), .val (.ref w_IN), .val (.int (4 : Int32)), .val (.ref b7), .val (.ref f), .val (.ref o1), .val (.int (1 : Int32)), .val (.ref o2)] [(.int (1 : Int32))])) _
    refine XS.goto X22.here hx rfl (pc0 := 152) (pc' := 156) rfl (hb hby at_152) (by decide) (by decide) ?_
    show Steps p.tables e below (T22.setTop (mkF m 156 #[.val (.long q1), .second, .val (.int p2), .val (.int p3), .val (.int p4), .val (.ref w_IN), .val (.int (4 : Int32)), .val (.ref b7), .val (.ref f), .val (.ref o1), .val (.int (1 : Int32)), .val (.ref o2)] [(.int (1 : Int32))])) _
    refine XS.istore X22.here hx rfl (hb hby at_156) rfl (l' := #[.val (.long q1), .second, .val (.int p2), .val (.int p3), .val (.int p4), .val (.ref w_IN), .val (.int (4 : Int32)), .val (.ref b7), .val (.ref f), .val (.ref o1), .val (.int (1 : Int32)), .val (.ref o2)]) rfl ?_
    show Steps p.tables e below (T22.setTop (mkF m 158 #[.val (.long q1), .second, .val (.int p2), .val (.int p3), .val (.int p4), .val (.ref w_IN), .val (.int (4 : Int32)), .val (.ref b7), .val (.ref f), .val (.ref o1), .val (.int (1 : Int32)), .val (.ref o2)] [])) _
    refine XS.iload X22.here hx rfl (hb hby at_158) rfl ?_
    show Steps p.tables e below (T22.setTop (mkF m 160 #[.val (.long q1), .second, .val (.int p2), .val (.int p3), .val (.int p4), .val (.ref w_IN), .val (.int (4 : Int32)), .val (.ref b7), .val (.ref f), .val (.ref o1), .val (.int (1 : Int32)), .val (.ref o2)] [(.int (1 : Int32))])) _
    refine XS.ifNo X22.here hx rfl (hb hby at_160) rfl ((if0 _ _).trans (feq (by decide)).1) ?_
    show Steps p.tables e below (T22.setTop (mkF m 163 #[.val (.long q1), .second, .val (.int p2), .val (.int p3), .val (.int p4), .val (.ref w_IN), .val (.int (4 : Int32)), .val (.ref b7), .val (.ref f), .val (.ref o1), .val (.int (1 : Int32)), .val (.ref o2)] [])) _
    refine XS.aload X22.here hx rfl (hb hby at_163) rfl rfl ?_
    show Steps p.tables e below (T22.setTop (mkF m 165 #[.val (.long q1), .second, .val (.int p2), .val (.int p3), .val (.int p4), .val (.ref w_IN), .val (.int (4 : Int32)), .val (.ref b7), .val (.ref f), .val (.ref o1), .val (.int (1 : Int32)), .val (.ref o2)] [(.ref f)])) _
    refine st23.trans ?_
    show Steps p.tables e below (T23.setTop (mkF m 168 #[.val (.long q1), .second, .val (.int p2), .val (.int p3), .val (.int p4), .val (.ref w_IN), .val (.int (4 : Int32)), .val (.ref b7), .val (.ref f), .val (.ref o1), .val (.int (1 : Int32)), .val (.ref o2)] [(.long q1)])) _
    refine XS.lloadN X23.here hx rfl (hb hby at_168) rfl ?_
    show Steps p.tables e below (T23.setTop (mkF m 169 #[.val (.long q1), .second, .val (.int p2), .val (.int p3), .val (.int p4), .val (.ref w_IN), .val (.int (4 : Int32)), .val (.ref b7), .val (.ref f), .val (.ref o1), .val (.int (1 : Int32)), .val (.ref o2)] [(.long q1), (.long q1)])) _
    refine XS.lcmp X23.here hx rfl (hb hby at_169) rfl ?_
    show Steps p.tables e below (T23.setTop (mkF m 170 #[.val (.long q1), .second, .val (.int p2), .val (.int p3), .val (.int p4), .val (.ref w_IN), .val (.int (4 : Int32)), .val (.ref b7), .val (.ref f), .val (.ref o1), .val (.int (1 : Int32)), .val (.ref o2)] [(.int (lcmpW q1 q1))])) _
    refine XS.ifNo X23.here hx rfl (hb hby at_170) rfl ((if0 _ _).trans (teq ((lw_eq q1 q1).mpr rfl)).2) ?_
    show Steps p.tables e below (T23.setTop (mkF m 173 #[.val (.long q1), .second, .val (.int p2), .val (.int p3), .val (.int p4), .val (.ref w_IN), .val (.int (4 : Int32)), .val (.ref b7), .val (.ref f), .val (.ref o1), .val (.int (1 : Int32)), .val (.ref o2)] [])) _
    refine XS.iconst X23.here hx rfl (hb hby at_173) ?_
    show Steps p.tables e below (T23.setTop (mkF m 174 #[.val (.long q1), .second, .val (.int p2), .val (.int p3), .val (.int p4), .val (.ref w_IN), .val (.int (4 : Int32)), .val (.ref b7), .val (.ref f), .val (.ref o1), .val (.int (1 : Int32)), .val (.ref o2)] [(.int (1 : Int32))])) _
    refine XS.goto X23.here hx rfl (pc0 := 174) (pc' := 178) rfl (hb hby at_174) (by decide) (by decide) ?_
    show Steps p.tables e below (T23.setTop (mkF m 178 #[.val (.long q1), .second, .val (.int p2), .val (.int p3), .val (.int p4), .val (.ref w_IN), .val (.int (4 : Int32)), .val (.ref b7), .val (.ref f), .val (.ref o1), .val (.int (1 : Int32)), .val (.ref o2)] [(.int (1 : Int32))])) _
    refine XS.istore X23.here hx rfl (hb hby at_178) rfl (l' := #[.val (.long q1), .second, .val (.int p2), .val (.int p3), .val (.int p4), .val (.ref w_IN), .val (.int (4 : Int32)), .val (.ref b7), .val (.ref f), .val (.ref o1), .val (.int (1 : Int32)), .val (.ref o2)]) rfl ?_
    show Steps p.tables e below (T23.setTop (mkF m 180 #[.val (.long q1), .second, .val (.int p2), .val (.int p3), .val (.int p4), .val (.ref w_IN), .val (.int (4 : Int32)), .val (.ref b7), .val (.ref f), .val (.ref o1), .val (.int (1 : Int32)), .val (.ref o2)] [])) _
    refine XS.iload X23.here hx rfl (hb hby at_180) rfl ?_
    show Steps p.tables e below (T23.setTop (mkF m 182 #[.val (.long q1), .second, .val (.int p2), .val (.int p3), .val (.int p4), .val (.ref w_IN), .val (.int (4 : Int32)), .val (.ref b7), .val (.ref f), .val (.ref o1), .val (.int (1 : Int32)), .val (.ref o2)] [(.int (1 : Int32))])) _
    refine XS.ifNo X23.here hx rfl (hb hby at_182) rfl ((if0 _ _).trans (feq (by decide)).1) ?_
    show Steps p.tables e below (T23.setTop (mkF m 185 #[.val (.long q1), .second, .val (.int p2), .val (.int p3), .val (.int p4), .val (.ref w_IN), .val (.int (4 : Int32)), .val (.ref b7), .val (.ref f), .val (.ref o1), .val (.int (1 : Int32)), .val (.ref o2)] [])) _
    refine XS.aload X23.here hx rfl (hb hby at_185) rfl rfl ?_
    show Steps p.tables e below (T23.setTop (mkF m 187 #[.val (.long q1), .second, .val (.int p2), .val (.int p3), .val (.int p4), .val (.ref w_IN), .val (.int (4 : Int32)), .val (.ref b7), .val (.ref f), .val (.ref o1), .val (.int (1 : Int32)), .val (.ref o2)] [(.ref f)])) _
    refine st24.trans ?_
    show Steps p.tables e below (T24.setTop (mkF m 190 #[.val (.long q1), .second, .val (.int p2), .val (.int p3), .val (.int p4), .val (.ref w_IN), .val (.int (4 : Int32)), .val (.ref b7), .val (.ref f), .val (.ref o1), .val (.int (1 : Int32)), .val (.ref o2)] [(.ref w_IN)])) _
    refine XS.aload X24.here hx rfl (hb hby at_190) rfl rfl ?_
    show Steps p.tables e below (T24.setTop (mkF m 192 #[.val (.long q1), .second, .val (.int p2), .val (.int p3), .val (.int p4), .val (.ref w_IN), .val (.int (4 : Int32)), .val (.ref b7), .val (.ref f), .val (.ref o1), .val (.int (1 : Int32)), .val (.ref o2)] [(.ref w_IN), (.ref w_IN)])) _
    refine Jvm.RoadKit.acmp (g := (mkF m 192 #[.val (.long q1), .second, .val (.int p2), .val (.int p3), .val (.int p4), .val (.ref w_IN), .val (.int (4 : Int32)), .val (.ref b7), .val (.ref f), .val (.ref o1), .val (.int (1 : Int32)), .val (.ref o2)] [(.ref w_IN), (.ref w_IN)])) X24 hx rfl rfl rfl (pc0 := 192) (pc' := 195) (same := true) rfl (hb hby at_192) rfl (decide_eq_true rfl) (by decide) (by decide) ?_
    show Steps p.tables e below (T24.setTop (mkF m 195 #[.val (.long q1), .second, .val (.int p2), .val (.int p3), .val (.int p4), .val (.ref w_IN), .val (.int (4 : Int32)), .val (.ref b7), .val (.ref f), .val (.ref o1), .val (.int (1 : Int32)), .val (.ref o2)] [])) _
    refine XS.iconst X24.here hx rfl (hb hby at_195) ?_
    show Steps p.tables e below (T24.setTop (mkF m 196 #[.val (.long q1), .second, .val (.int p2), .val (.int p3), .val (.int p4), .val (.ref w_IN), .val (.int (4 : Int32)), .val (.ref b7), .val (.ref f), .val (.ref o1), .val (.int (1 : Int32)), .val (.ref o2)] [(.int (1 : Int32))])) _
    refine XS.goto X24.here hx rfl (pc0 := 196) (pc' := 200) rfl (hb hby at_196) (by decide) (by decide) ?_
    show Steps p.tables e below (T24.setTop (mkF m 200 #[.val (.long q1), .second, .val (.int p2), .val (.int p3), .val (.int p4), .val (.ref w_IN), .val (.int (4 : Int32)), .val (.ref b7), .val (.ref f), .val (.ref o1), .val (.int (1 : Int32)), .val (.ref o2)] [(.int (1 : Int32))])) _
    refine XS.istore X24.here hx rfl (hb hby at_200) rfl (l' := #[.val (.long q1), .second, .val (.int p2), .val (.int p3), .val (.int p4), .val (.ref w_IN), .val (.int (4 : Int32)), .val (.ref b7), .val (.ref f), .val (.ref o1), .val (.int (1 : Int32)), .val (.ref o2)]) rfl ?_
    show Steps p.tables e below (T24.setTop (mkF m 202 #[.val (.long q1), .second, .val (.int p2), .val (.int p3), .val (.int p4), .val (.ref w_IN), .val (.int (4 : Int32)), .val (.ref b7), .val (.ref f), .val (.ref o1), .val (.int (1 : Int32)), .val (.ref o2)] [])) _
    refine XS.iload X24.here hx rfl (hb hby at_202) rfl ?_
    show Steps p.tables e below (T24.setTop (mkF m 204 #[.val (.long q1), .second, .val (.int p2), .val (.int p3), .val (.int p4), .val (.ref w_IN), .val (.int (4 : Int32)), .val (.ref b7), .val (.ref f), .val (.ref o1), .val (.int (1 : Int32)), .val (.ref o2)] [(.int (1 : Int32))])) _
    refine XS.ifNo X24.here hx rfl (hb hby at_204) rfl ((if0 _ _).trans (feq (by decide)).1) ?_
    show Steps p.tables e below (T24.setTop (mkF m 207 #[.val (.long q1), .second, .val (.int p2), .val (.int p3), .val (.int p4), .val (.ref w_IN), .val (.int (4 : Int32)), .val (.ref b7), .val (.ref f), .val (.ref o1), .val (.int (1 : Int32)), .val (.ref o2)] [])) _
    refine XS.aload X24.here hx rfl (hb hby at_207) rfl rfl ?_
    show Steps p.tables e below (T24.setTop (mkF m 209 #[.val (.long q1), .second, .val (.int p2), .val (.int p3), .val (.int p4), .val (.ref w_IN), .val (.int (4 : Int32)), .val (.ref b7), .val (.ref f), .val (.ref o1), .val (.int (1 : Int32)), .val (.ref o2)] [(.ref f)])) _
    refine st25.trans ?_
    show Steps p.tables e below (T25.setTop (mkF m 212 #[.val (.long q1), .second, .val (.int p2), .val (.int p3), .val (.int p4), .val (.ref w_IN), .val (.int (4 : Int32)), .val (.ref b7), .val (.ref f), .val (.ref o1), .val (.int (1 : Int32)), .val (.ref o2)] [(.int (0 : Int32))])) _
    refine XS.ifNo X25.here hx rfl (hb hby at_212) rfl ((if0 _ _).trans (teq (by decide)).2) ?_
    show Steps p.tables e below (T25.setTop (mkF m 215 #[.val (.long q1), .second, .val (.int p2), .val (.int p3), .val (.int p4), .val (.ref w_IN), .val (.int (4 : Int32)), .val (.ref b7), .val (.ref f), .val (.ref o1), .val (.int (1 : Int32)), .val (.ref o2)] [])) _
    refine XS.iconst X25.here hx rfl (hb hby at_215) ?_
    show Steps p.tables e below (T25.setTop (mkF m 216 #[.val (.long q1), .second, .val (.int p2), .val (.int p3), .val (.int p4), .val (.ref w_IN), .val (.int (4 : Int32)), .val (.ref b7), .val (.ref f), .val (.ref o1), .val (.int (1 : Int32)), .val (.ref o2)] [(.int (1 : Int32))])) _
    refine XS.goto X25.here hx rfl (pc0 := 216) (pc' := 220) rfl (hb hby at_216) (by decide) (by decide) ?_
    show Steps p.tables e below (T25.setTop (mkF m 220 #[.val (.long q1), .second, .val (.int p2), .val (.int p3), .val (.int p4), .val (.ref w_IN), .val (.int (4 : Int32)), .val (.ref b7), .val (.ref f), .val (.ref o1), .val (.int (1 : Int32)), .val (.ref o2)] [(.int (1 : Int32))])) _
    refine XS.istore X25.here hx rfl (hb hby at_220) rfl (l' := #[.val (.long q1), .second, .val (.int p2), .val (.int p3), .val (.int p4), .val (.ref w_IN), .val (.int (4 : Int32)), .val (.ref b7), .val (.ref f), .val (.ref o1), .val (.int (1 : Int32)), .val (.ref o2)]) rfl ?_
    show Steps p.tables e below (T25.setTop (mkF m 222 #[.val (.long q1), .second, .val (.int p2), .val (.int p3), .val (.int p4), .val (.ref w_IN), .val (.int (4 : Int32)), .val (.ref b7), .val (.ref f), .val (.ref o1), .val (.int (1 : Int32)), .val (.ref o2)] [])) _
    refine XS.iload X25.here hx rfl (hb hby at_222) rfl ?_
    show Steps p.tables e below (T25.setTop (mkF m 224 #[.val (.long q1), .second, .val (.int p2), .val (.int p3), .val (.int p4), .val (.ref w_IN), .val (.int (4 : Int32)), .val (.ref b7), .val (.ref f), .val (.ref o1), .val (.int (1 : Int32)), .val (.ref o2)] [(.int (1 : Int32))])) _
    exact retN X25 hx (t := .boolean) Bd.returns (by simp) (hb hby at_224) hr
  · show Q0 Z h0 n0 _ T25.heap _
    exact ⟨rfl, N25⟩
set_option maxRecDepth 65536 in
set_option maxHeartbeats 40000000 in
theorem rm0 (l : Launch) (Z : State) (a0 : Array Value) (hw : ∀ d ∈ tables_1, d.before a0 Z = true) (ws : List Jvm.Cond) (q1 : Int64) (p2 : Int32) (p3 : Int32) (p4 : Int32) (w_OUT : Addr) (w_IN : Addr) (h0 : Heap) (n0 : Nat) (Z0 : n0 ≤ h0.size) (S_OUT : Sta Z h0 "com/example/quotewire/quotewire/wire/Frame$Direction" "OUT" "Lcom/example/quotewire/quotewire/wire/Frame$Direction;" (.ref w_OUT)) (S_IN : Sta Z h0 "com/example/quotewire/quotewire/wire/Frame$Direction" "IN" "Lcom/example/quotewire/quotewire/wire/Frame$Direction;" (.ref w_IN)) (E_OUT : Exa Z h0 w_OUT "com/example/quotewire/quotewire/wire/Frame$Direction") (E_IN : Exa Z h0 w_IN "com/example/quotewire/quotewire/wire/Frame$Direction") :
    MetFree l x (head1 (Jvm.Cond.code x code maxLocals ret :: ws) room_1) (fun a U => a = #[(.long q1), (.int p2), (.int p3), (.int p4)] ∧ Z.Warmed39 U.vm ∧ U.heap = h0) (fun _ _ _ _ _ => True) (fun _ U o U' => ∃ v L, o = .returned v ∧ Q0 Z h0 n0 v U'.heap L ∧ ReturnedEndW U o U' L room_1.cells room_1.slots) := by
  by_cases hc3 : (p2 &&& (1 : Int32)) = (0 : Int32)
  · rcases own_k p4 with hk | hk | hk | hk | hk
    · exact rm0_IN_0 l Z a0 hw ws q1 p2 p3 p4 w_IN h0 n0 Z0 S_IN E_IN hc3 hk
    · exact rm0_IN_1 l Z a0 hw ws q1 p2 p3 p4 w_IN h0 n0 Z0 S_IN E_IN hc3 hk
    · exact rm0_IN_2 l Z a0 hw ws q1 p2 p3 p4 w_IN h0 n0 Z0 S_IN E_IN hc3 hk
    · exact rm0_IN_3 l Z a0 hw ws q1 p2 p3 p4 w_IN h0 n0 Z0 S_IN E_IN hc3 hk
    · exact rm0_IN_4 l Z a0 hw ws q1 p2 p3 p4 w_IN h0 n0 Z0 S_IN E_IN hc3 hk
  · rcases own_k p4 with hk | hk | hk | hk | hk
    · exact rm0_OUT_0 l Z a0 hw ws q1 p2 p3 p4 w_OUT h0 n0 Z0 S_OUT E_OUT hc3 hk
    · exact rm0_OUT_1 l Z a0 hw ws q1 p2 p3 p4 w_OUT h0 n0 Z0 S_OUT E_OUT hc3 hk
    · exact rm0_OUT_2 l Z a0 hw ws q1 p2 p3 p4 w_OUT h0 n0 Z0 S_OUT E_OUT hc3 hk
    · exact rm0_OUT_3 l Z a0 hw ws q1 p2 p3 p4 w_OUT h0 n0 Z0 S_OUT E_OUT hc3 hk
    · exact rm0_OUT_4 l Z a0 hw ws q1 p2 p3 p4 w_OUT h0 n0 Z0 S_OUT E_OUT hc3 hk
set_option maxRecDepth 65536 in
set_option maxHeartbeats 40000000 in
theorem comes_1 {Post : Tables → Env → Array Value → State → Outcome → State → Prop} (hpost : ∀ tb e args s v u, (limb_1_1.after args s (.returned v) u = true ∧ limb_1_2.after args s (.returned v) u = true ∧ True) → ReturnedEndW s (.returned v) u (Jvm.fieldLocs frame_1_writes args s ++ Jvm.arrayLocs frame_1_arrays args s ++ Jvm.staticLocs frame_1_statics s) 24 1152 → Post tb e args s (.returned v) u) :
    ArmFor flags0 classFile x code maxLocals ret World_1 tables_1 room_1 Calls_1 rest_1 Pre_1 Post := by
  intro l hfl _ _ p e ha hc hk s m args below hf hA hF happ hP
  obtain ⟨hcalls, hrest, hpre⟩ := hP
  obtain ⟨-, -, -, hnamed, -, -, -, hat⟩ := (Spec.applies_iff hf).mp happ
  obtain ⟨hg, hn⟩ := and_e (Cond.before_iff.mp (show (Jvm.Cond.and given_1 narrow_1).before args s = true from hpre))
  obtain ⟨g18, g19⟩ := and_e hg
  obtain ⟨g20, g21⟩ := and_e g19
  obtain ⟨g22, g23⟩ := and_e g21
  obtain ⟨g24, g25⟩ := and_e g23
  obtain ⟨w0, w1, w2, w3, rfl⟩ : ∃ w0 w1 w2 w3 : Value, args = #[w0, w1, w2, w3] := by
    have hs : args.size = 4 := by simpa [Cond.value, given_1] using g18
    obtain ⟨L⟩ := args
    match L, hs with
    | [w0, w1, w2, w3], _ => exact ⟨w0, w1, w2, w3, rfl⟩
  have hw := fun d (hd : d ∈ tables_1) => atoms_spec (ws := Jvm.Cond.code x code maxLocals ret :: tables_1) hat d (List.mem_cons_of_mem _ hd)
  have hfit : Fit s := fun {y c} hc i hi => by
    obtain ⟨ha, rfl⟩ := Array.getElem?_eq_some_iff.mp hc
    have q := List.all_eq_true.mp ((Array.all_eq_true_iff_forall_mem.mp hF) _ (Array.getElem_mem ha)) i (List.mem_range.mpr hi)
    simpa [Array.getElem?_eq_getElem hi] using q
  obtain ⟨i0, ei0⟩ := isL_v g20
  obtain rfl : w0 = (.long i0) := Option.some.inj ei0
  obtain ⟨i1, ei1⟩ := is_v g22
  obtain rfl : w1 = (.int i1) := Option.some.inj ei1
  obtain ⟨i2, ei2⟩ := is_v g24
  obtain rfl : w2 = (.int i2) := Option.some.inj ei2
  obtain ⟨i3, ei3⟩ := is_v g25
  obtain rfl : w3 = (.int i3) := Option.some.inj ei3
  obtain ⟨hn0, hn⟩ := and_e hn
  have hn1 := hn
  obtain ⟨w_IN, ev_IN⟩ := exa_v hn0
  have E_IN := Exa.start ev_IN hn0
  have S_IN := Sta.start ev_IN (Or.inr ⟨hw _ (List.mem_of_getElem? (i := 1) rfl), hw _ (List.mem_of_getElem? (i := 2) rfl)⟩)
  obtain ⟨w_OUT, ev_OUT⟩ := exa_v hn1
  have E_OUT := Exa.start ev_OUT hn1
  have S_OUT := Sta.start ev_OUT (Or.inr ⟨hw _ (List.mem_of_getElem? (i := 1) rfl), hw _ (List.mem_of_getElem? (i := 77) rfl)⟩)
  obtain ⟨n, o, h1, h2, h3, _, L, rfl, ⟨rfl, N⟩, hq⟩ := rm0 l s _ hw tables_1 i0 i1 i2 i3 w_OUT w_IN s.heap s.heap.size (Nat.le_refl _) S_OUT S_IN E_OUT E_IN p e ha hc hk s m _ below hf ((Spec.applies_iff_loose hf).mp happ).1 ⟨rfl, State.Warmed39.refl s, rfl⟩ trivial
  refine ⟨n, _, h1, h2, h3, hpost _ _ _ _ _ _ ⟨Cond.after_iff.mpr rfl, Cond.after_iff.mpr (eq_i res_at (Term.int_eval (1)) rfl), trivial⟩ ⟨hq.1, hq.2.1, hq.2.2.1, (hq.2.2.2.sift fun y hy => Or.inr (N y hy)).mono (by decide) (by decide)⟩⟩
theorem main_1_1 : Claimed_1_1 := comes_1 fun _ _ _ _ _ _ h hF => ⟨h.1, hF⟩
theorem main_1_2 : Claimed_1_2 := comes_1 fun _ _ _ _ _ _ h hF => ⟨h.2.1, hF⟩

end Jvm.Pilot.@@N@@
namespace Jvm.Pilot.@@N@@
open Jvm Jvm.ClassFile Sem Op Lib Jvm.Free Jvm.Stand Jvm.Pilot.@@N@@.Jvm.D
/-! MADE BY PROGRAM (witnessworld.py) out of the Statement's table words and the real class files: 17 classes; the members and pool entries that the words name. The judged class is class 1, her method 4. -/
namespace start1
open Jvm.ClassFile
def u (s : String) : CpInfo := .utf8 (stringToUtf16 s)
/-- a pool by its gaps: so many unusable entries, then the entry; so many at the end -/
def gap : Nat → List CpInfo → List CpInfo
  | 0, r => r
  | n + 1, r => .unusable :: gap n r
def poolList (es : List (Nat × CpInfo)) (last : Nat) : List CpInfo := es.foldr (fun e r => gap e.1 (e.2 :: r)) (gap last [])
def pool (es : List (Nat × CpInfo)) (last : Nat) : Array CpInfo := ⟨poolList es last⟩
def fileOf (pool : Array CpInfo) (this : Nat) (attrs : Array Attribute := #[]) (ms : Array MethodInfo := #[]) (fl : Nat := 33) (sup : Nat := 0) (ifs : Array Nat := #[]) (fds : Array FieldInfo := #[]) : ClassFile where
  minorVersion := 0
  majorVersion := 65
  constantPool := pool
  accessFlags := fl
  thisClass := this
  superClass := sup
  interfaces := ifs
  fields := fds
  methods := ms
  attributes := attrs
def plain (name : String) (sup : Option ClassId) : Class where
  name := name
  kind := .ordinary
  loader := none
  accessFlags := 33
  super := sup
  interfaces := #[]
  cf := none
  fields := #[]
  methods := #[]
  instanceTypes := #[]
  staticTypes := #[]
  resolved := #[]
  callSites := []
  init := .initialized
  statics := none
  mirror := none

def pool0 : Array CpInfo := pool [(5, u "<init>"), (0, u "()V"), (1, .class_ 10), (1, u "java/lang/Object"), (85, u "clone"), (0, u "()Ljava/lang/Object;")] 26

def k0c0 : Code := { maxStack := 0, maxLocals := 1, code := object_method_1_code, exceptionTable := #[], attributes := #[] }
def k0m0 : Method := { name := "<init>", desc := "()V", sig := { parameters := [], returnType := none }, accessFlags := 1, code := some k0c0 }
def k0m1 : Method := { name := "clone", desc := "()Ljava/lang/Object;", sig := { parameters := [], returnType := some (.object "java/lang/Object") }, accessFlags := 260, code := none }
/-- java/lang/Object -/
def k0 : Class := { plain "java/lang/Object" none with
  accessFlags := 33
  interfaces := #[]
  cf := some (fileOf pool0 8 #[] #[{ accessFlags := 1, nameIndex := 5, descriptorIndex := 6, attributes := #[] }, { accessFlags := 260, nameIndex := 96, descriptorIndex := 97, attributes := #[] }] 33 0 #[] #[])
  fields := #[]
  methods := #[k0m0, k0m1]
  instanceTypes := #[]
  staticTypes := #[]
  resolved := Array.replicate 124 none
  statics := none }

def pool1 : Array CpInfo := pool [(2, .class_ 4), (1, u "java/lang/Object"), (0, u "<init>"), (0, u "()V"), (0, .methodref 8 9), (0, .class_ 10), (0, .nameAndType 11 12), (0, u "com/example/quotewire/quotewire/wire/FrameBinaryPinLaw"), (0, u "at"), (0, u "(II)B"), (0, .fieldref 14 15), (0, .class_ 16), (0, .nameAndType 17 18), (0, u "com/example/quotewire/quotewire/wire/Frame$Direction"), (0, u "OUT"), (0, u "Lcom/example/quotewire/quotewire/wire/Frame$Direction;"), (0, .fieldref 14 20), (0, .nameAndType 21 18), (0, u "IN"), (0, .methodref 23 24), (0, .class_ 25), (0, .nameAndType 26 27), (0, u "com/example/quotewire/quotewire/wire/Frame"), (0, u "binary"), (0, u "(JLcom/example/quotewire/quotewire/wire/Frame$Direction;[B)Lcom/example/quotewire/quotewire/wire/Frame;"), (0, .methodref 8 29), (0, .nameAndType 30 31), (0, u "flip"), (0, u "([B)V"), (0, .methodref 23 33), (0, .nameAndType 26 34), (0, u "()[B"), (0, .methodref 8 36), (0, .nameAndType 37 38), (0, u "same"), (0, u "([BII)Z"), (0, .methodref 23 40), (0, .nameAndType 41 42), (0, u "time"), (0, u "()J"), (0, .methodref 23 44), (0, .nameAndType 45 46), (0, u "direction"), (0, u "()Lcom/example/quotewire/quotewire/wire/Frame$Direction;"), (0, .methodref 23 48), (0, .nameAndType 49 50), (0, u "isText"), (0, u "()Z"), (3, u "law"), (0, u "(JIII)Z")] 6

def k1m0 : Method := { name := "<init>", desc := "()V", sig := { parameters := [], returnType := none }, accessFlags := 1, code := none }
def k1c1 : Code := { maxStack := 3, maxLocals := 2, code := method_2_code, exceptionTable := #[], attributes := #[] }
def k1m1 : Method := { name := "at", desc := "(II)B", sig := { parameters := [.int, .int], returnType := some .byte }, accessFlags := 10, code := some k1c1 }
def k1c2 : Code := { maxStack := 3, maxLocals := 3, code := method_3_code, exceptionTable := #[], attributes := #[] }
def k1m2 : Method := { name := "same", desc := "([BII)Z", sig := { parameters := [(.array .byte), .int, .int], returnType := some .boolean }, accessFlags := 10, code := some k1c2 }
def k1c3 : Code := { maxStack := 4, maxLocals := 2, code := method_4_code, exceptionTable := #[], attributes := #[] }
def k1m3 : Method := { name := "flip", desc := "([B)V", sig := { parameters := [(.array .byte)], returnType := none }, accessFlags := 10, code := some k1c3 }
def k1c4 : Code := { maxStack := 4, maxLocals := 12, code := code, exceptionTable := #[], attributes := #[] }
def k1m4 : Method := { name := "law", desc := "(JIII)Z", sig := { parameters := [.long, .int, .int, .int], returnType := some .boolean }, accessFlags := 9, code := some k1c4 }
/-- com/example/quotewire/quotewire/wire/FrameBinaryPinLaw -/
def k1 : Class := { plain "com/example/quotewire/quotewire/wire/FrameBinaryPinLaw" (some 0) with
  accessFlags := 49
  interfaces := #[]
  cf := some (fileOf pool1 8 #[] #[{ accessFlags := 1, nameIndex := 5, descriptorIndex := 6, attributes := #[] }, { accessFlags := 10, nameIndex := 11, descriptorIndex := 12, attributes := #[] }, { accessFlags := 10, nameIndex := 37, descriptorIndex := 38, attributes := #[] }, { accessFlags := 10, nameIndex := 30, descriptorIndex := 31, attributes := #[] }, { accessFlags := 9, nameIndex := 54, descriptorIndex := 55, attributes := #[] }] 49 2 #[] #[])
  fields := #[]
  methods := #[k1m0, k1m1, k1m2, k1m3, k1m4]
  instanceTypes := #[]
  staticTypes := #[]
  resolved := Array.replicate 62 none
  statics := none }

def pool2 : Array CpInfo := pool [(1, .class_ 2), (0, u "java/lang/constant/Constable"), (0, .class_ 4), (0, u "java/lang/Object")] 6

/-- java/lang/constant/Constable -/
def k2 : Class := { plain "java/lang/constant/Constable" (some 0) with
  accessFlags := 1537
  interfaces := #[]
  cf := some (fileOf pool2 1 #[] #[] 1537 3 #[] #[])
  fields := #[]
  methods := #[]
  instanceTypes := #[]
  staticTypes := #[]
  resolved := Array.replicate 11 none
  statics := none }

def pool3 : Array CpInfo := pool [(1, .class_ 2), (0, u "java/lang/Comparable"), (0, .class_ 4), (0, u "java/lang/Object")] 7

/-- java/lang/Comparable -/
def k3 : Class := { plain "java/lang/Comparable" (some 0) with
  accessFlags := 1537
  interfaces := #[]
  cf := some (fileOf pool3 1 #[] #[] 1537 3 #[] #[])
  fields := #[]
  methods := #[]
  instanceTypes := #[]
  staticTypes := #[]
  resolved := Array.replicate 12 none
  statics := none }

def pool4 : Array CpInfo := pool [(1, .class_ 2), (0, u "java/io/Serializable"), (0, .class_ 4), (0, u "java/lang/Object")] 2

/-- java/io/Serializable -/
def k4 : Class := { plain "java/io/Serializable" (some 0) with
  accessFlags := 1537
  interfaces := #[]
  cf := some (fileOf pool4 1 #[] #[] 1537 3 #[] #[])
  fields := #[]
  methods := #[]
  instanceTypes := #[]
  staticTypes := #[]
  resolved := Array.replicate 7 none
  statics := none }

def pool5 : Array CpInfo := pool [(2, .class_ 4), (1, u "java/lang/Enum"), (0, u "name"), (0, u "Ljava/lang/String;"), (2, u "ordinal"), (0, u "I"), (1, .class_ 14), (1, u "java/lang/Object"), (4, u "hash"), (86, .class_ 108), (1, u "java/lang/Enum$EnumDesc"), (2, .class_ 112), (0, u "java/lang/constant/Constable"), (0, .class_ 114), (0, u "java/lang/Comparable"), (0, .class_ 116), (0, u "java/io/Serializable")] 87

/-- java/lang/Enum -/
def k5 : Class := { plain "java/lang/Enum" (some 0) with
  accessFlags := 1057
  interfaces := #[2, 3, 4]
  cf := some (fileOf pool5 2 #[.nestMembers #[106]] #[] 1057 12 #[111, 113, 115] #[{ accessFlags := 18, nameIndex := 5, descriptorIndex := 6, attributes := #[] }, { accessFlags := 18, nameIndex := 9, descriptorIndex := 10, attributes := #[] }, { accessFlags := 2, nameIndex := 19, descriptorIndex := 10, attributes := #[] }])
  fields := #[{ name := "name", type := (.object "java/lang/String"), accessFlags := 18, slot := 0, constantValue := 0 }, { name := "ordinal", type := .int, accessFlags := 18, slot := 1, constantValue := 0 }, { name := "hash", type := .int, accessFlags := 2, slot := 2, constantValue := 0 }]
  methods := #[]
  instanceTypes := #[(.object "java/lang/String"), .int, .int]
  staticTypes := #[]
  resolved := Array.replicate 204 none
  statics := none }

def pool6 : Array CpInfo := pool [(1, .class_ 2), (0, u "com/example/quotewire/quotewire/wire/Frame$Direction"), (2, u "IN"), (0, u "Lcom/example/quotewire/quotewire/wire/Frame$Direction;"), (2, u "OUT"), (2, u "$VALUES"), (0, u "[Lcom/example/quotewire/quotewire/wire/Frame$Direction;"), (6, .class_ 22), (1, u "java/lang/Enum"), (25, .class_ 49), (0, u "com/example/quotewire/quotewire/wire/Frame")] 2

/-- com/example/quotewire/quotewire/wire/Frame$Direction -/
def k6 : Class := { plain "com/example/quotewire/quotewire/wire/Frame$Direction" (some 5) with
  accessFlags := 16433
  interfaces := #[]
  cf := some (fileOf pool6 1 #[.nestHost 48] #[] 16433 20 #[] #[{ accessFlags := 16409, nameIndex := 5, descriptorIndex := 6, attributes := #[] }, { accessFlags := 16409, nameIndex := 9, descriptorIndex := 6, attributes := #[] }, { accessFlags := 4122, nameIndex := 12, descriptorIndex := 13, attributes := #[] }])
  fields := #[{ name := "IN", type := (.object "com/example/quotewire/quotewire/wire/Frame$Direction"), accessFlags := 16409, slot := 0, constantValue := 0 }, { name := "OUT", type := (.object "com/example/quotewire/quotewire/wire/Frame$Direction"), accessFlags := 16409, slot := 1, constantValue := 0 }, { name := "$VALUES", type := (.array (.object "com/example/quotewire/quotewire/wire/Frame$Direction")), accessFlags := 4122, slot := 2, constantValue := 0 }]
  methods := #[]
  instanceTypes := #[(.object "java/lang/String"), .int, .int]
  staticTypes := #[(.object "com/example/quotewire/quotewire/wire/Frame$Direction"), (.object "com/example/quotewire/quotewire/wire/Frame$Direction"), (.array (.object "com/example/quotewire/quotewire/wire/Frame$Direction"))]
  resolved := Array.replicate 52 none
  statics := some 0 }

def pool7 : Array CpInfo := pool [(1, .methodref 2 3), (0, .class_ 4), (0, .nameAndType 5 6), (0, u "java/lang/Object"), (0, u "<init>"), (0, u "()V"), (0, .fieldref 8 9), (0, .class_ 10), (0, .nameAndType 11 12), (0, u "com/example/quotewire/quotewire/wire/Frame"), (0, u "time"), (0, u "J"), (0, .string 14), (0, u "direction"), (0, .methodref 16 17), (0, .class_ 18), (0, .nameAndType 19 20), (0, u "java/util/Objects"), (0, u "requireNonNull"), (0, u "(Ljava/lang/Object;Ljava/lang/String;)Ljava/lang/Object;"), (0, .class_ 22), (0, u "com/example/quotewire/quotewire/wire/Frame$Direction"), (0, .fieldref 8 24), (0, .nameAndType 14 25), (0, u "Lcom/example/quotewire/quotewire/wire/Frame$Direction;"), (0, .fieldref 8 27), (0, .nameAndType 28 29), (0, u "text"), (0, u "Ljava/lang/String;"), (0, .fieldref 8 31), (0, .nameAndType 32 33), (0, u "binary"), (0, u "[B"), (3, .methodref 8 38), (0, .nameAndType 5 39), (0, u "(JLcom/example/quotewire/quotewire/wire/Frame$Direction;Ljava/lang/String;[B)V"), (0, .methodref 41 42), (0, .class_ 33), (0, .nameAndType 43 44), (0, u "clone"), (0, u "()Ljava/lang/Object;"), (12, u "(JLcom/example/quotewire/quotewire/wire/Frame$Direction;[B)Lcom/example/quotewire/quotewire/wire/Frame;"), (0, u "()J"), (0, u "()Lcom/example/quotewire/quotewire/wire/Frame$Direction;"), (0, u "isText"), (0, u "()Z"), (2, u "()[B")] 5

def k7c0 : Code := { maxStack := 3, maxLocals := 6, code := prog_32_method_1_code, exceptionTable := #[], attributes := #[] }
def k7m0 : Method := { name := "<init>", desc := "(JLcom/example/quotewire/quotewire/wire/Frame$Direction;Ljava/lang/String;[B)V", sig := { parameters := [.long, (.object "com/example/quotewire/quotewire/wire/Frame$Direction"), (.object "java/lang/String"), (.array .byte)], returnType := none }, accessFlags := 2, code := some k7c0 }
def k7c1 : Code := { maxStack := 7, maxLocals := 4, code := prog_32_method_3_code, exceptionTable := #[], attributes := #[] }
def k7m1 : Method := { name := "binary", desc := "(JLcom/example/quotewire/quotewire/wire/Frame$Direction;[B)Lcom/example/quotewire/quotewire/wire/Frame;", sig := { parameters := [.long, (.object "com/example/quotewire/quotewire/wire/Frame$Direction"), (.array .byte)], returnType := some (.object "com/example/quotewire/quotewire/wire/Frame") }, accessFlags := 9, code := some k7c1 }
def k7c2 : Code := { maxStack := 2, maxLocals := 1, code := prog_32_method_4_code, exceptionTable := #[], attributes := #[] }
def k7m2 : Method := { name := "time", desc := "()J", sig := { parameters := [], returnType := some .long }, accessFlags := 1, code := some k7c2 }
def k7c3 : Code := { maxStack := 1, maxLocals := 1, code := prog_32_method_5_code, exceptionTable := #[], attributes := #[] }
def k7m3 : Method := { name := "direction", desc := "()Lcom/example/quotewire/quotewire/wire/Frame$Direction;", sig := { parameters := [], returnType := some (.object "com/example/quotewire/quotewire/wire/Frame$Direction") }, accessFlags := 1, code := some k7c3 }
def k7c4 : Code := { maxStack := 1, maxLocals := 1, code := prog_32_method_6_code, exceptionTable := #[], attributes := #[] }
def k7m4 : Method := { name := "isText", desc := "()Z", sig := { parameters := [], returnType := some .boolean }, accessFlags := 1, code := some k7c4 }
def k7c5 : Code := { maxStack := 3, maxLocals := 1, code := prog_32_method_8_code, exceptionTable := #[], attributes := #[] }
def k7m5 : Method := { name := "binary", desc := "()[B", sig := { parameters := [], returnType := some (.array .byte) }, accessFlags := 1, code := some k7c5 }
/-- com/example/quotewire/quotewire/wire/Frame -/
def k7 : Class := { plain "com/example/quotewire/quotewire/wire/Frame" (some 0) with
  accessFlags := 49
  interfaces := #[]
  cf := some (fileOf pool7 8 #[.nestMembers #[21]] #[{ accessFlags := 2, nameIndex := 5, descriptorIndex := 39, attributes := #[] }, { accessFlags := 9, nameIndex := 32, descriptorIndex := 57, attributes := #[] }, { accessFlags := 1, nameIndex := 11, descriptorIndex := 58, attributes := #[] }, { accessFlags := 1, nameIndex := 14, descriptorIndex := 59, attributes := #[] }, { accessFlags := 1, nameIndex := 60, descriptorIndex := 61, attributes := #[] }, { accessFlags := 1, nameIndex := 32, descriptorIndex := 64, attributes := #[] }] 49 2 #[] #[{ accessFlags := 18, nameIndex := 11, descriptorIndex := 12, attributes := #[] }, { accessFlags := 18, nameIndex := 14, descriptorIndex := 25, attributes := #[] }, { accessFlags := 18, nameIndex := 28, descriptorIndex := 29, attributes := #[] }, { accessFlags := 18, nameIndex := 32, descriptorIndex := 33, attributes := #[] }])
  fields := #[{ name := "time", type := .long, accessFlags := 18, slot := 0, constantValue := 0 }, { name := "direction", type := (.object "com/example/quotewire/quotewire/wire/Frame$Direction"), accessFlags := 18, slot := 1, constantValue := 0 }, { name := "text", type := (.object "java/lang/String"), accessFlags := 18, slot := 2, constantValue := 0 }, { name := "binary", type := (.array .byte), accessFlags := 18, slot := 3, constantValue := 0 }]
  methods := #[k7m0, k7m1, k7m2, k7m3, k7m4, k7m5]
  instanceTypes := #[.long, (.object "com/example/quotewire/quotewire/wire/Frame$Direction"), (.object "java/lang/String"), (.array .byte)]
  staticTypes := #[]
  resolved := Array.replicate 70 none
  statics := none }

def pool8 : Array CpInfo := pool [(1, .class_ 2), (0, u "java/lang/Cloneable"), (0, .class_ 4), (0, u "java/lang/Object")] 2

/-- java/lang/Cloneable -/
def k8 : Class := { plain "java/lang/Cloneable" (some 0) with
  accessFlags := 1537
  interfaces := #[]
  cf := some (fileOf pool8 1 #[] #[] 1537 3 #[] #[])
  fields := #[]
  methods := #[]
  instanceTypes := #[]
  staticTypes := #[]
  resolved := Array.replicate 7 none
  statics := none }

def pool9 : Array CpInfo := pool [(2, .class_ 4), (1, u "java/lang/CharSequence"), (42, .class_ 48), (0, u "java/lang/CharSequence$1CodePointIterator"), (10, .class_ 60), (0, u "java/lang/CharSequence$1CharIterator"), (5, .class_ 67), (0, u "java/lang/Object")] 63

/-- java/lang/CharSequence -/
def k9 : Class := { plain "java/lang/CharSequence" (some 0) with
  accessFlags := 1537
  interfaces := #[]
  cf := some (fileOf pool9 2 #[.nestMembers #[47, 59]] #[] 1537 66 #[] #[])
  fields := #[]
  methods := #[]
  instanceTypes := #[]
  staticTypes := #[]
  resolved := Array.replicate 131 none
  statics := none }

def pool10 : Array CpInfo := pool [(1, .class_ 2), (0, u "java/lang/constant/ConstantDesc"), (0, .class_ 4), (0, u "java/lang/Object")] 32

/-- java/lang/constant/ConstantDesc -/
def k10 : Class := { plain "java/lang/constant/ConstantDesc" (some 0) with
  accessFlags := 1537
  interfaces := #[]
  cf := some (fileOf pool10 1 #[] #[] 1537 3 #[] #[])
  fields := #[]
  methods := #[]
  instanceTypes := #[]
  staticTypes := #[]
  resolved := Array.replicate 37 none
  statics := none }

def pool11 : Array CpInfo := pool [(2, .class_ 4), (1, u "java/lang/Object"), (0, u "<init>"), (0, u "()V"), (3, .class_ 12), (1, u "java/lang/String"), (0, u "value"), (0, u "[B"), (2, u "coder"), (0, u "B"), (2, u "hash"), (0, u "I"), (2, u "hashIsZero"), (0, u "Z"), (13, u "COMPACT_STRINGS"), (534, .class_ 576), (0, u "java/lang/CharSequence"), (22, u "CASE_INSENSITIVE_ORDER"), (0, u "Ljava/util/Comparator;"), (500, u "serialPersistentFields"), (0, u "[Ljava/io/ObjectStreamField;"), (0, .class_ 1104), (0, u "java/lang/String$CaseInsensitiveComparator"), (1, .class_ 1107), (0, u "java/io/Serializable"), (0, .class_ 1109), (0, u "java/lang/Comparable"), (0, .class_ 1111), (0, u "java/lang/constant/Constable"), (0, .class_ 1113), (0, u "java/lang/constant/ConstantDesc"), (2, u "serialVersionUID"), (0, u "J"), (3, u "REPL"), (0, u "C"), (2, u "LATIN1"), (1, u "UTF16")] 323

def k11m0 : Method := { name := "<init>", desc := "()V", sig := { parameters := [], returnType := none }, accessFlags := 1, code := none }
/-- java/lang/String -/
def k11 : Class := { plain "java/lang/String" (some 0) with
  accessFlags := 49
  interfaces := #[4, 3, 9, 2, 10]
  cf := some (fileOf pool11 10 #[.nestMembers #[1103]] #[{ accessFlags := 1, nameIndex := 5, descriptorIndex := 6, attributes := #[] }] 49 2 #[1106, 1108, 575, 1110, 1112] #[{ accessFlags := 18, nameIndex := 13, descriptorIndex := 14, attributes := #[] }, { accessFlags := 18, nameIndex := 17, descriptorIndex := 18, attributes := #[] }, { accessFlags := 2, nameIndex := 21, descriptorIndex := 22, attributes := #[] }, { accessFlags := 2, nameIndex := 25, descriptorIndex := 26, attributes := #[] }, { accessFlags := 26, nameIndex := 1116, descriptorIndex := 1117, attributes := #[] }, { accessFlags := 24, nameIndex := 40, descriptorIndex := 26, attributes := #[] }, { accessFlags := 26, nameIndex := 1101, descriptorIndex := 1102, attributes := #[] }, { accessFlags := 26, nameIndex := 1121, descriptorIndex := 1122, attributes := #[] }, { accessFlags := 25, nameIndex := 599, descriptorIndex := 600, attributes := #[] }, { accessFlags := 24, nameIndex := 1125, descriptorIndex := 18, attributes := #[] }, { accessFlags := 24, nameIndex := 1127, descriptorIndex := 18, attributes := #[] }])
  fields := #[{ name := "value", type := (.array .byte), accessFlags := 18, slot := 0, constantValue := 0 }, { name := "coder", type := .byte, accessFlags := 18, slot := 1, constantValue := 0 }, { name := "hash", type := .int, accessFlags := 2, slot := 2, constantValue := 0 }, { name := "hashIsZero", type := .boolean, accessFlags := 2, slot := 3, constantValue := 0 }, { name := "serialVersionUID", type := .long, accessFlags := 26, slot := 0, constantValue := 0 }, { name := "COMPACT_STRINGS", type := .boolean, accessFlags := 24, slot := 1, constantValue := 0 }, { name := "serialPersistentFields", type := (.array (.object "java/io/ObjectStreamField")), accessFlags := 26, slot := 2, constantValue := 0 }, { name := "REPL", type := .char, accessFlags := 26, slot := 3, constantValue := 0 }, { name := "CASE_INSENSITIVE_ORDER", type := (.object "java/util/Comparator"), accessFlags := 25, slot := 4, constantValue := 0 }, { name := "LATIN1", type := .byte, accessFlags := 24, slot := 5, constantValue := 0 }, { name := "UTF16", type := .byte, accessFlags := 24, slot := 6, constantValue := 0 }]
  methods := #[k11m0]
  instanceTypes := #[(.array .byte), .byte, .int, .boolean]
  staticTypes := #[.long, .boolean, (.array (.object "java/io/ObjectStreamField")), .char, (.object "java/util/Comparator"), .byte, .byte]
  resolved := Array.replicate 1451 none
  statics := none }

def pool12 : Array CpInfo := pool [(2, .class_ 4), (1, u "java/lang/Object"), (0, u "<init>"), (0, u "()V"), (35, .class_ 44), (1, u "java/util/Objects"), (0, u "requireNonNull"), (48, u "(Ljava/lang/Object;Ljava/lang/String;)Ljava/lang/Object;")] 89

def k12m0 : Method := { name := "<init>", desc := "()V", sig := { parameters := [], returnType := none }, accessFlags := 2, code := none }
def k12c1 : Code := { maxStack := 3, maxLocals := 2, code := jdk_31_method_11_code, exceptionTable := #[], attributes := #[] }
def k12m1 : Method := { name := "requireNonNull", desc := "(Ljava/lang/Object;Ljava/lang/String;)Ljava/lang/Object;", sig := { parameters := [(.object "java/lang/Object"), (.object "java/lang/String")], returnType := some (.object "java/lang/Object") }, accessFlags := 9, code := some k12c1 }
/-- java/util/Objects -/
def k12 : Class := { plain "java/util/Objects" (some 0) with
  accessFlags := 49
  interfaces := #[]
  cf := some (fileOf pool12 42 #[] #[{ accessFlags := 2, nameIndex := 5, descriptorIndex := 6, attributes := #[] }, { accessFlags := 9, nameIndex := 45, descriptorIndex := 94, attributes := #[] }] 49 2 #[] #[])
  fields := #[]
  methods := #[k12m0, k12m1]
  instanceTypes := #[]
  staticTypes := #[]
  resolved := Array.replicate 184 none
  statics := none }

/-- the primitive byte -/
def k13 : Class := { plain "byte" none with kind := .primitive 'B', accessFlags := 0x411 }
/-- [B -/
def k14 : Class := { plain "[B" (some 0) with kind := .array 13 .byte, interfaces := #[8, 4], accessFlags := 1041 }

/-- the primitive int -/
def k15 : Class := { plain "int" none with kind := .primitive 'I', accessFlags := 0x411 }
/-- [I -/
def k16 : Class := { plain "[I" (some 0) with kind := .array 15 .int, interfaces := #[8, 4], accessFlags := 1041 }

def heap : Heap := #[{ cls := 6, slots := #[.ref 1, .ref 2, .null], vm := .statics 6 },
  { cls := 6, slots := #[.null, .int 0, .int 0], vm := .none },
  { cls := 6, slots := #[.null, .int 1, .int 0], vm := .none }]
def classes : Array Class := #[k0, k1, k2, k3, k4, k5, k6, k7, k8, k9, k10, k11, k12, k13, k14, k15, k16]
def interned : List (Array UInt16 × Addr) := []
def slotsUsed : Nat := 9
def theMethod : MethodId := ⟨1, 4⟩
def args0 : Array Value := #[.long 5, .int 1, .int 77, .int 3]
def aboutOver (below : List Frame) : State where
  vm := { classes := classes, interned := interned.toArray }
  heap := heap
  slotsUsed := slotsUsed
  threads := #[{ frames := .invoking theMethod args0 :: below }]
def below0 : List Frame := [.native { method := ⟨0, 0⟩, args := #[] }]
def about1 : State := aboutOver below0
def p0 : Program := .bare "" "" ""
def e0 : Env := launch0.env 0 0 0
theorem w_frames : about1.frames = Frame.invoking theMethod args0 :: below0 := rfl
set_option maxRecDepth 65536 in
theorem w_args : argsFit about1.vm theMethod args0 = true := by decide +kernel
set_option maxRecDepth 65536 in
theorem w_heap : heapFits about1 = true := by decide +kernel
set_option maxRecDepth 65536 in
theorem w_runnable : about1.curStatus? = some .runnable := by decide +kernel
set_option maxRecDepth 65536 in
theorem w_alone : about1.alone = true := by decide +kernel
set_option maxRecDepth 65536 in
theorem w_named : about1.methodNamed? x = some theMethod := by decide +kernel
set_option maxRecDepth 65536 in
theorem w_hears : about1.hears theMethod below0 = true := by decide +kernel
set_option maxRecDepth 65536 in
theorem w_ripe : about1.ripe theMethod args0 below0 = true := by decide +kernel
theorem w_running : about1.status = .running := rfl
set_option maxRecDepth 65536 in
theorem w_room : about1.hasRoom e0.platform room_1 = true :=
  launch0.hasRoom_least _ room_1 (by decide +kernel) (by decide +kernel) (by decide +kernel) (by decide +kernel) (by decide +kernel) (by decide +kernel)
theorem allAtoms_all (ts : List Jvm.Cond) (a : Array Jvm.Value) (st : Jvm.State) : (allAtoms ts).before a st = ts.all (fun c => c.before a st) := by
  induction ts with
  | nil => rfl
  | cons c t ih =>
    show (Jvm.Cond.and c (allAtoms t)).before a st = _
    rw [Jvm.Cond.before_and, ih, List.all_cons]
def words1 : List Jvm.Cond := Jvm.Cond.code x code maxLocals ret :: tables_1
/-- a 'code' word, met by the world's own term for the bytes: nothing is compared byte by byte -/
theorem code_word {y : MethodName} {bytes : ByteArray} {mx : Nat} {rt : Option FieldType} {a : Array Value} {s : State} {m : MethodId} {meth : Method} {c : Code} (h1 : s.methodNamed? y = some m) (h2 : s.vm.method? m = some meth) (h3 : meth.code = some c) (h4 : c.code = bytes)
    (h5 : (c.maxLocals == mx && c.exceptionTable.isEmpty && decide (c.maxStack ≤ mostOperands) && decide (meth.sig.returnType = rt) && !meth.locks && decide (parseMethodDescriptor y.desc = some meth.sig)) = true) : (Jvm.Cond.code y bytes mx rt).before a s = true := by
  simp only [Bool.and_eq_true, beq_iff_eq, Bool.not_eq_true', decide_eq_true_eq] at h5
  obtain ⟨⟨⟨⟨⟨g1, g2⟩, g3⟩, g4⟩, g5⟩, g6⟩ := h5
  simp [Cond.before, Cond.holds, Cond.value, h1, h2, h3, h4, g1, g2, g3, g4, g5, g6]
def isCode : Jvm.Cond → Bool
  | .code _ _ _ _ => true
  | _ => false
theorem all_split {L : List Jvm.Cond} {P : Jvm.Cond → Bool} (h1 : L.all (fun c => isCode c || P c) = true) (h2 : ∀ c ∈ L.filter isCode, P c = true) : L.all P = true := by
  refine List.all_eq_true.mpr fun c hc => ?_
  have h := List.all_eq_true.mp h1 c hc
  rcases Bool.eq_false_or_eq_true (isCode c) with hi | hi
  · exact h2 c (List.mem_filter.mpr ⟨hc, hi⟩)
  · simpa [hi] using h
set_option maxRecDepth 65536 in
theorem w_c0 : (Jvm.Cond.code x code maxLocals ret).before args0 about1 = true := code_word (m := ⟨1, 4⟩) (meth := k1m4) (c := k1c4) (by decide +kernel) rfl rfl rfl (by decide +kernel)
set_option maxRecDepth 65536 in
theorem w_c1 : (Jvm.Cond.code ({ cls := "com/example/quotewire/quotewire/wire/Frame", name := "binary", desc := "(JLcom/example/quotewire/quotewire/wire/Frame$Direction;[B)Lcom/example/quotewire/quotewire/wire/Frame;" } : Jvm.MethodName) prog_32_method_3_code (4 : Nat) (Option.some (Jvm.ClassFile.FieldType.object "com/example/quotewire/quotewire/wire/Frame"))).before args0 about1 = true := code_word (m := ⟨7, 1⟩) (meth := k7m1) (c := k7c1) (by decide +kernel) rfl rfl rfl (by decide +kernel)
set_option maxRecDepth 65536 in
theorem w_c2 : (Jvm.Cond.code ({ cls := "com/example/quotewire/quotewire/wire/Frame", name := "<init>", desc := "(JLcom/example/quotewire/quotewire/wire/Frame$Direction;Ljava/lang/String;[B)V" } : Jvm.MethodName) prog_32_method_1_code (6 : Nat) (Option.none : Option Jvm.ClassFile.FieldType)).before args0 about1 = true := code_word (m := ⟨7, 0⟩) (meth := k7m0) (c := k7c0) (by decide +kernel) rfl rfl rfl (by decide +kernel)
set_option maxRecDepth 65536 in
theorem w_c3 : (Jvm.Cond.code ({ cls := "java/lang/Object", name := "<init>", desc := "()V" } : Jvm.MethodName) object_method_1_code (1 : Nat) (Option.none : Option Jvm.ClassFile.FieldType)).before args0 about1 = true := code_word (m := ⟨0, 0⟩) (meth := k0m0) (c := k0c0) (by decide +kernel) rfl rfl rfl (by decide +kernel)
set_option maxRecDepth 65536 in
theorem w_c4 : (Jvm.Cond.code ({ cls := "java/util/Objects", name := "requireNonNull", desc := "(Ljava/lang/Object;Ljava/lang/String;)Ljava/lang/Object;" } : Jvm.MethodName) jdk_31_method_11_code (2 : Nat) (Option.some (Jvm.ClassFile.FieldType.object "java/lang/Object"))).before args0 about1 = true := code_word (m := ⟨12, 1⟩) (meth := k12m1) (c := k12c1) (by decide +kernel) rfl rfl rfl (by decide +kernel)
set_option maxRecDepth 65536 in
theorem w_c5 : (Jvm.Cond.code ({ cls := "com/example/quotewire/quotewire/wire/FrameBinaryPinLaw", name := "flip", desc := "([B)V" } : Jvm.MethodName) method_4_code (2 : Nat) (Option.none : Option Jvm.ClassFile.FieldType)).before args0 about1 = true := code_word (m := ⟨1, 3⟩) (meth := k1m3) (c := k1c3) (by decide +kernel) rfl rfl rfl (by decide +kernel)
set_option maxRecDepth 65536 in
theorem w_c6 : (Jvm.Cond.code ({ cls := "com/example/quotewire/quotewire/wire/Frame", name := "binary", desc := "()[B" } : Jvm.MethodName) prog_32_method_8_code (1 : Nat) (Option.some (Jvm.ClassFile.FieldType.array Jvm.ClassFile.FieldType.byte))).before args0 about1 = true := code_word (m := ⟨7, 5⟩) (meth := k7m5) (c := k7c5) (by decide +kernel) rfl rfl rfl (by decide +kernel)
set_option maxRecDepth 65536 in
theorem w_c7 : (Jvm.Cond.code ({ cls := "com/example/quotewire/quotewire/wire/FrameBinaryPinLaw", name := "same", desc := "([BII)Z" } : Jvm.MethodName) method_3_code (3 : Nat) (Option.some Jvm.ClassFile.FieldType.boolean)).before args0 about1 = true := code_word (m := ⟨1, 2⟩) (meth := k1m2) (c := k1c2) (by decide +kernel) rfl rfl rfl (by decide +kernel)
set_option maxRecDepth 65536 in
theorem w_c8 : (Jvm.Cond.code ({ cls := "com/example/quotewire/quotewire/wire/Frame", name := "time", desc := "()J" } : Jvm.MethodName) prog_32_method_4_code (1 : Nat) (Option.some Jvm.ClassFile.FieldType.long)).before args0 about1 = true := code_word (m := ⟨7, 2⟩) (meth := k7m2) (c := k7c2) (by decide +kernel) rfl rfl rfl (by decide +kernel)
set_option maxRecDepth 65536 in
theorem w_c9 : (Jvm.Cond.code ({ cls := "com/example/quotewire/quotewire/wire/Frame", name := "direction", desc := "()Lcom/example/quotewire/quotewire/wire/Frame$Direction;" } : Jvm.MethodName) prog_32_method_5_code (1 : Nat) (Option.some (Jvm.ClassFile.FieldType.object "com/example/quotewire/quotewire/wire/Frame$Direction"))).before args0 about1 = true := code_word (m := ⟨7, 3⟩) (meth := k7m3) (c := k7c3) (by decide +kernel) rfl rfl rfl (by decide +kernel)
set_option maxRecDepth 65536 in
theorem w_c10 : (Jvm.Cond.code ({ cls := "com/example/quotewire/quotewire/wire/Frame", name := "isText", desc := "()Z" } : Jvm.MethodName) prog_32_method_6_code (1 : Nat) (Option.some Jvm.ClassFile.FieldType.boolean)).before args0 about1 = true := code_word (m := ⟨7, 4⟩) (meth := k7m4) (c := k7c4) (by decide +kernel) rfl rfl rfl (by decide +kernel)
set_option maxRecDepth 65536 in
theorem w_c11 : (Jvm.Cond.code ({ cls := "com/example/quotewire/quotewire/wire/FrameBinaryPinLaw", name := "at", desc := "(II)B" } : Jvm.MethodName) method_2_code (2 : Nat) (Option.some Jvm.ClassFile.FieldType.byte)).before args0 about1 = true := code_word (m := ⟨1, 1⟩) (meth := k1m1) (c := k1c1) (by decide +kernel) rfl rfl rfl (by decide +kernel)
def codes1 : List Jvm.Cond := [Jvm.Cond.code x code maxLocals ret, Jvm.Cond.code ({ cls := "com/example/quotewire/quotewire/wire/Frame", name := "binary", desc := "(JLcom/example/quotewire/quotewire/wire/Frame$Direction;[B)Lcom/example/quotewire/quotewire/wire/Frame;" } : Jvm.MethodName) prog_32_method_3_code (4 : Nat) (Option.some (Jvm.ClassFile.FieldType.object "com/example/quotewire/quotewire/wire/Frame")), Jvm.Cond.code ({ cls := "com/example/quotewire/quotewire/wire/Frame", name := "<init>", desc := "(JLcom/example/quotewire/quotewire/wire/Frame$Direction;Ljava/lang/String;[B)V" } : Jvm.MethodName) prog_32_method_1_code (6 : Nat) (Option.none : Option Jvm.ClassFile.FieldType), Jvm.Cond.code ({ cls := "java/lang/Object", name := "<init>", desc := "()V" } : Jvm.MethodName) object_method_1_code (1 : Nat) (Option.none : Option Jvm.ClassFile.FieldType), Jvm.Cond.code ({ cls := "java/util/Objects", name := "requireNonNull", desc := "(Ljava/lang/Object;Ljava/lang/String;)Ljava/lang/Object;" } : Jvm.MethodName) jdk_31_method_11_code (2 : Nat) (Option.some (Jvm.ClassFile.FieldType.object "java/lang/Object")), Jvm.Cond.code ({ cls := "com/example/quotewire/quotewire/wire/FrameBinaryPinLaw", name := "flip", desc := "([B)V" } : Jvm.MethodName) method_4_code (2 : Nat) (Option.none : Option Jvm.ClassFile.FieldType), Jvm.Cond.code ({ cls := "com/example/quotewire/quotewire/wire/Frame", name := "binary", desc := "()[B" } : Jvm.MethodName) prog_32_method_8_code (1 : Nat) (Option.some (Jvm.ClassFile.FieldType.array Jvm.ClassFile.FieldType.byte)), Jvm.Cond.code ({ cls := "com/example/quotewire/quotewire/wire/FrameBinaryPinLaw", name := "same", desc := "([BII)Z" } : Jvm.MethodName) method_3_code (3 : Nat) (Option.some Jvm.ClassFile.FieldType.boolean), Jvm.Cond.code ({ cls := "com/example/quotewire/quotewire/wire/Frame", name := "time", desc := "()J" } : Jvm.MethodName) prog_32_method_4_code (1 : Nat) (Option.some Jvm.ClassFile.FieldType.long), Jvm.Cond.code ({ cls := "com/example/quotewire/quotewire/wire/Frame", name := "direction", desc := "()Lcom/example/quotewire/quotewire/wire/Frame$Direction;" } : Jvm.MethodName) prog_32_method_5_code (1 : Nat) (Option.some (Jvm.ClassFile.FieldType.object "com/example/quotewire/quotewire/wire/Frame$Direction")), Jvm.Cond.code ({ cls := "com/example/quotewire/quotewire/wire/Frame", name := "isText", desc := "()Z" } : Jvm.MethodName) prog_32_method_6_code (1 : Nat) (Option.some Jvm.ClassFile.FieldType.boolean), Jvm.Cond.code ({ cls := "com/example/quotewire/quotewire/wire/FrameBinaryPinLaw", name := "at", desc := "(II)B" } : Jvm.MethodName) method_2_code (2 : Nat) (Option.some Jvm.ClassFile.FieldType.byte)]
set_option maxRecDepth 65536 in
theorem codes_eq : words1.filter isCode = codes1 := rfl
theorem w_codes : ∀ c ∈ words1.filter isCode, c.before args0 about1 = true := by
  rw [codes_eq]
  intro c hc
  simp only [codes1, List.mem_cons, List.not_mem_nil, or_false] at hc
  rcases hc with rfl | rfl | rfl | rfl | rfl | rfl | rfl | rfl | rfl | rfl | rfl | rfl
  · exact w_c0
  · exact w_c1
  · exact w_c2
  · exact w_c3
  · exact w_c4
  · exact w_c5
  · exact w_c6
  · exact w_c7
  · exact w_c8
  · exact w_c9
  · exact w_c10
  · exact w_c11
set_option maxRecDepth 65536 in
theorem w_t1 : (words1.take 24).all (fun c => isCode c || c.before args0 about1) = true := by decide +kernel
set_option maxRecDepth 65536 in
theorem w_t2 : ((words1.drop 24).take 24).all (fun c => isCode c || c.before args0 about1) = true := by decide +kernel
set_option maxRecDepth 65536 in
theorem w_t3 : (((words1.drop 24).drop 24).take 24).all (fun c => isCode c || c.before args0 about1) = true := by decide +kernel
set_option maxRecDepth 65536 in
theorem w_t4 : (((words1.drop 24).drop 24).drop 24).all (fun c => isCode c || c.before args0 about1) = true := by decide +kernel
theorem w_tables : (allAtoms (Jvm.Cond.code x code maxLocals ret :: tables_1)).before args0 about1 = true := by
  rw [allAtoms_all]
  show words1.all (fun c => c.before args0 about1) = true
  refine all_split ?_ w_codes
  rw [← List.take_append_drop 24 words1, List.all_append, w_t1, ← List.take_append_drop 24 (words1.drop 24), List.all_append, w_t2, ← List.take_append_drop 24 ((words1.drop 24).drop 24), List.all_append, w_t3, w_t4]
  rfl
set_option maxRecDepth 65536 in
theorem w_case : (Jvm.Cond.and given_1 narrow_1).before args0 about1 = true := by decide +kernel
theorem w_applies : (headSpec (Jvm.Cond.code x code maxLocals ret :: tables_1) room_1).applies x e0.platform about1 = true :=
  (Spec.applies_iff w_frames).mpr ⟨w_running, w_runnable, w_alone, w_named, w_hears, w_ripe, w_room, w_tables⟩
theorem atStart : AtStart classFile x code maxLocals ret World_1 tables_1 room_1 Calls_1 rest_1 Pre_1 launch0 p0 e0 about1 theMethod args0 below0 :=
  ⟨lists_1, trivial, launch0.admits_env _ _ _, launch0.least_env, fairChoices_fair.cas, fairChoices_fair.clock, w_frames, w_args, w_heap, w_applies, trivial, trivial, w_case⟩
end start1
theorem witness_1 : WitnessClaimed_1 := ⟨start1.p0, start1.e0, start1.about1, start1.theMethod, start1.args0, start1.below0, start1.atStart⟩
end Jvm.Pilot.@@N@@
