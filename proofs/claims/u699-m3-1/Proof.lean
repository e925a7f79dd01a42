import JvmDerived
import JvmDerived.Pilot.@@N@@Statement
import JvmDerived.Pilot.@@N@@Code
set_option linter.unusedVariables false
set_option linter.unusedSimpArgs false
namespace Jvm.RoadKit
open Sem ClassFile Op Lib Jvm.Stand Jvm.Free Jvm.LawKit
section New
variable {p : Program} {l : Launch} {e : Env} {R : Room} {s : State} {m : MethodId} {args : Array Value} {below : List Frame} {meth : Method} {c : Code} {T : State} {locs : List Loc} {cells slots : Nat}
theorem retI (X : Stand p l e R s m args below meth c T locs cells slots) (hx : p.tables.exec = Jvm.exec) {pc : Nat} {Ls : Array Slot} {z : Int32} {rest : List Value} (hret : meth.sig.returnType = some .int) (hd : decode c.code pc = .ok (.ireturn, 1)) {fs : List Frame}
    (hl : ∀ (f : JFrame) (acts : List Action), f.method = m → f.locked = none → f.entered = [] → (doReturn e (T.setTop f) acts (some (.int z))).1 = T.setFrames fs) : Steps p.tables e below (T.setTop (mkF m pc Ls (.int z :: rest))) (T.setFrames fs) := by
  have hm' : T.vm.method? m = some meth := X.method'
  have hn : narrow .int (.int z) = .int z := rfl
  show Steps p.tables e below (T.setTop { method := m, pc := pc, locals := Ls, stack := _ :: rest, locked := none }) _
  jvm_step X.here [X.here.top, hx, hd, hm', hret, hn]
  first | (intro acts; rw [hl _ acts rfl rfl rfl]) | rw [hl _ _ rfl rfl rfl]
  exact Steps.refl _
end New
end Jvm.RoadKit
namespace Jvm.Pilot.@@N@@
open Jvm Jvm.ClassFile Sem Op Lib Jvm.Free Jvm.Stand Jvm.LawKit Jvm.RoadKit Bundle Jvm.Pilot.@@N@@.Jvm.D
theorem own_fld {s : State} {args : Array Value} {t : Term} {C n d : String} {x : Addr} {k : Int32} (ht : t.eval args s none [] s = some (.ref x)) (h : (Jvm.Cond.eq (Jvm.Term.field t C n d) (Jvm.Term.int k)).value args s none s [] = some true) : Fld s s.heap x C n d (.int k) := by
  have e1 := fld_at (C := C) (n := n) (dd := d) ht
  refine Fld.start ?_
  cases hq : s.fieldOf? x C n d with
  | none => rw [hq] at e1; simp [Cond.value, e1] at h
  | some v =>
    rw [hq] at e1
    have e2 : (Jvm.Term.int k).eval args s none [] s = some (.int k) := rfl
    cases v <;> simp [Cond.value, e1, e2] at h
    rw [h]
theorem own_ne {Z : State} {h : Heap} {a b : Addr} {C n d : String} {v w : Value} (F : Fld Z h a C n d v) (G : Fld Z h b C n d w) (hn : v ≠ w) : a ≠ b := fun e => by
  subst e
  obtain ⟨c1, cf1, k1, i1, f1, a1, a2, -, -, -, -, a7⟩ := F
  obtain ⟨c2, cf2, k2, i2, f2, b1, b2, -, -, -, -, b7⟩ := G
  cases a1.symm.trans b1
  cases a2.symm.trans b2
  exact hn (Option.some.inj (a7.symm.trans b7))
theorem own_ns {Z : State} {h : Heap} {a : Addr} {C : String} (F : Exa Z h a C) : ∃ c : Cell, h[a]? = some c ∧ c.vm.isStatics = false := by
  obtain ⟨c, _, h1, -, -, h4, -⟩ := F
  exact ⟨c, h1, h4⟩
theorem own_sta_keep {Z : State} {h h' : Heap} {ws : List Addr} {C n d : String} {v : Value} (F : Sta Z h C n d v) (K : Keep h h' ws) (q : ∀ x ∈ ws, ∃ c : Cell, h[x]? = some c ∧ c.vm.isStatics = false) : Sta Z h' C n d v := by
  obtain ⟨cf, i, k, f, st, cell, h1, h2, h3, h4, h5, h6, h7⟩ := F
  refine ⟨cf, i, k, f, st, cell, h1, h2, h3, h4, K.2.1 st cell h5 fun hm => ?_, h6, h7⟩
  obtain ⟨c, g1, g2⟩ := q st hm
  cases h5.symm.trans g1
  rw [g2] at h6
  cases h6
theorem own_str {Z : State} {a0 : Array Value} (hw : ∀ d ∈ tables_1, d.before a0 Z = true) : ∀ a ∈ Bundle.stringAtoms, a.before a0 Z = true := by
  intro d hd
  simp only [Bundle.stringAtoms, List.mem_cons, List.not_mem_nil, or_false] at hd
  rcases hd with rfl | rfl | rfl | rfl | rfl | rfl | rfl
  · exact hw _ (List.mem_of_getElem? (i := 19) rfl)
  · exact hw _ (List.mem_of_getElem? (i := 20) rfl)
  · exact hw _ (List.mem_of_getElem? (i := 21) rfl)
  · exact hw _ (List.mem_of_getElem? (i := 22) rfl)
  · exact hw _ (List.mem_of_getElem? (i := 23) rfl)
  · exact hw _ (List.mem_of_getElem? (i := 24) rfl)
  · exact hw _ (List.mem_of_getElem? (i := 25) rfl)
theorem d2_0 : decode jdk_30_method_1_code 0 = .ok (.aload_n 0, 1) := by decide +kernel
theorem d2_1 : decode jdk_30_method_1_code 1 = .ok (.invokespecial 1, 3) := by decide +kernel
theorem d2_4 : decode jdk_30_method_1_code 4 = .ok (.return_, 1) := by decide +kernel
theorem pn_2 : plainName "java/lang/Record" = true := by first | (simp [plainName, overriddenIn]; done) | decide +kernel
theorem ef_2 (m : MethodId) (x0 : Addr) : entryFrame m #[(.ref x0)] 1 = mkF m 0 #[.val (.ref x0)] [] := by first | (simp [entryFrame, mkF, argsToLocals, Value.category]; done) | rfl
def Q2 (Z : State) (a1 : Addr) (h0 : Heap) (n0 : Nat) (v : Option Value) (h : Heap) (L : List Loc) : Prop := v = none ∧ Fr n0 L ∧ h = h0
set_option maxRecDepth 65536 in
set_option maxHeartbeats 40000000 in
theorem rm2 (l : Launch) (Z : State) (a0 : Array Value) (hw : ∀ d ∈ tables_1, d.before a0 Z = true) (ws : List Jvm.Cond) (a1 : Addr) (h0 : Heap) (n0 : Nat) (Z0 : n0 ≤ h0.size) :
    MetFree l (⟨"java/lang/Record", "<init>", "()V"⟩ : MethodName) (head1 (Jvm.Cond.code (⟨"java/lang/Record", "<init>", "()V"⟩ : MethodName) jdk_30_method_1_code 1 none :: ws) ({ frames := 1, cells := 0, slots := 0, locals := 12 } : Room)) (fun a U => a = #[(.ref a1)] ∧ Z.Warmed39 U.vm ∧ U.heap = h0) (fun _ _ _ _ _ => True) (fun _ U o U' => ∃ v L, o = .returned v ∧ Q2 Z a1 h0 n0 v U'.heap L ∧ FrameEnd U o U' L ({ frames := 1, cells := 0, slots := 0, locals := 12 } : Room).cells ({ frames := 1, cells := 0, slots := 0, locals := 12 } : Room).slots) := by
  refine MetFree.of_bodySF (plainFor_of_name pn_2) hisR ?_
  intro p e s m args below meth c s₁ Bd hml0 hP hK
  obtain ⟨rfl, hZ, hh⟩ := hP
  have hx := Bd.exec
  have hby := Bd.bytes
  have hml : c.maxLocals = 1 := hml0
  have hown : s.vm.findClass "java/lang/Record" = some m.cls := findClass_of_methodNamed Bd.named
  have hnm := (name_of_methodNamed Bd.named Bd.method).1
  have X0 : Stand p l e ({ frames := 1, cells := 0, slots := 0, locals := 12 } : Room) s m #[(.ref a1)] below meth c s₁ [] 0 0 := Stand.of_body Bd
  have e0 : s₁.heap = h0 := by rw [← hh, Bd.state]; rfl
  have N0 := Fr.nil n0
  have pre0 : ∀ t, Steps p.tables e below (s₁.setTop (mkF m 0 #[.val (.ref a1)] [])) t → Steps p.tables e below (s₁.setTop (entryFrame m #[(.ref a1)] 1)) t := fun t k => castTop (ef_2 m a1) k
  obtain ⟨T2, X2, e2, st2⟩ := initO X0 hx hZ hown (hw _ (List.mem_of_getElem? (i := 15) rfl)) (hw _ (List.mem_of_getElem? (i := 16) rfl)) (hw _ (List.mem_of_getElem? (i := 17) rfl)) e0 (g := (mkF m 1 #[.val (.ref a1)] [(.ref a1)])) rfl (by rw [hml]; rfl) rfl (hb hby d2_1) (by decide) (W := 0) (by show 2 * 0 + _ ≤ _; exact Nat.le_of_eq rfl) (by decide)
  obtain ⟨fs, hr, hrun, hended, hW, hsame⟩ := X2.leave (v := none) (fun _ => rfl)
  refine ⟨_, _, pre0 _ ?_, hrun, hended, _, _, rfl, ?_, ⟨_, rfl⟩, hW, hsame.mono (by decide) (by decide)⟩
  · show Steps p.tables e below (s₁.setTop (mkF m 0 #[.val (.ref a1)] [])) _
    refine XS.aloadN X0.here hx rfl (hb hby d2_0) rfl rfl ?_
    show Steps p.tables e below (s₁.setTop (mkF m 1 #[.val (.ref a1)] [(.ref a1)])) _
    refine st2 _ ?_
    show Steps p.tables e below (T2.setTop (mkF m 4 #[.val (.ref a1)] [])) _
    exact X2.returnOut hx Bd.returns (hb hby d2_4) hr
  · show Q2 Z a1 h0 n0 _ T2.heap _
    rw [e2]
    exact ⟨rfl, N0, rfl⟩
theorem d4_0 : decode jdk_31_method_11_code 0 = .ok (.aload_n 0, 1) := by decide +kernel
theorem d4_1 : decode jdk_31_method_11_code 1 = .ok (.ifnonnull 12, 3) := by decide +kernel
theorem d4_13 : decode jdk_31_method_11_code 13 = .ok (.aload_n 0, 1) := by decide +kernel
theorem d4_14 : decode jdk_31_method_11_code 14 = .ok (.areturn, 1) := by decide +kernel
theorem pn_4 : plainName "java/util/Objects" = true := by first | (simp [plainName, overriddenIn]; done) | decide +kernel
theorem ef_4 (m : MethodId) (x0 : Addr) (x1 : Addr) : entryFrame m #[(.ref x0), (.ref x1)] 2 = mkF m 0 #[.val (.ref x0), .val (.ref x1)] [] := by first | (simp [entryFrame, mkF, argsToLocals, Value.category]; done) | rfl
def Q4 (Z : State) (a1 : Addr) (a2 : Addr) (h0 : Heap) (n0 : Nat) (v : Option Value) (h : Heap) (L : List Loc) : Prop := v = some (.ref a1) ∧ Fr n0 L ∧ h = h0
set_option maxRecDepth 65536 in
set_option maxHeartbeats 40000000 in
theorem rm4 (l : Launch) (Z : State) (a0 : Array Value) (hw : ∀ d ∈ tables_1, d.before a0 Z = true) (ws : List Jvm.Cond) (a1 : Addr) (a2 : Addr) (h0 : Heap) (n0 : Nat) (Z0 : n0 ≤ h0.size) :
    MetFree l (⟨"java/util/Objects", "requireNonNull", "(Ljava/lang/Object;Ljava/lang/String;)Ljava/lang/Object;"⟩ : MethodName) (head1 (Jvm.Cond.code (⟨"java/util/Objects", "requireNonNull", "(Ljava/lang/Object;Ljava/lang/String;)Ljava/lang/Object;"⟩ : MethodName) jdk_31_method_11_code 2 (some (.object "java/lang/Object")) :: ws) ({ frames := 0, cells := 0, slots := 0, locals := 0 } : Room)) (fun a U => a = #[(.ref a1), (.ref a2)] ∧ Z.Warmed39 U.vm ∧ U.heap = h0) (fun _ _ _ _ _ => True) (fun _ U o U' => ∃ v L, o = .returned v ∧ Q4 Z a1 a2 h0 n0 v U'.heap L ∧ FrameEnd U o U' L ({ frames := 0, cells := 0, slots := 0, locals := 0 } : Room).cells ({ frames := 0, cells := 0, slots := 0, locals := 0 } : Room).slots) := by
  refine MetFree.of_bodySF (plainFor_of_name pn_4) hisR ?_
  intro p e s m args below meth c s₁ Bd hml0 hP hK
  obtain ⟨rfl, hZ, hh⟩ := hP
  have hx := Bd.exec
  have hby := Bd.bytes
  have hml : c.maxLocals = 2 := hml0
  have hown : s.vm.findClass "java/util/Objects" = some m.cls := findClass_of_methodNamed Bd.named
  have hnm := (name_of_methodNamed Bd.named Bd.method).1
  have X0 : Stand p l e ({ frames := 0, cells := 0, slots := 0, locals := 0 } : Room) s m #[(.ref a1), (.ref a2)] below meth c s₁ [] 0 0 := Stand.of_body Bd
  have e0 : s₁.heap = h0 := by rw [← hh, Bd.state]; rfl
  have N0 := Fr.nil n0
  have pre0 : ∀ t, Steps p.tables e below (s₁.setTop (mkF m 0 #[.val (.ref a1), .val (.ref a2)] [])) t → Steps p.tables e below (s₁.setTop (entryFrame m #[(.ref a1), (.ref a2)] 2)) t := fun t k => castTop (ef_4 m a1 a2) k

  obtain ⟨fs, hr, hrun, hended, hW, hsame⟩ := X0.leave (v := some (.ref a1)) (fun h => by rw [Bd.returns] at h; cases h)
  refine ⟨_, _, pre0 _ ?_, hrun, hended, _, _, rfl, ?_, ⟨_, rfl⟩, hW, hsame.mono (by decide) (by decide)⟩
  · show Steps p.tables e below (s₁.setTop (mkF m 0 #[.val (.ref a1), .val (.ref a2)] [])) _
    refine XS.aloadN X0.here hx rfl (hb hby d4_0) rfl rfl ?_
    show Steps p.tables e below (s₁.setTop (mkF m 1 #[.val (.ref a1), .val (.ref a2)] [(.ref a1)])) _
    refine XS.ifnonnullYes X0.here hx rfl (pc0 := 1) (pc' := 13) rfl (hb hby d4_1) rfl (by decide) (by decide) ?_
    show Steps p.tables e below (s₁.setTop (mkF m 13 #[.val (.ref a1), .val (.ref a2)] [])) _
    refine XS.aloadN X0.here hx rfl (hb hby d4_13) rfl rfl ?_
    show Steps p.tables e below (s₁.setTop (mkF m 14 #[.val (.ref a1), .val (.ref a2)] [(.ref a1)])) _
    jvm_step X0.here [X0.here.top, hx, (hb hby d4_14), X0.method', Bd.returns, Value.isRef, FieldType.isReference]
    first | (intro acts; rw [hr _ acts rfl rfl rfl]) | rw [hr _ _ rfl rfl rfl]
    exact Steps.refl _
  · show Q4 Z a1 a2 h0 n0 _ s₁.heap _
    rw [e0]
    exact ⟨rfl, N0, rfl⟩
theorem d1_0 : decode prog_23_method_1_code 0 = .ok (.aload_n 0, 1) := by decide +kernel
theorem d1_1 : decode prog_23_method_1_code 1 = .ok (.invokespecial 1, 3) := by decide +kernel
theorem d1_4 : decode prog_23_method_1_code 4 = .ok (.aload_n 1, 1) := by decide +kernel
theorem d1_5 : decode prog_23_method_1_code 5 = .ok (.ldc 7, 2) := by decide +kernel
theorem d1_7 : decode prog_23_method_1_code 7 = .ok (.invokestatic 9, 3) := by decide +kernel
theorem d1_10 : decode prog_23_method_1_code 10 = .ok (.pop, 1) := by decide +kernel
theorem d1_11 : decode prog_23_method_1_code 11 = .ok (.aload_n 1, 1) := by decide +kernel
theorem d1_12 : decode prog_23_method_1_code 12 = .ok (.getstatic 15, 3) := by decide +kernel
theorem d1_15 : decode prog_23_method_1_code 15 = .ok (.if_acmp .ne 29, 3) := by decide +kernel
theorem d1_18 : decode prog_23_method_1_code 18 = .ok (.lload_n 2, 1) := by decide +kernel
theorem d1_19 : decode prog_23_method_1_code 19 = .ok (.bipush 32, 2) := by decide +kernel
theorem d1_21 : decode prog_23_method_1_code 21 = .ok (.lshl, 1) := by decide +kernel
theorem d1_22 : decode prog_23_method_1_code 22 = .ok (.lconst 0, 1) := by decide +kernel
theorem d1_23 : decode prog_23_method_1_code 23 = .ok (.lcmp, 1) := by decide +kernel
theorem d1_24 : decode prog_23_method_1_code 24 = .ok (.ifCond .ne 10, 3) := by decide +kernel
theorem d1_27 : decode prog_23_method_1_code 27 = .ok (.lload 4, 2) := by decide +kernel
theorem d1_29 : decode prog_23_method_1_code 29 = .ok (.lconst 0, 1) := by decide +kernel
theorem d1_30 : decode prog_23_method_1_code 30 = .ok (.lcmp, 1) := by decide +kernel
theorem d1_31 : decode prog_23_method_1_code 31 = .ok (.ifCond .eq 13, 3) := by decide +kernel
theorem d1_44 : decode prog_23_method_1_code 44 = .ok (.aload_n 0, 1) := by decide +kernel
theorem d1_45 : decode prog_23_method_1_code 45 = .ok (.aload_n 1, 1) := by decide +kernel
theorem d1_46 : decode prog_23_method_1_code 46 = .ok (.putfield 28, 3) := by decide +kernel
theorem d1_49 : decode prog_23_method_1_code 49 = .ok (.aload_n 0, 1) := by decide +kernel
theorem d1_50 : decode prog_23_method_1_code 50 = .ok (.lload_n 2, 1) := by decide +kernel
theorem d1_51 : decode prog_23_method_1_code 51 = .ok (.putfield 32, 3) := by decide +kernel
theorem d1_54 : decode prog_23_method_1_code 54 = .ok (.aload_n 0, 1) := by decide +kernel
theorem d1_55 : decode prog_23_method_1_code 55 = .ok (.lload 4, 2) := by decide +kernel
theorem d1_57 : decode prog_23_method_1_code 57 = .ok (.putfield 36, 3) := by decide +kernel
theorem d1_60 : decode prog_23_method_1_code 60 = .ok (.return_, 1) := by decide +kernel
theorem pn_1 : plainName "com/example/portcullis/portcullis/IpAddress" = true := by first | (simp [plainName, overriddenIn]; done) | decide +kernel
theorem pd_1_1 : parseMethodDescriptor "()V" = some ⟨[], none⟩ := by decide +kernel
theorem pd_1_2 : parseMethodDescriptor "(Ljava/lang/Object;Ljava/lang/String;)Ljava/lang/Object;" = some ⟨[(.object "java/lang/Object"), (.object "java/lang/String")], some (.object "java/lang/Object")⟩ := by decide +kernel
theorem ef_1 (m : MethodId) (x0 : Addr) (x1 : Addr) (x2 : Int64) (x3 : Int64) : entryFrame m #[(.ref x0), (.ref x1), (.long x2), (.long x3)] 6 = mkF m 0 #[.val (.ref x0), .val (.ref x1), .val (.long x2), .second, .val (.long x3), .second] [] := by first | (simp [entryFrame, mkF, argsToLocals, Value.category]; done) | rfl
def Q1_fft (Z : State) (a1 : Addr) (a2 : Addr) (q3 : Int64) (q4 : Int64) (w8 : Addr) (u_version_a1 : Value) (u_high_a1 : Value) (u_low_a1 : Value) (h0 : Heap) (n0 : Nat) (v : Option Value) (h : Heap) (L : List Loc) : Prop := v = none ∧ Fr n0 L ∧ Keep h0 h [a1] ∧ Exa Z h a1 "com/example/portcullis/portcullis/IpAddress" ∧ Fld Z h a1 "com/example/portcullis/portcullis/IpAddress" "version" "Lcom/example/portcullis/portcullis/IpAddress$Version;" (.ref a2) ∧ Fld Z h a1 "com/example/portcullis/portcullis/IpAddress" "high" "J" (.long q3) ∧ Fld Z h a1 "com/example/portcullis/portcullis/IpAddress" "low" "J" (.long q4)
set_option maxRecDepth 65536 in
set_option maxHeartbeats 40000000 in
theorem rm1_fft (l : Launch) (Z : State) (a0 : Array Value) (hw : ∀ d ∈ tables_1, d.before a0 Z = true) (ws : List Jvm.Cond) (a1 : Addr) (a2 : Addr) (q3 : Int64) (q4 : Int64) (w8 : Addr) (u_version_a1 : Value) (u_high_a1 : Value) (u_low_a1 : Value) (h0 : Heap) (n0 : Nat) (Z0 : n0 ≤ h0.size) (S_IPV4 : Sta Z h0 "com/example/portcullis/portcullis/IpAddress$Version" "IPV4" "Lcom/example/portcullis/portcullis/IpAddress$Version;" (.ref w8)) (E_a1 : Exa Z h0 a1 "com/example/portcullis/portcullis/IpAddress") (F_version_a1 : Fld Z h0 a1 "com/example/portcullis/portcullis/IpAddress" "version" "Lcom/example/portcullis/portcullis/IpAddress$Version;" u_version_a1) (g_a1 : n0 ≤ a1) (F_high_a1 : Fld Z h0 a1 "com/example/portcullis/portcullis/IpAddress" "high" "J" u_high_a1) (F_low_a1 : Fld Z h0 a1 "com/example/portcullis/portcullis/IpAddress" "low" "J" u_low_a1) (ha15 : a2 = w8) (hc24 : (lcmpW (q3 <<< ((32 : Int32) &&& 0x3f).toInt64) (0 : Int64)) = (0 : Int32)) (hc31 : (lcmpW q4 (0 : Int64)) = (0 : Int32)) :
    MetFree l (⟨"com/example/portcullis/portcullis/IpAddress", "<init>", "(Lcom/example/portcullis/portcullis/IpAddress$Version;JJ)V"⟩ : MethodName) (head1 (Jvm.Cond.code (⟨"com/example/portcullis/portcullis/IpAddress", "<init>", "(Lcom/example/portcullis/portcullis/IpAddress$Version;JJ)V"⟩ : MethodName) prog_23_method_1_code 6 none :: ws) ({ frames := 2, cells := 2, slots := 32, locals := 24 } : Room)) (fun a U => a = #[(.ref a1), (.ref a2), (.long q3), (.long q4)] ∧ Z.Warmed39 U.vm ∧ U.heap = h0) (fun _ _ _ _ _ => True) (fun _ U o U' => ∃ v L, o = .returned v ∧ Q1_fft Z a1 a2 q3 q4 w8 u_version_a1 u_high_a1 u_low_a1 h0 n0 v U'.heap L ∧ ReturnedEndW U o U' L ({ frames := 2, cells := 2, slots := 32, locals := 24 } : Room).cells ({ frames := 2, cells := 2, slots := 32, locals := 24 } : Room).slots) := by
  refine MetFree.of_bodySF (plainFor_of_name pn_1) hisR ?_
  intro p e s m args below meth c s₁ Bd hml0 hP hK
  obtain ⟨rfl, hZ, hh⟩ := hP
  have hx := Bd.exec
  have hby := Bd.bytes
  have hml : c.maxLocals = 6 := hml0
  have hown : s.vm.findClass "com/example/portcullis/portcullis/IpAddress" = some m.cls := findClass_of_methodNamed Bd.named
  have hnm := (name_of_methodNamed Bd.named Bd.method).1
  have X0 : Stand p l e ({ frames := 2, cells := 2, slots := 32, locals := 24 } : Room) s m #[(.ref a1), (.ref a2), (.long q3), (.long q4)] below meth c s₁ [] 0 0 := Stand.of_body Bd
  have e0 : s₁.heap = h0 := by rw [← hh, Bd.state]; rfl
  have N0 := Fr.nil n0
  have pre0 : ∀ t, Steps p.tables e below (s₁.setTop (mkF m 0 #[.val (.ref a1), .val (.ref a2), .val (.long q3), .second, .val (.long q4), .second] [])) t → Steps p.tables e below (s₁.setTop (entryFrame m #[(.ref a1), (.ref a2), (.long q3), (.long q4)] 6)) t := fun t k => castTop (ef_1 m a1 a2 q3 q4) k
  obtain ⟨_, _, ⟨T5, L5, k5, n5⟩, -, X5, ⟨Lc5, hQ5, l5, y5, z5⟩, st5⟩ := X0.specialBack hx (y := (⟨"java/lang/Record", "<init>", "()V"⟩ : MethodName)) rfl hown (mvT hZ (hw _ (List.mem_of_getElem? (i := 10) rfl))) (mvT hZ (hw _ (List.mem_of_getElem? (i := 11) rfl))) (mvT hZ (hw _ (List.mem_of_getElem? (i := 14) rfl))) (by decide) (backOf (W := 0) (rm2 l Z a0 hw [] a1  h0 n0 Z0) hZ (hw _ (List.mem_of_getElem? (i := 14) rfl)) (hw _ (List.mem_of_getElem? (i := 13) rfl)) (by decide) (by decide)) (g := (mkF m 1 #[.val (.ref a1), .val (.ref a2), .val (.long q3), .second, .val (.long q4), .second] [(.ref a1)])) rfl (by rw [hml]; rfl) (Steps.refl _) (a := a1) (argsL := []) (rest := []) (lenOf pd_1_1 rfl) rfl (by show 2 * 0 + _ ≤ _; exact Nat.le_of_eq rfl) (hb hby d1_1) (fun _ _ => ⟨rfl, e0, (by decide : 0 + 0 ≤ _), (by decide : 0 + 0 ≤ _)⟩)
  dsimp only [Pt.U, Pt.locs, Pt.cells, Pt.slots] at X5 l5 y5 z5 st5 hQ5
  subst l5 y5 z5
  obtain ⟨rfl, N5q, e5q⟩ := hQ5
  have N5 := Fr.app N0 N5q
  have Xr := X5.retabled X5.warmed.wide
  have hZr : Z.Warmed39 T5.vm := wtrans hZ X5.warmed
  have hownr : T5.vm.findClass "com/example/portcullis/portcullis/IpAddress" = some m.cls := (X5.warmed.alike.findClass _ _).trans hown
  obtain ⟨a6, T6, h6, k6, X6, e6, E6, hS6, hk6, hZ2, hown2, st6⟩ := ldcS (s := s) Xr hx hZr hownr (hw _ (List.mem_of_getElem? (i := 18) rfl)) (own_str hw) e5q (X5.warmed.since 0) (Nat.zero_le _) (g := (mkF m 5 #[.val (.ref a1), .val (.ref a2), .val (.long q3), .second, .val (.long q4), .second] [(.ref a2)])) rfl (hb hby d1_5) (n := 28) (by decide +kernel) (by decide) (by decide) (by decide)
  have K6 : Keep h0 h6 [a1] := (Keep.refl h0 [a1]).ext E6
  obtain ⟨_, _, ⟨T7, L7, k7, n7⟩, -, X7, ⟨Lc7, hQ7, l7, y7, z7⟩, st7⟩ := Jvm.LawKit.callS X6 hx (y := (⟨"java/util/Objects", "requireNonNull", "(Ljava/lang/Object;Ljava/lang/String;)Ljava/lang/Object;"⟩ : MethodName)) hown2 (mvT hZ2 (hw _ (List.mem_of_getElem? (i := 26) rfl))) (mvT hZ2 (hw _ (List.mem_of_getElem? (i := 27) rfl))) (mvT hZ2 (hw _ (List.mem_of_getElem? (i := 28) rfl))) (mvT hZ2 (hw _ (List.mem_of_getElem? (i := 29) rfl))) (by decide) (backOf (W := 0) (rm4 l Z a0 hw [] a2 a6  h6 n0 (Nat.le_trans Z0 E6.1)) hZ2 (hw _ (List.mem_of_getElem? (i := 29) rfl)) (hw _ (List.mem_of_getElem? (i := 28) rfl)) (by decide) (by decide)) (g := (mkF m 7 #[.val (.ref a1), .val (.ref a2), .val (.long q3), .second, .val (.long q4), .second] [(.ref a6), (.ref a2)])) rfl (by rw [hml]; rfl) (argsL := [(.ref a2), (.ref a6)]) (rest := []) (lenOf pd_1_2 rfl) rfl (by show 2 * 0 + _ ≤ _; exact Nat.le_of_eq rfl) (hb hby d1_7) (fun _ _ => ⟨rfl, e6, (by decide : 2 + 0 ≤ _), (by decide : 32 + 0 ≤ _)⟩)
  dsimp only [Pt.U, Pt.locs, Pt.cells, Pt.slots] at X7 l7 y7 z7 st7 hQ7
  subst l7 y7 z7
  obtain ⟨rfl, N7q, e7q⟩ := hQ7
  have N7 := Fr.app N5 N7q
  obtain ⟨T9, X9, e9, st9⟩ := getS2 X7 hx hZ2 hown2 (host := "") (Or.inl (hw _ (List.mem_of_getElem? (i := 30) rfl))) Via.refl e7q (S_IPV4.ext E6) (g := (mkF m 12 #[.val (.ref a1), .val (.ref a2), .val (.long q3), .second, .val (.long q4), .second] [(.ref a2)])) rfl (hb hby d1_12)
  obtain ⟨T10, h10, X10, e10, W10, st10⟩ := putF X9 hx hZ2 hown2 (host := "") (Or.inl (hw _ (List.mem_of_getElem? (i := 31) rfl))) Via.refl e9 (F_version_a1.ext E6) (E_a1.ext E6) (Or.inr ⟨(hw _ (List.mem_of_getElem? (i := 32) rfl)), rfl, hnm⟩) (hw _ (List.mem_of_getElem? (i := 1) rfl)) (ty := (.object "com/example/portcullis/portcullis/IpAddress$Version")) (by decide) rfl rfl (g := (mkF m 46 #[.val (.ref a1), .val (.ref a2), .val (.long q3), .second, .val (.long q4), .second] [(.ref a2), (.ref a1)])) rfl rfl (hb hby d1_46)
  have Fw10 := (F_version_a1.ext E6).same W10
  have K10 : Keep h0 h10 [a1] := K6.wr W10 (Or.inl (List.mem_of_getElem? (i := 0) rfl))
  have N10 := Fr.snoc X10 N7 g_a1
  obtain ⟨T11, h11, X11, e11, W11, st11⟩ := putF X10 hx hZ2 hown2 (host := "") (Or.inl (hw _ (List.mem_of_getElem? (i := 33) rfl))) Via.refl e10 ((F_high_a1.ext E6).other W10 (Or.inr (slot_ne (Or.inr (hw _ (List.mem_of_getElem? (i := 34) rfl))) (Or.inr (hw _ (List.mem_of_getElem? (i := 32) rfl))) (by decide) (t := .long) (t' := (.object "com/example/portcullis/portcullis/IpAddress$Version")) (by decide) (by decide)))) ((E_a1.ext E6).wr W10) (Or.inr ⟨(hw _ (List.mem_of_getElem? (i := 34) rfl)), rfl, hnm⟩) (hw _ (List.mem_of_getElem? (i := 1) rfl)) (ty := .long) (by decide) rfl rfl (g := (mkF m 51 #[.val (.ref a1), .val (.ref a2), .val (.long q3), .second, .val (.long q4), .second] [(.long q3), (.ref a1)])) rfl rfl (hb hby d1_51)
  have Fw11 := ((F_high_a1.ext E6).other W10 (Or.inr (slot_ne (Or.inr (hw _ (List.mem_of_getElem? (i := 34) rfl))) (Or.inr (hw _ (List.mem_of_getElem? (i := 32) rfl))) (by decide) (t := .long) (t' := (.object "com/example/portcullis/portcullis/IpAddress$Version")) (by decide) (by decide)))).same W11
  have K11 : Keep h0 h11 [a1] := K10.wr W11 (Or.inl (List.mem_of_getElem? (i := 0) rfl))
  have N11 := Fr.snoc X11 N10 g_a1
  obtain ⟨T12, h12, X12, e12, W12, st12⟩ := putF X11 hx hZ2 hown2 (host := "") (Or.inl (hw _ (List.mem_of_getElem? (i := 35) rfl))) Via.refl e11 (((F_low_a1.ext E6).other W10 (Or.inr (slot_ne (Or.inr (hw _ (List.mem_of_getElem? (i := 36) rfl))) (Or.inr (hw _ (List.mem_of_getElem? (i := 32) rfl))) (by decide) (t := .long) (t' := (.object "com/example/portcullis/portcullis/IpAddress$Version")) (by decide) (by decide)))).other W11 (Or.inr (slot_ne (Or.inr (hw _ (List.mem_of_getElem? (i := 36) rfl))) (Or.inr (hw _ (List.mem_of_getElem? (i := 34) rfl))) (by decide) (t := .long) (t' := .long) (by decide) (by decide)))) (((E_a1.ext E6).wr W10).wr W11) (Or.inr ⟨(hw _ (List.mem_of_getElem? (i := 36) rfl)), rfl, hnm⟩) (hw _ (List.mem_of_getElem? (i := 1) rfl)) (ty := .long) (by decide) rfl rfl (g := (mkF m 57 #[.val (.ref a1), .val (.ref a2), .val (.long q3), .second, .val (.long q4), .second] [(.long q4), (.ref a1)])) rfl rfl (hb hby d1_57)
  have Fw12 := (((F_low_a1.ext E6).other W10 (Or.inr (slot_ne (Or.inr (hw _ (List.mem_of_getElem? (i := 36) rfl))) (Or.inr (hw _ (List.mem_of_getElem? (i := 32) rfl))) (by decide) (t := .long) (t' := (.object "com/example/portcullis/portcullis/IpAddress$Version")) (by decide) (by decide)))).other W11 (Or.inr (slot_ne (Or.inr (hw _ (List.mem_of_getElem? (i := 36) rfl))) (Or.inr (hw _ (List.mem_of_getElem? (i := 34) rfl))) (by decide) (t := .long) (t' := .long) (by decide) (by decide)))).same W12
  have K12 : Keep h0 h12 [a1] := K11.wr W12 (Or.inl (List.mem_of_getElem? (i := 0) rfl))
  have N12 := Fr.snoc X12 N11 g_a1
  have hlk : meth.locks = false := BodyLoose.notSynchronized Bd
  have hsz : _ ≤ T12.heap.size := (show k6 ≤ T12.heap.size from by rw [e12]; exact Nat.le_trans hk6 (Nat.le_trans (Keep.of_wr W10).1 (Nat.le_trans (Keep.of_wr W11).1 (Keep.of_wr W12).1)))
  obtain ⟨fs, hr, hrun, hended, hRW⟩ := Stand.leaveW (s := s) (vm₁ := T6.vm) X12 hS6 hsz (v := none) (fun _ => rfl) hlk
  refine ⟨_, _, pre0 _ ?_, hrun, hended, _, _, rfl, ?_, hRW.1, hRW.2.1, hRW.2.2.1, hRW.2.2.2.mono (by decide) (by decide)⟩
  · show Steps p.tables e below (s₁.setTop (mkF m 0 #[.val (.ref a1), .val (.ref a2), .val (.long q3), .second, .val (.long q4), .second] [])) _
    refine XS.aloadN X0.here hx rfl (hb hby d1_0) rfl rfl ?_
    show Steps p.tables e below (s₁.setTop (mkF m 1 #[.val (.ref a1), .val (.ref a2), .val (.long q3), .second, .val (.long q4), .second] [(.ref a1)])) _
    refine st5.trans ?_
    show Steps p.tables e below (T5.setTop (mkF m 4 #[.val (.ref a1), .val (.ref a2), .val (.long q3), .second, .val (.long q4), .second] [])) _
    refine XS.aloadN X5.here hx rfl (hb hby d1_4) rfl rfl ?_
    show Steps p.tables e below (T5.setTop (mkF m 5 #[.val (.ref a1), .val (.ref a2), .val (.long q3), .second, .val (.long q4), .second] [(.ref a2)])) _
    refine st6 _ ?_
    show Steps p.tables e below (T6.setTop (mkF m 7 #[.val (.ref a1), .val (.ref a2), .val (.long q3), .second, .val (.long q4), .second] [(.ref a6), (.ref a2)])) _
    refine st7 _ ?_
    show Steps p.tables e below (T7.setTop (mkF m 10 #[.val (.ref a1), .val (.ref a2), .val (.long q3), .second, .val (.long q4), .second] [(.ref a2)])) _
    refine XS.pop X7.here hx rfl (hb hby d1_10) rfl rfl ?_
    show Steps p.tables e below (T7.setTop (mkF m 11 #[.val (.ref a1), .val (.ref a2), .val (.long q3), .second, .val (.long q4), .second] [])) _
    refine XS.aloadN X7.here hx rfl (hb hby d1_11) rfl rfl ?_
    show Steps p.tables e below (T7.setTop (mkF m 12 #[.val (.ref a1), .val (.ref a2), .val (.long q3), .second, .val (.long q4), .second] [(.ref a2)])) _
    refine st9 _ ?_
    show Steps p.tables e below (T9.setTop (mkF m 15 #[.val (.ref a1), .val (.ref a2), .val (.long q3), .second, .val (.long q4), .second] [(.ref w8), (.ref a2)])) _
    refine Jvm.RoadKit.acmp (g := (mkF m 15 #[.val (.ref a1), .val (.ref a2), .val (.long q3), .second, .val (.long q4), .second] [(.ref w8), (.ref a2)])) X9 hx rfl rfl rfl (pc0 := 15) (pc' := 18) (same := true) rfl (hb hby d1_15) rfl (decide_eq_true (congrArg Value.ref ha15)) (by decide) (by decide) ?_
    show Steps p.tables e below (T9.setTop (mkF m 18 #[.val (.ref a1), .val (.ref a2), .val (.long q3), .second, .val (.long q4), .second] [])) _
    refine XS.lloadN X9.here hx rfl (hb hby d1_18) rfl ?_
    show Steps p.tables e below (T9.setTop (mkF m 19 #[.val (.ref a1), .val (.ref a2), .val (.long q3), .second, .val (.long q4), .second] [(.long q3)])) _
    refine XS.bipush X9.here hx rfl (hb hby d1_19) ?_
    show Steps p.tables e below (T9.setTop (mkF m 21 #[.val (.ref a1), .val (.ref a2), .val (.long q3), .second, .val (.long q4), .second] [(.int (32 : Int32)), (.long q3)])) _
    refine XS.lshl X9.here hx rfl (hb hby d1_21) rfl ?_
    show Steps p.tables e below (T9.setTop (mkF m 22 #[.val (.ref a1), .val (.ref a2), .val (.long q3), .second, .val (.long q4), .second] [(.long (q3 <<< ((32 : Int32) &&& 0x3f).toInt64))])) _
    refine XS.lconst X9.here hx rfl (hb hby d1_22) ?_
    show Steps p.tables e below (T9.setTop (mkF m 23 #[.val (.ref a1), .val (.ref a2), .val (.long q3), .second, .val (.long q4), .second] [(.long (0 : Int64)), (.long (q3 <<< ((32 : Int32) &&& 0x3f).toInt64))])) _
    refine XS.lcmp X9.here hx rfl (hb hby d1_23) rfl ?_
    show Steps p.tables e below (T9.setTop (mkF m 24 #[.val (.ref a1), .val (.ref a2), .val (.long q3), .second, .val (.long q4), .second] [(.int (lcmpW (q3 <<< ((32 : Int32) &&& 0x3f).toInt64) (0 : Int64)))])) _
    refine XS.ifNo X9.here hx rfl (hb hby d1_24) rfl ((if0 _ _).trans (teq hc24).2) ?_
    show Steps p.tables e below (T9.setTop (mkF m 27 #[.val (.ref a1), .val (.ref a2), .val (.long q3), .second, .val (.long q4), .second] [])) _
    refine XS.lload X9.here hx rfl (hb hby d1_27) rfl ?_
    show Steps p.tables e below (T9.setTop (mkF m 29 #[.val (.ref a1), .val (.ref a2), .val (.long q3), .second, .val (.long q4), .second] [(.long q4)])) _
    refine XS.lconst X9.here hx rfl (hb hby d1_29) ?_
    show Steps p.tables e below (T9.setTop (mkF m 30 #[.val (.ref a1), .val (.ref a2), .val (.long q3), .second, .val (.long q4), .second] [(.long (0 : Int64)), (.long q4)])) _
    refine XS.lcmp X9.here hx rfl (hb hby d1_30) rfl ?_
    show Steps p.tables e below (T9.setTop (mkF m 31 #[.val (.ref a1), .val (.ref a2), .val (.long q3), .second, .val (.long q4), .second] [(.int (lcmpW q4 (0 : Int64)))])) _
    refine XS.ifYes X9.here hx rfl (pc0 := 31) (pc' := 44) rfl (hb hby d1_31) rfl ((if0 _ _).trans (teq hc31).1) (by decide) (by decide) ?_
    show Steps p.tables e below (T9.setTop (mkF m 44 #[.val (.ref a1), .val (.ref a2), .val (.long q3), .second, .val (.long q4), .second] [])) _
    refine XS.aloadN X9.here hx rfl (hb hby d1_44) rfl rfl ?_
    show Steps p.tables e below (T9.setTop (mkF m 45 #[.val (.ref a1), .val (.ref a2), .val (.long q3), .second, .val (.long q4), .second] [(.ref a1)])) _
    refine XS.aloadN X9.here hx rfl (hb hby d1_45) rfl rfl ?_
    show Steps p.tables e below (T9.setTop (mkF m 46 #[.val (.ref a1), .val (.ref a2), .val (.long q3), .second, .val (.long q4), .second] [(.ref a2), (.ref a1)])) _
    refine st10 _ ?_
    show Steps p.tables e below (T10.setTop (mkF m 49 #[.val (.ref a1), .val (.ref a2), .val (.long q3), .second, .val (.long q4), .second] [])) _
    refine XS.aloadN X10.here hx rfl (hb hby d1_49) rfl rfl ?_
    show Steps p.tables e below (T10.setTop (mkF m 50 #[.val (.ref a1), .val (.ref a2), .val (.long q3), .second, .val (.long q4), .second] [(.ref a1)])) _
    refine XS.lloadN X10.here hx rfl (hb hby d1_50) rfl ?_
    show Steps p.tables e below (T10.setTop (mkF m 51 #[.val (.ref a1), .val (.ref a2), .val (.long q3), .second, .val (.long q4), .second] [(.long q3), (.ref a1)])) _
    refine st11 _ ?_
    show Steps p.tables e below (T11.setTop (mkF m 54 #[.val (.ref a1), .val (.ref a2), .val (.long q3), .second, .val (.long q4), .second] [])) _
    refine XS.aloadN X11.here hx rfl (hb hby d1_54) rfl rfl ?_
    show Steps p.tables e below (T11.setTop (mkF m 55 #[.val (.ref a1), .val (.ref a2), .val (.long q3), .second, .val (.long q4), .second] [(.ref a1)])) _
    refine XS.lload X11.here hx rfl (hb hby d1_55) rfl ?_
    show Steps p.tables e below (T11.setTop (mkF m 57 #[.val (.ref a1), .val (.ref a2), .val (.long q3), .second, .val (.long q4), .second] [(.long q4), (.ref a1)])) _
    refine st12 _ ?_
    show Steps p.tables e below (T12.setTop (mkF m 60 #[.val (.ref a1), .val (.ref a2), .val (.long q3), .second, .val (.long q4), .second] [])) _
    exact X12.returnOut hx Bd.returns (hb hby d1_60) hr
  · show Q1_fft Z a1 a2 q3 q4 w8 u_version_a1 u_high_a1 u_low_a1 h0 n0 _ T12.heap _
    rw [e12]
    exact ⟨rfl, N12, K12, ((((E_a1.ext E6).wr W10).wr W11).wr W12), ((Fw10.other W11 (Or.inr (slot_ne (Or.inr (hw _ (List.mem_of_getElem? (i := 32) rfl))) (Or.inr (hw _ (List.mem_of_getElem? (i := 34) rfl))) (by decide) (t := (.object "com/example/portcullis/portcullis/IpAddress$Version")) (t' := .long) (by decide) (by decide)))).other W12 (Or.inr (slot_ne (Or.inr (hw _ (List.mem_of_getElem? (i := 32) rfl))) (Or.inr (hw _ (List.mem_of_getElem? (i := 36) rfl))) (by decide) (t := (.object "com/example/portcullis/portcullis/IpAddress$Version")) (t' := .long) (by decide) (by decide)))), (Fw11.other W12 (Or.inr (slot_ne (Or.inr (hw _ (List.mem_of_getElem? (i := 34) rfl))) (Or.inr (hw _ (List.mem_of_getElem? (i := 36) rfl))) (by decide) (t := .long) (t' := .long) (by decide) (by decide)))), Fw12⟩
def Q1_t (Z : State) (a1 : Addr) (a2 : Addr) (q3 : Int64) (q4 : Int64) (w8 : Addr) (u_version_a1 : Value) (u_high_a1 : Value) (u_low_a1 : Value) (h0 : Heap) (n0 : Nat) (v : Option Value) (h : Heap) (L : List Loc) : Prop := v = none ∧ Fr n0 L ∧ Keep h0 h [a1] ∧ Exa Z h a1 "com/example/portcullis/portcullis/IpAddress" ∧ Fld Z h a1 "com/example/portcullis/portcullis/IpAddress" "version" "Lcom/example/portcullis/portcullis/IpAddress$Version;" (.ref a2) ∧ Fld Z h a1 "com/example/portcullis/portcullis/IpAddress" "high" "J" (.long q3) ∧ Fld Z h a1 "com/example/portcullis/portcullis/IpAddress" "low" "J" (.long q4)
set_option maxRecDepth 65536 in
set_option maxHeartbeats 40000000 in
theorem rm1_t (l : Launch) (Z : State) (a0 : Array Value) (hw : ∀ d ∈ tables_1, d.before a0 Z = true) (ws : List Jvm.Cond) (a1 : Addr) (a2 : Addr) (q3 : Int64) (q4 : Int64) (w8 : Addr) (u_version_a1 : Value) (u_high_a1 : Value) (u_low_a1 : Value) (h0 : Heap) (n0 : Nat) (Z0 : n0 ≤ h0.size) (S_IPV4 : Sta Z h0 "com/example/portcullis/portcullis/IpAddress$Version" "IPV4" "Lcom/example/portcullis/portcullis/IpAddress$Version;" (.ref w8)) (E_a1 : Exa Z h0 a1 "com/example/portcullis/portcullis/IpAddress") (F_version_a1 : Fld Z h0 a1 "com/example/portcullis/portcullis/IpAddress" "version" "Lcom/example/portcullis/portcullis/IpAddress$Version;" u_version_a1) (g_a1 : n0 ≤ a1) (F_high_a1 : Fld Z h0 a1 "com/example/portcullis/portcullis/IpAddress" "high" "J" u_high_a1) (F_low_a1 : Fld Z h0 a1 "com/example/portcullis/portcullis/IpAddress" "low" "J" u_low_a1) (ha15 : ¬ (a2 = w8)) :
    MetFree l (⟨"com/example/portcullis/portcullis/IpAddress", "<init>", "(Lcom/example/portcullis/portcullis/IpAddress$Version;JJ)V"⟩ : MethodName) (head1 (Jvm.Cond.code (⟨"com/example/portcullis/portcullis/IpAddress", "<init>", "(Lcom/example/portcullis/portcullis/IpAddress$Version;JJ)V"⟩ : MethodName) prog_23_method_1_code 6 none :: ws) ({ frames := 2, cells := 2, slots := 32, locals := 24 } : Room)) (fun a U => a = #[(.ref a1), (.ref a2), (.long q3), (.long q4)] ∧ Z.Warmed39 U.vm ∧ U.heap = h0) (fun _ _ _ _ _ => True) (fun _ U o U' => ∃ v L, o = .returned v ∧ Q1_t Z a1 a2 q3 q4 w8 u_version_a1 u_high_a1 u_low_a1 h0 n0 v U'.heap L ∧ ReturnedEndW U o U' L ({ frames := 2, cells := 2, slots := 32, locals := 24 } : Room).cells ({ frames := 2, cells := 2, slots := 32, locals := 24 } : Room).slots) := by
  refine MetFree.of_bodySF (plainFor_of_name pn_1) hisR ?_
  intro p e s m args below meth c s₁ Bd hml0 hP hK
  obtain ⟨rfl, hZ, hh⟩ := hP
  have hx := Bd.exec
  have hby := Bd.bytes
  have hml : c.maxLocals = 6 := hml0
  have hown : s.vm.findClass "com/example/portcullis/portcullis/IpAddress" = some m.cls := findClass_of_methodNamed Bd.named
  have hnm := (name_of_methodNamed Bd.named Bd.method).1
  have X0 : Stand p l e ({ frames := 2, cells := 2, slots := 32, locals := 24 } : Room) s m #[(.ref a1), (.ref a2), (.long q3), (.long q4)] below meth c s₁ [] 0 0 := Stand.of_body Bd
  have e0 : s₁.heap = h0 := by rw [← hh, Bd.state]; rfl
  have N0 := Fr.nil n0
  have pre0 : ∀ t, Steps p.tables e below (s₁.setTop (mkF m 0 #[.val (.ref a1), .val (.ref a2), .val (.long q3), .second, .val (.long q4), .second] [])) t → Steps p.tables e below (s₁.setTop (entryFrame m #[(.ref a1), (.ref a2), (.long q3), (.long q4)] 6)) t := fun t k => castTop (ef_1 m a1 a2 q3 q4) k
  obtain ⟨_, _, ⟨T5, L5, k5, n5⟩, -, X5, ⟨Lc5, hQ5, l5, y5, z5⟩, st5⟩ := X0.specialBack hx (y := (⟨"java/lang/Record", "<init>", "()V"⟩ : MethodName)) rfl hown (mvT hZ (hw _ (List.mem_of_getElem? (i := 10) rfl))) (mvT hZ (hw _ (List.mem_of_getElem? (i := 11) rfl))) (mvT hZ (hw _ (List.mem_of_getElem? (i := 14) rfl))) (by decide) (backOf (W := 0) (rm2 l Z a0 hw [] a1  h0 n0 Z0) hZ (hw _ (List.mem_of_getElem? (i := 14) rfl)) (hw _ (List.mem_of_getElem? (i := 13) rfl)) (by decide) (by decide)) (g := (mkF m 1 #[.val (.ref a1), .val (.ref a2), .val (.long q3), .second, .val (.long q4), .second] [(.ref a1)])) rfl (by rw [hml]; rfl) (Steps.refl _) (a := a1) (argsL := []) (rest := []) (lenOf pd_1_1 rfl) rfl (by show 2 * 0 + _ ≤ _; exact Nat.le_of_eq rfl) (hb hby d1_1) (fun _ _ => ⟨rfl, e0, (by decide : 0 + 0 ≤ _), (by decide : 0 + 0 ≤ _)⟩)
  dsimp only [Pt.U, Pt.locs, Pt.cells, Pt.slots] at X5 l5 y5 z5 st5 hQ5
  subst l5 y5 z5
  obtain ⟨rfl, N5q, e5q⟩ := hQ5
  have N5 := Fr.app N0 N5q
  have Xr := X5.retabled X5.warmed.wide
  have hZr : Z.Warmed39 T5.vm := wtrans hZ X5.warmed
  have hownr : T5.vm.findClass "com/example/portcullis/portcullis/IpAddress" = some m.cls := (X5.warmed.alike.findClass _ _).trans hown
  obtain ⟨a6, T6, h6, k6, X6, e6, E6, hS6, hk6, hZ2, hown2, st6⟩ := ldcS (s := s) Xr hx hZr hownr (hw _ (List.mem_of_getElem? (i := 18) rfl)) (own_str hw) e5q (X5.warmed.since 0) (Nat.zero_le _) (g := (mkF m 5 #[.val (.ref a1), .val (.ref a2), .val (.long q3), .second, .val (.long q4), .second] [(.ref a2)])) rfl (hb hby d1_5) (n := 28) (by decide +kernel) (by decide) (by decide) (by decide)
  have K6 : Keep h0 h6 [a1] := (Keep.refl h0 [a1]).ext E6
  obtain ⟨_, _, ⟨T7, L7, k7, n7⟩, -, X7, ⟨Lc7, hQ7, l7, y7, z7⟩, st7⟩ := Jvm.LawKit.callS X6 hx (y := (⟨"java/util/Objects", "requireNonNull", "(Ljava/lang/Object;Ljava/lang/String;)Ljava/lang/Object;"⟩ : MethodName)) hown2 (mvT hZ2 (hw _ (List.mem_of_getElem? (i := 26) rfl))) (mvT hZ2 (hw _ (List.mem_of_getElem? (i := 27) rfl))) (mvT hZ2 (hw _ (List.mem_of_getElem? (i := 28) rfl))) (mvT hZ2 (hw _ (List.mem_of_getElem? (i := 29) rfl))) (by decide) (backOf (W := 0) (rm4 l Z a0 hw [] a2 a6  h6 n0 (Nat.le_trans Z0 E6.1)) hZ2 (hw _ (List.mem_of_getElem? (i := 29) rfl)) (hw _ (List.mem_of_getElem? (i := 28) rfl)) (by decide) (by decide)) (g := (mkF m 7 #[.val (.ref a1), .val (.ref a2), .val (.long q3), .second, .val (.long q4), .second] [(.ref a6), (.ref a2)])) rfl (by rw [hml]; rfl) (argsL := [(.ref a2), (.ref a6)]) (rest := []) (lenOf pd_1_2 rfl) rfl (by show 2 * 0 + _ ≤ _; exact Nat.le_of_eq rfl) (hb hby d1_7) (fun _ _ => ⟨rfl, e6, (by decide : 2 + 0 ≤ _), (by decide : 32 + 0 ≤ _)⟩)
  dsimp only [Pt.U, Pt.locs, Pt.cells, Pt.slots] at X7 l7 y7 z7 st7 hQ7
  subst l7 y7 z7
  obtain ⟨rfl, N7q, e7q⟩ := hQ7
  have N7 := Fr.app N5 N7q
  obtain ⟨T9, X9, e9, st9⟩ := getS2 X7 hx hZ2 hown2 (host := "") (Or.inl (hw _ (List.mem_of_getElem? (i := 30) rfl))) Via.refl e7q (S_IPV4.ext E6) (g := (mkF m 12 #[.val (.ref a1), .val (.ref a2), .val (.long q3), .second, .val (.long q4), .second] [(.ref a2)])) rfl (hb hby d1_12)
  obtain ⟨T10, h10, X10, e10, W10, st10⟩ := putF X9 hx hZ2 hown2 (host := "") (Or.inl (hw _ (List.mem_of_getElem? (i := 31) rfl))) Via.refl e9 (F_version_a1.ext E6) (E_a1.ext E6) (Or.inr ⟨(hw _ (List.mem_of_getElem? (i := 32) rfl)), rfl, hnm⟩) (hw _ (List.mem_of_getElem? (i := 1) rfl)) (ty := (.object "com/example/portcullis/portcullis/IpAddress$Version")) (by decide) rfl rfl (g := (mkF m 46 #[.val (.ref a1), .val (.ref a2), .val (.long q3), .second, .val (.long q4), .second] [(.ref a2), (.ref a1)])) rfl rfl (hb hby d1_46)
  have Fw10 := (F_version_a1.ext E6).same W10
  have K10 : Keep h0 h10 [a1] := K6.wr W10 (Or.inl (List.mem_of_getElem? (i := 0) rfl))
  have N10 := Fr.snoc X10 N7 g_a1
  obtain ⟨T11, h11, X11, e11, W11, st11⟩ := putF X10 hx hZ2 hown2 (host := "") (Or.inl (hw _ (List.mem_of_getElem? (i := 33) rfl))) Via.refl e10 ((F_high_a1.ext E6).other W10 (Or.inr (slot_ne (Or.inr (hw _ (List.mem_of_getElem? (i := 34) rfl))) (Or.inr (hw _ (List.mem_of_getElem? (i := 32) rfl))) (by decide) (t := .long) (t' := (.object "com/example/portcullis/portcullis/IpAddress$Version")) (by decide) (by decide)))) ((E_a1.ext E6).wr W10) (Or.inr ⟨(hw _ (List.mem_of_getElem? (i := 34) rfl)), rfl, hnm⟩) (hw _ (List.mem_of_getElem? (i := 1) rfl)) (ty := .long) (by decide) rfl rfl (g := (mkF m 51 #[.val (.ref a1), .val (.ref a2), .val (.long q3), .second, .val (.long q4), .second] [(.long q3), (.ref a1)])) rfl rfl (hb hby d1_51)
  have Fw11 := ((F_high_a1.ext E6).other W10 (Or.inr (slot_ne (Or.inr (hw _ (List.mem_of_getElem? (i := 34) rfl))) (Or.inr (hw _ (List.mem_of_getElem? (i := 32) rfl))) (by decide) (t := .long) (t' := (.object "com/example/portcullis/portcullis/IpAddress$Version")) (by decide) (by decide)))).same W11
  have K11 : Keep h0 h11 [a1] := K10.wr W11 (Or.inl (List.mem_of_getElem? (i := 0) rfl))
  have N11 := Fr.snoc X11 N10 g_a1
  obtain ⟨T12, h12, X12, e12, W12, st12⟩ := putF X11 hx hZ2 hown2 (host := "") (Or.inl (hw _ (List.mem_of_getElem? (i := 35) rfl))) Via.refl e11 (((F_low_a1.ext E6).other W10 (Or.inr (slot_ne (Or.inr (hw _ (List.mem_of_getElem? (i := 36) rfl))) (Or.inr (hw _ (List.mem_of_getElem? (i := 32) rfl))) (by decide) (t := .long) (t' := (.object "com/example/portcullis/portcullis/IpAddress$Version")) (by decide) (by decide)))).other W11 (Or.inr (slot_ne (Or.inr (hw _ (List.mem_of_getElem? (i := 36) rfl))) (Or.inr (hw _ (List.mem_of_getElem? (i := 34) rfl))) (by decide) (t := .long) (t' := .long) (by decide) (by decide)))) (((E_a1.ext E6).wr W10).wr W11) (Or.inr ⟨(hw _ (List.mem_of_getElem? (i := 36) rfl)), rfl, hnm⟩) (hw _ (List.mem_of_getElem? (i := 1) rfl)) (ty := .long) (by decide) rfl rfl (g := (mkF m 57 #[.val (.ref a1), .val (.ref a2), .val (.long q3), .second, .val (.long q4), .second] [(.long q4), (.ref a1)])) rfl rfl (hb hby d1_57)
  have Fw12 := (((F_low_a1.ext E6).other W10 (Or.inr (slot_ne (Or.inr (hw _ (List.mem_of_getElem? (i := 36) rfl))) (Or.inr (hw _ (List.mem_of_getElem? (i := 32) rfl))) (by decide) (t := .long) (t' := (.object "com/example/portcullis/portcullis/IpAddress$Version")) (by decide) (by decide)))).other W11 (Or.inr (slot_ne (Or.inr (hw _ (List.mem_of_getElem? (i := 36) rfl))) (Or.inr (hw _ (List.mem_of_getElem? (i := 34) rfl))) (by decide) (t := .long) (t' := .long) (by decide) (by decide)))).same W12
  have K12 : Keep h0 h12 [a1] := K11.wr W12 (Or.inl (List.mem_of_getElem? (i := 0) rfl))
  have N12 := Fr.snoc X12 N11 g_a1
  have hlk : meth.locks = false := BodyLoose.notSynchronized Bd
  have hsz : _ ≤ T12.heap.size := (show k6 ≤ T12.heap.size from by rw [e12]; exact Nat.le_trans hk6 (Nat.le_trans (Keep.of_wr W10).1 (Nat.le_trans (Keep.of_wr W11).1 (Keep.of_wr W12).1)))
  obtain ⟨fs, hr, hrun, hended, hRW⟩ := Stand.leaveW (s := s) (vm₁ := T6.vm) X12 hS6 hsz (v := none) (fun _ => rfl) hlk
  refine ⟨_, _, pre0 _ ?_, hrun, hended, _, _, rfl, ?_, hRW.1, hRW.2.1, hRW.2.2.1, hRW.2.2.2.mono (by decide) (by decide)⟩
  · show Steps p.tables e below (s₁.setTop (mkF m 0 #[.val (.ref a1), .val (.ref a2), .val (.long q3), .second, .val (.long q4), .second] [])) _
    refine XS.aloadN X0.here hx rfl (hb hby d1_0) rfl rfl ?_
    show Steps p.tables e below (s₁.setTop (mkF m 1 #[.val (.ref a1), .val (.ref a2), .val (.long q3), .second, .val (.long q4), .second] [(.ref a1)])) _
    refine st5.trans ?_
    show Steps p.tables e below (T5.setTop (mkF m 4 #[.val (.ref a1), .val (.ref a2), .val (.long q3), .second, .val (.long q4), .second] [])) _
    refine XS.aloadN X5.here hx rfl (hb hby d1_4) rfl rfl ?_
    show Steps p.tables e below (T5.setTop (mkF m 5 #[.val (.ref a1), .val (.ref a2), .val (.long q3), .second, .val (.long q4), .second] [(.ref a2)])) _
    refine st6 _ ?_
    show Steps p.tables e below (T6.setTop (mkF m 7 #[.val (.ref a1), .val (.ref a2), .val (.long q3), .second, .val (.long q4), .second] [(.ref a6), (.ref a2)])) _
    refine st7 _ ?_
    show Steps p.tables e below (T7.setTop (mkF m 10 #[.val (.ref a1), .val (.ref a2), .val (.long q3), .second, .val (.long q4), .second] [(.ref a2)])) _
    refine XS.pop X7.here hx rfl (hb hby d1_10) rfl rfl ?_
    show Steps p.tables e below (T7.setTop (mkF m 11 #[.val (.ref a1), .val (.ref a2), .val (.long q3), .second, .val (.long q4), .second] [])) _
    refine XS.aloadN X7.here hx rfl (hb hby d1_11) rfl rfl ?_
    show Steps p.tables e below (T7.setTop (mkF m 12 #[.val (.ref a1), .val (.ref a2), .val (.long q3), .second, .val (.long q4), .second] [(.ref a2)])) _
    refine st9 _ ?_
    show Steps p.tables e below (T9.setTop (mkF m 15 #[.val (.ref a1), .val (.ref a2), .val (.long q3), .second, .val (.long q4), .second] [(.ref w8), (.ref a2)])) _
    refine Jvm.RoadKit.acmp (g := (mkF m 15 #[.val (.ref a1), .val (.ref a2), .val (.long q3), .second, .val (.long q4), .second] [(.ref w8), (.ref a2)])) X9 hx rfl rfl rfl (pc0 := 15) (pc' := 44) (same := false) rfl (hb hby d1_15) rfl (decide_eq_false fun q => ha15 (Value.ref.inj q)) (by decide) (by decide) ?_
    show Steps p.tables e below (T9.setTop (mkF m 44 #[.val (.ref a1), .val (.ref a2), .val (.long q3), .second, .val (.long q4), .second] [])) _
    refine XS.aloadN X9.here hx rfl (hb hby d1_44) rfl rfl ?_
    show Steps p.tables e below (T9.setTop (mkF m 45 #[.val (.ref a1), .val (.ref a2), .val (.long q3), .second, .val (.long q4), .second] [(.ref a1)])) _
    refine XS.aloadN X9.here hx rfl (hb hby d1_45) rfl rfl ?_
    show Steps p.tables e below (T9.setTop (mkF m 46 #[.val (.ref a1), .val (.ref a2), .val (.long q3), .second, .val (.long q4), .second] [(.ref a2), (.ref a1)])) _
    refine st10 _ ?_
    show Steps p.tables e below (T10.setTop (mkF m 49 #[.val (.ref a1), .val (.ref a2), .val (.long q3), .second, .val (.long q4), .second] [])) _
    refine XS.aloadN X10.here hx rfl (hb hby d1_49) rfl rfl ?_
    show Steps p.tables e below (T10.setTop (mkF m 50 #[.val (.ref a1), .val (.ref a2), .val (.long q3), .second, .val (.long q4), .second] [(.ref a1)])) _
    refine XS.lloadN X10.here hx rfl (hb hby d1_50) rfl ?_
    show Steps p.tables e below (T10.setTop (mkF m 51 #[.val (.ref a1), .val (.ref a2), .val (.long q3), .second, .val (.long q4), .second] [(.long q3), (.ref a1)])) _
    refine st11 _ ?_
    show Steps p.tables e below (T11.setTop (mkF m 54 #[.val (.ref a1), .val (.ref a2), .val (.long q3), .second, .val (.long q4), .second] [])) _
    refine XS.aloadN X11.here hx rfl (hb hby d1_54) rfl rfl ?_
    show Steps p.tables e below (T11.setTop (mkF m 55 #[.val (.ref a1), .val (.ref a2), .val (.long q3), .second, .val (.long q4), .second] [(.ref a1)])) _
    refine XS.lload X11.here hx rfl (hb hby d1_55) rfl ?_
    show Steps p.tables e below (T11.setTop (mkF m 57 #[.val (.ref a1), .val (.ref a2), .val (.long q3), .second, .val (.long q4), .second] [(.long q4), (.ref a1)])) _
    refine st12 _ ?_
    show Steps p.tables e below (T12.setTop (mkF m 60 #[.val (.ref a1), .val (.ref a2), .val (.long q3), .second, .val (.long q4), .second] [])) _
    exact X12.returnOut hx Bd.returns (hb hby d1_60) hr
  · show Q1_t Z a1 a2 q3 q4 w8 u_version_a1 u_high_a1 u_low_a1 h0 n0 _ T12.heap _
    rw [e12]
    exact ⟨rfl, N12, K12, ((((E_a1.ext E6).wr W10).wr W11).wr W12), ((Fw10.other W11 (Or.inr (slot_ne (Or.inr (hw _ (List.mem_of_getElem? (i := 32) rfl))) (Or.inr (hw _ (List.mem_of_getElem? (i := 34) rfl))) (by decide) (t := (.object "com/example/portcullis/portcullis/IpAddress$Version")) (t' := .long) (by decide) (by decide)))).other W12 (Or.inr (slot_ne (Or.inr (hw _ (List.mem_of_getElem? (i := 32) rfl))) (Or.inr (hw _ (List.mem_of_getElem? (i := 36) rfl))) (by decide) (t := (.object "com/example/portcullis/portcullis/IpAddress$Version")) (t' := .long) (by decide) (by decide)))), (Fw11.other W12 (Or.inr (slot_ne (Or.inr (hw _ (List.mem_of_getElem? (i := 34) rfl))) (Or.inr (hw _ (List.mem_of_getElem? (i := 36) rfl))) (by decide) (t := .long) (t' := .long) (by decide) (by decide)))), Fw12⟩
theorem d5_0 : decode prog_23_method_3_code 0 = .ok (.aload_n 0, 1) := by decide +kernel
theorem d5_1 : decode prog_23_method_3_code 1 = .ok (.getfield 28, 3) := by decide +kernel
theorem d5_4 : decode prog_23_method_3_code 4 = .ok (.getstatic 42, 3) := by decide +kernel
theorem d5_7 : decode prog_23_method_3_code 7 = .ok (.if_acmp .ne 30, 3) := by decide +kernel
theorem d5_37 : decode prog_23_method_3_code 37 = .ok (.iconst 0, 1) := by decide +kernel
theorem d5_38 : decode prog_23_method_3_code 38 = .ok (.ireturn, 1) := by decide +kernel
theorem pn_5 : plainName "com/example/portcullis/portcullis/IpAddress" = true := by first | (simp [plainName, overriddenIn]; done) | decide +kernel
theorem ef_5 (m : MethodId) (x0 : Addr) : entryFrame m #[(.ref x0)] 1 = mkF m 0 #[.val (.ref x0)] [] := by first | (simp [entryFrame, mkF, argsToLocals, Value.category]; done) | rfl
def Q5_t (Z : State) (a1 : Addr) (w2 : Addr) (w4 : Addr) (h0 : Heap) (n0 : Nat) (v : Option Value) (h : Heap) (L : List Loc) : Prop := v = some (.int (0 : Int32)) ∧ Fr n0 L ∧ h = h0
set_option maxRecDepth 65536 in
set_option maxHeartbeats 40000000 in
theorem rm5_t (l : Launch) (Z : State) (a0 : Array Value) (hw : ∀ d ∈ tables_1, d.before a0 Z = true) (ws : List Jvm.Cond) (a1 : Addr) (w2 : Addr) (w4 : Addr) (h0 : Heap) (n0 : Nat) (Z0 : n0 ≤ h0.size) (F_version_a1 : Fld Z h0 a1 "com/example/portcullis/portcullis/IpAddress" "version" "Lcom/example/portcullis/portcullis/IpAddress$Version;" (.ref w2)) (S_IPV6 : Sta Z h0 "com/example/portcullis/portcullis/IpAddress$Version" "IPV6" "Lcom/example/portcullis/portcullis/IpAddress$Version;" (.ref w4)) (ha7 : ¬ (w2 = w4)) :
    MetFree l (⟨"com/example/portcullis/portcullis/IpAddress", "isIpv4Mapped", "()Z"⟩ : MethodName) (head1 (Jvm.Cond.code (⟨"com/example/portcullis/portcullis/IpAddress", "isIpv4Mapped", "()Z"⟩ : MethodName) prog_23_method_3_code 1 (some .boolean) :: ws) ({ frames := 0, cells := 0, slots := 0, locals := 0 } : Room)) (fun a U => a = #[(.ref a1)] ∧ Z.Warmed39 U.vm ∧ U.heap = h0) (fun _ _ _ _ _ => True) (fun _ U o U' => ∃ v L, o = .returned v ∧ Q5_t Z a1 w2 w4 h0 n0 v U'.heap L ∧ FrameEnd U o U' L ({ frames := 0, cells := 0, slots := 0, locals := 0 } : Room).cells ({ frames := 0, cells := 0, slots := 0, locals := 0 } : Room).slots) := by
  refine MetFree.of_bodySF (plainFor_of_name pn_5) hisR ?_
  intro p e s m args below meth c s₁ Bd hml0 hP hK
  obtain ⟨rfl, hZ, hh⟩ := hP
  have hx := Bd.exec
  have hby := Bd.bytes
  have hml : c.maxLocals = 1 := hml0
  have hown : s.vm.findClass "com/example/portcullis/portcullis/IpAddress" = some m.cls := findClass_of_methodNamed Bd.named
  have hnm := (name_of_methodNamed Bd.named Bd.method).1
  have X0 : Stand p l e ({ frames := 0, cells := 0, slots := 0, locals := 0 } : Room) s m #[(.ref a1)] below meth c s₁ [] 0 0 := Stand.of_body Bd
  have e0 : s₁.heap = h0 := by rw [← hh, Bd.state]; rfl
  have N0 := Fr.nil n0
  have pre0 : ∀ t, Steps p.tables e below (s₁.setTop (mkF m 0 #[.val (.ref a1)] [])) t → Steps p.tables e below (s₁.setTop (entryFrame m #[(.ref a1)] 1)) t := fun t k => castTop (ef_5 m a1) k
  obtain ⟨T3, X3, e3, st3⟩ := getF X0 hx hZ hown (host := "") (Or.inl (hw _ (List.mem_of_getElem? (i := 31) rfl))) Via.refl e0 F_version_a1 (g := (mkF m 1 #[.val (.ref a1)] [(.ref a1)])) rfl rfl (hb hby d5_1)
  obtain ⟨T5, X5, e5, st5⟩ := getS2 X3 hx hZ hown (host := "") (Or.inl (hw _ (List.mem_of_getElem? (i := 42) rfl))) Via.refl e3 S_IPV6 (g := (mkF m 4 #[.val (.ref a1)] [(.ref w2)])) rfl (hb hby d5_4)
  obtain ⟨fs, hr, hrun, hended, hW, hsame⟩ := X5.leave (v := some (.int (0 : Int32))) (fun h => by rw [Bd.returns] at h; cases h)
  refine ⟨_, _, pre0 _ ?_, hrun, hended, _, _, rfl, ?_, ⟨_, rfl⟩, hW, hsame.mono (by decide) (by decide)⟩
  · show Steps p.tables e below (s₁.setTop (mkF m 0 #[.val (.ref a1)] [])) _
    refine XS.aloadN X0.here hx rfl (hb hby d5_0) rfl rfl ?_
    show Steps p.tables e below (s₁.setTop (mkF m 1 #[.val (.ref a1)] [(.ref a1)])) _
    refine st3 _ ?_
    show Steps p.tables e below (T3.setTop (mkF m 4 #[.val (.ref a1)] [(.ref w2)])) _
    refine st5 _ ?_
    show Steps p.tables e below (T5.setTop (mkF m 7 #[.val (.ref a1)] [(.ref w4), (.ref w2)])) _
    refine Jvm.RoadKit.acmp (g := (mkF m 7 #[.val (.ref a1)] [(.ref w4), (.ref w2)])) X5 hx rfl rfl rfl (pc0 := 7) (pc' := 37) (same := false) rfl (hb hby d5_7) rfl (decide_eq_false fun q => ha7 (Value.ref.inj q)) (by decide) (by decide) ?_
    show Steps p.tables e below (T5.setTop (mkF m 37 #[.val (.ref a1)] [])) _
    refine XS.iconst X5.here hx rfl (hb hby d5_37) ?_
    show Steps p.tables e below (T5.setTop (mkF m 38 #[.val (.ref a1)] [(.int (0 : Int32))])) _
    exact retN X5 hx (t := .boolean) Bd.returns (by simp) (hb hby d5_38) hr
  · show Q5_t Z a1 w2 w4 h0 n0 _ T5.heap _
    rw [e5]
    exact ⟨rfl, N0, rfl⟩
theorem d5_10 : decode prog_23_method_3_code 10 = .ok (.aload_n 0, 1) := by decide +kernel
theorem d5_11 : decode prog_23_method_3_code 11 = .ok (.getfield 32, 3) := by decide +kernel
theorem d5_14 : decode prog_23_method_3_code 14 = .ok (.lconst 0, 1) := by decide +kernel
theorem d5_15 : decode prog_23_method_3_code 15 = .ok (.lcmp, 1) := by decide +kernel
theorem d5_16 : decode prog_23_method_3_code 16 = .ok (.ifCond .ne 21, 3) := by decide +kernel
def Q5_ft (Z : State) (a1 : Addr) (w2 : Addr) (w4 : Addr) (w6 : Int64) (h0 : Heap) (n0 : Nat) (v : Option Value) (h : Heap) (L : List Loc) : Prop := v = some (.int (0 : Int32)) ∧ Fr n0 L ∧ h = h0
set_option maxRecDepth 65536 in
set_option maxHeartbeats 40000000 in
theorem rm5_ft (l : Launch) (Z : State) (a0 : Array Value) (hw : ∀ d ∈ tables_1, d.before a0 Z = true) (ws : List Jvm.Cond) (a1 : Addr) (w2 : Addr) (w4 : Addr) (w6 : Int64) (h0 : Heap) (n0 : Nat) (Z0 : n0 ≤ h0.size) (F_version_a1 : Fld Z h0 a1 "com/example/portcullis/portcullis/IpAddress" "version" "Lcom/example/portcullis/portcullis/IpAddress$Version;" (.ref w2)) (S_IPV6 : Sta Z h0 "com/example/portcullis/portcullis/IpAddress$Version" "IPV6" "Lcom/example/portcullis/portcullis/IpAddress$Version;" (.ref w4)) (F_high_a1 : Fld Z h0 a1 "com/example/portcullis/portcullis/IpAddress" "high" "J" (.long w6)) (ha7 : w2 = w4) (hc16 : ¬ ((lcmpW w6 (0 : Int64)) = (0 : Int32))) :
    MetFree l (⟨"com/example/portcullis/portcullis/IpAddress", "isIpv4Mapped", "()Z"⟩ : MethodName) (head1 (Jvm.Cond.code (⟨"com/example/portcullis/portcullis/IpAddress", "isIpv4Mapped", "()Z"⟩ : MethodName) prog_23_method_3_code 1 (some .boolean) :: ws) ({ frames := 0, cells := 0, slots := 0, locals := 0 } : Room)) (fun a U => a = #[(.ref a1)] ∧ Z.Warmed39 U.vm ∧ U.heap = h0) (fun _ _ _ _ _ => True) (fun _ U o U' => ∃ v L, o = .returned v ∧ Q5_ft Z a1 w2 w4 w6 h0 n0 v U'.heap L ∧ FrameEnd U o U' L ({ frames := 0, cells := 0, slots := 0, locals := 0 } : Room).cells ({ frames := 0, cells := 0, slots := 0, locals := 0 } : Room).slots) := by
  refine MetFree.of_bodySF (plainFor_of_name pn_5) hisR ?_
  intro p e s m args below meth c s₁ Bd hml0 hP hK
  obtain ⟨rfl, hZ, hh⟩ := hP
  have hx := Bd.exec
  have hby := Bd.bytes
  have hml : c.maxLocals = 1 := hml0
  have hown : s.vm.findClass "com/example/portcullis/portcullis/IpAddress" = some m.cls := findClass_of_methodNamed Bd.named
  have hnm := (name_of_methodNamed Bd.named Bd.method).1
  have X0 : Stand p l e ({ frames := 0, cells := 0, slots := 0, locals := 0 } : Room) s m #[(.ref a1)] below meth c s₁ [] 0 0 := Stand.of_body Bd
  have e0 : s₁.heap = h0 := by rw [← hh, Bd.state]; rfl
  have N0 := Fr.nil n0
  have pre0 : ∀ t, Steps p.tables e below (s₁.setTop (mkF m 0 #[.val (.ref a1)] [])) t → Steps p.tables e below (s₁.setTop (entryFrame m #[(.ref a1)] 1)) t := fun t k => castTop (ef_5 m a1) k
  obtain ⟨T3, X3, e3, st3⟩ := getF X0 hx hZ hown (host := "") (Or.inl (hw _ (List.mem_of_getElem? (i := 31) rfl))) Via.refl e0 F_version_a1 (g := (mkF m 1 #[.val (.ref a1)] [(.ref a1)])) rfl rfl (hb hby d5_1)
  obtain ⟨T5, X5, e5, st5⟩ := getS2 X3 hx hZ hown (host := "") (Or.inl (hw _ (List.mem_of_getElem? (i := 42) rfl))) Via.refl e3 S_IPV6 (g := (mkF m 4 #[.val (.ref a1)] [(.ref w2)])) rfl (hb hby d5_4)
  obtain ⟨T7, X7, e7, st7⟩ := getF X5 hx hZ hown (host := "") (Or.inl (hw _ (List.mem_of_getElem? (i := 33) rfl))) Via.refl e5 F_high_a1 (g := (mkF m 11 #[.val (.ref a1)] [(.ref a1)])) rfl rfl (hb hby d5_11)
  obtain ⟨fs, hr, hrun, hended, hW, hsame⟩ := X7.leave (v := some (.int (0 : Int32))) (fun h => by rw [Bd.returns] at h; cases h)
  refine ⟨_, _, pre0 _ ?_, hrun, hended, _, _, rfl, ?_, ⟨_, rfl⟩, hW, hsame.mono (by decide) (by decide)⟩
  · show Steps p.tables e below (s₁.setTop (mkF m 0 #[.val (.ref a1)] [])) _
    refine XS.aloadN X0.here hx rfl (hb hby d5_0) rfl rfl ?_
    show Steps p.tables e below (s₁.setTop (mkF m 1 #[.val (.ref a1)] [(.ref a1)])) _
    refine st3 _ ?_
    show Steps p.tables e below (T3.setTop (mkF m 4 #[.val (.ref a1)] [(.ref w2)])) _
    refine st5 _ ?_
    show Steps p.tables e below (T5.setTop (mkF m 7 #[.val (.ref a1)] [(.ref w4), (.ref w2)])) _
    refine Jvm.RoadKit.acmp (g := (mkF m 7 #[.val (.ref a1)] [(.ref w4), (.ref w2)])) X5 hx rfl rfl rfl (pc0 := 7) (pc' := 10) (same := true) rfl (hb hby d5_7) rfl (decide_eq_true (congrArg Value.ref ha7)) (by decide) (by decide) ?_
    show Steps p.tables e below (T5.setTop (mkF m 10 #[.val (.ref a1)] [])) _
    refine XS.aloadN X5.here hx rfl (hb hby d5_10) rfl rfl ?_
    show Steps p.tables e below (T5.setTop (mkF m 11 #[.val (.ref a1)] [(.ref a1)])) _
    refine st7 _ ?_
    show Steps p.tables e below (T7.setTop (mkF m 14 #[.val (.ref a1)] [(.long w6)])) _
    refine XS.lconst X7.here hx rfl (hb hby d5_14) ?_
    show Steps p.tables e below (T7.setTop (mkF m 15 #[.val (.ref a1)] [(.long (0 : Int64)), (.long w6)])) _
    refine XS.lcmp X7.here hx rfl (hb hby d5_15) rfl ?_
    show Steps p.tables e below (T7.setTop (mkF m 16 #[.val (.ref a1)] [(.int (lcmpW w6 (0 : Int64)))])) _
    refine XS.ifYes X7.here hx rfl (pc0 := 16) (pc' := 37) rfl (hb hby d5_16) rfl ((if0 _ _).trans (feq hc16).2) (by decide) (by decide) ?_
    show Steps p.tables e below (T7.setTop (mkF m 37 #[.val (.ref a1)] [])) _
    refine XS.iconst X7.here hx rfl (hb hby d5_37) ?_
    show Steps p.tables e below (T7.setTop (mkF m 38 #[.val (.ref a1)] [(.int (0 : Int32))])) _
    exact retN X7 hx (t := .boolean) Bd.returns (by simp) (hb hby d5_38) hr
  · show Q5_ft Z a1 w2 w4 w6 h0 n0 _ T7.heap _
    rw [e7]
    exact ⟨rfl, N0, rfl⟩
theorem d5_19 : decode prog_23_method_3_code 19 = .ok (.aload_n 0, 1) := by decide +kernel
theorem d5_20 : decode prog_23_method_3_code 20 = .ok (.getfield 36, 3) := by decide +kernel
theorem d5_23 : decode prog_23_method_3_code 23 = .ok (.bipush 32, 2) := by decide +kernel
theorem d5_25 : decode prog_23_method_3_code 25 = .ok (.lushr, 1) := by decide +kernel
theorem d5_26 : decode prog_23_method_3_code 26 = .ok (.ldc2_w 45, 3) := by decide +kernel
theorem d5_29 : decode prog_23_method_3_code 29 = .ok (.lcmp, 1) := by decide +kernel
theorem d5_30 : decode prog_23_method_3_code 30 = .ok (.ifCond .ne 7, 3) := by decide +kernel
def Q5_fft (Z : State) (a1 : Addr) (w2 : Addr) (w4 : Addr) (w6 : Int64) (w8 : Int64) (h0 : Heap) (n0 : Nat) (v : Option Value) (h : Heap) (L : List Loc) : Prop := v = some (.int (0 : Int32)) ∧ Fr n0 L ∧ h = h0
set_option maxRecDepth 65536 in
set_option maxHeartbeats 40000000 in
theorem rm5_fft (l : Launch) (Z : State) (a0 : Array Value) (hw : ∀ d ∈ tables_1, d.before a0 Z = true) (ws : List Jvm.Cond) (a1 : Addr) (w2 : Addr) (w4 : Addr) (w6 : Int64) (w8 : Int64) (h0 : Heap) (n0 : Nat) (Z0 : n0 ≤ h0.size) (F_version_a1 : Fld Z h0 a1 "com/example/portcullis/portcullis/IpAddress" "version" "Lcom/example/portcullis/portcullis/IpAddress$Version;" (.ref w2)) (S_IPV6 : Sta Z h0 "com/example/portcullis/portcullis/IpAddress$Version" "IPV6" "Lcom/example/portcullis/portcullis/IpAddress$Version;" (.ref w4)) (F_high_a1 : Fld Z h0 a1 "com/example/portcullis/portcullis/IpAddress" "high" "J" (.long w6)) (F_low_a1 : Fld Z h0 a1 "com/example/portcullis/portcullis/IpAddress" "low" "J" (.long w8)) (ha7 : w2 = w4) (hc16 : (lcmpW w6 (0 : Int64)) = (0 : Int32)) (hc30 : ¬ ((lcmpW ((w8.toUInt64 >>> ((32 : Int32) &&& 0x3f).toInt64.toUInt64).toInt64) (65535 : Int64)) = (0 : Int32))) :
    MetFree l (⟨"com/example/portcullis/portcullis/IpAddress", "isIpv4Mapped", "()Z"⟩ : MethodName) (head1 (Jvm.Cond.code (⟨"com/example/portcullis/portcullis/IpAddress", "isIpv4Mapped", "()Z"⟩ : MethodName) prog_23_method_3_code 1 (some .boolean) :: ws) ({ frames := 0, cells := 0, slots := 0, locals := 0 } : Room)) (fun a U => a = #[(.ref a1)] ∧ Z.Warmed39 U.vm ∧ U.heap = h0) (fun _ _ _ _ _ => True) (fun _ U o U' => ∃ v L, o = .returned v ∧ Q5_fft Z a1 w2 w4 w6 w8 h0 n0 v U'.heap L ∧ FrameEnd U o U' L ({ frames := 0, cells := 0, slots := 0, locals := 0 } : Room).cells ({ frames := 0, cells := 0, slots := 0, locals := 0 } : Room).slots) := by
  refine MetFree.of_bodySF (plainFor_of_name pn_5) hisR ?_
  intro p e s m args below meth c s₁ Bd hml0 hP hK
  obtain ⟨rfl, hZ, hh⟩ := hP
  have hx := Bd.exec
  have hby := Bd.bytes
  have hml : c.maxLocals = 1 := hml0
  have hown : s.vm.findClass "com/example/portcullis/portcullis/IpAddress" = some m.cls := findClass_of_methodNamed Bd.named
  have hnm := (name_of_methodNamed Bd.named Bd.method).1
  have X0 : Stand p l e ({ frames := 0, cells := 0, slots := 0, locals := 0 } : Room) s m #[(.ref a1)] below meth c s₁ [] 0 0 := Stand.of_body Bd
  have e0 : s₁.heap = h0 := by rw [← hh, Bd.state]; rfl
  have N0 := Fr.nil n0
  have pre0 : ∀ t, Steps p.tables e below (s₁.setTop (mkF m 0 #[.val (.ref a1)] [])) t → Steps p.tables e below (s₁.setTop (entryFrame m #[(.ref a1)] 1)) t := fun t k => castTop (ef_5 m a1) k
  obtain ⟨T3, X3, e3, st3⟩ := getF X0 hx hZ hown (host := "") (Or.inl (hw _ (List.mem_of_getElem? (i := 31) rfl))) Via.refl e0 F_version_a1 (g := (mkF m 1 #[.val (.ref a1)] [(.ref a1)])) rfl rfl (hb hby d5_1)
  obtain ⟨T5, X5, e5, st5⟩ := getS2 X3 hx hZ hown (host := "") (Or.inl (hw _ (List.mem_of_getElem? (i := 42) rfl))) Via.refl e3 S_IPV6 (g := (mkF m 4 #[.val (.ref a1)] [(.ref w2)])) rfl (hb hby d5_4)
  obtain ⟨T7, X7, e7, st7⟩ := getF X5 hx hZ hown (host := "") (Or.inl (hw _ (List.mem_of_getElem? (i := 33) rfl))) Via.refl e5 F_high_a1 (g := (mkF m 11 #[.val (.ref a1)] [(.ref a1)])) rfl rfl (hb hby d5_11)
  obtain ⟨T9, X9, e9, st9⟩ := getF X7 hx hZ hown (host := "") (Or.inl (hw _ (List.mem_of_getElem? (i := 35) rfl))) Via.refl e7 F_low_a1 (g := (mkF m 20 #[.val (.ref a1)] [(.ref a1)])) rfl rfl (hb hby d5_20)
  obtain ⟨fs, hr, hrun, hended, hW, hsame⟩ := X9.leave (v := some (.int (0 : Int32))) (fun h => by rw [Bd.returns] at h; cases h)
  refine ⟨_, _, pre0 _ ?_, hrun, hended, _, _, rfl, ?_, ⟨_, rfl⟩, hW, hsame.mono (by decide) (by decide)⟩
  · show Steps p.tables e below (s₁.setTop (mkF m 0 #[.val (.ref a1)] [])) _
    refine XS.aloadN X0.here hx rfl (hb hby d5_0) rfl rfl ?_
    show Steps p.tables e below (s₁.setTop (mkF m 1 #[.val (.ref a1)] [(.ref a1)])) _
    refine st3 _ ?_
    show Steps p.tables e below (T3.setTop (mkF m 4 #[.val (.ref a1)] [(.ref w2)])) _
    refine st5 _ ?_
    show Steps p.tables e below (T5.setTop (mkF m 7 #[.val (.ref a1)] [(.ref w4), (.ref w2)])) _
    refine Jvm.RoadKit.acmp (g := (mkF m 7 #[.val (.ref a1)] [(.ref w4), (.ref w2)])) X5 hx rfl rfl rfl (pc0 := 7) (pc' := 10) (same := true) rfl (hb hby d5_7) rfl (decide_eq_true (congrArg Value.ref ha7)) (by decide) (by decide) ?_
    show Steps p.tables e below (T5.setTop (mkF m 10 #[.val (.ref a1)] [])) _
    refine XS.aloadN X5.here hx rfl (hb hby d5_10) rfl rfl ?_
    show Steps p.tables e below (T5.setTop (mkF m 11 #[.val (.ref a1)] [(.ref a1)])) _
    refine st7 _ ?_
    show Steps p.tables e below (T7.setTop (mkF m 14 #[.val (.ref a1)] [(.long w6)])) _
    refine XS.lconst X7.here hx rfl (hb hby d5_14) ?_
    show Steps p.tables e below (T7.setTop (mkF m 15 #[.val (.ref a1)] [(.long (0 : Int64)), (.long w6)])) _
    refine XS.lcmp X7.here hx rfl (hb hby d5_15) rfl ?_
    show Steps p.tables e below (T7.setTop (mkF m 16 #[.val (.ref a1)] [(.int (lcmpW w6 (0 : Int64)))])) _
    refine XS.ifNo X7.here hx rfl (hb hby d5_16) rfl ((if0 _ _).trans (teq hc16).2) ?_
    show Steps p.tables e below (T7.setTop (mkF m 19 #[.val (.ref a1)] [])) _
    refine XS.aloadN X7.here hx rfl (hb hby d5_19) rfl rfl ?_
    show Steps p.tables e below (T7.setTop (mkF m 20 #[.val (.ref a1)] [(.ref a1)])) _
    refine st9 _ ?_
    show Steps p.tables e below (T9.setTop (mkF m 23 #[.val (.ref a1)] [(.long w8)])) _
    refine XS.bipush X9.here hx rfl (hb hby d5_23) ?_
    show Steps p.tables e below (T9.setTop (mkF m 25 #[.val (.ref a1)] [(.int (32 : Int32)), (.long w8)])) _
    refine XS.lushr X9.here hx rfl (hb hby d5_25) rfl ?_
    show Steps p.tables e below (T9.setTop (mkF m 26 #[.val (.ref a1)] [(.long ((w8.toUInt64 >>> ((32 : Int32) &&& 0x3f).toInt64.toUInt64).toInt64))])) _
    refine X9.ldc2Long hx hown (mvT hZ (hw _ (List.mem_of_getElem? (i := 47) rfl))) (g := (mkF m 26 #[.val (.ref a1)] [(.long ((w8.toUInt64 >>> ((32 : Int32) &&& 0x3f).toInt64.toUInt64).toInt64))])) rfl (hb hby d5_26) _ ?_
    show Steps p.tables e below (T9.setTop (mkF m 29 #[.val (.ref a1)] [(.long (65535 : Int64)), (.long ((w8.toUInt64 >>> ((32 : Int32) &&& 0x3f).toInt64.toUInt64).toInt64))])) _
    refine XS.lcmp X9.here hx rfl (hb hby d5_29) rfl ?_
    show Steps p.tables e below (T9.setTop (mkF m 30 #[.val (.ref a1)] [(.int (lcmpW ((w8.toUInt64 >>> ((32 : Int32) &&& 0x3f).toInt64.toUInt64).toInt64) (65535 : Int64)))])) _
    refine XS.ifYes X9.here hx rfl (pc0 := 30) (pc' := 37) rfl (hb hby d5_30) rfl ((if0 _ _).trans (feq hc30).2) (by decide) (by decide) ?_
    show Steps p.tables e below (T9.setTop (mkF m 37 #[.val (.ref a1)] [])) _
    refine XS.iconst X9.here hx rfl (hb hby d5_37) ?_
    show Steps p.tables e below (T9.setTop (mkF m 38 #[.val (.ref a1)] [(.int (0 : Int32))])) _
    exact retN X9 hx (t := .boolean) Bd.returns (by simp) (hb hby d5_38) hr
  · show Q5_fft Z a1 w2 w4 w6 w8 h0 n0 _ T9.heap _
    rw [e9]
    exact ⟨rfl, N0, rfl⟩
theorem d5_33 : decode prog_23_method_3_code 33 = .ok (.iconst 1, 1) := by decide +kernel
theorem d5_34 : decode prog_23_method_3_code 34 = .ok (.goto 4, 3) := by decide +kernel
def Q5_fff (Z : State) (a1 : Addr) (w2 : Addr) (w4 : Addr) (w6 : Int64) (w8 : Int64) (h0 : Heap) (n0 : Nat) (v : Option Value) (h : Heap) (L : List Loc) : Prop := v = some (.int (1 : Int32)) ∧ Fr n0 L ∧ h = h0
set_option maxRecDepth 65536 in
set_option maxHeartbeats 40000000 in
theorem rm5_fff (l : Launch) (Z : State) (a0 : Array Value) (hw : ∀ d ∈ tables_1, d.before a0 Z = true) (ws : List Jvm.Cond) (a1 : Addr) (w2 : Addr) (w4 : Addr) (w6 : Int64) (w8 : Int64) (h0 : Heap) (n0 : Nat) (Z0 : n0 ≤ h0.size) (F_version_a1 : Fld Z h0 a1 "com/example/portcullis/portcullis/IpAddress" "version" "Lcom/example/portcullis/portcullis/IpAddress$Version;" (.ref w2)) (S_IPV6 : Sta Z h0 "com/example/portcullis/portcullis/IpAddress$Version" "IPV6" "Lcom/example/portcullis/portcullis/IpAddress$Version;" (.ref w4)) (F_high_a1 : Fld Z h0 a1 "com/example/portcullis/portcullis/IpAddress" "high" "J" (.long w6)) (F_low_a1 : Fld Z h0 a1 "com/example/portcullis/portcullis/IpAddress" "low" "J" (.long w8)) (ha7 : w2 = w4) (hc16 : (lcmpW w6 (0 : Int64)) = (0 : Int32)) (hc30 : (lcmpW ((w8.toUInt64 >>> ((32 : Int32) &&& 0x3f).toInt64.toUInt64).toInt64) (65535 : Int64)) = (0 : Int32)) :
    MetFree l (⟨"com/example/portcullis/portcullis/IpAddress", "isIpv4Mapped", "()Z"⟩ : MethodName) (head1 (Jvm.Cond.code (⟨"com/example/portcullis/portcullis/IpAddress", "isIpv4Mapped", "()Z"⟩ : MethodName) prog_23_method_3_code 1 (some .boolean) :: ws) ({ frames := 0, cells := 0, slots := 0, locals := 0 } : Room)) (fun a U => a = #[(.ref a1)] ∧ Z.Warmed39 U.vm ∧ U.heap = h0) (fun _ _ _ _ _ => True) (fun _ U o U' => ∃ v L, o = .returned v ∧ Q5_fff Z a1 w2 w4 w6 w8 h0 n0 v U'.heap L ∧ FrameEnd U o U' L ({ frames := 0, cells := 0, slots := 0, locals := 0 } : Room).cells ({ frames := 0, cells := 0, slots := 0, locals := 0 } : Room).slots) := by
  refine MetFree.of_bodySF (plainFor_of_name pn_5) hisR ?_
  intro p e s m args below meth c s₁ Bd hml0 hP hK
  obtain ⟨rfl, hZ, hh⟩ := hP
  have hx := Bd.exec
  have hby := Bd.bytes
  have hml : c.maxLocals = 1 := hml0
  have hown : s.vm.findClass "com/example/portcullis/portcullis/IpAddress" = some m.cls := findClass_of_methodNamed Bd.named
  have hnm := (name_of_methodNamed Bd.named Bd.method).1
  have X0 : Stand p l e ({ frames := 0, cells := 0, slots := 0, locals := 0 } : Room) s m #[(.ref a1)] below meth c s₁ [] 0 0 := Stand.of_body Bd
  have e0 : s₁.heap = h0 := by rw [← hh, Bd.state]; rfl
  have N0 := Fr.nil n0
  have pre0 : ∀ t, Steps p.tables e below (s₁.setTop (mkF m 0 #[.val (.ref a1)] [])) t → Steps p.tables e below (s₁.setTop (entryFrame m #[(.ref a1)] 1)) t := fun t k => castTop (ef_5 m a1) k
  obtain ⟨T3, X3, e3, st3⟩ := getF X0 hx hZ hown (host := "") (Or.inl (hw _ (List.mem_of_getElem? (i := 31) rfl))) Via.refl e0 F_version_a1 (g := (mkF m 1 #[.val (.ref a1)] [(.ref a1)])) rfl rfl (hb hby d5_1)
  obtain ⟨T5, X5, e5, st5⟩ := getS2 X3 hx hZ hown (host := "") (Or.inl (hw _ (List.mem_of_getElem? (i := 42) rfl))) Via.refl e3 S_IPV6 (g := (mkF m 4 #[.val (.ref a1)] [(.ref w2)])) rfl (hb hby d5_4)
  obtain ⟨T7, X7, e7, st7⟩ := getF X5 hx hZ hown (host := "") (Or.inl (hw _ (List.mem_of_getElem? (i := 33) rfl))) Via.refl e5 F_high_a1 (g := (mkF m 11 #[.val (.ref a1)] [(.ref a1)])) rfl rfl (hb hby d5_11)
  obtain ⟨T9, X9, e9, st9⟩ := getF X7 hx hZ hown (host := "") (Or.inl (hw _ (List.mem_of_getElem? (i := 35) rfl))) Via.refl e7 F_low_a1 (g := (mkF m 20 #[.val (.ref a1)] [(.ref a1)])) rfl rfl (hb hby d5_20)
  obtain ⟨fs, hr, hrun, hended, hW, hsame⟩ := X9.leave (v := some (.int (1 : Int32))) (fun h => by rw [Bd.returns] at h; cases h)
  refine ⟨_, _, pre0 _ ?_, hrun, hended, _, _, rfl, ?_, ⟨_, rfl⟩, hW, hsame.mono (by decide) (by decide)⟩
  · show Steps p.tables e below (s₁.setTop (mkF m 0 #[.val (.ref a1)] [])) _
    refine XS.aloadN X0.here hx rfl (hb hby d5_0) rfl rfl ?_
    show Steps p.tables e below (s₁.setTop (mkF m 1 #[.val (.ref a1)] [(.ref a1)])) _
    refine st3 _ ?_
    show Steps p.tables e below (T3.setTop (mkF m 4 #[.val (.ref a1)] [(.ref w2)])) _
    refine st5 _ ?_
    show Steps p.tables e below (T5.setTop (mkF m 7 #[.val (.ref a1)] [(.ref w4), (.ref w2)])) _
    refine Jvm.RoadKit.acmp (g := (mkF m 7 #[.val (.ref a1)] [(.ref w4), (.ref w2)])) X5 hx rfl rfl rfl (pc0 := 7) (pc' := 10) (same := true) rfl (hb hby d5_7) rfl (decide_eq_true (congrArg Value.ref ha7)) (by decide) (by decide) ?_
    show Steps p.tables e below (T5.setTop (mkF m 10 #[.val (.ref a1)] [])) _
    refine XS.aloadN X5.here hx rfl (hb hby d5_10) rfl rfl ?_
    show Steps p.tables e below (T5.setTop (mkF m 11 #[.val (.ref a1)] [(.ref a1)])) _
    refine st7 _ ?_
    show Steps p.tables e below (T7.setTop (mkF m 14 #[.val (.ref a1)] [(.long w6)])) _
    refine XS.lconst X7.here hx rfl (hb hby d5_14) ?_
    show Steps p.tables e below (T7.setTop (mkF m 15 #[.val (.ref a1)] [(.long (0 : Int64)), (.long w6)])) _
    refine XS.lcmp X7.here hx rfl (hb hby d5_15) rfl ?_
    show Steps p.tables e below (T7.setTop (mkF m 16 #[.val (.ref a1)] [(.int (lcmpW w6 (0 : Int64)))])) _
    refine XS.ifNo X7.here hx rfl (hb hby d5_16) rfl ((if0 _ _).trans (teq hc16).2) ?_
    show Steps p.tables e below (T7.setTop (mkF m 19 #[.val (.ref a1)] [])) _
    refine XS.aloadN X7.here hx rfl (hb hby d5_19) rfl rfl ?_
    show Steps p.tables e below (T7.setTop (mkF m 20 #[.val (.ref a1)] [(.ref a1)])) _
    refine st9 _ ?_
    show Steps p.tables e below (T9.setTop (mkF m 23 #[.val (.ref a1)] [(.long w8)])) _
    refine XS.bipush X9.here hx rfl (hb hby d5_23) ?_
    show Steps p.tables e below (T9.setTop (mkF m 25 #[.val (.ref a1)] [(.int (32 : Int32)), (.long w8)])) _
    refine XS.lushr X9.here hx rfl (hb hby d5_25) rfl ?_
    show Steps p.tables e below (T9.setTop (mkF m 26 #[.val (.ref a1)] [(.long ((w8.toUInt64 >>> ((32 : Int32) &&& 0x3f).toInt64.toUInt64).toInt64))])) _
    refine X9.ldc2Long hx hown (mvT hZ (hw _ (List.mem_of_getElem? (i := 47) rfl))) (g := (mkF m 26 #[.val (.ref a1)] [(.long ((w8.toUInt64 >>> ((32 : Int32) &&& 0x3f).toInt64.toUInt64).toInt64))])) rfl (hb hby d5_26) _ ?_
    show Steps p.tables e below (T9.setTop (mkF m 29 #[.val (.ref a1)] [(.long (65535 : Int64)), (.long ((w8.toUInt64 >>> ((32 : Int32) &&& 0x3f).toInt64.toUInt64).toInt64))])) _
    refine XS.lcmp X9.here hx rfl (hb hby d5_29) rfl ?_
    show Steps p.tables e below (T9.setTop (mkF m 30 #[.val (.ref a1)] [(.int (lcmpW ((w8.toUInt64 >>> ((32 : Int32) &&& 0x3f).toInt64.toUInt64).toInt64) (65535 : Int64)))])) _
    refine XS.ifNo X9.here hx rfl (hb hby d5_30) rfl ((if0 _ _).trans (teq hc30).2) ?_
    show Steps p.tables e below (T9.setTop (mkF m 33 #[.val (.ref a1)] [])) _
    refine XS.iconst X9.here hx rfl (hb hby d5_33) ?_
    show Steps p.tables e below (T9.setTop (mkF m 34 #[.val (.ref a1)] [(.int (1 : Int32))])) _
    refine XS.goto X9.here hx rfl (pc0 := 34) (pc' := 38) rfl (hb hby d5_34) (by decide) (by decide) ?_
    show Steps p.tables e below (T9.setTop (mkF m 38 #[.val (.ref a1)] [(.int (1 : Int32))])) _
    exact retN X9 hx (t := .boolean) Bd.returns (by simp) (hb hby d5_38) hr
  · show Q5_fff Z a1 w2 w4 w6 w8 h0 n0 _ T9.heap _
    rw [e9]
    exact ⟨rfl, N0, rfl⟩
set_option maxRecDepth 65536 in
set_option maxHeartbeats 40000000 in
theorem tn0_50_63_t {p : Program} {l : Launch} {e : Env} {R : Room} {s : State} {m : MethodId} {args : Array Value} {below : List Frame} {meth : Method} {c : Code} {T0 : State} {locs : List Loc} {cells slots : Nat} {Z : State} {a0 : Array Value} {h0 : Heap} (i0 : Int32) (j1 : Int64) (j3 : Int64) (i5 : Int32) (i6 : Int32)
    (X0 : Stand p l e R s m args below meth c T0 locs cells slots) (hx : p.tables.exec = Jvm.exec) (hZ : Z.Warmed39 s.vm) (hw : ∀ d ∈ tables_1, d.before a0 Z = true) (hby : c.code = code) (hml : c.maxLocals = 12) (hown : s.vm.findClass "com/example/portcullis/portcullis/IpAddressIsIpv4MappedPinLaw" = some m.cls) (e0 : T0.heap = h0) (hc53 : (i0 &&& (2 : Int32)) = (0 : Int32)) :
    ∃ (T' : State), Stand p l e R s m args below meth c T' locs cells slots ∧ T'.heap = h0 ∧
      ∀ target, Steps p.tables e below (T'.setTop (mkF m 63 #[.val (.int i0), .val (.long j1), .second, .val (.long j3), .second, .val (.int i5), .val (.int i6), .val (.long j1), .second, .unset, .unset, .unset] [])) target → Steps p.tables e below (T0.setTop (mkF m 50 #[.val (.int i0), .val (.long j1), .second, .val (.long j3), .second, .val (.int i5), .val (.int i6), .unset, .unset, .unset, .unset, .unset] [])) target := by
  refine ⟨T0, X0, e0, fun target kt => ?_⟩
  show Steps p.tables e below (T0.setTop (mkF m 50 #[.val (.int i0), .val (.long j1), .second, .val (.long j3), .second, .val (.int i5), .val (.int i6), .unset, .unset, .unset, .unset, .unset] [])) _
  refine XS.iloadN X0.here hx rfl (hb hby at_50) rfl ?_
  show Steps p.tables e below (T0.setTop (mkF m 51 #[.val (.int i0), .val (.long j1), .second, .val (.long j3), .second, .val (.int i5), .val (.int i6), .unset, .unset, .unset, .unset, .unset] [(.int i0)])) _
  refine XS.iconst X0.here hx rfl (hb hby at_51) ?_
  show Steps p.tables e below (T0.setTop (mkF m 52 #[.val (.int i0), .val (.long j1), .second, .val (.long j3), .second, .val (.int i5), .val (.int i6), .unset, .unset, .unset, .unset, .unset] [(.int (2 : Int32)), (.int i0)])) _
  refine XS.iand X0.here hx rfl (hb hby at_52) rfl ?_
  show Steps p.tables e below (T0.setTop (mkF m 53 #[.val (.int i0), .val (.long j1), .second, .val (.long j3), .second, .val (.int i5), .val (.int i6), .unset, .unset, .unset, .unset, .unset] [(.int (i0 &&& (2 : Int32)))])) _
  refine XS.ifYes X0.here hx rfl (pc0 := 53) (pc' := 60) rfl (hb hby at_53) rfl ((if0 _ _).trans (teq hc53).1) (by decide) (by decide) ?_
  show Steps p.tables e below (T0.setTop (mkF m 60 #[.val (.int i0), .val (.long j1), .second, .val (.long j3), .second, .val (.int i5), .val (.int i6), .unset, .unset, .unset, .unset, .unset] [])) _
  refine XS.lloadN X0.here hx rfl (hb hby at_60) rfl ?_
  show Steps p.tables e below (T0.setTop (mkF m 61 #[.val (.int i0), .val (.long j1), .second, .val (.long j3), .second, .val (.int i5), .val (.int i6), .unset, .unset, .unset, .unset, .unset] [(.long j1)])) _
  refine XS.lstore X0.here hx rfl (hb hby at_61) rfl (l' := #[.val (.int i0), .val (.long j1), .second, .val (.long j3), .second, .val (.int i5), .val (.int i6), .val (.long j1), .second, .unset, .unset, .unset]) rfl ?_
  exact kt
set_option maxRecDepth 65536 in
set_option maxHeartbeats 40000000 in
theorem tn0_50_63_f {p : Program} {l : Launch} {e : Env} {R : Room} {s : State} {m : MethodId} {args : Array Value} {below : List Frame} {meth : Method} {c : Code} {T0 : State} {locs : List Loc} {cells slots : Nat} {Z : State} {a0 : Array Value} {h0 : Heap} (i0 : Int32) (j1 : Int64) (j3 : Int64) (i5 : Int32) (i6 : Int32)
    (X0 : Stand p l e R s m args below meth c T0 locs cells slots) (hx : p.tables.exec = Jvm.exec) (hZ : Z.Warmed39 s.vm) (hw : ∀ d ∈ tables_1, d.before a0 Z = true) (hby : c.code = code) (hml : c.maxLocals = 12) (hown : s.vm.findClass "com/example/portcullis/portcullis/IpAddressIsIpv4MappedPinLaw" = some m.cls) (e0 : T0.heap = h0) (hc53 : ¬ ((i0 &&& (2 : Int32)) = (0 : Int32))) :
    ∃ (T' : State), Stand p l e R s m args below meth c T' locs cells slots ∧ T'.heap = h0 ∧
      ∀ target, Steps p.tables e below (T'.setTop (mkF m 63 #[.val (.int i0), .val (.long j1), .second, .val (.long j3), .second, .val (.int i5), .val (.int i6), .val (.long (0 : Int64)), .second, .unset, .unset, .unset] [])) target → Steps p.tables e below (T0.setTop (mkF m 50 #[.val (.int i0), .val (.long j1), .second, .val (.long j3), .second, .val (.int i5), .val (.int i6), .unset, .unset, .unset, .unset, .unset] [])) target := by
  refine ⟨T0, X0, e0, fun target kt => ?_⟩
  show Steps p.tables e below (T0.setTop (mkF m 50 #[.val (.int i0), .val (.long j1), .second, .val (.long j3), .second, .val (.int i5), .val (.int i6), .unset, .unset, .unset, .unset, .unset] [])) _
  refine XS.iloadN X0.here hx rfl (hb hby at_50) rfl ?_
  show Steps p.tables e below (T0.setTop (mkF m 51 #[.val (.int i0), .val (.long j1), .second, .val (.long j3), .second, .val (.int i5), .val (.int i6), .unset, .unset, .unset, .unset, .unset] [(.int i0)])) _
  refine XS.iconst X0.here hx rfl (hb hby at_51) ?_
  show Steps p.tables e below (T0.setTop (mkF m 52 #[.val (.int i0), .val (.long j1), .second, .val (.long j3), .second, .val (.int i5), .val (.int i6), .unset, .unset, .unset, .unset, .unset] [(.int (2 : Int32)), (.int i0)])) _
  refine XS.iand X0.here hx rfl (hb hby at_52) rfl ?_
  show Steps p.tables e below (T0.setTop (mkF m 53 #[.val (.int i0), .val (.long j1), .second, .val (.long j3), .second, .val (.int i5), .val (.int i6), .unset, .unset, .unset, .unset, .unset] [(.int (i0 &&& (2 : Int32)))])) _
  refine XS.ifNo X0.here hx rfl (hb hby at_53) rfl ((if0 _ _).trans (feq hc53).1) ?_
  show Steps p.tables e below (T0.setTop (mkF m 56 #[.val (.int i0), .val (.long j1), .second, .val (.long j3), .second, .val (.int i5), .val (.int i6), .unset, .unset, .unset, .unset, .unset] [])) _
  refine XS.lconst X0.here hx rfl (hb hby at_56) ?_
  show Steps p.tables e below (T0.setTop (mkF m 57 #[.val (.int i0), .val (.long j1), .second, .val (.long j3), .second, .val (.int i5), .val (.int i6), .unset, .unset, .unset, .unset, .unset] [(.long (0 : Int64))])) _
  refine XS.goto X0.here hx rfl (pc0 := 57) (pc' := 61) rfl (hb hby at_57) (by decide) (by decide) ?_
  show Steps p.tables e below (T0.setTop (mkF m 61 #[.val (.int i0), .val (.long j1), .second, .val (.long j3), .second, .val (.int i5), .val (.int i6), .unset, .unset, .unset, .unset, .unset] [(.long (0 : Int64))])) _
  refine XS.lstore X0.here hx rfl (hb hby at_61) rfl (l' := #[.val (.int i0), .val (.long j1), .second, .val (.long j3), .second, .val (.int i5), .val (.int i6), .val (.long (0 : Int64)), .second, .unset, .unset, .unset]) rfl ?_
  exact kt
theorem own_a (r : Int64) {p : Program} {l : Launch} {e : Env} {R : Room} {s : State} {m : MethodId} {args : Array Value} {below : List Frame} {meth : Method} {c : Code} {T0 : State} {locs : List Loc} {cells slots : Nat} {Z : State} {a0 : Array Value} {h0 : Heap} (i0 : Int32) (j1 : Int64) (j3 : Int64) (i5 : Int32) (i6 : Int32)
    (X0 : Stand p l e R s m args below meth c T0 locs cells slots) (hx : p.tables.exec = Jvm.exec) (hZ : Z.Warmed39 s.vm) (hw : ∀ d ∈ tables_1, d.before a0 Z = true) (hby : c.code = code) (hml : c.maxLocals = 12) (hown : s.vm.findClass "com/example/portcullis/portcullis/IpAddressIsIpv4MappedPinLaw" = some m.cls) (e0 : T0.heap = h0) (hU : ((i0 &&& (2 : Int32)) = (0 : Int32) ∧ r = j1) ∨ (¬ ((i0 &&& (2 : Int32)) = (0 : Int32)) ∧ r = (0 : Int64))) :
    ∃ (T' : State), Stand p l e R s m args below meth c T' locs cells slots ∧ T'.heap = h0 ∧
      ∀ target, Steps p.tables e below (T'.setTop (mkF m 63 #[.val (.int i0), .val (.long j1), .second, .val (.long j3), .second, .val (.int i5), .val (.int i6), .val (.long r), .second, .unset, .unset, .unset] [])) target → Steps p.tables e below (T0.setTop (mkF m 50 #[.val (.int i0), .val (.long j1), .second, .val (.long j3), .second, .val (.int i5), .val (.int i6), .unset, .unset, .unset, .unset, .unset] [])) target := by
  rcases hU with ⟨c0, hr⟩ | ⟨c0, hr⟩
  · rw [hr]; exact tn0_50_63_t i0 j1 j3 i5 i6 X0 hx hZ hw hby hml hown e0 c0
  · rw [hr]; exact tn0_50_63_f i0 j1 j3 i5 i6 X0 hx hZ hw hby hml hown e0 c0
set_option maxRecDepth 65536 in
set_option maxHeartbeats 40000000 in
theorem tn0_63_86_t {p : Program} {l : Launch} {e : Env} {R : Room} {s : State} {m : MethodId} {args : Array Value} {below : List Frame} {meth : Method} {c : Code} {T0 : State} {locs : List Loc} {cells slots : Nat} {Z : State} {a0 : Array Value} {h0 : Heap} (i0 : Int32) (j1 : Int64) (j3 : Int64) (i5 : Int32) (i6 : Int32) (j7 : Int64)
    (X0 : Stand p l e R s m args below meth c T0 locs cells slots) (hx : p.tables.exec = Jvm.exec) (hZ : Z.Warmed39 s.vm) (hw : ∀ d ∈ tables_1, d.before a0 Z = true) (hby : c.code = code) (hml : c.maxLocals = 12) (hown : s.vm.findClass "com/example/portcullis/portcullis/IpAddressIsIpv4MappedPinLaw" = some m.cls) (e0 : T0.heap = h0) (hc66 : (i0 &&& (4 : Int32)) = (0 : Int32)) :
    ∃ (T' : State), Stand p l e R s m args below meth c T' locs cells slots ∧ T'.heap = h0 ∧
      ∀ target, Steps p.tables e below (T'.setTop (mkF m 86 #[.val (.int i0), .val (.long j1), .second, .val (.long j3), .second, .val (.int i5), .val (.int i6), .val (.long j7), .second, .val (.long j3), .second, .unset] [])) target → Steps p.tables e below (T0.setTop (mkF m 63 #[.val (.int i0), .val (.long j1), .second, .val (.long j3), .second, .val (.int i5), .val (.int i6), .val (.long j7), .second, .unset, .unset, .unset] [])) target := by
  refine ⟨T0, X0, e0, fun target kt => ?_⟩
  show Steps p.tables e below (T0.setTop (mkF m 63 #[.val (.int i0), .val (.long j1), .second, .val (.long j3), .second, .val (.int i5), .val (.int i6), .val (.long j7), .second, .unset, .unset, .unset] [])) _
  refine XS.iloadN X0.here hx rfl (hb hby at_63) rfl ?_
  show Steps p.tables e below (T0.setTop (mkF m 64 #[.val (.int i0), .val (.long j1), .second, .val (.long j3), .second, .val (.int i5), .val (.int i6), .val (.long j7), .second, .unset, .unset, .unset] [(.int i0)])) _
  refine XS.iconst X0.here hx rfl (hb hby at_64) ?_
  show Steps p.tables e below (T0.setTop (mkF m 65 #[.val (.int i0), .val (.long j1), .second, .val (.long j3), .second, .val (.int i5), .val (.int i6), .val (.long j7), .second, .unset, .unset, .unset] [(.int (4 : Int32)), (.int i0)])) _
  refine XS.iand X0.here hx rfl (hb hby at_65) rfl ?_
  show Steps p.tables e below (T0.setTop (mkF m 66 #[.val (.int i0), .val (.long j1), .second, .val (.long j3), .second, .val (.int i5), .val (.int i6), .val (.long j7), .second, .unset, .unset, .unset] [(.int (i0 &&& (4 : Int32)))])) _
  refine XS.ifYes X0.here hx rfl (pc0 := 66) (pc' := 83) rfl (hb hby at_66) rfl ((if0 _ _).trans (teq hc66).1) (by decide) (by decide) ?_
  show Steps p.tables e below (T0.setTop (mkF m 83 #[.val (.int i0), .val (.long j1), .second, .val (.long j3), .second, .val (.int i5), .val (.int i6), .val (.long j7), .second, .unset, .unset, .unset] [])) _
  refine XS.lloadN X0.here hx rfl (hb hby at_83) rfl ?_
  show Steps p.tables e below (T0.setTop (mkF m 84 #[.val (.int i0), .val (.long j1), .second, .val (.long j3), .second, .val (.int i5), .val (.int i6), .val (.long j7), .second, .unset, .unset, .unset] [(.long j3)])) _
  refine XS.lstore X0.here hx rfl (hb hby at_84) rfl (l' := #[.val (.int i0), .val (.long j1), .second, .val (.long j3), .second, .val (.int i5), .val (.int i6), .val (.long j7), .second, .val (.long j3), .second, .unset]) rfl ?_
  exact kt
set_option maxRecDepth 65536 in
set_option maxHeartbeats 40000000 in
theorem tn0_63_86_f {p : Program} {l : Launch} {e : Env} {R : Room} {s : State} {m : MethodId} {args : Array Value} {below : List Frame} {meth : Method} {c : Code} {T0 : State} {locs : List Loc} {cells slots : Nat} {Z : State} {a0 : Array Value} {h0 : Heap} (i0 : Int32) (j1 : Int64) (j3 : Int64) (i5 : Int32) (i6 : Int32) (j7 : Int64)
    (X0 : Stand p l e R s m args below meth c T0 locs cells slots) (hx : p.tables.exec = Jvm.exec) (hZ : Z.Warmed39 s.vm) (hw : ∀ d ∈ tables_1, d.before a0 Z = true) (hby : c.code = code) (hml : c.maxLocals = 12) (hown : s.vm.findClass "com/example/portcullis/portcullis/IpAddressIsIpv4MappedPinLaw" = some m.cls) (e0 : T0.heap = h0) (hc66 : ¬ ((i0 &&& (4 : Int32)) = (0 : Int32))) :
    ∃ (T' : State), Stand p l e R s m args below meth c T' locs cells slots ∧ T'.heap = h0 ∧
      ∀ target, Steps p.tables e below (T'.setTop (mkF m 86 #[.val (.int i0), .val (.long j1), .second, .val (.long j3), .second, .val (.int i5), .val (.int i6), .val (.long j7), .second, .val (.long ((281470681743360 : Int64) ||| ((i5.toInt64) &&& (4294967295 : Int64)))), .second, .unset] [])) target → Steps p.tables e below (T0.setTop (mkF m 63 #[.val (.int i0), .val (.long j1), .second, .val (.long j3), .second, .val (.int i5), .val (.int i6), .val (.long j7), .second, .unset, .unset, .unset] [])) target := by
  refine ⟨T0, X0, e0, fun target kt => ?_⟩
  show Steps p.tables e below (T0.setTop (mkF m 63 #[.val (.int i0), .val (.long j1), .second, .val (.long j3), .second, .val (.int i5), .val (.int i6), .val (.long j7), .second, .unset, .unset, .unset] [])) _
  refine XS.iloadN X0.here hx rfl (hb hby at_63) rfl ?_
  show Steps p.tables e below (T0.setTop (mkF m 64 #[.val (.int i0), .val (.long j1), .second, .val (.long j3), .second, .val (.int i5), .val (.int i6), .val (.long j7), .second, .unset, .unset, .unset] [(.int i0)])) _
  refine XS.iconst X0.here hx rfl (hb hby at_64) ?_
  show Steps p.tables e below (T0.setTop (mkF m 65 #[.val (.int i0), .val (.long j1), .second, .val (.long j3), .second, .val (.int i5), .val (.int i6), .val (.long j7), .second, .unset, .unset, .unset] [(.int (4 : Int32)), (.int i0)])) _
  refine XS.iand X0.here hx rfl (hb hby at_65) rfl ?_
  show Steps p.tables e below (T0.setTop (mkF m 66 #[.val (.int i0), .val (.long j1), .second, .val (.long j3), .second, .val (.int i5), .val (.int i6), .val (.long j7), .second, .unset, .unset, .unset] [(.int (i0 &&& (4 : Int32)))])) _
  refine XS.ifNo X0.here hx rfl (hb hby at_66) rfl ((if0 _ _).trans (feq hc66).1) ?_
  show Steps p.tables e below (T0.setTop (mkF m 69 #[.val (.int i0), .val (.long j1), .second, .val (.long j3), .second, .val (.int i5), .val (.int i6), .val (.long j7), .second, .unset, .unset, .unset] [])) _
  refine X0.ldc2Long hx hown (mvT hZ (hw _ (List.mem_of_getElem? (i := 45) rfl))) (g := (mkF m 69 #[.val (.int i0), .val (.long j1), .second, .val (.long j3), .second, .val (.int i5), .val (.int i6), .val (.long j7), .second, .unset, .unset, .unset] [])) rfl (hb hby at_69) _ ?_
  show Steps p.tables e below (T0.setTop (mkF m 72 #[.val (.int i0), .val (.long j1), .second, .val (.long j3), .second, .val (.int i5), .val (.int i6), .val (.long j7), .second, .unset, .unset, .unset] [(.long (281470681743360 : Int64))])) _
  refine XS.iload X0.here hx rfl (hb hby at_72) rfl ?_
  show Steps p.tables e below (T0.setTop (mkF m 74 #[.val (.int i0), .val (.long j1), .second, .val (.long j3), .second, .val (.int i5), .val (.int i6), .val (.long j7), .second, .unset, .unset, .unset] [(.int i5), (.long (281470681743360 : Int64))])) _
  refine XS.i2l X0.here hx rfl (hb hby at_74) rfl ?_
  show Steps p.tables e below (T0.setTop (mkF m 75 #[.val (.int i0), .val (.long j1), .second, .val (.long j3), .second, .val (.int i5), .val (.int i6), .val (.long j7), .second, .unset, .unset, .unset] [(.long (i5.toInt64)), (.long (281470681743360 : Int64))])) _
  refine X0.ldc2Long hx hown (mvT hZ (hw _ (List.mem_of_getElem? (i := 46) rfl))) (g := (mkF m 75 #[.val (.int i0), .val (.long j1), .second, .val (.long j3), .second, .val (.int i5), .val (.int i6), .val (.long j7), .second, .unset, .unset, .unset] [(.long (i5.toInt64)), (.long (281470681743360 : Int64))])) rfl (hb hby at_75) _ ?_
  show Steps p.tables e below (T0.setTop (mkF m 78 #[.val (.int i0), .val (.long j1), .second, .val (.long j3), .second, .val (.int i5), .val (.int i6), .val (.long j7), .second, .unset, .unset, .unset] [(.long (4294967295 : Int64)), (.long (i5.toInt64)), (.long (281470681743360 : Int64))])) _
  refine XS.land X0.here hx rfl (hb hby at_78) rfl ?_
  show Steps p.tables e below (T0.setTop (mkF m 79 #[.val (.int i0), .val (.long j1), .second, .val (.long j3), .second, .val (.int i5), .val (.int i6), .val (.long j7), .second, .unset, .unset, .unset] [(.long ((i5.toInt64) &&& (4294967295 : Int64))), (.long (281470681743360 : Int64))])) _
  refine XS.lor X0.here hx rfl (hb hby at_79) rfl ?_
  show Steps p.tables e below (T0.setTop (mkF m 80 #[.val (.int i0), .val (.long j1), .second, .val (.long j3), .second, .val (.int i5), .val (.int i6), .val (.long j7), .second, .unset, .unset, .unset] [(.long ((281470681743360 : Int64) ||| ((i5.toInt64) &&& (4294967295 : Int64))))])) _
  refine XS.goto X0.here hx rfl (pc0 := 80) (pc' := 84) rfl (hb hby at_80) (by decide) (by decide) ?_
  show Steps p.tables e below (T0.setTop (mkF m 84 #[.val (.int i0), .val (.long j1), .second, .val (.long j3), .second, .val (.int i5), .val (.int i6), .val (.long j7), .second, .unset, .unset, .unset] [(.long ((281470681743360 : Int64) ||| ((i5.toInt64) &&& (4294967295 : Int64))))])) _
  refine XS.lstore X0.here hx rfl (hb hby at_84) rfl (l' := #[.val (.int i0), .val (.long j1), .second, .val (.long j3), .second, .val (.int i5), .val (.int i6), .val (.long j7), .second, .val (.long ((281470681743360 : Int64) ||| ((i5.toInt64) &&& (4294967295 : Int64)))), .second, .unset]) rfl ?_
  exact kt
theorem own_b (r : Int64) {p : Program} {l : Launch} {e : Env} {R : Room} {s : State} {m : MethodId} {args : Array Value} {below : List Frame} {meth : Method} {c : Code} {T0 : State} {locs : List Loc} {cells slots : Nat} {Z : State} {a0 : Array Value} {h0 : Heap} (i0 : Int32) (j1 : Int64) (j3 : Int64) (i5 : Int32) (i6 : Int32) (j7 : Int64)
    (X0 : Stand p l e R s m args below meth c T0 locs cells slots) (hx : p.tables.exec = Jvm.exec) (hZ : Z.Warmed39 s.vm) (hw : ∀ d ∈ tables_1, d.before a0 Z = true) (hby : c.code = code) (hml : c.maxLocals = 12) (hown : s.vm.findClass "com/example/portcullis/portcullis/IpAddressIsIpv4MappedPinLaw" = some m.cls) (e0 : T0.heap = h0) (hU : ((i0 &&& (4 : Int32)) = (0 : Int32) ∧ r = j3) ∨ (¬ ((i0 &&& (4 : Int32)) = (0 : Int32)) ∧ r = ((281470681743360 : Int64) ||| ((i5.toInt64) &&& (4294967295 : Int64))))) :
    ∃ (T' : State), Stand p l e R s m args below meth c T' locs cells slots ∧ T'.heap = h0 ∧
      ∀ target, Steps p.tables e below (T'.setTop (mkF m 86 #[.val (.int i0), .val (.long j1), .second, .val (.long j3), .second, .val (.int i5), .val (.int i6), .val (.long j7), .second, .val (.long r), .second, .unset] [])) target → Steps p.tables e below (T0.setTop (mkF m 63 #[.val (.int i0), .val (.long j1), .second, .val (.long j3), .second, .val (.int i5), .val (.int i6), .val (.long j7), .second, .unset, .unset, .unset] [])) target := by
  rcases hU with ⟨c0, hr⟩ | ⟨c0, hr⟩
  · rw [hr]; exact tn0_63_86_t i0 j1 j3 i5 i6 j7 X0 hx hZ hw hby hml hown e0 c0
  · rw [hr]; exact tn0_63_86_f i0 j1 j3 i5 i6 j7 X0 hx hZ hw hby hml hown e0 c0
set_option maxRecDepth 65536 in
set_option maxHeartbeats 40000000 in
theorem tn0_86_106_t {p : Program} {l : Launch} {e : Env} {R : Room} {s : State} {m : MethodId} {args : Array Value} {below : List Frame} {meth : Method} {c : Code} {T0 : State} {locs : List Loc} {cells slots : Nat} {Z : State} {a0 : Array Value} {h0 : Heap} (i0 : Int32) (j1 : Int64) (j3 : Int64) (i5 : Int32) (i6 : Int32) (j7 : Int64) (j9 : Int64)
    (X0 : Stand p l e R s m args below meth c T0 locs cells slots) (hx : p.tables.exec = Jvm.exec) (hZ : Z.Warmed39 s.vm) (hw : ∀ d ∈ tables_1, d.before a0 Z = true) (hby : c.code = code) (hml : c.maxLocals = 12) (hown : s.vm.findClass "com/example/portcullis/portcullis/IpAddressIsIpv4MappedPinLaw" = some m.cls) (e0 : T0.heap = h0) (hc90 : (i0 &&& (8 : Int32)) = (0 : Int32)) :
    ∃ (T' : State), Stand p l e R s m args below meth c T' locs cells slots ∧ T'.heap = h0 ∧
      ∀ target, Steps p.tables e below (T'.setTop (mkF m 106 #[.val (.int i0), .val (.long j1), .second, .val (.long j3), .second, .val (.int i5), .val (.int i6), .val (.long j7), .second, .val (.long j9), .second, .unset] [])) target → Steps p.tables e below (T0.setTop (mkF m 86 #[.val (.int i0), .val (.long j1), .second, .val (.long j3), .second, .val (.int i5), .val (.int i6), .val (.long j7), .second, .val (.long j9), .second, .unset] [])) target := by
  refine ⟨T0, X0, e0, fun target kt => ?_⟩
  show Steps p.tables e below (T0.setTop (mkF m 86 #[.val (.int i0), .val (.long j1), .second, .val (.long j3), .second, .val (.int i5), .val (.int i6), .val (.long j7), .second, .val (.long j9), .second, .unset] [])) _
  refine XS.iloadN X0.here hx rfl (hb hby at_86) rfl ?_
  show Steps p.tables e below (T0.setTop (mkF m 87 #[.val (.int i0), .val (.long j1), .second, .val (.long j3), .second, .val (.int i5), .val (.int i6), .val (.long j7), .second, .val (.long j9), .second, .unset] [(.int i0)])) _
  refine XS.bipush X0.here hx rfl (hb hby at_87) ?_
  show Steps p.tables e below (T0.setTop (mkF m 89 #[.val (.int i0), .val (.long j1), .second, .val (.long j3), .second, .val (.int i5), .val (.int i6), .val (.long j7), .second, .val (.long j9), .second, .unset] [(.int (8 : Int32)), (.int i0)])) _
  refine XS.iand X0.here hx rfl (hb hby at_89) rfl ?_
  show Steps p.tables e below (T0.setTop (mkF m 90 #[.val (.int i0), .val (.long j1), .second, .val (.long j3), .second, .val (.int i5), .val (.int i6), .val (.long j7), .second, .val (.long j9), .second, .unset] [(.int (i0 &&& (8 : Int32)))])) _
  refine XS.ifYes X0.here hx rfl (pc0 := 90) (pc' := 106) rfl (hb hby at_90) rfl ((if0 _ _).trans (teq hc90).1) (by decide) (by decide) ?_
  exact kt
set_option maxRecDepth 65536 in
set_option maxHeartbeats 40000000 in
theorem tn0_86_106_f {p : Program} {l : Launch} {e : Env} {R : Room} {s : State} {m : MethodId} {args : Array Value} {below : List Frame} {meth : Method} {c : Code} {T0 : State} {locs : List Loc} {cells slots : Nat} {Z : State} {a0 : Array Value} {h0 : Heap} (i0 : Int32) (j1 : Int64) (j3 : Int64) (i5 : Int32) (i6 : Int32) (j7 : Int64) (j9 : Int64)
    (X0 : Stand p l e R s m args below meth c T0 locs cells slots) (hx : p.tables.exec = Jvm.exec) (hZ : Z.Warmed39 s.vm) (hw : ∀ d ∈ tables_1, d.before a0 Z = true) (hby : c.code = code) (hml : c.maxLocals = 12) (hown : s.vm.findClass "com/example/portcullis/portcullis/IpAddressIsIpv4MappedPinLaw" = some m.cls) (e0 : T0.heap = h0) (hc90 : ¬ ((i0 &&& (8 : Int32)) = (0 : Int32))) :
    ∃ (T' : State), Stand p l e R s m args below meth c T' locs cells slots ∧ T'.heap = h0 ∧
      ∀ target, Steps p.tables e below (T'.setTop (mkF m 106 #[.val (.int i0), .val (.long j1), .second, .val (.long j3), .second, .val (.int i5), .val (.int i6), .val (.long j7), .second, .val (.long (j9 ^^^ ((1 : Int64) <<< ((((i0.toUInt32 >>> ((4 : Int32) &&& 31).toUInt32).toInt32) &&& (63 : Int32)) &&& 0x3f).toInt64))), .second, .unset] [])) target → Steps p.tables e below (T0.setTop (mkF m 86 #[.val (.int i0), .val (.long j1), .second, .val (.long j3), .second, .val (.int i5), .val (.int i6), .val (.long j7), .second, .val (.long j9), .second, .unset] [])) target := by
  refine ⟨T0, X0, e0, fun target kt => ?_⟩
  show Steps p.tables e below (T0.setTop (mkF m 86 #[.val (.int i0), .val (.long j1), .second, .val (.long j3), .second, .val (.int i5), .val (.int i6), .val (.long j7), .second, .val (.long j9), .second, .unset] [])) _
  refine XS.iloadN X0.here hx rfl (hb hby at_86) rfl ?_
  show Steps p.tables e below (T0.setTop (mkF m 87 #[.val (.int i0), .val (.long j1), .second, .val (.long j3), .second, .val (.int i5), .val (.int i6), .val (.long j7), .second, .val (.long j9), .second, .unset] [(.int i0)])) _
  refine XS.bipush X0.here hx rfl (hb hby at_87) ?_
  show Steps p.tables e below (T0.setTop (mkF m 89 #[.val (.int i0), .val (.long j1), .second, .val (.long j3), .second, .val (.int i5), .val (.int i6), .val (.long j7), .second, .val (.long j9), .second, .unset] [(.int (8 : Int32)), (.int i0)])) _
  refine XS.iand X0.here hx rfl (hb hby at_89) rfl ?_
  show Steps p.tables e below (T0.setTop (mkF m 90 #[.val (.int i0), .val (.long j1), .second, .val (.long j3), .second, .val (.int i5), .val (.int i6), .val (.long j7), .second, .val (.long j9), .second, .unset] [(.int (i0 &&& (8 : Int32)))])) _
  refine XS.ifNo X0.here hx rfl (hb hby at_90) rfl ((if0 _ _).trans (feq hc90).1) ?_
  show Steps p.tables e below (T0.setTop (mkF m 93 #[.val (.int i0), .val (.long j1), .second, .val (.long j3), .second, .val (.int i5), .val (.int i6), .val (.long j7), .second, .val (.long j9), .second, .unset] [])) _
  refine XS.lload X0.here hx rfl (hb hby at_93) rfl ?_
  show Steps p.tables e below (T0.setTop (mkF m 95 #[.val (.int i0), .val (.long j1), .second, .val (.long j3), .second, .val (.int i5), .val (.int i6), .val (.long j7), .second, .val (.long j9), .second, .unset] [(.long j9)])) _
  refine XS.lconst X0.here hx rfl (hb hby at_95) ?_
  show Steps p.tables e below (T0.setTop (mkF m 96 #[.val (.int i0), .val (.long j1), .second, .val (.long j3), .second, .val (.int i5), .val (.int i6), .val (.long j7), .second, .val (.long j9), .second, .unset] [(.long (1 : Int64)), (.long j9)])) _
  refine XS.iloadN X0.here hx rfl (hb hby at_96) rfl ?_
  show Steps p.tables e below (T0.setTop (mkF m 97 #[.val (.int i0), .val (.long j1), .second, .val (.long j3), .second, .val (.int i5), .val (.int i6), .val (.long j7), .second, .val (.long j9), .second, .unset] [(.int i0), (.long (1 : Int64)), (.long j9)])) _
  refine XS.iconst X0.here hx rfl (hb hby at_97) ?_
  show Steps p.tables e below (T0.setTop (mkF m 98 #[.val (.int i0), .val (.long j1), .second, .val (.long j3), .second, .val (.int i5), .val (.int i6), .val (.long j7), .second, .val (.long j9), .second, .unset] [(.int (4 : Int32)), (.int i0), (.long (1 : Int64)), (.long j9)])) _
  refine XS.iushr X0.here hx rfl (hb hby at_98) rfl ?_
  show Steps p.tables e below (T0.setTop (mkF m 99 #[.val (.int i0), .val (.long j1), .second, .val (.long j3), .second, .val (.int i5), .val (.int i6), .val (.long j7), .second, .val (.long j9), .second, .unset] [(.int ((i0.toUInt32 >>> ((4 : Int32) &&& 31).toUInt32).toInt32)), (.long (1 : Int64)), (.long j9)])) _
  refine XS.bipush X0.here hx rfl (hb hby at_99) ?_
  show Steps p.tables e below (T0.setTop (mkF m 101 #[.val (.int i0), .val (.long j1), .second, .val (.long j3), .second, .val (.int i5), .val (.int i6), .val (.long j7), .second, .val (.long j9), .second, .unset] [(.int (63 : Int32)), (.int ((i0.toUInt32 >>> ((4 : Int32) &&& 31).toUInt32).toInt32)), (.long (1 : Int64)), (.long j9)])) _
  refine XS.iand X0.here hx rfl (hb hby at_101) rfl ?_
  show Steps p.tables e below (T0.setTop (mkF m 102 #[.val (.int i0), .val (.long j1), .second, .val (.long j3), .second, .val (.int i5), .val (.int i6), .val (.long j7), .second, .val (.long j9), .second, .unset] [(.int (((i0.toUInt32 >>> ((4 : Int32) &&& 31).toUInt32).toInt32) &&& (63 : Int32))), (.long (1 : Int64)), (.long j9)])) _
  refine XS.lshl X0.here hx rfl (hb hby at_102) rfl ?_
  show Steps p.tables e below (T0.setTop (mkF m 103 #[.val (.int i0), .val (.long j1), .second, .val (.long j3), .second, .val (.int i5), .val (.int i6), .val (.long j7), .second, .val (.long j9), .second, .unset] [(.long ((1 : Int64) <<< ((((i0.toUInt32 >>> ((4 : Int32) &&& 31).toUInt32).toInt32) &&& (63 : Int32)) &&& 0x3f).toInt64)), (.long j9)])) _
  refine XS.lxor X0.here hx rfl (hb hby at_103) rfl ?_
  show Steps p.tables e below (T0.setTop (mkF m 104 #[.val (.int i0), .val (.long j1), .second, .val (.long j3), .second, .val (.int i5), .val (.int i6), .val (.long j7), .second, .val (.long j9), .second, .unset] [(.long (j9 ^^^ ((1 : Int64) <<< ((((i0.toUInt32 >>> ((4 : Int32) &&& 31).toUInt32).toInt32) &&& (63 : Int32)) &&& 0x3f).toInt64)))])) _
  refine XS.lstore X0.here hx rfl (hb hby at_104) rfl (l' := #[.val (.int i0), .val (.long j1), .second, .val (.long j3), .second, .val (.int i5), .val (.int i6), .val (.long j7), .second, .val (.long (j9 ^^^ ((1 : Int64) <<< ((((i0.toUInt32 >>> ((4 : Int32) &&& 31).toUInt32).toInt32) &&& (63 : Int32)) &&& 0x3f).toInt64))), .second, .unset]) rfl ?_
  exact kt
theorem own_c (r : Int64) {p : Program} {l : Launch} {e : Env} {R : Room} {s : State} {m : MethodId} {args : Array Value} {below : List Frame} {meth : Method} {c : Code} {T0 : State} {locs : List Loc} {cells slots : Nat} {Z : State} {a0 : Array Value} {h0 : Heap} (i0 : Int32) (j1 : Int64) (j3 : Int64) (i5 : Int32) (i6 : Int32) (j7 : Int64) (j9 : Int64)
    (X0 : Stand p l e R s m args below meth c T0 locs cells slots) (hx : p.tables.exec = Jvm.exec) (hZ : Z.Warmed39 s.vm) (hw : ∀ d ∈ tables_1, d.before a0 Z = true) (hby : c.code = code) (hml : c.maxLocals = 12) (hown : s.vm.findClass "com/example/portcullis/portcullis/IpAddressIsIpv4MappedPinLaw" = some m.cls) (e0 : T0.heap = h0) (hU : ((i0 &&& (8 : Int32)) = (0 : Int32) ∧ r = j9) ∨ (¬ ((i0 &&& (8 : Int32)) = (0 : Int32)) ∧ r = (j9 ^^^ ((1 : Int64) <<< ((((i0.toUInt32 >>> ((4 : Int32) &&& 31).toUInt32).toInt32) &&& (63 : Int32)) &&& 0x3f).toInt64)))) :
    ∃ (T' : State), Stand p l e R s m args below meth c T' locs cells slots ∧ T'.heap = h0 ∧
      ∀ target, Steps p.tables e below (T'.setTop (mkF m 106 #[.val (.int i0), .val (.long j1), .second, .val (.long j3), .second, .val (.int i5), .val (.int i6), .val (.long j7), .second, .val (.long r), .second, .unset] [])) target → Steps p.tables e below (T0.setTop (mkF m 86 #[.val (.int i0), .val (.long j1), .second, .val (.long j3), .second, .val (.int i5), .val (.int i6), .val (.long j7), .second, .val (.long j9), .second, .unset] [])) target := by
  rcases hU with ⟨c0, hr⟩ | ⟨c0, hr⟩
  · rw [hr]; exact tn0_86_106_t i0 j1 j3 i5 i6 j7 j9 X0 hx hZ hw hby hml hown e0 c0
  · rw [hr]; exact tn0_86_106_f i0 j1 j3 i5 i6 j7 j9 X0 hx hZ hw hby hml hown e0 c0
set_option maxRecDepth 65536 in
set_option maxHeartbeats 40000000 in
theorem tn0_106_128_t {p : Program} {l : Launch} {e : Env} {R : Room} {s : State} {m : MethodId} {args : Array Value} {below : List Frame} {meth : Method} {c : Code} {T0 : State} {locs : List Loc} {cells slots : Nat} {Z : State} {a0 : Array Value} {h0 : Heap} (i0 : Int32) (j1 : Int64) (j3 : Int64) (i5 : Int32) (i6 : Int32) (j7 : Int64) (j9 : Int64)
    (X0 : Stand p l e R s m args below meth c T0 locs cells slots) (hx : p.tables.exec = Jvm.exec) (hZ : Z.Warmed39 s.vm) (hw : ∀ d ∈ tables_1, d.before a0 Z = true) (hby : c.code = code) (hml : c.maxLocals = 12) (hown : s.vm.findClass "com/example/portcullis/portcullis/IpAddressIsIpv4MappedPinLaw" = some m.cls) (e0 : T0.heap = h0) (hc111 : (i0 &&& (1024 : Int32)) = (0 : Int32)) :
    ∃ (T' : State), Stand p l e R s m args below meth c T' locs cells slots ∧ T'.heap = h0 ∧
      ∀ target, Steps p.tables e below (T'.setTop (mkF m 128 #[.val (.int i0), .val (.long j1), .second, .val (.long j3), .second, .val (.int i5), .val (.int i6), .val (.long j7), .second, .val (.long j9), .second, .unset] [])) target → Steps p.tables e below (T0.setTop (mkF m 106 #[.val (.int i0), .val (.long j1), .second, .val (.long j3), .second, .val (.int i5), .val (.int i6), .val (.long j7), .second, .val (.long j9), .second, .unset] [])) target := by
  refine ⟨T0, X0, e0, fun target kt => ?_⟩
  show Steps p.tables e below (T0.setTop (mkF m 106 #[.val (.int i0), .val (.long j1), .second, .val (.long j3), .second, .val (.int i5), .val (.int i6), .val (.long j7), .second, .val (.long j9), .second, .unset] [])) _
  refine XS.iloadN X0.here hx rfl (hb hby at_106) rfl ?_
  show Steps p.tables e below (T0.setTop (mkF m 107 #[.val (.int i0), .val (.long j1), .second, .val (.long j3), .second, .val (.int i5), .val (.int i6), .val (.long j7), .second, .val (.long j9), .second, .unset] [(.int i0)])) _
  refine XS.sipush X0.here hx rfl (hb hby at_107) ?_
  show Steps p.tables e below (T0.setTop (mkF m 110 #[.val (.int i0), .val (.long j1), .second, .val (.long j3), .second, .val (.int i5), .val (.int i6), .val (.long j7), .second, .val (.long j9), .second, .unset] [(.int (1024 : Int32)), (.int i0)])) _
  refine XS.iand X0.here hx rfl (hb hby at_110) rfl ?_
  show Steps p.tables e below (T0.setTop (mkF m 111 #[.val (.int i0), .val (.long j1), .second, .val (.long j3), .second, .val (.int i5), .val (.int i6), .val (.long j7), .second, .val (.long j9), .second, .unset] [(.int (i0 &&& (1024 : Int32)))])) _
  refine XS.ifYes X0.here hx rfl (pc0 := 111) (pc' := 128) rfl (hb hby at_111) rfl ((if0 _ _).trans (teq hc111).1) (by decide) (by decide) ?_
  exact kt
set_option maxRecDepth 65536 in
set_option maxHeartbeats 40000000 in
theorem tn0_106_128_f {p : Program} {l : Launch} {e : Env} {R : Room} {s : State} {m : MethodId} {args : Array Value} {below : List Frame} {meth : Method} {c : Code} {T0 : State} {locs : List Loc} {cells slots : Nat} {Z : State} {a0 : Array Value} {h0 : Heap} (i0 : Int32) (j1 : Int64) (j3 : Int64) (i5 : Int32) (i6 : Int32) (j7 : Int64) (j9 : Int64)
    (X0 : Stand p l e R s m args below meth c T0 locs cells slots) (hx : p.tables.exec = Jvm.exec) (hZ : Z.Warmed39 s.vm) (hw : ∀ d ∈ tables_1, d.before a0 Z = true) (hby : c.code = code) (hml : c.maxLocals = 12) (hown : s.vm.findClass "com/example/portcullis/portcullis/IpAddressIsIpv4MappedPinLaw" = some m.cls) (e0 : T0.heap = h0) (hc111 : ¬ ((i0 &&& (1024 : Int32)) = (0 : Int32))) :
    ∃ (T' : State), Stand p l e R s m args below meth c T' locs cells slots ∧ T'.heap = h0 ∧
      ∀ target, Steps p.tables e below (T'.setTop (mkF m 128 #[.val (.int i0), .val (.long j1), .second, .val (.long j3), .second, .val (.int i5), .val (.int i6), .val (.long (j7 ^^^ ((1 : Int64) <<< ((((i0.toUInt32 >>> ((11 : Int32) &&& 31).toUInt32).toInt32) &&& (63 : Int32)) &&& 0x3f).toInt64))), .second, .val (.long j9), .second, .unset] [])) target → Steps p.tables e below (T0.setTop (mkF m 106 #[.val (.int i0), .val (.long j1), .second, .val (.long j3), .second, .val (.int i5), .val (.int i6), .val (.long j7), .second, .val (.long j9), .second, .unset] [])) target := by
  refine ⟨T0, X0, e0, fun target kt => ?_⟩
  show Steps p.tables e below (T0.setTop (mkF m 106 #[.val (.int i0), .val (.long j1), .second, .val (.long j3), .second, .val (.int i5), .val (.int i6), .val (.long j7), .second, .val (.long j9), .second, .unset] [])) _
  refine XS.iloadN X0.here hx rfl (hb hby at_106) rfl ?_
  show Steps p.tables e below (T0.setTop (mkF m 107 #[.val (.int i0), .val (.long j1), .second, .val (.long j3), .second, .val (.int i5), .val (.int i6), .val (.long j7), .second, .val (.long j9), .second, .unset] [(.int i0)])) _
  refine XS.sipush X0.here hx rfl (hb hby at_107) ?_
  show Steps p.tables e below (T0.setTop (mkF m 110 #[.val (.int i0), .val (.long j1), .second, .val (.long j3), .second, .val (.int i5), .val (.int i6), .val (.long j7), .second, .val (.long j9), .second, .unset] [(.int (1024 : Int32)), (.int i0)])) _
  refine XS.iand X0.here hx rfl (hb hby at_110) rfl ?_
  show Steps p.tables e below (T0.setTop (mkF m 111 #[.val (.int i0), .val (.long j1), .second, .val (.long j3), .second, .val (.int i5), .val (.int i6), .val (.long j7), .second, .val (.long j9), .second, .unset] [(.int (i0 &&& (1024 : Int32)))])) _
  refine XS.ifNo X0.here hx rfl (hb hby at_111) rfl ((if0 _ _).trans (feq hc111).1) ?_
  show Steps p.tables e below (T0.setTop (mkF m 114 #[.val (.int i0), .val (.long j1), .second, .val (.long j3), .second, .val (.int i5), .val (.int i6), .val (.long j7), .second, .val (.long j9), .second, .unset] [])) _
  refine XS.lload X0.here hx rfl (hb hby at_114) rfl ?_
  show Steps p.tables e below (T0.setTop (mkF m 116 #[.val (.int i0), .val (.long j1), .second, .val (.long j3), .second, .val (.int i5), .val (.int i6), .val (.long j7), .second, .val (.long j9), .second, .unset] [(.long j7)])) _
  refine XS.lconst X0.here hx rfl (hb hby at_116) ?_
  show Steps p.tables e below (T0.setTop (mkF m 117 #[.val (.int i0), .val (.long j1), .second, .val (.long j3), .second, .val (.int i5), .val (.int i6), .val (.long j7), .second, .val (.long j9), .second, .unset] [(.long (1 : Int64)), (.long j7)])) _
  refine XS.iloadN X0.here hx rfl (hb hby at_117) rfl ?_
  show Steps p.tables e below (T0.setTop (mkF m 118 #[.val (.int i0), .val (.long j1), .second, .val (.long j3), .second, .val (.int i5), .val (.int i6), .val (.long j7), .second, .val (.long j9), .second, .unset] [(.int i0), (.long (1 : Int64)), (.long j7)])) _
  refine XS.bipush X0.here hx rfl (hb hby at_118) ?_
  show Steps p.tables e below (T0.setTop (mkF m 120 #[.val (.int i0), .val (.long j1), .second, .val (.long j3), .second, .val (.int i5), .val (.int i6), .val (.long j7), .second, .val (.long j9), .second, .unset] [(.int (11 : Int32)), (.int i0), (.long (1 : Int64)), (.long j7)])) _
  refine XS.iushr X0.here hx rfl (hb hby at_120) rfl ?_
  show Steps p.tables e below (T0.setTop (mkF m 121 #[.val (.int i0), .val (.long j1), .second, .val (.long j3), .second, .val (.int i5), .val (.int i6), .val (.long j7), .second, .val (.long j9), .second, .unset] [(.int ((i0.toUInt32 >>> ((11 : Int32) &&& 31).toUInt32).toInt32)), (.long (1 : Int64)), (.long j7)])) _
  refine XS.bipush X0.here hx rfl (hb hby at_121) ?_
  show Steps p.tables e below (T0.setTop (mkF m 123 #[.val (.int i0), .val (.long j1), .second, .val (.long j3), .second, .val (.int i5), .val (.int i6), .val (.long j7), .second, .val (.long j9), .second, .unset] [(.int (63 : Int32)), (.int ((i0.toUInt32 >>> ((11 : Int32) &&& 31).toUInt32).toInt32)), (.long (1 : Int64)), (.long j7)])) _
  refine XS.iand X0.here hx rfl (hb hby at_123) rfl ?_
  show Steps p.tables e below (T0.setTop (mkF m 124 #[.val (.int i0), .val (.long j1), .second, .val (.long j3), .second, .val (.int i5), .val (.int i6), .val (.long j7), .second, .val (.long j9), .second, .unset] [(.int (((i0.toUInt32 >>> ((11 : Int32) &&& 31).toUInt32).toInt32) &&& (63 : Int32))), (.long (1 : Int64)), (.long j7)])) _
  refine XS.lshl X0.here hx rfl (hb hby at_124) rfl ?_
  show Steps p.tables e below (T0.setTop (mkF m 125 #[.val (.int i0), .val (.long j1), .second, .val (.long j3), .second, .val (.int i5), .val (.int i6), .val (.long j7), .second, .val (.long j9), .second, .unset] [(.long ((1 : Int64) <<< ((((i0.toUInt32 >>> ((11 : Int32) &&& 31).toUInt32).toInt32) &&& (63 : Int32)) &&& 0x3f).toInt64)), (.long j7)])) _
  refine XS.lxor X0.here hx rfl (hb hby at_125) rfl ?_
  show Steps p.tables e below (T0.setTop (mkF m 126 #[.val (.int i0), .val (.long j1), .second, .val (.long j3), .second, .val (.int i5), .val (.int i6), .val (.long j7), .second, .val (.long j9), .second, .unset] [(.long (j7 ^^^ ((1 : Int64) <<< ((((i0.toUInt32 >>> ((11 : Int32) &&& 31).toUInt32).toInt32) &&& (63 : Int32)) &&& 0x3f).toInt64)))])) _
  refine XS.lstore X0.here hx rfl (hb hby at_126) rfl (l' := #[.val (.int i0), .val (.long j1), .second, .val (.long j3), .second, .val (.int i5), .val (.int i6), .val (.long (j7 ^^^ ((1 : Int64) <<< ((((i0.toUInt32 >>> ((11 : Int32) &&& 31).toUInt32).toInt32) &&& (63 : Int32)) &&& 0x3f).toInt64))), .second, .val (.long j9), .second, .unset]) rfl ?_
  exact kt
theorem own_d (r : Int64) {p : Program} {l : Launch} {e : Env} {R : Room} {s : State} {m : MethodId} {args : Array Value} {below : List Frame} {meth : Method} {c : Code} {T0 : State} {locs : List Loc} {cells slots : Nat} {Z : State} {a0 : Array Value} {h0 : Heap} (i0 : Int32) (j1 : Int64) (j3 : Int64) (i5 : Int32) (i6 : Int32) (j7 : Int64) (j9 : Int64)
    (X0 : Stand p l e R s m args below meth c T0 locs cells slots) (hx : p.tables.exec = Jvm.exec) (hZ : Z.Warmed39 s.vm) (hw : ∀ d ∈ tables_1, d.before a0 Z = true) (hby : c.code = code) (hml : c.maxLocals = 12) (hown : s.vm.findClass "com/example/portcullis/portcullis/IpAddressIsIpv4MappedPinLaw" = some m.cls) (e0 : T0.heap = h0) (hU : ((i0 &&& (1024 : Int32)) = (0 : Int32) ∧ r = j7) ∨ (¬ ((i0 &&& (1024 : Int32)) = (0 : Int32)) ∧ r = (j7 ^^^ ((1 : Int64) <<< ((((i0.toUInt32 >>> ((11 : Int32) &&& 31).toUInt32).toInt32) &&& (63 : Int32)) &&& 0x3f).toInt64)))) :
    ∃ (T' : State), Stand p l e R s m args below meth c T' locs cells slots ∧ T'.heap = h0 ∧
      ∀ target, Steps p.tables e below (T'.setTop (mkF m 128 #[.val (.int i0), .val (.long j1), .second, .val (.long j3), .second, .val (.int i5), .val (.int i6), .val (.long r), .second, .val (.long j9), .second, .unset] [])) target → Steps p.tables e below (T0.setTop (mkF m 106 #[.val (.int i0), .val (.long j1), .second, .val (.long j3), .second, .val (.int i5), .val (.int i6), .val (.long j7), .second, .val (.long j9), .second, .unset] [])) target := by
  rcases hU with ⟨c0, hr⟩ | ⟨c0, hr⟩
  · rw [hr]; exact tn0_106_128_t i0 j1 j3 i5 i6 j7 j9 X0 hx hZ hw hby hml hown e0 c0
  · rw [hr]; exact tn0_106_128_f i0 j1 j3 i5 i6 j7 j9 X0 hx hZ hw hby hml hown e0 c0
def Qlaw0 (n0 : Nat) (v : Option Value) (h : Heap) (L : List Loc) : Prop := v = some (.int 1) ∧ Fr n0 L
theorem own_shl (x : Int64) : ((x &&& (-4294967296 : Int64)) <<< ((32 : Int32) &&& 0x3f).toInt64) = (0 : Int64) := by
  have e : (((32 : Int32) &&& 0x3f).toInt64) = (32 : Int64) := by decide
  rw [e]
  apply Int64.toBitVec_inj.mp
  apply BitVec.eq_of_getLsbD_eq
  intro i hi
  have hm : (-4294967296 : Int64).toBitVec = 0xFFFFFFFF00000000#64 := by decide
  have hs : ((x &&& (-4294967296 : Int64)) <<< (32 : Int64)).toBitVec = (x.toBitVec &&& 0xFFFFFFFF00000000#64) <<< 32 := by
    rw [Int64.toBitVec_shiftLeft, Int64.toBitVec_and, hm, show (32 : Int64).toBitVec.smod 64 = 32#64 from by decide]; rfl
  rw [hs]
  have hz : (0 : Int64).toBitVec = 0#64 := by decide
  rw [hz]
  simp only [BitVec.getLsbD_shiftLeft, BitVec.getLsbD_and, BitVec.getLsbD_zero]
  by_cases h : i < 32
  · simp [h]
  · have h2 : i - 32 < 32 := by omega
    generalize i - 32 = j at h2
    have : (0xFFFFFFFF00000000#64).getLsbD j = false := by
      have hall : ∀ k : Fin 32, (0xFFFFFFFF00000000#64).getLsbD k.val = false := by decide
      exact hall ⟨j, h2⟩
    simp [this]
theorem own_iff (x : Int64) : ((x &&& (-4294967296 : Int64)) = (281470681743360 : Int64)) ↔ (((x.toUInt64 >>> ((32 : Int32) &&& 0x3f).toInt64.toUInt64).toInt64) = (65535 : Int64)) := by
  have e : (((32 : Int32) &&& 0x3f).toInt64.toUInt64) = (32 : UInt64) := by decide
  rw [e, ← Int64.toBitVec_inj, ← Int64.toBitVec_inj]
  have hm : (-4294967296 : Int64).toBitVec = 0xFFFFFFFF00000000#64 := by decide
  have hc : (281470681743360 : Int64).toBitVec = 0x0000FFFF00000000#64 := by decide
  have hd : (65535 : Int64).toBitVec = 0xFFFF#64 := by decide
  have h1 : (x &&& (-4294967296 : Int64)).toBitVec = x.toBitVec &&& 0xFFFFFFFF00000000#64 := by rw [Int64.toBitVec_and, hm]
  have h2 : ((x.toUInt64 >>> (32 : UInt64)).toInt64).toBitVec = x.toBitVec >>> 32 := by
    show (x.toUInt64 >>> (32 : UInt64)).toBitVec = _
    rw [UInt64.toBitVec_shiftRight, show (32 : UInt64).toBitVec % 64 = 32#64 from by decide]; rfl
  rw [h1, h2, hc, hd]
  generalize x.toBitVec = y
  constructor
  · intro h
    have h' := congrArg (fun z : BitVec 64 => z >>> (32 : Nat)) h
    have ha : (y &&& 0xFFFFFFFF00000000#64) >>> 32 = y >>> 32 := by
      apply BitVec.eq_of_getLsbD_eq
      intro i hi
      simp only [BitVec.getLsbD_ushiftRight, BitVec.getLsbD_and]
      by_cases q : 32 + i < 64
      · have hall : ∀ k : Fin 32, (0xFFFFFFFF00000000#64).getLsbD (32 + k.val) = true := by decide
        have := hall ⟨i, by omega⟩
        simp only [this, Bool.and_true]
      · simp [BitVec.getLsbD_of_ge _ _ (Nat.not_lt.mp q)]
    have hb : (0x0000FFFF00000000#64) >>> 32 = 0xFFFF#64 := by decide
    exact ha.symm.trans (h'.trans hb)
  · intro h
    apply BitVec.eq_of_getLsbD_eq
    intro i hi
    rw [BitVec.getLsbD_and]
    by_cases q : i < 32
    · have hall : ∀ k : Fin 32, (0xFFFFFFFF00000000#64).getLsbD k.val = false ∧ (0x0000FFFF00000000#64).getLsbD k.val = false := by decide
      have := hall ⟨i, q⟩
      simp [this.1, this.2]
    · have hall : ∀ k : Fin 32, (0xFFFFFFFF00000000#64).getLsbD (32 + k.val) = true ∧ (0x0000FFFF00000000#64).getLsbD (32 + k.val) = (0xFFFF#64).getLsbD k.val := by decide
      have g := hall ⟨i - 32, by omega⟩
      have ei : 32 + (i - 32) = i := by omega
      simp only [ei] at g
      have hy : y.getLsbD i = (y >>> 32).getLsbD (i - 32) := by rw [BitVec.getLsbD_ushiftRight, ei]
      rw [g.1, g.2, hy, h, Bool.and_true]
theorem pn_0 : plainName "com/example/portcullis/portcullis/IpAddressIsIpv4MappedPinLaw" = true := by first | (simp [plainName, overriddenIn]; done) | decide +kernel
theorem pd_0_0 : parseMethodDescriptor "(Lcom/example/portcullis/portcullis/IpAddress$Version;JJ)V" = some ⟨[(.object "com/example/portcullis/portcullis/IpAddress$Version"), .long, .long], none⟩ := by decide +kernel
theorem pd_0_3 : parseMethodDescriptor "()Z" = some ⟨[], some .boolean⟩ := by decide +kernel
theorem ef_0 (m : MethodId) (x0 : Int32) (x1 : Int64) (x2 : Int64) (x3 : Int32) : entryFrame m #[(.int x0), (.long x1), (.long x2), (.int x3)] maxLocals = mkF m 0 #[.val (.int x0), .val (.long x1), .second, .val (.long x2), .second, .val (.int x3), .unset, .unset, .unset, .unset, .unset, .unset] [] := by first | (simp [entryFrame, mkF, argsToLocals, Value.category, maxLocals]; done) | rfl
set_option maxRecDepth 65536 in
set_option maxHeartbeats 40000000 in
theorem rm0_v4 (l : Launch) (Z : State) (a0 : Array Value) (hw : ∀ d ∈ tables_1, d.before a0 Z = true) (ws : List Jvm.Cond) (p1 : Int32) (q2 : Int64) (q3 : Int64) (p4 : Int32) (wF : Addr) (wS : Addr) (h0 : Heap) (n0 : Nat) (Z0 : n0 ≤ h0.size) (S_IPV4 : Sta Z h0 "com/example/portcullis/portcullis/IpAddress$Version" "IPV4" "Lcom/example/portcullis/portcullis/IpAddress$Version;" (.ref wF)) (S_IPV6 : Sta Z h0 "com/example/portcullis/portcullis/IpAddress$Version" "IPV6" "Lcom/example/portcullis/portcullis/IpAddress$Version;" (.ref wS)) (hne : ¬ (wF = wS)) (hc3 : (p1 &&& (1 : Int32)) = (0 : Int32)) :
    MetFree l x (head1 (Jvm.Cond.code x code maxLocals ret :: ws) room_1) (fun a U => a = #[(.int p1), (.long q2), (.long q3), (.int p4)] ∧ Z.Warmed39 U.vm ∧ U.heap = h0) (fun _ _ _ _ _ => True) (fun _ U o U' => ∃ v L, o = .returned v ∧ Qlaw0 n0 v U'.heap L ∧ ReturnedEndW U o U' L room_1.cells room_1.slots) := by
  refine MetFree.of_bodySF (plainFor_of_name pn_0) hisR ?_
  intro p e s m args below meth c s₁ Bd hml0 hP hK
  obtain ⟨rfl, hZ, hh⟩ := hP
  have hx := Bd.exec
  have hby := Bd.bytes
  have hml : c.maxLocals = 12 := hml0
  have hown : s.vm.findClass "com/example/portcullis/portcullis/IpAddressIsIpv4MappedPinLaw" = some m.cls := findClass_of_methodNamed Bd.named
  have hnm := (name_of_methodNamed Bd.named Bd.method).1
  have X0 : Stand p l e room_1 s m #[(.int p1), (.long q2), (.long q3), (.int p4)] below meth c s₁ [] 0 0 := Stand.of_body Bd
  have e0 : s₁.heap = h0 := by rw [← hh, Bd.state]; rfl
  have N0 := Fr.nil n0
  have pre0 : ∀ t, Steps p.tables e below (s₁.setTop (mkF m 0 #[.val (.int p1), .val (.long q2), .second, .val (.long q3), .second, .val (.int p4), .unset, .unset, .unset, .unset, .unset, .unset] [])) t → Steps p.tables e below (s₁.setTop (entryFrame m #[(.int p1), (.long q2), (.long q3), (.int p4)] maxLocals)) t := fun t k => castTop (ef_0 m p1 q2 q3 p4) k
  obtain ⟨T5, h5, X5, e5, E5, A5, D5, -, st5⟩ := newO X0 hx hZ hown (hw _ (List.mem_of_getElem? (i := 0) rfl)) (hw _ (List.mem_of_getElem? (i := 1) rfl)) (hw _ (List.mem_of_getElem? (i := 2) rfl)) e0 (g := (mkF m 18 #[.val (.int p1), .val (.long q2), .second, .val (.long q3), .second, .val (.int p4), .val (.int (0 : Int32)), .unset, .unset, .unset, .unset, .unset] [])) rfl (hb hby at_18) (by decide) (by decide)
  obtain ⟨b5, g5⟩ : ∃ z, z = h0.size := ⟨_, rfl⟩
  rw [← g5] at A5 D5 st5
  have F_version_b5 : Fld Z h5 b5 "com/example/portcullis/portcullis/IpAddress" "version" "Lcom/example/portcullis/portcullis/IpAddress$Version;" .null := D5 (Or.inr (hw _ (List.mem_of_getElem? (i := 32) rfl))) (ty := (.object "com/example/portcullis/portcullis/IpAddress$Version")) (by decide)
  have F_high_b5 : Fld Z h5 b5 "com/example/portcullis/portcullis/IpAddress" "high" "J" (.long (0 : Int64)) := D5 (Or.inr (hw _ (List.mem_of_getElem? (i := 34) rfl))) (ty := .long) (by decide)
  have F_low_b5 : Fld Z h5 b5 "com/example/portcullis/portcullis/IpAddress" "low" "J" (.long (0 : Int64)) := D5 (Or.inr (hw _ (List.mem_of_getElem? (i := 36) rfl))) (ty := .long) (by decide)
  have E_b5 := A5
  have g_b5 : n0 ≤ b5 := Nat.le_trans Z0 (Nat.le_of_eq g5.symm)
  have sz_b5 : h0.size ≤ b5 := (Nat.le_trans (Keep.refl h0 []).1 (Nat.le_of_eq g5.symm))
  have K5 : Keep h0 h5 [] := (Keep.refl h0 []).ext E5
  obtain ⟨T6, X6, e6, st6⟩ := getS2 X5 hx hZ hown (host := "") (Or.inl (hw _ (List.mem_of_getElem? (i := 3) rfl))) Via.refl e5 (S_IPV4.ext E5) (g := (mkF m 22 #[.val (.int p1), .val (.long q2), .second, .val (.long q3), .second, .val (.int p4), .val (.int (0 : Int32)), .unset, .unset, .unset, .unset, .unset] [(.ref b5), (.ref b5)])) rfl (hb hby at_22)
  obtain ⟨_, _, ⟨T7, L7, k7, n7⟩, -, X7, hS7, hgr7, ⟨Lc7, hQ7, l7, y7, z7⟩, st7⟩ := X6.specialBackS hx (y := (⟨"com/example/portcullis/portcullis/IpAddress", "<init>", "(Lcom/example/portcullis/portcullis/IpAddress$Version;JJ)V"⟩ : MethodName)) rfl hown (mvT hZ (hw _ (List.mem_of_getElem? (i := 7) rfl))) (mvT hZ (hw _ (List.mem_of_getElem? (i := 8) rfl))) (mvT hZ (hw _ (List.mem_of_getElem? (i := 9) rfl))) (by decide) (backOfS (W := 1) (rm1_fft l Z a0 hw [] b5 wF (q2 &&& (-4294967296 : Int64)) (0 : Int64) wF .null (.long (0 : Int64)) (.long (0 : Int64)) h5 n0 (Nat.le_trans Z0 E5.1) (S_IPV4.ext E5) E_b5 F_version_b5 g_b5 F_high_b5 F_low_b5 rfl ((lw_eq _ _).mpr (own_shl q2)) ((lw_eq _ _).mpr rfl)) hZ (hw _ (List.mem_of_getElem? (i := 9) rfl)) (hw _ (List.mem_of_getElem? (i := 2) rfl)) (by decide) (by decide)) (g := (mkF m 31 #[.val (.int p1), .val (.long q2), .second, .val (.long q3), .second, .val (.int p4), .val (.int (0 : Int32)), .unset, .unset, .unset, .unset, .unset] [(.long (0 : Int64)), (.long (q2 &&& (-4294967296 : Int64))), (.ref wF), (.ref b5), (.ref b5)])) rfl (by rw [hml]; rfl) (Steps.refl _) (a := b5) (argsL := [(.ref wF), (.long (q2 &&& (-4294967296 : Int64))), (.long (0 : Int64))]) (rest := [(.ref b5)]) (lenOf pd_0_0 rfl) rfl (by show 2 * 0 + _ ≤ _; exact Nat.le_of_eq rfl) (hb hby at_31) (fun _ _ => ⟨rfl, e6, (by decide : 1 + 2 ≤ _), (by decide : 3 + 32 ≤ _)⟩)
  dsimp only [Pt.U, Pt.locs, Pt.cells, Pt.slots] at X7 l7 y7 z7 st7 hQ7 hS7 hgr7
  subst l7 y7 z7
  obtain ⟨rfl, N7q, K7q, E7q, Fv7q, Fh7q, Fl7q⟩ := hQ7
  have N7 := Fr.app N0 N7q
  have hZ2 : Z.Warmed39 (s.setVm T7.vm).vm := State.Warmed39.trans hZ hS7.1
  have hown2 : (s.setVm T7.vm).vm.findClass "com/example/portcullis/portcullis/IpAddressIsIpv4MappedPinLaw" = some m.cls := (hS7.1.alike.findClass _ _).trans hown
  have KK7 : Keep h0 T7.heap [] := K5.trans K7q (allS (Or.inr sz_b5) all0)
  obtain ⟨cq8, kq8, q8a, q8b, q8c⟩ := isOf hZ2 rfl E7q
  obtain ⟨_, _, ⟨T8, L8, k8, n8⟩, -, X8, ⟨Lc8, hQ8, l8, y8, z8⟩, st8⟩ := X7.virtualBack hx (y := (⟨"com/example/portcullis/portcullis/IpAddress", "isIpv4Mapped", "()Z"⟩ : MethodName)) (z := (⟨"com/example/portcullis/portcullis/IpAddress", "isIpv4Mapped", "()Z"⟩ : MethodName)) hown2 (mvT hZ2 (hw _ (List.mem_of_getElem? (i := 37) rfl))) (mvT hZ2 (hw _ (List.mem_of_getElem? (i := 38) rfl))) (notFace_of_selects (args := #[]) (mvT hZ2 (hw _ (List.mem_of_getElem? (i := 40) rfl)))) (mvT hZ2 (hw _ (List.mem_of_getElem? (i := 40) rfl))) (mvT hZ2 (hw _ (List.mem_of_getElem? (i := 39) rfl))) (by decide) (backOf (W := 0) (rm5_t l Z a0 hw [] b5 wF wS T7.heap n0 (Nat.le_trans (Nat.le_trans Z0 E5.1) K7q.1) Fv7q (own_sta_keep (S_IPV6.ext E5) K7q (allS (own_ns E_b5) all0)) hne) hZ2 (hw _ (List.mem_of_getElem? (i := 41) rfl)) (hw _ (List.mem_of_getElem? (i := 2) rfl)) (by decide) (by decide)) q8a q8c (g := (mkF m 38 #[.val (.int p1), .val (.long q2), .second, .val (.long q3), .second, .val (.int p4), .val (.int (0 : Int32)), .val (.ref b5), .unset, .unset, .unset, .unset] [(.ref b5)])) rfl (by rw [hml]; rfl) (Steps.refl _) (argsL := []) (rest := []) (lenOf pd_0_3 rfl) rfl (by show 2 * 0 + _ ≤ _; exact Nat.le_of_eq rfl) (hb hby at_38) (fun _ _ => ⟨rfl, rfl, (by decide : 3 + 0 ≤ _), (by decide : 35 + 0 ≤ _)⟩)
  dsimp only [Pt.U, Pt.locs, Pt.cells, Pt.slots] at X8 l8 y8 z8 st8 hQ8
  subst l8 y8 z8
  obtain ⟨rfl, N8q, e8q⟩ := hQ8
  have N8 := Fr.app N7 N8q
  have hlk : meth.locks = false := BodyLoose.notSynchronized Bd
  have hsz : _ ≤ T8.heap.size := (show T7.heap.size ≤ T8.heap.size from Nat.le_of_eq (by rw [e8q]))
  obtain ⟨fs, hr, hrun, hended, hRW⟩ := Stand.leaveW (s := s) (vm₁ := T7.vm) X8 hS7 hsz (v := some (.int (1 : Int32))) (fun h => by rw [Bd.returns] at h; cases h) hlk
  refine ⟨_, _, pre0 _ ?_, hrun, hended, _, _, rfl, ?_, hRW.1, hRW.2.1, hRW.2.2.1, hRW.2.2.2.mono (by decide) (by decide)⟩
  · show Steps p.tables e below (s₁.setTop (mkF m 0 #[.val (.int p1), .val (.long q2), .second, .val (.long q3), .second, .val (.int p4), .unset, .unset, .unset, .unset, .unset, .unset] [])) _
    refine XS.iloadN X0.here hx rfl (hb hby at_0) rfl ?_
    show Steps p.tables e below (s₁.setTop (mkF m 1 #[.val (.int p1), .val (.long q2), .second, .val (.long q3), .second, .val (.int p4), .unset, .unset, .unset, .unset, .unset, .unset] [(.int p1)])) _
    refine XS.iconst X0.here hx rfl (hb hby at_1) ?_
    show Steps p.tables e below (s₁.setTop (mkF m 2 #[.val (.int p1), .val (.long q2), .second, .val (.long q3), .second, .val (.int p4), .unset, .unset, .unset, .unset, .unset, .unset] [(.int (1 : Int32)), (.int p1)])) _
    refine XS.iand X0.here hx rfl (hb hby at_2) rfl ?_
    show Steps p.tables e below (s₁.setTop (mkF m 3 #[.val (.int p1), .val (.long q2), .second, .val (.long q3), .second, .val (.int p4), .unset, .unset, .unset, .unset, .unset, .unset] [(.int (p1 &&& (1 : Int32)))])) _
    refine XS.ifYes X0.here hx rfl (pc0 := 3) (pc' := 10) rfl (hb hby at_3) rfl ((if0 _ _).trans (teq hc3).1) (by decide) (by decide) ?_
    show Steps p.tables e below (s₁.setTop (mkF m 10 #[.val (.int p1), .val (.long q2), .second, .val (.long q3), .second, .val (.int p4), .unset, .unset, .unset, .unset, .unset, .unset] [])) _
    refine XS.iconst X0.here hx rfl (hb hby at_10) ?_
    show Steps p.tables e below (s₁.setTop (mkF m 11 #[.val (.int p1), .val (.long q2), .second, .val (.long q3), .second, .val (.int p4), .unset, .unset, .unset, .unset, .unset, .unset] [(.int (0 : Int32))])) _
    refine XS.istore X0.here hx rfl (hb hby at_11) rfl (l' := #[.val (.int p1), .val (.long q2), .second, .val (.long q3), .second, .val (.int p4), .val (.int (0 : Int32)), .unset, .unset, .unset, .unset, .unset]) rfl ?_
    show Steps p.tables e below (s₁.setTop (mkF m 13 #[.val (.int p1), .val (.long q2), .second, .val (.long q3), .second, .val (.int p4), .val (.int (0 : Int32)), .unset, .unset, .unset, .unset, .unset] [])) _
    refine XS.iload X0.here hx rfl (hb hby at_13) rfl ?_
    show Steps p.tables e below (s₁.setTop (mkF m 15 #[.val (.int p1), .val (.long q2), .second, .val (.long q3), .second, .val (.int p4), .val (.int (0 : Int32)), .unset, .unset, .unset, .unset, .unset] [(.int (0 : Int32))])) _
    refine XS.ifNo X0.here hx rfl (hb hby at_15) rfl ((if0 _ _).trans (teq (rfl : (0 : Int32) = (0 : Int32))).2) ?_
    show Steps p.tables e below (s₁.setTop (mkF m 18 #[.val (.int p1), .val (.long q2), .second, .val (.long q3), .second, .val (.int p4), .val (.int (0 : Int32)), .unset, .unset, .unset, .unset, .unset] [])) _
    refine st5 _ ?_
    show Steps p.tables e below (T5.setTop (mkF m 21 #[.val (.int p1), .val (.long q2), .second, .val (.long q3), .second, .val (.int p4), .val (.int (0 : Int32)), .unset, .unset, .unset, .unset, .unset] [(.ref b5)])) _
    refine XS.dup X5.here hx rfl (hb hby at_21) rfl rfl ?_
    show Steps p.tables e below (T5.setTop (mkF m 22 #[.val (.int p1), .val (.long q2), .second, .val (.long q3), .second, .val (.int p4), .val (.int (0 : Int32)), .unset, .unset, .unset, .unset, .unset] [(.ref b5), (.ref b5)])) _
    refine st6 _ ?_
    show Steps p.tables e below (T6.setTop (mkF m 25 #[.val (.int p1), .val (.long q2), .second, .val (.long q3), .second, .val (.int p4), .val (.int (0 : Int32)), .unset, .unset, .unset, .unset, .unset] [(.ref wF), (.ref b5), (.ref b5)])) _
    refine XS.lloadN X6.here hx rfl (hb hby at_25) rfl ?_
    show Steps p.tables e below (T6.setTop (mkF m 26 #[.val (.int p1), .val (.long q2), .second, .val (.long q3), .second, .val (.int p4), .val (.int (0 : Int32)), .unset, .unset, .unset, .unset, .unset] [(.long q2), (.ref wF), (.ref b5), (.ref b5)])) _
    refine X6.ldc2Long hx hown (mvT hZ (hw _ (List.mem_of_getElem? (i := 6) rfl))) (g := (mkF m 26 #[.val (.int p1), .val (.long q2), .second, .val (.long q3), .second, .val (.int p4), .val (.int (0 : Int32)), .unset, .unset, .unset, .unset, .unset] [(.long q2), (.ref wF), (.ref b5), (.ref b5)])) rfl (hb hby at_26) _ ?_
    show Steps p.tables e below (T6.setTop (mkF m 29 #[.val (.int p1), .val (.long q2), .second, .val (.long q3), .second, .val (.int p4), .val (.int (0 : Int32)), .unset, .unset, .unset, .unset, .unset] [(.long (-4294967296 : Int64)), (.long q2), (.ref wF), (.ref b5), (.ref b5)])) _
    refine XS.land X6.here hx rfl (hb hby at_29) rfl ?_
    show Steps p.tables e below (T6.setTop (mkF m 30 #[.val (.int p1), .val (.long q2), .second, .val (.long q3), .second, .val (.int p4), .val (.int (0 : Int32)), .unset, .unset, .unset, .unset, .unset] [(.long (q2 &&& (-4294967296 : Int64))), (.ref wF), (.ref b5), (.ref b5)])) _
    refine XS.lconst X6.here hx rfl (hb hby at_30) ?_
    show Steps p.tables e below (T6.setTop (mkF m 31 #[.val (.int p1), .val (.long q2), .second, .val (.long q3), .second, .val (.int p4), .val (.int (0 : Int32)), .unset, .unset, .unset, .unset, .unset] [(.long (0 : Int64)), (.long (q2 &&& (-4294967296 : Int64))), (.ref wF), (.ref b5), (.ref b5)])) _
    refine st7.trans ?_
    show Steps p.tables e below (T7.setTop (mkF m 34 #[.val (.int p1), .val (.long q2), .second, .val (.long q3), .second, .val (.int p4), .val (.int (0 : Int32)), .unset, .unset, .unset, .unset, .unset] [(.ref b5)])) _
    refine XS.astore X7.here hx rfl (hb hby at_34) rfl rfl (l' := #[.val (.int p1), .val (.long q2), .second, .val (.long q3), .second, .val (.int p4), .val (.int (0 : Int32)), .val (.ref b5), .unset, .unset, .unset, .unset]) rfl ?_
    show Steps p.tables e below (T7.setTop (mkF m 36 #[.val (.int p1), .val (.long q2), .second, .val (.long q3), .second, .val (.int p4), .val (.int (0 : Int32)), .val (.ref b5), .unset, .unset, .unset, .unset] [])) _
    refine XS.aload X7.here hx rfl (hb hby at_36) rfl rfl ?_
    show Steps p.tables e below (T7.setTop (mkF m 38 #[.val (.int p1), .val (.long q2), .second, .val (.long q3), .second, .val (.int p4), .val (.int (0 : Int32)), .val (.ref b5), .unset, .unset, .unset, .unset] [(.ref b5)])) _
    refine st8.trans ?_
    show Steps p.tables e below (T8.setTop (mkF m 41 #[.val (.int p1), .val (.long q2), .second, .val (.long q3), .second, .val (.int p4), .val (.int (0 : Int32)), .val (.ref b5), .unset, .unset, .unset, .unset] [(.int (0 : Int32))])) _
    refine XS.ifNo X8.here hx rfl (hb hby at_41) rfl ((if0 _ _).trans (teq (rfl : (0 : Int32) = (0 : Int32))).2) ?_
    show Steps p.tables e below (T8.setTop (mkF m 44 #[.val (.int p1), .val (.long q2), .second, .val (.long q3), .second, .val (.int p4), .val (.int (0 : Int32)), .val (.ref b5), .unset, .unset, .unset, .unset] [])) _
    refine XS.iconst X8.here hx rfl (hb hby at_44) ?_
    show Steps p.tables e below (T8.setTop (mkF m 45 #[.val (.int p1), .val (.long q2), .second, .val (.long q3), .second, .val (.int p4), .val (.int (0 : Int32)), .val (.ref b5), .unset, .unset, .unset, .unset] [(.int (1 : Int32))])) _
    refine XS.goto X8.here hx rfl (pc0 := 45) (pc' := 49) rfl (hb hby at_45) (by decide) (by decide) ?_
    show Steps p.tables e below (T8.setTop (mkF m 49 #[.val (.int p1), .val (.long q2), .second, .val (.long q3), .second, .val (.int p4), .val (.int (0 : Int32)), .val (.ref b5), .unset, .unset, .unset, .unset] [(.int (1 : Int32))])) _
    exact retN X8 hx (t := .boolean) Bd.returns (by simp) (hb hby at_49) hr
  · show Qlaw0 n0 _ T8.heap _
    rw [e8q]
    exact ⟨rfl, N8⟩
set_option maxRecDepth 65536 in
set_option maxHeartbeats 40000000 in
theorem rm0_v6a (l : Launch) (Z : State) (a0 : Array Value) (hw : ∀ d ∈ tables_1, d.before a0 Z = true) (ws : List Jvm.Cond) (p1 : Int32) (q2 : Int64) (q3 : Int64) (p4 : Int32) (wF : Addr) (wS : Addr) (hi0 lo0 lo1 hi1 : Int64) (h0 : Heap) (n0 : Nat) (Z0 : n0 ≤ h0.size) (S_IPV4 : Sta Z h0 "com/example/portcullis/portcullis/IpAddress$Version" "IPV4" "Lcom/example/portcullis/portcullis/IpAddress$Version;" (.ref wF)) (S_IPV6 : Sta Z h0 "com/example/portcullis/portcullis/IpAddress$Version" "IPV6" "Lcom/example/portcullis/portcullis/IpAddress$Version;" (.ref wS)) (hne : ¬ (wF = wS)) (hA : ((p1 &&& (2 : Int32)) = (0 : Int32) ∧ hi0 = q2) ∨ (¬ ((p1 &&& (2 : Int32)) = (0 : Int32)) ∧ hi0 = (0 : Int64))) (hB : ((p1 &&& (4 : Int32)) = (0 : Int32) ∧ lo0 = q3) ∨ (¬ ((p1 &&& (4 : Int32)) = (0 : Int32)) ∧ lo0 = ((281470681743360 : Int64) ||| ((p4.toInt64) &&& (4294967295 : Int64))))) (hC : ((p1 &&& (8 : Int32)) = (0 : Int32) ∧ lo1 = lo0) ∨ (¬ ((p1 &&& (8 : Int32)) = (0 : Int32)) ∧ lo1 = (lo0 ^^^ ((1 : Int64) <<< ((((p1.toUInt32 >>> ((4 : Int32) &&& 31).toUInt32).toInt32) &&& (63 : Int32)) &&& 0x3f).toInt64)))) (hD : ((p1 &&& (1024 : Int32)) = (0 : Int32) ∧ hi1 = hi0) ∨ (¬ ((p1 &&& (1024 : Int32)) = (0 : Int32)) ∧ hi1 = (hi0 ^^^ ((1 : Int64) <<< ((((p1.toUInt32 >>> ((11 : Int32) &&& 31).toUInt32).toInt32) &&& (63 : Int32)) &&& 0x3f).toInt64)))) (hc3 : ¬ ((p1 &&& (1 : Int32)) = (0 : Int32))) (hc132 : ¬ ((lcmpW hi1 (0 : Int64)) = (0 : Int32))) :
    MetFree l x (head1 (Jvm.Cond.code x code maxLocals ret :: ws) room_1) (fun a U => a = #[(.int p1), (.long q2), (.long q3), (.int p4)] ∧ Z.Warmed39 U.vm ∧ U.heap = h0) (fun _ _ _ _ _ => True) (fun _ U o U' => ∃ v L, o = .returned v ∧ Qlaw0 n0 v U'.heap L ∧ ReturnedEndW U o U' L room_1.cells room_1.slots) := by
  refine MetFree.of_bodySF (plainFor_of_name pn_0) hisR ?_
  intro p e s m args below meth c s₁ Bd hml0 hP hK
  obtain ⟨rfl, hZ, hh⟩ := hP
  have hx := Bd.exec
  have hby := Bd.bytes
  have hml : c.maxLocals = 12 := hml0
  have hown : s.vm.findClass "com/example/portcullis/portcullis/IpAddressIsIpv4MappedPinLaw" = some m.cls := findClass_of_methodNamed Bd.named
  have hnm := (name_of_methodNamed Bd.named Bd.method).1
  have X0 : Stand p l e room_1 s m #[(.int p1), (.long q2), (.long q3), (.int p4)] below meth c s₁ [] 0 0 := Stand.of_body Bd
  have e0 : s₁.heap = h0 := by rw [← hh, Bd.state]; rfl
  have N0 := Fr.nil n0
  have pre0 : ∀ t, Steps p.tables e below (s₁.setTop (mkF m 0 #[.val (.int p1), .val (.long q2), .second, .val (.long q3), .second, .val (.int p4), .unset, .unset, .unset, .unset, .unset, .unset] [])) t → Steps p.tables e below (s₁.setTop (entryFrame m #[(.int p1), (.long q2), (.long q3), (.int p4)] maxLocals)) t := fun t k => castTop (ef_0 m p1 q2 q3 p4) k
  obtain ⟨T5, X5, e5, st5⟩ := own_a hi0 p1 q2 q3 p4 (1 : Int32) X0 hx hZ hw hby hml hown e0 hA
  obtain ⟨T6, X6, e6, st6⟩ := own_b lo0 p1 q2 q3 p4 (1 : Int32) hi0 X5 hx hZ hw hby hml hown e5 hB
  obtain ⟨T7, X7, e7, st7⟩ := own_c lo1 p1 q2 q3 p4 (1 : Int32) hi0 lo0 X6 hx hZ hw hby hml hown e6 hC
  obtain ⟨T8, X8, e8, st8⟩ := own_d hi1 p1 q2 q3 p4 (1 : Int32) hi0 lo1 X7 hx hZ hw hby hml hown e7 hD
  obtain ⟨T9, h9, X9, e9, E9, A9, D9, -, st9⟩ := newO X8 hx hZ hown (hw _ (List.mem_of_getElem? (i := 0) rfl)) (hw _ (List.mem_of_getElem? (i := 1) rfl)) (hw _ (List.mem_of_getElem? (i := 2) rfl)) e8 (g := (mkF m 155 #[.val (.int p1), .val (.long q2), .second, .val (.long q3), .second, .val (.int p4), .val (.int (1 : Int32)), .val (.long hi1), .second, .val (.long lo1), .second, .val (.int (0 : Int32))] [])) rfl (hb hby at_155) (by decide) (by decide)
  obtain ⟨b9, g9⟩ : ∃ z, z = h0.size := ⟨_, rfl⟩
  rw [← g9] at A9 D9 st9
  have F_version_b9 : Fld Z h9 b9 "com/example/portcullis/portcullis/IpAddress" "version" "Lcom/example/portcullis/portcullis/IpAddress$Version;" .null := D9 (Or.inr (hw _ (List.mem_of_getElem? (i := 32) rfl))) (ty := (.object "com/example/portcullis/portcullis/IpAddress$Version")) (by decide)
  have F_high_b9 : Fld Z h9 b9 "com/example/portcullis/portcullis/IpAddress" "high" "J" (.long (0 : Int64)) := D9 (Or.inr (hw _ (List.mem_of_getElem? (i := 34) rfl))) (ty := .long) (by decide)
  have F_low_b9 : Fld Z h9 b9 "com/example/portcullis/portcullis/IpAddress" "low" "J" (.long (0 : Int64)) := D9 (Or.inr (hw _ (List.mem_of_getElem? (i := 36) rfl))) (ty := .long) (by decide)
  have E_b9 := A9
  have g_b9 : n0 ≤ b9 := Nat.le_trans Z0 (Nat.le_of_eq g9.symm)
  have sz_b9 : h0.size ≤ b9 := (Nat.le_trans (Keep.refl h0 []).1 (Nat.le_of_eq g9.symm))
  have K9 : Keep h0 h9 [] := (Keep.refl h0 []).ext E9
  obtain ⟨T10, X10, e10, st10⟩ := getS2 X9 hx hZ hown (host := "") (Or.inl (hw _ (List.mem_of_getElem? (i := 44) rfl))) Via.refl e9 (S_IPV6.ext E9) (g := (mkF m 159 #[.val (.int p1), .val (.long q2), .second, .val (.long q3), .second, .val (.int p4), .val (.int (1 : Int32)), .val (.long hi1), .second, .val (.long lo1), .second, .val (.int (0 : Int32))] [(.ref b9), (.ref b9)])) rfl (hb hby at_159)
  obtain ⟨_, _, ⟨T11, L11, k11, n11⟩, -, X11, hS11, hgr11, ⟨Lc11, hQ11, l11, y11, z11⟩, st11⟩ := X10.specialBackS hx (y := (⟨"com/example/portcullis/portcullis/IpAddress", "<init>", "(Lcom/example/portcullis/portcullis/IpAddress$Version;JJ)V"⟩ : MethodName)) rfl hown (mvT hZ (hw _ (List.mem_of_getElem? (i := 7) rfl))) (mvT hZ (hw _ (List.mem_of_getElem? (i := 8) rfl))) (mvT hZ (hw _ (List.mem_of_getElem? (i := 9) rfl))) (by decide) (backOfS (W := 1) (rm1_t l Z a0 hw [] b9 wS hi1 lo1 wF .null (.long (0 : Int64)) (.long (0 : Int64)) h9 n0 (Nat.le_trans Z0 E9.1) (S_IPV4.ext E9) E_b9 F_version_b9 g_b9 F_high_b9 F_low_b9 (fun z => hne z.symm)) hZ (hw _ (List.mem_of_getElem? (i := 9) rfl)) (hw _ (List.mem_of_getElem? (i := 2) rfl)) (by decide) (by decide)) (g := (mkF m 166 #[.val (.int p1), .val (.long q2), .second, .val (.long q3), .second, .val (.int p4), .val (.int (1 : Int32)), .val (.long hi1), .second, .val (.long lo1), .second, .val (.int (0 : Int32))] [(.long lo1), (.long hi1), (.ref wS), (.ref b9), (.ref b9)])) rfl (by rw [hml]; rfl) (Steps.refl _) (a := b9) (argsL := [(.ref wS), (.long hi1), (.long lo1)]) (rest := [(.ref b9)]) (lenOf pd_0_0 rfl) rfl (by show 2 * 0 + _ ≤ _; exact Nat.le_of_eq rfl) (hb hby at_166) (fun _ _ => ⟨rfl, e10, (by decide : 1 + 2 ≤ _), (by decide : 3 + 32 ≤ _)⟩)
  dsimp only [Pt.U, Pt.locs, Pt.cells, Pt.slots] at X11 l11 y11 z11 st11 hQ11 hS11 hgr11
  subst l11 y11 z11
  obtain ⟨rfl, N11q, K11q, E11q, Fv11q, Fh11q, Fl11q⟩ := hQ11
  have N11 := Fr.app N0 N11q
  have hZ2 : Z.Warmed39 (s.setVm T11.vm).vm := State.Warmed39.trans hZ hS11.1
  have hown2 : (s.setVm T11.vm).vm.findClass "com/example/portcullis/portcullis/IpAddressIsIpv4MappedPinLaw" = some m.cls := (hS11.1.alike.findClass _ _).trans hown
  have KK11 : Keep h0 T11.heap [] := K9.trans K11q (allS (Or.inr sz_b9) all0)
  obtain ⟨cq12, kq12, q12a, q12b, q12c⟩ := isOf hZ2 rfl E11q
  obtain ⟨_, _, ⟨T12, L12, k12, n12⟩, -, X12, ⟨Lc12, hQ12, l12, y12, z12⟩, st12⟩ := X11.virtualBack hx (y := (⟨"com/example/portcullis/portcullis/IpAddress", "isIpv4Mapped", "()Z"⟩ : MethodName)) (z := (⟨"com/example/portcullis/portcullis/IpAddress", "isIpv4Mapped", "()Z"⟩ : MethodName)) hown2 (mvT hZ2 (hw _ (List.mem_of_getElem? (i := 37) rfl))) (mvT hZ2 (hw _ (List.mem_of_getElem? (i := 38) rfl))) (notFace_of_selects (args := #[]) (mvT hZ2 (hw _ (List.mem_of_getElem? (i := 40) rfl)))) (mvT hZ2 (hw _ (List.mem_of_getElem? (i := 40) rfl))) (mvT hZ2 (hw _ (List.mem_of_getElem? (i := 39) rfl))) (by decide) (backOf (W := 0) (rm5_ft l Z a0 hw [] b9 wS wS hi1 T11.heap n0 (Nat.le_trans (Nat.le_trans Z0 E9.1) K11q.1) Fv11q (own_sta_keep (S_IPV6.ext E9) K11q (allS (own_ns E_b9) all0)) Fh11q rfl hc132) hZ2 (hw _ (List.mem_of_getElem? (i := 41) rfl)) (hw _ (List.mem_of_getElem? (i := 2) rfl)) (by decide) (by decide)) q12a q12c (g := (mkF m 169 #[.val (.int p1), .val (.long q2), .second, .val (.long q3), .second, .val (.int p4), .val (.int (1 : Int32)), .val (.long hi1), .second, .val (.long lo1), .second, .val (.int (0 : Int32))] [(.ref b9)])) rfl (by rw [hml]; rfl) (Steps.refl _) (argsL := []) (rest := []) (lenOf pd_0_3 rfl) rfl (by show 2 * 0 + _ ≤ _; exact Nat.le_of_eq rfl) (hb hby at_169) (fun _ _ => ⟨rfl, rfl, (by decide : 3 + 0 ≤ _), (by decide : 35 + 0 ≤ _)⟩)
  dsimp only [Pt.U, Pt.locs, Pt.cells, Pt.slots] at X12 l12 y12 z12 st12 hQ12
  subst l12 y12 z12
  obtain ⟨rfl, N12q, e12q⟩ := hQ12
  have N12 := Fr.app N11 N12q
  have hlk : meth.locks = false := BodyLoose.notSynchronized Bd
  have hsz : _ ≤ T12.heap.size := (show T11.heap.size ≤ T12.heap.size from Nat.le_of_eq (by rw [e12q]))
  obtain ⟨fs, hr, hrun, hended, hRW⟩ := Stand.leaveW (s := s) (vm₁ := T11.vm) X12 hS11 hsz (v := some (.int (1 : Int32))) (fun h => by rw [Bd.returns] at h; cases h) hlk
  refine ⟨_, _, pre0 _ ?_, hrun, hended, _, _, rfl, ?_, hRW.1, hRW.2.1, hRW.2.2.1, hRW.2.2.2.mono (by decide) (by decide)⟩
  · show Steps p.tables e below (s₁.setTop (mkF m 0 #[.val (.int p1), .val (.long q2), .second, .val (.long q3), .second, .val (.int p4), .unset, .unset, .unset, .unset, .unset, .unset] [])) _
    refine XS.iloadN X0.here hx rfl (hb hby at_0) rfl ?_
    show Steps p.tables e below (s₁.setTop (mkF m 1 #[.val (.int p1), .val (.long q2), .second, .val (.long q3), .second, .val (.int p4), .unset, .unset, .unset, .unset, .unset, .unset] [(.int p1)])) _
    refine XS.iconst X0.here hx rfl (hb hby at_1) ?_
    show Steps p.tables e below (s₁.setTop (mkF m 2 #[.val (.int p1), .val (.long q2), .second, .val (.long q3), .second, .val (.int p4), .unset, .unset, .unset, .unset, .unset, .unset] [(.int (1 : Int32)), (.int p1)])) _
    refine XS.iand X0.here hx rfl (hb hby at_2) rfl ?_
    show Steps p.tables e below (s₁.setTop (mkF m 3 #[.val (.int p1), .val (.long q2), .second, .val (.long q3), .second, .val (.int p4), .unset, .unset, .unset, .unset, .unset, .unset] [(.int (p1 &&& (1 : Int32)))])) _
    refine XS.ifNo X0.here hx rfl (hb hby at_3) rfl ((if0 _ _).trans (feq hc3).1) ?_
    show Steps p.tables e below (s₁.setTop (mkF m 6 #[.val (.int p1), .val (.long q2), .second, .val (.long q3), .second, .val (.int p4), .unset, .unset, .unset, .unset, .unset, .unset] [])) _
    refine XS.iconst X0.here hx rfl (hb hby at_6) ?_
    show Steps p.tables e below (s₁.setTop (mkF m 7 #[.val (.int p1), .val (.long q2), .second, .val (.long q3), .second, .val (.int p4), .unset, .unset, .unset, .unset, .unset, .unset] [(.int (1 : Int32))])) _
    refine XS.goto X0.here hx rfl (pc0 := 7) (pc' := 11) rfl (hb hby at_7) (by decide) (by decide) ?_
    show Steps p.tables e below (s₁.setTop (mkF m 11 #[.val (.int p1), .val (.long q2), .second, .val (.long q3), .second, .val (.int p4), .unset, .unset, .unset, .unset, .unset, .unset] [(.int (1 : Int32))])) _
    refine XS.istore X0.here hx rfl (hb hby at_11) rfl (l' := #[.val (.int p1), .val (.long q2), .second, .val (.long q3), .second, .val (.int p4), .val (.int (1 : Int32)), .unset, .unset, .unset, .unset, .unset]) rfl ?_
    show Steps p.tables e below (s₁.setTop (mkF m 13 #[.val (.int p1), .val (.long q2), .second, .val (.long q3), .second, .val (.int p4), .val (.int (1 : Int32)), .unset, .unset, .unset, .unset, .unset] [])) _
    refine XS.iload X0.here hx rfl (hb hby at_13) rfl ?_
    show Steps p.tables e below (s₁.setTop (mkF m 15 #[.val (.int p1), .val (.long q2), .second, .val (.long q3), .second, .val (.int p4), .val (.int (1 : Int32)), .unset, .unset, .unset, .unset, .unset] [(.int (1 : Int32))])) _
    refine XS.ifYes X0.here hx rfl (pc0 := 15) (pc' := 50) rfl (hb hby at_15) rfl ((if0 _ _).trans (feq (by decide : ¬ ((1 : Int32) = (0 : Int32)))).2) (by decide) (by decide) ?_
    show Steps p.tables e below (s₁.setTop (mkF m 50 #[.val (.int p1), .val (.long q2), .second, .val (.long q3), .second, .val (.int p4), .val (.int (1 : Int32)), .unset, .unset, .unset, .unset, .unset] [])) _
    refine st5 _ ?_
    show Steps p.tables e below (T5.setTop (mkF m 63 #[.val (.int p1), .val (.long q2), .second, .val (.long q3), .second, .val (.int p4), .val (.int (1 : Int32)), .val (.long hi0), .second, .unset, .unset, .unset] [])) _
    refine st6 _ ?_
    show Steps p.tables e below (T6.setTop (mkF m 86 #[.val (.int p1), .val (.long q2), .second, .val (.long q3), .second, .val (.int p4), .val (.int (1 : Int32)), .val (.long hi0), .second, .val (.long lo0), .second, .unset] [])) _
    refine st7 _ ?_
    show Steps p.tables e below (T7.setTop (mkF m 106 #[.val (.int p1), .val (.long q2), .second, .val (.long q3), .second, .val (.int p4), .val (.int (1 : Int32)), .val (.long hi0), .second, .val (.long lo1), .second, .unset] [])) _
    refine st8 _ ?_
    show Steps p.tables e below (T8.setTop (mkF m 128 #[.val (.int p1), .val (.long q2), .second, .val (.long q3), .second, .val (.int p4), .val (.int (1 : Int32)), .val (.long hi1), .second, .val (.long lo1), .second, .unset] [])) _
    refine XS.lload X8.here hx rfl (hb hby at_128) rfl ?_
    show Steps p.tables e below (T8.setTop (mkF m 130 #[.val (.int p1), .val (.long q2), .second, .val (.long q3), .second, .val (.int p4), .val (.int (1 : Int32)), .val (.long hi1), .second, .val (.long lo1), .second, .unset] [(.long hi1)])) _
    refine XS.lconst X8.here hx rfl (hb hby at_130) ?_
    show Steps p.tables e below (T8.setTop (mkF m 131 #[.val (.int p1), .val (.long q2), .second, .val (.long q3), .second, .val (.int p4), .val (.int (1 : Int32)), .val (.long hi1), .second, .val (.long lo1), .second, .unset] [(.long (0 : Int64)), (.long hi1)])) _
    refine XS.lcmp X8.here hx rfl (hb hby at_131) rfl ?_
    show Steps p.tables e below (T8.setTop (mkF m 132 #[.val (.int p1), .val (.long q2), .second, .val (.long q3), .second, .val (.int p4), .val (.int (1 : Int32)), .val (.long hi1), .second, .val (.long lo1), .second, .unset] [(.int (lcmpW hi1 (0 : Int64)))])) _
    refine XS.ifYes X8.here hx rfl (pc0 := 132) (pc' := 152) rfl (hb hby at_132) rfl ((if0 _ _).trans (feq hc132).2) (by decide) (by decide) ?_
    show Steps p.tables e below (T8.setTop (mkF m 152 #[.val (.int p1), .val (.long q2), .second, .val (.long q3), .second, .val (.int p4), .val (.int (1 : Int32)), .val (.long hi1), .second, .val (.long lo1), .second, .unset] [])) _
    refine XS.iconst X8.here hx rfl (hb hby at_152) ?_
    show Steps p.tables e below (T8.setTop (mkF m 153 #[.val (.int p1), .val (.long q2), .second, .val (.long q3), .second, .val (.int p4), .val (.int (1 : Int32)), .val (.long hi1), .second, .val (.long lo1), .second, .unset] [(.int (0 : Int32))])) _
    refine XS.istore X8.here hx rfl (hb hby at_153) rfl (l' := #[.val (.int p1), .val (.long q2), .second, .val (.long q3), .second, .val (.int p4), .val (.int (1 : Int32)), .val (.long hi1), .second, .val (.long lo1), .second, .val (.int (0 : Int32))]) rfl ?_
    show Steps p.tables e below (T8.setTop (mkF m 155 #[.val (.int p1), .val (.long q2), .second, .val (.long q3), .second, .val (.int p4), .val (.int (1 : Int32)), .val (.long hi1), .second, .val (.long lo1), .second, .val (.int (0 : Int32))] [])) _
    refine st9 _ ?_
    show Steps p.tables e below (T9.setTop (mkF m 158 #[.val (.int p1), .val (.long q2), .second, .val (.long q3), .second, .val (.int p4), .val (.int (1 : Int32)), .val (.long hi1), .second, .val (.long lo1), .second, .val (.int (0 : Int32))] [(.ref b9)])) _
    refine XS.dup X9.here hx rfl (hb hby at_158) rfl rfl ?_
    show Steps p.tables e below (T9.setTop (mkF m 159 #[.val (.int p1), .val (.long q2), .second, .val (.long q3), .second, .val (.int p4), .val (.int (1 : Int32)), .val (.long hi1), .second, .val (.long lo1), .second, .val (.int (0 : Int32))] [(.ref b9), (.ref b9)])) _
    refine st10 _ ?_
    show Steps p.tables e below (T10.setTop (mkF m 162 #[.val (.int p1), .val (.long q2), .second, .val (.long q3), .second, .val (.int p4), .val (.int (1 : Int32)), .val (.long hi1), .second, .val (.long lo1), .second, .val (.int (0 : Int32))] [(.ref wS), (.ref b9), (.ref b9)])) _
    refine XS.lload X10.here hx rfl (hb hby at_162) rfl ?_
    show Steps p.tables e below (T10.setTop (mkF m 164 #[.val (.int p1), .val (.long q2), .second, .val (.long q3), .second, .val (.int p4), .val (.int (1 : Int32)), .val (.long hi1), .second, .val (.long lo1), .second, .val (.int (0 : Int32))] [(.long hi1), (.ref wS), (.ref b9), (.ref b9)])) _
    refine XS.lload X10.here hx rfl (hb hby at_164) rfl ?_
    show Steps p.tables e below (T10.setTop (mkF m 166 #[.val (.int p1), .val (.long q2), .second, .val (.long q3), .second, .val (.int p4), .val (.int (1 : Int32)), .val (.long hi1), .second, .val (.long lo1), .second, .val (.int (0 : Int32))] [(.long lo1), (.long hi1), (.ref wS), (.ref b9), (.ref b9)])) _
    refine st11.trans ?_
    show Steps p.tables e below (T11.setTop (mkF m 169 #[.val (.int p1), .val (.long q2), .second, .val (.long q3), .second, .val (.int p4), .val (.int (1 : Int32)), .val (.long hi1), .second, .val (.long lo1), .second, .val (.int (0 : Int32))] [(.ref b9)])) _
    refine st12.trans ?_
    show Steps p.tables e below (T12.setTop (mkF m 172 #[.val (.int p1), .val (.long q2), .second, .val (.long q3), .second, .val (.int p4), .val (.int (1 : Int32)), .val (.long hi1), .second, .val (.long lo1), .second, .val (.int (0 : Int32))] [(.int (0 : Int32))])) _
    refine XS.iload X12.here hx rfl (hb hby at_172) rfl ?_
    show Steps p.tables e below (T12.setTop (mkF m 174 #[.val (.int p1), .val (.long q2), .second, .val (.long q3), .second, .val (.int p4), .val (.int (1 : Int32)), .val (.long hi1), .second, .val (.long lo1), .second, .val (.int (0 : Int32))] [(.int (0 : Int32)), (.int (0 : Int32))])) _
    refine XS.icmpNo X12.here hx rfl (hb hby at_174) rfl (teq (rfl : (0 : Int32) = (0 : Int32))).2 ?_
    show Steps p.tables e below (T12.setTop (mkF m 177 #[.val (.int p1), .val (.long q2), .second, .val (.long q3), .second, .val (.int p4), .val (.int (1 : Int32)), .val (.long hi1), .second, .val (.long lo1), .second, .val (.int (0 : Int32))] [])) _
    refine XS.iconst X12.here hx rfl (hb hby at_177) ?_
    show Steps p.tables e below (T12.setTop (mkF m 178 #[.val (.int p1), .val (.long q2), .second, .val (.long q3), .second, .val (.int p4), .val (.int (1 : Int32)), .val (.long hi1), .second, .val (.long lo1), .second, .val (.int (0 : Int32))] [(.int (1 : Int32))])) _
    refine XS.goto X12.here hx rfl (pc0 := 178) (pc' := 182) rfl (hb hby at_178) (by decide) (by decide) ?_
    show Steps p.tables e below (T12.setTop (mkF m 182 #[.val (.int p1), .val (.long q2), .second, .val (.long q3), .second, .val (.int p4), .val (.int (1 : Int32)), .val (.long hi1), .second, .val (.long lo1), .second, .val (.int (0 : Int32))] [(.int (1 : Int32))])) _
    exact retN X12 hx (t := .boolean) Bd.returns (by simp) (hb hby at_182) hr
  · show Qlaw0 n0 _ T12.heap _
    rw [e12q]
    exact ⟨rfl, N12⟩
set_option maxRecDepth 65536 in
set_option maxHeartbeats 40000000 in
theorem rm0_v6b (l : Launch) (Z : State) (a0 : Array Value) (hw : ∀ d ∈ tables_1, d.before a0 Z = true) (ws : List Jvm.Cond) (p1 : Int32) (q2 : Int64) (q3 : Int64) (p4 : Int32) (wF : Addr) (wS : Addr) (hi0 lo0 lo1 hi1 : Int64) (h0 : Heap) (n0 : Nat) (Z0 : n0 ≤ h0.size) (S_IPV4 : Sta Z h0 "com/example/portcullis/portcullis/IpAddress$Version" "IPV4" "Lcom/example/portcullis/portcullis/IpAddress$Version;" (.ref wF)) (S_IPV6 : Sta Z h0 "com/example/portcullis/portcullis/IpAddress$Version" "IPV6" "Lcom/example/portcullis/portcullis/IpAddress$Version;" (.ref wS)) (hne : ¬ (wF = wS)) (hA : ((p1 &&& (2 : Int32)) = (0 : Int32) ∧ hi0 = q2) ∨ (¬ ((p1 &&& (2 : Int32)) = (0 : Int32)) ∧ hi0 = (0 : Int64))) (hB : ((p1 &&& (4 : Int32)) = (0 : Int32) ∧ lo0 = q3) ∨ (¬ ((p1 &&& (4 : Int32)) = (0 : Int32)) ∧ lo0 = ((281470681743360 : Int64) ||| ((p4.toInt64) &&& (4294967295 : Int64))))) (hC : ((p1 &&& (8 : Int32)) = (0 : Int32) ∧ lo1 = lo0) ∨ (¬ ((p1 &&& (8 : Int32)) = (0 : Int32)) ∧ lo1 = (lo0 ^^^ ((1 : Int64) <<< ((((p1.toUInt32 >>> ((4 : Int32) &&& 31).toUInt32).toInt32) &&& (63 : Int32)) &&& 0x3f).toInt64)))) (hD : ((p1 &&& (1024 : Int32)) = (0 : Int32) ∧ hi1 = hi0) ∨ (¬ ((p1 &&& (1024 : Int32)) = (0 : Int32)) ∧ hi1 = (hi0 ^^^ ((1 : Int64) <<< ((((p1.toUInt32 >>> ((11 : Int32) &&& 31).toUInt32).toInt32) &&& (63 : Int32)) &&& 0x3f).toInt64)))) (hc3 : ¬ ((p1 &&& (1 : Int32)) = (0 : Int32))) (hc132 : (lcmpW hi1 (0 : Int64)) = (0 : Int32)) (hc145 : ¬ ((lcmpW (lo1 &&& (-4294967296 : Int64)) (281470681743360 : Int64)) = (0 : Int32))) :
    MetFree l x (head1 (Jvm.Cond.code x code maxLocals ret :: ws) room_1) (fun a U => a = #[(.int p1), (.long q2), (.long q3), (.int p4)] ∧ Z.Warmed39 U.vm ∧ U.heap = h0) (fun _ _ _ _ _ => True) (fun _ U o U' => ∃ v L, o = .returned v ∧ Qlaw0 n0 v U'.heap L ∧ ReturnedEndW U o U' L room_1.cells room_1.slots) := by
  refine MetFree.of_bodySF (plainFor_of_name pn_0) hisR ?_
  intro p e s m args below meth c s₁ Bd hml0 hP hK
  obtain ⟨rfl, hZ, hh⟩ := hP
  have hx := Bd.exec
  have hby := Bd.bytes
  have hml : c.maxLocals = 12 := hml0
  have hown : s.vm.findClass "com/example/portcullis/portcullis/IpAddressIsIpv4MappedPinLaw" = some m.cls := findClass_of_methodNamed Bd.named
  have hnm := (name_of_methodNamed Bd.named Bd.method).1
  have X0 : Stand p l e room_1 s m #[(.int p1), (.long q2), (.long q3), (.int p4)] below meth c s₁ [] 0 0 := Stand.of_body Bd
  have e0 : s₁.heap = h0 := by rw [← hh, Bd.state]; rfl
  have N0 := Fr.nil n0
  have pre0 : ∀ t, Steps p.tables e below (s₁.setTop (mkF m 0 #[.val (.int p1), .val (.long q2), .second, .val (.long q3), .second, .val (.int p4), .unset, .unset, .unset, .unset, .unset, .unset] [])) t → Steps p.tables e below (s₁.setTop (entryFrame m #[(.int p1), (.long q2), (.long q3), (.int p4)] maxLocals)) t := fun t k => castTop (ef_0 m p1 q2 q3 p4) k
  obtain ⟨T5, X5, e5, st5⟩ := own_a hi0 p1 q2 q3 p4 (1 : Int32) X0 hx hZ hw hby hml hown e0 hA
  obtain ⟨T6, X6, e6, st6⟩ := own_b lo0 p1 q2 q3 p4 (1 : Int32) hi0 X5 hx hZ hw hby hml hown e5 hB
  obtain ⟨T7, X7, e7, st7⟩ := own_c lo1 p1 q2 q3 p4 (1 : Int32) hi0 lo0 X6 hx hZ hw hby hml hown e6 hC
  obtain ⟨T8, X8, e8, st8⟩ := own_d hi1 p1 q2 q3 p4 (1 : Int32) hi0 lo1 X7 hx hZ hw hby hml hown e7 hD
  obtain ⟨T9, h9, X9, e9, E9, A9, D9, -, st9⟩ := newO X8 hx hZ hown (hw _ (List.mem_of_getElem? (i := 0) rfl)) (hw _ (List.mem_of_getElem? (i := 1) rfl)) (hw _ (List.mem_of_getElem? (i := 2) rfl)) e8 (g := (mkF m 155 #[.val (.int p1), .val (.long q2), .second, .val (.long q3), .second, .val (.int p4), .val (.int (1 : Int32)), .val (.long hi1), .second, .val (.long lo1), .second, .val (.int (0 : Int32))] [])) rfl (hb hby at_155) (by decide) (by decide)
  obtain ⟨b9, g9⟩ : ∃ z, z = h0.size := ⟨_, rfl⟩
  rw [← g9] at A9 D9 st9
  have F_version_b9 : Fld Z h9 b9 "com/example/portcullis/portcullis/IpAddress" "version" "Lcom/example/portcullis/portcullis/IpAddress$Version;" .null := D9 (Or.inr (hw _ (List.mem_of_getElem? (i := 32) rfl))) (ty := (.object "com/example/portcullis/portcullis/IpAddress$Version")) (by decide)
  have F_high_b9 : Fld Z h9 b9 "com/example/portcullis/portcullis/IpAddress" "high" "J" (.long (0 : Int64)) := D9 (Or.inr (hw _ (List.mem_of_getElem? (i := 34) rfl))) (ty := .long) (by decide)
  have F_low_b9 : Fld Z h9 b9 "com/example/portcullis/portcullis/IpAddress" "low" "J" (.long (0 : Int64)) := D9 (Or.inr (hw _ (List.mem_of_getElem? (i := 36) rfl))) (ty := .long) (by decide)
  have E_b9 := A9
  have g_b9 : n0 ≤ b9 := Nat.le_trans Z0 (Nat.le_of_eq g9.symm)
  have sz_b9 : h0.size ≤ b9 := (Nat.le_trans (Keep.refl h0 []).1 (Nat.le_of_eq g9.symm))
  have K9 : Keep h0 h9 [] := (Keep.refl h0 []).ext E9
  obtain ⟨T10, X10, e10, st10⟩ := getS2 X9 hx hZ hown (host := "") (Or.inl (hw _ (List.mem_of_getElem? (i := 44) rfl))) Via.refl e9 (S_IPV6.ext E9) (g := (mkF m 159 #[.val (.int p1), .val (.long q2), .second, .val (.long q3), .second, .val (.int p4), .val (.int (1 : Int32)), .val (.long hi1), .second, .val (.long lo1), .second, .val (.int (0 : Int32))] [(.ref b9), (.ref b9)])) rfl (hb hby at_159)
  obtain ⟨_, _, ⟨T11, L11, k11, n11⟩, -, X11, hS11, hgr11, ⟨Lc11, hQ11, l11, y11, z11⟩, st11⟩ := X10.specialBackS hx (y := (⟨"com/example/portcullis/portcullis/IpAddress", "<init>", "(Lcom/example/portcullis/portcullis/IpAddress$Version;JJ)V"⟩ : MethodName)) rfl hown (mvT hZ (hw _ (List.mem_of_getElem? (i := 7) rfl))) (mvT hZ (hw _ (List.mem_of_getElem? (i := 8) rfl))) (mvT hZ (hw _ (List.mem_of_getElem? (i := 9) rfl))) (by decide) (backOfS (W := 1) (rm1_t l Z a0 hw [] b9 wS hi1 lo1 wF .null (.long (0 : Int64)) (.long (0 : Int64)) h9 n0 (Nat.le_trans Z0 E9.1) (S_IPV4.ext E9) E_b9 F_version_b9 g_b9 F_high_b9 F_low_b9 (fun z => hne z.symm)) hZ (hw _ (List.mem_of_getElem? (i := 9) rfl)) (hw _ (List.mem_of_getElem? (i := 2) rfl)) (by decide) (by decide)) (g := (mkF m 166 #[.val (.int p1), .val (.long q2), .second, .val (.long q3), .second, .val (.int p4), .val (.int (1 : Int32)), .val (.long hi1), .second, .val (.long lo1), .second, .val (.int (0 : Int32))] [(.long lo1), (.long hi1), (.ref wS), (.ref b9), (.ref b9)])) rfl (by rw [hml]; rfl) (Steps.refl _) (a := b9) (argsL := [(.ref wS), (.long hi1), (.long lo1)]) (rest := [(.ref b9)]) (lenOf pd_0_0 rfl) rfl (by show 2 * 0 + _ ≤ _; exact Nat.le_of_eq rfl) (hb hby at_166) (fun _ _ => ⟨rfl, e10, (by decide : 1 + 2 ≤ _), (by decide : 3 + 32 ≤ _)⟩)
  dsimp only [Pt.U, Pt.locs, Pt.cells, Pt.slots] at X11 l11 y11 z11 st11 hQ11 hS11 hgr11
  subst l11 y11 z11
  obtain ⟨rfl, N11q, K11q, E11q, Fv11q, Fh11q, Fl11q⟩ := hQ11
  have N11 := Fr.app N0 N11q
  have hZ2 : Z.Warmed39 (s.setVm T11.vm).vm := State.Warmed39.trans hZ hS11.1
  have hown2 : (s.setVm T11.vm).vm.findClass "com/example/portcullis/portcullis/IpAddressIsIpv4MappedPinLaw" = some m.cls := (hS11.1.alike.findClass _ _).trans hown
  have KK11 : Keep h0 T11.heap [] := K9.trans K11q (allS (Or.inr sz_b9) all0)
  obtain ⟨cq12, kq12, q12a, q12b, q12c⟩ := isOf hZ2 rfl E11q
  obtain ⟨_, _, ⟨T12, L12, k12, n12⟩, -, X12, ⟨Lc12, hQ12, l12, y12, z12⟩, st12⟩ := X11.virtualBack hx (y := (⟨"com/example/portcullis/portcullis/IpAddress", "isIpv4Mapped", "()Z"⟩ : MethodName)) (z := (⟨"com/example/portcullis/portcullis/IpAddress", "isIpv4Mapped", "()Z"⟩ : MethodName)) hown2 (mvT hZ2 (hw _ (List.mem_of_getElem? (i := 37) rfl))) (mvT hZ2 (hw _ (List.mem_of_getElem? (i := 38) rfl))) (notFace_of_selects (args := #[]) (mvT hZ2 (hw _ (List.mem_of_getElem? (i := 40) rfl)))) (mvT hZ2 (hw _ (List.mem_of_getElem? (i := 40) rfl))) (mvT hZ2 (hw _ (List.mem_of_getElem? (i := 39) rfl))) (by decide) (backOf (W := 0) (rm5_fft l Z a0 hw [] b9 wS wS hi1 lo1 T11.heap n0 (Nat.le_trans (Nat.le_trans Z0 E9.1) K11q.1) Fv11q (own_sta_keep (S_IPV6.ext E9) K11q (allS (own_ns E_b9) all0)) Fh11q Fl11q rfl hc132 (fun z => hc145 ((lw_eq _ _).mpr ((own_iff lo1).mpr ((lw_eq _ _).mp z))))) hZ2 (hw _ (List.mem_of_getElem? (i := 41) rfl)) (hw _ (List.mem_of_getElem? (i := 2) rfl)) (by decide) (by decide)) q12a q12c (g := (mkF m 169 #[.val (.int p1), .val (.long q2), .second, .val (.long q3), .second, .val (.int p4), .val (.int (1 : Int32)), .val (.long hi1), .second, .val (.long lo1), .second, .val (.int (0 : Int32))] [(.ref b9)])) rfl (by rw [hml]; rfl) (Steps.refl _) (argsL := []) (rest := []) (lenOf pd_0_3 rfl) rfl (by show 2 * 0 + _ ≤ _; exact Nat.le_of_eq rfl) (hb hby at_169) (fun _ _ => ⟨rfl, rfl, (by decide : 3 + 0 ≤ _), (by decide : 35 + 0 ≤ _)⟩)
  dsimp only [Pt.U, Pt.locs, Pt.cells, Pt.slots] at X12 l12 y12 z12 st12 hQ12
  subst l12 y12 z12
  obtain ⟨rfl, N12q, e12q⟩ := hQ12
  have N12 := Fr.app N11 N12q
  have hlk : meth.locks = false := BodyLoose.notSynchronized Bd
  have hsz : _ ≤ T12.heap.size := (show T11.heap.size ≤ T12.heap.size from Nat.le_of_eq (by rw [e12q]))
  obtain ⟨fs, hr, hrun, hended, hRW⟩ := Stand.leaveW (s := s) (vm₁ := T11.vm) X12 hS11 hsz (v := some (.int (1 : Int32))) (fun h => by rw [Bd.returns] at h; cases h) hlk
  refine ⟨_, _, pre0 _ ?_, hrun, hended, _, _, rfl, ?_, hRW.1, hRW.2.1, hRW.2.2.1, hRW.2.2.2.mono (by decide) (by decide)⟩
  · show Steps p.tables e below (s₁.setTop (mkF m 0 #[.val (.int p1), .val (.long q2), .second, .val (.long q3), .second, .val (.int p4), .unset, .unset, .unset, .unset, .unset, .unset] [])) _
    refine XS.iloadN X0.here hx rfl (hb hby at_0) rfl ?_
    show Steps p.tables e below (s₁.setTop (mkF m 1 #[.val (.int p1), .val (.long q2), .second, .val (.long q3), .second, .val (.int p4), .unset, .unset, .unset, .unset, .unset, .unset] [(.int p1)])) _
    refine XS.iconst X0.here hx rfl (hb hby at_1) ?_
    show Steps p.tables e below (s₁.setTop (mkF m 2 #[.val (.int p1), .val (.long q2), .second, .val (.long q3), .second, .val (.int p4), .unset, .unset, .unset, .unset, .unset, .unset] [(.int (1 : Int32)), (.int p1)])) _
    refine XS.iand X0.here hx rfl (hb hby at_2) rfl ?_
    show Steps p.tables e below (s₁.setTop (mkF m 3 #[.val (.int p1), .val (.long q2), .second, .val (.long q3), .second, .val (.int p4), .unset, .unset, .unset, .unset, .unset, .unset] [(.int (p1 &&& (1 : Int32)))])) _
    refine XS.ifNo X0.here hx rfl (hb hby at_3) rfl ((if0 _ _).trans (feq hc3).1) ?_
    show Steps p.tables e below (s₁.setTop (mkF m 6 #[.val (.int p1), .val (.long q2), .second, .val (.long q3), .second, .val (.int p4), .unset, .unset, .unset, .unset, .unset, .unset] [])) _
    refine XS.iconst X0.here hx rfl (hb hby at_6) ?_
    show Steps p.tables e below (s₁.setTop (mkF m 7 #[.val (.int p1), .val (.long q2), .second, .val (.long q3), .second, .val (.int p4), .unset, .unset, .unset, .unset, .unset, .unset] [(.int (1 : Int32))])) _
    refine XS.goto X0.here hx rfl (pc0 := 7) (pc' := 11) rfl (hb hby at_7) (by decide) (by decide) ?_
    show Steps p.tables e below (s₁.setTop (mkF m 11 #[.val (.int p1), .val (.long q2), .second, .val (.long q3), .second, .val (.int p4), .unset, .unset, .unset, .unset, .unset, .unset] [(.int (1 : Int32))])) _
    refine XS.istore X0.here hx rfl (hb hby at_11) rfl (l' := #[.val (.int p1), .val (.long q2), .second, .val (.long q3), .second, .val (.int p4), .val (.int (1 : Int32)), .unset, .unset, .unset, .unset, .unset]) rfl ?_
    show Steps p.tables e below (s₁.setTop (mkF m 13 #[.val (.int p1), .val (.long q2), .second, .val (.long q3), .second, .val (.int p4), .val (.int (1 : Int32)), .unset, .unset, .unset, .unset, .unset] [])) _
    refine XS.iload X0.here hx rfl (hb hby at_13) rfl ?_
    show Steps p.tables e below (s₁.setTop (mkF m 15 #[.val (.int p1), .val (.long q2), .second, .val (.long q3), .second, .val (.int p4), .val (.int (1 : Int32)), .unset, .unset, .unset, .unset, .unset] [(.int (1 : Int32))])) _
    refine XS.ifYes X0.here hx rfl (pc0 := 15) (pc' := 50) rfl (hb hby at_15) rfl ((if0 _ _).trans (feq (by decide : ¬ ((1 : Int32) = (0 : Int32)))).2) (by decide) (by decide) ?_
    show Steps p.tables e below (s₁.setTop (mkF m 50 #[.val (.int p1), .val (.long q2), .second, .val (.long q3), .second, .val (.int p4), .val (.int (1 : Int32)), .unset, .unset, .unset, .unset, .unset] [])) _
    refine st5 _ ?_
    show Steps p.tables e below (T5.setTop (mkF m 63 #[.val (.int p1), .val (.long q2), .second, .val (.long q3), .second, .val (.int p4), .val (.int (1 : Int32)), .val (.long hi0), .second, .unset, .unset, .unset] [])) _
    refine st6 _ ?_
    show Steps p.tables e below (T6.setTop (mkF m 86 #[.val (.int p1), .val (.long q2), .second, .val (.long q3), .second, .val (.int p4), .val (.int (1 : Int32)), .val (.long hi0), .second, .val (.long lo0), .second, .unset] [])) _
    refine st7 _ ?_
    show Steps p.tables e below (T7.setTop (mkF m 106 #[.val (.int p1), .val (.long q2), .second, .val (.long q3), .second, .val (.int p4), .val (.int (1 : Int32)), .val (.long hi0), .second, .val (.long lo1), .second, .unset] [])) _
    refine st8 _ ?_
    show Steps p.tables e below (T8.setTop (mkF m 128 #[.val (.int p1), .val (.long q2), .second, .val (.long q3), .second, .val (.int p4), .val (.int (1 : Int32)), .val (.long hi1), .second, .val (.long lo1), .second, .unset] [])) _
    refine XS.lload X8.here hx rfl (hb hby at_128) rfl ?_
    show Steps p.tables e below (T8.setTop (mkF m 130 #[.val (.int p1), .val (.long q2), .second, .val (.long q3), .second, .val (.int p4), .val (.int (1 : Int32)), .val (.long hi1), .second, .val (.long lo1), .second, .unset] [(.long hi1)])) _
    refine XS.lconst X8.here hx rfl (hb hby at_130) ?_
    show Steps p.tables e below (T8.setTop (mkF m 131 #[.val (.int p1), .val (.long q2), .second, .val (.long q3), .second, .val (.int p4), .val (.int (1 : Int32)), .val (.long hi1), .second, .val (.long lo1), .second, .unset] [(.long (0 : Int64)), (.long hi1)])) _
    refine XS.lcmp X8.here hx rfl (hb hby at_131) rfl ?_
    show Steps p.tables e below (T8.setTop (mkF m 132 #[.val (.int p1), .val (.long q2), .second, .val (.long q3), .second, .val (.int p4), .val (.int (1 : Int32)), .val (.long hi1), .second, .val (.long lo1), .second, .unset] [(.int (lcmpW hi1 (0 : Int64)))])) _
    refine XS.ifNo X8.here hx rfl (hb hby at_132) rfl ((if0 _ _).trans (teq hc132).2) ?_
    show Steps p.tables e below (T8.setTop (mkF m 135 #[.val (.int p1), .val (.long q2), .second, .val (.long q3), .second, .val (.int p4), .val (.int (1 : Int32)), .val (.long hi1), .second, .val (.long lo1), .second, .unset] [])) _
    refine XS.lload X8.here hx rfl (hb hby at_135) rfl ?_
    show Steps p.tables e below (T8.setTop (mkF m 137 #[.val (.int p1), .val (.long q2), .second, .val (.long q3), .second, .val (.int p4), .val (.int (1 : Int32)), .val (.long hi1), .second, .val (.long lo1), .second, .unset] [(.long lo1)])) _
    refine X8.ldc2Long hx hown (mvT hZ (hw _ (List.mem_of_getElem? (i := 6) rfl))) (g := (mkF m 137 #[.val (.int p1), .val (.long q2), .second, .val (.long q3), .second, .val (.int p4), .val (.int (1 : Int32)), .val (.long hi1), .second, .val (.long lo1), .second, .unset] [(.long lo1)])) rfl (hb hby at_137) _ ?_
    show Steps p.tables e below (T8.setTop (mkF m 140 #[.val (.int p1), .val (.long q2), .second, .val (.long q3), .second, .val (.int p4), .val (.int (1 : Int32)), .val (.long hi1), .second, .val (.long lo1), .second, .unset] [(.long (-4294967296 : Int64)), (.long lo1)])) _
    refine XS.land X8.here hx rfl (hb hby at_140) rfl ?_
    show Steps p.tables e below (T8.setTop (mkF m 141 #[.val (.int p1), .val (.long q2), .second, .val (.long q3), .second, .val (.int p4), .val (.int (1 : Int32)), .val (.long hi1), .second, .val (.long lo1), .second, .unset] [(.long (lo1 &&& (-4294967296 : Int64)))])) _
    refine X8.ldc2Long hx hown (mvT hZ (hw _ (List.mem_of_getElem? (i := 45) rfl))) (g := (mkF m 141 #[.val (.int p1), .val (.long q2), .second, .val (.long q3), .second, .val (.int p4), .val (.int (1 : Int32)), .val (.long hi1), .second, .val (.long lo1), .second, .unset] [(.long (lo1 &&& (-4294967296 : Int64)))])) rfl (hb hby at_141) _ ?_
    show Steps p.tables e below (T8.setTop (mkF m 144 #[.val (.int p1), .val (.long q2), .second, .val (.long q3), .second, .val (.int p4), .val (.int (1 : Int32)), .val (.long hi1), .second, .val (.long lo1), .second, .unset] [(.long (281470681743360 : Int64)), (.long (lo1 &&& (-4294967296 : Int64)))])) _
    refine XS.lcmp X8.here hx rfl (hb hby at_144) rfl ?_
    show Steps p.tables e below (T8.setTop (mkF m 145 #[.val (.int p1), .val (.long q2), .second, .val (.long q3), .second, .val (.int p4), .val (.int (1 : Int32)), .val (.long hi1), .second, .val (.long lo1), .second, .unset] [(.int (lcmpW (lo1 &&& (-4294967296 : Int64)) (281470681743360 : Int64)))])) _
    refine XS.ifYes X8.here hx rfl (pc0 := 145) (pc' := 152) rfl (hb hby at_145) rfl ((if0 _ _).trans (feq hc145).2) (by decide) (by decide) ?_
    show Steps p.tables e below (T8.setTop (mkF m 152 #[.val (.int p1), .val (.long q2), .second, .val (.long q3), .second, .val (.int p4), .val (.int (1 : Int32)), .val (.long hi1), .second, .val (.long lo1), .second, .unset] [])) _
    refine XS.iconst X8.here hx rfl (hb hby at_152) ?_
    show Steps p.tables e below (T8.setTop (mkF m 153 #[.val (.int p1), .val (.long q2), .second, .val (.long q3), .second, .val (.int p4), .val (.int (1 : Int32)), .val (.long hi1), .second, .val (.long lo1), .second, .unset] [(.int (0 : Int32))])) _
    refine XS.istore X8.here hx rfl (hb hby at_153) rfl (l' := #[.val (.int p1), .val (.long q2), .second, .val (.long q3), .second, .val (.int p4), .val (.int (1 : Int32)), .val (.long hi1), .second, .val (.long lo1), .second, .val (.int (0 : Int32))]) rfl ?_
    show Steps p.tables e below (T8.setTop (mkF m 155 #[.val (.int p1), .val (.long q2), .second, .val (.long q3), .second, .val (.int p4), .val (.int (1 : Int32)), .val (.long hi1), .second, .val (.long lo1), .second, .val (.int (0 : Int32))] [])) _
    refine st9 _ ?_
    show Steps p.tables e below (T9.setTop (mkF m 158 #[.val (.int p1), .val (.long q2), .second, .val (.long q3), .second, .val (.int p4), .val (.int (1 : Int32)), .val (.long hi1), .second, .val (.long lo1), .second, .val (.int (0 : Int32))] [(.ref b9)])) _
    refine XS.dup X9.here hx rfl (hb hby at_158) rfl rfl ?_
    show Steps p.tables e below (T9.setTop (mkF m 159 #[.val (.int p1), .val (.long q2), .second, .val (.long q3), .second, .val (.int p4), .val (.int (1 : Int32)), .val (.long hi1), .second, .val (.long lo1), .second, .val (.int (0 : Int32))] [(.ref b9), (.ref b9)])) _
    refine st10 _ ?_
    show Steps p.tables e below (T10.setTop (mkF m 162 #[.val (.int p1), .val (.long q2), .second, .val (.long q3), .second, .val (.int p4), .val (.int (1 : Int32)), .val (.long hi1), .second, .val (.long lo1), .second, .val (.int (0 : Int32))] [(.ref wS), (.ref b9), (.ref b9)])) _
    refine XS.lload X10.here hx rfl (hb hby at_162) rfl ?_
    show Steps p.tables e below (T10.setTop (mkF m 164 #[.val (.int p1), .val (.long q2), .second, .val (.long q3), .second, .val (.int p4), .val (.int (1 : Int32)), .val (.long hi1), .second, .val (.long lo1), .second, .val (.int (0 : Int32))] [(.long hi1), (.ref wS), (.ref b9), (.ref b9)])) _
    refine XS.lload X10.here hx rfl (hb hby at_164) rfl ?_
    show Steps p.tables e below (T10.setTop (mkF m 166 #[.val (.int p1), .val (.long q2), .second, .val (.long q3), .second, .val (.int p4), .val (.int (1 : Int32)), .val (.long hi1), .second, .val (.long lo1), .second, .val (.int (0 : Int32))] [(.long lo1), (.long hi1), (.ref wS), (.ref b9), (.ref b9)])) _
    refine st11.trans ?_
    show Steps p.tables e below (T11.setTop (mkF m 169 #[.val (.int p1), .val (.long q2), .second, .val (.long q3), .second, .val (.int p4), .val (.int (1 : Int32)), .val (.long hi1), .second, .val (.long lo1), .second, .val (.int (0 : Int32))] [(.ref b9)])) _
    refine st12.trans ?_
    show Steps p.tables e below (T12.setTop (mkF m 172 #[.val (.int p1), .val (.long q2), .second, .val (.long q3), .second, .val (.int p4), .val (.int (1 : Int32)), .val (.long hi1), .second, .val (.long lo1), .second, .val (.int (0 : Int32))] [(.int (0 : Int32))])) _
    refine XS.iload X12.here hx rfl (hb hby at_172) rfl ?_
    show Steps p.tables e below (T12.setTop (mkF m 174 #[.val (.int p1), .val (.long q2), .second, .val (.long q3), .second, .val (.int p4), .val (.int (1 : Int32)), .val (.long hi1), .second, .val (.long lo1), .second, .val (.int (0 : Int32))] [(.int (0 : Int32)), (.int (0 : Int32))])) _
    refine XS.icmpNo X12.here hx rfl (hb hby at_174) rfl (teq (rfl : (0 : Int32) = (0 : Int32))).2 ?_
    show Steps p.tables e below (T12.setTop (mkF m 177 #[.val (.int p1), .val (.long q2), .second, .val (.long q3), .second, .val (.int p4), .val (.int (1 : Int32)), .val (.long hi1), .second, .val (.long lo1), .second, .val (.int (0 : Int32))] [])) _
    refine XS.iconst X12.here hx rfl (hb hby at_177) ?_
    show Steps p.tables e below (T12.setTop (mkF m 178 #[.val (.int p1), .val (.long q2), .second, .val (.long q3), .second, .val (.int p4), .val (.int (1 : Int32)), .val (.long hi1), .second, .val (.long lo1), .second, .val (.int (0 : Int32))] [(.int (1 : Int32))])) _
    refine XS.goto X12.here hx rfl (pc0 := 178) (pc' := 182) rfl (hb hby at_178) (by decide) (by decide) ?_
    show Steps p.tables e below (T12.setTop (mkF m 182 #[.val (.int p1), .val (.long q2), .second, .val (.long q3), .second, .val (.int p4), .val (.int (1 : Int32)), .val (.long hi1), .second, .val (.long lo1), .second, .val (.int (0 : Int32))] [(.int (1 : Int32))])) _
    exact retN X12 hx (t := .boolean) Bd.returns (by simp) (hb hby at_182) hr
  · show Qlaw0 n0 _ T12.heap _
    rw [e12q]
    exact ⟨rfl, N12⟩
set_option maxRecDepth 65536 in
set_option maxHeartbeats 40000000 in
theorem rm0_v6c (l : Launch) (Z : State) (a0 : Array Value) (hw : ∀ d ∈ tables_1, d.before a0 Z = true) (ws : List Jvm.Cond) (p1 : Int32) (q2 : Int64) (q3 : Int64) (p4 : Int32) (wF : Addr) (wS : Addr) (hi0 lo0 lo1 hi1 : Int64) (h0 : Heap) (n0 : Nat) (Z0 : n0 ≤ h0.size) (S_IPV4 : Sta Z h0 "com/example/portcullis/portcullis/IpAddress$Version" "IPV4" "Lcom/example/portcullis/portcullis/IpAddress$Version;" (.ref wF)) (S_IPV6 : Sta Z h0 "com/example/portcullis/portcullis/IpAddress$Version" "IPV6" "Lcom/example/portcullis/portcullis/IpAddress$Version;" (.ref wS)) (hne : ¬ (wF = wS)) (hA : ((p1 &&& (2 : Int32)) = (0 : Int32) ∧ hi0 = q2) ∨ (¬ ((p1 &&& (2 : Int32)) = (0 : Int32)) ∧ hi0 = (0 : Int64))) (hB : ((p1 &&& (4 : Int32)) = (0 : Int32) ∧ lo0 = q3) ∨ (¬ ((p1 &&& (4 : Int32)) = (0 : Int32)) ∧ lo0 = ((281470681743360 : Int64) ||| ((p4.toInt64) &&& (4294967295 : Int64))))) (hC : ((p1 &&& (8 : Int32)) = (0 : Int32) ∧ lo1 = lo0) ∨ (¬ ((p1 &&& (8 : Int32)) = (0 : Int32)) ∧ lo1 = (lo0 ^^^ ((1 : Int64) <<< ((((p1.toUInt32 >>> ((4 : Int32) &&& 31).toUInt32).toInt32) &&& (63 : Int32)) &&& 0x3f).toInt64)))) (hD : ((p1 &&& (1024 : Int32)) = (0 : Int32) ∧ hi1 = hi0) ∨ (¬ ((p1 &&& (1024 : Int32)) = (0 : Int32)) ∧ hi1 = (hi0 ^^^ ((1 : Int64) <<< ((((p1.toUInt32 >>> ((11 : Int32) &&& 31).toUInt32).toInt32) &&& (63 : Int32)) &&& 0x3f).toInt64)))) (hc3 : ¬ ((p1 &&& (1 : Int32)) = (0 : Int32))) (hc132 : (lcmpW hi1 (0 : Int64)) = (0 : Int32)) (hc145 : (lcmpW (lo1 &&& (-4294967296 : Int64)) (281470681743360 : Int64)) = (0 : Int32)) :
    MetFree l x (head1 (Jvm.Cond.code x code maxLocals ret :: ws) room_1) (fun a U => a = #[(.int p1), (.long q2), (.long q3), (.int p4)] ∧ Z.Warmed39 U.vm ∧ U.heap = h0) (fun _ _ _ _ _ => True) (fun _ U o U' => ∃ v L, o = .returned v ∧ Qlaw0 n0 v U'.heap L ∧ ReturnedEndW U o U' L room_1.cells room_1.slots) := by
  refine MetFree.of_bodySF (plainFor_of_name pn_0) hisR ?_
  intro p e s m args below meth c s₁ Bd hml0 hP hK
  obtain ⟨rfl, hZ, hh⟩ := hP
  have hx := Bd.exec
  have hby := Bd.bytes
  have hml : c.maxLocals = 12 := hml0
  have hown : s.vm.findClass "com/example/portcullis/portcullis/IpAddressIsIpv4MappedPinLaw" = some m.cls := findClass_of_methodNamed Bd.named
  have hnm := (name_of_methodNamed Bd.named Bd.method).1
  have X0 : Stand p l e room_1 s m #[(.int p1), (.long q2), (.long q3), (.int p4)] below meth c s₁ [] 0 0 := Stand.of_body Bd
  have e0 : s₁.heap = h0 := by rw [← hh, Bd.state]; rfl
  have N0 := Fr.nil n0
  have pre0 : ∀ t, Steps p.tables e below (s₁.setTop (mkF m 0 #[.val (.int p1), .val (.long q2), .second, .val (.long q3), .second, .val (.int p4), .unset, .unset, .unset, .unset, .unset, .unset] [])) t → Steps p.tables e below (s₁.setTop (entryFrame m #[(.int p1), (.long q2), (.long q3), (.int p4)] maxLocals)) t := fun t k => castTop (ef_0 m p1 q2 q3 p4) k
  obtain ⟨T5, X5, e5, st5⟩ := own_a hi0 p1 q2 q3 p4 (1 : Int32) X0 hx hZ hw hby hml hown e0 hA
  obtain ⟨T6, X6, e6, st6⟩ := own_b lo0 p1 q2 q3 p4 (1 : Int32) hi0 X5 hx hZ hw hby hml hown e5 hB
  obtain ⟨T7, X7, e7, st7⟩ := own_c lo1 p1 q2 q3 p4 (1 : Int32) hi0 lo0 X6 hx hZ hw hby hml hown e6 hC
  obtain ⟨T8, X8, e8, st8⟩ := own_d hi1 p1 q2 q3 p4 (1 : Int32) hi0 lo1 X7 hx hZ hw hby hml hown e7 hD
  obtain ⟨T9, h9, X9, e9, E9, A9, D9, -, st9⟩ := newO X8 hx hZ hown (hw _ (List.mem_of_getElem? (i := 0) rfl)) (hw _ (List.mem_of_getElem? (i := 1) rfl)) (hw _ (List.mem_of_getElem? (i := 2) rfl)) e8 (g := (mkF m 155 #[.val (.int p1), .val (.long q2), .second, .val (.long q3), .second, .val (.int p4), .val (.int (1 : Int32)), .val (.long hi1), .second, .val (.long lo1), .second, .val (.int (1 : Int32))] [])) rfl (hb hby at_155) (by decide) (by decide)
  obtain ⟨b9, g9⟩ : ∃ z, z = h0.size := ⟨_, rfl⟩
  rw [← g9] at A9 D9 st9
  have F_version_b9 : Fld Z h9 b9 "com/example/portcullis/portcullis/IpAddress" "version" "Lcom/example/portcullis/portcullis/IpAddress$Version;" .null := D9 (Or.inr (hw _ (List.mem_of_getElem? (i := 32) rfl))) (ty := (.object "com/example/portcullis/portcullis/IpAddress$Version")) (by decide)
  have F_high_b9 : Fld Z h9 b9 "com/example/portcullis/portcullis/IpAddress" "high" "J" (.long (0 : Int64)) := D9 (Or.inr (hw _ (List.mem_of_getElem? (i := 34) rfl))) (ty := .long) (by decide)
  have F_low_b9 : Fld Z h9 b9 "com/example/portcullis/portcullis/IpAddress" "low" "J" (.long (0 : Int64)) := D9 (Or.inr (hw _ (List.mem_of_getElem? (i := 36) rfl))) (ty := .long) (by decide)
  have E_b9 := A9
  have g_b9 : n0 ≤ b9 := Nat.le_trans Z0 (Nat.le_of_eq g9.symm)
  have sz_b9 : h0.size ≤ b9 := (Nat.le_trans (Keep.refl h0 []).1 (Nat.le_of_eq g9.symm))
  have K9 : Keep h0 h9 [] := (Keep.refl h0 []).ext E9
  obtain ⟨T10, X10, e10, st10⟩ := getS2 X9 hx hZ hown (host := "") (Or.inl (hw _ (List.mem_of_getElem? (i := 44) rfl))) Via.refl e9 (S_IPV6.ext E9) (g := (mkF m 159 #[.val (.int p1), .val (.long q2), .second, .val (.long q3), .second, .val (.int p4), .val (.int (1 : Int32)), .val (.long hi1), .second, .val (.long lo1), .second, .val (.int (1 : Int32))] [(.ref b9), (.ref b9)])) rfl (hb hby at_159)
  obtain ⟨_, _, ⟨T11, L11, k11, n11⟩, -, X11, hS11, hgr11, ⟨Lc11, hQ11, l11, y11, z11⟩, st11⟩ := X10.specialBackS hx (y := (⟨"com/example/portcullis/portcullis/IpAddress", "<init>", "(Lcom/example/portcullis/portcullis/IpAddress$Version;JJ)V"⟩ : MethodName)) rfl hown (mvT hZ (hw _ (List.mem_of_getElem? (i := 7) rfl))) (mvT hZ (hw _ (List.mem_of_getElem? (i := 8) rfl))) (mvT hZ (hw _ (List.mem_of_getElem? (i := 9) rfl))) (by decide) (backOfS (W := 1) (rm1_t l Z a0 hw [] b9 wS hi1 lo1 wF .null (.long (0 : Int64)) (.long (0 : Int64)) h9 n0 (Nat.le_trans Z0 E9.1) (S_IPV4.ext E9) E_b9 F_version_b9 g_b9 F_high_b9 F_low_b9 (fun z => hne z.symm)) hZ (hw _ (List.mem_of_getElem? (i := 9) rfl)) (hw _ (List.mem_of_getElem? (i := 2) rfl)) (by decide) (by decide)) (g := (mkF m 166 #[.val (.int p1), .val (.long q2), .second, .val (.long q3), .second, .val (.int p4), .val (.int (1 : Int32)), .val (.long hi1), .second, .val (.long lo1), .second, .val (.int (1 : Int32))] [(.long lo1), (.long hi1), (.ref wS), (.ref b9), (.ref b9)])) rfl (by rw [hml]; rfl) (Steps.refl _) (a := b9) (argsL := [(.ref wS), (.long hi1), (.long lo1)]) (rest := [(.ref b9)]) (lenOf pd_0_0 rfl) rfl (by show 2 * 0 + _ ≤ _; exact Nat.le_of_eq rfl) (hb hby at_166) (fun _ _ => ⟨rfl, e10, (by decide : 1 + 2 ≤ _), (by decide : 3 + 32 ≤ _)⟩)
  dsimp only [Pt.U, Pt.locs, Pt.cells, Pt.slots] at X11 l11 y11 z11 st11 hQ11 hS11 hgr11
  subst l11 y11 z11
  obtain ⟨rfl, N11q, K11q, E11q, Fv11q, Fh11q, Fl11q⟩ := hQ11
  have N11 := Fr.app N0 N11q
  have hZ2 : Z.Warmed39 (s.setVm T11.vm).vm := State.Warmed39.trans hZ hS11.1
  have hown2 : (s.setVm T11.vm).vm.findClass "com/example/portcullis/portcullis/IpAddressIsIpv4MappedPinLaw" = some m.cls := (hS11.1.alike.findClass _ _).trans hown
  have KK11 : Keep h0 T11.heap [] := K9.trans K11q (allS (Or.inr sz_b9) all0)
  obtain ⟨cq12, kq12, q12a, q12b, q12c⟩ := isOf hZ2 rfl E11q
  obtain ⟨_, _, ⟨T12, L12, k12, n12⟩, -, X12, ⟨Lc12, hQ12, l12, y12, z12⟩, st12⟩ := X11.virtualBack hx (y := (⟨"com/example/portcullis/portcullis/IpAddress", "isIpv4Mapped", "()Z"⟩ : MethodName)) (z := (⟨"com/example/portcullis/portcullis/IpAddress", "isIpv4Mapped", "()Z"⟩ : MethodName)) hown2 (mvT hZ2 (hw _ (List.mem_of_getElem? (i := 37) rfl))) (mvT hZ2 (hw _ (List.mem_of_getElem? (i := 38) rfl))) (notFace_of_selects (args := #[]) (mvT hZ2 (hw _ (List.mem_of_getElem? (i := 40) rfl)))) (mvT hZ2 (hw _ (List.mem_of_getElem? (i := 40) rfl))) (mvT hZ2 (hw _ (List.mem_of_getElem? (i := 39) rfl))) (by decide) (backOf (W := 0) (rm5_fff l Z a0 hw [] b9 wS wS hi1 lo1 T11.heap n0 (Nat.le_trans (Nat.le_trans Z0 E9.1) K11q.1) Fv11q (own_sta_keep (S_IPV6.ext E9) K11q (allS (own_ns E_b9) all0)) Fh11q Fl11q rfl hc132 ((lw_eq _ _).mpr ((own_iff lo1).mp ((lw_eq _ _).mp hc145)))) hZ2 (hw _ (List.mem_of_getElem? (i := 41) rfl)) (hw _ (List.mem_of_getElem? (i := 2) rfl)) (by decide) (by decide)) q12a q12c (g := (mkF m 169 #[.val (.int p1), .val (.long q2), .second, .val (.long q3), .second, .val (.int p4), .val (.int (1 : Int32)), .val (.long hi1), .second, .val (.long lo1), .second, .val (.int (1 : Int32))] [(.ref b9)])) rfl (by rw [hml]; rfl) (Steps.refl _) (argsL := []) (rest := []) (lenOf pd_0_3 rfl) rfl (by show 2 * 0 + _ ≤ _; exact Nat.le_of_eq rfl) (hb hby at_169) (fun _ _ => ⟨rfl, rfl, (by decide : 3 + 0 ≤ _), (by decide : 35 + 0 ≤ _)⟩)
  dsimp only [Pt.U, Pt.locs, Pt.cells, Pt.slots] at X12 l12 y12 z12 st12 hQ12
  subst l12 y12 z12
  obtain ⟨rfl, N12q, e12q⟩ := hQ12
  have N12 := Fr.app N11 N12q
  have hlk : meth.locks = false := BodyLoose.notSynchronized Bd
  have hsz : _ ≤ T12.heap.size := (show T11.heap.size ≤ T12.heap.size from Nat.le_of_eq (by rw [e12q]))
  obtain ⟨fs, hr, hrun, hended, hRW⟩ := Stand.leaveW (s := s) (vm₁ := T11.vm) X12 hS11 hsz (v := some (.int (1 : Int32))) (fun h => by rw [Bd.returns] at h; cases h) hlk
  refine ⟨_, _, pre0 _ ?_, hrun, hended, _, _, rfl, ?_, hRW.1, hRW.2.1, hRW.2.2.1, hRW.2.2.2.mono (by decide) (by decide)⟩
  · show Steps p.tables e below (s₁.setTop (mkF m 0 #[.val (.int p1), .val (.long q2), .second, .val (.long q3), .second, .val (.int p4), .unset, .unset, .unset, .unset, .unset, .unset] [])) _
    refine XS.iloadN X0.here hx rfl (hb hby at_0) rfl ?_
    show Steps p.tables e below (s₁.setTop (mkF m 1 #[.val (.int p1), .val (.long q2), .second, .val (.long q3), .second, .val (.int p4), .unset, .unset, .unset, .unset, .unset, .unset] [(.int p1)])) _
    refine XS.iconst X0.here hx rfl (hb hby at_1) ?_
    show Steps p.tables e below (s₁.setTop (mkF m 2 #[.val (.int p1), .val (.long q2), .second, .val (.long q3), .second, .val (.int p4), .unset, .unset, .unset, .unset, .unset, .unset] [(.int (1 : Int32)), (.int p1)])) _
    refine XS.iand X0.here hx rfl (hb hby at_2) rfl ?_
    show Steps p.tables e below (s₁.setTop (mkF m 3 #[.val (.int p1), .val (.long q2), .second, .val (.long q3), .second, .val (.int p4), .unset, .unset, .unset, .unset, .unset, .unset] [(.int (p1 &&& (1 : Int32)))])) _
    refine XS.ifNo X0.here hx rfl (hb hby at_3) rfl ((if0 _ _).trans (feq hc3).1) ?_
    show Steps p.tables e below (s₁.setTop (mkF m 6 #[.val (.int p1), .val (.long q2), .second, .val (.long q3), .second, .val (.int p4), .unset, .unset, .unset, .unset, .unset, .unset] [])) _
    refine XS.iconst X0.here hx rfl (hb hby at_6) ?_
    show Steps p.tables e below (s₁.setTop (mkF m 7 #[.val (.int p1), .val (.long q2), .second, .val (.long q3), .second, .val (.int p4), .unset, .unset, .unset, .unset, .unset, .unset] [(.int (1 : Int32))])) _
    refine XS.goto X0.here hx rfl (pc0 := 7) (pc' := 11) rfl (hb hby at_7) (by decide) (by decide) ?_
    show Steps p.tables e below (s₁.setTop (mkF m 11 #[.val (.int p1), .val (.long q2), .second, .val (.long q3), .second, .val (.int p4), .unset, .unset, .unset, .unset, .unset, .unset] [(.int (1 : Int32))])) _
    refine XS.istore X0.here hx rfl (hb hby at_11) rfl (l' := #[.val (.int p1), .val (.long q2), .second, .val (.long q3), .second, .val (.int p4), .val (.int (1 : Int32)), .unset, .unset, .unset, .unset, .unset]) rfl ?_
    show Steps p.tables e below (s₁.setTop (mkF m 13 #[.val (.int p1), .val (.long q2), .second, .val (.long q3), .second, .val (.int p4), .val (.int (1 : Int32)), .unset, .unset, .unset, .unset, .unset] [])) _
    refine XS.iload X0.here hx rfl (hb hby at_13) rfl ?_
    show Steps p.tables e below (s₁.setTop (mkF m 15 #[.val (.int p1), .val (.long q2), .second, .val (.long q3), .second, .val (.int p4), .val (.int (1 : Int32)), .unset, .unset, .unset, .unset, .unset] [(.int (1 : Int32))])) _
    refine XS.ifYes X0.here hx rfl (pc0 := 15) (pc' := 50) rfl (hb hby at_15) rfl ((if0 _ _).trans (feq (by decide : ¬ ((1 : Int32) = (0 : Int32)))).2) (by decide) (by decide) ?_
    show Steps p.tables e below (s₁.setTop (mkF m 50 #[.val (.int p1), .val (.long q2), .second, .val (.long q3), .second, .val (.int p4), .val (.int (1 : Int32)), .unset, .unset, .unset, .unset, .unset] [])) _
    refine st5 _ ?_
    show Steps p.tables e below (T5.setTop (mkF m 63 #[.val (.int p1), .val (.long q2), .second, .val (.long q3), .second, .val (.int p4), .val (.int (1 : Int32)), .val (.long hi0), .second, .unset, .unset, .unset] [])) _
    refine st6 _ ?_
    show Steps p.tables e below (T6.setTop (mkF m 86 #[.val (.int p1), .val (.long q2), .second, .val (.long q3), .second, .val (.int p4), .val (.int (1 : Int32)), .val (.long hi0), .second, .val (.long lo0), .second, .unset] [])) _
    refine st7 _ ?_
    show Steps p.tables e below (T7.setTop (mkF m 106 #[.val (.int p1), .val (.long q2), .second, .val (.long q3), .second, .val (.int p4), .val (.int (1 : Int32)), .val (.long hi0), .second, .val (.long lo1), .second, .unset] [])) _
    refine st8 _ ?_
    show Steps p.tables e below (T8.setTop (mkF m 128 #[.val (.int p1), .val (.long q2), .second, .val (.long q3), .second, .val (.int p4), .val (.int (1 : Int32)), .val (.long hi1), .second, .val (.long lo1), .second, .unset] [])) _
    refine XS.lload X8.here hx rfl (hb hby at_128) rfl ?_
    show Steps p.tables e below (T8.setTop (mkF m 130 #[.val (.int p1), .val (.long q2), .second, .val (.long q3), .second, .val (.int p4), .val (.int (1 : Int32)), .val (.long hi1), .second, .val (.long lo1), .second, .unset] [(.long hi1)])) _
    refine XS.lconst X8.here hx rfl (hb hby at_130) ?_
    show Steps p.tables e below (T8.setTop (mkF m 131 #[.val (.int p1), .val (.long q2), .second, .val (.long q3), .second, .val (.int p4), .val (.int (1 : Int32)), .val (.long hi1), .second, .val (.long lo1), .second, .unset] [(.long (0 : Int64)), (.long hi1)])) _
    refine XS.lcmp X8.here hx rfl (hb hby at_131) rfl ?_
    show Steps p.tables e below (T8.setTop (mkF m 132 #[.val (.int p1), .val (.long q2), .second, .val (.long q3), .second, .val (.int p4), .val (.int (1 : Int32)), .val (.long hi1), .second, .val (.long lo1), .second, .unset] [(.int (lcmpW hi1 (0 : Int64)))])) _
    refine XS.ifNo X8.here hx rfl (hb hby at_132) rfl ((if0 _ _).trans (teq hc132).2) ?_
    show Steps p.tables e below (T8.setTop (mkF m 135 #[.val (.int p1), .val (.long q2), .second, .val (.long q3), .second, .val (.int p4), .val (.int (1 : Int32)), .val (.long hi1), .second, .val (.long lo1), .second, .unset] [])) _
    refine XS.lload X8.here hx rfl (hb hby at_135) rfl ?_
    show Steps p.tables e below (T8.setTop (mkF m 137 #[.val (.int p1), .val (.long q2), .second, .val (.long q3), .second, .val (.int p4), .val (.int (1 : Int32)), .val (.long hi1), .second, .val (.long lo1), .second, .unset] [(.long lo1)])) _
    refine X8.ldc2Long hx hown (mvT hZ (hw _ (List.mem_of_getElem? (i := 6) rfl))) (g := (mkF m 137 #[.val (.int p1), .val (.long q2), .second, .val (.long q3), .second, .val (.int p4), .val (.int (1 : Int32)), .val (.long hi1), .second, .val (.long lo1), .second, .unset] [(.long lo1)])) rfl (hb hby at_137) _ ?_
    show Steps p.tables e below (T8.setTop (mkF m 140 #[.val (.int p1), .val (.long q2), .second, .val (.long q3), .second, .val (.int p4), .val (.int (1 : Int32)), .val (.long hi1), .second, .val (.long lo1), .second, .unset] [(.long (-4294967296 : Int64)), (.long lo1)])) _
    refine XS.land X8.here hx rfl (hb hby at_140) rfl ?_
    show Steps p.tables e below (T8.setTop (mkF m 141 #[.val (.int p1), .val (.long q2), .second, .val (.long q3), .second, .val (.int p4), .val (.int (1 : Int32)), .val (.long hi1), .second, .val (.long lo1), .second, .unset] [(.long (lo1 &&& (-4294967296 : Int64)))])) _
    refine X8.ldc2Long hx hown (mvT hZ (hw _ (List.mem_of_getElem? (i := 45) rfl))) (g := (mkF m 141 #[.val (.int p1), .val (.long q2), .second, .val (.long q3), .second, .val (.int p4), .val (.int (1 : Int32)), .val (.long hi1), .second, .val (.long lo1), .second, .unset] [(.long (lo1 &&& (-4294967296 : Int64)))])) rfl (hb hby at_141) _ ?_
    show Steps p.tables e below (T8.setTop (mkF m 144 #[.val (.int p1), .val (.long q2), .second, .val (.long q3), .second, .val (.int p4), .val (.int (1 : Int32)), .val (.long hi1), .second, .val (.long lo1), .second, .unset] [(.long (281470681743360 : Int64)), (.long (lo1 &&& (-4294967296 : Int64)))])) _
    refine XS.lcmp X8.here hx rfl (hb hby at_144) rfl ?_
    show Steps p.tables e below (T8.setTop (mkF m 145 #[.val (.int p1), .val (.long q2), .second, .val (.long q3), .second, .val (.int p4), .val (.int (1 : Int32)), .val (.long hi1), .second, .val (.long lo1), .second, .unset] [(.int (lcmpW (lo1 &&& (-4294967296 : Int64)) (281470681743360 : Int64)))])) _
    refine XS.ifNo X8.here hx rfl (hb hby at_145) rfl ((if0 _ _).trans (teq hc145).2) ?_
    show Steps p.tables e below (T8.setTop (mkF m 148 #[.val (.int p1), .val (.long q2), .second, .val (.long q3), .second, .val (.int p4), .val (.int (1 : Int32)), .val (.long hi1), .second, .val (.long lo1), .second, .unset] [])) _
    refine XS.iconst X8.here hx rfl (hb hby at_148) ?_
    show Steps p.tables e below (T8.setTop (mkF m 149 #[.val (.int p1), .val (.long q2), .second, .val (.long q3), .second, .val (.int p4), .val (.int (1 : Int32)), .val (.long hi1), .second, .val (.long lo1), .second, .unset] [(.int (1 : Int32))])) _
    refine XS.goto X8.here hx rfl (pc0 := 149) (pc' := 153) rfl (hb hby at_149) (by decide) (by decide) ?_
    show Steps p.tables e below (T8.setTop (mkF m 153 #[.val (.int p1), .val (.long q2), .second, .val (.long q3), .second, .val (.int p4), .val (.int (1 : Int32)), .val (.long hi1), .second, .val (.long lo1), .second, .unset] [(.int (1 : Int32))])) _
    refine XS.istore X8.here hx rfl (hb hby at_153) rfl (l' := #[.val (.int p1), .val (.long q2), .second, .val (.long q3), .second, .val (.int p4), .val (.int (1 : Int32)), .val (.long hi1), .second, .val (.long lo1), .second, .val (.int (1 : Int32))]) rfl ?_
    show Steps p.tables e below (T8.setTop (mkF m 155 #[.val (.int p1), .val (.long q2), .second, .val (.long q3), .second, .val (.int p4), .val (.int (1 : Int32)), .val (.long hi1), .second, .val (.long lo1), .second, .val (.int (1 : Int32))] [])) _
    refine st9 _ ?_
    show Steps p.tables e below (T9.setTop (mkF m 158 #[.val (.int p1), .val (.long q2), .second, .val (.long q3), .second, .val (.int p4), .val (.int (1 : Int32)), .val (.long hi1), .second, .val (.long lo1), .second, .val (.int (1 : Int32))] [(.ref b9)])) _
    refine XS.dup X9.here hx rfl (hb hby at_158) rfl rfl ?_
    show Steps p.tables e below (T9.setTop (mkF m 159 #[.val (.int p1), .val (.long q2), .second, .val (.long q3), .second, .val (.int p4), .val (.int (1 : Int32)), .val (.long hi1), .second, .val (.long lo1), .second, .val (.int (1 : Int32))] [(.ref b9), (.ref b9)])) _
    refine st10 _ ?_
    show Steps p.tables e below (T10.setTop (mkF m 162 #[.val (.int p1), .val (.long q2), .second, .val (.long q3), .second, .val (.int p4), .val (.int (1 : Int32)), .val (.long hi1), .second, .val (.long lo1), .second, .val (.int (1 : Int32))] [(.ref wS), (.ref b9), (.ref b9)])) _
    refine XS.lload X10.here hx rfl (hb hby at_162) rfl ?_
    show Steps p.tables e below (T10.setTop (mkF m 164 #[.val (.int p1), .val (.long q2), .second, .val (.long q3), .second, .val (.int p4), .val (.int (1 : Int32)), .val (.long hi1), .second, .val (.long lo1), .second, .val (.int (1 : Int32))] [(.long hi1), (.ref wS), (.ref b9), (.ref b9)])) _
    refine XS.lload X10.here hx rfl (hb hby at_164) rfl ?_
    show Steps p.tables e below (T10.setTop (mkF m 166 #[.val (.int p1), .val (.long q2), .second, .val (.long q3), .second, .val (.int p4), .val (.int (1 : Int32)), .val (.long hi1), .second, .val (.long lo1), .second, .val (.int (1 : Int32))] [(.long lo1), (.long hi1), (.ref wS), (.ref b9), (.ref b9)])) _
    refine st11.trans ?_
    show Steps p.tables e below (T11.setTop (mkF m 169 #[.val (.int p1), .val (.long q2), .second, .val (.long q3), .second, .val (.int p4), .val (.int (1 : Int32)), .val (.long hi1), .second, .val (.long lo1), .second, .val (.int (1 : Int32))] [(.ref b9)])) _
    refine st12.trans ?_
    show Steps p.tables e below (T12.setTop (mkF m 172 #[.val (.int p1), .val (.long q2), .second, .val (.long q3), .second, .val (.int p4), .val (.int (1 : Int32)), .val (.long hi1), .second, .val (.long lo1), .second, .val (.int (1 : Int32))] [(.int (1 : Int32))])) _
    refine XS.iload X12.here hx rfl (hb hby at_172) rfl ?_
    show Steps p.tables e below (T12.setTop (mkF m 174 #[.val (.int p1), .val (.long q2), .second, .val (.long q3), .second, .val (.int p4), .val (.int (1 : Int32)), .val (.long hi1), .second, .val (.long lo1), .second, .val (.int (1 : Int32))] [(.int (1 : Int32)), (.int (1 : Int32))])) _
    refine XS.icmpNo X12.here hx rfl (hb hby at_174) rfl (teq (rfl : (1 : Int32) = (1 : Int32))).2 ?_
    show Steps p.tables e below (T12.setTop (mkF m 177 #[.val (.int p1), .val (.long q2), .second, .val (.long q3), .second, .val (.int p4), .val (.int (1 : Int32)), .val (.long hi1), .second, .val (.long lo1), .second, .val (.int (1 : Int32))] [])) _
    refine XS.iconst X12.here hx rfl (hb hby at_177) ?_
    show Steps p.tables e below (T12.setTop (mkF m 178 #[.val (.int p1), .val (.long q2), .second, .val (.long q3), .second, .val (.int p4), .val (.int (1 : Int32)), .val (.long hi1), .second, .val (.long lo1), .second, .val (.int (1 : Int32))] [(.int (1 : Int32))])) _
    refine XS.goto X12.here hx rfl (pc0 := 178) (pc' := 182) rfl (hb hby at_178) (by decide) (by decide) ?_
    show Steps p.tables e below (T12.setTop (mkF m 182 #[.val (.int p1), .val (.long q2), .second, .val (.long q3), .second, .val (.int p4), .val (.int (1 : Int32)), .val (.long hi1), .second, .val (.long lo1), .second, .val (.int (1 : Int32))] [(.int (1 : Int32))])) _
    exact retN X12 hx (t := .boolean) Bd.returns (by simp) (hb hby at_182) hr
  · show Qlaw0 n0 _ T12.heap _
    rw [e12q]
    exact ⟨rfl, N12⟩
set_option maxRecDepth 65536 in
set_option maxHeartbeats 40000000 in
theorem comes_1 {Post : Tables → Env → Array Value → State → Outcome → State → Prop} (hpost : ∀ tb e args s v u, (limb_1_1.after args s (.returned v) u = true ∧ limb_1_2.after args s (.returned v) u = true ∧ True) → ReturnedEndW s (.returned v) u (Jvm.fieldLocs frame_1_writes args s ++ Jvm.arrayLocs frame_1_arrays args s ++ Jvm.staticLocs frame_1_statics s) 16 1152 → Post tb e args s (.returned v) u) :
    ArmFor flags0 classFile x code maxLocals ret World_1 tables_1 room_1 Calls_1 rest_1 Pre_1 Post := by
  intro l hfl _ _ p e ha hc hk s m args below hf hA hF happ hP
  obtain ⟨hcalls, hrest, hpre⟩ := hP
  obtain ⟨-, -, -, hnamed, -, -, -, hat⟩ := (Spec.applies_iff hf).mp happ
  obtain ⟨hg, hn⟩ := and_e (Cond.before_iff.mp (show (Jvm.Cond.and given_1 narrow_1).before args s = true from hpre))
  obtain ⟨g13, g14⟩ := and_e hg
  obtain ⟨g15, g16⟩ := and_e g14
  obtain ⟨g17, g18⟩ := and_e g16
  obtain ⟨g19, g20⟩ := and_e g18
  obtain ⟨w0, w1, w2, w3, rfl⟩ : ∃ w0 w1 w2 w3 : Value, args = #[w0, w1, w2, w3] := by
    have hs : args.size = 4 := by simpa [Cond.value, given_1] using g13
    obtain ⟨L⟩ := args
    match L, hs with
    | [w0, w1, w2, w3], _ => exact ⟨w0, w1, w2, w3, rfl⟩
  have hw := fun d (hd : d ∈ tables_1) => atoms_spec (ws := Jvm.Cond.code x code maxLocals ret :: tables_1) hat d (List.mem_cons_of_mem _ hd)
  have hfit : Fit s := fun {y c} hc i hi => by
    obtain ⟨ha, rfl⟩ := Array.getElem?_eq_some_iff.mp hc
    have q := List.all_eq_true.mp ((Array.all_eq_true_iff_forall_mem.mp hF) _ (Array.getElem_mem ha)) i (List.mem_range.mpr hi)
    simpa [Array.getElem?_eq_getElem hi] using q
  obtain ⟨i0, ei0⟩ := is_v g15
  obtain rfl : w0 = (.int i0) := Option.some.inj ei0
  obtain ⟨i1, ei1⟩ := isL_v g17
  obtain rfl : w1 = (.long i1) := Option.some.inj ei1
  obtain ⟨i2, ei2⟩ := isL_v g19
  obtain rfl : w2 = (.long i2) := Option.some.inj ei2
  obtain ⟨i3, ei3⟩ := is_v g20
  obtain rfl : w3 = (.int i3) := Option.some.inj ei3
  obtain ⟨m0, hn0⟩ := and_e hn
  obtain ⟨m1, hn1⟩ := and_e hn0
  obtain ⟨m2, hn2⟩ := and_e hn1
  have m3 := hn2
  obtain ⟨a_IPV4, ev_IPV4⟩ := exa_v m0
  have E_IPV4 := Exa.start ev_IPV4 m0
  have S_IPV4 := Sta.start ev_IPV4 (Or.inr ⟨(hw _ (List.mem_of_getElem? (i := 4) rfl)), (hw _ (List.mem_of_getElem? (i := 5) rfl))⟩)
  obtain ⟨a_IPV6, ev_IPV6⟩ := exa_v m1
  have E_IPV6 := Exa.start ev_IPV6 m1
  have S_IPV6 := Sta.start ev_IPV6 (Or.inr ⟨(hw _ (List.mem_of_getElem? (i := 4) rfl)), (hw _ (List.mem_of_getElem? (i := 43) rfl))⟩)
  have F_ordinal_IPV4 := own_fld ev_IPV4 m2
  have F_ordinal_IPV6 := own_fld ev_IPV6 m3
  have hne : ¬ (a_IPV4 = a_IPV6) := own_ne F_ordinal_IPV4 F_ordinal_IPV6 (by decide)
  by_cases c3 : (i0 &&& (1 : Int32)) = (0 : Int32)
  ·
    obtain ⟨n, o, h1, h2, h3, _, L, rfl, ⟨rfl, N⟩, hq⟩ := rm0_v4 l s _ hw tables_1 i0 i1 i2 i3 a_IPV4 a_IPV6 s.heap s.heap.size (Nat.le_refl _) S_IPV4 S_IPV6 hne c3 p e ha hc hk s m _ below hf ((Spec.applies_iff_loose hf).mp happ).1 ⟨rfl, State.Warmed39.refl s, rfl⟩ trivial
    refine ⟨n, _, h1, h2, h3, hpost _ _ _ _ _ _ ⟨Cond.after_iff.mpr rfl, Cond.after_iff.mpr (eq_i res_at (Term.int_eval (1)) rfl), trivial⟩ ⟨hq.1, hq.2.1, hq.2.2.1, (hq.2.2.2.sift fun y hy => Or.inr (N y hy)).mono (by decide) (by decide)⟩⟩
  obtain ⟨hi0, hA⟩ : ∃ hi0 : Int64, ((i0 &&& (2 : Int32)) = (0 : Int32) ∧ hi0 = i1) ∨ (¬ ((i0 &&& (2 : Int32)) = (0 : Int32)) ∧ hi0 = (0 : Int64)) := by
    by_cases q : (i0 &&& (2 : Int32)) = (0 : Int32)
    · exact ⟨_, Or.inl ⟨q, rfl⟩⟩
    · exact ⟨_, Or.inr ⟨q, rfl⟩⟩
  obtain ⟨lo0, hB⟩ : ∃ lo0 : Int64, ((i0 &&& (4 : Int32)) = (0 : Int32) ∧ lo0 = i2) ∨ (¬ ((i0 &&& (4 : Int32)) = (0 : Int32)) ∧ lo0 = ((281470681743360 : Int64) ||| ((i3.toInt64) &&& (4294967295 : Int64)))) := by
    by_cases q : (i0 &&& (4 : Int32)) = (0 : Int32)
    · exact ⟨_, Or.inl ⟨q, rfl⟩⟩
    · exact ⟨_, Or.inr ⟨q, rfl⟩⟩
  obtain ⟨lo1, hC⟩ : ∃ lo1 : Int64, ((i0 &&& (8 : Int32)) = (0 : Int32) ∧ lo1 = lo0) ∨ (¬ ((i0 &&& (8 : Int32)) = (0 : Int32)) ∧ lo1 = (lo0 ^^^ ((1 : Int64) <<< ((((i0.toUInt32 >>> ((4 : Int32) &&& 31).toUInt32).toInt32) &&& (63 : Int32)) &&& 0x3f).toInt64))) := by
    by_cases q : (i0 &&& (8 : Int32)) = (0 : Int32)
    · exact ⟨_, Or.inl ⟨q, rfl⟩⟩
    · exact ⟨_, Or.inr ⟨q, rfl⟩⟩
  obtain ⟨hi1, hD⟩ : ∃ hi1 : Int64, ((i0 &&& (1024 : Int32)) = (0 : Int32) ∧ hi1 = hi0) ∨ (¬ ((i0 &&& (1024 : Int32)) = (0 : Int32)) ∧ hi1 = (hi0 ^^^ ((1 : Int64) <<< ((((i0.toUInt32 >>> ((11 : Int32) &&& 31).toUInt32).toInt32) &&& (63 : Int32)) &&& 0x3f).toInt64))) := by
    by_cases q : (i0 &&& (1024 : Int32)) = (0 : Int32)
    · exact ⟨_, Or.inl ⟨q, rfl⟩⟩
    · exact ⟨_, Or.inr ⟨q, rfl⟩⟩
  by_cases c132 : (lcmpW hi1 (0 : Int64)) = (0 : Int32)
  · by_cases c145 : (lcmpW (lo1 &&& (-4294967296 : Int64)) (281470681743360 : Int64)) = (0 : Int32)
    ·
      obtain ⟨n, o, h1, h2, h3, _, L, rfl, ⟨rfl, N⟩, hq⟩ := rm0_v6c l s _ hw tables_1 i0 i1 i2 i3 a_IPV4 a_IPV6 hi0 lo0 lo1 hi1 s.heap s.heap.size (Nat.le_refl _) S_IPV4 S_IPV6 hne hA hB hC hD c3 c132 c145 p e ha hc hk s m _ below hf ((Spec.applies_iff_loose hf).mp happ).1 ⟨rfl, State.Warmed39.refl s, rfl⟩ trivial
      refine ⟨n, _, h1, h2, h3, hpost _ _ _ _ _ _ ⟨Cond.after_iff.mpr rfl, Cond.after_iff.mpr (eq_i res_at (Term.int_eval (1)) rfl), trivial⟩ ⟨hq.1, hq.2.1, hq.2.2.1, (hq.2.2.2.sift fun y hy => Or.inr (N y hy)).mono (by decide) (by decide)⟩⟩
    ·
      obtain ⟨n, o, h1, h2, h3, _, L, rfl, ⟨rfl, N⟩, hq⟩ := rm0_v6b l s _ hw tables_1 i0 i1 i2 i3 a_IPV4 a_IPV6 hi0 lo0 lo1 hi1 s.heap s.heap.size (Nat.le_refl _) S_IPV4 S_IPV6 hne hA hB hC hD c3 c132 c145 p e ha hc hk s m _ below hf ((Spec.applies_iff_loose hf).mp happ).1 ⟨rfl, State.Warmed39.refl s, rfl⟩ trivial
      refine ⟨n, _, h1, h2, h3, hpost _ _ _ _ _ _ ⟨Cond.after_iff.mpr rfl, Cond.after_iff.mpr (eq_i res_at (Term.int_eval (1)) rfl), trivial⟩ ⟨hq.1, hq.2.1, hq.2.2.1, (hq.2.2.2.sift fun y hy => Or.inr (N y hy)).mono (by decide) (by decide)⟩⟩
  obtain ⟨n, o, h1, h2, h3, _, L, rfl, ⟨rfl, N⟩, hq⟩ := rm0_v6a l s _ hw tables_1 i0 i1 i2 i3 a_IPV4 a_IPV6 hi0 lo0 lo1 hi1 s.heap s.heap.size (Nat.le_refl _) S_IPV4 S_IPV6 hne hA hB hC hD c3 c132 p e ha hc hk s m _ below hf ((Spec.applies_iff_loose hf).mp happ).1 ⟨rfl, State.Warmed39.refl s, rfl⟩ trivial
  refine ⟨n, _, h1, h2, h3, hpost _ _ _ _ _ _ ⟨Cond.after_iff.mpr rfl, Cond.after_iff.mpr (eq_i res_at (Term.int_eval (1)) rfl), trivial⟩ ⟨hq.1, hq.2.1, hq.2.2.1, (hq.2.2.2.sift fun y hy => Or.inr (N y hy)).mono (by decide) (by decide)⟩⟩
theorem main_1_1 : Claimed_1_1 := comes_1 fun _ _ _ _ _ _ h hF => ⟨h.1, hF⟩
theorem main_1_2 : Claimed_1_2 := comes_1 fun _ _ _ _ _ _ h hF => ⟨h.2.1, hF⟩
end Jvm.Pilot.@@N@@
namespace Jvm.Pilot.@@N@@
open Jvm Jvm.ClassFile Sem Op Lib Jvm.Free Jvm.Stand Jvm.Pilot.@@N@@.Jvm.D
/-! MADE BY PROGRAM (witnessworld.py) out of the Statement's table words and the real class files: 18 classes; the members and pool entries that the words name. The judged class is class 1, her method 1. -/
namespace start1
open Jvm.ClassFile
def u (s : String) : CpInfo := .utf8 (stringToUtf16 s)
/-- a pool by its gaps: so many unusable entries, then the entry; so many at the end -/
def gap : Nat → List CpInfo → List CpInfo
  | 0, r => r
  | n + 1, r => .unusable :: gap n r
def poolList (es : List (Nat × CpInfo)) (last : Nat) : List CpInfo := es.foldr (fun e r => gap e.1 (e.2 :: r)) (gap last [])
def pool (es : List (Nat × CpInfo)) (last : Nat) : Array CpInfo := ⟨poolList es last⟩
def fileOf (pool : Array CpInfo) (this : Nat) (attrs : Array Attribute := #[]) (ms : Array MethodInfo := #[]) (fl : Nat := 33) (sup : Nat := 0) (ifs : Array Nat := #[]) (fds : Array FieldInfo := #[]) : ClassFile where
  minorVersion := 0
  majorVersion := 65
  constantPool := pool
  accessFlags := fl
  thisClass := this
  superClass := sup
  interfaces := ifs
  fields := fds
  methods := ms
  attributes := attrs
def plain (name : String) (sup : Option ClassId) : Class where
  name := name
  kind := .ordinary
  loader := none
  accessFlags := 33
  super := sup
  interfaces := #[]
  cf := none
  fields := #[]
  methods := #[]
  instanceTypes := #[]
  staticTypes := #[]
  resolved := #[]
  callSites := []
  init := .initialized
  statics := none
  mirror := none

def pool0 : Array CpInfo := pool [(5, u "<init>"), (0, u "()V"), (1, .class_ 10), (1, u "java/lang/Object")] 113

def k0c0 : Code := { maxStack := 0, maxLocals := 1, code := object_method_1_code, exceptionTable := #[], attributes := #[] }
def k0m0 : Method := { name := "<init>", desc := "()V", sig := { parameters := [], returnType := none }, accessFlags := 1, code := some k0c0 }
/-- java/lang/Object -/
def k0 : Class := { plain "java/lang/Object" none with
  accessFlags := 33
  interfaces := #[]
  cf := some (fileOf pool0 8 #[] #[{ accessFlags := 1, nameIndex := 5, descriptorIndex := 6, attributes := #[] }] 33 0 #[] #[])
  fields := #[]
  methods := #[k0m0]
  instanceTypes := #[]
  staticTypes := #[]
  resolved := Array.replicate 124 none
  statics := none }

def pool1 : Array CpInfo := pool [(2, .class_ 4), (1, u "java/lang/Object"), (0, u "<init>"), (0, u "()V"), (0, .class_ 8), (0, u "com/example/portcullis/portcullis/IpAddress"), (0, .fieldref 10 11), (0, .class_ 12), (0, .nameAndType 13 14), (0, u "com/example/portcullis/portcullis/IpAddress$Version"), (0, u "IPV4"), (0, u "Lcom/example/portcullis/portcullis/IpAddress$Version;"), (0, .long 18446744069414584320), (1, .methodref 7 18), (0, .nameAndType 5 19), (0, u "(Lcom/example/portcullis/portcullis/IpAddress$Version;JJ)V"), (0, .methodref 7 21), (0, .nameAndType 22 23), (0, u "isIpv4Mapped"), (0, u "()Z"), (0, .long 281470681743360), (1, .long 4294967295), (1, .fieldref 10 29), (0, .nameAndType 30 14), (0, u "IPV6"), (0, .class_ 32), (0, u "com/example/portcullis/portcullis/IpAddressIsIpv4MappedPinLaw"), (2, u "law"), (0, u "(IJJI)Z")] 5

def k1m0 : Method := { name := "<init>", desc := "()V", sig := { parameters := [], returnType := none }, accessFlags := 1, code := none }
def k1c1 : Code := { maxStack := 7, maxLocals := 12, code := code, exceptionTable := #[], attributes := #[] }
def k1m1 : Method := { name := "law", desc := "(IJJI)Z", sig := { parameters := [.int, .long, .long, .int], returnType := some .boolean }, accessFlags := 9, code := some k1c1 }
/-- com/example/portcullis/portcullis/IpAddressIsIpv4MappedPinLaw -/
def k1 : Class := { plain "com/example/portcullis/portcullis/IpAddressIsIpv4MappedPinLaw" (some 0) with
  accessFlags := 49
  interfaces := #[]
  cf := some (fileOf pool1 31 #[] #[{ accessFlags := 1, nameIndex := 5, descriptorIndex := 6, attributes := #[] }, { accessFlags := 9, nameIndex := 35, descriptorIndex := 36, attributes := #[] }] 49 2 #[] #[])
  fields := #[]
  methods := #[k1m0, k1m1]
  instanceTypes := #[]
  staticTypes := #[]
  resolved := Array.replicate 42 none
  statics := none }

def pool2 : Array CpInfo := pool [(1, .methodref 2 3), (0, .class_ 4), (0, .nameAndType 5 6), (0, u "java/lang/Object"), (0, u "<init>"), (0, u "()V"), (0, .class_ 8), (0, u "java/lang/Record")] 13

def k2c0 : Code := { maxStack := 1, maxLocals := 1, code := jdk_30_method_1_code, exceptionTable := #[], attributes := #[] }
def k2m0 : Method := { name := "<init>", desc := "()V", sig := { parameters := [], returnType := none }, accessFlags := 4, code := some k2c0 }
/-- java/lang/Record -/
def k2 : Class := { plain "java/lang/Record" (some 0) with
  accessFlags := 1057
  interfaces := #[]
  cf := some (fileOf pool2 7 #[] #[{ accessFlags := 4, nameIndex := 5, descriptorIndex := 6, attributes := #[] }] 1057 2 #[] #[])
  fields := #[]
  methods := #[k2m0]
  instanceTypes := #[]
  staticTypes := #[]
  resolved := Array.replicate 22 none
  statics := none }

def pool3 : Array CpInfo := pool [(1, .methodref 2 3), (0, .class_ 4), (0, .nameAndType 5 6), (0, u "java/lang/Record"), (0, u "<init>"), (0, u "()V"), (0, .string 8), (0, u "version"), (0, .methodref 10 11), (0, .class_ 12), (0, .nameAndType 13 14), (0, u "java/util/Objects"), (0, u "requireNonNull"), (0, u "(Ljava/lang/Object;Ljava/lang/String;)Ljava/lang/Object;"), (0, .fieldref 16 17), (0, .class_ 18), (0, .nameAndType 19 20), (0, u "com/example/portcullis/portcullis/IpAddress$Version"), (0, u "IPV4"), (0, u "Lcom/example/portcullis/portcullis/IpAddress$Version;"), (7, .fieldref 29 30), (0, .class_ 31), (0, .nameAndType 8 20), (0, u "com/example/portcullis/portcullis/IpAddress"), (0, .fieldref 29 33), (0, .nameAndType 34 35), (0, u "high"), (0, u "J"), (0, .fieldref 29 37), (0, .nameAndType 38 35), (0, u "low"), (2, u "(Lcom/example/portcullis/portcullis/IpAddress$Version;JJ)V"), (0, .fieldref 16 43), (0, .nameAndType 44 20), (0, u "IPV6"), (0, .long 65535), (3, u "isIpv4Mapped"), (0, u "()Z")] 51

def k3c0 : Code := { maxStack := 4, maxLocals := 6, code := prog_23_method_1_code, exceptionTable := #[], attributes := #[] }
def k3m0 : Method := { name := "<init>", desc := "(Lcom/example/portcullis/portcullis/IpAddress$Version;JJ)V", sig := { parameters := [(.object "com/example/portcullis/portcullis/IpAddress$Version"), .long, .long], returnType := none }, accessFlags := 0, code := some k3c0 }
def k3c1 : Code := { maxStack := 4, maxLocals := 1, code := prog_23_method_3_code, exceptionTable := #[], attributes := #[] }
def k3m1 : Method := { name := "isIpv4Mapped", desc := "()Z", sig := { parameters := [], returnType := some .boolean }, accessFlags := 0, code := some k3c1 }
/-- com/example/portcullis/portcullis/IpAddress -/
def k3 : Class := { plain "com/example/portcullis/portcullis/IpAddress" (some 2) with
  accessFlags := 48
  interfaces := #[]
  cf := some (fileOf pool3 29 #[.nestMembers #[16]] #[{ accessFlags := 0, nameIndex := 5, descriptorIndex := 41, attributes := #[] }, { accessFlags := 0, nameIndex := 49, descriptorIndex := 50, attributes := #[] }] 48 2 #[] #[{ accessFlags := 18, nameIndex := 8, descriptorIndex := 20, attributes := #[] }, { accessFlags := 18, nameIndex := 34, descriptorIndex := 35, attributes := #[] }, { accessFlags := 18, nameIndex := 38, descriptorIndex := 35, attributes := #[] }])
  fields := #[{ name := "version", type := (.object "com/example/portcullis/portcullis/IpAddress$Version"), accessFlags := 18, slot := 0, constantValue := 0 }, { name := "high", type := .long, accessFlags := 18, slot := 1, constantValue := 0 }, { name := "low", type := .long, accessFlags := 18, slot := 2, constantValue := 0 }]
  methods := #[k3m0, k3m1]
  instanceTypes := #[(.object "com/example/portcullis/portcullis/IpAddress$Version"), .long, .long]
  staticTypes := #[]
  resolved := Array.replicate 102 none
  statics := none }

def pool4 : Array CpInfo := pool [(1, .class_ 2), (0, u "java/lang/constant/Constable"), (0, .class_ 4), (0, u "java/lang/Object")] 6

/-- java/lang/constant/Constable -/
def k4 : Class := { plain "java/lang/constant/Constable" (some 0) with
  accessFlags := 1537
  interfaces := #[]
  cf := some (fileOf pool4 1 #[] #[] 1537 3 #[] #[])
  fields := #[]
  methods := #[]
  instanceTypes := #[]
  staticTypes := #[]
  resolved := Array.replicate 11 none
  statics := none }

def pool5 : Array CpInfo := pool [(1, .class_ 2), (0, u "java/lang/Comparable"), (0, .class_ 4), (0, u "java/lang/Object")] 7

/-- java/lang/Comparable -/
def k5 : Class := { plain "java/lang/Comparable" (some 0) with
  accessFlags := 1537
  interfaces := #[]
  cf := some (fileOf pool5 1 #[] #[] 1537 3 #[] #[])
  fields := #[]
  methods := #[]
  instanceTypes := #[]
  staticTypes := #[]
  resolved := Array.replicate 12 none
  statics := none }

def pool6 : Array CpInfo := pool [(1, .class_ 2), (0, u "java/io/Serializable"), (0, .class_ 4), (0, u "java/lang/Object")] 2

/-- java/io/Serializable -/
def k6 : Class := { plain "java/io/Serializable" (some 0) with
  accessFlags := 1537
  interfaces := #[]
  cf := some (fileOf pool6 1 #[] #[] 1537 3 #[] #[])
  fields := #[]
  methods := #[]
  instanceTypes := #[]
  staticTypes := #[]
  resolved := Array.replicate 7 none
  statics := none }

def pool7 : Array CpInfo := pool [(2, .class_ 4), (1, u "java/lang/Enum"), (0, u "name"), (0, u "Ljava/lang/String;"), (2, u "ordinal"), (0, u "I"), (1, .class_ 14), (1, u "java/lang/Object"), (4, u "hash"), (86, .class_ 108), (1, u "java/lang/Enum$EnumDesc"), (2, .class_ 112), (0, u "java/lang/constant/Constable"), (0, .class_ 114), (0, u "java/lang/Comparable"), (0, .class_ 116), (0, u "java/io/Serializable")] 87

/-- java/lang/Enum -/
def k7 : Class := { plain "java/lang/Enum" (some 0) with
  accessFlags := 1057
  interfaces := #[4, 5, 6]
  cf := some (fileOf pool7 2 #[.nestMembers #[106]] #[] 1057 12 #[111, 113, 115] #[{ accessFlags := 18, nameIndex := 5, descriptorIndex := 6, attributes := #[] }, { accessFlags := 18, nameIndex := 9, descriptorIndex := 10, attributes := #[] }, { accessFlags := 2, nameIndex := 19, descriptorIndex := 10, attributes := #[] }])
  fields := #[{ name := "name", type := (.object "java/lang/String"), accessFlags := 18, slot := 0, constantValue := 0 }, { name := "ordinal", type := .int, accessFlags := 18, slot := 1, constantValue := 0 }, { name := "hash", type := .int, accessFlags := 2, slot := 2, constantValue := 0 }]
  methods := #[]
  instanceTypes := #[(.object "java/lang/String"), .int, .int]
  staticTypes := #[]
  resolved := Array.replicate 204 none
  statics := none }

def pool8 : Array CpInfo := pool [(1, .class_ 2), (0, u "com/example/portcullis/portcullis/IpAddress$Version"), (2, u "IPV4"), (0, u "Lcom/example/portcullis/portcullis/IpAddress$Version;"), (2, u "IPV6"), (2, u "$VALUES"), (0, u "[Lcom/example/portcullis/portcullis/IpAddress$Version;"), (6, .class_ 22), (1, u "java/lang/Enum"), (8, u "bits"), (0, u "I"), (23, .class_ 57), (0, u "com/example/portcullis/portcullis/IpAddress")] 2

/-- com/example/portcullis/portcullis/IpAddress$Version -/
def k8 : Class := { plain "com/example/portcullis/portcullis/IpAddress$Version" (some 7) with
  accessFlags := 16432
  interfaces := #[]
  cf := some (fileOf pool8 1 #[.nestHost 56] #[] 16432 20 #[] #[{ accessFlags := 16409, nameIndex := 5, descriptorIndex := 6, attributes := #[] }, { accessFlags := 16409, nameIndex := 9, descriptorIndex := 6, attributes := #[] }, { accessFlags := 18, nameIndex := 31, descriptorIndex := 32, attributes := #[] }, { accessFlags := 4122, nameIndex := 12, descriptorIndex := 13, attributes := #[] }])
  fields := #[{ name := "IPV4", type := (.object "com/example/portcullis/portcullis/IpAddress$Version"), accessFlags := 16409, slot := 0, constantValue := 0 }, { name := "IPV6", type := (.object "com/example/portcullis/portcullis/IpAddress$Version"), accessFlags := 16409, slot := 1, constantValue := 0 }, { name := "bits", type := .int, accessFlags := 18, slot := 3, constantValue := 0 }, { name := "$VALUES", type := (.array (.object "com/example/portcullis/portcullis/IpAddress$Version")), accessFlags := 4122, slot := 2, constantValue := 0 }]
  methods := #[]
  instanceTypes := #[(.object "java/lang/String"), .int, .int, .int]
  staticTypes := #[(.object "com/example/portcullis/portcullis/IpAddress$Version"), (.object "com/example/portcullis/portcullis/IpAddress$Version"), (.array (.object "com/example/portcullis/portcullis/IpAddress$Version"))]
  resolved := Array.replicate 60 none
  statics := some 0 }

def pool9 : Array CpInfo := pool [(2, .class_ 4), (1, u "java/lang/CharSequence"), (42, .class_ 48), (0, u "java/lang/CharSequence$1CodePointIterator"), (10, .class_ 60), (0, u "java/lang/CharSequence$1CharIterator"), (5, .class_ 67), (0, u "java/lang/Object")] 63

/-- java/lang/CharSequence -/
def k9 : Class := { plain "java/lang/CharSequence" (some 0) with
  accessFlags := 1537
  interfaces := #[]
  cf := some (fileOf pool9 2 #[.nestMembers #[47, 59]] #[] 1537 66 #[] #[])
  fields := #[]
  methods := #[]
  instanceTypes := #[]
  staticTypes := #[]
  resolved := Array.replicate 131 none
  statics := none }

def pool10 : Array CpInfo := pool [(1, .class_ 2), (0, u "java/lang/constant/ConstantDesc"), (0, .class_ 4), (0, u "java/lang/Object")] 32

/-- java/lang/constant/ConstantDesc -/
def k10 : Class := { plain "java/lang/constant/ConstantDesc" (some 0) with
  accessFlags := 1537
  interfaces := #[]
  cf := some (fileOf pool10 1 #[] #[] 1537 3 #[] #[])
  fields := #[]
  methods := #[]
  instanceTypes := #[]
  staticTypes := #[]
  resolved := Array.replicate 37 none
  statics := none }

def pool11 : Array CpInfo := pool [(2, .class_ 4), (1, u "java/lang/Object"), (0, u "<init>"), (0, u "()V"), (3, .class_ 12), (1, u "java/lang/String"), (0, u "value"), (0, u "[B"), (2, u "coder"), (0, u "B"), (2, u "hash"), (0, u "I"), (2, u "hashIsZero"), (0, u "Z"), (13, u "COMPACT_STRINGS"), (534, .class_ 576), (0, u "java/lang/CharSequence"), (22, u "CASE_INSENSITIVE_ORDER"), (0, u "Ljava/util/Comparator;"), (500, u "serialPersistentFields"), (0, u "[Ljava/io/ObjectStreamField;"), (0, .class_ 1104), (0, u "java/lang/String$CaseInsensitiveComparator"), (1, .class_ 1107), (0, u "java/io/Serializable"), (0, .class_ 1109), (0, u "java/lang/Comparable"), (0, .class_ 1111), (0, u "java/lang/constant/Constable"), (0, .class_ 1113), (0, u "java/lang/constant/ConstantDesc"), (2, u "serialVersionUID"), (0, u "J"), (3, u "REPL"), (0, u "C"), (2, u "LATIN1"), (1, u "UTF16")] 323

def k11m0 : Method := { name := "<init>", desc := "()V", sig := { parameters := [], returnType := none }, accessFlags := 1, code := none }
/-- java/lang/String -/
def k11 : Class := { plain "java/lang/String" (some 0) with
  accessFlags := 49
  interfaces := #[6, 5, 9, 4, 10]
  cf := some (fileOf pool11 10 #[.nestMembers #[1103]] #[{ accessFlags := 1, nameIndex := 5, descriptorIndex := 6, attributes := #[] }] 49 2 #[1106, 1108, 575, 1110, 1112] #[{ accessFlags := 18, nameIndex := 13, descriptorIndex := 14, attributes := #[] }, { accessFlags := 18, nameIndex := 17, descriptorIndex := 18, attributes := #[] }, { accessFlags := 2, nameIndex := 21, descriptorIndex := 22, attributes := #[] }, { accessFlags := 2, nameIndex := 25, descriptorIndex := 26, attributes := #[] }, { accessFlags := 26, nameIndex := 1116, descriptorIndex := 1117, attributes := #[] }, { accessFlags := 24, nameIndex := 40, descriptorIndex := 26, attributes := #[] }, { accessFlags := 26, nameIndex := 1101, descriptorIndex := 1102, attributes := #[] }, { accessFlags := 26, nameIndex := 1121, descriptorIndex := 1122, attributes := #[] }, { accessFlags := 25, nameIndex := 599, descriptorIndex := 600, attributes := #[] }, { accessFlags := 24, nameIndex := 1125, descriptorIndex := 18, attributes := #[] }, { accessFlags := 24, nameIndex := 1127, descriptorIndex := 18, attributes := #[] }])
  fields := #[{ name := "value", type := (.array .byte), accessFlags := 18, slot := 0, constantValue := 0 }, { name := "coder", type := .byte, accessFlags := 18, slot := 1, constantValue := 0 }, { name := "hash", type := .int, accessFlags := 2, slot := 2, constantValue := 0 }, { name := "hashIsZero", type := .boolean, accessFlags := 2, slot := 3, constantValue := 0 }, { name := "serialVersionUID", type := .long, accessFlags := 26, slot := 0, constantValue := 0 }, { name := "COMPACT_STRINGS", type := .boolean, accessFlags := 24, slot := 1, constantValue := 0 }, { name := "serialPersistentFields", type := (.array (.object "java/io/ObjectStreamField")), accessFlags := 26, slot := 2, constantValue := 0 }, { name := "REPL", type := .char, accessFlags := 26, slot := 3, constantValue := 0 }, { name := "CASE_INSENSITIVE_ORDER", type := (.object "java/util/Comparator"), accessFlags := 25, slot := 4, constantValue := 0 }, { name := "LATIN1", type := .byte, accessFlags := 24, slot := 5, constantValue := 0 }, { name := "UTF16", type := .byte, accessFlags := 24, slot := 6, constantValue := 0 }]
  methods := #[k11m0]
  instanceTypes := #[(.array .byte), .byte, .int, .boolean]
  staticTypes := #[.long, .boolean, (.array (.object "java/io/ObjectStreamField")), .char, (.object "java/util/Comparator"), .byte, .byte]
  resolved := Array.replicate 1451 none
  statics := none }

def pool12 : Array CpInfo := pool [(2, .class_ 4), (1, u "java/lang/Object"), (0, u "<init>"), (0, u "()V"), (35, .class_ 44), (1, u "java/util/Objects"), (0, u "requireNonNull"), (48, u "(Ljava/lang/Object;Ljava/lang/String;)Ljava/lang/Object;")] 89

def k12m0 : Method := { name := "<init>", desc := "()V", sig := { parameters := [], returnType := none }, accessFlags := 2, code := none }
def k12c1 : Code := { maxStack := 3, maxLocals := 2, code := jdk_31_method_11_code, exceptionTable := #[], attributes := #[] }
def k12m1 : Method := { name := "requireNonNull", desc := "(Ljava/lang/Object;Ljava/lang/String;)Ljava/lang/Object;", sig := { parameters := [(.object "java/lang/Object"), (.object "java/lang/String")], returnType := some (.object "java/lang/Object") }, accessFlags := 9, code := some k12c1 }
/-- java/util/Objects -/
def k12 : Class := { plain "java/util/Objects" (some 0) with
  accessFlags := 49
  interfaces := #[]
  cf := some (fileOf pool12 42 #[] #[{ accessFlags := 2, nameIndex := 5, descriptorIndex := 6, attributes := #[] }, { accessFlags := 9, nameIndex := 45, descriptorIndex := 94, attributes := #[] }] 49 2 #[] #[])
  fields := #[]
  methods := #[k12m0, k12m1]
  instanceTypes := #[]
  staticTypes := #[]
  resolved := Array.replicate 184 none
  statics := none }

def pool13 : Array CpInfo := pool [(1, u "java/lang/Cloneable"), (0, .class_ 1), (0, u "java/lang/Object"), (0, .class_ 3)] 3

/-- java/lang/Cloneable -/
def k13 : Class := { plain "java/lang/Cloneable" (some 0) with
  accessFlags := 1537
  interfaces := #[]
  cf := some (fileOf pool13 2 #[] #[] 1537 4 #[] #[])
  fields := #[]
  methods := #[]
  instanceTypes := #[]
  staticTypes := #[]
  resolved := Array.replicate 8 none
  statics := none }

/-- the primitive byte -/
def k14 : Class := { plain "byte" none with kind := .primitive 'B', accessFlags := 0x411 }
/-- [B -/
def k15 : Class := { plain "[B" (some 0) with kind := .array 14 .byte, interfaces := #[13, 6], accessFlags := 1041 }

/-- the primitive int -/
def k16 : Class := { plain "int" none with kind := .primitive 'I', accessFlags := 0x411 }
/-- [I -/
def k17 : Class := { plain "[I" (some 0) with kind := .array 16 .int, interfaces := #[13, 6], accessFlags := 1041 }

def heap : Heap := #[{ cls := 8, slots := #[.ref 1, .ref 2, .null], vm := .statics 8 },
  { cls := 8, slots := #[.null, .int 0, .int 0, .int 32], vm := .none },
  { cls := 8, slots := #[.null, .int 1, .int 0, .int 128], vm := .none }]
def classes : Array Class := #[k0, k1, k2, k3, k4, k5, k6, k7, k8, k9, k10, k11, k12, k13, k14, k15, k16, k17]
def interned : List (Array UInt16 × Addr) := []
def slotsUsed : Nat := 11
def theMethod : MethodId := ⟨1, 1⟩
def args0 : Array Value := #[.int 5, .long 7, .long 9, .int 3]
def aboutOver (below : List Frame) : State where
  vm := { classes := classes, interned := interned.toArray }
  heap := heap
  slotsUsed := slotsUsed
  threads := #[{ frames := .invoking theMethod args0 :: below }]
def below0 : List Frame := [.native { method := ⟨0, 0⟩, args := #[] }]
def about1 : State := aboutOver below0
def p0 : Program := .bare "" "" ""
def e0 : Env := launch0.env 0 0 0
theorem w_frames : about1.frames = Frame.invoking theMethod args0 :: below0 := rfl
set_option maxRecDepth 65536 in
theorem w_args : argsFit about1.vm theMethod args0 = true := by decide +kernel
set_option maxRecDepth 65536 in
theorem w_heap : heapFits about1 = true := by decide +kernel
set_option maxRecDepth 65536 in
theorem w_runnable : about1.curStatus? = some .runnable := by decide +kernel
set_option maxRecDepth 65536 in
theorem w_alone : about1.alone = true := by decide +kernel
set_option maxRecDepth 65536 in
theorem w_named : about1.methodNamed? x = some theMethod := by decide +kernel
set_option maxRecDepth 65536 in
theorem w_hears : about1.hears theMethod below0 = true := by decide +kernel
set_option maxRecDepth 65536 in
theorem w_ripe : about1.ripe theMethod args0 below0 = true := by decide +kernel
theorem w_running : about1.status = .running := rfl
set_option maxRecDepth 65536 in
theorem w_room : about1.hasRoom e0.platform room_1 = true :=
  launch0.hasRoom_least _ room_1 (by decide +kernel) (by decide +kernel) (by decide +kernel) (by decide +kernel) (by decide +kernel) (by decide +kernel)
theorem allAtoms_all (ts : List Jvm.Cond) (a : Array Jvm.Value) (st : Jvm.State) : (allAtoms ts).before a st = ts.all (fun c => c.before a st) := by
  induction ts with
  | nil => rfl
  | cons c t ih =>
    show (Jvm.Cond.and c (allAtoms t)).before a st = _
    rw [Jvm.Cond.before_and, ih, List.all_cons]
def words1 : List Jvm.Cond := Jvm.Cond.code x code maxLocals ret :: tables_1
/-- a 'code' word, met by the world's own term for the bytes: nothing is compared byte by byte -/
theorem code_word {y : MethodName} {bytes : ByteArray} {mx : Nat} {rt : Option FieldType} {a : Array Value} {s : State} {m : MethodId} {meth : Method} {c : Code} (h1 : s.methodNamed? y = some m) (h2 : s.vm.method? m = some meth) (h3 : meth.code = some c) (h4 : c.code = bytes)
    (h5 : (c.maxLocals == mx && c.exceptionTable.isEmpty && decide (c.maxStack ≤ mostOperands) && decide (meth.sig.returnType = rt) && !meth.locks && decide (parseMethodDescriptor y.desc = some meth.sig)) = true) : (Jvm.Cond.code y bytes mx rt).before a s = true := by
  simp only [Bool.and_eq_true, beq_iff_eq, Bool.not_eq_true', decide_eq_true_eq] at h5
  obtain ⟨⟨⟨⟨⟨g1, g2⟩, g3⟩, g4⟩, g5⟩, g6⟩ := h5
  simp [Cond.before, Cond.holds, Cond.value, h1, h2, h3, h4, g1, g2, g3, g4, g5, g6]
def isCode : Jvm.Cond → Bool
  | .code _ _ _ _ => true
  | _ => false
theorem all_split {L : List Jvm.Cond} {P : Jvm.Cond → Bool} (h1 : L.all (fun c => isCode c || P c) = true) (h2 : ∀ c ∈ L.filter isCode, P c = true) : L.all P = true := by
  refine List.all_eq_true.mpr fun c hc => ?_
  have h := List.all_eq_true.mp h1 c hc
  rcases Bool.eq_false_or_eq_true (isCode c) with hi | hi
  · exact h2 c (List.mem_filter.mpr ⟨hc, hi⟩)
  · simpa [hi] using h
set_option maxRecDepth 65536 in
theorem w_c0 : (Jvm.Cond.code x code maxLocals ret).before args0 about1 = true := code_word (m := ⟨1, 1⟩) (meth := k1m1) (c := k1c1) (by decide +kernel) rfl rfl rfl (by decide +kernel)
set_option maxRecDepth 65536 in
theorem w_c1 : (Jvm.Cond.code ({ cls := "com/example/portcullis/portcullis/IpAddress", name := "<init>", desc := "(Lcom/example/portcullis/portcullis/IpAddress$Version;JJ)V" } : Jvm.MethodName) prog_23_method_1_code (6 : Nat) (Option.none : Option Jvm.ClassFile.FieldType)).before args0 about1 = true := code_word (m := ⟨3, 0⟩) (meth := k3m0) (c := k3c0) (by decide +kernel) rfl rfl rfl (by decide +kernel)
set_option maxRecDepth 65536 in
theorem w_c2 : (Jvm.Cond.code ({ cls := "java/lang/Record", name := "<init>", desc := "()V" } : Jvm.MethodName) jdk_30_method_1_code (1 : Nat) (Option.none : Option Jvm.ClassFile.FieldType)).before args0 about1 = true := code_word (m := ⟨2, 0⟩) (meth := k2m0) (c := k2c0) (by decide +kernel) rfl rfl rfl (by decide +kernel)
set_option maxRecDepth 65536 in
theorem w_c3 : (Jvm.Cond.code ({ cls := "java/lang/Object", name := "<init>", desc := "()V" } : Jvm.MethodName) object_method_1_code (1 : Nat) (Option.none : Option Jvm.ClassFile.FieldType)).before args0 about1 = true := code_word (m := ⟨0, 0⟩) (meth := k0m0) (c := k0c0) (by decide +kernel) rfl rfl rfl (by decide +kernel)
set_option maxRecDepth 65536 in
theorem w_c4 : (Jvm.Cond.code ({ cls := "java/util/Objects", name := "requireNonNull", desc := "(Ljava/lang/Object;Ljava/lang/String;)Ljava/lang/Object;" } : Jvm.MethodName) jdk_31_method_11_code (2 : Nat) (Option.some (Jvm.ClassFile.FieldType.object "java/lang/Object"))).before args0 about1 = true := code_word (m := ⟨12, 1⟩) (meth := k12m1) (c := k12c1) (by decide +kernel) rfl rfl rfl (by decide +kernel)
set_option maxRecDepth 65536 in
theorem w_c5 : (Jvm.Cond.code ({ cls := "com/example/portcullis/portcullis/IpAddress", name := "isIpv4Mapped", desc := "()Z" } : Jvm.MethodName) prog_23_method_3_code (1 : Nat) (Option.some Jvm.ClassFile.FieldType.boolean)).before args0 about1 = true := code_word (m := ⟨3, 1⟩) (meth := k3m1) (c := k3c1) (by decide +kernel) rfl rfl rfl (by decide +kernel)
def codes1 : List Jvm.Cond := [Jvm.Cond.code x code maxLocals ret, Jvm.Cond.code ({ cls := "com/example/portcullis/portcullis/IpAddress", name := "<init>", desc := "(Lcom/example/portcullis/portcullis/IpAddress$Version;JJ)V" } : Jvm.MethodName) prog_23_method_1_code (6 : Nat) (Option.none : Option Jvm.ClassFile.FieldType), Jvm.Cond.code ({ cls := "java/lang/Record", name := "<init>", desc := "()V" } : Jvm.MethodName) jdk_30_method_1_code (1 : Nat) (Option.none : Option Jvm.ClassFile.FieldType), Jvm.Cond.code ({ cls := "java/lang/Object", name := "<init>", desc := "()V" } : Jvm.MethodName) object_method_1_code (1 : Nat) (Option.none : Option Jvm.ClassFile.FieldType), Jvm.Cond.code ({ cls := "java/util/Objects", name := "requireNonNull", desc := "(Ljava/lang/Object;Ljava/lang/String;)Ljava/lang/Object;" } : Jvm.MethodName) jdk_31_method_11_code (2 : Nat) (Option.some (Jvm.ClassFile.FieldType.object "java/lang/Object")), Jvm.Cond.code ({ cls := "com/example/portcullis/portcullis/IpAddress", name := "isIpv4Mapped", desc := "()Z" } : Jvm.MethodName) prog_23_method_3_code (1 : Nat) (Option.some Jvm.ClassFile.FieldType.boolean)]
set_option maxRecDepth 65536 in
theorem codes_eq : words1.filter isCode = codes1 := rfl
theorem w_codes : ∀ c ∈ words1.filter isCode, c.before args0 about1 = true := by
  rw [codes_eq]
  intro c hc
  simp only [codes1, List.mem_cons, List.not_mem_nil, or_false] at hc
  rcases hc with rfl | rfl | rfl | rfl | rfl | rfl
  · exact w_c0
  · exact w_c1
  · exact w_c2
  · exact w_c3
  · exact w_c4
  · exact w_c5
set_option maxRecDepth 65536 in
theorem w_t1 : (words1.take 24).all (fun c => isCode c || c.before args0 about1) = true := by decide +kernel
set_option maxRecDepth 65536 in
theorem w_t2 : ((words1.drop 24).take 24).all (fun c => isCode c || c.before args0 about1) = true := by decide +kernel
set_option maxRecDepth 65536 in
theorem w_t3 : ((words1.drop 24).drop 24).all (fun c => isCode c || c.before args0 about1) = true := by decide +kernel
theorem w_tables : (allAtoms (Jvm.Cond.code x code maxLocals ret :: tables_1)).before args0 about1 = true := by
  rw [allAtoms_all]
  show words1.all (fun c => c.before args0 about1) = true
  refine all_split ?_ w_codes
  rw [← List.take_append_drop 24 words1, List.all_append, w_t1, ← List.take_append_drop 24 (words1.drop 24), List.all_append, w_t2, w_t3]
  rfl
set_option maxRecDepth 65536 in
theorem w_case : (Jvm.Cond.and given_1 narrow_1).before args0 about1 = true := by decide +kernel
theorem w_applies : (headSpec (Jvm.Cond.code x code maxLocals ret :: tables_1) room_1).applies x e0.platform about1 = true :=
  (Spec.applies_iff w_frames).mpr ⟨w_running, w_runnable, w_alone, w_named, w_hears, w_ripe, w_room, w_tables⟩
theorem atStart : AtStart classFile x code maxLocals ret World_1 tables_1 room_1 Calls_1 rest_1 Pre_1 launch0 p0 e0 about1 theMethod args0 below0 :=
  ⟨lists_1, trivial, launch0.admits_env _ _ _, launch0.least_env, fairChoices_fair.cas, fairChoices_fair.clock, w_frames, w_args, w_heap, w_applies, trivial, trivial, w_case⟩
end start1
theorem witness_1 : WitnessClaimed_1 := ⟨start1.p0, start1.e0, start1.about1, start1.theMethod, start1.args0, start1.below0, start1.atStart⟩
end Jvm.Pilot.@@N@@
