import JvmDerived
import JvmDerived.Pilot.@@N@@Statement
import JvmDerived.Pilot.@@N@@Code
set_option linter.unusedVariables false
set_option linter.unusedSimpArgs false
namespace Jvm.RoadKit
open Sem ClassFile Op Lib Jvm.Stand Jvm.Free Jvm.LawKit
section New
variable {p : Program} {l : Launch} {e : Env} {R : Room} {s : State} {m : MethodId} {args : Array Value} {below : List Frame} {meth : Method} {c : Code} {T : State} {locs : List Loc} {cells slots : Nat}
theorem retI (X : Stand p l e R s m args below meth c T locs cells slots) (hx : p.tables.exec = Jvm.exec) {pc : Nat} {Ls : Array Slot} {z : Int32} {rest : List Value} (hret : meth.sig.returnType = some .int) (hd : decode c.code pc = .ok (.ireturn, 1)) {fs : List Frame}
    (hl : ∀ (f : JFrame) (acts : List Action), f.method = m → f.locked = none → f.entered = [] → (doReturn e (T.setTop f) acts (some (.int z))).1 = T.setFrames fs) : Steps p.tables e below (T.setTop (mkF m pc Ls (.int z :: rest))) (T.setFrames fs) := by
  have hm' : T.vm.method? m = some meth := X.method'
  have hn : narrow .int (.int z) = .int z := rfl
  show Steps p.tables e below (T.setTop { method := m, pc := pc, locals := Ls, stack := _ :: rest, locked := none }) _
  jvm_step X.here [X.here.top, hx, hd, hm', hret, hn]
  first | (intro acts; rw [hl _ acts rfl rfl rfl]) | rw [hl _ _ rfl rfl rfl]
  exact Steps.refl _
end New
end Jvm.RoadKit
namespace Jvm.Pilot.@@N@@
open Jvm Jvm.ClassFile Sem Op Lib Jvm.Free Jvm.Stand Jvm.LawKit Jvm.RoadKit Bundle Jvm.Pilot.@@N@@.Jvm.D
theorem own_fld {s : State} {args : Array Value} {t : Term} {C n d : String} {x : Addr} {k : Int32} (ht : t.eval args s none [] s = some (.ref x)) (h : (Jvm.Cond.eq (Jvm.Term.field t C n d) (Jvm.Term.int k)).value args s none s [] = some true) : Fld s s.heap x C n d (.int k) := by
  have e1 := fld_at (C := C) (n := n) (dd := d) ht
  refine Fld.start ?_
  cases hq : s.fieldOf? x C n d with
  | none => rw [hq] at e1; simp [Cond.value, e1] at h
  | some v =>
    rw [hq] at e1
    have e2 : (Jvm.Term.int k).eval args s none [] s = some (.int k) := rfl
    cases v <;> simp [Cond.value, e1, e2] at h
    rw [h]
theorem own_ne {Z : State} {h : Heap} {a b : Addr} {C n d : String} {v w : Value} (F : Fld Z h a C n d v) (G : Fld Z h b C n d w) (hn : v ≠ w) : a ≠ b := fun e => by
  subst e
  obtain ⟨c1, cf1, k1, i1, f1, a1, a2, -, -, -, -, a7⟩ := F
  obtain ⟨c2, cf2, k2, i2, f2, b1, b2, -, -, -, -, b7⟩ := G
  cases a1.symm.trans b1
  cases a2.symm.trans b2
  exact hn (Option.some.inj (a7.symm.trans b7))
theorem d1_0 : decode prog_33_method_7_code 0 = .ok (.aload_n 0, 1) := by decide +kernel
theorem d1_1 : decode prog_33_method_7_code 1 = .ok (.getfield 106, 3) := by decide +kernel
theorem d1_4 : decode prog_33_method_7_code 4 = .ok (.ifCond .ne 15, 3) := by decide +kernel
theorem d1_19 : decode prog_33_method_7_code 19 = .ok (.iconst 0, 1) := by decide +kernel
theorem d1_20 : decode prog_33_method_7_code 20 = .ok (.ireturn, 1) := by decide +kernel
theorem pn_1 : plainName "com/example/tupletree/tupletree/query/Function" = true := by first | (simp [plainName, overriddenIn]; done) | decide +kernel
theorem ef_1 (m : MethodId) (x0 : Addr) : entryFrame m #[(.ref x0)] 1 = mkF m 0 #[.val (.ref x0)] [] := by first | (simp [entryFrame, mkF, argsToLocals, Value.category]; done) | rfl
def Q1_t (Z : State) (a1 : Addr) (w2 : Int32) (h0 : Heap) (n0 : Nat) (v : Option Value) (h : Heap) (L : List Loc) : Prop := v = some (.int (0 : Int32)) ∧ Fr n0 L ∧ h = h0
set_option maxRecDepth 65536 in
set_option maxHeartbeats 40000000 in
theorem rm1_t (l : Launch) (Z : State) (a0 : Array Value) (hw : ∀ d ∈ tables_1, d.before a0 Z = true) (ws : List Jvm.Cond) (a1 : Addr) (w2 : Int32) (h0 : Heap) (n0 : Nat) (Z0 : n0 ≤ h0.size) (F_fewest_a1 : Fld Z h0 a1 "com/example/tupletree/tupletree/query/Function" "fewest" "I" (.int w2)) (hc4 : ¬ (w2 = (0 : Int32))) :
    MetFree l (⟨"com/example/tupletree/tupletree/query/Function", "ofContext", "()Z"⟩ : MethodName) (head1 (Jvm.Cond.code (⟨"com/example/tupletree/tupletree/query/Function", "ofContext", "()Z"⟩ : MethodName) prog_33_method_7_code 1 (some .boolean) :: ws) ({ frames := 0, cells := 0, slots := 0, locals := 0 } : Room)) (fun a U => a = #[(.ref a1)] ∧ Z.Warmed39 U.vm ∧ U.heap = h0) (fun _ _ _ _ _ => True) (fun _ U o U' => ∃ v L, o = .returned v ∧ Q1_t Z a1 w2 h0 n0 v U'.heap L ∧ FrameEnd U o U' L ({ frames := 0, cells := 0, slots := 0, locals := 0 } : Room).cells ({ frames := 0, cells := 0, slots := 0, locals := 0 } : Room).slots) := by
  refine MetFree.of_bodySF (plainFor_of_name pn_1) hisR ?_
  intro p e s m args below meth c s₁ Bd hml0 hP hK
  obtain ⟨rfl, hZ, hh⟩ := hP
  have hx := Bd.exec
  have hby := Bd.bytes
  have hml : c.maxLocals = 1 := hml0
  have hown : s.vm.findClass "com/example/tupletree/tupletree/query/Function" = some m.cls := findClass_of_methodNamed Bd.named
  have hnm := (name_of_methodNamed Bd.named Bd.method).1
  have X0 : Stand p l e ({ frames := 0, cells := 0, slots := 0, locals := 0 } : Room) s m #[(.ref a1)] below meth c s₁ [] 0 0 := Stand.of_body Bd
  have e0 : s₁.heap = h0 := by rw [← hh, Bd.state]; rfl
  have N0 := Fr.nil n0
  have pre0 : ∀ t, Steps p.tables e below (s₁.setTop (mkF m 0 #[.val (.ref a1)] [])) t → Steps p.tables e below (s₁.setTop (entryFrame m #[(.ref a1)] 1)) t := fun t k => castTop (ef_1 m a1) k
  obtain ⟨T3, X3, e3, st3⟩ := getF X0 hx hZ hown (host := "") (Or.inl (hw _ (List.mem_of_getElem? (i := 60) rfl))) Via.refl e0 F_fewest_a1 (g := (mkF m 1 #[.val (.ref a1)] [(.ref a1)])) rfl rfl (hb hby d1_1)
  obtain ⟨fs, hr, hrun, hended, hW, hsame⟩ := X3.leave (v := some (.int (0 : Int32))) (fun h => by rw [Bd.returns] at h; cases h)
  refine ⟨_, _, pre0 _ ?_, hrun, hended, _, _, rfl, ?_, ⟨_, rfl⟩, hW, hsame.mono (by decide) (by decide)⟩
  · show Steps p.tables e below (s₁.setTop (mkF m 0 #[.val (.ref a1)] [])) _
    refine XS.aloadN X0.here hx rfl (hb hby d1_0) rfl rfl ?_
    show Steps p.tables e below (s₁.setTop (mkF m 1 #[.val (.ref a1)] [(.ref a1)])) _
    refine st3 _ ?_
    show Steps p.tables e below (T3.setTop (mkF m 4 #[.val (.ref a1)] [(.int w2)])) _
    refine XS.ifYes X3.here hx rfl (pc0 := 4) (pc' := 19) rfl (hb hby d1_4) rfl ((if0 _ _).trans (feq hc4).2) (by decide) (by decide) ?_
    show Steps p.tables e below (T3.setTop (mkF m 19 #[.val (.ref a1)] [])) _
    refine XS.iconst X3.here hx rfl (hb hby d1_19) ?_
    show Steps p.tables e below (T3.setTop (mkF m 20 #[.val (.ref a1)] [(.int (0 : Int32))])) _
    exact retN X3 hx (t := .boolean) Bd.returns (by simp) (hb hby d1_20) hr
  · show Q1_t Z a1 w2 h0 n0 _ T3.heap _
    rw [e3]
    exact ⟨rfl, N0, rfl⟩
theorem d1_7 : decode prog_33_method_7_code 7 = .ok (.aload_n 0, 1) := by decide +kernel
theorem d1_8 : decode prog_33_method_7_code 8 = .ok (.getfield 110, 3) := by decide +kernel
theorem d1_11 : decode prog_33_method_7_code 11 = .ok (.iconst 1, 1) := by decide +kernel
theorem d1_12 : decode prog_33_method_7_code 12 = .ok (.if_icmp .ne 7, 3) := by decide +kernel
theorem d1_15 : decode prog_33_method_7_code 15 = .ok (.iconst 1, 1) := by decide +kernel
theorem d1_16 : decode prog_33_method_7_code 16 = .ok (.goto 4, 3) := by decide +kernel
def Q1_ff (Z : State) (a1 : Addr) (w2 : Int32) (w4 : Int32) (h0 : Heap) (n0 : Nat) (v : Option Value) (h : Heap) (L : List Loc) : Prop := v = some (.int (1 : Int32)) ∧ Fr n0 L ∧ h = h0
set_option maxRecDepth 65536 in
set_option maxHeartbeats 40000000 in
theorem rm1_ff (l : Launch) (Z : State) (a0 : Array Value) (hw : ∀ d ∈ tables_1, d.before a0 Z = true) (ws : List Jvm.Cond) (a1 : Addr) (w2 : Int32) (w4 : Int32) (h0 : Heap) (n0 : Nat) (Z0 : n0 ≤ h0.size) (F_fewest_a1 : Fld Z h0 a1 "com/example/tupletree/tupletree/query/Function" "fewest" "I" (.int w2)) (F_most_a1 : Fld Z h0 a1 "com/example/tupletree/tupletree/query/Function" "most" "I" (.int w4)) (hc4 : w2 = (0 : Int32)) (hc12 : w4 = (1 : Int32)) :
    MetFree l (⟨"com/example/tupletree/tupletree/query/Function", "ofContext", "()Z"⟩ : MethodName) (head1 (Jvm.Cond.code (⟨"com/example/tupletree/tupletree/query/Function", "ofContext", "()Z"⟩ : MethodName) prog_33_method_7_code 1 (some .boolean) :: ws) ({ frames := 0, cells := 0, slots := 0, locals := 0 } : Room)) (fun a U => a = #[(.ref a1)] ∧ Z.Warmed39 U.vm ∧ U.heap = h0) (fun _ _ _ _ _ => True) (fun _ U o U' => ∃ v L, o = .returned v ∧ Q1_ff Z a1 w2 w4 h0 n0 v U'.heap L ∧ FrameEnd U o U' L ({ frames := 0, cells := 0, slots := 0, locals := 0 } : Room).cells ({ frames := 0, cells := 0, slots := 0, locals := 0 } : Room).slots) := by
  refine MetFree.of_bodySF (plainFor_of_name pn_1) hisR ?_
  intro p e s m args below meth c s₁ Bd hml0 hP hK
  obtain ⟨rfl, hZ, hh⟩ := hP
  have hx := Bd.exec
  have hby := Bd.bytes
  have hml : c.maxLocals = 1 := hml0
  have hown : s.vm.findClass "com/example/tupletree/tupletree/query/Function" = some m.cls := findClass_of_methodNamed Bd.named
  have hnm := (name_of_methodNamed Bd.named Bd.method).1
  have X0 : Stand p l e ({ frames := 0, cells := 0, slots := 0, locals := 0 } : Room) s m #[(.ref a1)] below meth c s₁ [] 0 0 := Stand.of_body Bd
  have e0 : s₁.heap = h0 := by rw [← hh, Bd.state]; rfl
  have N0 := Fr.nil n0
  have pre0 : ∀ t, Steps p.tables e below (s₁.setTop (mkF m 0 #[.val (.ref a1)] [])) t → Steps p.tables e below (s₁.setTop (entryFrame m #[(.ref a1)] 1)) t := fun t k => castTop (ef_1 m a1) k
  obtain ⟨T3, X3, e3, st3⟩ := getF X0 hx hZ hown (host := "") (Or.inl (hw _ (List.mem_of_getElem? (i := 60) rfl))) Via.refl e0 F_fewest_a1 (g := (mkF m 1 #[.val (.ref a1)] [(.ref a1)])) rfl rfl (hb hby d1_1)
  obtain ⟨T5, X5, e5, st5⟩ := getF X3 hx hZ hown (host := "") (Or.inl (hw _ (List.mem_of_getElem? (i := 62) rfl))) Via.refl e3 F_most_a1 (g := (mkF m 8 #[.val (.ref a1)] [(.ref a1)])) rfl rfl (hb hby d1_8)
  obtain ⟨fs, hr, hrun, hended, hW, hsame⟩ := X5.leave (v := some (.int (1 : Int32))) (fun h => by rw [Bd.returns] at h; cases h)
  refine ⟨_, _, pre0 _ ?_, hrun, hended, _, _, rfl, ?_, ⟨_, rfl⟩, hW, hsame.mono (by decide) (by decide)⟩
  · show Steps p.tables e below (s₁.setTop (mkF m 0 #[.val (.ref a1)] [])) _
    refine XS.aloadN X0.here hx rfl (hb hby d1_0) rfl rfl ?_
    show Steps p.tables e below (s₁.setTop (mkF m 1 #[.val (.ref a1)] [(.ref a1)])) _
    refine st3 _ ?_
    show Steps p.tables e below (T3.setTop (mkF m 4 #[.val (.ref a1)] [(.int w2)])) _
    refine XS.ifNo X3.here hx rfl (hb hby d1_4) rfl ((if0 _ _).trans (teq hc4).2) ?_
    show Steps p.tables e below (T3.setTop (mkF m 7 #[.val (.ref a1)] [])) _
    refine XS.aloadN X3.here hx rfl (hb hby d1_7) rfl rfl ?_
    show Steps p.tables e below (T3.setTop (mkF m 8 #[.val (.ref a1)] [(.ref a1)])) _
    refine st5 _ ?_
    show Steps p.tables e below (T5.setTop (mkF m 11 #[.val (.ref a1)] [(.int w4)])) _
    refine XS.iconst X5.here hx rfl (hb hby d1_11) ?_
    show Steps p.tables e below (T5.setTop (mkF m 12 #[.val (.ref a1)] [(.int (1 : Int32)), (.int w4)])) _
    refine XS.icmpNo X5.here hx rfl (hb hby d1_12) rfl (teq hc12).2 ?_
    show Steps p.tables e below (T5.setTop (mkF m 15 #[.val (.ref a1)] [])) _
    refine XS.iconst X5.here hx rfl (hb hby d1_15) ?_
    show Steps p.tables e below (T5.setTop (mkF m 16 #[.val (.ref a1)] [(.int (1 : Int32))])) _
    refine XS.goto X5.here hx rfl (pc0 := 16) (pc' := 20) rfl (hb hby d1_16) (by decide) (by decide) ?_
    show Steps p.tables e below (T5.setTop (mkF m 20 #[.val (.ref a1)] [(.int (1 : Int32))])) _
    exact retN X5 hx (t := .boolean) Bd.returns (by simp) (hb hby d1_20) hr
  · show Q1_ff Z a1 w2 w4 h0 n0 _ T5.heap _
    rw [e5]
    exact ⟨rfl, N0, rfl⟩
def Q1_ft (Z : State) (a1 : Addr) (w2 : Int32) (w4 : Int32) (h0 : Heap) (n0 : Nat) (v : Option Value) (h : Heap) (L : List Loc) : Prop := v = some (.int (0 : Int32)) ∧ Fr n0 L ∧ h = h0
set_option maxRecDepth 65536 in
set_option maxHeartbeats 40000000 in
theorem rm1_ft (l : Launch) (Z : State) (a0 : Array Value) (hw : ∀ d ∈ tables_1, d.before a0 Z = true) (ws : List Jvm.Cond) (a1 : Addr) (w2 : Int32) (w4 : Int32) (h0 : Heap) (n0 : Nat) (Z0 : n0 ≤ h0.size) (F_fewest_a1 : Fld Z h0 a1 "com/example/tupletree/tupletree/query/Function" "fewest" "I" (.int w2)) (F_most_a1 : Fld Z h0 a1 "com/example/tupletree/tupletree/query/Function" "most" "I" (.int w4)) (hc4 : w2 = (0 : Int32)) (hc12 : ¬ (w4 = (1 : Int32))) :
    MetFree l (⟨"com/example/tupletree/tupletree/query/Function", "ofContext", "()Z"⟩ : MethodName) (head1 (Jvm.Cond.code (⟨"com/example/tupletree/tupletree/query/Function", "ofContext", "()Z"⟩ : MethodName) prog_33_method_7_code 1 (some .boolean) :: ws) ({ frames := 0, cells := 0, slots := 0, locals := 0 } : Room)) (fun a U => a = #[(.ref a1)] ∧ Z.Warmed39 U.vm ∧ U.heap = h0) (fun _ _ _ _ _ => True) (fun _ U o U' => ∃ v L, o = .returned v ∧ Q1_ft Z a1 w2 w4 h0 n0 v U'.heap L ∧ FrameEnd U o U' L ({ frames := 0, cells := 0, slots := 0, locals := 0 } : Room).cells ({ frames := 0, cells := 0, slots := 0, locals := 0 } : Room).slots) := by
  refine MetFree.of_bodySF (plainFor_of_name pn_1) hisR ?_
  intro p e s m args below meth c s₁ Bd hml0 hP hK
  obtain ⟨rfl, hZ, hh⟩ := hP
  have hx := Bd.exec
  have hby := Bd.bytes
  have hml : c.maxLocals = 1 := hml0
  have hown : s.vm.findClass "com/example/tupletree/tupletree/query/Function" = some m.cls := findClass_of_methodNamed Bd.named
  have hnm := (name_of_methodNamed Bd.named Bd.method).1
  have X0 : Stand p l e ({ frames := 0, cells := 0, slots := 0, locals := 0 } : Room) s m #[(.ref a1)] below meth c s₁ [] 0 0 := Stand.of_body Bd
  have e0 : s₁.heap = h0 := by rw [← hh, Bd.state]; rfl
  have N0 := Fr.nil n0
  have pre0 : ∀ t, Steps p.tables e below (s₁.setTop (mkF m 0 #[.val (.ref a1)] [])) t → Steps p.tables e below (s₁.setTop (entryFrame m #[(.ref a1)] 1)) t := fun t k => castTop (ef_1 m a1) k
  obtain ⟨T3, X3, e3, st3⟩ := getF X0 hx hZ hown (host := "") (Or.inl (hw _ (List.mem_of_getElem? (i := 60) rfl))) Via.refl e0 F_fewest_a1 (g := (mkF m 1 #[.val (.ref a1)] [(.ref a1)])) rfl rfl (hb hby d1_1)
  obtain ⟨T5, X5, e5, st5⟩ := getF X3 hx hZ hown (host := "") (Or.inl (hw _ (List.mem_of_getElem? (i := 62) rfl))) Via.refl e3 F_most_a1 (g := (mkF m 8 #[.val (.ref a1)] [(.ref a1)])) rfl rfl (hb hby d1_8)
  obtain ⟨fs, hr, hrun, hended, hW, hsame⟩ := X5.leave (v := some (.int (0 : Int32))) (fun h => by rw [Bd.returns] at h; cases h)
  refine ⟨_, _, pre0 _ ?_, hrun, hended, _, _, rfl, ?_, ⟨_, rfl⟩, hW, hsame.mono (by decide) (by decide)⟩
  · show Steps p.tables e below (s₁.setTop (mkF m 0 #[.val (.ref a1)] [])) _
    refine XS.aloadN X0.here hx rfl (hb hby d1_0) rfl rfl ?_
    show Steps p.tables e below (s₁.setTop (mkF m 1 #[.val (.ref a1)] [(.ref a1)])) _
    refine st3 _ ?_
    show Steps p.tables e below (T3.setTop (mkF m 4 #[.val (.ref a1)] [(.int w2)])) _
    refine XS.ifNo X3.here hx rfl (hb hby d1_4) rfl ((if0 _ _).trans (teq hc4).2) ?_
    show Steps p.tables e below (T3.setTop (mkF m 7 #[.val (.ref a1)] [])) _
    refine XS.aloadN X3.here hx rfl (hb hby d1_7) rfl rfl ?_
    show Steps p.tables e below (T3.setTop (mkF m 8 #[.val (.ref a1)] [(.ref a1)])) _
    refine st5 _ ?_
    show Steps p.tables e below (T5.setTop (mkF m 11 #[.val (.ref a1)] [(.int w4)])) _
    refine XS.iconst X5.here hx rfl (hb hby d1_11) ?_
    show Steps p.tables e below (T5.setTop (mkF m 12 #[.val (.ref a1)] [(.int (1 : Int32)), (.int w4)])) _
    refine XS.icmpYes X5.here hx rfl (pc0 := 12) (pc' := 19) rfl (hb hby d1_12) rfl (feq hc12).2 (by decide) (by decide) ?_
    show Steps p.tables e below (T5.setTop (mkF m 19 #[.val (.ref a1)] [])) _
    refine XS.iconst X5.here hx rfl (hb hby d1_19) ?_
    show Steps p.tables e below (T5.setTop (mkF m 20 #[.val (.ref a1)] [(.int (0 : Int32))])) _
    exact retN X5 hx (t := .boolean) Bd.returns (by simp) (hb hby d1_20) hr
  · show Q1_ft Z a1 w2 w4 h0 n0 _ T5.heap _
    rw [e5]
    exact ⟨rfl, N0, rfl⟩
theorem d2_0 : decode prog_33_method_6_code 0 = .ok (.iload_n 1, 1) := by decide +kernel
theorem d2_1 : decode prog_33_method_6_code 1 = .ok (.aload_n 0, 1) := by decide +kernel
theorem d2_2 : decode prog_33_method_6_code 2 = .ok (.getfield 106, 3) := by decide +kernel
theorem d2_5 : decode prog_33_method_6_code 5 = .ok (.if_icmp .lt 15, 3) := by decide +kernel
theorem d2_20 : decode prog_33_method_6_code 20 = .ok (.iconst 0, 1) := by decide +kernel
theorem d2_21 : decode prog_33_method_6_code 21 = .ok (.ireturn, 1) := by decide +kernel
theorem pn_2 : plainName "com/example/tupletree/tupletree/query/Function" = true := by first | (simp [plainName, overriddenIn]; done) | decide +kernel
theorem ef_2 (m : MethodId) (x0 : Addr) (x1 : Int32) : entryFrame m #[(.ref x0), (.int x1)] 2 = mkF m 0 #[.val (.ref x0), .val (.int x1)] [] := by first | (simp [entryFrame, mkF, argsToLocals, Value.category]; done) | rfl
def Q2_t (Z : State) (a1 : Addr) (p2 : Int32) (w3 : Int32) (h0 : Heap) (n0 : Nat) (v : Option Value) (h : Heap) (L : List Loc) : Prop := v = some (.int (0 : Int32)) ∧ Fr n0 L ∧ h = h0
set_option maxRecDepth 65536 in
set_option maxHeartbeats 40000000 in
theorem rm2_t (l : Launch) (Z : State) (a0 : Array Value) (hw : ∀ d ∈ tables_1, d.before a0 Z = true) (ws : List Jvm.Cond) (a1 : Addr) (p2 : Int32) (w3 : Int32) (h0 : Heap) (n0 : Nat) (Z0 : n0 ≤ h0.size) (F_fewest_a1 : Fld Z h0 a1 "com/example/tupletree/tupletree/query/Function" "fewest" "I" (.int w3)) (hc5 : p2 < w3) :
    MetFree l (⟨"com/example/tupletree/tupletree/query/Function", "takes", "(I)Z"⟩ : MethodName) (head1 (Jvm.Cond.code (⟨"com/example/tupletree/tupletree/query/Function", "takes", "(I)Z"⟩ : MethodName) prog_33_method_6_code 2 (some .boolean) :: ws) ({ frames := 0, cells := 0, slots := 0, locals := 0 } : Room)) (fun a U => a = #[(.ref a1), (.int p2)] ∧ Z.Warmed39 U.vm ∧ U.heap = h0) (fun _ _ _ _ _ => True) (fun _ U o U' => ∃ v L, o = .returned v ∧ Q2_t Z a1 p2 w3 h0 n0 v U'.heap L ∧ FrameEnd U o U' L ({ frames := 0, cells := 0, slots := 0, locals := 0 } : Room).cells ({ frames := 0, cells := 0, slots := 0, locals := 0 } : Room).slots) := by
  refine MetFree.of_bodySF (plainFor_of_name pn_2) hisR ?_
  intro p e s m args below meth c s₁ Bd hml0 hP hK
  obtain ⟨rfl, hZ, hh⟩ := hP
  have hx := Bd.exec
  have hby := Bd.bytes
  have hml : c.maxLocals = 2 := hml0
  have hown : s.vm.findClass "com/example/tupletree/tupletree/query/Function" = some m.cls := findClass_of_methodNamed Bd.named
  have hnm := (name_of_methodNamed Bd.named Bd.method).1
  have X0 : Stand p l e ({ frames := 0, cells := 0, slots := 0, locals := 0 } : Room) s m #[(.ref a1), (.int p2)] below meth c s₁ [] 0 0 := Stand.of_body Bd
  have e0 : s₁.heap = h0 := by rw [← hh, Bd.state]; rfl
  have N0 := Fr.nil n0
  have pre0 : ∀ t, Steps p.tables e below (s₁.setTop (mkF m 0 #[.val (.ref a1), .val (.int p2)] [])) t → Steps p.tables e below (s₁.setTop (entryFrame m #[(.ref a1), (.int p2)] 2)) t := fun t k => castTop (ef_2 m a1 p2) k
  obtain ⟨T4, X4, e4, st4⟩ := getF X0 hx hZ hown (host := "") (Or.inl (hw _ (List.mem_of_getElem? (i := 60) rfl))) Via.refl e0 F_fewest_a1 (g := (mkF m 2 #[.val (.ref a1), .val (.int p2)] [(.ref a1), (.int p2)])) rfl rfl (hb hby d2_2)
  obtain ⟨fs, hr, hrun, hended, hW, hsame⟩ := X4.leave (v := some (.int (0 : Int32))) (fun h => by rw [Bd.returns] at h; cases h)
  refine ⟨_, _, pre0 _ ?_, hrun, hended, _, _, rfl, ?_, ⟨_, rfl⟩, hW, hsame.mono (by decide) (by decide)⟩
  · show Steps p.tables e below (s₁.setTop (mkF m 0 #[.val (.ref a1), .val (.int p2)] [])) _
    refine XS.iloadN X0.here hx rfl (hb hby d2_0) rfl ?_
    show Steps p.tables e below (s₁.setTop (mkF m 1 #[.val (.ref a1), .val (.int p2)] [(.int p2)])) _
    refine XS.aloadN X0.here hx rfl (hb hby d2_1) rfl rfl ?_
    show Steps p.tables e below (s₁.setTop (mkF m 2 #[.val (.ref a1), .val (.int p2)] [(.ref a1), (.int p2)])) _
    refine st4 _ ?_
    show Steps p.tables e below (T4.setTop (mkF m 5 #[.val (.ref a1), .val (.int p2)] [(.int w3), (.int p2)])) _
    refine XS.icmpYes X4.here hx rfl (pc0 := 5) (pc' := 20) rfl (hb hby d2_5) rfl (tlt hc5).1 (by decide) (by decide) ?_
    show Steps p.tables e below (T4.setTop (mkF m 20 #[.val (.ref a1), .val (.int p2)] [])) _
    refine XS.iconst X4.here hx rfl (hb hby d2_20) ?_
    show Steps p.tables e below (T4.setTop (mkF m 21 #[.val (.ref a1), .val (.int p2)] [(.int (0 : Int32))])) _
    exact retN X4 hx (t := .boolean) Bd.returns (by simp) (hb hby d2_21) hr
  · show Q2_t Z a1 p2 w3 h0 n0 _ T4.heap _
    rw [e4]
    exact ⟨rfl, N0, rfl⟩
theorem d2_8 : decode prog_33_method_6_code 8 = .ok (.iload_n 1, 1) := by decide +kernel
theorem d2_9 : decode prog_33_method_6_code 9 = .ok (.aload_n 0, 1) := by decide +kernel
theorem d2_10 : decode prog_33_method_6_code 10 = .ok (.getfield 110, 3) := by decide +kernel
theorem d2_13 : decode prog_33_method_6_code 13 = .ok (.if_icmp .gt 7, 3) := by decide +kernel
theorem d2_16 : decode prog_33_method_6_code 16 = .ok (.iconst 1, 1) := by decide +kernel
theorem d2_17 : decode prog_33_method_6_code 17 = .ok (.goto 4, 3) := by decide +kernel
def Q2_ff (Z : State) (a1 : Addr) (p2 : Int32) (w3 : Int32) (w5 : Int32) (h0 : Heap) (n0 : Nat) (v : Option Value) (h : Heap) (L : List Loc) : Prop := v = some (.int (1 : Int32)) ∧ Fr n0 L ∧ h = h0
set_option maxRecDepth 65536 in
set_option maxHeartbeats 40000000 in
theorem rm2_ff (l : Launch) (Z : State) (a0 : Array Value) (hw : ∀ d ∈ tables_1, d.before a0 Z = true) (ws : List Jvm.Cond) (a1 : Addr) (p2 : Int32) (w3 : Int32) (w5 : Int32) (h0 : Heap) (n0 : Nat) (Z0 : n0 ≤ h0.size) (F_fewest_a1 : Fld Z h0 a1 "com/example/tupletree/tupletree/query/Function" "fewest" "I" (.int w3)) (F_most_a1 : Fld Z h0 a1 "com/example/tupletree/tupletree/query/Function" "most" "I" (.int w5)) (hc5 : ¬ (p2 < w3)) (hc13 : ¬ (w5 < p2)) :
    MetFree l (⟨"com/example/tupletree/tupletree/query/Function", "takes", "(I)Z"⟩ : MethodName) (head1 (Jvm.Cond.code (⟨"com/example/tupletree/tupletree/query/Function", "takes", "(I)Z"⟩ : MethodName) prog_33_method_6_code 2 (some .boolean) :: ws) ({ frames := 0, cells := 0, slots := 0, locals := 0 } : Room)) (fun a U => a = #[(.ref a1), (.int p2)] ∧ Z.Warmed39 U.vm ∧ U.heap = h0) (fun _ _ _ _ _ => True) (fun _ U o U' => ∃ v L, o = .returned v ∧ Q2_ff Z a1 p2 w3 w5 h0 n0 v U'.heap L ∧ FrameEnd U o U' L ({ frames := 0, cells := 0, slots := 0, locals := 0 } : Room).cells ({ frames := 0, cells := 0, slots := 0, locals := 0 } : Room).slots) := by
  refine MetFree.of_bodySF (plainFor_of_name pn_2) hisR ?_
  intro p e s m args below meth c s₁ Bd hml0 hP hK
  obtain ⟨rfl, hZ, hh⟩ := hP
  have hx := Bd.exec
  have hby := Bd.bytes
  have hml : c.maxLocals = 2 := hml0
  have hown : s.vm.findClass "com/example/tupletree/tupletree/query/Function" = some m.cls := findClass_of_methodNamed Bd.named
  have hnm := (name_of_methodNamed Bd.named Bd.method).1
  have X0 : Stand p l e ({ frames := 0, cells := 0, slots := 0, locals := 0 } : Room) s m #[(.ref a1), (.int p2)] below meth c s₁ [] 0 0 := Stand.of_body Bd
  have e0 : s₁.heap = h0 := by rw [← hh, Bd.state]; rfl
  have N0 := Fr.nil n0
  have pre0 : ∀ t, Steps p.tables e below (s₁.setTop (mkF m 0 #[.val (.ref a1), .val (.int p2)] [])) t → Steps p.tables e below (s₁.setTop (entryFrame m #[(.ref a1), (.int p2)] 2)) t := fun t k => castTop (ef_2 m a1 p2) k
  obtain ⟨T4, X4, e4, st4⟩ := getF X0 hx hZ hown (host := "") (Or.inl (hw _ (List.mem_of_getElem? (i := 60) rfl))) Via.refl e0 F_fewest_a1 (g := (mkF m 2 #[.val (.ref a1), .val (.int p2)] [(.ref a1), (.int p2)])) rfl rfl (hb hby d2_2)
  obtain ⟨T6, X6, e6, st6⟩ := getF X4 hx hZ hown (host := "") (Or.inl (hw _ (List.mem_of_getElem? (i := 62) rfl))) Via.refl e4 F_most_a1 (g := (mkF m 10 #[.val (.ref a1), .val (.int p2)] [(.ref a1), (.int p2)])) rfl rfl (hb hby d2_10)
  obtain ⟨fs, hr, hrun, hended, hW, hsame⟩ := X6.leave (v := some (.int (1 : Int32))) (fun h => by rw [Bd.returns] at h; cases h)
  refine ⟨_, _, pre0 _ ?_, hrun, hended, _, _, rfl, ?_, ⟨_, rfl⟩, hW, hsame.mono (by decide) (by decide)⟩
  · show Steps p.tables e below (s₁.setTop (mkF m 0 #[.val (.ref a1), .val (.int p2)] [])) _
    refine XS.iloadN X0.here hx rfl (hb hby d2_0) rfl ?_
    show Steps p.tables e below (s₁.setTop (mkF m 1 #[.val (.ref a1), .val (.int p2)] [(.int p2)])) _
    refine XS.aloadN X0.here hx rfl (hb hby d2_1) rfl rfl ?_
    show Steps p.tables e below (s₁.setTop (mkF m 2 #[.val (.ref a1), .val (.int p2)] [(.ref a1), (.int p2)])) _
    refine st4 _ ?_
    show Steps p.tables e below (T4.setTop (mkF m 5 #[.val (.ref a1), .val (.int p2)] [(.int w3), (.int p2)])) _
    refine XS.icmpNo X4.here hx rfl (hb hby d2_5) rfl (flt hc5).1 ?_
    show Steps p.tables e below (T4.setTop (mkF m 8 #[.val (.ref a1), .val (.int p2)] [])) _
    refine XS.iloadN X4.here hx rfl (hb hby d2_8) rfl ?_
    show Steps p.tables e below (T4.setTop (mkF m 9 #[.val (.ref a1), .val (.int p2)] [(.int p2)])) _
    refine XS.aloadN X4.here hx rfl (hb hby d2_9) rfl rfl ?_
    show Steps p.tables e below (T4.setTop (mkF m 10 #[.val (.ref a1), .val (.int p2)] [(.ref a1), (.int p2)])) _
    refine st6 _ ?_
    show Steps p.tables e below (T6.setTop (mkF m 13 #[.val (.ref a1), .val (.int p2)] [(.int w5), (.int p2)])) _
    refine XS.icmpNo X6.here hx rfl (hb hby d2_13) rfl (flt hc13).2.2.1 ?_
    show Steps p.tables e below (T6.setTop (mkF m 16 #[.val (.ref a1), .val (.int p2)] [])) _
    refine XS.iconst X6.here hx rfl (hb hby d2_16) ?_
    show Steps p.tables e below (T6.setTop (mkF m 17 #[.val (.ref a1), .val (.int p2)] [(.int (1 : Int32))])) _
    refine XS.goto X6.here hx rfl (pc0 := 17) (pc' := 21) rfl (hb hby d2_17) (by decide) (by decide) ?_
    show Steps p.tables e below (T6.setTop (mkF m 21 #[.val (.ref a1), .val (.int p2)] [(.int (1 : Int32))])) _
    exact retN X6 hx (t := .boolean) Bd.returns (by simp) (hb hby d2_21) hr
  · show Q2_ff Z a1 p2 w3 w5 h0 n0 _ T6.heap _
    rw [e6]
    exact ⟨rfl, N0, rfl⟩
def Q2_ft (Z : State) (a1 : Addr) (p2 : Int32) (w3 : Int32) (w5 : Int32) (h0 : Heap) (n0 : Nat) (v : Option Value) (h : Heap) (L : List Loc) : Prop := v = some (.int (0 : Int32)) ∧ Fr n0 L ∧ h = h0
set_option maxRecDepth 65536 in
set_option maxHeartbeats 40000000 in
theorem rm2_ft (l : Launch) (Z : State) (a0 : Array Value) (hw : ∀ d ∈ tables_1, d.before a0 Z = true) (ws : List Jvm.Cond) (a1 : Addr) (p2 : Int32) (w3 : Int32) (w5 : Int32) (h0 : Heap) (n0 : Nat) (Z0 : n0 ≤ h0.size) (F_fewest_a1 : Fld Z h0 a1 "com/example/tupletree/tupletree/query/Function" "fewest" "I" (.int w3)) (F_most_a1 : Fld Z h0 a1 "com/example/tupletree/tupletree/query/Function" "most" "I" (.int w5)) (hc5 : ¬ (p2 < w3)) (hc13 : w5 < p2) :
    MetFree l (⟨"com/example/tupletree/tupletree/query/Function", "takes", "(I)Z"⟩ : MethodName) (head1 (Jvm.Cond.code (⟨"com/example/tupletree/tupletree/query/Function", "takes", "(I)Z"⟩ : MethodName) prog_33_method_6_code 2 (some .boolean) :: ws) ({ frames := 0, cells := 0, slots := 0, locals := 0 } : Room)) (fun a U => a = #[(.ref a1), (.int p2)] ∧ Z.Warmed39 U.vm ∧ U.heap = h0) (fun _ _ _ _ _ => True) (fun _ U o U' => ∃ v L, o = .returned v ∧ Q2_ft Z a1 p2 w3 w5 h0 n0 v U'.heap L ∧ FrameEnd U o U' L ({ frames := 0, cells := 0, slots := 0, locals := 0 } : Room).cells ({ frames := 0, cells := 0, slots := 0, locals := 0 } : Room).slots) := by
  refine MetFree.of_bodySF (plainFor_of_name pn_2) hisR ?_
  intro p e s m args below meth c s₁ Bd hml0 hP hK
  obtain ⟨rfl, hZ, hh⟩ := hP
  have hx := Bd.exec
  have hby := Bd.bytes
  have hml : c.maxLocals = 2 := hml0
  have hown : s.vm.findClass "com/example/tupletree/tupletree/query/Function" = some m.cls := findClass_of_methodNamed Bd.named
  have hnm := (name_of_methodNamed Bd.named Bd.method).1
  have X0 : Stand p l e ({ frames := 0, cells := 0, slots := 0, locals := 0 } : Room) s m #[(.ref a1), (.int p2)] below meth c s₁ [] 0 0 := Stand.of_body Bd
  have e0 : s₁.heap = h0 := by rw [← hh, Bd.state]; rfl
  have N0 := Fr.nil n0
  have pre0 : ∀ t, Steps p.tables e below (s₁.setTop (mkF m 0 #[.val (.ref a1), .val (.int p2)] [])) t → Steps p.tables e below (s₁.setTop (entryFrame m #[(.ref a1), (.int p2)] 2)) t := fun t k => castTop (ef_2 m a1 p2) k
  obtain ⟨T4, X4, e4, st4⟩ := getF X0 hx hZ hown (host := "") (Or.inl (hw _ (List.mem_of_getElem? (i := 60) rfl))) Via.refl e0 F_fewest_a1 (g := (mkF m 2 #[.val (.ref a1), .val (.int p2)] [(.ref a1), (.int p2)])) rfl rfl (hb hby d2_2)
  obtain ⟨T6, X6, e6, st6⟩ := getF X4 hx hZ hown (host := "") (Or.inl (hw _ (List.mem_of_getElem? (i := 62) rfl))) Via.refl e4 F_most_a1 (g := (mkF m 10 #[.val (.ref a1), .val (.int p2)] [(.ref a1), (.int p2)])) rfl rfl (hb hby d2_10)
  obtain ⟨fs, hr, hrun, hended, hW, hsame⟩ := X6.leave (v := some (.int (0 : Int32))) (fun h => by rw [Bd.returns] at h; cases h)
  refine ⟨_, _, pre0 _ ?_, hrun, hended, _, _, rfl, ?_, ⟨_, rfl⟩, hW, hsame.mono (by decide) (by decide)⟩
  · show Steps p.tables e below (s₁.setTop (mkF m 0 #[.val (.ref a1), .val (.int p2)] [])) _
    refine XS.iloadN X0.here hx rfl (hb hby d2_0) rfl ?_
    show Steps p.tables e below (s₁.setTop (mkF m 1 #[.val (.ref a1), .val (.int p2)] [(.int p2)])) _
    refine XS.aloadN X0.here hx rfl (hb hby d2_1) rfl rfl ?_
    show Steps p.tables e below (s₁.setTop (mkF m 2 #[.val (.ref a1), .val (.int p2)] [(.ref a1), (.int p2)])) _
    refine st4 _ ?_
    show Steps p.tables e below (T4.setTop (mkF m 5 #[.val (.ref a1), .val (.int p2)] [(.int w3), (.int p2)])) _
    refine XS.icmpNo X4.here hx rfl (hb hby d2_5) rfl (flt hc5).1 ?_
    show Steps p.tables e below (T4.setTop (mkF m 8 #[.val (.ref a1), .val (.int p2)] [])) _
    refine XS.iloadN X4.here hx rfl (hb hby d2_8) rfl ?_
    show Steps p.tables e below (T4.setTop (mkF m 9 #[.val (.ref a1), .val (.int p2)] [(.int p2)])) _
    refine XS.aloadN X4.here hx rfl (hb hby d2_9) rfl rfl ?_
    show Steps p.tables e below (T4.setTop (mkF m 10 #[.val (.ref a1), .val (.int p2)] [(.ref a1), (.int p2)])) _
    refine st6 _ ?_
    show Steps p.tables e below (T6.setTop (mkF m 13 #[.val (.ref a1), .val (.int p2)] [(.int w5), (.int p2)])) _
    refine XS.icmpYes X6.here hx rfl (pc0 := 13) (pc' := 20) rfl (hb hby d2_13) rfl (tlt hc13).2.2.1 (by decide) (by decide) ?_
    show Steps p.tables e below (T6.setTop (mkF m 20 #[.val (.ref a1), .val (.int p2)] [])) _
    refine XS.iconst X6.here hx rfl (hb hby d2_20) ?_
    show Steps p.tables e below (T6.setTop (mkF m 21 #[.val (.ref a1), .val (.int p2)] [(.int (0 : Int32))])) _
    exact retN X6 hx (t := .boolean) Bd.returns (by simp) (hb hby d2_21) hr
  · show Q2_ft Z a1 p2 w3 w5 h0 n0 _ T6.heap _
    rw [e6]
    exact ⟨rfl, N0, rfl⟩
set_option maxRecDepth 65536 in
set_option maxHeartbeats 40000000 in
theorem tn0_187_233_t {p : Program} {l : Launch} {e : Env} {R : Room} {s : State} {m : MethodId} {args : Array Value} {below : List Frame} {meth : Method} {c : Code} {T0 : State} {locs : List Loc} {cells slots : Nat} {Z : State} {a0 : Array Value} {h0 : Heap} (s0 : Slot) (s1 : Slot) (i2 : Int32) (s3 : Slot)
    (X0 : Stand p l e R s m args below meth c T0 locs cells slots) (hx : p.tables.exec = Jvm.exec) (hZ : Z.Warmed39 s.vm) (hw : ∀ d ∈ tables_1, d.before a0 Z = true) (hby : c.code = code) (hml : c.maxLocals = 7) (hown : s.vm.findClass "com/example/tupletree/tupletree/query/FunctionOfContextPinLaw" = some m.cls) (e0 : T0.heap = h0) (hc189 : i2 = (3 : Int32)) :
    ∃ (T' : State), Stand p l e R s m args below meth c T' locs cells slots ∧ T'.heap = h0 ∧
      ∀ target, Steps p.tables e below (T'.setTop (mkF m 233 #[s0, s1, .val (.int i2), s3, .val (.int (1 : Int32)), .unset, .unset] [])) target → Steps p.tables e below (T0.setTop (mkF m 187 #[s0, s1, .val (.int i2), s3, .unset, .unset, .unset] [])) target := by
  refine ⟨T0, X0, e0, fun target kt => ?_⟩
  show Steps p.tables e below (T0.setTop (mkF m 187 #[s0, s1, .val (.int i2), s3, .unset, .unset, .unset] [])) _
  refine XS.iloadN X0.here hx rfl (hb hby at_187) rfl ?_
  show Steps p.tables e below (T0.setTop (mkF m 188 #[s0, s1, .val (.int i2), s3, .unset, .unset, .unset] [(.int i2)])) _
  refine XS.iconst X0.here hx rfl (hb hby at_188) ?_
  show Steps p.tables e below (T0.setTop (mkF m 189 #[s0, s1, .val (.int i2), s3, .unset, .unset, .unset] [(.int (3 : Int32)), (.int i2)])) _
  refine XS.icmpYes X0.here hx rfl (pc0 := 189) (pc' := 226) rfl (hb hby at_189) rfl (teq hc189).1 (by decide) (by decide) ?_
  show Steps p.tables e below (T0.setTop (mkF m 226 #[s0, s1, .val (.int i2), s3, .unset, .unset, .unset] [])) _
  refine XS.iconst X0.here hx rfl (hb hby at_226) ?_
  show Steps p.tables e below (T0.setTop (mkF m 227 #[s0, s1, .val (.int i2), s3, .unset, .unset, .unset] [(.int (1 : Int32))])) _
  refine XS.goto X0.here hx rfl (pc0 := 227) (pc' := 231) rfl (hb hby at_227) (by decide) (by decide) ?_
  show Steps p.tables e below (T0.setTop (mkF m 231 #[s0, s1, .val (.int i2), s3, .unset, .unset, .unset] [(.int (1 : Int32))])) _
  refine XS.istore X0.here hx rfl (hb hby at_231) rfl (l' := #[s0, s1, .val (.int i2), s3, .val (.int (1 : Int32)), .unset, .unset]) rfl ?_
  exact kt
set_option maxRecDepth 65536 in
set_option maxHeartbeats 40000000 in
theorem tn0_187_233_ft {p : Program} {l : Launch} {e : Env} {R : Room} {s : State} {m : MethodId} {args : Array Value} {below : List Frame} {meth : Method} {c : Code} {T0 : State} {locs : List Loc} {cells slots : Nat} {Z : State} {a0 : Array Value} {h0 : Heap} (s0 : Slot) (s1 : Slot) (i2 : Int32) (s3 : Slot)
    (X0 : Stand p l e R s m args below meth c T0 locs cells slots) (hx : p.tables.exec = Jvm.exec) (hZ : Z.Warmed39 s.vm) (hw : ∀ d ∈ tables_1, d.before a0 Z = true) (hby : c.code = code) (hml : c.maxLocals = 7) (hown : s.vm.findClass "com/example/tupletree/tupletree/query/FunctionOfContextPinLaw" = some m.cls) (e0 : T0.heap = h0) (hc189 : ¬ (i2 = (3 : Int32))) (hc194 : i2 = (4 : Int32)) :
    ∃ (T' : State), Stand p l e R s m args below meth c T' locs cells slots ∧ T'.heap = h0 ∧
      ∀ target, Steps p.tables e below (T'.setTop (mkF m 233 #[s0, s1, .val (.int i2), s3, .val (.int (1 : Int32)), .unset, .unset] [])) target → Steps p.tables e below (T0.setTop (mkF m 187 #[s0, s1, .val (.int i2), s3, .unset, .unset, .unset] [])) target := by
  refine ⟨T0, X0, e0, fun target kt => ?_⟩
  show Steps p.tables e below (T0.setTop (mkF m 187 #[s0, s1, .val (.int i2), s3, .unset, .unset, .unset] [])) _
  refine XS.iloadN X0.here hx rfl (hb hby at_187) rfl ?_
  show Steps p.tables e below (T0.setTop (mkF m 188 #[s0, s1, .val (.int i2), s3, .unset, .unset, .unset] [(.int i2)])) _
  refine XS.iconst X0.here hx rfl (hb hby at_188) ?_
  show Steps p.tables e below (T0.setTop (mkF m 189 #[s0, s1, .val (.int i2), s3, .unset, .unset, .unset] [(.int (3 : Int32)), (.int i2)])) _
  refine XS.icmpNo X0.here hx rfl (hb hby at_189) rfl (feq hc189).1 ?_
  show Steps p.tables e below (T0.setTop (mkF m 192 #[s0, s1, .val (.int i2), s3, .unset, .unset, .unset] [])) _
  refine XS.iloadN X0.here hx rfl (hb hby at_192) rfl ?_
  show Steps p.tables e below (T0.setTop (mkF m 193 #[s0, s1, .val (.int i2), s3, .unset, .unset, .unset] [(.int i2)])) _
  refine XS.iconst X0.here hx rfl (hb hby at_193) ?_
  show Steps p.tables e below (T0.setTop (mkF m 194 #[s0, s1, .val (.int i2), s3, .unset, .unset, .unset] [(.int (4 : Int32)), (.int i2)])) _
  refine XS.icmpYes X0.here hx rfl (pc0 := 194) (pc' := 226) rfl (hb hby at_194) rfl (teq hc194).1 (by decide) (by decide) ?_
  show Steps p.tables e below (T0.setTop (mkF m 226 #[s0, s1, .val (.int i2), s3, .unset, .unset, .unset] [])) _
  refine XS.iconst X0.here hx rfl (hb hby at_226) ?_
  show Steps p.tables e below (T0.setTop (mkF m 227 #[s0, s1, .val (.int i2), s3, .unset, .unset, .unset] [(.int (1 : Int32))])) _
  refine XS.goto X0.here hx rfl (pc0 := 227) (pc' := 231) rfl (hb hby at_227) (by decide) (by decide) ?_
  show Steps p.tables e below (T0.setTop (mkF m 231 #[s0, s1, .val (.int i2), s3, .unset, .unset, .unset] [(.int (1 : Int32))])) _
  refine XS.istore X0.here hx rfl (hb hby at_231) rfl (l' := #[s0, s1, .val (.int i2), s3, .val (.int (1 : Int32)), .unset, .unset]) rfl ?_
  exact kt
set_option maxRecDepth 65536 in
set_option maxHeartbeats 40000000 in
theorem tn0_187_233_fft {p : Program} {l : Launch} {e : Env} {R : Room} {s : State} {m : MethodId} {args : Array Value} {below : List Frame} {meth : Method} {c : Code} {T0 : State} {locs : List Loc} {cells slots : Nat} {Z : State} {a0 : Array Value} {h0 : Heap} (s0 : Slot) (s1 : Slot) (i2 : Int32) (s3 : Slot)
    (X0 : Stand p l e R s m args below meth c T0 locs cells slots) (hx : p.tables.exec = Jvm.exec) (hZ : Z.Warmed39 s.vm) (hw : ∀ d ∈ tables_1, d.before a0 Z = true) (hby : c.code = code) (hml : c.maxLocals = 7) (hown : s.vm.findClass "com/example/tupletree/tupletree/query/FunctionOfContextPinLaw" = some m.cls) (e0 : T0.heap = h0) (hc189 : ¬ (i2 = (3 : Int32))) (hc194 : ¬ (i2 = (4 : Int32))) (hc199 : i2 = (5 : Int32)) :
    ∃ (T' : State), Stand p l e R s m args below meth c T' locs cells slots ∧ T'.heap = h0 ∧
      ∀ target, Steps p.tables e below (T'.setTop (mkF m 233 #[s0, s1, .val (.int i2), s3, .val (.int (1 : Int32)), .unset, .unset] [])) target → Steps p.tables e below (T0.setTop (mkF m 187 #[s0, s1, .val (.int i2), s3, .unset, .unset, .unset] [])) target := by
  refine ⟨T0, X0, e0, fun target kt => ?_⟩
  show Steps p.tables e below (T0.setTop (mkF m 187 #[s0, s1, .val (.int i2), s3, .unset, .unset, .unset] [])) _
  refine XS.iloadN X0.here hx rfl (hb hby at_187) rfl ?_
  show Steps p.tables e below (T0.setTop (mkF m 188 #[s0, s1, .val (.int i2), s3, .unset, .unset, .unset] [(.int i2)])) _
  refine XS.iconst X0.here hx rfl (hb hby at_188) ?_
  show Steps p.tables e below (T0.setTop (mkF m 189 #[s0, s1, .val (.int i2), s3, .unset, .unset, .unset] [(.int (3 : Int32)), (.int i2)])) _
  refine XS.icmpNo X0.here hx rfl (hb hby at_189) rfl (feq hc189).1 ?_
  show Steps p.tables e below (T0.setTop (mkF m 192 #[s0, s1, .val (.int i2), s3, .unset, .unset, .unset] [])) _
  refine XS.iloadN X0.here hx rfl (hb hby at_192) rfl ?_
  show Steps p.tables e below (T0.setTop (mkF m 193 #[s0, s1, .val (.int i2), s3, .unset, .unset, .unset] [(.int i2)])) _
  refine XS.iconst X0.here hx rfl (hb hby at_193) ?_
  show Steps p.tables e below (T0.setTop (mkF m 194 #[s0, s1, .val (.int i2), s3, .unset, .unset, .unset] [(.int (4 : Int32)), (.int i2)])) _
  refine XS.icmpNo X0.here hx rfl (hb hby at_194) rfl (feq hc194).1 ?_
  show Steps p.tables e below (T0.setTop (mkF m 197 #[s0, s1, .val (.int i2), s3, .unset, .unset, .unset] [])) _
  refine XS.iloadN X0.here hx rfl (hb hby at_197) rfl ?_
  show Steps p.tables e below (T0.setTop (mkF m 198 #[s0, s1, .val (.int i2), s3, .unset, .unset, .unset] [(.int i2)])) _
  refine XS.iconst X0.here hx rfl (hb hby at_198) ?_
  show Steps p.tables e below (T0.setTop (mkF m 199 #[s0, s1, .val (.int i2), s3, .unset, .unset, .unset] [(.int (5 : Int32)), (.int i2)])) _
  refine XS.icmpYes X0.here hx rfl (pc0 := 199) (pc' := 226) rfl (hb hby at_199) rfl (teq hc199).1 (by decide) (by decide) ?_
  show Steps p.tables e below (T0.setTop (mkF m 226 #[s0, s1, .val (.int i2), s3, .unset, .unset, .unset] [])) _
  refine XS.iconst X0.here hx rfl (hb hby at_226) ?_
  show Steps p.tables e below (T0.setTop (mkF m 227 #[s0, s1, .val (.int i2), s3, .unset, .unset, .unset] [(.int (1 : Int32))])) _
  refine XS.goto X0.here hx rfl (pc0 := 227) (pc' := 231) rfl (hb hby at_227) (by decide) (by decide) ?_
  show Steps p.tables e below (T0.setTop (mkF m 231 #[s0, s1, .val (.int i2), s3, .unset, .unset, .unset] [(.int (1 : Int32))])) _
  refine XS.istore X0.here hx rfl (hb hby at_231) rfl (l' := #[s0, s1, .val (.int i2), s3, .val (.int (1 : Int32)), .unset, .unset]) rfl ?_
  exact kt
set_option maxRecDepth 65536 in
set_option maxHeartbeats 40000000 in
theorem tn0_187_233_ffft {p : Program} {l : Launch} {e : Env} {R : Room} {s : State} {m : MethodId} {args : Array Value} {below : List Frame} {meth : Method} {c : Code} {T0 : State} {locs : List Loc} {cells slots : Nat} {Z : State} {a0 : Array Value} {h0 : Heap} (s0 : Slot) (s1 : Slot) (i2 : Int32) (s3 : Slot)
    (X0 : Stand p l e R s m args below meth c T0 locs cells slots) (hx : p.tables.exec = Jvm.exec) (hZ : Z.Warmed39 s.vm) (hw : ∀ d ∈ tables_1, d.before a0 Z = true) (hby : c.code = code) (hml : c.maxLocals = 7) (hown : s.vm.findClass "com/example/tupletree/tupletree/query/FunctionOfContextPinLaw" = some m.cls) (e0 : T0.heap = h0) (hc189 : ¬ (i2 = (3 : Int32))) (hc194 : ¬ (i2 = (4 : Int32))) (hc199 : ¬ (i2 = (5 : Int32))) (hc205 : i2 = (6 : Int32)) :
    ∃ (T' : State), Stand p l e R s m args below meth c T' locs cells slots ∧ T'.heap = h0 ∧
      ∀ target, Steps p.tables e below (T'.setTop (mkF m 233 #[s0, s1, .val (.int i2), s3, .val (.int (1 : Int32)), .unset, .unset] [])) target → Steps p.tables e below (T0.setTop (mkF m 187 #[s0, s1, .val (.int i2), s3, .unset, .unset, .unset] [])) target := by
  refine ⟨T0, X0, e0, fun target kt => ?_⟩
  show Steps p.tables e below (T0.setTop (mkF m 187 #[s0, s1, .val (.int i2), s3, .unset, .unset, .unset] [])) _
  refine XS.iloadN X0.here hx rfl (hb hby at_187) rfl ?_
  show Steps p.tables e below (T0.setTop (mkF m 188 #[s0, s1, .val (.int i2), s3, .unset, .unset, .unset] [(.int i2)])) _
  refine XS.iconst X0.here hx rfl (hb hby at_188) ?_
  show Steps p.tables e below (T0.setTop (mkF m 189 #[s0, s1, .val (.int i2), s3, .unset, .unset, .unset] [(.int (3 : Int32)), (.int i2)])) _
  refine XS.icmpNo X0.here hx rfl (hb hby at_189) rfl (feq hc189).1 ?_
  show Steps p.tables e below (T0.setTop (mkF m 192 #[s0, s1, .val (.int i2), s3, .unset, .unset, .unset] [])) _
  refine XS.iloadN X0.here hx rfl (hb hby at_192) rfl ?_
  show Steps p.tables e below (T0.setTop (mkF m 193 #[s0, s1, .val (.int i2), s3, .unset, .unset, .unset] [(.int i2)])) _
  refine XS.iconst X0.here hx rfl (hb hby at_193) ?_
  show Steps p.tables e below (T0.setTop (mkF m 194 #[s0, s1, .val (.int i2), s3, .unset, .unset, .unset] [(.int (4 : Int32)), (.int i2)])) _
  refine XS.icmpNo X0.here hx rfl (hb hby at_194) rfl (feq hc194).1 ?_
  show Steps p.tables e below (T0.setTop (mkF m 197 #[s0, s1, .val (.int i2), s3, .unset, .unset, .unset] [])) _
  refine XS.iloadN X0.here hx rfl (hb hby at_197) rfl ?_
  show Steps p.tables e below (T0.setTop (mkF m 198 #[s0, s1, .val (.int i2), s3, .unset, .unset, .unset] [(.int i2)])) _
  refine XS.iconst X0.here hx rfl (hb hby at_198) ?_
  show Steps p.tables e below (T0.setTop (mkF m 199 #[s0, s1, .val (.int i2), s3, .unset, .unset, .unset] [(.int (5 : Int32)), (.int i2)])) _
  refine XS.icmpNo X0.here hx rfl (hb hby at_199) rfl (feq hc199).1 ?_
  show Steps p.tables e below (T0.setTop (mkF m 202 #[s0, s1, .val (.int i2), s3, .unset, .unset, .unset] [])) _
  refine XS.iloadN X0.here hx rfl (hb hby at_202) rfl ?_
  show Steps p.tables e below (T0.setTop (mkF m 203 #[s0, s1, .val (.int i2), s3, .unset, .unset, .unset] [(.int i2)])) _
  refine XS.bipush X0.here hx rfl (hb hby at_203) ?_
  show Steps p.tables e below (T0.setTop (mkF m 205 #[s0, s1, .val (.int i2), s3, .unset, .unset, .unset] [(.int (6 : Int32)), (.int i2)])) _
  refine XS.icmpYes X0.here hx rfl (pc0 := 205) (pc' := 226) rfl (hb hby at_205) rfl (teq hc205).1 (by decide) (by decide) ?_
  show Steps p.tables e below (T0.setTop (mkF m 226 #[s0, s1, .val (.int i2), s3, .unset, .unset, .unset] [])) _
  refine XS.iconst X0.here hx rfl (hb hby at_226) ?_
  show Steps p.tables e below (T0.setTop (mkF m 227 #[s0, s1, .val (.int i2), s3, .unset, .unset, .unset] [(.int (1 : Int32))])) _
  refine XS.goto X0.here hx rfl (pc0 := 227) (pc' := 231) rfl (hb hby at_227) (by decide) (by decide) ?_
  show Steps p.tables e below (T0.setTop (mkF m 231 #[s0, s1, .val (.int i2), s3, .unset, .unset, .unset] [(.int (1 : Int32))])) _
  refine XS.istore X0.here hx rfl (hb hby at_231) rfl (l' := #[s0, s1, .val (.int i2), s3, .val (.int (1 : Int32)), .unset, .unset]) rfl ?_
  exact kt
set_option maxRecDepth 65536 in
set_option maxHeartbeats 40000000 in
theorem tn0_187_233_fffft {p : Program} {l : Launch} {e : Env} {R : Room} {s : State} {m : MethodId} {args : Array Value} {below : List Frame} {meth : Method} {c : Code} {T0 : State} {locs : List Loc} {cells slots : Nat} {Z : State} {a0 : Array Value} {h0 : Heap} (s0 : Slot) (s1 : Slot) (i2 : Int32) (s3 : Slot)
    (X0 : Stand p l e R s m args below meth c T0 locs cells slots) (hx : p.tables.exec = Jvm.exec) (hZ : Z.Warmed39 s.vm) (hw : ∀ d ∈ tables_1, d.before a0 Z = true) (hby : c.code = code) (hml : c.maxLocals = 7) (hown : s.vm.findClass "com/example/tupletree/tupletree/query/FunctionOfContextPinLaw" = some m.cls) (e0 : T0.heap = h0) (hc189 : ¬ (i2 = (3 : Int32))) (hc194 : ¬ (i2 = (4 : Int32))) (hc199 : ¬ (i2 = (5 : Int32))) (hc205 : ¬ (i2 = (6 : Int32))) (hc211 : i2 = (13 : Int32)) :
    ∃ (T' : State), Stand p l e R s m args below meth c T' locs cells slots ∧ T'.heap = h0 ∧
      ∀ target, Steps p.tables e below (T'.setTop (mkF m 233 #[s0, s1, .val (.int i2), s3, .val (.int (1 : Int32)), .unset, .unset] [])) target → Steps p.tables e below (T0.setTop (mkF m 187 #[s0, s1, .val (.int i2), s3, .unset, .unset, .unset] [])) target := by
  refine ⟨T0, X0, e0, fun target kt => ?_⟩
  show Steps p.tables e below (T0.setTop (mkF m 187 #[s0, s1, .val (.int i2), s3, .unset, .unset, .unset] [])) _
  refine XS.iloadN X0.here hx rfl (hb hby at_187) rfl ?_
  show Steps p.tables e below (T0.setTop (mkF m 188 #[s0, s1, .val (.int i2), s3, .unset, .unset, .unset] [(.int i2)])) _
  refine XS.iconst X0.here hx rfl (hb hby at_188) ?_
  show Steps p.tables e below (T0.setTop (mkF m 189 #[s0, s1, .val (.int i2), s3, .unset, .unset, .unset] [(.int (3 : Int32)), (.int i2)])) _
  refine XS.icmpNo X0.here hx rfl (hb hby at_189) rfl (feq hc189).1 ?_
  show Steps p.tables e below (T0.setTop (mkF m 192 #[s0, s1, .val (.int i2), s3, .unset, .unset, .unset] [])) _
  refine XS.iloadN X0.here hx rfl (hb hby at_192) rfl ?_
  show Steps p.tables e below (T0.setTop (mkF m 193 #[s0, s1, .val (.int i2), s3, .unset, .unset, .unset] [(.int i2)])) _
  refine XS.iconst X0.here hx rfl (hb hby at_193) ?_
  show Steps p.tables e below (T0.setTop (mkF m 194 #[s0, s1, .val (.int i2), s3, .unset, .unset, .unset] [(.int (4 : Int32)), (.int i2)])) _
  refine XS.icmpNo X0.here hx rfl (hb hby at_194) rfl (feq hc194).1 ?_
  show Steps p.tables e below (T0.setTop (mkF m 197 #[s0, s1, .val (.int i2), s3, .unset, .unset, .unset] [])) _
  refine XS.iloadN X0.here hx rfl (hb hby at_197) rfl ?_
  show Steps p.tables e below (T0.setTop (mkF m 198 #[s0, s1, .val (.int i2), s3, .unset, .unset, .unset] [(.int i2)])) _
  refine XS.iconst X0.here hx rfl (hb hby at_198) ?_
  show Steps p.tables e below (T0.setTop (mkF m 199 #[s0, s1, .val (.int i2), s3, .unset, .unset, .unset] [(.int (5 : Int32)), (.int i2)])) _
  refine XS.icmpNo X0.here hx rfl (hb hby at_199) rfl (feq hc199).1 ?_
  show Steps p.tables e below (T0.setTop (mkF m 202 #[s0, s1, .val (.int i2), s3, .unset, .unset, .unset] [])) _
  refine XS.iloadN X0.here hx rfl (hb hby at_202) rfl ?_
  show Steps p.tables e below (T0.setTop (mkF m 203 #[s0, s1, .val (.int i2), s3, .unset, .unset, .unset] [(.int i2)])) _
  refine XS.bipush X0.here hx rfl (hb hby at_203) ?_
  show Steps p.tables e below (T0.setTop (mkF m 205 #[s0, s1, .val (.int i2), s3, .unset, .unset, .unset] [(.int (6 : Int32)), (.int i2)])) _
  refine XS.icmpNo X0.here hx rfl (hb hby at_205) rfl (feq hc205).1 ?_
  show Steps p.tables e below (T0.setTop (mkF m 208 #[s0, s1, .val (.int i2), s3, .unset, .unset, .unset] [])) _
  refine XS.iloadN X0.here hx rfl (hb hby at_208) rfl ?_
  show Steps p.tables e below (T0.setTop (mkF m 209 #[s0, s1, .val (.int i2), s3, .unset, .unset, .unset] [(.int i2)])) _
  refine XS.bipush X0.here hx rfl (hb hby at_209) ?_
  show Steps p.tables e below (T0.setTop (mkF m 211 #[s0, s1, .val (.int i2), s3, .unset, .unset, .unset] [(.int (13 : Int32)), (.int i2)])) _
  refine XS.icmpYes X0.here hx rfl (pc0 := 211) (pc' := 226) rfl (hb hby at_211) rfl (teq hc211).1 (by decide) (by decide) ?_
  show Steps p.tables e below (T0.setTop (mkF m 226 #[s0, s1, .val (.int i2), s3, .unset, .unset, .unset] [])) _
  refine XS.iconst X0.here hx rfl (hb hby at_226) ?_
  show Steps p.tables e below (T0.setTop (mkF m 227 #[s0, s1, .val (.int i2), s3, .unset, .unset, .unset] [(.int (1 : Int32))])) _
  refine XS.goto X0.here hx rfl (pc0 := 227) (pc' := 231) rfl (hb hby at_227) (by decide) (by decide) ?_
  show Steps p.tables e below (T0.setTop (mkF m 231 #[s0, s1, .val (.int i2), s3, .unset, .unset, .unset] [(.int (1 : Int32))])) _
  refine XS.istore X0.here hx rfl (hb hby at_231) rfl (l' := #[s0, s1, .val (.int i2), s3, .val (.int (1 : Int32)), .unset, .unset]) rfl ?_
  exact kt
set_option maxRecDepth 65536 in
set_option maxHeartbeats 40000000 in
theorem tn0_187_233_ffffft {p : Program} {l : Launch} {e : Env} {R : Room} {s : State} {m : MethodId} {args : Array Value} {below : List Frame} {meth : Method} {c : Code} {T0 : State} {locs : List Loc} {cells slots : Nat} {Z : State} {a0 : Array Value} {h0 : Heap} (s0 : Slot) (s1 : Slot) (i2 : Int32) (s3 : Slot)
    (X0 : Stand p l e R s m args below meth c T0 locs cells slots) (hx : p.tables.exec = Jvm.exec) (hZ : Z.Warmed39 s.vm) (hw : ∀ d ∈ tables_1, d.before a0 Z = true) (hby : c.code = code) (hml : c.maxLocals = 7) (hown : s.vm.findClass "com/example/tupletree/tupletree/query/FunctionOfContextPinLaw" = some m.cls) (e0 : T0.heap = h0) (hc189 : ¬ (i2 = (3 : Int32))) (hc194 : ¬ (i2 = (4 : Int32))) (hc199 : ¬ (i2 = (5 : Int32))) (hc205 : ¬ (i2 = (6 : Int32))) (hc211 : ¬ (i2 = (13 : Int32))) (hc217 : i2 = (14 : Int32)) :
    ∃ (T' : State), Stand p l e R s m args below meth c T' locs cells slots ∧ T'.heap = h0 ∧
      ∀ target, Steps p.tables e below (T'.setTop (mkF m 233 #[s0, s1, .val (.int i2), s3, .val (.int (1 : Int32)), .unset, .unset] [])) target → Steps p.tables e below (T0.setTop (mkF m 187 #[s0, s1, .val (.int i2), s3, .unset, .unset, .unset] [])) target := by
  refine ⟨T0, X0, e0, fun target kt => ?_⟩
  show Steps p.tables e below (T0.setTop (mkF m 187 #[s0, s1, .val (.int i2), s3, .unset, .unset, .unset] [])) _
  refine XS.iloadN X0.here hx rfl (hb hby at_187) rfl ?_
  show Steps p.tables e below (T0.setTop (mkF m 188 #[s0, s1, .val (.int i2), s3, .unset, .unset, .unset] [(.int i2)])) _
  refine XS.iconst X0.here hx rfl (hb hby at_188) ?_
  show Steps p.tables e below (T0.setTop (mkF m 189 #[s0, s1, .val (.int i2), s3, .unset, .unset, .unset] [(.int (3 : Int32)), (.int i2)])) _
  refine XS.icmpNo X0.here hx rfl (hb hby at_189) rfl (feq hc189).1 ?_
  show Steps p.tables e below (T0.setTop (mkF m 192 #[s0, s1, .val (.int i2), s3, .unset, .unset, .unset] [])) _
  refine XS.iloadN X0.here hx rfl (hb hby at_192) rfl ?_
  show Steps p.tables e below (T0.setTop (mkF m 193 #[s0, s1, .val (.int i2), s3, .unset, .unset, .unset] [(.int i2)])) _
  refine XS.iconst X0.here hx rfl (hb hby at_193) ?_
  show Steps p.tables e below (T0.setTop (mkF m 194 #[s0, s1, .val (.int i2), s3, .unset, .unset, .unset] [(.int (4 : Int32)), (.int i2)])) _
  refine XS.icmpNo X0.here hx rfl (hb hby at_194) rfl (feq hc194).1 ?_
  show Steps p.tables e below (T0.setTop (mkF m 197 #[s0, s1, .val (.int i2), s3, .unset, .unset, .unset] [])) _
  refine XS.iloadN X0.here hx rfl (hb hby at_197) rfl ?_
  show Steps p.tables e below (T0.setTop (mkF m 198 #[s0, s1, .val (.int i2), s3, .unset, .unset, .unset] [(.int i2)])) _
  refine XS.iconst X0.here hx rfl (hb hby at_198) ?_
  show Steps p.tables e below (T0.setTop (mkF m 199 #[s0, s1, .val (.int i2), s3, .unset, .unset, .unset] [(.int (5 : Int32)), (.int i2)])) _
  refine XS.icmpNo X0.here hx rfl (hb hby at_199) rfl (feq hc199).1 ?_
  show Steps p.tables e below (T0.setTop (mkF m 202 #[s0, s1, .val (.int i2), s3, .unset, .unset, .unset] [])) _
  refine XS.iloadN X0.here hx rfl (hb hby at_202) rfl ?_
  show Steps p.tables e below (T0.setTop (mkF m 203 #[s0, s1, .val (.int i2), s3, .unset, .unset, .unset] [(.int i2)])) _
  refine XS.bipush X0.here hx rfl (hb hby at_203) ?_
  show Steps p.tables e below (T0.setTop (mkF m 205 #[s0, s1, .val (.int i2), s3, .unset, .unset, .unset] [(.int (6 : Int32)), (.int i2)])) _
  refine XS.icmpNo X0.here hx rfl (hb hby at_205) rfl (feq hc205).1 ?_
  show Steps p.tables e below (T0.setTop (mkF m 208 #[s0, s1, .val (.int i2), s3, .unset, .unset, .unset] [])) _
  refine XS.iloadN X0.here hx rfl (hb hby at_208) rfl ?_
  show Steps p.tables e below (T0.setTop (mkF m 209 #[s0, s1, .val (.int i2), s3, .unset, .unset, .unset] [(.int i2)])) _
  refine XS.bipush X0.here hx rfl (hb hby at_209) ?_
  show Steps p.tables e below (T0.setTop (mkF m 211 #[s0, s1, .val (.int i2), s3, .unset, .unset, .unset] [(.int (13 : Int32)), (.int i2)])) _
  refine XS.icmpNo X0.here hx rfl (hb hby at_211) rfl (feq hc211).1 ?_
  show Steps p.tables e below (T0.setTop (mkF m 214 #[s0, s1, .val (.int i2), s3, .unset, .unset, .unset] [])) _
  refine XS.iloadN X0.here hx rfl (hb hby at_214) rfl ?_
  show Steps p.tables e below (T0.setTop (mkF m 215 #[s0, s1, .val (.int i2), s3, .unset, .unset, .unset] [(.int i2)])) _
  refine XS.bipush X0.here hx rfl (hb hby at_215) ?_
  show Steps p.tables e below (T0.setTop (mkF m 217 #[s0, s1, .val (.int i2), s3, .unset, .unset, .unset] [(.int (14 : Int32)), (.int i2)])) _
  refine XS.icmpYes X0.here hx rfl (pc0 := 217) (pc' := 226) rfl (hb hby at_217) rfl (teq hc217).1 (by decide) (by decide) ?_
  show Steps p.tables e below (T0.setTop (mkF m 226 #[s0, s1, .val (.int i2), s3, .unset, .unset, .unset] [])) _
  refine XS.iconst X0.here hx rfl (hb hby at_226) ?_
  show Steps p.tables e below (T0.setTop (mkF m 227 #[s0, s1, .val (.int i2), s3, .unset, .unset, .unset] [(.int (1 : Int32))])) _
  refine XS.goto X0.here hx rfl (pc0 := 227) (pc' := 231) rfl (hb hby at_227) (by decide) (by decide) ?_
  show Steps p.tables e below (T0.setTop (mkF m 231 #[s0, s1, .val (.int i2), s3, .unset, .unset, .unset] [(.int (1 : Int32))])) _
  refine XS.istore X0.here hx rfl (hb hby at_231) rfl (l' := #[s0, s1, .val (.int i2), s3, .val (.int (1 : Int32)), .unset, .unset]) rfl ?_
  exact kt
set_option maxRecDepth 65536 in
set_option maxHeartbeats 40000000 in
theorem tn0_187_233_fffffff {p : Program} {l : Launch} {e : Env} {R : Room} {s : State} {m : MethodId} {args : Array Value} {below : List Frame} {meth : Method} {c : Code} {T0 : State} {locs : List Loc} {cells slots : Nat} {Z : State} {a0 : Array Value} {h0 : Heap} (s0 : Slot) (s1 : Slot) (i2 : Int32) (s3 : Slot)
    (X0 : Stand p l e R s m args below meth c T0 locs cells slots) (hx : p.tables.exec = Jvm.exec) (hZ : Z.Warmed39 s.vm) (hw : ∀ d ∈ tables_1, d.before a0 Z = true) (hby : c.code = code) (hml : c.maxLocals = 7) (hown : s.vm.findClass "com/example/tupletree/tupletree/query/FunctionOfContextPinLaw" = some m.cls) (e0 : T0.heap = h0) (hc189 : ¬ (i2 = (3 : Int32))) (hc194 : ¬ (i2 = (4 : Int32))) (hc199 : ¬ (i2 = (5 : Int32))) (hc205 : ¬ (i2 = (6 : Int32))) (hc211 : ¬ (i2 = (13 : Int32))) (hc217 : ¬ (i2 = (14 : Int32))) (hc223 : i2 = (20 : Int32)) :
    ∃ (T' : State), Stand p l e R s m args below meth c T' locs cells slots ∧ T'.heap = h0 ∧
      ∀ target, Steps p.tables e below (T'.setTop (mkF m 233 #[s0, s1, .val (.int i2), s3, .val (.int (1 : Int32)), .unset, .unset] [])) target → Steps p.tables e below (T0.setTop (mkF m 187 #[s0, s1, .val (.int i2), s3, .unset, .unset, .unset] [])) target := by
  refine ⟨T0, X0, e0, fun target kt => ?_⟩
  show Steps p.tables e below (T0.setTop (mkF m 187 #[s0, s1, .val (.int i2), s3, .unset, .unset, .unset] [])) _
  refine XS.iloadN X0.here hx rfl (hb hby at_187) rfl ?_
  show Steps p.tables e below (T0.setTop (mkF m 188 #[s0, s1, .val (.int i2), s3, .unset, .unset, .unset] [(.int i2)])) _
  refine XS.iconst X0.here hx rfl (hb hby at_188) ?_
  show Steps p.tables e below (T0.setTop (mkF m 189 #[s0, s1, .val (.int i2), s3, .unset, .unset, .unset] [(.int (3 : Int32)), (.int i2)])) _
  refine XS.icmpNo X0.here hx rfl (hb hby at_189) rfl (feq hc189).1 ?_
  show Steps p.tables e below (T0.setTop (mkF m 192 #[s0, s1, .val (.int i2), s3, .unset, .unset, .unset] [])) _
  refine XS.iloadN X0.here hx rfl (hb hby at_192) rfl ?_
  show Steps p.tables e below (T0.setTop (mkF m 193 #[s0, s1, .val (.int i2), s3, .unset, .unset, .unset] [(.int i2)])) _
  refine XS.iconst X0.here hx rfl (hb hby at_193) ?_
  show Steps p.tables e below (T0.setTop (mkF m 194 #[s0, s1, .val (.int i2), s3, .unset, .unset, .unset] [(.int (4 : Int32)), (.int i2)])) _
  refine XS.icmpNo X0.here hx rfl (hb hby at_194) rfl (feq hc194).1 ?_
  show Steps p.tables e below (T0.setTop (mkF m 197 #[s0, s1, .val (.int i2), s3, .unset, .unset, .unset] [])) _
  refine XS.iloadN X0.here hx rfl (hb hby at_197) rfl ?_
  show Steps p.tables e below (T0.setTop (mkF m 198 #[s0, s1, .val (.int i2), s3, .unset, .unset, .unset] [(.int i2)])) _
  refine XS.iconst X0.here hx rfl (hb hby at_198) ?_
  show Steps p.tables e below (T0.setTop (mkF m 199 #[s0, s1, .val (.int i2), s3, .unset, .unset, .unset] [(.int (5 : Int32)), (.int i2)])) _
  refine XS.icmpNo X0.here hx rfl (hb hby at_199) rfl (feq hc199).1 ?_
  show Steps p.tables e below (T0.setTop (mkF m 202 #[s0, s1, .val (.int i2), s3, .unset, .unset, .unset] [])) _
  refine XS.iloadN X0.here hx rfl (hb hby at_202) rfl ?_
  show Steps p.tables e below (T0.setTop (mkF m 203 #[s0, s1, .val (.int i2), s3, .unset, .unset, .unset] [(.int i2)])) _
  refine XS.bipush X0.here hx rfl (hb hby at_203) ?_
  show Steps p.tables e below (T0.setTop (mkF m 205 #[s0, s1, .val (.int i2), s3, .unset, .unset, .unset] [(.int (6 : Int32)), (.int i2)])) _
  refine XS.icmpNo X0.here hx rfl (hb hby at_205) rfl (feq hc205).1 ?_
  show Steps p.tables e below (T0.setTop (mkF m 208 #[s0, s1, .val (.int i2), s3, .unset, .unset, .unset] [])) _
  refine XS.iloadN X0.here hx rfl (hb hby at_208) rfl ?_
  show Steps p.tables e below (T0.setTop (mkF m 209 #[s0, s1, .val (.int i2), s3, .unset, .unset, .unset] [(.int i2)])) _
  refine XS.bipush X0.here hx rfl (hb hby at_209) ?_
  show Steps p.tables e below (T0.setTop (mkF m 211 #[s0, s1, .val (.int i2), s3, .unset, .unset, .unset] [(.int (13 : Int32)), (.int i2)])) _
  refine XS.icmpNo X0.here hx rfl (hb hby at_211) rfl (feq hc211).1 ?_
  show Steps p.tables e below (T0.setTop (mkF m 214 #[s0, s1, .val (.int i2), s3, .unset, .unset, .unset] [])) _
  refine XS.iloadN X0.here hx rfl (hb hby at_214) rfl ?_
  show Steps p.tables e below (T0.setTop (mkF m 215 #[s0, s1, .val (.int i2), s3, .unset, .unset, .unset] [(.int i2)])) _
  refine XS.bipush X0.here hx rfl (hb hby at_215) ?_
  show Steps p.tables e below (T0.setTop (mkF m 217 #[s0, s1, .val (.int i2), s3, .unset, .unset, .unset] [(.int (14 : Int32)), (.int i2)])) _
  refine XS.icmpNo X0.here hx rfl (hb hby at_217) rfl (feq hc217).1 ?_
  show Steps p.tables e below (T0.setTop (mkF m 220 #[s0, s1, .val (.int i2), s3, .unset, .unset, .unset] [])) _
  refine XS.iloadN X0.here hx rfl (hb hby at_220) rfl ?_
  show Steps p.tables e below (T0.setTop (mkF m 221 #[s0, s1, .val (.int i2), s3, .unset, .unset, .unset] [(.int i2)])) _
  refine XS.bipush X0.here hx rfl (hb hby at_221) ?_
  show Steps p.tables e below (T0.setTop (mkF m 223 #[s0, s1, .val (.int i2), s3, .unset, .unset, .unset] [(.int (20 : Int32)), (.int i2)])) _
  refine XS.icmpNo X0.here hx rfl (hb hby at_223) rfl (teq hc223).2 ?_
  show Steps p.tables e below (T0.setTop (mkF m 226 #[s0, s1, .val (.int i2), s3, .unset, .unset, .unset] [])) _
  refine XS.iconst X0.here hx rfl (hb hby at_226) ?_
  show Steps p.tables e below (T0.setTop (mkF m 227 #[s0, s1, .val (.int i2), s3, .unset, .unset, .unset] [(.int (1 : Int32))])) _
  refine XS.goto X0.here hx rfl (pc0 := 227) (pc' := 231) rfl (hb hby at_227) (by decide) (by decide) ?_
  show Steps p.tables e below (T0.setTop (mkF m 231 #[s0, s1, .val (.int i2), s3, .unset, .unset, .unset] [(.int (1 : Int32))])) _
  refine XS.istore X0.here hx rfl (hb hby at_231) rfl (l' := #[s0, s1, .val (.int i2), s3, .val (.int (1 : Int32)), .unset, .unset]) rfl ?_
  exact kt
set_option maxRecDepth 65536 in
set_option maxHeartbeats 40000000 in
theorem tn0_187_233_fffffft {p : Program} {l : Launch} {e : Env} {R : Room} {s : State} {m : MethodId} {args : Array Value} {below : List Frame} {meth : Method} {c : Code} {T0 : State} {locs : List Loc} {cells slots : Nat} {Z : State} {a0 : Array Value} {h0 : Heap} (s0 : Slot) (s1 : Slot) (i2 : Int32) (s3 : Slot)
    (X0 : Stand p l e R s m args below meth c T0 locs cells slots) (hx : p.tables.exec = Jvm.exec) (hZ : Z.Warmed39 s.vm) (hw : ∀ d ∈ tables_1, d.before a0 Z = true) (hby : c.code = code) (hml : c.maxLocals = 7) (hown : s.vm.findClass "com/example/tupletree/tupletree/query/FunctionOfContextPinLaw" = some m.cls) (e0 : T0.heap = h0) (hc189 : ¬ (i2 = (3 : Int32))) (hc194 : ¬ (i2 = (4 : Int32))) (hc199 : ¬ (i2 = (5 : Int32))) (hc205 : ¬ (i2 = (6 : Int32))) (hc211 : ¬ (i2 = (13 : Int32))) (hc217 : ¬ (i2 = (14 : Int32))) (hc223 : ¬ (i2 = (20 : Int32))) :
    ∃ (T' : State), Stand p l e R s m args below meth c T' locs cells slots ∧ T'.heap = h0 ∧
      ∀ target, Steps p.tables e below (T'.setTop (mkF m 233 #[s0, s1, .val (.int i2), s3, .val (.int (0 : Int32)), .unset, .unset] [])) target → Steps p.tables e below (T0.setTop (mkF m 187 #[s0, s1, .val (.int i2), s3, .unset, .unset, .unset] [])) target := by
  refine ⟨T0, X0, e0, fun target kt => ?_⟩
  show Steps p.tables e below (T0.setTop (mkF m 187 #[s0, s1, .val (.int i2), s3, .unset, .unset, .unset] [])) _
  refine XS.iloadN X0.here hx rfl (hb hby at_187) rfl ?_
  show Steps p.tables e below (T0.setTop (mkF m 188 #[s0, s1, .val (.int i2), s3, .unset, .unset, .unset] [(.int i2)])) _
  refine XS.iconst X0.here hx rfl (hb hby at_188) ?_
  show Steps p.tables e below (T0.setTop (mkF m 189 #[s0, s1, .val (.int i2), s3, .unset, .unset, .unset] [(.int (3 : Int32)), (.int i2)])) _
  refine XS.icmpNo X0.here hx rfl (hb hby at_189) rfl (feq hc189).1 ?_
  show Steps p.tables e below (T0.setTop (mkF m 192 #[s0, s1, .val (.int i2), s3, .unset, .unset, .unset] [])) _
  refine XS.iloadN X0.here hx rfl (hb hby at_192) rfl ?_
  show Steps p.tables e below (T0.setTop (mkF m 193 #[s0, s1, .val (.int i2), s3, .unset, .unset, .unset] [(.int i2)])) _
  refine XS.iconst X0.here hx rfl (hb hby at_193) ?_
  show Steps p.tables e below (T0.setTop (mkF m 194 #[s0, s1, .val (.int i2), s3, .unset, .unset, .unset] [(.int (4 : Int32)), (.int i2)])) _
  refine XS.icmpNo X0.here hx rfl (hb hby at_194) rfl (feq hc194).1 ?_
  show Steps p.tables e below (T0.setTop (mkF m 197 #[s0, s1, .val (.int i2), s3, .unset, .unset, .unset] [])) _
  refine XS.iloadN X0.here hx rfl (hb hby at_197) rfl ?_
  show Steps p.tables e below (T0.setTop (mkF m 198 #[s0, s1, .val (.int i2), s3, .unset, .unset, .unset] [(.int i2)])) _
  refine XS.iconst X0.here hx rfl (hb hby at_198) ?_
  show Steps p.tables e below (T0.setTop (mkF m 199 #[s0, s1, .val (.int i2), s3, .unset, .unset, .unset] [(.int (5 : Int32)), (.int i2)])) _
  refine XS.icmpNo X0.here hx rfl (hb hby at_199) rfl (feq hc199).1 ?_
  show Steps p.tables e below (T0.setTop (mkF m 202 #[s0, s1, .val (.int i2), s3, .unset, .unset, .unset] [])) _
  refine XS.iloadN X0.here hx rfl (hb hby at_202) rfl ?_
  show Steps p.tables e below (T0.setTop (mkF m 203 #[s0, s1, .val (.int i2), s3, .unset, .unset, .unset] [(.int i2)])) _
  refine XS.bipush X0.here hx rfl (hb hby at_203) ?_
  show Steps p.tables e below (T0.setTop (mkF m 205 #[s0, s1, .val (.int i2), s3, .unset, .unset, .unset] [(.int (6 : Int32)), (.int i2)])) _
  refine XS.icmpNo X0.here hx rfl (hb hby at_205) rfl (feq hc205).1 ?_
  show Steps p.tables e below (T0.setTop (mkF m 208 #[s0, s1, .val (.int i2), s3, .unset, .unset, .unset] [])) _
  refine XS.iloadN X0.here hx rfl (hb hby at_208) rfl ?_
  show Steps p.tables e below (T0.setTop (mkF m 209 #[s0, s1, .val (.int i2), s3, .unset, .unset, .unset] [(.int i2)])) _
  refine XS.bipush X0.here hx rfl (hb hby at_209) ?_
  show Steps p.tables e below (T0.setTop (mkF m 211 #[s0, s1, .val (.int i2), s3, .unset, .unset, .unset] [(.int (13 : Int32)), (.int i2)])) _
  refine XS.icmpNo X0.here hx rfl (hb hby at_211) rfl (feq hc211).1 ?_
  show Steps p.tables e below (T0.setTop (mkF m 214 #[s0, s1, .val (.int i2), s3, .unset, .unset, .unset] [])) _
  refine XS.iloadN X0.here hx rfl (hb hby at_214) rfl ?_
  show Steps p.tables e below (T0.setTop (mkF m 215 #[s0, s1, .val (.int i2), s3, .unset, .unset, .unset] [(.int i2)])) _
  refine XS.bipush X0.here hx rfl (hb hby at_215) ?_
  show Steps p.tables e below (T0.setTop (mkF m 217 #[s0, s1, .val (.int i2), s3, .unset, .unset, .unset] [(.int (14 : Int32)), (.int i2)])) _
  refine XS.icmpNo X0.here hx rfl (hb hby at_217) rfl (feq hc217).1 ?_
  show Steps p.tables e below (T0.setTop (mkF m 220 #[s0, s1, .val (.int i2), s3, .unset, .unset, .unset] [])) _
  refine XS.iloadN X0.here hx rfl (hb hby at_220) rfl ?_
  show Steps p.tables e below (T0.setTop (mkF m 221 #[s0, s1, .val (.int i2), s3, .unset, .unset, .unset] [(.int i2)])) _
  refine XS.bipush X0.here hx rfl (hb hby at_221) ?_
  show Steps p.tables e below (T0.setTop (mkF m 223 #[s0, s1, .val (.int i2), s3, .unset, .unset, .unset] [(.int (20 : Int32)), (.int i2)])) _
  refine XS.icmpYes X0.here hx rfl (pc0 := 223) (pc' := 230) rfl (hb hby at_223) rfl (feq hc223).2 (by decide) (by decide) ?_
  show Steps p.tables e below (T0.setTop (mkF m 230 #[s0, s1, .val (.int i2), s3, .unset, .unset, .unset] [])) _
  refine XS.iconst X0.here hx rfl (hb hby at_230) ?_
  show Steps p.tables e below (T0.setTop (mkF m 231 #[s0, s1, .val (.int i2), s3, .unset, .unset, .unset] [(.int (0 : Int32))])) _
  refine XS.istore X0.here hx rfl (hb hby at_231) rfl (l' := #[s0, s1, .val (.int i2), s3, .val (.int (0 : Int32)), .unset, .unset]) rfl ?_
  exact kt
theorem own_e (r : Int32) {p : Program} {l : Launch} {e : Env} {R : Room} {s : State} {m : MethodId} {args : Array Value} {below : List Frame} {meth : Method} {c : Code} {T0 : State} {locs : List Loc} {cells slots : Nat} {Z : State} {a0 : Array Value} {h0 : Heap} (s0 : Slot) (s1 : Slot) (i2 : Int32) (s3 : Slot)
    (X0 : Stand p l e R s m args below meth c T0 locs cells slots) (hx : p.tables.exec = Jvm.exec) (hZ : Z.Warmed39 s.vm) (hw : ∀ d ∈ tables_1, d.before a0 Z = true) (hby : c.code = code) (hml : c.maxLocals = 7) (hown : s.vm.findClass "com/example/tupletree/tupletree/query/FunctionOfContextPinLaw" = some m.cls) (e0 : T0.heap = h0) (hU : (i2 = (3 : Int32) ∧ r = (1 : Int32)) ∨ (¬ (i2 = (3 : Int32)) ∧ i2 = (4 : Int32) ∧ r = (1 : Int32)) ∨ (¬ (i2 = (3 : Int32)) ∧ ¬ (i2 = (4 : Int32)) ∧ i2 = (5 : Int32) ∧ r = (1 : Int32)) ∨ (¬ (i2 = (3 : Int32)) ∧ ¬ (i2 = (4 : Int32)) ∧ ¬ (i2 = (5 : Int32)) ∧ i2 = (6 : Int32) ∧ r = (1 : Int32)) ∨ (¬ (i2 = (3 : Int32)) ∧ ¬ (i2 = (4 : Int32)) ∧ ¬ (i2 = (5 : Int32)) ∧ ¬ (i2 = (6 : Int32)) ∧ i2 = (13 : Int32) ∧ r = (1 : Int32)) ∨ (¬ (i2 = (3 : Int32)) ∧ ¬ (i2 = (4 : Int32)) ∧ ¬ (i2 = (5 : Int32)) ∧ ¬ (i2 = (6 : Int32)) ∧ ¬ (i2 = (13 : Int32)) ∧ i2 = (14 : Int32) ∧ r = (1 : Int32)) ∨ (¬ (i2 = (3 : Int32)) ∧ ¬ (i2 = (4 : Int32)) ∧ ¬ (i2 = (5 : Int32)) ∧ ¬ (i2 = (6 : Int32)) ∧ ¬ (i2 = (13 : Int32)) ∧ ¬ (i2 = (14 : Int32)) ∧ i2 = (20 : Int32) ∧ r = (1 : Int32)) ∨ (¬ (i2 = (3 : Int32)) ∧ ¬ (i2 = (4 : Int32)) ∧ ¬ (i2 = (5 : Int32)) ∧ ¬ (i2 = (6 : Int32)) ∧ ¬ (i2 = (13 : Int32)) ∧ ¬ (i2 = (14 : Int32)) ∧ ¬ (i2 = (20 : Int32)) ∧ r = (0 : Int32))) :
    ∃ (T' : State), Stand p l e R s m args below meth c T' locs cells slots ∧ T'.heap = h0 ∧
      ∀ target, Steps p.tables e below (T'.setTop (mkF m 233 #[s0, s1, .val (.int i2), s3, .val (.int r), .unset, .unset] [])) target → Steps p.tables e below (T0.setTop (mkF m 187 #[s0, s1, .val (.int i2), s3, .unset, .unset, .unset] [])) target := by
  rcases hU with ⟨c0, hr⟩ | ⟨c0, c1, hr⟩ | ⟨c0, c1, c2, hr⟩ | ⟨c0, c1, c2, c3, hr⟩ | ⟨c0, c1, c2, c3, c4, hr⟩ | ⟨c0, c1, c2, c3, c4, c5, hr⟩ | ⟨c0, c1, c2, c3, c4, c5, c6, hr⟩ | ⟨c0, c1, c2, c3, c4, c5, c6, hr⟩
  · rw [hr]; exact tn0_187_233_t s0 s1 i2 s3 X0 hx hZ hw hby hml hown e0 c0
  · rw [hr]; exact tn0_187_233_ft s0 s1 i2 s3 X0 hx hZ hw hby hml hown e0 c0 c1
  · rw [hr]; exact tn0_187_233_fft s0 s1 i2 s3 X0 hx hZ hw hby hml hown e0 c0 c1 c2
  · rw [hr]; exact tn0_187_233_ffft s0 s1 i2 s3 X0 hx hZ hw hby hml hown e0 c0 c1 c2 c3
  · rw [hr]; exact tn0_187_233_fffft s0 s1 i2 s3 X0 hx hZ hw hby hml hown e0 c0 c1 c2 c3 c4
  · rw [hr]; exact tn0_187_233_ffffft s0 s1 i2 s3 X0 hx hZ hw hby hml hown e0 c0 c1 c2 c3 c4 c5
  · rw [hr]; exact tn0_187_233_fffffff s0 s1 i2 s3 X0 hx hZ hw hby hml hown e0 c0 c1 c2 c3 c4 c5 c6
  · rw [hr]; exact tn0_187_233_fffffft s0 s1 i2 s3 X0 hx hZ hw hby hml hown e0 c0 c1 c2 c3 c4 c5 c6
def Qlaw0 (n0 : Nat) (v : Option Value) (h : Heap) (L : List Loc) : Prop := v = some (.int 1) ∧ Fr n0 L
set_option maxRecDepth 65536 in
set_option maxHeartbeats 40000000 in
theorem tn0_0_187_arr {p : Program} {l : Launch} {e : Env} {R : Room} {s : State} {m : MethodId} {args : Array Value} {below : List Frame} {meth : Method} {c : Code} {T0 : State} {locs : List Loc} {cells slots : Nat} {Z : State} {a0 : Array Value} {h0 : Heap} (i0 : Int32) (wLAST : Addr) (wPOSITION : Addr) (wCOUNT : Addr) (wLOCALNAME : Addr) (wNAMESPACEURI : Addr) (wNAME : Addr) (wSTRING : Addr) (wCONCAT : Addr) (wSTARTSWITH : Addr) (wCONTAINS : Addr) (wSUBSTRINGBEFORE : Addr) (wSUBSTRINGAFTER : Addr) (wSUBSTRING : Addr) (wSTRINGLENGTH : Addr) (wNORMALIZESPACE : Addr) (wTRANSLATE : Addr) (wBOOLEAN : Addr) (wNOT : Addr) (wTRUE : Addr) (wFALSE : Addr) (wNUMBER : Addr) (wSUM : Addr) (wFLOOR : Addr) (wCEILING : Addr) (wROUND : Addr) (wj : Addr) (n0 : Nat)
    (X0 : Stand p l e R s m args below meth c T0 locs cells slots) (hx : p.tables.exec = Jvm.exec) (hZ : Z.Warmed39 s.vm) (hw : ∀ d ∈ tables_1, d.before a0 Z = true) (hby : c.code = code) (hml : c.maxLocals = 7) (hown : s.vm.findClass "com/example/tupletree/tupletree/query/FunctionOfContextPinLaw" = some m.cls) (e0 : T0.heap = h0) (S_LAST : Sta Z h0 "com/example/tupletree/tupletree/query/Function" "LAST" "Lcom/example/tupletree/tupletree/query/Function;" (.ref wLAST)) (S_POSITION : Sta Z h0 "com/example/tupletree/tupletree/query/Function" "POSITION" "Lcom/example/tupletree/tupletree/query/Function;" (.ref wPOSITION)) (S_COUNT : Sta Z h0 "com/example/tupletree/tupletree/query/Function" "COUNT" "Lcom/example/tupletree/tupletree/query/Function;" (.ref wCOUNT)) (S_LOCAL_NAME : Sta Z h0 "com/example/tupletree/tupletree/query/Function" "LOCAL_NAME" "Lcom/example/tupletree/tupletree/query/Function;" (.ref wLOCALNAME)) (S_NAMESPACE_URI : Sta Z h0 "com/example/tupletree/tupletree/query/Function" "NAMESPACE_URI" "Lcom/example/tupletree/tupletree/query/Function;" (.ref wNAMESPACEURI)) (S_NAME : Sta Z h0 "com/example/tupletree/tupletree/query/Function" "NAME" "Lcom/example/tupletree/tupletree/query/Function;" (.ref wNAME)) (S_STRING : Sta Z h0 "com/example/tupletree/tupletree/query/Function" "STRING" "Lcom/example/tupletree/tupletree/query/Function;" (.ref wSTRING)) (S_CONCAT : Sta Z h0 "com/example/tupletree/tupletree/query/Function" "CONCAT" "Lcom/example/tupletree/tupletree/query/Function;" (.ref wCONCAT)) (S_STARTS_WITH : Sta Z h0 "com/example/tupletree/tupletree/query/Function" "STARTS_WITH" "Lcom/example/tupletree/tupletree/query/Function;" (.ref wSTARTSWITH)) (S_CONTAINS : Sta Z h0 "com/example/tupletree/tupletree/query/Function" "CONTAINS" "Lcom/example/tupletree/tupletree/query/Function;" (.ref wCONTAINS)) (S_SUBSTRING_BEFORE : Sta Z h0 "com/example/tupletree/tupletree/query/Function" "SUBSTRING_BEFORE" "Lcom/example/tupletree/tupletree/query/Function;" (.ref wSUBSTRINGBEFORE)) (S_SUBSTRING_AFTER : Sta Z h0 "com/example/tupletree/tupletree/query/Function" "SUBSTRING_AFTER" "Lcom/example/tupletree/tupletree/query/Function;" (.ref wSUBSTRINGAFTER)) (S_SUBSTRING : Sta Z h0 "com/example/tupletree/tupletree/query/Function" "SUBSTRING" "Lcom/example/tupletree/tupletree/query/Function;" (.ref wSUBSTRING)) (S_STRING_LENGTH : Sta Z h0 "com/example/tupletree/tupletree/query/Function" "STRING_LENGTH" "Lcom/example/tupletree/tupletree/query/Function;" (.ref wSTRINGLENGTH)) (S_NORMALIZE_SPACE : Sta Z h0 "com/example/tupletree/tupletree/query/Function" "NORMALIZE_SPACE" "Lcom/example/tupletree/tupletree/query/Function;" (.ref wNORMALIZESPACE)) (S_TRANSLATE : Sta Z h0 "com/example/tupletree/tupletree/query/Function" "TRANSLATE" "Lcom/example/tupletree/tupletree/query/Function;" (.ref wTRANSLATE)) (S_BOOLEAN : Sta Z h0 "com/example/tupletree/tupletree/query/Function" "BOOLEAN" "Lcom/example/tupletree/tupletree/query/Function;" (.ref wBOOLEAN)) (S_NOT : Sta Z h0 "com/example/tupletree/tupletree/query/Function" "NOT" "Lcom/example/tupletree/tupletree/query/Function;" (.ref wNOT)) (S_TRUE : Sta Z h0 "com/example/tupletree/tupletree/query/Function" "TRUE" "Lcom/example/tupletree/tupletree/query/Function;" (.ref wTRUE)) (S_FALSE : Sta Z h0 "com/example/tupletree/tupletree/query/Function" "FALSE" "Lcom/example/tupletree/tupletree/query/Function;" (.ref wFALSE)) (S_NUMBER : Sta Z h0 "com/example/tupletree/tupletree/query/Function" "NUMBER" "Lcom/example/tupletree/tupletree/query/Function;" (.ref wNUMBER)) (S_SUM : Sta Z h0 "com/example/tupletree/tupletree/query/Function" "SUM" "Lcom/example/tupletree/tupletree/query/Function;" (.ref wSUM)) (S_FLOOR : Sta Z h0 "com/example/tupletree/tupletree/query/Function" "FLOOR" "Lcom/example/tupletree/tupletree/query/Function;" (.ref wFLOOR)) (S_CEILING : Sta Z h0 "com/example/tupletree/tupletree/query/Function" "CEILING" "Lcom/example/tupletree/tupletree/query/Function;" (.ref wCEILING)) (S_ROUND : Sta Z h0 "com/example/tupletree/tupletree/query/Function" "ROUND" "Lcom/example/tupletree/tupletree/query/Function;" (.ref wROUND)) (Z0 : n0 ≤ h0.size) (N0 : Fr n0 locs) (hcc : cells + 1 ≤ R.cells) (hsl : slots + 25 ≤ R.slots) (E_wLAST : Exa Z h0 wLAST "com/example/tupletree/tupletree/query/Function") (E_wPOSITION : Exa Z h0 wPOSITION "com/example/tupletree/tupletree/query/Function") (E_wCOUNT : Exa Z h0 wCOUNT "com/example/tupletree/tupletree/query/Function") (E_wLOCALNAME : Exa Z h0 wLOCALNAME "com/example/tupletree/tupletree/query/Function") (E_wNAMESPACEURI : Exa Z h0 wNAMESPACEURI "com/example/tupletree/tupletree/query/Function") (E_wNAME : Exa Z h0 wNAME "com/example/tupletree/tupletree/query/Function") (E_wSTRING : Exa Z h0 wSTRING "com/example/tupletree/tupletree/query/Function") (E_wCONCAT : Exa Z h0 wCONCAT "com/example/tupletree/tupletree/query/Function") (E_wSTARTSWITH : Exa Z h0 wSTARTSWITH "com/example/tupletree/tupletree/query/Function") (E_wCONTAINS : Exa Z h0 wCONTAINS "com/example/tupletree/tupletree/query/Function") (E_wSUBSTRINGBEFORE : Exa Z h0 wSUBSTRINGBEFORE "com/example/tupletree/tupletree/query/Function") (E_wSUBSTRINGAFTER : Exa Z h0 wSUBSTRINGAFTER "com/example/tupletree/tupletree/query/Function") (E_wSUBSTRING : Exa Z h0 wSUBSTRING "com/example/tupletree/tupletree/query/Function") (E_wSTRINGLENGTH : Exa Z h0 wSTRINGLENGTH "com/example/tupletree/tupletree/query/Function") (E_wNORMALIZESPACE : Exa Z h0 wNORMALIZESPACE "com/example/tupletree/tupletree/query/Function") (E_wTRANSLATE : Exa Z h0 wTRANSLATE "com/example/tupletree/tupletree/query/Function") (E_wBOOLEAN : Exa Z h0 wBOOLEAN "com/example/tupletree/tupletree/query/Function") (E_wNOT : Exa Z h0 wNOT "com/example/tupletree/tupletree/query/Function") (E_wTRUE : Exa Z h0 wTRUE "com/example/tupletree/tupletree/query/Function") (E_wFALSE : Exa Z h0 wFALSE "com/example/tupletree/tupletree/query/Function") (E_wNUMBER : Exa Z h0 wNUMBER "com/example/tupletree/tupletree/query/Function") (E_wSUM : Exa Z h0 wSUM "com/example/tupletree/tupletree/query/Function") (E_wFLOOR : Exa Z h0 wFLOOR "com/example/tupletree/tupletree/query/Function") (E_wCEILING : Exa Z h0 wCEILING "com/example/tupletree/tupletree/query/Function") (E_wROUND : Exa Z h0 wROUND "com/example/tupletree/tupletree/query/Function") (hr185 : ¬ ((i0 &&& (2147483647 : Int32)) % (25 : Int32)) < 0 ∧ ((i0 &&& (2147483647 : Int32)) % (25 : Int32)) < (25 : Int32)) (u185 : ([(.ref wLAST), (.ref wPOSITION), (.ref wCOUNT), (.ref wLOCALNAME), (.ref wNAMESPACEURI), (.ref wNAME), (.ref wSTRING), (.ref wCONCAT), (.ref wSTARTSWITH), (.ref wCONTAINS), (.ref wSUBSTRINGBEFORE), (.ref wSUBSTRINGAFTER), (.ref wSUBSTRING), (.ref wSTRINGLENGTH), (.ref wNORMALIZESPACE), (.ref wTRANSLATE), (.ref wBOOLEAN), (.ref wNOT), (.ref wTRUE), (.ref wFALSE), (.ref wNUMBER), (.ref wSUM), (.ref wFLOOR), (.ref wCEILING), (.ref wROUND)] : List Value).getD (((i0 &&& (2147483647 : Int32)) % (25 : Int32))).toNatClampNeg (.null : Value) = (.ref wj)) :
    ∃ (T' : State) (h' : Heap) (b2 : Addr) (LL : List Loc), Stand p l e R s m args below meth c T' LL (cells + 1) (slots + 25) ∧ T'.heap = h' ∧ Keep h0 h' [] ∧ Fr n0 LL ∧
      ∀ target, Steps p.tables e below (T'.setTop (mkF m 187 #[.val (.int i0), .val (.ref b2), .val (.int ((i0 &&& (2147483647 : Int32)) % (25 : Int32))), .val (.ref wj), .unset, .unset, .unset] [])) target → Steps p.tables e below (T0.setTop (mkF m 0 #[.val (.int i0), .unset, .unset, .unset, .unset, .unset, .unset] [])) target := by
  obtain ⟨T2, h2, k2, X2, e2, E2, A2, O2, st2⟩ := newR X0 hx hZ hown (hw _ (List.mem_of_getElem? (i := 0) rfl)) (hw _ (List.mem_of_getElem? (i := 1) rfl)) e0 (g := (mkF m 2 #[.val (.int i0), .unset, .unset, .unset, .unset, .unset, .unset] [(.int (25 : Int32))])) rfl (hb hby at_2) rfl (by decide) (cap := 25) (by decide) (by decide) hcc hsl
  obtain ⟨b2, g2⟩ : ∃ z, z = h0.size := ⟨_, rfl⟩
  rw [← g2] at A2 st2
  have V_b2 : Arv Z h2 b2 k2 (.object "com/example/tupletree/tupletree/query/Function") (25 : Int32) [.null, .null, .null, .null, .null, .null, .null, .null, .null, .null, .null, .null, .null, .null, .null, .null, .null, .null, .null, .null, .null, .null, .null, .null, .null] .null := (Arv.new A2 (by decide)).pad (pad_rep [] .null 25)
  have g_b2 : n0 ≤ b2 := Nat.le_trans Z0 (Nat.le_of_eq g2.symm)
  have sz_b2 : h0.size ≤ b2 := (Nat.le_trans (Keep.refl h0 []).1 (Nat.le_of_eq g2.symm))
  have K2 : Keep h0 h2 [] := (Keep.refl h0 []).ext E2
  obtain ⟨T3, X3, e3, st3⟩ := getS2 X2 hx hZ hown (host := "") (Or.inl (hw _ (List.mem_of_getElem? (i := 2) rfl))) Via.refl e2 (S_LAST.ext E2) (g := (mkF m 7 #[.val (.int i0), .unset, .unset, .unset, .unset, .unset, .unset] [(.int (0 : Int32)), (.ref b2), (.ref b2)])) rfl (hb hby at_7)
  obtain ⟨cl_b2_10, Ar_b2_10, q_b2_10, S_b2_10, N_b2_10, H_b2_10, G_b2_10⟩ := id V_b2
  have hin10 : ¬ ((0 : Int32) < 0 ∨ cl_b2_10.slots.size ≤ ((0 : Int32)).toNatClampNeg) := inb_of S_b2_10 ⟨by decide, by decide⟩
  have Sto10 := Sto.ofV Ar_b2_10 q_b2_10 O2 (Ins.self (E_wLAST.ext E2))
  obtain ⟨T4, h4, X4, e4, W4, st4⟩ := stR X3 hx hZ e3 Ar_b2_10 (j := (0 : Int32)) hin10 rfl Sto10 (g := (mkF m 10 #[.val (.int i0), .unset, .unset, .unset, .unset, .unset, .unset] [(.ref wLAST), (.int (0 : Int32)), (.ref b2), (.ref b2)])) rfl rfl (hb hby at_10)
  have V_b2_10 : Arv Z h4 b2 k2 (.object "com/example/tupletree/tupletree/query/Function") (25 : Int32) [(.ref wLAST), .null, .null, .null, .null, .null, .null, .null, .null, .null, .null, .null, .null, .null, .null, .null, .null, .null, .null, .null, .null, .null, .null, .null, .null] .null := Arv.set Ar_b2_10 q_b2_10 S_b2_10 N_b2_10 H_b2_10 G_b2_10 (v := (.ref wLAST)) rfl W4 0 rfl (Nat.le_of_ble_eq_true rfl)
  have K4 : Keep h0 h4 [] := K2.wr W4 (Or.inr sz_b2)
  have N4 := Fr.snoc X4 N0 g_b2
  obtain ⟨T5, X5, e5, st5⟩ := getS2 X4 hx hZ hown (host := "") (Or.inl (hw _ (List.mem_of_getElem? (i := 6) rfl))) Via.refl e4 ((S_POSITION.ext E2).wr W4) (g := (mkF m 13 #[.val (.int i0), .unset, .unset, .unset, .unset, .unset, .unset] [(.int (1 : Int32)), (.ref b2), (.ref b2)])) rfl (hb hby at_13)
  obtain ⟨cl_b2_16, Ar_b2_16, q_b2_16, S_b2_16, N_b2_16, H_b2_16, G_b2_16⟩ := id V_b2_10
  have hin16 : ¬ ((1 : Int32) < 0 ∨ cl_b2_16.slots.size ≤ ((1 : Int32)).toNatClampNeg) := inb_of S_b2_16 ⟨by decide, by decide⟩
  have Sto16 := Sto.ofV Ar_b2_16 q_b2_16 O2 (Ins.self ((E_wPOSITION.ext E2).wr W4))
  obtain ⟨T6, h6, X6, e6, W6, st6⟩ := stR X5 hx hZ e5 Ar_b2_16 (j := (1 : Int32)) hin16 rfl Sto16 (g := (mkF m 16 #[.val (.int i0), .unset, .unset, .unset, .unset, .unset, .unset] [(.ref wPOSITION), (.int (1 : Int32)), (.ref b2), (.ref b2)])) rfl rfl (hb hby at_16)
  have V_b2_16 : Arv Z h6 b2 k2 (.object "com/example/tupletree/tupletree/query/Function") (25 : Int32) [(.ref wLAST), (.ref wPOSITION), .null, .null, .null, .null, .null, .null, .null, .null, .null, .null, .null, .null, .null, .null, .null, .null, .null, .null, .null, .null, .null, .null, .null] .null := Arv.set Ar_b2_16 q_b2_16 S_b2_16 N_b2_16 H_b2_16 G_b2_16 (v := (.ref wPOSITION)) rfl W6 1 rfl (Nat.le_of_ble_eq_true rfl)
  have K6 : Keep h0 h6 [] := K4.wr W6 (Or.inr sz_b2)
  have N6 := Fr.snoc X6 N4 g_b2
  obtain ⟨T7, X7, e7, st7⟩ := getS2 X6 hx hZ hown (host := "") (Or.inl (hw _ (List.mem_of_getElem? (i := 8) rfl))) Via.refl e6 (((S_COUNT.ext E2).wr W4).wr W6) (g := (mkF m 19 #[.val (.int i0), .unset, .unset, .unset, .unset, .unset, .unset] [(.int (2 : Int32)), (.ref b2), (.ref b2)])) rfl (hb hby at_19)
  obtain ⟨cl_b2_22, Ar_b2_22, q_b2_22, S_b2_22, N_b2_22, H_b2_22, G_b2_22⟩ := id V_b2_16
  have hin22 : ¬ ((2 : Int32) < 0 ∨ cl_b2_22.slots.size ≤ ((2 : Int32)).toNatClampNeg) := inb_of S_b2_22 ⟨by decide, by decide⟩
  have Sto22 := Sto.ofV Ar_b2_22 q_b2_22 O2 (Ins.self (((E_wCOUNT.ext E2).wr W4).wr W6))
  obtain ⟨T8, h8, X8, e8, W8, st8⟩ := stR X7 hx hZ e7 Ar_b2_22 (j := (2 : Int32)) hin22 rfl Sto22 (g := (mkF m 22 #[.val (.int i0), .unset, .unset, .unset, .unset, .unset, .unset] [(.ref wCOUNT), (.int (2 : Int32)), (.ref b2), (.ref b2)])) rfl rfl (hb hby at_22)
  have V_b2_22 : Arv Z h8 b2 k2 (.object "com/example/tupletree/tupletree/query/Function") (25 : Int32) [(.ref wLAST), (.ref wPOSITION), (.ref wCOUNT), .null, .null, .null, .null, .null, .null, .null, .null, .null, .null, .null, .null, .null, .null, .null, .null, .null, .null, .null, .null, .null, .null] .null := Arv.set Ar_b2_22 q_b2_22 S_b2_22 N_b2_22 H_b2_22 G_b2_22 (v := (.ref wCOUNT)) rfl W8 2 rfl (Nat.le_of_ble_eq_true rfl)
  have K8 : Keep h0 h8 [] := K6.wr W8 (Or.inr sz_b2)
  have N8 := Fr.snoc X8 N6 g_b2
  obtain ⟨T9, X9, e9, st9⟩ := getS2 X8 hx hZ hown (host := "") (Or.inl (hw _ (List.mem_of_getElem? (i := 10) rfl))) Via.refl e8 ((((S_LOCAL_NAME.ext E2).wr W4).wr W6).wr W8) (g := (mkF m 25 #[.val (.int i0), .unset, .unset, .unset, .unset, .unset, .unset] [(.int (3 : Int32)), (.ref b2), (.ref b2)])) rfl (hb hby at_25)
  obtain ⟨cl_b2_28, Ar_b2_28, q_b2_28, S_b2_28, N_b2_28, H_b2_28, G_b2_28⟩ := id V_b2_22
  have hin28 : ¬ ((3 : Int32) < 0 ∨ cl_b2_28.slots.size ≤ ((3 : Int32)).toNatClampNeg) := inb_of S_b2_28 ⟨by decide, by decide⟩
  have Sto28 := Sto.ofV Ar_b2_28 q_b2_28 O2 (Ins.self ((((E_wLOCALNAME.ext E2).wr W4).wr W6).wr W8))
  obtain ⟨T10, h10, X10, e10, W10, st10⟩ := stR X9 hx hZ e9 Ar_b2_28 (j := (3 : Int32)) hin28 rfl Sto28 (g := (mkF m 28 #[.val (.int i0), .unset, .unset, .unset, .unset, .unset, .unset] [(.ref wLOCALNAME), (.int (3 : Int32)), (.ref b2), (.ref b2)])) rfl rfl (hb hby at_28)
  have V_b2_28 : Arv Z h10 b2 k2 (.object "com/example/tupletree/tupletree/query/Function") (25 : Int32) [(.ref wLAST), (.ref wPOSITION), (.ref wCOUNT), (.ref wLOCALNAME), .null, .null, .null, .null, .null, .null, .null, .null, .null, .null, .null, .null, .null, .null, .null, .null, .null, .null, .null, .null, .null] .null := Arv.set Ar_b2_28 q_b2_28 S_b2_28 N_b2_28 H_b2_28 G_b2_28 (v := (.ref wLOCALNAME)) rfl W10 3 rfl (Nat.le_of_ble_eq_true rfl)
  have K10 : Keep h0 h10 [] := K8.wr W10 (Or.inr sz_b2)
  have N10 := Fr.snoc X10 N8 g_b2
  obtain ⟨T11, X11, e11, st11⟩ := getS2 X10 hx hZ hown (host := "") (Or.inl (hw _ (List.mem_of_getElem? (i := 12) rfl))) Via.refl e10 (((((S_NAMESPACE_URI.ext E2).wr W4).wr W6).wr W8).wr W10) (g := (mkF m 31 #[.val (.int i0), .unset, .unset, .unset, .unset, .unset, .unset] [(.int (4 : Int32)), (.ref b2), (.ref b2)])) rfl (hb hby at_31)
  obtain ⟨cl_b2_34, Ar_b2_34, q_b2_34, S_b2_34, N_b2_34, H_b2_34, G_b2_34⟩ := id V_b2_28
  have hin34 : ¬ ((4 : Int32) < 0 ∨ cl_b2_34.slots.size ≤ ((4 : Int32)).toNatClampNeg) := inb_of S_b2_34 ⟨by decide, by decide⟩
  have Sto34 := Sto.ofV Ar_b2_34 q_b2_34 O2 (Ins.self (((((E_wNAMESPACEURI.ext E2).wr W4).wr W6).wr W8).wr W10))
  obtain ⟨T12, h12, X12, e12, W12, st12⟩ := stR X11 hx hZ e11 Ar_b2_34 (j := (4 : Int32)) hin34 rfl Sto34 (g := (mkF m 34 #[.val (.int i0), .unset, .unset, .unset, .unset, .unset, .unset] [(.ref wNAMESPACEURI), (.int (4 : Int32)), (.ref b2), (.ref b2)])) rfl rfl (hb hby at_34)
  have V_b2_34 : Arv Z h12 b2 k2 (.object "com/example/tupletree/tupletree/query/Function") (25 : Int32) [(.ref wLAST), (.ref wPOSITION), (.ref wCOUNT), (.ref wLOCALNAME), (.ref wNAMESPACEURI), .null, .null, .null, .null, .null, .null, .null, .null, .null, .null, .null, .null, .null, .null, .null, .null, .null, .null, .null, .null] .null := Arv.set Ar_b2_34 q_b2_34 S_b2_34 N_b2_34 H_b2_34 G_b2_34 (v := (.ref wNAMESPACEURI)) rfl W12 4 rfl (Nat.le_of_ble_eq_true rfl)
  have K12 : Keep h0 h12 [] := K10.wr W12 (Or.inr sz_b2)
  have N12 := Fr.snoc X12 N10 g_b2
  obtain ⟨T13, X13, e13, st13⟩ := getS2 X12 hx hZ hown (host := "") (Or.inl (hw _ (List.mem_of_getElem? (i := 14) rfl))) Via.refl e12 ((((((S_NAME.ext E2).wr W4).wr W6).wr W8).wr W10).wr W12) (g := (mkF m 37 #[.val (.int i0), .unset, .unset, .unset, .unset, .unset, .unset] [(.int (5 : Int32)), (.ref b2), (.ref b2)])) rfl (hb hby at_37)
  obtain ⟨cl_b2_40, Ar_b2_40, q_b2_40, S_b2_40, N_b2_40, H_b2_40, G_b2_40⟩ := id V_b2_34
  have hin40 : ¬ ((5 : Int32) < 0 ∨ cl_b2_40.slots.size ≤ ((5 : Int32)).toNatClampNeg) := inb_of S_b2_40 ⟨by decide, by decide⟩
  have Sto40 := Sto.ofV Ar_b2_40 q_b2_40 O2 (Ins.self ((((((E_wNAME.ext E2).wr W4).wr W6).wr W8).wr W10).wr W12))
  obtain ⟨T14, h14, X14, e14, W14, st14⟩ := stR X13 hx hZ e13 Ar_b2_40 (j := (5 : Int32)) hin40 rfl Sto40 (g := (mkF m 40 #[.val (.int i0), .unset, .unset, .unset, .unset, .unset, .unset] [(.ref wNAME), (.int (5 : Int32)), (.ref b2), (.ref b2)])) rfl rfl (hb hby at_40)
  have V_b2_40 : Arv Z h14 b2 k2 (.object "com/example/tupletree/tupletree/query/Function") (25 : Int32) [(.ref wLAST), (.ref wPOSITION), (.ref wCOUNT), (.ref wLOCALNAME), (.ref wNAMESPACEURI), (.ref wNAME), .null, .null, .null, .null, .null, .null, .null, .null, .null, .null, .null, .null, .null, .null, .null, .null, .null, .null, .null] .null := Arv.set Ar_b2_40 q_b2_40 S_b2_40 N_b2_40 H_b2_40 G_b2_40 (v := (.ref wNAME)) rfl W14 5 rfl (Nat.le_of_ble_eq_true rfl)
  have K14 : Keep h0 h14 [] := K12.wr W14 (Or.inr sz_b2)
  have N14 := Fr.snoc X14 N12 g_b2
  obtain ⟨T15, X15, e15, st15⟩ := getS2 X14 hx hZ hown (host := "") (Or.inl (hw _ (List.mem_of_getElem? (i := 16) rfl))) Via.refl e14 (((((((S_STRING.ext E2).wr W4).wr W6).wr W8).wr W10).wr W12).wr W14) (g := (mkF m 44 #[.val (.int i0), .unset, .unset, .unset, .unset, .unset, .unset] [(.int (6 : Int32)), (.ref b2), (.ref b2)])) rfl (hb hby at_44)
  obtain ⟨cl_b2_47, Ar_b2_47, q_b2_47, S_b2_47, N_b2_47, H_b2_47, G_b2_47⟩ := id V_b2_40
  have hin47 : ¬ ((6 : Int32) < 0 ∨ cl_b2_47.slots.size ≤ ((6 : Int32)).toNatClampNeg) := inb_of S_b2_47 ⟨by decide, by decide⟩
  have Sto47 := Sto.ofV Ar_b2_47 q_b2_47 O2 (Ins.self (((((((E_wSTRING.ext E2).wr W4).wr W6).wr W8).wr W10).wr W12).wr W14))
  obtain ⟨T16, h16, X16, e16, W16, st16⟩ := stR X15 hx hZ e15 Ar_b2_47 (j := (6 : Int32)) hin47 rfl Sto47 (g := (mkF m 47 #[.val (.int i0), .unset, .unset, .unset, .unset, .unset, .unset] [(.ref wSTRING), (.int (6 : Int32)), (.ref b2), (.ref b2)])) rfl rfl (hb hby at_47)
  have V_b2_47 : Arv Z h16 b2 k2 (.object "com/example/tupletree/tupletree/query/Function") (25 : Int32) [(.ref wLAST), (.ref wPOSITION), (.ref wCOUNT), (.ref wLOCALNAME), (.ref wNAMESPACEURI), (.ref wNAME), (.ref wSTRING), .null, .null, .null, .null, .null, .null, .null, .null, .null, .null, .null, .null, .null, .null, .null, .null, .null, .null] .null := Arv.set Ar_b2_47 q_b2_47 S_b2_47 N_b2_47 H_b2_47 G_b2_47 (v := (.ref wSTRING)) rfl W16 6 rfl (Nat.le_of_ble_eq_true rfl)
  have K16 : Keep h0 h16 [] := K14.wr W16 (Or.inr sz_b2)
  have N16 := Fr.snoc X16 N14 g_b2
  obtain ⟨T17, X17, e17, st17⟩ := getS2 X16 hx hZ hown (host := "") (Or.inl (hw _ (List.mem_of_getElem? (i := 18) rfl))) Via.refl e16 ((((((((S_CONCAT.ext E2).wr W4).wr W6).wr W8).wr W10).wr W12).wr W14).wr W16) (g := (mkF m 51 #[.val (.int i0), .unset, .unset, .unset, .unset, .unset, .unset] [(.int (7 : Int32)), (.ref b2), (.ref b2)])) rfl (hb hby at_51)
  obtain ⟨cl_b2_54, Ar_b2_54, q_b2_54, S_b2_54, N_b2_54, H_b2_54, G_b2_54⟩ := id V_b2_47
  have hin54 : ¬ ((7 : Int32) < 0 ∨ cl_b2_54.slots.size ≤ ((7 : Int32)).toNatClampNeg) := inb_of S_b2_54 ⟨by decide, by decide⟩
  have Sto54 := Sto.ofV Ar_b2_54 q_b2_54 O2 (Ins.self ((((((((E_wCONCAT.ext E2).wr W4).wr W6).wr W8).wr W10).wr W12).wr W14).wr W16))
  obtain ⟨T18, h18, X18, e18, W18, st18⟩ := stR X17 hx hZ e17 Ar_b2_54 (j := (7 : Int32)) hin54 rfl Sto54 (g := (mkF m 54 #[.val (.int i0), .unset, .unset, .unset, .unset, .unset, .unset] [(.ref wCONCAT), (.int (7 : Int32)), (.ref b2), (.ref b2)])) rfl rfl (hb hby at_54)
  have V_b2_54 : Arv Z h18 b2 k2 (.object "com/example/tupletree/tupletree/query/Function") (25 : Int32) [(.ref wLAST), (.ref wPOSITION), (.ref wCOUNT), (.ref wLOCALNAME), (.ref wNAMESPACEURI), (.ref wNAME), (.ref wSTRING), (.ref wCONCAT), .null, .null, .null, .null, .null, .null, .null, .null, .null, .null, .null, .null, .null, .null, .null, .null, .null] .null := Arv.set Ar_b2_54 q_b2_54 S_b2_54 N_b2_54 H_b2_54 G_b2_54 (v := (.ref wCONCAT)) rfl W18 7 rfl (Nat.le_of_ble_eq_true rfl)
  have K18 : Keep h0 h18 [] := K16.wr W18 (Or.inr sz_b2)
  have N18 := Fr.snoc X18 N16 g_b2
  obtain ⟨T19, X19, e19, st19⟩ := getS2 X18 hx hZ hown (host := "") (Or.inl (hw _ (List.mem_of_getElem? (i := 20) rfl))) Via.refl e18 (((((((((S_STARTS_WITH.ext E2).wr W4).wr W6).wr W8).wr W10).wr W12).wr W14).wr W16).wr W18) (g := (mkF m 58 #[.val (.int i0), .unset, .unset, .unset, .unset, .unset, .unset] [(.int (8 : Int32)), (.ref b2), (.ref b2)])) rfl (hb hby at_58)
  obtain ⟨cl_b2_61, Ar_b2_61, q_b2_61, S_b2_61, N_b2_61, H_b2_61, G_b2_61⟩ := id V_b2_54
  have hin61 : ¬ ((8 : Int32) < 0 ∨ cl_b2_61.slots.size ≤ ((8 : Int32)).toNatClampNeg) := inb_of S_b2_61 ⟨by decide, by decide⟩
  have Sto61 := Sto.ofV Ar_b2_61 q_b2_61 O2 (Ins.self (((((((((E_wSTARTSWITH.ext E2).wr W4).wr W6).wr W8).wr W10).wr W12).wr W14).wr W16).wr W18))
  obtain ⟨T20, h20, X20, e20, W20, st20⟩ := stR X19 hx hZ e19 Ar_b2_61 (j := (8 : Int32)) hin61 rfl Sto61 (g := (mkF m 61 #[.val (.int i0), .unset, .unset, .unset, .unset, .unset, .unset] [(.ref wSTARTSWITH), (.int (8 : Int32)), (.ref b2), (.ref b2)])) rfl rfl (hb hby at_61)
  have V_b2_61 : Arv Z h20 b2 k2 (.object "com/example/tupletree/tupletree/query/Function") (25 : Int32) [(.ref wLAST), (.ref wPOSITION), (.ref wCOUNT), (.ref wLOCALNAME), (.ref wNAMESPACEURI), (.ref wNAME), (.ref wSTRING), (.ref wCONCAT), (.ref wSTARTSWITH), .null, .null, .null, .null, .null, .null, .null, .null, .null, .null, .null, .null, .null, .null, .null, .null] .null := Arv.set Ar_b2_61 q_b2_61 S_b2_61 N_b2_61 H_b2_61 G_b2_61 (v := (.ref wSTARTSWITH)) rfl W20 8 rfl (Nat.le_of_ble_eq_true rfl)
  have K20 : Keep h0 h20 [] := K18.wr W20 (Or.inr sz_b2)
  have N20 := Fr.snoc X20 N18 g_b2
  obtain ⟨T21, X21, e21, st21⟩ := getS2 X20 hx hZ hown (host := "") (Or.inl (hw _ (List.mem_of_getElem? (i := 22) rfl))) Via.refl e20 ((((((((((S_CONTAINS.ext E2).wr W4).wr W6).wr W8).wr W10).wr W12).wr W14).wr W16).wr W18).wr W20) (g := (mkF m 65 #[.val (.int i0), .unset, .unset, .unset, .unset, .unset, .unset] [(.int (9 : Int32)), (.ref b2), (.ref b2)])) rfl (hb hby at_65)
  obtain ⟨cl_b2_68, Ar_b2_68, q_b2_68, S_b2_68, N_b2_68, H_b2_68, G_b2_68⟩ := id V_b2_61
  have hin68 : ¬ ((9 : Int32) < 0 ∨ cl_b2_68.slots.size ≤ ((9 : Int32)).toNatClampNeg) := inb_of S_b2_68 ⟨by decide, by decide⟩
  have Sto68 := Sto.ofV Ar_b2_68 q_b2_68 O2 (Ins.self ((((((((((E_wCONTAINS.ext E2).wr W4).wr W6).wr W8).wr W10).wr W12).wr W14).wr W16).wr W18).wr W20))
  obtain ⟨T22, h22, X22, e22, W22, st22⟩ := stR X21 hx hZ e21 Ar_b2_68 (j := (9 : Int32)) hin68 rfl Sto68 (g := (mkF m 68 #[.val (.int i0), .unset, .unset, .unset, .unset, .unset, .unset] [(.ref wCONTAINS), (.int (9 : Int32)), (.ref b2), (.ref b2)])) rfl rfl (hb hby at_68)
  have V_b2_68 : Arv Z h22 b2 k2 (.object "com/example/tupletree/tupletree/query/Function") (25 : Int32) [(.ref wLAST), (.ref wPOSITION), (.ref wCOUNT), (.ref wLOCALNAME), (.ref wNAMESPACEURI), (.ref wNAME), (.ref wSTRING), (.ref wCONCAT), (.ref wSTARTSWITH), (.ref wCONTAINS), .null, .null, .null, .null, .null, .null, .null, .null, .null, .null, .null, .null, .null, .null, .null] .null := Arv.set Ar_b2_68 q_b2_68 S_b2_68 N_b2_68 H_b2_68 G_b2_68 (v := (.ref wCONTAINS)) rfl W22 9 rfl (Nat.le_of_ble_eq_true rfl)
  have K22 : Keep h0 h22 [] := K20.wr W22 (Or.inr sz_b2)
  have N22 := Fr.snoc X22 N20 g_b2
  obtain ⟨T23, X23, e23, st23⟩ := getS2 X22 hx hZ hown (host := "") (Or.inl (hw _ (List.mem_of_getElem? (i := 24) rfl))) Via.refl e22 (((((((((((S_SUBSTRING_BEFORE.ext E2).wr W4).wr W6).wr W8).wr W10).wr W12).wr W14).wr W16).wr W18).wr W20).wr W22) (g := (mkF m 72 #[.val (.int i0), .unset, .unset, .unset, .unset, .unset, .unset] [(.int (10 : Int32)), (.ref b2), (.ref b2)])) rfl (hb hby at_72)
  obtain ⟨cl_b2_75, Ar_b2_75, q_b2_75, S_b2_75, N_b2_75, H_b2_75, G_b2_75⟩ := id V_b2_68
  have hin75 : ¬ ((10 : Int32) < 0 ∨ cl_b2_75.slots.size ≤ ((10 : Int32)).toNatClampNeg) := inb_of S_b2_75 ⟨by decide, by decide⟩
  have Sto75 := Sto.ofV Ar_b2_75 q_b2_75 O2 (Ins.self (((((((((((E_wSUBSTRINGBEFORE.ext E2).wr W4).wr W6).wr W8).wr W10).wr W12).wr W14).wr W16).wr W18).wr W20).wr W22))
  obtain ⟨T24, h24, X24, e24, W24, st24⟩ := stR X23 hx hZ e23 Ar_b2_75 (j := (10 : Int32)) hin75 rfl Sto75 (g := (mkF m 75 #[.val (.int i0), .unset, .unset, .unset, .unset, .unset, .unset] [(.ref wSUBSTRINGBEFORE), (.int (10 : Int32)), (.ref b2), (.ref b2)])) rfl rfl (hb hby at_75)
  have V_b2_75 : Arv Z h24 b2 k2 (.object "com/example/tupletree/tupletree/query/Function") (25 : Int32) [(.ref wLAST), (.ref wPOSITION), (.ref wCOUNT), (.ref wLOCALNAME), (.ref wNAMESPACEURI), (.ref wNAME), (.ref wSTRING), (.ref wCONCAT), (.ref wSTARTSWITH), (.ref wCONTAINS), (.ref wSUBSTRINGBEFORE), .null, .null, .null, .null, .null, .null, .null, .null, .null, .null, .null, .null, .null, .null] .null := Arv.set Ar_b2_75 q_b2_75 S_b2_75 N_b2_75 H_b2_75 G_b2_75 (v := (.ref wSUBSTRINGBEFORE)) rfl W24 10 rfl (Nat.le_of_ble_eq_true rfl)
  have K24 : Keep h0 h24 [] := K22.wr W24 (Or.inr sz_b2)
  have N24 := Fr.snoc X24 N22 g_b2
  obtain ⟨T25, X25, e25, st25⟩ := getS2 X24 hx hZ hown (host := "") (Or.inl (hw _ (List.mem_of_getElem? (i := 26) rfl))) Via.refl e24 ((((((((((((S_SUBSTRING_AFTER.ext E2).wr W4).wr W6).wr W8).wr W10).wr W12).wr W14).wr W16).wr W18).wr W20).wr W22).wr W24) (g := (mkF m 79 #[.val (.int i0), .unset, .unset, .unset, .unset, .unset, .unset] [(.int (11 : Int32)), (.ref b2), (.ref b2)])) rfl (hb hby at_79)
  obtain ⟨cl_b2_82, Ar_b2_82, q_b2_82, S_b2_82, N_b2_82, H_b2_82, G_b2_82⟩ := id V_b2_75
  have hin82 : ¬ ((11 : Int32) < 0 ∨ cl_b2_82.slots.size ≤ ((11 : Int32)).toNatClampNeg) := inb_of S_b2_82 ⟨by decide, by decide⟩
  have Sto82 := Sto.ofV Ar_b2_82 q_b2_82 O2 (Ins.self ((((((((((((E_wSUBSTRINGAFTER.ext E2).wr W4).wr W6).wr W8).wr W10).wr W12).wr W14).wr W16).wr W18).wr W20).wr W22).wr W24))
  obtain ⟨T26, h26, X26, e26, W26, st26⟩ := stR X25 hx hZ e25 Ar_b2_82 (j := (11 : Int32)) hin82 rfl Sto82 (g := (mkF m 82 #[.val (.int i0), .unset, .unset, .unset, .unset, .unset, .unset] [(.ref wSUBSTRINGAFTER), (.int (11 : Int32)), (.ref b2), (.ref b2)])) rfl rfl (hb hby at_82)
  have V_b2_82 : Arv Z h26 b2 k2 (.object "com/example/tupletree/tupletree/query/Function") (25 : Int32) [(.ref wLAST), (.ref wPOSITION), (.ref wCOUNT), (.ref wLOCALNAME), (.ref wNAMESPACEURI), (.ref wNAME), (.ref wSTRING), (.ref wCONCAT), (.ref wSTARTSWITH), (.ref wCONTAINS), (.ref wSUBSTRINGBEFORE), (.ref wSUBSTRINGAFTER), .null, .null, .null, .null, .null, .null, .null, .null, .null, .null, .null, .null, .null] .null := Arv.set Ar_b2_82 q_b2_82 S_b2_82 N_b2_82 H_b2_82 G_b2_82 (v := (.ref wSUBSTRINGAFTER)) rfl W26 11 rfl (Nat.le_of_ble_eq_true rfl)
  have K26 : Keep h0 h26 [] := K24.wr W26 (Or.inr sz_b2)
  have N26 := Fr.snoc X26 N24 g_b2
  obtain ⟨T27, X27, e27, st27⟩ := getS2 X26 hx hZ hown (host := "") (Or.inl (hw _ (List.mem_of_getElem? (i := 28) rfl))) Via.refl e26 (((((((((((((S_SUBSTRING.ext E2).wr W4).wr W6).wr W8).wr W10).wr W12).wr W14).wr W16).wr W18).wr W20).wr W22).wr W24).wr W26) (g := (mkF m 86 #[.val (.int i0), .unset, .unset, .unset, .unset, .unset, .unset] [(.int (12 : Int32)), (.ref b2), (.ref b2)])) rfl (hb hby at_86)
  obtain ⟨cl_b2_89, Ar_b2_89, q_b2_89, S_b2_89, N_b2_89, H_b2_89, G_b2_89⟩ := id V_b2_82
  have hin89 : ¬ ((12 : Int32) < 0 ∨ cl_b2_89.slots.size ≤ ((12 : Int32)).toNatClampNeg) := inb_of S_b2_89 ⟨by decide, by decide⟩
  have Sto89 := Sto.ofV Ar_b2_89 q_b2_89 O2 (Ins.self (((((((((((((E_wSUBSTRING.ext E2).wr W4).wr W6).wr W8).wr W10).wr W12).wr W14).wr W16).wr W18).wr W20).wr W22).wr W24).wr W26))
  obtain ⟨T28, h28, X28, e28, W28, st28⟩ := stR X27 hx hZ e27 Ar_b2_89 (j := (12 : Int32)) hin89 rfl Sto89 (g := (mkF m 89 #[.val (.int i0), .unset, .unset, .unset, .unset, .unset, .unset] [(.ref wSUBSTRING), (.int (12 : Int32)), (.ref b2), (.ref b2)])) rfl rfl (hb hby at_89)
  have V_b2_89 : Arv Z h28 b2 k2 (.object "com/example/tupletree/tupletree/query/Function") (25 : Int32) [(.ref wLAST), (.ref wPOSITION), (.ref wCOUNT), (.ref wLOCALNAME), (.ref wNAMESPACEURI), (.ref wNAME), (.ref wSTRING), (.ref wCONCAT), (.ref wSTARTSWITH), (.ref wCONTAINS), (.ref wSUBSTRINGBEFORE), (.ref wSUBSTRINGAFTER), (.ref wSUBSTRING), .null, .null, .null, .null, .null, .null, .null, .null, .null, .null, .null, .null] .null := Arv.set Ar_b2_89 q_b2_89 S_b2_89 N_b2_89 H_b2_89 G_b2_89 (v := (.ref wSUBSTRING)) rfl W28 12 rfl (Nat.le_of_ble_eq_true rfl)
  have K28 : Keep h0 h28 [] := K26.wr W28 (Or.inr sz_b2)
  have N28 := Fr.snoc X28 N26 g_b2
  obtain ⟨T29, X29, e29, st29⟩ := getS2 X28 hx hZ hown (host := "") (Or.inl (hw _ (List.mem_of_getElem? (i := 30) rfl))) Via.refl e28 ((((((((((((((S_STRING_LENGTH.ext E2).wr W4).wr W6).wr W8).wr W10).wr W12).wr W14).wr W16).wr W18).wr W20).wr W22).wr W24).wr W26).wr W28) (g := (mkF m 93 #[.val (.int i0), .unset, .unset, .unset, .unset, .unset, .unset] [(.int (13 : Int32)), (.ref b2), (.ref b2)])) rfl (hb hby at_93)
  obtain ⟨cl_b2_96, Ar_b2_96, q_b2_96, S_b2_96, N_b2_96, H_b2_96, G_b2_96⟩ := id V_b2_89
  have hin96 : ¬ ((13 : Int32) < 0 ∨ cl_b2_96.slots.size ≤ ((13 : Int32)).toNatClampNeg) := inb_of S_b2_96 ⟨by decide, by decide⟩
  have Sto96 := Sto.ofV Ar_b2_96 q_b2_96 O2 (Ins.self ((((((((((((((E_wSTRINGLENGTH.ext E2).wr W4).wr W6).wr W8).wr W10).wr W12).wr W14).wr W16).wr W18).wr W20).wr W22).wr W24).wr W26).wr W28))
  obtain ⟨T30, h30, X30, e30, W30, st30⟩ := stR X29 hx hZ e29 Ar_b2_96 (j := (13 : Int32)) hin96 rfl Sto96 (g := (mkF m 96 #[.val (.int i0), .unset, .unset, .unset, .unset, .unset, .unset] [(.ref wSTRINGLENGTH), (.int (13 : Int32)), (.ref b2), (.ref b2)])) rfl rfl (hb hby at_96)
  have V_b2_96 : Arv Z h30 b2 k2 (.object "com/example/tupletree/tupletree/query/Function") (25 : Int32) [(.ref wLAST), (.ref wPOSITION), (.ref wCOUNT), (.ref wLOCALNAME), (.ref wNAMESPACEURI), (.ref wNAME), (.ref wSTRING), (.ref wCONCAT), (.ref wSTARTSWITH), (.ref wCONTAINS), (.ref wSUBSTRINGBEFORE), (.ref wSUBSTRINGAFTER), (.ref wSUBSTRING), (.ref wSTRINGLENGTH), .null, .null, .null, .null, .null, .null, .null, .null, .null, .null, .null] .null := Arv.set Ar_b2_96 q_b2_96 S_b2_96 N_b2_96 H_b2_96 G_b2_96 (v := (.ref wSTRINGLENGTH)) rfl W30 13 rfl (Nat.le_of_ble_eq_true rfl)
  have K30 : Keep h0 h30 [] := K28.wr W30 (Or.inr sz_b2)
  have N30 := Fr.snoc X30 N28 g_b2
  obtain ⟨T31, X31, e31, st31⟩ := getS2 X30 hx hZ hown (host := "") (Or.inl (hw _ (List.mem_of_getElem? (i := 32) rfl))) Via.refl e30 (((((((((((((((S_NORMALIZE_SPACE.ext E2).wr W4).wr W6).wr W8).wr W10).wr W12).wr W14).wr W16).wr W18).wr W20).wr W22).wr W24).wr W26).wr W28).wr W30) (g := (mkF m 100 #[.val (.int i0), .unset, .unset, .unset, .unset, .unset, .unset] [(.int (14 : Int32)), (.ref b2), (.ref b2)])) rfl (hb hby at_100)
  obtain ⟨cl_b2_103, Ar_b2_103, q_b2_103, S_b2_103, N_b2_103, H_b2_103, G_b2_103⟩ := id V_b2_96
  have hin103 : ¬ ((14 : Int32) < 0 ∨ cl_b2_103.slots.size ≤ ((14 : Int32)).toNatClampNeg) := inb_of S_b2_103 ⟨by decide, by decide⟩
  have Sto103 := Sto.ofV Ar_b2_103 q_b2_103 O2 (Ins.self (((((((((((((((E_wNORMALIZESPACE.ext E2).wr W4).wr W6).wr W8).wr W10).wr W12).wr W14).wr W16).wr W18).wr W20).wr W22).wr W24).wr W26).wr W28).wr W30))
  obtain ⟨T32, h32, X32, e32, W32, st32⟩ := stR X31 hx hZ e31 Ar_b2_103 (j := (14 : Int32)) hin103 rfl Sto103 (g := (mkF m 103 #[.val (.int i0), .unset, .unset, .unset, .unset, .unset, .unset] [(.ref wNORMALIZESPACE), (.int (14 : Int32)), (.ref b2), (.ref b2)])) rfl rfl (hb hby at_103)
  have V_b2_103 : Arv Z h32 b2 k2 (.object "com/example/tupletree/tupletree/query/Function") (25 : Int32) [(.ref wLAST), (.ref wPOSITION), (.ref wCOUNT), (.ref wLOCALNAME), (.ref wNAMESPACEURI), (.ref wNAME), (.ref wSTRING), (.ref wCONCAT), (.ref wSTARTSWITH), (.ref wCONTAINS), (.ref wSUBSTRINGBEFORE), (.ref wSUBSTRINGAFTER), (.ref wSUBSTRING), (.ref wSTRINGLENGTH), (.ref wNORMALIZESPACE), .null, .null, .null, .null, .null, .null, .null, .null, .null, .null] .null := Arv.set Ar_b2_103 q_b2_103 S_b2_103 N_b2_103 H_b2_103 G_b2_103 (v := (.ref wNORMALIZESPACE)) rfl W32 14 rfl (Nat.le_of_ble_eq_true rfl)
  have K32 : Keep h0 h32 [] := K30.wr W32 (Or.inr sz_b2)
  have N32 := Fr.snoc X32 N30 g_b2
  obtain ⟨T33, X33, e33, st33⟩ := getS2 X32 hx hZ hown (host := "") (Or.inl (hw _ (List.mem_of_getElem? (i := 34) rfl))) Via.refl e32 ((((((((((((((((S_TRANSLATE.ext E2).wr W4).wr W6).wr W8).wr W10).wr W12).wr W14).wr W16).wr W18).wr W20).wr W22).wr W24).wr W26).wr W28).wr W30).wr W32) (g := (mkF m 107 #[.val (.int i0), .unset, .unset, .unset, .unset, .unset, .unset] [(.int (15 : Int32)), (.ref b2), (.ref b2)])) rfl (hb hby at_107)
  obtain ⟨cl_b2_110, Ar_b2_110, q_b2_110, S_b2_110, N_b2_110, H_b2_110, G_b2_110⟩ := id V_b2_103
  have hin110 : ¬ ((15 : Int32) < 0 ∨ cl_b2_110.slots.size ≤ ((15 : Int32)).toNatClampNeg) := inb_of S_b2_110 ⟨by decide, by decide⟩
  have Sto110 := Sto.ofV Ar_b2_110 q_b2_110 O2 (Ins.self ((((((((((((((((E_wTRANSLATE.ext E2).wr W4).wr W6).wr W8).wr W10).wr W12).wr W14).wr W16).wr W18).wr W20).wr W22).wr W24).wr W26).wr W28).wr W30).wr W32))
  obtain ⟨T34, h34, X34, e34, W34, st34⟩ := stR X33 hx hZ e33 Ar_b2_110 (j := (15 : Int32)) hin110 rfl Sto110 (g := (mkF m 110 #[.val (.int i0), .unset, .unset, .unset, .unset, .unset, .unset] [(.ref wTRANSLATE), (.int (15 : Int32)), (.ref b2), (.ref b2)])) rfl rfl (hb hby at_110)
  have V_b2_110 : Arv Z h34 b2 k2 (.object "com/example/tupletree/tupletree/query/Function") (25 : Int32) [(.ref wLAST), (.ref wPOSITION), (.ref wCOUNT), (.ref wLOCALNAME), (.ref wNAMESPACEURI), (.ref wNAME), (.ref wSTRING), (.ref wCONCAT), (.ref wSTARTSWITH), (.ref wCONTAINS), (.ref wSUBSTRINGBEFORE), (.ref wSUBSTRINGAFTER), (.ref wSUBSTRING), (.ref wSTRINGLENGTH), (.ref wNORMALIZESPACE), (.ref wTRANSLATE), .null, .null, .null, .null, .null, .null, .null, .null, .null] .null := Arv.set Ar_b2_110 q_b2_110 S_b2_110 N_b2_110 H_b2_110 G_b2_110 (v := (.ref wTRANSLATE)) rfl W34 15 rfl (Nat.le_of_ble_eq_true rfl)
  have K34 : Keep h0 h34 [] := K32.wr W34 (Or.inr sz_b2)
  have N34 := Fr.snoc X34 N32 g_b2
  obtain ⟨T35, X35, e35, st35⟩ := getS2 X34 hx hZ hown (host := "") (Or.inl (hw _ (List.mem_of_getElem? (i := 36) rfl))) Via.refl e34 (((((((((((((((((S_BOOLEAN.ext E2).wr W4).wr W6).wr W8).wr W10).wr W12).wr W14).wr W16).wr W18).wr W20).wr W22).wr W24).wr W26).wr W28).wr W30).wr W32).wr W34) (g := (mkF m 114 #[.val (.int i0), .unset, .unset, .unset, .unset, .unset, .unset] [(.int (16 : Int32)), (.ref b2), (.ref b2)])) rfl (hb hby at_114)
  obtain ⟨cl_b2_117, Ar_b2_117, q_b2_117, S_b2_117, N_b2_117, H_b2_117, G_b2_117⟩ := id V_b2_110
  have hin117 : ¬ ((16 : Int32) < 0 ∨ cl_b2_117.slots.size ≤ ((16 : Int32)).toNatClampNeg) := inb_of S_b2_117 ⟨by decide, by decide⟩
  have Sto117 := Sto.ofV Ar_b2_117 q_b2_117 O2 (Ins.self (((((((((((((((((E_wBOOLEAN.ext E2).wr W4).wr W6).wr W8).wr W10).wr W12).wr W14).wr W16).wr W18).wr W20).wr W22).wr W24).wr W26).wr W28).wr W30).wr W32).wr W34))
  obtain ⟨T36, h36, X36, e36, W36, st36⟩ := stR X35 hx hZ e35 Ar_b2_117 (j := (16 : Int32)) hin117 rfl Sto117 (g := (mkF m 117 #[.val (.int i0), .unset, .unset, .unset, .unset, .unset, .unset] [(.ref wBOOLEAN), (.int (16 : Int32)), (.ref b2), (.ref b2)])) rfl rfl (hb hby at_117)
  have V_b2_117 : Arv Z h36 b2 k2 (.object "com/example/tupletree/tupletree/query/Function") (25 : Int32) [(.ref wLAST), (.ref wPOSITION), (.ref wCOUNT), (.ref wLOCALNAME), (.ref wNAMESPACEURI), (.ref wNAME), (.ref wSTRING), (.ref wCONCAT), (.ref wSTARTSWITH), (.ref wCONTAINS), (.ref wSUBSTRINGBEFORE), (.ref wSUBSTRINGAFTER), (.ref wSUBSTRING), (.ref wSTRINGLENGTH), (.ref wNORMALIZESPACE), (.ref wTRANSLATE), (.ref wBOOLEAN), .null, .null, .null, .null, .null, .null, .null, .null] .null := Arv.set Ar_b2_117 q_b2_117 S_b2_117 N_b2_117 H_b2_117 G_b2_117 (v := (.ref wBOOLEAN)) rfl W36 16 rfl (Nat.le_of_ble_eq_true rfl)
  have K36 : Keep h0 h36 [] := K34.wr W36 (Or.inr sz_b2)
  have N36 := Fr.snoc X36 N34 g_b2
  obtain ⟨T37, X37, e37, st37⟩ := getS2 X36 hx hZ hown (host := "") (Or.inl (hw _ (List.mem_of_getElem? (i := 38) rfl))) Via.refl e36 ((((((((((((((((((S_NOT.ext E2).wr W4).wr W6).wr W8).wr W10).wr W12).wr W14).wr W16).wr W18).wr W20).wr W22).wr W24).wr W26).wr W28).wr W30).wr W32).wr W34).wr W36) (g := (mkF m 121 #[.val (.int i0), .unset, .unset, .unset, .unset, .unset, .unset] [(.int (17 : Int32)), (.ref b2), (.ref b2)])) rfl (hb hby at_121)
  obtain ⟨cl_b2_124, Ar_b2_124, q_b2_124, S_b2_124, N_b2_124, H_b2_124, G_b2_124⟩ := id V_b2_117
  have hin124 : ¬ ((17 : Int32) < 0 ∨ cl_b2_124.slots.size ≤ ((17 : Int32)).toNatClampNeg) := inb_of S_b2_124 ⟨by decide, by decide⟩
  have Sto124 := Sto.ofV Ar_b2_124 q_b2_124 O2 (Ins.self ((((((((((((((((((E_wNOT.ext E2).wr W4).wr W6).wr W8).wr W10).wr W12).wr W14).wr W16).wr W18).wr W20).wr W22).wr W24).wr W26).wr W28).wr W30).wr W32).wr W34).wr W36))
  obtain ⟨T38, h38, X38, e38, W38, st38⟩ := stR X37 hx hZ e37 Ar_b2_124 (j := (17 : Int32)) hin124 rfl Sto124 (g := (mkF m 124 #[.val (.int i0), .unset, .unset, .unset, .unset, .unset, .unset] [(.ref wNOT), (.int (17 : Int32)), (.ref b2), (.ref b2)])) rfl rfl (hb hby at_124)
  have V_b2_124 : Arv Z h38 b2 k2 (.object "com/example/tupletree/tupletree/query/Function") (25 : Int32) [(.ref wLAST), (.ref wPOSITION), (.ref wCOUNT), (.ref wLOCALNAME), (.ref wNAMESPACEURI), (.ref wNAME), (.ref wSTRING), (.ref wCONCAT), (.ref wSTARTSWITH), (.ref wCONTAINS), (.ref wSUBSTRINGBEFORE), (.ref wSUBSTRINGAFTER), (.ref wSUBSTRING), (.ref wSTRINGLENGTH), (.ref wNORMALIZESPACE), (.ref wTRANSLATE), (.ref wBOOLEAN), (.ref wNOT), .null, .null, .null, .null, .null, .null, .null] .null := Arv.set Ar_b2_124 q_b2_124 S_b2_124 N_b2_124 H_b2_124 G_b2_124 (v := (.ref wNOT)) rfl W38 17 rfl (Nat.le_of_ble_eq_true rfl)
  have K38 : Keep h0 h38 [] := K36.wr W38 (Or.inr sz_b2)
  have N38 := Fr.snoc X38 N36 g_b2
  obtain ⟨T39, X39, e39, st39⟩ := getS2 X38 hx hZ hown (host := "") (Or.inl (hw _ (List.mem_of_getElem? (i := 40) rfl))) Via.refl e38 (((((((((((((((((((S_TRUE.ext E2).wr W4).wr W6).wr W8).wr W10).wr W12).wr W14).wr W16).wr W18).wr W20).wr W22).wr W24).wr W26).wr W28).wr W30).wr W32).wr W34).wr W36).wr W38) (g := (mkF m 128 #[.val (.int i0), .unset, .unset, .unset, .unset, .unset, .unset] [(.int (18 : Int32)), (.ref b2), (.ref b2)])) rfl (hb hby at_128)
  obtain ⟨cl_b2_131, Ar_b2_131, q_b2_131, S_b2_131, N_b2_131, H_b2_131, G_b2_131⟩ := id V_b2_124
  have hin131 : ¬ ((18 : Int32) < 0 ∨ cl_b2_131.slots.size ≤ ((18 : Int32)).toNatClampNeg) := inb_of S_b2_131 ⟨by decide, by decide⟩
  have Sto131 := Sto.ofV Ar_b2_131 q_b2_131 O2 (Ins.self (((((((((((((((((((E_wTRUE.ext E2).wr W4).wr W6).wr W8).wr W10).wr W12).wr W14).wr W16).wr W18).wr W20).wr W22).wr W24).wr W26).wr W28).wr W30).wr W32).wr W34).wr W36).wr W38))
  obtain ⟨T40, h40, X40, e40, W40, st40⟩ := stR X39 hx hZ e39 Ar_b2_131 (j := (18 : Int32)) hin131 rfl Sto131 (g := (mkF m 131 #[.val (.int i0), .unset, .unset, .unset, .unset, .unset, .unset] [(.ref wTRUE), (.int (18 : Int32)), (.ref b2), (.ref b2)])) rfl rfl (hb hby at_131)
  have V_b2_131 : Arv Z h40 b2 k2 (.object "com/example/tupletree/tupletree/query/Function") (25 : Int32) [(.ref wLAST), (.ref wPOSITION), (.ref wCOUNT), (.ref wLOCALNAME), (.ref wNAMESPACEURI), (.ref wNAME), (.ref wSTRING), (.ref wCONCAT), (.ref wSTARTSWITH), (.ref wCONTAINS), (.ref wSUBSTRINGBEFORE), (.ref wSUBSTRINGAFTER), (.ref wSUBSTRING), (.ref wSTRINGLENGTH), (.ref wNORMALIZESPACE), (.ref wTRANSLATE), (.ref wBOOLEAN), (.ref wNOT), (.ref wTRUE), .null, .null, .null, .null, .null, .null] .null := Arv.set Ar_b2_131 q_b2_131 S_b2_131 N_b2_131 H_b2_131 G_b2_131 (v := (.ref wTRUE)) rfl W40 18 rfl (Nat.le_of_ble_eq_true rfl)
  have K40 : Keep h0 h40 [] := K38.wr W40 (Or.inr sz_b2)
  have N40 := Fr.snoc X40 N38 g_b2
  obtain ⟨T41, X41, e41, st41⟩ := getS2 X40 hx hZ hown (host := "") (Or.inl (hw _ (List.mem_of_getElem? (i := 42) rfl))) Via.refl e40 ((((((((((((((((((((S_FALSE.ext E2).wr W4).wr W6).wr W8).wr W10).wr W12).wr W14).wr W16).wr W18).wr W20).wr W22).wr W24).wr W26).wr W28).wr W30).wr W32).wr W34).wr W36).wr W38).wr W40) (g := (mkF m 135 #[.val (.int i0), .unset, .unset, .unset, .unset, .unset, .unset] [(.int (19 : Int32)), (.ref b2), (.ref b2)])) rfl (hb hby at_135)
  obtain ⟨cl_b2_138, Ar_b2_138, q_b2_138, S_b2_138, N_b2_138, H_b2_138, G_b2_138⟩ := id V_b2_131
  have hin138 : ¬ ((19 : Int32) < 0 ∨ cl_b2_138.slots.size ≤ ((19 : Int32)).toNatClampNeg) := inb_of S_b2_138 ⟨by decide, by decide⟩
  have Sto138 := Sto.ofV Ar_b2_138 q_b2_138 O2 (Ins.self ((((((((((((((((((((E_wFALSE.ext E2).wr W4).wr W6).wr W8).wr W10).wr W12).wr W14).wr W16).wr W18).wr W20).wr W22).wr W24).wr W26).wr W28).wr W30).wr W32).wr W34).wr W36).wr W38).wr W40))
  obtain ⟨T42, h42, X42, e42, W42, st42⟩ := stR X41 hx hZ e41 Ar_b2_138 (j := (19 : Int32)) hin138 rfl Sto138 (g := (mkF m 138 #[.val (.int i0), .unset, .unset, .unset, .unset, .unset, .unset] [(.ref wFALSE), (.int (19 : Int32)), (.ref b2), (.ref b2)])) rfl rfl (hb hby at_138)
  have V_b2_138 : Arv Z h42 b2 k2 (.object "com/example/tupletree/tupletree/query/Function") (25 : Int32) [(.ref wLAST), (.ref wPOSITION), (.ref wCOUNT), (.ref wLOCALNAME), (.ref wNAMESPACEURI), (.ref wNAME), (.ref wSTRING), (.ref wCONCAT), (.ref wSTARTSWITH), (.ref wCONTAINS), (.ref wSUBSTRINGBEFORE), (.ref wSUBSTRINGAFTER), (.ref wSUBSTRING), (.ref wSTRINGLENGTH), (.ref wNORMALIZESPACE), (.ref wTRANSLATE), (.ref wBOOLEAN), (.ref wNOT), (.ref wTRUE), (.ref wFALSE), .null, .null, .null, .null, .null] .null := Arv.set Ar_b2_138 q_b2_138 S_b2_138 N_b2_138 H_b2_138 G_b2_138 (v := (.ref wFALSE)) rfl W42 19 rfl (Nat.le_of_ble_eq_true rfl)
  have K42 : Keep h0 h42 [] := K40.wr W42 (Or.inr sz_b2)
  have N42 := Fr.snoc X42 N40 g_b2
  obtain ⟨T43, X43, e43, st43⟩ := getS2 X42 hx hZ hown (host := "") (Or.inl (hw _ (List.mem_of_getElem? (i := 44) rfl))) Via.refl e42 (((((((((((((((((((((S_NUMBER.ext E2).wr W4).wr W6).wr W8).wr W10).wr W12).wr W14).wr W16).wr W18).wr W20).wr W22).wr W24).wr W26).wr W28).wr W30).wr W32).wr W34).wr W36).wr W38).wr W40).wr W42) (g := (mkF m 142 #[.val (.int i0), .unset, .unset, .unset, .unset, .unset, .unset] [(.int (20 : Int32)), (.ref b2), (.ref b2)])) rfl (hb hby at_142)
  obtain ⟨cl_b2_145, Ar_b2_145, q_b2_145, S_b2_145, N_b2_145, H_b2_145, G_b2_145⟩ := id V_b2_138
  have hin145 : ¬ ((20 : Int32) < 0 ∨ cl_b2_145.slots.size ≤ ((20 : Int32)).toNatClampNeg) := inb_of S_b2_145 ⟨by decide, by decide⟩
  have Sto145 := Sto.ofV Ar_b2_145 q_b2_145 O2 (Ins.self (((((((((((((((((((((E_wNUMBER.ext E2).wr W4).wr W6).wr W8).wr W10).wr W12).wr W14).wr W16).wr W18).wr W20).wr W22).wr W24).wr W26).wr W28).wr W30).wr W32).wr W34).wr W36).wr W38).wr W40).wr W42))
  obtain ⟨T44, h44, X44, e44, W44, st44⟩ := stR X43 hx hZ e43 Ar_b2_145 (j := (20 : Int32)) hin145 rfl Sto145 (g := (mkF m 145 #[.val (.int i0), .unset, .unset, .unset, .unset, .unset, .unset] [(.ref wNUMBER), (.int (20 : Int32)), (.ref b2), (.ref b2)])) rfl rfl (hb hby at_145)
  have V_b2_145 : Arv Z h44 b2 k2 (.object "com/example/tupletree/tupletree/query/Function") (25 : Int32) [(.ref wLAST), (.ref wPOSITION), (.ref wCOUNT), (.ref wLOCALNAME), (.ref wNAMESPACEURI), (.ref wNAME), (.ref wSTRING), (.ref wCONCAT), (.ref wSTARTSWITH), (.ref wCONTAINS), (.ref wSUBSTRINGBEFORE), (.ref wSUBSTRINGAFTER), (.ref wSUBSTRING), (.ref wSTRINGLENGTH), (.ref wNORMALIZESPACE), (.ref wTRANSLATE), (.ref wBOOLEAN), (.ref wNOT), (.ref wTRUE), (.ref wFALSE), (.ref wNUMBER), .null, .null, .null, .null] .null := Arv.set Ar_b2_145 q_b2_145 S_b2_145 N_b2_145 H_b2_145 G_b2_145 (v := (.ref wNUMBER)) rfl W44 20 rfl (Nat.le_of_ble_eq_true rfl)
  have K44 : Keep h0 h44 [] := K42.wr W44 (Or.inr sz_b2)
  have N44 := Fr.snoc X44 N42 g_b2
  obtain ⟨T45, X45, e45, st45⟩ := getS2 X44 hx hZ hown (host := "") (Or.inl (hw _ (List.mem_of_getElem? (i := 46) rfl))) Via.refl e44 ((((((((((((((((((((((S_SUM.ext E2).wr W4).wr W6).wr W8).wr W10).wr W12).wr W14).wr W16).wr W18).wr W20).wr W22).wr W24).wr W26).wr W28).wr W30).wr W32).wr W34).wr W36).wr W38).wr W40).wr W42).wr W44) (g := (mkF m 149 #[.val (.int i0), .unset, .unset, .unset, .unset, .unset, .unset] [(.int (21 : Int32)), (.ref b2), (.ref b2)])) rfl (hb hby at_149)
  obtain ⟨cl_b2_152, Ar_b2_152, q_b2_152, S_b2_152, N_b2_152, H_b2_152, G_b2_152⟩ := id V_b2_145
  have hin152 : ¬ ((21 : Int32) < 0 ∨ cl_b2_152.slots.size ≤ ((21 : Int32)).toNatClampNeg) := inb_of S_b2_152 ⟨by decide, by decide⟩
  have Sto152 := Sto.ofV Ar_b2_152 q_b2_152 O2 (Ins.self ((((((((((((((((((((((E_wSUM.ext E2).wr W4).wr W6).wr W8).wr W10).wr W12).wr W14).wr W16).wr W18).wr W20).wr W22).wr W24).wr W26).wr W28).wr W30).wr W32).wr W34).wr W36).wr W38).wr W40).wr W42).wr W44))
  obtain ⟨T46, h46, X46, e46, W46, st46⟩ := stR X45 hx hZ e45 Ar_b2_152 (j := (21 : Int32)) hin152 rfl Sto152 (g := (mkF m 152 #[.val (.int i0), .unset, .unset, .unset, .unset, .unset, .unset] [(.ref wSUM), (.int (21 : Int32)), (.ref b2), (.ref b2)])) rfl rfl (hb hby at_152)
  have V_b2_152 : Arv Z h46 b2 k2 (.object "com/example/tupletree/tupletree/query/Function") (25 : Int32) [(.ref wLAST), (.ref wPOSITION), (.ref wCOUNT), (.ref wLOCALNAME), (.ref wNAMESPACEURI), (.ref wNAME), (.ref wSTRING), (.ref wCONCAT), (.ref wSTARTSWITH), (.ref wCONTAINS), (.ref wSUBSTRINGBEFORE), (.ref wSUBSTRINGAFTER), (.ref wSUBSTRING), (.ref wSTRINGLENGTH), (.ref wNORMALIZESPACE), (.ref wTRANSLATE), (.ref wBOOLEAN), (.ref wNOT), (.ref wTRUE), (.ref wFALSE), (.ref wNUMBER), (.ref wSUM), .null, .null, .null] .null := Arv.set Ar_b2_152 q_b2_152 S_b2_152 N_b2_152 H_b2_152 G_b2_152 (v := (.ref wSUM)) rfl W46 21 rfl (Nat.le_of_ble_eq_true rfl)
  have K46 : Keep h0 h46 [] := K44.wr W46 (Or.inr sz_b2)
  have N46 := Fr.snoc X46 N44 g_b2
  obtain ⟨T47, X47, e47, st47⟩ := getS2 X46 hx hZ hown (host := "") (Or.inl (hw _ (List.mem_of_getElem? (i := 48) rfl))) Via.refl e46 (((((((((((((((((((((((S_FLOOR.ext E2).wr W4).wr W6).wr W8).wr W10).wr W12).wr W14).wr W16).wr W18).wr W20).wr W22).wr W24).wr W26).wr W28).wr W30).wr W32).wr W34).wr W36).wr W38).wr W40).wr W42).wr W44).wr W46) (g := (mkF m 156 #[.val (.int i0), .unset, .unset, .unset, .unset, .unset, .unset] [(.int (22 : Int32)), (.ref b2), (.ref b2)])) rfl (hb hby at_156)
  obtain ⟨cl_b2_159, Ar_b2_159, q_b2_159, S_b2_159, N_b2_159, H_b2_159, G_b2_159⟩ := id V_b2_152
  have hin159 : ¬ ((22 : Int32) < 0 ∨ cl_b2_159.slots.size ≤ ((22 : Int32)).toNatClampNeg) := inb_of S_b2_159 ⟨by decide, by decide⟩
  have Sto159 := Sto.ofV Ar_b2_159 q_b2_159 O2 (Ins.self (((((((((((((((((((((((E_wFLOOR.ext E2).wr W4).wr W6).wr W8).wr W10).wr W12).wr W14).wr W16).wr W18).wr W20).wr W22).wr W24).wr W26).wr W28).wr W30).wr W32).wr W34).wr W36).wr W38).wr W40).wr W42).wr W44).wr W46))
  obtain ⟨T48, h48, X48, e48, W48, st48⟩ := stR X47 hx hZ e47 Ar_b2_159 (j := (22 : Int32)) hin159 rfl Sto159 (g := (mkF m 159 #[.val (.int i0), .unset, .unset, .unset, .unset, .unset, .unset] [(.ref wFLOOR), (.int (22 : Int32)), (.ref b2), (.ref b2)])) rfl rfl (hb hby at_159)
  have V_b2_159 : Arv Z h48 b2 k2 (.object "com/example/tupletree/tupletree/query/Function") (25 : Int32) [(.ref wLAST), (.ref wPOSITION), (.ref wCOUNT), (.ref wLOCALNAME), (.ref wNAMESPACEURI), (.ref wNAME), (.ref wSTRING), (.ref wCONCAT), (.ref wSTARTSWITH), (.ref wCONTAINS), (.ref wSUBSTRINGBEFORE), (.ref wSUBSTRINGAFTER), (.ref wSUBSTRING), (.ref wSTRINGLENGTH), (.ref wNORMALIZESPACE), (.ref wTRANSLATE), (.ref wBOOLEAN), (.ref wNOT), (.ref wTRUE), (.ref wFALSE), (.ref wNUMBER), (.ref wSUM), (.ref wFLOOR), .null, .null] .null := Arv.set Ar_b2_159 q_b2_159 S_b2_159 N_b2_159 H_b2_159 G_b2_159 (v := (.ref wFLOOR)) rfl W48 22 rfl (Nat.le_of_ble_eq_true rfl)
  have K48 : Keep h0 h48 [] := K46.wr W48 (Or.inr sz_b2)
  have N48 := Fr.snoc X48 N46 g_b2
  obtain ⟨T49, X49, e49, st49⟩ := getS2 X48 hx hZ hown (host := "") (Or.inl (hw _ (List.mem_of_getElem? (i := 50) rfl))) Via.refl e48 ((((((((((((((((((((((((S_CEILING.ext E2).wr W4).wr W6).wr W8).wr W10).wr W12).wr W14).wr W16).wr W18).wr W20).wr W22).wr W24).wr W26).wr W28).wr W30).wr W32).wr W34).wr W36).wr W38).wr W40).wr W42).wr W44).wr W46).wr W48) (g := (mkF m 163 #[.val (.int i0), .unset, .unset, .unset, .unset, .unset, .unset] [(.int (23 : Int32)), (.ref b2), (.ref b2)])) rfl (hb hby at_163)
  obtain ⟨cl_b2_166, Ar_b2_166, q_b2_166, S_b2_166, N_b2_166, H_b2_166, G_b2_166⟩ := id V_b2_159
  have hin166 : ¬ ((23 : Int32) < 0 ∨ cl_b2_166.slots.size ≤ ((23 : Int32)).toNatClampNeg) := inb_of S_b2_166 ⟨by decide, by decide⟩
  have Sto166 := Sto.ofV Ar_b2_166 q_b2_166 O2 (Ins.self ((((((((((((((((((((((((E_wCEILING.ext E2).wr W4).wr W6).wr W8).wr W10).wr W12).wr W14).wr W16).wr W18).wr W20).wr W22).wr W24).wr W26).wr W28).wr W30).wr W32).wr W34).wr W36).wr W38).wr W40).wr W42).wr W44).wr W46).wr W48))
  obtain ⟨T50, h50, X50, e50, W50, st50⟩ := stR X49 hx hZ e49 Ar_b2_166 (j := (23 : Int32)) hin166 rfl Sto166 (g := (mkF m 166 #[.val (.int i0), .unset, .unset, .unset, .unset, .unset, .unset] [(.ref wCEILING), (.int (23 : Int32)), (.ref b2), (.ref b2)])) rfl rfl (hb hby at_166)
  have V_b2_166 : Arv Z h50 b2 k2 (.object "com/example/tupletree/tupletree/query/Function") (25 : Int32) [(.ref wLAST), (.ref wPOSITION), (.ref wCOUNT), (.ref wLOCALNAME), (.ref wNAMESPACEURI), (.ref wNAME), (.ref wSTRING), (.ref wCONCAT), (.ref wSTARTSWITH), (.ref wCONTAINS), (.ref wSUBSTRINGBEFORE), (.ref wSUBSTRINGAFTER), (.ref wSUBSTRING), (.ref wSTRINGLENGTH), (.ref wNORMALIZESPACE), (.ref wTRANSLATE), (.ref wBOOLEAN), (.ref wNOT), (.ref wTRUE), (.ref wFALSE), (.ref wNUMBER), (.ref wSUM), (.ref wFLOOR), (.ref wCEILING), .null] .null := Arv.set Ar_b2_166 q_b2_166 S_b2_166 N_b2_166 H_b2_166 G_b2_166 (v := (.ref wCEILING)) rfl W50 23 rfl (Nat.le_of_ble_eq_true rfl)
  have K50 : Keep h0 h50 [] := K48.wr W50 (Or.inr sz_b2)
  have N50 := Fr.snoc X50 N48 g_b2
  obtain ⟨T51, X51, e51, st51⟩ := getS2 X50 hx hZ hown (host := "") (Or.inl (hw _ (List.mem_of_getElem? (i := 52) rfl))) Via.refl e50 (((((((((((((((((((((((((S_ROUND.ext E2).wr W4).wr W6).wr W8).wr W10).wr W12).wr W14).wr W16).wr W18).wr W20).wr W22).wr W24).wr W26).wr W28).wr W30).wr W32).wr W34).wr W36).wr W38).wr W40).wr W42).wr W44).wr W46).wr W48).wr W50) (g := (mkF m 170 #[.val (.int i0), .unset, .unset, .unset, .unset, .unset, .unset] [(.int (24 : Int32)), (.ref b2), (.ref b2)])) rfl (hb hby at_170)
  obtain ⟨cl_b2_173, Ar_b2_173, q_b2_173, S_b2_173, N_b2_173, H_b2_173, G_b2_173⟩ := id V_b2_166
  have hin173 : ¬ ((24 : Int32) < 0 ∨ cl_b2_173.slots.size ≤ ((24 : Int32)).toNatClampNeg) := inb_of S_b2_173 ⟨by decide, by decide⟩
  have Sto173 := Sto.ofV Ar_b2_173 q_b2_173 O2 (Ins.self (((((((((((((((((((((((((E_wROUND.ext E2).wr W4).wr W6).wr W8).wr W10).wr W12).wr W14).wr W16).wr W18).wr W20).wr W22).wr W24).wr W26).wr W28).wr W30).wr W32).wr W34).wr W36).wr W38).wr W40).wr W42).wr W44).wr W46).wr W48).wr W50))
  obtain ⟨T52, h52, X52, e52, W52, st52⟩ := stR X51 hx hZ e51 Ar_b2_173 (j := (24 : Int32)) hin173 rfl Sto173 (g := (mkF m 173 #[.val (.int i0), .unset, .unset, .unset, .unset, .unset, .unset] [(.ref wROUND), (.int (24 : Int32)), (.ref b2), (.ref b2)])) rfl rfl (hb hby at_173)
  have V_b2_173 : Arv Z h52 b2 k2 (.object "com/example/tupletree/tupletree/query/Function") (25 : Int32) [(.ref wLAST), (.ref wPOSITION), (.ref wCOUNT), (.ref wLOCALNAME), (.ref wNAMESPACEURI), (.ref wNAME), (.ref wSTRING), (.ref wCONCAT), (.ref wSTARTSWITH), (.ref wCONTAINS), (.ref wSUBSTRINGBEFORE), (.ref wSUBSTRINGAFTER), (.ref wSUBSTRING), (.ref wSTRINGLENGTH), (.ref wNORMALIZESPACE), (.ref wTRANSLATE), (.ref wBOOLEAN), (.ref wNOT), (.ref wTRUE), (.ref wFALSE), (.ref wNUMBER), (.ref wSUM), (.ref wFLOOR), (.ref wCEILING), (.ref wROUND)] .null := Arv.set Ar_b2_173 q_b2_173 S_b2_173 N_b2_173 H_b2_173 G_b2_173 (v := (.ref wROUND)) rfl W52 24 rfl (Nat.le_of_ble_eq_true rfl)
  have K52 : Keep h0 h52 [] := K50.wr W52 (Or.inr sz_b2)
  have N52 := Fr.snoc X52 N50 g_b2
  obtain ⟨cl_b2_185, Ar_b2_185, q_b2_185, S_b2_185, N_b2_185, H_b2_185, G_b2_185⟩ := id V_b2_173
  have hin185 := inb_of (j := ((i0 &&& (2147483647 : Int32)) % (25 : Int32))) S_b2_185 hr185
  have hat185 := Has.at (j := ((i0 &&& (2147483647 : Int32)) % (25 : Int32))) H_b2_185 hin185 u185
  refine ⟨T52, _, b2, _, X52, e52, K52, N52, fun target kt => ?_⟩
  show Steps p.tables e below (T0.setTop (mkF m 0 #[.val (.int i0), .unset, .unset, .unset, .unset, .unset, .unset] [])) _
  refine XS.bipush X0.here hx rfl (hb hby at_0) ?_
  show Steps p.tables e below (T0.setTop (mkF m 2 #[.val (.int i0), .unset, .unset, .unset, .unset, .unset, .unset] [(.int (25 : Int32))])) _
  refine st2 _ ?_
  show Steps p.tables e below (T2.setTop (mkF m 5 #[.val (.int i0), .unset, .unset, .unset, .unset, .unset, .unset] [(.ref b2)])) _
  refine XS.dup X2.here hx rfl (hb hby at_5) rfl rfl ?_
  show Steps p.tables e below (T2.setTop (mkF m 6 #[.val (.int i0), .unset, .unset, .unset, .unset, .unset, .unset] [(.ref b2), (.ref b2)])) _
  refine XS.iconst X2.here hx rfl (hb hby at_6) ?_
  show Steps p.tables e below (T2.setTop (mkF m 7 #[.val (.int i0), .unset, .unset, .unset, .unset, .unset, .unset] [(.int (0 : Int32)), (.ref b2), (.ref b2)])) _
  refine st3 _ ?_
  show Steps p.tables e below (T3.setTop (mkF m 10 #[.val (.int i0), .unset, .unset, .unset, .unset, .unset, .unset] [(.ref wLAST), (.int (0 : Int32)), (.ref b2), (.ref b2)])) _
  refine st4 _ ?_
  show Steps p.tables e below (T4.setTop (mkF m 11 #[.val (.int i0), .unset, .unset, .unset, .unset, .unset, .unset] [(.ref b2)])) _
  refine XS.dup X4.here hx rfl (hb hby at_11) rfl rfl ?_
  show Steps p.tables e below (T4.setTop (mkF m 12 #[.val (.int i0), .unset, .unset, .unset, .unset, .unset, .unset] [(.ref b2), (.ref b2)])) _
  refine XS.iconst X4.here hx rfl (hb hby at_12) ?_
  show Steps p.tables e below (T4.setTop (mkF m 13 #[.val (.int i0), .unset, .unset, .unset, .unset, .unset, .unset] [(.int (1 : Int32)), (.ref b2), (.ref b2)])) _
  refine st5 _ ?_
  show Steps p.tables e below (T5.setTop (mkF m 16 #[.val (.int i0), .unset, .unset, .unset, .unset, .unset, .unset] [(.ref wPOSITION), (.int (1 : Int32)), (.ref b2), (.ref b2)])) _
  refine st6 _ ?_
  show Steps p.tables e below (T6.setTop (mkF m 17 #[.val (.int i0), .unset, .unset, .unset, .unset, .unset, .unset] [(.ref b2)])) _
  refine XS.dup X6.here hx rfl (hb hby at_17) rfl rfl ?_
  show Steps p.tables e below (T6.setTop (mkF m 18 #[.val (.int i0), .unset, .unset, .unset, .unset, .unset, .unset] [(.ref b2), (.ref b2)])) _
  refine XS.iconst X6.here hx rfl (hb hby at_18) ?_
  show Steps p.tables e below (T6.setTop (mkF m 19 #[.val (.int i0), .unset, .unset, .unset, .unset, .unset, .unset] [(.int (2 : Int32)), (.ref b2), (.ref b2)])) _
  refine st7 _ ?_
  show Steps p.tables e below (T7.setTop (mkF m 22 #[.val (.int i0), .unset, .unset, .unset, .unset, .unset, .unset] [(.ref wCOUNT), (.int (2 : Int32)), (.ref b2), (.ref b2)])) _
  refine st8 _ ?_
  show Steps p.tables e below (T8.setTop (mkF m 23 #[.val (.int i0), .unset, .unset, .unset, .unset, .unset, .unset] [(.ref b2)])) _
  refine XS.dup X8.here hx rfl (hb hby at_23) rfl rfl ?_
  show Steps p.tables e below (T8.setTop (mkF m 24 #[.val (.int i0), .unset, .unset, .unset, .unset, .unset, .unset] [(.ref b2), (.ref b2)])) _
  refine XS.iconst X8.here hx rfl (hb hby at_24) ?_
  show Steps p.tables e below (T8.setTop (mkF m 25 #[.val (.int i0), .unset, .unset, .unset, .unset, .unset, .unset] [(.int (3 : Int32)), (.ref b2), (.ref b2)])) _
  refine st9 _ ?_
  show Steps p.tables e below (T9.setTop (mkF m 28 #[.val (.int i0), .unset, .unset, .unset, .unset, .unset, .unset] [(.ref wLOCALNAME), (.int (3 : Int32)), (.ref b2), (.ref b2)])) _
  refine st10 _ ?_
  show Steps p.tables e below (T10.setTop (mkF m 29 #[.val (.int i0), .unset, .unset, .unset, .unset, .unset, .unset] [(.ref b2)])) _
  refine XS.dup X10.here hx rfl (hb hby at_29) rfl rfl ?_
  show Steps p.tables e below (T10.setTop (mkF m 30 #[.val (.int i0), .unset, .unset, .unset, .unset, .unset, .unset] [(.ref b2), (.ref b2)])) _
  refine XS.iconst X10.here hx rfl (hb hby at_30) ?_
  show Steps p.tables e below (T10.setTop (mkF m 31 #[.val (.int i0), .unset, .unset, .unset, .unset, .unset, .unset] [(.int (4 : Int32)), (.ref b2), (.ref b2)])) _
  refine st11 _ ?_
  show Steps p.tables e below (T11.setTop (mkF m 34 #[.val (.int i0), .unset, .unset, .unset, .unset, .unset, .unset] [(.ref wNAMESPACEURI), (.int (4 : Int32)), (.ref b2), (.ref b2)])) _
  refine st12 _ ?_
  show Steps p.tables e below (T12.setTop (mkF m 35 #[.val (.int i0), .unset, .unset, .unset, .unset, .unset, .unset] [(.ref b2)])) _
  refine XS.dup X12.here hx rfl (hb hby at_35) rfl rfl ?_
  show Steps p.tables e below (T12.setTop (mkF m 36 #[.val (.int i0), .unset, .unset, .unset, .unset, .unset, .unset] [(.ref b2), (.ref b2)])) _
  refine XS.iconst X12.here hx rfl (hb hby at_36) ?_
  show Steps p.tables e below (T12.setTop (mkF m 37 #[.val (.int i0), .unset, .unset, .unset, .unset, .unset, .unset] [(.int (5 : Int32)), (.ref b2), (.ref b2)])) _
  refine st13 _ ?_
  show Steps p.tables e below (T13.setTop (mkF m 40 #[.val (.int i0), .unset, .unset, .unset, .unset, .unset, .unset] [(.ref wNAME), (.int (5 : Int32)), (.ref b2), (.ref b2)])) _
  refine st14 _ ?_
  show Steps p.tables e below (T14.setTop (mkF m 41 #[.val (.int i0), .unset, .unset, .unset, .unset, .unset, .unset] [(.ref b2)])) _
  refine XS.dup X14.here hx rfl (hb hby at_41) rfl rfl ?_
  show Steps p.tables e below (T14.setTop (mkF m 42 #[.val (.int i0), .unset, .unset, .unset, .unset, .unset, .unset] [(.ref b2), (.ref b2)])) _
  refine XS.bipush X14.here hx rfl (hb hby at_42) ?_
  show Steps p.tables e below (T14.setTop (mkF m 44 #[.val (.int i0), .unset, .unset, .unset, .unset, .unset, .unset] [(.int (6 : Int32)), (.ref b2), (.ref b2)])) _
  refine st15 _ ?_
  show Steps p.tables e below (T15.setTop (mkF m 47 #[.val (.int i0), .unset, .unset, .unset, .unset, .unset, .unset] [(.ref wSTRING), (.int (6 : Int32)), (.ref b2), (.ref b2)])) _
  refine st16 _ ?_
  show Steps p.tables e below (T16.setTop (mkF m 48 #[.val (.int i0), .unset, .unset, .unset, .unset, .unset, .unset] [(.ref b2)])) _
  refine XS.dup X16.here hx rfl (hb hby at_48) rfl rfl ?_
  show Steps p.tables e below (T16.setTop (mkF m 49 #[.val (.int i0), .unset, .unset, .unset, .unset, .unset, .unset] [(.ref b2), (.ref b2)])) _
  refine XS.bipush X16.here hx rfl (hb hby at_49) ?_
  show Steps p.tables e below (T16.setTop (mkF m 51 #[.val (.int i0), .unset, .unset, .unset, .unset, .unset, .unset] [(.int (7 : Int32)), (.ref b2), (.ref b2)])) _
  refine st17 _ ?_
  show Steps p.tables e below (T17.setTop (mkF m 54 #[.val (.int i0), .unset, .unset, .unset, .unset, .unset, .unset] [(.ref wCONCAT), (.int (7 : Int32)), (.ref b2), (.ref b2)])) _
  refine st18 _ ?_
  show Steps p.tables e below (T18.setTop (mkF m 55 #[.val (.int i0), .unset, .unset, .unset, .unset, .unset, .unset] [(.ref b2)])) _
  refine XS.dup X18.here hx rfl (hb hby at_55) rfl rfl ?_
  show Steps p.tables e below (T18.setTop (mkF m 56 #[.val (.int i0), .unset, .unset, .unset, .unset, .unset, .unset] [(.ref b2), (.ref b2)])) _
  refine XS.bipush X18.here hx rfl (hb hby at_56) ?_
  show Steps p.tables e below (T18.setTop (mkF m 58 #[.val (.int i0), .unset, .unset, .unset, .unset, .unset, .unset] [(.int (8 : Int32)), (.ref b2), (.ref b2)])) _
  refine st19 _ ?_
  show Steps p.tables e below (T19.setTop (mkF m 61 #[.val (.int i0), .unset, .unset, .unset, .unset, .unset, .unset] [(.ref wSTARTSWITH), (.int (8 : Int32)), (.ref b2), (.ref b2)])) _
  refine st20 _ ?_
  show Steps p.tables e below (T20.setTop (mkF m 62 #[.val (.int i0), .unset, .unset, .unset, .unset, .unset, .unset] [(.ref b2)])) _
  refine XS.dup X20.here hx rfl (hb hby at_62) rfl rfl ?_
  show Steps p.tables e below (T20.setTop (mkF m 63 #[.val (.int i0), .unset, .unset, .unset, .unset, .unset, .unset] [(.ref b2), (.ref b2)])) _
  refine XS.bipush X20.here hx rfl (hb hby at_63) ?_
  show Steps p.tables e below (T20.setTop (mkF m 65 #[.val (.int i0), .unset, .unset, .unset, .unset, .unset, .unset] [(.int (9 : Int32)), (.ref b2), (.ref b2)])) _
  refine st21 _ ?_
  show Steps p.tables e below (T21.setTop (mkF m 68 #[.val (.int i0), .unset, .unset, .unset, .unset, .unset, .unset] [(.ref wCONTAINS), (.int (9 : Int32)), (.ref b2), (.ref b2)])) _
  refine st22 _ ?_
  show Steps p.tables e below (T22.setTop (mkF m 69 #[.val (.int i0), .unset, .unset, .unset, .unset, .unset, .unset] [(.ref b2)])) _
  refine XS.dup X22.here hx rfl (hb hby at_69) rfl rfl ?_
  show Steps p.tables e below (T22.setTop (mkF m 70 #[.val (.int i0), .unset, .unset, .unset, .unset, .unset, .unset] [(.ref b2), (.ref b2)])) _
  refine XS.bipush X22.here hx rfl (hb hby at_70) ?_
  show Steps p.tables e below (T22.setTop (mkF m 72 #[.val (.int i0), .unset, .unset, .unset, .unset, .unset, .unset] [(.int (10 : Int32)), (.ref b2), (.ref b2)])) _
  refine st23 _ ?_
  show Steps p.tables e below (T23.setTop (mkF m 75 #[.val (.int i0), .unset, .unset, .unset, .unset, .unset, .unset] [(.ref wSUBSTRINGBEFORE), (.int (10 : Int32)), (.ref b2), (.ref b2)])) _
  refine st24 _ ?_
  show Steps p.tables e below (T24.setTop (mkF m 76 #[.val (.int i0), .unset, .unset, .unset, .unset, .unset, .unset] [(.ref b2)])) _
  refine XS.dup X24.here hx rfl (hb hby at_76) rfl rfl ?_
  show Steps p.tables e below (T24.setTop (mkF m 77 #[.val (.int i0), .unset, .unset, .unset, .unset, .unset, .unset] [(.ref b2), (.ref b2)])) _
  refine XS.bipush X24.here hx rfl (hb hby at_77) ?_
  show Steps p.tables e below (T24.setTop (mkF m 79 #[.val (.int i0), .unset, .unset, .unset, .unset, .unset, .unset] [(.int (11 : Int32)), (.ref b2), (.ref b2)])) _
  refine st25 _ ?_
  show Steps p.tables e below (T25.setTop (mkF m 82 #[.val (.int i0), .unset, .unset, .unset, .unset, .unset, .unset] [(.ref wSUBSTRINGAFTER), (.int (11 : Int32)), (.ref b2), (.ref b2)])) _
  refine st26 _ ?_
  show Steps p.tables e below (T26.setTop (mkF m 83 #[.val (.int i0), .unset, .unset, .unset, .unset, .unset, .unset] [(.ref b2)])) _
  refine XS.dup X26.here hx rfl (hb hby at_83) rfl rfl ?_
  show Steps p.tables e below (T26.setTop (mkF m 84 #[.val (.int i0), .unset, .unset, .unset, .unset, .unset, .unset] [(.ref b2), (.ref b2)])) _
  refine XS.bipush X26.here hx rfl (hb hby at_84) ?_
  show Steps p.tables e below (T26.setTop (mkF m 86 #[.val (.int i0), .unset, .unset, .unset, .unset, .unset, .unset] [(.int (12 : Int32)), (.ref b2), (.ref b2)])) _
  refine st27 _ ?_
  show Steps p.tables e below (T27.setTop (mkF m 89 #[.val (.int i0), .unset, .unset, .unset, .unset, .unset, .unset] [(.ref wSUBSTRING), (.int (12 : Int32)), (.ref b2), (.ref b2)])) _
  refine st28 _ ?_
  show Steps p.tables e below (T28.setTop (mkF m 90 #[.val (.int i0), .unset, .unset, .unset, .unset, .unset, .unset] [(.ref b2)])) _
  refine XS.dup X28.here hx rfl (hb hby at_90) rfl rfl ?_
  show Steps p.tables e below (T28.setTop (mkF m 91 #[.val (.int i0), .unset, .unset, .unset, .unset, .unset, .unset] [(.ref b2), (.ref b2)])) _
  refine XS.bipush X28.here hx rfl (hb hby at_91) ?_
  show Steps p.tables e below (T28.setTop (mkF m 93 #[.val (.int i0), .unset, .unset, .unset, .unset, .unset, .unset] [(.int (13 : Int32)), (.ref b2), (.ref b2)])) _
  refine st29 _ ?_
  show Steps p.tables e below (T29.setTop (mkF m 96 #[.val (.int i0), .unset, .unset, .unset, .unset, .unset, .unset] [(.ref wSTRINGLENGTH), (.int (13 : Int32)), (.ref b2), (.ref b2)])) _
  refine st30 _ ?_
  show Steps p.tables e below (T30.setTop (mkF m 97 #[.val (.int i0), .unset, .unset, .unset, .unset, .unset, .unset] [(.ref b2)])) _
  refine XS.dup X30.here hx rfl (hb hby at_97) rfl rfl ?_
  show Steps p.tables e below (T30.setTop (mkF m 98 #[.val (.int i0), .unset, .unset, .unset, .unset, .unset, .unset] [(.ref b2), (.ref b2)])) _
  refine XS.bipush X30.here hx rfl (hb hby at_98) ?_
  show Steps p.tables e below (T30.setTop (mkF m 100 #[.val (.int i0), .unset, .unset, .unset, .unset, .unset, .unset] [(.int (14 : Int32)), (.ref b2), (.ref b2)])) _
  refine st31 _ ?_
  show Steps p.tables e below (T31.setTop (mkF m 103 #[.val (.int i0), .unset, .unset, .unset, .unset, .unset, .unset] [(.ref wNORMALIZESPACE), (.int (14 : Int32)), (.ref b2), (.ref b2)])) _
  refine st32 _ ?_
  show Steps p.tables e below (T32.setTop (mkF m 104 #[.val (.int i0), .unset, .unset, .unset, .unset, .unset, .unset] [(.ref b2)])) _
  refine XS.dup X32.here hx rfl (hb hby at_104) rfl rfl ?_
  show Steps p.tables e below (T32.setTop (mkF m 105 #[.val (.int i0), .unset, .unset, .unset, .unset, .unset, .unset] [(.ref b2), (.ref b2)])) _
  refine XS.bipush X32.here hx rfl (hb hby at_105) ?_
  show Steps p.tables e below (T32.setTop (mkF m 107 #[.val (.int i0), .unset, .unset, .unset, .unset, .unset, .unset] [(.int (15 : Int32)), (.ref b2), (.ref b2)])) _
  refine st33 _ ?_
  show Steps p.tables e below (T33.setTop (mkF m 110 #[.val (.int i0), .unset, .unset, .unset, .unset, .unset, .unset] [(.ref wTRANSLATE), (.int (15 : Int32)), (.ref b2), (.ref b2)])) _
  refine st34 _ ?_
  show Steps p.tables e below (T34.setTop (mkF m 111 #[.val (.int i0), .unset, .unset, .unset, .unset, .unset, .unset] [(.ref b2)])) _
  refine XS.dup X34.here hx rfl (hb hby at_111) rfl rfl ?_
  show Steps p.tables e below (T34.setTop (mkF m 112 #[.val (.int i0), .unset, .unset, .unset, .unset, .unset, .unset] [(.ref b2), (.ref b2)])) _
  refine XS.bipush X34.here hx rfl (hb hby at_112) ?_
  show Steps p.tables e below (T34.setTop (mkF m 114 #[.val (.int i0), .unset, .unset, .unset, .unset, .unset, .unset] [(.int (16 : Int32)), (.ref b2), (.ref b2)])) _
  refine st35 _ ?_
  show Steps p.tables e below (T35.setTop (mkF m 117 #[.val (.int i0), .unset, .unset, .unset, .unset, .unset, .unset] [(.ref wBOOLEAN), (.int (16 : Int32)), (.ref b2), (.ref b2)])) _
  refine st36 _ ?_
  show Steps p.tables e below (T36.setTop (mkF m 118 #[.val (.int i0), .unset, .unset, .unset, .unset, .unset, .unset] [(.ref b2)])) _
  refine XS.dup X36.here hx rfl (hb hby at_118) rfl rfl ?_
  show Steps p.tables e below (T36.setTop (mkF m 119 #[.val (.int i0), .unset, .unset, .unset, .unset, .unset, .unset] [(.ref b2), (.ref b2)])) _
  refine XS.bipush X36.here hx rfl (hb hby at_119) ?_
  show Steps p.tables e below (T36.setTop (mkF m 121 #[.val (.int i0), .unset, .unset, .unset, .unset, .unset, .unset] [(.int (17 : Int32)), (.ref b2), (.ref b2)])) _
  refine st37 _ ?_
  show Steps p.tables e below (T37.setTop (mkF m 124 #[.val (.int i0), .unset, .unset, .unset, .unset, .unset, .unset] [(.ref wNOT), (.int (17 : Int32)), (.ref b2), (.ref b2)])) _
  refine st38 _ ?_
  show Steps p.tables e below (T38.setTop (mkF m 125 #[.val (.int i0), .unset, .unset, .unset, .unset, .unset, .unset] [(.ref b2)])) _
  refine XS.dup X38.here hx rfl (hb hby at_125) rfl rfl ?_
  show Steps p.tables e below (T38.setTop (mkF m 126 #[.val (.int i0), .unset, .unset, .unset, .unset, .unset, .unset] [(.ref b2), (.ref b2)])) _
  refine XS.bipush X38.here hx rfl (hb hby at_126) ?_
  show Steps p.tables e below (T38.setTop (mkF m 128 #[.val (.int i0), .unset, .unset, .unset, .unset, .unset, .unset] [(.int (18 : Int32)), (.ref b2), (.ref b2)])) _
  refine st39 _ ?_
  show Steps p.tables e below (T39.setTop (mkF m 131 #[.val (.int i0), .unset, .unset, .unset, .unset, .unset, .unset] [(.ref wTRUE), (.int (18 : Int32)), (.ref b2), (.ref b2)])) _
  refine st40 _ ?_
  show Steps p.tables e below (T40.setTop (mkF m 132 #[.val (.int i0), .unset, .unset, .unset, .unset, .unset, .unset] [(.ref b2)])) _
  refine XS.dup X40.here hx rfl (hb hby at_132) rfl rfl ?_
  show Steps p.tables e below (T40.setTop (mkF m 133 #[.val (.int i0), .unset, .unset, .unset, .unset, .unset, .unset] [(.ref b2), (.ref b2)])) _
  refine XS.bipush X40.here hx rfl (hb hby at_133) ?_
  show Steps p.tables e below (T40.setTop (mkF m 135 #[.val (.int i0), .unset, .unset, .unset, .unset, .unset, .unset] [(.int (19 : Int32)), (.ref b2), (.ref b2)])) _
  refine st41 _ ?_
  show Steps p.tables e below (T41.setTop (mkF m 138 #[.val (.int i0), .unset, .unset, .unset, .unset, .unset, .unset] [(.ref wFALSE), (.int (19 : Int32)), (.ref b2), (.ref b2)])) _
  refine st42 _ ?_
  show Steps p.tables e below (T42.setTop (mkF m 139 #[.val (.int i0), .unset, .unset, .unset, .unset, .unset, .unset] [(.ref b2)])) _
  refine XS.dup X42.here hx rfl (hb hby at_139) rfl rfl ?_
  show Steps p.tables e below (T42.setTop (mkF m 140 #[.val (.int i0), .unset, .unset, .unset, .unset, .unset, .unset] [(.ref b2), (.ref b2)])) _
  refine XS.bipush X42.here hx rfl (hb hby at_140) ?_
  show Steps p.tables e below (T42.setTop (mkF m 142 #[.val (.int i0), .unset, .unset, .unset, .unset, .unset, .unset] [(.int (20 : Int32)), (.ref b2), (.ref b2)])) _
  refine st43 _ ?_
  show Steps p.tables e below (T43.setTop (mkF m 145 #[.val (.int i0), .unset, .unset, .unset, .unset, .unset, .unset] [(.ref wNUMBER), (.int (20 : Int32)), (.ref b2), (.ref b2)])) _
  refine st44 _ ?_
  show Steps p.tables e below (T44.setTop (mkF m 146 #[.val (.int i0), .unset, .unset, .unset, .unset, .unset, .unset] [(.ref b2)])) _
  refine XS.dup X44.here hx rfl (hb hby at_146) rfl rfl ?_
  show Steps p.tables e below (T44.setTop (mkF m 147 #[.val (.int i0), .unset, .unset, .unset, .unset, .unset, .unset] [(.ref b2), (.ref b2)])) _
  refine XS.bipush X44.here hx rfl (hb hby at_147) ?_
  show Steps p.tables e below (T44.setTop (mkF m 149 #[.val (.int i0), .unset, .unset, .unset, .unset, .unset, .unset] [(.int (21 : Int32)), (.ref b2), (.ref b2)])) _
  refine st45 _ ?_
  show Steps p.tables e below (T45.setTop (mkF m 152 #[.val (.int i0), .unset, .unset, .unset, .unset, .unset, .unset] [(.ref wSUM), (.int (21 : Int32)), (.ref b2), (.ref b2)])) _
  refine st46 _ ?_
  show Steps p.tables e below (T46.setTop (mkF m 153 #[.val (.int i0), .unset, .unset, .unset, .unset, .unset, .unset] [(.ref b2)])) _
  refine XS.dup X46.here hx rfl (hb hby at_153) rfl rfl ?_
  show Steps p.tables e below (T46.setTop (mkF m 154 #[.val (.int i0), .unset, .unset, .unset, .unset, .unset, .unset] [(.ref b2), (.ref b2)])) _
  refine XS.bipush X46.here hx rfl (hb hby at_154) ?_
  show Steps p.tables e below (T46.setTop (mkF m 156 #[.val (.int i0), .unset, .unset, .unset, .unset, .unset, .unset] [(.int (22 : Int32)), (.ref b2), (.ref b2)])) _
  refine st47 _ ?_
  show Steps p.tables e below (T47.setTop (mkF m 159 #[.val (.int i0), .unset, .unset, .unset, .unset, .unset, .unset] [(.ref wFLOOR), (.int (22 : Int32)), (.ref b2), (.ref b2)])) _
  refine st48 _ ?_
  show Steps p.tables e below (T48.setTop (mkF m 160 #[.val (.int i0), .unset, .unset, .unset, .unset, .unset, .unset] [(.ref b2)])) _
  refine XS.dup X48.here hx rfl (hb hby at_160) rfl rfl ?_
  show Steps p.tables e below (T48.setTop (mkF m 161 #[.val (.int i0), .unset, .unset, .unset, .unset, .unset, .unset] [(.ref b2), (.ref b2)])) _
  refine XS.bipush X48.here hx rfl (hb hby at_161) ?_
  show Steps p.tables e below (T48.setTop (mkF m 163 #[.val (.int i0), .unset, .unset, .unset, .unset, .unset, .unset] [(.int (23 : Int32)), (.ref b2), (.ref b2)])) _
  refine st49 _ ?_
  show Steps p.tables e below (T49.setTop (mkF m 166 #[.val (.int i0), .unset, .unset, .unset, .unset, .unset, .unset] [(.ref wCEILING), (.int (23 : Int32)), (.ref b2), (.ref b2)])) _
  refine st50 _ ?_
  show Steps p.tables e below (T50.setTop (mkF m 167 #[.val (.int i0), .unset, .unset, .unset, .unset, .unset, .unset] [(.ref b2)])) _
  refine XS.dup X50.here hx rfl (hb hby at_167) rfl rfl ?_
  show Steps p.tables e below (T50.setTop (mkF m 168 #[.val (.int i0), .unset, .unset, .unset, .unset, .unset, .unset] [(.ref b2), (.ref b2)])) _
  refine XS.bipush X50.here hx rfl (hb hby at_168) ?_
  show Steps p.tables e below (T50.setTop (mkF m 170 #[.val (.int i0), .unset, .unset, .unset, .unset, .unset, .unset] [(.int (24 : Int32)), (.ref b2), (.ref b2)])) _
  refine st51 _ ?_
  show Steps p.tables e below (T51.setTop (mkF m 173 #[.val (.int i0), .unset, .unset, .unset, .unset, .unset, .unset] [(.ref wROUND), (.int (24 : Int32)), (.ref b2), (.ref b2)])) _
  refine st52 _ ?_
  show Steps p.tables e below (T52.setTop (mkF m 174 #[.val (.int i0), .unset, .unset, .unset, .unset, .unset, .unset] [(.ref b2)])) _
  refine XS.astoreN X52.here hx rfl (hb hby at_174) rfl rfl (l' := #[.val (.int i0), .val (.ref b2), .unset, .unset, .unset, .unset, .unset]) rfl ?_
  show Steps p.tables e below (T52.setTop (mkF m 175 #[.val (.int i0), .val (.ref b2), .unset, .unset, .unset, .unset, .unset] [])) _
  refine XS.iloadN X52.here hx rfl (hb hby at_175) rfl ?_
  show Steps p.tables e below (T52.setTop (mkF m 176 #[.val (.int i0), .val (.ref b2), .unset, .unset, .unset, .unset, .unset] [(.int i0)])) _
  refine X52.ldcInt hx hown (mvT hZ (hw _ (List.mem_of_getElem? (i := 54) rfl))) (g := (mkF m 176 #[.val (.int i0), .val (.ref b2), .unset, .unset, .unset, .unset, .unset] [(.int i0)])) rfl (hb hby at_176) _ ?_
  show Steps p.tables e below (T52.setTop (mkF m 178 #[.val (.int i0), .val (.ref b2), .unset, .unset, .unset, .unset, .unset] [(.int (2147483647 : Int32)), (.int i0)])) _
  refine XS.iand X52.here hx rfl (hb hby at_178) rfl ?_
  show Steps p.tables e below (T52.setTop (mkF m 179 #[.val (.int i0), .val (.ref b2), .unset, .unset, .unset, .unset, .unset] [(.int (i0 &&& (2147483647 : Int32)))])) _
  refine XS.bipush X52.here hx rfl (hb hby at_179) ?_
  show Steps p.tables e below (T52.setTop (mkF m 181 #[.val (.int i0), .val (.ref b2), .unset, .unset, .unset, .unset, .unset] [(.int (25 : Int32)), (.int (i0 &&& (2147483647 : Int32)))])) _
  refine iremM (g := (mkF m 181 #[.val (.int i0), .val (.ref b2), .unset, .unset, .unset, .unset, .unset] [(.int (25 : Int32)), (.int (i0 &&& (2147483647 : Int32)))])) X52 hx rfl (hb hby at_181) rfl (by decide) ?_
  show Steps p.tables e below (T52.setTop (mkF m 182 #[.val (.int i0), .val (.ref b2), .unset, .unset, .unset, .unset, .unset] [(.int ((i0 &&& (2147483647 : Int32)) % (25 : Int32)))])) _
  refine XS.istoreN X52.here hx rfl (hb hby at_182) rfl (l' := #[.val (.int i0), .val (.ref b2), .val (.int ((i0 &&& (2147483647 : Int32)) % (25 : Int32))), .unset, .unset, .unset, .unset]) rfl ?_
  show Steps p.tables e below (T52.setTop (mkF m 183 #[.val (.int i0), .val (.ref b2), .val (.int ((i0 &&& (2147483647 : Int32)) % (25 : Int32))), .unset, .unset, .unset, .unset] [])) _
  refine XS.aloadN X52.here hx rfl (hb hby at_183) rfl rfl ?_
  show Steps p.tables e below (T52.setTop (mkF m 184 #[.val (.int i0), .val (.ref b2), .val (.int ((i0 &&& (2147483647 : Int32)) % (25 : Int32))), .unset, .unset, .unset, .unset] [(.ref b2)])) _
  refine XS.iloadN X52.here hx rfl (hb hby at_184) rfl ?_
  show Steps p.tables e below (T52.setTop (mkF m 185 #[.val (.int i0), .val (.ref b2), .val (.int ((i0 &&& (2147483647 : Int32)) % (25 : Int32))), .unset, .unset, .unset, .unset] [(.int ((i0 &&& (2147483647 : Int32)) % (25 : Int32))), (.ref b2)])) _
  refine X52.aaload hx (j := ((i0 &&& (2147483647 : Int32)) % (25 : Int32))) (v := (.ref wj)) (by rw [e52]; exact Ar_b2_185.1) (State.isArrayOf_alike hZ.alike Ar_b2_185.2.1) rfl Ar_b2_185.2.2 hin185 hat185 (g := (mkF m 185 #[.val (.int i0), .val (.ref b2), .val (.int ((i0 &&& (2147483647 : Int32)) % (25 : Int32))), .unset, .unset, .unset, .unset] [(.int ((i0 &&& (2147483647 : Int32)) % (25 : Int32))), (.ref b2)])) rfl rfl (hb hby at_185) _ ?_
  show Steps p.tables e below (T52.setTop (mkF m 186 #[.val (.int i0), .val (.ref b2), .val (.int ((i0 &&& (2147483647 : Int32)) % (25 : Int32))), .unset, .unset, .unset, .unset] [(.ref wj)])) _
  refine XS.astoreN X52.here hx rfl (hb hby at_186) rfl rfl (l' := #[.val (.int i0), .val (.ref b2), .val (.int ((i0 &&& (2147483647 : Int32)) % (25 : Int32))), .val (.ref wj), .unset, .unset, .unset]) rfl ?_
  exact kt
theorem pn_0 : plainName "com/example/tupletree/tupletree/query/FunctionOfContextPinLaw" = true := by first | (simp [plainName, overriddenIn]; done) | decide +kernel
theorem pd_0_0 : parseMethodDescriptor "()Z" = some ⟨[], some .boolean⟩ := by decide +kernel
theorem pd_0_1 : parseMethodDescriptor "(I)Z" = some ⟨[.int], some .boolean⟩ := by decide +kernel
theorem ef_0 (m : MethodId) (x0 : Int32) : entryFrame m #[(.int x0)] maxLocals = mkF m 0 #[.val (.int x0), .unset, .unset, .unset, .unset, .unset, .unset] [] := by first | (simp [entryFrame, mkF, argsToLocals, Value.category, maxLocals]; done) | rfl
set_option maxRecDepth 65536 in
set_option maxHeartbeats 40000000 in
theorem rm0_A (l : Launch) (Z : State) (a0 : Array Value) (hw : ∀ d ∈ tables_1, d.before a0 Z = true) (ws : List Jvm.Cond) (p1 : Int32) (wLAST : Addr) (wPOSITION : Addr) (wCOUNT : Addr) (wLOCALNAME : Addr) (wNAMESPACEURI : Addr) (wNAME : Addr) (wSTRING : Addr) (wCONCAT : Addr) (wSTARTSWITH : Addr) (wCONTAINS : Addr) (wSUBSTRINGBEFORE : Addr) (wSUBSTRINGAFTER : Addr) (wSUBSTRING : Addr) (wSTRINGLENGTH : Addr) (wNORMALIZESPACE : Addr) (wTRANSLATE : Addr) (wBOOLEAN : Addr) (wNOT : Addr) (wTRUE : Addr) (wFALSE : Addr) (wNUMBER : Addr) (wSUM : Addr) (wFLOOR : Addr) (wCEILING : Addr) (wROUND : Addr) (wj : Addr) (h0 : Heap) (n0 : Nat) (Z0 : n0 ≤ h0.size) (S_LAST : Sta Z h0 "com/example/tupletree/tupletree/query/Function" "LAST" "Lcom/example/tupletree/tupletree/query/Function;" (.ref wLAST)) (S_POSITION : Sta Z h0 "com/example/tupletree/tupletree/query/Function" "POSITION" "Lcom/example/tupletree/tupletree/query/Function;" (.ref wPOSITION)) (S_COUNT : Sta Z h0 "com/example/tupletree/tupletree/query/Function" "COUNT" "Lcom/example/tupletree/tupletree/query/Function;" (.ref wCOUNT)) (S_LOCAL_NAME : Sta Z h0 "com/example/tupletree/tupletree/query/Function" "LOCAL_NAME" "Lcom/example/tupletree/tupletree/query/Function;" (.ref wLOCALNAME)) (S_NAMESPACE_URI : Sta Z h0 "com/example/tupletree/tupletree/query/Function" "NAMESPACE_URI" "Lcom/example/tupletree/tupletree/query/Function;" (.ref wNAMESPACEURI)) (S_NAME : Sta Z h0 "com/example/tupletree/tupletree/query/Function" "NAME" "Lcom/example/tupletree/tupletree/query/Function;" (.ref wNAME)) (S_STRING : Sta Z h0 "com/example/tupletree/tupletree/query/Function" "STRING" "Lcom/example/tupletree/tupletree/query/Function;" (.ref wSTRING)) (S_CONCAT : Sta Z h0 "com/example/tupletree/tupletree/query/Function" "CONCAT" "Lcom/example/tupletree/tupletree/query/Function;" (.ref wCONCAT)) (S_STARTS_WITH : Sta Z h0 "com/example/tupletree/tupletree/query/Function" "STARTS_WITH" "Lcom/example/tupletree/tupletree/query/Function;" (.ref wSTARTSWITH)) (S_CONTAINS : Sta Z h0 "com/example/tupletree/tupletree/query/Function" "CONTAINS" "Lcom/example/tupletree/tupletree/query/Function;" (.ref wCONTAINS)) (S_SUBSTRING_BEFORE : Sta Z h0 "com/example/tupletree/tupletree/query/Function" "SUBSTRING_BEFORE" "Lcom/example/tupletree/tupletree/query/Function;" (.ref wSUBSTRINGBEFORE)) (S_SUBSTRING_AFTER : Sta Z h0 "com/example/tupletree/tupletree/query/Function" "SUBSTRING_AFTER" "Lcom/example/tupletree/tupletree/query/Function;" (.ref wSUBSTRINGAFTER)) (S_SUBSTRING : Sta Z h0 "com/example/tupletree/tupletree/query/Function" "SUBSTRING" "Lcom/example/tupletree/tupletree/query/Function;" (.ref wSUBSTRING)) (S_STRING_LENGTH : Sta Z h0 "com/example/tupletree/tupletree/query/Function" "STRING_LENGTH" "Lcom/example/tupletree/tupletree/query/Function;" (.ref wSTRINGLENGTH)) (S_NORMALIZE_SPACE : Sta Z h0 "com/example/tupletree/tupletree/query/Function" "NORMALIZE_SPACE" "Lcom/example/tupletree/tupletree/query/Function;" (.ref wNORMALIZESPACE)) (S_TRANSLATE : Sta Z h0 "com/example/tupletree/tupletree/query/Function" "TRANSLATE" "Lcom/example/tupletree/tupletree/query/Function;" (.ref wTRANSLATE)) (S_BOOLEAN : Sta Z h0 "com/example/tupletree/tupletree/query/Function" "BOOLEAN" "Lcom/example/tupletree/tupletree/query/Function;" (.ref wBOOLEAN)) (S_NOT : Sta Z h0 "com/example/tupletree/tupletree/query/Function" "NOT" "Lcom/example/tupletree/tupletree/query/Function;" (.ref wNOT)) (S_TRUE : Sta Z h0 "com/example/tupletree/tupletree/query/Function" "TRUE" "Lcom/example/tupletree/tupletree/query/Function;" (.ref wTRUE)) (S_FALSE : Sta Z h0 "com/example/tupletree/tupletree/query/Function" "FALSE" "Lcom/example/tupletree/tupletree/query/Function;" (.ref wFALSE)) (S_NUMBER : Sta Z h0 "com/example/tupletree/tupletree/query/Function" "NUMBER" "Lcom/example/tupletree/tupletree/query/Function;" (.ref wNUMBER)) (S_SUM : Sta Z h0 "com/example/tupletree/tupletree/query/Function" "SUM" "Lcom/example/tupletree/tupletree/query/Function;" (.ref wSUM)) (S_FLOOR : Sta Z h0 "com/example/tupletree/tupletree/query/Function" "FLOOR" "Lcom/example/tupletree/tupletree/query/Function;" (.ref wFLOOR)) (S_CEILING : Sta Z h0 "com/example/tupletree/tupletree/query/Function" "CEILING" "Lcom/example/tupletree/tupletree/query/Function;" (.ref wCEILING)) (S_ROUND : Sta Z h0 "com/example/tupletree/tupletree/query/Function" "ROUND" "Lcom/example/tupletree/tupletree/query/Function;" (.ref wROUND)) (E_wj : Exa Z h0 wj "com/example/tupletree/tupletree/query/Function") (F_fw : Fld Z h0 wj "com/example/tupletree/tupletree/query/Function" "fewest" "I" (.int (0 : Int32))) (F_mo : Fld Z h0 wj "com/example/tupletree/tupletree/query/Function" "most" "I" (.int (1 : Int32))) (hE : (((p1 &&& (2147483647 : Int32)) % (25 : Int32)) = (3 : Int32) ∧ (1 : Int32) = (1 : Int32)) ∨ (¬ (((p1 &&& (2147483647 : Int32)) % (25 : Int32)) = (3 : Int32)) ∧ ((p1 &&& (2147483647 : Int32)) % (25 : Int32)) = (4 : Int32) ∧ (1 : Int32) = (1 : Int32)) ∨ (¬ (((p1 &&& (2147483647 : Int32)) % (25 : Int32)) = (3 : Int32)) ∧ ¬ (((p1 &&& (2147483647 : Int32)) % (25 : Int32)) = (4 : Int32)) ∧ ((p1 &&& (2147483647 : Int32)) % (25 : Int32)) = (5 : Int32) ∧ (1 : Int32) = (1 : Int32)) ∨ (¬ (((p1 &&& (2147483647 : Int32)) % (25 : Int32)) = (3 : Int32)) ∧ ¬ (((p1 &&& (2147483647 : Int32)) % (25 : Int32)) = (4 : Int32)) ∧ ¬ (((p1 &&& (2147483647 : Int32)) % (25 : Int32)) = (5 : Int32)) ∧ ((p1 &&& (2147483647 : Int32)) % (25 : Int32)) = (6 : Int32) ∧ (1 : Int32) = (1 : Int32)) ∨ (¬ (((p1 &&& (2147483647 : Int32)) % (25 : Int32)) = (3 : Int32)) ∧ ¬ (((p1 &&& (2147483647 : Int32)) % (25 : Int32)) = (4 : Int32)) ∧ ¬ (((p1 &&& (2147483647 : Int32)) % (25 : Int32)) = (5 : Int32)) ∧ ¬ (((p1 &&& (2147483647 : Int32)) % (25 : Int32)) = (6 : Int32)) ∧ ((p1 &&& (2147483647 : Int32)) % (25 : Int32)) = (13 : Int32) ∧ (1 : Int32) = (1 : Int32)) ∨ (¬ (((p1 &&& (2147483647 : Int32)) % (25 : Int32)) = (3 : Int32)) ∧ ¬ (((p1 &&& (2147483647 : Int32)) % (25 : Int32)) = (4 : Int32)) ∧ ¬ (((p1 &&& (2147483647 : Int32)) % (25 : Int32)) = (5 : Int32)) ∧ ¬ (((p1 &&& (2147483647 : Int32)) % (25 : Int32)) = (6 : Int32)) ∧ ¬ (((p1 &&& (2147483647 : Int32)) % (25 : Int32)) = (13 : Int32)) ∧ ((p1 &&& (2147483647 : Int32)) % (25 : Int32)) = (14 : Int32) ∧ (1 : Int32) = (1 : Int32)) ∨ (¬ (((p1 &&& (2147483647 : Int32)) % (25 : Int32)) = (3 : Int32)) ∧ ¬ (((p1 &&& (2147483647 : Int32)) % (25 : Int32)) = (4 : Int32)) ∧ ¬ (((p1 &&& (2147483647 : Int32)) % (25 : Int32)) = (5 : Int32)) ∧ ¬ (((p1 &&& (2147483647 : Int32)) % (25 : Int32)) = (6 : Int32)) ∧ ¬ (((p1 &&& (2147483647 : Int32)) % (25 : Int32)) = (13 : Int32)) ∧ ¬ (((p1 &&& (2147483647 : Int32)) % (25 : Int32)) = (14 : Int32)) ∧ ((p1 &&& (2147483647 : Int32)) % (25 : Int32)) = (20 : Int32) ∧ (1 : Int32) = (1 : Int32)) ∨ (¬ (((p1 &&& (2147483647 : Int32)) % (25 : Int32)) = (3 : Int32)) ∧ ¬ (((p1 &&& (2147483647 : Int32)) % (25 : Int32)) = (4 : Int32)) ∧ ¬ (((p1 &&& (2147483647 : Int32)) % (25 : Int32)) = (5 : Int32)) ∧ ¬ (((p1 &&& (2147483647 : Int32)) % (25 : Int32)) = (6 : Int32)) ∧ ¬ (((p1 &&& (2147483647 : Int32)) % (25 : Int32)) = (13 : Int32)) ∧ ¬ (((p1 &&& (2147483647 : Int32)) % (25 : Int32)) = (14 : Int32)) ∧ ¬ (((p1 &&& (2147483647 : Int32)) % (25 : Int32)) = (20 : Int32)) ∧ (1 : Int32) = (0 : Int32))) (E_wLAST : Exa Z h0 wLAST "com/example/tupletree/tupletree/query/Function") (E_wPOSITION : Exa Z h0 wPOSITION "com/example/tupletree/tupletree/query/Function") (E_wCOUNT : Exa Z h0 wCOUNT "com/example/tupletree/tupletree/query/Function") (E_wLOCALNAME : Exa Z h0 wLOCALNAME "com/example/tupletree/tupletree/query/Function") (E_wNAMESPACEURI : Exa Z h0 wNAMESPACEURI "com/example/tupletree/tupletree/query/Function") (E_wNAME : Exa Z h0 wNAME "com/example/tupletree/tupletree/query/Function") (E_wSTRING : Exa Z h0 wSTRING "com/example/tupletree/tupletree/query/Function") (E_wCONCAT : Exa Z h0 wCONCAT "com/example/tupletree/tupletree/query/Function") (E_wSTARTSWITH : Exa Z h0 wSTARTSWITH "com/example/tupletree/tupletree/query/Function") (E_wCONTAINS : Exa Z h0 wCONTAINS "com/example/tupletree/tupletree/query/Function") (E_wSUBSTRINGBEFORE : Exa Z h0 wSUBSTRINGBEFORE "com/example/tupletree/tupletree/query/Function") (E_wSUBSTRINGAFTER : Exa Z h0 wSUBSTRINGAFTER "com/example/tupletree/tupletree/query/Function") (E_wSUBSTRING : Exa Z h0 wSUBSTRING "com/example/tupletree/tupletree/query/Function") (E_wSTRINGLENGTH : Exa Z h0 wSTRINGLENGTH "com/example/tupletree/tupletree/query/Function") (E_wNORMALIZESPACE : Exa Z h0 wNORMALIZESPACE "com/example/tupletree/tupletree/query/Function") (E_wTRANSLATE : Exa Z h0 wTRANSLATE "com/example/tupletree/tupletree/query/Function") (E_wBOOLEAN : Exa Z h0 wBOOLEAN "com/example/tupletree/tupletree/query/Function") (E_wNOT : Exa Z h0 wNOT "com/example/tupletree/tupletree/query/Function") (E_wTRUE : Exa Z h0 wTRUE "com/example/tupletree/tupletree/query/Function") (E_wFALSE : Exa Z h0 wFALSE "com/example/tupletree/tupletree/query/Function") (E_wNUMBER : Exa Z h0 wNUMBER "com/example/tupletree/tupletree/query/Function") (E_wSUM : Exa Z h0 wSUM "com/example/tupletree/tupletree/query/Function") (E_wFLOOR : Exa Z h0 wFLOOR "com/example/tupletree/tupletree/query/Function") (E_wCEILING : Exa Z h0 wCEILING "com/example/tupletree/tupletree/query/Function") (E_wROUND : Exa Z h0 wROUND "com/example/tupletree/tupletree/query/Function") (hr185 : ¬ ((p1 &&& (2147483647 : Int32)) % (25 : Int32)) < 0 ∧ ((p1 &&& (2147483647 : Int32)) % (25 : Int32)) < (25 : Int32)) (u185 : ([(.ref wLAST), (.ref wPOSITION), (.ref wCOUNT), (.ref wLOCALNAME), (.ref wNAMESPACEURI), (.ref wNAME), (.ref wSTRING), (.ref wCONCAT), (.ref wSTARTSWITH), (.ref wCONTAINS), (.ref wSUBSTRINGBEFORE), (.ref wSUBSTRINGAFTER), (.ref wSUBSTRING), (.ref wSTRINGLENGTH), (.ref wNORMALIZESPACE), (.ref wTRANSLATE), (.ref wBOOLEAN), (.ref wNOT), (.ref wTRUE), (.ref wFALSE), (.ref wNUMBER), (.ref wSUM), (.ref wFLOOR), (.ref wCEILING), (.ref wROUND)] : List Value).getD (((p1 &&& (2147483647 : Int32)) % (25 : Int32))).toNatClampNeg (.null : Value) = (.ref wj)) :
    MetFree l x (head1 (Jvm.Cond.code x code maxLocals ret :: ws) room_1) (fun a U => a = #[(.int p1)] ∧ Z.Warmed39 U.vm ∧ U.heap = h0) (fun _ _ _ _ _ => True) (fun _ U o U' => ∃ v L, o = .returned v ∧ Qlaw0 n0 v U'.heap L ∧ FrameEnd U o U' L room_1.cells room_1.slots) := by
  refine MetFree.of_bodySF (plainFor_of_name pn_0) hisR ?_
  intro p e s m args below meth c s₁ Bd hml0 hP hK
  obtain ⟨rfl, hZ, hh⟩ := hP
  have hx := Bd.exec
  have hby := Bd.bytes
  have hml : c.maxLocals = 7 := hml0
  have hown : s.vm.findClass "com/example/tupletree/tupletree/query/FunctionOfContextPinLaw" = some m.cls := findClass_of_methodNamed Bd.named
  have hnm := (name_of_methodNamed Bd.named Bd.method).1
  have X0 : Stand p l e room_1 s m #[(.int p1)] below meth c s₁ [] 0 0 := Stand.of_body Bd
  have e0 : s₁.heap = h0 := by rw [← hh, Bd.state]; rfl
  have N0 := Fr.nil n0
  have pre0 : ∀ t, Steps p.tables e below (s₁.setTop (mkF m 0 #[.val (.int p1), .unset, .unset, .unset, .unset, .unset, .unset] [])) t → Steps p.tables e below (s₁.setTop (entryFrame m #[(.int p1)] maxLocals)) t := fun t k => castTop (ef_0 m p1) k
  obtain ⟨T2, h2, b2, LL2, X2, e2, K2q, N2q, st2⟩ := tn0_0_187_arr p1 wLAST wPOSITION wCOUNT wLOCALNAME wNAMESPACEURI wNAME wSTRING wCONCAT wSTARTSWITH wCONTAINS wSUBSTRINGBEFORE wSUBSTRINGAFTER wSUBSTRING wSTRINGLENGTH wNORMALIZESPACE wTRANSLATE wBOOLEAN wNOT wTRUE wFALSE wNUMBER wSUM wFLOOR wCEILING wROUND wj n0 X0 hx hZ hw hby hml hown e0 S_LAST S_POSITION S_COUNT S_LOCAL_NAME S_NAMESPACE_URI S_NAME S_STRING S_CONCAT S_STARTS_WITH S_CONTAINS S_SUBSTRING_BEFORE S_SUBSTRING_AFTER S_SUBSTRING S_STRING_LENGTH S_NORMALIZE_SPACE S_TRANSLATE S_BOOLEAN S_NOT S_TRUE S_FALSE S_NUMBER S_SUM S_FLOOR S_CEILING S_ROUND Z0 N0 (by decide) (by decide) E_wLAST E_wPOSITION E_wCOUNT E_wLOCALNAME E_wNAMESPACEURI E_wNAME E_wSTRING E_wCONCAT E_wSTARTSWITH E_wCONTAINS E_wSUBSTRINGBEFORE E_wSUBSTRINGAFTER E_wSUBSTRING E_wSTRINGLENGTH E_wNORMALIZESPACE E_wTRANSLATE E_wBOOLEAN E_wNOT E_wTRUE E_wFALSE E_wNUMBER E_wSUM E_wFLOOR E_wCEILING E_wROUND hr185 u185
  have KK2 : Keep h0 h2 [] := (Keep.refl h0 []).trans K2q all0
  obtain ⟨T3, X3, e3, st3⟩ := own_e (1 : Int32) (.val (.int p1)) (.val (.ref b2)) ((p1 &&& (2147483647 : Int32)) % (25 : Int32)) (.val (.ref wj)) X2 hx hZ hw hby hml hown e2 hE
  obtain ⟨cq4, kq4, q4a, q4b, q4c⟩ := isOf hZ e3 (E_wj.keep K2q)
  obtain ⟨_, _, ⟨T4, L4, k4, n4⟩, -, X4, ⟨Lc4, hQ4, l4, y4, z4⟩, st4⟩ := X3.virtualBack hx (y := (⟨"com/example/tupletree/tupletree/query/Function", "ofContext", "()Z"⟩ : MethodName)) (z := (⟨"com/example/tupletree/tupletree/query/Function", "ofContext", "()Z"⟩ : MethodName)) hown (mvT hZ (hw _ (List.mem_of_getElem? (i := 55) rfl))) (mvT hZ (hw _ (List.mem_of_getElem? (i := 56) rfl))) (notFace_of_selects (args := #[]) (mvT hZ (hw _ (List.mem_of_getElem? (i := 58) rfl)))) (mvT hZ (hw _ (List.mem_of_getElem? (i := 58) rfl))) (mvT hZ (hw _ (List.mem_of_getElem? (i := 57) rfl))) (by decide) (backOf (W := 0) (rm1_ff l Z a0 hw [] wj (0 : Int32) (1 : Int32) h2 n0 (Nat.le_trans Z0 K2q.1) (F_fw.keep K2q nin0) (F_mo.keep K2q nin0) rfl rfl) hZ (hw _ (List.mem_of_getElem? (i := 59) rfl)) (hw _ (List.mem_of_getElem? (i := 3) rfl)) (by decide) (by decide)) q4a q4c (g := (mkF m 234 #[.val (.int p1), .val (.ref b2), .val (.int ((p1 &&& (2147483647 : Int32)) % (25 : Int32))), .val (.ref wj), .val (.int (1 : Int32)), .unset, .unset] [(.ref wj)])) rfl (by rw [hml]; rfl) (Steps.refl _) (argsL := []) (rest := []) (lenOf pd_0_0 rfl) rfl (by show 2 * 0 + _ ≤ _; exact Nat.le_of_eq rfl) (hb hby at_234) (fun _ _ => ⟨rfl, e3, (by decide : 1 + 0 ≤ _), (by decide : 25 + 0 ≤ _)⟩)
  dsimp only [Pt.U, Pt.locs, Pt.cells, Pt.slots] at X4 l4 y4 z4 st4 hQ4
  subst l4 y4 z4
  obtain ⟨rfl, N4q, e4q⟩ := hQ4
  have N4 := Fr.app N2q N4q
  obtain ⟨cq5, kq5, q5a, q5b, q5c⟩ := isOf hZ e4q (E_wj.keep K2q)
  obtain ⟨_, _, ⟨T5, L5, k5, n5⟩, -, X5, ⟨Lc5, hQ5, l5, y5, z5⟩, st5⟩ := X4.virtualBack hx (y := (⟨"com/example/tupletree/tupletree/query/Function", "takes", "(I)Z"⟩ : MethodName)) (z := (⟨"com/example/tupletree/tupletree/query/Function", "takes", "(I)Z"⟩ : MethodName)) hown (mvT hZ (hw _ (List.mem_of_getElem? (i := 64) rfl))) (mvT hZ (hw _ (List.mem_of_getElem? (i := 65) rfl))) (notFace_of_selects (args := #[]) (mvT hZ (hw _ (List.mem_of_getElem? (i := 67) rfl)))) (mvT hZ (hw _ (List.mem_of_getElem? (i := 67) rfl))) (mvT hZ (hw _ (List.mem_of_getElem? (i := 66) rfl))) (by decide) (backOf (W := 0) (rm2_ff l Z a0 hw [] wj (0 : Int32) (0 : Int32) (1 : Int32) h2 n0 (Nat.le_trans Z0 K2q.1) (F_fw.keep K2q nin0) (F_mo.keep K2q nin0) (by decide) (by decide)) hZ (hw _ (List.mem_of_getElem? (i := 68) rfl)) (hw _ (List.mem_of_getElem? (i := 3) rfl)) (by decide) (by decide)) q5a q5c (g := (mkF m 241 #[.val (.int p1), .val (.ref b2), .val (.int ((p1 &&& (2147483647 : Int32)) % (25 : Int32))), .val (.ref wj), .val (.int (1 : Int32)), .val (.int (1 : Int32)), .unset] [(.int (0 : Int32)), (.ref wj)])) rfl (by rw [hml]; rfl) (Steps.refl _) (argsL := [(.int (0 : Int32))]) (rest := []) (lenOf pd_0_1 rfl) rfl (by show 2 * 0 + _ ≤ _; exact Nat.le_of_eq rfl) (hb hby at_241) (fun _ _ => ⟨rfl, e4q, (by decide : 1 + 0 ≤ _), (by decide : 25 + 0 ≤ _)⟩)
  dsimp only [Pt.U, Pt.locs, Pt.cells, Pt.slots] at X5 l5 y5 z5 st5 hQ5
  subst l5 y5 z5
  obtain ⟨rfl, N5q, e5q⟩ := hQ5
  have N5 := Fr.app N4 N5q
  obtain ⟨cq6, kq6, q6a, q6b, q6c⟩ := isOf hZ e5q (E_wj.keep K2q)
  obtain ⟨_, _, ⟨T6, L6, k6, n6⟩, -, X6, ⟨Lc6, hQ6, l6, y6, z6⟩, st6⟩ := X5.virtualBack hx (y := (⟨"com/example/tupletree/tupletree/query/Function", "takes", "(I)Z"⟩ : MethodName)) (z := (⟨"com/example/tupletree/tupletree/query/Function", "takes", "(I)Z"⟩ : MethodName)) hown (mvT hZ (hw _ (List.mem_of_getElem? (i := 64) rfl))) (mvT hZ (hw _ (List.mem_of_getElem? (i := 65) rfl))) (notFace_of_selects (args := #[]) (mvT hZ (hw _ (List.mem_of_getElem? (i := 67) rfl)))) (mvT hZ (hw _ (List.mem_of_getElem? (i := 67) rfl))) (mvT hZ (hw _ (List.mem_of_getElem? (i := 66) rfl))) (by decide) (backOf (W := 0) (rm2_ff l Z a0 hw [] wj (1 : Int32) (0 : Int32) (1 : Int32) h2 n0 (Nat.le_trans Z0 K2q.1) (F_fw.keep K2q nin0) (F_mo.keep K2q nin0) (by decide) (by decide)) hZ (hw _ (List.mem_of_getElem? (i := 68) rfl)) (hw _ (List.mem_of_getElem? (i := 3) rfl)) (by decide) (by decide)) q6a q6c (g := (mkF m 249 #[.val (.int p1), .val (.ref b2), .val (.int ((p1 &&& (2147483647 : Int32)) % (25 : Int32))), .val (.ref wj), .val (.int (1 : Int32)), .val (.int (1 : Int32)), .unset] [(.int (1 : Int32)), (.ref wj)])) rfl (by rw [hml]; rfl) (Steps.refl _) (argsL := [(.int (1 : Int32))]) (rest := []) (lenOf pd_0_1 rfl) rfl (by show 2 * 0 + _ ≤ _; exact Nat.le_of_eq rfl) (hb hby at_249) (fun _ _ => ⟨rfl, e5q, (by decide : 1 + 0 ≤ _), (by decide : 25 + 0 ≤ _)⟩)
  dsimp only [Pt.U, Pt.locs, Pt.cells, Pt.slots] at X6 l6 y6 z6 st6 hQ6
  subst l6 y6 z6
  obtain ⟨rfl, N6q, e6q⟩ := hQ6
  have N6 := Fr.app N5 N6q
  obtain ⟨cq7, kq7, q7a, q7b, q7c⟩ := isOf hZ e6q (E_wj.keep K2q)
  obtain ⟨_, _, ⟨T7, L7, k7, n7⟩, -, X7, ⟨Lc7, hQ7, l7, y7, z7⟩, st7⟩ := X6.virtualBack hx (y := (⟨"com/example/tupletree/tupletree/query/Function", "takes", "(I)Z"⟩ : MethodName)) (z := (⟨"com/example/tupletree/tupletree/query/Function", "takes", "(I)Z"⟩ : MethodName)) hown (mvT hZ (hw _ (List.mem_of_getElem? (i := 64) rfl))) (mvT hZ (hw _ (List.mem_of_getElem? (i := 65) rfl))) (notFace_of_selects (args := #[]) (mvT hZ (hw _ (List.mem_of_getElem? (i := 67) rfl)))) (mvT hZ (hw _ (List.mem_of_getElem? (i := 67) rfl))) (mvT hZ (hw _ (List.mem_of_getElem? (i := 66) rfl))) (by decide) (backOf (W := 0) (rm2_ft l Z a0 hw [] wj (2 : Int32) (0 : Int32) (1 : Int32) h2 n0 (Nat.le_trans Z0 K2q.1) (F_fw.keep K2q nin0) (F_mo.keep K2q nin0) (by decide) (by decide)) hZ (hw _ (List.mem_of_getElem? (i := 68) rfl)) (hw _ (List.mem_of_getElem? (i := 3) rfl)) (by decide) (by decide)) q7a q7c (g := (mkF m 257 #[.val (.int p1), .val (.ref b2), .val (.int ((p1 &&& (2147483647 : Int32)) % (25 : Int32))), .val (.ref wj), .val (.int (1 : Int32)), .val (.int (1 : Int32)), .unset] [(.int (2 : Int32)), (.ref wj)])) rfl (by rw [hml]; rfl) (Steps.refl _) (argsL := [(.int (2 : Int32))]) (rest := []) (lenOf pd_0_1 rfl) rfl (by show 2 * 0 + _ ≤ _; exact Nat.le_of_eq rfl) (hb hby at_257) (fun _ _ => ⟨rfl, e6q, (by decide : 1 + 0 ≤ _), (by decide : 25 + 0 ≤ _)⟩)
  dsimp only [Pt.U, Pt.locs, Pt.cells, Pt.slots] at X7 l7 y7 z7 st7 hQ7
  subst l7 y7 z7
  obtain ⟨rfl, N7q, e7q⟩ := hQ7
  have N7 := Fr.app N6 N7q
  obtain ⟨fs, hr, hrun, hended, hW, hsame⟩ := X7.leave (v := some (.int (1 : Int32))) (fun h => by rw [Bd.returns] at h; cases h)
  refine ⟨_, _, pre0 _ ?_, hrun, hended, _, _, rfl, ?_, ⟨_, rfl⟩, hW, hsame.mono (by decide) (by decide)⟩
  · show Steps p.tables e below (s₁.setTop (mkF m 0 #[.val (.int p1), .unset, .unset, .unset, .unset, .unset, .unset] [])) _
    refine st2 _ ?_
    show Steps p.tables e below (T2.setTop (mkF m 187 #[.val (.int p1), .val (.ref b2), .val (.int ((p1 &&& (2147483647 : Int32)) % (25 : Int32))), .val (.ref wj), .unset, .unset, .unset] [])) _
    refine st3 _ ?_
    show Steps p.tables e below (T3.setTop (mkF m 233 #[.val (.int p1), .val (.ref b2), .val (.int ((p1 &&& (2147483647 : Int32)) % (25 : Int32))), .val (.ref wj), .val (.int (1 : Int32)), .unset, .unset] [])) _
    refine XS.aloadN X3.here hx rfl (hb hby at_233) rfl rfl ?_
    show Steps p.tables e below (T3.setTop (mkF m 234 #[.val (.int p1), .val (.ref b2), .val (.int ((p1 &&& (2147483647 : Int32)) % (25 : Int32))), .val (.ref wj), .val (.int (1 : Int32)), .unset, .unset] [(.ref wj)])) _
    refine st4.trans ?_
    show Steps p.tables e below (T4.setTop (mkF m 237 #[.val (.int p1), .val (.ref b2), .val (.int ((p1 &&& (2147483647 : Int32)) % (25 : Int32))), .val (.ref wj), .val (.int (1 : Int32)), .unset, .unset] [(.int (1 : Int32))])) _
    refine XS.istore X4.here hx rfl (hb hby at_237) rfl (l' := #[.val (.int p1), .val (.ref b2), .val (.int ((p1 &&& (2147483647 : Int32)) % (25 : Int32))), .val (.ref wj), .val (.int (1 : Int32)), .val (.int (1 : Int32)), .unset]) rfl ?_
    show Steps p.tables e below (T4.setTop (mkF m 239 #[.val (.int p1), .val (.ref b2), .val (.int ((p1 &&& (2147483647 : Int32)) % (25 : Int32))), .val (.ref wj), .val (.int (1 : Int32)), .val (.int (1 : Int32)), .unset] [])) _
    refine XS.aloadN X4.here hx rfl (hb hby at_239) rfl rfl ?_
    show Steps p.tables e below (T4.setTop (mkF m 240 #[.val (.int p1), .val (.ref b2), .val (.int ((p1 &&& (2147483647 : Int32)) % (25 : Int32))), .val (.ref wj), .val (.int (1 : Int32)), .val (.int (1 : Int32)), .unset] [(.ref wj)])) _
    refine XS.iconst X4.here hx rfl (hb hby at_240) ?_
    show Steps p.tables e below (T4.setTop (mkF m 241 #[.val (.int p1), .val (.ref b2), .val (.int ((p1 &&& (2147483647 : Int32)) % (25 : Int32))), .val (.ref wj), .val (.int (1 : Int32)), .val (.int (1 : Int32)), .unset] [(.int (0 : Int32)), (.ref wj)])) _
    refine st5.trans ?_
    show Steps p.tables e below (T5.setTop (mkF m 244 #[.val (.int p1), .val (.ref b2), .val (.int ((p1 &&& (2147483647 : Int32)) % (25 : Int32))), .val (.ref wj), .val (.int (1 : Int32)), .val (.int (1 : Int32)), .unset] [(.int (1 : Int32))])) _
    refine XS.ifNo X5.here hx rfl (hb hby at_244) rfl ((if0 _ _).trans (feq (by decide : ¬ ((1 : Int32) = (0 : Int32)))).1) ?_
    show Steps p.tables e below (T5.setTop (mkF m 247 #[.val (.int p1), .val (.ref b2), .val (.int ((p1 &&& (2147483647 : Int32)) % (25 : Int32))), .val (.ref wj), .val (.int (1 : Int32)), .val (.int (1 : Int32)), .unset] [])) _
    refine XS.aloadN X5.here hx rfl (hb hby at_247) rfl rfl ?_
    show Steps p.tables e below (T5.setTop (mkF m 248 #[.val (.int p1), .val (.ref b2), .val (.int ((p1 &&& (2147483647 : Int32)) % (25 : Int32))), .val (.ref wj), .val (.int (1 : Int32)), .val (.int (1 : Int32)), .unset] [(.ref wj)])) _
    refine XS.iconst X5.here hx rfl (hb hby at_248) ?_
    show Steps p.tables e below (T5.setTop (mkF m 249 #[.val (.int p1), .val (.ref b2), .val (.int ((p1 &&& (2147483647 : Int32)) % (25 : Int32))), .val (.ref wj), .val (.int (1 : Int32)), .val (.int (1 : Int32)), .unset] [(.int (1 : Int32)), (.ref wj)])) _
    refine st6.trans ?_
    show Steps p.tables e below (T6.setTop (mkF m 252 #[.val (.int p1), .val (.ref b2), .val (.int ((p1 &&& (2147483647 : Int32)) % (25 : Int32))), .val (.ref wj), .val (.int (1 : Int32)), .val (.int (1 : Int32)), .unset] [(.int (1 : Int32))])) _
    refine XS.ifNo X6.here hx rfl (hb hby at_252) rfl ((if0 _ _).trans (feq (by decide : ¬ ((1 : Int32) = (0 : Int32)))).1) ?_
    show Steps p.tables e below (T6.setTop (mkF m 255 #[.val (.int p1), .val (.ref b2), .val (.int ((p1 &&& (2147483647 : Int32)) % (25 : Int32))), .val (.ref wj), .val (.int (1 : Int32)), .val (.int (1 : Int32)), .unset] [])) _
    refine XS.aloadN X6.here hx rfl (hb hby at_255) rfl rfl ?_
    show Steps p.tables e below (T6.setTop (mkF m 256 #[.val (.int p1), .val (.ref b2), .val (.int ((p1 &&& (2147483647 : Int32)) % (25 : Int32))), .val (.ref wj), .val (.int (1 : Int32)), .val (.int (1 : Int32)), .unset] [(.ref wj)])) _
    refine XS.iconst X6.here hx rfl (hb hby at_256) ?_
    show Steps p.tables e below (T6.setTop (mkF m 257 #[.val (.int p1), .val (.ref b2), .val (.int ((p1 &&& (2147483647 : Int32)) % (25 : Int32))), .val (.ref wj), .val (.int (1 : Int32)), .val (.int (1 : Int32)), .unset] [(.int (2 : Int32)), (.ref wj)])) _
    refine st7.trans ?_
    show Steps p.tables e below (T7.setTop (mkF m 260 #[.val (.int p1), .val (.ref b2), .val (.int ((p1 &&& (2147483647 : Int32)) % (25 : Int32))), .val (.ref wj), .val (.int (1 : Int32)), .val (.int (1 : Int32)), .unset] [(.int (0 : Int32))])) _
    refine XS.ifNo X7.here hx rfl (hb hby at_260) rfl ((if0 _ _).trans (teq (rfl : (0 : Int32) = (0 : Int32))).2) ?_
    show Steps p.tables e below (T7.setTop (mkF m 263 #[.val (.int p1), .val (.ref b2), .val (.int ((p1 &&& (2147483647 : Int32)) % (25 : Int32))), .val (.ref wj), .val (.int (1 : Int32)), .val (.int (1 : Int32)), .unset] [])) _
    refine XS.iconst X7.here hx rfl (hb hby at_263) ?_
    show Steps p.tables e below (T7.setTop (mkF m 264 #[.val (.int p1), .val (.ref b2), .val (.int ((p1 &&& (2147483647 : Int32)) % (25 : Int32))), .val (.ref wj), .val (.int (1 : Int32)), .val (.int (1 : Int32)), .unset] [(.int (1 : Int32))])) _
    refine XS.goto X7.here hx rfl (pc0 := 264) (pc' := 268) rfl (hb hby at_264) (by decide) (by decide) ?_
    show Steps p.tables e below (T7.setTop (mkF m 268 #[.val (.int p1), .val (.ref b2), .val (.int ((p1 &&& (2147483647 : Int32)) % (25 : Int32))), .val (.ref wj), .val (.int (1 : Int32)), .val (.int (1 : Int32)), .unset] [(.int (1 : Int32))])) _
    refine XS.istore X7.here hx rfl (hb hby at_268) rfl (l' := #[.val (.int p1), .val (.ref b2), .val (.int ((p1 &&& (2147483647 : Int32)) % (25 : Int32))), .val (.ref wj), .val (.int (1 : Int32)), .val (.int (1 : Int32)), .val (.int (1 : Int32))]) rfl ?_
    show Steps p.tables e below (T7.setTop (mkF m 270 #[.val (.int p1), .val (.ref b2), .val (.int ((p1 &&& (2147483647 : Int32)) % (25 : Int32))), .val (.ref wj), .val (.int (1 : Int32)), .val (.int (1 : Int32)), .val (.int (1 : Int32))] [])) _
    refine XS.iload X7.here hx rfl (hb hby at_270) rfl ?_
    show Steps p.tables e below (T7.setTop (mkF m 272 #[.val (.int p1), .val (.ref b2), .val (.int ((p1 &&& (2147483647 : Int32)) % (25 : Int32))), .val (.ref wj), .val (.int (1 : Int32)), .val (.int (1 : Int32)), .val (.int (1 : Int32))] [(.int (1 : Int32))])) _
    refine XS.iload X7.here hx rfl (hb hby at_272) rfl ?_
    show Steps p.tables e below (T7.setTop (mkF m 274 #[.val (.int p1), .val (.ref b2), .val (.int ((p1 &&& (2147483647 : Int32)) % (25 : Int32))), .val (.ref wj), .val (.int (1 : Int32)), .val (.int (1 : Int32)), .val (.int (1 : Int32))] [(.int (1 : Int32)), (.int (1 : Int32))])) _
    refine XS.icmpNo X7.here hx rfl (hb hby at_274) rfl (teq (rfl : (1 : Int32) = (1 : Int32))).2 ?_
    show Steps p.tables e below (T7.setTop (mkF m 277 #[.val (.int p1), .val (.ref b2), .val (.int ((p1 &&& (2147483647 : Int32)) % (25 : Int32))), .val (.ref wj), .val (.int (1 : Int32)), .val (.int (1 : Int32)), .val (.int (1 : Int32))] [])) _
    refine XS.iload X7.here hx rfl (hb hby at_277) rfl ?_
    show Steps p.tables e below (T7.setTop (mkF m 279 #[.val (.int p1), .val (.ref b2), .val (.int ((p1 &&& (2147483647 : Int32)) % (25 : Int32))), .val (.ref wj), .val (.int (1 : Int32)), .val (.int (1 : Int32)), .val (.int (1 : Int32))] [(.int (1 : Int32))])) _
    refine XS.iload X7.here hx rfl (hb hby at_279) rfl ?_
    show Steps p.tables e below (T7.setTop (mkF m 281 #[.val (.int p1), .val (.ref b2), .val (.int ((p1 &&& (2147483647 : Int32)) % (25 : Int32))), .val (.ref wj), .val (.int (1 : Int32)), .val (.int (1 : Int32)), .val (.int (1 : Int32))] [(.int (1 : Int32)), (.int (1 : Int32))])) _
    refine XS.icmpNo X7.here hx rfl (hb hby at_281) rfl (teq (rfl : (1 : Int32) = (1 : Int32))).2 ?_
    show Steps p.tables e below (T7.setTop (mkF m 284 #[.val (.int p1), .val (.ref b2), .val (.int ((p1 &&& (2147483647 : Int32)) % (25 : Int32))), .val (.ref wj), .val (.int (1 : Int32)), .val (.int (1 : Int32)), .val (.int (1 : Int32))] [])) _
    refine XS.iconst X7.here hx rfl (hb hby at_284) ?_
    show Steps p.tables e below (T7.setTop (mkF m 285 #[.val (.int p1), .val (.ref b2), .val (.int ((p1 &&& (2147483647 : Int32)) % (25 : Int32))), .val (.ref wj), .val (.int (1 : Int32)), .val (.int (1 : Int32)), .val (.int (1 : Int32))] [(.int (1 : Int32))])) _
    refine XS.goto X7.here hx rfl (pc0 := 285) (pc' := 289) rfl (hb hby at_285) (by decide) (by decide) ?_
    show Steps p.tables e below (T7.setTop (mkF m 289 #[.val (.int p1), .val (.ref b2), .val (.int ((p1 &&& (2147483647 : Int32)) % (25 : Int32))), .val (.ref wj), .val (.int (1 : Int32)), .val (.int (1 : Int32)), .val (.int (1 : Int32))] [(.int (1 : Int32))])) _
    exact retN X7 hx (t := .boolean) Bd.returns (by simp) (hb hby at_289) hr
  · show Qlaw0 n0 _ T7.heap _
    rw [e7q]
    exact ⟨rfl, N7⟩
set_option maxRecDepth 65536 in
set_option maxHeartbeats 40000000 in
theorem rm0_B (l : Launch) (Z : State) (a0 : Array Value) (hw : ∀ d ∈ tables_1, d.before a0 Z = true) (ws : List Jvm.Cond) (p1 : Int32) (wLAST : Addr) (wPOSITION : Addr) (wCOUNT : Addr) (wLOCALNAME : Addr) (wNAMESPACEURI : Addr) (wNAME : Addr) (wSTRING : Addr) (wCONCAT : Addr) (wSTARTSWITH : Addr) (wCONTAINS : Addr) (wSUBSTRINGBEFORE : Addr) (wSUBSTRINGAFTER : Addr) (wSUBSTRING : Addr) (wSTRINGLENGTH : Addr) (wNORMALIZESPACE : Addr) (wTRANSLATE : Addr) (wBOOLEAN : Addr) (wNOT : Addr) (wTRUE : Addr) (wFALSE : Addr) (wNUMBER : Addr) (wSUM : Addr) (wFLOOR : Addr) (wCEILING : Addr) (wROUND : Addr) (wj : Addr) (h0 : Heap) (n0 : Nat) (Z0 : n0 ≤ h0.size) (S_LAST : Sta Z h0 "com/example/tupletree/tupletree/query/Function" "LAST" "Lcom/example/tupletree/tupletree/query/Function;" (.ref wLAST)) (S_POSITION : Sta Z h0 "com/example/tupletree/tupletree/query/Function" "POSITION" "Lcom/example/tupletree/tupletree/query/Function;" (.ref wPOSITION)) (S_COUNT : Sta Z h0 "com/example/tupletree/tupletree/query/Function" "COUNT" "Lcom/example/tupletree/tupletree/query/Function;" (.ref wCOUNT)) (S_LOCAL_NAME : Sta Z h0 "com/example/tupletree/tupletree/query/Function" "LOCAL_NAME" "Lcom/example/tupletree/tupletree/query/Function;" (.ref wLOCALNAME)) (S_NAMESPACE_URI : Sta Z h0 "com/example/tupletree/tupletree/query/Function" "NAMESPACE_URI" "Lcom/example/tupletree/tupletree/query/Function;" (.ref wNAMESPACEURI)) (S_NAME : Sta Z h0 "com/example/tupletree/tupletree/query/Function" "NAME" "Lcom/example/tupletree/tupletree/query/Function;" (.ref wNAME)) (S_STRING : Sta Z h0 "com/example/tupletree/tupletree/query/Function" "STRING" "Lcom/example/tupletree/tupletree/query/Function;" (.ref wSTRING)) (S_CONCAT : Sta Z h0 "com/example/tupletree/tupletree/query/Function" "CONCAT" "Lcom/example/tupletree/tupletree/query/Function;" (.ref wCONCAT)) (S_STARTS_WITH : Sta Z h0 "com/example/tupletree/tupletree/query/Function" "STARTS_WITH" "Lcom/example/tupletree/tupletree/query/Function;" (.ref wSTARTSWITH)) (S_CONTAINS : Sta Z h0 "com/example/tupletree/tupletree/query/Function" "CONTAINS" "Lcom/example/tupletree/tupletree/query/Function;" (.ref wCONTAINS)) (S_SUBSTRING_BEFORE : Sta Z h0 "com/example/tupletree/tupletree/query/Function" "SUBSTRING_BEFORE" "Lcom/example/tupletree/tupletree/query/Function;" (.ref wSUBSTRINGBEFORE)) (S_SUBSTRING_AFTER : Sta Z h0 "com/example/tupletree/tupletree/query/Function" "SUBSTRING_AFTER" "Lcom/example/tupletree/tupletree/query/Function;" (.ref wSUBSTRINGAFTER)) (S_SUBSTRING : Sta Z h0 "com/example/tupletree/tupletree/query/Function" "SUBSTRING" "Lcom/example/tupletree/tupletree/query/Function;" (.ref wSUBSTRING)) (S_STRING_LENGTH : Sta Z h0 "com/example/tupletree/tupletree/query/Function" "STRING_LENGTH" "Lcom/example/tupletree/tupletree/query/Function;" (.ref wSTRINGLENGTH)) (S_NORMALIZE_SPACE : Sta Z h0 "com/example/tupletree/tupletree/query/Function" "NORMALIZE_SPACE" "Lcom/example/tupletree/tupletree/query/Function;" (.ref wNORMALIZESPACE)) (S_TRANSLATE : Sta Z h0 "com/example/tupletree/tupletree/query/Function" "TRANSLATE" "Lcom/example/tupletree/tupletree/query/Function;" (.ref wTRANSLATE)) (S_BOOLEAN : Sta Z h0 "com/example/tupletree/tupletree/query/Function" "BOOLEAN" "Lcom/example/tupletree/tupletree/query/Function;" (.ref wBOOLEAN)) (S_NOT : Sta Z h0 "com/example/tupletree/tupletree/query/Function" "NOT" "Lcom/example/tupletree/tupletree/query/Function;" (.ref wNOT)) (S_TRUE : Sta Z h0 "com/example/tupletree/tupletree/query/Function" "TRUE" "Lcom/example/tupletree/tupletree/query/Function;" (.ref wTRUE)) (S_FALSE : Sta Z h0 "com/example/tupletree/tupletree/query/Function" "FALSE" "Lcom/example/tupletree/tupletree/query/Function;" (.ref wFALSE)) (S_NUMBER : Sta Z h0 "com/example/tupletree/tupletree/query/Function" "NUMBER" "Lcom/example/tupletree/tupletree/query/Function;" (.ref wNUMBER)) (S_SUM : Sta Z h0 "com/example/tupletree/tupletree/query/Function" "SUM" "Lcom/example/tupletree/tupletree/query/Function;" (.ref wSUM)) (S_FLOOR : Sta Z h0 "com/example/tupletree/tupletree/query/Function" "FLOOR" "Lcom/example/tupletree/tupletree/query/Function;" (.ref wFLOOR)) (S_CEILING : Sta Z h0 "com/example/tupletree/tupletree/query/Function" "CEILING" "Lcom/example/tupletree/tupletree/query/Function;" (.ref wCEILING)) (S_ROUND : Sta Z h0 "com/example/tupletree/tupletree/query/Function" "ROUND" "Lcom/example/tupletree/tupletree/query/Function;" (.ref wROUND)) (E_wj : Exa Z h0 wj "com/example/tupletree/tupletree/query/Function") (F_fw : Fld Z h0 wj "com/example/tupletree/tupletree/query/Function" "fewest" "I" (.int (0 : Int32))) (F_mo : Fld Z h0 wj "com/example/tupletree/tupletree/query/Function" "most" "I" (.int (0 : Int32))) (hE : (((p1 &&& (2147483647 : Int32)) % (25 : Int32)) = (3 : Int32) ∧ (0 : Int32) = (1 : Int32)) ∨ (¬ (((p1 &&& (2147483647 : Int32)) % (25 : Int32)) = (3 : Int32)) ∧ ((p1 &&& (2147483647 : Int32)) % (25 : Int32)) = (4 : Int32) ∧ (0 : Int32) = (1 : Int32)) ∨ (¬ (((p1 &&& (2147483647 : Int32)) % (25 : Int32)) = (3 : Int32)) ∧ ¬ (((p1 &&& (2147483647 : Int32)) % (25 : Int32)) = (4 : Int32)) ∧ ((p1 &&& (2147483647 : Int32)) % (25 : Int32)) = (5 : Int32) ∧ (0 : Int32) = (1 : Int32)) ∨ (¬ (((p1 &&& (2147483647 : Int32)) % (25 : Int32)) = (3 : Int32)) ∧ ¬ (((p1 &&& (2147483647 : Int32)) % (25 : Int32)) = (4 : Int32)) ∧ ¬ (((p1 &&& (2147483647 : Int32)) % (25 : Int32)) = (5 : Int32)) ∧ ((p1 &&& (2147483647 : Int32)) % (25 : Int32)) = (6 : Int32) ∧ (0 : Int32) = (1 : Int32)) ∨ (¬ (((p1 &&& (2147483647 : Int32)) % (25 : Int32)) = (3 : Int32)) ∧ ¬ (((p1 &&& (2147483647 : Int32)) % (25 : Int32)) = (4 : Int32)) ∧ ¬ (((p1 &&& (2147483647 : Int32)) % (25 : Int32)) = (5 : Int32)) ∧ ¬ (((p1 &&& (2147483647 : Int32)) % (25 : Int32)) = (6 : Int32)) ∧ ((p1 &&& (2147483647 : Int32)) % (25 : Int32)) = (13 : Int32) ∧ (0 : Int32) = (1 : Int32)) ∨ (¬ (((p1 &&& (2147483647 : Int32)) % (25 : Int32)) = (3 : Int32)) ∧ ¬ (((p1 &&& (2147483647 : Int32)) % (25 : Int32)) = (4 : Int32)) ∧ ¬ (((p1 &&& (2147483647 : Int32)) % (25 : Int32)) = (5 : Int32)) ∧ ¬ (((p1 &&& (2147483647 : Int32)) % (25 : Int32)) = (6 : Int32)) ∧ ¬ (((p1 &&& (2147483647 : Int32)) % (25 : Int32)) = (13 : Int32)) ∧ ((p1 &&& (2147483647 : Int32)) % (25 : Int32)) = (14 : Int32) ∧ (0 : Int32) = (1 : Int32)) ∨ (¬ (((p1 &&& (2147483647 : Int32)) % (25 : Int32)) = (3 : Int32)) ∧ ¬ (((p1 &&& (2147483647 : Int32)) % (25 : Int32)) = (4 : Int32)) ∧ ¬ (((p1 &&& (2147483647 : Int32)) % (25 : Int32)) = (5 : Int32)) ∧ ¬ (((p1 &&& (2147483647 : Int32)) % (25 : Int32)) = (6 : Int32)) ∧ ¬ (((p1 &&& (2147483647 : Int32)) % (25 : Int32)) = (13 : Int32)) ∧ ¬ (((p1 &&& (2147483647 : Int32)) % (25 : Int32)) = (14 : Int32)) ∧ ((p1 &&& (2147483647 : Int32)) % (25 : Int32)) = (20 : Int32) ∧ (0 : Int32) = (1 : Int32)) ∨ (¬ (((p1 &&& (2147483647 : Int32)) % (25 : Int32)) = (3 : Int32)) ∧ ¬ (((p1 &&& (2147483647 : Int32)) % (25 : Int32)) = (4 : Int32)) ∧ ¬ (((p1 &&& (2147483647 : Int32)) % (25 : Int32)) = (5 : Int32)) ∧ ¬ (((p1 &&& (2147483647 : Int32)) % (25 : Int32)) = (6 : Int32)) ∧ ¬ (((p1 &&& (2147483647 : Int32)) % (25 : Int32)) = (13 : Int32)) ∧ ¬ (((p1 &&& (2147483647 : Int32)) % (25 : Int32)) = (14 : Int32)) ∧ ¬ (((p1 &&& (2147483647 : Int32)) % (25 : Int32)) = (20 : Int32)) ∧ (0 : Int32) = (0 : Int32))) (E_wLAST : Exa Z h0 wLAST "com/example/tupletree/tupletree/query/Function") (E_wPOSITION : Exa Z h0 wPOSITION "com/example/tupletree/tupletree/query/Function") (E_wCOUNT : Exa Z h0 wCOUNT "com/example/tupletree/tupletree/query/Function") (E_wLOCALNAME : Exa Z h0 wLOCALNAME "com/example/tupletree/tupletree/query/Function") (E_wNAMESPACEURI : Exa Z h0 wNAMESPACEURI "com/example/tupletree/tupletree/query/Function") (E_wNAME : Exa Z h0 wNAME "com/example/tupletree/tupletree/query/Function") (E_wSTRING : Exa Z h0 wSTRING "com/example/tupletree/tupletree/query/Function") (E_wCONCAT : Exa Z h0 wCONCAT "com/example/tupletree/tupletree/query/Function") (E_wSTARTSWITH : Exa Z h0 wSTARTSWITH "com/example/tupletree/tupletree/query/Function") (E_wCONTAINS : Exa Z h0 wCONTAINS "com/example/tupletree/tupletree/query/Function") (E_wSUBSTRINGBEFORE : Exa Z h0 wSUBSTRINGBEFORE "com/example/tupletree/tupletree/query/Function") (E_wSUBSTRINGAFTER : Exa Z h0 wSUBSTRINGAFTER "com/example/tupletree/tupletree/query/Function") (E_wSUBSTRING : Exa Z h0 wSUBSTRING "com/example/tupletree/tupletree/query/Function") (E_wSTRINGLENGTH : Exa Z h0 wSTRINGLENGTH "com/example/tupletree/tupletree/query/Function") (E_wNORMALIZESPACE : Exa Z h0 wNORMALIZESPACE "com/example/tupletree/tupletree/query/Function") (E_wTRANSLATE : Exa Z h0 wTRANSLATE "com/example/tupletree/tupletree/query/Function") (E_wBOOLEAN : Exa Z h0 wBOOLEAN "com/example/tupletree/tupletree/query/Function") (E_wNOT : Exa Z h0 wNOT "com/example/tupletree/tupletree/query/Function") (E_wTRUE : Exa Z h0 wTRUE "com/example/tupletree/tupletree/query/Function") (E_wFALSE : Exa Z h0 wFALSE "com/example/tupletree/tupletree/query/Function") (E_wNUMBER : Exa Z h0 wNUMBER "com/example/tupletree/tupletree/query/Function") (E_wSUM : Exa Z h0 wSUM "com/example/tupletree/tupletree/query/Function") (E_wFLOOR : Exa Z h0 wFLOOR "com/example/tupletree/tupletree/query/Function") (E_wCEILING : Exa Z h0 wCEILING "com/example/tupletree/tupletree/query/Function") (E_wROUND : Exa Z h0 wROUND "com/example/tupletree/tupletree/query/Function") (hr185 : ¬ ((p1 &&& (2147483647 : Int32)) % (25 : Int32)) < 0 ∧ ((p1 &&& (2147483647 : Int32)) % (25 : Int32)) < (25 : Int32)) (u185 : ([(.ref wLAST), (.ref wPOSITION), (.ref wCOUNT), (.ref wLOCALNAME), (.ref wNAMESPACEURI), (.ref wNAME), (.ref wSTRING), (.ref wCONCAT), (.ref wSTARTSWITH), (.ref wCONTAINS), (.ref wSUBSTRINGBEFORE), (.ref wSUBSTRINGAFTER), (.ref wSUBSTRING), (.ref wSTRINGLENGTH), (.ref wNORMALIZESPACE), (.ref wTRANSLATE), (.ref wBOOLEAN), (.ref wNOT), (.ref wTRUE), (.ref wFALSE), (.ref wNUMBER), (.ref wSUM), (.ref wFLOOR), (.ref wCEILING), (.ref wROUND)] : List Value).getD (((p1 &&& (2147483647 : Int32)) % (25 : Int32))).toNatClampNeg (.null : Value) = (.ref wj)) :
    MetFree l x (head1 (Jvm.Cond.code x code maxLocals ret :: ws) room_1) (fun a U => a = #[(.int p1)] ∧ Z.Warmed39 U.vm ∧ U.heap = h0) (fun _ _ _ _ _ => True) (fun _ U o U' => ∃ v L, o = .returned v ∧ Qlaw0 n0 v U'.heap L ∧ FrameEnd U o U' L room_1.cells room_1.slots) := by
  refine MetFree.of_bodySF (plainFor_of_name pn_0) hisR ?_
  intro p e s m args below meth c s₁ Bd hml0 hP hK
  obtain ⟨rfl, hZ, hh⟩ := hP
  have hx := Bd.exec
  have hby := Bd.bytes
  have hml : c.maxLocals = 7 := hml0
  have hown : s.vm.findClass "com/example/tupletree/tupletree/query/FunctionOfContextPinLaw" = some m.cls := findClass_of_methodNamed Bd.named
  have hnm := (name_of_methodNamed Bd.named Bd.method).1
  have X0 : Stand p l e room_1 s m #[(.int p1)] below meth c s₁ [] 0 0 := Stand.of_body Bd
  have e0 : s₁.heap = h0 := by rw [← hh, Bd.state]; rfl
  have N0 := Fr.nil n0
  have pre0 : ∀ t, Steps p.tables e below (s₁.setTop (mkF m 0 #[.val (.int p1), .unset, .unset, .unset, .unset, .unset, .unset] [])) t → Steps p.tables e below (s₁.setTop (entryFrame m #[(.int p1)] maxLocals)) t := fun t k => castTop (ef_0 m p1) k
  obtain ⟨T2, h2, b2, LL2, X2, e2, K2q, N2q, st2⟩ := tn0_0_187_arr p1 wLAST wPOSITION wCOUNT wLOCALNAME wNAMESPACEURI wNAME wSTRING wCONCAT wSTARTSWITH wCONTAINS wSUBSTRINGBEFORE wSUBSTRINGAFTER wSUBSTRING wSTRINGLENGTH wNORMALIZESPACE wTRANSLATE wBOOLEAN wNOT wTRUE wFALSE wNUMBER wSUM wFLOOR wCEILING wROUND wj n0 X0 hx hZ hw hby hml hown e0 S_LAST S_POSITION S_COUNT S_LOCAL_NAME S_NAMESPACE_URI S_NAME S_STRING S_CONCAT S_STARTS_WITH S_CONTAINS S_SUBSTRING_BEFORE S_SUBSTRING_AFTER S_SUBSTRING S_STRING_LENGTH S_NORMALIZE_SPACE S_TRANSLATE S_BOOLEAN S_NOT S_TRUE S_FALSE S_NUMBER S_SUM S_FLOOR S_CEILING S_ROUND Z0 N0 (by decide) (by decide) E_wLAST E_wPOSITION E_wCOUNT E_wLOCALNAME E_wNAMESPACEURI E_wNAME E_wSTRING E_wCONCAT E_wSTARTSWITH E_wCONTAINS E_wSUBSTRINGBEFORE E_wSUBSTRINGAFTER E_wSUBSTRING E_wSTRINGLENGTH E_wNORMALIZESPACE E_wTRANSLATE E_wBOOLEAN E_wNOT E_wTRUE E_wFALSE E_wNUMBER E_wSUM E_wFLOOR E_wCEILING E_wROUND hr185 u185
  have KK2 : Keep h0 h2 [] := (Keep.refl h0 []).trans K2q all0
  obtain ⟨T3, X3, e3, st3⟩ := own_e (0 : Int32) (.val (.int p1)) (.val (.ref b2)) ((p1 &&& (2147483647 : Int32)) % (25 : Int32)) (.val (.ref wj)) X2 hx hZ hw hby hml hown e2 hE
  obtain ⟨cq4, kq4, q4a, q4b, q4c⟩ := isOf hZ e3 (E_wj.keep K2q)
  obtain ⟨_, _, ⟨T4, L4, k4, n4⟩, -, X4, ⟨Lc4, hQ4, l4, y4, z4⟩, st4⟩ := X3.virtualBack hx (y := (⟨"com/example/tupletree/tupletree/query/Function", "ofContext", "()Z"⟩ : MethodName)) (z := (⟨"com/example/tupletree/tupletree/query/Function", "ofContext", "()Z"⟩ : MethodName)) hown (mvT hZ (hw _ (List.mem_of_getElem? (i := 55) rfl))) (mvT hZ (hw _ (List.mem_of_getElem? (i := 56) rfl))) (notFace_of_selects (args := #[]) (mvT hZ (hw _ (List.mem_of_getElem? (i := 58) rfl)))) (mvT hZ (hw _ (List.mem_of_getElem? (i := 58) rfl))) (mvT hZ (hw _ (List.mem_of_getElem? (i := 57) rfl))) (by decide) (backOf (W := 0) (rm1_ft l Z a0 hw [] wj (0 : Int32) (0 : Int32) h2 n0 (Nat.le_trans Z0 K2q.1) (F_fw.keep K2q nin0) (F_mo.keep K2q nin0) rfl (by decide)) hZ (hw _ (List.mem_of_getElem? (i := 59) rfl)) (hw _ (List.mem_of_getElem? (i := 3) rfl)) (by decide) (by decide)) q4a q4c (g := (mkF m 234 #[.val (.int p1), .val (.ref b2), .val (.int ((p1 &&& (2147483647 : Int32)) % (25 : Int32))), .val (.ref wj), .val (.int (0 : Int32)), .unset, .unset] [(.ref wj)])) rfl (by rw [hml]; rfl) (Steps.refl _) (argsL := []) (rest := []) (lenOf pd_0_0 rfl) rfl (by show 2 * 0 + _ ≤ _; exact Nat.le_of_eq rfl) (hb hby at_234) (fun _ _ => ⟨rfl, e3, (by decide : 1 + 0 ≤ _), (by decide : 25 + 0 ≤ _)⟩)
  dsimp only [Pt.U, Pt.locs, Pt.cells, Pt.slots] at X4 l4 y4 z4 st4 hQ4
  subst l4 y4 z4
  obtain ⟨rfl, N4q, e4q⟩ := hQ4
  have N4 := Fr.app N2q N4q
  obtain ⟨cq5, kq5, q5a, q5b, q5c⟩ := isOf hZ e4q (E_wj.keep K2q)
  obtain ⟨_, _, ⟨T5, L5, k5, n5⟩, -, X5, ⟨Lc5, hQ5, l5, y5, z5⟩, st5⟩ := X4.virtualBack hx (y := (⟨"com/example/tupletree/tupletree/query/Function", "takes", "(I)Z"⟩ : MethodName)) (z := (⟨"com/example/tupletree/tupletree/query/Function", "takes", "(I)Z"⟩ : MethodName)) hown (mvT hZ (hw _ (List.mem_of_getElem? (i := 64) rfl))) (mvT hZ (hw _ (List.mem_of_getElem? (i := 65) rfl))) (notFace_of_selects (args := #[]) (mvT hZ (hw _ (List.mem_of_getElem? (i := 67) rfl)))) (mvT hZ (hw _ (List.mem_of_getElem? (i := 67) rfl))) (mvT hZ (hw _ (List.mem_of_getElem? (i := 66) rfl))) (by decide) (backOf (W := 0) (rm2_ff l Z a0 hw [] wj (0 : Int32) (0 : Int32) (0 : Int32) h2 n0 (Nat.le_trans Z0 K2q.1) (F_fw.keep K2q nin0) (F_mo.keep K2q nin0) (by decide) (by decide)) hZ (hw _ (List.mem_of_getElem? (i := 68) rfl)) (hw _ (List.mem_of_getElem? (i := 3) rfl)) (by decide) (by decide)) q5a q5c (g := (mkF m 241 #[.val (.int p1), .val (.ref b2), .val (.int ((p1 &&& (2147483647 : Int32)) % (25 : Int32))), .val (.ref wj), .val (.int (0 : Int32)), .val (.int (0 : Int32)), .unset] [(.int (0 : Int32)), (.ref wj)])) rfl (by rw [hml]; rfl) (Steps.refl _) (argsL := [(.int (0 : Int32))]) (rest := []) (lenOf pd_0_1 rfl) rfl (by show 2 * 0 + _ ≤ _; exact Nat.le_of_eq rfl) (hb hby at_241) (fun _ _ => ⟨rfl, e4q, (by decide : 1 + 0 ≤ _), (by decide : 25 + 0 ≤ _)⟩)
  dsimp only [Pt.U, Pt.locs, Pt.cells, Pt.slots] at X5 l5 y5 z5 st5 hQ5
  subst l5 y5 z5
  obtain ⟨rfl, N5q, e5q⟩ := hQ5
  have N5 := Fr.app N4 N5q
  obtain ⟨cq6, kq6, q6a, q6b, q6c⟩ := isOf hZ e5q (E_wj.keep K2q)
  obtain ⟨_, _, ⟨T6, L6, k6, n6⟩, -, X6, ⟨Lc6, hQ6, l6, y6, z6⟩, st6⟩ := X5.virtualBack hx (y := (⟨"com/example/tupletree/tupletree/query/Function", "takes", "(I)Z"⟩ : MethodName)) (z := (⟨"com/example/tupletree/tupletree/query/Function", "takes", "(I)Z"⟩ : MethodName)) hown (mvT hZ (hw _ (List.mem_of_getElem? (i := 64) rfl))) (mvT hZ (hw _ (List.mem_of_getElem? (i := 65) rfl))) (notFace_of_selects (args := #[]) (mvT hZ (hw _ (List.mem_of_getElem? (i := 67) rfl)))) (mvT hZ (hw _ (List.mem_of_getElem? (i := 67) rfl))) (mvT hZ (hw _ (List.mem_of_getElem? (i := 66) rfl))) (by decide) (backOf (W := 0) (rm2_ft l Z a0 hw [] wj (1 : Int32) (0 : Int32) (0 : Int32) h2 n0 (Nat.le_trans Z0 K2q.1) (F_fw.keep K2q nin0) (F_mo.keep K2q nin0) (by decide) (by decide)) hZ (hw _ (List.mem_of_getElem? (i := 68) rfl)) (hw _ (List.mem_of_getElem? (i := 3) rfl)) (by decide) (by decide)) q6a q6c (g := (mkF m 249 #[.val (.int p1), .val (.ref b2), .val (.int ((p1 &&& (2147483647 : Int32)) % (25 : Int32))), .val (.ref wj), .val (.int (0 : Int32)), .val (.int (0 : Int32)), .unset] [(.int (1 : Int32)), (.ref wj)])) rfl (by rw [hml]; rfl) (Steps.refl _) (argsL := [(.int (1 : Int32))]) (rest := []) (lenOf pd_0_1 rfl) rfl (by show 2 * 0 + _ ≤ _; exact Nat.le_of_eq rfl) (hb hby at_249) (fun _ _ => ⟨rfl, e5q, (by decide : 1 + 0 ≤ _), (by decide : 25 + 0 ≤ _)⟩)
  dsimp only [Pt.U, Pt.locs, Pt.cells, Pt.slots] at X6 l6 y6 z6 st6 hQ6
  subst l6 y6 z6
  obtain ⟨rfl, N6q, e6q⟩ := hQ6
  have N6 := Fr.app N5 N6q
  obtain ⟨fs, hr, hrun, hended, hW, hsame⟩ := X6.leave (v := some (.int (1 : Int32))) (fun h => by rw [Bd.returns] at h; cases h)
  refine ⟨_, _, pre0 _ ?_, hrun, hended, _, _, rfl, ?_, ⟨_, rfl⟩, hW, hsame.mono (by decide) (by decide)⟩
  · show Steps p.tables e below (s₁.setTop (mkF m 0 #[.val (.int p1), .unset, .unset, .unset, .unset, .unset, .unset] [])) _
    refine st2 _ ?_
    show Steps p.tables e below (T2.setTop (mkF m 187 #[.val (.int p1), .val (.ref b2), .val (.int ((p1 &&& (2147483647 : Int32)) % (25 : Int32))), .val (.ref wj), .unset, .unset, .unset] [])) _
    refine st3 _ ?_
    show Steps p.tables e below (T3.setTop (mkF m 233 #[.val (.int p1), .val (.ref b2), .val (.int ((p1 &&& (2147483647 : Int32)) % (25 : Int32))), .val (.ref wj), .val (.int (0 : Int32)), .unset, .unset] [])) _
    refine XS.aloadN X3.here hx rfl (hb hby at_233) rfl rfl ?_
    show Steps p.tables e below (T3.setTop (mkF m 234 #[.val (.int p1), .val (.ref b2), .val (.int ((p1 &&& (2147483647 : Int32)) % (25 : Int32))), .val (.ref wj), .val (.int (0 : Int32)), .unset, .unset] [(.ref wj)])) _
    refine st4.trans ?_
    show Steps p.tables e below (T4.setTop (mkF m 237 #[.val (.int p1), .val (.ref b2), .val (.int ((p1 &&& (2147483647 : Int32)) % (25 : Int32))), .val (.ref wj), .val (.int (0 : Int32)), .unset, .unset] [(.int (0 : Int32))])) _
    refine XS.istore X4.here hx rfl (hb hby at_237) rfl (l' := #[.val (.int p1), .val (.ref b2), .val (.int ((p1 &&& (2147483647 : Int32)) % (25 : Int32))), .val (.ref wj), .val (.int (0 : Int32)), .val (.int (0 : Int32)), .unset]) rfl ?_
    show Steps p.tables e below (T4.setTop (mkF m 239 #[.val (.int p1), .val (.ref b2), .val (.int ((p1 &&& (2147483647 : Int32)) % (25 : Int32))), .val (.ref wj), .val (.int (0 : Int32)), .val (.int (0 : Int32)), .unset] [])) _
    refine XS.aloadN X4.here hx rfl (hb hby at_239) rfl rfl ?_
    show Steps p.tables e below (T4.setTop (mkF m 240 #[.val (.int p1), .val (.ref b2), .val (.int ((p1 &&& (2147483647 : Int32)) % (25 : Int32))), .val (.ref wj), .val (.int (0 : Int32)), .val (.int (0 : Int32)), .unset] [(.ref wj)])) _
    refine XS.iconst X4.here hx rfl (hb hby at_240) ?_
    show Steps p.tables e below (T4.setTop (mkF m 241 #[.val (.int p1), .val (.ref b2), .val (.int ((p1 &&& (2147483647 : Int32)) % (25 : Int32))), .val (.ref wj), .val (.int (0 : Int32)), .val (.int (0 : Int32)), .unset] [(.int (0 : Int32)), (.ref wj)])) _
    refine st5.trans ?_
    show Steps p.tables e below (T5.setTop (mkF m 244 #[.val (.int p1), .val (.ref b2), .val (.int ((p1 &&& (2147483647 : Int32)) % (25 : Int32))), .val (.ref wj), .val (.int (0 : Int32)), .val (.int (0 : Int32)), .unset] [(.int (1 : Int32))])) _
    refine XS.ifNo X5.here hx rfl (hb hby at_244) rfl ((if0 _ _).trans (feq (by decide : ¬ ((1 : Int32) = (0 : Int32)))).1) ?_
    show Steps p.tables e below (T5.setTop (mkF m 247 #[.val (.int p1), .val (.ref b2), .val (.int ((p1 &&& (2147483647 : Int32)) % (25 : Int32))), .val (.ref wj), .val (.int (0 : Int32)), .val (.int (0 : Int32)), .unset] [])) _
    refine XS.aloadN X5.here hx rfl (hb hby at_247) rfl rfl ?_
    show Steps p.tables e below (T5.setTop (mkF m 248 #[.val (.int p1), .val (.ref b2), .val (.int ((p1 &&& (2147483647 : Int32)) % (25 : Int32))), .val (.ref wj), .val (.int (0 : Int32)), .val (.int (0 : Int32)), .unset] [(.ref wj)])) _
    refine XS.iconst X5.here hx rfl (hb hby at_248) ?_
    show Steps p.tables e below (T5.setTop (mkF m 249 #[.val (.int p1), .val (.ref b2), .val (.int ((p1 &&& (2147483647 : Int32)) % (25 : Int32))), .val (.ref wj), .val (.int (0 : Int32)), .val (.int (0 : Int32)), .unset] [(.int (1 : Int32)), (.ref wj)])) _
    refine st6.trans ?_
    show Steps p.tables e below (T6.setTop (mkF m 252 #[.val (.int p1), .val (.ref b2), .val (.int ((p1 &&& (2147483647 : Int32)) % (25 : Int32))), .val (.ref wj), .val (.int (0 : Int32)), .val (.int (0 : Int32)), .unset] [(.int (0 : Int32))])) _
    refine XS.ifYes X6.here hx rfl (pc0 := 252) (pc' := 267) rfl (hb hby at_252) rfl ((if0 _ _).trans (teq (rfl : (0 : Int32) = (0 : Int32))).1) (by decide) (by decide) ?_
    show Steps p.tables e below (T6.setTop (mkF m 267 #[.val (.int p1), .val (.ref b2), .val (.int ((p1 &&& (2147483647 : Int32)) % (25 : Int32))), .val (.ref wj), .val (.int (0 : Int32)), .val (.int (0 : Int32)), .unset] [])) _
    refine XS.iconst X6.here hx rfl (hb hby at_267) ?_
    show Steps p.tables e below (T6.setTop (mkF m 268 #[.val (.int p1), .val (.ref b2), .val (.int ((p1 &&& (2147483647 : Int32)) % (25 : Int32))), .val (.ref wj), .val (.int (0 : Int32)), .val (.int (0 : Int32)), .unset] [(.int (0 : Int32))])) _
    refine XS.istore X6.here hx rfl (hb hby at_268) rfl (l' := #[.val (.int p1), .val (.ref b2), .val (.int ((p1 &&& (2147483647 : Int32)) % (25 : Int32))), .val (.ref wj), .val (.int (0 : Int32)), .val (.int (0 : Int32)), .val (.int (0 : Int32))]) rfl ?_
    show Steps p.tables e below (T6.setTop (mkF m 270 #[.val (.int p1), .val (.ref b2), .val (.int ((p1 &&& (2147483647 : Int32)) % (25 : Int32))), .val (.ref wj), .val (.int (0 : Int32)), .val (.int (0 : Int32)), .val (.int (0 : Int32))] [])) _
    refine XS.iload X6.here hx rfl (hb hby at_270) rfl ?_
    show Steps p.tables e below (T6.setTop (mkF m 272 #[.val (.int p1), .val (.ref b2), .val (.int ((p1 &&& (2147483647 : Int32)) % (25 : Int32))), .val (.ref wj), .val (.int (0 : Int32)), .val (.int (0 : Int32)), .val (.int (0 : Int32))] [(.int (0 : Int32))])) _
    refine XS.iload X6.here hx rfl (hb hby at_272) rfl ?_
    show Steps p.tables e below (T6.setTop (mkF m 274 #[.val (.int p1), .val (.ref b2), .val (.int ((p1 &&& (2147483647 : Int32)) % (25 : Int32))), .val (.ref wj), .val (.int (0 : Int32)), .val (.int (0 : Int32)), .val (.int (0 : Int32))] [(.int (0 : Int32)), (.int (0 : Int32))])) _
    refine XS.icmpNo X6.here hx rfl (hb hby at_274) rfl (teq (rfl : (0 : Int32) = (0 : Int32))).2 ?_
    show Steps p.tables e below (T6.setTop (mkF m 277 #[.val (.int p1), .val (.ref b2), .val (.int ((p1 &&& (2147483647 : Int32)) % (25 : Int32))), .val (.ref wj), .val (.int (0 : Int32)), .val (.int (0 : Int32)), .val (.int (0 : Int32))] [])) _
    refine XS.iload X6.here hx rfl (hb hby at_277) rfl ?_
    show Steps p.tables e below (T6.setTop (mkF m 279 #[.val (.int p1), .val (.ref b2), .val (.int ((p1 &&& (2147483647 : Int32)) % (25 : Int32))), .val (.ref wj), .val (.int (0 : Int32)), .val (.int (0 : Int32)), .val (.int (0 : Int32))] [(.int (0 : Int32))])) _
    refine XS.iload X6.here hx rfl (hb hby at_279) rfl ?_
    show Steps p.tables e below (T6.setTop (mkF m 281 #[.val (.int p1), .val (.ref b2), .val (.int ((p1 &&& (2147483647 : Int32)) % (25 : Int32))), .val (.ref wj), .val (.int (0 : Int32)), .val (.int (0 : Int32)), .val (.int (0 : Int32))] [(.int (0 : Int32)), (.int (0 : Int32))])) _
    refine XS.icmpNo X6.here hx rfl (hb hby at_281) rfl (teq (rfl : (0 : Int32) = (0 : Int32))).2 ?_
    show Steps p.tables e below (T6.setTop (mkF m 284 #[.val (.int p1), .val (.ref b2), .val (.int ((p1 &&& (2147483647 : Int32)) % (25 : Int32))), .val (.ref wj), .val (.int (0 : Int32)), .val (.int (0 : Int32)), .val (.int (0 : Int32))] [])) _
    refine XS.iconst X6.here hx rfl (hb hby at_284) ?_
    show Steps p.tables e below (T6.setTop (mkF m 285 #[.val (.int p1), .val (.ref b2), .val (.int ((p1 &&& (2147483647 : Int32)) % (25 : Int32))), .val (.ref wj), .val (.int (0 : Int32)), .val (.int (0 : Int32)), .val (.int (0 : Int32))] [(.int (1 : Int32))])) _
    refine XS.goto X6.here hx rfl (pc0 := 285) (pc' := 289) rfl (hb hby at_285) (by decide) (by decide) ?_
    show Steps p.tables e below (T6.setTop (mkF m 289 #[.val (.int p1), .val (.ref b2), .val (.int ((p1 &&& (2147483647 : Int32)) % (25 : Int32))), .val (.ref wj), .val (.int (0 : Int32)), .val (.int (0 : Int32)), .val (.int (0 : Int32))] [(.int (1 : Int32))])) _
    exact retN X6 hx (t := .boolean) Bd.returns (by simp) (hb hby at_289) hr
  · show Qlaw0 n0 _ T6.heap _
    rw [e6q]
    exact ⟨rfl, N6⟩
set_option maxRecDepth 65536 in
set_option maxHeartbeats 40000000 in
theorem rm0_C (l : Launch) (Z : State) (a0 : Array Value) (hw : ∀ d ∈ tables_1, d.before a0 Z = true) (ws : List Jvm.Cond) (p1 : Int32) (wLAST : Addr) (wPOSITION : Addr) (wCOUNT : Addr) (wLOCALNAME : Addr) (wNAMESPACEURI : Addr) (wNAME : Addr) (wSTRING : Addr) (wCONCAT : Addr) (wSTARTSWITH : Addr) (wCONTAINS : Addr) (wSUBSTRINGBEFORE : Addr) (wSUBSTRINGAFTER : Addr) (wSUBSTRING : Addr) (wSTRINGLENGTH : Addr) (wNORMALIZESPACE : Addr) (wTRANSLATE : Addr) (wBOOLEAN : Addr) (wNOT : Addr) (wTRUE : Addr) (wFALSE : Addr) (wNUMBER : Addr) (wSUM : Addr) (wFLOOR : Addr) (wCEILING : Addr) (wROUND : Addr) (wj : Addr) (fw mo : Int32) (h0 : Heap) (n0 : Nat) (Z0 : n0 ≤ h0.size) (S_LAST : Sta Z h0 "com/example/tupletree/tupletree/query/Function" "LAST" "Lcom/example/tupletree/tupletree/query/Function;" (.ref wLAST)) (S_POSITION : Sta Z h0 "com/example/tupletree/tupletree/query/Function" "POSITION" "Lcom/example/tupletree/tupletree/query/Function;" (.ref wPOSITION)) (S_COUNT : Sta Z h0 "com/example/tupletree/tupletree/query/Function" "COUNT" "Lcom/example/tupletree/tupletree/query/Function;" (.ref wCOUNT)) (S_LOCAL_NAME : Sta Z h0 "com/example/tupletree/tupletree/query/Function" "LOCAL_NAME" "Lcom/example/tupletree/tupletree/query/Function;" (.ref wLOCALNAME)) (S_NAMESPACE_URI : Sta Z h0 "com/example/tupletree/tupletree/query/Function" "NAMESPACE_URI" "Lcom/example/tupletree/tupletree/query/Function;" (.ref wNAMESPACEURI)) (S_NAME : Sta Z h0 "com/example/tupletree/tupletree/query/Function" "NAME" "Lcom/example/tupletree/tupletree/query/Function;" (.ref wNAME)) (S_STRING : Sta Z h0 "com/example/tupletree/tupletree/query/Function" "STRING" "Lcom/example/tupletree/tupletree/query/Function;" (.ref wSTRING)) (S_CONCAT : Sta Z h0 "com/example/tupletree/tupletree/query/Function" "CONCAT" "Lcom/example/tupletree/tupletree/query/Function;" (.ref wCONCAT)) (S_STARTS_WITH : Sta Z h0 "com/example/tupletree/tupletree/query/Function" "STARTS_WITH" "Lcom/example/tupletree/tupletree/query/Function;" (.ref wSTARTSWITH)) (S_CONTAINS : Sta Z h0 "com/example/tupletree/tupletree/query/Function" "CONTAINS" "Lcom/example/tupletree/tupletree/query/Function;" (.ref wCONTAINS)) (S_SUBSTRING_BEFORE : Sta Z h0 "com/example/tupletree/tupletree/query/Function" "SUBSTRING_BEFORE" "Lcom/example/tupletree/tupletree/query/Function;" (.ref wSUBSTRINGBEFORE)) (S_SUBSTRING_AFTER : Sta Z h0 "com/example/tupletree/tupletree/query/Function" "SUBSTRING_AFTER" "Lcom/example/tupletree/tupletree/query/Function;" (.ref wSUBSTRINGAFTER)) (S_SUBSTRING : Sta Z h0 "com/example/tupletree/tupletree/query/Function" "SUBSTRING" "Lcom/example/tupletree/tupletree/query/Function;" (.ref wSUBSTRING)) (S_STRING_LENGTH : Sta Z h0 "com/example/tupletree/tupletree/query/Function" "STRING_LENGTH" "Lcom/example/tupletree/tupletree/query/Function;" (.ref wSTRINGLENGTH)) (S_NORMALIZE_SPACE : Sta Z h0 "com/example/tupletree/tupletree/query/Function" "NORMALIZE_SPACE" "Lcom/example/tupletree/tupletree/query/Function;" (.ref wNORMALIZESPACE)) (S_TRANSLATE : Sta Z h0 "com/example/tupletree/tupletree/query/Function" "TRANSLATE" "Lcom/example/tupletree/tupletree/query/Function;" (.ref wTRANSLATE)) (S_BOOLEAN : Sta Z h0 "com/example/tupletree/tupletree/query/Function" "BOOLEAN" "Lcom/example/tupletree/tupletree/query/Function;" (.ref wBOOLEAN)) (S_NOT : Sta Z h0 "com/example/tupletree/tupletree/query/Function" "NOT" "Lcom/example/tupletree/tupletree/query/Function;" (.ref wNOT)) (S_TRUE : Sta Z h0 "com/example/tupletree/tupletree/query/Function" "TRUE" "Lcom/example/tupletree/tupletree/query/Function;" (.ref wTRUE)) (S_FALSE : Sta Z h0 "com/example/tupletree/tupletree/query/Function" "FALSE" "Lcom/example/tupletree/tupletree/query/Function;" (.ref wFALSE)) (S_NUMBER : Sta Z h0 "com/example/tupletree/tupletree/query/Function" "NUMBER" "Lcom/example/tupletree/tupletree/query/Function;" (.ref wNUMBER)) (S_SUM : Sta Z h0 "com/example/tupletree/tupletree/query/Function" "SUM" "Lcom/example/tupletree/tupletree/query/Function;" (.ref wSUM)) (S_FLOOR : Sta Z h0 "com/example/tupletree/tupletree/query/Function" "FLOOR" "Lcom/example/tupletree/tupletree/query/Function;" (.ref wFLOOR)) (S_CEILING : Sta Z h0 "com/example/tupletree/tupletree/query/Function" "CEILING" "Lcom/example/tupletree/tupletree/query/Function;" (.ref wCEILING)) (S_ROUND : Sta Z h0 "com/example/tupletree/tupletree/query/Function" "ROUND" "Lcom/example/tupletree/tupletree/query/Function;" (.ref wROUND)) (E_wj : Exa Z h0 wj "com/example/tupletree/tupletree/query/Function") (F_fw : Fld Z h0 wj "com/example/tupletree/tupletree/query/Function" "fewest" "I" (.int fw)) (F_mo : Fld Z h0 wj "com/example/tupletree/tupletree/query/Function" "most" "I" (.int mo)) (hE : (((p1 &&& (2147483647 : Int32)) % (25 : Int32)) = (3 : Int32) ∧ (0 : Int32) = (1 : Int32)) ∨ (¬ (((p1 &&& (2147483647 : Int32)) % (25 : Int32)) = (3 : Int32)) ∧ ((p1 &&& (2147483647 : Int32)) % (25 : Int32)) = (4 : Int32) ∧ (0 : Int32) = (1 : Int32)) ∨ (¬ (((p1 &&& (2147483647 : Int32)) % (25 : Int32)) = (3 : Int32)) ∧ ¬ (((p1 &&& (2147483647 : Int32)) % (25 : Int32)) = (4 : Int32)) ∧ ((p1 &&& (2147483647 : Int32)) % (25 : Int32)) = (5 : Int32) ∧ (0 : Int32) = (1 : Int32)) ∨ (¬ (((p1 &&& (2147483647 : Int32)) % (25 : Int32)) = (3 : Int32)) ∧ ¬ (((p1 &&& (2147483647 : Int32)) % (25 : Int32)) = (4 : Int32)) ∧ ¬ (((p1 &&& (2147483647 : Int32)) % (25 : Int32)) = (5 : Int32)) ∧ ((p1 &&& (2147483647 : Int32)) % (25 : Int32)) = (6 : Int32) ∧ (0 : Int32) = (1 : Int32)) ∨ (¬ (((p1 &&& (2147483647 : Int32)) % (25 : Int32)) = (3 : Int32)) ∧ ¬ (((p1 &&& (2147483647 : Int32)) % (25 : Int32)) = (4 : Int32)) ∧ ¬ (((p1 &&& (2147483647 : Int32)) % (25 : Int32)) = (5 : Int32)) ∧ ¬ (((p1 &&& (2147483647 : Int32)) % (25 : Int32)) = (6 : Int32)) ∧ ((p1 &&& (2147483647 : Int32)) % (25 : Int32)) = (13 : Int32) ∧ (0 : Int32) = (1 : Int32)) ∨ (¬ (((p1 &&& (2147483647 : Int32)) % (25 : Int32)) = (3 : Int32)) ∧ ¬ (((p1 &&& (2147483647 : Int32)) % (25 : Int32)) = (4 : Int32)) ∧ ¬ (((p1 &&& (2147483647 : Int32)) % (25 : Int32)) = (5 : Int32)) ∧ ¬ (((p1 &&& (2147483647 : Int32)) % (25 : Int32)) = (6 : Int32)) ∧ ¬ (((p1 &&& (2147483647 : Int32)) % (25 : Int32)) = (13 : Int32)) ∧ ((p1 &&& (2147483647 : Int32)) % (25 : Int32)) = (14 : Int32) ∧ (0 : Int32) = (1 : Int32)) ∨ (¬ (((p1 &&& (2147483647 : Int32)) % (25 : Int32)) = (3 : Int32)) ∧ ¬ (((p1 &&& (2147483647 : Int32)) % (25 : Int32)) = (4 : Int32)) ∧ ¬ (((p1 &&& (2147483647 : Int32)) % (25 : Int32)) = (5 : Int32)) ∧ ¬ (((p1 &&& (2147483647 : Int32)) % (25 : Int32)) = (6 : Int32)) ∧ ¬ (((p1 &&& (2147483647 : Int32)) % (25 : Int32)) = (13 : Int32)) ∧ ¬ (((p1 &&& (2147483647 : Int32)) % (25 : Int32)) = (14 : Int32)) ∧ ((p1 &&& (2147483647 : Int32)) % (25 : Int32)) = (20 : Int32) ∧ (0 : Int32) = (1 : Int32)) ∨ (¬ (((p1 &&& (2147483647 : Int32)) % (25 : Int32)) = (3 : Int32)) ∧ ¬ (((p1 &&& (2147483647 : Int32)) % (25 : Int32)) = (4 : Int32)) ∧ ¬ (((p1 &&& (2147483647 : Int32)) % (25 : Int32)) = (5 : Int32)) ∧ ¬ (((p1 &&& (2147483647 : Int32)) % (25 : Int32)) = (6 : Int32)) ∧ ¬ (((p1 &&& (2147483647 : Int32)) % (25 : Int32)) = (13 : Int32)) ∧ ¬ (((p1 &&& (2147483647 : Int32)) % (25 : Int32)) = (14 : Int32)) ∧ ¬ (((p1 &&& (2147483647 : Int32)) % (25 : Int32)) = (20 : Int32)) ∧ (0 : Int32) = (0 : Int32))) (hf0 : ¬ (fw = (0 : Int32))) (hf1 : (0 : Int32) < fw) (E_wLAST : Exa Z h0 wLAST "com/example/tupletree/tupletree/query/Function") (E_wPOSITION : Exa Z h0 wPOSITION "com/example/tupletree/tupletree/query/Function") (E_wCOUNT : Exa Z h0 wCOUNT "com/example/tupletree/tupletree/query/Function") (E_wLOCALNAME : Exa Z h0 wLOCALNAME "com/example/tupletree/tupletree/query/Function") (E_wNAMESPACEURI : Exa Z h0 wNAMESPACEURI "com/example/tupletree/tupletree/query/Function") (E_wNAME : Exa Z h0 wNAME "com/example/tupletree/tupletree/query/Function") (E_wSTRING : Exa Z h0 wSTRING "com/example/tupletree/tupletree/query/Function") (E_wCONCAT : Exa Z h0 wCONCAT "com/example/tupletree/tupletree/query/Function") (E_wSTARTSWITH : Exa Z h0 wSTARTSWITH "com/example/tupletree/tupletree/query/Function") (E_wCONTAINS : Exa Z h0 wCONTAINS "com/example/tupletree/tupletree/query/Function") (E_wSUBSTRINGBEFORE : Exa Z h0 wSUBSTRINGBEFORE "com/example/tupletree/tupletree/query/Function") (E_wSUBSTRINGAFTER : Exa Z h0 wSUBSTRINGAFTER "com/example/tupletree/tupletree/query/Function") (E_wSUBSTRING : Exa Z h0 wSUBSTRING "com/example/tupletree/tupletree/query/Function") (E_wSTRINGLENGTH : Exa Z h0 wSTRINGLENGTH "com/example/tupletree/tupletree/query/Function") (E_wNORMALIZESPACE : Exa Z h0 wNORMALIZESPACE "com/example/tupletree/tupletree/query/Function") (E_wTRANSLATE : Exa Z h0 wTRANSLATE "com/example/tupletree/tupletree/query/Function") (E_wBOOLEAN : Exa Z h0 wBOOLEAN "com/example/tupletree/tupletree/query/Function") (E_wNOT : Exa Z h0 wNOT "com/example/tupletree/tupletree/query/Function") (E_wTRUE : Exa Z h0 wTRUE "com/example/tupletree/tupletree/query/Function") (E_wFALSE : Exa Z h0 wFALSE "com/example/tupletree/tupletree/query/Function") (E_wNUMBER : Exa Z h0 wNUMBER "com/example/tupletree/tupletree/query/Function") (E_wSUM : Exa Z h0 wSUM "com/example/tupletree/tupletree/query/Function") (E_wFLOOR : Exa Z h0 wFLOOR "com/example/tupletree/tupletree/query/Function") (E_wCEILING : Exa Z h0 wCEILING "com/example/tupletree/tupletree/query/Function") (E_wROUND : Exa Z h0 wROUND "com/example/tupletree/tupletree/query/Function") (hr185 : ¬ ((p1 &&& (2147483647 : Int32)) % (25 : Int32)) < 0 ∧ ((p1 &&& (2147483647 : Int32)) % (25 : Int32)) < (25 : Int32)) (u185 : ([(.ref wLAST), (.ref wPOSITION), (.ref wCOUNT), (.ref wLOCALNAME), (.ref wNAMESPACEURI), (.ref wNAME), (.ref wSTRING), (.ref wCONCAT), (.ref wSTARTSWITH), (.ref wCONTAINS), (.ref wSUBSTRINGBEFORE), (.ref wSUBSTRINGAFTER), (.ref wSUBSTRING), (.ref wSTRINGLENGTH), (.ref wNORMALIZESPACE), (.ref wTRANSLATE), (.ref wBOOLEAN), (.ref wNOT), (.ref wTRUE), (.ref wFALSE), (.ref wNUMBER), (.ref wSUM), (.ref wFLOOR), (.ref wCEILING), (.ref wROUND)] : List Value).getD (((p1 &&& (2147483647 : Int32)) % (25 : Int32))).toNatClampNeg (.null : Value) = (.ref wj)) :
    MetFree l x (head1 (Jvm.Cond.code x code maxLocals ret :: ws) room_1) (fun a U => a = #[(.int p1)] ∧ Z.Warmed39 U.vm ∧ U.heap = h0) (fun _ _ _ _ _ => True) (fun _ U o U' => ∃ v L, o = .returned v ∧ Qlaw0 n0 v U'.heap L ∧ FrameEnd U o U' L room_1.cells room_1.slots) := by
  refine MetFree.of_bodySF (plainFor_of_name pn_0) hisR ?_
  intro p e s m args below meth c s₁ Bd hml0 hP hK
  obtain ⟨rfl, hZ, hh⟩ := hP
  have hx := Bd.exec
  have hby := Bd.bytes
  have hml : c.maxLocals = 7 := hml0
  have hown : s.vm.findClass "com/example/tupletree/tupletree/query/FunctionOfContextPinLaw" = some m.cls := findClass_of_methodNamed Bd.named
  have hnm := (name_of_methodNamed Bd.named Bd.method).1
  have X0 : Stand p l e room_1 s m #[(.int p1)] below meth c s₁ [] 0 0 := Stand.of_body Bd
  have e0 : s₁.heap = h0 := by rw [← hh, Bd.state]; rfl
  have N0 := Fr.nil n0
  have pre0 : ∀ t, Steps p.tables e below (s₁.setTop (mkF m 0 #[.val (.int p1), .unset, .unset, .unset, .unset, .unset, .unset] [])) t → Steps p.tables e below (s₁.setTop (entryFrame m #[(.int p1)] maxLocals)) t := fun t k => castTop (ef_0 m p1) k
  obtain ⟨T2, h2, b2, LL2, X2, e2, K2q, N2q, st2⟩ := tn0_0_187_arr p1 wLAST wPOSITION wCOUNT wLOCALNAME wNAMESPACEURI wNAME wSTRING wCONCAT wSTARTSWITH wCONTAINS wSUBSTRINGBEFORE wSUBSTRINGAFTER wSUBSTRING wSTRINGLENGTH wNORMALIZESPACE wTRANSLATE wBOOLEAN wNOT wTRUE wFALSE wNUMBER wSUM wFLOOR wCEILING wROUND wj n0 X0 hx hZ hw hby hml hown e0 S_LAST S_POSITION S_COUNT S_LOCAL_NAME S_NAMESPACE_URI S_NAME S_STRING S_CONCAT S_STARTS_WITH S_CONTAINS S_SUBSTRING_BEFORE S_SUBSTRING_AFTER S_SUBSTRING S_STRING_LENGTH S_NORMALIZE_SPACE S_TRANSLATE S_BOOLEAN S_NOT S_TRUE S_FALSE S_NUMBER S_SUM S_FLOOR S_CEILING S_ROUND Z0 N0 (by decide) (by decide) E_wLAST E_wPOSITION E_wCOUNT E_wLOCALNAME E_wNAMESPACEURI E_wNAME E_wSTRING E_wCONCAT E_wSTARTSWITH E_wCONTAINS E_wSUBSTRINGBEFORE E_wSUBSTRINGAFTER E_wSUBSTRING E_wSTRINGLENGTH E_wNORMALIZESPACE E_wTRANSLATE E_wBOOLEAN E_wNOT E_wTRUE E_wFALSE E_wNUMBER E_wSUM E_wFLOOR E_wCEILING E_wROUND hr185 u185
  have KK2 : Keep h0 h2 [] := (Keep.refl h0 []).trans K2q all0
  obtain ⟨T3, X3, e3, st3⟩ := own_e (0 : Int32) (.val (.int p1)) (.val (.ref b2)) ((p1 &&& (2147483647 : Int32)) % (25 : Int32)) (.val (.ref wj)) X2 hx hZ hw hby hml hown e2 hE
  obtain ⟨cq4, kq4, q4a, q4b, q4c⟩ := isOf hZ e3 (E_wj.keep K2q)
  obtain ⟨_, _, ⟨T4, L4, k4, n4⟩, -, X4, ⟨Lc4, hQ4, l4, y4, z4⟩, st4⟩ := X3.virtualBack hx (y := (⟨"com/example/tupletree/tupletree/query/Function", "ofContext", "()Z"⟩ : MethodName)) (z := (⟨"com/example/tupletree/tupletree/query/Function", "ofContext", "()Z"⟩ : MethodName)) hown (mvT hZ (hw _ (List.mem_of_getElem? (i := 55) rfl))) (mvT hZ (hw _ (List.mem_of_getElem? (i := 56) rfl))) (notFace_of_selects (args := #[]) (mvT hZ (hw _ (List.mem_of_getElem? (i := 58) rfl)))) (mvT hZ (hw _ (List.mem_of_getElem? (i := 58) rfl))) (mvT hZ (hw _ (List.mem_of_getElem? (i := 57) rfl))) (by decide) (backOf (W := 0) (rm1_t l Z a0 hw [] wj fw h2 n0 (Nat.le_trans Z0 K2q.1) (F_fw.keep K2q nin0) hf0) hZ (hw _ (List.mem_of_getElem? (i := 59) rfl)) (hw _ (List.mem_of_getElem? (i := 3) rfl)) (by decide) (by decide)) q4a q4c (g := (mkF m 234 #[.val (.int p1), .val (.ref b2), .val (.int ((p1 &&& (2147483647 : Int32)) % (25 : Int32))), .val (.ref wj), .val (.int (0 : Int32)), .unset, .unset] [(.ref wj)])) rfl (by rw [hml]; rfl) (Steps.refl _) (argsL := []) (rest := []) (lenOf pd_0_0 rfl) rfl (by show 2 * 0 + _ ≤ _; exact Nat.le_of_eq rfl) (hb hby at_234) (fun _ _ => ⟨rfl, e3, (by decide : 1 + 0 ≤ _), (by decide : 25 + 0 ≤ _)⟩)
  dsimp only [Pt.U, Pt.locs, Pt.cells, Pt.slots] at X4 l4 y4 z4 st4 hQ4
  subst l4 y4 z4
  obtain ⟨rfl, N4q, e4q⟩ := hQ4
  have N4 := Fr.app N2q N4q
  obtain ⟨cq5, kq5, q5a, q5b, q5c⟩ := isOf hZ e4q (E_wj.keep K2q)
  obtain ⟨_, _, ⟨T5, L5, k5, n5⟩, -, X5, ⟨Lc5, hQ5, l5, y5, z5⟩, st5⟩ := X4.virtualBack hx (y := (⟨"com/example/tupletree/tupletree/query/Function", "takes", "(I)Z"⟩ : MethodName)) (z := (⟨"com/example/tupletree/tupletree/query/Function", "takes", "(I)Z"⟩ : MethodName)) hown (mvT hZ (hw _ (List.mem_of_getElem? (i := 64) rfl))) (mvT hZ (hw _ (List.mem_of_getElem? (i := 65) rfl))) (notFace_of_selects (args := #[]) (mvT hZ (hw _ (List.mem_of_getElem? (i := 67) rfl)))) (mvT hZ (hw _ (List.mem_of_getElem? (i := 67) rfl))) (mvT hZ (hw _ (List.mem_of_getElem? (i := 66) rfl))) (by decide) (backOf (W := 0) (rm2_t l Z a0 hw [] wj (0 : Int32) fw h2 n0 (Nat.le_trans Z0 K2q.1) (F_fw.keep K2q nin0) hf1) hZ (hw _ (List.mem_of_getElem? (i := 68) rfl)) (hw _ (List.mem_of_getElem? (i := 3) rfl)) (by decide) (by decide)) q5a q5c (g := (mkF m 241 #[.val (.int p1), .val (.ref b2), .val (.int ((p1 &&& (2147483647 : Int32)) % (25 : Int32))), .val (.ref wj), .val (.int (0 : Int32)), .val (.int (0 : Int32)), .unset] [(.int (0 : Int32)), (.ref wj)])) rfl (by rw [hml]; rfl) (Steps.refl _) (argsL := [(.int (0 : Int32))]) (rest := []) (lenOf pd_0_1 rfl) rfl (by show 2 * 0 + _ ≤ _; exact Nat.le_of_eq rfl) (hb hby at_241) (fun _ _ => ⟨rfl, e4q, (by decide : 1 + 0 ≤ _), (by decide : 25 + 0 ≤ _)⟩)
  dsimp only [Pt.U, Pt.locs, Pt.cells, Pt.slots] at X5 l5 y5 z5 st5 hQ5
  subst l5 y5 z5
  obtain ⟨rfl, N5q, e5q⟩ := hQ5
  have N5 := Fr.app N4 N5q
  obtain ⟨fs, hr, hrun, hended, hW, hsame⟩ := X5.leave (v := some (.int (1 : Int32))) (fun h => by rw [Bd.returns] at h; cases h)
  refine ⟨_, _, pre0 _ ?_, hrun, hended, _, _, rfl, ?_, ⟨_, rfl⟩, hW, hsame.mono (by decide) (by decide)⟩
  · show Steps p.tables e below (s₁.setTop (mkF m 0 #[.val (.int p1), .unset, .unset, .unset, .unset, .unset, .unset] [])) _
    refine st2 _ ?_
    show Steps p.tables e below (T2.setTop (mkF m 187 #[.val (.int p1), .val (.ref b2), .val (.int ((p1 &&& (2147483647 : Int32)) % (25 : Int32))), .val (.ref wj), .unset, .unset, .unset] [])) _
    refine st3 _ ?_
    show Steps p.tables e below (T3.setTop (mkF m 233 #[.val (.int p1), .val (.ref b2), .val (.int ((p1 &&& (2147483647 : Int32)) % (25 : Int32))), .val (.ref wj), .val (.int (0 : Int32)), .unset, .unset] [])) _
    refine XS.aloadN X3.here hx rfl (hb hby at_233) rfl rfl ?_
    show Steps p.tables e below (T3.setTop (mkF m 234 #[.val (.int p1), .val (.ref b2), .val (.int ((p1 &&& (2147483647 : Int32)) % (25 : Int32))), .val (.ref wj), .val (.int (0 : Int32)), .unset, .unset] [(.ref wj)])) _
    refine st4.trans ?_
    show Steps p.tables e below (T4.setTop (mkF m 237 #[.val (.int p1), .val (.ref b2), .val (.int ((p1 &&& (2147483647 : Int32)) % (25 : Int32))), .val (.ref wj), .val (.int (0 : Int32)), .unset, .unset] [(.int (0 : Int32))])) _
    refine XS.istore X4.here hx rfl (hb hby at_237) rfl (l' := #[.val (.int p1), .val (.ref b2), .val (.int ((p1 &&& (2147483647 : Int32)) % (25 : Int32))), .val (.ref wj), .val (.int (0 : Int32)), .val (.int (0 : Int32)), .unset]) rfl ?_
    show Steps p.tables e below (T4.setTop (mkF m 239 #[.val (.int p1), .val (.ref b2), .val (.int ((p1 &&& (2147483647 : Int32)) % (25 : Int32))), .val (.ref wj), .val (.int (0 : Int32)), .val (.int (0 : Int32)), .unset] [])) _
    refine XS.aloadN X4.here hx rfl (hb hby at_239) rfl rfl ?_
    show Steps p.tables e below (T4.setTop (mkF m 240 #[.val (.int p1), .val (.ref b2), .val (.int ((p1 &&& (2147483647 : Int32)) % (25 : Int32))), .val (.ref wj), .val (.int (0 : Int32)), .val (.int (0 : Int32)), .unset] [(.ref wj)])) _
    refine XS.iconst X4.here hx rfl (hb hby at_240) ?_
    show Steps p.tables e below (T4.setTop (mkF m 241 #[.val (.int p1), .val (.ref b2), .val (.int ((p1 &&& (2147483647 : Int32)) % (25 : Int32))), .val (.ref wj), .val (.int (0 : Int32)), .val (.int (0 : Int32)), .unset] [(.int (0 : Int32)), (.ref wj)])) _
    refine st5.trans ?_
    show Steps p.tables e below (T5.setTop (mkF m 244 #[.val (.int p1), .val (.ref b2), .val (.int ((p1 &&& (2147483647 : Int32)) % (25 : Int32))), .val (.ref wj), .val (.int (0 : Int32)), .val (.int (0 : Int32)), .unset] [(.int (0 : Int32))])) _
    refine XS.ifYes X5.here hx rfl (pc0 := 244) (pc' := 267) rfl (hb hby at_244) rfl ((if0 _ _).trans (teq (rfl : (0 : Int32) = (0 : Int32))).1) (by decide) (by decide) ?_
    show Steps p.tables e below (T5.setTop (mkF m 267 #[.val (.int p1), .val (.ref b2), .val (.int ((p1 &&& (2147483647 : Int32)) % (25 : Int32))), .val (.ref wj), .val (.int (0 : Int32)), .val (.int (0 : Int32)), .unset] [])) _
    refine XS.iconst X5.here hx rfl (hb hby at_267) ?_
    show Steps p.tables e below (T5.setTop (mkF m 268 #[.val (.int p1), .val (.ref b2), .val (.int ((p1 &&& (2147483647 : Int32)) % (25 : Int32))), .val (.ref wj), .val (.int (0 : Int32)), .val (.int (0 : Int32)), .unset] [(.int (0 : Int32))])) _
    refine XS.istore X5.here hx rfl (hb hby at_268) rfl (l' := #[.val (.int p1), .val (.ref b2), .val (.int ((p1 &&& (2147483647 : Int32)) % (25 : Int32))), .val (.ref wj), .val (.int (0 : Int32)), .val (.int (0 : Int32)), .val (.int (0 : Int32))]) rfl ?_
    show Steps p.tables e below (T5.setTop (mkF m 270 #[.val (.int p1), .val (.ref b2), .val (.int ((p1 &&& (2147483647 : Int32)) % (25 : Int32))), .val (.ref wj), .val (.int (0 : Int32)), .val (.int (0 : Int32)), .val (.int (0 : Int32))] [])) _
    refine XS.iload X5.here hx rfl (hb hby at_270) rfl ?_
    show Steps p.tables e below (T5.setTop (mkF m 272 #[.val (.int p1), .val (.ref b2), .val (.int ((p1 &&& (2147483647 : Int32)) % (25 : Int32))), .val (.ref wj), .val (.int (0 : Int32)), .val (.int (0 : Int32)), .val (.int (0 : Int32))] [(.int (0 : Int32))])) _
    refine XS.iload X5.here hx rfl (hb hby at_272) rfl ?_
    show Steps p.tables e below (T5.setTop (mkF m 274 #[.val (.int p1), .val (.ref b2), .val (.int ((p1 &&& (2147483647 : Int32)) % (25 : Int32))), .val (.ref wj), .val (.int (0 : Int32)), .val (.int (0 : Int32)), .val (.int (0 : Int32))] [(.int (0 : Int32)), (.int (0 : Int32))])) _
    refine XS.icmpNo X5.here hx rfl (hb hby at_274) rfl (teq (rfl : (0 : Int32) = (0 : Int32))).2 ?_
    show Steps p.tables e below (T5.setTop (mkF m 277 #[.val (.int p1), .val (.ref b2), .val (.int ((p1 &&& (2147483647 : Int32)) % (25 : Int32))), .val (.ref wj), .val (.int (0 : Int32)), .val (.int (0 : Int32)), .val (.int (0 : Int32))] [])) _
    refine XS.iload X5.here hx rfl (hb hby at_277) rfl ?_
    show Steps p.tables e below (T5.setTop (mkF m 279 #[.val (.int p1), .val (.ref b2), .val (.int ((p1 &&& (2147483647 : Int32)) % (25 : Int32))), .val (.ref wj), .val (.int (0 : Int32)), .val (.int (0 : Int32)), .val (.int (0 : Int32))] [(.int (0 : Int32))])) _
    refine XS.iload X5.here hx rfl (hb hby at_279) rfl ?_
    show Steps p.tables e below (T5.setTop (mkF m 281 #[.val (.int p1), .val (.ref b2), .val (.int ((p1 &&& (2147483647 : Int32)) % (25 : Int32))), .val (.ref wj), .val (.int (0 : Int32)), .val (.int (0 : Int32)), .val (.int (0 : Int32))] [(.int (0 : Int32)), (.int (0 : Int32))])) _
    refine XS.icmpNo X5.here hx rfl (hb hby at_281) rfl (teq (rfl : (0 : Int32) = (0 : Int32))).2 ?_
    show Steps p.tables e below (T5.setTop (mkF m 284 #[.val (.int p1), .val (.ref b2), .val (.int ((p1 &&& (2147483647 : Int32)) % (25 : Int32))), .val (.ref wj), .val (.int (0 : Int32)), .val (.int (0 : Int32)), .val (.int (0 : Int32))] [])) _
    refine XS.iconst X5.here hx rfl (hb hby at_284) ?_
    show Steps p.tables e below (T5.setTop (mkF m 285 #[.val (.int p1), .val (.ref b2), .val (.int ((p1 &&& (2147483647 : Int32)) % (25 : Int32))), .val (.ref wj), .val (.int (0 : Int32)), .val (.int (0 : Int32)), .val (.int (0 : Int32))] [(.int (1 : Int32))])) _
    refine XS.goto X5.here hx rfl (pc0 := 285) (pc' := 289) rfl (hb hby at_285) (by decide) (by decide) ?_
    show Steps p.tables e below (T5.setTop (mkF m 289 #[.val (.int p1), .val (.ref b2), .val (.int ((p1 &&& (2147483647 : Int32)) % (25 : Int32))), .val (.ref wj), .val (.int (0 : Int32)), .val (.int (0 : Int32)), .val (.int (0 : Int32))] [(.int (1 : Int32))])) _
    exact retN X5 hx (t := .boolean) Bd.returns (by simp) (hb hby at_289) hr
  · show Qlaw0 n0 _ T5.heap _
    rw [e5q]
    exact ⟨rfl, N5⟩
theorem own_mod (x d : Int32) (n : Int) (hd : d.toInt = n) (hn : 0 < n) : 0 ≤ ((x &&& (2147483647 : Int32)) % d).toInt ∧ ((x &&& (2147483647 : Int32)) % d).toInt < n := by
  have h1 := c_and x 2147483647 (by decide)
  have h2 := (c_irem (x &&& 2147483647) d n hd).1 h1.1
  rw [h2]
  exact ⟨Int.emod_nonneg _ (by omega), Int.emod_lt_of_pos _ hn⟩
theorem own_25 (x : Int32) : (¬ ((x &&& (2147483647 : Int32)) % (25 : Int32)) < 0 ∧ ((x &&& (2147483647 : Int32)) % (25 : Int32)) < (25 : Int32)) ∧ (((x &&& (2147483647 : Int32)) % (25 : Int32)) = (0 : Int32) ∨ ((x &&& (2147483647 : Int32)) % (25 : Int32)) = (1 : Int32) ∨ ((x &&& (2147483647 : Int32)) % (25 : Int32)) = (2 : Int32) ∨ ((x &&& (2147483647 : Int32)) % (25 : Int32)) = (3 : Int32) ∨ ((x &&& (2147483647 : Int32)) % (25 : Int32)) = (4 : Int32) ∨ ((x &&& (2147483647 : Int32)) % (25 : Int32)) = (5 : Int32) ∨ ((x &&& (2147483647 : Int32)) % (25 : Int32)) = (6 : Int32) ∨ ((x &&& (2147483647 : Int32)) % (25 : Int32)) = (7 : Int32) ∨ ((x &&& (2147483647 : Int32)) % (25 : Int32)) = (8 : Int32) ∨ ((x &&& (2147483647 : Int32)) % (25 : Int32)) = (9 : Int32) ∨ ((x &&& (2147483647 : Int32)) % (25 : Int32)) = (10 : Int32) ∨ ((x &&& (2147483647 : Int32)) % (25 : Int32)) = (11 : Int32) ∨ ((x &&& (2147483647 : Int32)) % (25 : Int32)) = (12 : Int32) ∨ ((x &&& (2147483647 : Int32)) % (25 : Int32)) = (13 : Int32) ∨ ((x &&& (2147483647 : Int32)) % (25 : Int32)) = (14 : Int32) ∨ ((x &&& (2147483647 : Int32)) % (25 : Int32)) = (15 : Int32) ∨ ((x &&& (2147483647 : Int32)) % (25 : Int32)) = (16 : Int32) ∨ ((x &&& (2147483647 : Int32)) % (25 : Int32)) = (17 : Int32) ∨ ((x &&& (2147483647 : Int32)) % (25 : Int32)) = (18 : Int32) ∨ ((x &&& (2147483647 : Int32)) % (25 : Int32)) = (19 : Int32) ∨ ((x &&& (2147483647 : Int32)) % (25 : Int32)) = (20 : Int32) ∨ ((x &&& (2147483647 : Int32)) % (25 : Int32)) = (21 : Int32) ∨ ((x &&& (2147483647 : Int32)) % (25 : Int32)) = (22 : Int32) ∨ ((x &&& (2147483647 : Int32)) % (25 : Int32)) = (23 : Int32) ∨ ((x &&& (2147483647 : Int32)) % (25 : Int32)) = (24 : Int32)) := by
  have h := own_mod x 25 25 (by decide) (by decide)
  generalize ((x &&& (2147483647 : Int32)) % (25 : Int32)) = j at h ⊢
  have z0 : (0 : Int32).toInt = 0 := by decide
  have zn : (25 : Int32).toInt = 25 := by decide
  refine ⟨⟨by rw [Int32.lt_iff_toInt_lt]; omega, by rw [Int32.lt_iff_toInt_lt]; omega⟩, ?_⟩
  have hc : j.toInt = 0 ∨ j.toInt = 1 ∨ j.toInt = 2 ∨ j.toInt = 3 ∨ j.toInt = 4 ∨ j.toInt = 5 ∨ j.toInt = 6 ∨ j.toInt = 7 ∨ j.toInt = 8 ∨ j.toInt = 9 ∨ j.toInt = 10 ∨ j.toInt = 11 ∨ j.toInt = 12 ∨ j.toInt = 13 ∨ j.toInt = 14 ∨ j.toInt = 15 ∨ j.toInt = 16 ∨ j.toInt = 17 ∨ j.toInt = 18 ∨ j.toInt = 19 ∨ j.toInt = 20 ∨ j.toInt = 21 ∨ j.toInt = 22 ∨ j.toInt = 23 ∨ j.toInt = 24 := by omega
  rcases hc with c | c | c | c | c | c | c | c | c | c | c | c | c | c | c | c | c | c | c | c | c | c | c | c | c
  · exact Or.inl (Int32.toInt_inj.mp (c.trans (by decide)))
  · exact Or.inr (Or.inl (Int32.toInt_inj.mp (c.trans (by decide))))
  · exact Or.inr (Or.inr (Or.inl (Int32.toInt_inj.mp (c.trans (by decide)))))
  · exact Or.inr (Or.inr (Or.inr (Or.inl (Int32.toInt_inj.mp (c.trans (by decide))))))
  · exact Or.inr (Or.inr (Or.inr (Or.inr (Or.inl (Int32.toInt_inj.mp (c.trans (by decide)))))))
  · exact Or.inr (Or.inr (Or.inr (Or.inr (Or.inr (Or.inl (Int32.toInt_inj.mp (c.trans (by decide))))))))
  · exact Or.inr (Or.inr (Or.inr (Or.inr (Or.inr (Or.inr (Or.inl (Int32.toInt_inj.mp (c.trans (by decide)))))))))
  · exact Or.inr (Or.inr (Or.inr (Or.inr (Or.inr (Or.inr (Or.inr (Or.inl (Int32.toInt_inj.mp (c.trans (by decide))))))))))
  · exact Or.inr (Or.inr (Or.inr (Or.inr (Or.inr (Or.inr (Or.inr (Or.inr (Or.inl (Int32.toInt_inj.mp (c.trans (by decide)))))))))))
  · exact Or.inr (Or.inr (Or.inr (Or.inr (Or.inr (Or.inr (Or.inr (Or.inr (Or.inr (Or.inl (Int32.toInt_inj.mp (c.trans (by decide))))))))))))
  · exact Or.inr (Or.inr (Or.inr (Or.inr (Or.inr (Or.inr (Or.inr (Or.inr (Or.inr (Or.inr (Or.inl (Int32.toInt_inj.mp (c.trans (by decide)))))))))))))
  · exact Or.inr (Or.inr (Or.inr (Or.inr (Or.inr (Or.inr (Or.inr (Or.inr (Or.inr (Or.inr (Or.inr (Or.inl (Int32.toInt_inj.mp (c.trans (by decide))))))))))))))
  · exact Or.inr (Or.inr (Or.inr (Or.inr (Or.inr (Or.inr (Or.inr (Or.inr (Or.inr (Or.inr (Or.inr (Or.inr (Or.inl (Int32.toInt_inj.mp (c.trans (by decide)))))))))))))))
  · exact Or.inr (Or.inr (Or.inr (Or.inr (Or.inr (Or.inr (Or.inr (Or.inr (Or.inr (Or.inr (Or.inr (Or.inr (Or.inr (Or.inl (Int32.toInt_inj.mp (c.trans (by decide))))))))))))))))
  · exact Or.inr (Or.inr (Or.inr (Or.inr (Or.inr (Or.inr (Or.inr (Or.inr (Or.inr (Or.inr (Or.inr (Or.inr (Or.inr (Or.inr (Or.inl (Int32.toInt_inj.mp (c.trans (by decide)))))))))))))))))
  · exact Or.inr (Or.inr (Or.inr (Or.inr (Or.inr (Or.inr (Or.inr (Or.inr (Or.inr (Or.inr (Or.inr (Or.inr (Or.inr (Or.inr (Or.inr (Or.inl (Int32.toInt_inj.mp (c.trans (by decide))))))))))))))))))
  · exact Or.inr (Or.inr (Or.inr (Or.inr (Or.inr (Or.inr (Or.inr (Or.inr (Or.inr (Or.inr (Or.inr (Or.inr (Or.inr (Or.inr (Or.inr (Or.inr (Or.inl (Int32.toInt_inj.mp (c.trans (by decide)))))))))))))))))))
  · exact Or.inr (Or.inr (Or.inr (Or.inr (Or.inr (Or.inr (Or.inr (Or.inr (Or.inr (Or.inr (Or.inr (Or.inr (Or.inr (Or.inr (Or.inr (Or.inr (Or.inr (Or.inl (Int32.toInt_inj.mp (c.trans (by decide))))))))))))))))))))
  · exact Or.inr (Or.inr (Or.inr (Or.inr (Or.inr (Or.inr (Or.inr (Or.inr (Or.inr (Or.inr (Or.inr (Or.inr (Or.inr (Or.inr (Or.inr (Or.inr (Or.inr (Or.inr (Or.inl (Int32.toInt_inj.mp (c.trans (by decide)))))))))))))))))))))
  · exact Or.inr (Or.inr (Or.inr (Or.inr (Or.inr (Or.inr (Or.inr (Or.inr (Or.inr (Or.inr (Or.inr (Or.inr (Or.inr (Or.inr (Or.inr (Or.inr (Or.inr (Or.inr (Or.inr (Or.inl (Int32.toInt_inj.mp (c.trans (by decide))))))))))))))))))))))
  · exact Or.inr (Or.inr (Or.inr (Or.inr (Or.inr (Or.inr (Or.inr (Or.inr (Or.inr (Or.inr (Or.inr (Or.inr (Or.inr (Or.inr (Or.inr (Or.inr (Or.inr (Or.inr (Or.inr (Or.inr (Or.inl (Int32.toInt_inj.mp (c.trans (by decide)))))))))))))))))))))))
  · exact Or.inr (Or.inr (Or.inr (Or.inr (Or.inr (Or.inr (Or.inr (Or.inr (Or.inr (Or.inr (Or.inr (Or.inr (Or.inr (Or.inr (Or.inr (Or.inr (Or.inr (Or.inr (Or.inr (Or.inr (Or.inr (Or.inl (Int32.toInt_inj.mp (c.trans (by decide))))))))))))))))))))))))
  · exact Or.inr (Or.inr (Or.inr (Or.inr (Or.inr (Or.inr (Or.inr (Or.inr (Or.inr (Or.inr (Or.inr (Or.inr (Or.inr (Or.inr (Or.inr (Or.inr (Or.inr (Or.inr (Or.inr (Or.inr (Or.inr (Or.inr (Or.inl (Int32.toInt_inj.mp (c.trans (by decide)))))))))))))))))))))))))
  · exact Or.inr (Or.inr (Or.inr (Or.inr (Or.inr (Or.inr (Or.inr (Or.inr (Or.inr (Or.inr (Or.inr (Or.inr (Or.inr (Or.inr (Or.inr (Or.inr (Or.inr (Or.inr (Or.inr (Or.inr (Or.inr (Or.inr (Or.inr (Or.inl (Int32.toInt_inj.mp (c.trans (by decide))))))))))))))))))))))))))
  · exact Or.inr (Or.inr (Or.inr (Or.inr (Or.inr (Or.inr (Or.inr (Or.inr (Or.inr (Or.inr (Or.inr (Or.inr (Or.inr (Or.inr (Or.inr (Or.inr (Or.inr (Or.inr (Or.inr (Or.inr (Or.inr (Or.inr (Or.inr (Or.inr ((Int32.toInt_inj.mp (c.trans (by decide)))))))))))))))))))))))))))
set_option maxRecDepth 65536 in
set_option maxHeartbeats 40000000 in
theorem comes_1 {Post : Tables → Env → Array Value → State → Outcome → State → Prop} (hpost : ∀ tb e args s v u, (limb_1_1.after args s (.returned v) u = true ∧ limb_1_2.after args s (.returned v) u = true ∧ True) → FrameEnd s (.returned v) u (Jvm.fieldLocs frame_1_writes args s ++ Jvm.arrayLocs frame_1_arrays args s ++ Jvm.staticLocs frame_1_statics s) 16 128 → Post tb e args s (.returned v) u) :
    ArmFor flags0 classFile x code maxLocals ret World_1 tables_1 room_1 Calls_1 rest_1 Pre_1 Post := by
  intro l hfl _ _ p e ha hc hk s m args below hf hA hF happ hP
  obtain ⟨hcalls, hrest, hpre⟩ := hP
  obtain ⟨-, -, -, hnamed, -, -, -, hat⟩ := (Spec.applies_iff hf).mp happ
  obtain ⟨hg, hn⟩ := and_e (Cond.before_iff.mp (show (Jvm.Cond.and given_1 narrow_1).before args s = true from hpre))
  obtain ⟨g6, g7⟩ := and_e hg
  obtain ⟨w0, rfl⟩ : ∃ w0 : Value, args = #[w0] := by
    have hs : args.size = 1 := by simpa [Cond.value, given_1] using g6
    obtain ⟨L⟩ := args
    match L, hs with
    | [w0], _ => exact ⟨w0, rfl⟩
  have hw := fun d (hd : d ∈ tables_1) => atoms_spec (ws := Jvm.Cond.code x code maxLocals ret :: tables_1) hat d (List.mem_cons_of_mem _ hd)
  have hfit : Fit s := fun {y c} hc i hi => by
    obtain ⟨ha, rfl⟩ := Array.getElem?_eq_some_iff.mp hc
    have q := List.all_eq_true.mp ((Array.all_eq_true_iff_forall_mem.mp hF) _ (Array.getElem_mem ha)) i (List.mem_range.mpr hi)
    simpa [Array.getElem?_eq_getElem hi] using q
  obtain ⟨i0, ei0⟩ := is_v g7
  obtain rfl : w0 = (.int i0) := Option.some.inj ei0
  obtain ⟨m0, hn0⟩ := and_e hn
  obtain ⟨m1, hn1⟩ := and_e hn0
  obtain ⟨m2, hn2⟩ := and_e hn1
  obtain ⟨m3, hn3⟩ := and_e hn2
  obtain ⟨m4, hn4⟩ := and_e hn3
  obtain ⟨m5, hn5⟩ := and_e hn4
  obtain ⟨m6, hn6⟩ := and_e hn5
  obtain ⟨m7, hn7⟩ := and_e hn6
  obtain ⟨m8, hn8⟩ := and_e hn7
  obtain ⟨m9, hn9⟩ := and_e hn8
  obtain ⟨m10, hn10⟩ := and_e hn9
  obtain ⟨m11, hn11⟩ := and_e hn10
  obtain ⟨m12, hn12⟩ := and_e hn11
  obtain ⟨m13, hn13⟩ := and_e hn12
  obtain ⟨m14, hn14⟩ := and_e hn13
  obtain ⟨m15, hn15⟩ := and_e hn14
  obtain ⟨m16, hn16⟩ := and_e hn15
  obtain ⟨m17, hn17⟩ := and_e hn16
  obtain ⟨m18, hn18⟩ := and_e hn17
  obtain ⟨m19, hn19⟩ := and_e hn18
  obtain ⟨m20, hn20⟩ := and_e hn19
  obtain ⟨m21, hn21⟩ := and_e hn20
  obtain ⟨m22, hn22⟩ := and_e hn21
  obtain ⟨m23, hn23⟩ := and_e hn22
  obtain ⟨m24, hn24⟩ := and_e hn23
  obtain ⟨m25, hn25⟩ := and_e hn24
  obtain ⟨m26, hn26⟩ := and_e hn25
  obtain ⟨m27, hn27⟩ := and_e hn26
  obtain ⟨m28, hn28⟩ := and_e hn27
  obtain ⟨m29, hn29⟩ := and_e hn28
  obtain ⟨m30, hn30⟩ := and_e hn29
  obtain ⟨m31, hn31⟩ := and_e hn30
  obtain ⟨m32, hn32⟩ := and_e hn31
  obtain ⟨m33, hn33⟩ := and_e hn32
  obtain ⟨m34, hn34⟩ := and_e hn33
  obtain ⟨m35, hn35⟩ := and_e hn34
  obtain ⟨m36, hn36⟩ := and_e hn35
  obtain ⟨m37, hn37⟩ := and_e hn36
  obtain ⟨m38, hn38⟩ := and_e hn37
  obtain ⟨m39, hn39⟩ := and_e hn38
  obtain ⟨m40, hn40⟩ := and_e hn39
  obtain ⟨m41, hn41⟩ := and_e hn40
  obtain ⟨m42, hn42⟩ := and_e hn41
  obtain ⟨m43, hn43⟩ := and_e hn42
  obtain ⟨m44, hn44⟩ := and_e hn43
  obtain ⟨m45, hn45⟩ := and_e hn44
  obtain ⟨m46, hn46⟩ := and_e hn45
  obtain ⟨m47, hn47⟩ := and_e hn46
  obtain ⟨m48, hn48⟩ := and_e hn47
  obtain ⟨m49, hn49⟩ := and_e hn48
  obtain ⟨m50, hn50⟩ := and_e hn49
  obtain ⟨m51, hn51⟩ := and_e hn50
  obtain ⟨m52, hn52⟩ := and_e hn51
  obtain ⟨m53, hn53⟩ := and_e hn52
  obtain ⟨m54, hn54⟩ := and_e hn53
  obtain ⟨m55, hn55⟩ := and_e hn54
  obtain ⟨m56, hn56⟩ := and_e hn55
  obtain ⟨m57, hn57⟩ := and_e hn56
  obtain ⟨m58, hn58⟩ := and_e hn57
  obtain ⟨m59, hn59⟩ := and_e hn58
  obtain ⟨m60, hn60⟩ := and_e hn59
  obtain ⟨m61, hn61⟩ := and_e hn60
  obtain ⟨m62, hn62⟩ := and_e hn61
  obtain ⟨m63, hn63⟩ := and_e hn62
  obtain ⟨m64, hn64⟩ := and_e hn63
  obtain ⟨m65, hn65⟩ := and_e hn64
  obtain ⟨m66, hn66⟩ := and_e hn65
  obtain ⟨m67, hn67⟩ := and_e hn66
  obtain ⟨m68, hn68⟩ := and_e hn67
  obtain ⟨m69, hn69⟩ := and_e hn68
  obtain ⟨m70, hn70⟩ := and_e hn69
  obtain ⟨m71, hn71⟩ := and_e hn70
  obtain ⟨m72, hn72⟩ := and_e hn71
  obtain ⟨m73, hn73⟩ := and_e hn72
  have m74 := hn73
  obtain ⟨a_LAST, ev_LAST⟩ := exa_v m0
  have E_LAST := Exa.start ev_LAST m0
  have S_LAST := Sta.start ev_LAST (Or.inr ⟨(hw _ (List.mem_of_getElem? (i := 3) rfl)), (hw _ (List.mem_of_getElem? (i := 4) rfl))⟩)
  obtain ⟨a_POSITION, ev_POSITION⟩ := exa_v m1
  have E_POSITION := Exa.start ev_POSITION m1
  have S_POSITION := Sta.start ev_POSITION (Or.inr ⟨(hw _ (List.mem_of_getElem? (i := 3) rfl)), (hw _ (List.mem_of_getElem? (i := 7) rfl))⟩)
  obtain ⟨a_COUNT, ev_COUNT⟩ := exa_v m2
  have E_COUNT := Exa.start ev_COUNT m2
  have S_COUNT := Sta.start ev_COUNT (Or.inr ⟨(hw _ (List.mem_of_getElem? (i := 3) rfl)), (hw _ (List.mem_of_getElem? (i := 9) rfl))⟩)
  obtain ⟨a_LOCAL_NAME, ev_LOCAL_NAME⟩ := exa_v m3
  have E_LOCAL_NAME := Exa.start ev_LOCAL_NAME m3
  have S_LOCAL_NAME := Sta.start ev_LOCAL_NAME (Or.inr ⟨(hw _ (List.mem_of_getElem? (i := 3) rfl)), (hw _ (List.mem_of_getElem? (i := 11) rfl))⟩)
  obtain ⟨a_NAMESPACE_URI, ev_NAMESPACE_URI⟩ := exa_v m4
  have E_NAMESPACE_URI := Exa.start ev_NAMESPACE_URI m4
  have S_NAMESPACE_URI := Sta.start ev_NAMESPACE_URI (Or.inr ⟨(hw _ (List.mem_of_getElem? (i := 3) rfl)), (hw _ (List.mem_of_getElem? (i := 13) rfl))⟩)
  obtain ⟨a_NAME, ev_NAME⟩ := exa_v m5
  have E_NAME := Exa.start ev_NAME m5
  have S_NAME := Sta.start ev_NAME (Or.inr ⟨(hw _ (List.mem_of_getElem? (i := 3) rfl)), (hw _ (List.mem_of_getElem? (i := 15) rfl))⟩)
  obtain ⟨a_STRING, ev_STRING⟩ := exa_v m6
  have E_STRING := Exa.start ev_STRING m6
  have S_STRING := Sta.start ev_STRING (Or.inr ⟨(hw _ (List.mem_of_getElem? (i := 3) rfl)), (hw _ (List.mem_of_getElem? (i := 17) rfl))⟩)
  obtain ⟨a_CONCAT, ev_CONCAT⟩ := exa_v m7
  have E_CONCAT := Exa.start ev_CONCAT m7
  have S_CONCAT := Sta.start ev_CONCAT (Or.inr ⟨(hw _ (List.mem_of_getElem? (i := 3) rfl)), (hw _ (List.mem_of_getElem? (i := 19) rfl))⟩)
  obtain ⟨a_STARTS_WITH, ev_STARTS_WITH⟩ := exa_v m8
  have E_STARTS_WITH := Exa.start ev_STARTS_WITH m8
  have S_STARTS_WITH := Sta.start ev_STARTS_WITH (Or.inr ⟨(hw _ (List.mem_of_getElem? (i := 3) rfl)), (hw _ (List.mem_of_getElem? (i := 21) rfl))⟩)
  obtain ⟨a_CONTAINS, ev_CONTAINS⟩ := exa_v m9
  have E_CONTAINS := Exa.start ev_CONTAINS m9
  have S_CONTAINS := Sta.start ev_CONTAINS (Or.inr ⟨(hw _ (List.mem_of_getElem? (i := 3) rfl)), (hw _ (List.mem_of_getElem? (i := 23) rfl))⟩)
  obtain ⟨a_SUBSTRING_BEFORE, ev_SUBSTRING_BEFORE⟩ := exa_v m10
  have E_SUBSTRING_BEFORE := Exa.start ev_SUBSTRING_BEFORE m10
  have S_SUBSTRING_BEFORE := Sta.start ev_SUBSTRING_BEFORE (Or.inr ⟨(hw _ (List.mem_of_getElem? (i := 3) rfl)), (hw _ (List.mem_of_getElem? (i := 25) rfl))⟩)
  obtain ⟨a_SUBSTRING_AFTER, ev_SUBSTRING_AFTER⟩ := exa_v m11
  have E_SUBSTRING_AFTER := Exa.start ev_SUBSTRING_AFTER m11
  have S_SUBSTRING_AFTER := Sta.start ev_SUBSTRING_AFTER (Or.inr ⟨(hw _ (List.mem_of_getElem? (i := 3) rfl)), (hw _ (List.mem_of_getElem? (i := 27) rfl))⟩)
  obtain ⟨a_SUBSTRING, ev_SUBSTRING⟩ := exa_v m12
  have E_SUBSTRING := Exa.start ev_SUBSTRING m12
  have S_SUBSTRING := Sta.start ev_SUBSTRING (Or.inr ⟨(hw _ (List.mem_of_getElem? (i := 3) rfl)), (hw _ (List.mem_of_getElem? (i := 29) rfl))⟩)
  obtain ⟨a_STRING_LENGTH, ev_STRING_LENGTH⟩ := exa_v m13
  have E_STRING_LENGTH := Exa.start ev_STRING_LENGTH m13
  have S_STRING_LENGTH := Sta.start ev_STRING_LENGTH (Or.inr ⟨(hw _ (List.mem_of_getElem? (i := 3) rfl)), (hw _ (List.mem_of_getElem? (i := 31) rfl))⟩)
  obtain ⟨a_NORMALIZE_SPACE, ev_NORMALIZE_SPACE⟩ := exa_v m14
  have E_NORMALIZE_SPACE := Exa.start ev_NORMALIZE_SPACE m14
  have S_NORMALIZE_SPACE := Sta.start ev_NORMALIZE_SPACE (Or.inr ⟨(hw _ (List.mem_of_getElem? (i := 3) rfl)), (hw _ (List.mem_of_getElem? (i := 33) rfl))⟩)
  obtain ⟨a_TRANSLATE, ev_TRANSLATE⟩ := exa_v m15
  have E_TRANSLATE := Exa.start ev_TRANSLATE m15
  have S_TRANSLATE := Sta.start ev_TRANSLATE (Or.inr ⟨(hw _ (List.mem_of_getElem? (i := 3) rfl)), (hw _ (List.mem_of_getElem? (i := 35) rfl))⟩)
  obtain ⟨a_BOOLEAN, ev_BOOLEAN⟩ := exa_v m16
  have E_BOOLEAN := Exa.start ev_BOOLEAN m16
  have S_BOOLEAN := Sta.start ev_BOOLEAN (Or.inr ⟨(hw _ (List.mem_of_getElem? (i := 3) rfl)), (hw _ (List.mem_of_getElem? (i := 37) rfl))⟩)
  obtain ⟨a_NOT, ev_NOT⟩ := exa_v m17
  have E_NOT := Exa.start ev_NOT m17
  have S_NOT := Sta.start ev_NOT (Or.inr ⟨(hw _ (List.mem_of_getElem? (i := 3) rfl)), (hw _ (List.mem_of_getElem? (i := 39) rfl))⟩)
  obtain ⟨a_TRUE, ev_TRUE⟩ := exa_v m18
  have E_TRUE := Exa.start ev_TRUE m18
  have S_TRUE := Sta.start ev_TRUE (Or.inr ⟨(hw _ (List.mem_of_getElem? (i := 3) rfl)), (hw _ (List.mem_of_getElem? (i := 41) rfl))⟩)
  obtain ⟨a_FALSE, ev_FALSE⟩ := exa_v m19
  have E_FALSE := Exa.start ev_FALSE m19
  have S_FALSE := Sta.start ev_FALSE (Or.inr ⟨(hw _ (List.mem_of_getElem? (i := 3) rfl)), (hw _ (List.mem_of_getElem? (i := 43) rfl))⟩)
  obtain ⟨a_NUMBER, ev_NUMBER⟩ := exa_v m20
  have E_NUMBER := Exa.start ev_NUMBER m20
  have S_NUMBER := Sta.start ev_NUMBER (Or.inr ⟨(hw _ (List.mem_of_getElem? (i := 3) rfl)), (hw _ (List.mem_of_getElem? (i := 45) rfl))⟩)
  obtain ⟨a_SUM, ev_SUM⟩ := exa_v m21
  have E_SUM := Exa.start ev_SUM m21
  have S_SUM := Sta.start ev_SUM (Or.inr ⟨(hw _ (List.mem_of_getElem? (i := 3) rfl)), (hw _ (List.mem_of_getElem? (i := 47) rfl))⟩)
  obtain ⟨a_FLOOR, ev_FLOOR⟩ := exa_v m22
  have E_FLOOR := Exa.start ev_FLOOR m22
  have S_FLOOR := Sta.start ev_FLOOR (Or.inr ⟨(hw _ (List.mem_of_getElem? (i := 3) rfl)), (hw _ (List.mem_of_getElem? (i := 49) rfl))⟩)
  obtain ⟨a_CEILING, ev_CEILING⟩ := exa_v m23
  have E_CEILING := Exa.start ev_CEILING m23
  have S_CEILING := Sta.start ev_CEILING (Or.inr ⟨(hw _ (List.mem_of_getElem? (i := 3) rfl)), (hw _ (List.mem_of_getElem? (i := 51) rfl))⟩)
  obtain ⟨a_ROUND, ev_ROUND⟩ := exa_v m24
  have E_ROUND := Exa.start ev_ROUND m24
  have S_ROUND := Sta.start ev_ROUND (Or.inr ⟨(hw _ (List.mem_of_getElem? (i := 3) rfl)), (hw _ (List.mem_of_getElem? (i := 53) rfl))⟩)
  have F_fewest_LAST := own_fld ev_LAST m25
  have F_most_LAST := own_fld ev_LAST m26
  have F_fewest_LOCAL_NAME := own_fld ev_LOCAL_NAME m27
  have F_most_LOCAL_NAME := own_fld ev_LOCAL_NAME m28
  have F_fewest_SUBSTRING_BEFORE := own_fld ev_SUBSTRING_BEFORE m29
  have F_fewest_STRING := own_fld ev_STRING m30
  have F_most_STRING := own_fld ev_STRING m31
  have F_fewest_ROUND := own_fld ev_ROUND m32
  have F_fewest_CONCAT := own_fld ev_CONCAT m33
  have F_fewest_COUNT := own_fld ev_COUNT m34
  have F_fewest_SUBSTRING_AFTER := own_fld ev_SUBSTRING_AFTER m35
  have F_fewest_NUMBER := own_fld ev_NUMBER m36
  have F_most_NUMBER := own_fld ev_NUMBER m37
  have F_fewest_STARTS_WITH := own_fld ev_STARTS_WITH m38
  have F_fewest_POSITION := own_fld ev_POSITION m39
  have F_most_POSITION := own_fld ev_POSITION m40
  have F_fewest_FALSE := own_fld ev_FALSE m41
  have F_most_FALSE := own_fld ev_FALSE m42
  have F_fewest_TRANSLATE := own_fld ev_TRANSLATE m43
  have F_fewest_BOOLEAN := own_fld ev_BOOLEAN m44
  have F_fewest_SUBSTRING := own_fld ev_SUBSTRING m45
  have F_fewest_FLOOR := own_fld ev_FLOOR m46
  have F_fewest_NOT := own_fld ev_NOT m47
  have F_fewest_NAME := own_fld ev_NAME m48
  have F_most_NAME := own_fld ev_NAME m49
  have F_fewest_CEILING := own_fld ev_CEILING m50
  have F_fewest_CONTAINS := own_fld ev_CONTAINS m51
  have F_fewest_NORMALIZE_SPACE := own_fld ev_NORMALIZE_SPACE m52
  have F_most_NORMALIZE_SPACE := own_fld ev_NORMALIZE_SPACE m53
  have F_fewest_NAMESPACE_URI := own_fld ev_NAMESPACE_URI m54
  have F_most_NAMESPACE_URI := own_fld ev_NAMESPACE_URI m55
  have F_fewest_STRING_LENGTH := own_fld ev_STRING_LENGTH m56
  have F_most_STRING_LENGTH := own_fld ev_STRING_LENGTH m57
  have F_fewest_TRUE := own_fld ev_TRUE m58
  have F_most_TRUE := own_fld ev_TRUE m59
  have F_fewest_SUM := own_fld ev_SUM m60
  have F_most_COUNT := own_fld ev_COUNT m61
  have F_most_CONCAT := own_fld ev_CONCAT m62
  have F_most_STARTS_WITH := own_fld ev_STARTS_WITH m63
  have F_most_CONTAINS := own_fld ev_CONTAINS m64
  have F_most_SUBSTRING_BEFORE := own_fld ev_SUBSTRING_BEFORE m65
  have F_most_SUBSTRING_AFTER := own_fld ev_SUBSTRING_AFTER m66
  have F_most_SUBSTRING := own_fld ev_SUBSTRING m67
  have F_most_TRANSLATE := own_fld ev_TRANSLATE m68
  have F_most_BOOLEAN := own_fld ev_BOOLEAN m69
  have F_most_NOT := own_fld ev_NOT m70
  have F_most_SUM := own_fld ev_SUM m71
  have F_most_FLOOR := own_fld ev_FLOOR m72
  have F_most_CEILING := own_fld ev_CEILING m73
  have F_most_ROUND := own_fld ev_ROUND m74
  obtain ⟨hr, hk⟩ := own_25 i0
  rcases hk with c | c | c | c | c | c | c | c | c | c | c | c | c | c | c | c | c | c | c | c | c | c | c | c | c
  ·
    obtain ⟨n, o, h1, h2, h3, _, L, rfl, ⟨rfl, N⟩, hq⟩ := rm0_B l s _ hw tables_1 i0 a_LAST a_POSITION a_COUNT a_LOCAL_NAME a_NAMESPACE_URI a_NAME a_STRING a_CONCAT a_STARTS_WITH a_CONTAINS a_SUBSTRING_BEFORE a_SUBSTRING_AFTER a_SUBSTRING a_STRING_LENGTH a_NORMALIZE_SPACE a_TRANSLATE a_BOOLEAN a_NOT a_TRUE a_FALSE a_NUMBER a_SUM a_FLOOR a_CEILING a_ROUND a_LAST s.heap s.heap.size (Nat.le_refl _) S_LAST S_POSITION S_COUNT S_LOCAL_NAME S_NAMESPACE_URI S_NAME S_STRING S_CONCAT S_STARTS_WITH S_CONTAINS S_SUBSTRING_BEFORE S_SUBSTRING_AFTER S_SUBSTRING S_STRING_LENGTH S_NORMALIZE_SPACE S_TRANSLATE S_BOOLEAN S_NOT S_TRUE S_FALSE S_NUMBER S_SUM S_FLOOR S_CEILING S_ROUND E_LAST F_fewest_LAST F_most_LAST (Or.inr (Or.inr (Or.inr (Or.inr (Or.inr (Or.inr (Or.inr (⟨(by rw [c]; decide), (by rw [c]; decide), (by rw [c]; decide), (by rw [c]; decide), (by rw [c]; decide), (by rw [c]; decide), (by rw [c]; decide), rfl⟩)))))))) E_LAST E_POSITION E_COUNT E_LOCAL_NAME E_NAMESPACE_URI E_NAME E_STRING E_CONCAT E_STARTS_WITH E_CONTAINS E_SUBSTRING_BEFORE E_SUBSTRING_AFTER E_SUBSTRING E_STRING_LENGTH E_NORMALIZE_SPACE E_TRANSLATE E_BOOLEAN E_NOT E_TRUE E_FALSE E_NUMBER E_SUM E_FLOOR E_CEILING E_ROUND hr (by rw [c]; rfl) p e ha hc hk s m _ below hf ((Spec.applies_iff_loose hf).mp happ).1 ⟨rfl, State.Warmed39.refl s, rfl⟩ trivial
    refine ⟨n, _, h1, h2, h3, hpost _ _ _ _ _ _ ⟨Cond.after_iff.mpr rfl, Cond.after_iff.mpr (eq_i res_at (Term.int_eval (1)) rfl), trivial⟩ ⟨hq.1, hq.2.1, (hq.2.2.sift fun y hy => Or.inr (N y hy)).mono (by decide) (by decide)⟩⟩
  ·
    obtain ⟨n, o, h1, h2, h3, _, L, rfl, ⟨rfl, N⟩, hq⟩ := rm0_B l s _ hw tables_1 i0 a_LAST a_POSITION a_COUNT a_LOCAL_NAME a_NAMESPACE_URI a_NAME a_STRING a_CONCAT a_STARTS_WITH a_CONTAINS a_SUBSTRING_BEFORE a_SUBSTRING_AFTER a_SUBSTRING a_STRING_LENGTH a_NORMALIZE_SPACE a_TRANSLATE a_BOOLEAN a_NOT a_TRUE a_FALSE a_NUMBER a_SUM a_FLOOR a_CEILING a_ROUND a_POSITION s.heap s.heap.size (Nat.le_refl _) S_LAST S_POSITION S_COUNT S_LOCAL_NAME S_NAMESPACE_URI S_NAME S_STRING S_CONCAT S_STARTS_WITH S_CONTAINS S_SUBSTRING_BEFORE S_SUBSTRING_AFTER S_SUBSTRING S_STRING_LENGTH S_NORMALIZE_SPACE S_TRANSLATE S_BOOLEAN S_NOT S_TRUE S_FALSE S_NUMBER S_SUM S_FLOOR S_CEILING S_ROUND E_POSITION F_fewest_POSITION F_most_POSITION (Or.inr (Or.inr (Or.inr (Or.inr (Or.inr (Or.inr (Or.inr (⟨(by rw [c]; decide), (by rw [c]; decide), (by rw [c]; decide), (by rw [c]; decide), (by rw [c]; decide), (by rw [c]; decide), (by rw [c]; decide), rfl⟩)))))))) E_LAST E_POSITION E_COUNT E_LOCAL_NAME E_NAMESPACE_URI E_NAME E_STRING E_CONCAT E_STARTS_WITH E_CONTAINS E_SUBSTRING_BEFORE E_SUBSTRING_AFTER E_SUBSTRING E_STRING_LENGTH E_NORMALIZE_SPACE E_TRANSLATE E_BOOLEAN E_NOT E_TRUE E_FALSE E_NUMBER E_SUM E_FLOOR E_CEILING E_ROUND hr (by rw [c]; rfl) p e ha hc hk s m _ below hf ((Spec.applies_iff_loose hf).mp happ).1 ⟨rfl, State.Warmed39.refl s, rfl⟩ trivial
    refine ⟨n, _, h1, h2, h3, hpost _ _ _ _ _ _ ⟨Cond.after_iff.mpr rfl, Cond.after_iff.mpr (eq_i res_at (Term.int_eval (1)) rfl), trivial⟩ ⟨hq.1, hq.2.1, (hq.2.2.sift fun y hy => Or.inr (N y hy)).mono (by decide) (by decide)⟩⟩
  ·
    obtain ⟨n, o, h1, h2, h3, _, L, rfl, ⟨rfl, N⟩, hq⟩ := rm0_C l s _ hw tables_1 i0 a_LAST a_POSITION a_COUNT a_LOCAL_NAME a_NAMESPACE_URI a_NAME a_STRING a_CONCAT a_STARTS_WITH a_CONTAINS a_SUBSTRING_BEFORE a_SUBSTRING_AFTER a_SUBSTRING a_STRING_LENGTH a_NORMALIZE_SPACE a_TRANSLATE a_BOOLEAN a_NOT a_TRUE a_FALSE a_NUMBER a_SUM a_FLOOR a_CEILING a_ROUND a_COUNT (1 : Int32) (1 : Int32) s.heap s.heap.size (Nat.le_refl _) S_LAST S_POSITION S_COUNT S_LOCAL_NAME S_NAMESPACE_URI S_NAME S_STRING S_CONCAT S_STARTS_WITH S_CONTAINS S_SUBSTRING_BEFORE S_SUBSTRING_AFTER S_SUBSTRING S_STRING_LENGTH S_NORMALIZE_SPACE S_TRANSLATE S_BOOLEAN S_NOT S_TRUE S_FALSE S_NUMBER S_SUM S_FLOOR S_CEILING S_ROUND E_COUNT F_fewest_COUNT F_most_COUNT (Or.inr (Or.inr (Or.inr (Or.inr (Or.inr (Or.inr (Or.inr (⟨(by rw [c]; decide), (by rw [c]; decide), (by rw [c]; decide), (by rw [c]; decide), (by rw [c]; decide), (by rw [c]; decide), (by rw [c]; decide), rfl⟩)))))))) (by decide) (by decide) E_LAST E_POSITION E_COUNT E_LOCAL_NAME E_NAMESPACE_URI E_NAME E_STRING E_CONCAT E_STARTS_WITH E_CONTAINS E_SUBSTRING_BEFORE E_SUBSTRING_AFTER E_SUBSTRING E_STRING_LENGTH E_NORMALIZE_SPACE E_TRANSLATE E_BOOLEAN E_NOT E_TRUE E_FALSE E_NUMBER E_SUM E_FLOOR E_CEILING E_ROUND hr (by rw [c]; rfl) p e ha hc hk s m _ below hf ((Spec.applies_iff_loose hf).mp happ).1 ⟨rfl, State.Warmed39.refl s, rfl⟩ trivial
    refine ⟨n, _, h1, h2, h3, hpost _ _ _ _ _ _ ⟨Cond.after_iff.mpr rfl, Cond.after_iff.mpr (eq_i res_at (Term.int_eval (1)) rfl), trivial⟩ ⟨hq.1, hq.2.1, (hq.2.2.sift fun y hy => Or.inr (N y hy)).mono (by decide) (by decide)⟩⟩
  ·
    obtain ⟨n, o, h1, h2, h3, _, L, rfl, ⟨rfl, N⟩, hq⟩ := rm0_A l s _ hw tables_1 i0 a_LAST a_POSITION a_COUNT a_LOCAL_NAME a_NAMESPACE_URI a_NAME a_STRING a_CONCAT a_STARTS_WITH a_CONTAINS a_SUBSTRING_BEFORE a_SUBSTRING_AFTER a_SUBSTRING a_STRING_LENGTH a_NORMALIZE_SPACE a_TRANSLATE a_BOOLEAN a_NOT a_TRUE a_FALSE a_NUMBER a_SUM a_FLOOR a_CEILING a_ROUND a_LOCAL_NAME s.heap s.heap.size (Nat.le_refl _) S_LAST S_POSITION S_COUNT S_LOCAL_NAME S_NAMESPACE_URI S_NAME S_STRING S_CONCAT S_STARTS_WITH S_CONTAINS S_SUBSTRING_BEFORE S_SUBSTRING_AFTER S_SUBSTRING S_STRING_LENGTH S_NORMALIZE_SPACE S_TRANSLATE S_BOOLEAN S_NOT S_TRUE S_FALSE S_NUMBER S_SUM S_FLOOR S_CEILING S_ROUND E_LOCAL_NAME F_fewest_LOCAL_NAME F_most_LOCAL_NAME (Or.inl ⟨c, rfl⟩) E_LAST E_POSITION E_COUNT E_LOCAL_NAME E_NAMESPACE_URI E_NAME E_STRING E_CONCAT E_STARTS_WITH E_CONTAINS E_SUBSTRING_BEFORE E_SUBSTRING_AFTER E_SUBSTRING E_STRING_LENGTH E_NORMALIZE_SPACE E_TRANSLATE E_BOOLEAN E_NOT E_TRUE E_FALSE E_NUMBER E_SUM E_FLOOR E_CEILING E_ROUND hr (by rw [c]; rfl) p e ha hc hk s m _ below hf ((Spec.applies_iff_loose hf).mp happ).1 ⟨rfl, State.Warmed39.refl s, rfl⟩ trivial
    refine ⟨n, _, h1, h2, h3, hpost _ _ _ _ _ _ ⟨Cond.after_iff.mpr rfl, Cond.after_iff.mpr (eq_i res_at (Term.int_eval (1)) rfl), trivial⟩ ⟨hq.1, hq.2.1, (hq.2.2.sift fun y hy => Or.inr (N y hy)).mono (by decide) (by decide)⟩⟩
  ·
    obtain ⟨n, o, h1, h2, h3, _, L, rfl, ⟨rfl, N⟩, hq⟩ := rm0_A l s _ hw tables_1 i0 a_LAST a_POSITION a_COUNT a_LOCAL_NAME a_NAMESPACE_URI a_NAME a_STRING a_CONCAT a_STARTS_WITH a_CONTAINS a_SUBSTRING_BEFORE a_SUBSTRING_AFTER a_SUBSTRING a_STRING_LENGTH a_NORMALIZE_SPACE a_TRANSLATE a_BOOLEAN a_NOT a_TRUE a_FALSE a_NUMBER a_SUM a_FLOOR a_CEILING a_ROUND a_NAMESPACE_URI s.heap s.heap.size (Nat.le_refl _) S_LAST S_POSITION S_COUNT S_LOCAL_NAME S_NAMESPACE_URI S_NAME S_STRING S_CONCAT S_STARTS_WITH S_CONTAINS S_SUBSTRING_BEFORE S_SUBSTRING_AFTER S_SUBSTRING S_STRING_LENGTH S_NORMALIZE_SPACE S_TRANSLATE S_BOOLEAN S_NOT S_TRUE S_FALSE S_NUMBER S_SUM S_FLOOR S_CEILING S_ROUND E_NAMESPACE_URI F_fewest_NAMESPACE_URI F_most_NAMESPACE_URI (Or.inr (Or.inl ⟨(by rw [c]; decide), c, rfl⟩)) E_LAST E_POSITION E_COUNT E_LOCAL_NAME E_NAMESPACE_URI E_NAME E_STRING E_CONCAT E_STARTS_WITH E_CONTAINS E_SUBSTRING_BEFORE E_SUBSTRING_AFTER E_SUBSTRING E_STRING_LENGTH E_NORMALIZE_SPACE E_TRANSLATE E_BOOLEAN E_NOT E_TRUE E_FALSE E_NUMBER E_SUM E_FLOOR E_CEILING E_ROUND hr (by rw [c]; rfl) p e ha hc hk s m _ below hf ((Spec.applies_iff_loose hf).mp happ).1 ⟨rfl, State.Warmed39.refl s, rfl⟩ trivial
    refine ⟨n, _, h1, h2, h3, hpost _ _ _ _ _ _ ⟨Cond.after_iff.mpr rfl, Cond.after_iff.mpr (eq_i res_at (Term.int_eval (1)) rfl), trivial⟩ ⟨hq.1, hq.2.1, (hq.2.2.sift fun y hy => Or.inr (N y hy)).mono (by decide) (by decide)⟩⟩
  ·
    obtain ⟨n, o, h1, h2, h3, _, L, rfl, ⟨rfl, N⟩, hq⟩ := rm0_A l s _ hw tables_1 i0 a_LAST a_POSITION a_COUNT a_LOCAL_NAME a_NAMESPACE_URI a_NAME a_STRING a_CONCAT a_STARTS_WITH a_CONTAINS a_SUBSTRING_BEFORE a_SUBSTRING_AFTER a_SUBSTRING a_STRING_LENGTH a_NORMALIZE_SPACE a_TRANSLATE a_BOOLEAN a_NOT a_TRUE a_FALSE a_NUMBER a_SUM a_FLOOR a_CEILING a_ROUND a_NAME s.heap s.heap.size (Nat.le_refl _) S_LAST S_POSITION S_COUNT S_LOCAL_NAME S_NAMESPACE_URI S_NAME S_STRING S_CONCAT S_STARTS_WITH S_CONTAINS S_SUBSTRING_BEFORE S_SUBSTRING_AFTER S_SUBSTRING S_STRING_LENGTH S_NORMALIZE_SPACE S_TRANSLATE S_BOOLEAN S_NOT S_TRUE S_FALSE S_NUMBER S_SUM S_FLOOR S_CEILING S_ROUND E_NAME F_fewest_NAME F_most_NAME (Or.inr (Or.inr (Or.inl ⟨(by rw [c]; decide), (by rw [c]; decide), c, rfl⟩))) E_LAST E_POSITION E_COUNT E_LOCAL_NAME E_NAMESPACE_URI E_NAME E_STRING E_CONCAT E_STARTS_WITH E_CONTAINS E_SUBSTRING_BEFORE E_SUBSTRING_AFTER E_SUBSTRING E_STRING_LENGTH E_NORMALIZE_SPACE E_TRANSLATE E_BOOLEAN E_NOT E_TRUE E_FALSE E_NUMBER E_SUM E_FLOOR E_CEILING E_ROUND hr (by rw [c]; rfl) p e ha hc hk s m _ below hf ((Spec.applies_iff_loose hf).mp happ).1 ⟨rfl, State.Warmed39.refl s, rfl⟩ trivial
    refine ⟨n, _, h1, h2, h3, hpost _ _ _ _ _ _ ⟨Cond.after_iff.mpr rfl, Cond.after_iff.mpr (eq_i res_at (Term.int_eval (1)) rfl), trivial⟩ ⟨hq.1, hq.2.1, (hq.2.2.sift fun y hy => Or.inr (N y hy)).mono (by decide) (by decide)⟩⟩
  ·
    obtain ⟨n, o, h1, h2, h3, _, L, rfl, ⟨rfl, N⟩, hq⟩ := rm0_A l s _ hw tables_1 i0 a_LAST a_POSITION a_COUNT a_LOCAL_NAME a_NAMESPACE_URI a_NAME a_STRING a_CONCAT a_STARTS_WITH a_CONTAINS a_SUBSTRING_BEFORE a_SUBSTRING_AFTER a_SUBSTRING a_STRING_LENGTH a_NORMALIZE_SPACE a_TRANSLATE a_BOOLEAN a_NOT a_TRUE a_FALSE a_NUMBER a_SUM a_FLOOR a_CEILING a_ROUND a_STRING s.heap s.heap.size (Nat.le_refl _) S_LAST S_POSITION S_COUNT S_LOCAL_NAME S_NAMESPACE_URI S_NAME S_STRING S_CONCAT S_STARTS_WITH S_CONTAINS S_SUBSTRING_BEFORE S_SUBSTRING_AFTER S_SUBSTRING S_STRING_LENGTH S_NORMALIZE_SPACE S_TRANSLATE S_BOOLEAN S_NOT S_TRUE S_FALSE S_NUMBER S_SUM S_FLOOR S_CEILING S_ROUND E_STRING F_fewest_STRING F_most_STRING (Or.inr (Or.inr (Or.inr (Or.inl ⟨(by rw [c]; decide), (by rw [c]; decide), (by rw [c]; decide), c, rfl⟩)))) E_LAST E_POSITION E_COUNT E_LOCAL_NAME E_NAMESPACE_URI E_NAME E_STRING E_CONCAT E_STARTS_WITH E_CONTAINS E_SUBSTRING_BEFORE E_SUBSTRING_AFTER E_SUBSTRING E_STRING_LENGTH E_NORMALIZE_SPACE E_TRANSLATE E_BOOLEAN E_NOT E_TRUE E_FALSE E_NUMBER E_SUM E_FLOOR E_CEILING E_ROUND hr (by rw [c]; rfl) p e ha hc hk s m _ below hf ((Spec.applies_iff_loose hf).mp happ).1 ⟨rfl, State.Warmed39.refl s, rfl⟩ trivial
    refine ⟨n, _, h1, h2, h3, hpost _ _ _ _ _ _ ⟨Cond.after_iff.mpr rfl, Cond.after_iff.mpr (eq_i res_at (Term.int_eval (1)) rfl), trivial⟩ ⟨hq.1, hq.2.1, (hq.2.2.sift fun y hy => Or.inr (N y hy)).mono (by decide) (by decide)⟩⟩
  ·
    obtain ⟨n, o, h1, h2, h3, _, L, rfl, ⟨rfl, N⟩, hq⟩ := rm0_C l s _ hw tables_1 i0 a_LAST a_POSITION a_COUNT a_LOCAL_NAME a_NAMESPACE_URI a_NAME a_STRING a_CONCAT a_STARTS_WITH a_CONTAINS a_SUBSTRING_BEFORE a_SUBSTRING_AFTER a_SUBSTRING a_STRING_LENGTH a_NORMALIZE_SPACE a_TRANSLATE a_BOOLEAN a_NOT a_TRUE a_FALSE a_NUMBER a_SUM a_FLOOR a_CEILING a_ROUND a_CONCAT (2 : Int32) (2147483647 : Int32) s.heap s.heap.size (Nat.le_refl _) S_LAST S_POSITION S_COUNT S_LOCAL_NAME S_NAMESPACE_URI S_NAME S_STRING S_CONCAT S_STARTS_WITH S_CONTAINS S_SUBSTRING_BEFORE S_SUBSTRING_AFTER S_SUBSTRING S_STRING_LENGTH S_NORMALIZE_SPACE S_TRANSLATE S_BOOLEAN S_NOT S_TRUE S_FALSE S_NUMBER S_SUM S_FLOOR S_CEILING S_ROUND E_CONCAT F_fewest_CONCAT F_most_CONCAT (Or.inr (Or.inr (Or.inr (Or.inr (Or.inr (Or.inr (Or.inr (⟨(by rw [c]; decide), (by rw [c]; decide), (by rw [c]; decide), (by rw [c]; decide), (by rw [c]; decide), (by rw [c]; decide), (by rw [c]; decide), rfl⟩)))))))) (by decide) (by decide) E_LAST E_POSITION E_COUNT E_LOCAL_NAME E_NAMESPACE_URI E_NAME E_STRING E_CONCAT E_STARTS_WITH E_CONTAINS E_SUBSTRING_BEFORE E_SUBSTRING_AFTER E_SUBSTRING E_STRING_LENGTH E_NORMALIZE_SPACE E_TRANSLATE E_BOOLEAN E_NOT E_TRUE E_FALSE E_NUMBER E_SUM E_FLOOR E_CEILING E_ROUND hr (by rw [c]; rfl) p e ha hc hk s m _ below hf ((Spec.applies_iff_loose hf).mp happ).1 ⟨rfl, State.Warmed39.refl s, rfl⟩ trivial
    refine ⟨n, _, h1, h2, h3, hpost _ _ _ _ _ _ ⟨Cond.after_iff.mpr rfl, Cond.after_iff.mpr (eq_i res_at (Term.int_eval (1)) rfl), trivial⟩ ⟨hq.1, hq.2.1, (hq.2.2.sift fun y hy => Or.inr (N y hy)).mono (by decide) (by decide)⟩⟩
  ·
    obtain ⟨n, o, h1, h2, h3, _, L, rfl, ⟨rfl, N⟩, hq⟩ := rm0_C l s _ hw tables_1 i0 a_LAST a_POSITION a_COUNT a_LOCAL_NAME a_NAMESPACE_URI a_NAME a_STRING a_CONCAT a_STARTS_WITH a_CONTAINS a_SUBSTRING_BEFORE a_SUBSTRING_AFTER a_SUBSTRING a_STRING_LENGTH a_NORMALIZE_SPACE a_TRANSLATE a_BOOLEAN a_NOT a_TRUE a_FALSE a_NUMBER a_SUM a_FLOOR a_CEILING a_ROUND a_STARTS_WITH (2 : Int32) (2 : Int32) s.heap s.heap.size (Nat.le_refl _) S_LAST S_POSITION S_COUNT S_LOCAL_NAME S_NAMESPACE_URI S_NAME S_STRING S_CONCAT S_STARTS_WITH S_CONTAINS S_SUBSTRING_BEFORE S_SUBSTRING_AFTER S_SUBSTRING S_STRING_LENGTH S_NORMALIZE_SPACE S_TRANSLATE S_BOOLEAN S_NOT S_TRUE S_FALSE S_NUMBER S_SUM S_FLOOR S_CEILING S_ROUND E_STARTS_WITH F_fewest_STARTS_WITH F_most_STARTS_WITH (Or.inr (Or.inr (Or.inr (Or.inr (Or.inr (Or.inr (Or.inr (⟨(by rw [c]; decide), (by rw [c]; decide), (by rw [c]; decide), (by rw [c]; decide), (by rw [c]; decide), (by rw [c]; decide), (by rw [c]; decide), rfl⟩)))))))) (by decide) (by decide) E_LAST E_POSITION E_COUNT E_LOCAL_NAME E_NAMESPACE_URI E_NAME E_STRING E_CONCAT E_STARTS_WITH E_CONTAINS E_SUBSTRING_BEFORE E_SUBSTRING_AFTER E_SUBSTRING E_STRING_LENGTH E_NORMALIZE_SPACE E_TRANSLATE E_BOOLEAN E_NOT E_TRUE E_FALSE E_NUMBER E_SUM E_FLOOR E_CEILING E_ROUND hr (by rw [c]; rfl) p e ha hc hk s m _ below hf ((Spec.applies_iff_loose hf).mp happ).1 ⟨rfl, State.Warmed39.refl s, rfl⟩ trivial
    refine ⟨n, _, h1, h2, h3, hpost _ _ _ _ _ _ ⟨Cond.after_iff.mpr rfl, Cond.after_iff.mpr (eq_i res_at (Term.int_eval (1)) rfl), trivial⟩ ⟨hq.1, hq.2.1, (hq.2.2.sift fun y hy => Or.inr (N y hy)).mono (by decide) (by decide)⟩⟩
  ·
    obtain ⟨n, o, h1, h2, h3, _, L, rfl, ⟨rfl, N⟩, hq⟩ := rm0_C l s _ hw tables_1 i0 a_LAST a_POSITION a_COUNT a_LOCAL_NAME a_NAMESPACE_URI a_NAME a_STRING a_CONCAT a_STARTS_WITH a_CONTAINS a_SUBSTRING_BEFORE a_SUBSTRING_AFTER a_SUBSTRING a_STRING_LENGTH a_NORMALIZE_SPACE a_TRANSLATE a_BOOLEAN a_NOT a_TRUE a_FALSE a_NUMBER a_SUM a_FLOOR a_CEILING a_ROUND a_CONTAINS (2 : Int32) (2 : Int32) s.heap s.heap.size (Nat.le_refl _) S_LAST S_POSITION S_COUNT S_LOCAL_NAME S_NAMESPACE_URI S_NAME S_STRING S_CONCAT S_STARTS_WITH S_CONTAINS S_SUBSTRING_BEFORE S_SUBSTRING_AFTER S_SUBSTRING S_STRING_LENGTH S_NORMALIZE_SPACE S_TRANSLATE S_BOOLEAN S_NOT S_TRUE S_FALSE S_NUMBER S_SUM S_FLOOR S_CEILING S_ROUND E_CONTAINS F_fewest_CONTAINS F_most_CONTAINS (Or.inr (Or.inr (Or.inr (Or.inr (Or.inr (Or.inr (Or.inr (⟨(by rw [c]; decide), (by rw [c]; decide), (by rw [c]; decide), (by rw [c]; decide), (by rw [c]; decide), (by rw [c]; decide), (by rw [c]; decide), rfl⟩)))))))) (by decide) (by decide) E_LAST E_POSITION E_COUNT E_LOCAL_NAME E_NAMESPACE_URI E_NAME E_STRING E_CONCAT E_STARTS_WITH E_CONTAINS E_SUBSTRING_BEFORE E_SUBSTRING_AFTER E_SUBSTRING E_STRING_LENGTH E_NORMALIZE_SPACE E_TRANSLATE E_BOOLEAN E_NOT E_TRUE E_FALSE E_NUMBER E_SUM E_FLOOR E_CEILING E_ROUND hr (by rw [c]; rfl) p e ha hc hk s m _ below hf ((Spec.applies_iff_loose hf).mp happ).1 ⟨rfl, State.Warmed39.refl s, rfl⟩ trivial
    refine ⟨n, _, h1, h2, h3, hpost _ _ _ _ _ _ ⟨Cond.after_iff.mpr rfl, Cond.after_iff.mpr (eq_i res_at (Term.int_eval (1)) rfl), trivial⟩ ⟨hq.1, hq.2.1, (hq.2.2.sift fun y hy => Or.inr (N y hy)).mono (by decide) (by decide)⟩⟩
  ·
    obtain ⟨n, o, h1, h2, h3, _, L, rfl, ⟨rfl, N⟩, hq⟩ := rm0_C l s _ hw tables_1 i0 a_LAST a_POSITION a_COUNT a_LOCAL_NAME a_NAMESPACE_URI a_NAME a_STRING a_CONCAT a_STARTS_WITH a_CONTAINS a_SUBSTRING_BEFORE a_SUBSTRING_AFTER a_SUBSTRING a_STRING_LENGTH a_NORMALIZE_SPACE a_TRANSLATE a_BOOLEAN a_NOT a_TRUE a_FALSE a_NUMBER a_SUM a_FLOOR a_CEILING a_ROUND a_SUBSTRING_BEFORE (2 : Int32) (2 : Int32) s.heap s.heap.size (Nat.le_refl _) S_LAST S_POSITION S_COUNT S_LOCAL_NAME S_NAMESPACE_URI S_NAME S_STRING S_CONCAT S_STARTS_WITH S_CONTAINS S_SUBSTRING_BEFORE S_SUBSTRING_AFTER S_SUBSTRING S_STRING_LENGTH S_NORMALIZE_SPACE S_TRANSLATE S_BOOLEAN S_NOT S_TRUE S_FALSE S_NUMBER S_SUM S_FLOOR S_CEILING S_ROUND E_SUBSTRING_BEFORE F_fewest_SUBSTRING_BEFORE F_most_SUBSTRING_BEFORE (Or.inr (Or.inr (Or.inr (Or.inr (Or.inr (Or.inr (Or.inr (⟨(by rw [c]; decide), (by rw [c]; decide), (by rw [c]; decide), (by rw [c]; decide), (by rw [c]; decide), (by rw [c]; decide), (by rw [c]; decide), rfl⟩)))))))) (by decide) (by decide) E_LAST E_POSITION E_COUNT E_LOCAL_NAME E_NAMESPACE_URI E_NAME E_STRING E_CONCAT E_STARTS_WITH E_CONTAINS E_SUBSTRING_BEFORE E_SUBSTRING_AFTER E_SUBSTRING E_STRING_LENGTH E_NORMALIZE_SPACE E_TRANSLATE E_BOOLEAN E_NOT E_TRUE E_FALSE E_NUMBER E_SUM E_FLOOR E_CEILING E_ROUND hr (by rw [c]; rfl) p e ha hc hk s m _ below hf ((Spec.applies_iff_loose hf).mp happ).1 ⟨rfl, State.Warmed39.refl s, rfl⟩ trivial
    refine ⟨n, _, h1, h2, h3, hpost _ _ _ _ _ _ ⟨Cond.after_iff.mpr rfl, Cond.after_iff.mpr (eq_i res_at (Term.int_eval (1)) rfl), trivial⟩ ⟨hq.1, hq.2.1, (hq.2.2.sift fun y hy => Or.inr (N y hy)).mono (by decide) (by decide)⟩⟩
  ·
    obtain ⟨n, o, h1, h2, h3, _, L, rfl, ⟨rfl, N⟩, hq⟩ := rm0_C l s _ hw tables_1 i0 a_LAST a_POSITION a_COUNT a_LOCAL_NAME a_NAMESPACE_URI a_NAME a_STRING a_CONCAT a_STARTS_WITH a_CONTAINS a_SUBSTRING_BEFORE a_SUBSTRING_AFTER a_SUBSTRING a_STRING_LENGTH a_NORMALIZE_SPACE a_TRANSLATE a_BOOLEAN a_NOT a_TRUE a_FALSE a_NUMBER a_SUM a_FLOOR a_CEILING a_ROUND a_SUBSTRING_AFTER (2 : Int32) (2 : Int32) s.heap s.heap.size (Nat.le_refl _) S_LAST S_POSITION S_COUNT S_LOCAL_NAME S_NAMESPACE_URI S_NAME S_STRING S_CONCAT S_STARTS_WITH S_CONTAINS S_SUBSTRING_BEFORE S_SUBSTRING_AFTER S_SUBSTRING S_STRING_LENGTH S_NORMALIZE_SPACE S_TRANSLATE S_BOOLEAN S_NOT S_TRUE S_FALSE S_NUMBER S_SUM S_FLOOR S_CEILING S_ROUND E_SUBSTRING_AFTER F_fewest_SUBSTRING_AFTER F_most_SUBSTRING_AFTER (Or.inr (Or.inr (Or.inr (Or.inr (Or.inr (Or.inr (Or.inr (⟨(by rw [c]; decide), (by rw [c]; decide), (by rw [c]; decide), (by rw [c]; decide), (by rw [c]; decide), (by rw [c]; decide), (by rw [c]; decide), rfl⟩)))))))) (by decide) (by decide) E_LAST E_POSITION E_COUNT E_LOCAL_NAME E_NAMESPACE_URI E_NAME E_STRING E_CONCAT E_STARTS_WITH E_CONTAINS E_SUBSTRING_BEFORE E_SUBSTRING_AFTER E_SUBSTRING E_STRING_LENGTH E_NORMALIZE_SPACE E_TRANSLATE E_BOOLEAN E_NOT E_TRUE E_FALSE E_NUMBER E_SUM E_FLOOR E_CEILING E_ROUND hr (by rw [c]; rfl) p e ha hc hk s m _ below hf ((Spec.applies_iff_loose hf).mp happ).1 ⟨rfl, State.Warmed39.refl s, rfl⟩ trivial
    refine ⟨n, _, h1, h2, h3, hpost _ _ _ _ _ _ ⟨Cond.after_iff.mpr rfl, Cond.after_iff.mpr (eq_i res_at (Term.int_eval (1)) rfl), trivial⟩ ⟨hq.1, hq.2.1, (hq.2.2.sift fun y hy => Or.inr (N y hy)).mono (by decide) (by decide)⟩⟩
  ·
    obtain ⟨n, o, h1, h2, h3, _, L, rfl, ⟨rfl, N⟩, hq⟩ := rm0_C l s _ hw tables_1 i0 a_LAST a_POSITION a_COUNT a_LOCAL_NAME a_NAMESPACE_URI a_NAME a_STRING a_CONCAT a_STARTS_WITH a_CONTAINS a_SUBSTRING_BEFORE a_SUBSTRING_AFTER a_SUBSTRING a_STRING_LENGTH a_NORMALIZE_SPACE a_TRANSLATE a_BOOLEAN a_NOT a_TRUE a_FALSE a_NUMBER a_SUM a_FLOOR a_CEILING a_ROUND a_SUBSTRING (2 : Int32) (3 : Int32) s.heap s.heap.size (Nat.le_refl _) S_LAST S_POSITION S_COUNT S_LOCAL_NAME S_NAMESPACE_URI S_NAME S_STRING S_CONCAT S_STARTS_WITH S_CONTAINS S_SUBSTRING_BEFORE S_SUBSTRING_AFTER S_SUBSTRING S_STRING_LENGTH S_NORMALIZE_SPACE S_TRANSLATE S_BOOLEAN S_NOT S_TRUE S_FALSE S_NUMBER S_SUM S_FLOOR S_CEILING S_ROUND E_SUBSTRING F_fewest_SUBSTRING F_most_SUBSTRING (Or.inr (Or.inr (Or.inr (Or.inr (Or.inr (Or.inr (Or.inr (⟨(by rw [c]; decide), (by rw [c]; decide), (by rw [c]; decide), (by rw [c]; decide), (by rw [c]; decide), (by rw [c]; decide), (by rw [c]; decide), rfl⟩)))))))) (by decide) (by decide) E_LAST E_POSITION E_COUNT E_LOCAL_NAME E_NAMESPACE_URI E_NAME E_STRING E_CONCAT E_STARTS_WITH E_CONTAINS E_SUBSTRING_BEFORE E_SUBSTRING_AFTER E_SUBSTRING E_STRING_LENGTH E_NORMALIZE_SPACE E_TRANSLATE E_BOOLEAN E_NOT E_TRUE E_FALSE E_NUMBER E_SUM E_FLOOR E_CEILING E_ROUND hr (by rw [c]; rfl) p e ha hc hk s m _ below hf ((Spec.applies_iff_loose hf).mp happ).1 ⟨rfl, State.Warmed39.refl s, rfl⟩ trivial
    refine ⟨n, _, h1, h2, h3, hpost _ _ _ _ _ _ ⟨Cond.after_iff.mpr rfl, Cond.after_iff.mpr (eq_i res_at (Term.int_eval (1)) rfl), trivial⟩ ⟨hq.1, hq.2.1, (hq.2.2.sift fun y hy => Or.inr (N y hy)).mono (by decide) (by decide)⟩⟩
  ·
    obtain ⟨n, o, h1, h2, h3, _, L, rfl, ⟨rfl, N⟩, hq⟩ := rm0_A l s _ hw tables_1 i0 a_LAST a_POSITION a_COUNT a_LOCAL_NAME a_NAMESPACE_URI a_NAME a_STRING a_CONCAT a_STARTS_WITH a_CONTAINS a_SUBSTRING_BEFORE a_SUBSTRING_AFTER a_SUBSTRING a_STRING_LENGTH a_NORMALIZE_SPACE a_TRANSLATE a_BOOLEAN a_NOT a_TRUE a_FALSE a_NUMBER a_SUM a_FLOOR a_CEILING a_ROUND a_STRING_LENGTH s.heap s.heap.size (Nat.le_refl _) S_LAST S_POSITION S_COUNT S_LOCAL_NAME S_NAMESPACE_URI S_NAME S_STRING S_CONCAT S_STARTS_WITH S_CONTAINS S_SUBSTRING_BEFORE S_SUBSTRING_AFTER S_SUBSTRING S_STRING_LENGTH S_NORMALIZE_SPACE S_TRANSLATE S_BOOLEAN S_NOT S_TRUE S_FALSE S_NUMBER S_SUM S_FLOOR S_CEILING S_ROUND E_STRING_LENGTH F_fewest_STRING_LENGTH F_most_STRING_LENGTH (Or.inr (Or.inr (Or.inr (Or.inr (Or.inl ⟨(by rw [c]; decide), (by rw [c]; decide), (by rw [c]; decide), (by rw [c]; decide), c, rfl⟩))))) E_LAST E_POSITION E_COUNT E_LOCAL_NAME E_NAMESPACE_URI E_NAME E_STRING E_CONCAT E_STARTS_WITH E_CONTAINS E_SUBSTRING_BEFORE E_SUBSTRING_AFTER E_SUBSTRING E_STRING_LENGTH E_NORMALIZE_SPACE E_TRANSLATE E_BOOLEAN E_NOT E_TRUE E_FALSE E_NUMBER E_SUM E_FLOOR E_CEILING E_ROUND hr (by rw [c]; rfl) p e ha hc hk s m _ below hf ((Spec.applies_iff_loose hf).mp happ).1 ⟨rfl, State.Warmed39.refl s, rfl⟩ trivial
    refine ⟨n, _, h1, h2, h3, hpost _ _ _ _ _ _ ⟨Cond.after_iff.mpr rfl, Cond.after_iff.mpr (eq_i res_at (Term.int_eval (1)) rfl), trivial⟩ ⟨hq.1, hq.2.1, (hq.2.2.sift fun y hy => Or.inr (N y hy)).mono (by decide) (by decide)⟩⟩
  ·
    obtain ⟨n, o, h1, h2, h3, _, L, rfl, ⟨rfl, N⟩, hq⟩ := rm0_A l s _ hw tables_1 i0 a_LAST a_POSITION a_COUNT a_LOCAL_NAME a_NAMESPACE_URI a_NAME a_STRING a_CONCAT a_STARTS_WITH a_CONTAINS a_SUBSTRING_BEFORE a_SUBSTRING_AFTER a_SUBSTRING a_STRING_LENGTH a_NORMALIZE_SPACE a_TRANSLATE a_BOOLEAN a_NOT a_TRUE a_FALSE a_NUMBER a_SUM a_FLOOR a_CEILING a_ROUND a_NORMALIZE_SPACE s.heap s.heap.size (Nat.le_refl _) S_LAST S_POSITION S_COUNT S_LOCAL_NAME S_NAMESPACE_URI S_NAME S_STRING S_CONCAT S_STARTS_WITH S_CONTAINS S_SUBSTRING_BEFORE S_SUBSTRING_AFTER S_SUBSTRING S_STRING_LENGTH S_NORMALIZE_SPACE S_TRANSLATE S_BOOLEAN S_NOT S_TRUE S_FALSE S_NUMBER S_SUM S_FLOOR S_CEILING S_ROUND E_NORMALIZE_SPACE F_fewest_NORMALIZE_SPACE F_most_NORMALIZE_SPACE (Or.inr (Or.inr (Or.inr (Or.inr (Or.inr (Or.inl ⟨(by rw [c]; decide), (by rw [c]; decide), (by rw [c]; decide), (by rw [c]; decide), (by rw [c]; decide), c, rfl⟩)))))) E_LAST E_POSITION E_COUNT E_LOCAL_NAME E_NAMESPACE_URI E_NAME E_STRING E_CONCAT E_STARTS_WITH E_CONTAINS E_SUBSTRING_BEFORE E_SUBSTRING_AFTER E_SUBSTRING E_STRING_LENGTH E_NORMALIZE_SPACE E_TRANSLATE E_BOOLEAN E_NOT E_TRUE E_FALSE E_NUMBER E_SUM E_FLOOR E_CEILING E_ROUND hr (by rw [c]; rfl) p e ha hc hk s m _ below hf ((Spec.applies_iff_loose hf).mp happ).1 ⟨rfl, State.Warmed39.refl s, rfl⟩ trivial
    refine ⟨n, _, h1, h2, h3, hpost _ _ _ _ _ _ ⟨Cond.after_iff.mpr rfl, Cond.after_iff.mpr (eq_i res_at (Term.int_eval (1)) rfl), trivial⟩ ⟨hq.1, hq.2.1, (hq.2.2.sift fun y hy => Or.inr (N y hy)).mono (by decide) (by decide)⟩⟩
  ·
    obtain ⟨n, o, h1, h2, h3, _, L, rfl, ⟨rfl, N⟩, hq⟩ := rm0_C l s _ hw tables_1 i0 a_LAST a_POSITION a_COUNT a_LOCAL_NAME a_NAMESPACE_URI a_NAME a_STRING a_CONCAT a_STARTS_WITH a_CONTAINS a_SUBSTRING_BEFORE a_SUBSTRING_AFTER a_SUBSTRING a_STRING_LENGTH a_NORMALIZE_SPACE a_TRANSLATE a_BOOLEAN a_NOT a_TRUE a_FALSE a_NUMBER a_SUM a_FLOOR a_CEILING a_ROUND a_TRANSLATE (3 : Int32) (3 : Int32) s.heap s.heap.size (Nat.le_refl _) S_LAST S_POSITION S_COUNT S_LOCAL_NAME S_NAMESPACE_URI S_NAME S_STRING S_CONCAT S_STARTS_WITH S_CONTAINS S_SUBSTRING_BEFORE S_SUBSTRING_AFTER S_SUBSTRING S_STRING_LENGTH S_NORMALIZE_SPACE S_TRANSLATE S_BOOLEAN S_NOT S_TRUE S_FALSE S_NUMBER S_SUM S_FLOOR S_CEILING S_ROUND E_TRANSLATE F_fewest_TRANSLATE F_most_TRANSLATE (Or.inr (Or.inr (Or.inr (Or.inr (Or.inr (Or.inr (Or.inr (⟨(by rw [c]; decide), (by rw [c]; decide), (by rw [c]; decide), (by rw [c]; decide), (by rw [c]; decide), (by rw [c]; decide), (by rw [c]; decide), rfl⟩)))))))) (by decide) (by decide) E_LAST E_POSITION E_COUNT E_LOCAL_NAME E_NAMESPACE_URI E_NAME E_STRING E_CONCAT E_STARTS_WITH E_CONTAINS E_SUBSTRING_BEFORE E_SUBSTRING_AFTER E_SUBSTRING E_STRING_LENGTH E_NORMALIZE_SPACE E_TRANSLATE E_BOOLEAN E_NOT E_TRUE E_FALSE E_NUMBER E_SUM E_FLOOR E_CEILING E_ROUND hr (by rw [c]; rfl) p e ha hc hk s m _ below hf ((Spec.applies_iff_loose hf).mp happ).1 ⟨rfl, State.Warmed39.refl s, rfl⟩ trivial
    refine ⟨n, _, h1, h2, h3, hpost _ _ _ _ _ _ ⟨Cond.after_iff.mpr rfl, Cond.after_iff.mpr (eq_i res_at (Term.int_eval (1)) rfl), trivial⟩ ⟨hq.1, hq.2.1, (hq.2.2.sift fun y hy => Or.inr (N y hy)).mono (by decide) (by decide)⟩⟩
  ·
    obtain ⟨n, o, h1, h2, h3, _, L, rfl, ⟨rfl, N⟩, hq⟩ := rm0_C l s _ hw tables_1 i0 a_LAST a_POSITION a_COUNT a_LOCAL_NAME a_NAMESPACE_URI a_NAME a_STRING a_CONCAT a_STARTS_WITH a_CONTAINS a_SUBSTRING_BEFORE a_SUBSTRING_AFTER a_SUBSTRING a_STRING_LENGTH a_NORMALIZE_SPACE a_TRANSLATE a_BOOLEAN a_NOT a_TRUE a_FALSE a_NUMBER a_SUM a_FLOOR a_CEILING a_ROUND a_BOOLEAN (1 : Int32) (1 : Int32) s.heap s.heap.size (Nat.le_refl _) S_LAST S_POSITION S_COUNT S_LOCAL_NAME S_NAMESPACE_URI S_NAME S_STRING S_CONCAT S_STARTS_WITH S_CONTAINS S_SUBSTRING_BEFORE S_SUBSTRING_AFTER S_SUBSTRING S_STRING_LENGTH S_NORMALIZE_SPACE S_TRANSLATE S_BOOLEAN S_NOT S_TRUE S_FALSE S_NUMBER S_SUM S_FLOOR S_CEILING S_ROUND E_BOOLEAN F_fewest_BOOLEAN F_most_BOOLEAN (Or.inr (Or.inr (Or.inr (Or.inr (Or.inr (Or.inr (Or.inr (⟨(by rw [c]; decide), (by rw [c]; decide), (by rw [c]; decide), (by rw [c]; decide), (by rw [c]; decide), (by rw [c]; decide), (by rw [c]; decide), rfl⟩)))))))) (by decide) (by decide) E_LAST E_POSITION E_COUNT E_LOCAL_NAME E_NAMESPACE_URI E_NAME E_STRING E_CONCAT E_STARTS_WITH E_CONTAINS E_SUBSTRING_BEFORE E_SUBSTRING_AFTER E_SUBSTRING E_STRING_LENGTH E_NORMALIZE_SPACE E_TRANSLATE E_BOOLEAN E_NOT E_TRUE E_FALSE E_NUMBER E_SUM E_FLOOR E_CEILING E_ROUND hr (by rw [c]; rfl) p e ha hc hk s m _ below hf ((Spec.applies_iff_loose hf).mp happ).1 ⟨rfl, State.Warmed39.refl s, rfl⟩ trivial
    refine ⟨n, _, h1, h2, h3, hpost _ _ _ _ _ _ ⟨Cond.after_iff.mpr rfl, Cond.after_iff.mpr (eq_i res_at (Term.int_eval (1)) rfl), trivial⟩ ⟨hq.1, hq.2.1, (hq.2.2.sift fun y hy => Or.inr (N y hy)).mono (by decide) (by decide)⟩⟩
  ·
    obtain ⟨n, o, h1, h2, h3, _, L, rfl, ⟨rfl, N⟩, hq⟩ := rm0_C l s _ hw tables_1 i0 a_LAST a_POSITION a_COUNT a_LOCAL_NAME a_NAMESPACE_URI a_NAME a_STRING a_CONCAT a_STARTS_WITH a_CONTAINS a_SUBSTRING_BEFORE a_SUBSTRING_AFTER a_SUBSTRING a_STRING_LENGTH a_NORMALIZE_SPACE a_TRANSLATE a_BOOLEAN a_NOT a_TRUE a_FALSE a_NUMBER a_SUM a_FLOOR a_CEILING a_ROUND a_NOT (1 : Int32) (1 : Int32) s.heap s.heap.size (Nat.le_refl _) S_LAST S_POSITION S_COUNT S_LOCAL_NAME S_NAMESPACE_URI S_NAME S_STRING S_CONCAT S_STARTS_WITH S_CONTAINS S_SUBSTRING_BEFORE S_SUBSTRING_AFTER S_SUBSTRING S_STRING_LENGTH S_NORMALIZE_SPACE S_TRANSLATE S_BOOLEAN S_NOT S_TRUE S_FALSE S_NUMBER S_SUM S_FLOOR S_CEILING S_ROUND E_NOT F_fewest_NOT F_most_NOT (Or.inr (Or.inr (Or.inr (Or.inr (Or.inr (Or.inr (Or.inr (⟨(by rw [c]; decide), (by rw [c]; decide), (by rw [c]; decide), (by rw [c]; decide), (by rw [c]; decide), (by rw [c]; decide), (by rw [c]; decide), rfl⟩)))))))) (by decide) (by decide) E_LAST E_POSITION E_COUNT E_LOCAL_NAME E_NAMESPACE_URI E_NAME E_STRING E_CONCAT E_STARTS_WITH E_CONTAINS E_SUBSTRING_BEFORE E_SUBSTRING_AFTER E_SUBSTRING E_STRING_LENGTH E_NORMALIZE_SPACE E_TRANSLATE E_BOOLEAN E_NOT E_TRUE E_FALSE E_NUMBER E_SUM E_FLOOR E_CEILING E_ROUND hr (by rw [c]; rfl) p e ha hc hk s m _ below hf ((Spec.applies_iff_loose hf).mp happ).1 ⟨rfl, State.Warmed39.refl s, rfl⟩ trivial
    refine ⟨n, _, h1, h2, h3, hpost _ _ _ _ _ _ ⟨Cond.after_iff.mpr rfl, Cond.after_iff.mpr (eq_i res_at (Term.int_eval (1)) rfl), trivial⟩ ⟨hq.1, hq.2.1, (hq.2.2.sift fun y hy => Or.inr (N y hy)).mono (by decide) (by decide)⟩⟩
  ·
    obtain ⟨n, o, h1, h2, h3, _, L, rfl, ⟨rfl, N⟩, hq⟩ := rm0_B l s _ hw tables_1 i0 a_LAST a_POSITION a_COUNT a_LOCAL_NAME a_NAMESPACE_URI a_NAME a_STRING a_CONCAT a_STARTS_WITH a_CONTAINS a_SUBSTRING_BEFORE a_SUBSTRING_AFTER a_SUBSTRING a_STRING_LENGTH a_NORMALIZE_SPACE a_TRANSLATE a_BOOLEAN a_NOT a_TRUE a_FALSE a_NUMBER a_SUM a_FLOOR a_CEILING a_ROUND a_TRUE s.heap s.heap.size (Nat.le_refl _) S_LAST S_POSITION S_COUNT S_LOCAL_NAME S_NAMESPACE_URI S_NAME S_STRING S_CONCAT S_STARTS_WITH S_CONTAINS S_SUBSTRING_BEFORE S_SUBSTRING_AFTER S_SUBSTRING S_STRING_LENGTH S_NORMALIZE_SPACE S_TRANSLATE S_BOOLEAN S_NOT S_TRUE S_FALSE S_NUMBER S_SUM S_FLOOR S_CEILING S_ROUND E_TRUE F_fewest_TRUE F_most_TRUE (Or.inr (Or.inr (Or.inr (Or.inr (Or.inr (Or.inr (Or.inr (⟨(by rw [c]; decide), (by rw [c]; decide), (by rw [c]; decide), (by rw [c]; decide), (by rw [c]; decide), (by rw [c]; decide), (by rw [c]; decide), rfl⟩)))))))) E_LAST E_POSITION E_COUNT E_LOCAL_NAME E_NAMESPACE_URI E_NAME E_STRING E_CONCAT E_STARTS_WITH E_CONTAINS E_SUBSTRING_BEFORE E_SUBSTRING_AFTER E_SUBSTRING E_STRING_LENGTH E_NORMALIZE_SPACE E_TRANSLATE E_BOOLEAN E_NOT E_TRUE E_FALSE E_NUMBER E_SUM E_FLOOR E_CEILING E_ROUND hr (by rw [c]; rfl) p e ha hc hk s m _ below hf ((Spec.applies_iff_loose hf).mp happ).1 ⟨rfl, State.Warmed39.refl s, rfl⟩ trivial
    refine ⟨n, _, h1, h2, h3, hpost _ _ _ _ _ _ ⟨Cond.after_iff.mpr rfl, Cond.after_iff.mpr (eq_i res_at (Term.int_eval (1)) rfl), trivial⟩ ⟨hq.1, hq.2.1, (hq.2.2.sift fun y hy => Or.inr (N y hy)).mono (by decide) (by decide)⟩⟩
  ·
    obtain ⟨n, o, h1, h2, h3, _, L, rfl, ⟨rfl, N⟩, hq⟩ := rm0_B l s _ hw tables_1 i0 a_LAST a_POSITION a_COUNT a_LOCAL_NAME a_NAMESPACE_URI a_NAME a_STRING a_CONCAT a_STARTS_WITH a_CONTAINS a_SUBSTRING_BEFORE a_SUBSTRING_AFTER a_SUBSTRING a_STRING_LENGTH a_NORMALIZE_SPACE a_TRANSLATE a_BOOLEAN a_NOT a_TRUE a_FALSE a_NUMBER a_SUM a_FLOOR a_CEILING a_ROUND a_FALSE s.heap s.heap.size (Nat.le_refl _) S_LAST S_POSITION S_COUNT S_LOCAL_NAME S_NAMESPACE_URI S_NAME S_STRING S_CONCAT S_STARTS_WITH S_CONTAINS S_SUBSTRING_BEFORE S_SUBSTRING_AFTER S_SUBSTRING S_STRING_LENGTH S_NORMALIZE_SPACE S_TRANSLATE S_BOOLEAN S_NOT S_TRUE S_FALSE S_NUMBER S_SUM S_FLOOR S_CEILING S_ROUND E_FALSE F_fewest_FALSE F_most_FALSE (Or.inr (Or.inr (Or.inr (Or.inr (Or.inr (Or.inr (Or.inr (⟨(by rw [c]; decide), (by rw [c]; decide), (by rw [c]; decide), (by rw [c]; decide), (by rw [c]; decide), (by rw [c]; decide), (by rw [c]; decide), rfl⟩)))))))) E_LAST E_POSITION E_COUNT E_LOCAL_NAME E_NAMESPACE_URI E_NAME E_STRING E_CONCAT E_STARTS_WITH E_CONTAINS E_SUBSTRING_BEFORE E_SUBSTRING_AFTER E_SUBSTRING E_STRING_LENGTH E_NORMALIZE_SPACE E_TRANSLATE E_BOOLEAN E_NOT E_TRUE E_FALSE E_NUMBER E_SUM E_FLOOR E_CEILING E_ROUND hr (by rw [c]; rfl) p e ha hc hk s m _ below hf ((Spec.applies_iff_loose hf).mp happ).1 ⟨rfl, State.Warmed39.refl s, rfl⟩ trivial
    refine ⟨n, _, h1, h2, h3, hpost _ _ _ _ _ _ ⟨Cond.after_iff.mpr rfl, Cond.after_iff.mpr (eq_i res_at (Term.int_eval (1)) rfl), trivial⟩ ⟨hq.1, hq.2.1, (hq.2.2.sift fun y hy => Or.inr (N y hy)).mono (by decide) (by decide)⟩⟩
  ·
    obtain ⟨n, o, h1, h2, h3, _, L, rfl, ⟨rfl, N⟩, hq⟩ := rm0_A l s _ hw tables_1 i0 a_LAST a_POSITION a_COUNT a_LOCAL_NAME a_NAMESPACE_URI a_NAME a_STRING a_CONCAT a_STARTS_WITH a_CONTAINS a_SUBSTRING_BEFORE a_SUBSTRING_AFTER a_SUBSTRING a_STRING_LENGTH a_NORMALIZE_SPACE a_TRANSLATE a_BOOLEAN a_NOT a_TRUE a_FALSE a_NUMBER a_SUM a_FLOOR a_CEILING a_ROUND a_NUMBER s.heap s.heap.size (Nat.le_refl _) S_LAST S_POSITION S_COUNT S_LOCAL_NAME S_NAMESPACE_URI S_NAME S_STRING S_CONCAT S_STARTS_WITH S_CONTAINS S_SUBSTRING_BEFORE S_SUBSTRING_AFTER S_SUBSTRING S_STRING_LENGTH S_NORMALIZE_SPACE S_TRANSLATE S_BOOLEAN S_NOT S_TRUE S_FALSE S_NUMBER S_SUM S_FLOOR S_CEILING S_ROUND E_NUMBER F_fewest_NUMBER F_most_NUMBER (Or.inr (Or.inr (Or.inr (Or.inr (Or.inr (Or.inr (Or.inl ⟨(by rw [c]; decide), (by rw [c]; decide), (by rw [c]; decide), (by rw [c]; decide), (by rw [c]; decide), (by rw [c]; decide), c, rfl⟩))))))) E_LAST E_POSITION E_COUNT E_LOCAL_NAME E_NAMESPACE_URI E_NAME E_STRING E_CONCAT E_STARTS_WITH E_CONTAINS E_SUBSTRING_BEFORE E_SUBSTRING_AFTER E_SUBSTRING E_STRING_LENGTH E_NORMALIZE_SPACE E_TRANSLATE E_BOOLEAN E_NOT E_TRUE E_FALSE E_NUMBER E_SUM E_FLOOR E_CEILING E_ROUND hr (by rw [c]; rfl) p e ha hc hk s m _ below hf ((Spec.applies_iff_loose hf).mp happ).1 ⟨rfl, State.Warmed39.refl s, rfl⟩ trivial
    refine ⟨n, _, h1, h2, h3, hpost _ _ _ _ _ _ ⟨Cond.after_iff.mpr rfl, Cond.after_iff.mpr (eq_i res_at (Term.int_eval (1)) rfl), trivial⟩ ⟨hq.1, hq.2.1, (hq.2.2.sift fun y hy => Or.inr (N y hy)).mono (by decide) (by decide)⟩⟩
  ·
    obtain ⟨n, o, h1, h2, h3, _, L, rfl, ⟨rfl, N⟩, hq⟩ := rm0_C l s _ hw tables_1 i0 a_LAST a_POSITION a_COUNT a_LOCAL_NAME a_NAMESPACE_URI a_NAME a_STRING a_CONCAT a_STARTS_WITH a_CONTAINS a_SUBSTRING_BEFORE a_SUBSTRING_AFTER a_SUBSTRING a_STRING_LENGTH a_NORMALIZE_SPACE a_TRANSLATE a_BOOLEAN a_NOT a_TRUE a_FALSE a_NUMBER a_SUM a_FLOOR a_CEILING a_ROUND a_SUM (1 : Int32) (1 : Int32) s.heap s.heap.size (Nat.le_refl _) S_LAST S_POSITION S_COUNT S_LOCAL_NAME S_NAMESPACE_URI S_NAME S_STRING S_CONCAT S_STARTS_WITH S_CONTAINS S_SUBSTRING_BEFORE S_SUBSTRING_AFTER S_SUBSTRING S_STRING_LENGTH S_NORMALIZE_SPACE S_TRANSLATE S_BOOLEAN S_NOT S_TRUE S_FALSE S_NUMBER S_SUM S_FLOOR S_CEILING S_ROUND E_SUM F_fewest_SUM F_most_SUM (Or.inr (Or.inr (Or.inr (Or.inr (Or.inr (Or.inr (Or.inr (⟨(by rw [c]; decide), (by rw [c]; decide), (by rw [c]; decide), (by rw [c]; decide), (by rw [c]; decide), (by rw [c]; decide), (by rw [c]; decide), rfl⟩)))))))) (by decide) (by decide) E_LAST E_POSITION E_COUNT E_LOCAL_NAME E_NAMESPACE_URI E_NAME E_STRING E_CONCAT E_STARTS_WITH E_CONTAINS E_SUBSTRING_BEFORE E_SUBSTRING_AFTER E_SUBSTRING E_STRING_LENGTH E_NORMALIZE_SPACE E_TRANSLATE E_BOOLEAN E_NOT E_TRUE E_FALSE E_NUMBER E_SUM E_FLOOR E_CEILING E_ROUND hr (by rw [c]; rfl) p e ha hc hk s m _ below hf ((Spec.applies_iff_loose hf).mp happ).1 ⟨rfl, State.Warmed39.refl s, rfl⟩ trivial
    refine ⟨n, _, h1, h2, h3, hpost _ _ _ _ _ _ ⟨Cond.after_iff.mpr rfl, Cond.after_iff.mpr (eq_i res_at (Term.int_eval (1)) rfl), trivial⟩ ⟨hq.1, hq.2.1, (hq.2.2.sift fun y hy => Or.inr (N y hy)).mono (by decide) (by decide)⟩⟩
  ·
    obtain ⟨n, o, h1, h2, h3, _, L, rfl, ⟨rfl, N⟩, hq⟩ := rm0_C l s _ hw tables_1 i0 a_LAST a_POSITION a_COUNT a_LOCAL_NAME a_NAMESPACE_URI a_NAME a_STRING a_CONCAT a_STARTS_WITH a_CONTAINS a_SUBSTRING_BEFORE a_SUBSTRING_AFTER a_SUBSTRING a_STRING_LENGTH a_NORMALIZE_SPACE a_TRANSLATE a_BOOLEAN a_NOT a_TRUE a_FALSE a_NUMBER a_SUM a_FLOOR a_CEILING a_ROUND a_FLOOR (1 : Int32) (1 : Int32) s.heap s.heap.size (Nat.le_refl _) S_LAST S_POSITION S_COUNT S_LOCAL_NAME S_NAMESPACE_URI S_NAME S_STRING S_CONCAT S_STARTS_WITH S_CONTAINS S_SUBSTRING_BEFORE S_SUBSTRING_AFTER S_SUBSTRING S_STRING_LENGTH S_NORMALIZE_SPACE S_TRANSLATE S_BOOLEAN S_NOT S_TRUE S_FALSE S_NUMBER S_SUM S_FLOOR S_CEILING S_ROUND E_FLOOR F_fewest_FLOOR F_most_FLOOR (Or.inr (Or.inr (Or.inr (Or.inr (Or.inr (Or.inr (Or.inr (⟨(by rw [c]; decide), (by rw [c]; decide), (by rw [c]; decide), (by rw [c]; decide), (by rw [c]; decide), (by rw [c]; decide), (by rw [c]; decide), rfl⟩)))))))) (by decide) (by decide) E_LAST E_POSITION E_COUNT E_LOCAL_NAME E_NAMESPACE_URI E_NAME E_STRING E_CONCAT E_STARTS_WITH E_CONTAINS E_SUBSTRING_BEFORE E_SUBSTRING_AFTER E_SUBSTRING E_STRING_LENGTH E_NORMALIZE_SPACE E_TRANSLATE E_BOOLEAN E_NOT E_TRUE E_FALSE E_NUMBER E_SUM E_FLOOR E_CEILING E_ROUND hr (by rw [c]; rfl) p e ha hc hk s m _ below hf ((Spec.applies_iff_loose hf).mp happ).1 ⟨rfl, State.Warmed39.refl s, rfl⟩ trivial
    refine ⟨n, _, h1, h2, h3, hpost _ _ _ _ _ _ ⟨Cond.after_iff.mpr rfl, Cond.after_iff.mpr (eq_i res_at (Term.int_eval (1)) rfl), trivial⟩ ⟨hq.1, hq.2.1, (hq.2.2.sift fun y hy => Or.inr (N y hy)).mono (by decide) (by decide)⟩⟩
  ·
    obtain ⟨n, o, h1, h2, h3, _, L, rfl, ⟨rfl, N⟩, hq⟩ := rm0_C l s _ hw tables_1 i0 a_LAST a_POSITION a_COUNT a_LOCAL_NAME a_NAMESPACE_URI a_NAME a_STRING a_CONCAT a_STARTS_WITH a_CONTAINS a_SUBSTRING_BEFORE a_SUBSTRING_AFTER a_SUBSTRING a_STRING_LENGTH a_NORMALIZE_SPACE a_TRANSLATE a_BOOLEAN a_NOT a_TRUE a_FALSE a_NUMBER a_SUM a_FLOOR a_CEILING a_ROUND a_CEILING (1 : Int32) (1 : Int32) s.heap s.heap.size (Nat.le_refl _) S_LAST S_POSITION S_COUNT S_LOCAL_NAME S_NAMESPACE_URI S_NAME S_STRING S_CONCAT S_STARTS_WITH S_CONTAINS S_SUBSTRING_BEFORE S_SUBSTRING_AFTER S_SUBSTRING S_STRING_LENGTH S_NORMALIZE_SPACE S_TRANSLATE S_BOOLEAN S_NOT S_TRUE S_FALSE S_NUMBER S_SUM S_FLOOR S_CEILING S_ROUND E_CEILING F_fewest_CEILING F_most_CEILING (Or.inr (Or.inr (Or.inr (Or.inr (Or.inr (Or.inr (Or.inr (⟨(by rw [c]; decide), (by rw [c]; decide), (by rw [c]; decide), (by rw [c]; decide), (by rw [c]; decide), (by rw [c]; decide), (by rw [c]; decide), rfl⟩)))))))) (by decide) (by decide) E_LAST E_POSITION E_COUNT E_LOCAL_NAME E_NAMESPACE_URI E_NAME E_STRING E_CONCAT E_STARTS_WITH E_CONTAINS E_SUBSTRING_BEFORE E_SUBSTRING_AFTER E_SUBSTRING E_STRING_LENGTH E_NORMALIZE_SPACE E_TRANSLATE E_BOOLEAN E_NOT E_TRUE E_FALSE E_NUMBER E_SUM E_FLOOR E_CEILING E_ROUND hr (by rw [c]; rfl) p e ha hc hk s m _ below hf ((Spec.applies_iff_loose hf).mp happ).1 ⟨rfl, State.Warmed39.refl s, rfl⟩ trivial
    refine ⟨n, _, h1, h2, h3, hpost _ _ _ _ _ _ ⟨Cond.after_iff.mpr rfl, Cond.after_iff.mpr (eq_i res_at (Term.int_eval (1)) rfl), trivial⟩ ⟨hq.1, hq.2.1, (hq.2.2.sift fun y hy => Or.inr (N y hy)).mono (by decide) (by decide)⟩⟩
  ·
    obtain ⟨n, o, h1, h2, h3, _, L, rfl, ⟨rfl, N⟩, hq⟩ := rm0_C l s _ hw tables_1 i0 a_LAST a_POSITION a_COUNT a_LOCAL_NAME a_NAMESPACE_URI a_NAME a_STRING a_CONCAT a_STARTS_WITH a_CONTAINS a_SUBSTRING_BEFORE a_SUBSTRING_AFTER a_SUBSTRING a_STRING_LENGTH a_NORMALIZE_SPACE a_TRANSLATE a_BOOLEAN a_NOT a_TRUE a_FALSE a_NUMBER a_SUM a_FLOOR a_CEILING a_ROUND a_ROUND (1 : Int32) (1 : Int32) s.heap s.heap.size (Nat.le_refl _) S_LAST S_POSITION S_COUNT S_LOCAL_NAME S_NAMESPACE_URI S_NAME S_STRING S_CONCAT S_STARTS_WITH S_CONTAINS S_SUBSTRING_BEFORE S_SUBSTRING_AFTER S_SUBSTRING S_STRING_LENGTH S_NORMALIZE_SPACE S_TRANSLATE S_BOOLEAN S_NOT S_TRUE S_FALSE S_NUMBER S_SUM S_FLOOR S_CEILING S_ROUND E_ROUND F_fewest_ROUND F_most_ROUND (Or.inr (Or.inr (Or.inr (Or.inr (Or.inr (Or.inr (Or.inr (⟨(by rw [c]; decide), (by rw [c]; decide), (by rw [c]; decide), (by rw [c]; decide), (by rw [c]; decide), (by rw [c]; decide), (by rw [c]; decide), rfl⟩)))))))) (by decide) (by decide) E_LAST E_POSITION E_COUNT E_LOCAL_NAME E_NAMESPACE_URI E_NAME E_STRING E_CONCAT E_STARTS_WITH E_CONTAINS E_SUBSTRING_BEFORE E_SUBSTRING_AFTER E_SUBSTRING E_STRING_LENGTH E_NORMALIZE_SPACE E_TRANSLATE E_BOOLEAN E_NOT E_TRUE E_FALSE E_NUMBER E_SUM E_FLOOR E_CEILING E_ROUND hr (by rw [c]; rfl) p e ha hc hk s m _ below hf ((Spec.applies_iff_loose hf).mp happ).1 ⟨rfl, State.Warmed39.refl s, rfl⟩ trivial
    refine ⟨n, _, h1, h2, h3, hpost _ _ _ _ _ _ ⟨Cond.after_iff.mpr rfl, Cond.after_iff.mpr (eq_i res_at (Term.int_eval (1)) rfl), trivial⟩ ⟨hq.1, hq.2.1, (hq.2.2.sift fun y hy => Or.inr (N y hy)).mono (by decide) (by decide)⟩⟩
theorem main_1_1 : Claimed_1_1 := comes_1 fun _ _ _ _ _ _ h hF => ⟨h.1, hF⟩
theorem main_1_2 : Claimed_1_2 := comes_1 fun _ _ _ _ _ _ h hF => ⟨h.2.1, hF⟩
end Jvm.Pilot.@@N@@
namespace Jvm.Pilot.@@N@@
open Jvm Jvm.ClassFile Sem Op Lib Jvm.Free Jvm.Stand Jvm.Pilot.@@N@@.Jvm.D
/-! MADE BY PROGRAM (witnessworld.py) out of the Statement's table words and the real class files: 13 classes; the members and pool entries that the words name. The judged class is class 1, her method 1. -/
namespace start1
open Jvm.ClassFile
def u (s : String) : CpInfo := .utf8 (stringToUtf16 s)
/-- a pool by its gaps: so many unusable entries, then the entry; so many at the end -/
def gap : Nat → List CpInfo → List CpInfo
  | 0, r => r
  | n + 1, r => .unusable :: gap n r
def poolList (es : List (Nat × CpInfo)) (last : Nat) : List CpInfo := es.foldr (fun e r => gap e.1 (e.2 :: r)) (gap last [])
def pool (es : List (Nat × CpInfo)) (last : Nat) : Array CpInfo := ⟨poolList es last⟩
def fileOf (pool : Array CpInfo) (this : Nat) (attrs : Array Attribute := #[]) (ms : Array MethodInfo := #[]) (fl : Nat := 33) (sup : Nat := 0) (ifs : Array Nat := #[]) (fds : Array FieldInfo := #[]) : ClassFile where
  minorVersion := 0
  majorVersion := 65
  constantPool := pool
  accessFlags := fl
  thisClass := this
  superClass := sup
  interfaces := ifs
  fields := fds
  methods := ms
  attributes := attrs
def plain (name : String) (sup : Option ClassId) : Class where
  name := name
  kind := .ordinary
  loader := none
  accessFlags := 33
  super := sup
  interfaces := #[]
  cf := none
  fields := #[]
  methods := #[]
  instanceTypes := #[]
  staticTypes := #[]
  resolved := #[]
  callSites := []
  init := .initialized
  statics := none
  mirror := none

def pool0 : Array CpInfo := pool [(5, u "<init>"), (0, u "()V"), (1, .class_ 10), (1, u "java/lang/Object")] 113

def k0m0 : Method := { name := "<init>", desc := "()V", sig := { parameters := [], returnType := none }, accessFlags := 1, code := none }
/-- java/lang/Object -/
def k0 : Class := { plain "java/lang/Object" none with
  accessFlags := 33
  interfaces := #[]
  cf := some (fileOf pool0 8 #[] #[{ accessFlags := 1, nameIndex := 5, descriptorIndex := 6, attributes := #[] }] 33 0 #[] #[])
  fields := #[]
  methods := #[k0m0]
  instanceTypes := #[]
  staticTypes := #[]
  resolved := Array.replicate 124 none
  statics := none }

def pool1 : Array CpInfo := pool [(2, .class_ 4), (1, u "java/lang/Object"), (0, u "<init>"), (0, u "()V"), (0, .class_ 8), (0, u "com/example/tupletree/tupletree/query/Function"), (0, .fieldref 7 10), (0, .nameAndType 11 12), (0, u "LAST"), (0, u "Lcom/example/tupletree/tupletree/query/Function;"), (0, .fieldref 7 14), (0, .nameAndType 15 12), (0, u "POSITION"), (0, .fieldref 7 17), (0, .nameAndType 18 12), (0, u "COUNT"), (0, .fieldref 7 20), (0, .nameAndType 21 12), (0, u "LOCAL_NAME"), (0, .fieldref 7 23), (0, .nameAndType 24 12), (0, u "NAMESPACE_URI"), (0, .fieldref 7 26), (0, .nameAndType 27 12), (0, u "NAME"), (0, .fieldref 7 29), (0, .nameAndType 30 12), (0, u "STRING"), (0, .fieldref 7 32), (0, .nameAndType 33 12), (0, u "CONCAT"), (0, .fieldref 7 35), (0, .nameAndType 36 12), (0, u "STARTS_WITH"), (0, .fieldref 7 38), (0, .nameAndType 39 12), (0, u "CONTAINS"), (0, .fieldref 7 41), (0, .nameAndType 42 12), (0, u "SUBSTRING_BEFORE"), (0, .fieldref 7 44), (0, .nameAndType 45 12), (0, u "SUBSTRING_AFTER"), (0, .fieldref 7 47), (0, .nameAndType 48 12), (0, u "SUBSTRING"), (0, .fieldref 7 50), (0, .nameAndType 51 12), (0, u "STRING_LENGTH"), (0, .fieldref 7 53), (0, .nameAndType 54 12), (0, u "NORMALIZE_SPACE"), (0, .fieldref 7 56), (0, .nameAndType 57 12), (0, u "TRANSLATE"), (0, .fieldref 7 59), (0, .nameAndType 60 12), (0, u "BOOLEAN"), (0, .fieldref 7 62), (0, .nameAndType 63 12), (0, u "NOT"), (0, .fieldref 7 65), (0, .nameAndType 66 12), (0, u "TRUE"), (0, .fieldref 7 68), (0, .nameAndType 69 12), (0, u "FALSE"), (0, .fieldref 7 71), (0, .nameAndType 72 12), (0, u "NUMBER"), (0, .fieldref 7 74), (0, .nameAndType 75 12), (0, u "SUM"), (0, .fieldref 7 77), (0, .nameAndType 78 12), (0, u "FLOOR"), (0, .fieldref 7 80), (0, .nameAndType 81 12), (0, u "CEILING"), (0, .fieldref 7 83), (0, .nameAndType 84 12), (0, u "ROUND"), (0, .integer 2147483647), (0, .methodref 7 87), (0, .nameAndType 88 89), (0, u "ofContext"), (0, u "()Z"), (0, .methodref 7 91), (0, .nameAndType 92 93), (0, u "takes"), (0, u "(I)Z"), (0, .class_ 95), (0, u "com/example/tupletree/tupletree/query/FunctionOfContextPinLaw"), (2, u "law")] 5

def k1m0 : Method := { name := "<init>", desc := "()V", sig := { parameters := [], returnType := none }, accessFlags := 1, code := none }
def k1c1 : Code := { maxStack := 4, maxLocals := 7, code := code, exceptionTable := #[], attributes := #[] }
def k1m1 : Method := { name := "law", desc := "(I)Z", sig := { parameters := [.int], returnType := some .boolean }, accessFlags := 9, code := some k1c1 }
/-- com/example/tupletree/tupletree/query/FunctionOfContextPinLaw -/
def k1 : Class := { plain "com/example/tupletree/tupletree/query/FunctionOfContextPinLaw" (some 0) with
  accessFlags := 49
  interfaces := #[]
  cf := some (fileOf pool1 94 #[] #[{ accessFlags := 1, nameIndex := 5, descriptorIndex := 6, attributes := #[] }, { accessFlags := 9, nameIndex := 98, descriptorIndex := 93, attributes := #[] }] 49 2 #[] #[])
  fields := #[]
  methods := #[k1m0, k1m1]
  instanceTypes := #[]
  staticTypes := #[]
  resolved := Array.replicate 104 none
  statics := none }

def pool2 : Array CpInfo := pool [(1, .class_ 2), (0, u "java/lang/constant/Constable"), (0, .class_ 4), (0, u "java/lang/Object")] 6

/-- java/lang/constant/Constable -/
def k2 : Class := { plain "java/lang/constant/Constable" (some 0) with
  accessFlags := 1537
  interfaces := #[]
  cf := some (fileOf pool2 1 #[] #[] 1537 3 #[] #[])
  fields := #[]
  methods := #[]
  instanceTypes := #[]
  staticTypes := #[]
  resolved := Array.replicate 11 none
  statics := none }

def pool3 : Array CpInfo := pool [(1, .class_ 2), (0, u "java/lang/Comparable"), (0, .class_ 4), (0, u "java/lang/Object")] 7

/-- java/lang/Comparable -/
def k3 : Class := { plain "java/lang/Comparable" (some 0) with
  accessFlags := 1537
  interfaces := #[]
  cf := some (fileOf pool3 1 #[] #[] 1537 3 #[] #[])
  fields := #[]
  methods := #[]
  instanceTypes := #[]
  staticTypes := #[]
  resolved := Array.replicate 12 none
  statics := none }

def pool4 : Array CpInfo := pool [(1, .class_ 2), (0, u "java/io/Serializable"), (0, .class_ 4), (0, u "java/lang/Object")] 2

/-- java/io/Serializable -/
def k4 : Class := { plain "java/io/Serializable" (some 0) with
  accessFlags := 1537
  interfaces := #[]
  cf := some (fileOf pool4 1 #[] #[] 1537 3 #[] #[])
  fields := #[]
  methods := #[]
  instanceTypes := #[]
  staticTypes := #[]
  resolved := Array.replicate 7 none
  statics := none }

def pool5 : Array CpInfo := pool [(2, .class_ 4), (1, u "java/lang/Enum"), (0, u "name"), (0, u "Ljava/lang/String;"), (2, u "ordinal"), (0, u "I"), (1, .class_ 14), (1, u "java/lang/Object"), (4, u "hash"), (86, .class_ 108), (1, u "java/lang/Enum$EnumDesc"), (2, .class_ 112), (0, u "java/lang/constant/Constable"), (0, .class_ 114), (0, u "java/lang/Comparable"), (0, .class_ 116), (0, u "java/io/Serializable")] 87

/-- java/lang/Enum -/
def k5 : Class := { plain "java/lang/Enum" (some 0) with
  accessFlags := 1057
  interfaces := #[2, 3, 4]
  cf := some (fileOf pool5 2 #[.nestMembers #[106]] #[] 1057 12 #[111, 113, 115] #[{ accessFlags := 18, nameIndex := 5, descriptorIndex := 6, attributes := #[] }, { accessFlags := 18, nameIndex := 9, descriptorIndex := 10, attributes := #[] }, { accessFlags := 2, nameIndex := 19, descriptorIndex := 10, attributes := #[] }])
  fields := #[{ name := "name", type := (.object "java/lang/String"), accessFlags := 18, slot := 0, constantValue := 0 }, { name := "ordinal", type := .int, accessFlags := 18, slot := 1, constantValue := 0 }, { name := "hash", type := .int, accessFlags := 2, slot := 2, constantValue := 0 }]
  methods := #[]
  instanceTypes := #[(.object "java/lang/String"), .int, .int]
  staticTypes := #[]
  resolved := Array.replicate 204 none
  statics := none }

def pool6 : Array CpInfo := pool [(1, .class_ 2), (0, u "com/example/tupletree/tupletree/query/Function"), (2, u "LAST"), (0, u "Lcom/example/tupletree/tupletree/query/Function;"), (2, u "POSITION"), (2, u "COUNT"), (2, u "LOCAL_NAME"), (2, u "NAMESPACE_URI"), (2, u "NAME"), (2, u "STRING"), (2, u "CONCAT"), (2, u "STARTS_WITH"), (2, u "CONTAINS"), (2, u "SUBSTRING_BEFORE"), (2, u "SUBSTRING_AFTER"), (2, u "SUBSTRING"), (2, u "STRING_LENGTH"), (2, u "NORMALIZE_SPACE"), (2, u "TRANSLATE"), (2, u "BOOLEAN"), (2, u "NOT"), (2, u "TRUE"), (2, u "FALSE"), (2, u "NUMBER"), (2, u "SUM"), (2, u "FLOOR"), (2, u "CEILING"), (2, u "ROUND"), (2, u "$VALUES"), (0, u "[Lcom/example/tupletree/tupletree/query/Function;"), (6, .class_ 91), (1, u "java/lang/Enum"), (8, u "functionName"), (0, u "Ljava/lang/String;"), (2, u "result"), (0, u "Lcom/example/tupletree/tupletree/query/Value$Type;"), (0, .fieldref 1 107), (0, .nameAndType 108 109), (0, u "fewest"), (0, u "I"), (0, .fieldref 1 111), (0, .nameAndType 112 109), (0, u "most"), (8, u "arguments"), (0, u "Ljava/util/List;"), (14, .class_ 138), (0, u "com/example/tupletree/tupletree/query/Function$Argument"), (136, u "takes"), (0, u "(I)Z"), (1, u "ofContext"), (0, u "()Z")] 33

def k6c0 : Code := { maxStack := 2, maxLocals := 2, code := prog_33_method_6_code, exceptionTable := #[], attributes := #[] }
def k6m0 : Method := { name := "takes", desc := "(I)Z", sig := { parameters := [.int], returnType := some .boolean }, accessFlags := 0, code := some k6c0 }
def k6c1 : Code := { maxStack := 2, maxLocals := 1, code := prog_33_method_7_code, exceptionTable := #[], attributes := #[] }
def k6m1 : Method := { name := "ofContext", desc := "()Z", sig := { parameters := [], returnType := some .boolean }, accessFlags := 0, code := some k6c1 }
/-- com/example/tupletree/tupletree/query/Function -/
def k6 : Class := { plain "com/example/tupletree/tupletree/query/Function" (some 5) with
  accessFlags := 16432
  interfaces := #[]
  cf := some (fileOf pool6 1 #[.nestMembers #[137]] #[{ accessFlags := 0, nameIndex := 275, descriptorIndex := 276, attributes := #[] }, { accessFlags := 0, nameIndex := 278, descriptorIndex := 279, attributes := #[] }] 16432 89 #[] #[{ accessFlags := 16409, nameIndex := 5, descriptorIndex := 6, attributes := #[] }, { accessFlags := 16409, nameIndex := 9, descriptorIndex := 6, attributes := #[] }, { accessFlags := 16409, nameIndex := 12, descriptorIndex := 6, attributes := #[] }, { accessFlags := 16409, nameIndex := 15, descriptorIndex := 6, attributes := #[] }, { accessFlags := 16409, nameIndex := 18, descriptorIndex := 6, attributes := #[] }, { accessFlags := 16409, nameIndex := 21, descriptorIndex := 6, attributes := #[] }, { accessFlags := 16409, nameIndex := 24, descriptorIndex := 6, attributes := #[] }, { accessFlags := 16409, nameIndex := 27, descriptorIndex := 6, attributes := #[] }, { accessFlags := 16409, nameIndex := 30, descriptorIndex := 6, attributes := #[] }, { accessFlags := 16409, nameIndex := 33, descriptorIndex := 6, attributes := #[] }, { accessFlags := 16409, nameIndex := 36, descriptorIndex := 6, attributes := #[] }, { accessFlags := 16409, nameIndex := 39, descriptorIndex := 6, attributes := #[] }, { accessFlags := 16409, nameIndex := 42, descriptorIndex := 6, attributes := #[] }, { accessFlags := 16409, nameIndex := 45, descriptorIndex := 6, attributes := #[] }, { accessFlags := 16409, nameIndex := 48, descriptorIndex := 6, attributes := #[] }, { accessFlags := 16409, nameIndex := 51, descriptorIndex := 6, attributes := #[] }, { accessFlags := 16409, nameIndex := 54, descriptorIndex := 6, attributes := #[] }, { accessFlags := 16409, nameIndex := 57, descriptorIndex := 6, attributes := #[] }, { accessFlags := 16409, nameIndex := 60, descriptorIndex := 6, attributes := #[] }, { accessFlags := 16409, nameIndex := 63, descriptorIndex := 6, attributes := #[] }, { accessFlags := 16409, nameIndex := 66, descriptorIndex := 6, attributes := #[] }, { accessFlags := 16409, nameIndex := 69, descriptorIndex := 6, attributes := #[] }, { accessFlags := 16409, nameIndex := 72, descriptorIndex := 6, attributes := #[] }, { accessFlags := 16409, nameIndex := 75, descriptorIndex := 6, attributes := #[] }, { accessFlags := 16409, nameIndex := 78, descriptorIndex := 6, attributes := #[] }, { accessFlags := 18, nameIndex := 100, descriptorIndex := 101, attributes := #[] }, { accessFlags := 18, nameIndex := 104, descriptorIndex := 105, attributes := #[] }, { accessFlags := 18, nameIndex := 108, descriptorIndex := 109, attributes := #[] }, { accessFlags := 18, nameIndex := 112, descriptorIndex := 109, attributes := #[] }, { accessFlags := 18, nameIndex := 121, descriptorIndex := 122, attributes := #[] }, { accessFlags := 4122, nameIndex := 81, descriptorIndex := 82, attributes := #[] }])
  fields := #[{ name := "LAST", type := (.object "com/example/tupletree/tupletree/query/Function"), accessFlags := 16409, slot := 0, constantValue := 0 }, { name := "POSITION", type := (.object "com/example/tupletree/tupletree/query/Function"), accessFlags := 16409, slot := 1, constantValue := 0 }, { name := "COUNT", type := (.object "com/example/tupletree/tupletree/query/Function"), accessFlags := 16409, slot := 2, constantValue := 0 }, { name := "LOCAL_NAME", type := (.object "com/example/tupletree/tupletree/query/Function"), accessFlags := 16409, slot := 3, constantValue := 0 }, { name := "NAMESPACE_URI", type := (.object "com/example/tupletree/tupletree/query/Function"), accessFlags := 16409, slot := 4, constantValue := 0 }, { name := "NAME", type := (.object "com/example/tupletree/tupletree/query/Function"), accessFlags := 16409, slot := 5, constantValue := 0 }, { name := "STRING", type := (.object "com/example/tupletree/tupletree/query/Function"), accessFlags := 16409, slot := 6, constantValue := 0 }, { name := "CONCAT", type := (.object "com/example/tupletree/tupletree/query/Function"), accessFlags := 16409, slot := 7, constantValue := 0 }, { name := "STARTS_WITH", type := (.object "com/example/tupletree/tupletree/query/Function"), accessFlags := 16409, slot := 8, constantValue := 0 }, { name := "CONTAINS", type := (.object "com/example/tupletree/tupletree/query/Function"), accessFlags := 16409, slot := 9, constantValue := 0 }, { name := "SUBSTRING_BEFORE", type := (.object "com/example/tupletree/tupletree/query/Function"), accessFlags := 16409, slot := 10, constantValue := 0 }, { name := "SUBSTRING_AFTER", type := (.object "com/example/tupletree/tupletree/query/Function"), accessFlags := 16409, slot := 11, constantValue := 0 }, { name := "SUBSTRING", type := (.object "com/example/tupletree/tupletree/query/Function"), accessFlags := 16409, slot := 12, constantValue := 0 }, { name := "STRING_LENGTH", type := (.object "com/example/tupletree/tupletree/query/Function"), accessFlags := 16409, slot := 13, constantValue := 0 }, { name := "NORMALIZE_SPACE", type := (.object "com/example/tupletree/tupletree/query/Function"), accessFlags := 16409, slot := 14, constantValue := 0 }, { name := "TRANSLATE", type := (.object "com/example/tupletree/tupletree/query/Function"), accessFlags := 16409, slot := 15, constantValue := 0 }, { name := "BOOLEAN", type := (.object "com/example/tupletree/tupletree/query/Function"), accessFlags := 16409, slot := 16, constantValue := 0 }, { name := "NOT", type := (.object "com/example/tupletree/tupletree/query/Function"), accessFlags := 16409, slot := 17, constantValue := 0 }, { name := "TRUE", type := (.object "com/example/tupletree/tupletree/query/Function"), accessFlags := 16409, slot := 18, constantValue := 0 }, { name := "FALSE", type := (.object "com/example/tupletree/tupletree/query/Function"), accessFlags := 16409, slot := 19, constantValue := 0 }, { name := "NUMBER", type := (.object "com/example/tupletree/tupletree/query/Function"), accessFlags := 16409, slot := 20, constantValue := 0 }, { name := "SUM", type := (.object "com/example/tupletree/tupletree/query/Function"), accessFlags := 16409, slot := 21, constantValue := 0 }, { name := "FLOOR", type := (.object "com/example/tupletree/tupletree/query/Function"), accessFlags := 16409, slot := 22, constantValue := 0 }, { name := "CEILING", type := (.object "com/example/tupletree/tupletree/query/Function"), accessFlags := 16409, slot := 23, constantValue := 0 }, { name := "ROUND", type := (.object "com/example/tupletree/tupletree/query/Function"), accessFlags := 16409, slot := 24, constantValue := 0 }, { name := "functionName", type := (.object "java/lang/String"), accessFlags := 18, slot := 3, constantValue := 0 }, { name := "result", type := (.object "com/example/tupletree/tupletree/query/Value$Type"), accessFlags := 18, slot := 4, constantValue := 0 }, { name := "fewest", type := .int, accessFlags := 18, slot := 5, constantValue := 0 }, { name := "most", type := .int, accessFlags := 18, slot := 6, constantValue := 0 }, { name := "arguments", type := (.object "java/util/List"), accessFlags := 18, slot := 7, constantValue := 0 }, { name := "$VALUES", type := (.array (.object "com/example/tupletree/tupletree/query/Function")), accessFlags := 4122, slot := 25, constantValue := 0 }]
  methods := #[k6m0, k6m1]
  instanceTypes := #[(.object "java/lang/String"), .int, .int, (.object "java/lang/String"), (.object "com/example/tupletree/tupletree/query/Value$Type"), .int, .int, (.object "java/util/List")]
  staticTypes := #[(.object "com/example/tupletree/tupletree/query/Function"), (.object "com/example/tupletree/tupletree/query/Function"), (.object "com/example/tupletree/tupletree/query/Function"), (.object "com/example/tupletree/tupletree/query/Function"), (.object "com/example/tupletree/tupletree/query/Function"), (.object "com/example/tupletree/tupletree/query/Function"), (.object "com/example/tupletree/tupletree/query/Function"), (.object "com/example/tupletree/tupletree/query/Function"), (.object "com/example/tupletree/tupletree/query/Function"), (.object "com/example/tupletree/tupletree/query/Function"), (.object "com/example/tupletree/tupletree/query/Function"), (.object "com/example/tupletree/tupletree/query/Function"), (.object "com/example/tupletree/tupletree/query/Function"), (.object "com/example/tupletree/tupletree/query/Function"), (.object "com/example/tupletree/tupletree/query/Function"), (.object "com/example/tupletree/tupletree/query/Function"), (.object "com/example/tupletree/tupletree/query/Function"), (.object "com/example/tupletree/tupletree/query/Function"), (.object "com/example/tupletree/tupletree/query/Function"), (.object "com/example/tupletree/tupletree/query/Function"), (.object "com/example/tupletree/tupletree/query/Function"), (.object "com/example/tupletree/tupletree/query/Function"), (.object "com/example/tupletree/tupletree/query/Function"), (.object "com/example/tupletree/tupletree/query/Function"), (.object "com/example/tupletree/tupletree/query/Function"), (.array (.object "com/example/tupletree/tupletree/query/Function"))]
  resolved := Array.replicate 313 none
  statics := some 0 }

def pool7 : Array CpInfo := pool [(1, u "java/lang/Cloneable"), (0, .class_ 1), (0, u "java/lang/Object"), (0, .class_ 3)] 3

/-- java/lang/Cloneable -/
def k7 : Class := { plain "java/lang/Cloneable" (some 0) with
  accessFlags := 1537
  interfaces := #[]
  cf := some (fileOf pool7 2 #[] #[] 1537 4 #[] #[])
  fields := #[]
  methods := #[]
  instanceTypes := #[]
  staticTypes := #[]
  resolved := Array.replicate 8 none
  statics := none }

/-- the primitive byte -/
def k8 : Class := { plain "byte" none with kind := .primitive 'B', accessFlags := 0x411 }
/-- [B -/
def k9 : Class := { plain "[B" (some 0) with kind := .array 8 .byte, interfaces := #[7, 4], accessFlags := 1041 }

/-- the primitive int -/
def k10 : Class := { plain "int" none with kind := .primitive 'I', accessFlags := 0x411 }
/-- [I -/
def k11 : Class := { plain "[I" (some 0) with kind := .array 10 .int, interfaces := #[7, 4], accessFlags := 1041 }

/-- [Lcom/example/tupletree/tupletree/query/Function; -/
def k12 : Class := { plain "[Lcom/example/tupletree/tupletree/query/Function;" (some 0) with kind := .array 6 (.object "com/example/tupletree/tupletree/query/Function"), interfaces := #[7, 4], accessFlags := 1041 }

def heap : Heap := #[{ cls := 6, slots := #[.ref 1, .ref 2, .ref 3, .ref 4, .ref 5, .ref 6, .ref 7, .ref 8, .ref 9, .ref 10, .ref 11, .ref 12, .ref 13, .ref 14, .ref 15, .ref 16, .ref 17, .ref 18, .ref 19, .ref 20, .ref 21, .ref 22, .ref 23, .ref 24, .ref 25, .null], vm := .statics 6 },
  { cls := 6, slots := #[.null, .int 0, .int 0, .null, .null, .int 0, .int 0, .null], vm := .none },
  { cls := 6, slots := #[.null, .int 1, .int 0, .null, .null, .int 0, .int 0, .null], vm := .none },
  { cls := 6, slots := #[.null, .int 2, .int 0, .null, .null, .int 1, .int 1, .null], vm := .none },
  { cls := 6, slots := #[.null, .int 3, .int 0, .null, .null, .int 0, .int 1, .null], vm := .none },
  { cls := 6, slots := #[.null, .int 4, .int 0, .null, .null, .int 0, .int 1, .null], vm := .none },
  { cls := 6, slots := #[.null, .int 5, .int 0, .null, .null, .int 0, .int 1, .null], vm := .none },
  { cls := 6, slots := #[.null, .int 6, .int 0, .null, .null, .int 0, .int 1, .null], vm := .none },
  { cls := 6, slots := #[.null, .int 7, .int 0, .null, .null, .int 2, .int 2147483647, .null], vm := .none },
  { cls := 6, slots := #[.null, .int 8, .int 0, .null, .null, .int 2, .int 2, .null], vm := .none },
  { cls := 6, slots := #[.null, .int 9, .int 0, .null, .null, .int 2, .int 2, .null], vm := .none },
  { cls := 6, slots := #[.null, .int 10, .int 0, .null, .null, .int 2, .int 2, .null], vm := .none },
  { cls := 6, slots := #[.null, .int 11, .int 0, .null, .null, .int 2, .int 2, .null], vm := .none },
  { cls := 6, slots := #[.null, .int 12, .int 0, .null, .null, .int 2, .int 3, .null], vm := .none },
  { cls := 6, slots := #[.null, .int 13, .int 0, .null, .null, .int 0, .int 1, .null], vm := .none },
  { cls := 6, slots := #[.null, .int 14, .int 0, .null, .null, .int 0, .int 1, .null], vm := .none },
  { cls := 6, slots := #[.null, .int 15, .int 0, .null, .null, .int 3, .int 3, .null], vm := .none },
  { cls := 6, slots := #[.null, .int 16, .int 0, .null, .null, .int 1, .int 1, .null], vm := .none },
  { cls := 6, slots := #[.null, .int 17, .int 0, .null, .null, .int 1, .int 1, .null], vm := .none },
  { cls := 6, slots := #[.null, .int 18, .int 0, .null, .null, .int 0, .int 0, .null], vm := .none },
  { cls := 6, slots := #[.null, .int 19, .int 0, .null, .null, .int 0, .int 0, .null], vm := .none },
  { cls := 6, slots := #[.null, .int 20, .int 0, .null, .null, .int 0, .int 1, .null], vm := .none },
  { cls := 6, slots := #[.null, .int 21, .int 0, .null, .null, .int 1, .int 1, .null], vm := .none },
  { cls := 6, slots := #[.null, .int 22, .int 0, .null, .null, .int 1, .int 1, .null], vm := .none },
  { cls := 6, slots := #[.null, .int 23, .int 0, .null, .null, .int 1, .int 1, .null], vm := .none },
  { cls := 6, slots := #[.null, .int 24, .int 0, .null, .null, .int 1, .int 1, .null], vm := .none }]
def classes : Array Class := #[k0, k1, k2, k3, k4, k5, k6, k7, k8, k9, k10, k11, k12]
def interned : List (Array UInt16 × Addr) := []
def slotsUsed : Nat := 226
def theMethod : MethodId := ⟨1, 1⟩
def args0 : Array Value := #[.int 5]
def aboutOver (below : List Frame) : State where
  vm := { classes := classes, interned := interned.toArray }
  heap := heap
  slotsUsed := slotsUsed
  threads := #[{ frames := .invoking theMethod args0 :: below }]
def below0 : List Frame := [.native { method := ⟨0, 0⟩, args := #[] }]
def about1 : State := aboutOver below0
def p0 : Program := .bare "" "" ""
def e0 : Env := launch0.env 0 0 0
theorem w_frames : about1.frames = Frame.invoking theMethod args0 :: below0 := rfl
set_option maxRecDepth 65536 in
theorem w_args : argsFit about1.vm theMethod args0 = true := by decide +kernel
set_option maxRecDepth 65536 in
theorem w_heap : heapFits about1 = true := by decide +kernel
set_option maxRecDepth 65536 in
theorem w_runnable : about1.curStatus? = some .runnable := by decide +kernel
set_option maxRecDepth 65536 in
theorem w_alone : about1.alone = true := by decide +kernel
set_option maxRecDepth 65536 in
theorem w_named : about1.methodNamed? x = some theMethod := by decide +kernel
set_option maxRecDepth 65536 in
theorem w_hears : about1.hears theMethod below0 = true := by decide +kernel
set_option maxRecDepth 65536 in
theorem w_ripe : about1.ripe theMethod args0 below0 = true := by decide +kernel
theorem w_running : about1.status = .running := rfl
set_option maxRecDepth 65536 in
theorem w_room : about1.hasRoom e0.platform room_1 = true :=
  launch0.hasRoom_least _ room_1 (by decide +kernel) (by decide +kernel) (by decide +kernel) (by decide +kernel) (by decide +kernel) (by decide +kernel)
theorem allAtoms_all (ts : List Jvm.Cond) (a : Array Jvm.Value) (st : Jvm.State) : (allAtoms ts).before a st = ts.all (fun c => c.before a st) := by
  induction ts with
  | nil => rfl
  | cons c t ih =>
    show (Jvm.Cond.and c (allAtoms t)).before a st = _
    rw [Jvm.Cond.before_and, ih, List.all_cons]
def words1 : List Jvm.Cond := Jvm.Cond.code x code maxLocals ret :: tables_1
/-- a 'code' word, met by the world's own term for the bytes: nothing is compared byte by byte -/
theorem code_word {y : MethodName} {bytes : ByteArray} {mx : Nat} {rt : Option FieldType} {a : Array Value} {s : State} {m : MethodId} {meth : Method} {c : Code} (h1 : s.methodNamed? y = some m) (h2 : s.vm.method? m = some meth) (h3 : meth.code = some c) (h4 : c.code = bytes)
    (h5 : (c.maxLocals == mx && c.exceptionTable.isEmpty && decide (c.maxStack ≤ mostOperands) && decide (meth.sig.returnType = rt) && !meth.locks && decide (parseMethodDescriptor y.desc = some meth.sig)) = true) : (Jvm.Cond.code y bytes mx rt).before a s = true := by
  simp only [Bool.and_eq_true, beq_iff_eq, Bool.not_eq_true', decide_eq_true_eq] at h5
  obtain ⟨⟨⟨⟨⟨g1, g2⟩, g3⟩, g4⟩, g5⟩, g6⟩ := h5
  simp [Cond.before, Cond.holds, Cond.value, h1, h2, h3, h4, g1, g2, g3, g4, g5, g6]
def isCode : Jvm.Cond → Bool
  | .code _ _ _ _ => true
  | _ => false
theorem all_split {L : List Jvm.Cond} {P : Jvm.Cond → Bool} (h1 : L.all (fun c => isCode c || P c) = true) (h2 : ∀ c ∈ L.filter isCode, P c = true) : L.all P = true := by
  refine List.all_eq_true.mpr fun c hc => ?_
  have h := List.all_eq_true.mp h1 c hc
  rcases Bool.eq_false_or_eq_true (isCode c) with hi | hi
  · exact h2 c (List.mem_filter.mpr ⟨hc, hi⟩)
  · simpa [hi] using h
set_option maxRecDepth 65536 in
theorem w_c0 : (Jvm.Cond.code x code maxLocals ret).before args0 about1 = true := code_word (m := ⟨1, 1⟩) (meth := k1m1) (c := k1c1) (by decide +kernel) rfl rfl rfl (by decide +kernel)
set_option maxRecDepth 65536 in
theorem w_c1 : (Jvm.Cond.code ({ cls := "com/example/tupletree/tupletree/query/Function", name := "ofContext", desc := "()Z" } : Jvm.MethodName) prog_33_method_7_code (1 : Nat) (Option.some Jvm.ClassFile.FieldType.boolean)).before args0 about1 = true := code_word (m := ⟨6, 1⟩) (meth := k6m1) (c := k6c1) (by decide +kernel) rfl rfl rfl (by decide +kernel)
set_option maxRecDepth 65536 in
theorem w_c2 : (Jvm.Cond.code ({ cls := "com/example/tupletree/tupletree/query/Function", name := "takes", desc := "(I)Z" } : Jvm.MethodName) prog_33_method_6_code (2 : Nat) (Option.some Jvm.ClassFile.FieldType.boolean)).before args0 about1 = true := code_word (m := ⟨6, 0⟩) (meth := k6m0) (c := k6c0) (by decide +kernel) rfl rfl rfl (by decide +kernel)
def codes1 : List Jvm.Cond := [Jvm.Cond.code x code maxLocals ret, Jvm.Cond.code ({ cls := "com/example/tupletree/tupletree/query/Function", name := "ofContext", desc := "()Z" } : Jvm.MethodName) prog_33_method_7_code (1 : Nat) (Option.some Jvm.ClassFile.FieldType.boolean), Jvm.Cond.code ({ cls := "com/example/tupletree/tupletree/query/Function", name := "takes", desc := "(I)Z" } : Jvm.MethodName) prog_33_method_6_code (2 : Nat) (Option.some Jvm.ClassFile.FieldType.boolean)]
set_option maxRecDepth 65536 in
theorem codes_eq : words1.filter isCode = codes1 := rfl
theorem w_codes : ∀ c ∈ words1.filter isCode, c.before args0 about1 = true := by
  rw [codes_eq]
  intro c hc
  simp only [codes1, List.mem_cons, List.not_mem_nil, or_false] at hc
  rcases hc with rfl | rfl | rfl
  · exact w_c0
  · exact w_c1
  · exact w_c2
set_option maxRecDepth 65536 in
theorem w_t1 : (words1.take 24).all (fun c => isCode c || c.before args0 about1) = true := by decide +kernel
set_option maxRecDepth 65536 in
theorem w_t2 : ((words1.drop 24).take 24).all (fun c => isCode c || c.before args0 about1) = true := by decide +kernel
set_option maxRecDepth 65536 in
theorem w_t3 : ((words1.drop 24).drop 24).all (fun c => isCode c || c.before args0 about1) = true := by decide +kernel
theorem w_tables : (allAtoms (Jvm.Cond.code x code maxLocals ret :: tables_1)).before args0 about1 = true := by
  rw [allAtoms_all]
  show words1.all (fun c => c.before args0 about1) = true
  refine all_split ?_ w_codes
  rw [← List.take_append_drop 24 words1, List.all_append, w_t1, ← List.take_append_drop 24 (words1.drop 24), List.all_append, w_t2, w_t3]
  rfl
set_option maxRecDepth 65536 in
theorem w_case : (Jvm.Cond.and given_1 narrow_1).before args0 about1 = true := by decide +kernel
theorem w_applies : (headSpec (Jvm.Cond.code x code maxLocals ret :: tables_1) room_1).applies x e0.platform about1 = true :=
  (Spec.applies_iff w_frames).mpr ⟨w_running, w_runnable, w_alone, w_named, w_hears, w_ripe, w_room, w_tables⟩
theorem atStart : AtStart classFile x code maxLocals ret World_1 tables_1 room_1 Calls_1 rest_1 Pre_1 launch0 p0 e0 about1 theMethod args0 below0 :=
  ⟨lists_1, trivial, launch0.admits_env _ _ _, launch0.least_env, fairChoices_fair.cas, fairChoices_fair.clock, w_frames, w_args, w_heap, w_applies, trivial, trivial, w_case⟩
end start1
theorem witness_1 : WitnessClaimed_1 := ⟨start1.p0, start1.e0, start1.about1, start1.theMethod, start1.args0, start1.below0, start1.atStart⟩
end Jvm.Pilot.@@N@@
