import JvmDerived
import JvmDerived.Pilot.@@N@@Statement
import JvmDerived.Pilot.@@N@@Code
set_option linter.unusedVariables false
set_option linter.unusedSimpArgs false
namespace Jvm.RoadKit
open Sem ClassFile Op Lib Jvm.Stand Jvm.Free Jvm.LawKit
section New
variable {p : Program} {l : Launch} {e : Env} {R : Room} {s : State} {m : MethodId} {args : Array Value} {below : List Frame} {meth : Method} {c : Code} {T : State} {locs : List Loc} {cells slots : Nat}
theorem retI (X : Stand p l e R s m args below meth c T locs cells slots) (hx : p.tables.exec = Jvm.exec) {pc : Nat} {Ls : Array Slot} {z : Int32} {rest : List Value} (hret : meth.sig.returnType = some .int) (hd : decode c.code pc = .ok (.ireturn, 1)) {fs : List Frame}
    (hl : ∀ (f : JFrame) (acts : List Action), f.method = m → f.locked = none → f.entered = [] → (doReturn e (T.setTop f) acts (some (.int z))).1 = T.setFrames fs) : Steps p.tables e below (T.setTop (mkF m pc Ls (.int z :: rest))) (T.setFrames fs) := by
  have hm' : T.vm.method? m = some meth := X.method'
  have hn : narrow .int (.int z) = .int z := rfl
  show Steps p.tables e below (T.setTop { method := m, pc := pc, locals := Ls, stack := _ :: rest, locked := none }) _
  jvm_step X.here [X.here.top, hx, hd, hm', hret, hn]
  first | (intro acts; rw [hl _ acts rfl rfl rfl]) | rw [hl _ _ rfl rfl rfl]
  exact Steps.refl _
end New
end Jvm.RoadKit
namespace Jvm.Pilot.@@N@@
open Jvm Jvm.ClassFile Sem Op Lib Jvm.Free Jvm.Stand Jvm.LawKit Jvm.RoadKit Bundle Jvm.Pilot.@@N@@.Jvm.D
theorem own_fld {s : State} {args : Array Value} {t : Term} {C n d : String} {x : Addr} {k : Int32} (ht : t.eval args s none [] s = some (.ref x)) (h : (Jvm.Cond.eq (Jvm.Term.field t C n d) (Jvm.Term.int k)).value args s none s [] = some true) : Fld s s.heap x C n d (.int k) := by
  have e1 := fld_at (C := C) (n := n) (dd := d) ht
  refine Fld.start ?_
  cases hq : s.fieldOf? x C n d with
  | none => rw [hq] at e1; simp [Cond.value, e1] at h
  | some v =>
    rw [hq] at e1
    have e2 : (Jvm.Term.int k).eval args s none [] s = some (.int k) := rfl
    cases v <;> simp [Cond.value, e1, e2] at h
    rw [h]
theorem own_ne {Z : State} {h : Heap} {a b : Addr} {C n d : String} {v w : Value} (F : Fld Z h a C n d v) (G : Fld Z h b C n d w) (hn : v ≠ w) : a ≠ b := fun e => by
  subst e
  obtain ⟨c1, cf1, k1, i1, f1, a1, a2, -, -, -, -, a7⟩ := F
  obtain ⟨c2, cf2, k2, i2, f2, b1, b2, -, -, -, -, b7⟩ := G
  cases a1.symm.trans b1
  cases a2.symm.trans b2
  exact hn (Option.some.inj (a7.symm.trans b7))
theorem d1_0 : decode prog_34_method_7_code 0 = .ok (.aload_n 0, 1) := by decide +kernel
theorem d1_1 : decode prog_34_method_7_code 1 = .ok (.getstatic 10, 3) := by decide +kernel
theorem d1_4 : decode prog_34_method_7_code 4 = .ok (.if_acmp .eq 10, 3) := by decide +kernel
theorem d1_14 : decode prog_34_method_7_code 14 = .ok (.iconst 1, 1) := by decide +kernel
theorem d1_15 : decode prog_34_method_7_code 15 = .ok (.goto 4, 3) := by decide +kernel
theorem d1_19 : decode prog_34_method_7_code 19 = .ok (.ireturn, 1) := by decide +kernel
theorem pn_1 : plainName "com/example/whence/whence/query/AggregateFunction" = true := by first | (simp [plainName, overriddenIn]; done) | decide +kernel
theorem ef_1 (m : MethodId) (x0 : Addr) : entryFrame m #[(.ref x0)] 1 = mkF m 0 #[.val (.ref x0)] [] := by first | (simp [entryFrame, mkF, argsToLocals, Value.category]; done) | rfl
def Q1_t (Z : State) (a1 : Addr) (w2 : Addr) (h0 : Heap) (n0 : Nat) (v : Option Value) (h : Heap) (L : List Loc) : Prop := v = some (.int (1 : Int32)) ∧ Fr n0 L ∧ h = h0
set_option maxRecDepth 65536 in
set_option maxHeartbeats 40000000 in
theorem rm1_t (l : Launch) (Z : State) (a0 : Array Value) (hw : ∀ d ∈ tables_1, d.before a0 Z = true) (ws : List Jvm.Cond) (a1 : Addr) (w2 : Addr) (h0 : Heap) (n0 : Nat) (Z0 : n0 ≤ h0.size) (S_SUM : Sta Z h0 "com/example/whence/whence/query/AggregateFunction" "SUM" "Lcom/example/whence/whence/query/AggregateFunction;" (.ref w2)) (ha4 : a1 = w2) :
    MetFree l (⟨"com/example/whence/whence/query/AggregateFunction", "numeric", "()Z"⟩ : MethodName) (head1 (Jvm.Cond.code (⟨"com/example/whence/whence/query/AggregateFunction", "numeric", "()Z"⟩ : MethodName) prog_34_method_7_code 1 (some .boolean) :: ws) ({ frames := 0, cells := 0, slots := 0, locals := 0 } : Room)) (fun a U => a = #[(.ref a1)] ∧ Z.Warmed39 U.vm ∧ U.heap = h0) (fun _ _ _ _ _ => True) (fun _ U o U' => ∃ v L, o = .returned v ∧ Q1_t Z a1 w2 h0 n0 v U'.heap L ∧ FrameEnd U o U' L ({ frames := 0, cells := 0, slots := 0, locals := 0 } : Room).cells ({ frames := 0, cells := 0, slots := 0, locals := 0 } : Room).slots) := by
  refine MetFree.of_bodySF (plainFor_of_name pn_1) hisR ?_
  intro p e s m args below meth c s₁ Bd hml0 hP hK
  obtain ⟨rfl, hZ, hh⟩ := hP
  have hx := Bd.exec
  have hby := Bd.bytes
  have hml : c.maxLocals = 1 := hml0
  have hown : s.vm.findClass "com/example/whence/whence/query/AggregateFunction" = some m.cls := findClass_of_methodNamed Bd.named
  have hnm := (name_of_methodNamed Bd.named Bd.method).1
  have X0 : Stand p l e ({ frames := 0, cells := 0, slots := 0, locals := 0 } : Room) s m #[(.ref a1)] below meth c s₁ [] 0 0 := Stand.of_body Bd
  have e0 : s₁.heap = h0 := by rw [← hh, Bd.state]; rfl
  have N0 := Fr.nil n0
  have pre0 : ∀ t, Steps p.tables e below (s₁.setTop (mkF m 0 #[.val (.ref a1)] [])) t → Steps p.tables e below (s₁.setTop (entryFrame m #[(.ref a1)] 1)) t := fun t k => castTop (ef_1 m a1) k
  obtain ⟨T3, X3, e3, st3⟩ := getS2 X0 hx hZ hown (host := "") (Or.inl (hw _ (List.mem_of_getElem? (i := 23) rfl))) Via.refl e0 S_SUM (g := (mkF m 1 #[.val (.ref a1)] [(.ref a1)])) rfl (hb hby d1_1)
  obtain ⟨fs, hr, hrun, hended, hW, hsame⟩ := X3.leave (v := some (.int (1 : Int32))) (fun h => by rw [Bd.returns] at h; cases h)
  refine ⟨_, _, pre0 _ ?_, hrun, hended, _, _, rfl, ?_, ⟨_, rfl⟩, hW, hsame.mono (by decide) (by decide)⟩
  · show Steps p.tables e below (s₁.setTop (mkF m 0 #[.val (.ref a1)] [])) _
    refine XS.aloadN X0.here hx rfl (hb hby d1_0) rfl rfl ?_
    show Steps p.tables e below (s₁.setTop (mkF m 1 #[.val (.ref a1)] [(.ref a1)])) _
    refine st3 _ ?_
    show Steps p.tables e below (T3.setTop (mkF m 4 #[.val (.ref a1)] [(.ref w2), (.ref a1)])) _
    refine Jvm.RoadKit.acmp (g := (mkF m 4 #[.val (.ref a1)] [(.ref w2), (.ref a1)])) X3 hx rfl rfl rfl (pc0 := 4) (pc' := 14) (same := true) rfl (hb hby d1_4) rfl (decide_eq_true (congrArg Value.ref ha4)) (by decide) (by decide) ?_
    show Steps p.tables e below (T3.setTop (mkF m 14 #[.val (.ref a1)] [])) _
    refine XS.iconst X3.here hx rfl (hb hby d1_14) ?_
    show Steps p.tables e below (T3.setTop (mkF m 15 #[.val (.ref a1)] [(.int (1 : Int32))])) _
    refine XS.goto X3.here hx rfl (pc0 := 15) (pc' := 19) rfl (hb hby d1_15) (by decide) (by decide) ?_
    show Steps p.tables e below (T3.setTop (mkF m 19 #[.val (.ref a1)] [(.int (1 : Int32))])) _
    exact retN X3 hx (t := .boolean) Bd.returns (by simp) (hb hby d1_19) hr
  · show Q1_t Z a1 w2 h0 n0 _ T3.heap _
    rw [e3]
    exact ⟨rfl, N0, rfl⟩
theorem d1_7 : decode prog_34_method_7_code 7 = .ok (.aload_n 0, 1) := by decide +kernel
theorem d1_8 : decode prog_34_method_7_code 8 = .ok (.getstatic 13, 3) := by decide +kernel
theorem d1_11 : decode prog_34_method_7_code 11 = .ok (.if_acmp .ne 7, 3) := by decide +kernel
def Q1_ff (Z : State) (a1 : Addr) (w2 : Addr) (w4 : Addr) (h0 : Heap) (n0 : Nat) (v : Option Value) (h : Heap) (L : List Loc) : Prop := v = some (.int (1 : Int32)) ∧ Fr n0 L ∧ h = h0
set_option maxRecDepth 65536 in
set_option maxHeartbeats 40000000 in
theorem rm1_ff (l : Launch) (Z : State) (a0 : Array Value) (hw : ∀ d ∈ tables_1, d.before a0 Z = true) (ws : List Jvm.Cond) (a1 : Addr) (w2 : Addr) (w4 : Addr) (h0 : Heap) (n0 : Nat) (Z0 : n0 ≤ h0.size) (S_SUM : Sta Z h0 "com/example/whence/whence/query/AggregateFunction" "SUM" "Lcom/example/whence/whence/query/AggregateFunction;" (.ref w2)) (S_AVG : Sta Z h0 "com/example/whence/whence/query/AggregateFunction" "AVG" "Lcom/example/whence/whence/query/AggregateFunction;" (.ref w4)) (ha4 : ¬ (a1 = w2)) (ha11 : a1 = w4) :
    MetFree l (⟨"com/example/whence/whence/query/AggregateFunction", "numeric", "()Z"⟩ : MethodName) (head1 (Jvm.Cond.code (⟨"com/example/whence/whence/query/AggregateFunction", "numeric", "()Z"⟩ : MethodName) prog_34_method_7_code 1 (some .boolean) :: ws) ({ frames := 0, cells := 0, slots := 0, locals := 0 } : Room)) (fun a U => a = #[(.ref a1)] ∧ Z.Warmed39 U.vm ∧ U.heap = h0) (fun _ _ _ _ _ => True) (fun _ U o U' => ∃ v L, o = .returned v ∧ Q1_ff Z a1 w2 w4 h0 n0 v U'.heap L ∧ FrameEnd U o U' L ({ frames := 0, cells := 0, slots := 0, locals := 0 } : Room).cells ({ frames := 0, cells := 0, slots := 0, locals := 0 } : Room).slots) := by
  refine MetFree.of_bodySF (plainFor_of_name pn_1) hisR ?_
  intro p e s m args below meth c s₁ Bd hml0 hP hK
  obtain ⟨rfl, hZ, hh⟩ := hP
  have hx := Bd.exec
  have hby := Bd.bytes
  have hml : c.maxLocals = 1 := hml0
  have hown : s.vm.findClass "com/example/whence/whence/query/AggregateFunction" = some m.cls := findClass_of_methodNamed Bd.named
  have hnm := (name_of_methodNamed Bd.named Bd.method).1
  have X0 : Stand p l e ({ frames := 0, cells := 0, slots := 0, locals := 0 } : Room) s m #[(.ref a1)] below meth c s₁ [] 0 0 := Stand.of_body Bd
  have e0 : s₁.heap = h0 := by rw [← hh, Bd.state]; rfl
  have N0 := Fr.nil n0
  have pre0 : ∀ t, Steps p.tables e below (s₁.setTop (mkF m 0 #[.val (.ref a1)] [])) t → Steps p.tables e below (s₁.setTop (entryFrame m #[(.ref a1)] 1)) t := fun t k => castTop (ef_1 m a1) k
  obtain ⟨T3, X3, e3, st3⟩ := getS2 X0 hx hZ hown (host := "") (Or.inl (hw _ (List.mem_of_getElem? (i := 23) rfl))) Via.refl e0 S_SUM (g := (mkF m 1 #[.val (.ref a1)] [(.ref a1)])) rfl (hb hby d1_1)
  obtain ⟨T5, X5, e5, st5⟩ := getS2 X3 hx hZ hown (host := "") (Or.inl (hw _ (List.mem_of_getElem? (i := 24) rfl))) Via.refl e3 S_AVG (g := (mkF m 8 #[.val (.ref a1)] [(.ref a1)])) rfl (hb hby d1_8)
  obtain ⟨fs, hr, hrun, hended, hW, hsame⟩ := X5.leave (v := some (.int (1 : Int32))) (fun h => by rw [Bd.returns] at h; cases h)
  refine ⟨_, _, pre0 _ ?_, hrun, hended, _, _, rfl, ?_, ⟨_, rfl⟩, hW, hsame.mono (by decide) (by decide)⟩
  · show Steps p.tables e below (s₁.setTop (mkF m 0 #[.val (.ref a1)] [])) _
    refine XS.aloadN X0.here hx rfl (hb hby d1_0) rfl rfl ?_
    show Steps p.tables e below (s₁.setTop (mkF m 1 #[.val (.ref a1)] [(.ref a1)])) _
    refine st3 _ ?_
    show Steps p.tables e below (T3.setTop (mkF m 4 #[.val (.ref a1)] [(.ref w2), (.ref a1)])) _
    refine Jvm.RoadKit.acmp (g := (mkF m 4 #[.val (.ref a1)] [(.ref w2), (.ref a1)])) X3 hx rfl rfl rfl (pc0 := 4) (pc' := 7) (same := false) rfl (hb hby d1_4) rfl (decide_eq_false fun q => ha4 (Value.ref.inj q)) (by decide) (by decide) ?_
    show Steps p.tables e below (T3.setTop (mkF m 7 #[.val (.ref a1)] [])) _
    refine XS.aloadN X3.here hx rfl (hb hby d1_7) rfl rfl ?_
    show Steps p.tables e below (T3.setTop (mkF m 8 #[.val (.ref a1)] [(.ref a1)])) _
    refine st5 _ ?_
    show Steps p.tables e below (T5.setTop (mkF m 11 #[.val (.ref a1)] [(.ref w4), (.ref a1)])) _
    refine Jvm.RoadKit.acmp (g := (mkF m 11 #[.val (.ref a1)] [(.ref w4), (.ref a1)])) X5 hx rfl rfl rfl (pc0 := 11) (pc' := 14) (same := true) rfl (hb hby d1_11) rfl (decide_eq_true (congrArg Value.ref ha11)) (by decide) (by decide) ?_
    show Steps p.tables e below (T5.setTop (mkF m 14 #[.val (.ref a1)] [])) _
    refine XS.iconst X5.here hx rfl (hb hby d1_14) ?_
    show Steps p.tables e below (T5.setTop (mkF m 15 #[.val (.ref a1)] [(.int (1 : Int32))])) _
    refine XS.goto X5.here hx rfl (pc0 := 15) (pc' := 19) rfl (hb hby d1_15) (by decide) (by decide) ?_
    show Steps p.tables e below (T5.setTop (mkF m 19 #[.val (.ref a1)] [(.int (1 : Int32))])) _
    exact retN X5 hx (t := .boolean) Bd.returns (by simp) (hb hby d1_19) hr
  · show Q1_ff Z a1 w2 w4 h0 n0 _ T5.heap _
    rw [e5]
    exact ⟨rfl, N0, rfl⟩
theorem d1_18 : decode prog_34_method_7_code 18 = .ok (.iconst 0, 1) := by decide +kernel
def Q1_ft (Z : State) (a1 : Addr) (w2 : Addr) (w4 : Addr) (h0 : Heap) (n0 : Nat) (v : Option Value) (h : Heap) (L : List Loc) : Prop := v = some (.int (0 : Int32)) ∧ Fr n0 L ∧ h = h0
set_option maxRecDepth 65536 in
set_option maxHeartbeats 40000000 in
theorem rm1_ft (l : Launch) (Z : State) (a0 : Array Value) (hw : ∀ d ∈ tables_1, d.before a0 Z = true) (ws : List Jvm.Cond) (a1 : Addr) (w2 : Addr) (w4 : Addr) (h0 : Heap) (n0 : Nat) (Z0 : n0 ≤ h0.size) (S_SUM : Sta Z h0 "com/example/whence/whence/query/AggregateFunction" "SUM" "Lcom/example/whence/whence/query/AggregateFunction;" (.ref w2)) (S_AVG : Sta Z h0 "com/example/whence/whence/query/AggregateFunction" "AVG" "Lcom/example/whence/whence/query/AggregateFunction;" (.ref w4)) (ha4 : ¬ (a1 = w2)) (ha11 : ¬ (a1 = w4)) :
    MetFree l (⟨"com/example/whence/whence/query/AggregateFunction", "numeric", "()Z"⟩ : MethodName) (head1 (Jvm.Cond.code (⟨"com/example/whence/whence/query/AggregateFunction", "numeric", "()Z"⟩ : MethodName) prog_34_method_7_code 1 (some .boolean) :: ws) ({ frames := 0, cells := 0, slots := 0, locals := 0 } : Room)) (fun a U => a = #[(.ref a1)] ∧ Z.Warmed39 U.vm ∧ U.heap = h0) (fun _ _ _ _ _ => True) (fun _ U o U' => ∃ v L, o = .returned v ∧ Q1_ft Z a1 w2 w4 h0 n0 v U'.heap L ∧ FrameEnd U o U' L ({ frames := 0, cells := 0, slots := 0, locals := 0 } : Room).cells ({ frames := 0, cells := 0, slots := 0, locals := 0 } : Room).slots) := by
  refine MetFree.of_bodySF (plainFor_of_name pn_1) hisR ?_
  intro p e s m args below meth c s₁ Bd hml0 hP hK
  obtain ⟨rfl, hZ, hh⟩ := hP
  have hx := Bd.exec
  have hby := Bd.bytes
  have hml : c.maxLocals = 1 := hml0
  have hown : s.vm.findClass "com/example/whence/whence/query/AggregateFunction" = some m.cls := findClass_of_methodNamed Bd.named
  have hnm := (name_of_methodNamed Bd.named Bd.method).1
  have X0 : Stand p l e ({ frames := 0, cells := 0, slots := 0, locals := 0 } : Room) s m #[(.ref a1)] below meth c s₁ [] 0 0 := Stand.of_body Bd
  have e0 : s₁.heap = h0 := by rw [← hh, Bd.state]; rfl
  have N0 := Fr.nil n0
  have pre0 : ∀ t, Steps p.tables e below (s₁.setTop (mkF m 0 #[.val (.ref a1)] [])) t → Steps p.tables e below (s₁.setTop (entryFrame m #[(.ref a1)] 1)) t := fun t k => castTop (ef_1 m a1) k
  obtain ⟨T3, X3, e3, st3⟩ := getS2 X0 hx hZ hown (host := "") (Or.inl (hw _ (List.mem_of_getElem? (i := 23) rfl))) Via.refl e0 S_SUM (g := (mkF m 1 #[.val (.ref a1)] [(.ref a1)])) rfl (hb hby d1_1)
  obtain ⟨T5, X5, e5, st5⟩ := getS2 X3 hx hZ hown (host := "") (Or.inl (hw _ (List.mem_of_getElem? (i := 24) rfl))) Via.refl e3 S_AVG (g := (mkF m 8 #[.val (.ref a1)] [(.ref a1)])) rfl (hb hby d1_8)
  obtain ⟨fs, hr, hrun, hended, hW, hsame⟩ := X5.leave (v := some (.int (0 : Int32))) (fun h => by rw [Bd.returns] at h; cases h)
  refine ⟨_, _, pre0 _ ?_, hrun, hended, _, _, rfl, ?_, ⟨_, rfl⟩, hW, hsame.mono (by decide) (by decide)⟩
  · show Steps p.tables e below (s₁.setTop (mkF m 0 #[.val (.ref a1)] [])) _
    refine XS.aloadN X0.here hx rfl (hb hby d1_0) rfl rfl ?_
    show Steps p.tables e below (s₁.setTop (mkF m 1 #[.val (.ref a1)] [(.ref a1)])) _
    refine st3 _ ?_
    show Steps p.tables e below (T3.setTop (mkF m 4 #[.val (.ref a1)] [(.ref w2), (.ref a1)])) _
    refine Jvm.RoadKit.acmp (g := (mkF m 4 #[.val (.ref a1)] [(.ref w2), (.ref a1)])) X3 hx rfl rfl rfl (pc0 := 4) (pc' := 7) (same := false) rfl (hb hby d1_4) rfl (decide_eq_false fun q => ha4 (Value.ref.inj q)) (by decide) (by decide) ?_
    show Steps p.tables e below (T3.setTop (mkF m 7 #[.val (.ref a1)] [])) _
    refine XS.aloadN X3.here hx rfl (hb hby d1_7) rfl rfl ?_
    show Steps p.tables e below (T3.setTop (mkF m 8 #[.val (.ref a1)] [(.ref a1)])) _
    refine st5 _ ?_
    show Steps p.tables e below (T5.setTop (mkF m 11 #[.val (.ref a1)] [(.ref w4), (.ref a1)])) _
    refine Jvm.RoadKit.acmp (g := (mkF m 11 #[.val (.ref a1)] [(.ref w4), (.ref a1)])) X5 hx rfl rfl rfl (pc0 := 11) (pc' := 18) (same := false) rfl (hb hby d1_11) rfl (decide_eq_false fun q => ha11 (Value.ref.inj q)) (by decide) (by decide) ?_
    show Steps p.tables e below (T5.setTop (mkF m 18 #[.val (.ref a1)] [])) _
    refine XS.iconst X5.here hx rfl (hb hby d1_18) ?_
    show Steps p.tables e below (T5.setTop (mkF m 19 #[.val (.ref a1)] [(.int (0 : Int32))])) _
    exact retN X5 hx (t := .boolean) Bd.returns (by simp) (hb hby d1_19) hr
  · show Q1_ft Z a1 w2 w4 h0 n0 _ T5.heap _
    rw [e5]
    exact ⟨rfl, N0, rfl⟩
def Q1 (b : Int32) (h0 : Heap) (n0 : Nat) (v : Option Value) (h : Heap) (L : List Loc) : Prop := v = some (.int b) ∧ Fr n0 L ∧ h = h0
theorem rm1 (l : Launch) (Z : State) (a0 : Array Value) (hw : ∀ d ∈ tables_1, d.before a0 Z = true) (ws : List Jvm.Cond) (a1 : Addr) (wS wA : Addr) (b : Int32) (h0 : Heap) (n0 : Nat) (Z0 : n0 ≤ h0.size) (S_S : Sta Z h0 "com/example/whence/whence/query/AggregateFunction" "SUM" "Lcom/example/whence/whence/query/AggregateFunction;" (.ref wS)) (S_A : Sta Z h0 "com/example/whence/whence/query/AggregateFunction" "AVG" "Lcom/example/whence/whence/query/AggregateFunction;" (.ref wA)) (hb : (a1 = wS ∧ b = 1) ∨ (¬ (a1 = wS) ∧ a1 = wA ∧ b = 1) ∨ (¬ (a1 = wS) ∧ ¬ (a1 = wA) ∧ b = 0)) :
    MetFree l (⟨"com/example/whence/whence/query/AggregateFunction", "numeric", "()Z"⟩ : MethodName) (head1 (Jvm.Cond.code (⟨"com/example/whence/whence/query/AggregateFunction", "numeric", "()Z"⟩ : MethodName) prog_34_method_7_code 1 (some .boolean) :: ws) ({ frames := 0, cells := 0, slots := 0, locals := 0 } : Room)) (fun a U => a = #[(.ref a1)] ∧ Z.Warmed39 U.vm ∧ U.heap = h0) (fun _ _ _ _ _ => True) (fun _ U o U' => ∃ v L, o = .returned v ∧ Q1 b h0 n0 v U'.heap L ∧ FrameEnd U o U' L ({ frames := 0, cells := 0, slots := 0, locals := 0 } : Room).cells ({ frames := 0, cells := 0, slots := 0, locals := 0 } : Room).slots) := by
  rcases hb with ⟨c1, rfl⟩ | ⟨c1, c2, rfl⟩ | ⟨c1, c2, rfl⟩
  · exact rm1_t l Z a0 hw ws a1 wS h0 n0 Z0 S_S c1
  · exact rm1_ff l Z a0 hw ws a1 wS wA h0 n0 Z0 S_S S_A c1 c2
  · exact rm1_ft l Z a0 hw ws a1 wS wA h0 n0 Z0 S_S S_A c1 c2
def Qlaw0 (n0 : Nat) (v : Option Value) (h : Heap) (L : List Loc) : Prop := v = some (.int 1) ∧ Fr n0 L
theorem pn_0 : plainName "com/example/whence/whence/query/AggregateFunctionNumericPinLaw" = true := by first | (simp [plainName, overriddenIn]; done) | decide +kernel
theorem pd_0_0 : parseMethodDescriptor "()Z" = some ⟨[], some .boolean⟩ := by decide +kernel
theorem ef_0 (m : MethodId) (x0 : Int32) : entryFrame m #[(.int x0)] maxLocals = mkF m 0 #[.val (.int x0), .unset, .unset, .unset] [] := by first | (simp [entryFrame, mkF, argsToLocals, Value.category, maxLocals]; done) | rfl
set_option maxRecDepth 65536 in
set_option maxHeartbeats 40000000 in
theorem rm0 (l : Launch) (Z : State) (a0 : Array Value) (hw : ∀ d ∈ tables_1, d.before a0 Z = true) (ws : List Jvm.Cond) (p1 : Int32) (wCOUNTALL : Addr) (wCOUNT : Addr) (wSUM : Addr) (wAVG : Addr) (wMIN : Addr) (wMAX : Addr) (bb : Int32) (w22 : Addr) (w24 : Int32) (h0 : Heap) (n0 : Nat) (Z0 : n0 ≤ h0.size) (S_COUNT_ALL : Sta Z h0 "com/example/whence/whence/query/AggregateFunction" "COUNT_ALL" "Lcom/example/whence/whence/query/AggregateFunction;" (.ref wCOUNTALL)) (S_COUNT : Sta Z h0 "com/example/whence/whence/query/AggregateFunction" "COUNT" "Lcom/example/whence/whence/query/AggregateFunction;" (.ref wCOUNT)) (S_SUM : Sta Z h0 "com/example/whence/whence/query/AggregateFunction" "SUM" "Lcom/example/whence/whence/query/AggregateFunction;" (.ref wSUM)) (S_AVG : Sta Z h0 "com/example/whence/whence/query/AggregateFunction" "AVG" "Lcom/example/whence/whence/query/AggregateFunction;" (.ref wAVG)) (S_MIN : Sta Z h0 "com/example/whence/whence/query/AggregateFunction" "MIN" "Lcom/example/whence/whence/query/AggregateFunction;" (.ref wMIN)) (S_MAX : Sta Z h0 "com/example/whence/whence/query/AggregateFunction" "MAX" "Lcom/example/whence/whence/query/AggregateFunction;" (.ref wMAX)) (hbb : (w22 = wSUM ∧ bb = 1) ∨ (¬ (w22 = wSUM) ∧ w22 = wAVG ∧ bb = 1) ∨ (¬ (w22 = wSUM) ∧ ¬ (w22 = wAVG) ∧ bb = 0)) (E_wCOUNTALL : Exa Z h0 wCOUNTALL "com/example/whence/whence/query/AggregateFunction") (E_wCOUNT : Exa Z h0 wCOUNT "com/example/whence/whence/query/AggregateFunction") (E_wSUM : Exa Z h0 wSUM "com/example/whence/whence/query/AggregateFunction") (E_wAVG : Exa Z h0 wAVG "com/example/whence/whence/query/AggregateFunction") (E_wMIN : Exa Z h0 wMIN "com/example/whence/whence/query/AggregateFunction") (E_wMAX : Exa Z h0 wMAX "com/example/whence/whence/query/AggregateFunction") (hr81 : ¬ ((p1 &&& (2147483647 : Int32)) % (6 : Int32)) < 0 ∧ ((p1 &&& (2147483647 : Int32)) % (6 : Int32)) < (6 : Int32)) (u81 : ([(.ref wCOUNTALL), (.ref wCOUNT), (.ref wSUM), (.ref wAVG), (.ref wMIN), (.ref wMAX)] : List Value).getD (((p1 &&& (2147483647 : Int32)) % (6 : Int32))).toNatClampNeg (.null : Value) = (.ref w22)) (E_w22 : Exa Z h0 w22 "com/example/whence/whence/query/AggregateFunction") (hr87 : ¬ ((p1 &&& (2147483647 : Int32)) % (6 : Int32)) < 0 ∧ ((p1 &&& (2147483647 : Int32)) % (6 : Int32)) < (6 : Int32)) (u87 : ([(.int (0 : Int32)), (.int (0 : Int32)), (.int (1 : Int32)), (.int (1 : Int32)), (.int (0 : Int32)), (.int (0 : Int32))] : List Value).getD (((p1 &&& (2147483647 : Int32)) % (6 : Int32))).toNatClampNeg ((.int (0 : Int32)) : Value) = (.int w24)) (hc88 : bb = w24) :
    MetFree l x (head1 (Jvm.Cond.code x code maxLocals ret :: ws) room_1) (fun a U => a = #[(.int p1)] ∧ Z.Warmed39 U.vm ∧ U.heap = h0) (fun _ _ _ _ _ => True) (fun _ U o U' => ∃ v L, o = .returned v ∧ Qlaw0 n0 v U'.heap L ∧ FrameEnd U o U' L room_1.cells room_1.slots) := by
  refine MetFree.of_bodySF (plainFor_of_name pn_0) hisR ?_
  intro p e s m args below meth c s₁ Bd hml0 hP hK
  obtain ⟨rfl, hZ, hh⟩ := hP
  have hx := Bd.exec
  have hby := Bd.bytes
  have hml : c.maxLocals = 4 := hml0
  have hown : s.vm.findClass "com/example/whence/whence/query/AggregateFunctionNumericPinLaw" = some m.cls := findClass_of_methodNamed Bd.named
  have hnm := (name_of_methodNamed Bd.named Bd.method).1
  have X0 : Stand p l e room_1 s m #[(.int p1)] below meth c s₁ [] 0 0 := Stand.of_body Bd
  have e0 : s₁.heap = h0 := by rw [← hh, Bd.state]; rfl
  have N0 := Fr.nil n0
  have pre0 : ∀ t, Steps p.tables e below (s₁.setTop (mkF m 0 #[.val (.int p1), .unset, .unset, .unset] [])) t → Steps p.tables e below (s₁.setTop (entryFrame m #[(.int p1)] maxLocals)) t := fun t k => castTop (ef_0 m p1) k
  obtain ⟨T2, h2, k2, X2, e2, E2, A2, O2, st2⟩ := newR X0 hx hZ hown (hw _ (List.mem_of_getElem? (i := 0) rfl)) (hw _ (List.mem_of_getElem? (i := 1) rfl)) e0 (g := (mkF m 2 #[.val (.int p1), .unset, .unset, .unset] [(.int (6 : Int32))])) rfl (hb hby at_2) rfl (by decide) (cap := 6) (by decide) (by decide) (by decide) (by decide)
  obtain ⟨b2, g2⟩ : ∃ z, z = h0.size := ⟨_, rfl⟩
  rw [← g2] at A2 st2
  have V_b2 : Arv Z h2 b2 k2 (.object "com/example/whence/whence/query/AggregateFunction") (6 : Int32) [.null, .null, .null, .null, .null, .null] .null := (Arv.new A2 (by decide)).pad (pad_rep [] .null 6)
  have g_b2 : n0 ≤ b2 := Nat.le_trans Z0 (Nat.le_of_eq g2.symm)
  have sz_b2 : h0.size ≤ b2 := (Nat.le_trans (Keep.refl h0 []).1 (Nat.le_of_eq g2.symm))
  have K2 : Keep h0 h2 [] := (Keep.refl h0 []).ext E2
  obtain ⟨T3, X3, e3, st3⟩ := getS2 X2 hx hZ hown (host := "") (Or.inl (hw _ (List.mem_of_getElem? (i := 2) rfl))) Via.refl e2 (S_COUNT_ALL.ext E2) (g := (mkF m 7 #[.val (.int p1), .unset, .unset, .unset] [(.int (0 : Int32)), (.ref b2), (.ref b2)])) rfl (hb hby at_7)
  obtain ⟨cl_b2_10, Ar_b2_10, q_b2_10, S_b2_10, N_b2_10, H_b2_10, G_b2_10⟩ := id V_b2
  have hin10 : ¬ ((0 : Int32) < 0 ∨ cl_b2_10.slots.size ≤ ((0 : Int32)).toNatClampNeg) := inb_of S_b2_10 ⟨by decide, by decide⟩
  have Sto10 := Sto.ofV Ar_b2_10 q_b2_10 O2 (Ins.self (E_wCOUNTALL.ext E2))
  obtain ⟨T4, h4, X4, e4, W4, st4⟩ := stR X3 hx hZ e3 Ar_b2_10 (j := (0 : Int32)) hin10 rfl Sto10 (g := (mkF m 10 #[.val (.int p1), .unset, .unset, .unset] [(.ref wCOUNTALL), (.int (0 : Int32)), (.ref b2), (.ref b2)])) rfl rfl (hb hby at_10)
  have V_b2_10 := Arv.set Ar_b2_10 q_b2_10 S_b2_10 N_b2_10 H_b2_10 G_b2_10 (v := (.ref wCOUNTALL)) rfl W4 0 rfl (Nat.le_of_ble_eq_true rfl)
  have K4 : Keep h0 h4 [] := K2.wr W4 (Or.inr sz_b2)
  have N4 := Fr.snoc X4 N0 g_b2
  obtain ⟨T5, X5, e5, st5⟩ := getS2 X4 hx hZ hown (host := "") (Or.inl (hw _ (List.mem_of_getElem? (i := 6) rfl))) Via.refl e4 ((S_COUNT.ext E2).wr W4) (g := (mkF m 13 #[.val (.int p1), .unset, .unset, .unset] [(.int (1 : Int32)), (.ref b2), (.ref b2)])) rfl (hb hby at_13)
  obtain ⟨cl_b2_16, Ar_b2_16, q_b2_16, S_b2_16, N_b2_16, H_b2_16, G_b2_16⟩ := id V_b2_10
  have hin16 : ¬ ((1 : Int32) < 0 ∨ cl_b2_16.slots.size ≤ ((1 : Int32)).toNatClampNeg) := inb_of S_b2_16 ⟨by decide, by decide⟩
  have Sto16 := Sto.ofV Ar_b2_16 q_b2_16 O2 (Ins.self ((E_wCOUNT.ext E2).wr W4))
  obtain ⟨T6, h6, X6, e6, W6, st6⟩ := stR X5 hx hZ e5 Ar_b2_16 (j := (1 : Int32)) hin16 rfl Sto16 (g := (mkF m 16 #[.val (.int p1), .unset, .unset, .unset] [(.ref wCOUNT), (.int (1 : Int32)), (.ref b2), (.ref b2)])) rfl rfl (hb hby at_16)
  have V_b2_16 := Arv.set Ar_b2_16 q_b2_16 S_b2_16 N_b2_16 H_b2_16 G_b2_16 (v := (.ref wCOUNT)) rfl W6 1 rfl (Nat.le_of_ble_eq_true rfl)
  have K6 : Keep h0 h6 [] := K4.wr W6 (Or.inr sz_b2)
  have N6 := Fr.snoc X6 N4 g_b2
  obtain ⟨T7, X7, e7, st7⟩ := getS2 X6 hx hZ hown (host := "") (Or.inl (hw _ (List.mem_of_getElem? (i := 8) rfl))) Via.refl e6 (((S_SUM.ext E2).wr W4).wr W6) (g := (mkF m 19 #[.val (.int p1), .unset, .unset, .unset] [(.int (2 : Int32)), (.ref b2), (.ref b2)])) rfl (hb hby at_19)
  obtain ⟨cl_b2_22, Ar_b2_22, q_b2_22, S_b2_22, N_b2_22, H_b2_22, G_b2_22⟩ := id V_b2_16
  have hin22 : ¬ ((2 : Int32) < 0 ∨ cl_b2_22.slots.size ≤ ((2 : Int32)).toNatClampNeg) := inb_of S_b2_22 ⟨by decide, by decide⟩
  have Sto22 := Sto.ofV Ar_b2_22 q_b2_22 O2 (Ins.self (((E_wSUM.ext E2).wr W4).wr W6))
  obtain ⟨T8, h8, X8, e8, W8, st8⟩ := stR X7 hx hZ e7 Ar_b2_22 (j := (2 : Int32)) hin22 rfl Sto22 (g := (mkF m 22 #[.val (.int p1), .unset, .unset, .unset] [(.ref wSUM), (.int (2 : Int32)), (.ref b2), (.ref b2)])) rfl rfl (hb hby at_22)
  have V_b2_22 := Arv.set Ar_b2_22 q_b2_22 S_b2_22 N_b2_22 H_b2_22 G_b2_22 (v := (.ref wSUM)) rfl W8 2 rfl (Nat.le_of_ble_eq_true rfl)
  have K8 : Keep h0 h8 [] := K6.wr W8 (Or.inr sz_b2)
  have N8 := Fr.snoc X8 N6 g_b2
  obtain ⟨T9, X9, e9, st9⟩ := getS2 X8 hx hZ hown (host := "") (Or.inl (hw _ (List.mem_of_getElem? (i := 10) rfl))) Via.refl e8 ((((S_AVG.ext E2).wr W4).wr W6).wr W8) (g := (mkF m 25 #[.val (.int p1), .unset, .unset, .unset] [(.int (3 : Int32)), (.ref b2), (.ref b2)])) rfl (hb hby at_25)
  obtain ⟨cl_b2_28, Ar_b2_28, q_b2_28, S_b2_28, N_b2_28, H_b2_28, G_b2_28⟩ := id V_b2_22
  have hin28 : ¬ ((3 : Int32) < 0 ∨ cl_b2_28.slots.size ≤ ((3 : Int32)).toNatClampNeg) := inb_of S_b2_28 ⟨by decide, by decide⟩
  have Sto28 := Sto.ofV Ar_b2_28 q_b2_28 O2 (Ins.self ((((E_wAVG.ext E2).wr W4).wr W6).wr W8))
  obtain ⟨T10, h10, X10, e10, W10, st10⟩ := stR X9 hx hZ e9 Ar_b2_28 (j := (3 : Int32)) hin28 rfl Sto28 (g := (mkF m 28 #[.val (.int p1), .unset, .unset, .unset] [(.ref wAVG), (.int (3 : Int32)), (.ref b2), (.ref b2)])) rfl rfl (hb hby at_28)
  have V_b2_28 := Arv.set Ar_b2_28 q_b2_28 S_b2_28 N_b2_28 H_b2_28 G_b2_28 (v := (.ref wAVG)) rfl W10 3 rfl (Nat.le_of_ble_eq_true rfl)
  have K10 : Keep h0 h10 [] := K8.wr W10 (Or.inr sz_b2)
  have N10 := Fr.snoc X10 N8 g_b2
  obtain ⟨T11, X11, e11, st11⟩ := getS2 X10 hx hZ hown (host := "") (Or.inl (hw _ (List.mem_of_getElem? (i := 12) rfl))) Via.refl e10 (((((S_MIN.ext E2).wr W4).wr W6).wr W8).wr W10) (g := (mkF m 31 #[.val (.int p1), .unset, .unset, .unset] [(.int (4 : Int32)), (.ref b2), (.ref b2)])) rfl (hb hby at_31)
  obtain ⟨cl_b2_34, Ar_b2_34, q_b2_34, S_b2_34, N_b2_34, H_b2_34, G_b2_34⟩ := id V_b2_28
  have hin34 : ¬ ((4 : Int32) < 0 ∨ cl_b2_34.slots.size ≤ ((4 : Int32)).toNatClampNeg) := inb_of S_b2_34 ⟨by decide, by decide⟩
  have Sto34 := Sto.ofV Ar_b2_34 q_b2_34 O2 (Ins.self (((((E_wMIN.ext E2).wr W4).wr W6).wr W8).wr W10))
  obtain ⟨T12, h12, X12, e12, W12, st12⟩ := stR X11 hx hZ e11 Ar_b2_34 (j := (4 : Int32)) hin34 rfl Sto34 (g := (mkF m 34 #[.val (.int p1), .unset, .unset, .unset] [(.ref wMIN), (.int (4 : Int32)), (.ref b2), (.ref b2)])) rfl rfl (hb hby at_34)
  have V_b2_34 := Arv.set Ar_b2_34 q_b2_34 S_b2_34 N_b2_34 H_b2_34 G_b2_34 (v := (.ref wMIN)) rfl W12 4 rfl (Nat.le_of_ble_eq_true rfl)
  have K12 : Keep h0 h12 [] := K10.wr W12 (Or.inr sz_b2)
  have N12 := Fr.snoc X12 N10 g_b2
  obtain ⟨T13, X13, e13, st13⟩ := getS2 X12 hx hZ hown (host := "") (Or.inl (hw _ (List.mem_of_getElem? (i := 14) rfl))) Via.refl e12 ((((((S_MAX.ext E2).wr W4).wr W6).wr W8).wr W10).wr W12) (g := (mkF m 37 #[.val (.int p1), .unset, .unset, .unset] [(.int (5 : Int32)), (.ref b2), (.ref b2)])) rfl (hb hby at_37)
  obtain ⟨cl_b2_40, Ar_b2_40, q_b2_40, S_b2_40, N_b2_40, H_b2_40, G_b2_40⟩ := id V_b2_34
  have hin40 : ¬ ((5 : Int32) < 0 ∨ cl_b2_40.slots.size ≤ ((5 : Int32)).toNatClampNeg) := inb_of S_b2_40 ⟨by decide, by decide⟩
  have Sto40 := Sto.ofV Ar_b2_40 q_b2_40 O2 (Ins.self ((((((E_wMAX.ext E2).wr W4).wr W6).wr W8).wr W10).wr W12))
  obtain ⟨T14, h14, X14, e14, W14, st14⟩ := stR X13 hx hZ e13 Ar_b2_40 (j := (5 : Int32)) hin40 rfl Sto40 (g := (mkF m 40 #[.val (.int p1), .unset, .unset, .unset] [(.ref wMAX), (.int (5 : Int32)), (.ref b2), (.ref b2)])) rfl rfl (hb hby at_40)
  have V_b2_40 := Arv.set Ar_b2_40 q_b2_40 S_b2_40 N_b2_40 H_b2_40 G_b2_40 (v := (.ref wMAX)) rfl W14 5 rfl (Nat.le_of_ble_eq_true rfl)
  have K14 : Keep h0 h14 [] := K12.wr W14 (Or.inr sz_b2)
  have N14 := Fr.snoc X14 N12 g_b2
  obtain ⟨T15, h15, k15, X15, e15, E15, A15, st15⟩ := newP X14 hx hZ (hw _ (List.mem_of_getElem? (i := 16) rfl)) e14 (g := (mkF m 44 #[.val (.int p1), .val (.ref b2), .unset, .unset] [(.int (6 : Int32))])) rfl (hb hby at_44) rfl (by decide) (cap := 6) (by decide) (by decide) (by decide) (by decide)
  obtain ⟨b15, g15⟩ : ∃ z, z = h14.size := ⟨_, rfl⟩
  rw [← g15] at A15 st15
  have V_b15 : Arv Z h15 b15 k15 .boolean (6 : Int32) [(.int (0 : Int32)), (.int (0 : Int32)), (.int (0 : Int32)), (.int (0 : Int32)), (.int (0 : Int32)), (.int (0 : Int32))] (.int (0 : Int32)) := (Arv.new A15 (by decide)).pad (pad_rep [] (.int (0 : Int32)) 6)
  have g_b15 : n0 ≤ b15 := Nat.le_trans (Nat.le_trans (Nat.le_trans (Nat.le_trans (Nat.le_trans (Nat.le_trans (Nat.le_trans (Nat.le_trans Z0 E2.1) (Keep.of_wr W4).1) (Keep.of_wr W6).1) (Keep.of_wr W8).1) (Keep.of_wr W10).1) (Keep.of_wr W12).1) (Keep.of_wr W14).1) (Nat.le_of_eq g15.symm)
  have sz_b15 : h0.size ≤ b15 := (Nat.le_trans K14.1 (Nat.le_of_eq g15.symm))
  have K15 : Keep h0 h15 [] := K14.ext E15
  obtain ⟨cl_b15_49, Ar_b15, q_b15, S_b15, N_b15, H_b15, G_b15⟩ := V_b15
  have hin49 : ¬ ((0 : Int32) < 0 ∨ cl_b15_49.slots.size ≤ ((0 : Int32)).toNatClampNeg) := inb_of S_b15 ⟨by decide, by decide⟩
  obtain ⟨T16, h16, X16, e16, W16, st16⟩ := stZ X15 hx hZ e15 Ar_b15 (j := (0 : Int32)) hin49 (g := (mkF m 49 #[.val (.int p1), .val (.ref b2), .unset, .unset] [(.int (0 : Int32)), (.int (0 : Int32)), (.ref b15), (.ref b15)])) rfl rfl (hb hby at_49)
  rw [show nar .boolean (0 : Int32) = (0 : Int32) from by decide] at W16
  have V_b15_16 := Arv.set Ar_b15 q_b15 S_b15 N_b15 H_b15 G_b15 (by decide) W16 0 rfl (Nat.le_of_ble_eq_true rfl)
  have K16 : Keep h0 h16 [] := K15.wr W16 (Or.inr sz_b15)
  have N16 := Fr.snoc X16 N14 g_b15
  obtain ⟨cl_b15_53, Ar_b15, q_b15, S_b15, N_b15, H_b15, G_b15⟩ := V_b15_16
  have hin53 : ¬ ((1 : Int32) < 0 ∨ cl_b15_53.slots.size ≤ ((1 : Int32)).toNatClampNeg) := inb_of S_b15 ⟨by decide, by decide⟩
  obtain ⟨T17, h17, X17, e17, W17, st17⟩ := stZ X16 hx hZ e16 Ar_b15 (j := (1 : Int32)) hin53 (g := (mkF m 53 #[.val (.int p1), .val (.ref b2), .unset, .unset] [(.int (0 : Int32)), (.int (1 : Int32)), (.ref b15), (.ref b15)])) rfl rfl (hb hby at_53)
  rw [show nar .boolean (0 : Int32) = (0 : Int32) from by decide] at W17
  have V_b15_17 := Arv.set Ar_b15 q_b15 S_b15 N_b15 H_b15 G_b15 (by decide) W17 1 rfl (Nat.le_of_ble_eq_true rfl)
  have K17 : Keep h0 h17 [] := K16.wr W17 (Or.inr sz_b15)
  have N17 := Fr.snoc X17 N16 g_b15
  obtain ⟨cl_b15_57, Ar_b15, q_b15, S_b15, N_b15, H_b15, G_b15⟩ := V_b15_17
  have hin57 : ¬ ((2 : Int32) < 0 ∨ cl_b15_57.slots.size ≤ ((2 : Int32)).toNatClampNeg) := inb_of S_b15 ⟨by decide, by decide⟩
  obtain ⟨T18, h18, X18, e18, W18, st18⟩ := stZ X17 hx hZ e17 Ar_b15 (j := (2 : Int32)) hin57 (g := (mkF m 57 #[.val (.int p1), .val (.ref b2), .unset, .unset] [(.int (1 : Int32)), (.int (2 : Int32)), (.ref b15), (.ref b15)])) rfl rfl (hb hby at_57)
  rw [show nar .boolean (1 : Int32) = (1 : Int32) from by decide] at W18
  have V_b15_18 := Arv.set Ar_b15 q_b15 S_b15 N_b15 H_b15 G_b15 (by decide) W18 2 rfl (Nat.le_of_ble_eq_true rfl)
  have K18 : Keep h0 h18 [] := K17.wr W18 (Or.inr sz_b15)
  have N18 := Fr.snoc X18 N17 g_b15
  obtain ⟨cl_b15_61, Ar_b15, q_b15, S_b15, N_b15, H_b15, G_b15⟩ := V_b15_18
  have hin61 : ¬ ((3 : Int32) < 0 ∨ cl_b15_61.slots.size ≤ ((3 : Int32)).toNatClampNeg) := inb_of S_b15 ⟨by decide, by decide⟩
  obtain ⟨T19, h19, X19, e19, W19, st19⟩ := stZ X18 hx hZ e18 Ar_b15 (j := (3 : Int32)) hin61 (g := (mkF m 61 #[.val (.int p1), .val (.ref b2), .unset, .unset] [(.int (1 : Int32)), (.int (3 : Int32)), (.ref b15), (.ref b15)])) rfl rfl (hb hby at_61)
  rw [show nar .boolean (1 : Int32) = (1 : Int32) from by decide] at W19
  have V_b15_19 := Arv.set Ar_b15 q_b15 S_b15 N_b15 H_b15 G_b15 (by decide) W19 3 rfl (Nat.le_of_ble_eq_true rfl)
  have K19 : Keep h0 h19 [] := K18.wr W19 (Or.inr sz_b15)
  have N19 := Fr.snoc X19 N18 g_b15
  obtain ⟨cl_b15_65, Ar_b15, q_b15, S_b15, N_b15, H_b15, G_b15⟩ := V_b15_19
  have hin65 : ¬ ((4 : Int32) < 0 ∨ cl_b15_65.slots.size ≤ ((4 : Int32)).toNatClampNeg) := inb_of S_b15 ⟨by decide, by decide⟩
  obtain ⟨T20, h20, X20, e20, W20, st20⟩ := stZ X19 hx hZ e19 Ar_b15 (j := (4 : Int32)) hin65 (g := (mkF m 65 #[.val (.int p1), .val (.ref b2), .unset, .unset] [(.int (0 : Int32)), (.int (4 : Int32)), (.ref b15), (.ref b15)])) rfl rfl (hb hby at_65)
  rw [show nar .boolean (0 : Int32) = (0 : Int32) from by decide] at W20
  have V_b15_20 := Arv.set Ar_b15 q_b15 S_b15 N_b15 H_b15 G_b15 (by decide) W20 4 rfl (Nat.le_of_ble_eq_true rfl)
  have K20 : Keep h0 h20 [] := K19.wr W20 (Or.inr sz_b15)
  have N20 := Fr.snoc X20 N19 g_b15
  obtain ⟨cl_b15_69, Ar_b15, q_b15, S_b15, N_b15, H_b15, G_b15⟩ := V_b15_20
  have hin69 : ¬ ((5 : Int32) < 0 ∨ cl_b15_69.slots.size ≤ ((5 : Int32)).toNatClampNeg) := inb_of S_b15 ⟨by decide, by decide⟩
  obtain ⟨T21, h21, X21, e21, W21, st21⟩ := stZ X20 hx hZ e20 Ar_b15 (j := (5 : Int32)) hin69 (g := (mkF m 69 #[.val (.int p1), .val (.ref b2), .unset, .unset] [(.int (0 : Int32)), (.int (5 : Int32)), (.ref b15), (.ref b15)])) rfl rfl (hb hby at_69)
  rw [show nar .boolean (0 : Int32) = (0 : Int32) from by decide] at W21
  have V_b15_21 := Arv.set Ar_b15 q_b15 S_b15 N_b15 H_b15 G_b15 (by decide) W21 5 rfl (Nat.le_of_ble_eq_true rfl)
  have K21 : Keep h0 h21 [] := K20.wr W21 (Or.inr sz_b15)
  have N21 := Fr.snoc X21 N20 g_b15
  obtain ⟨cl_b2_81, Ar_b2_81, q_b2_81, S_b2_81, N_b2_81, H_b2_81, G_b2_81⟩ := id (((((((V_b2_40.ext E15).other W16 (Nat.ne_of_lt (Nat.lt_of_lt_of_le V_b2_40.lt (Nat.le_of_eq g15.symm)))).other W17 (Nat.ne_of_lt (Nat.lt_of_lt_of_le V_b2_40.lt (Nat.le_of_eq g15.symm)))).other W18 (Nat.ne_of_lt (Nat.lt_of_lt_of_le V_b2_40.lt (Nat.le_of_eq g15.symm)))).other W19 (Nat.ne_of_lt (Nat.lt_of_lt_of_le V_b2_40.lt (Nat.le_of_eq g15.symm)))).other W20 (Nat.ne_of_lt (Nat.lt_of_lt_of_le V_b2_40.lt (Nat.le_of_eq g15.symm)))).other W21 (Nat.ne_of_lt (Nat.lt_of_lt_of_le V_b2_40.lt (Nat.le_of_eq g15.symm))))
  have hin81 := inb_of (j := ((p1 &&& (2147483647 : Int32)) % (6 : Int32))) S_b2_81 hr81
  have hat81 := Has.at (j := ((p1 &&& (2147483647 : Int32)) % (6 : Int32))) H_b2_81 hin81 u81
  obtain ⟨cq23, kq23, q23a, q23b, q23c⟩ := isOf hZ e21 ((((((((((((((E_w22.ext E2).wr W4).wr W6).wr W8).wr W10).wr W12).wr W14).ext E15).wr W16).wr W17).wr W18).wr W19).wr W20).wr W21)
  obtain ⟨_, _, ⟨T23, L23, k23, n23⟩, -, X23, ⟨Lc23, hQ23, l23, y23, z23⟩, st23⟩ := X21.virtualBack hx (y := (⟨"com/example/whence/whence/query/AggregateFunction", "numeric", "()Z"⟩ : MethodName)) (z := (⟨"com/example/whence/whence/query/AggregateFunction", "numeric", "()Z"⟩ : MethodName)) hown (mvT hZ (hw _ (List.mem_of_getElem? (i := 18) rfl))) (mvT hZ (hw _ (List.mem_of_getElem? (i := 19) rfl))) (notFace_of_selects (args := #[]) (mvT hZ (hw _ (List.mem_of_getElem? (i := 21) rfl)))) (mvT hZ (hw _ (List.mem_of_getElem? (i := 21) rfl))) (mvT hZ (hw _ (List.mem_of_getElem? (i := 20) rfl))) (by decide) (backOf (W := 0) (rm1 l Z a0 hw [] w22 wSUM wAVG bb h21 n0 (Nat.le_trans (Nat.le_trans (Nat.le_trans (Nat.le_trans (Nat.le_trans (Nat.le_trans (Nat.le_trans (Nat.le_trans (Nat.le_trans (Nat.le_trans (Nat.le_trans (Nat.le_trans (Nat.le_trans (Nat.le_trans Z0 E2.1) (Keep.of_wr W4).1) (Keep.of_wr W6).1) (Keep.of_wr W8).1) (Keep.of_wr W10).1) (Keep.of_wr W12).1) (Keep.of_wr W14).1) E15.1) (Keep.of_wr W16).1) (Keep.of_wr W17).1) (Keep.of_wr W18).1) (Keep.of_wr W19).1) (Keep.of_wr W20).1) (Keep.of_wr W21).1) ((((((((((((((S_SUM.ext E2).wr W4).wr W6).wr W8).wr W10).wr W12).wr W14).ext E15).wr W16).wr W17).wr W18).wr W19).wr W20).wr W21) ((((((((((((((S_AVG.ext E2).wr W4).wr W6).wr W8).wr W10).wr W12).wr W14).ext E15).wr W16).wr W17).wr W18).wr W19).wr W20).wr W21) hbb) hZ (hw _ (List.mem_of_getElem? (i := 22) rfl)) (hw _ (List.mem_of_getElem? (i := 3) rfl)) (by decide) (by decide)) q23a q23c (g := (mkF m 82 #[.val (.int p1), .val (.ref b2), .val (.ref b15), .val (.int ((p1 &&& (2147483647 : Int32)) % (6 : Int32)))] [(.ref w22)])) rfl (by rw [hml]; rfl) (Steps.refl _) (argsL := []) (rest := []) (lenOf pd_0_0 rfl) rfl (by show 2 * 0 + _ ≤ _; exact Nat.le_of_eq rfl) (hb hby at_82) (fun _ _ => ⟨rfl, e21, (by decide : 2 + 0 ≤ _), (by decide : 12 + 0 ≤ _)⟩)
  dsimp only [Pt.U, Pt.locs, Pt.cells, Pt.slots] at X23 l23 y23 z23 st23 hQ23
  subst l23 y23 z23
  obtain ⟨rfl, N23q, e23q⟩ := hQ23
  have N23 := Fr.app N21 N23q
  obtain ⟨cl_b15_87, Ar_b15_87, q_b15_87, S_b15_87, N_b15_87, H_b15_87, G_b15_87⟩ := id V_b15_21
  have hin87 := inb_of (j := ((p1 &&& (2147483647 : Int32)) % (6 : Int32))) S_b15_87 hr87
  have hat87 := Has.at (j := ((p1 &&& (2147483647 : Int32)) % (6 : Int32))) H_b15_87 hin87 u87
  obtain ⟨fs, hr, hrun, hended, hW, hsame⟩ := X23.leave (v := some (.int (1 : Int32))) (fun h => by rw [Bd.returns] at h; cases h)
  refine ⟨_, _, pre0 _ ?_, hrun, hended, _, _, rfl, ?_, ⟨_, rfl⟩, hW, hsame.mono (by decide) (by decide)⟩
  · show Steps p.tables e below (s₁.setTop (mkF m 0 #[.val (.int p1), .unset, .unset, .unset] [])) _
    refine XS.bipush X0.here hx rfl (hb hby at_0) ?_
    show Steps p.tables e below (s₁.setTop (mkF m 2 #[.val (.int p1), .unset, .unset, .unset] [(.int (6 : Int32))])) _
    refine st2 _ ?_
    show Steps p.tables e below (T2.setTop (mkF m 5 #[.val (.int p1), .unset, .unset, .unset] [(.ref b2)])) _
    refine XS.dup X2.here hx rfl (hb hby at_5) rfl rfl ?_
    show Steps p.tables e below (T2.setTop (mkF m 6 #[.val (.int p1), .unset, .unset, .unset] [(.ref b2), (.ref b2)])) _
    refine XS.iconst X2.here hx rfl (hb hby at_6) ?_
    show Steps p.tables e below (T2.setTop (mkF m 7 #[.val (.int p1), .unset, .unset, .unset] [(.int (0 : Int32)), (.ref b2), (.ref b2)])) _
    refine st3 _ ?_
    show Steps p.tables e below (T3.setTop (mkF m 10 #[.val (.int p1), .unset, .unset, .unset] [(.ref wCOUNTALL), (.int (0 : Int32)), (.ref b2), (.ref b2)])) _
    refine st4 _ ?_
    show Steps p.tables e below (T4.setTop (mkF m 11 #[.val (.int p1), .unset, .unset, .unset] [(.ref b2)])) _
    refine XS.dup X4.here hx rfl (hb hby at_11) rfl rfl ?_
    show Steps p.tables e below (T4.setTop (mkF m 12 #[.val (.int p1), .unset, .unset, .unset] [(.ref b2), (.ref b2)])) _
    refine XS.iconst X4.here hx rfl (hb hby at_12) ?_
    show Steps p.tables e below (T4.setTop (mkF m 13 #[.val (.int p1), .unset, .unset, .unset] [(.int (1 : Int32)), (.ref b2), (.ref b2)])) _
    refine st5 _ ?_
    show Steps p.tables e below (T5.setTop (mkF m 16 #[.val (.int p1), .unset, .unset, .unset] [(.ref wCOUNT), (.int (1 : Int32)), (.ref b2), (.ref b2)])) _
    refine st6 _ ?_
    show Steps p.tables e below (T6.setTop (mkF m 17 #[.val (.int p1), .unset, .unset, .unset] [(.ref b2)])) _
    refine XS.dup X6.here hx rfl (hb hby at_17) rfl rfl ?_
    show Steps p.tables e below (T6.setTop (mkF m 18 #[.val (.int p1), .unset, .unset, .unset] [(.ref b2), (.ref b2)])) _
    refine XS.iconst X6.here hx rfl (hb hby at_18) ?_
    show Steps p.tables e below (T6.setTop (mkF m 19 #[.val (.int p1), .unset, .unset, .unset] [(.int (2 : Int32)), (.ref b2), (.ref b2)])) _
    refine st7 _ ?_
    show Steps p.tables e below (T7.setTop (mkF m 22 #[.val (.int p1), .unset, .unset, .unset] [(.ref wSUM), (.int (2 : Int32)), (.ref b2), (.ref b2)])) _
    refine st8 _ ?_
    show Steps p.tables e below (T8.setTop (mkF m 23 #[.val (.int p1), .unset, .unset, .unset] [(.ref b2)])) _
    refine XS.dup X8.here hx rfl (hb hby at_23) rfl rfl ?_
    show Steps p.tables e below (T8.setTop (mkF m 24 #[.val (.int p1), .unset, .unset, .unset] [(.ref b2), (.ref b2)])) _
    refine XS.iconst X8.here hx rfl (hb hby at_24) ?_
    show Steps p.tables e below (T8.setTop (mkF m 25 #[.val (.int p1), .unset, .unset, .unset] [(.int (3 : Int32)), (.ref b2), (.ref b2)])) _
    refine st9 _ ?_
    show Steps p.tables e below (T9.setTop (mkF m 28 #[.val (.int p1), .unset, .unset, .unset] [(.ref wAVG), (.int (3 : Int32)), (.ref b2), (.ref b2)])) _
    refine st10 _ ?_
    show Steps p.tables e below (T10.setTop (mkF m 29 #[.val (.int p1), .unset, .unset, .unset] [(.ref b2)])) _
    refine XS.dup X10.here hx rfl (hb hby at_29) rfl rfl ?_
    show Steps p.tables e below (T10.setTop (mkF m 30 #[.val (.int p1), .unset, .unset, .unset] [(.ref b2), (.ref b2)])) _
    refine XS.iconst X10.here hx rfl (hb hby at_30) ?_
    show Steps p.tables e below (T10.setTop (mkF m 31 #[.val (.int p1), .unset, .unset, .unset] [(.int (4 : Int32)), (.ref b2), (.ref b2)])) _
    refine st11 _ ?_
    show Steps p.tables e below (T11.setTop (mkF m 34 #[.val (.int p1), .unset, .unset, .unset] [(.ref wMIN), (.int (4 : Int32)), (.ref b2), (.ref b2)])) _
    refine st12 _ ?_
    show Steps p.tables e below (T12.setTop (mkF m 35 #[.val (.int p1), .unset, .unset, .unset] [(.ref b2)])) _
    refine XS.dup X12.here hx rfl (hb hby at_35) rfl rfl ?_
    show Steps p.tables e below (T12.setTop (mkF m 36 #[.val (.int p1), .unset, .unset, .unset] [(.ref b2), (.ref b2)])) _
    refine XS.iconst X12.here hx rfl (hb hby at_36) ?_
    show Steps p.tables e below (T12.setTop (mkF m 37 #[.val (.int p1), .unset, .unset, .unset] [(.int (5 : Int32)), (.ref b2), (.ref b2)])) _
    refine st13 _ ?_
    show Steps p.tables e below (T13.setTop (mkF m 40 #[.val (.int p1), .unset, .unset, .unset] [(.ref wMAX), (.int (5 : Int32)), (.ref b2), (.ref b2)])) _
    refine st14 _ ?_
    show Steps p.tables e below (T14.setTop (mkF m 41 #[.val (.int p1), .unset, .unset, .unset] [(.ref b2)])) _
    refine XS.astoreN X14.here hx rfl (hb hby at_41) rfl rfl (l' := #[.val (.int p1), .val (.ref b2), .unset, .unset]) rfl ?_
    show Steps p.tables e below (T14.setTop (mkF m 42 #[.val (.int p1), .val (.ref b2), .unset, .unset] [])) _
    refine XS.bipush X14.here hx rfl (hb hby at_42) ?_
    show Steps p.tables e below (T14.setTop (mkF m 44 #[.val (.int p1), .val (.ref b2), .unset, .unset] [(.int (6 : Int32))])) _
    refine st15 _ ?_
    show Steps p.tables e below (T15.setTop (mkF m 46 #[.val (.int p1), .val (.ref b2), .unset, .unset] [(.ref b15)])) _
    refine XS.dup X15.here hx rfl (hb hby at_46) rfl rfl ?_
    show Steps p.tables e below (T15.setTop (mkF m 47 #[.val (.int p1), .val (.ref b2), .unset, .unset] [(.ref b15), (.ref b15)])) _
    refine XS.iconst X15.here hx rfl (hb hby at_47) ?_
    show Steps p.tables e below (T15.setTop (mkF m 48 #[.val (.int p1), .val (.ref b2), .unset, .unset] [(.int (0 : Int32)), (.ref b15), (.ref b15)])) _
    refine XS.iconst X15.here hx rfl (hb hby at_48) ?_
    show Steps p.tables e below (T15.setTop (mkF m 49 #[.val (.int p1), .val (.ref b2), .unset, .unset] [(.int (0 : Int32)), (.int (0 : Int32)), (.ref b15), (.ref b15)])) _
    refine st16 _ ?_
    show Steps p.tables e below (T16.setTop (mkF m 50 #[.val (.int p1), .val (.ref b2), .unset, .unset] [(.ref b15)])) _
    refine XS.dup X16.here hx rfl (hb hby at_50) rfl rfl ?_
    show Steps p.tables e below (T16.setTop (mkF m 51 #[.val (.int p1), .val (.ref b2), .unset, .unset] [(.ref b15), (.ref b15)])) _
    refine XS.iconst X16.here hx rfl (hb hby at_51) ?_
    show Steps p.tables e below (T16.setTop (mkF m 52 #[.val (.int p1), .val (.ref b2), .unset, .unset] [(.int (1 : Int32)), (.ref b15), (.ref b15)])) _
    refine XS.iconst X16.here hx rfl (hb hby at_52) ?_
    show Steps p.tables e below (T16.setTop (mkF m 53 #[.val (.int p1), .val (.ref b2), .unset, .unset] [(.int (0 : Int32)), (.int (1 : Int32)), (.ref b15), (.ref b15)])) _
    refine st17 _ ?_
    show Steps p.tables e below (T17.setTop (mkF m 54 #[.val (.int p1), .val (.ref b2), .unset, .unset] [(.ref b15)])) _
    refine XS.dup X17.here hx rfl (hb hby at_54) rfl rfl ?_
    show Steps p.tables e below (T17.setTop (mkF m 55 #[.val (.int p1), .val (.ref b2), .unset, .unset] [(.ref b15), (.ref b15)])) _
    refine XS.iconst X17.here hx rfl (hb hby at_55) ?_
    show Steps p.tables e below (T17.setTop (mkF m 56 #[.val (.int p1), .val (.ref b2), .unset, .unset] [(.int (2 : Int32)), (.ref b15), (.ref b15)])) _
    refine XS.iconst X17.here hx rfl (hb hby at_56) ?_
    show Steps p.tables e below (T17.setTop (mkF m 57 #[.val (.int p1), .val (.ref b2), .unset, .unset] [(.int (1 : Int32)), (.int (2 : Int32)), (.ref b15), (.ref b15)])) _
    refine st18 _ ?_
    show Steps p.tables e below (T18.setTop (mkF m 58 #[.val (.int p1), .val (.ref b2), .unset, .unset] [(.ref b15)])) _
    refine XS.dup X18.here hx rfl (hb hby at_58) rfl rfl ?_
    show Steps p.tables e below (T18.setTop (mkF m 59 #[.val (.int p1), .val (.ref b2), .unset, .unset] [(.ref b15), (.ref b15)])) _
    refine XS.iconst X18.here hx rfl (hb hby at_59) ?_
    show Steps p.tables e below (T18.setTop (mkF m 60 #[.val (.int p1), .val (.ref b2), .unset, .unset] [(.int (3 : Int32)), (.ref b15), (.ref b15)])) _
    refine XS.iconst X18.here hx rfl (hb hby at_60) ?_
    show Steps p.tables e below (T18.setTop (mkF m 61 #[.val (.int p1), .val (.ref b2), .unset, .unset] [(.int (1 : Int32)), (.int (3 : Int32)), (.ref b15), (.ref b15)])) _
    refine st19 _ ?_
    show Steps p.tables e below (T19.setTop (mkF m 62 #[.val (.int p1), .val (.ref b2), .unset, .unset] [(.ref b15)])) _
    refine XS.dup X19.here hx rfl (hb hby at_62) rfl rfl ?_
    show Steps p.tables e below (T19.setTop (mkF m 63 #[.val (.int p1), .val (.ref b2), .unset, .unset] [(.ref b15), (.ref b15)])) _
    refine XS.iconst X19.here hx rfl (hb hby at_63) ?_
    show Steps p.tables e below (T19.setTop (mkF m 64 #[.val (.int p1), .val (.ref b2), .unset, .unset] [(.int (4 : Int32)), (.ref b15), (.ref b15)])) _
    refine XS.iconst X19.here hx rfl (hb hby at_64) ?_
    show Steps p.tables e below (T19.setTop (mkF m 65 #[.val (.int p1), .val (.ref b2), .unset, .unset] [(.int (0 : Int32)), (.int (4 : Int32)), (.ref b15), (.ref b15)])) _
    refine st20 _ ?_
    show Steps p.tables e below (T20.setTop (mkF m 66 #[.val (.int p1), .val (.ref b2), .unset, .unset] [(.ref b15)])) _
    refine XS.dup X20.here hx rfl (hb hby at_66) rfl rfl ?_
    show Steps p.tables e below (T20.setTop (mkF m 67 #[.val (.int p1), .val (.ref b2), .unset, .unset] [(.ref b15), (.ref b15)])) _
    refine XS.iconst X20.here hx rfl (hb hby at_67) ?_
    show Steps p.tables e below (T20.setTop (mkF m 68 #[.val (.int p1), .val (.ref b2), .unset, .unset] [(.int (5 : Int32)), (.ref b15), (.ref b15)])) _
    refine XS.iconst X20.here hx rfl (hb hby at_68) ?_
    show Steps p.tables e below (T20.setTop (mkF m 69 #[.val (.int p1), .val (.ref b2), .unset, .unset] [(.int (0 : Int32)), (.int (5 : Int32)), (.ref b15), (.ref b15)])) _
    refine st21 _ ?_
    show Steps p.tables e below (T21.setTop (mkF m 70 #[.val (.int p1), .val (.ref b2), .unset, .unset] [(.ref b15)])) _
    refine XS.astoreN X21.here hx rfl (hb hby at_70) rfl rfl (l' := #[.val (.int p1), .val (.ref b2), .val (.ref b15), .unset]) rfl ?_
    show Steps p.tables e below (T21.setTop (mkF m 71 #[.val (.int p1), .val (.ref b2), .val (.ref b15), .unset] [])) _
    refine XS.iloadN X21.here hx rfl (hb hby at_71) rfl ?_
    show Steps p.tables e below (T21.setTop (mkF m 72 #[.val (.int p1), .val (.ref b2), .val (.ref b15), .unset] [(.int p1)])) _
    refine X21.ldcInt hx hown (mvT hZ (hw _ (List.mem_of_getElem? (i := 17) rfl))) (g := (mkF m 72 #[.val (.int p1), .val (.ref b2), .val (.ref b15), .unset] [(.int p1)])) rfl (hb hby at_72) _ ?_
    show Steps p.tables e below (T21.setTop (mkF m 74 #[.val (.int p1), .val (.ref b2), .val (.ref b15), .unset] [(.int (2147483647 : Int32)), (.int p1)])) _
    refine XS.iand X21.here hx rfl (hb hby at_74) rfl ?_
    show Steps p.tables e below (T21.setTop (mkF m 75 #[.val (.int p1), .val (.ref b2), .val (.ref b15), .unset] [(.int (p1 &&& (2147483647 : Int32)))])) _
    refine XS.bipush X21.here hx rfl (hb hby at_75) ?_
    show Steps p.tables e below (T21.setTop (mkF m 77 #[.val (.int p1), .val (.ref b2), .val (.ref b15), .unset] [(.int (6 : Int32)), (.int (p1 &&& (2147483647 : Int32)))])) _
    refine iremM (g := (mkF m 77 #[.val (.int p1), .val (.ref b2), .val (.ref b15), .unset] [(.int (6 : Int32)), (.int (p1 &&& (2147483647 : Int32)))])) X21 hx rfl (hb hby at_77) rfl (by decide) ?_
    show Steps p.tables e below (T21.setTop (mkF m 78 #[.val (.int p1), .val (.ref b2), .val (.ref b15), .unset] [(.int ((p1 &&& (2147483647 : Int32)) % (6 : Int32)))])) _
    refine XS.istoreN X21.here hx rfl (hb hby at_78) rfl (l' := #[.val (.int p1), .val (.ref b2), .val (.ref b15), .val (.int ((p1 &&& (2147483647 : Int32)) % (6 : Int32)))]) rfl ?_
    show Steps p.tables e below (T21.setTop (mkF m 79 #[.val (.int p1), .val (.ref b2), .val (.ref b15), .val (.int ((p1 &&& (2147483647 : Int32)) % (6 : Int32)))] [])) _
    refine XS.aloadN X21.here hx rfl (hb hby at_79) rfl rfl ?_
    show Steps p.tables e below (T21.setTop (mkF m 80 #[.val (.int p1), .val (.ref b2), .val (.ref b15), .val (.int ((p1 &&& (2147483647 : Int32)) % (6 : Int32)))] [(.ref b2)])) _
    refine XS.iloadN X21.here hx rfl (hb hby at_80) rfl ?_
    show Steps p.tables e below (T21.setTop (mkF m 81 #[.val (.int p1), .val (.ref b2), .val (.ref b15), .val (.int ((p1 &&& (2147483647 : Int32)) % (6 : Int32)))] [(.int ((p1 &&& (2147483647 : Int32)) % (6 : Int32))), (.ref b2)])) _
    refine X21.aaload hx (j := ((p1 &&& (2147483647 : Int32)) % (6 : Int32))) (v := (.ref w22)) (by rw [e21]; exact Ar_b2_81.1) (State.isArrayOf_alike hZ.alike Ar_b2_81.2.1) rfl Ar_b2_81.2.2 hin81 hat81 (g := (mkF m 81 #[.val (.int p1), .val (.ref b2), .val (.ref b15), .val (.int ((p1 &&& (2147483647 : Int32)) % (6 : Int32)))] [(.int ((p1 &&& (2147483647 : Int32)) % (6 : Int32))), (.ref b2)])) rfl rfl (hb hby at_81) _ ?_
    show Steps p.tables e below (T21.setTop (mkF m 82 #[.val (.int p1), .val (.ref b2), .val (.ref b15), .val (.int ((p1 &&& (2147483647 : Int32)) % (6 : Int32)))] [(.ref w22)])) _
    refine st23.trans ?_
    show Steps p.tables e below (T23.setTop (mkF m 85 #[.val (.int p1), .val (.ref b2), .val (.ref b15), .val (.int ((p1 &&& (2147483647 : Int32)) % (6 : Int32)))] [(.int bb)])) _
    refine XS.aloadN X23.here hx rfl (hb hby at_85) rfl rfl ?_
    show Steps p.tables e below (T23.setTop (mkF m 86 #[.val (.int p1), .val (.ref b2), .val (.ref b15), .val (.int ((p1 &&& (2147483647 : Int32)) % (6 : Int32)))] [(.ref b15), (.int bb)])) _
    refine XS.iloadN X23.here hx rfl (hb hby at_86) rfl ?_
    show Steps p.tables e below (T23.setTop (mkF m 87 #[.val (.int p1), .val (.ref b2), .val (.ref b15), .val (.int ((p1 &&& (2147483647 : Int32)) % (6 : Int32)))] [(.int ((p1 &&& (2147483647 : Int32)) % (6 : Int32))), (.ref b15), (.int bb)])) _
    refine X23.baloadBooleans hx (j := ((p1 &&& (2147483647 : Int32)) % (6 : Int32))) (v := (.int w24)) (by rw [e23q]; exact Ar_b15_87.1) (State.isArrayOf_alike hZ.alike Ar_b15_87.2.1) Ar_b15_87.2.2 hin87 hat87 (g := (mkF m 87 #[.val (.int p1), .val (.ref b2), .val (.ref b15), .val (.int ((p1 &&& (2147483647 : Int32)) % (6 : Int32)))] [(.int ((p1 &&& (2147483647 : Int32)) % (6 : Int32))), (.ref b15), (.int bb)])) rfl rfl (hb hby at_87) _ ?_
    show Steps p.tables e below (T23.setTop (mkF m 88 #[.val (.int p1), .val (.ref b2), .val (.ref b15), .val (.int ((p1 &&& (2147483647 : Int32)) % (6 : Int32)))] [(.int w24), (.int bb)])) _
    refine XS.icmpNo X23.here hx rfl (hb hby at_88) rfl (teq hc88).2 ?_
    show Steps p.tables e below (T23.setTop (mkF m 91 #[.val (.int p1), .val (.ref b2), .val (.ref b15), .val (.int ((p1 &&& (2147483647 : Int32)) % (6 : Int32)))] [])) _
    refine XS.iconst X23.here hx rfl (hb hby at_91) ?_
    show Steps p.tables e below (T23.setTop (mkF m 92 #[.val (.int p1), .val (.ref b2), .val (.ref b15), .val (.int ((p1 &&& (2147483647 : Int32)) % (6 : Int32)))] [(.int (1 : Int32))])) _
    refine XS.goto X23.here hx rfl (pc0 := 92) (pc' := 96) rfl (hb hby at_92) (by decide) (by decide) ?_
    show Steps p.tables e below (T23.setTop (mkF m 96 #[.val (.int p1), .val (.ref b2), .val (.ref b15), .val (.int ((p1 &&& (2147483647 : Int32)) % (6 : Int32)))] [(.int (1 : Int32))])) _
    exact retN X23 hx (t := .boolean) Bd.returns (by simp) (hb hby at_96) hr
  · show Qlaw0 n0 _ T23.heap _
    rw [e23q]
    exact ⟨rfl, N23⟩
theorem own_mod (x d : Int32) (n : Int) (hd : d.toInt = n) (hn : 0 < n) : 0 ≤ ((x &&& (2147483647 : Int32)) % d).toInt ∧ ((x &&& (2147483647 : Int32)) % d).toInt < n := by
  have h1 := c_and x 2147483647 (by decide)
  have h2 := (c_irem (x &&& 2147483647) d n hd).1 h1.1
  rw [h2]
  exact ⟨Int.emod_nonneg _ (by omega), Int.emod_lt_of_pos _ hn⟩
theorem own_six (x : Int32) : (¬ ((x &&& (2147483647 : Int32)) % (6 : Int32)) < 0 ∧ ((x &&& (2147483647 : Int32)) % (6 : Int32)) < (6 : Int32)) ∧ (((x &&& (2147483647 : Int32)) % (6 : Int32)) = (0 : Int32) ∨ ((x &&& (2147483647 : Int32)) % (6 : Int32)) = (1 : Int32) ∨ ((x &&& (2147483647 : Int32)) % (6 : Int32)) = (2 : Int32) ∨ ((x &&& (2147483647 : Int32)) % (6 : Int32)) = (3 : Int32) ∨ ((x &&& (2147483647 : Int32)) % (6 : Int32)) = (4 : Int32) ∨ ((x &&& (2147483647 : Int32)) % (6 : Int32)) = (5 : Int32)) := by
  have h := own_mod x 6 6 (by decide) (by decide)
  generalize ((x &&& (2147483647 : Int32)) % (6 : Int32)) = j at h ⊢
  have z0 : (0 : Int32).toInt = 0 := by decide
  have zn : (6 : Int32).toInt = 6 := by decide
  refine ⟨⟨by rw [Int32.lt_iff_toInt_lt]; omega, by rw [Int32.lt_iff_toInt_lt]; omega⟩, ?_⟩
  have hc : j.toInt = 0 ∨ j.toInt = 1 ∨ j.toInt = 2 ∨ j.toInt = 3 ∨ j.toInt = 4 ∨ j.toInt = 5 := by omega
  rcases hc with c | c | c | c | c | c
  · exact Or.inl (Int32.toInt_inj.mp (c.trans (by decide)))
  · exact Or.inr (Or.inl (Int32.toInt_inj.mp (c.trans (by decide))))
  · exact Or.inr (Or.inr (Or.inl (Int32.toInt_inj.mp (c.trans (by decide)))))
  · exact Or.inr (Or.inr (Or.inr (Or.inl (Int32.toInt_inj.mp (c.trans (by decide))))))
  · exact Or.inr (Or.inr (Or.inr (Or.inr (Or.inl (Int32.toInt_inj.mp (c.trans (by decide)))))))
  · exact Or.inr (Or.inr (Or.inr (Or.inr (Or.inr ((Int32.toInt_inj.mp (c.trans (by decide))))))))
set_option maxRecDepth 65536 in
set_option maxHeartbeats 40000000 in
theorem comes_1 {Post : Tables → Env → Array Value → State → Outcome → State → Prop} (hpost : ∀ tb e args s v u, (limb_1_1.after args s (.returned v) u = true ∧ limb_1_2.after args s (.returned v) u = true ∧ True) → FrameEnd s (.returned v) u (Jvm.fieldLocs frame_1_writes args s ++ Jvm.arrayLocs frame_1_arrays args s ++ Jvm.staticLocs frame_1_statics s) 16 128 → Post tb e args s (.returned v) u) :
    ArmFor flags0 classFile x code maxLocals ret World_1 tables_1 room_1 Calls_1 rest_1 Pre_1 Post := by
  intro l hfl _ _ p e ha hc hk s m args below hf hA hF happ hP
  obtain ⟨hcalls, hrest, hpre⟩ := hP
  obtain ⟨-, -, -, hnamed, -, -, -, hat⟩ := (Spec.applies_iff hf).mp happ
  obtain ⟨hg, hn⟩ := and_e (Cond.before_iff.mp (show (Jvm.Cond.and given_1 narrow_1).before args s = true from hpre))
  obtain ⟨g25, g26⟩ := and_e hg
  obtain ⟨w0, rfl⟩ : ∃ w0 : Value, args = #[w0] := by
    have hs : args.size = 1 := by simpa [Cond.value, given_1] using g25
    obtain ⟨L⟩ := args
    match L, hs with
    | [w0], _ => exact ⟨w0, rfl⟩
  have hw := fun d (hd : d ∈ tables_1) => atoms_spec (ws := Jvm.Cond.code x code maxLocals ret :: tables_1) hat d (List.mem_cons_of_mem _ hd)
  have hfit : Fit s := fun {y c} hc i hi => by
    obtain ⟨ha, rfl⟩ := Array.getElem?_eq_some_iff.mp hc
    have q := List.all_eq_true.mp ((Array.all_eq_true_iff_forall_mem.mp hF) _ (Array.getElem_mem ha)) i (List.mem_range.mpr hi)
    simpa [Array.getElem?_eq_getElem hi] using q
  obtain ⟨i0, ei0⟩ := is_v g26
  obtain rfl : w0 = (.int i0) := Option.some.inj ei0
  obtain ⟨m0, hn0⟩ := and_e hn
  obtain ⟨m1, hn1⟩ := and_e hn0
  obtain ⟨m2, hn2⟩ := and_e hn1
  obtain ⟨m3, hn3⟩ := and_e hn2
  obtain ⟨m4, hn4⟩ := and_e hn3
  obtain ⟨m5, hn5⟩ := and_e hn4
  obtain ⟨m6, hn6⟩ := and_e hn5
  obtain ⟨m7, hn7⟩ := and_e hn6
  obtain ⟨m8, hn8⟩ := and_e hn7
  obtain ⟨m9, hn9⟩ := and_e hn8
  obtain ⟨m10, hn10⟩ := and_e hn9
  have m11 := hn10
  obtain ⟨a_COUNT_ALL, ev_COUNT_ALL⟩ := exa_v m0
  have E_COUNT_ALL := Exa.start ev_COUNT_ALL m0
  have S_COUNT_ALL := Sta.start ev_COUNT_ALL (Or.inr ⟨(hw _ (List.mem_of_getElem? (i := 3) rfl)), (hw _ (List.mem_of_getElem? (i := 4) rfl))⟩)
  obtain ⟨a_COUNT, ev_COUNT⟩ := exa_v m1
  have E_COUNT := Exa.start ev_COUNT m1
  have S_COUNT := Sta.start ev_COUNT (Or.inr ⟨(hw _ (List.mem_of_getElem? (i := 3) rfl)), (hw _ (List.mem_of_getElem? (i := 7) rfl))⟩)
  obtain ⟨a_SUM, ev_SUM⟩ := exa_v m2
  have E_SUM := Exa.start ev_SUM m2
  have S_SUM := Sta.start ev_SUM (Or.inr ⟨(hw _ (List.mem_of_getElem? (i := 3) rfl)), (hw _ (List.mem_of_getElem? (i := 9) rfl))⟩)
  obtain ⟨a_AVG, ev_AVG⟩ := exa_v m3
  have E_AVG := Exa.start ev_AVG m3
  have S_AVG := Sta.start ev_AVG (Or.inr ⟨(hw _ (List.mem_of_getElem? (i := 3) rfl)), (hw _ (List.mem_of_getElem? (i := 11) rfl))⟩)
  obtain ⟨a_MIN, ev_MIN⟩ := exa_v m4
  have E_MIN := Exa.start ev_MIN m4
  have S_MIN := Sta.start ev_MIN (Or.inr ⟨(hw _ (List.mem_of_getElem? (i := 3) rfl)), (hw _ (List.mem_of_getElem? (i := 13) rfl))⟩)
  obtain ⟨a_MAX, ev_MAX⟩ := exa_v m5
  have E_MAX := Exa.start ev_MAX m5
  have S_MAX := Sta.start ev_MAX (Or.inr ⟨(hw _ (List.mem_of_getElem? (i := 3) rfl)), (hw _ (List.mem_of_getElem? (i := 15) rfl))⟩)
  have F_ordinal_COUNT_ALL := own_fld ev_COUNT_ALL m6
  have F_ordinal_SUM := own_fld ev_SUM m7
  have F_ordinal_AVG := own_fld ev_AVG m8
  have F_ordinal_COUNT := own_fld ev_COUNT m9
  have F_ordinal_MAX := own_fld ev_MAX m10
  have F_ordinal_MIN := own_fld ev_MIN m11
  obtain ⟨hr, hk⟩ := own_six i0
  rcases hk with c | c | c | c | c | c
  ·
    obtain ⟨n, o, h1, h2, h3, _, L, rfl, ⟨rfl, N⟩, hq⟩ := rm0 l s _ hw tables_1 i0 a_COUNT_ALL a_COUNT a_SUM a_AVG a_MIN a_MAX (0 : Int32) a_COUNT_ALL (0 : Int32) s.heap s.heap.size (Nat.le_refl _) S_COUNT_ALL S_COUNT S_SUM S_AVG S_MIN S_MAX (Or.inr (Or.inr ⟨(own_ne F_ordinal_COUNT_ALL F_ordinal_SUM (by decide)), (own_ne F_ordinal_COUNT_ALL F_ordinal_AVG (by decide)), rfl⟩)) E_COUNT_ALL E_COUNT E_SUM E_AVG E_MIN E_MAX hr (by rw [c]; rfl) E_COUNT_ALL hr (by rw [c]; rfl) rfl p e ha hc hk s m _ below hf ((Spec.applies_iff_loose hf).mp happ).1 ⟨rfl, State.Warmed39.refl s, rfl⟩ trivial
    refine ⟨n, _, h1, h2, h3, hpost _ _ _ _ _ _ ⟨Cond.after_iff.mpr rfl, Cond.after_iff.mpr (eq_i res_at (Term.int_eval (1)) rfl), trivial⟩ ⟨hq.1, hq.2.1, (hq.2.2.sift fun y hy => Or.inr (N y hy)).mono (by decide) (by decide)⟩⟩
  ·
    obtain ⟨n, o, h1, h2, h3, _, L, rfl, ⟨rfl, N⟩, hq⟩ := rm0 l s _ hw tables_1 i0 a_COUNT_ALL a_COUNT a_SUM a_AVG a_MIN a_MAX (0 : Int32) a_COUNT (0 : Int32) s.heap s.heap.size (Nat.le_refl _) S_COUNT_ALL S_COUNT S_SUM S_AVG S_MIN S_MAX (Or.inr (Or.inr ⟨(own_ne F_ordinal_COUNT F_ordinal_SUM (by decide)), (own_ne F_ordinal_COUNT F_ordinal_AVG (by decide)), rfl⟩)) E_COUNT_ALL E_COUNT E_SUM E_AVG E_MIN E_MAX hr (by rw [c]; rfl) E_COUNT hr (by rw [c]; rfl) rfl p e ha hc hk s m _ below hf ((Spec.applies_iff_loose hf).mp happ).1 ⟨rfl, State.Warmed39.refl s, rfl⟩ trivial
    refine ⟨n, _, h1, h2, h3, hpost _ _ _ _ _ _ ⟨Cond.after_iff.mpr rfl, Cond.after_iff.mpr (eq_i res_at (Term.int_eval (1)) rfl), trivial⟩ ⟨hq.1, hq.2.1, (hq.2.2.sift fun y hy => Or.inr (N y hy)).mono (by decide) (by decide)⟩⟩
  ·
    obtain ⟨n, o, h1, h2, h3, _, L, rfl, ⟨rfl, N⟩, hq⟩ := rm0 l s _ hw tables_1 i0 a_COUNT_ALL a_COUNT a_SUM a_AVG a_MIN a_MAX (1 : Int32) a_SUM (1 : Int32) s.heap s.heap.size (Nat.le_refl _) S_COUNT_ALL S_COUNT S_SUM S_AVG S_MIN S_MAX (Or.inl ⟨rfl, rfl⟩) E_COUNT_ALL E_COUNT E_SUM E_AVG E_MIN E_MAX hr (by rw [c]; rfl) E_SUM hr (by rw [c]; rfl) rfl p e ha hc hk s m _ below hf ((Spec.applies_iff_loose hf).mp happ).1 ⟨rfl, State.Warmed39.refl s, rfl⟩ trivial
    refine ⟨n, _, h1, h2, h3, hpost _ _ _ _ _ _ ⟨Cond.after_iff.mpr rfl, Cond.after_iff.mpr (eq_i res_at (Term.int_eval (1)) rfl), trivial⟩ ⟨hq.1, hq.2.1, (hq.2.2.sift fun y hy => Or.inr (N y hy)).mono (by decide) (by decide)⟩⟩
  ·
    obtain ⟨n, o, h1, h2, h3, _, L, rfl, ⟨rfl, N⟩, hq⟩ := rm0 l s _ hw tables_1 i0 a_COUNT_ALL a_COUNT a_SUM a_AVG a_MIN a_MAX (1 : Int32) a_AVG (1 : Int32) s.heap s.heap.size (Nat.le_refl _) S_COUNT_ALL S_COUNT S_SUM S_AVG S_MIN S_MAX (Or.inr (Or.inl ⟨(own_ne F_ordinal_AVG F_ordinal_SUM (by decide)), rfl, rfl⟩)) E_COUNT_ALL E_COUNT E_SUM E_AVG E_MIN E_MAX hr (by rw [c]; rfl) E_AVG hr (by rw [c]; rfl) rfl p e ha hc hk s m _ below hf ((Spec.applies_iff_loose hf).mp happ).1 ⟨rfl, State.Warmed39.refl s, rfl⟩ trivial
    refine ⟨n, _, h1, h2, h3, hpost _ _ _ _ _ _ ⟨Cond.after_iff.mpr rfl, Cond.after_iff.mpr (eq_i res_at (Term.int_eval (1)) rfl), trivial⟩ ⟨hq.1, hq.2.1, (hq.2.2.sift fun y hy => Or.inr (N y hy)).mono (by decide) (by decide)⟩⟩
  ·
    obtain ⟨n, o, h1, h2, h3, _, L, rfl, ⟨rfl, N⟩, hq⟩ := rm0 l s _ hw tables_1 i0 a_COUNT_ALL a_COUNT a_SUM a_AVG a_MIN a_MAX (0 : Int32) a_MIN (0 : Int32) s.heap s.heap.size (Nat.le_refl _) S_COUNT_ALL S_COUNT S_SUM S_AVG S_MIN S_MAX (Or.inr (Or.inr ⟨(own_ne F_ordinal_MIN F_ordinal_SUM (by decide)), (own_ne F_ordinal_MIN F_ordinal_AVG (by decide)), rfl⟩)) E_COUNT_ALL E_COUNT E_SUM E_AVG E_MIN E_MAX hr (by rw [c]; rfl) E_MIN hr (by rw [c]; rfl) rfl p e ha hc hk s m _ below hf ((Spec.applies_iff_loose hf).mp happ).1 ⟨rfl, State.Warmed39.refl s, rfl⟩ trivial
    refine ⟨n, _, h1, h2, h3, hpost _ _ _ _ _ _ ⟨Cond.after_iff.mpr rfl, Cond.after_iff.mpr (eq_i res_at (Term.int_eval (1)) rfl), trivial⟩ ⟨hq.1, hq.2.1, (hq.2.2.sift fun y hy => Or.inr (N y hy)).mono (by decide) (by decide)⟩⟩
  ·
    obtain ⟨n, o, h1, h2, h3, _, L, rfl, ⟨rfl, N⟩, hq⟩ := rm0 l s _ hw tables_1 i0 a_COUNT_ALL a_COUNT a_SUM a_AVG a_MIN a_MAX (0 : Int32) a_MAX (0 : Int32) s.heap s.heap.size (Nat.le_refl _) S_COUNT_ALL S_COUNT S_SUM S_AVG S_MIN S_MAX (Or.inr (Or.inr ⟨(own_ne F_ordinal_MAX F_ordinal_SUM (by decide)), (own_ne F_ordinal_MAX F_ordinal_AVG (by decide)), rfl⟩)) E_COUNT_ALL E_COUNT E_SUM E_AVG E_MIN E_MAX hr (by rw [c]; rfl) E_MAX hr (by rw [c]; rfl) rfl p e ha hc hk s m _ below hf ((Spec.applies_iff_loose hf).mp happ).1 ⟨rfl, State.Warmed39.refl s, rfl⟩ trivial
    refine ⟨n, _, h1, h2, h3, hpost _ _ _ _ _ _ ⟨Cond.after_iff.mpr rfl, Cond.after_iff.mpr (eq_i res_at (Term.int_eval (1)) rfl), trivial⟩ ⟨hq.1, hq.2.1, (hq.2.2.sift fun y hy => Or.inr (N y hy)).mono (by decide) (by decide)⟩⟩
theorem main_1_1 : Claimed_1_1 := comes_1 fun _ _ _ _ _ _ h hF => ⟨h.1, hF⟩
theorem main_1_2 : Claimed_1_2 := comes_1 fun _ _ _ _ _ _ h hF => ⟨h.2.1, hF⟩
end Jvm.Pilot.@@N@@
namespace Jvm.Pilot.@@N@@
open Jvm Jvm.ClassFile Sem Op Lib Jvm.Free Jvm.Stand Jvm.Pilot.@@N@@.Jvm.D
/-! MADE BY PROGRAM (witnessworld.py) out of the Statement's table words and the real class files: 15 classes; the members and pool entries that the words name. The judged class is class 1, her method 1. -/
namespace start1
open Jvm.ClassFile
def u (s : String) : CpInfo := .utf8 (stringToUtf16 s)
/-- a pool by its gaps: so many unusable entries, then the entry; so many at the end -/
def gap : Nat → List CpInfo → List CpInfo
  | 0, r => r
  | n + 1, r => .unusable :: gap n r
def poolList (es : List (Nat × CpInfo)) (last : Nat) : List CpInfo := es.foldr (fun e r => gap e.1 (e.2 :: r)) (gap last [])
def pool (es : List (Nat × CpInfo)) (last : Nat) : Array CpInfo := ⟨poolList es last⟩
def fileOf (pool : Array CpInfo) (this : Nat) (attrs : Array Attribute := #[]) (ms : Array MethodInfo := #[]) (fl : Nat := 33) (sup : Nat := 0) (ifs : Array Nat := #[]) (fds : Array FieldInfo := #[]) : ClassFile where
  minorVersion := 0
  majorVersion := 65
  constantPool := pool
  accessFlags := fl
  thisClass := this
  superClass := sup
  interfaces := ifs
  fields := fds
  methods := ms
  attributes := attrs
def plain (name : String) (sup : Option ClassId) : Class where
  name := name
  kind := .ordinary
  loader := none
  accessFlags := 33
  super := sup
  interfaces := #[]
  cf := none
  fields := #[]
  methods := #[]
  instanceTypes := #[]
  staticTypes := #[]
  resolved := #[]
  callSites := []
  init := .initialized
  statics := none
  mirror := none

def pool0 : Array CpInfo := pool [(5, u "<init>"), (0, u "()V"), (1, .class_ 10), (1, u "java/lang/Object")] 113

def k0m0 : Method := { name := "<init>", desc := "()V", sig := { parameters := [], returnType := none }, accessFlags := 1, code := none }
/-- java/lang/Object -/
def k0 : Class := { plain "java/lang/Object" none with
  accessFlags := 33
  interfaces := #[]
  cf := some (fileOf pool0 8 #[] #[{ accessFlags := 1, nameIndex := 5, descriptorIndex := 6, attributes := #[] }] 33 0 #[] #[])
  fields := #[]
  methods := #[k0m0]
  instanceTypes := #[]
  staticTypes := #[]
  resolved := Array.replicate 124 none
  statics := none }

def pool1 : Array CpInfo := pool [(2, .class_ 4), (1, u "java/lang/Object"), (0, u "<init>"), (0, u "()V"), (0, .class_ 8), (0, u "com/example/whence/whence/query/AggregateFunction"), (0, .fieldref 7 10), (0, .nameAndType 11 12), (0, u "COUNT_ALL"), (0, u "Lcom/example/whence/whence/query/AggregateFunction;"), (0, .fieldref 7 14), (0, .nameAndType 15 12), (0, u "COUNT"), (0, .fieldref 7 17), (0, .nameAndType 18 12), (0, u "SUM"), (0, .fieldref 7 20), (0, .nameAndType 21 12), (0, u "AVG"), (0, .fieldref 7 23), (0, .nameAndType 24 12), (0, u "MIN"), (0, .fieldref 7 26), (0, .nameAndType 27 12), (0, u "MAX"), (0, .integer 2147483647), (0, .methodref 7 30), (0, .nameAndType 31 32), (0, u "numeric"), (0, u "()Z"), (0, .class_ 34), (0, u "com/example/whence/whence/query/AggregateFunctionNumericPinLaw"), (2, u "law"), (0, u "(I)Z")] 7

def k1m0 : Method := { name := "<init>", desc := "()V", sig := { parameters := [], returnType := none }, accessFlags := 1, code := none }
def k1c1 : Code := { maxStack := 4, maxLocals := 4, code := code, exceptionTable := #[], attributes := #[] }
def k1m1 : Method := { name := "law", desc := "(I)Z", sig := { parameters := [.int], returnType := some .boolean }, accessFlags := 9, code := some k1c1 }
/-- com/example/whence/whence/query/AggregateFunctionNumericPinLaw -/
def k1 : Class := { plain "com/example/whence/whence/query/AggregateFunctionNumericPinLaw" (some 0) with
  accessFlags := 49
  interfaces := #[]
  cf := some (fileOf pool1 33 #[] #[{ accessFlags := 1, nameIndex := 5, descriptorIndex := 6, attributes := #[] }, { accessFlags := 9, nameIndex := 37, descriptorIndex := 38, attributes := #[] }] 49 2 #[] #[])
  fields := #[]
  methods := #[k1m0, k1m1]
  instanceTypes := #[]
  staticTypes := #[]
  resolved := Array.replicate 46 none
  statics := none }

def pool2 : Array CpInfo := pool [(1, .class_ 2), (0, u "java/lang/constant/Constable"), (0, .class_ 4), (0, u "java/lang/Object")] 6

/-- java/lang/constant/Constable -/
def k2 : Class := { plain "java/lang/constant/Constable" (some 0) with
  accessFlags := 1537
  interfaces := #[]
  cf := some (fileOf pool2 1 #[] #[] 1537 3 #[] #[])
  fields := #[]
  methods := #[]
  instanceTypes := #[]
  staticTypes := #[]
  resolved := Array.replicate 11 none
  statics := none }

def pool3 : Array CpInfo := pool [(1, .class_ 2), (0, u "java/lang/Comparable"), (0, .class_ 4), (0, u "java/lang/Object")] 7

/-- java/lang/Comparable -/
def k3 : Class := { plain "java/lang/Comparable" (some 0) with
  accessFlags := 1537
  interfaces := #[]
  cf := some (fileOf pool3 1 #[] #[] 1537 3 #[] #[])
  fields := #[]
  methods := #[]
  instanceTypes := #[]
  staticTypes := #[]
  resolved := Array.replicate 12 none
  statics := none }

def pool4 : Array CpInfo := pool [(1, .class_ 2), (0, u "java/io/Serializable"), (0, .class_ 4), (0, u "java/lang/Object")] 2

/-- java/io/Serializable -/
def k4 : Class := { plain "java/io/Serializable" (some 0) with
  accessFlags := 1537
  interfaces := #[]
  cf := some (fileOf pool4 1 #[] #[] 1537 3 #[] #[])
  fields := #[]
  methods := #[]
  instanceTypes := #[]
  staticTypes := #[]
  resolved := Array.replicate 7 none
  statics := none }

def pool5 : Array CpInfo := pool [(2, .class_ 4), (1, u "java/lang/Enum"), (0, u "name"), (0, u "Ljava/lang/String;"), (2, u "ordinal"), (0, u "I"), (1, .class_ 14), (1, u "java/lang/Object"), (4, u "hash"), (86, .class_ 108), (1, u "java/lang/Enum$EnumDesc"), (2, .class_ 112), (0, u "java/lang/constant/Constable"), (0, .class_ 114), (0, u "java/lang/Comparable"), (0, .class_ 116), (0, u "java/io/Serializable")] 87

/-- java/lang/Enum -/
def k5 : Class := { plain "java/lang/Enum" (some 0) with
  accessFlags := 1057
  interfaces := #[2, 3, 4]
  cf := some (fileOf pool5 2 #[.nestMembers #[106]] #[] 1057 12 #[111, 113, 115] #[{ accessFlags := 18, nameIndex := 5, descriptorIndex := 6, attributes := #[] }, { accessFlags := 18, nameIndex := 9, descriptorIndex := 10, attributes := #[] }, { accessFlags := 2, nameIndex := 19, descriptorIndex := 10, attributes := #[] }])
  fields := #[{ name := "name", type := (.object "java/lang/String"), accessFlags := 18, slot := 0, constantValue := 0 }, { name := "ordinal", type := .int, accessFlags := 18, slot := 1, constantValue := 0 }, { name := "hash", type := .int, accessFlags := 2, slot := 2, constantValue := 0 }]
  methods := #[]
  instanceTypes := #[(.object "java/lang/String"), .int, .int]
  staticTypes := #[]
  resolved := Array.replicate 204 none
  statics := none }

def pool6 : Array CpInfo := pool [(1, .class_ 2), (0, u "com/example/whence/whence/query/AggregateFunction"), (2, u "COUNT_ALL"), (0, u "Lcom/example/whence/whence/query/AggregateFunction;"), (2, u "COUNT"), (0, .fieldref 1 11), (0, .nameAndType 12 6), (0, u "SUM"), (0, .fieldref 1 14), (0, .nameAndType 15 6), (0, u "AVG"), (2, u "MIN"), (2, u "MAX"), (2, u "$VALUES"), (0, u "[Lcom/example/whence/whence/query/AggregateFunction;"), (6, .class_ 34), (1, u "java/lang/Enum"), (32, u "()Z"), (5, u "numeric"), (27, u "AVERAGE"), (0, u "Ljava/math/MathContext;")] 45

def k6c0 : Code := { maxStack := 2, maxLocals := 1, code := prog_34_method_7_code, exceptionTable := #[], attributes := #[] }
def k6m0 : Method := { name := "numeric", desc := "()Z", sig := { parameters := [], returnType := some .boolean }, accessFlags := 1, code := some k6c0 }
/-- com/example/whence/whence/query/AggregateFunction -/
def k6 : Class := { plain "com/example/whence/whence/query/AggregateFunction" (some 5) with
  accessFlags := 16433
  interfaces := #[]
  cf := some (fileOf pool6 1 #[] #[{ accessFlags := 1, nameIndex := 73, descriptorIndex := 67, attributes := #[] }] 16433 32 #[] #[{ accessFlags := 16409, nameIndex := 5, descriptorIndex := 6, attributes := #[] }, { accessFlags := 16409, nameIndex := 9, descriptorIndex := 6, attributes := #[] }, { accessFlags := 16409, nameIndex := 12, descriptorIndex := 6, attributes := #[] }, { accessFlags := 16409, nameIndex := 15, descriptorIndex := 6, attributes := #[] }, { accessFlags := 16409, nameIndex := 18, descriptorIndex := 6, attributes := #[] }, { accessFlags := 16409, nameIndex := 21, descriptorIndex := 6, attributes := #[] }, { accessFlags := 26, nameIndex := 101, descriptorIndex := 102, attributes := #[] }, { accessFlags := 4122, nameIndex := 24, descriptorIndex := 25, attributes := #[] }])
  fields := #[{ name := "COUNT_ALL", type := (.object "com/example/whence/whence/query/AggregateFunction"), accessFlags := 16409, slot := 0, constantValue := 0 }, { name := "COUNT", type := (.object "com/example/whence/whence/query/AggregateFunction"), accessFlags := 16409, slot := 1, constantValue := 0 }, { name := "SUM", type := (.object "com/example/whence/whence/query/AggregateFunction"), accessFlags := 16409, slot := 2, constantValue := 0 }, { name := "AVG", type := (.object "com/example/whence/whence/query/AggregateFunction"), accessFlags := 16409, slot := 3, constantValue := 0 }, { name := "MIN", type := (.object "com/example/whence/whence/query/AggregateFunction"), accessFlags := 16409, slot := 4, constantValue := 0 }, { name := "MAX", type := (.object "com/example/whence/whence/query/AggregateFunction"), accessFlags := 16409, slot := 5, constantValue := 0 }, { name := "AVERAGE", type := (.object "java/math/MathContext"), accessFlags := 26, slot := 6, constantValue := 0 }, { name := "$VALUES", type := (.array (.object "com/example/whence/whence/query/AggregateFunction")), accessFlags := 4122, slot := 7, constantValue := 0 }]
  methods := #[k6m0]
  instanceTypes := #[(.object "java/lang/String"), .int, .int]
  staticTypes := #[(.object "com/example/whence/whence/query/AggregateFunction"), (.object "com/example/whence/whence/query/AggregateFunction"), (.object "com/example/whence/whence/query/AggregateFunction"), (.object "com/example/whence/whence/query/AggregateFunction"), (.object "com/example/whence/whence/query/AggregateFunction"), (.object "com/example/whence/whence/query/AggregateFunction"), (.object "java/math/MathContext"), (.array (.object "com/example/whence/whence/query/AggregateFunction"))]
  resolved := Array.replicate 148 none
  statics := some 0 }

def pool7 : Array CpInfo := pool [(1, u "java/lang/Cloneable"), (0, .class_ 1), (0, u "java/lang/Object"), (0, .class_ 3)] 3

/-- java/lang/Cloneable -/
def k7 : Class := { plain "java/lang/Cloneable" (some 0) with
  accessFlags := 1537
  interfaces := #[]
  cf := some (fileOf pool7 2 #[] #[] 1537 4 #[] #[])
  fields := #[]
  methods := #[]
  instanceTypes := #[]
  staticTypes := #[]
  resolved := Array.replicate 8 none
  statics := none }

/-- the primitive boolean -/
def k8 : Class := { plain "boolean" none with kind := .primitive 'Z', accessFlags := 0x411 }
/-- [Z -/
def k9 : Class := { plain "[Z" (some 0) with kind := .array 8 .boolean, interfaces := #[7, 4], accessFlags := 1041 }

/-- the primitive byte -/
def k10 : Class := { plain "byte" none with kind := .primitive 'B', accessFlags := 0x411 }
/-- [B -/
def k11 : Class := { plain "[B" (some 0) with kind := .array 10 .byte, interfaces := #[7, 4], accessFlags := 1041 }

/-- the primitive int -/
def k12 : Class := { plain "int" none with kind := .primitive 'I', accessFlags := 0x411 }
/-- [I -/
def k13 : Class := { plain "[I" (some 0) with kind := .array 12 .int, interfaces := #[7, 4], accessFlags := 1041 }

/-- [Lcom/example/whence/whence/query/AggregateFunction; -/
def k14 : Class := { plain "[Lcom/example/whence/whence/query/AggregateFunction;" (some 0) with kind := .array 6 (.object "com/example/whence/whence/query/AggregateFunction"), interfaces := #[7, 4], accessFlags := 1041 }

def heap : Heap := #[{ cls := 6, slots := #[.ref 1, .ref 2, .ref 3, .ref 4, .ref 5, .ref 6, .null, .null], vm := .statics 6 },
  { cls := 6, slots := #[.null, .int 0, .int 0], vm := .none },
  { cls := 6, slots := #[.null, .int 1, .int 0], vm := .none },
  { cls := 6, slots := #[.null, .int 2, .int 0], vm := .none },
  { cls := 6, slots := #[.null, .int 3, .int 0], vm := .none },
  { cls := 6, slots := #[.null, .int 4, .int 0], vm := .none },
  { cls := 6, slots := #[.null, .int 5, .int 0], vm := .none }]
def classes : Array Class := #[k0, k1, k2, k3, k4, k5, k6, k7, k8, k9, k10, k11, k12, k13, k14]
def interned : List (Array UInt16 × Addr) := []
def slotsUsed : Nat := 26
def theMethod : MethodId := ⟨1, 1⟩
def args0 : Array Value := #[.int 5]
def aboutOver (below : List Frame) : State where
  vm := { classes := classes, interned := interned.toArray }
  heap := heap
  slotsUsed := slotsUsed
  threads := #[{ frames := .invoking theMethod args0 :: below }]
def below0 : List Frame := [.native { method := ⟨0, 0⟩, args := #[] }]
def about1 : State := aboutOver below0
def p0 : Program := .bare "" "" ""
def e0 : Env := launch0.env 0 0 0
theorem w_frames : about1.frames = Frame.invoking theMethod args0 :: below0 := rfl
set_option maxRecDepth 65536 in
theorem w_args : argsFit about1.vm theMethod args0 = true := by decide +kernel
set_option maxRecDepth 65536 in
theorem w_heap : heapFits about1 = true := by decide +kernel
set_option maxRecDepth 65536 in
theorem w_runnable : about1.curStatus? = some .runnable := by decide +kernel
set_option maxRecDepth 65536 in
theorem w_alone : about1.alone = true := by decide +kernel
set_option maxRecDepth 65536 in
theorem w_named : about1.methodNamed? x = some theMethod := by decide +kernel
set_option maxRecDepth 65536 in
theorem w_hears : about1.hears theMethod below0 = true := by decide +kernel
set_option maxRecDepth 65536 in
theorem w_ripe : about1.ripe theMethod args0 below0 = true := by decide +kernel
theorem w_running : about1.status = .running := rfl
set_option maxRecDepth 65536 in
theorem w_room : about1.hasRoom e0.platform room_1 = true :=
  launch0.hasRoom_least _ room_1 (by decide +kernel) (by decide +kernel) (by decide +kernel) (by decide +kernel) (by decide +kernel) (by decide +kernel)
theorem allAtoms_all (ts : List Jvm.Cond) (a : Array Jvm.Value) (st : Jvm.State) : (allAtoms ts).before a st = ts.all (fun c => c.before a st) := by
  induction ts with
  | nil => rfl
  | cons c t ih =>
    show (Jvm.Cond.and c (allAtoms t)).before a st = _
    rw [Jvm.Cond.before_and, ih, List.all_cons]
def words1 : List Jvm.Cond := Jvm.Cond.code x code maxLocals ret :: tables_1
/-- a 'code' word, met by the world's own term for the bytes: nothing is compared byte by byte -/
theorem code_word {y : MethodName} {bytes : ByteArray} {mx : Nat} {rt : Option FieldType} {a : Array Value} {s : State} {m : MethodId} {meth : Method} {c : Code} (h1 : s.methodNamed? y = some m) (h2 : s.vm.method? m = some meth) (h3 : meth.code = some c) (h4 : c.code = bytes)
    (h5 : (c.maxLocals == mx && c.exceptionTable.isEmpty && decide (c.maxStack ≤ mostOperands) && decide (meth.sig.returnType = rt) && !meth.locks && decide (parseMethodDescriptor y.desc = some meth.sig)) = true) : (Jvm.Cond.code y bytes mx rt).before a s = true := by
  simp only [Bool.and_eq_true, beq_iff_eq, Bool.not_eq_true', decide_eq_true_eq] at h5
  obtain ⟨⟨⟨⟨⟨g1, g2⟩, g3⟩, g4⟩, g5⟩, g6⟩ := h5
  simp [Cond.before, Cond.holds, Cond.value, h1, h2, h3, h4, g1, g2, g3, g4, g5, g6]
def isCode : Jvm.Cond → Bool
  | .code _ _ _ _ => true
  | _ => false
theorem all_split {L : List Jvm.Cond} {P : Jvm.Cond → Bool} (h1 : L.all (fun c => isCode c || P c) = true) (h2 : ∀ c ∈ L.filter isCode, P c = true) : L.all P = true := by
  refine List.all_eq_true.mpr fun c hc => ?_
  have h := List.all_eq_true.mp h1 c hc
  rcases Bool.eq_false_or_eq_true (isCode c) with hi | hi
  · exact h2 c (List.mem_filter.mpr ⟨hc, hi⟩)
  · simpa [hi] using h
set_option maxRecDepth 65536 in
theorem w_c0 : (Jvm.Cond.code x code maxLocals ret).before args0 about1 = true := code_word (m := ⟨1, 1⟩) (meth := k1m1) (c := k1c1) (by decide +kernel) rfl rfl rfl (by decide +kernel)
set_option maxRecDepth 65536 in
theorem w_c1 : (Jvm.Cond.code ({ cls := "com/example/whence/whence/query/AggregateFunction", name := "numeric", desc := "()Z" } : Jvm.MethodName) prog_34_method_7_code (1 : Nat) (Option.some Jvm.ClassFile.FieldType.boolean)).before args0 about1 = true := code_word (m := ⟨6, 0⟩) (meth := k6m0) (c := k6c0) (by decide +kernel) rfl rfl rfl (by decide +kernel)
def codes1 : List Jvm.Cond := [Jvm.Cond.code x code maxLocals ret, Jvm.Cond.code ({ cls := "com/example/whence/whence/query/AggregateFunction", name := "numeric", desc := "()Z" } : Jvm.MethodName) prog_34_method_7_code (1 : Nat) (Option.some Jvm.ClassFile.FieldType.boolean)]
set_option maxRecDepth 65536 in
theorem codes_eq : words1.filter isCode = codes1 := rfl
theorem w_codes : ∀ c ∈ words1.filter isCode, c.before args0 about1 = true := by
  rw [codes_eq]
  intro c hc
  simp only [codes1, List.mem_cons, List.not_mem_nil, or_false] at hc
  rcases hc with rfl | rfl
  · exact w_c0
  · exact w_c1
set_option maxRecDepth 65536 in
theorem w_t1 : (words1.take 24).all (fun c => isCode c || c.before args0 about1) = true := by decide +kernel
set_option maxRecDepth 65536 in
theorem w_t2 : (words1.drop 24).all (fun c => isCode c || c.before args0 about1) = true := by decide +kernel
theorem w_tables : (allAtoms (Jvm.Cond.code x code maxLocals ret :: tables_1)).before args0 about1 = true := by
  rw [allAtoms_all]
  show words1.all (fun c => c.before args0 about1) = true
  refine all_split ?_ w_codes
  rw [← List.take_append_drop 24 words1, List.all_append, w_t1, w_t2]
  rfl
set_option maxRecDepth 65536 in
theorem w_case : (Jvm.Cond.and given_1 narrow_1).before args0 about1 = true := by decide +kernel
theorem w_applies : (headSpec (Jvm.Cond.code x code maxLocals ret :: tables_1) room_1).applies x e0.platform about1 = true :=
  (Spec.applies_iff w_frames).mpr ⟨w_running, w_runnable, w_alone, w_named, w_hears, w_ripe, w_room, w_tables⟩
theorem atStart : AtStart classFile x code maxLocals ret World_1 tables_1 room_1 Calls_1 rest_1 Pre_1 launch0 p0 e0 about1 theMethod args0 below0 :=
  ⟨lists_1, trivial, launch0.admits_env _ _ _, launch0.least_env, fairChoices_fair.cas, fairChoices_fair.clock, w_frames, w_args, w_heap, w_applies, trivial, trivial, w_case⟩
end start1
theorem witness_1 : WitnessClaimed_1 := ⟨start1.p0, start1.e0, start1.about1, start1.theMethod, start1.args0, start1.below0, start1.atStart⟩
end Jvm.Pilot.@@N@@
