import JvmDerived
import JvmDerived.Pilot.@@N@@Statement
import JvmDerived.Pilot.@@N@@Code
set_option linter.unusedVariables false
set_option linter.unusedSimpArgs false
namespace Jvm.RoadKit
open Sem ClassFile Op Lib Jvm.Stand Jvm.Free Jvm.LawKit
section New
variable {p : Program} {l : Launch} {e : Env} {R : Room} {s : State} {m : MethodId} {args : Array Value} {below : List Frame} {meth : Method} {c : Code} {T : State} {locs : List Loc} {cells slots : Nat}
theorem retI (X : Stand p l e R s m args below meth c T locs cells slots) (hx : p.tables.exec = Jvm.exec) {pc : Nat} {Ls : Array Slot} {z : Int32} {rest : List Value} (hret : meth.sig.returnType = some .int) (hd : decode c.code pc = .ok (.ireturn, 1)) {fs : List Frame}
    (hl : ∀ (f : JFrame) (acts : List Action), f.method = m → f.locked = none → f.entered = [] → (doReturn e (T.setTop f) acts (some (.int z))).1 = T.setFrames fs) : Steps p.tables e below (T.setTop (mkF m pc Ls (.int z :: rest))) (T.setFrames fs) := by
  have hm' : T.vm.method? m = some meth := X.method'
  have hn : narrow .int (.int z) = .int z := rfl
  show Steps p.tables e below (T.setTop { method := m, pc := pc, locals := Ls, stack := _ :: rest, locked := none }) _
  jvm_step X.here [X.here.top, hx, hd, hm', hret, hn]
  first | (intro acts; rw [hl _ acts rfl rfl rfl]) | rw [hl _ _ rfl rfl rfl]
  exact Steps.refl _
end New
end Jvm.RoadKit
namespace Jvm.Pilot.@@N@@
open Jvm Jvm.ClassFile Sem Op Lib Jvm.Free Jvm.Stand Jvm.LawKit Jvm.RoadKit Bundle Jvm.Pilot.@@N@@.Jvm.D
def own_z : List Value := [(.int (0 : Int32)), (.int (0 : Int32)), (.int (0 : Int32)), (.int (0 : Int32)), (.int (0 : Int32)), (.int (0 : Int32)), (.int (0 : Int32)), (.int (0 : Int32)), (.int (0 : Int32)), (.int (0 : Int32)), (.int (0 : Int32)), (.int (0 : Int32)), (.int (0 : Int32)), (.int (0 : Int32)), (.int (0 : Int32)), (.int (0 : Int32))]
def IL (Z : State) (h : Heap) (o ch c0 : Addr) (kA kI : ClassId) (n : Int32) (vs : List Value) : Prop :=
  Exa Z h o "com/example/hearsay/hearsay/graph/IntList" ∧ Fld Z h o "com/example/hearsay/hearsay/graph/IntList" "chunks" "[[I" (.ref ch) ∧ Fld Z h o "com/example/hearsay/hearsay/graph/IntList" "size" "I" (.int n) ∧ Arv Z h ch kA (.array .int) (1 : Int32) [.ref c0] .null ∧ Arv Z h c0 kI .int (16 : Int32) vs (.int (0 : Int32))
theorem d1_0 : decode prog_102_method_1_code 0 = .ok (.aload_n 0, 1) := by decide +kernel
theorem d1_1 : decode prog_102_method_1_code 1 = .ok (.invokespecial 3, 3) := by decide +kernel
theorem d1_4 : decode prog_102_method_1_code 4 = .ok (.aload_n 0, 1) := by decide +kernel
theorem d1_5 : decode prog_102_method_1_code 5 = .ok (.iconst 1, 1) := by decide +kernel
theorem d1_6 : decode prog_102_method_1_code 6 = .ok (.anewarray 9, 3) := by decide +kernel
theorem d1_9 : decode prog_102_method_1_code 9 = .ok (.dup, 1) := by decide +kernel
theorem d1_10 : decode prog_102_method_1_code 10 = .ok (.iconst 0, 1) := by decide +kernel
theorem d1_11 : decode prog_102_method_1_code 11 = .ok (.bipush 16, 2) := by decide +kernel
theorem d1_13 : decode prog_102_method_1_code 13 = .ok (.newarray .int, 2) := by decide +kernel
theorem d1_15 : decode prog_102_method_1_code 15 = .ok (.aastore, 1) := by decide +kernel
theorem d1_16 : decode prog_102_method_1_code 16 = .ok (.putfield 11, 3) := by decide +kernel
theorem d1_19 : decode prog_102_method_1_code 19 = .ok (.return_, 1) := by decide +kernel
theorem pn_1 : plainName "com/example/hearsay/hearsay/graph/IntList" = true := by first | (simp [plainName, overriddenIn]; done) | decide +kernel
theorem ef_1 (m : MethodId) (x0 : Addr) : entryFrame m #[(.ref x0)] 1 = mkF m 0 #[.val (.ref x0)] [] := by first | (simp [entryFrame, mkF, argsToLocals, Value.category]; done) | rfl
def Q1 (Z : State) (a1 : Addr) (u_chunks_a1 : Value) (h0 : Heap) (n0 : Nat) (v : Option Value) (h : Heap) (L : List Loc) : Prop := v = none ∧ Fr n0 L ∧ Keep h0 h [a1] ∧ ∃ (ch c0 : Addr) (kA kI : ClassId), h0.size ≤ ch ∧ h0.size ≤ c0 ∧ ch ≠ c0 ∧ IL Z h a1 ch c0 kA kI (0 : Int32) own_z
set_option maxRecDepth 65536 in
set_option maxHeartbeats 40000000 in
theorem rm1 (l : Launch) (Z : State) (a0 : Array Value) (hw : ∀ d ∈ tables_1, d.before a0 Z = true) (ws : List Jvm.Cond) (a1 : Addr) (u_chunks_a1 : Value) (h0 : Heap) (n0 : Nat) (Z0 : n0 ≤ h0.size) (F_size_a1 : Fld Z h0 a1 "com/example/hearsay/hearsay/graph/IntList" "size" "I" (.int (0 : Int32))) (E_a1 : Exa Z h0 a1 "com/example/hearsay/hearsay/graph/IntList") (F_chunks_a1 : Fld Z h0 a1 "com/example/hearsay/hearsay/graph/IntList" "chunks" "[[I" u_chunks_a1) (g_a1 : n0 ≤ a1) :
    MetFree l (⟨"com/example/hearsay/hearsay/graph/IntList", "<init>", "()V"⟩ : MethodName) (head1 (Jvm.Cond.code (⟨"com/example/hearsay/hearsay/graph/IntList", "<init>", "()V"⟩ : MethodName) prog_102_method_1_code 1 none :: ws) ({ frames := 1, cells := 2, slots := 17, locals := 12 } : Room)) (fun a U => a = #[(.ref a1)] ∧ Z.Warmed39 U.vm ∧ U.heap = h0) (fun _ _ _ _ _ => True) (fun _ U o U' => ∃ v L, o = .returned v ∧ Q1 Z a1 u_chunks_a1 h0 n0 v U'.heap L ∧ FrameEnd U o U' L ({ frames := 1, cells := 2, slots := 17, locals := 12 } : Room).cells ({ frames := 1, cells := 2, slots := 17, locals := 12 } : Room).slots) := by
  refine MetFree.of_bodySF (plainFor_of_name pn_1) hisR ?_
  intro p e s m args below meth c s₁ Bd hml0 hP hK
  obtain ⟨rfl, hZ, hh⟩ := hP
  have hx := Bd.exec
  have hby := Bd.bytes
  have hml : c.maxLocals = 1 := hml0
  have hown : s.vm.findClass "com/example/hearsay/hearsay/graph/IntList" = some m.cls := findClass_of_methodNamed Bd.named
  have hnm := (name_of_methodNamed Bd.named Bd.method).1
  have X0 : Stand p l e ({ frames := 1, cells := 2, slots := 17, locals := 12 } : Room) s m #[(.ref a1)] below meth c s₁ [] 0 0 := Stand.of_body Bd
  have e0 : s₁.heap = h0 := by rw [← hh, Bd.state]; rfl
  have N0 := Fr.nil n0
  have pre0 : ∀ t, Steps p.tables e below (s₁.setTop (mkF m 0 #[.val (.ref a1)] [])) t → Steps p.tables e below (s₁.setTop (entryFrame m #[(.ref a1)] 1)) t := fun t k => castTop (ef_1 m a1) k
  obtain ⟨T2, X2, e2, st2⟩ := initO X0 hx hZ hown (hw _ (List.mem_of_getElem? (i := 7) rfl)) (hw _ (List.mem_of_getElem? (i := 8) rfl)) (hw _ (List.mem_of_getElem? (i := 9) rfl)) e0 (g := (mkF m 1 #[.val (.ref a1)] [(.ref a1)])) rfl (by rw [hml]; rfl) rfl (hb hby d1_1) (by decide) (W := 0) (by show 2 * 0 + _ ≤ _; exact Nat.le_of_eq rfl) (by decide)
  obtain ⟨T3, h3, k3, X3, e3, E3, A3, Ex3, O3, st3⟩ := newRA X2 hx hZ hown (ty := .int) (C := "[I") (by first | rfl | decide) (hw _ (List.mem_of_getElem? (i := 10) rfl)) (hw _ (List.mem_of_getElem? (i := 11) rfl)) e2 (g := (mkF m 6 #[.val (.ref a1)] [(.int (1 : Int32)), (.ref a1)])) rfl (hb hby d1_6) rfl (by decide) (cap := 1) (by decide) (by decide) (by decide) (by decide) (ad := "[[I") (by first | rfl | decide)
  obtain ⟨b3, g3⟩ : ∃ z, z = h0.size := ⟨_, rfl⟩
  rw [← g3] at A3 Ex3 st3
  have V_b3 : Arv Z h3 b3 k3 (.array .int) (1 : Int32) [.null] .null := (Arv.new A3 (by decide)).pad (pad_rep [] .null 1)
  have g_b3 : n0 ≤ b3 := Nat.le_trans Z0 (Nat.le_of_eq g3.symm)
  have sz_b3 : h0.size ≤ b3 := (Nat.le_trans (Keep.refl h0 [a1]).1 (Nat.le_of_eq g3.symm))
  have K3 : Keep h0 h3 [a1] := (Keep.refl h0 [a1]).ext E3
  obtain ⟨T4, h4, k4, X4, e4, E4, A4, Ex4, st4⟩ := newPE X3 hx hZ (hw _ (List.mem_of_getElem? (i := 12) rfl)) e3 (g := (mkF m 13 #[.val (.ref a1)] [(.int (16 : Int32)), (.int (0 : Int32)), (.ref b3), (.ref b3), (.ref a1)])) rfl (hb hby d1_13) rfl (by decide) (cap := 16) (by decide) (by decide) (by decide) (by decide) (ad := "[I") (by first | rfl | decide)
  obtain ⟨b4, g4⟩ : ∃ z, z = h3.size := ⟨_, rfl⟩
  rw [← g4] at A4 Ex4 st4
  have V_b4 : Arv Z h4 b4 k4 .int (16 : Int32) [(.int (0 : Int32)), (.int (0 : Int32)), (.int (0 : Int32)), (.int (0 : Int32)), (.int (0 : Int32)), (.int (0 : Int32)), (.int (0 : Int32)), (.int (0 : Int32)), (.int (0 : Int32)), (.int (0 : Int32)), (.int (0 : Int32)), (.int (0 : Int32)), (.int (0 : Int32)), (.int (0 : Int32)), (.int (0 : Int32)), (.int (0 : Int32))] (.int (0 : Int32)) := (Arv.new A4 (by decide)).pad (pad_rep [] (.int (0 : Int32)) 16)
  have g_b4 : n0 ≤ b4 := Nat.le_trans (Nat.le_trans Z0 E3.1) (Nat.le_of_eq g4.symm)
  have sz_b4 : h0.size ≤ b4 := (Nat.le_trans K3.1 (Nat.le_of_eq g4.symm))
  have K4 : Keep h0 h4 [a1] := K3.ext E4
  obtain ⟨cl_b3_15, Ar_b3_15, q_b3_15, S_b3_15, N_b3_15, H_b3_15, G_b3_15⟩ := id (V_b3.ext E4)
  have hin15 : ¬ ((0 : Int32) < 0 ∨ cl_b3_15.slots.size ≤ ((0 : Int32)).toNatClampNeg) := inb_of S_b3_15 ⟨by decide, by decide⟩
  have Sto15 := Sto.ofVA Ar_b3_15 q_b3_15 O3 (Ins.self Ex4)
  obtain ⟨T5, h5, X5, e5, W5, st5⟩ := stR X4 hx hZ e4 Ar_b3_15 (j := (0 : Int32)) hin15 rfl Sto15 (g := (mkF m 15 #[.val (.ref a1)] [(.ref b4), (.int (0 : Int32)), (.ref b3), (.ref b3), (.ref a1)])) rfl rfl (hb hby d1_15)
  have V_b3_15 := Arv.set Ar_b3_15 q_b3_15 S_b3_15 N_b3_15 H_b3_15 G_b3_15 (v := (.ref b4)) rfl W5 0 rfl (Nat.le_of_ble_eq_true rfl)
  have K5 : Keep h0 h5 [a1] := K4.wr W5 (Or.inr sz_b3)
  have N5 := Fr.snoc X5 N0 g_b3
  obtain ⟨T6, h6, X6, e6, W6, st6⟩ := putF X5 hx hZ hown (host := "") (Or.inl (hw _ (List.mem_of_getElem? (i := 14) rfl))) Via.refl e5 (((F_chunks_a1.ext E3).ext E4).other W5 (Or.inl (Nat.ne_of_lt (Nat.lt_of_lt_of_le F_size_a1.lt (Nat.le_of_eq g3.symm))))) (((E_a1.ext E3).ext E4).wr W5) (Or.inl (hw _ (List.mem_of_getElem? (i := 15) rfl))) (hw _ (List.mem_of_getElem? (i := 2) rfl)) (ty := (.array (.array .int))) (by decide) rfl rfl (g := (mkF m 16 #[.val (.ref a1)] [(.ref b3), (.ref a1)])) rfl rfl (hb hby d1_16)
  have Fw6 := (((F_chunks_a1.ext E3).ext E4).other W5 (Or.inl (Nat.ne_of_lt (Nat.lt_of_lt_of_le F_size_a1.lt (Nat.le_of_eq g3.symm))))).same W6
  have K6 : Keep h0 h6 [a1] := K5.wr W6 (Or.inl (List.mem_of_getElem? (i := 0) rfl))
  have N6 := Fr.snoc X6 N5 g_a1
  obtain ⟨fs, hr, hrun, hended, hW, hsame⟩ := X6.leave (v := none) (fun _ => rfl)
  refine ⟨_, _, pre0 _ ?_, hrun, hended, _, _, rfl, ?_, ⟨_, rfl⟩, hW, hsame.mono (by decide) (by decide)⟩
  · show Steps p.tables e below (s₁.setTop (mkF m 0 #[.val (.ref a1)] [])) _
    refine XS.aloadN X0.here hx rfl (hb hby d1_0) rfl rfl ?_
    show Steps p.tables e below (s₁.setTop (mkF m 1 #[.val (.ref a1)] [(.ref a1)])) _
    refine st2 _ ?_
    show Steps p.tables e below (T2.setTop (mkF m 4 #[.val (.ref a1)] [])) _
    refine XS.aloadN X2.here hx rfl (hb hby d1_4) rfl rfl ?_
    show Steps p.tables e below (T2.setTop (mkF m 5 #[.val (.ref a1)] [(.ref a1)])) _
    refine XS.iconst X2.here hx rfl (hb hby d1_5) ?_
    show Steps p.tables e below (T2.setTop (mkF m 6 #[.val (.ref a1)] [(.int (1 : Int32)), (.ref a1)])) _
    refine st3 _ ?_
    show Steps p.tables e below (T3.setTop (mkF m 9 #[.val (.ref a1)] [(.ref b3), (.ref a1)])) _
    refine XS.dup X3.here hx rfl (hb hby d1_9) rfl rfl ?_
    show Steps p.tables e below (T3.setTop (mkF m 10 #[.val (.ref a1)] [(.ref b3), (.ref b3), (.ref a1)])) _
    refine XS.iconst X3.here hx rfl (hb hby d1_10) ?_
    show Steps p.tables e below (T3.setTop (mkF m 11 #[.val (.ref a1)] [(.int (0 : Int32)), (.ref b3), (.ref b3), (.ref a1)])) _
    refine XS.bipush X3.here hx rfl (hb hby d1_11) ?_
    show Steps p.tables e below (T3.setTop (mkF m 13 #[.val (.ref a1)] [(.int (16 : Int32)), (.int (0 : Int32)), (.ref b3), (.ref b3), (.ref a1)])) _
    refine st4 _ ?_
    show Steps p.tables e below (T4.setTop (mkF m 15 #[.val (.ref a1)] [(.ref b4), (.int (0 : Int32)), (.ref b3), (.ref b3), (.ref a1)])) _
    refine st5 _ ?_
    show Steps p.tables e below (T5.setTop (mkF m 16 #[.val (.ref a1)] [(.ref b3), (.ref a1)])) _
    refine st6 _ ?_
    show Steps p.tables e below (T6.setTop (mkF m 19 #[.val (.ref a1)] [])) _
    exact X6.returnOut hx Bd.returns (hb hby d1_19) hr
  · show Q1 Z a1 u_chunks_a1 h0 n0 _ T6.heap _
    rw [e6]
    exact ⟨rfl, N6, K6, b3, b4, k3, k4, sz_b3, sz_b4, (Nat.ne_of_lt (Nat.lt_of_lt_of_le Ex3.lt (Nat.le_of_eq g4.symm))), ((((E_a1.ext E3).ext E4).wr W5).wr W6), Fw6, ((((F_size_a1.ext E3).ext E4).other W5 (Or.inl (Nat.ne_of_lt (Nat.lt_of_lt_of_le F_size_a1.lt (Nat.le_of_eq g3.symm))))).other W6 (Or.inr (slot_ne (Or.inl (hw _ (List.mem_of_getElem? (i := 22) rfl))) (Or.inl (hw _ (List.mem_of_getElem? (i := 15) rfl))) (by decide) (t := .int) (t' := (.array (.array .int))) (by decide) (by decide)))), (V_b3_15.other W6 (Ne.symm (Nat.ne_of_lt (Nat.lt_of_lt_of_le F_size_a1.lt (Nat.le_of_eq g3.symm))))), ((V_b4.other W5 (Ne.symm (Nat.ne_of_lt (Nat.lt_of_lt_of_le Ex3.lt (Nat.le_of_eq g4.symm))))).other W6 (Ne.symm (Nat.ne_of_lt (Nat.lt_of_lt_of_le (F_size_a1.ext E3).lt (Nat.le_of_eq g4.symm)))))⟩
theorem d3_0 : decode prog_102_method_6_code 0 = .ok (.aload_n 0, 1) := by decide +kernel
theorem d3_1 : decode prog_102_method_6_code 1 = .ok (.getfield 16, 3) := by decide +kernel
theorem d3_4 : decode prog_102_method_6_code 4 = .ok (.bipush 16, 2) := by decide +kernel
theorem d3_6 : decode prog_102_method_6_code 6 = .ok (.iushr, 1) := by decide +kernel
theorem d3_7 : decode prog_102_method_6_code 7 = .ok (.istore_n 2, 1) := by decide +kernel
theorem d3_8 : decode prog_102_method_6_code 8 = .ok (.iload_n 2, 1) := by decide +kernel
theorem d3_9 : decode prog_102_method_6_code 9 = .ok (.aload_n 0, 1) := by decide +kernel
theorem d3_10 : decode prog_102_method_6_code 10 = .ok (.getfield 11, 3) := by decide +kernel
theorem d3_13 : decode prog_102_method_6_code 13 = .ok (.arraylength, 1) := by decide +kernel
theorem d3_14 : decode prog_102_method_6_code 14 = .ok (.if_icmp .ne 24, 3) := by decide +kernel
theorem d3_38 : decode prog_102_method_6_code 38 = .ok (.aload_n 0, 1) := by decide +kernel
theorem d3_39 : decode prog_102_method_6_code 39 = .ok (.getfield 11, 3) := by decide +kernel
theorem d3_42 : decode prog_102_method_6_code 42 = .ok (.iload_n 2, 1) := by decide +kernel
theorem d3_43 : decode prog_102_method_6_code 43 = .ok (.aaload, 1) := by decide +kernel
theorem d3_44 : decode prog_102_method_6_code 44 = .ok (.ifnonnull 16, 3) := by decide +kernel
theorem d3_60 : decode prog_102_method_6_code 60 = .ok (.iload_n 2, 1) := by decide +kernel
theorem d3_61 : decode prog_102_method_6_code 61 = .ok (.ifCond .ne 48, 3) := by decide +kernel
theorem d3_64 : decode prog_102_method_6_code 64 = .ok (.aload_n 0, 1) := by decide +kernel
theorem d3_65 : decode prog_102_method_6_code 65 = .ok (.getfield 16, 3) := by decide +kernel
theorem d3_68 : decode prog_102_method_6_code 68 = .ok (.aload_n 0, 1) := by decide +kernel
theorem d3_69 : decode prog_102_method_6_code 69 = .ok (.getfield 11, 3) := by decide +kernel
theorem d3_72 : decode prog_102_method_6_code 72 = .ok (.iconst 0, 1) := by decide +kernel
theorem d3_73 : decode prog_102_method_6_code 73 = .ok (.aaload, 1) := by decide +kernel
theorem d3_74 : decode prog_102_method_6_code 74 = .ok (.arraylength, 1) := by decide +kernel
theorem d3_75 : decode prog_102_method_6_code 75 = .ok (.if_icmp .ne 34, 3) := by decide +kernel
theorem d3_109 : decode prog_102_method_6_code 109 = .ok (.aload_n 0, 1) := by decide +kernel
theorem d3_110 : decode prog_102_method_6_code 110 = .ok (.getfield 11, 3) := by decide +kernel
theorem d3_113 : decode prog_102_method_6_code 113 = .ok (.iload_n 2, 1) := by decide +kernel
theorem d3_114 : decode prog_102_method_6_code 114 = .ok (.aaload, 1) := by decide +kernel
theorem d3_115 : decode prog_102_method_6_code 115 = .ok (.aload_n 0, 1) := by decide +kernel
theorem d3_116 : decode prog_102_method_6_code 116 = .ok (.getfield 16, 3) := by decide +kernel
theorem d3_119 : decode prog_102_method_6_code 119 = .ok (.ldc 24, 2) := by decide +kernel
theorem d3_121 : decode prog_102_method_6_code 121 = .ok (.iand, 1) := by decide +kernel
theorem d3_122 : decode prog_102_method_6_code 122 = .ok (.iload_n 1, 1) := by decide +kernel
theorem d3_123 : decode prog_102_method_6_code 123 = .ok (.iastore, 1) := by decide +kernel
theorem d3_124 : decode prog_102_method_6_code 124 = .ok (.aload_n 0, 1) := by decide +kernel
theorem d3_125 : decode prog_102_method_6_code 125 = .ok (.dup, 1) := by decide +kernel
theorem d3_126 : decode prog_102_method_6_code 126 = .ok (.getfield 16, 3) := by decide +kernel
theorem d3_129 : decode prog_102_method_6_code 129 = .ok (.iconst 1, 1) := by decide +kernel
theorem d3_130 : decode prog_102_method_6_code 130 = .ok (.iadd, 1) := by decide +kernel
theorem d3_131 : decode prog_102_method_6_code 131 = .ok (.putfield 16, 3) := by decide +kernel
theorem d3_134 : decode prog_102_method_6_code 134 = .ok (.return_, 1) := by decide +kernel
theorem pn_3 : plainName "com/example/hearsay/hearsay/graph/IntList" = true := by first | (simp [plainName, overriddenIn]; done) | decide +kernel
theorem ef_3 (m : MethodId) (x0 : Addr) (x1 : Int32) : entryFrame m #[(.ref x0), (.int x1)] 3 = mkF m 0 #[.val (.ref x0), .val (.int x1), .unset] [] := by first | (simp [entryFrame, mkF, argsToLocals, Value.category]; done) | rfl
def Q3 (Z : State) (a1 : Addr) (p2 : Int32) (ch : Addr) (c0 : Addr) (kA : ClassId) (kI : ClassId) (n : Int32) (vs : List Value) (i : Nat) (h0 : Heap) (n0 : Nat) (v : Option Value) (h : Heap) (L : List Loc) : Prop := v = none ∧ Fr n0 L ∧ Keep h0 h [c0, a1] ∧ IL Z h a1 ch c0 kA kI (n + (1 : Int32)) (vs.set i (.int p2))
set_option maxRecDepth 65536 in
set_option maxHeartbeats 40000000 in
theorem rm3 (l : Launch) (Z : State) (a0 : Array Value) (hw : ∀ d ∈ tables_1, d.before a0 Z = true) (ws : List Jvm.Cond) (a1 : Addr) (p2 : Int32) (ch : Addr) (c0 : Addr) (kA : ClassId) (kI : ClassId) (n : Int32) (vs : List Value) (i : Nat) (h0 : Heap) (n0 : Nat) (Z0 : n0 ≤ h0.size) (ne1 : a1 ≠ ch) (ne2 : a1 ≠ c0) (ne3 : ch ≠ c0) (V_ch : Arv Z h0 ch kA (.array .int) (1 : Int32) [.ref c0] .null) (V_c0 : Arv Z h0 c0 kI .int (16 : Int32) vs (.int (0 : Int32))) (F_size_a1 : Fld Z h0 a1 "com/example/hearsay/hearsay/graph/IntList" "size" "I" (.int n)) (F_chunks_a1 : Fld Z h0 a1 "com/example/hearsay/hearsay/graph/IntList" "chunks" "[[I" (.ref ch)) (hr43 : ¬ ((n.toUInt32 >>> ((16 : Int32) &&& 31).toUInt32).toInt32) < 0 ∧ ((n.toUInt32 >>> ((16 : Int32) &&& 31).toUInt32).toInt32) < (1 : Int32)) (u43 : ([.ref c0] : List Value).getD (((n.toUInt32 >>> ((16 : Int32) &&& 31).toUInt32).toInt32)).toNatClampNeg (.null : Value) = (.ref c0)) (hr73 : ¬ (0 : Int32) < 0 ∧ (0 : Int32) < (1 : Int32)) (u73 : ([.ref c0] : List Value).getD ((0 : Int32)).toNatClampNeg (.null : Value) = (.ref c0)) (hr114 : ¬ ((n.toUInt32 >>> ((16 : Int32) &&& 31).toUInt32).toInt32) < 0 ∧ ((n.toUInt32 >>> ((16 : Int32) &&& 31).toUInt32).toInt32) < (1 : Int32)) (u114 : ([.ref c0] : List Value).getD (((n.toUInt32 >>> ((16 : Int32) &&& 31).toUInt32).toInt32)).toNatClampNeg (.null : Value) = (.ref c0)) (hr123 : ¬ (n &&& (65535 : Int32)) < 0 ∧ (n &&& (65535 : Int32)) < (16 : Int32)) (hj123 : ((n &&& (65535 : Int32))).toNatClampNeg = i) (hl123 : i < vs.length) (g_c0 : n0 ≤ c0) (E_a1 : Exa Z h0 a1 "com/example/hearsay/hearsay/graph/IntList") (g_a1 : n0 ≤ a1) (hc14 : ¬ (((n.toUInt32 >>> ((16 : Int32) &&& 31).toUInt32).toInt32) = (1 : Int32))) (hc61 : ((n.toUInt32 >>> ((16 : Int32) &&& 31).toUInt32).toInt32) = (0 : Int32)) (hc75 : ¬ (n = (16 : Int32))) :
    MetFree l (⟨"com/example/hearsay/hearsay/graph/IntList", "add", "(I)V"⟩ : MethodName) (head1 (Jvm.Cond.code (⟨"com/example/hearsay/hearsay/graph/IntList", "add", "(I)V"⟩ : MethodName) prog_102_method_6_code 3 none :: ws) ({ frames := 0, cells := 0, slots := 0, locals := 0 } : Room)) (fun a U => a = #[(.ref a1), (.int p2)] ∧ Z.Warmed39 U.vm ∧ U.heap = h0) (fun _ _ _ _ _ => True) (fun _ U o U' => ∃ v L, o = .returned v ∧ Q3 Z a1 p2 ch c0 kA kI n vs i h0 n0 v U'.heap L ∧ FrameEnd U o U' L ({ frames := 0, cells := 0, slots := 0, locals := 0 } : Room).cells ({ frames := 0, cells := 0, slots := 0, locals := 0 } : Room).slots) := by
  refine MetFree.of_bodySF (plainFor_of_name pn_3) hisR ?_
  intro p e s m args below meth c s₁ Bd hml0 hP hK
  obtain ⟨rfl, hZ, hh⟩ := hP
  have hx := Bd.exec
  have hby := Bd.bytes
  have hml : c.maxLocals = 3 := hml0
  have hown : s.vm.findClass "com/example/hearsay/hearsay/graph/IntList" = some m.cls := findClass_of_methodNamed Bd.named
  have hnm := (name_of_methodNamed Bd.named Bd.method).1
  have X0 : Stand p l e ({ frames := 0, cells := 0, slots := 0, locals := 0 } : Room) s m #[(.ref a1), (.int p2)] below meth c s₁ [] 0 0 := Stand.of_body Bd
  have e0 : s₁.heap = h0 := by rw [← hh, Bd.state]; rfl
  have N0 := Fr.nil n0
  have pre0 : ∀ t, Steps p.tables e below (s₁.setTop (mkF m 0 #[.val (.ref a1), .val (.int p2), .unset] [])) t → Steps p.tables e below (s₁.setTop (entryFrame m #[(.ref a1), (.int p2)] 3)) t := fun t k => castTop (ef_3 m a1 p2) k
  obtain ⟨T3, X3, e3, st3⟩ := getF X0 hx hZ hown (host := "") (Or.inl (hw _ (List.mem_of_getElem? (i := 21) rfl))) Via.refl e0 F_size_a1 (g := (mkF m 1 #[.val (.ref a1), .val (.int p2), .unset] [(.ref a1)])) rfl rfl (hb hby d3_1)
  obtain ⟨T4, X4, e4, st4⟩ := getF X3 hx hZ hown (host := "") (Or.inl (hw _ (List.mem_of_getElem? (i := 14) rfl))) Via.refl e3 F_chunks_a1 (g := (mkF m 10 #[.val (.ref a1), .val (.int p2), .val (.int ((n.toUInt32 >>> ((16 : Int32) &&& 31).toUInt32).toInt32))] [(.ref a1), (.int ((n.toUInt32 >>> ((16 : Int32) &&& 31).toUInt32).toInt32))])) rfl rfl (hb hby d3_10)
  obtain ⟨cl_ch_13, Ar_ch_13, -, S_ch_13, N_ch_13, -, -⟩ := id V_ch
  obtain ⟨T5, X5, e5, st5⟩ := getF X4 hx hZ hown (host := "") (Or.inl (hw _ (List.mem_of_getElem? (i := 14) rfl))) Via.refl e4 F_chunks_a1 (g := (mkF m 39 #[.val (.ref a1), .val (.int p2), .val (.int ((n.toUInt32 >>> ((16 : Int32) &&& 31).toUInt32).toInt32))] [(.ref a1)])) rfl rfl (hb hby d3_39)
  obtain ⟨cl_ch_43, Ar_ch_43, q_ch_43, S_ch_43, N_ch_43, H_ch_43, G_ch_43⟩ := id V_ch
  have hin43 := inb_of (j := ((n.toUInt32 >>> ((16 : Int32) &&& 31).toUInt32).toInt32)) S_ch_43 hr43
  have hat43 := Has.at (j := ((n.toUInt32 >>> ((16 : Int32) &&& 31).toUInt32).toInt32)) H_ch_43 hin43 u43
  obtain ⟨T6, X6, e6, st6⟩ := getF X5 hx hZ hown (host := "") (Or.inl (hw _ (List.mem_of_getElem? (i := 21) rfl))) Via.refl e5 F_size_a1 (g := (mkF m 65 #[.val (.ref a1), .val (.int p2), .val (.int ((n.toUInt32 >>> ((16 : Int32) &&& 31).toUInt32).toInt32))] [(.ref a1)])) rfl rfl (hb hby d3_65)
  obtain ⟨T7, X7, e7, st7⟩ := getF X6 hx hZ hown (host := "") (Or.inl (hw _ (List.mem_of_getElem? (i := 14) rfl))) Via.refl e6 F_chunks_a1 (g := (mkF m 69 #[.val (.ref a1), .val (.int p2), .val (.int ((n.toUInt32 >>> ((16 : Int32) &&& 31).toUInt32).toInt32))] [(.ref a1), (.int n)])) rfl rfl (hb hby d3_69)
  obtain ⟨cl_ch_73, Ar_ch_73, q_ch_73, S_ch_73, N_ch_73, H_ch_73, G_ch_73⟩ := id V_ch
  have hin73 := inb_of (j := (0 : Int32)) S_ch_73 hr73
  have hat73 := Has.at (j := (0 : Int32)) H_ch_73 hin73 u73
  obtain ⟨cl_c0_74, Ar_c0_74, -, S_c0_74, N_c0_74, -, -⟩ := id V_c0
  obtain ⟨T8, X8, e8, st8⟩ := getF X7 hx hZ hown (host := "") (Or.inl (hw _ (List.mem_of_getElem? (i := 14) rfl))) Via.refl e7 F_chunks_a1 (g := (mkF m 110 #[.val (.ref a1), .val (.int p2), .val (.int ((n.toUInt32 >>> ((16 : Int32) &&& 31).toUInt32).toInt32))] [(.ref a1)])) rfl rfl (hb hby d3_110)
  obtain ⟨cl_ch_114, Ar_ch_114, q_ch_114, S_ch_114, N_ch_114, H_ch_114, G_ch_114⟩ := id V_ch
  have hin114 := inb_of (j := ((n.toUInt32 >>> ((16 : Int32) &&& 31).toUInt32).toInt32)) S_ch_114 hr114
  have hat114 := Has.at (j := ((n.toUInt32 >>> ((16 : Int32) &&& 31).toUInt32).toInt32)) H_ch_114 hin114 u114
  obtain ⟨T9, X9, e9, st9⟩ := getF X8 hx hZ hown (host := "") (Or.inl (hw _ (List.mem_of_getElem? (i := 21) rfl))) Via.refl e8 F_size_a1 (g := (mkF m 116 #[.val (.ref a1), .val (.int p2), .val (.int ((n.toUInt32 >>> ((16 : Int32) &&& 31).toUInt32).toInt32))] [(.ref a1), (.ref c0)])) rfl rfl (hb hby d3_116)
  obtain ⟨cl_c0_123, Ar_c0_123, q_c0_123, S_c0_123, N_c0_123, H_c0_123, G_c0_123⟩ := id V_c0
  have hin123 := inb_of (j := (n &&& (65535 : Int32))) S_c0_123 hr123
  obtain ⟨T10, h10, X10, e10, W10, st10⟩ := stI X9 hx hZ e9 Ar_c0_123 (j := (n &&& (65535 : Int32))) hin123 (g := (mkF m 123 #[.val (.ref a1), .val (.int p2), .val (.int ((n.toUInt32 >>> ((16 : Int32) &&& 31).toUInt32).toInt32))] [(.int p2), (.int (n &&& (65535 : Int32))), (.ref c0)])) rfl rfl (hb hby d3_123)
  have V_c0_123 := Arv.set Ar_c0_123 q_c0_123 S_c0_123 N_c0_123 H_c0_123 G_c0_123 (v := (.int p2)) rfl W10 i hj123 hl123
  have K10 : Keep h0 h10 [c0, a1] := (Keep.refl h0 [c0, a1]).wr W10 (Or.inl (List.mem_of_getElem? (i := 0) rfl))
  have N10 := Fr.snoc X10 N0 g_c0
  obtain ⟨T11, X11, e11, st11⟩ := getF X10 hx hZ hown (host := "") (Or.inl (hw _ (List.mem_of_getElem? (i := 21) rfl))) Via.refl e10 (F_size_a1.other W10 (Or.inl ne2)) (g := (mkF m 126 #[.val (.ref a1), .val (.int p2), .val (.int ((n.toUInt32 >>> ((16 : Int32) &&& 31).toUInt32).toInt32))] [(.ref a1), (.ref a1)])) rfl rfl (hb hby d3_126)
  obtain ⟨T12, h12, X12, e12, W12, st12⟩ := putF X11 hx hZ hown (host := "") (Or.inl (hw _ (List.mem_of_getElem? (i := 21) rfl))) Via.refl e11 (F_size_a1.other W10 (Or.inl ne2)) (E_a1.wr W10) (Or.inl (hw _ (List.mem_of_getElem? (i := 22) rfl))) (hw _ (List.mem_of_getElem? (i := 2) rfl)) (ty := .int) (by decide) rfl rfl (g := (mkF m 131 #[.val (.ref a1), .val (.int p2), .val (.int ((n.toUInt32 >>> ((16 : Int32) &&& 31).toUInt32).toInt32))] [(.int (n + (1 : Int32))), (.ref a1)])) rfl rfl (hb hby d3_131)
  have Fw12 := (F_size_a1.other W10 (Or.inl ne2)).same W12
  have K12 : Keep h0 h12 [c0, a1] := K10.wr W12 (Or.inl (List.mem_of_getElem? (i := 1) rfl))
  have N12 := Fr.snoc X12 N10 g_a1
  obtain ⟨fs, hr, hrun, hended, hW, hsame⟩ := X12.leave (v := none) (fun _ => rfl)
  refine ⟨_, _, pre0 _ ?_, hrun, hended, _, _, rfl, ?_, ⟨_, rfl⟩, hW, hsame.mono (by decide) (by decide)⟩
  · show Steps p.tables e below (s₁.setTop (mkF m 0 #[.val (.ref a1), .val (.int p2), .unset] [])) _
    refine XS.aloadN X0.here hx rfl (hb hby d3_0) rfl rfl ?_
    show Steps p.tables e below (s₁.setTop (mkF m 1 #[.val (.ref a1), .val (.int p2), .unset] [(.ref a1)])) _
    refine st3 _ ?_
    show Steps p.tables e below (T3.setTop (mkF m 4 #[.val (.ref a1), .val (.int p2), .unset] [(.int n)])) _
    refine XS.bipush X3.here hx rfl (hb hby d3_4) ?_
    show Steps p.tables e below (T3.setTop (mkF m 6 #[.val (.ref a1), .val (.int p2), .unset] [(.int (16 : Int32)), (.int n)])) _
    refine XS.iushr X3.here hx rfl (hb hby d3_6) rfl ?_
    show Steps p.tables e below (T3.setTop (mkF m 7 #[.val (.ref a1), .val (.int p2), .unset] [(.int ((n.toUInt32 >>> ((16 : Int32) &&& 31).toUInt32).toInt32))])) _
    refine XS.istoreN X3.here hx rfl (hb hby d3_7) rfl (l' := #[.val (.ref a1), .val (.int p2), .val (.int ((n.toUInt32 >>> ((16 : Int32) &&& 31).toUInt32).toInt32))]) rfl ?_
    show Steps p.tables e below (T3.setTop (mkF m 8 #[.val (.ref a1), .val (.int p2), .val (.int ((n.toUInt32 >>> ((16 : Int32) &&& 31).toUInt32).toInt32))] [])) _
    refine XS.iloadN X3.here hx rfl (hb hby d3_8) rfl ?_
    show Steps p.tables e below (T3.setTop (mkF m 9 #[.val (.ref a1), .val (.int p2), .val (.int ((n.toUInt32 >>> ((16 : Int32) &&& 31).toUInt32).toInt32))] [(.int ((n.toUInt32 >>> ((16 : Int32) &&& 31).toUInt32).toInt32))])) _
    refine XS.aloadN X3.here hx rfl (hb hby d3_9) rfl rfl ?_
    show Steps p.tables e below (T3.setTop (mkF m 10 #[.val (.ref a1), .val (.int p2), .val (.int ((n.toUInt32 >>> ((16 : Int32) &&& 31).toUInt32).toInt32))] [(.ref a1), (.int ((n.toUInt32 >>> ((16 : Int32) &&& 31).toUInt32).toInt32))])) _
    refine st4 _ ?_
    show Steps p.tables e below (T4.setTop (mkF m 13 #[.val (.ref a1), .val (.int p2), .val (.int ((n.toUInt32 >>> ((16 : Int32) &&& 31).toUInt32).toInt32))] [(.ref ch), (.int ((n.toUInt32 >>> ((16 : Int32) &&& 31).toUInt32).toInt32))])) _
    refine X4.arraylength hx (by rw [e4]; exact Ar_ch_13.1) (State.isArrayOf_alike hZ.alike Ar_ch_13.2.1) (g := (mkF m 13 #[.val (.ref a1), .val (.int p2), .val (.int ((n.toUInt32 >>> ((16 : Int32) &&& 31).toUInt32).toInt32))] [(.ref ch), (.int ((n.toUInt32 >>> ((16 : Int32) &&& 31).toUInt32).toInt32))])) rfl rfl (hb hby d3_13) _ ?_
    rw [len_of S_ch_13 N_ch_13]
    show Steps p.tables e below (T4.setTop (mkF m 14 #[.val (.ref a1), .val (.int p2), .val (.int ((n.toUInt32 >>> ((16 : Int32) &&& 31).toUInt32).toInt32))] [(.int (1 : Int32)), (.int ((n.toUInt32 >>> ((16 : Int32) &&& 31).toUInt32).toInt32))])) _
    refine XS.icmpYes X4.here hx rfl (pc0 := 14) (pc' := 38) rfl (hb hby d3_14) rfl (feq hc14).2 (by decide) (by decide) ?_
    show Steps p.tables e below (T4.setTop (mkF m 38 #[.val (.ref a1), .val (.int p2), .val (.int ((n.toUInt32 >>> ((16 : Int32) &&& 31).toUInt32).toInt32))] [])) _
    refine XS.aloadN X4.here hx rfl (hb hby d3_38) rfl rfl ?_
    show Steps p.tables e below (T4.setTop (mkF m 39 #[.val (.ref a1), .val (.int p2), .val (.int ((n.toUInt32 >>> ((16 : Int32) &&& 31).toUInt32).toInt32))] [(.ref a1)])) _
    refine st5 _ ?_
    show Steps p.tables e below (T5.setTop (mkF m 42 #[.val (.ref a1), .val (.int p2), .val (.int ((n.toUInt32 >>> ((16 : Int32) &&& 31).toUInt32).toInt32))] [(.ref ch)])) _
    refine XS.iloadN X5.here hx rfl (hb hby d3_42) rfl ?_
    show Steps p.tables e below (T5.setTop (mkF m 43 #[.val (.ref a1), .val (.int p2), .val (.int ((n.toUInt32 >>> ((16 : Int32) &&& 31).toUInt32).toInt32))] [(.int ((n.toUInt32 >>> ((16 : Int32) &&& 31).toUInt32).toInt32)), (.ref ch)])) _
    refine X5.aaload hx (j := ((n.toUInt32 >>> ((16 : Int32) &&& 31).toUInt32).toInt32)) (v := (.ref c0)) (by rw [e5]; exact Ar_ch_43.1) (State.isArrayOf_alike hZ.alike Ar_ch_43.2.1) rfl Ar_ch_43.2.2 hin43 hat43 (g := (mkF m 43 #[.val (.ref a1), .val (.int p2), .val (.int ((n.toUInt32 >>> ((16 : Int32) &&& 31).toUInt32).toInt32))] [(.int ((n.toUInt32 >>> ((16 : Int32) &&& 31).toUInt32).toInt32)), (.ref ch)])) rfl rfl (hb hby d3_43) _ ?_
    show Steps p.tables e below (T5.setTop (mkF m 44 #[.val (.ref a1), .val (.int p2), .val (.int ((n.toUInt32 >>> ((16 : Int32) &&& 31).toUInt32).toInt32))] [(.ref c0)])) _
    refine XS.ifnonnullYes X5.here hx rfl (pc0 := 44) (pc' := 60) rfl (hb hby d3_44) rfl (by decide) (by decide) ?_
    show Steps p.tables e below (T5.setTop (mkF m 60 #[.val (.ref a1), .val (.int p2), .val (.int ((n.toUInt32 >>> ((16 : Int32) &&& 31).toUInt32).toInt32))] [])) _
    refine XS.iloadN X5.here hx rfl (hb hby d3_60) rfl ?_
    show Steps p.tables e below (T5.setTop (mkF m 61 #[.val (.ref a1), .val (.int p2), .val (.int ((n.toUInt32 >>> ((16 : Int32) &&& 31).toUInt32).toInt32))] [(.int ((n.toUInt32 >>> ((16 : Int32) &&& 31).toUInt32).toInt32))])) _
    refine XS.ifNo X5.here hx rfl (hb hby d3_61) rfl ((if0 _ _).trans (teq hc61).2) ?_
    show Steps p.tables e below (T5.setTop (mkF m 64 #[.val (.ref a1), .val (.int p2), .val (.int ((n.toUInt32 >>> ((16 : Int32) &&& 31).toUInt32).toInt32))] [])) _
    refine XS.aloadN X5.here hx rfl (hb hby d3_64) rfl rfl ?_
    show Steps p.tables e below (T5.setTop (mkF m 65 #[.val (.ref a1), .val (.int p2), .val (.int ((n.toUInt32 >>> ((16 : Int32) &&& 31).toUInt32).toInt32))] [(.ref a1)])) _
    refine st6 _ ?_
    show Steps p.tables e below (T6.setTop (mkF m 68 #[.val (.ref a1), .val (.int p2), .val (.int ((n.toUInt32 >>> ((16 : Int32) &&& 31).toUInt32).toInt32))] [(.int n)])) _
    refine XS.aloadN X6.here hx rfl (hb hby d3_68) rfl rfl ?_
    show Steps p.tables e below (T6.setTop (mkF m 69 #[.val (.ref a1), .val (.int p2), .val (.int ((n.toUInt32 >>> ((16 : Int32) &&& 31).toUInt32).toInt32))] [(.ref a1), (.int n)])) _
    refine st7 _ ?_
    show Steps p.tables e below (T7.setTop (mkF m 72 #[.val (.ref a1), .val (.int p2), .val (.int ((n.toUInt32 >>> ((16 : Int32) &&& 31).toUInt32).toInt32))] [(.ref ch), (.int n)])) _
    refine XS.iconst X7.here hx rfl (hb hby d3_72) ?_
    show Steps p.tables e below (T7.setTop (mkF m 73 #[.val (.ref a1), .val (.int p2), .val (.int ((n.toUInt32 >>> ((16 : Int32) &&& 31).toUInt32).toInt32))] [(.int (0 : Int32)), (.ref ch), (.int n)])) _
    refine X7.aaload hx (j := (0 : Int32)) (v := (.ref c0)) (by rw [e7]; exact Ar_ch_73.1) (State.isArrayOf_alike hZ.alike Ar_ch_73.2.1) rfl Ar_ch_73.2.2 hin73 hat73 (g := (mkF m 73 #[.val (.ref a1), .val (.int p2), .val (.int ((n.toUInt32 >>> ((16 : Int32) &&& 31).toUInt32).toInt32))] [(.int (0 : Int32)), (.ref ch), (.int n)])) rfl rfl (hb hby d3_73) _ ?_
    show Steps p.tables e below (T7.setTop (mkF m 74 #[.val (.ref a1), .val (.int p2), .val (.int ((n.toUInt32 >>> ((16 : Int32) &&& 31).toUInt32).toInt32))] [(.ref c0), (.int n)])) _
    refine X7.arraylength hx (by rw [e7]; exact Ar_c0_74.1) (State.isArrayOf_alike hZ.alike Ar_c0_74.2.1) (g := (mkF m 74 #[.val (.ref a1), .val (.int p2), .val (.int ((n.toUInt32 >>> ((16 : Int32) &&& 31).toUInt32).toInt32))] [(.ref c0), (.int n)])) rfl rfl (hb hby d3_74) _ ?_
    rw [len_of S_c0_74 N_c0_74]
    show Steps p.tables e below (T7.setTop (mkF m 75 #[.val (.ref a1), .val (.int p2), .val (.int ((n.toUInt32 >>> ((16 : Int32) &&& 31).toUInt32).toInt32))] [(.int (16 : Int32)), (.int n)])) _
    refine XS.icmpYes X7.here hx rfl (pc0 := 75) (pc' := 109) rfl (hb hby d3_75) rfl (feq hc75).2 (by decide) (by decide) ?_
    show Steps p.tables e below (T7.setTop (mkF m 109 #[.val (.ref a1), .val (.int p2), .val (.int ((n.toUInt32 >>> ((16 : Int32) &&& 31).toUInt32).toInt32))] [])) _
    refine XS.aloadN X7.here hx rfl (hb hby d3_109) rfl rfl ?_
    show Steps p.tables e below (T7.setTop (mkF m 110 #[.val (.ref a1), .val (.int p2), .val (.int ((n.toUInt32 >>> ((16 : Int32) &&& 31).toUInt32).toInt32))] [(.ref a1)])) _
    refine st8 _ ?_
    show Steps p.tables e below (T8.setTop (mkF m 113 #[.val (.ref a1), .val (.int p2), .val (.int ((n.toUInt32 >>> ((16 : Int32) &&& 31).toUInt32).toInt32))] [(.ref ch)])) _
    refine XS.iloadN X8.here hx rfl (hb hby d3_113) rfl ?_
    show Steps p.tables e below (T8.setTop (mkF m 114 #[.val (.ref a1), .val (.int p2), .val (.int ((n.toUInt32 >>> ((16 : Int32) &&& 31).toUInt32).toInt32))] [(.int ((n.toUInt32 >>> ((16 : Int32) &&& 31).toUInt32).toInt32)), (.ref ch)])) _
    refine X8.aaload hx (j := ((n.toUInt32 >>> ((16 : Int32) &&& 31).toUInt32).toInt32)) (v := (.ref c0)) (by rw [e8]; exact Ar_ch_114.1) (State.isArrayOf_alike hZ.alike Ar_ch_114.2.1) rfl Ar_ch_114.2.2 hin114 hat114 (g := (mkF m 114 #[.val (.ref a1), .val (.int p2), .val (.int ((n.toUInt32 >>> ((16 : Int32) &&& 31).toUInt32).toInt32))] [(.int ((n.toUInt32 >>> ((16 : Int32) &&& 31).toUInt32).toInt32)), (.ref ch)])) rfl rfl (hb hby d3_114) _ ?_
    show Steps p.tables e below (T8.setTop (mkF m 115 #[.val (.ref a1), .val (.int p2), .val (.int ((n.toUInt32 >>> ((16 : Int32) &&& 31).toUInt32).toInt32))] [(.ref c0)])) _
    refine XS.aloadN X8.here hx rfl (hb hby d3_115) rfl rfl ?_
    show Steps p.tables e below (T8.setTop (mkF m 116 #[.val (.ref a1), .val (.int p2), .val (.int ((n.toUInt32 >>> ((16 : Int32) &&& 31).toUInt32).toInt32))] [(.ref a1), (.ref c0)])) _
    refine st9 _ ?_
    show Steps p.tables e below (T9.setTop (mkF m 119 #[.val (.ref a1), .val (.int p2), .val (.int ((n.toUInt32 >>> ((16 : Int32) &&& 31).toUInt32).toInt32))] [(.int n), (.ref c0)])) _
    refine X9.ldcInt hx hown (mvT hZ (hw _ (List.mem_of_getElem? (i := 23) rfl))) (g := (mkF m 119 #[.val (.ref a1), .val (.int p2), .val (.int ((n.toUInt32 >>> ((16 : Int32) &&& 31).toUInt32).toInt32))] [(.int n), (.ref c0)])) rfl (hb hby d3_119) _ ?_
    show Steps p.tables e below (T9.setTop (mkF m 121 #[.val (.ref a1), .val (.int p2), .val (.int ((n.toUInt32 >>> ((16 : Int32) &&& 31).toUInt32).toInt32))] [(.int (65535 : Int32)), (.int n), (.ref c0)])) _
    refine XS.iand X9.here hx rfl (hb hby d3_121) rfl ?_
    show Steps p.tables e below (T9.setTop (mkF m 122 #[.val (.ref a1), .val (.int p2), .val (.int ((n.toUInt32 >>> ((16 : Int32) &&& 31).toUInt32).toInt32))] [(.int (n &&& (65535 : Int32))), (.ref c0)])) _
    refine XS.iloadN X9.here hx rfl (hb hby d3_122) rfl ?_
    show Steps p.tables e below (T9.setTop (mkF m 123 #[.val (.ref a1), .val (.int p2), .val (.int ((n.toUInt32 >>> ((16 : Int32) &&& 31).toUInt32).toInt32))] [(.int p2), (.int (n &&& (65535 : Int32))), (.ref c0)])) _
    refine st10 _ ?_
    show Steps p.tables e below (T10.setTop (mkF m 124 #[.val (.ref a1), .val (.int p2), .val (.int ((n.toUInt32 >>> ((16 : Int32) &&& 31).toUInt32).toInt32))] [])) _
    refine XS.aloadN X10.here hx rfl (hb hby d3_124) rfl rfl ?_
    show Steps p.tables e below (T10.setTop (mkF m 125 #[.val (.ref a1), .val (.int p2), .val (.int ((n.toUInt32 >>> ((16 : Int32) &&& 31).toUInt32).toInt32))] [(.ref a1)])) _
    refine XS.dup X10.here hx rfl (hb hby d3_125) rfl rfl ?_
    show Steps p.tables e below (T10.setTop (mkF m 126 #[.val (.ref a1), .val (.int p2), .val (.int ((n.toUInt32 >>> ((16 : Int32) &&& 31).toUInt32).toInt32))] [(.ref a1), (.ref a1)])) _
    refine st11 _ ?_
    show Steps p.tables e below (T11.setTop (mkF m 129 #[.val (.ref a1), .val (.int p2), .val (.int ((n.toUInt32 >>> ((16 : Int32) &&& 31).toUInt32).toInt32))] [(.int n), (.ref a1)])) _
    refine XS.iconst X11.here hx rfl (hb hby d3_129) ?_
    show Steps p.tables e below (T11.setTop (mkF m 130 #[.val (.ref a1), .val (.int p2), .val (.int ((n.toUInt32 >>> ((16 : Int32) &&& 31).toUInt32).toInt32))] [(.int (1 : Int32)), (.int n), (.ref a1)])) _
    refine XS.iadd X11.here hx rfl (hb hby d3_130) rfl ?_
    show Steps p.tables e below (T11.setTop (mkF m 131 #[.val (.ref a1), .val (.int p2), .val (.int ((n.toUInt32 >>> ((16 : Int32) &&& 31).toUInt32).toInt32))] [(.int (n + (1 : Int32))), (.ref a1)])) _
    refine st12 _ ?_
    show Steps p.tables e below (T12.setTop (mkF m 134 #[.val (.ref a1), .val (.int p2), .val (.int ((n.toUInt32 >>> ((16 : Int32) &&& 31).toUInt32).toInt32))] [])) _
    exact X12.returnOut hx Bd.returns (hb hby d3_134) hr
  · show Q3 Z a1 p2 ch c0 kA kI n vs i h0 n0 _ T12.heap _
    rw [e12]
    exact ⟨rfl, N12, K12, ((E_a1.wr W10).wr W12), ((F_chunks_a1.other W10 (Or.inl ne2)).other W12 (Or.inr (slot_ne (Or.inl (hw _ (List.mem_of_getElem? (i := 15) rfl))) (Or.inl (hw _ (List.mem_of_getElem? (i := 22) rfl))) (by decide) (t := (.array (.array .int))) (t' := .int) (by decide) (by decide)))), Fw12, ((V_ch.other W10 ne3).other W12 (Ne.symm ne1)), (V_c0_123.other W12 (Ne.symm ne2))⟩
theorem d4_0 : decode prog_102_method_5_code 0 = .ok (.aload_n 0, 1) := by decide +kernel
theorem d4_1 : decode prog_102_method_5_code 1 = .ok (.getfield 11, 3) := by decide +kernel
theorem d4_4 : decode prog_102_method_5_code 4 = .ok (.iload_n 1, 1) := by decide +kernel
theorem d4_5 : decode prog_102_method_5_code 5 = .ok (.bipush 16, 2) := by decide +kernel
theorem d4_7 : decode prog_102_method_5_code 7 = .ok (.iushr, 1) := by decide +kernel
theorem d4_8 : decode prog_102_method_5_code 8 = .ok (.aaload, 1) := by decide +kernel
theorem d4_9 : decode prog_102_method_5_code 9 = .ok (.iload_n 1, 1) := by decide +kernel
theorem d4_10 : decode prog_102_method_5_code 10 = .ok (.ldc 24, 2) := by decide +kernel
theorem d4_12 : decode prog_102_method_5_code 12 = .ok (.iand, 1) := by decide +kernel
theorem d4_13 : decode prog_102_method_5_code 13 = .ok (.iaload, 1) := by decide +kernel
theorem d4_14 : decode prog_102_method_5_code 14 = .ok (.ireturn, 1) := by decide +kernel
theorem pn_4 : plainName "com/example/hearsay/hearsay/graph/IntList" = true := by first | (simp [plainName, overriddenIn]; done) | decide +kernel
theorem ef_4 (m : MethodId) (x0 : Addr) (x1 : Int32) : entryFrame m #[(.ref x0), (.int x1)] 2 = mkF m 0 #[.val (.ref x0), .val (.int x1)] [] := by first | (simp [entryFrame, mkF, argsToLocals, Value.category]; done) | rfl
def Q4 (Z : State) (a1 : Addr) (p2 : Int32) (ch : Addr) (c0 : Addr) (kA : ClassId) (kI : ClassId) (vs : List Value) (xv : Int32) (h0 : Heap) (n0 : Nat) (v : Option Value) (h : Heap) (L : List Loc) : Prop := v = some (.int xv) ∧ Fr n0 L ∧ h = h0
set_option maxRecDepth 65536 in
set_option maxHeartbeats 40000000 in
theorem rm4 (l : Launch) (Z : State) (a0 : Array Value) (hw : ∀ d ∈ tables_1, d.before a0 Z = true) (ws : List Jvm.Cond) (a1 : Addr) (p2 : Int32) (ch : Addr) (c0 : Addr) (kA : ClassId) (kI : ClassId) (vs : List Value) (xv : Int32) (h0 : Heap) (n0 : Nat) (Z0 : n0 ≤ h0.size) (V_ch : Arv Z h0 ch kA (.array .int) (1 : Int32) [.ref c0] .null) (V_c0 : Arv Z h0 c0 kI .int (16 : Int32) vs (.int (0 : Int32))) (F_chunks_a1 : Fld Z h0 a1 "com/example/hearsay/hearsay/graph/IntList" "chunks" "[[I" (.ref ch)) (hr8 : ¬ ((p2.toUInt32 >>> ((16 : Int32) &&& 31).toUInt32).toInt32) < 0 ∧ ((p2.toUInt32 >>> ((16 : Int32) &&& 31).toUInt32).toInt32) < (1 : Int32)) (u8 : ([.ref c0] : List Value).getD (((p2.toUInt32 >>> ((16 : Int32) &&& 31).toUInt32).toInt32)).toNatClampNeg (.null : Value) = (.ref c0)) (hr13 : ¬ (p2 &&& (65535 : Int32)) < 0 ∧ (p2 &&& (65535 : Int32)) < (16 : Int32)) (u13 : (vs : List Value).getD ((p2 &&& (65535 : Int32))).toNatClampNeg ((.int (0 : Int32)) : Value) = (.int xv)) :
    MetFree l (⟨"com/example/hearsay/hearsay/graph/IntList", "get", "(I)I"⟩ : MethodName) (head1 (Jvm.Cond.code (⟨"com/example/hearsay/hearsay/graph/IntList", "get", "(I)I"⟩ : MethodName) prog_102_method_5_code 2 (some .int) :: ws) ({ frames := 0, cells := 0, slots := 0, locals := 0 } : Room)) (fun a U => a = #[(.ref a1), (.int p2)] ∧ Z.Warmed39 U.vm ∧ U.heap = h0) (fun _ _ _ _ _ => True) (fun _ U o U' => ∃ v L, o = .returned v ∧ Q4 Z a1 p2 ch c0 kA kI vs xv h0 n0 v U'.heap L ∧ FrameEnd U o U' L ({ frames := 0, cells := 0, slots := 0, locals := 0 } : Room).cells ({ frames := 0, cells := 0, slots := 0, locals := 0 } : Room).slots) := by
  refine MetFree.of_bodySF (plainFor_of_name pn_4) hisR ?_
  intro p e s m args below meth c s₁ Bd hml0 hP hK
  obtain ⟨rfl, hZ, hh⟩ := hP
  have hx := Bd.exec
  have hby := Bd.bytes
  have hml : c.maxLocals = 2 := hml0
  have hown : s.vm.findClass "com/example/hearsay/hearsay/graph/IntList" = some m.cls := findClass_of_methodNamed Bd.named
  have hnm := (name_of_methodNamed Bd.named Bd.method).1
  have X0 : Stand p l e ({ frames := 0, cells := 0, slots := 0, locals := 0 } : Room) s m #[(.ref a1), (.int p2)] below meth c s₁ [] 0 0 := Stand.of_body Bd
  have e0 : s₁.heap = h0 := by rw [← hh, Bd.state]; rfl
  have N0 := Fr.nil n0
  have pre0 : ∀ t, Steps p.tables e below (s₁.setTop (mkF m 0 #[.val (.ref a1), .val (.int p2)] [])) t → Steps p.tables e below (s₁.setTop (entryFrame m #[(.ref a1), (.int p2)] 2)) t := fun t k => castTop (ef_4 m a1 p2) k
  obtain ⟨T3, X3, e3, st3⟩ := getF X0 hx hZ hown (host := "") (Or.inl (hw _ (List.mem_of_getElem? (i := 14) rfl))) Via.refl e0 F_chunks_a1 (g := (mkF m 1 #[.val (.ref a1), .val (.int p2)] [(.ref a1)])) rfl rfl (hb hby d4_1)
  obtain ⟨cl_ch_8, Ar_ch_8, q_ch_8, S_ch_8, N_ch_8, H_ch_8, G_ch_8⟩ := id V_ch
  have hin8 := inb_of (j := ((p2.toUInt32 >>> ((16 : Int32) &&& 31).toUInt32).toInt32)) S_ch_8 hr8
  have hat8 := Has.at (j := ((p2.toUInt32 >>> ((16 : Int32) &&& 31).toUInt32).toInt32)) H_ch_8 hin8 u8
  obtain ⟨cl_c0_13, Ar_c0_13, q_c0_13, S_c0_13, N_c0_13, H_c0_13, G_c0_13⟩ := id V_c0
  have hin13 := inb_of (j := (p2 &&& (65535 : Int32))) S_c0_13 hr13
  have hat13 := Has.at (j := (p2 &&& (65535 : Int32))) H_c0_13 hin13 u13
  obtain ⟨fs, hr, hrun, hended, hW, hsame⟩ := X3.leave (v := some (.int xv)) (fun h => by rw [Bd.returns] at h; cases h)
  refine ⟨_, _, pre0 _ ?_, hrun, hended, _, _, rfl, ?_, ⟨_, rfl⟩, hW, hsame.mono (by decide) (by decide)⟩
  · show Steps p.tables e below (s₁.setTop (mkF m 0 #[.val (.ref a1), .val (.int p2)] [])) _
    refine XS.aloadN X0.here hx rfl (hb hby d4_0) rfl rfl ?_
    show Steps p.tables e below (s₁.setTop (mkF m 1 #[.val (.ref a1), .val (.int p2)] [(.ref a1)])) _
    refine st3 _ ?_
    show Steps p.tables e below (T3.setTop (mkF m 4 #[.val (.ref a1), .val (.int p2)] [(.ref ch)])) _
    refine XS.iloadN X3.here hx rfl (hb hby d4_4) rfl ?_
    show Steps p.tables e below (T3.setTop (mkF m 5 #[.val (.ref a1), .val (.int p2)] [(.int p2), (.ref ch)])) _
    refine XS.bipush X3.here hx rfl (hb hby d4_5) ?_
    show Steps p.tables e below (T3.setTop (mkF m 7 #[.val (.ref a1), .val (.int p2)] [(.int (16 : Int32)), (.int p2), (.ref ch)])) _
    refine XS.iushr X3.here hx rfl (hb hby d4_7) rfl ?_
    show Steps p.tables e below (T3.setTop (mkF m 8 #[.val (.ref a1), .val (.int p2)] [(.int ((p2.toUInt32 >>> ((16 : Int32) &&& 31).toUInt32).toInt32)), (.ref ch)])) _
    refine X3.aaload hx (j := ((p2.toUInt32 >>> ((16 : Int32) &&& 31).toUInt32).toInt32)) (v := (.ref c0)) (by rw [e3]; exact Ar_ch_8.1) (State.isArrayOf_alike hZ.alike Ar_ch_8.2.1) rfl Ar_ch_8.2.2 hin8 hat8 (g := (mkF m 8 #[.val (.ref a1), .val (.int p2)] [(.int ((p2.toUInt32 >>> ((16 : Int32) &&& 31).toUInt32).toInt32)), (.ref ch)])) rfl rfl (hb hby d4_8) _ ?_
    show Steps p.tables e below (T3.setTop (mkF m 9 #[.val (.ref a1), .val (.int p2)] [(.ref c0)])) _
    refine XS.iloadN X3.here hx rfl (hb hby d4_9) rfl ?_
    show Steps p.tables e below (T3.setTop (mkF m 10 #[.val (.ref a1), .val (.int p2)] [(.int p2), (.ref c0)])) _
    refine X3.ldcInt hx hown (mvT hZ (hw _ (List.mem_of_getElem? (i := 23) rfl))) (g := (mkF m 10 #[.val (.ref a1), .val (.int p2)] [(.int p2), (.ref c0)])) rfl (hb hby d4_10) _ ?_
    show Steps p.tables e below (T3.setTop (mkF m 12 #[.val (.ref a1), .val (.int p2)] [(.int (65535 : Int32)), (.int p2), (.ref c0)])) _
    refine XS.iand X3.here hx rfl (hb hby d4_12) rfl ?_
    show Steps p.tables e below (T3.setTop (mkF m 13 #[.val (.ref a1), .val (.int p2)] [(.int (p2 &&& (65535 : Int32))), (.ref c0)])) _
    refine X3.iaload hx (j := (p2 &&& (65535 : Int32))) (v := (.int xv)) (by rw [e3]; exact Ar_c0_13.1) (State.isArrayOf_alike hZ.alike Ar_c0_13.2.1) Ar_c0_13.2.2 hin13 hat13 (g := (mkF m 13 #[.val (.ref a1), .val (.int p2)] [(.int (p2 &&& (65535 : Int32))), (.ref c0)])) rfl rfl (hb hby d4_13) _ ?_
    show Steps p.tables e below (T3.setTop (mkF m 14 #[.val (.ref a1), .val (.int p2)] [(.int xv)])) _
    exact retI X3 hx Bd.returns (hb hby d4_14) hr
  · show Q4 Z a1 p2 ch c0 kA kI vs xv h0 n0 _ T3.heap _
    rw [e3]
    exact ⟨rfl, N0, rfl⟩
theorem os0_107 {z0 : Value} {z1 : Value} {z2 : Value} {z3 : Value} {s4 : Slot} {s5 : Slot} {s6 : Slot} {z7 : Value} {s8 : Slot} {s9 : Slot} {v : Int32} (h : One s9) : storeLocals #[.val z0, .val z1, .val z2, .val z3, s4, s5, s6, .val z7, s8, s9] 9 (.int v) = some #[.val z0, .val z1, .val z2, .val z3, s4, s5, s6, .val z7, s8, .val (.int v)] := by
  rcases h with rfl | ⟨w, rfl, hw⟩
  · rfl
  · cases w <;> first | rfl | (simp [Value.category] at hw)
set_option maxRecDepth 65536 in
set_option maxHeartbeats 40000000 in
theorem tn0_101_167_f {p : Program} {l : Launch} {e : Env} {R : Room} {s : State} {m : MethodId} {args : Array Value} {below : List Frame} {meth : Method} {c : Code} {T0 : State} {locs : List Loc} {cells slots : Nat} {Z : State} {a0 : Array Value} {h0 : Heap} (i0 : Int32) (i1 : Int32) (i2 : Int32) (i3 : Int32) (s4 : Slot) (s5 : Slot) (s6 : Slot) (i7 : Int32) (s8 : Slot) (s9 : Slot)
    (X0 : Stand p l e R s m args below meth c T0 locs cells slots) (hx : p.tables.exec = Jvm.exec) (hZ : Z.Warmed39 s.vm) (hw : ∀ d ∈ tables_1, d.before a0 Z = true) (hby : c.code = code) (hml : c.maxLocals = 10) (hown : s.vm.findClass "com/example/hearsay/hearsay/graph/IntListGetPinLaw" = some m.cls) (e0 : T0.heap = h0) (hs9 : One s9) (hc103 : i7 = (0 : Int32)) :
    ∃ (T' : State), Stand p l e R s m args below meth c T' locs cells slots ∧ T'.heap = h0 ∧
      ∀ target, Steps p.tables e below (T'.setTop (mkF m 167 #[.val (.int i0), .val (.int i1), .val (.int i2), .val (.int i3), s4, s5, s6, .val (.int i7), s8, .val (.int i0)] [])) target → Steps p.tables e below (T0.setTop (mkF m 101 #[.val (.int i0), .val (.int i1), .val (.int i2), .val (.int i3), s4, s5, s6, .val (.int i7), s8, s9] [])) target := by
  refine ⟨T0, X0, e0, fun target kt => ?_⟩
  show Steps p.tables e below (T0.setTop (mkF m 101 #[.val (.int i0), .val (.int i1), .val (.int i2), .val (.int i3), s4, s5, s6, .val (.int i7), s8, s9] [])) _
  refine XS.iload X0.here hx rfl (hb hby at_101) rfl ?_
  show Steps p.tables e below (T0.setTop (mkF m 103 #[.val (.int i0), .val (.int i1), .val (.int i2), .val (.int i3), s4, s5, s6, .val (.int i7), s8, s9] [(.int i7)])) _
  refine XS.ifNo X0.here hx rfl (hb hby at_103) rfl ((if0 _ _).trans (teq hc103).2) ?_
  show Steps p.tables e below (T0.setTop (mkF m 106 #[.val (.int i0), .val (.int i1), .val (.int i2), .val (.int i3), s4, s5, s6, .val (.int i7), s8, s9] [])) _
  refine XS.iloadN X0.here hx rfl (hb hby at_106) rfl ?_
  show Steps p.tables e below (T0.setTop (mkF m 107 #[.val (.int i0), .val (.int i1), .val (.int i2), .val (.int i3), s4, s5, s6, .val (.int i7), s8, s9] [(.int i0)])) _
  refine XS.istore X0.here hx rfl (hb hby at_107) rfl (l' := #[.val (.int i0), .val (.int i1), .val (.int i2), .val (.int i3), s4, s5, s6, .val (.int i7), s8, .val (.int i0)]) (os0_107 hs9) ?_
  show Steps p.tables e below (T0.setTop (mkF m 109 #[.val (.int i0), .val (.int i1), .val (.int i2), .val (.int i3), s4, s5, s6, .val (.int i7), s8, .val (.int i0)] [])) _
  refine XS.goto X0.here hx rfl (pc0 := 109) (pc' := 167) rfl (hb hby at_109) (by decide) (by decide) ?_
  exact kt
theorem os0_119 {z0 : Value} {z1 : Value} {z2 : Value} {z3 : Value} {s4 : Slot} {s5 : Slot} {s6 : Slot} {z7 : Value} {s8 : Slot} {s9 : Slot} {v : Int32} (h : One s9) : storeLocals #[.val z0, .val z1, .val z2, .val z3, s4, s5, s6, .val z7, s8, s9] 9 (.int v) = some #[.val z0, .val z1, .val z2, .val z3, s4, s5, s6, .val z7, s8, .val (.int v)] := by
  rcases h with rfl | ⟨w, rfl, hw⟩
  · rfl
  · cases w <;> first | rfl | (simp [Value.category] at hw)
set_option maxRecDepth 65536 in
set_option maxHeartbeats 40000000 in
theorem tn0_101_167_tf {p : Program} {l : Launch} {e : Env} {R : Room} {s : State} {m : MethodId} {args : Array Value} {below : List Frame} {meth : Method} {c : Code} {T0 : State} {locs : List Loc} {cells slots : Nat} {Z : State} {a0 : Array Value} {h0 : Heap} (i0 : Int32) (i1 : Int32) (i2 : Int32) (i3 : Int32) (s4 : Slot) (s5 : Slot) (s6 : Slot) (i7 : Int32) (s8 : Slot) (s9 : Slot)
    (X0 : Stand p l e R s m args below meth c T0 locs cells slots) (hx : p.tables.exec = Jvm.exec) (hZ : Z.Warmed39 s.vm) (hw : ∀ d ∈ tables_1, d.before a0 Z = true) (hby : c.code = code) (hml : c.maxLocals = 10) (hown : s.vm.findClass "com/example/hearsay/hearsay/graph/IntListGetPinLaw" = some m.cls) (e0 : T0.heap = h0) (hs9 : One s9) (hc103 : ¬ (i7 = (0 : Int32))) (hc115 : i7 = (1 : Int32)) :
    ∃ (T' : State), Stand p l e R s m args below meth c T' locs cells slots ∧ T'.heap = h0 ∧
      ∀ target, Steps p.tables e below (T'.setTop (mkF m 167 #[.val (.int i0), .val (.int i1), .val (.int i2), .val (.int i3), s4, s5, s6, .val (.int i7), s8, .val (.int i1)] [])) target → Steps p.tables e below (T0.setTop (mkF m 101 #[.val (.int i0), .val (.int i1), .val (.int i2), .val (.int i3), s4, s5, s6, .val (.int i7), s8, s9] [])) target := by
  refine ⟨T0, X0, e0, fun target kt => ?_⟩
  show Steps p.tables e below (T0.setTop (mkF m 101 #[.val (.int i0), .val (.int i1), .val (.int i2), .val (.int i3), s4, s5, s6, .val (.int i7), s8, s9] [])) _
  refine XS.iload X0.here hx rfl (hb hby at_101) rfl ?_
  show Steps p.tables e below (T0.setTop (mkF m 103 #[.val (.int i0), .val (.int i1), .val (.int i2), .val (.int i3), s4, s5, s6, .val (.int i7), s8, s9] [(.int i7)])) _
  refine XS.ifYes X0.here hx rfl (pc0 := 103) (pc' := 112) rfl (hb hby at_103) rfl ((if0 _ _).trans (feq hc103).2) (by decide) (by decide) ?_
  show Steps p.tables e below (T0.setTop (mkF m 112 #[.val (.int i0), .val (.int i1), .val (.int i2), .val (.int i3), s4, s5, s6, .val (.int i7), s8, s9] [])) _
  refine XS.iload X0.here hx rfl (hb hby at_112) rfl ?_
  show Steps p.tables e below (T0.setTop (mkF m 114 #[.val (.int i0), .val (.int i1), .val (.int i2), .val (.int i3), s4, s5, s6, .val (.int i7), s8, s9] [(.int i7)])) _
  refine XS.iconst X0.here hx rfl (hb hby at_114) ?_
  show Steps p.tables e below (T0.setTop (mkF m 115 #[.val (.int i0), .val (.int i1), .val (.int i2), .val (.int i3), s4, s5, s6, .val (.int i7), s8, s9] [(.int (1 : Int32)), (.int i7)])) _
  refine XS.icmpNo X0.here hx rfl (hb hby at_115) rfl (teq hc115).2 ?_
  show Steps p.tables e below (T0.setTop (mkF m 118 #[.val (.int i0), .val (.int i1), .val (.int i2), .val (.int i3), s4, s5, s6, .val (.int i7), s8, s9] [])) _
  refine XS.iloadN X0.here hx rfl (hb hby at_118) rfl ?_
  show Steps p.tables e below (T0.setTop (mkF m 119 #[.val (.int i0), .val (.int i1), .val (.int i2), .val (.int i3), s4, s5, s6, .val (.int i7), s8, s9] [(.int i1)])) _
  refine XS.istore X0.here hx rfl (hb hby at_119) rfl (l' := #[.val (.int i0), .val (.int i1), .val (.int i2), .val (.int i3), s4, s5, s6, .val (.int i7), s8, .val (.int i1)]) (os0_119 hs9) ?_
  show Steps p.tables e below (T0.setTop (mkF m 121 #[.val (.int i0), .val (.int i1), .val (.int i2), .val (.int i3), s4, s5, s6, .val (.int i7), s8, .val (.int i1)] [])) _
  refine XS.goto X0.here hx rfl (pc0 := 121) (pc' := 167) rfl (hb hby at_121) (by decide) (by decide) ?_
  exact kt
theorem os0_131 {z0 : Value} {z1 : Value} {z2 : Value} {z3 : Value} {s4 : Slot} {s5 : Slot} {s6 : Slot} {z7 : Value} {s8 : Slot} {s9 : Slot} {v : Int32} (h : One s9) : storeLocals #[.val z0, .val z1, .val z2, .val z3, s4, s5, s6, .val z7, s8, s9] 9 (.int v) = some #[.val z0, .val z1, .val z2, .val z3, s4, s5, s6, .val z7, s8, .val (.int v)] := by
  rcases h with rfl | ⟨w, rfl, hw⟩
  · rfl
  · cases w <;> first | rfl | (simp [Value.category] at hw)
set_option maxRecDepth 65536 in
set_option maxHeartbeats 40000000 in
theorem tn0_101_167_ttf {p : Program} {l : Launch} {e : Env} {R : Room} {s : State} {m : MethodId} {args : Array Value} {below : List Frame} {meth : Method} {c : Code} {T0 : State} {locs : List Loc} {cells slots : Nat} {Z : State} {a0 : Array Value} {h0 : Heap} (i0 : Int32) (i1 : Int32) (i2 : Int32) (i3 : Int32) (s4 : Slot) (s5 : Slot) (s6 : Slot) (i7 : Int32) (s8 : Slot) (s9 : Slot)
    (X0 : Stand p l e R s m args below meth c T0 locs cells slots) (hx : p.tables.exec = Jvm.exec) (hZ : Z.Warmed39 s.vm) (hw : ∀ d ∈ tables_1, d.before a0 Z = true) (hby : c.code = code) (hml : c.maxLocals = 10) (hown : s.vm.findClass "com/example/hearsay/hearsay/graph/IntListGetPinLaw" = some m.cls) (e0 : T0.heap = h0) (hs9 : One s9) (hc103 : ¬ (i7 = (0 : Int32))) (hc115 : ¬ (i7 = (1 : Int32))) (hc127 : i7 = (2 : Int32)) :
    ∃ (T' : State), Stand p l e R s m args below meth c T' locs cells slots ∧ T'.heap = h0 ∧
      ∀ target, Steps p.tables e below (T'.setTop (mkF m 167 #[.val (.int i0), .val (.int i1), .val (.int i2), .val (.int i3), s4, s5, s6, .val (.int i7), s8, .val (.int i2)] [])) target → Steps p.tables e below (T0.setTop (mkF m 101 #[.val (.int i0), .val (.int i1), .val (.int i2), .val (.int i3), s4, s5, s6, .val (.int i7), s8, s9] [])) target := by
  refine ⟨T0, X0, e0, fun target kt => ?_⟩
  show Steps p.tables e below (T0.setTop (mkF m 101 #[.val (.int i0), .val (.int i1), .val (.int i2), .val (.int i3), s4, s5, s6, .val (.int i7), s8, s9] [])) _
  refine XS.iload X0.here hx rfl (hb hby at_101) rfl ?_
  show Steps p.tables e below (T0.setTop (mkF m 103 #[.val (.int i0), .val (.int i1), .val (.int i2), .val (.int i3), s4, s5, s6, .val (.int i7), s8, s9] [(.int i7)])) _
  refine XS.ifYes X0.here hx rfl (pc0 := 103) (pc' := 112) rfl (hb hby at_103) rfl ((if0 _ _).trans (feq hc103).2) (by decide) (by decide) ?_
  show Steps p.tables e below (T0.setTop (mkF m 112 #[.val (.int i0), .val (.int i1), .val (.int i2), .val (.int i3), s4, s5, s6, .val (.int i7), s8, s9] [])) _
  refine XS.iload X0.here hx rfl (hb hby at_112) rfl ?_
  show Steps p.tables e below (T0.setTop (mkF m 114 #[.val (.int i0), .val (.int i1), .val (.int i2), .val (.int i3), s4, s5, s6, .val (.int i7), s8, s9] [(.int i7)])) _
  refine XS.iconst X0.here hx rfl (hb hby at_114) ?_
  show Steps p.tables e below (T0.setTop (mkF m 115 #[.val (.int i0), .val (.int i1), .val (.int i2), .val (.int i3), s4, s5, s6, .val (.int i7), s8, s9] [(.int (1 : Int32)), (.int i7)])) _
  refine XS.icmpYes X0.here hx rfl (pc0 := 115) (pc' := 124) rfl (hb hby at_115) rfl (feq hc115).2 (by decide) (by decide) ?_
  show Steps p.tables e below (T0.setTop (mkF m 124 #[.val (.int i0), .val (.int i1), .val (.int i2), .val (.int i3), s4, s5, s6, .val (.int i7), s8, s9] [])) _
  refine XS.iload X0.here hx rfl (hb hby at_124) rfl ?_
  show Steps p.tables e below (T0.setTop (mkF m 126 #[.val (.int i0), .val (.int i1), .val (.int i2), .val (.int i3), s4, s5, s6, .val (.int i7), s8, s9] [(.int i7)])) _
  refine XS.iconst X0.here hx rfl (hb hby at_126) ?_
  show Steps p.tables e below (T0.setTop (mkF m 127 #[.val (.int i0), .val (.int i1), .val (.int i2), .val (.int i3), s4, s5, s6, .val (.int i7), s8, s9] [(.int (2 : Int32)), (.int i7)])) _
  refine XS.icmpNo X0.here hx rfl (hb hby at_127) rfl (teq hc127).2 ?_
  show Steps p.tables e below (T0.setTop (mkF m 130 #[.val (.int i0), .val (.int i1), .val (.int i2), .val (.int i3), s4, s5, s6, .val (.int i7), s8, s9] [])) _
  refine XS.iloadN X0.here hx rfl (hb hby at_130) rfl ?_
  show Steps p.tables e below (T0.setTop (mkF m 131 #[.val (.int i0), .val (.int i1), .val (.int i2), .val (.int i3), s4, s5, s6, .val (.int i7), s8, s9] [(.int i2)])) _
  refine XS.istore X0.here hx rfl (hb hby at_131) rfl (l' := #[.val (.int i0), .val (.int i1), .val (.int i2), .val (.int i3), s4, s5, s6, .val (.int i7), s8, .val (.int i2)]) (os0_131 hs9) ?_
  show Steps p.tables e below (T0.setTop (mkF m 133 #[.val (.int i0), .val (.int i1), .val (.int i2), .val (.int i3), s4, s5, s6, .val (.int i7), s8, .val (.int i2)] [])) _
  refine XS.goto X0.here hx rfl (pc0 := 133) (pc' := 167) rfl (hb hby at_133) (by decide) (by decide) ?_
  exact kt
theorem os0_143 {z0 : Value} {z1 : Value} {z2 : Value} {z3 : Value} {s4 : Slot} {s5 : Slot} {s6 : Slot} {z7 : Value} {s8 : Slot} {s9 : Slot} {v : Int32} (h : One s9) : storeLocals #[.val z0, .val z1, .val z2, .val z3, s4, s5, s6, .val z7, s8, s9] 9 (.int v) = some #[.val z0, .val z1, .val z2, .val z3, s4, s5, s6, .val z7, s8, .val (.int v)] := by
  rcases h with rfl | ⟨w, rfl, hw⟩
  · rfl
  · cases w <;> first | rfl | (simp [Value.category] at hw)
set_option maxRecDepth 65536 in
set_option maxHeartbeats 40000000 in
theorem tn0_101_167_tttf {p : Program} {l : Launch} {e : Env} {R : Room} {s : State} {m : MethodId} {args : Array Value} {below : List Frame} {meth : Method} {c : Code} {T0 : State} {locs : List Loc} {cells slots : Nat} {Z : State} {a0 : Array Value} {h0 : Heap} (i0 : Int32) (i1 : Int32) (i2 : Int32) (i3 : Int32) (s4 : Slot) (s5 : Slot) (s6 : Slot) (i7 : Int32) (s8 : Slot) (s9 : Slot)
    (X0 : Stand p l e R s m args below meth c T0 locs cells slots) (hx : p.tables.exec = Jvm.exec) (hZ : Z.Warmed39 s.vm) (hw : ∀ d ∈ tables_1, d.before a0 Z = true) (hby : c.code = code) (hml : c.maxLocals = 10) (hown : s.vm.findClass "com/example/hearsay/hearsay/graph/IntListGetPinLaw" = some m.cls) (e0 : T0.heap = h0) (hs9 : One s9) (hc103 : ¬ (i7 = (0 : Int32))) (hc115 : ¬ (i7 = (1 : Int32))) (hc127 : ¬ (i7 = (2 : Int32))) (hc139 : i7 = (3 : Int32)) :
    ∃ (T' : State), Stand p l e R s m args below meth c T' locs cells slots ∧ T'.heap = h0 ∧
      ∀ target, Steps p.tables e below (T'.setTop (mkF m 167 #[.val (.int i0), .val (.int i1), .val (.int i2), .val (.int i3), s4, s5, s6, .val (.int i7), s8, .val (.int i3)] [])) target → Steps p.tables e below (T0.setTop (mkF m 101 #[.val (.int i0), .val (.int i1), .val (.int i2), .val (.int i3), s4, s5, s6, .val (.int i7), s8, s9] [])) target := by
  refine ⟨T0, X0, e0, fun target kt => ?_⟩
  show Steps p.tables e below (T0.setTop (mkF m 101 #[.val (.int i0), .val (.int i1), .val (.int i2), .val (.int i3), s4, s5, s6, .val (.int i7), s8, s9] [])) _
  refine XS.iload X0.here hx rfl (hb hby at_101) rfl ?_
  show Steps p.tables e below (T0.setTop (mkF m 103 #[.val (.int i0), .val (.int i1), .val (.int i2), .val (.int i3), s4, s5, s6, .val (.int i7), s8, s9] [(.int i7)])) _
  refine XS.ifYes X0.here hx rfl (pc0 := 103) (pc' := 112) rfl (hb hby at_103) rfl ((if0 _ _).trans (feq hc103).2) (by decide) (by decide) ?_
  show Steps p.tables e below (T0.setTop (mkF m 112 #[.val (.int i0), .val (.int i1), .val (.int i2), .val (.int i3), s4, s5, s6, .val (.int i7), s8, s9] [])) _
  refine XS.iload X0.here hx rfl (hb hby at_112) rfl ?_
  show Steps p.tables e below (T0.setTop (mkF m 114 #[.val (.int i0), .val (.int i1), .val (.int i2), .val (.int i3), s4, s5, s6, .val (.int i7), s8, s9] [(.int i7)])) _
  refine XS.iconst X0.here hx rfl (hb hby at_114) ?_
  show Steps p.tables e below (T0.setTop (mkF m 115 #[.val (.int i0), .val (.int i1), .val (.int i2), .val (.int i3), s4, s5, s6, .val (.int i7), s8, s9] [(.int (1 : Int32)), (.int i7)])) _
  refine XS.icmpYes X0.here hx rfl (pc0 := 115) (pc' := 124) rfl (hb hby at_115) rfl (feq hc115).2 (by decide) (by decide) ?_
  show Steps p.tables e below (T0.setTop (mkF m 124 #[.val (.int i0), .val (.int i1), .val (.int i2), .val (.int i3), s4, s5, s6, .val (.int i7), s8, s9] [])) _
  refine XS.iload X0.here hx rfl (hb hby at_124) rfl ?_
  show Steps p.tables e below (T0.setTop (mkF m 126 #[.val (.int i0), .val (.int i1), .val (.int i2), .val (.int i3), s4, s5, s6, .val (.int i7), s8, s9] [(.int i7)])) _
  refine XS.iconst X0.here hx rfl (hb hby at_126) ?_
  show Steps p.tables e below (T0.setTop (mkF m 127 #[.val (.int i0), .val (.int i1), .val (.int i2), .val (.int i3), s4, s5, s6, .val (.int i7), s8, s9] [(.int (2 : Int32)), (.int i7)])) _
  refine XS.icmpYes X0.here hx rfl (pc0 := 127) (pc' := 136) rfl (hb hby at_127) rfl (feq hc127).2 (by decide) (by decide) ?_
  show Steps p.tables e below (T0.setTop (mkF m 136 #[.val (.int i0), .val (.int i1), .val (.int i2), .val (.int i3), s4, s5, s6, .val (.int i7), s8, s9] [])) _
  refine XS.iload X0.here hx rfl (hb hby at_136) rfl ?_
  show Steps p.tables e below (T0.setTop (mkF m 138 #[.val (.int i0), .val (.int i1), .val (.int i2), .val (.int i3), s4, s5, s6, .val (.int i7), s8, s9] [(.int i7)])) _
  refine XS.iconst X0.here hx rfl (hb hby at_138) ?_
  show Steps p.tables e below (T0.setTop (mkF m 139 #[.val (.int i0), .val (.int i1), .val (.int i2), .val (.int i3), s4, s5, s6, .val (.int i7), s8, s9] [(.int (3 : Int32)), (.int i7)])) _
  refine XS.icmpNo X0.here hx rfl (hb hby at_139) rfl (teq hc139).2 ?_
  show Steps p.tables e below (T0.setTop (mkF m 142 #[.val (.int i0), .val (.int i1), .val (.int i2), .val (.int i3), s4, s5, s6, .val (.int i7), s8, s9] [])) _
  refine XS.iloadN X0.here hx rfl (hb hby at_142) rfl ?_
  show Steps p.tables e below (T0.setTop (mkF m 143 #[.val (.int i0), .val (.int i1), .val (.int i2), .val (.int i3), s4, s5, s6, .val (.int i7), s8, s9] [(.int i3)])) _
  refine XS.istore X0.here hx rfl (hb hby at_143) rfl (l' := #[.val (.int i0), .val (.int i1), .val (.int i2), .val (.int i3), s4, s5, s6, .val (.int i7), s8, .val (.int i3)]) (os0_143 hs9) ?_
  show Steps p.tables e below (T0.setTop (mkF m 145 #[.val (.int i0), .val (.int i1), .val (.int i2), .val (.int i3), s4, s5, s6, .val (.int i7), s8, .val (.int i3)] [])) _
  refine XS.goto X0.here hx rfl (pc0 := 145) (pc' := 167) rfl (hb hby at_145) (by decide) (by decide) ?_
  exact kt
theorem os0_157 {z0 : Value} {z1 : Value} {z2 : Value} {z3 : Value} {s4 : Slot} {s5 : Slot} {s6 : Slot} {z7 : Value} {s8 : Slot} {s9 : Slot} {v : Int32} (h : One s9) : storeLocals #[.val z0, .val z1, .val z2, .val z3, s4, s5, s6, .val z7, s8, s9] 9 (.int v) = some #[.val z0, .val z1, .val z2, .val z3, s4, s5, s6, .val z7, s8, .val (.int v)] := by
  rcases h with rfl | ⟨w, rfl, hw⟩
  · rfl
  · cases w <;> first | rfl | (simp [Value.category] at hw)
set_option maxRecDepth 65536 in
set_option maxHeartbeats 40000000 in
theorem tn0_101_167_ttttf {p : Program} {l : Launch} {e : Env} {R : Room} {s : State} {m : MethodId} {args : Array Value} {below : List Frame} {meth : Method} {c : Code} {T0 : State} {locs : List Loc} {cells slots : Nat} {Z : State} {a0 : Array Value} {h0 : Heap} (i0 : Int32) (i1 : Int32) (i2 : Int32) (i3 : Int32) (s4 : Slot) (s5 : Slot) (s6 : Slot) (i7 : Int32) (s8 : Slot) (s9 : Slot)
    (X0 : Stand p l e R s m args below meth c T0 locs cells slots) (hx : p.tables.exec = Jvm.exec) (hZ : Z.Warmed39 s.vm) (hw : ∀ d ∈ tables_1, d.before a0 Z = true) (hby : c.code = code) (hml : c.maxLocals = 10) (hown : s.vm.findClass "com/example/hearsay/hearsay/graph/IntListGetPinLaw" = some m.cls) (e0 : T0.heap = h0) (hs9 : One s9) (hc103 : ¬ (i7 = (0 : Int32))) (hc115 : ¬ (i7 = (1 : Int32))) (hc127 : ¬ (i7 = (2 : Int32))) (hc139 : ¬ (i7 = (3 : Int32))) (hc151 : i7 = (4 : Int32)) :
    ∃ (T' : State), Stand p l e R s m args below meth c T' locs cells slots ∧ T'.heap = h0 ∧
      ∀ target, Steps p.tables e below (T'.setTop (mkF m 167 #[.val (.int i0), .val (.int i1), .val (.int i2), .val (.int i3), s4, s5, s6, .val (.int i7), s8, .val (.int (i0 ^^^ (-1 : Int32)))] [])) target → Steps p.tables e below (T0.setTop (mkF m 101 #[.val (.int i0), .val (.int i1), .val (.int i2), .val (.int i3), s4, s5, s6, .val (.int i7), s8, s9] [])) target := by
  refine ⟨T0, X0, e0, fun target kt => ?_⟩
  show Steps p.tables e below (T0.setTop (mkF m 101 #[.val (.int i0), .val (.int i1), .val (.int i2), .val (.int i3), s4, s5, s6, .val (.int i7), s8, s9] [])) _
  refine XS.iload X0.here hx rfl (hb hby at_101) rfl ?_
  show Steps p.tables e below (T0.setTop (mkF m 103 #[.val (.int i0), .val (.int i1), .val (.int i2), .val (.int i3), s4, s5, s6, .val (.int i7), s8, s9] [(.int i7)])) _
  refine XS.ifYes X0.here hx rfl (pc0 := 103) (pc' := 112) rfl (hb hby at_103) rfl ((if0 _ _).trans (feq hc103).2) (by decide) (by decide) ?_
  show Steps p.tables e below (T0.setTop (mkF m 112 #[.val (.int i0), .val (.int i1), .val (.int i2), .val (.int i3), s4, s5, s6, .val (.int i7), s8, s9] [])) _
  refine XS.iload X0.here hx rfl (hb hby at_112) rfl ?_
  show Steps p.tables e below (T0.setTop (mkF m 114 #[.val (.int i0), .val (.int i1), .val (.int i2), .val (.int i3), s4, s5, s6, .val (.int i7), s8, s9] [(.int i7)])) _
  refine XS.iconst X0.here hx rfl (hb hby at_114) ?_
  show Steps p.tables e below (T0.setTop (mkF m 115 #[.val (.int i0), .val (.int i1), .val (.int i2), .val (.int i3), s4, s5, s6, .val (.int i7), s8, s9] [(.int (1 : Int32)), (.int i7)])) _
  refine XS.icmpYes X0.here hx rfl (pc0 := 115) (pc' := 124) rfl (hb hby at_115) rfl (feq hc115).2 (by decide) (by decide) ?_
  show Steps p.tables e below (T0.setTop (mkF m 124 #[.val (.int i0), .val (.int i1), .val (.int i2), .val (.int i3), s4, s5, s6, .val (.int i7), s8, s9] [])) _
  refine XS.iload X0.here hx rfl (hb hby at_124) rfl ?_
  show Steps p.tables e below (T0.setTop (mkF m 126 #[.val (.int i0), .val (.int i1), .val (.int i2), .val (.int i3), s4, s5, s6, .val (.int i7), s8, s9] [(.int i7)])) _
  refine XS.iconst X0.here hx rfl (hb hby at_126) ?_
  show Steps p.tables e below (T0.setTop (mkF m 127 #[.val (.int i0), .val (.int i1), .val (.int i2), .val (.int i3), s4, s5, s6, .val (.int i7), s8, s9] [(.int (2 : Int32)), (.int i7)])) _
  refine XS.icmpYes X0.here hx rfl (pc0 := 127) (pc' := 136) rfl (hb hby at_127) rfl (feq hc127).2 (by decide) (by decide) ?_
  show Steps p.tables e below (T0.setTop (mkF m 136 #[.val (.int i0), .val (.int i1), .val (.int i2), .val (.int i3), s4, s5, s6, .val (.int i7), s8, s9] [])) _
  refine XS.iload X0.here hx rfl (hb hby at_136) rfl ?_
  show Steps p.tables e below (T0.setTop (mkF m 138 #[.val (.int i0), .val (.int i1), .val (.int i2), .val (.int i3), s4, s5, s6, .val (.int i7), s8, s9] [(.int i7)])) _
  refine XS.iconst X0.here hx rfl (hb hby at_138) ?_
  show Steps p.tables e below (T0.setTop (mkF m 139 #[.val (.int i0), .val (.int i1), .val (.int i2), .val (.int i3), s4, s5, s6, .val (.int i7), s8, s9] [(.int (3 : Int32)), (.int i7)])) _
  refine XS.icmpYes X0.here hx rfl (pc0 := 139) (pc' := 148) rfl (hb hby at_139) rfl (feq hc139).2 (by decide) (by decide) ?_
  show Steps p.tables e below (T0.setTop (mkF m 148 #[.val (.int i0), .val (.int i1), .val (.int i2), .val (.int i3), s4, s5, s6, .val (.int i7), s8, s9] [])) _
  refine XS.iload X0.here hx rfl (hb hby at_148) rfl ?_
  show Steps p.tables e below (T0.setTop (mkF m 150 #[.val (.int i0), .val (.int i1), .val (.int i2), .val (.int i3), s4, s5, s6, .val (.int i7), s8, s9] [(.int i7)])) _
  refine XS.iconst X0.here hx rfl (hb hby at_150) ?_
  show Steps p.tables e below (T0.setTop (mkF m 151 #[.val (.int i0), .val (.int i1), .val (.int i2), .val (.int i3), s4, s5, s6, .val (.int i7), s8, s9] [(.int (4 : Int32)), (.int i7)])) _
  refine XS.icmpNo X0.here hx rfl (hb hby at_151) rfl (teq hc151).2 ?_
  show Steps p.tables e below (T0.setTop (mkF m 154 #[.val (.int i0), .val (.int i1), .val (.int i2), .val (.int i3), s4, s5, s6, .val (.int i7), s8, s9] [])) _
  refine XS.iloadN X0.here hx rfl (hb hby at_154) rfl ?_
  show Steps p.tables e below (T0.setTop (mkF m 155 #[.val (.int i0), .val (.int i1), .val (.int i2), .val (.int i3), s4, s5, s6, .val (.int i7), s8, s9] [(.int i0)])) _
  refine XS.iconst X0.here hx rfl (hb hby at_155) ?_
  show Steps p.tables e below (T0.setTop (mkF m 156 #[.val (.int i0), .val (.int i1), .val (.int i2), .val (.int i3), s4, s5, s6, .val (.int i7), s8, s9] [(.int (-1 : Int32)), (.int i0)])) _
  refine XS.ixor X0.here hx rfl (hb hby at_156) rfl ?_
  show Steps p.tables e below (T0.setTop (mkF m 157 #[.val (.int i0), .val (.int i1), .val (.int i2), .val (.int i3), s4, s5, s6, .val (.int i7), s8, s9] [(.int (i0 ^^^ (-1 : Int32)))])) _
  refine XS.istore X0.here hx rfl (hb hby at_157) rfl (l' := #[.val (.int i0), .val (.int i1), .val (.int i2), .val (.int i3), s4, s5, s6, .val (.int i7), s8, .val (.int (i0 ^^^ (-1 : Int32)))]) (os0_157 hs9) ?_
  show Steps p.tables e below (T0.setTop (mkF m 159 #[.val (.int i0), .val (.int i1), .val (.int i2), .val (.int i3), s4, s5, s6, .val (.int i7), s8, .val (.int (i0 ^^^ (-1 : Int32)))] [])) _
  refine XS.goto X0.here hx rfl (pc0 := 159) (pc' := 167) rfl (hb hby at_159) (by decide) (by decide) ?_
  exact kt
theorem os0_165 {z0 : Value} {z1 : Value} {z2 : Value} {z3 : Value} {s4 : Slot} {s5 : Slot} {s6 : Slot} {z7 : Value} {s8 : Slot} {s9 : Slot} {v : Int32} (h : One s9) : storeLocals #[.val z0, .val z1, .val z2, .val z3, s4, s5, s6, .val z7, s8, s9] 9 (.int v) = some #[.val z0, .val z1, .val z2, .val z3, s4, s5, s6, .val z7, s8, .val (.int v)] := by
  rcases h with rfl | ⟨w, rfl, hw⟩
  · rfl
  · cases w <;> first | rfl | (simp [Value.category] at hw)
set_option maxRecDepth 65536 in
set_option maxHeartbeats 40000000 in
theorem tn0_101_167_ttttt {p : Program} {l : Launch} {e : Env} {R : Room} {s : State} {m : MethodId} {args : Array Value} {below : List Frame} {meth : Method} {c : Code} {T0 : State} {locs : List Loc} {cells slots : Nat} {Z : State} {a0 : Array Value} {h0 : Heap} (i0 : Int32) (i1 : Int32) (i2 : Int32) (i3 : Int32) (s4 : Slot) (s5 : Slot) (s6 : Slot) (i7 : Int32) (s8 : Slot) (s9 : Slot)
    (X0 : Stand p l e R s m args below meth c T0 locs cells slots) (hx : p.tables.exec = Jvm.exec) (hZ : Z.Warmed39 s.vm) (hw : ∀ d ∈ tables_1, d.before a0 Z = true) (hby : c.code = code) (hml : c.maxLocals = 10) (hown : s.vm.findClass "com/example/hearsay/hearsay/graph/IntListGetPinLaw" = some m.cls) (e0 : T0.heap = h0) (hs9 : One s9) (hc103 : ¬ (i7 = (0 : Int32))) (hc115 : ¬ (i7 = (1 : Int32))) (hc127 : ¬ (i7 = (2 : Int32))) (hc139 : ¬ (i7 = (3 : Int32))) (hc151 : ¬ (i7 = (4 : Int32))) :
    ∃ (T' : State), Stand p l e R s m args below meth c T' locs cells slots ∧ T'.heap = h0 ∧
      ∀ target, Steps p.tables e below (T'.setTop (mkF m 167 #[.val (.int i0), .val (.int i1), .val (.int i2), .val (.int i3), s4, s5, s6, .val (.int i7), s8, .val (.int (i1 ^^^ (-1 : Int32)))] [])) target → Steps p.tables e below (T0.setTop (mkF m 101 #[.val (.int i0), .val (.int i1), .val (.int i2), .val (.int i3), s4, s5, s6, .val (.int i7), s8, s9] [])) target := by
  refine ⟨T0, X0, e0, fun target kt => ?_⟩
  show Steps p.tables e below (T0.setTop (mkF m 101 #[.val (.int i0), .val (.int i1), .val (.int i2), .val (.int i3), s4, s5, s6, .val (.int i7), s8, s9] [])) _
  refine XS.iload X0.here hx rfl (hb hby at_101) rfl ?_
  show Steps p.tables e below (T0.setTop (mkF m 103 #[.val (.int i0), .val (.int i1), .val (.int i2), .val (.int i3), s4, s5, s6, .val (.int i7), s8, s9] [(.int i7)])) _
  refine XS.ifYes X0.here hx rfl (pc0 := 103) (pc' := 112) rfl (hb hby at_103) rfl ((if0 _ _).trans (feq hc103).2) (by decide) (by decide) ?_
  show Steps p.tables e below (T0.setTop (mkF m 112 #[.val (.int i0), .val (.int i1), .val (.int i2), .val (.int i3), s4, s5, s6, .val (.int i7), s8, s9] [])) _
  refine XS.iload X0.here hx rfl (hb hby at_112) rfl ?_
  show Steps p.tables e below (T0.setTop (mkF m 114 #[.val (.int i0), .val (.int i1), .val (.int i2), .val (.int i3), s4, s5, s6, .val (.int i7), s8, s9] [(.int i7)])) _
  refine XS.iconst X0.here hx rfl (hb hby at_114) ?_
  show Steps p.tables e below (T0.setTop (mkF m 115 #[.val (.int i0), .val (.int i1), .val (.int i2), .val (.int i3), s4, s5, s6, .val (.int i7), s8, s9] [(.int (1 : Int32)), (.int i7)])) _
  refine XS.icmpYes X0.here hx rfl (pc0 := 115) (pc' := 124) rfl (hb hby at_115) rfl (feq hc115).2 (by decide) (by decide) ?_
  show Steps p.tables e below (T0.setTop (mkF m 124 #[.val (.int i0), .val (.int i1), .val (.int i2), .val (.int i3), s4, s5, s6, .val (.int i7), s8, s9] [])) _
  refine XS.iload X0.here hx rfl (hb hby at_124) rfl ?_
  show Steps p.tables e below (T0.setTop (mkF m 126 #[.val (.int i0), .val (.int i1), .val (.int i2), .val (.int i3), s4, s5, s6, .val (.int i7), s8, s9] [(.int i7)])) _
  refine XS.iconst X0.here hx rfl (hb hby at_126) ?_
  show Steps p.tables e below (T0.setTop (mkF m 127 #[.val (.int i0), .val (.int i1), .val (.int i2), .val (.int i3), s4, s5, s6, .val (.int i7), s8, s9] [(.int (2 : Int32)), (.int i7)])) _
  refine XS.icmpYes X0.here hx rfl (pc0 := 127) (pc' := 136) rfl (hb hby at_127) rfl (feq hc127).2 (by decide) (by decide) ?_
  show Steps p.tables e below (T0.setTop (mkF m 136 #[.val (.int i0), .val (.int i1), .val (.int i2), .val (.int i3), s4, s5, s6, .val (.int i7), s8, s9] [])) _
  refine XS.iload X0.here hx rfl (hb hby at_136) rfl ?_
  show Steps p.tables e below (T0.setTop (mkF m 138 #[.val (.int i0), .val (.int i1), .val (.int i2), .val (.int i3), s4, s5, s6, .val (.int i7), s8, s9] [(.int i7)])) _
  refine XS.iconst X0.here hx rfl (hb hby at_138) ?_
  show Steps p.tables e below (T0.setTop (mkF m 139 #[.val (.int i0), .val (.int i1), .val (.int i2), .val (.int i3), s4, s5, s6, .val (.int i7), s8, s9] [(.int (3 : Int32)), (.int i7)])) _
  refine XS.icmpYes X0.here hx rfl (pc0 := 139) (pc' := 148) rfl (hb hby at_139) rfl (feq hc139).2 (by decide) (by decide) ?_
  show Steps p.tables e below (T0.setTop (mkF m 148 #[.val (.int i0), .val (.int i1), .val (.int i2), .val (.int i3), s4, s5, s6, .val (.int i7), s8, s9] [])) _
  refine XS.iload X0.here hx rfl (hb hby at_148) rfl ?_
  show Steps p.tables e below (T0.setTop (mkF m 150 #[.val (.int i0), .val (.int i1), .val (.int i2), .val (.int i3), s4, s5, s6, .val (.int i7), s8, s9] [(.int i7)])) _
  refine XS.iconst X0.here hx rfl (hb hby at_150) ?_
  show Steps p.tables e below (T0.setTop (mkF m 151 #[.val (.int i0), .val (.int i1), .val (.int i2), .val (.int i3), s4, s5, s6, .val (.int i7), s8, s9] [(.int (4 : Int32)), (.int i7)])) _
  refine XS.icmpYes X0.here hx rfl (pc0 := 151) (pc' := 162) rfl (hb hby at_151) rfl (feq hc151).2 (by decide) (by decide) ?_
  show Steps p.tables e below (T0.setTop (mkF m 162 #[.val (.int i0), .val (.int i1), .val (.int i2), .val (.int i3), s4, s5, s6, .val (.int i7), s8, s9] [])) _
  refine XS.iloadN X0.here hx rfl (hb hby at_162) rfl ?_
  show Steps p.tables e below (T0.setTop (mkF m 163 #[.val (.int i0), .val (.int i1), .val (.int i2), .val (.int i3), s4, s5, s6, .val (.int i7), s8, s9] [(.int i1)])) _
  refine XS.iconst X0.here hx rfl (hb hby at_163) ?_
  show Steps p.tables e below (T0.setTop (mkF m 164 #[.val (.int i0), .val (.int i1), .val (.int i2), .val (.int i3), s4, s5, s6, .val (.int i7), s8, s9] [(.int (-1 : Int32)), (.int i1)])) _
  refine XS.ixor X0.here hx rfl (hb hby at_164) rfl ?_
  show Steps p.tables e below (T0.setTop (mkF m 165 #[.val (.int i0), .val (.int i1), .val (.int i2), .val (.int i3), s4, s5, s6, .val (.int i7), s8, s9] [(.int (i1 ^^^ (-1 : Int32)))])) _
  refine XS.istore X0.here hx rfl (hb hby at_165) rfl (l' := #[.val (.int i0), .val (.int i1), .val (.int i2), .val (.int i3), s4, s5, s6, .val (.int i7), s8, .val (.int (i1 ^^^ (-1 : Int32)))]) (os0_165 hs9) ?_
  exact kt
theorem own_exp (ex : Int32) {p : Program} {l : Launch} {e : Env} {R : Room} {s : State} {m : MethodId} {args : Array Value} {below : List Frame} {meth : Method} {c : Code} {T0 : State} {locs : List Loc} {cells slots : Nat} {Z : State} {a0 : Array Value} {h0 : Heap} (i0 : Int32) (i1 : Int32) (i2 : Int32) (i3 : Int32) (s4 : Slot) (s5 : Slot) (s6 : Slot) (i7 : Int32) (s8 : Slot) (s9 : Slot)
    (X0 : Stand p l e R s m args below meth c T0 locs cells slots) (hx : p.tables.exec = Jvm.exec) (hZ : Z.Warmed39 s.vm) (hw : ∀ d ∈ tables_1, d.before a0 Z = true) (hby : c.code = code) (hml : c.maxLocals = 10) (hown : s.vm.findClass "com/example/hearsay/hearsay/graph/IntListGetPinLaw" = some m.cls) (e0 : T0.heap = h0) (hs9 : One s9) (hE : (i7 = (0 : Int32) ∧ ex = i0) ∨ (¬ (i7 = (0 : Int32)) ∧ i7 = (1 : Int32) ∧ ex = i1) ∨ (¬ (i7 = (0 : Int32)) ∧ ¬ (i7 = (1 : Int32)) ∧ i7 = (2 : Int32) ∧ ex = i2) ∨ (¬ (i7 = (0 : Int32)) ∧ ¬ (i7 = (1 : Int32)) ∧ ¬ (i7 = (2 : Int32)) ∧ i7 = (3 : Int32) ∧ ex = i3) ∨ (¬ (i7 = (0 : Int32)) ∧ ¬ (i7 = (1 : Int32)) ∧ ¬ (i7 = (2 : Int32)) ∧ ¬ (i7 = (3 : Int32)) ∧ i7 = (4 : Int32) ∧ ex = (i0 ^^^ (-1 : Int32))) ∨ (¬ (i7 = (0 : Int32)) ∧ ¬ (i7 = (1 : Int32)) ∧ ¬ (i7 = (2 : Int32)) ∧ ¬ (i7 = (3 : Int32)) ∧ ¬ (i7 = (4 : Int32)) ∧ ex = (i1 ^^^ (-1 : Int32)))) :
    ∃ (T' : State), Stand p l e R s m args below meth c T' locs cells slots ∧ T'.heap = h0 ∧
      ∀ target, Steps p.tables e below (T'.setTop (mkF m 167 #[.val (.int i0), .val (.int i1), .val (.int i2), .val (.int i3), s4, s5, s6, .val (.int i7), s8, .val (.int ex)] [])) target → Steps p.tables e below (T0.setTop (mkF m 101 #[.val (.int i0), .val (.int i1), .val (.int i2), .val (.int i3), s4, s5, s6, .val (.int i7), s8, s9] [])) target := by
  rcases hE with ⟨c0, hr⟩ | ⟨c0, c1, hr⟩ | ⟨c0, c1, c2, hr⟩ | ⟨c0, c1, c2, c3, hr⟩ | ⟨c0, c1, c2, c3, c4, hr⟩ | ⟨c0, c1, c2, c3, c4, hr⟩
  · rw [hr]; exact tn0_101_167_f i0 i1 i2 i3 s4 s5 s6 i7 s8 s9 X0 hx hZ hw hby hml hown e0 hs9 c0
  · rw [hr]; exact tn0_101_167_tf i0 i1 i2 i3 s4 s5 s6 i7 s8 s9 X0 hx hZ hw hby hml hown e0 hs9 c0 c1
  · rw [hr]; exact tn0_101_167_ttf i0 i1 i2 i3 s4 s5 s6 i7 s8 s9 X0 hx hZ hw hby hml hown e0 hs9 c0 c1 c2
  · rw [hr]; exact tn0_101_167_tttf i0 i1 i2 i3 s4 s5 s6 i7 s8 s9 X0 hx hZ hw hby hml hown e0 hs9 c0 c1 c2 c3
  · rw [hr]; exact tn0_101_167_ttttf i0 i1 i2 i3 s4 s5 s6 i7 s8 s9 X0 hx hZ hw hby hml hown e0 hs9 c0 c1 c2 c3 c4
  · rw [hr]; exact tn0_101_167_ttttt i0 i1 i2 i3 s4 s5 s6 i7 s8 s9 X0 hx hZ hw hby hml hown e0 hs9 c0 c1 c2 c3 c4
theorem own_u (c0 : Addr) {j : Int32} (hj : j = (0 : Int32)) : ([.ref c0] : List Value).getD j.toNatClampNeg (.null : Value) = .ref c0 := by subst hj; rfl
def Qlaw0 (n0 : Nat) (v : Option Value) (h : Heap) (L : List Loc) : Prop := v = some (.int 1) ∧ Fr n0 L
theorem pn_0 : plainName "com/example/hearsay/hearsay/graph/IntListGetPinLaw" = true := by first | (simp [plainName, overriddenIn]; done) | decide +kernel
theorem pd_0_0 : parseMethodDescriptor "()V" = some ⟨[], none⟩ := by decide +kernel
theorem pd_0_1 : parseMethodDescriptor "(I)V" = some ⟨[.int], none⟩ := by decide +kernel
theorem pd_0_2 : parseMethodDescriptor "(I)I" = some ⟨[.int], some .int⟩ := by decide +kernel
theorem ef_0 (m : MethodId) (x0 : Int32) (x1 : Int32) (x2 : Int32) (x3 : Int32) (x4 : Int32) (x5 : Int32) : entryFrame m #[(.int x0), (.int x1), (.int x2), (.int x3), (.int x4), (.int x5)] maxLocals = mkF m 0 #[.val (.int x0), .val (.int x1), .val (.int x2), .val (.int x3), .val (.int x4), .val (.int x5), .unset, .unset, .unset, .unset] [] := by first | (simp [entryFrame, mkF, argsToLocals, Value.category, maxLocals]; done) | rfl
set_option maxRecDepth 65536 in
set_option maxHeartbeats 40000000 in
theorem rm0_1 (l : Launch) (Z : State) (a0 : Array Value) (hw : ∀ d ∈ tables_1, d.before a0 Z = true) (ws : List Jvm.Cond) (p1 : Int32) (p2 : Int32) (p3 : Int32) (p4 : Int32) (p5 : Int32) (p6 : Int32) (ex : Int32) (h0 : Heap) (n0 : Nat) (Z0 : n0 ≤ h0.size) (hE : (((p6 &&& (2147483647 : Int32)) % ((1 : Int32) + ((p5 &&& (2147483647 : Int32)) % (6 : Int32)))) = (0 : Int32) ∧ ex = p1) ∨ (¬ (((p6 &&& (2147483647 : Int32)) % ((1 : Int32) + ((p5 &&& (2147483647 : Int32)) % (6 : Int32)))) = (0 : Int32)) ∧ ((p6 &&& (2147483647 : Int32)) % ((1 : Int32) + ((p5 &&& (2147483647 : Int32)) % (6 : Int32)))) = (1 : Int32) ∧ ex = p2) ∨ (¬ (((p6 &&& (2147483647 : Int32)) % ((1 : Int32) + ((p5 &&& (2147483647 : Int32)) % (6 : Int32)))) = (0 : Int32)) ∧ ¬ (((p6 &&& (2147483647 : Int32)) % ((1 : Int32) + ((p5 &&& (2147483647 : Int32)) % (6 : Int32)))) = (1 : Int32)) ∧ ((p6 &&& (2147483647 : Int32)) % ((1 : Int32) + ((p5 &&& (2147483647 : Int32)) % (6 : Int32)))) = (2 : Int32) ∧ ex = p3) ∨ (¬ (((p6 &&& (2147483647 : Int32)) % ((1 : Int32) + ((p5 &&& (2147483647 : Int32)) % (6 : Int32)))) = (0 : Int32)) ∧ ¬ (((p6 &&& (2147483647 : Int32)) % ((1 : Int32) + ((p5 &&& (2147483647 : Int32)) % (6 : Int32)))) = (1 : Int32)) ∧ ¬ (((p6 &&& (2147483647 : Int32)) % ((1 : Int32) + ((p5 &&& (2147483647 : Int32)) % (6 : Int32)))) = (2 : Int32)) ∧ ((p6 &&& (2147483647 : Int32)) % ((1 : Int32) + ((p5 &&& (2147483647 : Int32)) % (6 : Int32)))) = (3 : Int32) ∧ ex = p4) ∨ (¬ (((p6 &&& (2147483647 : Int32)) % ((1 : Int32) + ((p5 &&& (2147483647 : Int32)) % (6 : Int32)))) = (0 : Int32)) ∧ ¬ (((p6 &&& (2147483647 : Int32)) % ((1 : Int32) + ((p5 &&& (2147483647 : Int32)) % (6 : Int32)))) = (1 : Int32)) ∧ ¬ (((p6 &&& (2147483647 : Int32)) % ((1 : Int32) + ((p5 &&& (2147483647 : Int32)) % (6 : Int32)))) = (2 : Int32)) ∧ ¬ (((p6 &&& (2147483647 : Int32)) % ((1 : Int32) + ((p5 &&& (2147483647 : Int32)) % (6 : Int32)))) = (3 : Int32)) ∧ ((p6 &&& (2147483647 : Int32)) % ((1 : Int32) + ((p5 &&& (2147483647 : Int32)) % (6 : Int32)))) = (4 : Int32) ∧ ex = (p1 ^^^ (-1 : Int32))) ∨ (¬ (((p6 &&& (2147483647 : Int32)) % ((1 : Int32) + ((p5 &&& (2147483647 : Int32)) % (6 : Int32)))) = (0 : Int32)) ∧ ¬ (((p6 &&& (2147483647 : Int32)) % ((1 : Int32) + ((p5 &&& (2147483647 : Int32)) % (6 : Int32)))) = (1 : Int32)) ∧ ¬ (((p6 &&& (2147483647 : Int32)) % ((1 : Int32) + ((p5 &&& (2147483647 : Int32)) % (6 : Int32)))) = (2 : Int32)) ∧ ¬ (((p6 &&& (2147483647 : Int32)) % ((1 : Int32) + ((p5 &&& (2147483647 : Int32)) % (6 : Int32)))) = (3 : Int32)) ∧ ¬ (((p6 &&& (2147483647 : Int32)) % ((1 : Int32) + ((p5 &&& (2147483647 : Int32)) % (6 : Int32)))) = (4 : Int32)) ∧ ex = (p2 ^^^ (-1 : Int32)))) (hr8 : ¬ ((((p6 &&& (2147483647 : Int32)) % ((1 : Int32) + ((p5 &&& (2147483647 : Int32)) % (6 : Int32)))).toUInt32 >>> ((16 : Int32) &&& 31).toUInt32).toInt32) < 0 ∧ ((((p6 &&& (2147483647 : Int32)) % ((1 : Int32) + ((p5 &&& (2147483647 : Int32)) % (6 : Int32)))).toUInt32 >>> ((16 : Int32) &&& 31).toUInt32).toInt32) < (1 : Int32)) (hk0 : ((((p6 &&& (2147483647 : Int32)) % ((1 : Int32) + ((p5 &&& (2147483647 : Int32)) % (6 : Int32)))).toUInt32 >>> ((16 : Int32) &&& 31).toUInt32).toInt32) = (0 : Int32)) (hr13 : ¬ (((p6 &&& (2147483647 : Int32)) % ((1 : Int32) + ((p5 &&& (2147483647 : Int32)) % (6 : Int32)))) &&& (65535 : Int32)) < 0 ∧ (((p6 &&& (2147483647 : Int32)) % ((1 : Int32) + ((p5 &&& (2147483647 : Int32)) % (6 : Int32)))) &&& (65535 : Int32)) < (16 : Int32)) (u13 : ((own_z.set 0 (.int p1)) : List Value).getD (((p6 &&& (2147483647 : Int32)) % ((1 : Int32) + ((p5 &&& (2147483647 : Int32)) % (6 : Int32)))) &&& (65535 : Int32)).toNatClampNeg ((.int (0 : Int32)) : Value) = (.int ex)) (hnz19 : ¬ (((1 : Int32) + ((p5 &&& (2147483647 : Int32)) % (6 : Int32))) = (0 : Int32))) (hc40 : ¬ ((1 : Int32) < ((1 : Int32) + ((p5 &&& (2147483647 : Int32)) % (6 : Int32))))) (hc52 : ¬ ((2 : Int32) < ((1 : Int32) + ((p5 &&& (2147483647 : Int32)) % (6 : Int32))))) (hc64 : ¬ ((3 : Int32) < ((1 : Int32) + ((p5 &&& (2147483647 : Int32)) % (6 : Int32))))) (hc76 : ¬ ((4 : Int32) < ((1 : Int32) + ((p5 &&& (2147483647 : Int32)) % (6 : Int32))))) (hc90 : ¬ ((5 : Int32) < ((1 : Int32) + ((p5 &&& (2147483647 : Int32)) % (6 : Int32))))) :
    MetFree l x (head1 (Jvm.Cond.code x code maxLocals ret :: ws) room_1) (fun a U => a = #[(.int p1), (.int p2), (.int p3), (.int p4), (.int p5), (.int p6)] ∧ Z.Warmed39 U.vm ∧ U.heap = h0) (fun _ _ _ _ _ => True) (fun _ U o U' => ∃ v L, o = .returned v ∧ Qlaw0 n0 v U'.heap L ∧ FrameEnd U o U' L room_1.cells room_1.slots) := by
  refine MetFree.of_bodySF (plainFor_of_name pn_0) hisR ?_
  intro p e s m args below meth c s₁ Bd hml0 hP hK
  obtain ⟨rfl, hZ, hh⟩ := hP
  have hx := Bd.exec
  have hby := Bd.bytes
  have hml : c.maxLocals = 10 := hml0
  have hown : s.vm.findClass "com/example/hearsay/hearsay/graph/IntListGetPinLaw" = some m.cls := findClass_of_methodNamed Bd.named
  have hnm := (name_of_methodNamed Bd.named Bd.method).1
  have X0 : Stand p l e room_1 s m #[(.int p1), (.int p2), (.int p3), (.int p4), (.int p5), (.int p6)] below meth c s₁ [] 0 0 := Stand.of_body Bd
  have e0 : s₁.heap = h0 := by rw [← hh, Bd.state]; rfl
  have N0 := Fr.nil n0
  have pre0 : ∀ t, Steps p.tables e below (s₁.setTop (mkF m 0 #[.val (.int p1), .val (.int p2), .val (.int p3), .val (.int p4), .val (.int p5), .val (.int p6), .unset, .unset, .unset, .unset] [])) t → Steps p.tables e below (s₁.setTop (entryFrame m #[(.int p1), (.int p2), (.int p3), (.int p4), (.int p5), (.int p6)] maxLocals)) t := fun t k => castTop (ef_0 m p1 p2 p3 p4 p5 p6) k
  obtain ⟨T7, h7, X7, e7, E7, A7, D7, -, st7⟩ := newO X0 hx hZ hown (hw _ (List.mem_of_getElem? (i := 1) rfl)) (hw _ (List.mem_of_getElem? (i := 2) rfl)) (hw _ (List.mem_of_getElem? (i := 3) rfl)) e0 (g := (mkF m 22 #[.val (.int p1), .val (.int p2), .val (.int p3), .val (.int p4), .val (.int p5), .val (.int p6), .val (.int ((1 : Int32) + ((p5 &&& (2147483647 : Int32)) % (6 : Int32)))), .val (.int ((p6 &&& (2147483647 : Int32)) % ((1 : Int32) + ((p5 &&& (2147483647 : Int32)) % (6 : Int32))))), .unset, .unset] [])) rfl (hb hby at_22) (by decide) (by decide)
  obtain ⟨b7, g7⟩ : ∃ z, z = h0.size := ⟨_, rfl⟩
  rw [← g7] at A7 D7 st7
  have F_chunks_b7 : Fld Z h7 b7 "com/example/hearsay/hearsay/graph/IntList" "chunks" "[[I" .null := D7 (Or.inl (hw _ (List.mem_of_getElem? (i := 15) rfl))) (ty := (.array (.array .int))) (by decide)
  have F_size_b7 : Fld Z h7 b7 "com/example/hearsay/hearsay/graph/IntList" "size" "I" (.int (0 : Int32)) := D7 (Or.inl (hw _ (List.mem_of_getElem? (i := 22) rfl))) (ty := .int) (by decide)
  have E_b7 := A7
  have g_b7 : n0 ≤ b7 := Nat.le_trans Z0 (Nat.le_of_eq g7.symm)
  have sz_b7 : h0.size ≤ b7 := (Nat.le_trans (Keep.refl h0 []).1 (Nat.le_of_eq g7.symm))
  have K7 : Keep h0 h7 [] := (Keep.refl h0 []).ext E7
  obtain ⟨_, _, ⟨T8, L8, k8, n8⟩, -, X8, ⟨Lc8, hQ8, l8, y8, z8⟩, st8⟩ := X7.specialBack hx (y := (⟨"com/example/hearsay/hearsay/graph/IntList", "<init>", "()V"⟩ : MethodName)) rfl hown (mvT hZ (hw _ (List.mem_of_getElem? (i := 4) rfl))) (mvT hZ (hw _ (List.mem_of_getElem? (i := 5) rfl))) (mvT hZ (hw _ (List.mem_of_getElem? (i := 6) rfl))) (by decide) (backOf (W := 1) (rm1 l Z a0 hw [] b7 .null h7 n0 (Nat.le_trans Z0 E7.1) F_size_b7 E_b7 F_chunks_b7 g_b7) hZ (hw _ (List.mem_of_getElem? (i := 6) rfl)) (hw _ (List.mem_of_getElem? (i := 3) rfl)) (by decide) (by decide)) (g := (mkF m 26 #[.val (.int p1), .val (.int p2), .val (.int p3), .val (.int p4), .val (.int p5), .val (.int p6), .val (.int ((1 : Int32) + ((p5 &&& (2147483647 : Int32)) % (6 : Int32)))), .val (.int ((p6 &&& (2147483647 : Int32)) % ((1 : Int32) + ((p5 &&& (2147483647 : Int32)) % (6 : Int32))))), .unset, .unset] [(.ref b7), (.ref b7)])) rfl (by rw [hml]; rfl) (Steps.refl _) (a := b7) (argsL := []) (rest := [(.ref b7)]) (lenOf pd_0_0 rfl) rfl (by show 2 * 0 + _ ≤ _; exact Nat.le_of_eq rfl) (hb hby at_26) (fun _ _ => ⟨rfl, e7, (by decide : 1 + 2 ≤ _), (by decide : 2 + 17 ≤ _)⟩)
  dsimp only [Pt.U, Pt.locs, Pt.cells, Pt.slots] at X8 l8 y8 z8 st8 hQ8
  subst l8 y8 z8
  obtain ⟨rfl, N8q, K8q, ch, c0, kA, kI, gch, gc0, ne3, E8q, Fc8q, Fs8q, Vh8q, Vd8q⟩ := hQ8
  have N8 := Fr.app N0 N8q
  have KK8 : Keep h0 T8.heap [] := K7.trans K8q (allS (Or.inr sz_b7) all0)
  have sz_ch : h0.size ≤ ch := Nat.le_trans K7.1 gch
  have sz_c0 : h0.size ≤ c0 := Nat.le_trans K7.1 gc0
  have g_ch : n0 ≤ ch := Nat.le_trans Z0 sz_ch
  have g_c0 : n0 ≤ c0 := Nat.le_trans Z0 sz_c0
  have ne1 : b7 ≠ ch := Nat.ne_of_lt (Nat.lt_of_lt_of_le E_b7.lt gch)
  have ne2 : b7 ≠ c0 := Nat.ne_of_lt (Nat.lt_of_lt_of_le E_b7.lt gc0)
  obtain ⟨cq9, kq9, q9a, q9b, q9c⟩ := isOf hZ rfl E8q
  obtain ⟨_, _, ⟨T9, L9, k9, n9⟩, -, X9, ⟨Lc9, hQ9, l9, y9, z9⟩, st9⟩ := X8.virtualBack hx (y := (⟨"com/example/hearsay/hearsay/graph/IntList", "add", "(I)V"⟩ : MethodName)) (z := (⟨"com/example/hearsay/hearsay/graph/IntList", "add", "(I)V"⟩ : MethodName)) hown (mvT hZ (hw _ (List.mem_of_getElem? (i := 16) rfl))) (mvT hZ (hw _ (List.mem_of_getElem? (i := 17) rfl))) (notFace_of_selects (args := #[]) (mvT hZ (hw _ (List.mem_of_getElem? (i := 19) rfl)))) (mvT hZ (hw _ (List.mem_of_getElem? (i := 19) rfl))) (mvT hZ (hw _ (List.mem_of_getElem? (i := 18) rfl))) (by decide) (backOf (W := 0) (rm3 l Z a0 hw [] b7 p1 ch c0 kA kI (0 : Int32) own_z 0 T8.heap n0 (Nat.le_trans (Nat.le_trans Z0 E7.1) K8q.1) ne1 ne2 ne3 Vh8q Vd8q Fs8q Fc8q (by decide) (own_u c0 (by decide)) (by decide) rfl (by decide) (own_u c0 (by decide)) (by decide) (by decide) (Nat.le_of_ble_eq_true rfl) g_c0 E8q g_b7 (by decide) (by decide) (by decide)) hZ (hw _ (List.mem_of_getElem? (i := 20) rfl)) (hw _ (List.mem_of_getElem? (i := 3) rfl)) (by decide) (by decide)) q9a q9c (g := (mkF m 34 #[.val (.int p1), .val (.int p2), .val (.int p3), .val (.int p4), .val (.int p5), .val (.int p6), .val (.int ((1 : Int32) + ((p5 &&& (2147483647 : Int32)) % (6 : Int32)))), .val (.int ((p6 &&& (2147483647 : Int32)) % ((1 : Int32) + ((p5 &&& (2147483647 : Int32)) % (6 : Int32))))), .val (.ref b7), .unset] [(.int p1), (.ref b7)])) rfl (by rw [hml]; rfl) (Steps.refl _) (argsL := [(.int p1)]) (rest := []) (lenOf pd_0_1 rfl) rfl (by show 2 * 0 + _ ≤ _; exact Nat.le_of_eq rfl) (hb hby at_34) (fun _ _ => ⟨rfl, rfl, (by decide : 3 + 0 ≤ _), (by decide : 19 + 0 ≤ _)⟩)
  dsimp only [Pt.U, Pt.locs, Pt.cells, Pt.slots] at X9 l9 y9 z9 st9 hQ9
  subst l9 y9 z9
  obtain ⟨rfl, N9q, K9q, E9q, Fc9q, Fs9q, Vh9q, Vd9q⟩ := hQ9
  have N9 := Fr.app N8 N9q
  have KK9 : Keep h0 T9.heap [] := KK8.trans K9q (allS (Or.inr sz_c0) (allS (Or.inr sz_b7) all0))
  obtain ⟨T10, X10, e10, st10⟩ := own_exp ex p1 p2 p3 p4 (.val (.int p5)) (.val (.int p6)) (.val (.int ((1 : Int32) + ((p5 &&& (2147483647 : Int32)) % (6 : Int32))))) ((p6 &&& (2147483647 : Int32)) % ((1 : Int32) + ((p5 &&& (2147483647 : Int32)) % (6 : Int32)))) (.val (.ref b7)) .unset X9 hx hZ hw hby hml hown rfl One.u hE
  obtain ⟨cq11, kq11, q11a, q11b, q11c⟩ := isOf hZ e10 E9q
  obtain ⟨_, _, ⟨T11, L11, k11, n11⟩, -, X11, ⟨Lc11, hQ11, l11, y11, z11⟩, st11⟩ := X10.virtualBack hx (y := (⟨"com/example/hearsay/hearsay/graph/IntList", "get", "(I)I"⟩ : MethodName)) (z := (⟨"com/example/hearsay/hearsay/graph/IntList", "get", "(I)I"⟩ : MethodName)) hown (mvT hZ (hw _ (List.mem_of_getElem? (i := 24) rfl))) (mvT hZ (hw _ (List.mem_of_getElem? (i := 25) rfl))) (notFace_of_selects (args := #[]) (mvT hZ (hw _ (List.mem_of_getElem? (i := 27) rfl)))) (mvT hZ (hw _ (List.mem_of_getElem? (i := 27) rfl))) (mvT hZ (hw _ (List.mem_of_getElem? (i := 26) rfl))) (by decide) (backOf (W := 0) (rm4 l Z a0 hw [] b7 ((p6 &&& (2147483647 : Int32)) % ((1 : Int32) + ((p5 &&& (2147483647 : Int32)) % (6 : Int32)))) ch c0 kA kI (own_z.set 0 (.int p1)) ex T9.heap n0 (Nat.le_trans (Nat.le_trans (Nat.le_trans Z0 E7.1) K8q.1) K9q.1) Vh9q Vd9q Fc9q hr8 (own_u c0 hk0) hr13 u13) hZ (hw _ (List.mem_of_getElem? (i := 28) rfl)) (hw _ (List.mem_of_getElem? (i := 3) rfl)) (by decide) (by decide)) q11a q11c (g := (mkF m 171 #[.val (.int p1), .val (.int p2), .val (.int p3), .val (.int p4), .val (.int p5), .val (.int p6), .val (.int ((1 : Int32) + ((p5 &&& (2147483647 : Int32)) % (6 : Int32)))), .val (.int ((p6 &&& (2147483647 : Int32)) % ((1 : Int32) + ((p5 &&& (2147483647 : Int32)) % (6 : Int32))))), .val (.ref b7), .val (.int ex)] [(.int ((p6 &&& (2147483647 : Int32)) % ((1 : Int32) + ((p5 &&& (2147483647 : Int32)) % (6 : Int32))))), (.ref b7)])) rfl (by rw [hml]; rfl) (Steps.refl _) (argsL := [(.int ((p6 &&& (2147483647 : Int32)) % ((1 : Int32) + ((p5 &&& (2147483647 : Int32)) % (6 : Int32)))))]) (rest := []) (lenOf pd_0_2 rfl) rfl (by show 2 * 0 + _ ≤ _; exact Nat.le_of_eq rfl) (hb hby at_171) (fun _ _ => ⟨rfl, e10, (by decide : 3 + 0 ≤ _), (by decide : 19 + 0 ≤ _)⟩)
  dsimp only [Pt.U, Pt.locs, Pt.cells, Pt.slots] at X11 l11 y11 z11 st11 hQ11
  subst l11 y11 z11
  obtain ⟨rfl, N11q, e11q⟩ := hQ11
  have N11 := Fr.app N9 N11q
  obtain ⟨fs, hr, hrun, hended, hW, hsame⟩ := X11.leave (v := some (.int (1 : Int32))) (fun h => by rw [Bd.returns] at h; cases h)
  refine ⟨_, _, pre0 _ ?_, hrun, hended, _, _, rfl, ?_, ⟨_, rfl⟩, hW, hsame.mono (by decide) (by decide)⟩
  · show Steps p.tables e below (s₁.setTop (mkF m 0 #[.val (.int p1), .val (.int p2), .val (.int p3), .val (.int p4), .val (.int p5), .val (.int p6), .unset, .unset, .unset, .unset] [])) _
    refine XS.iconst X0.here hx rfl (hb hby at_0) ?_
    show Steps p.tables e below (s₁.setTop (mkF m 1 #[.val (.int p1), .val (.int p2), .val (.int p3), .val (.int p4), .val (.int p5), .val (.int p6), .unset, .unset, .unset, .unset] [(.int (1 : Int32))])) _
    refine XS.iload X0.here hx rfl (hb hby at_1) rfl ?_
    show Steps p.tables e below (s₁.setTop (mkF m 3 #[.val (.int p1), .val (.int p2), .val (.int p3), .val (.int p4), .val (.int p5), .val (.int p6), .unset, .unset, .unset, .unset] [(.int p5), (.int (1 : Int32))])) _
    refine X0.ldcInt hx hown (mvT hZ (hw _ (List.mem_of_getElem? (i := 0) rfl))) (g := (mkF m 3 #[.val (.int p1), .val (.int p2), .val (.int p3), .val (.int p4), .val (.int p5), .val (.int p6), .unset, .unset, .unset, .unset] [(.int p5), (.int (1 : Int32))])) rfl (hb hby at_3) _ ?_
    show Steps p.tables e below (s₁.setTop (mkF m 5 #[.val (.int p1), .val (.int p2), .val (.int p3), .val (.int p4), .val (.int p5), .val (.int p6), .unset, .unset, .unset, .unset] [(.int (2147483647 : Int32)), (.int p5), (.int (1 : Int32))])) _
    refine XS.iand X0.here hx rfl (hb hby at_5) rfl ?_
    show Steps p.tables e below (s₁.setTop (mkF m 6 #[.val (.int p1), .val (.int p2), .val (.int p3), .val (.int p4), .val (.int p5), .val (.int p6), .unset, .unset, .unset, .unset] [(.int (p5 &&& (2147483647 : Int32))), (.int (1 : Int32))])) _
    refine XS.bipush X0.here hx rfl (hb hby at_6) ?_
    show Steps p.tables e below (s₁.setTop (mkF m 8 #[.val (.int p1), .val (.int p2), .val (.int p3), .val (.int p4), .val (.int p5), .val (.int p6), .unset, .unset, .unset, .unset] [(.int (6 : Int32)), (.int (p5 &&& (2147483647 : Int32))), (.int (1 : Int32))])) _
    refine iremM (g := (mkF m 8 #[.val (.int p1), .val (.int p2), .val (.int p3), .val (.int p4), .val (.int p5), .val (.int p6), .unset, .unset, .unset, .unset] [(.int (6 : Int32)), (.int (p5 &&& (2147483647 : Int32))), (.int (1 : Int32))])) X0 hx rfl (hb hby at_8) rfl (by decide) ?_
    show Steps p.tables e below (s₁.setTop (mkF m 9 #[.val (.int p1), .val (.int p2), .val (.int p3), .val (.int p4), .val (.int p5), .val (.int p6), .unset, .unset, .unset, .unset] [(.int ((p5 &&& (2147483647 : Int32)) % (6 : Int32))), (.int (1 : Int32))])) _
    refine XS.iadd X0.here hx rfl (hb hby at_9) rfl ?_
    show Steps p.tables e below (s₁.setTop (mkF m 10 #[.val (.int p1), .val (.int p2), .val (.int p3), .val (.int p4), .val (.int p5), .val (.int p6), .unset, .unset, .unset, .unset] [(.int ((1 : Int32) + ((p5 &&& (2147483647 : Int32)) % (6 : Int32))))])) _
    refine XS.istore X0.here hx rfl (hb hby at_10) rfl (l' := #[.val (.int p1), .val (.int p2), .val (.int p3), .val (.int p4), .val (.int p5), .val (.int p6), .val (.int ((1 : Int32) + ((p5 &&& (2147483647 : Int32)) % (6 : Int32)))), .unset, .unset, .unset]) rfl ?_
    show Steps p.tables e below (s₁.setTop (mkF m 12 #[.val (.int p1), .val (.int p2), .val (.int p3), .val (.int p4), .val (.int p5), .val (.int p6), .val (.int ((1 : Int32) + ((p5 &&& (2147483647 : Int32)) % (6 : Int32)))), .unset, .unset, .unset] [])) _
    refine XS.iload X0.here hx rfl (hb hby at_12) rfl ?_
    show Steps p.tables e below (s₁.setTop (mkF m 14 #[.val (.int p1), .val (.int p2), .val (.int p3), .val (.int p4), .val (.int p5), .val (.int p6), .val (.int ((1 : Int32) + ((p5 &&& (2147483647 : Int32)) % (6 : Int32)))), .unset, .unset, .unset] [(.int p6)])) _
    refine X0.ldcInt hx hown (mvT hZ (hw _ (List.mem_of_getElem? (i := 0) rfl))) (g := (mkF m 14 #[.val (.int p1), .val (.int p2), .val (.int p3), .val (.int p4), .val (.int p5), .val (.int p6), .val (.int ((1 : Int32) + ((p5 &&& (2147483647 : Int32)) % (6 : Int32)))), .unset, .unset, .unset] [(.int p6)])) rfl (hb hby at_14) _ ?_
    show Steps p.tables e below (s₁.setTop (mkF m 16 #[.val (.int p1), .val (.int p2), .val (.int p3), .val (.int p4), .val (.int p5), .val (.int p6), .val (.int ((1 : Int32) + ((p5 &&& (2147483647 : Int32)) % (6 : Int32)))), .unset, .unset, .unset] [(.int (2147483647 : Int32)), (.int p6)])) _
    refine XS.iand X0.here hx rfl (hb hby at_16) rfl ?_
    show Steps p.tables e below (s₁.setTop (mkF m 17 #[.val (.int p1), .val (.int p2), .val (.int p3), .val (.int p4), .val (.int p5), .val (.int p6), .val (.int ((1 : Int32) + ((p5 &&& (2147483647 : Int32)) % (6 : Int32)))), .unset, .unset, .unset] [(.int (p6 &&& (2147483647 : Int32)))])) _
    refine XS.iload X0.here hx rfl (hb hby at_17) rfl ?_
    show Steps p.tables e below (s₁.setTop (mkF m 19 #[.val (.int p1), .val (.int p2), .val (.int p3), .val (.int p4), .val (.int p5), .val (.int p6), .val (.int ((1 : Int32) + ((p5 &&& (2147483647 : Int32)) % (6 : Int32)))), .unset, .unset, .unset] [(.int ((1 : Int32) + ((p5 &&& (2147483647 : Int32)) % (6 : Int32)))), (.int (p6 &&& (2147483647 : Int32)))])) _
    refine iremM (g := (mkF m 19 #[.val (.int p1), .val (.int p2), .val (.int p3), .val (.int p4), .val (.int p5), .val (.int p6), .val (.int ((1 : Int32) + ((p5 &&& (2147483647 : Int32)) % (6 : Int32)))), .unset, .unset, .unset] [(.int ((1 : Int32) + ((p5 &&& (2147483647 : Int32)) % (6 : Int32)))), (.int (p6 &&& (2147483647 : Int32)))])) X0 hx rfl (hb hby at_19) rfl hnz19 ?_
    show Steps p.tables e below (s₁.setTop (mkF m 20 #[.val (.int p1), .val (.int p2), .val (.int p3), .val (.int p4), .val (.int p5), .val (.int p6), .val (.int ((1 : Int32) + ((p5 &&& (2147483647 : Int32)) % (6 : Int32)))), .unset, .unset, .unset] [(.int ((p6 &&& (2147483647 : Int32)) % ((1 : Int32) + ((p5 &&& (2147483647 : Int32)) % (6 : Int32)))))])) _
    refine XS.istore X0.here hx rfl (hb hby at_20) rfl (l' := #[.val (.int p1), .val (.int p2), .val (.int p3), .val (.int p4), .val (.int p5), .val (.int p6), .val (.int ((1 : Int32) + ((p5 &&& (2147483647 : Int32)) % (6 : Int32)))), .val (.int ((p6 &&& (2147483647 : Int32)) % ((1 : Int32) + ((p5 &&& (2147483647 : Int32)) % (6 : Int32))))), .unset, .unset]) rfl ?_
    show Steps p.tables e below (s₁.setTop (mkF m 22 #[.val (.int p1), .val (.int p2), .val (.int p3), .val (.int p4), .val (.int p5), .val (.int p6), .val (.int ((1 : Int32) + ((p5 &&& (2147483647 : Int32)) % (6 : Int32)))), .val (.int ((p6 &&& (2147483647 : Int32)) % ((1 : Int32) + ((p5 &&& (2147483647 : Int32)) % (6 : Int32))))), .unset, .unset] [])) _
    refine st7 _ ?_
    show Steps p.tables e below (T7.setTop (mkF m 25 #[.val (.int p1), .val (.int p2), .val (.int p3), .val (.int p4), .val (.int p5), .val (.int p6), .val (.int ((1 : Int32) + ((p5 &&& (2147483647 : Int32)) % (6 : Int32)))), .val (.int ((p6 &&& (2147483647 : Int32)) % ((1 : Int32) + ((p5 &&& (2147483647 : Int32)) % (6 : Int32))))), .unset, .unset] [(.ref b7)])) _
    refine XS.dup X7.here hx rfl (hb hby at_25) rfl rfl ?_
    show Steps p.tables e below (T7.setTop (mkF m 26 #[.val (.int p1), .val (.int p2), .val (.int p3), .val (.int p4), .val (.int p5), .val (.int p6), .val (.int ((1 : Int32) + ((p5 &&& (2147483647 : Int32)) % (6 : Int32)))), .val (.int ((p6 &&& (2147483647 : Int32)) % ((1 : Int32) + ((p5 &&& (2147483647 : Int32)) % (6 : Int32))))), .unset, .unset] [(.ref b7), (.ref b7)])) _
    refine st8.trans ?_
    show Steps p.tables e below (T8.setTop (mkF m 29 #[.val (.int p1), .val (.int p2), .val (.int p3), .val (.int p4), .val (.int p5), .val (.int p6), .val (.int ((1 : Int32) + ((p5 &&& (2147483647 : Int32)) % (6 : Int32)))), .val (.int ((p6 &&& (2147483647 : Int32)) % ((1 : Int32) + ((p5 &&& (2147483647 : Int32)) % (6 : Int32))))), .unset, .unset] [(.ref b7)])) _
    refine XS.astore X8.here hx rfl (hb hby at_29) rfl rfl (l' := #[.val (.int p1), .val (.int p2), .val (.int p3), .val (.int p4), .val (.int p5), .val (.int p6), .val (.int ((1 : Int32) + ((p5 &&& (2147483647 : Int32)) % (6 : Int32)))), .val (.int ((p6 &&& (2147483647 : Int32)) % ((1 : Int32) + ((p5 &&& (2147483647 : Int32)) % (6 : Int32))))), .val (.ref b7), .unset]) rfl ?_
    show Steps p.tables e below (T8.setTop (mkF m 31 #[.val (.int p1), .val (.int p2), .val (.int p3), .val (.int p4), .val (.int p5), .val (.int p6), .val (.int ((1 : Int32) + ((p5 &&& (2147483647 : Int32)) % (6 : Int32)))), .val (.int ((p6 &&& (2147483647 : Int32)) % ((1 : Int32) + ((p5 &&& (2147483647 : Int32)) % (6 : Int32))))), .val (.ref b7), .unset] [])) _
    refine XS.aload X8.here hx rfl (hb hby at_31) rfl rfl ?_
    show Steps p.tables e below (T8.setTop (mkF m 33 #[.val (.int p1), .val (.int p2), .val (.int p3), .val (.int p4), .val (.int p5), .val (.int p6), .val (.int ((1 : Int32) + ((p5 &&& (2147483647 : Int32)) % (6 : Int32)))), .val (.int ((p6 &&& (2147483647 : Int32)) % ((1 : Int32) + ((p5 &&& (2147483647 : Int32)) % (6 : Int32))))), .val (.ref b7), .unset] [(.ref b7)])) _
    refine XS.iloadN X8.here hx rfl (hb hby at_33) rfl ?_
    show Steps p.tables e below (T8.setTop (mkF m 34 #[.val (.int p1), .val (.int p2), .val (.int p3), .val (.int p4), .val (.int p5), .val (.int p6), .val (.int ((1 : Int32) + ((p5 &&& (2147483647 : Int32)) % (6 : Int32)))), .val (.int ((p6 &&& (2147483647 : Int32)) % ((1 : Int32) + ((p5 &&& (2147483647 : Int32)) % (6 : Int32))))), .val (.ref b7), .unset] [(.int p1), (.ref b7)])) _
    refine st9.trans ?_
    show Steps p.tables e below (T9.setTop (mkF m 37 #[.val (.int p1), .val (.int p2), .val (.int p3), .val (.int p4), .val (.int p5), .val (.int p6), .val (.int ((1 : Int32) + ((p5 &&& (2147483647 : Int32)) % (6 : Int32)))), .val (.int ((p6 &&& (2147483647 : Int32)) % ((1 : Int32) + ((p5 &&& (2147483647 : Int32)) % (6 : Int32))))), .val (.ref b7), .unset] [])) _
    refine XS.iload X9.here hx rfl (hb hby at_37) rfl ?_
    show Steps p.tables e below (T9.setTop (mkF m 39 #[.val (.int p1), .val (.int p2), .val (.int p3), .val (.int p4), .val (.int p5), .val (.int p6), .val (.int ((1 : Int32) + ((p5 &&& (2147483647 : Int32)) % (6 : Int32)))), .val (.int ((p6 &&& (2147483647 : Int32)) % ((1 : Int32) + ((p5 &&& (2147483647 : Int32)) % (6 : Int32))))), .val (.ref b7), .unset] [(.int ((1 : Int32) + ((p5 &&& (2147483647 : Int32)) % (6 : Int32))))])) _
    refine XS.iconst X9.here hx rfl (hb hby at_39) ?_
    show Steps p.tables e below (T9.setTop (mkF m 40 #[.val (.int p1), .val (.int p2), .val (.int p3), .val (.int p4), .val (.int p5), .val (.int p6), .val (.int ((1 : Int32) + ((p5 &&& (2147483647 : Int32)) % (6 : Int32)))), .val (.int ((p6 &&& (2147483647 : Int32)) % ((1 : Int32) + ((p5 &&& (2147483647 : Int32)) % (6 : Int32))))), .val (.ref b7), .unset] [(.int (1 : Int32)), (.int ((1 : Int32) + ((p5 &&& (2147483647 : Int32)) % (6 : Int32))))])) _
    refine XS.icmpYes X9.here hx rfl (pc0 := 40) (pc' := 49) rfl (hb hby at_40) rfl (flt hc40).2.2.2 (by decide) (by decide) ?_
    show Steps p.tables e below (T9.setTop (mkF m 49 #[.val (.int p1), .val (.int p2), .val (.int p3), .val (.int p4), .val (.int p5), .val (.int p6), .val (.int ((1 : Int32) + ((p5 &&& (2147483647 : Int32)) % (6 : Int32)))), .val (.int ((p6 &&& (2147483647 : Int32)) % ((1 : Int32) + ((p5 &&& (2147483647 : Int32)) % (6 : Int32))))), .val (.ref b7), .unset] [])) _
    refine XS.iload X9.here hx rfl (hb hby at_49) rfl ?_
    show Steps p.tables e below (T9.setTop (mkF m 51 #[.val (.int p1), .val (.int p2), .val (.int p3), .val (.int p4), .val (.int p5), .val (.int p6), .val (.int ((1 : Int32) + ((p5 &&& (2147483647 : Int32)) % (6 : Int32)))), .val (.int ((p6 &&& (2147483647 : Int32)) % ((1 : Int32) + ((p5 &&& (2147483647 : Int32)) % (6 : Int32))))), .val (.ref b7), .unset] [(.int ((1 : Int32) + ((p5 &&& (2147483647 : Int32)) % (6 : Int32))))])) _
    refine XS.iconst X9.here hx rfl (hb hby at_51) ?_
    show Steps p.tables e below (T9.setTop (mkF m 52 #[.val (.int p1), .val (.int p2), .val (.int p3), .val (.int p4), .val (.int p5), .val (.int p6), .val (.int ((1 : Int32) + ((p5 &&& (2147483647 : Int32)) % (6 : Int32)))), .val (.int ((p6 &&& (2147483647 : Int32)) % ((1 : Int32) + ((p5 &&& (2147483647 : Int32)) % (6 : Int32))))), .val (.ref b7), .unset] [(.int (2 : Int32)), (.int ((1 : Int32) + ((p5 &&& (2147483647 : Int32)) % (6 : Int32))))])) _
    refine XS.icmpYes X9.here hx rfl (pc0 := 52) (pc' := 61) rfl (hb hby at_52) rfl (flt hc52).2.2.2 (by decide) (by decide) ?_
    show Steps p.tables e below (T9.setTop (mkF m 61 #[.val (.int p1), .val (.int p2), .val (.int p3), .val (.int p4), .val (.int p5), .val (.int p6), .val (.int ((1 : Int32) + ((p5 &&& (2147483647 : Int32)) % (6 : Int32)))), .val (.int ((p6 &&& (2147483647 : Int32)) % ((1 : Int32) + ((p5 &&& (2147483647 : Int32)) % (6 : Int32))))), .val (.ref b7), .unset] [])) _
    refine XS.iload X9.here hx rfl (hb hby at_61) rfl ?_
    show Steps p.tables e below (T9.setTop (mkF m 63 #[.val (.int p1), .val (.int p2), .val (.int p3), .val (.int p4), .val (.int p5), .val (.int p6), .val (.int ((1 : Int32) + ((p5 &&& (2147483647 : Int32)) % (6 : Int32)))), .val (.int ((p6 &&& (2147483647 : Int32)) % ((1 : Int32) + ((p5 &&& (2147483647 : Int32)) % (6 : Int32))))), .val (.ref b7), .unset] [(.int ((1 : Int32) + ((p5 &&& (2147483647 : Int32)) % (6 : Int32))))])) _
    refine XS.iconst X9.here hx rfl (hb hby at_63) ?_
    show Steps p.tables e below (T9.setTop (mkF m 64 #[.val (.int p1), .val (.int p2), .val (.int p3), .val (.int p4), .val (.int p5), .val (.int p6), .val (.int ((1 : Int32) + ((p5 &&& (2147483647 : Int32)) % (6 : Int32)))), .val (.int ((p6 &&& (2147483647 : Int32)) % ((1 : Int32) + ((p5 &&& (2147483647 : Int32)) % (6 : Int32))))), .val (.ref b7), .unset] [(.int (3 : Int32)), (.int ((1 : Int32) + ((p5 &&& (2147483647 : Int32)) % (6 : Int32))))])) _
    refine XS.icmpYes X9.here hx rfl (pc0 := 64) (pc' := 73) rfl (hb hby at_64) rfl (flt hc64).2.2.2 (by decide) (by decide) ?_
    show Steps p.tables e below (T9.setTop (mkF m 73 #[.val (.int p1), .val (.int p2), .val (.int p3), .val (.int p4), .val (.int p5), .val (.int p6), .val (.int ((1 : Int32) + ((p5 &&& (2147483647 : Int32)) % (6 : Int32)))), .val (.int ((p6 &&& (2147483647 : Int32)) % ((1 : Int32) + ((p5 &&& (2147483647 : Int32)) % (6 : Int32))))), .val (.ref b7), .unset] [])) _
    refine XS.iload X9.here hx rfl (hb hby at_73) rfl ?_
    show Steps p.tables e below (T9.setTop (mkF m 75 #[.val (.int p1), .val (.int p2), .val (.int p3), .val (.int p4), .val (.int p5), .val (.int p6), .val (.int ((1 : Int32) + ((p5 &&& (2147483647 : Int32)) % (6 : Int32)))), .val (.int ((p6 &&& (2147483647 : Int32)) % ((1 : Int32) + ((p5 &&& (2147483647 : Int32)) % (6 : Int32))))), .val (.ref b7), .unset] [(.int ((1 : Int32) + ((p5 &&& (2147483647 : Int32)) % (6 : Int32))))])) _
    refine XS.iconst X9.here hx rfl (hb hby at_75) ?_
    show Steps p.tables e below (T9.setTop (mkF m 76 #[.val (.int p1), .val (.int p2), .val (.int p3), .val (.int p4), .val (.int p5), .val (.int p6), .val (.int ((1 : Int32) + ((p5 &&& (2147483647 : Int32)) % (6 : Int32)))), .val (.int ((p6 &&& (2147483647 : Int32)) % ((1 : Int32) + ((p5 &&& (2147483647 : Int32)) % (6 : Int32))))), .val (.ref b7), .unset] [(.int (4 : Int32)), (.int ((1 : Int32) + ((p5 &&& (2147483647 : Int32)) % (6 : Int32))))])) _
    refine XS.icmpYes X9.here hx rfl (pc0 := 76) (pc' := 87) rfl (hb hby at_76) rfl (flt hc76).2.2.2 (by decide) (by decide) ?_
    show Steps p.tables e below (T9.setTop (mkF m 87 #[.val (.int p1), .val (.int p2), .val (.int p3), .val (.int p4), .val (.int p5), .val (.int p6), .val (.int ((1 : Int32) + ((p5 &&& (2147483647 : Int32)) % (6 : Int32)))), .val (.int ((p6 &&& (2147483647 : Int32)) % ((1 : Int32) + ((p5 &&& (2147483647 : Int32)) % (6 : Int32))))), .val (.ref b7), .unset] [])) _
    refine XS.iload X9.here hx rfl (hb hby at_87) rfl ?_
    show Steps p.tables e below (T9.setTop (mkF m 89 #[.val (.int p1), .val (.int p2), .val (.int p3), .val (.int p4), .val (.int p5), .val (.int p6), .val (.int ((1 : Int32) + ((p5 &&& (2147483647 : Int32)) % (6 : Int32)))), .val (.int ((p6 &&& (2147483647 : Int32)) % ((1 : Int32) + ((p5 &&& (2147483647 : Int32)) % (6 : Int32))))), .val (.ref b7), .unset] [(.int ((1 : Int32) + ((p5 &&& (2147483647 : Int32)) % (6 : Int32))))])) _
    refine XS.iconst X9.here hx rfl (hb hby at_89) ?_
    show Steps p.tables e below (T9.setTop (mkF m 90 #[.val (.int p1), .val (.int p2), .val (.int p3), .val (.int p4), .val (.int p5), .val (.int p6), .val (.int ((1 : Int32) + ((p5 &&& (2147483647 : Int32)) % (6 : Int32)))), .val (.int ((p6 &&& (2147483647 : Int32)) % ((1 : Int32) + ((p5 &&& (2147483647 : Int32)) % (6 : Int32))))), .val (.ref b7), .unset] [(.int (5 : Int32)), (.int ((1 : Int32) + ((p5 &&& (2147483647 : Int32)) % (6 : Int32))))])) _
    refine XS.icmpYes X9.here hx rfl (pc0 := 90) (pc' := 101) rfl (hb hby at_90) rfl (flt hc90).2.2.2 (by decide) (by decide) ?_
    show Steps p.tables e below (T9.setTop (mkF m 101 #[.val (.int p1), .val (.int p2), .val (.int p3), .val (.int p4), .val (.int p5), .val (.int p6), .val (.int ((1 : Int32) + ((p5 &&& (2147483647 : Int32)) % (6 : Int32)))), .val (.int ((p6 &&& (2147483647 : Int32)) % ((1 : Int32) + ((p5 &&& (2147483647 : Int32)) % (6 : Int32))))), .val (.ref b7), .unset] [])) _
    refine st10 _ ?_
    show Steps p.tables e below (T10.setTop (mkF m 167 #[.val (.int p1), .val (.int p2), .val (.int p3), .val (.int p4), .val (.int p5), .val (.int p6), .val (.int ((1 : Int32) + ((p5 &&& (2147483647 : Int32)) % (6 : Int32)))), .val (.int ((p6 &&& (2147483647 : Int32)) % ((1 : Int32) + ((p5 &&& (2147483647 : Int32)) % (6 : Int32))))), .val (.ref b7), .val (.int ex)] [])) _
    refine XS.aload X10.here hx rfl (hb hby at_167) rfl rfl ?_
    show Steps p.tables e below (T10.setTop (mkF m 169 #[.val (.int p1), .val (.int p2), .val (.int p3), .val (.int p4), .val (.int p5), .val (.int p6), .val (.int ((1 : Int32) + ((p5 &&& (2147483647 : Int32)) % (6 : Int32)))), .val (.int ((p6 &&& (2147483647 : Int32)) % ((1 : Int32) + ((p5 &&& (2147483647 : Int32)) % (6 : Int32))))), .val (.ref b7), .val (.int ex)] [(.ref b7)])) _
    refine XS.iload X10.here hx rfl (hb hby at_169) rfl ?_
    show Steps p.tables e below (T10.setTop (mkF m 171 #[.val (.int p1), .val (.int p2), .val (.int p3), .val (.int p4), .val (.int p5), .val (.int p6), .val (.int ((1 : Int32) + ((p5 &&& (2147483647 : Int32)) % (6 : Int32)))), .val (.int ((p6 &&& (2147483647 : Int32)) % ((1 : Int32) + ((p5 &&& (2147483647 : Int32)) % (6 : Int32))))), .val (.ref b7), .val (.int ex)] [(.int ((p6 &&& (2147483647 : Int32)) % ((1 : Int32) + ((p5 &&& (2147483647 : Int32)) % (6 : Int32))))), (.ref b7)])) _
    refine st11.trans ?_
    show Steps p.tables e below (T11.setTop (mkF m 174 #[.val (.int p1), .val (.int p2), .val (.int p3), .val (.int p4), .val (.int p5), .val (.int p6), .val (.int ((1 : Int32) + ((p5 &&& (2147483647 : Int32)) % (6 : Int32)))), .val (.int ((p6 &&& (2147483647 : Int32)) % ((1 : Int32) + ((p5 &&& (2147483647 : Int32)) % (6 : Int32))))), .val (.ref b7), .val (.int ex)] [(.int ex)])) _
    refine XS.iload X11.here hx rfl (hb hby at_174) rfl ?_
    show Steps p.tables e below (T11.setTop (mkF m 176 #[.val (.int p1), .val (.int p2), .val (.int p3), .val (.int p4), .val (.int p5), .val (.int p6), .val (.int ((1 : Int32) + ((p5 &&& (2147483647 : Int32)) % (6 : Int32)))), .val (.int ((p6 &&& (2147483647 : Int32)) % ((1 : Int32) + ((p5 &&& (2147483647 : Int32)) % (6 : Int32))))), .val (.ref b7), .val (.int ex)] [(.int ex), (.int ex)])) _
    refine XS.icmpNo X11.here hx rfl (hb hby at_176) rfl (teq (rfl : ex = ex)).2 ?_
    show Steps p.tables e below (T11.setTop (mkF m 179 #[.val (.int p1), .val (.int p2), .val (.int p3), .val (.int p4), .val (.int p5), .val (.int p6), .val (.int ((1 : Int32) + ((p5 &&& (2147483647 : Int32)) % (6 : Int32)))), .val (.int ((p6 &&& (2147483647 : Int32)) % ((1 : Int32) + ((p5 &&& (2147483647 : Int32)) % (6 : Int32))))), .val (.ref b7), .val (.int ex)] [])) _
    refine XS.iconst X11.here hx rfl (hb hby at_179) ?_
    show Steps p.tables e below (T11.setTop (mkF m 180 #[.val (.int p1), .val (.int p2), .val (.int p3), .val (.int p4), .val (.int p5), .val (.int p6), .val (.int ((1 : Int32) + ((p5 &&& (2147483647 : Int32)) % (6 : Int32)))), .val (.int ((p6 &&& (2147483647 : Int32)) % ((1 : Int32) + ((p5 &&& (2147483647 : Int32)) % (6 : Int32))))), .val (.ref b7), .val (.int ex)] [(.int (1 : Int32))])) _
    refine XS.goto X11.here hx rfl (pc0 := 180) (pc' := 184) rfl (hb hby at_180) (by decide) (by decide) ?_
    show Steps p.tables e below (T11.setTop (mkF m 184 #[.val (.int p1), .val (.int p2), .val (.int p3), .val (.int p4), .val (.int p5), .val (.int p6), .val (.int ((1 : Int32) + ((p5 &&& (2147483647 : Int32)) % (6 : Int32)))), .val (.int ((p6 &&& (2147483647 : Int32)) % ((1 : Int32) + ((p5 &&& (2147483647 : Int32)) % (6 : Int32))))), .val (.ref b7), .val (.int ex)] [(.int (1 : Int32))])) _
    exact retN X11 hx (t := .boolean) Bd.returns (by simp) (hb hby at_184) hr
  · show Qlaw0 n0 _ T11.heap _
    rw [e11q]
    exact ⟨rfl, N11⟩
set_option maxRecDepth 65536 in
set_option maxHeartbeats 40000000 in
theorem rm0_2 (l : Launch) (Z : State) (a0 : Array Value) (hw : ∀ d ∈ tables_1, d.before a0 Z = true) (ws : List Jvm.Cond) (p1 : Int32) (p2 : Int32) (p3 : Int32) (p4 : Int32) (p5 : Int32) (p6 : Int32) (ex : Int32) (h0 : Heap) (n0 : Nat) (Z0 : n0 ≤ h0.size) (hE : (((p6 &&& (2147483647 : Int32)) % ((1 : Int32) + ((p5 &&& (2147483647 : Int32)) % (6 : Int32)))) = (0 : Int32) ∧ ex = p1) ∨ (¬ (((p6 &&& (2147483647 : Int32)) % ((1 : Int32) + ((p5 &&& (2147483647 : Int32)) % (6 : Int32)))) = (0 : Int32)) ∧ ((p6 &&& (2147483647 : Int32)) % ((1 : Int32) + ((p5 &&& (2147483647 : Int32)) % (6 : Int32)))) = (1 : Int32) ∧ ex = p2) ∨ (¬ (((p6 &&& (2147483647 : Int32)) % ((1 : Int32) + ((p5 &&& (2147483647 : Int32)) % (6 : Int32)))) = (0 : Int32)) ∧ ¬ (((p6 &&& (2147483647 : Int32)) % ((1 : Int32) + ((p5 &&& (2147483647 : Int32)) % (6 : Int32)))) = (1 : Int32)) ∧ ((p6 &&& (2147483647 : Int32)) % ((1 : Int32) + ((p5 &&& (2147483647 : Int32)) % (6 : Int32)))) = (2 : Int32) ∧ ex = p3) ∨ (¬ (((p6 &&& (2147483647 : Int32)) % ((1 : Int32) + ((p5 &&& (2147483647 : Int32)) % (6 : Int32)))) = (0 : Int32)) ∧ ¬ (((p6 &&& (2147483647 : Int32)) % ((1 : Int32) + ((p5 &&& (2147483647 : Int32)) % (6 : Int32)))) = (1 : Int32)) ∧ ¬ (((p6 &&& (2147483647 : Int32)) % ((1 : Int32) + ((p5 &&& (2147483647 : Int32)) % (6 : Int32)))) = (2 : Int32)) ∧ ((p6 &&& (2147483647 : Int32)) % ((1 : Int32) + ((p5 &&& (2147483647 : Int32)) % (6 : Int32)))) = (3 : Int32) ∧ ex = p4) ∨ (¬ (((p6 &&& (2147483647 : Int32)) % ((1 : Int32) + ((p5 &&& (2147483647 : Int32)) % (6 : Int32)))) = (0 : Int32)) ∧ ¬ (((p6 &&& (2147483647 : Int32)) % ((1 : Int32) + ((p5 &&& (2147483647 : Int32)) % (6 : Int32)))) = (1 : Int32)) ∧ ¬ (((p6 &&& (2147483647 : Int32)) % ((1 : Int32) + ((p5 &&& (2147483647 : Int32)) % (6 : Int32)))) = (2 : Int32)) ∧ ¬ (((p6 &&& (2147483647 : Int32)) % ((1 : Int32) + ((p5 &&& (2147483647 : Int32)) % (6 : Int32)))) = (3 : Int32)) ∧ ((p6 &&& (2147483647 : Int32)) % ((1 : Int32) + ((p5 &&& (2147483647 : Int32)) % (6 : Int32)))) = (4 : Int32) ∧ ex = (p1 ^^^ (-1 : Int32))) ∨ (¬ (((p6 &&& (2147483647 : Int32)) % ((1 : Int32) + ((p5 &&& (2147483647 : Int32)) % (6 : Int32)))) = (0 : Int32)) ∧ ¬ (((p6 &&& (2147483647 : Int32)) % ((1 : Int32) + ((p5 &&& (2147483647 : Int32)) % (6 : Int32)))) = (1 : Int32)) ∧ ¬ (((p6 &&& (2147483647 : Int32)) % ((1 : Int32) + ((p5 &&& (2147483647 : Int32)) % (6 : Int32)))) = (2 : Int32)) ∧ ¬ (((p6 &&& (2147483647 : Int32)) % ((1 : Int32) + ((p5 &&& (2147483647 : Int32)) % (6 : Int32)))) = (3 : Int32)) ∧ ¬ (((p6 &&& (2147483647 : Int32)) % ((1 : Int32) + ((p5 &&& (2147483647 : Int32)) % (6 : Int32)))) = (4 : Int32)) ∧ ex = (p2 ^^^ (-1 : Int32)))) (hr8 : ¬ ((((p6 &&& (2147483647 : Int32)) % ((1 : Int32) + ((p5 &&& (2147483647 : Int32)) % (6 : Int32)))).toUInt32 >>> ((16 : Int32) &&& 31).toUInt32).toInt32) < 0 ∧ ((((p6 &&& (2147483647 : Int32)) % ((1 : Int32) + ((p5 &&& (2147483647 : Int32)) % (6 : Int32)))).toUInt32 >>> ((16 : Int32) &&& 31).toUInt32).toInt32) < (1 : Int32)) (hk0 : ((((p6 &&& (2147483647 : Int32)) % ((1 : Int32) + ((p5 &&& (2147483647 : Int32)) % (6 : Int32)))).toUInt32 >>> ((16 : Int32) &&& 31).toUInt32).toInt32) = (0 : Int32)) (hr13 : ¬ (((p6 &&& (2147483647 : Int32)) % ((1 : Int32) + ((p5 &&& (2147483647 : Int32)) % (6 : Int32)))) &&& (65535 : Int32)) < 0 ∧ (((p6 &&& (2147483647 : Int32)) % ((1 : Int32) + ((p5 &&& (2147483647 : Int32)) % (6 : Int32)))) &&& (65535 : Int32)) < (16 : Int32)) (u13 : (((own_z.set 0 (.int p1)).set 1 (.int p2)) : List Value).getD (((p6 &&& (2147483647 : Int32)) % ((1 : Int32) + ((p5 &&& (2147483647 : Int32)) % (6 : Int32)))) &&& (65535 : Int32)).toNatClampNeg ((.int (0 : Int32)) : Value) = (.int ex)) (hnz19 : ¬ (((1 : Int32) + ((p5 &&& (2147483647 : Int32)) % (6 : Int32))) = (0 : Int32))) (hc40 : (1 : Int32) < ((1 : Int32) + ((p5 &&& (2147483647 : Int32)) % (6 : Int32)))) (hc52 : ¬ ((2 : Int32) < ((1 : Int32) + ((p5 &&& (2147483647 : Int32)) % (6 : Int32))))) (hc64 : ¬ ((3 : Int32) < ((1 : Int32) + ((p5 &&& (2147483647 : Int32)) % (6 : Int32))))) (hc76 : ¬ ((4 : Int32) < ((1 : Int32) + ((p5 &&& (2147483647 : Int32)) % (6 : Int32))))) (hc90 : ¬ ((5 : Int32) < ((1 : Int32) + ((p5 &&& (2147483647 : Int32)) % (6 : Int32))))) :
    MetFree l x (head1 (Jvm.Cond.code x code maxLocals ret :: ws) room_1) (fun a U => a = #[(.int p1), (.int p2), (.int p3), (.int p4), (.int p5), (.int p6)] ∧ Z.Warmed39 U.vm ∧ U.heap = h0) (fun _ _ _ _ _ => True) (fun _ U o U' => ∃ v L, o = .returned v ∧ Qlaw0 n0 v U'.heap L ∧ FrameEnd U o U' L room_1.cells room_1.slots) := by
  refine MetFree.of_bodySF (plainFor_of_name pn_0) hisR ?_
  intro p e s m args below meth c s₁ Bd hml0 hP hK
  obtain ⟨rfl, hZ, hh⟩ := hP
  have hx := Bd.exec
  have hby := Bd.bytes
  have hml : c.maxLocals = 10 := hml0
  have hown : s.vm.findClass "com/example/hearsay/hearsay/graph/IntListGetPinLaw" = some m.cls := findClass_of_methodNamed Bd.named
  have hnm := (name_of_methodNamed Bd.named Bd.method).1
  have X0 : Stand p l e room_1 s m #[(.int p1), (.int p2), (.int p3), (.int p4), (.int p5), (.int p6)] below meth c s₁ [] 0 0 := Stand.of_body Bd
  have e0 : s₁.heap = h0 := by rw [← hh, Bd.state]; rfl
  have N0 := Fr.nil n0
  have pre0 : ∀ t, Steps p.tables e below (s₁.setTop (mkF m 0 #[.val (.int p1), .val (.int p2), .val (.int p3), .val (.int p4), .val (.int p5), .val (.int p6), .unset, .unset, .unset, .unset] [])) t → Steps p.tables e below (s₁.setTop (entryFrame m #[(.int p1), (.int p2), (.int p3), (.int p4), (.int p5), (.int p6)] maxLocals)) t := fun t k => castTop (ef_0 m p1 p2 p3 p4 p5 p6) k
  obtain ⟨T7, h7, X7, e7, E7, A7, D7, -, st7⟩ := newO X0 hx hZ hown (hw _ (List.mem_of_getElem? (i := 1) rfl)) (hw _ (List.mem_of_getElem? (i := 2) rfl)) (hw _ (List.mem_of_getElem? (i := 3) rfl)) e0 (g := (mkF m 22 #[.val (.int p1), .val (.int p2), .val (.int p3), .val (.int p4), .val (.int p5), .val (.int p6), .val (.int ((1 : Int32) + ((p5 &&& (2147483647 : Int32)) % (6 : Int32)))), .val (.int ((p6 &&& (2147483647 : Int32)) % ((1 : Int32) + ((p5 &&& (2147483647 : Int32)) % (6 : Int32))))), .unset, .unset] [])) rfl (hb hby at_22) (by decide) (by decide)
  obtain ⟨b7, g7⟩ : ∃ z, z = h0.size := ⟨_, rfl⟩
  rw [← g7] at A7 D7 st7
  have F_chunks_b7 : Fld Z h7 b7 "com/example/hearsay/hearsay/graph/IntList" "chunks" "[[I" .null := D7 (Or.inl (hw _ (List.mem_of_getElem? (i := 15) rfl))) (ty := (.array (.array .int))) (by decide)
  have F_size_b7 : Fld Z h7 b7 "com/example/hearsay/hearsay/graph/IntList" "size" "I" (.int (0 : Int32)) := D7 (Or.inl (hw _ (List.mem_of_getElem? (i := 22) rfl))) (ty := .int) (by decide)
  have E_b7 := A7
  have g_b7 : n0 ≤ b7 := Nat.le_trans Z0 (Nat.le_of_eq g7.symm)
  have sz_b7 : h0.size ≤ b7 := (Nat.le_trans (Keep.refl h0 []).1 (Nat.le_of_eq g7.symm))
  have K7 : Keep h0 h7 [] := (Keep.refl h0 []).ext E7
  obtain ⟨_, _, ⟨T8, L8, k8, n8⟩, -, X8, ⟨Lc8, hQ8, l8, y8, z8⟩, st8⟩ := X7.specialBack hx (y := (⟨"com/example/hearsay/hearsay/graph/IntList", "<init>", "()V"⟩ : MethodName)) rfl hown (mvT hZ (hw _ (List.mem_of_getElem? (i := 4) rfl))) (mvT hZ (hw _ (List.mem_of_getElem? (i := 5) rfl))) (mvT hZ (hw _ (List.mem_of_getElem? (i := 6) rfl))) (by decide) (backOf (W := 1) (rm1 l Z a0 hw [] b7 .null h7 n0 (Nat.le_trans Z0 E7.1) F_size_b7 E_b7 F_chunks_b7 g_b7) hZ (hw _ (List.mem_of_getElem? (i := 6) rfl)) (hw _ (List.mem_of_getElem? (i := 3) rfl)) (by decide) (by decide)) (g := (mkF m 26 #[.val (.int p1), .val (.int p2), .val (.int p3), .val (.int p4), .val (.int p5), .val (.int p6), .val (.int ((1 : Int32) + ((p5 &&& (2147483647 : Int32)) % (6 : Int32)))), .val (.int ((p6 &&& (2147483647 : Int32)) % ((1 : Int32) + ((p5 &&& (2147483647 : Int32)) % (6 : Int32))))), .unset, .unset] [(.ref b7), (.ref b7)])) rfl (by rw [hml]; rfl) (Steps.refl _) (a := b7) (argsL := []) (rest := [(.ref b7)]) (lenOf pd_0_0 rfl) rfl (by show 2 * 0 + _ ≤ _; exact Nat.le_of_eq rfl) (hb hby at_26) (fun _ _ => ⟨rfl, e7, (by decide : 1 + 2 ≤ _), (by decide : 2 + 17 ≤ _)⟩)
  dsimp only [Pt.U, Pt.locs, Pt.cells, Pt.slots] at X8 l8 y8 z8 st8 hQ8
  subst l8 y8 z8
  obtain ⟨rfl, N8q, K8q, ch, c0, kA, kI, gch, gc0, ne3, E8q, Fc8q, Fs8q, Vh8q, Vd8q⟩ := hQ8
  have N8 := Fr.app N0 N8q
  have KK8 : Keep h0 T8.heap [] := K7.trans K8q (allS (Or.inr sz_b7) all0)
  have sz_ch : h0.size ≤ ch := Nat.le_trans K7.1 gch
  have sz_c0 : h0.size ≤ c0 := Nat.le_trans K7.1 gc0
  have g_ch : n0 ≤ ch := Nat.le_trans Z0 sz_ch
  have g_c0 : n0 ≤ c0 := Nat.le_trans Z0 sz_c0
  have ne1 : b7 ≠ ch := Nat.ne_of_lt (Nat.lt_of_lt_of_le E_b7.lt gch)
  have ne2 : b7 ≠ c0 := Nat.ne_of_lt (Nat.lt_of_lt_of_le E_b7.lt gc0)
  obtain ⟨cq9, kq9, q9a, q9b, q9c⟩ := isOf hZ rfl E8q
  obtain ⟨_, _, ⟨T9, L9, k9, n9⟩, -, X9, ⟨Lc9, hQ9, l9, y9, z9⟩, st9⟩ := X8.virtualBack hx (y := (⟨"com/example/hearsay/hearsay/graph/IntList", "add", "(I)V"⟩ : MethodName)) (z := (⟨"com/example/hearsay/hearsay/graph/IntList", "add", "(I)V"⟩ : MethodName)) hown (mvT hZ (hw _ (List.mem_of_getElem? (i := 16) rfl))) (mvT hZ (hw _ (List.mem_of_getElem? (i := 17) rfl))) (notFace_of_selects (args := #[]) (mvT hZ (hw _ (List.mem_of_getElem? (i := 19) rfl)))) (mvT hZ (hw _ (List.mem_of_getElem? (i := 19) rfl))) (mvT hZ (hw _ (List.mem_of_getElem? (i := 18) rfl))) (by decide) (backOf (W := 0) (rm3 l Z a0 hw [] b7 p1 ch c0 kA kI (0 : Int32) own_z 0 T8.heap n0 (Nat.le_trans (Nat.le_trans Z0 E7.1) K8q.1) ne1 ne2 ne3 Vh8q Vd8q Fs8q Fc8q (by decide) (own_u c0 (by decide)) (by decide) rfl (by decide) (own_u c0 (by decide)) (by decide) (by decide) (Nat.le_of_ble_eq_true rfl) g_c0 E8q g_b7 (by decide) (by decide) (by decide)) hZ (hw _ (List.mem_of_getElem? (i := 20) rfl)) (hw _ (List.mem_of_getElem? (i := 3) rfl)) (by decide) (by decide)) q9a q9c (g := (mkF m 34 #[.val (.int p1), .val (.int p2), .val (.int p3), .val (.int p4), .val (.int p5), .val (.int p6), .val (.int ((1 : Int32) + ((p5 &&& (2147483647 : Int32)) % (6 : Int32)))), .val (.int ((p6 &&& (2147483647 : Int32)) % ((1 : Int32) + ((p5 &&& (2147483647 : Int32)) % (6 : Int32))))), .val (.ref b7), .unset] [(.int p1), (.ref b7)])) rfl (by rw [hml]; rfl) (Steps.refl _) (argsL := [(.int p1)]) (rest := []) (lenOf pd_0_1 rfl) rfl (by show 2 * 0 + _ ≤ _; exact Nat.le_of_eq rfl) (hb hby at_34) (fun _ _ => ⟨rfl, rfl, (by decide : 3 + 0 ≤ _), (by decide : 19 + 0 ≤ _)⟩)
  dsimp only [Pt.U, Pt.locs, Pt.cells, Pt.slots] at X9 l9 y9 z9 st9 hQ9
  subst l9 y9 z9
  obtain ⟨rfl, N9q, K9q, E9q, Fc9q, Fs9q, Vh9q, Vd9q⟩ := hQ9
  have N9 := Fr.app N8 N9q
  have KK9 : Keep h0 T9.heap [] := KK8.trans K9q (allS (Or.inr sz_c0) (allS (Or.inr sz_b7) all0))
  obtain ⟨cq10, kq10, q10a, q10b, q10c⟩ := isOf hZ rfl E9q
  obtain ⟨_, _, ⟨T10, L10, k10, n10⟩, -, X10, ⟨Lc10, hQ10, l10, y10, z10⟩, st10⟩ := X9.virtualBack hx (y := (⟨"com/example/hearsay/hearsay/graph/IntList", "add", "(I)V"⟩ : MethodName)) (z := (⟨"com/example/hearsay/hearsay/graph/IntList", "add", "(I)V"⟩ : MethodName)) hown (mvT hZ (hw _ (List.mem_of_getElem? (i := 16) rfl))) (mvT hZ (hw _ (List.mem_of_getElem? (i := 17) rfl))) (notFace_of_selects (args := #[]) (mvT hZ (hw _ (List.mem_of_getElem? (i := 19) rfl)))) (mvT hZ (hw _ (List.mem_of_getElem? (i := 19) rfl))) (mvT hZ (hw _ (List.mem_of_getElem? (i := 18) rfl))) (by decide) (backOf (W := 0) (rm3 l Z a0 hw [] b7 p2 ch c0 kA kI ((0 : Int32) + (1 : Int32)) (own_z.set 0 (.int p1)) 1 T9.heap n0 (Nat.le_trans (Nat.le_trans (Nat.le_trans Z0 E7.1) K8q.1) K9q.1) ne1 ne2 ne3 Vh9q Vd9q Fs9q Fc9q (by decide) (own_u c0 (by decide)) (by decide) rfl (by decide) (own_u c0 (by decide)) (by decide) (by decide) (Nat.le_of_ble_eq_true rfl) g_c0 E9q g_b7 (by decide) (by decide) (by decide)) hZ (hw _ (List.mem_of_getElem? (i := 20) rfl)) (hw _ (List.mem_of_getElem? (i := 3) rfl)) (by decide) (by decide)) q10a q10c (g := (mkF m 46 #[.val (.int p1), .val (.int p2), .val (.int p3), .val (.int p4), .val (.int p5), .val (.int p6), .val (.int ((1 : Int32) + ((p5 &&& (2147483647 : Int32)) % (6 : Int32)))), .val (.int ((p6 &&& (2147483647 : Int32)) % ((1 : Int32) + ((p5 &&& (2147483647 : Int32)) % (6 : Int32))))), .val (.ref b7), .unset] [(.int p2), (.ref b7)])) rfl (by rw [hml]; rfl) (Steps.refl _) (argsL := [(.int p2)]) (rest := []) (lenOf pd_0_1 rfl) rfl (by show 2 * 0 + _ ≤ _; exact Nat.le_of_eq rfl) (hb hby at_46) (fun _ _ => ⟨rfl, rfl, (by decide : 3 + 0 ≤ _), (by decide : 19 + 0 ≤ _)⟩)
  dsimp only [Pt.U, Pt.locs, Pt.cells, Pt.slots] at X10 l10 y10 z10 st10 hQ10
  subst l10 y10 z10
  obtain ⟨rfl, N10q, K10q, E10q, Fc10q, Fs10q, Vh10q, Vd10q⟩ := hQ10
  have N10 := Fr.app N9 N10q
  have KK10 : Keep h0 T10.heap [] := KK9.trans K10q (allS (Or.inr sz_c0) (allS (Or.inr sz_b7) all0))
  obtain ⟨T11, X11, e11, st11⟩ := own_exp ex p1 p2 p3 p4 (.val (.int p5)) (.val (.int p6)) (.val (.int ((1 : Int32) + ((p5 &&& (2147483647 : Int32)) % (6 : Int32))))) ((p6 &&& (2147483647 : Int32)) % ((1 : Int32) + ((p5 &&& (2147483647 : Int32)) % (6 : Int32)))) (.val (.ref b7)) .unset X10 hx hZ hw hby hml hown rfl One.u hE
  obtain ⟨cq12, kq12, q12a, q12b, q12c⟩ := isOf hZ e11 E10q
  obtain ⟨_, _, ⟨T12, L12, k12, n12⟩, -, X12, ⟨Lc12, hQ12, l12, y12, z12⟩, st12⟩ := X11.virtualBack hx (y := (⟨"com/example/hearsay/hearsay/graph/IntList", "get", "(I)I"⟩ : MethodName)) (z := (⟨"com/example/hearsay/hearsay/graph/IntList", "get", "(I)I"⟩ : MethodName)) hown (mvT hZ (hw _ (List.mem_of_getElem? (i := 24) rfl))) (mvT hZ (hw _ (List.mem_of_getElem? (i := 25) rfl))) (notFace_of_selects (args := #[]) (mvT hZ (hw _ (List.mem_of_getElem? (i := 27) rfl)))) (mvT hZ (hw _ (List.mem_of_getElem? (i := 27) rfl))) (mvT hZ (hw _ (List.mem_of_getElem? (i := 26) rfl))) (by decide) (backOf (W := 0) (rm4 l Z a0 hw [] b7 ((p6 &&& (2147483647 : Int32)) % ((1 : Int32) + ((p5 &&& (2147483647 : Int32)) % (6 : Int32)))) ch c0 kA kI ((own_z.set 0 (.int p1)).set 1 (.int p2)) ex T10.heap n0 (Nat.le_trans (Nat.le_trans (Nat.le_trans (Nat.le_trans Z0 E7.1) K8q.1) K9q.1) K10q.1) Vh10q Vd10q Fc10q hr8 (own_u c0 hk0) hr13 u13) hZ (hw _ (List.mem_of_getElem? (i := 28) rfl)) (hw _ (List.mem_of_getElem? (i := 3) rfl)) (by decide) (by decide)) q12a q12c (g := (mkF m 171 #[.val (.int p1), .val (.int p2), .val (.int p3), .val (.int p4), .val (.int p5), .val (.int p6), .val (.int ((1 : Int32) + ((p5 &&& (2147483647 : Int32)) % (6 : Int32)))), .val (.int ((p6 &&& (2147483647 : Int32)) % ((1 : Int32) + ((p5 &&& (2147483647 : Int32)) % (6 : Int32))))), .val (.ref b7), .val (.int ex)] [(.int ((p6 &&& (2147483647 : Int32)) % ((1 : Int32) + ((p5 &&& (2147483647 : Int32)) % (6 : Int32))))), (.ref b7)])) rfl (by rw [hml]; rfl) (Steps.refl _) (argsL := [(.int ((p6 &&& (2147483647 : Int32)) % ((1 : Int32) + ((p5 &&& (2147483647 : Int32)) % (6 : Int32)))))]) (rest := []) (lenOf pd_0_2 rfl) rfl (by show 2 * 0 + _ ≤ _; exact Nat.le_of_eq rfl) (hb hby at_171) (fun _ _ => ⟨rfl, e11, (by decide : 3 + 0 ≤ _), (by decide : 19 + 0 ≤ _)⟩)
  dsimp only [Pt.U, Pt.locs, Pt.cells, Pt.slots] at X12 l12 y12 z12 st12 hQ12
  subst l12 y12 z12
  obtain ⟨rfl, N12q, e12q⟩ := hQ12
  have N12 := Fr.app N10 N12q
  obtain ⟨fs, hr, hrun, hended, hW, hsame⟩ := X12.leave (v := some (.int (1 : Int32))) (fun h => by rw [Bd.returns] at h; cases h)
  refine ⟨_, _, pre0 _ ?_, hrun, hended, _, _, rfl, ?_, ⟨_, rfl⟩, hW, hsame.mono (by decide) (by decide)⟩
  · show Steps p.tables e below (s₁.setTop (mkF m 0 #[.val (.int p1), .val (.int p2), .val (.int p3), .val (.int p4), .val (.int p5), .val (.int p6), .unset, .unset, .unset, .unset] [])) _
    refine XS.iconst X0.here hx rfl (hb hby at_0) ?_
    show Steps p.tables e below (s₁.setTop (mkF m 1 #[.val (.int p1), .val (.int p2), .val (.int p3), .val (.int p4), .val (.int p5), .val (.int p6), .unset, .unset, .unset, .unset] [(.int (1 : Int32))])) _
    refine XS.iload X0.here hx rfl (hb hby at_1) rfl ?_
    show Steps p.tables e below (s₁.setTop (mkF m 3 #[.val (.int p1), .val (.int p2), .val (.int p3), .val (.int p4), .val (.int p5), .val (.int p6), .unset, .unset, .unset, .unset] [(.int p5), (.int (1 : Int32))])) _
    refine X0.ldcInt hx hown (mvT hZ (hw _ (List.mem_of_getElem? (i := 0) rfl))) (g := (mkF m 3 #[.val (.int p1), .val (.int p2), .val (.int p3), .val (.int p4), .val (.int p5), .val (.int p6), .unset, .unset, .unset, .unset] [(.int p5), (.int (1 : Int32))])) rfl (hb hby at_3) _ ?_
    show Steps p.tables e below (s₁.setTop (mkF m 5 #[.val (.int p1), .val (.int p2), .val (.int p3), .val (.int p4), .val (.int p5), .val (.int p6), .unset, .unset, .unset, .unset] [(.int (2147483647 : Int32)), (.int p5), (.int (1 : Int32))])) _
    refine XS.iand X0.here hx rfl (hb hby at_5) rfl ?_
    show Steps p.tables e below (s₁.setTop (mkF m 6 #[.val (.int p1), .val (.int p2), .val (.int p3), .val (.int p4), .val (.int p5), .val (.int p6), .unset, .unset, .unset, .unset] [(.int (p5 &&& (2147483647 : Int32))), (.int (1 : Int32))])) _
    refine XS.bipush X0.here hx rfl (hb hby at_6) ?_
    show Steps p.tables e below (s₁.setTop (mkF m 8 #[.val (.int p1), .val (.int p2), .val (.int p3), .val (.int p4), .val (.int p5), .val (.int p6), .unset, .unset, .unset, .unset] [(.int (6 : Int32)), (.int (p5 &&& (2147483647 : Int32))), (.int (1 : Int32))])) _
    refine iremM (g := (mkF m 8 #[.val (.int p1), .val (.int p2), .val (.int p3), .val (.int p4), .val (.int p5), .val (.int p6), .unset, .unset, .unset, .unset] [(.int (6 : Int32)), (.int (p5 &&& (2147483647 : Int32))), (.int (1 : Int32))])) X0 hx rfl (hb hby at_8) rfl (by decide) ?_
    show Steps p.tables e below (s₁.setTop (mkF m 9 #[.val (.int p1), .val (.int p2), .val (.int p3), .val (.int p4), .val (.int p5), .val (.int p6), .unset, .unset, .unset, .unset] [(.int ((p5 &&& (2147483647 : Int32)) % (6 : Int32))), (.int (1 : Int32))])) _
    refine XS.iadd X0.here hx rfl (hb hby at_9) rfl ?_
    show Steps p.tables e below (s₁.setTop (mkF m 10 #[.val (.int p1), .val (.int p2), .val (.int p3), .val (.int p4), .val (.int p5), .val (.int p6), .unset, .unset, .unset, .unset] [(.int ((1 : Int32) + ((p5 &&& (2147483647 : Int32)) % (6 : Int32))))])) _
    refine XS.istore X0.here hx rfl (hb hby at_10) rfl (l' := #[.val (.int p1), .val (.int p2), .val (.int p3), .val (.int p4), .val (.int p5), .val (.int p6), .val (.int ((1 : Int32) + ((p5 &&& (2147483647 : Int32)) % (6 : Int32)))), .unset, .unset, .unset]) rfl ?_
    show Steps p.tables e below (s₁.setTop (mkF m 12 #[.val (.int p1), .val (.int p2), .val (.int p3), .val (.int p4), .val (.int p5), .val (.int p6), .val (.int ((1 : Int32) + ((p5 &&& (2147483647 : Int32)) % (6 : Int32)))), .unset, .unset, .unset] [])) _
    refine XS.iload X0.here hx rfl (hb hby at_12) rfl ?_
    show Steps p.tables e below (s₁.setTop (mkF m 14 #[.val (.int p1), .val (.int p2), .val (.int p3), .val (.int p4), .val (.int p5), .val (.int p6), .val (.int ((1 : Int32) + ((p5 &&& (2147483647 : Int32)) % (6 : Int32)))), .unset, .unset, .unset] [(.int p6)])) _
    refine X0.ldcInt hx hown (mvT hZ (hw _ (List.mem_of_getElem? (i := 0) rfl))) (g := (mkF m 14 #[.val (.int p1), .val (.int p2), .val (.int p3), .val (.int p4), .val (.int p5), .val (.int p6), .val (.int ((1 : Int32) + ((p5 &&& (2147483647 : Int32)) % (6 : Int32)))), .unset, .unset, .unset] [(.int p6)])) rfl (hb hby at_14) _ ?_
    show Steps p.tables e below (s₁.setTop (mkF m 16 #[.val (.int p1), .val (.int p2), .val (.int p3), .val (.int p4), .val (.int p5), .val (.int p6), .val (.int ((1 : Int32) + ((p5 &&& (2147483647 : Int32)) % (6 : Int32)))), .unset, .unset, .unset] [(.int (2147483647 : Int32)), (.int p6)])) _
    refine XS.iand X0.here hx rfl (hb hby at_16) rfl ?_
    show Steps p.tables e below (s₁.setTop (mkF m 17 #[.val (.int p1), .val (.int p2), .val (.int p3), .val (.int p4), .val (.int p5), .val (.int p6), .val (.int ((1 : Int32) + ((p5 &&& (2147483647 : Int32)) % (6 : Int32)))), .unset, .unset, .unset] [(.int (p6 &&& (2147483647 : Int32)))])) _
    refine XS.iload X0.here hx rfl (hb hby at_17) rfl ?_
    show Steps p.tables e below (s₁.setTop (mkF m 19 #[.val (.int p1), .val (.int p2), .val (.int p3), .val (.int p4), .val (.int p5), .val (.int p6), .val (.int ((1 : Int32) + ((p5 &&& (2147483647 : Int32)) % (6 : Int32)))), .unset, .unset, .unset] [(.int ((1 : Int32) + ((p5 &&& (2147483647 : Int32)) % (6 : Int32)))), (.int (p6 &&& (2147483647 : Int32)))])) _
    refine iremM (g := (mkF m 19 #[.val (.int p1), .val (.int p2), .val (.int p3), .val (.int p4), .val (.int p5), .val (.int p6), .val (.int ((1 : Int32) + ((p5 &&& (2147483647 : Int32)) % (6 : Int32)))), .unset, .unset, .unset] [(.int ((1 : Int32) + ((p5 &&& (2147483647 : Int32)) % (6 : Int32)))), (.int (p6 &&& (2147483647 : Int32)))])) X0 hx rfl (hb hby at_19) rfl hnz19 ?_
    show Steps p.tables e below (s₁.setTop (mkF m 20 #[.val (.int p1), .val (.int p2), .val (.int p3), .val (.int p4), .val (.int p5), .val (.int p6), .val (.int ((1 : Int32) + ((p5 &&& (2147483647 : Int32)) % (6 : Int32)))), .unset, .unset, .unset] [(.int ((p6 &&& (2147483647 : Int32)) % ((1 : Int32) + ((p5 &&& (2147483647 : Int32)) % (6 : Int32)))))])) _
    refine XS.istore X0.here hx rfl (hb hby at_20) rfl (l' := #[.val (.int p1), .val (.int p2), .val (.int p3), .val (.int p4), .val (.int p5), .val (.int p6), .val (.int ((1 : Int32) + ((p5 &&& (2147483647 : Int32)) % (6 : Int32)))), .val (.int ((p6 &&& (2147483647 : Int32)) % ((1 : Int32) + ((p5 &&& (2147483647 : Int32)) % (6 : Int32))))), .unset, .unset]) rfl ?_
    show Steps p.tables e below (s₁.setTop (mkF m 22 #[.val (.int p1), .val (.int p2), .val (.int p3), .val (.int p4), .val (.int p5), .val (.int p6), .val (.int ((1 : Int32) + ((p5 &&& (2147483647 : Int32)) % (6 : Int32)))), .val (.int ((p6 &&& (2147483647 : Int32)) % ((1 : Int32) + ((p5 &&& (2147483647 : Int32)) % (6 : Int32))))), .unset, .unset] [])) _
    refine st7 _ ?_
    show Steps p.tables e below (T7.setTop (mkF m 25 #[.val (.int p1), .val (.int p2), .val (.int p3), .val (.int p4), .val (.int p5), .val (.int p6), .val (.int ((1 : Int32) + ((p5 &&& (2147483647 : Int32)) % (6 : Int32)))), .val (.int ((p6 &&& (2147483647 : Int32)) % ((1 : Int32) + ((p5 &&& (2147483647 : Int32)) % (6 : Int32))))), .unset, .unset] [(.ref b7)])) _
    refine XS.dup X7.here hx rfl (hb hby at_25) rfl rfl ?_
    show Steps p.tables e below (T7.setTop (mkF m 26 #[.val (.int p1), .val (.int p2), .val (.int p3), .val (.int p4), .val (.int p5), .val (.int p6), .val (.int ((1 : Int32) + ((p5 &&& (2147483647 : Int32)) % (6 : Int32)))), .val (.int ((p6 &&& (2147483647 : Int32)) % ((1 : Int32) + ((p5 &&& (2147483647 : Int32)) % (6 : Int32))))), .unset, .unset] [(.ref b7), (.ref b7)])) _
    refine st8.trans ?_
    show Steps p.tables e below (T8.setTop (mkF m 29 #[.val (.int p1), .val (.int p2), .val (.int p3), .val (.int p4), .val (.int p5), .val (.int p6), .val (.int ((1 : Int32) + ((p5 &&& (2147483647 : Int32)) % (6 : Int32)))), .val (.int ((p6 &&& (2147483647 : Int32)) % ((1 : Int32) + ((p5 &&& (2147483647 : Int32)) % (6 : Int32))))), .unset, .unset] [(.ref b7)])) _
    refine XS.astore X8.here hx rfl (hb hby at_29) rfl rfl (l' := #[.val (.int p1), .val (.int p2), .val (.int p3), .val (.int p4), .val (.int p5), .val (.int p6), .val (.int ((1 : Int32) + ((p5 &&& (2147483647 : Int32)) % (6 : Int32)))), .val (.int ((p6 &&& (2147483647 : Int32)) % ((1 : Int32) + ((p5 &&& (2147483647 : Int32)) % (6 : Int32))))), .val (.ref b7), .unset]) rfl ?_
    show Steps p.tables e below (T8.setTop (mkF m 31 #[.val (.int p1), .val (.int p2), .val (.int p3), .val (.int p4), .val (.int p5), .val (.int p6), .val (.int ((1 : Int32) + ((p5 &&& (2147483647 : Int32)) % (6 : Int32)))), .val (.int ((p6 &&& (2147483647 : Int32)) % ((1 : Int32) + ((p5 &&& (2147483647 : Int32)) % (6 : Int32))))), .val (.ref b7), .unset] [])) _
    refine XS.aload X8.here hx rfl (hb hby at_31) rfl rfl ?_
    show Steps p.tables e below (T8.setTop (mkF m 33 #[.val (.int p1), .val (.int p2), .val (.int p3), .val (.int p4), .val (.int p5), .val (.int p6), .val (.int ((1 : Int32) + ((p5 &&& (2147483647 : Int32)) % (6 : Int32)))), .val (.int ((p6 &&& (2147483647 : Int32)) % ((1 : Int32) + ((p5 &&& (2147483647 : Int32)) % (6 : Int32))))), .val (.ref b7), .unset] [(.ref b7)])) _
    refine XS.iloadN X8.here hx rfl (hb hby at_33) rfl ?_
    show Steps p.tables e below (T8.setTop (mkF m 34 #[.val (.int p1), .val (.int p2), .val (.int p3), .val (.int p4), .val (.int p5), .val (.int p6), .val (.int ((1 : Int32) + ((p5 &&& (2147483647 : Int32)) % (6 : Int32)))), .val (.int ((p6 &&& (2147483647 : Int32)) % ((1 : Int32) + ((p5 &&& (2147483647 : Int32)) % (6 : Int32))))), .val (.ref b7), .unset] [(.int p1), (.ref b7)])) _
    refine st9.trans ?_
    show Steps p.tables e below (T9.setTop (mkF m 37 #[.val (.int p1), .val (.int p2), .val (.int p3), .val (.int p4), .val (.int p5), .val (.int p6), .val (.int ((1 : Int32) + ((p5 &&& (2147483647 : Int32)) % (6 : Int32)))), .val (.int ((p6 &&& (2147483647 : Int32)) % ((1 : Int32) + ((p5 &&& (2147483647 : Int32)) % (6 : Int32))))), .val (.ref b7), .unset] [])) _
    refine XS.iload X9.here hx rfl (hb hby at_37) rfl ?_
    show Steps p.tables e below (T9.setTop (mkF m 39 #[.val (.int p1), .val (.int p2), .val (.int p3), .val (.int p4), .val (.int p5), .val (.int p6), .val (.int ((1 : Int32) + ((p5 &&& (2147483647 : Int32)) % (6 : Int32)))), .val (.int ((p6 &&& (2147483647 : Int32)) % ((1 : Int32) + ((p5 &&& (2147483647 : Int32)) % (6 : Int32))))), .val (.ref b7), .unset] [(.int ((1 : Int32) + ((p5 &&& (2147483647 : Int32)) % (6 : Int32))))])) _
    refine XS.iconst X9.here hx rfl (hb hby at_39) ?_
    show Steps p.tables e below (T9.setTop (mkF m 40 #[.val (.int p1), .val (.int p2), .val (.int p3), .val (.int p4), .val (.int p5), .val (.int p6), .val (.int ((1 : Int32) + ((p5 &&& (2147483647 : Int32)) % (6 : Int32)))), .val (.int ((p6 &&& (2147483647 : Int32)) % ((1 : Int32) + ((p5 &&& (2147483647 : Int32)) % (6 : Int32))))), .val (.ref b7), .unset] [(.int (1 : Int32)), (.int ((1 : Int32) + ((p5 &&& (2147483647 : Int32)) % (6 : Int32))))])) _
    refine XS.icmpNo X9.here hx rfl (hb hby at_40) rfl (tlt hc40).2.2.2 ?_
    show Steps p.tables e below (T9.setTop (mkF m 43 #[.val (.int p1), .val (.int p2), .val (.int p3), .val (.int p4), .val (.int p5), .val (.int p6), .val (.int ((1 : Int32) + ((p5 &&& (2147483647 : Int32)) % (6 : Int32)))), .val (.int ((p6 &&& (2147483647 : Int32)) % ((1 : Int32) + ((p5 &&& (2147483647 : Int32)) % (6 : Int32))))), .val (.ref b7), .unset] [])) _
    refine XS.aload X9.here hx rfl (hb hby at_43) rfl rfl ?_
    show Steps p.tables e below (T9.setTop (mkF m 45 #[.val (.int p1), .val (.int p2), .val (.int p3), .val (.int p4), .val (.int p5), .val (.int p6), .val (.int ((1 : Int32) + ((p5 &&& (2147483647 : Int32)) % (6 : Int32)))), .val (.int ((p6 &&& (2147483647 : Int32)) % ((1 : Int32) + ((p5 &&& (2147483647 : Int32)) % (6 : Int32))))), .val (.ref b7), .unset] [(.ref b7)])) _
    refine XS.iloadN X9.here hx rfl (hb hby at_45) rfl ?_
    show Steps p.tables e below (T9.setTop (mkF m 46 #[.val (.int p1), .val (.int p2), .val (.int p3), .val (.int p4), .val (.int p5), .val (.int p6), .val (.int ((1 : Int32) + ((p5 &&& (2147483647 : Int32)) % (6 : Int32)))), .val (.int ((p6 &&& (2147483647 : Int32)) % ((1 : Int32) + ((p5 &&& (2147483647 : Int32)) % (6 : Int32))))), .val (.ref b7), .unset] [(.int p2), (.ref b7)])) _
    refine st10.trans ?_
    show Steps p.tables e below (T10.setTop (mkF m 49 #[.val (.int p1), .val (.int p2), .val (.int p3), .val (.int p4), .val (.int p5), .val (.int p6), .val (.int ((1 : Int32) + ((p5 &&& (2147483647 : Int32)) % (6 : Int32)))), .val (.int ((p6 &&& (2147483647 : Int32)) % ((1 : Int32) + ((p5 &&& (2147483647 : Int32)) % (6 : Int32))))), .val (.ref b7), .unset] [])) _
    refine XS.iload X10.here hx rfl (hb hby at_49) rfl ?_
    show Steps p.tables e below (T10.setTop (mkF m 51 #[.val (.int p1), .val (.int p2), .val (.int p3), .val (.int p4), .val (.int p5), .val (.int p6), .val (.int ((1 : Int32) + ((p5 &&& (2147483647 : Int32)) % (6 : Int32)))), .val (.int ((p6 &&& (2147483647 : Int32)) % ((1 : Int32) + ((p5 &&& (2147483647 : Int32)) % (6 : Int32))))), .val (.ref b7), .unset] [(.int ((1 : Int32) + ((p5 &&& (2147483647 : Int32)) % (6 : Int32))))])) _
    refine XS.iconst X10.here hx rfl (hb hby at_51) ?_
    show Steps p.tables e below (T10.setTop (mkF m 52 #[.val (.int p1), .val (.int p2), .val (.int p3), .val (.int p4), .val (.int p5), .val (.int p6), .val (.int ((1 : Int32) + ((p5 &&& (2147483647 : Int32)) % (6 : Int32)))), .val (.int ((p6 &&& (2147483647 : Int32)) % ((1 : Int32) + ((p5 &&& (2147483647 : Int32)) % (6 : Int32))))), .val (.ref b7), .unset] [(.int (2 : Int32)), (.int ((1 : Int32) + ((p5 &&& (2147483647 : Int32)) % (6 : Int32))))])) _
    refine XS.icmpYes X10.here hx rfl (pc0 := 52) (pc' := 61) rfl (hb hby at_52) rfl (flt hc52).2.2.2 (by decide) (by decide) ?_
    show Steps p.tables e below (T10.setTop (mkF m 61 #[.val (.int p1), .val (.int p2), .val (.int p3), .val (.int p4), .val (.int p5), .val (.int p6), .val (.int ((1 : Int32) + ((p5 &&& (2147483647 : Int32)) % (6 : Int32)))), .val (.int ((p6 &&& (2147483647 : Int32)) % ((1 : Int32) + ((p5 &&& (2147483647 : Int32)) % (6 : Int32))))), .val (.ref b7), .unset] [])) _
    refine XS.iload X10.here hx rfl (hb hby at_61) rfl ?_
    show Steps p.tables e below (T10.setTop (mkF m 63 #[.val (.int p1), .val (.int p2), .val (.int p3), .val (.int p4), .val (.int p5), .val (.int p6), .val (.int ((1 : Int32) + ((p5 &&& (2147483647 : Int32)) % (6 : Int32)))), .val (.int ((p6 &&& (2147483647 : Int32)) % ((1 : Int32) + ((p5 &&& (2147483647 : Int32)) % (6 : Int32))))), .val (.ref b7), .unset] [(.int ((1 : Int32) + ((p5 &&& (2147483647 : Int32)) % (6 : Int32))))])) _
    refine XS.iconst X10.here hx rfl (hb hby at_63) ?_
    show Steps p.tables e below (T10.setTop (mkF m 64 #[.val (.int p1), .val (.int p2), .val (.int p3), .val (.int p4), .val (.int p5), .val (.int p6), .val (.int ((1 : Int32) + ((p5 &&& (2147483647 : Int32)) % (6 : Int32)))), .val (.int ((p6 &&& (2147483647 : Int32)) % ((1 : Int32) + ((p5 &&& (2147483647 : Int32)) % (6 : Int32))))), .val (.ref b7), .unset] [(.int (3 : Int32)), (.int ((1 : Int32) + ((p5 &&& (2147483647 : Int32)) % (6 : Int32))))])) _
    refine XS.icmpYes X10.here hx rfl (pc0 := 64) (pc' := 73) rfl (hb hby at_64) rfl (flt hc64).2.2.2 (by decide) (by decide) ?_
    show Steps p.tables e below (T10.setTop (mkF m 73 #[.val (.int p1), .val (.int p2), .val (.int p3), .val (.int p4), .val (.int p5), .val (.int p6), .val (.int ((1 : Int32) + ((p5 &&& (2147483647 : Int32)) % (6 : Int32)))), .val (.int ((p6 &&& (2147483647 : Int32)) % ((1 : Int32) + ((p5 &&& (2147483647 : Int32)) % (6 : Int32))))), .val (.ref b7), .unset] [])) _
    refine XS.iload X10.here hx rfl (hb hby at_73) rfl ?_
    show Steps p.tables e below (T10.setTop (mkF m 75 #[.val (.int p1), .val (.int p2), .val (.int p3), .val (.int p4), .val (.int p5), .val (.int p6), .val (.int ((1 : Int32) + ((p5 &&& (2147483647 : Int32)) % (6 : Int32)))), .val (.int ((p6 &&& (2147483647 : Int32)) % ((1 : Int32) + ((p5 &&& (2147483647 : Int32)) % (6 : Int32))))), .val (.ref b7), .unset] [(.int ((1 : Int32) + ((p5 &&& (2147483647 : Int32)) % (6 : Int32))))])) _
    refine XS.iconst X10.here hx rfl (hb hby at_75) ?_
    show Steps p.tables e below (T10.setTop (mkF m 76 #[.val (.int p1), .val (.int p2), .val (.int p3), .val (.int p4), .val (.int p5), .val (.int p6), .val (.int ((1 : Int32) + ((p5 &&& (2147483647 : Int32)) % (6 : Int32)))), .val (.int ((p6 &&& (2147483647 : Int32)) % ((1 : Int32) + ((p5 &&& (2147483647 : Int32)) % (6 : Int32))))), .val (.ref b7), .unset] [(.int (4 : Int32)), (.int ((1 : Int32) + ((p5 &&& (2147483647 : Int32)) % (6 : Int32))))])) _
    refine XS.icmpYes X10.here hx rfl (pc0 := 76) (pc' := 87) rfl (hb hby at_76) rfl (flt hc76).2.2.2 (by decide) (by decide) ?_
    show Steps p.tables e below (T10.setTop (mkF m 87 #[.val (.int p1), .val (.int p2), .val (.int p3), .val (.int p4), .val (.int p5), .val (.int p6), .val (.int ((1 : Int32) + ((p5 &&& (2147483647 : Int32)) % (6 : Int32)))), .val (.int ((p6 &&& (2147483647 : Int32)) % ((1 : Int32) + ((p5 &&& (2147483647 : Int32)) % (6 : Int32))))), .val (.ref b7), .unset] [])) _
    refine XS.iload X10.here hx rfl (hb hby at_87) rfl ?_
    show Steps p.tables e below (T10.setTop (mkF m 89 #[.val (.int p1), .val (.int p2), .val (.int p3), .val (.int p4), .val (.int p5), .val (.int p6), .val (.int ((1 : Int32) + ((p5 &&& (2147483647 : Int32)) % (6 : Int32)))), .val (.int ((p6 &&& (2147483647 : Int32)) % ((1 : Int32) + ((p5 &&& (2147483647 : Int32)) % (6 : Int32))))), .val (.ref b7), .unset] [(.int ((1 : Int32) + ((p5 &&& (2147483647 : Int32)) % (6 : Int32))))])) _
    refine XS.iconst X10.here hx rfl (hb hby at_89) ?_
    show Steps p.tables e below (T10.setTop (mkF m 90 #[.val (.int p1), .val (.int p2), .val (.int p3), .val (.int p4), .val (.int p5), .val (.int p6), .val (.int ((1 : Int32) + ((p5 &&& (2147483647 : Int32)) % (6 : Int32)))), .val (.int ((p6 &&& (2147483647 : Int32)) % ((1 : Int32) + ((p5 &&& (2147483647 : Int32)) % (6 : Int32))))), .val (.ref b7), .unset] [(.int (5 : Int32)), (.int ((1 : Int32) + ((p5 &&& (2147483647 : Int32)) % (6 : Int32))))])) _
    refine XS.icmpYes X10.here hx rfl (pc0 := 90) (pc' := 101) rfl (hb hby at_90) rfl (flt hc90).2.2.2 (by decide) (by decide) ?_
    show Steps p.tables e below (T10.setTop (mkF m 101 #[.val (.int p1), .val (.int p2), .val (.int p3), .val (.int p4), .val (.int p5), .val (.int p6), .val (.int ((1 : Int32) + ((p5 &&& (2147483647 : Int32)) % (6 : Int32)))), .val (.int ((p6 &&& (2147483647 : Int32)) % ((1 : Int32) + ((p5 &&& (2147483647 : Int32)) % (6 : Int32))))), .val (.ref b7), .unset] [])) _
    refine st11 _ ?_
    show Steps p.tables e below (T11.setTop (mkF m 167 #[.val (.int p1), .val (.int p2), .val (.int p3), .val (.int p4), .val (.int p5), .val (.int p6), .val (.int ((1 : Int32) + ((p5 &&& (2147483647 : Int32)) % (6 : Int32)))), .val (.int ((p6 &&& (2147483647 : Int32)) % ((1 : Int32) + ((p5 &&& (2147483647 : Int32)) % (6 : Int32))))), .val (.ref b7), .val (.int ex)] [])) _
    refine XS.aload X11.here hx rfl (hb hby at_167) rfl rfl ?_
    show Steps p.tables e below (T11.setTop (mkF m 169 #[.val (.int p1), .val (.int p2), .val (.int p3), .val (.int p4), .val (.int p5), .val (.int p6), .val (.int ((1 : Int32) + ((p5 &&& (2147483647 : Int32)) % (6 : Int32)))), .val (.int ((p6 &&& (2147483647 : Int32)) % ((1 : Int32) + ((p5 &&& (2147483647 : Int32)) % (6 : Int32))))), .val (.ref b7), .val (.int ex)] [(.ref b7)])) _
    refine XS.iload X11.here hx rfl (hb hby at_169) rfl ?_
    show Steps p.tables e below (T11.setTop (mkF m 171 #[.val (.int p1), .val (.int p2), .val (.int p3), .val (.int p4), .val (.int p5), .val (.int p6), .val (.int ((1 : Int32) + ((p5 &&& (2147483647 : Int32)) % (6 : Int32)))), .val (.int ((p6 &&& (2147483647 : Int32)) % ((1 : Int32) + ((p5 &&& (2147483647 : Int32)) % (6 : Int32))))), .val (.ref b7), .val (.int ex)] [(.int ((p6 &&& (2147483647 : Int32)) % ((1 : Int32) + ((p5 &&& (2147483647 : Int32)) % (6 : Int32))))), (.ref b7)])) _
    refine st12.trans ?_
    show Steps p.tables e below (T12.setTop (mkF m 174 #[.val (.int p1), .val (.int p2), .val (.int p3), .val (.int p4), .val (.int p5), .val (.int p6), .val (.int ((1 : Int32) + ((p5 &&& (2147483647 : Int32)) % (6 : Int32)))), .val (.int ((p6 &&& (2147483647 : Int32)) % ((1 : Int32) + ((p5 &&& (2147483647 : Int32)) % (6 : Int32))))), .val (.ref b7), .val (.int ex)] [(.int ex)])) _
    refine XS.iload X12.here hx rfl (hb hby at_174) rfl ?_
    show Steps p.tables e below (T12.setTop (mkF m 176 #[.val (.int p1), .val (.int p2), .val (.int p3), .val (.int p4), .val (.int p5), .val (.int p6), .val (.int ((1 : Int32) + ((p5 &&& (2147483647 : Int32)) % (6 : Int32)))), .val (.int ((p6 &&& (2147483647 : Int32)) % ((1 : Int32) + ((p5 &&& (2147483647 : Int32)) % (6 : Int32))))), .val (.ref b7), .val (.int ex)] [(.int ex), (.int ex)])) _
    refine XS.icmpNo X12.here hx rfl (hb hby at_176) rfl (teq (rfl : ex = ex)).2 ?_
    show Steps p.tables e below (T12.setTop (mkF m 179 #[.val (.int p1), .val (.int p2), .val (.int p3), .val (.int p4), .val (.int p5), .val (.int p6), .val (.int ((1 : Int32) + ((p5 &&& (2147483647 : Int32)) % (6 : Int32)))), .val (.int ((p6 &&& (2147483647 : Int32)) % ((1 : Int32) + ((p5 &&& (2147483647 : Int32)) % (6 : Int32))))), .val (.ref b7), .val (.int ex)] [])) _
    refine XS.iconst X12.here hx rfl (hb hby at_179) ?_
    show Steps p.tables e below (T12.setTop (mkF m 180 #[.val (.int p1), .val (.int p2), .val (.int p3), .val (.int p4), .val (.int p5), .val (.int p6), .val (.int ((1 : Int32) + ((p5 &&& (2147483647 : Int32)) % (6 : Int32)))), .val (.int ((p6 &&& (2147483647 : Int32)) % ((1 : Int32) + ((p5 &&& (2147483647 : Int32)) % (6 : Int32))))), .val (.ref b7), .val (.int ex)] [(.int (1 : Int32))])) _
    refine XS.goto X12.here hx rfl (pc0 := 180) (pc' := 184) rfl (hb hby at_180) (by decide) (by decide) ?_
    show Steps p.tables e below (T12.setTop (mkF m 184 #[.val (.int p1), .val (.int p2), .val (.int p3), .val (.int p4), .val (.int p5), .val (.int p6), .val (.int ((1 : Int32) + ((p5 &&& (2147483647 : Int32)) % (6 : Int32)))), .val (.int ((p6 &&& (2147483647 : Int32)) % ((1 : Int32) + ((p5 &&& (2147483647 : Int32)) % (6 : Int32))))), .val (.ref b7), .val (.int ex)] [(.int (1 : Int32))])) _
    exact retN X12 hx (t := .boolean) Bd.returns (by simp) (hb hby at_184) hr
  · show Qlaw0 n0 _ T12.heap _
    rw [e12q]
    exact ⟨rfl, N12⟩
set_option maxRecDepth 65536 in
set_option maxHeartbeats 40000000 in
theorem rm0_3 (l : Launch) (Z : State) (a0 : Array Value) (hw : ∀ d ∈ tables_1, d.before a0 Z = true) (ws : List Jvm.Cond) (p1 : Int32) (p2 : Int32) (p3 : Int32) (p4 : Int32) (p5 : Int32) (p6 : Int32) (ex : Int32) (h0 : Heap) (n0 : Nat) (Z0 : n0 ≤ h0.size) (hE : (((p6 &&& (2147483647 : Int32)) % ((1 : Int32) + ((p5 &&& (2147483647 : Int32)) % (6 : Int32)))) = (0 : Int32) ∧ ex = p1) ∨ (¬ (((p6 &&& (2147483647 : Int32)) % ((1 : Int32) + ((p5 &&& (2147483647 : Int32)) % (6 : Int32)))) = (0 : Int32)) ∧ ((p6 &&& (2147483647 : Int32)) % ((1 : Int32) + ((p5 &&& (2147483647 : Int32)) % (6 : Int32)))) = (1 : Int32) ∧ ex = p2) ∨ (¬ (((p6 &&& (2147483647 : Int32)) % ((1 : Int32) + ((p5 &&& (2147483647 : Int32)) % (6 : Int32)))) = (0 : Int32)) ∧ ¬ (((p6 &&& (2147483647 : Int32)) % ((1 : Int32) + ((p5 &&& (2147483647 : Int32)) % (6 : Int32)))) = (1 : Int32)) ∧ ((p6 &&& (2147483647 : Int32)) % ((1 : Int32) + ((p5 &&& (2147483647 : Int32)) % (6 : Int32)))) = (2 : Int32) ∧ ex = p3) ∨ (¬ (((p6 &&& (2147483647 : Int32)) % ((1 : Int32) + ((p5 &&& (2147483647 : Int32)) % (6 : Int32)))) = (0 : Int32)) ∧ ¬ (((p6 &&& (2147483647 : Int32)) % ((1 : Int32) + ((p5 &&& (2147483647 : Int32)) % (6 : Int32)))) = (1 : Int32)) ∧ ¬ (((p6 &&& (2147483647 : Int32)) % ((1 : Int32) + ((p5 &&& (2147483647 : Int32)) % (6 : Int32)))) = (2 : Int32)) ∧ ((p6 &&& (2147483647 : Int32)) % ((1 : Int32) + ((p5 &&& (2147483647 : Int32)) % (6 : Int32)))) = (3 : Int32) ∧ ex = p4) ∨ (¬ (((p6 &&& (2147483647 : Int32)) % ((1 : Int32) + ((p5 &&& (2147483647 : Int32)) % (6 : Int32)))) = (0 : Int32)) ∧ ¬ (((p6 &&& (2147483647 : Int32)) % ((1 : Int32) + ((p5 &&& (2147483647 : Int32)) % (6 : Int32)))) = (1 : Int32)) ∧ ¬ (((p6 &&& (2147483647 : Int32)) % ((1 : Int32) + ((p5 &&& (2147483647 : Int32)) % (6 : Int32)))) = (2 : Int32)) ∧ ¬ (((p6 &&& (2147483647 : Int32)) % ((1 : Int32) + ((p5 &&& (2147483647 : Int32)) % (6 : Int32)))) = (3 : Int32)) ∧ ((p6 &&& (2147483647 : Int32)) % ((1 : Int32) + ((p5 &&& (2147483647 : Int32)) % (6 : Int32)))) = (4 : Int32) ∧ ex = (p1 ^^^ (-1 : Int32))) ∨ (¬ (((p6 &&& (2147483647 : Int32)) % ((1 : Int32) + ((p5 &&& (2147483647 : Int32)) % (6 : Int32)))) = (0 : Int32)) ∧ ¬ (((p6 &&& (2147483647 : Int32)) % ((1 : Int32) + ((p5 &&& (2147483647 : Int32)) % (6 : Int32)))) = (1 : Int32)) ∧ ¬ (((p6 &&& (2147483647 : Int32)) % ((1 : Int32) + ((p5 &&& (2147483647 : Int32)) % (6 : Int32)))) = (2 : Int32)) ∧ ¬ (((p6 &&& (2147483647 : Int32)) % ((1 : Int32) + ((p5 &&& (2147483647 : Int32)) % (6 : Int32)))) = (3 : Int32)) ∧ ¬ (((p6 &&& (2147483647 : Int32)) % ((1 : Int32) + ((p5 &&& (2147483647 : Int32)) % (6 : Int32)))) = (4 : Int32)) ∧ ex = (p2 ^^^ (-1 : Int32)))) (hr8 : ¬ ((((p6 &&& (2147483647 : Int32)) % ((1 : Int32) + ((p5 &&& (2147483647 : Int32)) % (6 : Int32)))).toUInt32 >>> ((16 : Int32) &&& 31).toUInt32).toInt32) < 0 ∧ ((((p6 &&& (2147483647 : Int32)) % ((1 : Int32) + ((p5 &&& (2147483647 : Int32)) % (6 : Int32)))).toUInt32 >>> ((16 : Int32) &&& 31).toUInt32).toInt32) < (1 : Int32)) (hk0 : ((((p6 &&& (2147483647 : Int32)) % ((1 : Int32) + ((p5 &&& (2147483647 : Int32)) % (6 : Int32)))).toUInt32 >>> ((16 : Int32) &&& 31).toUInt32).toInt32) = (0 : Int32)) (hr13 : ¬ (((p6 &&& (2147483647 : Int32)) % ((1 : Int32) + ((p5 &&& (2147483647 : Int32)) % (6 : Int32)))) &&& (65535 : Int32)) < 0 ∧ (((p6 &&& (2147483647 : Int32)) % ((1 : Int32) + ((p5 &&& (2147483647 : Int32)) % (6 : Int32)))) &&& (65535 : Int32)) < (16 : Int32)) (u13 : ((((own_z.set 0 (.int p1)).set 1 (.int p2)).set 2 (.int p3)) : List Value).getD (((p6 &&& (2147483647 : Int32)) % ((1 : Int32) + ((p5 &&& (2147483647 : Int32)) % (6 : Int32)))) &&& (65535 : Int32)).toNatClampNeg ((.int (0 : Int32)) : Value) = (.int ex)) (hnz19 : ¬ (((1 : Int32) + ((p5 &&& (2147483647 : Int32)) % (6 : Int32))) = (0 : Int32))) (hc40 : (1 : Int32) < ((1 : Int32) + ((p5 &&& (2147483647 : Int32)) % (6 : Int32)))) (hc52 : (2 : Int32) < ((1 : Int32) + ((p5 &&& (2147483647 : Int32)) % (6 : Int32)))) (hc64 : ¬ ((3 : Int32) < ((1 : Int32) + ((p5 &&& (2147483647 : Int32)) % (6 : Int32))))) (hc76 : ¬ ((4 : Int32) < ((1 : Int32) + ((p5 &&& (2147483647 : Int32)) % (6 : Int32))))) (hc90 : ¬ ((5 : Int32) < ((1 : Int32) + ((p5 &&& (2147483647 : Int32)) % (6 : Int32))))) :
    MetFree l x (head1 (Jvm.Cond.code x code maxLocals ret :: ws) room_1) (fun a U => a = #[(.int p1), (.int p2), (.int p3), (.int p4), (.int p5), (.int p6)] ∧ Z.Warmed39 U.vm ∧ U.heap = h0) (fun _ _ _ _ _ => True) (fun _ U o U' => ∃ v L, o = .returned v ∧ Qlaw0 n0 v U'.heap L ∧ FrameEnd U o U' L room_1.cells room_1.slots) := by
  refine MetFree.of_bodySF (plainFor_of_name pn_0) hisR ?_
  intro p e s m args below meth c s₁ Bd hml0 hP hK
  obtain ⟨rfl, hZ, hh⟩ := hP
  have hx := Bd.exec
  have hby := Bd.bytes
  have hml : c.maxLocals = 10 := hml0
  have hown : s.vm.findClass "com/example/hearsay/hearsay/graph/IntListGetPinLaw" = some m.cls := findClass_of_methodNamed Bd.named
  have hnm := (name_of_methodNamed Bd.named Bd.method).1
  have X0 : Stand p l e room_1 s m #[(.int p1), (.int p2), (.int p3), (.int p4), (.int p5), (.int p6)] below meth c s₁ [] 0 0 := Stand.of_body Bd
  have e0 : s₁.heap = h0 := by rw [← hh, Bd.state]; rfl
  have N0 := Fr.nil n0
  have pre0 : ∀ t, Steps p.tables e below (s₁.setTop (mkF m 0 #[.val (.int p1), .val (.int p2), .val (.int p3), .val (.int p4), .val (.int p5), .val (.int p6), .unset, .unset, .unset, .unset] [])) t → Steps p.tables e below (s₁.setTop (entryFrame m #[(.int p1), (.int p2), (.int p3), (.int p4), (.int p5), (.int p6)] maxLocals)) t := fun t k => castTop (ef_0 m p1 p2 p3 p4 p5 p6) k
  obtain ⟨T7, h7, X7, e7, E7, A7, D7, -, st7⟩ := newO X0 hx hZ hown (hw _ (List.mem_of_getElem? (i := 1) rfl)) (hw _ (List.mem_of_getElem? (i := 2) rfl)) (hw _ (List.mem_of_getElem? (i := 3) rfl)) e0 (g := (mkF m 22 #[.val (.int p1), .val (.int p2), .val (.int p3), .val (.int p4), .val (.int p5), .val (.int p6), .val (.int ((1 : Int32) + ((p5 &&& (2147483647 : Int32)) % (6 : Int32)))), .val (.int ((p6 &&& (2147483647 : Int32)) % ((1 : Int32) + ((p5 &&& (2147483647 : Int32)) % (6 : Int32))))), .unset, .unset] [])) rfl (hb hby at_22) (by decide) (by decide)
  obtain ⟨b7, g7⟩ : ∃ z, z = h0.size := ⟨_, rfl⟩
  rw [← g7] at A7 D7 st7
  have F_chunks_b7 : Fld Z h7 b7 "com/example/hearsay/hearsay/graph/IntList" "chunks" "[[I" .null := D7 (Or.inl (hw _ (List.mem_of_getElem? (i := 15) rfl))) (ty := (.array (.array .int))) (by decide)
  have F_size_b7 : Fld Z h7 b7 "com/example/hearsay/hearsay/graph/IntList" "size" "I" (.int (0 : Int32)) := D7 (Or.inl (hw _ (List.mem_of_getElem? (i := 22) rfl))) (ty := .int) (by decide)
  have E_b7 := A7
  have g_b7 : n0 ≤ b7 := Nat.le_trans Z0 (Nat.le_of_eq g7.symm)
  have sz_b7 : h0.size ≤ b7 := (Nat.le_trans (Keep.refl h0 []).1 (Nat.le_of_eq g7.symm))
  have K7 : Keep h0 h7 [] := (Keep.refl h0 []).ext E7
  obtain ⟨_, _, ⟨T8, L8, k8, n8⟩, -, X8, ⟨Lc8, hQ8, l8, y8, z8⟩, st8⟩ := X7.specialBack hx (y := (⟨"com/example/hearsay/hearsay/graph/IntList", "<init>", "()V"⟩ : MethodName)) rfl hown (mvT hZ (hw _ (List.mem_of_getElem? (i := 4) rfl))) (mvT hZ (hw _ (List.mem_of_getElem? (i := 5) rfl))) (mvT hZ (hw _ (List.mem_of_getElem? (i := 6) rfl))) (by decide) (backOf (W := 1) (rm1 l Z a0 hw [] b7 .null h7 n0 (Nat.le_trans Z0 E7.1) F_size_b7 E_b7 F_chunks_b7 g_b7) hZ (hw _ (List.mem_of_getElem? (i := 6) rfl)) (hw _ (List.mem_of_getElem? (i := 3) rfl)) (by decide) (by decide)) (g := (mkF m 26 #[.val (.int p1), .val (.int p2), .val (.int p3), .val (.int p4), .val (.int p5), .val (.int p6), .val (.int ((1 : Int32) + ((p5 &&& (2147483647 : Int32)) % (6 : Int32)))), .val (.int ((p6 &&& (2147483647 : Int32)) % ((1 : Int32) + ((p5 &&& (2147483647 : Int32)) % (6 : Int32))))), .unset, .unset] [(.ref b7), (.ref b7)])) rfl (by rw [hml]; rfl) (Steps.refl _) (a := b7) (argsL := []) (rest := [(.ref b7)]) (lenOf pd_0_0 rfl) rfl (by show 2 * 0 + _ ≤ _; exact Nat.le_of_eq rfl) (hb hby at_26) (fun _ _ => ⟨rfl, e7, (by decide : 1 + 2 ≤ _), (by decide : 2 + 17 ≤ _)⟩)
  dsimp only [Pt.U, Pt.locs, Pt.cells, Pt.slots] at X8 l8 y8 z8 st8 hQ8
  subst l8 y8 z8
  obtain ⟨rfl, N8q, K8q, ch, c0, kA, kI, gch, gc0, ne3, E8q, Fc8q, Fs8q, Vh8q, Vd8q⟩ := hQ8
  have N8 := Fr.app N0 N8q
  have KK8 : Keep h0 T8.heap [] := K7.trans K8q (allS (Or.inr sz_b7) all0)
  have sz_ch : h0.size ≤ ch := Nat.le_trans K7.1 gch
  have sz_c0 : h0.size ≤ c0 := Nat.le_trans K7.1 gc0
  have g_ch : n0 ≤ ch := Nat.le_trans Z0 sz_ch
  have g_c0 : n0 ≤ c0 := Nat.le_trans Z0 sz_c0
  have ne1 : b7 ≠ ch := Nat.ne_of_lt (Nat.lt_of_lt_of_le E_b7.lt gch)
  have ne2 : b7 ≠ c0 := Nat.ne_of_lt (Nat.lt_of_lt_of_le E_b7.lt gc0)
  obtain ⟨cq9, kq9, q9a, q9b, q9c⟩ := isOf hZ rfl E8q
  obtain ⟨_, _, ⟨T9, L9, k9, n9⟩, -, X9, ⟨Lc9, hQ9, l9, y9, z9⟩, st9⟩ := X8.virtualBack hx (y := (⟨"com/example/hearsay/hearsay/graph/IntList", "add", "(I)V"⟩ : MethodName)) (z := (⟨"com/example/hearsay/hearsay/graph/IntList", "add", "(I)V"⟩ : MethodName)) hown (mvT hZ (hw _ (List.mem_of_getElem? (i := 16) rfl))) (mvT hZ (hw _ (List.mem_of_getElem? (i := 17) rfl))) (notFace_of_selects (args := #[]) (mvT hZ (hw _ (List.mem_of_getElem? (i := 19) rfl)))) (mvT hZ (hw _ (List.mem_of_getElem? (i := 19) rfl))) (mvT hZ (hw _ (List.mem_of_getElem? (i := 18) rfl))) (by decide) (backOf (W := 0) (rm3 l Z a0 hw [] b7 p1 ch c0 kA kI (0 : Int32) own_z 0 T8.heap n0 (Nat.le_trans (Nat.le_trans Z0 E7.1) K8q.1) ne1 ne2 ne3 Vh8q Vd8q Fs8q Fc8q (by decide) (own_u c0 (by decide)) (by decide) rfl (by decide) (own_u c0 (by decide)) (by decide) (by decide) (Nat.le_of_ble_eq_true rfl) g_c0 E8q g_b7 (by decide) (by decide) (by decide)) hZ (hw _ (List.mem_of_getElem? (i := 20) rfl)) (hw _ (List.mem_of_getElem? (i := 3) rfl)) (by decide) (by decide)) q9a q9c (g := (mkF m 34 #[.val (.int p1), .val (.int p2), .val (.int p3), .val (.int p4), .val (.int p5), .val (.int p6), .val (.int ((1 : Int32) + ((p5 &&& (2147483647 : Int32)) % (6 : Int32)))), .val (.int ((p6 &&& (2147483647 : Int32)) % ((1 : Int32) + ((p5 &&& (2147483647 : Int32)) % (6 : Int32))))), .val (.ref b7), .unset] [(.int p1), (.ref b7)])) rfl (by rw [hml]; rfl) (Steps.refl _) (argsL := [(.int p1)]) (rest := []) (lenOf pd_0_1 rfl) rfl (by show 2 * 0 + _ ≤ _; exact Nat.le_of_eq rfl) (hb hby at_34) (fun _ _ => ⟨rfl, rfl, (by decide : 3 + 0 ≤ _), (by decide : 19 + 0 ≤ _)⟩)
  dsimp only [Pt.U, Pt.locs, Pt.cells, Pt.slots] at X9 l9 y9 z9 st9 hQ9
  subst l9 y9 z9
  obtain ⟨rfl, N9q, K9q, E9q, Fc9q, Fs9q, Vh9q, Vd9q⟩ := hQ9
  have N9 := Fr.app N8 N9q
  have KK9 : Keep h0 T9.heap [] := KK8.trans K9q (allS (Or.inr sz_c0) (allS (Or.inr sz_b7) all0))
  obtain ⟨cq10, kq10, q10a, q10b, q10c⟩ := isOf hZ rfl E9q
  obtain ⟨_, _, ⟨T10, L10, k10, n10⟩, -, X10, ⟨Lc10, hQ10, l10, y10, z10⟩, st10⟩ := X9.virtualBack hx (y := (⟨"com/example/hearsay/hearsay/graph/IntList", "add", "(I)V"⟩ : MethodName)) (z := (⟨"com/example/hearsay/hearsay/graph/IntList", "add", "(I)V"⟩ : MethodName)) hown (mvT hZ (hw _ (List.mem_of_getElem? (i := 16) rfl))) (mvT hZ (hw _ (List.mem_of_getElem? (i := 17) rfl))) (notFace_of_selects (args := #[]) (mvT hZ (hw _ (List.mem_of_getElem? (i := 19) rfl)))) (mvT hZ (hw _ (List.mem_of_getElem? (i := 19) rfl))) (mvT hZ (hw _ (List.mem_of_getElem? (i := 18) rfl))) (by decide) (backOf (W := 0) (rm3 l Z a0 hw [] b7 p2 ch c0 kA kI ((0 : Int32) + (1 : Int32)) (own_z.set 0 (.int p1)) 1 T9.heap n0 (Nat.le_trans (Nat.le_trans (Nat.le_trans Z0 E7.1) K8q.1) K9q.1) ne1 ne2 ne3 Vh9q Vd9q Fs9q Fc9q (by decide) (own_u c0 (by decide)) (by decide) rfl (by decide) (own_u c0 (by decide)) (by decide) (by decide) (Nat.le_of_ble_eq_true rfl) g_c0 E9q g_b7 (by decide) (by decide) (by decide)) hZ (hw _ (List.mem_of_getElem? (i := 20) rfl)) (hw _ (List.mem_of_getElem? (i := 3) rfl)) (by decide) (by decide)) q10a q10c (g := (mkF m 46 #[.val (.int p1), .val (.int p2), .val (.int p3), .val (.int p4), .val (.int p5), .val (.int p6), .val (.int ((1 : Int32) + ((p5 &&& (2147483647 : Int32)) % (6 : Int32)))), .val (.int ((p6 &&& (2147483647 : Int32)) % ((1 : Int32) + ((p5 &&& (2147483647 : Int32)) % (6 : Int32))))), .val (.ref b7), .unset] [(.int p2), (.ref b7)])) rfl (by rw [hml]; rfl) (Steps.refl _) (argsL := [(.int p2)]) (rest := []) (lenOf pd_0_1 rfl) rfl (by show 2 * 0 + _ ≤ _; exact Nat.le_of_eq rfl) (hb hby at_46) (fun _ _ => ⟨rfl, rfl, (by decide : 3 + 0 ≤ _), (by decide : 19 + 0 ≤ _)⟩)
  dsimp only [Pt.U, Pt.locs, Pt.cells, Pt.slots] at X10 l10 y10 z10 st10 hQ10
  subst l10 y10 z10
  obtain ⟨rfl, N10q, K10q, E10q, Fc10q, Fs10q, Vh10q, Vd10q⟩ := hQ10
  have N10 := Fr.app N9 N10q
  have KK10 : Keep h0 T10.heap [] := KK9.trans K10q (allS (Or.inr sz_c0) (allS (Or.inr sz_b7) all0))
  obtain ⟨cq11, kq11, q11a, q11b, q11c⟩ := isOf hZ rfl E10q
  obtain ⟨_, _, ⟨T11, L11, k11, n11⟩, -, X11, ⟨Lc11, hQ11, l11, y11, z11⟩, st11⟩ := X10.virtualBack hx (y := (⟨"com/example/hearsay/hearsay/graph/IntList", "add", "(I)V"⟩ : MethodName)) (z := (⟨"com/example/hearsay/hearsay/graph/IntList", "add", "(I)V"⟩ : MethodName)) hown (mvT hZ (hw _ (List.mem_of_getElem? (i := 16) rfl))) (mvT hZ (hw _ (List.mem_of_getElem? (i := 17) rfl))) (notFace_of_selects (args := #[]) (mvT hZ (hw _ (List.mem_of_getElem? (i := 19) rfl)))) (mvT hZ (hw _ (List.mem_of_getElem? (i := 19) rfl))) (mvT hZ (hw _ (List.mem_of_getElem? (i := 18) rfl))) (by decide) (backOf (W := 0) (rm3 l Z a0 hw [] b7 p3 ch c0 kA kI (((0 : Int32) + (1 : Int32)) + (1 : Int32)) ((own_z.set 0 (.int p1)).set 1 (.int p2)) 2 T10.heap n0 (Nat.le_trans (Nat.le_trans (Nat.le_trans (Nat.le_trans Z0 E7.1) K8q.1) K9q.1) K10q.1) ne1 ne2 ne3 Vh10q Vd10q Fs10q Fc10q (by decide) (own_u c0 (by decide)) (by decide) rfl (by decide) (own_u c0 (by decide)) (by decide) (by decide) (Nat.le_of_ble_eq_true rfl) g_c0 E10q g_b7 (by decide) (by decide) (by decide)) hZ (hw _ (List.mem_of_getElem? (i := 20) rfl)) (hw _ (List.mem_of_getElem? (i := 3) rfl)) (by decide) (by decide)) q11a q11c (g := (mkF m 58 #[.val (.int p1), .val (.int p2), .val (.int p3), .val (.int p4), .val (.int p5), .val (.int p6), .val (.int ((1 : Int32) + ((p5 &&& (2147483647 : Int32)) % (6 : Int32)))), .val (.int ((p6 &&& (2147483647 : Int32)) % ((1 : Int32) + ((p5 &&& (2147483647 : Int32)) % (6 : Int32))))), .val (.ref b7), .unset] [(.int p3), (.ref b7)])) rfl (by rw [hml]; rfl) (Steps.refl _) (argsL := [(.int p3)]) (rest := []) (lenOf pd_0_1 rfl) rfl (by show 2 * 0 + _ ≤ _; exact Nat.le_of_eq rfl) (hb hby at_58) (fun _ _ => ⟨rfl, rfl, (by decide : 3 + 0 ≤ _), (by decide : 19 + 0 ≤ _)⟩)
  dsimp only [Pt.U, Pt.locs, Pt.cells, Pt.slots] at X11 l11 y11 z11 st11 hQ11
  subst l11 y11 z11
  obtain ⟨rfl, N11q, K11q, E11q, Fc11q, Fs11q, Vh11q, Vd11q⟩ := hQ11
  have N11 := Fr.app N10 N11q
  have KK11 : Keep h0 T11.heap [] := KK10.trans K11q (allS (Or.inr sz_c0) (allS (Or.inr sz_b7) all0))
  obtain ⟨T12, X12, e12, st12⟩ := own_exp ex p1 p2 p3 p4 (.val (.int p5)) (.val (.int p6)) (.val (.int ((1 : Int32) + ((p5 &&& (2147483647 : Int32)) % (6 : Int32))))) ((p6 &&& (2147483647 : Int32)) % ((1 : Int32) + ((p5 &&& (2147483647 : Int32)) % (6 : Int32)))) (.val (.ref b7)) .unset X11 hx hZ hw hby hml hown rfl One.u hE
  obtain ⟨cq13, kq13, q13a, q13b, q13c⟩ := isOf hZ e12 E11q
  obtain ⟨_, _, ⟨T13, L13, k13, n13⟩, -, X13, ⟨Lc13, hQ13, l13, y13, z13⟩, st13⟩ := X12.virtualBack hx (y := (⟨"com/example/hearsay/hearsay/graph/IntList", "get", "(I)I"⟩ : MethodName)) (z := (⟨"com/example/hearsay/hearsay/graph/IntList", "get", "(I)I"⟩ : MethodName)) hown (mvT hZ (hw _ (List.mem_of_getElem? (i := 24) rfl))) (mvT hZ (hw _ (List.mem_of_getElem? (i := 25) rfl))) (notFace_of_selects (args := #[]) (mvT hZ (hw _ (List.mem_of_getElem? (i := 27) rfl)))) (mvT hZ (hw _ (List.mem_of_getElem? (i := 27) rfl))) (mvT hZ (hw _ (List.mem_of_getElem? (i := 26) rfl))) (by decide) (backOf (W := 0) (rm4 l Z a0 hw [] b7 ((p6 &&& (2147483647 : Int32)) % ((1 : Int32) + ((p5 &&& (2147483647 : Int32)) % (6 : Int32)))) ch c0 kA kI (((own_z.set 0 (.int p1)).set 1 (.int p2)).set 2 (.int p3)) ex T11.heap n0 (Nat.le_trans (Nat.le_trans (Nat.le_trans (Nat.le_trans (Nat.le_trans Z0 E7.1) K8q.1) K9q.1) K10q.1) K11q.1) Vh11q Vd11q Fc11q hr8 (own_u c0 hk0) hr13 u13) hZ (hw _ (List.mem_of_getElem? (i := 28) rfl)) (hw _ (List.mem_of_getElem? (i := 3) rfl)) (by decide) (by decide)) q13a q13c (g := (mkF m 171 #[.val (.int p1), .val (.int p2), .val (.int p3), .val (.int p4), .val (.int p5), .val (.int p6), .val (.int ((1 : Int32) + ((p5 &&& (2147483647 : Int32)) % (6 : Int32)))), .val (.int ((p6 &&& (2147483647 : Int32)) % ((1 : Int32) + ((p5 &&& (2147483647 : Int32)) % (6 : Int32))))), .val (.ref b7), .val (.int ex)] [(.int ((p6 &&& (2147483647 : Int32)) % ((1 : Int32) + ((p5 &&& (2147483647 : Int32)) % (6 : Int32))))), (.ref b7)])) rfl (by rw [hml]; rfl) (Steps.refl _) (argsL := [(.int ((p6 &&& (2147483647 : Int32)) % ((1 : Int32) + ((p5 &&& (2147483647 : Int32)) % (6 : Int32)))))]) (rest := []) (lenOf pd_0_2 rfl) rfl (by show 2 * 0 + _ ≤ _; exact Nat.le_of_eq rfl) (hb hby at_171) (fun _ _ => ⟨rfl, e12, (by decide : 3 + 0 ≤ _), (by decide : 19 + 0 ≤ _)⟩)
  dsimp only [Pt.U, Pt.locs, Pt.cells, Pt.slots] at X13 l13 y13 z13 st13 hQ13
  subst l13 y13 z13
  obtain ⟨rfl, N13q, e13q⟩ := hQ13
  have N13 := Fr.app N11 N13q
  obtain ⟨fs, hr, hrun, hended, hW, hsame⟩ := X13.leave (v := some (.int (1 : Int32))) (fun h => by rw [Bd.returns] at h; cases h)
  refine ⟨_, _, pre0 _ ?_, hrun, hended, _, _, rfl, ?_, ⟨_, rfl⟩, hW, hsame.mono (by decide) (by decide)⟩
  · show Steps p.tables e below (s₁.setTop (mkF m 0 #[.val (.int p1), .val (.int p2), .val (.int p3), .val (.int p4), .val (.int p5), .val (.int p6), .unset, .unset, .unset, .unset] [])) _
    refine XS.iconst X0.here hx rfl (hb hby at_0) ?_
    show Steps p.tables e below (s₁.setTop (mkF m 1 #[.val (.int p1), .val (.int p2), .val (.int p3), .val (.int p4), .val (.int p5), .val (.int p6), .unset, .unset, .unset, .unset] [(.int (1 : Int32))])) _
    refine XS.iload X0.here hx rfl (hb hby at_1) rfl ?_
    show Steps p.tables e below (s₁.setTop (mkF m 3 #[.val (.int p1), .val (.int p2), .val (.int p3), .val (.int p4), .val (.int p5), .val (.int p6), .unset, .unset, .unset, .unset] [(.int p5), (.int (1 : Int32))])) _
    refine X0.ldcInt hx hown (mvT hZ (hw _ (List.mem_of_getElem? (i := 0) rfl))) (g := (mkF m 3 #[.val (.int p1), .val (.int p2), .val (.int p3), .val (.int p4), .val (.int p5), .val (.int p6), .unset, .unset, .unset, .unset] [(.int p5), (.int (1 : Int32))])) rfl (hb hby at_3) _ ?_
    show Steps p.tables e below (s₁.setTop (mkF m 5 #[.val (.int p1), .val (.int p2), .val (.int p3), .val (.int p4), .val (.int p5), .val (.int p6), .unset, .unset, .unset, .unset] [(.int (2147483647 : Int32)), (.int p5), (.int (1 : Int32))])) _
    refine XS.iand X0.here hx rfl (hb hby at_5) rfl ?_
    show Steps p.tables e below (s₁.setTop (mkF m 6 #[.val (.int p1), .val (.int p2), .val (.int p3), .val (.int p4), .val (.int p5), .val (.int p6), .unset, .unset, .unset, .unset] [(.int (p5 &&& (2147483647 : Int32))), (.int (1 : Int32))])) _
    refine XS.bipush X0.here hx rfl (hb hby at_6) ?_
    show Steps p.tables e below (s₁.setTop (mkF m 8 #[.val (.int p1), .val (.int p2), .val (.int p3), .val (.int p4), .val (.int p5), .val (.int p6), .unset, .unset, .unset, .unset] [(.int (6 : Int32)), (.int (p5 &&& (2147483647 : Int32))), (.int (1 : Int32))])) _
    refine iremM (g := (mkF m 8 #[.val (.int p1), .val (.int p2), .val (.int p3), .val (.int p4), .val (.int p5), .val (.int p6), .unset, .unset, .unset, .unset] [(.int (6 : Int32)), (.int (p5 &&& (2147483647 : Int32))), (.int (1 : Int32))])) X0 hx rfl (hb hby at_8) rfl (by decide) ?_
    show Steps p.tables e below (s₁.setTop (mkF m 9 #[.val (.int p1), .val (.int p2), .val (.int p3), .val (.int p4), .val (.int p5), .val (.int p6), .unset, .unset, .unset, .unset] [(.int ((p5 &&& (2147483647 : Int32)) % (6 : Int32))), (.int (1 : Int32))])) _
    refine XS.iadd X0.here hx rfl (hb hby at_9) rfl ?_
    show Steps p.tables e below (s₁.setTop (mkF m 10 #[.val (.int p1), .val (.int p2), .val (.int p3), .val (.int p4), .val (.int p5), .val (.int p6), .unset, .unset, .unset, .unset] [(.int ((1 : Int32) + ((p5 &&& (2147483647 : Int32)) % (6 : Int32))))])) _
    refine XS.istore X0.here hx rfl (hb hby at_10) rfl (l' := #[.val (.int p1), .val (.int p2), .val (.int p3), .val (.int p4), .val (.int p5), .val (.int p6), .val (.int ((1 : Int32) + ((p5 &&& (2147483647 : Int32)) % (6 : Int32)))), .unset, .unset, .unset]) rfl ?_
    show Steps p.tables e below (s₁.setTop (mkF m 12 #[.val (.int p1), .val (.int p2), .val (.int p3), .val (.int p4), .val (.int p5), .val (.int p6), .val (.int ((1 : Int32) + ((p5 &&& (2147483647 : Int32)) % (6 : Int32)))), .unset, .unset, .unset] [])) _
    refine XS.iload X0.here hx rfl (hb hby at_12) rfl ?_
    show Steps p.tables e below (s₁.setTop (mkF m 14 #[.val (.int p1), .val (.int p2), .val (.int p3), .val (.int p4), .val (.int p5), .val (.int p6), .val (.int ((1 : Int32) + ((p5 &&& (2147483647 : Int32)) % (6 : Int32)))), .unset, .unset, .unset] [(.int p6)])) _
    refine X0.ldcInt hx hown (mvT hZ (hw _ (List.mem_of_getElem? (i := 0) rfl))) (g := (mkF m 14 #[.val (.int p1), .val (.int p2), .val (.int p3), .val (.int p4), .val (.int p5), .val (.int p6), .val (.int ((1 : Int32) + ((p5 &&& (2147483647 : Int32)) % (6 : Int32)))), .unset, .unset, .unset] [(.int p6)])) rfl (hb hby at_14) _ ?_
    show Steps p.tables e below (s₁.setTop (mkF m 16 #[.val (.int p1), .val (.int p2), .val (.int p3), .val (.int p4), .val (.int p5), .val (.int p6), .val (.int ((1 : Int32) + ((p5 &&& (2147483647 : Int32)) % (6 : Int32)))), .unset, .unset, .unset] [(.int (2147483647 : Int32)), (.int p6)])) _
    refine XS.iand X0.here hx rfl (hb hby at_16) rfl ?_
    show Steps p.tables e below (s₁.setTop (mkF m 17 #[.val (.int p1), .val (.int p2), .val (.int p3), .val (.int p4), .val (.int p5), .val (.int p6), .val (.int ((1 : Int32) + ((p5 &&& (2147483647 : Int32)) % (6 : Int32)))), .unset, .unset, .unset] [(.int (p6 &&& (2147483647 : Int32)))])) _
    refine XS.iload X0.here hx rfl (hb hby at_17) rfl ?_
    show Steps p.tables e below (s₁.setTop (mkF m 19 #[.val (.int p1), .val (.int p2), .val (.int p3), .val (.int p4), .val (.int p5), .val (.int p6), .val (.int ((1 : Int32) + ((p5 &&& (2147483647 : Int32)) % (6 : Int32)))), .unset, .unset, .unset] [(.int ((1 : Int32) + ((p5 &&& (2147483647 : Int32)) % (6 : Int32)))), (.int (p6 &&& (2147483647 : Int32)))])) _
    refine iremM (g := (mkF m 19 #[.val (.int p1), .val (.int p2), .val (.int p3), .val (.int p4), .val (.int p5), .val (.int p6), .val (.int ((1 : Int32) + ((p5 &&& (2147483647 : Int32)) % (6 : Int32)))), .unset, .unset, .unset] [(.int ((1 : Int32) + ((p5 &&& (2147483647 : Int32)) % (6 : Int32)))), (.int (p6 &&& (2147483647 : Int32)))])) X0 hx rfl (hb hby at_19) rfl hnz19 ?_
    show Steps p.tables e below (s₁.setTop (mkF m 20 #[.val (.int p1), .val (.int p2), .val (.int p3), .val (.int p4), .val (.int p5), .val (.int p6), .val (.int ((1 : Int32) + ((p5 &&& (2147483647 : Int32)) % (6 : Int32)))), .unset, .unset, .unset] [(.int ((p6 &&& (2147483647 : Int32)) % ((1 : Int32) + ((p5 &&& (2147483647 : Int32)) % (6 : Int32)))))])) _
    refine XS.istore X0.here hx rfl (hb hby at_20) rfl (l' := #[.val (.int p1), .val (.int p2), .val (.int p3), .val (.int p4), .val (.int p5), .val (.int p6), .val (.int ((1 : Int32) + ((p5 &&& (2147483647 : Int32)) % (6 : Int32)))), .val (.int ((p6 &&& (2147483647 : Int32)) % ((1 : Int32) + ((p5 &&& (2147483647 : Int32)) % (6 : Int32))))), .unset, .unset]) rfl ?_
    show Steps p.tables e below (s₁.setTop (mkF m 22 #[.val (.int p1), .val (.int p2), .val (.int p3), .val (.int p4), .val (.int p5), .val (.int p6), .val (.int ((1 : Int32) + ((p5 &&& (2147483647 : Int32)) % (6 : Int32)))), .val (.int ((p6 &&& (2147483647 : Int32)) % ((1 : Int32) + ((p5 &&& (2147483647 : Int32)) % (6 : Int32))))), .unset, .unset] [])) _
    refine st7 _ ?_
    show Steps p.tables e below (T7.setTop (mkF m 25 #[.val (.int p1), .val (.int p2), .val (.int p3), .val (.int p4), .val (.int p5), .val (.int p6), .val (.int ((1 : Int32) + ((p5 &&& (2147483647 : Int32)) % (6 : Int32)))), .val (.int ((p6 &&& (2147483647 : Int32)) % ((1 : Int32) + ((p5 &&& (2147483647 : Int32)) % (6 : Int32))))), .unset, .unset] [(.ref b7)])) _
    refine XS.dup X7.here hx rfl (hb hby at_25) rfl rfl ?_
    show Steps p.tables e below (T7.setTop (mkF m 26 #[.val (.int p1), .val (.int p2), .val (.int p3), .val (.int p4), .val (.int p5), .val (.int p6), .val (.int ((1 : Int32) + ((p5 &&& (2147483647 : Int32)) % (6 : Int32)))), .val (.int ((p6 &&& (2147483647 : Int32)) % ((1 : Int32) + ((p5 &&& (2147483647 : Int32)) % (6 : Int32))))), .unset, .unset] [(.ref b7), (.ref b7)])) _
    refine st8.trans ?_
    show Steps p.tables e below (T8.setTop (mkF m 29 #[.val (.int p1), .val (.int p2), .val (.int p3), .val (.int p4), .val (.int p5), .val (.int p6), .val (.int ((1 : Int32) + ((p5 &&& (2147483647 : Int32)) % (6 : Int32)))), .val (.int ((p6 &&& (2147483647 : Int32)) % ((1 : Int32) + ((p5 &&& (2147483647 : Int32)) % (6 : Int32))))), .unset, .unset] [(.ref b7)])) _
    refine XS.astore X8.here hx rfl (hb hby at_29) rfl rfl (l' := #[.val (.int p1), .val (.int p2), .val (.int p3), .val (.int p4), .val (.int p5), .val (.int p6), .val (.int ((1 : Int32) + ((p5 &&& (2147483647 : Int32)) % (6 : Int32)))), .val (.int ((p6 &&& (2147483647 : Int32)) % ((1 : Int32) + ((p5 &&& (2147483647 : Int32)) % (6 : Int32))))), .val (.ref b7), .unset]) rfl ?_
    show Steps p.tables e below (T8.setTop (mkF m 31 #[.val (.int p1), .val (.int p2), .val (.int p3), .val (.int p4), .val (.int p5), .val (.int p6), .val (.int ((1 : Int32) + ((p5 &&& (2147483647 : Int32)) % (6 : Int32)))), .val (.int ((p6 &&& (2147483647 : Int32)) % ((1 : Int32) + ((p5 &&& (2147483647 : Int32)) % (6 : Int32))))), .val (.ref b7), .unset] [])) _
    refine XS.aload X8.here hx rfl (hb hby at_31) rfl rfl ?_
    show Steps p.tables e below (T8.setTop (mkF m 33 #[.val (.int p1), .val (.int p2), .val (.int p3), .val (.int p4), .val (.int p5), .val (.int p6), .val (.int ((1 : Int32) + ((p5 &&& (2147483647 : Int32)) % (6 : Int32)))), .val (.int ((p6 &&& (2147483647 : Int32)) % ((1 : Int32) + ((p5 &&& (2147483647 : Int32)) % (6 : Int32))))), .val (.ref b7), .unset] [(.ref b7)])) _
    refine XS.iloadN X8.here hx rfl (hb hby at_33) rfl ?_
    show Steps p.tables e below (T8.setTop (mkF m 34 #[.val (.int p1), .val (.int p2), .val (.int p3), .val (.int p4), .val (.int p5), .val (.int p6), .val (.int ((1 : Int32) + ((p5 &&& (2147483647 : Int32)) % (6 : Int32)))), .val (.int ((p6 &&& (2147483647 : Int32)) % ((1 : Int32) + ((p5 &&& (2147483647 : Int32)) % (6 : Int32))))), .val (.ref b7), .unset] [(.int p1), (.ref b7)])) _
    refine st9.trans ?_
    show Steps p.tables e below (T9.setTop (mkF m 37 #[.val (.int p1), .val (.int p2), .val (.int p3), .val (.int p4), .val (.int p5), .val (.int p6), .val (.int ((1 : Int32) + ((p5 &&& (2147483647 : Int32)) % (6 : Int32)))), .val (.int ((p6 &&& (2147483647 : Int32)) % ((1 : Int32) + ((p5 &&& (2147483647 : Int32)) % (6 : Int32))))), .val (.ref b7), .unset] [])) _
    refine XS.iload X9.here hx rfl (hb hby at_37) rfl ?_
    show Steps p.tables e below (T9.setTop (mkF m 39 #[.val (.int p1), .val (.int p2), .val (.int p3), .val (.int p4), .val (.int p5), .val (.int p6), .val (.int ((1 : Int32) + ((p5 &&& (2147483647 : Int32)) % (6 : Int32)))), .val (.int ((p6 &&& (2147483647 : Int32)) % ((1 : Int32) + ((p5 &&& (2147483647 : Int32)) % (6 : Int32))))), .val (.ref b7), .unset] [(.int ((1 : Int32) + ((p5 &&& (2147483647 : Int32)) % (6 : Int32))))])) _
    refine XS.iconst X9.here hx rfl (hb hby at_39) ?_
    show Steps p.tables e below (T9.setTop (mkF m 40 #[.val (.int p1), .val (.int p2), .val (.int p3), .val (.int p4), .val (.int p5), .val (.int p6), .val (.int ((1 : Int32) + ((p5 &&& (2147483647 : Int32)) % (6 : Int32)))), .val (.int ((p6 &&& (2147483647 : Int32)) % ((1 : Int32) + ((p5 &&& (2147483647 : Int32)) % (6 : Int32))))), .val (.ref b7), .unset] [(.int (1 : Int32)), (.int ((1 : Int32) + ((p5 &&& (2147483647 : Int32)) % (6 : Int32))))])) _
    refine XS.icmpNo X9.here hx rfl (hb hby at_40) rfl (tlt hc40).2.2.2 ?_
    show Steps p.tables e below (T9.setTop (mkF m 43 #[.val (.int p1), .val (.int p2), .val (.int p3), .val (.int p4), .val (.int p5), .val (.int p6), .val (.int ((1 : Int32) + ((p5 &&& (2147483647 : Int32)) % (6 : Int32)))), .val (.int ((p6 &&& (2147483647 : Int32)) % ((1 : Int32) + ((p5 &&& (2147483647 : Int32)) % (6 : Int32))))), .val (.ref b7), .unset] [])) _
    refine XS.aload X9.here hx rfl (hb hby at_43) rfl rfl ?_
    show Steps p.tables e below (T9.setTop (mkF m 45 #[.val (.int p1), .val (.int p2), .val (.int p3), .val (.int p4), .val (.int p5), .val (.int p6), .val (.int ((1 : Int32) + ((p5 &&& (2147483647 : Int32)) % (6 : Int32)))), .val (.int ((p6 &&& (2147483647 : Int32)) % ((1 : Int32) + ((p5 &&& (2147483647 : Int32)) % (6 : Int32))))), .val (.ref b7), .unset] [(.ref b7)])) _
    refine XS.iloadN X9.here hx rfl (hb hby at_45) rfl ?_
    show Steps p.tables e below (T9.setTop (mkF m 46 #[.val (.int p1), .val (.int p2), .val (.int p3), .val (.int p4), .val (.int p5), .val (.int p6), .val (.int ((1 : Int32) + ((p5 &&& (2147483647 : Int32)) % (6 : Int32)))), .val (.int ((p6 &&& (2147483647 : Int32)) % ((1 : Int32) + ((p5 &&& (2147483647 : Int32)) % (6 : Int32))))), .val (.ref b7), .unset] [(.int p2), (.ref b7)])) _
    refine st10.trans ?_
    show Steps p.tables e below (T10.setTop (mkF m 49 #[.val (.int p1), .val (.int p2), .val (.int p3), .val (.int p4), .val (.int p5), .val (.int p6), .val (.int ((1 : Int32) + ((p5 &&& (2147483647 : Int32)) % (6 : Int32)))), .val (.int ((p6 &&& (2147483647 : Int32)) % ((1 : Int32) + ((p5 &&& (2147483647 : Int32)) % (6 : Int32))))), .val (.ref b7), .unset] [])) _
    refine XS.iload X10.here hx rfl (hb hby at_49) rfl ?_
    show Steps p.tables e below (T10.setTop (mkF m 51 #[.val (.int p1), .val (.int p2), .val (.int p3), .val (.int p4), .val (.int p5), .val (.int p6), .val (.int ((1 : Int32) + ((p5 &&& (2147483647 : Int32)) % (6 : Int32)))), .val (.int ((p6 &&& (2147483647 : Int32)) % ((1 : Int32) + ((p5 &&& (2147483647 : Int32)) % (6 : Int32))))), .val (.ref b7), .unset] [(.int ((1 : Int32) + ((p5 &&& (2147483647 : Int32)) % (6 : Int32))))])) _
    refine XS.iconst X10.here hx rfl (hb hby at_51) ?_
    show Steps p.tables e below (T10.setTop (mkF m 52 #[.val (.int p1), .val (.int p2), .val (.int p3), .val (.int p4), .val (.int p5), .val (.int p6), .val (.int ((1 : Int32) + ((p5 &&& (2147483647 : Int32)) % (6 : Int32)))), .val (.int ((p6 &&& (2147483647 : Int32)) % ((1 : Int32) + ((p5 &&& (2147483647 : Int32)) % (6 : Int32))))), .val (.ref b7), .unset] [(.int (2 : Int32)), (.int ((1 : Int32) + ((p5 &&& (2147483647 : Int32)) % (6 : Int32))))])) _
    refine XS.icmpNo X10.here hx rfl (hb hby at_52) rfl (tlt hc52).2.2.2 ?_
    show Steps p.tables e below (T10.setTop (mkF m 55 #[.val (.int p1), .val (.int p2), .val (.int p3), .val (.int p4), .val (.int p5), .val (.int p6), .val (.int ((1 : Int32) + ((p5 &&& (2147483647 : Int32)) % (6 : Int32)))), .val (.int ((p6 &&& (2147483647 : Int32)) % ((1 : Int32) + ((p5 &&& (2147483647 : Int32)) % (6 : Int32))))), .val (.ref b7), .unset] [])) _
    refine XS.aload X10.here hx rfl (hb hby at_55) rfl rfl ?_
    show Steps p.tables e below (T10.setTop (mkF m 57 #[.val (.int p1), .val (.int p2), .val (.int p3), .val (.int p4), .val (.int p5), .val (.int p6), .val (.int ((1 : Int32) + ((p5 &&& (2147483647 : Int32)) % (6 : Int32)))), .val (.int ((p6 &&& (2147483647 : Int32)) % ((1 : Int32) + ((p5 &&& (2147483647 : Int32)) % (6 : Int32))))), .val (.ref b7), .unset] [(.ref b7)])) _
    refine XS.iloadN X10.here hx rfl (hb hby at_57) rfl ?_
    show Steps p.tables e below (T10.setTop (mkF m 58 #[.val (.int p1), .val (.int p2), .val (.int p3), .val (.int p4), .val (.int p5), .val (.int p6), .val (.int ((1 : Int32) + ((p5 &&& (2147483647 : Int32)) % (6 : Int32)))), .val (.int ((p6 &&& (2147483647 : Int32)) % ((1 : Int32) + ((p5 &&& (2147483647 : Int32)) % (6 : Int32))))), .val (.ref b7), .unset] [(.int p3), (.ref b7)])) _
    refine st11.trans ?_
    show Steps p.tables e below (T11.setTop (mkF m 61 #[.val (.int p1), .val (.int p2), .val (.int p3), .val (.int p4), .val (.int p5), .val (.int p6), .val (.int ((1 : Int32) + ((p5 &&& (2147483647 : Int32)) % (6 : Int32)))), .val (.int ((p6 &&& (2147483647 : Int32)) % ((1 : Int32) + ((p5 &&& (2147483647 : Int32)) % (6 : Int32))))), .val (.ref b7), .unset] [])) _
    refine XS.iload X11.here hx rfl (hb hby at_61) rfl ?_
    show Steps p.tables e below (T11.setTop (mkF m 63 #[.val (.int p1), .val (.int p2), .val (.int p3), .val (.int p4), .val (.int p5), .val (.int p6), .val (.int ((1 : Int32) + ((p5 &&& (2147483647 : Int32)) % (6 : Int32)))), .val (.int ((p6 &&& (2147483647 : Int32)) % ((1 : Int32) + ((p5 &&& (2147483647 : Int32)) % (6 : Int32))))), .val (.ref b7), .unset] [(.int ((1 : Int32) + ((p5 &&& (2147483647 : Int32)) % (6 : Int32))))])) _
    refine XS.iconst X11.here hx rfl (hb hby at_63) ?_
    show Steps p.tables e below (T11.setTop (mkF m 64 #[.val (.int p1), .val (.int p2), .val (.int p3), .val (.int p4), .val (.int p5), .val (.int p6), .val (.int ((1 : Int32) + ((p5 &&& (2147483647 : Int32)) % (6 : Int32)))), .val (.int ((p6 &&& (2147483647 : Int32)) % ((1 : Int32) + ((p5 &&& (2147483647 : Int32)) % (6 : Int32))))), .val (.ref b7), .unset] [(.int (3 : Int32)), (.int ((1 : Int32) + ((p5 &&& (2147483647 : Int32)) % (6 : Int32))))])) _
    refine XS.icmpYes X11.here hx rfl (pc0 := 64) (pc' := 73) rfl (hb hby at_64) rfl (flt hc64).2.2.2 (by decide) (by decide) ?_
    show Steps p.tables e below (T11.setTop (mkF m 73 #[.val (.int p1), .val (.int p2), .val (.int p3), .val (.int p4), .val (.int p5), .val (.int p6), .val (.int ((1 : Int32) + ((p5 &&& (2147483647 : Int32)) % (6 : Int32)))), .val (.int ((p6 &&& (2147483647 : Int32)) % ((1 : Int32) + ((p5 &&& (2147483647 : Int32)) % (6 : Int32))))), .val (.ref b7), .unset] [])) _
    refine XS.iload X11.here hx rfl (hb hby at_73) rfl ?_
    show Steps p.tables e below (T11.setTop (mkF m 75 #[.val (.int p1), .val (.int p2), .val (.int p3), .val (.int p4), .val (.int p5), .val (.int p6), .val (.int ((1 : Int32) + ((p5 &&& (2147483647 : Int32)) % (6 : Int32)))), .val (.int ((p6 &&& (2147483647 : Int32)) % ((1 : Int32) + ((p5 &&& (2147483647 : Int32)) % (6 : Int32))))), .val (.ref b7), .unset] [(.int ((1 : Int32) + ((p5 &&& (2147483647 : Int32)) % (6 : Int32))))])) _
    refine XS.iconst X11.here hx rfl (hb hby at_75) ?_
    show Steps p.tables e below (T11.setTop (mkF m 76 #[.val (.int p1), .val (.int p2), .val (.int p3), .val (.int p4), .val (.int p5), .val (.int p6), .val (.int ((1 : Int32) + ((p5 &&& (2147483647 : Int32)) % (6 : Int32)))), .val (.int ((p6 &&& (2147483647 : Int32)) % ((1 : Int32) + ((p5 &&& (2147483647 : Int32)) % (6 : Int32))))), .val (.ref b7), .unset] [(.int (4 : Int32)), (.int ((1 : Int32) + ((p5 &&& (2147483647 : Int32)) % (6 : Int32))))])) _
    refine XS.icmpYes X11.here hx rfl (pc0 := 76) (pc' := 87) rfl (hb hby at_76) rfl (flt hc76).2.2.2 (by decide) (by decide) ?_
    show Steps p.tables e below (T11.setTop (mkF m 87 #[.val (.int p1), .val (.int p2), .val (.int p3), .val (.int p4), .val (.int p5), .val (.int p6), .val (.int ((1 : Int32) + ((p5 &&& (2147483647 : Int32)) % (6 : Int32)))), .val (.int ((p6 &&& (2147483647 : Int32)) % ((1 : Int32) + ((p5 &&& (2147483647 : Int32)) % (6 : Int32))))), .val (.ref b7), .unset] [])) _
    refine XS.iload X11.here hx rfl (hb hby at_87) rfl ?_
    show Steps p.tables e below (T11.setTop (mkF m 89 #[.val (.int p1), .val (.int p2), .val (.int p3), .val (.int p4), .val (.int p5), .val (.int p6), .val (.int ((1 : Int32) + ((p5 &&& (2147483647 : Int32)) % (6 : Int32)))), .val (.int ((p6 &&& (2147483647 : Int32)) % ((1 : Int32) + ((p5 &&& (2147483647 : Int32)) % (6 : Int32))))), .val (.ref b7), .unset] [(.int ((1 : Int32) + ((p5 &&& (2147483647 : Int32)) % (6 : Int32))))])) _
    refine XS.iconst X11.here hx rfl (hb hby at_89) ?_
    show Steps p.tables e below (T11.setTop (mkF m 90 #[.val (.int p1), .val (.int p2), .val (.int p3), .val (.int p4), .val (.int p5), .val (.int p6), .val (.int ((1 : Int32) + ((p5 &&& (2147483647 : Int32)) % (6 : Int32)))), .val (.int ((p6 &&& (2147483647 : Int32)) % ((1 : Int32) + ((p5 &&& (2147483647 : Int32)) % (6 : Int32))))), .val (.ref b7), .unset] [(.int (5 : Int32)), (.int ((1 : Int32) + ((p5 &&& (2147483647 : Int32)) % (6 : Int32))))])) _
    refine XS.icmpYes X11.here hx rfl (pc0 := 90) (pc' := 101) rfl (hb hby at_90) rfl (flt hc90).2.2.2 (by decide) (by decide) ?_
    show Steps p.tables e below (T11.setTop (mkF m 101 #[.val (.int p1), .val (.int p2), .val (.int p3), .val (.int p4), .val (.int p5), .val (.int p6), .val (.int ((1 : Int32) + ((p5 &&& (2147483647 : Int32)) % (6 : Int32)))), .val (.int ((p6 &&& (2147483647 : Int32)) % ((1 : Int32) + ((p5 &&& (2147483647 : Int32)) % (6 : Int32))))), .val (.ref b7), .unset] [])) _
    refine st12 _ ?_
    show Steps p.tables e below (T12.setTop (mkF m 167 #[.val (.int p1), .val (.int p2), .val (.int p3), .val (.int p4), .val (.int p5), .val (.int p6), .val (.int ((1 : Int32) + ((p5 &&& (2147483647 : Int32)) % (6 : Int32)))), .val (.int ((p6 &&& (2147483647 : Int32)) % ((1 : Int32) + ((p5 &&& (2147483647 : Int32)) % (6 : Int32))))), .val (.ref b7), .val (.int ex)] [])) _
    refine XS.aload X12.here hx rfl (hb hby at_167) rfl rfl ?_
    show Steps p.tables e below (T12.setTop (mkF m 169 #[.val (.int p1), .val (.int p2), .val (.int p3), .val (.int p4), .val (.int p5), .val (.int p6), .val (.int ((1 : Int32) + ((p5 &&& (2147483647 : Int32)) % (6 : Int32)))), .val (.int ((p6 &&& (2147483647 : Int32)) % ((1 : Int32) + ((p5 &&& (2147483647 : Int32)) % (6 : Int32))))), .val (.ref b7), .val (.int ex)] [(.ref b7)])) _
    refine XS.iload X12.here hx rfl (hb hby at_169) rfl ?_
    show Steps p.tables e below (T12.setTop (mkF m 171 #[.val (.int p1), .val (.int p2), .val (.int p3), .val (.int p4), .val (.int p5), .val (.int p6), .val (.int ((1 : Int32) + ((p5 &&& (2147483647 : Int32)) % (6 : Int32)))), .val (.int ((p6 &&& (2147483647 : Int32)) % ((1 : Int32) + ((p5 &&& (2147483647 : Int32)) % (6 : Int32))))), .val (.ref b7), .val (.int ex)] [(.int ((p6 &&& (2147483647 : Int32)) % ((1 : Int32) + ((p5 &&& (2147483647 : Int32)) % (6 : Int32))))), (.ref b7)])) _
    refine st13.trans ?_
    show Steps p.tables e below (T13.setTop (mkF m 174 #[.val (.int p1), .val (.int p2), .val (.int p3), .val (.int p4), .val (.int p5), .val (.int p6), .val (.int ((1 : Int32) + ((p5 &&& (2147483647 : Int32)) % (6 : Int32)))), .val (.int ((p6 &&& (2147483647 : Int32)) % ((1 : Int32) + ((p5 &&& (2147483647 : Int32)) % (6 : Int32))))), .val (.ref b7), .val (.int ex)] [(.int ex)])) _
    refine XS.iload X13.here hx rfl (hb hby at_174) rfl ?_
    show Steps p.tables e below (T13.setTop (mkF m 176 #[.val (.int p1), .val (.int p2), .val (.int p3), .val (.int p4), .val (.int p5), .val (.int p6), .val (.int ((1 : Int32) + ((p5 &&& (2147483647 : Int32)) % (6 : Int32)))), .val (.int ((p6 &&& (2147483647 : Int32)) % ((1 : Int32) + ((p5 &&& (2147483647 : Int32)) % (6 : Int32))))), .val (.ref b7), .val (.int ex)] [(.int ex), (.int ex)])) _
    refine XS.icmpNo X13.here hx rfl (hb hby at_176) rfl (teq (rfl : ex = ex)).2 ?_
    show Steps p.tables e below (T13.setTop (mkF m 179 #[.val (.int p1), .val (.int p2), .val (.int p3), .val (.int p4), .val (.int p5), .val (.int p6), .val (.int ((1 : Int32) + ((p5 &&& (2147483647 : Int32)) % (6 : Int32)))), .val (.int ((p6 &&& (2147483647 : Int32)) % ((1 : Int32) + ((p5 &&& (2147483647 : Int32)) % (6 : Int32))))), .val (.ref b7), .val (.int ex)] [])) _
    refine XS.iconst X13.here hx rfl (hb hby at_179) ?_
    show Steps p.tables e below (T13.setTop (mkF m 180 #[.val (.int p1), .val (.int p2), .val (.int p3), .val (.int p4), .val (.int p5), .val (.int p6), .val (.int ((1 : Int32) + ((p5 &&& (2147483647 : Int32)) % (6 : Int32)))), .val (.int ((p6 &&& (2147483647 : Int32)) % ((1 : Int32) + ((p5 &&& (2147483647 : Int32)) % (6 : Int32))))), .val (.ref b7), .val (.int ex)] [(.int (1 : Int32))])) _
    refine XS.goto X13.here hx rfl (pc0 := 180) (pc' := 184) rfl (hb hby at_180) (by decide) (by decide) ?_
    show Steps p.tables e below (T13.setTop (mkF m 184 #[.val (.int p1), .val (.int p2), .val (.int p3), .val (.int p4), .val (.int p5), .val (.int p6), .val (.int ((1 : Int32) + ((p5 &&& (2147483647 : Int32)) % (6 : Int32)))), .val (.int ((p6 &&& (2147483647 : Int32)) % ((1 : Int32) + ((p5 &&& (2147483647 : Int32)) % (6 : Int32))))), .val (.ref b7), .val (.int ex)] [(.int (1 : Int32))])) _
    exact retN X13 hx (t := .boolean) Bd.returns (by simp) (hb hby at_184) hr
  · show Qlaw0 n0 _ T13.heap _
    rw [e13q]
    exact ⟨rfl, N13⟩
set_option maxRecDepth 65536 in
set_option maxHeartbeats 40000000 in
theorem rm0_4 (l : Launch) (Z : State) (a0 : Array Value) (hw : ∀ d ∈ tables_1, d.before a0 Z = true) (ws : List Jvm.Cond) (p1 : Int32) (p2 : Int32) (p3 : Int32) (p4 : Int32) (p5 : Int32) (p6 : Int32) (ex : Int32) (h0 : Heap) (n0 : Nat) (Z0 : n0 ≤ h0.size) (hE : (((p6 &&& (2147483647 : Int32)) % ((1 : Int32) + ((p5 &&& (2147483647 : Int32)) % (6 : Int32)))) = (0 : Int32) ∧ ex = p1) ∨ (¬ (((p6 &&& (2147483647 : Int32)) % ((1 : Int32) + ((p5 &&& (2147483647 : Int32)) % (6 : Int32)))) = (0 : Int32)) ∧ ((p6 &&& (2147483647 : Int32)) % ((1 : Int32) + ((p5 &&& (2147483647 : Int32)) % (6 : Int32)))) = (1 : Int32) ∧ ex = p2) ∨ (¬ (((p6 &&& (2147483647 : Int32)) % ((1 : Int32) + ((p5 &&& (2147483647 : Int32)) % (6 : Int32)))) = (0 : Int32)) ∧ ¬ (((p6 &&& (2147483647 : Int32)) % ((1 : Int32) + ((p5 &&& (2147483647 : Int32)) % (6 : Int32)))) = (1 : Int32)) ∧ ((p6 &&& (2147483647 : Int32)) % ((1 : Int32) + ((p5 &&& (2147483647 : Int32)) % (6 : Int32)))) = (2 : Int32) ∧ ex = p3) ∨ (¬ (((p6 &&& (2147483647 : Int32)) % ((1 : Int32) + ((p5 &&& (2147483647 : Int32)) % (6 : Int32)))) = (0 : Int32)) ∧ ¬ (((p6 &&& (2147483647 : Int32)) % ((1 : Int32) + ((p5 &&& (2147483647 : Int32)) % (6 : Int32)))) = (1 : Int32)) ∧ ¬ (((p6 &&& (2147483647 : Int32)) % ((1 : Int32) + ((p5 &&& (2147483647 : Int32)) % (6 : Int32)))) = (2 : Int32)) ∧ ((p6 &&& (2147483647 : Int32)) % ((1 : Int32) + ((p5 &&& (2147483647 : Int32)) % (6 : Int32)))) = (3 : Int32) ∧ ex = p4) ∨ (¬ (((p6 &&& (2147483647 : Int32)) % ((1 : Int32) + ((p5 &&& (2147483647 : Int32)) % (6 : Int32)))) = (0 : Int32)) ∧ ¬ (((p6 &&& (2147483647 : Int32)) % ((1 : Int32) + ((p5 &&& (2147483647 : Int32)) % (6 : Int32)))) = (1 : Int32)) ∧ ¬ (((p6 &&& (2147483647 : Int32)) % ((1 : Int32) + ((p5 &&& (2147483647 : Int32)) % (6 : Int32)))) = (2 : Int32)) ∧ ¬ (((p6 &&& (2147483647 : Int32)) % ((1 : Int32) + ((p5 &&& (2147483647 : Int32)) % (6 : Int32)))) = (3 : Int32)) ∧ ((p6 &&& (2147483647 : Int32)) % ((1 : Int32) + ((p5 &&& (2147483647 : Int32)) % (6 : Int32)))) = (4 : Int32) ∧ ex = (p1 ^^^ (-1 : Int32))) ∨ (¬ (((p6 &&& (2147483647 : Int32)) % ((1 : Int32) + ((p5 &&& (2147483647 : Int32)) % (6 : Int32)))) = (0 : Int32)) ∧ ¬ (((p6 &&& (2147483647 : Int32)) % ((1 : Int32) + ((p5 &&& (2147483647 : Int32)) % (6 : Int32)))) = (1 : Int32)) ∧ ¬ (((p6 &&& (2147483647 : Int32)) % ((1 : Int32) + ((p5 &&& (2147483647 : Int32)) % (6 : Int32)))) = (2 : Int32)) ∧ ¬ (((p6 &&& (2147483647 : Int32)) % ((1 : Int32) + ((p5 &&& (2147483647 : Int32)) % (6 : Int32)))) = (3 : Int32)) ∧ ¬ (((p6 &&& (2147483647 : Int32)) % ((1 : Int32) + ((p5 &&& (2147483647 : Int32)) % (6 : Int32)))) = (4 : Int32)) ∧ ex = (p2 ^^^ (-1 : Int32)))) (hr8 : ¬ ((((p6 &&& (2147483647 : Int32)) % ((1 : Int32) + ((p5 &&& (2147483647 : Int32)) % (6 : Int32)))).toUInt32 >>> ((16 : Int32) &&& 31).toUInt32).toInt32) < 0 ∧ ((((p6 &&& (2147483647 : Int32)) % ((1 : Int32) + ((p5 &&& (2147483647 : Int32)) % (6 : Int32)))).toUInt32 >>> ((16 : Int32) &&& 31).toUInt32).toInt32) < (1 : Int32)) (hk0 : ((((p6 &&& (2147483647 : Int32)) % ((1 : Int32) + ((p5 &&& (2147483647 : Int32)) % (6 : Int32)))).toUInt32 >>> ((16 : Int32) &&& 31).toUInt32).toInt32) = (0 : Int32)) (hr13 : ¬ (((p6 &&& (2147483647 : Int32)) % ((1 : Int32) + ((p5 &&& (2147483647 : Int32)) % (6 : Int32)))) &&& (65535 : Int32)) < 0 ∧ (((p6 &&& (2147483647 : Int32)) % ((1 : Int32) + ((p5 &&& (2147483647 : Int32)) % (6 : Int32)))) &&& (65535 : Int32)) < (16 : Int32)) (u13 : (((((own_z.set 0 (.int p1)).set 1 (.int p2)).set 2 (.int p3)).set 3 (.int p4)) : List Value).getD (((p6 &&& (2147483647 : Int32)) % ((1 : Int32) + ((p5 &&& (2147483647 : Int32)) % (6 : Int32)))) &&& (65535 : Int32)).toNatClampNeg ((.int (0 : Int32)) : Value) = (.int ex)) (hnz19 : ¬ (((1 : Int32) + ((p5 &&& (2147483647 : Int32)) % (6 : Int32))) = (0 : Int32))) (hc40 : (1 : Int32) < ((1 : Int32) + ((p5 &&& (2147483647 : Int32)) % (6 : Int32)))) (hc52 : (2 : Int32) < ((1 : Int32) + ((p5 &&& (2147483647 : Int32)) % (6 : Int32)))) (hc64 : (3 : Int32) < ((1 : Int32) + ((p5 &&& (2147483647 : Int32)) % (6 : Int32)))) (hc76 : ¬ ((4 : Int32) < ((1 : Int32) + ((p5 &&& (2147483647 : Int32)) % (6 : Int32))))) (hc90 : ¬ ((5 : Int32) < ((1 : Int32) + ((p5 &&& (2147483647 : Int32)) % (6 : Int32))))) :
    MetFree l x (head1 (Jvm.Cond.code x code maxLocals ret :: ws) room_1) (fun a U => a = #[(.int p1), (.int p2), (.int p3), (.int p4), (.int p5), (.int p6)] ∧ Z.Warmed39 U.vm ∧ U.heap = h0) (fun _ _ _ _ _ => True) (fun _ U o U' => ∃ v L, o = .returned v ∧ Qlaw0 n0 v U'.heap L ∧ FrameEnd U o U' L room_1.cells room_1.slots) := by
  refine MetFree.of_bodySF (plainFor_of_name pn_0) hisR ?_
  intro p e s m args below meth c s₁ Bd hml0 hP hK
  obtain ⟨rfl, hZ, hh⟩ := hP
  have hx := Bd.exec
  have hby := Bd.bytes
  have hml : c.maxLocals = 10 := hml0
  have hown : s.vm.findClass "com/example/hearsay/hearsay/graph/IntListGetPinLaw" = some m.cls := findClass_of_methodNamed Bd.named
  have hnm := (name_of_methodNamed Bd.named Bd.method).1
  have X0 : Stand p l e room_1 s m #[(.int p1), (.int p2), (.int p3), (.int p4), (.int p5), (.int p6)] below meth c s₁ [] 0 0 := Stand.of_body Bd
  have e0 : s₁.heap = h0 := by rw [← hh, Bd.state]; rfl
  have N0 := Fr.nil n0
  have pre0 : ∀ t, Steps p.tables e below (s₁.setTop (mkF m 0 #[.val (.int p1), .val (.int p2), .val (.int p3), .val (.int p4), .val (.int p5), .val (.int p6), .unset, .unset, .unset, .unset] [])) t → Steps p.tables e below (s₁.setTop (entryFrame m #[(.int p1), (.int p2), (.int p3), (.int p4), (.int p5), (.int p6)] maxLocals)) t := fun t k => castTop (ef_0 m p1 p2 p3 p4 p5 p6) k
  obtain ⟨T7, h7, X7, e7, E7, A7, D7, -, st7⟩ := newO X0 hx hZ hown (hw _ (List.mem_of_getElem? (i := 1) rfl)) (hw _ (List.mem_of_getElem? (i := 2) rfl)) (hw _ (List.mem_of_getElem? (i := 3) rfl)) e0 (g := (mkF m 22 #[.val (.int p1), .val (.int p2), .val (.int p3), .val (.int p4), .val (.int p5), .val (.int p6), .val (.int ((1 : Int32) + ((p5 &&& (2147483647 : Int32)) % (6 : Int32)))), .val (.int ((p6 &&& (2147483647 : Int32)) % ((1 : Int32) + ((p5 &&& (2147483647 : Int32)) % (6 : Int32))))), .unset, .unset] [])) rfl (hb hby at_22) (by decide) (by decide)
  obtain ⟨b7, g7⟩ : ∃ z, z = h0.size := ⟨_, rfl⟩
  rw [← g7] at A7 D7 st7
  have F_chunks_b7 : Fld Z h7 b7 "com/example/hearsay/hearsay/graph/IntList" "chunks" "[[I" .null := D7 (Or.inl (hw _ (List.mem_of_getElem? (i := 15) rfl))) (ty := (.array (.array .int))) (by decide)
  have F_size_b7 : Fld Z h7 b7 "com/example/hearsay/hearsay/graph/IntList" "size" "I" (.int (0 : Int32)) := D7 (Or.inl (hw _ (List.mem_of_getElem? (i := 22) rfl))) (ty := .int) (by decide)
  have E_b7 := A7
  have g_b7 : n0 ≤ b7 := Nat.le_trans Z0 (Nat.le_of_eq g7.symm)
  have sz_b7 : h0.size ≤ b7 := (Nat.le_trans (Keep.refl h0 []).1 (Nat.le_of_eq g7.symm))
  have K7 : Keep h0 h7 [] := (Keep.refl h0 []).ext E7
  obtain ⟨_, _, ⟨T8, L8, k8, n8⟩, -, X8, ⟨Lc8, hQ8, l8, y8, z8⟩, st8⟩ := X7.specialBack hx (y := (⟨"com/example/hearsay/hearsay/graph/IntList", "<init>", "()V"⟩ : MethodName)) rfl hown (mvT hZ (hw _ (List.mem_of_getElem? (i := 4) rfl))) (mvT hZ (hw _ (List.mem_of_getElem? (i := 5) rfl))) (mvT hZ (hw _ (List.mem_of_getElem? (i := 6) rfl))) (by decide) (backOf (W := 1) (rm1 l Z a0 hw [] b7 .null h7 n0 (Nat.le_trans Z0 E7.1) F_size_b7 E_b7 F_chunks_b7 g_b7) hZ (hw _ (List.mem_of_getElem? (i := 6) rfl)) (hw _ (List.mem_of_getElem? (i := 3) rfl)) (by decide) (by decide)) (g := (mkF m 26 #[.val (.int p1), .val (.int p2), .val (.int p3), .val (.int p4), .val (.int p5), .val (.int p6), .val (.int ((1 : Int32) + ((p5 &&& (2147483647 : Int32)) % (6 : Int32)))), .val (.int ((p6 &&& (2147483647 : Int32)) % ((1 : Int32) + ((p5 &&& (2147483647 : Int32)) % (6 : Int32))))), .unset, .unset] [(.ref b7), (.ref b7)])) rfl (by rw [hml]; rfl) (Steps.refl _) (a := b7) (argsL := []) (rest := [(.ref b7)]) (lenOf pd_0_0 rfl) rfl (by show 2 * 0 + _ ≤ _; exact Nat.le_of_eq rfl) (hb hby at_26) (fun _ _ => ⟨rfl, e7, (by decide : 1 + 2 ≤ _), (by decide : 2 + 17 ≤ _)⟩)
  dsimp only [Pt.U, Pt.locs, Pt.cells, Pt.slots] at X8 l8 y8 z8 st8 hQ8
  subst l8 y8 z8
  obtain ⟨rfl, N8q, K8q, ch, c0, kA, kI, gch, gc0, ne3, E8q, Fc8q, Fs8q, Vh8q, Vd8q⟩ := hQ8
  have N8 := Fr.app N0 N8q
  have KK8 : Keep h0 T8.heap [] := K7.trans K8q (allS (Or.inr sz_b7) all0)
  have sz_ch : h0.size ≤ ch := Nat.le_trans K7.1 gch
  have sz_c0 : h0.size ≤ c0 := Nat.le_trans K7.1 gc0
  have g_ch : n0 ≤ ch := Nat.le_trans Z0 sz_ch
  have g_c0 : n0 ≤ c0 := Nat.le_trans Z0 sz_c0
  have ne1 : b7 ≠ ch := Nat.ne_of_lt (Nat.lt_of_lt_of_le E_b7.lt gch)
  have ne2 : b7 ≠ c0 := Nat.ne_of_lt (Nat.lt_of_lt_of_le E_b7.lt gc0)
  obtain ⟨cq9, kq9, q9a, q9b, q9c⟩ := isOf hZ rfl E8q
  obtain ⟨_, _, ⟨T9, L9, k9, n9⟩, -, X9, ⟨Lc9, hQ9, l9, y9, z9⟩, st9⟩ := X8.virtualBack hx (y := (⟨"com/example/hearsay/hearsay/graph/IntList", "add", "(I)V"⟩ : MethodName)) (z := (⟨"com/example/hearsay/hearsay/graph/IntList", "add", "(I)V"⟩ : MethodName)) hown (mvT hZ (hw _ (List.mem_of_getElem? (i := 16) rfl))) (mvT hZ (hw _ (List.mem_of_getElem? (i := 17) rfl))) (notFace_of_selects (args := #[]) (mvT hZ (hw _ (List.mem_of_getElem? (i := 19) rfl)))) (mvT hZ (hw _ (List.mem_of_getElem? (i := 19) rfl))) (mvT hZ (hw _ (List.mem_of_getElem? (i := 18) rfl))) (by decide) (backOf (W := 0) (rm3 l Z a0 hw [] b7 p1 ch c0 kA kI (0 : Int32) own_z 0 T8.heap n0 (Nat.le_trans (Nat.le_trans Z0 E7.1) K8q.1) ne1 ne2 ne3 Vh8q Vd8q Fs8q Fc8q (by decide) (own_u c0 (by decide)) (by decide) rfl (by decide) (own_u c0 (by decide)) (by decide) (by decide) (Nat.le_of_ble_eq_true rfl) g_c0 E8q g_b7 (by decide) (by decide) (by decide)) hZ (hw _ (List.mem_of_getElem? (i := 20) rfl)) (hw _ (List.mem_of_getElem? (i := 3) rfl)) (by decide) (by decide)) q9a q9c (g := (mkF m 34 #[.val (.int p1), .val (.int p2), .val (.int p3), .val (.int p4), .val (.int p5), .val (.int p6), .val (.int ((1 : Int32) + ((p5 &&& (2147483647 : Int32)) % (6 : Int32)))), .val (.int ((p6 &&& (2147483647 : Int32)) % ((1 : Int32) + ((p5 &&& (2147483647 : Int32)) % (6 : Int32))))), .val (.ref b7), .unset] [(.int p1), (.ref b7)])) rfl (by rw [hml]; rfl) (Steps.refl _) (argsL := [(.int p1)]) (rest := []) (lenOf pd_0_1 rfl) rfl (by show 2 * 0 + _ ≤ _; exact Nat.le_of_eq rfl) (hb hby at_34) (fun _ _ => ⟨rfl, rfl, (by decide : 3 + 0 ≤ _), (by decide : 19 + 0 ≤ _)⟩)
  dsimp only [Pt.U, Pt.locs, Pt.cells, Pt.slots] at X9 l9 y9 z9 st9 hQ9
  subst l9 y9 z9
  obtain ⟨rfl, N9q, K9q, E9q, Fc9q, Fs9q, Vh9q, Vd9q⟩ := hQ9
  have N9 := Fr.app N8 N9q
  have KK9 : Keep h0 T9.heap [] := KK8.trans K9q (allS (Or.inr sz_c0) (allS (Or.inr sz_b7) all0))
  obtain ⟨cq10, kq10, q10a, q10b, q10c⟩ := isOf hZ rfl E9q
  obtain ⟨_, _, ⟨T10, L10, k10, n10⟩, -, X10, ⟨Lc10, hQ10, l10, y10, z10⟩, st10⟩ := X9.virtualBack hx (y := (⟨"com/example/hearsay/hearsay/graph/IntList", "add", "(I)V"⟩ : MethodName)) (z := (⟨"com/example/hearsay/hearsay/graph/IntList", "add", "(I)V"⟩ : MethodName)) hown (mvT hZ (hw _ (List.mem_of_getElem? (i := 16) rfl))) (mvT hZ (hw _ (List.mem_of_getElem? (i := 17) rfl))) (notFace_of_selects (args := #[]) (mvT hZ (hw _ (List.mem_of_getElem? (i := 19) rfl)))) (mvT hZ (hw _ (List.mem_of_getElem? (i := 19) rfl))) (mvT hZ (hw _ (List.mem_of_getElem? (i := 18) rfl))) (by decide) (backOf (W := 0) (rm3 l Z a0 hw [] b7 p2 ch c0 kA kI ((0 : Int32) + (1 : Int32)) (own_z.set 0 (.int p1)) 1 T9.heap n0 (Nat.le_trans (Nat.le_trans (Nat.le_trans Z0 E7.1) K8q.1) K9q.1) ne1 ne2 ne3 Vh9q Vd9q Fs9q Fc9q (by decide) (own_u c0 (by decide)) (by decide) rfl (by decide) (own_u c0 (by decide)) (by decide) (by decide) (Nat.le_of_ble_eq_true rfl) g_c0 E9q g_b7 (by decide) (by decide) (by decide)) hZ (hw _ (List.mem_of_getElem? (i := 20) rfl)) (hw _ (List.mem_of_getElem? (i := 3) rfl)) (by decide) (by decide)) q10a q10c (g := (mkF m 46 #[.val (.int p1), .val (.int p2), .val (.int p3), .val (.int p4), .val (.int p5), .val (.int p6), .val (.int ((1 : Int32) + ((p5 &&& (2147483647 : Int32)) % (6 : Int32)))), .val (.int ((p6 &&& (2147483647 : Int32)) % ((1 : Int32) + ((p5 &&& (2147483647 : Int32)) % (6 : Int32))))), .val (.ref b7), .unset] [(.int p2), (.ref b7)])) rfl (by rw [hml]; rfl) (Steps.refl _) (argsL := [(.int p2)]) (rest := []) (lenOf pd_0_1 rfl) rfl (by show 2 * 0 + _ ≤ _; exact Nat.le_of_eq rfl) (hb hby at_46) (fun _ _ => ⟨rfl, rfl, (by decide : 3 + 0 ≤ _), (by decide : 19 + 0 ≤ _)⟩)
  dsimp only [Pt.U, Pt.locs, Pt.cells, Pt.slots] at X10 l10 y10 z10 st10 hQ10
  subst l10 y10 z10
  obtain ⟨rfl, N10q, K10q, E10q, Fc10q, Fs10q, Vh10q, Vd10q⟩ := hQ10
  have N10 := Fr.app N9 N10q
  have KK10 : Keep h0 T10.heap [] := KK9.trans K10q (allS (Or.inr sz_c0) (allS (Or.inr sz_b7) all0))
  obtain ⟨cq11, kq11, q11a, q11b, q11c⟩ := isOf hZ rfl E10q
  obtain ⟨_, _, ⟨T11, L11, k11, n11⟩, -, X11, ⟨Lc11, hQ11, l11, y11, z11⟩, st11⟩ := X10.virtualBack hx (y := (⟨"com/example/hearsay/hearsay/graph/IntList", "add", "(I)V"⟩ : MethodName)) (z := (⟨"com/example/hearsay/hearsay/graph/IntList", "add", "(I)V"⟩ : MethodName)) hown (mvT hZ (hw _ (List.mem_of_getElem? (i := 16) rfl))) (mvT hZ (hw _ (List.mem_of_getElem? (i := 17) rfl))) (notFace_of_selects (args := #[]) (mvT hZ (hw _ (List.mem_of_getElem? (i := 19) rfl)))) (mvT hZ (hw _ (List.mem_of_getElem? (i := 19) rfl))) (mvT hZ (hw _ (List.mem_of_getElem? (i := 18) rfl))) (by decide) (backOf (W := 0) (rm3 l Z a0 hw [] b7 p3 ch c0 kA kI (((0 : Int32) + (1 : Int32)) + (1 : Int32)) ((own_z.set 0 (.int p1)).set 1 (.int p2)) 2 T10.heap n0 (Nat.le_trans (Nat.le_trans (Nat.le_trans (Nat.le_trans Z0 E7.1) K8q.1) K9q.1) K10q.1) ne1 ne2 ne3 Vh10q Vd10q Fs10q Fc10q (by decide) (own_u c0 (by decide)) (by decide) rfl (by decide) (own_u c0 (by decide)) (by decide) (by decide) (Nat.le_of_ble_eq_true rfl) g_c0 E10q g_b7 (by decide) (by decide) (by decide)) hZ (hw _ (List.mem_of_getElem? (i := 20) rfl)) (hw _ (List.mem_of_getElem? (i := 3) rfl)) (by decide) (by decide)) q11a q11c (g := (mkF m 58 #[.val (.int p1), .val (.int p2), .val (.int p3), .val (.int p4), .val (.int p5), .val (.int p6), .val (.int ((1 : Int32) + ((p5 &&& (2147483647 : Int32)) % (6 : Int32)))), .val (.int ((p6 &&& (2147483647 : Int32)) % ((1 : Int32) + ((p5 &&& (2147483647 : Int32)) % (6 : Int32))))), .val (.ref b7), .unset] [(.int p3), (.ref b7)])) rfl (by rw [hml]; rfl) (Steps.refl _) (argsL := [(.int p3)]) (rest := []) (lenOf pd_0_1 rfl) rfl (by show 2 * 0 + _ ≤ _; exact Nat.le_of_eq rfl) (hb hby at_58) (fun _ _ => ⟨rfl, rfl, (by decide : 3 + 0 ≤ _), (by decide : 19 + 0 ≤ _)⟩)
  dsimp only [Pt.U, Pt.locs, Pt.cells, Pt.slots] at X11 l11 y11 z11 st11 hQ11
  subst l11 y11 z11
  obtain ⟨rfl, N11q, K11q, E11q, Fc11q, Fs11q, Vh11q, Vd11q⟩ := hQ11
  have N11 := Fr.app N10 N11q
  have KK11 : Keep h0 T11.heap [] := KK10.trans K11q (allS (Or.inr sz_c0) (allS (Or.inr sz_b7) all0))
  obtain ⟨cq12, kq12, q12a, q12b, q12c⟩ := isOf hZ rfl E11q
  obtain ⟨_, _, ⟨T12, L12, k12, n12⟩, -, X12, ⟨Lc12, hQ12, l12, y12, z12⟩, st12⟩ := X11.virtualBack hx (y := (⟨"com/example/hearsay/hearsay/graph/IntList", "add", "(I)V"⟩ : MethodName)) (z := (⟨"com/example/hearsay/hearsay/graph/IntList", "add", "(I)V"⟩ : MethodName)) hown (mvT hZ (hw _ (List.mem_of_getElem? (i := 16) rfl))) (mvT hZ (hw _ (List.mem_of_getElem? (i := 17) rfl))) (notFace_of_selects (args := #[]) (mvT hZ (hw _ (List.mem_of_getElem? (i := 19) rfl)))) (mvT hZ (hw _ (List.mem_of_getElem? (i := 19) rfl))) (mvT hZ (hw _ (List.mem_of_getElem? (i := 18) rfl))) (by decide) (backOf (W := 0) (rm3 l Z a0 hw [] b7 p4 ch c0 kA kI ((((0 : Int32) + (1 : Int32)) + (1 : Int32)) + (1 : Int32)) (((own_z.set 0 (.int p1)).set 1 (.int p2)).set 2 (.int p3)) 3 T11.heap n0 (Nat.le_trans (Nat.le_trans (Nat.le_trans (Nat.le_trans (Nat.le_trans Z0 E7.1) K8q.1) K9q.1) K10q.1) K11q.1) ne1 ne2 ne3 Vh11q Vd11q Fs11q Fc11q (by decide) (own_u c0 (by decide)) (by decide) rfl (by decide) (own_u c0 (by decide)) (by decide) (by decide) (Nat.le_of_ble_eq_true rfl) g_c0 E11q g_b7 (by decide) (by decide) (by decide)) hZ (hw _ (List.mem_of_getElem? (i := 20) rfl)) (hw _ (List.mem_of_getElem? (i := 3) rfl)) (by decide) (by decide)) q12a q12c (g := (mkF m 70 #[.val (.int p1), .val (.int p2), .val (.int p3), .val (.int p4), .val (.int p5), .val (.int p6), .val (.int ((1 : Int32) + ((p5 &&& (2147483647 : Int32)) % (6 : Int32)))), .val (.int ((p6 &&& (2147483647 : Int32)) % ((1 : Int32) + ((p5 &&& (2147483647 : Int32)) % (6 : Int32))))), .val (.ref b7), .unset] [(.int p4), (.ref b7)])) rfl (by rw [hml]; rfl) (Steps.refl _) (argsL := [(.int p4)]) (rest := []) (lenOf pd_0_1 rfl) rfl (by show 2 * 0 + _ ≤ _; exact Nat.le_of_eq rfl) (hb hby at_70) (fun _ _ => ⟨rfl, rfl, (by decide : 3 + 0 ≤ _), (by decide : 19 + 0 ≤ _)⟩)
  dsimp only [Pt.U, Pt.locs, Pt.cells, Pt.slots] at X12 l12 y12 z12 st12 hQ12
  subst l12 y12 z12
  obtain ⟨rfl, N12q, K12q, E12q, Fc12q, Fs12q, Vh12q, Vd12q⟩ := hQ12
  have N12 := Fr.app N11 N12q
  have KK12 : Keep h0 T12.heap [] := KK11.trans K12q (allS (Or.inr sz_c0) (allS (Or.inr sz_b7) all0))
  obtain ⟨T13, X13, e13, st13⟩ := own_exp ex p1 p2 p3 p4 (.val (.int p5)) (.val (.int p6)) (.val (.int ((1 : Int32) + ((p5 &&& (2147483647 : Int32)) % (6 : Int32))))) ((p6 &&& (2147483647 : Int32)) % ((1 : Int32) + ((p5 &&& (2147483647 : Int32)) % (6 : Int32)))) (.val (.ref b7)) .unset X12 hx hZ hw hby hml hown rfl One.u hE
  obtain ⟨cq14, kq14, q14a, q14b, q14c⟩ := isOf hZ e13 E12q
  obtain ⟨_, _, ⟨T14, L14, k14, n14⟩, -, X14, ⟨Lc14, hQ14, l14, y14, z14⟩, st14⟩ := X13.virtualBack hx (y := (⟨"com/example/hearsay/hearsay/graph/IntList", "get", "(I)I"⟩ : MethodName)) (z := (⟨"com/example/hearsay/hearsay/graph/IntList", "get", "(I)I"⟩ : MethodName)) hown (mvT hZ (hw _ (List.mem_of_getElem? (i := 24) rfl))) (mvT hZ (hw _ (List.mem_of_getElem? (i := 25) rfl))) (notFace_of_selects (args := #[]) (mvT hZ (hw _ (List.mem_of_getElem? (i := 27) rfl)))) (mvT hZ (hw _ (List.mem_of_getElem? (i := 27) rfl))) (mvT hZ (hw _ (List.mem_of_getElem? (i := 26) rfl))) (by decide) (backOf (W := 0) (rm4 l Z a0 hw [] b7 ((p6 &&& (2147483647 : Int32)) % ((1 : Int32) + ((p5 &&& (2147483647 : Int32)) % (6 : Int32)))) ch c0 kA kI ((((own_z.set 0 (.int p1)).set 1 (.int p2)).set 2 (.int p3)).set 3 (.int p4)) ex T12.heap n0 (Nat.le_trans (Nat.le_trans (Nat.le_trans (Nat.le_trans (Nat.le_trans (Nat.le_trans Z0 E7.1) K8q.1) K9q.1) K10q.1) K11q.1) K12q.1) Vh12q Vd12q Fc12q hr8 (own_u c0 hk0) hr13 u13) hZ (hw _ (List.mem_of_getElem? (i := 28) rfl)) (hw _ (List.mem_of_getElem? (i := 3) rfl)) (by decide) (by decide)) q14a q14c (g := (mkF m 171 #[.val (.int p1), .val (.int p2), .val (.int p3), .val (.int p4), .val (.int p5), .val (.int p6), .val (.int ((1 : Int32) + ((p5 &&& (2147483647 : Int32)) % (6 : Int32)))), .val (.int ((p6 &&& (2147483647 : Int32)) % ((1 : Int32) + ((p5 &&& (2147483647 : Int32)) % (6 : Int32))))), .val (.ref b7), .val (.int ex)] [(.int ((p6 &&& (2147483647 : Int32)) % ((1 : Int32) + ((p5 &&& (2147483647 : Int32)) % (6 : Int32))))), (.ref b7)])) rfl (by rw [hml]; rfl) (Steps.refl _) (argsL := [(.int ((p6 &&& (2147483647 : Int32)) % ((1 : Int32) + ((p5 &&& (2147483647 : Int32)) % (6 : Int32)))))]) (rest := []) (lenOf pd_0_2 rfl) rfl (by show 2 * 0 + _ ≤ _; exact Nat.le_of_eq rfl) (hb hby at_171) (fun _ _ => ⟨rfl, e13, (by decide : 3 + 0 ≤ _), (by decide : 19 + 0 ≤ _)⟩)
  dsimp only [Pt.U, Pt.locs, Pt.cells, Pt.slots] at X14 l14 y14 z14 st14 hQ14
  subst l14 y14 z14
  obtain ⟨rfl, N14q, e14q⟩ := hQ14
  have N14 := Fr.app N12 N14q
  obtain ⟨fs, hr, hrun, hended, hW, hsame⟩ := X14.leave (v := some (.int (1 : Int32))) (fun h => by rw [Bd.returns] at h; cases h)
  refine ⟨_, _, pre0 _ ?_, hrun, hended, _, _, rfl, ?_, ⟨_, rfl⟩, hW, hsame.mono (by decide) (by decide)⟩
  · show Steps p.tables e below (s₁.setTop (mkF m 0 #[.val (.int p1), .val (.int p2), .val (.int p3), .val (.int p4), .val (.int p5), .val (.int p6), .unset, .unset, .unset, .unset] [])) _
    refine XS.iconst X0.here hx rfl (hb hby at_0) ?_
    show Steps p.tables e below (s₁.setTop (mkF m 1 #[.val (.int p1), .val (.int p2), .val (.int p3), .val (.int p4), .val (.int p5), .val (.int p6), .unset, .unset, .unset, .unset] [(.int (1 : Int32))])) _
    refine XS.iload X0.here hx rfl (hb hby at_1) rfl ?_
    show Steps p.tables e below (s₁.setTop (mkF m 3 #[.val (.int p1), .val (.int p2), .val (.int p3), .val (.int p4), .val (.int p5), .val (.int p6), .unset, .unset, .unset, .unset] [(.int p5), (.int (1 : Int32))])) _
    refine X0.ldcInt hx hown (mvT hZ (hw _ (List.mem_of_getElem? (i := 0) rfl))) (g := (mkF m 3 #[.val (.int p1), .val (.int p2), .val (.int p3), .val (.int p4), .val (.int p5), .val (.int p6), .unset, .unset, .unset, .unset] [(.int p5), (.int (1 : Int32))])) rfl (hb hby at_3) _ ?_
    show Steps p.tables e below (s₁.setTop (mkF m 5 #[.val (.int p1), .val (.int p2), .val (.int p3), .val (.int p4), .val (.int p5), .val (.int p6), .unset, .unset, .unset, .unset] [(.int (2147483647 : Int32)), (.int p5), (.int (1 : Int32))])) _
    refine XS.iand X0.here hx rfl (hb hby at_5) rfl ?_
    show Steps p.tables e below (s₁.setTop (mkF m 6 #[.val (.int p1), .val (.int p2), .val (.int p3), .val (.int p4), .val (.int p5), .val (.int p6), .unset, .unset, .unset, .unset] [(.int (p5 &&& (2147483647 : Int32))), (.int (1 : Int32))])) _
    refine XS.bipush X0.here hx rfl (hb hby at_6) ?_
    show Steps p.tables e below (s₁.setTop (mkF m 8 #[.val (.int p1), .val (.int p2), .val (.int p3), .val (.int p4), .val (.int p5), .val (.int p6), .unset, .unset, .unset, .unset] [(.int (6 : Int32)), (.int (p5 &&& (2147483647 : Int32))), (.int (1 : Int32))])) _
    refine iremM (g := (mkF m 8 #[.val (.int p1), .val (.int p2), .val (.int p3), .val (.int p4), .val (.int p5), .val (.int p6), .unset, .unset, .unset, .unset] [(.int (6 : Int32)), (.int (p5 &&& (2147483647 : Int32))), (.int (1 : Int32))])) X0 hx rfl (hb hby at_8) rfl (by decide) ?_
    show Steps p.tables e below (s₁.setTop (mkF m 9 #[.val (.int p1), .val (.int p2), .val (.int p3), .val (.int p4), .val (.int p5), .val (.int p6), .unset, .unset, .unset, .unset] [(.int ((p5 &&& (2147483647 : Int32)) % (6 : Int32))), (.int (1 : Int32))])) _
    refine XS.iadd X0.here hx rfl (hb hby at_9) rfl ?_
    show Steps p.tables e below (s₁.setTop (mkF m 10 #[.val (.int p1), .val (.int p2), .val (.int p3), .val (.int p4), .val (.int p5), .val (.int p6), .unset, .unset, .unset, .unset] [(.int ((1 : Int32) + ((p5 &&& (2147483647 : Int32)) % (6 : Int32))))])) _
    refine XS.istore X0.here hx rfl (hb hby at_10) rfl (l' := #[.val (.int p1), .val (.int p2), .val (.int p3), .val (.int p4), .val (.int p5), .val (.int p6), .val (.int ((1 : Int32) + ((p5 &&& (2147483647 : Int32)) % (6 : Int32)))), .unset, .unset, .unset]) rfl ?_
    show Steps p.tables e below (s₁.setTop (mkF m 12 #[.val (.int p1), .val (.int p2), .val (.int p3), .val (.int p4), .val (.int p5), .val (.int p6), .val (.int ((1 : Int32) + ((p5 &&& (2147483647 : Int32)) % (6 : Int32)))), .unset, .unset, .unset] [])) _
    refine XS.iload X0.here hx rfl (hb hby at_12) rfl ?_
    show Steps p.tables e below (s₁.setTop (mkF m 14 #[.val (.int p1), .val (.int p2), .val (.int p3), .val (.int p4), .val (.int p5), .val (.int p6), .val (.int ((1 : Int32) + ((p5 &&& (2147483647 : Int32)) % (6 : Int32)))), .unset, .unset, .unset] [(.int p6)])) _
    refine X0.ldcInt hx hown (mvT hZ (hw _ (List.mem_of_getElem? (i := 0) rfl))) (g := (mkF m 14 #[.val (.int p1), .val (.int p2), .val (.int p3), .val (.int p4), .val (.int p5), .val (.int p6), .val (.int ((1 : Int32) + ((p5 &&& (2147483647 : Int32)) % (6 : Int32)))), .unset, .unset, .unset] [(.int p6)])) rfl (hb hby at_14) _ ?_
    show Steps p.tables e below (s₁.setTop (mkF m 16 #[.val (.int p1), .val (.int p2), .val (.int p3), .val (.int p4), .val (.int p5), .val (.int p6), .val (.int ((1 : Int32) + ((p5 &&& (2147483647 : Int32)) % (6 : Int32)))), .unset, .unset, .unset] [(.int (2147483647 : Int32)), (.int p6)])) _
    refine XS.iand X0.here hx rfl (hb hby at_16) rfl ?_
    show Steps p.tables e below (s₁.setTop (mkF m 17 #[.val (.int p1), .val (.int p2), .val (.int p3), .val (.int p4), .val (.int p5), .val (.int p6), .val (.int ((1 : Int32) + ((p5 &&& (2147483647 : Int32)) % (6 : Int32)))), .unset, .unset, .unset] [(.int (p6 &&& (2147483647 : Int32)))])) _
    refine XS.iload X0.here hx rfl (hb hby at_17) rfl ?_
    show Steps p.tables e below (s₁.setTop (mkF m 19 #[.val (.int p1), .val (.int p2), .val (.int p3), .val (.int p4), .val (.int p5), .val (.int p6), .val (.int ((1 : Int32) + ((p5 &&& (2147483647 : Int32)) % (6 : Int32)))), .unset, .unset, .unset] [(.int ((1 : Int32) + ((p5 &&& (2147483647 : Int32)) % (6 : Int32)))), (.int (p6 &&& (2147483647 : Int32)))])) _
    refine iremM (g := (mkF m 19 #[.val (.int p1), .val (.int p2), .val (.int p3), .val (.int p4), .val (.int p5), .val (.int p6), .val (.int ((1 : Int32) + ((p5 &&& (2147483647 : Int32)) % (6 : Int32)))), .unset, .unset, .unset] [(.int ((1 : Int32) + ((p5 &&& (2147483647 : Int32)) % (6 : Int32)))), (.int (p6 &&& (2147483647 : Int32)))])) X0 hx rfl (hb hby at_19) rfl hnz19 ?_
    show Steps p.tables e below (s₁.setTop (mkF m 20 #[.val (.int p1), .val (.int p2), .val (.int p3), .val (.int p4), .val (.int p5), .val (.int p6), .val (.int ((1 : Int32) + ((p5 &&& (2147483647 : Int32)) % (6 : Int32)))), .unset, .unset, .unset] [(.int ((p6 &&& (2147483647 : Int32)) % ((1 : Int32) + ((p5 &&& (2147483647 : Int32)) % (6 : Int32)))))])) _
    refine XS.istore X0.here hx rfl (hb hby at_20) rfl (l' := #[.val (.int p1), .val (.int p2), .val (.int p3), .val (.int p4), .val (.int p5), .val (.int p6), .val (.int ((1 : Int32) + ((p5 &&& (2147483647 : Int32)) % (6 : Int32)))), .val (.int ((p6 &&& (2147483647 : Int32)) % ((1 : Int32) + ((p5 &&& (2147483647 : Int32)) % (6 : Int32))))), .unset, .unset]) rfl ?_
    show Steps p.tables e below (s₁.setTop (mkF m 22 #[.val (.int p1), .val (.int p2), .val (.int p3), .val (.int p4), .val (.int p5), .val (.int p6), .val (.int ((1 : Int32) + ((p5 &&& (2147483647 : Int32)) % (6 : Int32)))), .val (.int ((p6 &&& (2147483647 : Int32)) % ((1 : Int32) + ((p5 &&& (2147483647 : Int32)) % (6 : Int32))))), .unset, .unset] [])) _
    refine st7 _ ?_
    show Steps p.tables e below (T7.setTop (mkF m 25 #[.val (.int p1), .val (.int p2), .val (.int p3), .val (.int p4), .val (.int p5), .val (.int p6), .val (.int ((1 : Int32) + ((p5 &&& (2147483647 : Int32)) % (6 : Int32)))), .val (.int ((p6 &&& (2147483647 : Int32)) % ((1 : Int32) + ((p5 &&& (2147483647 : Int32)) % (6 : Int32))))), .unset, .unset] [(.ref b7)])) _
    refine XS.dup X7.here hx rfl (hb hby at_25) rfl rfl ?_
    show Steps p.tables e below (T7.setTop (mkF m 26 #[.val (.int p1), .val (.int p2), .val (.int p3), .val (.int p4), .val (.int p5), .val (.int p6), .val (.int ((1 : Int32) + ((p5 &&& (2147483647 : Int32)) % (6 : Int32)))), .val (.int ((p6 &&& (2147483647 : Int32)) % ((1 : Int32) + ((p5 &&& (2147483647 : Int32)) % (6 : Int32))))), .unset, .unset] [(.ref b7), (.ref b7)])) _
    refine st8.trans ?_
    show Steps p.tables e below (T8.setTop (mkF m 29 #[.val (.int p1), .val (.int p2), .val (.int p3), .val (.int p4), .val (.int p5), .val (.int p6), .val (.int ((1 : Int32) + ((p5 &&& (2147483647 : Int32)) % (6 : Int32)))), .val (.int ((p6 &&& (2147483647 : Int32)) % ((1 : Int32) + ((p5 &&& (2147483647 : Int32)) % (6 : Int32))))), .unset, .unset] [(.ref b7)])) _
    refine XS.astore X8.here hx rfl (hb hby at_29) rfl rfl (l' := #[.val (.int p1), .val (.int p2), .val (.int p3), .val (.int p4), .val (.int p5), .val (.int p6), .val (.int ((1 : Int32) + ((p5 &&& (2147483647 : Int32)) % (6 : Int32)))), .val (.int ((p6 &&& (2147483647 : Int32)) % ((1 : Int32) + ((p5 &&& (2147483647 : Int32)) % (6 : Int32))))), .val (.ref b7), .unset]) rfl ?_
    show Steps p.tables e below (T8.setTop (mkF m 31 #[.val (.int p1), .val (.int p2), .val (.int p3), .val (.int p4), .val (.int p5), .val (.int p6), .val (.int ((1 : Int32) + ((p5 &&& (2147483647 : Int32)) % (6 : Int32)))), .val (.int ((p6 &&& (2147483647 : Int32)) % ((1 : Int32) + ((p5 &&& (2147483647 : Int32)) % (6 : Int32))))), .val (.ref b7), .unset] [])) _
    refine XS.aload X8.here hx rfl (hb hby at_31) rfl rfl ?_
    show Steps p.tables e below (T8.setTop (mkF m 33 #[.val (.int p1), .val (.int p2), .val (.int p3), .val (.int p4), .val (.int p5), .val (.int p6), .val (.int ((1 : Int32) + ((p5 &&& (2147483647 : Int32)) % (6 : Int32)))), .val (.int ((p6 &&& (2147483647 : Int32)) % ((1 : Int32) + ((p5 &&& (2147483647 : Int32)) % (6 : Int32))))), .val (.ref b7), .unset] [(.ref b7)])) _
    refine XS.iloadN X8.here hx rfl (hb hby at_33) rfl ?_
    show Steps p.tables e below (T8.setTop (mkF m 34 #[.val (.int p1), .val (.int p2), .val (.int p3), .val (.int p4), .val (.int p5), .val (.int p6), .val (.int ((1 : Int32) + ((p5 &&& (2147483647 : Int32)) % (6 : Int32)))), .val (.int ((p6 &&& (2147483647 : Int32)) % ((1 : Int32) + ((p5 &&& (2147483647 : Int32)) % (6 : Int32))))), .val (.ref b7), .unset] [(.int p1), (.ref b7)])) _
    refine st9.trans ?_
    show Steps p.tables e below (T9.setTop (mkF m 37 #[.val (.int p1), .val (.int p2), .val (.int p3), .val (.int p4), .val (.int p5), .val (.int p6), .val (.int ((1 : Int32) + ((p5 &&& (2147483647 : Int32)) % (6 : Int32)))), .val (.int ((p6 &&& (2147483647 : Int32)) % ((1 : Int32) + ((p5 &&& (2147483647 : Int32)) % (6 : Int32))))), .val (.ref b7), .unset] [])) _
    refine XS.iload X9.here hx rfl (hb hby at_37) rfl ?_
    show Steps p.tables e below (T9.setTop (mkF m 39 #[.val (.int p1), .val (.int p2), .val (.int p3), .val (.int p4), .val (.int p5), .val (.int p6), .val (.int ((1 : Int32) + ((p5 &&& (2147483647 : Int32)) % (6 : Int32)))), .val (.int ((p6 &&& (2147483647 : Int32)) % ((1 : Int32) + ((p5 &&& (2147483647 : Int32)) % (6 : Int32))))), .val (.ref b7), .unset] [(.int ((1 : Int32) + ((p5 &&& (2147483647 : Int32)) % (6 : Int32))))])) _
    refine XS.iconst X9.here hx rfl (hb hby at_39) ?_
    show Steps p.tables e below (T9.setTop (mkF m 40 #[.val (.int p1), .val (.int p2), .val (.int p3), .val (.int p4), .val (.int p5), .val (.int p6), .val (.int ((1 : Int32) + ((p5 &&& (2147483647 : Int32)) % (6 : Int32)))), .val (.int ((p6 &&& (2147483647 : Int32)) % ((1 : Int32) + ((p5 &&& (2147483647 : Int32)) % (6 : Int32))))), .val (.ref b7), .unset] [(.int (1 : Int32)), (.int ((1 : Int32) + ((p5 &&& (2147483647 : Int32)) % (6 : Int32))))])) _
    refine XS.icmpNo X9.here hx rfl (hb hby at_40) rfl (tlt hc40).2.2.2 ?_
    show Steps p.tables e below (T9.setTop (mkF m 43 #[.val (.int p1), .val (.int p2), .val (.int p3), .val (.int p4), .val (.int p5), .val (.int p6), .val (.int ((1 : Int32) + ((p5 &&& (2147483647 : Int32)) % (6 : Int32)))), .val (.int ((p6 &&& (2147483647 : Int32)) % ((1 : Int32) + ((p5 &&& (2147483647 : Int32)) % (6 : Int32))))), .val (.ref b7), .unset] [])) _
    refine XS.aload X9.here hx rfl (hb hby at_43) rfl rfl ?_
    show Steps p.tables e below (T9.setTop (mkF m 45 #[.val (.int p1), .val (.int p2), .val (.int p3), .val (.int p4), .val (.int p5), .val (.int p6), .val (.int ((1 : Int32) + ((p5 &&& (2147483647 : Int32)) % (6 : Int32)))), .val (.int ((p6 &&& (2147483647 : Int32)) % ((1 : Int32) + ((p5 &&& (2147483647 : Int32)) % (6 : Int32))))), .val (.ref b7), .unset] [(.ref b7)])) _
    refine XS.iloadN X9.here hx rfl (hb hby at_45) rfl ?_
    show Steps p.tables e below (T9.setTop (mkF m 46 #[.val (.int p1), .val (.int p2), .val (.int p3), .val (.int p4), .val (.int p5), .val (.int p6), .val (.int ((1 : Int32) + ((p5 &&& (2147483647 : Int32)) % (6 : Int32)))), .val (.int ((p6 &&& (2147483647 : Int32)) % ((1 : Int32) + ((p5 &&& (2147483647 : Int32)) % (6 : Int32))))), .val (.ref b7), .unset] [(.int p2), (.ref b7)])) _
    refine st10.trans ?_
    show Steps p.tables e below (T10.setTop (mkF m 49 #[.val (.int p1), .val (.int p2), .val (.int p3), .val (.int p4), .val (.int p5), .val (.int p6), .val (.int ((1 : Int32) + ((p5 &&& (2147483647 : Int32)) % (6 : Int32)))), .val (.int ((p6 &&& (2147483647 : Int32)) % ((1 : Int32) + ((p5 &&& (2147483647 : Int32)) % (6 : Int32))))), .val (.ref b7), .unset] [])) _
    refine XS.iload X10.here hx rfl (hb hby at_49) rfl ?_
    show Steps p.tables e below (T10.setTop (mkF m 51 #[.val (.int p1), .val (.int p2), .val (.int p3), .val (.int p4), .val (.int p5), .val (.int p6), .val (.int ((1 : Int32) + ((p5 &&& (2147483647 : Int32)) % (6 : Int32)))), .val (.int ((p6 &&& (2147483647 : Int32)) % ((1 : Int32) + ((p5 &&& (2147483647 : Int32)) % (6 : Int32))))), .val (.ref b7), .unset] [(.int ((1 : Int32) + ((p5 &&& (2147483647 : Int32)) % (6 : Int32))))])) _
    refine XS.iconst X10.here hx rfl (hb hby at_51) ?_
    show Steps p.tables e below (T10.setTop (mkF m 52 #[.val (.int p1), .val (.int p2), .val (.int p3), .val (.int p4), .val (.int p5), .val (.int p6), .val (.int ((1 : Int32) + ((p5 &&& (2147483647 : Int32)) % (6 : Int32)))), .val (.int ((p6 &&& (2147483647 : Int32)) % ((1 : Int32) + ((p5 &&& (2147483647 : Int32)) % (6 : Int32))))), .val (.ref b7), .unset] [(.int (2 : Int32)), (.int ((1 : Int32) + ((p5 &&& (2147483647 : Int32)) % (6 : Int32))))])) _
    refine XS.icmpNo X10.here hx rfl (hb hby at_52) rfl (tlt hc52).2.2.2 ?_
    show Steps p.tables e below (T10.setTop (mkF m 55 #[.val (.int p1), .val (.int p2), .val (.int p3), .val (.int p4), .val (.int p5), .val (.int p6), .val (.int ((1 : Int32) + ((p5 &&& (2147483647 : Int32)) % (6 : Int32)))), .val (.int ((p6 &&& (2147483647 : Int32)) % ((1 : Int32) + ((p5 &&& (2147483647 : Int32)) % (6 : Int32))))), .val (.ref b7), .unset] [])) _
    refine XS.aload X10.here hx rfl (hb hby at_55) rfl rfl ?_
    show Steps p.tables e below (T10.setTop (mkF m 57 #[.val (.int p1), .val (.int p2), .val (.int p3), .val (.int p4), .val (.int p5), .val (.int p6), .val (.int ((1 : Int32) + ((p5 &&& (2147483647 : Int32)) % (6 : Int32)))), .val (.int ((p6 &&& (2147483647 : Int32)) % ((1 : Int32) + ((p5 &&& (2147483647 : Int32)) % (6 : Int32))))), .val (.ref b7), .unset] [(.ref b7)])) _
    refine XS.iloadN X10.here hx rfl (hb hby at_57) rfl ?_
    show Steps p.tables e below (T10.setTop (mkF m 58 #[.val (.int p1), .val (.int p2), .val (.int p3), .val (.int p4), .val (.int p5), .val (.int p6), .val (.int ((1 : Int32) + ((p5 &&& (2147483647 : Int32)) % (6 : Int32)))), .val (.int ((p6 &&& (2147483647 : Int32)) % ((1 : Int32) + ((p5 &&& (2147483647 : Int32)) % (6 : Int32))))), .val (.ref b7), .unset] [(.int p3), (.ref b7)])) _
    refine st11.trans ?_
    show Steps p.tables e below (T11.setTop (mkF m 61 #[.val (.int p1), .val (.int p2), .val (.int p3), .val (.int p4), .val (.int p5), .val (.int p6), .val (.int ((1 : Int32) + ((p5 &&& (2147483647 : Int32)) % (6 : Int32)))), .val (.int ((p6 &&& (2147483647 : Int32)) % ((1 : Int32) + ((p5 &&& (2147483647 : Int32)) % (6 : Int32))))), .val (.ref b7), .unset] [])) _
    refine XS.iload X11.here hx rfl (hb hby at_61) rfl ?_
    show Steps p.tables e below (T11.setTop (mkF m 63 #[.val (.int p1), .val (.int p2), .val (.int p3), .val (.int p4), .val (.int p5), .val (.int p6), .val (.int ((1 : Int32) + ((p5 &&& (2147483647 : Int32)) % (6 : Int32)))), .val (.int ((p6 &&& (2147483647 : Int32)) % ((1 : Int32) + ((p5 &&& (2147483647 : Int32)) % (6 : Int32))))), .val (.ref b7), .unset] [(.int ((1 : Int32) + ((p5 &&& (2147483647 : Int32)) % (6 : Int32))))])) _
    refine XS.iconst X11.here hx rfl (hb hby at_63) ?_
    show Steps p.tables e below (T11.setTop (mkF m 64 #[.val (.int p1), .val (.int p2), .val (.int p3), .val (.int p4), .val (.int p5), .val (.int p6), .val (.int ((1 : Int32) + ((p5 &&& (2147483647 : Int32)) % (6 : Int32)))), .val (.int ((p6 &&& (2147483647 : Int32)) % ((1 : Int32) + ((p5 &&& (2147483647 : Int32)) % (6 : Int32))))), .val (.ref b7), .unset] [(.int (3 : Int32)), (.int ((1 : Int32) + ((p5 &&& (2147483647 : Int32)) % (6 : Int32))))])) _
    refine XS.icmpNo X11.here hx rfl (hb hby at_64) rfl (tlt hc64).2.2.2 ?_
    show Steps p.tables e below (T11.setTop (mkF m 67 #[.val (.int p1), .val (.int p2), .val (.int p3), .val (.int p4), .val (.int p5), .val (.int p6), .val (.int ((1 : Int32) + ((p5 &&& (2147483647 : Int32)) % (6 : Int32)))), .val (.int ((p6 &&& (2147483647 : Int32)) % ((1 : Int32) + ((p5 &&& (2147483647 : Int32)) % (6 : Int32))))), .val (.ref b7), .unset] [])) _
    refine XS.aload X11.here hx rfl (hb hby at_67) rfl rfl ?_
    show Steps p.tables e below (T11.setTop (mkF m 69 #[.val (.int p1), .val (.int p2), .val (.int p3), .val (.int p4), .val (.int p5), .val (.int p6), .val (.int ((1 : Int32) + ((p5 &&& (2147483647 : Int32)) % (6 : Int32)))), .val (.int ((p6 &&& (2147483647 : Int32)) % ((1 : Int32) + ((p5 &&& (2147483647 : Int32)) % (6 : Int32))))), .val (.ref b7), .unset] [(.ref b7)])) _
    refine XS.iloadN X11.here hx rfl (hb hby at_69) rfl ?_
    show Steps p.tables e below (T11.setTop (mkF m 70 #[.val (.int p1), .val (.int p2), .val (.int p3), .val (.int p4), .val (.int p5), .val (.int p6), .val (.int ((1 : Int32) + ((p5 &&& (2147483647 : Int32)) % (6 : Int32)))), .val (.int ((p6 &&& (2147483647 : Int32)) % ((1 : Int32) + ((p5 &&& (2147483647 : Int32)) % (6 : Int32))))), .val (.ref b7), .unset] [(.int p4), (.ref b7)])) _
    refine st12.trans ?_
    show Steps p.tables e below (T12.setTop (mkF m 73 #[.val (.int p1), .val (.int p2), .val (.int p3), .val (.int p4), .val (.int p5), .val (.int p6), .val (.int ((1 : Int32) + ((p5 &&& (2147483647 : Int32)) % (6 : Int32)))), .val (.int ((p6 &&& (2147483647 : Int32)) % ((1 : Int32) + ((p5 &&& (2147483647 : Int32)) % (6 : Int32))))), .val (.ref b7), .unset] [])) _
    refine XS.iload X12.here hx rfl (hb hby at_73) rfl ?_
    show Steps p.tables e below (T12.setTop (mkF m 75 #[.val (.int p1), .val (.int p2), .val (.int p3), .val (.int p4), .val (.int p5), .val (.int p6), .val (.int ((1 : Int32) + ((p5 &&& (2147483647 : Int32)) % (6 : Int32)))), .val (.int ((p6 &&& (2147483647 : Int32)) % ((1 : Int32) + ((p5 &&& (2147483647 : Int32)) % (6 : Int32))))), .val (.ref b7), .unset] [(.int ((1 : Int32) + ((p5 &&& (2147483647 : Int32)) % (6 : Int32))))])) _
    refine XS.iconst X12.here hx rfl (hb hby at_75) ?_
    show Steps p.tables e below (T12.setTop (mkF m 76 #[.val (.int p1), .val (.int p2), .val (.int p3), .val (.int p4), .val (.int p5), .val (.int p6), .val (.int ((1 : Int32) + ((p5 &&& (2147483647 : Int32)) % (6 : Int32)))), .val (.int ((p6 &&& (2147483647 : Int32)) % ((1 : Int32) + ((p5 &&& (2147483647 : Int32)) % (6 : Int32))))), .val (.ref b7), .unset] [(.int (4 : Int32)), (.int ((1 : Int32) + ((p5 &&& (2147483647 : Int32)) % (6 : Int32))))])) _
    refine XS.icmpYes X12.here hx rfl (pc0 := 76) (pc' := 87) rfl (hb hby at_76) rfl (flt hc76).2.2.2 (by decide) (by decide) ?_
    show Steps p.tables e below (T12.setTop (mkF m 87 #[.val (.int p1), .val (.int p2), .val (.int p3), .val (.int p4), .val (.int p5), .val (.int p6), .val (.int ((1 : Int32) + ((p5 &&& (2147483647 : Int32)) % (6 : Int32)))), .val (.int ((p6 &&& (2147483647 : Int32)) % ((1 : Int32) + ((p5 &&& (2147483647 : Int32)) % (6 : Int32))))), .val (.ref b7), .unset] [])) _
    refine XS.iload X12.here hx rfl (hb hby at_87) rfl ?_
    show Steps p.tables e below (T12.setTop (mkF m 89 #[.val (.int p1), .val (.int p2), .val (.int p3), .val (.int p4), .val (.int p5), .val (.int p6), .val (.int ((1 : Int32) + ((p5 &&& (2147483647 : Int32)) % (6 : Int32)))), .val (.int ((p6 &&& (2147483647 : Int32)) % ((1 : Int32) + ((p5 &&& (2147483647 : Int32)) % (6 : Int32))))), .val (.ref b7), .unset] [(.int ((1 : Int32) + ((p5 &&& (2147483647 : Int32)) % (6 : Int32))))])) _
    refine XS.iconst X12.here hx rfl (hb hby at_89) ?_
    show Steps p.tables e below (T12.setTop (mkF m 90 #[.val (.int p1), .val (.int p2), .val (.int p3), .val (.int p4), .val (.int p5), .val (.int p6), .val (.int ((1 : Int32) + ((p5 &&& (2147483647 : Int32)) % (6 : Int32)))), .val (.int ((p6 &&& (2147483647 : Int32)) % ((1 : Int32) + ((p5 &&& (2147483647 : Int32)) % (6 : Int32))))), .val (.ref b7), .unset] [(.int (5 : Int32)), (.int ((1 : Int32) + ((p5 &&& (2147483647 : Int32)) % (6 : Int32))))])) _
    refine XS.icmpYes X12.here hx rfl (pc0 := 90) (pc' := 101) rfl (hb hby at_90) rfl (flt hc90).2.2.2 (by decide) (by decide) ?_
    show Steps p.tables e below (T12.setTop (mkF m 101 #[.val (.int p1), .val (.int p2), .val (.int p3), .val (.int p4), .val (.int p5), .val (.int p6), .val (.int ((1 : Int32) + ((p5 &&& (2147483647 : Int32)) % (6 : Int32)))), .val (.int ((p6 &&& (2147483647 : Int32)) % ((1 : Int32) + ((p5 &&& (2147483647 : Int32)) % (6 : Int32))))), .val (.ref b7), .unset] [])) _
    refine st13 _ ?_
    show Steps p.tables e below (T13.setTop (mkF m 167 #[.val (.int p1), .val (.int p2), .val (.int p3), .val (.int p4), .val (.int p5), .val (.int p6), .val (.int ((1 : Int32) + ((p5 &&& (2147483647 : Int32)) % (6 : Int32)))), .val (.int ((p6 &&& (2147483647 : Int32)) % ((1 : Int32) + ((p5 &&& (2147483647 : Int32)) % (6 : Int32))))), .val (.ref b7), .val (.int ex)] [])) _
    refine XS.aload X13.here hx rfl (hb hby at_167) rfl rfl ?_
    show Steps p.tables e below (T13.setTop (mkF m 169 #[.val (.int p1), .val (.int p2), .val (.int p3), .val (.int p4), .val (.int p5), .val (.int p6), .val (.int ((1 : Int32) + ((p5 &&& (2147483647 : Int32)) % (6 : Int32)))), .val (.int ((p6 &&& (2147483647 : Int32)) % ((1 : Int32) + ((p5 &&& (2147483647 : Int32)) % (6 : Int32))))), .val (.ref b7), .val (.int ex)] [(.ref b7)])) _
    refine XS.iload X13.here hx rfl (hb hby at_169) rfl ?_
    show Steps p.tables e below (T13.setTop (mkF m 171 #[.val (.int p1), .val (.int p2), .val (.int p3), .val (.int p4), .val (.int p5), .val (.int p6), .val (.int ((1 : Int32) + ((p5 &&& (2147483647 : Int32)) % (6 : Int32)))), .val (.int ((p6 &&& (2147483647 : Int32)) % ((1 : Int32) + ((p5 &&& (2147483647 : Int32)) % (6 : Int32))))), .val (.ref b7), .val (.int ex)] [(.int ((p6 &&& (2147483647 : Int32)) % ((1 : Int32) + ((p5 &&& (2147483647 : Int32)) % (6 : Int32))))), (.ref b7)])) _
    refine st14.trans ?_
    show Steps p.tables e below (T14.setTop (mkF m 174 #[.val (.int p1), .val (.int p2), .val (.int p3), .val (.int p4), .val (.int p5), .val (.int p6), .val (.int ((1 : Int32) + ((p5 &&& (2147483647 : Int32)) % (6 : Int32)))), .val (.int ((p6 &&& (2147483647 : Int32)) % ((1 : Int32) + ((p5 &&& (2147483647 : Int32)) % (6 : Int32))))), .val (.ref b7), .val (.int ex)] [(.int ex)])) _
    refine XS.iload X14.here hx rfl (hb hby at_174) rfl ?_
    show Steps p.tables e below (T14.setTop (mkF m 176 #[.val (.int p1), .val (.int p2), .val (.int p3), .val (.int p4), .val (.int p5), .val (.int p6), .val (.int ((1 : Int32) + ((p5 &&& (2147483647 : Int32)) % (6 : Int32)))), .val (.int ((p6 &&& (2147483647 : Int32)) % ((1 : Int32) + ((p5 &&& (2147483647 : Int32)) % (6 : Int32))))), .val (.ref b7), .val (.int ex)] [(.int ex), (.int ex)])) _
    refine XS.icmpNo X14.here hx rfl (hb hby at_176) rfl (teq (rfl : ex = ex)).2 ?_
    show Steps p.tables e below (T14.setTop (mkF m 179 #[.val (.int p1), .val (.int p2), .val (.int p3), .val (.int p4), .val (.int p5), .val (.int p6), .val (.int ((1 : Int32) + ((p5 &&& (2147483647 : Int32)) % (6 : Int32)))), .val (.int ((p6 &&& (2147483647 : Int32)) % ((1 : Int32) + ((p5 &&& (2147483647 : Int32)) % (6 : Int32))))), .val (.ref b7), .val (.int ex)] [])) _
    refine XS.iconst X14.here hx rfl (hb hby at_179) ?_
    show Steps p.tables e below (T14.setTop (mkF m 180 #[.val (.int p1), .val (.int p2), .val (.int p3), .val (.int p4), .val (.int p5), .val (.int p6), .val (.int ((1 : Int32) + ((p5 &&& (2147483647 : Int32)) % (6 : Int32)))), .val (.int ((p6 &&& (2147483647 : Int32)) % ((1 : Int32) + ((p5 &&& (2147483647 : Int32)) % (6 : Int32))))), .val (.ref b7), .val (.int ex)] [(.int (1 : Int32))])) _
    refine XS.goto X14.here hx rfl (pc0 := 180) (pc' := 184) rfl (hb hby at_180) (by decide) (by decide) ?_
    show Steps p.tables e below (T14.setTop (mkF m 184 #[.val (.int p1), .val (.int p2), .val (.int p3), .val (.int p4), .val (.int p5), .val (.int p6), .val (.int ((1 : Int32) + ((p5 &&& (2147483647 : Int32)) % (6 : Int32)))), .val (.int ((p6 &&& (2147483647 : Int32)) % ((1 : Int32) + ((p5 &&& (2147483647 : Int32)) % (6 : Int32))))), .val (.ref b7), .val (.int ex)] [(.int (1 : Int32))])) _
    exact retN X14 hx (t := .boolean) Bd.returns (by simp) (hb hby at_184) hr
  · show Qlaw0 n0 _ T14.heap _
    rw [e14q]
    exact ⟨rfl, N14⟩
set_option maxRecDepth 65536 in
set_option maxHeartbeats 40000000 in
theorem rm0_5 (l : Launch) (Z : State) (a0 : Array Value) (hw : ∀ d ∈ tables_1, d.before a0 Z = true) (ws : List Jvm.Cond) (p1 : Int32) (p2 : Int32) (p3 : Int32) (p4 : Int32) (p5 : Int32) (p6 : Int32) (ex : Int32) (h0 : Heap) (n0 : Nat) (Z0 : n0 ≤ h0.size) (hE : (((p6 &&& (2147483647 : Int32)) % ((1 : Int32) + ((p5 &&& (2147483647 : Int32)) % (6 : Int32)))) = (0 : Int32) ∧ ex = p1) ∨ (¬ (((p6 &&& (2147483647 : Int32)) % ((1 : Int32) + ((p5 &&& (2147483647 : Int32)) % (6 : Int32)))) = (0 : Int32)) ∧ ((p6 &&& (2147483647 : Int32)) % ((1 : Int32) + ((p5 &&& (2147483647 : Int32)) % (6 : Int32)))) = (1 : Int32) ∧ ex = p2) ∨ (¬ (((p6 &&& (2147483647 : Int32)) % ((1 : Int32) + ((p5 &&& (2147483647 : Int32)) % (6 : Int32)))) = (0 : Int32)) ∧ ¬ (((p6 &&& (2147483647 : Int32)) % ((1 : Int32) + ((p5 &&& (2147483647 : Int32)) % (6 : Int32)))) = (1 : Int32)) ∧ ((p6 &&& (2147483647 : Int32)) % ((1 : Int32) + ((p5 &&& (2147483647 : Int32)) % (6 : Int32)))) = (2 : Int32) ∧ ex = p3) ∨ (¬ (((p6 &&& (2147483647 : Int32)) % ((1 : Int32) + ((p5 &&& (2147483647 : Int32)) % (6 : Int32)))) = (0 : Int32)) ∧ ¬ (((p6 &&& (2147483647 : Int32)) % ((1 : Int32) + ((p5 &&& (2147483647 : Int32)) % (6 : Int32)))) = (1 : Int32)) ∧ ¬ (((p6 &&& (2147483647 : Int32)) % ((1 : Int32) + ((p5 &&& (2147483647 : Int32)) % (6 : Int32)))) = (2 : Int32)) ∧ ((p6 &&& (2147483647 : Int32)) % ((1 : Int32) + ((p5 &&& (2147483647 : Int32)) % (6 : Int32)))) = (3 : Int32) ∧ ex = p4) ∨ (¬ (((p6 &&& (2147483647 : Int32)) % ((1 : Int32) + ((p5 &&& (2147483647 : Int32)) % (6 : Int32)))) = (0 : Int32)) ∧ ¬ (((p6 &&& (2147483647 : Int32)) % ((1 : Int32) + ((p5 &&& (2147483647 : Int32)) % (6 : Int32)))) = (1 : Int32)) ∧ ¬ (((p6 &&& (2147483647 : Int32)) % ((1 : Int32) + ((p5 &&& (2147483647 : Int32)) % (6 : Int32)))) = (2 : Int32)) ∧ ¬ (((p6 &&& (2147483647 : Int32)) % ((1 : Int32) + ((p5 &&& (2147483647 : Int32)) % (6 : Int32)))) = (3 : Int32)) ∧ ((p6 &&& (2147483647 : Int32)) % ((1 : Int32) + ((p5 &&& (2147483647 : Int32)) % (6 : Int32)))) = (4 : Int32) ∧ ex = (p1 ^^^ (-1 : Int32))) ∨ (¬ (((p6 &&& (2147483647 : Int32)) % ((1 : Int32) + ((p5 &&& (2147483647 : Int32)) % (6 : Int32)))) = (0 : Int32)) ∧ ¬ (((p6 &&& (2147483647 : Int32)) % ((1 : Int32) + ((p5 &&& (2147483647 : Int32)) % (6 : Int32)))) = (1 : Int32)) ∧ ¬ (((p6 &&& (2147483647 : Int32)) % ((1 : Int32) + ((p5 &&& (2147483647 : Int32)) % (6 : Int32)))) = (2 : Int32)) ∧ ¬ (((p6 &&& (2147483647 : Int32)) % ((1 : Int32) + ((p5 &&& (2147483647 : Int32)) % (6 : Int32)))) = (3 : Int32)) ∧ ¬ (((p6 &&& (2147483647 : Int32)) % ((1 : Int32) + ((p5 &&& (2147483647 : Int32)) % (6 : Int32)))) = (4 : Int32)) ∧ ex = (p2 ^^^ (-1 : Int32)))) (hr8 : ¬ ((((p6 &&& (2147483647 : Int32)) % ((1 : Int32) + ((p5 &&& (2147483647 : Int32)) % (6 : Int32)))).toUInt32 >>> ((16 : Int32) &&& 31).toUInt32).toInt32) < 0 ∧ ((((p6 &&& (2147483647 : Int32)) % ((1 : Int32) + ((p5 &&& (2147483647 : Int32)) % (6 : Int32)))).toUInt32 >>> ((16 : Int32) &&& 31).toUInt32).toInt32) < (1 : Int32)) (hk0 : ((((p6 &&& (2147483647 : Int32)) % ((1 : Int32) + ((p5 &&& (2147483647 : Int32)) % (6 : Int32)))).toUInt32 >>> ((16 : Int32) &&& 31).toUInt32).toInt32) = (0 : Int32)) (hr13 : ¬ (((p6 &&& (2147483647 : Int32)) % ((1 : Int32) + ((p5 &&& (2147483647 : Int32)) % (6 : Int32)))) &&& (65535 : Int32)) < 0 ∧ (((p6 &&& (2147483647 : Int32)) % ((1 : Int32) + ((p5 &&& (2147483647 : Int32)) % (6 : Int32)))) &&& (65535 : Int32)) < (16 : Int32)) (u13 : ((((((own_z.set 0 (.int p1)).set 1 (.int p2)).set 2 (.int p3)).set 3 (.int p4)).set 4 (.int (p1 ^^^ (-1 : Int32)))) : List Value).getD (((p6 &&& (2147483647 : Int32)) % ((1 : Int32) + ((p5 &&& (2147483647 : Int32)) % (6 : Int32)))) &&& (65535 : Int32)).toNatClampNeg ((.int (0 : Int32)) : Value) = (.int ex)) (hnz19 : ¬ (((1 : Int32) + ((p5 &&& (2147483647 : Int32)) % (6 : Int32))) = (0 : Int32))) (hc40 : (1 : Int32) < ((1 : Int32) + ((p5 &&& (2147483647 : Int32)) % (6 : Int32)))) (hc52 : (2 : Int32) < ((1 : Int32) + ((p5 &&& (2147483647 : Int32)) % (6 : Int32)))) (hc64 : (3 : Int32) < ((1 : Int32) + ((p5 &&& (2147483647 : Int32)) % (6 : Int32)))) (hc76 : (4 : Int32) < ((1 : Int32) + ((p5 &&& (2147483647 : Int32)) % (6 : Int32)))) (hc90 : ¬ ((5 : Int32) < ((1 : Int32) + ((p5 &&& (2147483647 : Int32)) % (6 : Int32))))) :
    MetFree l x (head1 (Jvm.Cond.code x code maxLocals ret :: ws) room_1) (fun a U => a = #[(.int p1), (.int p2), (.int p3), (.int p4), (.int p5), (.int p6)] ∧ Z.Warmed39 U.vm ∧ U.heap = h0) (fun _ _ _ _ _ => True) (fun _ U o U' => ∃ v L, o = .returned v ∧ Qlaw0 n0 v U'.heap L ∧ FrameEnd U o U' L room_1.cells room_1.slots) := by
  refine MetFree.of_bodySF (plainFor_of_name pn_0) hisR ?_
  intro p e s m args below meth c s₁ Bd hml0 hP hK
  obtain ⟨rfl, hZ, hh⟩ := hP
  have hx := Bd.exec
  have hby := Bd.bytes
  have hml : c.maxLocals = 10 := hml0
  have hown : s.vm.findClass "com/example/hearsay/hearsay/graph/IntListGetPinLaw" = some m.cls := findClass_of_methodNamed Bd.named
  have hnm := (name_of_methodNamed Bd.named Bd.method).1
  have X0 : Stand p l e room_1 s m #[(.int p1), (.int p2), (.int p3), (.int p4), (.int p5), (.int p6)] below meth c s₁ [] 0 0 := Stand.of_body Bd
  have e0 : s₁.heap = h0 := by rw [← hh, Bd.state]; rfl
  have N0 := Fr.nil n0
  have pre0 : ∀ t, Steps p.tables e below (s₁.setTop (mkF m 0 #[.val (.int p1), .val (.int p2), .val (.int p3), .val (.int p4), .val (.int p5), .val (.int p6), .unset, .unset, .unset, .unset] [])) t → Steps p.tables e below (s₁.setTop (entryFrame m #[(.int p1), (.int p2), (.int p3), (.int p4), (.int p5), (.int p6)] maxLocals)) t := fun t k => castTop (ef_0 m p1 p2 p3 p4 p5 p6) k
  obtain ⟨T7, h7, X7, e7, E7, A7, D7, -, st7⟩ := newO X0 hx hZ hown (hw _ (List.mem_of_getElem? (i := 1) rfl)) (hw _ (List.mem_of_getElem? (i := 2) rfl)) (hw _ (List.mem_of_getElem? (i := 3) rfl)) e0 (g := (mkF m 22 #[.val (.int p1), .val (.int p2), .val (.int p3), .val (.int p4), .val (.int p5), .val (.int p6), .val (.int ((1 : Int32) + ((p5 &&& (2147483647 : Int32)) % (6 : Int32)))), .val (.int ((p6 &&& (2147483647 : Int32)) % ((1 : Int32) + ((p5 &&& (2147483647 : Int32)) % (6 : Int32))))), .unset, .unset] [])) rfl (hb hby at_22) (by decide) (by decide)
  obtain ⟨b7, g7⟩ : ∃ z, z = h0.size := ⟨_, rfl⟩
  rw [← g7] at A7 D7 st7
  have F_chunks_b7 : Fld Z h7 b7 "com/example/hearsay/hearsay/graph/IntList" "chunks" "[[I" .null := D7 (Or.inl (hw _ (List.mem_of_getElem? (i := 15) rfl))) (ty := (.array (.array .int))) (by decide)
  have F_size_b7 : Fld Z h7 b7 "com/example/hearsay/hearsay/graph/IntList" "size" "I" (.int (0 : Int32)) := D7 (Or.inl (hw _ (List.mem_of_getElem? (i := 22) rfl))) (ty := .int) (by decide)
  have E_b7 := A7
  have g_b7 : n0 ≤ b7 := Nat.le_trans Z0 (Nat.le_of_eq g7.symm)
  have sz_b7 : h0.size ≤ b7 := (Nat.le_trans (Keep.refl h0 []).1 (Nat.le_of_eq g7.symm))
  have K7 : Keep h0 h7 [] := (Keep.refl h0 []).ext E7
  obtain ⟨_, _, ⟨T8, L8, k8, n8⟩, -, X8, ⟨Lc8, hQ8, l8, y8, z8⟩, st8⟩ := X7.specialBack hx (y := (⟨"com/example/hearsay/hearsay/graph/IntList", "<init>", "()V"⟩ : MethodName)) rfl hown (mvT hZ (hw _ (List.mem_of_getElem? (i := 4) rfl))) (mvT hZ (hw _ (List.mem_of_getElem? (i := 5) rfl))) (mvT hZ (hw _ (List.mem_of_getElem? (i := 6) rfl))) (by decide) (backOf (W := 1) (rm1 l Z a0 hw [] b7 .null h7 n0 (Nat.le_trans Z0 E7.1) F_size_b7 E_b7 F_chunks_b7 g_b7) hZ (hw _ (List.mem_of_getElem? (i := 6) rfl)) (hw _ (List.mem_of_getElem? (i := 3) rfl)) (by decide) (by decide)) (g := (mkF m 26 #[.val (.int p1), .val (.int p2), .val (.int p3), .val (.int p4), .val (.int p5), .val (.int p6), .val (.int ((1 : Int32) + ((p5 &&& (2147483647 : Int32)) % (6 : Int32)))), .val (.int ((p6 &&& (2147483647 : Int32)) % ((1 : Int32) + ((p5 &&& (2147483647 : Int32)) % (6 : Int32))))), .unset, .unset] [(.ref b7), (.ref b7)])) rfl (by rw [hml]; rfl) (Steps.refl _) (a := b7) (argsL := []) (rest := [(.ref b7)]) (lenOf pd_0_0 rfl) rfl (by show 2 * 0 + _ ≤ _; exact Nat.le_of_eq rfl) (hb hby at_26) (fun _ _ => ⟨rfl, e7, (by decide : 1 + 2 ≤ _), (by decide : 2 + 17 ≤ _)⟩)
  dsimp only [Pt.U, Pt.locs, Pt.cells, Pt.slots] at X8 l8 y8 z8 st8 hQ8
  subst l8 y8 z8
  obtain ⟨rfl, N8q, K8q, ch, c0, kA, kI, gch, gc0, ne3, E8q, Fc8q, Fs8q, Vh8q, Vd8q⟩ := hQ8
  have N8 := Fr.app N0 N8q
  have KK8 : Keep h0 T8.heap [] := K7.trans K8q (allS (Or.inr sz_b7) all0)
  have sz_ch : h0.size ≤ ch := Nat.le_trans K7.1 gch
  have sz_c0 : h0.size ≤ c0 := Nat.le_trans K7.1 gc0
  have g_ch : n0 ≤ ch := Nat.le_trans Z0 sz_ch
  have g_c0 : n0 ≤ c0 := Nat.le_trans Z0 sz_c0
  have ne1 : b7 ≠ ch := Nat.ne_of_lt (Nat.lt_of_lt_of_le E_b7.lt gch)
  have ne2 : b7 ≠ c0 := Nat.ne_of_lt (Nat.lt_of_lt_of_le E_b7.lt gc0)
  obtain ⟨cq9, kq9, q9a, q9b, q9c⟩ := isOf hZ rfl E8q
  obtain ⟨_, _, ⟨T9, L9, k9, n9⟩, -, X9, ⟨Lc9, hQ9, l9, y9, z9⟩, st9⟩ := X8.virtualBack hx (y := (⟨"com/example/hearsay/hearsay/graph/IntList", "add", "(I)V"⟩ : MethodName)) (z := (⟨"com/example/hearsay/hearsay/graph/IntList", "add", "(I)V"⟩ : MethodName)) hown (mvT hZ (hw _ (List.mem_of_getElem? (i := 16) rfl))) (mvT hZ (hw _ (List.mem_of_getElem? (i := 17) rfl))) (notFace_of_selects (args := #[]) (mvT hZ (hw _ (List.mem_of_getElem? (i := 19) rfl)))) (mvT hZ (hw _ (List.mem_of_getElem? (i := 19) rfl))) (mvT hZ (hw _ (List.mem_of_getElem? (i := 18) rfl))) (by decide) (backOf (W := 0) (rm3 l Z a0 hw [] b7 p1 ch c0 kA kI (0 : Int32) own_z 0 T8.heap n0 (Nat.le_trans (Nat.le_trans Z0 E7.1) K8q.1) ne1 ne2 ne3 Vh8q Vd8q Fs8q Fc8q (by decide) (own_u c0 (by decide)) (by decide) rfl (by decide) (own_u c0 (by decide)) (by decide) (by decide) (Nat.le_of_ble_eq_true rfl) g_c0 E8q g_b7 (by decide) (by decide) (by decide)) hZ (hw _ (List.mem_of_getElem? (i := 20) rfl)) (hw _ (List.mem_of_getElem? (i := 3) rfl)) (by decide) (by decide)) q9a q9c (g := (mkF m 34 #[.val (.int p1), .val (.int p2), .val (.int p3), .val (.int p4), .val (.int p5), .val (.int p6), .val (.int ((1 : Int32) + ((p5 &&& (2147483647 : Int32)) % (6 : Int32)))), .val (.int ((p6 &&& (2147483647 : Int32)) % ((1 : Int32) + ((p5 &&& (2147483647 : Int32)) % (6 : Int32))))), .val (.ref b7), .unset] [(.int p1), (.ref b7)])) rfl (by rw [hml]; rfl) (Steps.refl _) (argsL := [(.int p1)]) (rest := []) (lenOf pd_0_1 rfl) rfl (by show 2 * 0 + _ ≤ _; exact Nat.le_of_eq rfl) (hb hby at_34) (fun _ _ => ⟨rfl, rfl, (by decide : 3 + 0 ≤ _), (by decide : 19 + 0 ≤ _)⟩)
  dsimp only [Pt.U, Pt.locs, Pt.cells, Pt.slots] at X9 l9 y9 z9 st9 hQ9
  subst l9 y9 z9
  obtain ⟨rfl, N9q, K9q, E9q, Fc9q, Fs9q, Vh9q, Vd9q⟩ := hQ9
  have N9 := Fr.app N8 N9q
  have KK9 : Keep h0 T9.heap [] := KK8.trans K9q (allS (Or.inr sz_c0) (allS (Or.inr sz_b7) all0))
  obtain ⟨cq10, kq10, q10a, q10b, q10c⟩ := isOf hZ rfl E9q
  obtain ⟨_, _, ⟨T10, L10, k10, n10⟩, -, X10, ⟨Lc10, hQ10, l10, y10, z10⟩, st10⟩ := X9.virtualBack hx (y := (⟨"com/example/hearsay/hearsay/graph/IntList", "add", "(I)V"⟩ : MethodName)) (z := (⟨"com/example/hearsay/hearsay/graph/IntList", "add", "(I)V"⟩ : MethodName)) hown (mvT hZ (hw _ (List.mem_of_getElem? (i := 16) rfl))) (mvT hZ (hw _ (List.mem_of_getElem? (i := 17) rfl))) (notFace_of_selects (args := #[]) (mvT hZ (hw _ (List.mem_of_getElem? (i := 19) rfl)))) (mvT hZ (hw _ (List.mem_of_getElem? (i := 19) rfl))) (mvT hZ (hw _ (List.mem_of_getElem? (i := 18) rfl))) (by decide) (backOf (W := 0) (rm3 l Z a0 hw [] b7 p2 ch c0 kA kI ((0 : Int32) + (1 : Int32)) (own_z.set 0 (.int p1)) 1 T9.heap n0 (Nat.le_trans (Nat.le_trans (Nat.le_trans Z0 E7.1) K8q.1) K9q.1) ne1 ne2 ne3 Vh9q Vd9q Fs9q Fc9q (by decide) (own_u c0 (by decide)) (by decide) rfl (by decide) (own_u c0 (by decide)) (by decide) (by decide) (Nat.le_of_ble_eq_true rfl) g_c0 E9q g_b7 (by decide) (by decide) (by decide)) hZ (hw _ (List.mem_of_getElem? (i := 20) rfl)) (hw _ (List.mem_of_getElem? (i := 3) rfl)) (by decide) (by decide)) q10a q10c (g := (mkF m 46 #[.val (.int p1), .val (.int p2), .val (.int p3), .val (.int p4), .val (.int p5), .val (.int p6), .val (.int ((1 : Int32) + ((p5 &&& (2147483647 : Int32)) % (6 : Int32)))), .val (.int ((p6 &&& (2147483647 : Int32)) % ((1 : Int32) + ((p5 &&& (2147483647 : Int32)) % (6 : Int32))))), .val (.ref b7), .unset] [(.int p2), (.ref b7)])) rfl (by rw [hml]; rfl) (Steps.refl _) (argsL := [(.int p2)]) (rest := []) (lenOf pd_0_1 rfl) rfl (by show 2 * 0 + _ ≤ _; exact Nat.le_of_eq rfl) (hb hby at_46) (fun _ _ => ⟨rfl, rfl, (by decide : 3 + 0 ≤ _), (by decide : 19 + 0 ≤ _)⟩)
  dsimp only [Pt.U, Pt.locs, Pt.cells, Pt.slots] at X10 l10 y10 z10 st10 hQ10
  subst l10 y10 z10
  obtain ⟨rfl, N10q, K10q, E10q, Fc10q, Fs10q, Vh10q, Vd10q⟩ := hQ10
  have N10 := Fr.app N9 N10q
  have KK10 : Keep h0 T10.heap [] := KK9.trans K10q (allS (Or.inr sz_c0) (allS (Or.inr sz_b7) all0))
  obtain ⟨cq11, kq11, q11a, q11b, q11c⟩ := isOf hZ rfl E10q
  obtain ⟨_, _, ⟨T11, L11, k11, n11⟩, -, X11, ⟨Lc11, hQ11, l11, y11, z11⟩, st11⟩ := X10.virtualBack hx (y := (⟨"com/example/hearsay/hearsay/graph/IntList", "add", "(I)V"⟩ : MethodName)) (z := (⟨"com/example/hearsay/hearsay/graph/IntList", "add", "(I)V"⟩ : MethodName)) hown (mvT hZ (hw _ (List.mem_of_getElem? (i := 16) rfl))) (mvT hZ (hw _ (List.mem_of_getElem? (i := 17) rfl))) (notFace_of_selects (args := #[]) (mvT hZ (hw _ (List.mem_of_getElem? (i := 19) rfl)))) (mvT hZ (hw _ (List.mem_of_getElem? (i := 19) rfl))) (mvT hZ (hw _ (List.mem_of_getElem? (i := 18) rfl))) (by decide) (backOf (W := 0) (rm3 l Z a0 hw [] b7 p3 ch c0 kA kI (((0 : Int32) + (1 : Int32)) + (1 : Int32)) ((own_z.set 0 (.int p1)).set 1 (.int p2)) 2 T10.heap n0 (Nat.le_trans (Nat.le_trans (Nat.le_trans (Nat.le_trans Z0 E7.1) K8q.1) K9q.1) K10q.1) ne1 ne2 ne3 Vh10q Vd10q Fs10q Fc10q (by decide) (own_u c0 (by decide)) (by decide) rfl (by decide) (own_u c0 (by decide)) (by decide) (by decide) (Nat.le_of_ble_eq_true rfl) g_c0 E10q g_b7 (by decide) (by decide) (by decide)) hZ (hw _ (List.mem_of_getElem? (i := 20) rfl)) (hw _ (List.mem_of_getElem? (i := 3) rfl)) (by decide) (by decide)) q11a q11c (g := (mkF m 58 #[.val (.int p1), .val (.int p2), .val (.int p3), .val (.int p4), .val (.int p5), .val (.int p6), .val (.int ((1 : Int32) + ((p5 &&& (2147483647 : Int32)) % (6 : Int32)))), .val (.int ((p6 &&& (2147483647 : Int32)) % ((1 : Int32) + ((p5 &&& (2147483647 : Int32)) % (6 : Int32))))), .val (.ref b7), .unset] [(.int p3), (.ref b7)])) rfl (by rw [hml]; rfl) (Steps.refl _) (argsL := [(.int p3)]) (rest := []) (lenOf pd_0_1 rfl) rfl (by show 2 * 0 + _ ≤ _; exact Nat.le_of_eq rfl) (hb hby at_58) (fun _ _ => ⟨rfl, rfl, (by decide : 3 + 0 ≤ _), (by decide : 19 + 0 ≤ _)⟩)
  dsimp only [Pt.U, Pt.locs, Pt.cells, Pt.slots] at X11 l11 y11 z11 st11 hQ11
  subst l11 y11 z11
  obtain ⟨rfl, N11q, K11q, E11q, Fc11q, Fs11q, Vh11q, Vd11q⟩ := hQ11
  have N11 := Fr.app N10 N11q
  have KK11 : Keep h0 T11.heap [] := KK10.trans K11q (allS (Or.inr sz_c0) (allS (Or.inr sz_b7) all0))
  obtain ⟨cq12, kq12, q12a, q12b, q12c⟩ := isOf hZ rfl E11q
  obtain ⟨_, _, ⟨T12, L12, k12, n12⟩, -, X12, ⟨Lc12, hQ12, l12, y12, z12⟩, st12⟩ := X11.virtualBack hx (y := (⟨"com/example/hearsay/hearsay/graph/IntList", "add", "(I)V"⟩ : MethodName)) (z := (⟨"com/example/hearsay/hearsay/graph/IntList", "add", "(I)V"⟩ : MethodName)) hown (mvT hZ (hw _ (List.mem_of_getElem? (i := 16) rfl))) (mvT hZ (hw _ (List.mem_of_getElem? (i := 17) rfl))) (notFace_of_selects (args := #[]) (mvT hZ (hw _ (List.mem_of_getElem? (i := 19) rfl)))) (mvT hZ (hw _ (List.mem_of_getElem? (i := 19) rfl))) (mvT hZ (hw _ (List.mem_of_getElem? (i := 18) rfl))) (by decide) (backOf (W := 0) (rm3 l Z a0 hw [] b7 p4 ch c0 kA kI ((((0 : Int32) + (1 : Int32)) + (1 : Int32)) + (1 : Int32)) (((own_z.set 0 (.int p1)).set 1 (.int p2)).set 2 (.int p3)) 3 T11.heap n0 (Nat.le_trans (Nat.le_trans (Nat.le_trans (Nat.le_trans (Nat.le_trans Z0 E7.1) K8q.1) K9q.1) K10q.1) K11q.1) ne1 ne2 ne3 Vh11q Vd11q Fs11q Fc11q (by decide) (own_u c0 (by decide)) (by decide) rfl (by decide) (own_u c0 (by decide)) (by decide) (by decide) (Nat.le_of_ble_eq_true rfl) g_c0 E11q g_b7 (by decide) (by decide) (by decide)) hZ (hw _ (List.mem_of_getElem? (i := 20) rfl)) (hw _ (List.mem_of_getElem? (i := 3) rfl)) (by decide) (by decide)) q12a q12c (g := (mkF m 70 #[.val (.int p1), .val (.int p2), .val (.int p3), .val (.int p4), .val (.int p5), .val (.int p6), .val (.int ((1 : Int32) + ((p5 &&& (2147483647 : Int32)) % (6 : Int32)))), .val (.int ((p6 &&& (2147483647 : Int32)) % ((1 : Int32) + ((p5 &&& (2147483647 : Int32)) % (6 : Int32))))), .val (.ref b7), .unset] [(.int p4), (.ref b7)])) rfl (by rw [hml]; rfl) (Steps.refl _) (argsL := [(.int p4)]) (rest := []) (lenOf pd_0_1 rfl) rfl (by show 2 * 0 + _ ≤ _; exact Nat.le_of_eq rfl) (hb hby at_70) (fun _ _ => ⟨rfl, rfl, (by decide : 3 + 0 ≤ _), (by decide : 19 + 0 ≤ _)⟩)
  dsimp only [Pt.U, Pt.locs, Pt.cells, Pt.slots] at X12 l12 y12 z12 st12 hQ12
  subst l12 y12 z12
  obtain ⟨rfl, N12q, K12q, E12q, Fc12q, Fs12q, Vh12q, Vd12q⟩ := hQ12
  have N12 := Fr.app N11 N12q
  have KK12 : Keep h0 T12.heap [] := KK11.trans K12q (allS (Or.inr sz_c0) (allS (Or.inr sz_b7) all0))
  obtain ⟨cq13, kq13, q13a, q13b, q13c⟩ := isOf hZ rfl E12q
  obtain ⟨_, _, ⟨T13, L13, k13, n13⟩, -, X13, ⟨Lc13, hQ13, l13, y13, z13⟩, st13⟩ := X12.virtualBack hx (y := (⟨"com/example/hearsay/hearsay/graph/IntList", "add", "(I)V"⟩ : MethodName)) (z := (⟨"com/example/hearsay/hearsay/graph/IntList", "add", "(I)V"⟩ : MethodName)) hown (mvT hZ (hw _ (List.mem_of_getElem? (i := 16) rfl))) (mvT hZ (hw _ (List.mem_of_getElem? (i := 17) rfl))) (notFace_of_selects (args := #[]) (mvT hZ (hw _ (List.mem_of_getElem? (i := 19) rfl)))) (mvT hZ (hw _ (List.mem_of_getElem? (i := 19) rfl))) (mvT hZ (hw _ (List.mem_of_getElem? (i := 18) rfl))) (by decide) (backOf (W := 0) (rm3 l Z a0 hw [] b7 (p1 ^^^ (-1 : Int32)) ch c0 kA kI (((((0 : Int32) + (1 : Int32)) + (1 : Int32)) + (1 : Int32)) + (1 : Int32)) ((((own_z.set 0 (.int p1)).set 1 (.int p2)).set 2 (.int p3)).set 3 (.int p4)) 4 T12.heap n0 (Nat.le_trans (Nat.le_trans (Nat.le_trans (Nat.le_trans (Nat.le_trans (Nat.le_trans Z0 E7.1) K8q.1) K9q.1) K10q.1) K11q.1) K12q.1) ne1 ne2 ne3 Vh12q Vd12q Fs12q Fc12q (by decide) (own_u c0 (by decide)) (by decide) rfl (by decide) (own_u c0 (by decide)) (by decide) (by decide) (Nat.le_of_ble_eq_true rfl) g_c0 E12q g_b7 (by decide) (by decide) (by decide)) hZ (hw _ (List.mem_of_getElem? (i := 20) rfl)) (hw _ (List.mem_of_getElem? (i := 3) rfl)) (by decide) (by decide)) q13a q13c (g := (mkF m 84 #[.val (.int p1), .val (.int p2), .val (.int p3), .val (.int p4), .val (.int p5), .val (.int p6), .val (.int ((1 : Int32) + ((p5 &&& (2147483647 : Int32)) % (6 : Int32)))), .val (.int ((p6 &&& (2147483647 : Int32)) % ((1 : Int32) + ((p5 &&& (2147483647 : Int32)) % (6 : Int32))))), .val (.ref b7), .unset] [(.int (p1 ^^^ (-1 : Int32))), (.ref b7)])) rfl (by rw [hml]; rfl) (Steps.refl _) (argsL := [(.int (p1 ^^^ (-1 : Int32)))]) (rest := []) (lenOf pd_0_1 rfl) rfl (by show 2 * 0 + _ ≤ _; exact Nat.le_of_eq rfl) (hb hby at_84) (fun _ _ => ⟨rfl, rfl, (by decide : 3 + 0 ≤ _), (by decide : 19 + 0 ≤ _)⟩)
  dsimp only [Pt.U, Pt.locs, Pt.cells, Pt.slots] at X13 l13 y13 z13 st13 hQ13
  subst l13 y13 z13
  obtain ⟨rfl, N13q, K13q, E13q, Fc13q, Fs13q, Vh13q, Vd13q⟩ := hQ13
  have N13 := Fr.app N12 N13q
  have KK13 : Keep h0 T13.heap [] := KK12.trans K13q (allS (Or.inr sz_c0) (allS (Or.inr sz_b7) all0))
  obtain ⟨T14, X14, e14, st14⟩ := own_exp ex p1 p2 p3 p4 (.val (.int p5)) (.val (.int p6)) (.val (.int ((1 : Int32) + ((p5 &&& (2147483647 : Int32)) % (6 : Int32))))) ((p6 &&& (2147483647 : Int32)) % ((1 : Int32) + ((p5 &&& (2147483647 : Int32)) % (6 : Int32)))) (.val (.ref b7)) .unset X13 hx hZ hw hby hml hown rfl One.u hE
  obtain ⟨cq15, kq15, q15a, q15b, q15c⟩ := isOf hZ e14 E13q
  obtain ⟨_, _, ⟨T15, L15, k15, n15⟩, -, X15, ⟨Lc15, hQ15, l15, y15, z15⟩, st15⟩ := X14.virtualBack hx (y := (⟨"com/example/hearsay/hearsay/graph/IntList", "get", "(I)I"⟩ : MethodName)) (z := (⟨"com/example/hearsay/hearsay/graph/IntList", "get", "(I)I"⟩ : MethodName)) hown (mvT hZ (hw _ (List.mem_of_getElem? (i := 24) rfl))) (mvT hZ (hw _ (List.mem_of_getElem? (i := 25) rfl))) (notFace_of_selects (args := #[]) (mvT hZ (hw _ (List.mem_of_getElem? (i := 27) rfl)))) (mvT hZ (hw _ (List.mem_of_getElem? (i := 27) rfl))) (mvT hZ (hw _ (List.mem_of_getElem? (i := 26) rfl))) (by decide) (backOf (W := 0) (rm4 l Z a0 hw [] b7 ((p6 &&& (2147483647 : Int32)) % ((1 : Int32) + ((p5 &&& (2147483647 : Int32)) % (6 : Int32)))) ch c0 kA kI (((((own_z.set 0 (.int p1)).set 1 (.int p2)).set 2 (.int p3)).set 3 (.int p4)).set 4 (.int (p1 ^^^ (-1 : Int32)))) ex T13.heap n0 (Nat.le_trans (Nat.le_trans (Nat.le_trans (Nat.le_trans (Nat.le_trans (Nat.le_trans (Nat.le_trans Z0 E7.1) K8q.1) K9q.1) K10q.1) K11q.1) K12q.1) K13q.1) Vh13q Vd13q Fc13q hr8 (own_u c0 hk0) hr13 u13) hZ (hw _ (List.mem_of_getElem? (i := 28) rfl)) (hw _ (List.mem_of_getElem? (i := 3) rfl)) (by decide) (by decide)) q15a q15c (g := (mkF m 171 #[.val (.int p1), .val (.int p2), .val (.int p3), .val (.int p4), .val (.int p5), .val (.int p6), .val (.int ((1 : Int32) + ((p5 &&& (2147483647 : Int32)) % (6 : Int32)))), .val (.int ((p6 &&& (2147483647 : Int32)) % ((1 : Int32) + ((p5 &&& (2147483647 : Int32)) % (6 : Int32))))), .val (.ref b7), .val (.int ex)] [(.int ((p6 &&& (2147483647 : Int32)) % ((1 : Int32) + ((p5 &&& (2147483647 : Int32)) % (6 : Int32))))), (.ref b7)])) rfl (by rw [hml]; rfl) (Steps.refl _) (argsL := [(.int ((p6 &&& (2147483647 : Int32)) % ((1 : Int32) + ((p5 &&& (2147483647 : Int32)) % (6 : Int32)))))]) (rest := []) (lenOf pd_0_2 rfl) rfl (by show 2 * 0 + _ ≤ _; exact Nat.le_of_eq rfl) (hb hby at_171) (fun _ _ => ⟨rfl, e14, (by decide : 3 + 0 ≤ _), (by decide : 19 + 0 ≤ _)⟩)
  dsimp only [Pt.U, Pt.locs, Pt.cells, Pt.slots] at X15 l15 y15 z15 st15 hQ15
  subst l15 y15 z15
  obtain ⟨rfl, N15q, e15q⟩ := hQ15
  have N15 := Fr.app N13 N15q
  obtain ⟨fs, hr, hrun, hended, hW, hsame⟩ := X15.leave (v := some (.int (1 : Int32))) (fun h => by rw [Bd.returns] at h; cases h)
  refine ⟨_, _, pre0 _ ?_, hrun, hended, _, _, rfl, ?_, ⟨_, rfl⟩, hW, hsame.mono (by decide) (by decide)⟩
  · show Steps p.tables e below (s₁.setTop (mkF m 0 #[.val (.int p1), .val (.int p2), .val (.int p3), .val (.int p4), .val (.int p5), .val (.int p6), .unset, .unset, .unset, .unset] [])) _
    refine XS.iconst X0.here hx rfl (hb hby at_0) ?_
    show Steps p.tables e below (s₁.setTop (mkF m 1 #[.val (.int p1), .val (.int p2), .val (.int p3), .val (.int p4), .val (.int p5), .val (.int p6), .unset, .unset, .unset, .unset] [(.int (1 : Int32))])) _
    refine XS.iload X0.here hx rfl (hb hby at_1) rfl ?_
    show Steps p.tables e below (s₁.setTop (mkF m 3 #[.val (.int p1), .val (.int p2), .val (.int p3), .val (.int p4), .val (.int p5), .val (.int p6), .unset, .unset, .unset, .unset] [(.int p5), (.int (1 : Int32))])) _
    refine X0.ldcInt hx hown (mvT hZ (hw _ (List.mem_of_getElem? (i := 0) rfl))) (g := (mkF m 3 #[.val (.int p1), .val (.int p2), .val (.int p3), .val (.int p4), .val (.int p5), .val (.int p6), .unset, .unset, .unset, .unset] [(.int p5), (.int (1 : Int32))])) rfl (hb hby at_3) _ ?_
    show Steps p.tables e below (s₁.setTop (mkF m 5 #[.val (.int p1), .val (.int p2), .val (.int p3), .val (.int p4), .val (.int p5), .val (.int p6), .unset, .unset, .unset, .unset] [(.int (2147483647 : Int32)), (.int p5), (.int (1 : Int32))])) _
    refine XS.iand X0.here hx rfl (hb hby at_5) rfl ?_
    show Steps p.tables e below (s₁.setTop (mkF m 6 #[.val (.int p1), .val (.int p2), .val (.int p3), .val (.int p4), .val (.int p5), .val (.int p6), .unset, .unset, .unset, .unset] [(.int (p5 &&& (2147483647 : Int32))), (.int (1 : Int32))])) _
    refine XS.bipush X0.here hx rfl (hb hby at_6) ?_
    show Steps p.tables e below (s₁.setTop (mkF m 8 #[.val (.int p1), .val (.int p2), .val (.int p3), .val (.int p4), .val (.int p5), .val (.int p6), .unset, .unset, .unset, .unset] [(.int (6 : Int32)), (.int (p5 &&& (2147483647 : Int32))), (.int (1 : Int32))])) _
    refine iremM (g := (mkF m 8 #[.val (.int p1), .val (.int p2), .val (.int p3), .val (.int p4), .val (.int p5), .val (.int p6), .unset, .unset, .unset, .unset] [(.int (6 : Int32)), (.int (p5 &&& (2147483647 : Int32))), (.int (1 : Int32))])) X0 hx rfl (hb hby at_8) rfl (by decide) ?_
    show Steps p.tables e below (s₁.setTop (mkF m 9 #[.val (.int p1), .val (.int p2), .val (.int p3), .val (.int p4), .val (.int p5), .val (.int p6), .unset, .unset, .unset, .unset] [(.int ((p5 &&& (2147483647 : Int32)) % (6 : Int32))), (.int (1 : Int32))])) _
    refine XS.iadd X0.here hx rfl (hb hby at_9) rfl ?_
    show Steps p.tables e below (s₁.setTop (mkF m 10 #[.val (.int p1), .val (.int p2), .val (.int p3), .val (.int p4), .val (.int p5), .val (.int p6), .unset, .unset, .unset, .unset] [(.int ((1 : Int32) + ((p5 &&& (2147483647 : Int32)) % (6 : Int32))))])) _
    refine XS.istore X0.here hx rfl (hb hby at_10) rfl (l' := #[.val (.int p1), .val (.int p2), .val (.int p3), .val (.int p4), .val (.int p5), .val (.int p6), .val (.int ((1 : Int32) + ((p5 &&& (2147483647 : Int32)) % (6 : Int32)))), .unset, .unset, .unset]) rfl ?_
    show Steps p.tables e below (s₁.setTop (mkF m 12 #[.val (.int p1), .val (.int p2), .val (.int p3), .val (.int p4), .val (.int p5), .val (.int p6), .val (.int ((1 : Int32) + ((p5 &&& (2147483647 : Int32)) % (6 : Int32)))), .unset, .unset, .unset] [])) _
    refine XS.iload X0.here hx rfl (hb hby at_12) rfl ?_
    show Steps p.tables e below (s₁.setTop (mkF m 14 #[.val (.int p1), .val (.int p2), .val (.int p3), .val (.int p4), .val (.int p5), .val (.int p6), .val (.int ((1 : Int32) + ((p5 &&& (2147483647 : Int32)) % (6 : Int32)))), .unset, .unset, .unset] [(.int p6)])) _
    refine X0.ldcInt hx hown (mvT hZ (hw _ (List.mem_of_getElem? (i := 0) rfl))) (g := (mkF m 14 #[.val (.int p1), .val (.int p2), .val (.int p3), .val (.int p4), .val (.int p5), .val (.int p6), .val (.int ((1 : Int32) + ((p5 &&& (2147483647 : Int32)) % (6 : Int32)))), .unset, .unset, .unset] [(.int p6)])) rfl (hb hby at_14) _ ?_
    show Steps p.tables e below (s₁.setTop (mkF m 16 #[.val (.int p1), .val (.int p2), .val (.int p3), .val (.int p4), .val (.int p5), .val (.int p6), .val (.int ((1 : Int32) + ((p5 &&& (2147483647 : Int32)) % (6 : Int32)))), .unset, .unset, .unset] [(.int (2147483647 : Int32)), (.int p6)])) _
    refine XS.iand X0.here hx rfl (hb hby at_16) rfl ?_
    show Steps p.tables e below (s₁.setTop (mkF m 17 #[.val (.int p1), .val (.int p2), .val (.int p3), .val (.int p4), .val (.int p5), .val (.int p6), .val (.int ((1 : Int32) + ((p5 &&& (2147483647 : Int32)) % (6 : Int32)))), .unset, .unset, .unset] [(.int (p6 &&& (2147483647 : Int32)))])) _
    refine XS.iload X0.here hx rfl (hb hby at_17) rfl ?_
    show Steps p.tables e below (s₁.setTop (mkF m 19 #[.val (.int p1), .val (.int p2), .val (.int p3), .val (.int p4), .val (.int p5), .val (.int p6), .val (.int ((1 : Int32) + ((p5 &&& (2147483647 : Int32)) % (6 : Int32)))), .unset, .unset, .unset] [(.int ((1 : Int32) + ((p5 &&& (2147483647 : Int32)) % (6 : Int32)))), (.int (p6 &&& (2147483647 : Int32)))])) _
    refine iremM (g := (mkF m 19 #[.val (.int p1), .val (.int p2), .val (.int p3), .val (.int p4), .val (.int p5), .val (.int p6), .val (.int ((1 : Int32) + ((p5 &&& (2147483647 : Int32)) % (6 : Int32)))), .unset, .unset, .unset] [(.int ((1 : Int32) + ((p5 &&& (2147483647 : Int32)) % (6 : Int32)))), (.int (p6 &&& (2147483647 : Int32)))])) X0 hx rfl (hb hby at_19) rfl hnz19 ?_
    show Steps p.tables e below (s₁.setTop (mkF m 20 #[.val (.int p1), .val (.int p2), .val (.int p3), .val (.int p4), .val (.int p5), .val (.int p6), .val (.int ((1 : Int32) + ((p5 &&& (2147483647 : Int32)) % (6 : Int32)))), .unset, .unset, .unset] [(.int ((p6 &&& (2147483647 : Int32)) % ((1 : Int32) + ((p5 &&& (2147483647 : Int32)) % (6 : Int32)))))])) _
    refine XS.istore X0.here hx rfl (hb hby at_20) rfl (l' := #[.val (.int p1), .val (.int p2), .val (.int p3), .val (.int p4), .val (.int p5), .val (.int p6), .val (.int ((1 : Int32) + ((p5 &&& (2147483647 : Int32)) % (6 : Int32)))), .val (.int ((p6 &&& (2147483647 : Int32)) % ((1 : Int32) + ((p5 &&& (2147483647 : Int32)) % (6 : Int32))))), .unset, .unset]) rfl ?_
    show Steps p.tables e below (s₁.setTop (mkF m 22 #[.val (.int p1), .val (.int p2), .val (.int p3), .val (.int p4), .val (.int p5), .val (.int p6), .val (.int ((1 : Int32) + ((p5 &&& (2147483647 : Int32)) % (6 : Int32)))), .val (.int ((p6 &&& (2147483647 : Int32)) % ((1 : Int32) + ((p5 &&& (2147483647 : Int32)) % (6 : Int32))))), .unset, .unset] [])) _
    refine st7 _ ?_
    show Steps p.tables e below (T7.setTop (mkF m 25 #[.val (.int p1), .val (.int p2), .val (.int p3), .val (.int p4), .val (.int p5), .val (.int p6), .val (.int ((1 : Int32) + ((p5 &&& (2147483647 : Int32)) % (6 : Int32)))), .val (.int ((p6 &&& (2147483647 : Int32)) % ((1 : Int32) + ((p5 &&& (2147483647 : Int32)) % (6 : Int32))))), .unset, .unset] [(.ref b7)])) _
    refine XS.dup X7.here hx rfl (hb hby at_25) rfl rfl ?_
    show Steps p.tables e below (T7.setTop (mkF m 26 #[.val (.int p1), .val (.int p2), .val (.int p3), .val (.int p4), .val (.int p5), .val (.int p6), .val (.int ((1 : Int32) + ((p5 &&& (2147483647 : Int32)) % (6 : Int32)))), .val (.int ((p6 &&& (2147483647 : Int32)) % ((1 : Int32) + ((p5 &&& (2147483647 : Int32)) % (6 : Int32))))), .unset, .unset] [(.ref b7), (.ref b7)])) _
    refine st8.trans ?_
    show Steps p.tables e below (T8.setTop (mkF m 29 #[.val (.int p1), .val (.int p2), .val (.int p3), .val (.int p4), .val (.int p5), .val (.int p6), .val (.int ((1 : Int32) + ((p5 &&& (2147483647 : Int32)) % (6 : Int32)))), .val (.int ((p6 &&& (2147483647 : Int32)) % ((1 : Int32) + ((p5 &&& (2147483647 : Int32)) % (6 : Int32))))), .unset, .unset] [(.ref b7)])) _
    refine XS.astore X8.here hx rfl (hb hby at_29) rfl rfl (l' := #[.val (.int p1), .val (.int p2), .val (.int p3), .val (.int p4), .val (.int p5), .val (.int p6), .val (.int ((1 : Int32) + ((p5 &&& (2147483647 : Int32)) % (6 : Int32)))), .val (.int ((p6 &&& (2147483647 : Int32)) % ((1 : Int32) + ((p5 &&& (2147483647 : Int32)) % (6 : Int32))))), .val (.ref b7), .unset]) rfl ?_
    show Steps p.tables e below (T8.setTop (mkF m 31 #[.val (.int p1), .val (.int p2), .val (.int p3), .val (.int p4), .val (.int p5), .val (.int p6), .val (.int ((1 : Int32) + ((p5 &&& (2147483647 : Int32)) % (6 : Int32)))), .val (.int ((p6 &&& (2147483647 : Int32)) % ((1 : Int32) + ((p5 &&& (2147483647 : Int32)) % (6 : Int32))))), .val (.ref b7), .unset] [])) _
    refine XS.aload X8.here hx rfl (hb hby at_31) rfl rfl ?_
    show Steps p.tables e below (T8.setTop (mkF m 33 #[.val (.int p1), .val (.int p2), .val (.int p3), .val (.int p4), .val (.int p5), .val (.int p6), .val (.int ((1 : Int32) + ((p5 &&& (2147483647 : Int32)) % (6 : Int32)))), .val (.int ((p6 &&& (2147483647 : Int32)) % ((1 : Int32) + ((p5 &&& (2147483647 : Int32)) % (6 : Int32))))), .val (.ref b7), .unset] [(.ref b7)])) _
    refine XS.iloadN X8.here hx rfl (hb hby at_33) rfl ?_
    show Steps p.tables e below (T8.setTop (mkF m 34 #[.val (.int p1), .val (.int p2), .val (.int p3), .val (.int p4), .val (.int p5), .val (.int p6), .val (.int ((1 : Int32) + ((p5 &&& (2147483647 : Int32)) % (6 : Int32)))), .val (.int ((p6 &&& (2147483647 : Int32)) % ((1 : Int32) + ((p5 &&& (2147483647 : Int32)) % (6 : Int32))))), .val (.ref b7), .unset] [(.int p1), (.ref b7)])) _
    refine st9.trans ?_
    show Steps p.tables e below (T9.setTop (mkF m 37 #[.val (.int p1), .val (.int p2), .val (.int p3), .val (.int p4), .val (.int p5), .val (.int p6), .val (.int ((1 : Int32) + ((p5 &&& (2147483647 : Int32)) % (6 : Int32)))), .val (.int ((p6 &&& (2147483647 : Int32)) % ((1 : Int32) + ((p5 &&& (2147483647 : Int32)) % (6 : Int32))))), .val (.ref b7), .unset] [])) _
    refine XS.iload X9.here hx rfl (hb hby at_37) rfl ?_
    show Steps p.tables e below (T9.setTop (mkF m 39 #[.val (.int p1), .val (.int p2), .val (.int p3), .val (.int p4), .val (.int p5), .val (.int p6), .val (.int ((1 : Int32) + ((p5 &&& (2147483647 : Int32)) % (6 : Int32)))), .val (.int ((p6 &&& (2147483647 : Int32)) % ((1 : Int32) + ((p5 &&& (2147483647 : Int32)) % (6 : Int32))))), .val (.ref b7), .unset] [(.int ((1 : Int32) + ((p5 &&& (2147483647 : Int32)) % (6 : Int32))))])) _
    refine XS.iconst X9.here hx rfl (hb hby at_39) ?_
    show Steps p.tables e below (T9.setTop (mkF m 40 #[.val (.int p1), .val (.int p2), .val (.int p3), .val (.int p4), .val (.int p5), .val (.int p6), .val (.int ((1 : Int32) + ((p5 &&& (2147483647 : Int32)) % (6 : Int32)))), .val (.int ((p6 &&& (2147483647 : Int32)) % ((1 : Int32) + ((p5 &&& (2147483647 : Int32)) % (6 : Int32))))), .val (.ref b7), .unset] [(.int (1 : Int32)), (.int ((1 : Int32) + ((p5 &&& (2147483647 : Int32)) % (6 : Int32))))])) _
    refine XS.icmpNo X9.here hx rfl (hb hby at_40) rfl (tlt hc40).2.2.2 ?_
    show Steps p.tables e below (T9.setTop (mkF m 43 #[.val (.int p1), .val (.int p2), .val (.int p3), .val (.int p4), .val (.int p5), .val (.int p6), .val (.int ((1 : Int32) + ((p5 &&& (2147483647 : Int32)) % (6 : Int32)))), .val (.int ((p6 &&& (2147483647 : Int32)) % ((1 : Int32) + ((p5 &&& (2147483647 : Int32)) % (6 : Int32))))), .val (.ref b7), .unset] [])) _
    refine XS.aload X9.here hx rfl (hb hby at_43) rfl rfl ?_
    show Steps p.tables e below (T9.setTop (mkF m 45 #[.val (.int p1), .val (.int p2), .val (.int p3), .val (.int p4), .val (.int p5), .val (.int p6), .val (.int ((1 : Int32) + ((p5 &&& (2147483647 : Int32)) % (6 : Int32)))), .val (.int ((p6 &&& (2147483647 : Int32)) % ((1 : Int32) + ((p5 &&& (2147483647 : Int32)) % (6 : Int32))))), .val (.ref b7), .unset] [(.ref b7)])) _
    refine XS.iloadN X9.here hx rfl (hb hby at_45) rfl ?_
    show Steps p.tables e below (T9.setTop (mkF m 46 #[.val (.int p1), .val (.int p2), .val (.int p3), .val (.int p4), .val (.int p5), .val (.int p6), .val (.int ((1 : Int32) + ((p5 &&& (2147483647 : Int32)) % (6 : Int32)))), .val (.int ((p6 &&& (2147483647 : Int32)) % ((1 : Int32) + ((p5 &&& (2147483647 : Int32)) % (6 : Int32))))), .val (.ref b7), .unset] [(.int p2), (.ref b7)])) _
    refine st10.trans ?_
    show Steps p.tables e below (T10.setTop (mkF m 49 #[.val (.int p1), .val (.int p2), .val (.int p3), .val (.int p4), .val (.int p5), .val (.int p6), .val (.int ((1 : Int32) + ((p5 &&& (2147483647 : Int32)) % (6 : Int32)))), .val (.int ((p6 &&& (2147483647 : Int32)) % ((1 : Int32) + ((p5 &&& (2147483647 : Int32)) % (6 : Int32))))), .val (.ref b7), .unset] [])) _
    refine XS.iload X10.here hx rfl (hb hby at_49) rfl ?_
    show Steps p.tables e below (T10.setTop (mkF m 51 #[.val (.int p1), .val (.int p2), .val (.int p3), .val (.int p4), .val (.int p5), .val (.int p6), .val (.int ((1 : Int32) + ((p5 &&& (2147483647 : Int32)) % (6 : Int32)))), .val (.int ((p6 &&& (2147483647 : Int32)) % ((1 : Int32) + ((p5 &&& (2147483647 : Int32)) % (6 : Int32))))), .val (.ref b7), .unset] [(.int ((1 : Int32) + ((p5 &&& (2147483647 : Int32)) % (6 : Int32))))])) _
    refine XS.iconst X10.here hx rfl (hb hby at_51) ?_
    show Steps p.tables e below (T10.setTop (mkF m 52 #[.val (.int p1), .val (.int p2), .val (.int p3), .val (.int p4), .val (.int p5), .val (.int p6), .val (.int ((1 : Int32) + ((p5 &&& (2147483647 : Int32)) % (6 : Int32)))), .val (.int ((p6 &&& (2147483647 : Int32)) % ((1 : Int32) + ((p5 &&& (2147483647 : Int32)) % (6 : Int32))))), .val (.ref b7), .unset] [(.int (2 : Int32)), (.int ((1 : Int32) + ((p5 &&& (2147483647 : Int32)) % (6 : Int32))))])) _
    refine XS.icmpNo X10.here hx rfl (hb hby at_52) rfl (tlt hc52).2.2.2 ?_
    show Steps p.tables e below (T10.setTop (mkF m 55 #[.val (.int p1), .val (.int p2), .val (.int p3), .val (.int p4), .val (.int p5), .val (.int p6), .val (.int ((1 : Int32) + ((p5 &&& (2147483647 : Int32)) % (6 : Int32)))), .val (.int ((p6 &&& (2147483647 : Int32)) % ((1 : Int32) + ((p5 &&& (2147483647 : Int32)) % (6 : Int32))))), .val (.ref b7), .unset] [])) _
    refine XS.aload X10.here hx rfl (hb hby at_55) rfl rfl ?_
    show Steps p.tables e below (T10.setTop (mkF m 57 #[.val (.int p1), .val (.int p2), .val (.int p3), .val (.int p4), .val (.int p5), .val (.int p6), .val (.int ((1 : Int32) + ((p5 &&& (2147483647 : Int32)) % (6 : Int32)))), .val (.int ((p6 &&& (2147483647 : Int32)) % ((1 : Int32) + ((p5 &&& (2147483647 : Int32)) % (6 : Int32))))), .val (.ref b7), .unset] [(.ref b7)])) _
    refine XS.iloadN X10.here hx rfl (hb hby at_57) rfl ?_
    show Steps p.tables e below (T10.setTop (mkF m 58 #[.val (.int p1), .val (.int p2), .val (.int p3), .val (.int p4), .val (.int p5), .val (.int p6), .val (.int ((1 : Int32) + ((p5 &&& (2147483647 : Int32)) % (6 : Int32)))), .val (.int ((p6 &&& (2147483647 : Int32)) % ((1 : Int32) + ((p5 &&& (2147483647 : Int32)) % (6 : Int32))))), .val (.ref b7), .unset] [(.int p3), (.ref b7)])) _
    refine st11.trans ?_
    show Steps p.tables e below (T11.setTop (mkF m 61 #[.val (.int p1), .val (.int p2), .val (.int p3), .val (.int p4), .val (.int p5), .val (.int p6), .val (.int ((1 : Int32) + ((p5 &&& (2147483647 : Int32)) % (6 : Int32)))), .val (.int ((p6 &&& (2147483647 : Int32)) % ((1 : Int32) + ((p5 &&& (2147483647 : Int32)) % (6 : Int32))))), .val (.ref b7), .unset] [])) _
    refine XS.iload X11.here hx rfl (hb hby at_61) rfl ?_
    show Steps p.tables e below (T11.setTop (mkF m 63 #[.val (.int p1), .val (.int p2), .val (.int p3), .val (.int p4), .val (.int p5), .val (.int p6), .val (.int ((1 : Int32) + ((p5 &&& (2147483647 : Int32)) % (6 : Int32)))), .val (.int ((p6 &&& (2147483647 : Int32)) % ((1 : Int32) + ((p5 &&& (2147483647 : Int32)) % (6 : Int32))))), .val (.ref b7), .unset] [(.int ((1 : Int32) + ((p5 &&& (2147483647 : Int32)) % (6 : Int32))))])) _
    refine XS.iconst X11.here hx rfl (hb hby at_63) ?_
    show Steps p.tables e below (T11.setTop (mkF m 64 #[.val (.int p1), .val (.int p2), .val (.int p3), .val (.int p4), .val (.int p5), .val (.int p6), .val (.int ((1 : Int32) + ((p5 &&& (2147483647 : Int32)) % (6 : Int32)))), .val (.int ((p6 &&& (2147483647 : Int32)) % ((1 : Int32) + ((p5 &&& (2147483647 : Int32)) % (6 : Int32))))), .val (.ref b7), .unset] [(.int (3 : Int32)), (.int ((1 : Int32) + ((p5 &&& (2147483647 : Int32)) % (6 : Int32))))])) _
    refine XS.icmpNo X11.here hx rfl (hb hby at_64) rfl (tlt hc64).2.2.2 ?_
    show Steps p.tables e below (T11.setTop (mkF m 67 #[.val (.int p1), .val (.int p2), .val (.int p3), .val (.int p4), .val (.int p5), .val (.int p6), .val (.int ((1 : Int32) + ((p5 &&& (2147483647 : Int32)) % (6 : Int32)))), .val (.int ((p6 &&& (2147483647 : Int32)) % ((1 : Int32) + ((p5 &&& (2147483647 : Int32)) % (6 : Int32))))), .val (.ref b7), .unset] [])) _
    refine XS.aload X11.here hx rfl (hb hby at_67) rfl rfl ?_
    show Steps p.tables e below (T11.setTop (mkF m 69 #[.val (.int p1), .val (.int p2), .val (.int p3), .val (.int p4), .val (.int p5), .val (.int p6), .val (.int ((1 : Int32) + ((p5 &&& (2147483647 : Int32)) % (6 : Int32)))), .val (.int ((p6 &&& (2147483647 : Int32)) % ((1 : Int32) + ((p5 &&& (2147483647 : Int32)) % (6 : Int32))))), .val (.ref b7), .unset] [(.ref b7)])) _
    refine XS.iloadN X11.here hx rfl (hb hby at_69) rfl ?_
    show Steps p.tables e below (T11.setTop (mkF m 70 #[.val (.int p1), .val (.int p2), .val (.int p3), .val (.int p4), .val (.int p5), .val (.int p6), .val (.int ((1 : Int32) + ((p5 &&& (2147483647 : Int32)) % (6 : Int32)))), .val (.int ((p6 &&& (2147483647 : Int32)) % ((1 : Int32) + ((p5 &&& (2147483647 : Int32)) % (6 : Int32))))), .val (.ref b7), .unset] [(.int p4), (.ref b7)])) _
    refine st12.trans ?_
    show Steps p.tables e below (T12.setTop (mkF m 73 #[.val (.int p1), .val (.int p2), .val (.int p3), .val (.int p4), .val (.int p5), .val (.int p6), .val (.int ((1 : Int32) + ((p5 &&& (2147483647 : Int32)) % (6 : Int32)))), .val (.int ((p6 &&& (2147483647 : Int32)) % ((1 : Int32) + ((p5 &&& (2147483647 : Int32)) % (6 : Int32))))), .val (.ref b7), .unset] [])) _
    refine XS.iload X12.here hx rfl (hb hby at_73) rfl ?_
    show Steps p.tables e below (T12.setTop (mkF m 75 #[.val (.int p1), .val (.int p2), .val (.int p3), .val (.int p4), .val (.int p5), .val (.int p6), .val (.int ((1 : Int32) + ((p5 &&& (2147483647 : Int32)) % (6 : Int32)))), .val (.int ((p6 &&& (2147483647 : Int32)) % ((1 : Int32) + ((p5 &&& (2147483647 : Int32)) % (6 : Int32))))), .val (.ref b7), .unset] [(.int ((1 : Int32) + ((p5 &&& (2147483647 : Int32)) % (6 : Int32))))])) _
    refine XS.iconst X12.here hx rfl (hb hby at_75) ?_
    show Steps p.tables e below (T12.setTop (mkF m 76 #[.val (.int p1), .val (.int p2), .val (.int p3), .val (.int p4), .val (.int p5), .val (.int p6), .val (.int ((1 : Int32) + ((p5 &&& (2147483647 : Int32)) % (6 : Int32)))), .val (.int ((p6 &&& (2147483647 : Int32)) % ((1 : Int32) + ((p5 &&& (2147483647 : Int32)) % (6 : Int32))))), .val (.ref b7), .unset] [(.int (4 : Int32)), (.int ((1 : Int32) + ((p5 &&& (2147483647 : Int32)) % (6 : Int32))))])) _
    refine XS.icmpNo X12.here hx rfl (hb hby at_76) rfl (tlt hc76).2.2.2 ?_
    show Steps p.tables e below (T12.setTop (mkF m 79 #[.val (.int p1), .val (.int p2), .val (.int p3), .val (.int p4), .val (.int p5), .val (.int p6), .val (.int ((1 : Int32) + ((p5 &&& (2147483647 : Int32)) % (6 : Int32)))), .val (.int ((p6 &&& (2147483647 : Int32)) % ((1 : Int32) + ((p5 &&& (2147483647 : Int32)) % (6 : Int32))))), .val (.ref b7), .unset] [])) _
    refine XS.aload X12.here hx rfl (hb hby at_79) rfl rfl ?_
    show Steps p.tables e below (T12.setTop (mkF m 81 #[.val (.int p1), .val (.int p2), .val (.int p3), .val (.int p4), .val (.int p5), .val (.int p6), .val (.int ((1 : Int32) + ((p5 &&& (2147483647 : Int32)) % (6 : Int32)))), .val (.int ((p6 &&& (2147483647 : Int32)) % ((1 : Int32) + ((p5 &&& (2147483647 : Int32)) % (6 : Int32))))), .val (.ref b7), .unset] [(.ref b7)])) _
    refine XS.iloadN X12.here hx rfl (hb hby at_81) rfl ?_
    show Steps p.tables e below (T12.setTop (mkF m 82 #[.val (.int p1), .val (.int p2), .val (.int p3), .val (.int p4), .val (.int p5), .val (.int p6), .val (.int ((1 : Int32) + ((p5 &&& (2147483647 : Int32)) % (6 : Int32)))), .val (.int ((p6 &&& (2147483647 : Int32)) % ((1 : Int32) + ((p5 &&& (2147483647 : Int32)) % (6 : Int32))))), .val (.ref b7), .unset] [(.int p1), (.ref b7)])) _
    refine XS.iconst X12.here hx rfl (hb hby at_82) ?_
    show Steps p.tables e below (T12.setTop (mkF m 83 #[.val (.int p1), .val (.int p2), .val (.int p3), .val (.int p4), .val (.int p5), .val (.int p6), .val (.int ((1 : Int32) + ((p5 &&& (2147483647 : Int32)) % (6 : Int32)))), .val (.int ((p6 &&& (2147483647 : Int32)) % ((1 : Int32) + ((p5 &&& (2147483647 : Int32)) % (6 : Int32))))), .val (.ref b7), .unset] [(.int (-1 : Int32)), (.int p1), (.ref b7)])) _
    refine XS.ixor X12.here hx rfl (hb hby at_83) rfl ?_
    show Steps p.tables e below (T12.setTop (mkF m 84 #[.val (.int p1), .val (.int p2), .val (.int p3), .val (.int p4), .val (.int p5), .val (.int p6), .val (.int ((1 : Int32) + ((p5 &&& (2147483647 : Int32)) % (6 : Int32)))), .val (.int ((p6 &&& (2147483647 : Int32)) % ((1 : Int32) + ((p5 &&& (2147483647 : Int32)) % (6 : Int32))))), .val (.ref b7), .unset] [(.int (p1 ^^^ (-1 : Int32))), (.ref b7)])) _
    refine st13.trans ?_
    show Steps p.tables e below (T13.setTop (mkF m 87 #[.val (.int p1), .val (.int p2), .val (.int p3), .val (.int p4), .val (.int p5), .val (.int p6), .val (.int ((1 : Int32) + ((p5 &&& (2147483647 : Int32)) % (6 : Int32)))), .val (.int ((p6 &&& (2147483647 : Int32)) % ((1 : Int32) + ((p5 &&& (2147483647 : Int32)) % (6 : Int32))))), .val (.ref b7), .unset] [])) _
    refine XS.iload X13.here hx rfl (hb hby at_87) rfl ?_
    show Steps p.tables e below (T13.setTop (mkF m 89 #[.val (.int p1), .val (.int p2), .val (.int p3), .val (.int p4), .val (.int p5), .val (.int p6), .val (.int ((1 : Int32) + ((p5 &&& (2147483647 : Int32)) % (6 : Int32)))), .val (.int ((p6 &&& (2147483647 : Int32)) % ((1 : Int32) + ((p5 &&& (2147483647 : Int32)) % (6 : Int32))))), .val (.ref b7), .unset] [(.int ((1 : Int32) + ((p5 &&& (2147483647 : Int32)) % (6 : Int32))))])) _
    refine XS.iconst X13.here hx rfl (hb hby at_89) ?_
    show Steps p.tables e below (T13.setTop (mkF m 90 #[.val (.int p1), .val (.int p2), .val (.int p3), .val (.int p4), .val (.int p5), .val (.int p6), .val (.int ((1 : Int32) + ((p5 &&& (2147483647 : Int32)) % (6 : Int32)))), .val (.int ((p6 &&& (2147483647 : Int32)) % ((1 : Int32) + ((p5 &&& (2147483647 : Int32)) % (6 : Int32))))), .val (.ref b7), .unset] [(.int (5 : Int32)), (.int ((1 : Int32) + ((p5 &&& (2147483647 : Int32)) % (6 : Int32))))])) _
    refine XS.icmpYes X13.here hx rfl (pc0 := 90) (pc' := 101) rfl (hb hby at_90) rfl (flt hc90).2.2.2 (by decide) (by decide) ?_
    show Steps p.tables e below (T13.setTop (mkF m 101 #[.val (.int p1), .val (.int p2), .val (.int p3), .val (.int p4), .val (.int p5), .val (.int p6), .val (.int ((1 : Int32) + ((p5 &&& (2147483647 : Int32)) % (6 : Int32)))), .val (.int ((p6 &&& (2147483647 : Int32)) % ((1 : Int32) + ((p5 &&& (2147483647 : Int32)) % (6 : Int32))))), .val (.ref b7), .unset] [])) _
    refine st14 _ ?_
    show Steps p.tables e below (T14.setTop (mkF m 167 #[.val (.int p1), .val (.int p2), .val (.int p3), .val (.int p4), .val (.int p5), .val (.int p6), .val (.int ((1 : Int32) + ((p5 &&& (2147483647 : Int32)) % (6 : Int32)))), .val (.int ((p6 &&& (2147483647 : Int32)) % ((1 : Int32) + ((p5 &&& (2147483647 : Int32)) % (6 : Int32))))), .val (.ref b7), .val (.int ex)] [])) _
    refine XS.aload X14.here hx rfl (hb hby at_167) rfl rfl ?_
    show Steps p.tables e below (T14.setTop (mkF m 169 #[.val (.int p1), .val (.int p2), .val (.int p3), .val (.int p4), .val (.int p5), .val (.int p6), .val (.int ((1 : Int32) + ((p5 &&& (2147483647 : Int32)) % (6 : Int32)))), .val (.int ((p6 &&& (2147483647 : Int32)) % ((1 : Int32) + ((p5 &&& (2147483647 : Int32)) % (6 : Int32))))), .val (.ref b7), .val (.int ex)] [(.ref b7)])) _
    refine XS.iload X14.here hx rfl (hb hby at_169) rfl ?_
    show Steps p.tables e below (T14.setTop (mkF m 171 #[.val (.int p1), .val (.int p2), .val (.int p3), .val (.int p4), .val (.int p5), .val (.int p6), .val (.int ((1 : Int32) + ((p5 &&& (2147483647 : Int32)) % (6 : Int32)))), .val (.int ((p6 &&& (2147483647 : Int32)) % ((1 : Int32) + ((p5 &&& (2147483647 : Int32)) % (6 : Int32))))), .val (.ref b7), .val (.int ex)] [(.int ((p6 &&& (2147483647 : Int32)) % ((1 : Int32) + ((p5 &&& (2147483647 : Int32)) % (6 : Int32))))), (.ref b7)])) _
    refine st15.trans ?_
    show Steps p.tables e below (T15.setTop (mkF m 174 #[.val (.int p1), .val (.int p2), .val (.int p3), .val (.int p4), .val (.int p5), .val (.int p6), .val (.int ((1 : Int32) + ((p5 &&& (2147483647 : Int32)) % (6 : Int32)))), .val (.int ((p6 &&& (2147483647 : Int32)) % ((1 : Int32) + ((p5 &&& (2147483647 : Int32)) % (6 : Int32))))), .val (.ref b7), .val (.int ex)] [(.int ex)])) _
    refine XS.iload X15.here hx rfl (hb hby at_174) rfl ?_
    show Steps p.tables e below (T15.setTop (mkF m 176 #[.val (.int p1), .val (.int p2), .val (.int p3), .val (.int p4), .val (.int p5), .val (.int p6), .val (.int ((1 : Int32) + ((p5 &&& (2147483647 : Int32)) % (6 : Int32)))), .val (.int ((p6 &&& (2147483647 : Int32)) % ((1 : Int32) + ((p5 &&& (2147483647 : Int32)) % (6 : Int32))))), .val (.ref b7), .val (.int ex)] [(.int ex), (.int ex)])) _
    refine XS.icmpNo X15.here hx rfl (hb hby at_176) rfl (teq (rfl : ex = ex)).2 ?_
    show Steps p.tables e below (T15.setTop (mkF m 179 #[.val (.int p1), .val (.int p2), .val (.int p3), .val (.int p4), .val (.int p5), .val (.int p6), .val (.int ((1 : Int32) + ((p5 &&& (2147483647 : Int32)) % (6 : Int32)))), .val (.int ((p6 &&& (2147483647 : Int32)) % ((1 : Int32) + ((p5 &&& (2147483647 : Int32)) % (6 : Int32))))), .val (.ref b7), .val (.int ex)] [])) _
    refine XS.iconst X15.here hx rfl (hb hby at_179) ?_
    show Steps p.tables e below (T15.setTop (mkF m 180 #[.val (.int p1), .val (.int p2), .val (.int p3), .val (.int p4), .val (.int p5), .val (.int p6), .val (.int ((1 : Int32) + ((p5 &&& (2147483647 : Int32)) % (6 : Int32)))), .val (.int ((p6 &&& (2147483647 : Int32)) % ((1 : Int32) + ((p5 &&& (2147483647 : Int32)) % (6 : Int32))))), .val (.ref b7), .val (.int ex)] [(.int (1 : Int32))])) _
    refine XS.goto X15.here hx rfl (pc0 := 180) (pc' := 184) rfl (hb hby at_180) (by decide) (by decide) ?_
    show Steps p.tables e below (T15.setTop (mkF m 184 #[.val (.int p1), .val (.int p2), .val (.int p3), .val (.int p4), .val (.int p5), .val (.int p6), .val (.int ((1 : Int32) + ((p5 &&& (2147483647 : Int32)) % (6 : Int32)))), .val (.int ((p6 &&& (2147483647 : Int32)) % ((1 : Int32) + ((p5 &&& (2147483647 : Int32)) % (6 : Int32))))), .val (.ref b7), .val (.int ex)] [(.int (1 : Int32))])) _
    exact retN X15 hx (t := .boolean) Bd.returns (by simp) (hb hby at_184) hr
  · show Qlaw0 n0 _ T15.heap _
    rw [e15q]
    exact ⟨rfl, N15⟩
set_option maxRecDepth 65536 in
set_option maxHeartbeats 40000000 in
theorem rm0_6 (l : Launch) (Z : State) (a0 : Array Value) (hw : ∀ d ∈ tables_1, d.before a0 Z = true) (ws : List Jvm.Cond) (p1 : Int32) (p2 : Int32) (p3 : Int32) (p4 : Int32) (p5 : Int32) (p6 : Int32) (ex : Int32) (h0 : Heap) (n0 : Nat) (Z0 : n0 ≤ h0.size) (hE : (((p6 &&& (2147483647 : Int32)) % ((1 : Int32) + ((p5 &&& (2147483647 : Int32)) % (6 : Int32)))) = (0 : Int32) ∧ ex = p1) ∨ (¬ (((p6 &&& (2147483647 : Int32)) % ((1 : Int32) + ((p5 &&& (2147483647 : Int32)) % (6 : Int32)))) = (0 : Int32)) ∧ ((p6 &&& (2147483647 : Int32)) % ((1 : Int32) + ((p5 &&& (2147483647 : Int32)) % (6 : Int32)))) = (1 : Int32) ∧ ex = p2) ∨ (¬ (((p6 &&& (2147483647 : Int32)) % ((1 : Int32) + ((p5 &&& (2147483647 : Int32)) % (6 : Int32)))) = (0 : Int32)) ∧ ¬ (((p6 &&& (2147483647 : Int32)) % ((1 : Int32) + ((p5 &&& (2147483647 : Int32)) % (6 : Int32)))) = (1 : Int32)) ∧ ((p6 &&& (2147483647 : Int32)) % ((1 : Int32) + ((p5 &&& (2147483647 : Int32)) % (6 : Int32)))) = (2 : Int32) ∧ ex = p3) ∨ (¬ (((p6 &&& (2147483647 : Int32)) % ((1 : Int32) + ((p5 &&& (2147483647 : Int32)) % (6 : Int32)))) = (0 : Int32)) ∧ ¬ (((p6 &&& (2147483647 : Int32)) % ((1 : Int32) + ((p5 &&& (2147483647 : Int32)) % (6 : Int32)))) = (1 : Int32)) ∧ ¬ (((p6 &&& (2147483647 : Int32)) % ((1 : Int32) + ((p5 &&& (2147483647 : Int32)) % (6 : Int32)))) = (2 : Int32)) ∧ ((p6 &&& (2147483647 : Int32)) % ((1 : Int32) + ((p5 &&& (2147483647 : Int32)) % (6 : Int32)))) = (3 : Int32) ∧ ex = p4) ∨ (¬ (((p6 &&& (2147483647 : Int32)) % ((1 : Int32) + ((p5 &&& (2147483647 : Int32)) % (6 : Int32)))) = (0 : Int32)) ∧ ¬ (((p6 &&& (2147483647 : Int32)) % ((1 : Int32) + ((p5 &&& (2147483647 : Int32)) % (6 : Int32)))) = (1 : Int32)) ∧ ¬ (((p6 &&& (2147483647 : Int32)) % ((1 : Int32) + ((p5 &&& (2147483647 : Int32)) % (6 : Int32)))) = (2 : Int32)) ∧ ¬ (((p6 &&& (2147483647 : Int32)) % ((1 : Int32) + ((p5 &&& (2147483647 : Int32)) % (6 : Int32)))) = (3 : Int32)) ∧ ((p6 &&& (2147483647 : Int32)) % ((1 : Int32) + ((p5 &&& (2147483647 : Int32)) % (6 : Int32)))) = (4 : Int32) ∧ ex = (p1 ^^^ (-1 : Int32))) ∨ (¬ (((p6 &&& (2147483647 : Int32)) % ((1 : Int32) + ((p5 &&& (2147483647 : Int32)) % (6 : Int32)))) = (0 : Int32)) ∧ ¬ (((p6 &&& (2147483647 : Int32)) % ((1 : Int32) + ((p5 &&& (2147483647 : Int32)) % (6 : Int32)))) = (1 : Int32)) ∧ ¬ (((p6 &&& (2147483647 : Int32)) % ((1 : Int32) + ((p5 &&& (2147483647 : Int32)) % (6 : Int32)))) = (2 : Int32)) ∧ ¬ (((p6 &&& (2147483647 : Int32)) % ((1 : Int32) + ((p5 &&& (2147483647 : Int32)) % (6 : Int32)))) = (3 : Int32)) ∧ ¬ (((p6 &&& (2147483647 : Int32)) % ((1 : Int32) + ((p5 &&& (2147483647 : Int32)) % (6 : Int32)))) = (4 : Int32)) ∧ ex = (p2 ^^^ (-1 : Int32)))) (hr8 : ¬ ((((p6 &&& (2147483647 : Int32)) % ((1 : Int32) + ((p5 &&& (2147483647 : Int32)) % (6 : Int32)))).toUInt32 >>> ((16 : Int32) &&& 31).toUInt32).toInt32) < 0 ∧ ((((p6 &&& (2147483647 : Int32)) % ((1 : Int32) + ((p5 &&& (2147483647 : Int32)) % (6 : Int32)))).toUInt32 >>> ((16 : Int32) &&& 31).toUInt32).toInt32) < (1 : Int32)) (hk0 : ((((p6 &&& (2147483647 : Int32)) % ((1 : Int32) + ((p5 &&& (2147483647 : Int32)) % (6 : Int32)))).toUInt32 >>> ((16 : Int32) &&& 31).toUInt32).toInt32) = (0 : Int32)) (hr13 : ¬ (((p6 &&& (2147483647 : Int32)) % ((1 : Int32) + ((p5 &&& (2147483647 : Int32)) % (6 : Int32)))) &&& (65535 : Int32)) < 0 ∧ (((p6 &&& (2147483647 : Int32)) % ((1 : Int32) + ((p5 &&& (2147483647 : Int32)) % (6 : Int32)))) &&& (65535 : Int32)) < (16 : Int32)) (u13 : (((((((own_z.set 0 (.int p1)).set 1 (.int p2)).set 2 (.int p3)).set 3 (.int p4)).set 4 (.int (p1 ^^^ (-1 : Int32)))).set 5 (.int (p2 ^^^ (-1 : Int32)))) : List Value).getD (((p6 &&& (2147483647 : Int32)) % ((1 : Int32) + ((p5 &&& (2147483647 : Int32)) % (6 : Int32)))) &&& (65535 : Int32)).toNatClampNeg ((.int (0 : Int32)) : Value) = (.int ex)) (hnz19 : ¬ (((1 : Int32) + ((p5 &&& (2147483647 : Int32)) % (6 : Int32))) = (0 : Int32))) (hc40 : (1 : Int32) < ((1 : Int32) + ((p5 &&& (2147483647 : Int32)) % (6 : Int32)))) (hc52 : (2 : Int32) < ((1 : Int32) + ((p5 &&& (2147483647 : Int32)) % (6 : Int32)))) (hc64 : (3 : Int32) < ((1 : Int32) + ((p5 &&& (2147483647 : Int32)) % (6 : Int32)))) (hc76 : (4 : Int32) < ((1 : Int32) + ((p5 &&& (2147483647 : Int32)) % (6 : Int32)))) (hc90 : (5 : Int32) < ((1 : Int32) + ((p5 &&& (2147483647 : Int32)) % (6 : Int32)))) :
    MetFree l x (head1 (Jvm.Cond.code x code maxLocals ret :: ws) room_1) (fun a U => a = #[(.int p1), (.int p2), (.int p3), (.int p4), (.int p5), (.int p6)] ∧ Z.Warmed39 U.vm ∧ U.heap = h0) (fun _ _ _ _ _ => True) (fun _ U o U' => ∃ v L, o = .returned v ∧ Qlaw0 n0 v U'.heap L ∧ FrameEnd U o U' L room_1.cells room_1.slots) := by
  refine MetFree.of_bodySF (plainFor_of_name pn_0) hisR ?_
  intro p e s m args below meth c s₁ Bd hml0 hP hK
  obtain ⟨rfl, hZ, hh⟩ := hP
  have hx := Bd.exec
  have hby := Bd.bytes
  have hml : c.maxLocals = 10 := hml0
  have hown : s.vm.findClass "com/example/hearsay/hearsay/graph/IntListGetPinLaw" = some m.cls := findClass_of_methodNamed Bd.named
  have hnm := (name_of_methodNamed Bd.named Bd.method).1
  have X0 : Stand p l e room_1 s m #[(.int p1), (.int p2), (.int p3), (.int p4), (.int p5), (.int p6)] below meth c s₁ [] 0 0 := Stand.of_body Bd
  have e0 : s₁.heap = h0 := by rw [← hh, Bd.state]; rfl
  have N0 := Fr.nil n0
  have pre0 : ∀ t, Steps p.tables e below (s₁.setTop (mkF m 0 #[.val (.int p1), .val (.int p2), .val (.int p3), .val (.int p4), .val (.int p5), .val (.int p6), .unset, .unset, .unset, .unset] [])) t → Steps p.tables e below (s₁.setTop (entryFrame m #[(.int p1), (.int p2), (.int p3), (.int p4), (.int p5), (.int p6)] maxLocals)) t := fun t k => castTop (ef_0 m p1 p2 p3 p4 p5 p6) k
  obtain ⟨T7, h7, X7, e7, E7, A7, D7, -, st7⟩ := newO X0 hx hZ hown (hw _ (List.mem_of_getElem? (i := 1) rfl)) (hw _ (List.mem_of_getElem? (i := 2) rfl)) (hw _ (List.mem_of_getElem? (i := 3) rfl)) e0 (g := (mkF m 22 #[.val (.int p1), .val (.int p2), .val (.int p3), .val (.int p4), .val (.int p5), .val (.int p6), .val (.int ((1 : Int32) + ((p5 &&& (2147483647 : Int32)) % (6 : Int32)))), .val (.int ((p6 &&& (2147483647 : Int32)) % ((1 : Int32) + ((p5 &&& (2147483647 : Int32)) % (6 : Int32))))), .unset, .unset] [])) rfl (hb hby at_22) (by decide) (by decide)
  obtain ⟨b7, g7⟩ : ∃ z, z = h0.size := ⟨_, rfl⟩
  rw [← g7] at A7 D7 st7
  have F_chunks_b7 : Fld Z h7 b7 "com/example/hearsay/hearsay/graph/IntList" "chunks" "[[I" .null := D7 (Or.inl (hw _ (List.mem_of_getElem? (i := 15) rfl))) (ty := (.array (.array .int))) (by decide)
  have F_size_b7 : Fld Z h7 b7 "com/example/hearsay/hearsay/graph/IntList" "size" "I" (.int (0 : Int32)) := D7 (Or.inl (hw _ (List.mem_of_getElem? (i := 22) rfl))) (ty := .int) (by decide)
  have E_b7 := A7
  have g_b7 : n0 ≤ b7 := Nat.le_trans Z0 (Nat.le_of_eq g7.symm)
  have sz_b7 : h0.size ≤ b7 := (Nat.le_trans (Keep.refl h0 []).1 (Nat.le_of_eq g7.symm))
  have K7 : Keep h0 h7 [] := (Keep.refl h0 []).ext E7
  obtain ⟨_, _, ⟨T8, L8, k8, n8⟩, -, X8, ⟨Lc8, hQ8, l8, y8, z8⟩, st8⟩ := X7.specialBack hx (y := (⟨"com/example/hearsay/hearsay/graph/IntList", "<init>", "()V"⟩ : MethodName)) rfl hown (mvT hZ (hw _ (List.mem_of_getElem? (i := 4) rfl))) (mvT hZ (hw _ (List.mem_of_getElem? (i := 5) rfl))) (mvT hZ (hw _ (List.mem_of_getElem? (i := 6) rfl))) (by decide) (backOf (W := 1) (rm1 l Z a0 hw [] b7 .null h7 n0 (Nat.le_trans Z0 E7.1) F_size_b7 E_b7 F_chunks_b7 g_b7) hZ (hw _ (List.mem_of_getElem? (i := 6) rfl)) (hw _ (List.mem_of_getElem? (i := 3) rfl)) (by decide) (by decide)) (g := (mkF m 26 #[.val (.int p1), .val (.int p2), .val (.int p3), .val (.int p4), .val (.int p5), .val (.int p6), .val (.int ((1 : Int32) + ((p5 &&& (2147483647 : Int32)) % (6 : Int32)))), .val (.int ((p6 &&& (2147483647 : Int32)) % ((1 : Int32) + ((p5 &&& (2147483647 : Int32)) % (6 : Int32))))), .unset, .unset] [(.ref b7), (.ref b7)])) rfl (by rw [hml]; rfl) (Steps.refl _) (a := b7) (argsL := []) (rest := [(.ref b7)]) (lenOf pd_0_0 rfl) rfl (by show 2 * 0 + _ ≤ _; exact Nat.le_of_eq rfl) (hb hby at_26) (fun _ _ => ⟨rfl, e7, (by decide : 1 + 2 ≤ _), (by decide : 2 + 17 ≤ _)⟩)
  dsimp only [Pt.U, Pt.locs, Pt.cells, Pt.slots] at X8 l8 y8 z8 st8 hQ8
  subst l8 y8 z8
  obtain ⟨rfl, N8q, K8q, ch, c0, kA, kI, gch, gc0, ne3, E8q, Fc8q, Fs8q, Vh8q, Vd8q⟩ := hQ8
  have N8 := Fr.app N0 N8q
  have KK8 : Keep h0 T8.heap [] := K7.trans K8q (allS (Or.inr sz_b7) all0)
  have sz_ch : h0.size ≤ ch := Nat.le_trans K7.1 gch
  have sz_c0 : h0.size ≤ c0 := Nat.le_trans K7.1 gc0
  have g_ch : n0 ≤ ch := Nat.le_trans Z0 sz_ch
  have g_c0 : n0 ≤ c0 := Nat.le_trans Z0 sz_c0
  have ne1 : b7 ≠ ch := Nat.ne_of_lt (Nat.lt_of_lt_of_le E_b7.lt gch)
  have ne2 : b7 ≠ c0 := Nat.ne_of_lt (Nat.lt_of_lt_of_le E_b7.lt gc0)
  obtain ⟨cq9, kq9, q9a, q9b, q9c⟩ := isOf hZ rfl E8q
  obtain ⟨_, _, ⟨T9, L9, k9, n9⟩, -, X9, ⟨Lc9, hQ9, l9, y9, z9⟩, st9⟩ := X8.virtualBack hx (y := (⟨"com/example/hearsay/hearsay/graph/IntList", "add", "(I)V"⟩ : MethodName)) (z := (⟨"com/example/hearsay/hearsay/graph/IntList", "add", "(I)V"⟩ : MethodName)) hown (mvT hZ (hw _ (List.mem_of_getElem? (i := 16) rfl))) (mvT hZ (hw _ (List.mem_of_getElem? (i := 17) rfl))) (notFace_of_selects (args := #[]) (mvT hZ (hw _ (List.mem_of_getElem? (i := 19) rfl)))) (mvT hZ (hw _ (List.mem_of_getElem? (i := 19) rfl))) (mvT hZ (hw _ (List.mem_of_getElem? (i := 18) rfl))) (by decide) (backOf (W := 0) (rm3 l Z a0 hw [] b7 p1 ch c0 kA kI (0 : Int32) own_z 0 T8.heap n0 (Nat.le_trans (Nat.le_trans Z0 E7.1) K8q.1) ne1 ne2 ne3 Vh8q Vd8q Fs8q Fc8q (by decide) (own_u c0 (by decide)) (by decide) rfl (by decide) (own_u c0 (by decide)) (by decide) (by decide) (Nat.le_of_ble_eq_true rfl) g_c0 E8q g_b7 (by decide) (by decide) (by decide)) hZ (hw _ (List.mem_of_getElem? (i := 20) rfl)) (hw _ (List.mem_of_getElem? (i := 3) rfl)) (by decide) (by decide)) q9a q9c (g := (mkF m 34 #[.val (.int p1), .val (.int p2), .val (.int p3), .val (.int p4), .val (.int p5), .val (.int p6), .val (.int ((1 : Int32) + ((p5 &&& (2147483647 : Int32)) % (6 : Int32)))), .val (.int ((p6 &&& (2147483647 : Int32)) % ((1 : Int32) + ((p5 &&& (2147483647 : Int32)) % (6 : Int32))))), .val (.ref b7), .unset] [(.int p1), (.ref b7)])) rfl (by rw [hml]; rfl) (Steps.refl _) (argsL := [(.int p1)]) (rest := []) (lenOf pd_0_1 rfl) rfl (by show 2 * 0 + _ ≤ _; exact Nat.le_of_eq rfl) (hb hby at_34) (fun _ _ => ⟨rfl, rfl, (by decide : 3 + 0 ≤ _), (by decide : 19 + 0 ≤ _)⟩)
  dsimp only [Pt.U, Pt.locs, Pt.cells, Pt.slots] at X9 l9 y9 z9 st9 hQ9
  subst l9 y9 z9
  obtain ⟨rfl, N9q, K9q, E9q, Fc9q, Fs9q, Vh9q, Vd9q⟩ := hQ9
  have N9 := Fr.app N8 N9q
  have KK9 : Keep h0 T9.heap [] := KK8.trans K9q (allS (Or.inr sz_c0) (allS (Or.inr sz_b7) all0))
  obtain ⟨cq10, kq10, q10a, q10b, q10c⟩ := isOf hZ rfl E9q
  obtain ⟨_, _, ⟨T10, L10, k10, n10⟩, -, X10, ⟨Lc10, hQ10, l10, y10, z10⟩, st10⟩ := X9.virtualBack hx (y := (⟨"com/example/hearsay/hearsay/graph/IntList", "add", "(I)V"⟩ : MethodName)) (z := (⟨"com/example/hearsay/hearsay/graph/IntList", "add", "(I)V"⟩ : MethodName)) hown (mvT hZ (hw _ (List.mem_of_getElem? (i := 16) rfl))) (mvT hZ (hw _ (List.mem_of_getElem? (i := 17) rfl))) (notFace_of_selects (args := #[]) (mvT hZ (hw _ (List.mem_of_getElem? (i := 19) rfl)))) (mvT hZ (hw _ (List.mem_of_getElem? (i := 19) rfl))) (mvT hZ (hw _ (List.mem_of_getElem? (i := 18) rfl))) (by decide) (backOf (W := 0) (rm3 l Z a0 hw [] b7 p2 ch c0 kA kI ((0 : Int32) + (1 : Int32)) (own_z.set 0 (.int p1)) 1 T9.heap n0 (Nat.le_trans (Nat.le_trans (Nat.le_trans Z0 E7.1) K8q.1) K9q.1) ne1 ne2 ne3 Vh9q Vd9q Fs9q Fc9q (by decide) (own_u c0 (by decide)) (by decide) rfl (by decide) (own_u c0 (by decide)) (by decide) (by decide) (Nat.le_of_ble_eq_true rfl) g_c0 E9q g_b7 (by decide) (by decide) (by decide)) hZ (hw _ (List.mem_of_getElem? (i := 20) rfl)) (hw _ (List.mem_of_getElem? (i := 3) rfl)) (by decide) (by decide)) q10a q10c (g := (mkF m 46 #[.val (.int p1), .val (.int p2), .val (.int p3), .val (.int p4), .val (.int p5), .val (.int p6), .val (.int ((1 : Int32) + ((p5 &&& (2147483647 : Int32)) % (6 : Int32)))), .val (.int ((p6 &&& (2147483647 : Int32)) % ((1 : Int32) + ((p5 &&& (2147483647 : Int32)) % (6 : Int32))))), .val (.ref b7), .unset] [(.int p2), (.ref b7)])) rfl (by rw [hml]; rfl) (Steps.refl _) (argsL := [(.int p2)]) (rest := []) (lenOf pd_0_1 rfl) rfl (by show 2 * 0 + _ ≤ _; exact Nat.le_of_eq rfl) (hb hby at_46) (fun _ _ => ⟨rfl, rfl, (by decide : 3 + 0 ≤ _), (by decide : 19 + 0 ≤ _)⟩)
  dsimp only [Pt.U, Pt.locs, Pt.cells, Pt.slots] at X10 l10 y10 z10 st10 hQ10
  subst l10 y10 z10
  obtain ⟨rfl, N10q, K10q, E10q, Fc10q, Fs10q, Vh10q, Vd10q⟩ := hQ10
  have N10 := Fr.app N9 N10q
  have KK10 : Keep h0 T10.heap [] := KK9.trans K10q (allS (Or.inr sz_c0) (allS (Or.inr sz_b7) all0))
  obtain ⟨cq11, kq11, q11a, q11b, q11c⟩ := isOf hZ rfl E10q
  obtain ⟨_, _, ⟨T11, L11, k11, n11⟩, -, X11, ⟨Lc11, hQ11, l11, y11, z11⟩, st11⟩ := X10.virtualBack hx (y := (⟨"com/example/hearsay/hearsay/graph/IntList", "add", "(I)V"⟩ : MethodName)) (z := (⟨"com/example/hearsay/hearsay/graph/IntList", "add", "(I)V"⟩ : MethodName)) hown (mvT hZ (hw _ (List.mem_of_getElem? (i := 16) rfl))) (mvT hZ (hw _ (List.mem_of_getElem? (i := 17) rfl))) (notFace_of_selects (args := #[]) (mvT hZ (hw _ (List.mem_of_getElem? (i := 19) rfl)))) (mvT hZ (hw _ (List.mem_of_getElem? (i := 19) rfl))) (mvT hZ (hw _ (List.mem_of_getElem? (i := 18) rfl))) (by decide) (backOf (W := 0) (rm3 l Z a0 hw [] b7 p3 ch c0 kA kI (((0 : Int32) + (1 : Int32)) + (1 : Int32)) ((own_z.set 0 (.int p1)).set 1 (.int p2)) 2 T10.heap n0 (Nat.le_trans (Nat.le_trans (Nat.le_trans (Nat.le_trans Z0 E7.1) K8q.1) K9q.1) K10q.1) ne1 ne2 ne3 Vh10q Vd10q Fs10q Fc10q (by decide) (own_u c0 (by decide)) (by decide) rfl (by decide) (own_u c0 (by decide)) (by decide) (by decide) (Nat.le_of_ble_eq_true rfl) g_c0 E10q g_b7 (by decide) (by decide) (by decide)) hZ (hw _ (List.mem_of_getElem? (i := 20) rfl)) (hw _ (List.mem_of_getElem? (i := 3) rfl)) (by decide) (by decide)) q11a q11c (g := (mkF m 58 #[.val (.int p1), .val (.int p2), .val (.int p3), .val (.int p4), .val (.int p5), .val (.int p6), .val (.int ((1 : Int32) + ((p5 &&& (2147483647 : Int32)) % (6 : Int32)))), .val (.int ((p6 &&& (2147483647 : Int32)) % ((1 : Int32) + ((p5 &&& (2147483647 : Int32)) % (6 : Int32))))), .val (.ref b7), .unset] [(.int p3), (.ref b7)])) rfl (by rw [hml]; rfl) (Steps.refl _) (argsL := [(.int p3)]) (rest := []) (lenOf pd_0_1 rfl) rfl (by show 2 * 0 + _ ≤ _; exact Nat.le_of_eq rfl) (hb hby at_58) (fun _ _ => ⟨rfl, rfl, (by decide : 3 + 0 ≤ _), (by decide : 19 + 0 ≤ _)⟩)
  dsimp only [Pt.U, Pt.locs, Pt.cells, Pt.slots] at X11 l11 y11 z11 st11 hQ11
  subst l11 y11 z11
  obtain ⟨rfl, N11q, K11q, E11q, Fc11q, Fs11q, Vh11q, Vd11q⟩ := hQ11
  have N11 := Fr.app N10 N11q
  have KK11 : Keep h0 T11.heap [] := KK10.trans K11q (allS (Or.inr sz_c0) (allS (Or.inr sz_b7) all0))
  obtain ⟨cq12, kq12, q12a, q12b, q12c⟩ := isOf hZ rfl E11q
  obtain ⟨_, _, ⟨T12, L12, k12, n12⟩, -, X12, ⟨Lc12, hQ12, l12, y12, z12⟩, st12⟩ := X11.virtualBack hx (y := (⟨"com/example/hearsay/hearsay/graph/IntList", "add", "(I)V"⟩ : MethodName)) (z := (⟨"com/example/hearsay/hearsay/graph/IntList", "add", "(I)V"⟩ : MethodName)) hown (mvT hZ (hw _ (List.mem_of_getElem? (i := 16) rfl))) (mvT hZ (hw _ (List.mem_of_getElem? (i := 17) rfl))) (notFace_of_selects (args := #[]) (mvT hZ (hw _ (List.mem_of_getElem? (i := 19) rfl)))) (mvT hZ (hw _ (List.mem_of_getElem? (i := 19) rfl))) (mvT hZ (hw _ (List.mem_of_getElem? (i := 18) rfl))) (by decide) (backOf (W := 0) (rm3 l Z a0 hw [] b7 p4 ch c0 kA kI ((((0 : Int32) + (1 : Int32)) + (1 : Int32)) + (1 : Int32)) (((own_z.set 0 (.int p1)).set 1 (.int p2)).set 2 (.int p3)) 3 T11.heap n0 (Nat.le_trans (Nat.le_trans (Nat.le_trans (Nat.le_trans (Nat.le_trans Z0 E7.1) K8q.1) K9q.1) K10q.1) K11q.1) ne1 ne2 ne3 Vh11q Vd11q Fs11q Fc11q (by decide) (own_u c0 (by decide)) (by decide) rfl (by decide) (own_u c0 (by decide)) (by decide) (by decide) (Nat.le_of_ble_eq_true rfl) g_c0 E11q g_b7 (by decide) (by decide) (by decide)) hZ (hw _ (List.mem_of_getElem? (i := 20) rfl)) (hw _ (List.mem_of_getElem? (i := 3) rfl)) (by decide) (by decide)) q12a q12c (g := (mkF m 70 #[.val (.int p1), .val (.int p2), .val (.int p3), .val (.int p4), .val (.int p5), .val (.int p6), .val (.int ((1 : Int32) + ((p5 &&& (2147483647 : Int32)) % (6 : Int32)))), .val (.int ((p6 &&& (2147483647 : Int32)) % ((1 : Int32) + ((p5 &&& (2147483647 : Int32)) % (6 : Int32))))), .val (.ref b7), .unset] [(.int p4), (.ref b7)])) rfl (by rw [hml]; rfl) (Steps.refl _) (argsL := [(.int p4)]) (rest := []) (lenOf pd_0_1 rfl) rfl (by show 2 * 0 + _ ≤ _; exact Nat.le_of_eq rfl) (hb hby at_70) (fun _ _ => ⟨rfl, rfl, (by decide : 3 + 0 ≤ _), (by decide : 19 + 0 ≤ _)⟩)
  dsimp only [Pt.U, Pt.locs, Pt.cells, Pt.slots] at X12 l12 y12 z12 st12 hQ12
  subst l12 y12 z12
  obtain ⟨rfl, N12q, K12q, E12q, Fc12q, Fs12q, Vh12q, Vd12q⟩ := hQ12
  have N12 := Fr.app N11 N12q
  have KK12 : Keep h0 T12.heap [] := KK11.trans K12q (allS (Or.inr sz_c0) (allS (Or.inr sz_b7) all0))
  obtain ⟨cq13, kq13, q13a, q13b, q13c⟩ := isOf hZ rfl E12q
  obtain ⟨_, _, ⟨T13, L13, k13, n13⟩, -, X13, ⟨Lc13, hQ13, l13, y13, z13⟩, st13⟩ := X12.virtualBack hx (y := (⟨"com/example/hearsay/hearsay/graph/IntList", "add", "(I)V"⟩ : MethodName)) (z := (⟨"com/example/hearsay/hearsay/graph/IntList", "add", "(I)V"⟩ : MethodName)) hown (mvT hZ (hw _ (List.mem_of_getElem? (i := 16) rfl))) (mvT hZ (hw _ (List.mem_of_getElem? (i := 17) rfl))) (notFace_of_selects (args := #[]) (mvT hZ (hw _ (List.mem_of_getElem? (i := 19) rfl)))) (mvT hZ (hw _ (List.mem_of_getElem? (i := 19) rfl))) (mvT hZ (hw _ (List.mem_of_getElem? (i := 18) rfl))) (by decide) (backOf (W := 0) (rm3 l Z a0 hw [] b7 (p1 ^^^ (-1 : Int32)) ch c0 kA kI (((((0 : Int32) + (1 : Int32)) + (1 : Int32)) + (1 : Int32)) + (1 : Int32)) ((((own_z.set 0 (.int p1)).set 1 (.int p2)).set 2 (.int p3)).set 3 (.int p4)) 4 T12.heap n0 (Nat.le_trans (Nat.le_trans (Nat.le_trans (Nat.le_trans (Nat.le_trans (Nat.le_trans Z0 E7.1) K8q.1) K9q.1) K10q.1) K11q.1) K12q.1) ne1 ne2 ne3 Vh12q Vd12q Fs12q Fc12q (by decide) (own_u c0 (by decide)) (by decide) rfl (by decide) (own_u c0 (by decide)) (by decide) (by decide) (Nat.le_of_ble_eq_true rfl) g_c0 E12q g_b7 (by decide) (by decide) (by decide)) hZ (hw _ (List.mem_of_getElem? (i := 20) rfl)) (hw _ (List.mem_of_getElem? (i := 3) rfl)) (by decide) (by decide)) q13a q13c (g := (mkF m 84 #[.val (.int p1), .val (.int p2), .val (.int p3), .val (.int p4), .val (.int p5), .val (.int p6), .val (.int ((1 : Int32) + ((p5 &&& (2147483647 : Int32)) % (6 : Int32)))), .val (.int ((p6 &&& (2147483647 : Int32)) % ((1 : Int32) + ((p5 &&& (2147483647 : Int32)) % (6 : Int32))))), .val (.ref b7), .unset] [(.int (p1 ^^^ (-1 : Int32))), (.ref b7)])) rfl (by rw [hml]; rfl) (Steps.refl _) (argsL := [(.int (p1 ^^^ (-1 : Int32)))]) (rest := []) (lenOf pd_0_1 rfl) rfl (by show 2 * 0 + _ ≤ _; exact Nat.le_of_eq rfl) (hb hby at_84) (fun _ _ => ⟨rfl, rfl, (by decide : 3 + 0 ≤ _), (by decide : 19 + 0 ≤ _)⟩)
  dsimp only [Pt.U, Pt.locs, Pt.cells, Pt.slots] at X13 l13 y13 z13 st13 hQ13
  subst l13 y13 z13
  obtain ⟨rfl, N13q, K13q, E13q, Fc13q, Fs13q, Vh13q, Vd13q⟩ := hQ13
  have N13 := Fr.app N12 N13q
  have KK13 : Keep h0 T13.heap [] := KK12.trans K13q (allS (Or.inr sz_c0) (allS (Or.inr sz_b7) all0))
  obtain ⟨cq14, kq14, q14a, q14b, q14c⟩ := isOf hZ rfl E13q
  obtain ⟨_, _, ⟨T14, L14, k14, n14⟩, -, X14, ⟨Lc14, hQ14, l14, y14, z14⟩, st14⟩ := X13.virtualBack hx (y := (⟨"com/example/hearsay/hearsay/graph/IntList", "add", "(I)V"⟩ : MethodName)) (z := (⟨"com/example/hearsay/hearsay/graph/IntList", "add", "(I)V"⟩ : MethodName)) hown (mvT hZ (hw _ (List.mem_of_getElem? (i := 16) rfl))) (mvT hZ (hw _ (List.mem_of_getElem? (i := 17) rfl))) (notFace_of_selects (args := #[]) (mvT hZ (hw _ (List.mem_of_getElem? (i := 19) rfl)))) (mvT hZ (hw _ (List.mem_of_getElem? (i := 19) rfl))) (mvT hZ (hw _ (List.mem_of_getElem? (i := 18) rfl))) (by decide) (backOf (W := 0) (rm3 l Z a0 hw [] b7 (p2 ^^^ (-1 : Int32)) ch c0 kA kI ((((((0 : Int32) + (1 : Int32)) + (1 : Int32)) + (1 : Int32)) + (1 : Int32)) + (1 : Int32)) (((((own_z.set 0 (.int p1)).set 1 (.int p2)).set 2 (.int p3)).set 3 (.int p4)).set 4 (.int (p1 ^^^ (-1 : Int32)))) 5 T13.heap n0 (Nat.le_trans (Nat.le_trans (Nat.le_trans (Nat.le_trans (Nat.le_trans (Nat.le_trans (Nat.le_trans Z0 E7.1) K8q.1) K9q.1) K10q.1) K11q.1) K12q.1) K13q.1) ne1 ne2 ne3 Vh13q Vd13q Fs13q Fc13q (by decide) (own_u c0 (by decide)) (by decide) rfl (by decide) (own_u c0 (by decide)) (by decide) (by decide) (Nat.le_of_ble_eq_true rfl) g_c0 E13q g_b7 (by decide) (by decide) (by decide)) hZ (hw _ (List.mem_of_getElem? (i := 20) rfl)) (hw _ (List.mem_of_getElem? (i := 3) rfl)) (by decide) (by decide)) q14a q14c (g := (mkF m 98 #[.val (.int p1), .val (.int p2), .val (.int p3), .val (.int p4), .val (.int p5), .val (.int p6), .val (.int ((1 : Int32) + ((p5 &&& (2147483647 : Int32)) % (6 : Int32)))), .val (.int ((p6 &&& (2147483647 : Int32)) % ((1 : Int32) + ((p5 &&& (2147483647 : Int32)) % (6 : Int32))))), .val (.ref b7), .unset] [(.int (p2 ^^^ (-1 : Int32))), (.ref b7)])) rfl (by rw [hml]; rfl) (Steps.refl _) (argsL := [(.int (p2 ^^^ (-1 : Int32)))]) (rest := []) (lenOf pd_0_1 rfl) rfl (by show 2 * 0 + _ ≤ _; exact Nat.le_of_eq rfl) (hb hby at_98) (fun _ _ => ⟨rfl, rfl, (by decide : 3 + 0 ≤ _), (by decide : 19 + 0 ≤ _)⟩)
  dsimp only [Pt.U, Pt.locs, Pt.cells, Pt.slots] at X14 l14 y14 z14 st14 hQ14
  subst l14 y14 z14
  obtain ⟨rfl, N14q, K14q, E14q, Fc14q, Fs14q, Vh14q, Vd14q⟩ := hQ14
  have N14 := Fr.app N13 N14q
  have KK14 : Keep h0 T14.heap [] := KK13.trans K14q (allS (Or.inr sz_c0) (allS (Or.inr sz_b7) all0))
  obtain ⟨T15, X15, e15, st15⟩ := own_exp ex p1 p2 p3 p4 (.val (.int p5)) (.val (.int p6)) (.val (.int ((1 : Int32) + ((p5 &&& (2147483647 : Int32)) % (6 : Int32))))) ((p6 &&& (2147483647 : Int32)) % ((1 : Int32) + ((p5 &&& (2147483647 : Int32)) % (6 : Int32)))) (.val (.ref b7)) .unset X14 hx hZ hw hby hml hown rfl One.u hE
  obtain ⟨cq16, kq16, q16a, q16b, q16c⟩ := isOf hZ e15 E14q
  obtain ⟨_, _, ⟨T16, L16, k16, n16⟩, -, X16, ⟨Lc16, hQ16, l16, y16, z16⟩, st16⟩ := X15.virtualBack hx (y := (⟨"com/example/hearsay/hearsay/graph/IntList", "get", "(I)I"⟩ : MethodName)) (z := (⟨"com/example/hearsay/hearsay/graph/IntList", "get", "(I)I"⟩ : MethodName)) hown (mvT hZ (hw _ (List.mem_of_getElem? (i := 24) rfl))) (mvT hZ (hw _ (List.mem_of_getElem? (i := 25) rfl))) (notFace_of_selects (args := #[]) (mvT hZ (hw _ (List.mem_of_getElem? (i := 27) rfl)))) (mvT hZ (hw _ (List.mem_of_getElem? (i := 27) rfl))) (mvT hZ (hw _ (List.mem_of_getElem? (i := 26) rfl))) (by decide) (backOf (W := 0) (rm4 l Z a0 hw [] b7 ((p6 &&& (2147483647 : Int32)) % ((1 : Int32) + ((p5 &&& (2147483647 : Int32)) % (6 : Int32)))) ch c0 kA kI ((((((own_z.set 0 (.int p1)).set 1 (.int p2)).set 2 (.int p3)).set 3 (.int p4)).set 4 (.int (p1 ^^^ (-1 : Int32)))).set 5 (.int (p2 ^^^ (-1 : Int32)))) ex T14.heap n0 (Nat.le_trans (Nat.le_trans (Nat.le_trans (Nat.le_trans (Nat.le_trans (Nat.le_trans (Nat.le_trans (Nat.le_trans Z0 E7.1) K8q.1) K9q.1) K10q.1) K11q.1) K12q.1) K13q.1) K14q.1) Vh14q Vd14q Fc14q hr8 (own_u c0 hk0) hr13 u13) hZ (hw _ (List.mem_of_getElem? (i := 28) rfl)) (hw _ (List.mem_of_getElem? (i := 3) rfl)) (by decide) (by decide)) q16a q16c (g := (mkF m 171 #[.val (.int p1), .val (.int p2), .val (.int p3), .val (.int p4), .val (.int p5), .val (.int p6), .val (.int ((1 : Int32) + ((p5 &&& (2147483647 : Int32)) % (6 : Int32)))), .val (.int ((p6 &&& (2147483647 : Int32)) % ((1 : Int32) + ((p5 &&& (2147483647 : Int32)) % (6 : Int32))))), .val (.ref b7), .val (.int ex)] [(.int ((p6 &&& (2147483647 : Int32)) % ((1 : Int32) + ((p5 &&& (2147483647 : Int32)) % (6 : Int32))))), (.ref b7)])) rfl (by rw [hml]; rfl) (Steps.refl _) (argsL := [(.int ((p6 &&& (2147483647 : Int32)) % ((1 : Int32) + ((p5 &&& (2147483647 : Int32)) % (6 : Int32)))))]) (rest := []) (lenOf pd_0_2 rfl) rfl (by show 2 * 0 + _ ≤ _; exact Nat.le_of_eq rfl) (hb hby at_171) (fun _ _ => ⟨rfl, e15, (by decide : 3 + 0 ≤ _), (by decide : 19 + 0 ≤ _)⟩)
  dsimp only [Pt.U, Pt.locs, Pt.cells, Pt.slots] at X16 l16 y16 z16 st16 hQ16
  subst l16 y16 z16
  obtain ⟨rfl, N16q, e16q⟩ := hQ16
  have N16 := Fr.app N14 N16q
  obtain ⟨fs, hr, hrun, hended, hW, hsame⟩ := X16.leave (v := some (.int (1 : Int32))) (fun h => by rw [Bd.returns] at h; cases h)
  refine ⟨_, _, pre0 _ ?_, hrun, hended, _, _, rfl, ?_, ⟨_, rfl⟩, hW, hsame.mono (by decide) (by decide)⟩
  · show Steps p.tables e below (s₁.setTop (mkF m 0 #[.val (.int p1), .val (.int p2), .val (.int p3), .val (.int p4), .val (.int p5), .val (.int p6), .unset, .unset, .unset, .unset] [])) _
    refine XS.iconst X0.here hx rfl (hb hby at_0) ?_
    show Steps p.tables e below (s₁.setTop (mkF m 1 #[.val (.int p1), .val (.int p2), .val (.int p3), .val (.int p4), .val (.int p5), .val (.int p6), .unset, .unset, .unset, .unset] [(.int (1 : Int32))])) _
    refine XS.iload X0.here hx rfl (hb hby at_1) rfl ?_
    show Steps p.tables e below (s₁.setTop (mkF m 3 #[.val (.int p1), .val (.int p2), .val (.int p3), .val (.int p4), .val (.int p5), .val (.int p6), .unset, .unset, .unset, .unset] [(.int p5), (.int (1 : Int32))])) _
    refine X0.ldcInt hx hown (mvT hZ (hw _ (List.mem_of_getElem? (i := 0) rfl))) (g := (mkF m 3 #[.val (.int p1), .val (.int p2), .val (.int p3), .val (.int p4), .val (.int p5), .val (.int p6), .unset, .unset, .unset, .unset] [(.int p5), (.int (1 : Int32))])) rfl (hb hby at_3) _ ?_
    show Steps p.tables e below (s₁.setTop (mkF m 5 #[.val (.int p1), .val (.int p2), .val (.int p3), .val (.int p4), .val (.int p5), .val (.int p6), .unset, .unset, .unset, .unset] [(.int (2147483647 : Int32)), (.int p5), (.int (1 : Int32))])) _
    refine XS.iand X0.here hx rfl (hb hby at_5) rfl ?_
    show Steps p.tables e below (s₁.setTop (mkF m 6 #[.val (.int p1), .val (.int p2), .val (.int p3), .val (.int p4), .val (.int p5), .val (.int p6), .unset, .unset, .unset, .unset] [(.int (p5 &&& (2147483647 : Int32))), (.int (1 : Int32))])) _
    refine XS.bipush X0.here hx rfl (hb hby at_6) ?_
    show Steps p.tables e below (s₁.setTop (mkF m 8 #[.val (.int p1), .val (.int p2), .val (.int p3), .val (.int p4), .val (.int p5), .val (.int p6), .unset, .unset, .unset, .unset] [(.int (6 : Int32)), (.int (p5 &&& (2147483647 : Int32))), (.int (1 : Int32))])) _
    refine iremM (g := (mkF m 8 #[.val (.int p1), .val (.int p2), .val (.int p3), .val (.int p4), .val (.int p5), .val (.int p6), .unset, .unset, .unset, .unset] [(.int (6 : Int32)), (.int (p5 &&& (2147483647 : Int32))), (.int (1 : Int32))])) X0 hx rfl (hb hby at_8) rfl (by decide) ?_
    show Steps p.tables e below (s₁.setTop (mkF m 9 #[.val (.int p1), .val (.int p2), .val (.int p3), .val (.int p4), .val (.int p5), .val (.int p6), .unset, .unset, .unset, .unset] [(.int ((p5 &&& (2147483647 : Int32)) % (6 : Int32))), (.int (1 : Int32))])) _
    refine XS.iadd X0.here hx rfl (hb hby at_9) rfl ?_
    show Steps p.tables e below (s₁.setTop (mkF m 10 #[.val (.int p1), .val (.int p2), .val (.int p3), .val (.int p4), .val (.int p5), .val (.int p6), .unset, .unset, .unset, .unset] [(.int ((1 : Int32) + ((p5 &&& (2147483647 : Int32)) % (6 : Int32))))])) _
    refine XS.istore X0.here hx rfl (hb hby at_10) rfl (l' := #[.val (.int p1), .val (.int p2), .val (.int p3), .val (.int p4), .val (.int p5), .val (.int p6), .val (.int ((1 : Int32) + ((p5 &&& (2147483647 : Int32)) % (6 : Int32)))), .unset, .unset, .unset]) rfl ?_
    show Steps p.tables e below (s₁.setTop (mkF m 12 #[.val (.int p1), .val (.int p2), .val (.int p3), .val (.int p4), .val (.int p5), .val (.int p6), .val (.int ((1 : Int32) + ((p5 &&& (2147483647 : Int32)) % (6 : Int32)))), .unset, .unset, .unset] [])) _
    refine XS.iload X0.here hx rfl (hb hby at_12) rfl ?_
    show Steps p.tables e below (s₁.setTop (mkF m 14 #[.val (.int p1), .val (.int p2), .val (.int p3), .val (.int p4), .val (.int p5), .val (.int p6), .val (.int ((1 : Int32) + ((p5 &&& (2147483647 : Int32)) % (6 : Int32)))), .unset, .unset, .unset] [(.int p6)])) _
    refine X0.ldcInt hx hown (mvT hZ (hw _ (List.mem_of_getElem? (i := 0) rfl))) (g := (mkF m 14 #[.val (.int p1), .val (.int p2), .val (.int p3), .val (.int p4), .val (.int p5), .val (.int p6), .val (.int ((1 : Int32) + ((p5 &&& (2147483647 : Int32)) % (6 : Int32)))), .unset, .unset, .unset] [(.int p6)])) rfl (hb hby at_14) _ ?_
    show Steps p.tables e below (s₁.setTop (mkF m 16 #[.val (.int p1), .val (.int p2), .val (.int p3), .val (.int p4), .val (.int p5), .val (.int p6), .val (.int ((1 : Int32) + ((p5 &&& (2147483647 : Int32)) % (6 : Int32)))), .unset, .unset, .unset] [(.int (2147483647 : Int32)), (.int p6)])) _
    refine XS.iand X0.here hx rfl (hb hby at_16) rfl ?_
    show Steps p.tables e below (s₁.setTop (mkF m 17 #[.val (.int p1), .val (.int p2), .val (.int p3), .val (.int p4), .val (.int p5), .val (.int p6), .val (.int ((1 : Int32) + ((p5 &&& (2147483647 : Int32)) % (6 : Int32)))), .unset, .unset, .unset] [(.int (p6 &&& (2147483647 : Int32)))])) _
    refine XS.iload X0.here hx rfl (hb hby at_17) rfl ?_
    show Steps p.tables e below (s₁.setTop (mkF m 19 #[.val (.int p1), .val (.int p2), .val (.int p3), .val (.int p4), .val (.int p5), .val (.int p6), .val (.int ((1 : Int32) + ((p5 &&& (2147483647 : Int32)) % (6 : Int32)))), .unset, .unset, .unset] [(.int ((1 : Int32) + ((p5 &&& (2147483647 : Int32)) % (6 : Int32)))), (.int (p6 &&& (2147483647 : Int32)))])) _
    refine iremM (g := (mkF m 19 #[.val (.int p1), .val (.int p2), .val (.int p3), .val (.int p4), .val (.int p5), .val (.int p6), .val (.int ((1 : Int32) + ((p5 &&& (2147483647 : Int32)) % (6 : Int32)))), .unset, .unset, .unset] [(.int ((1 : Int32) + ((p5 &&& (2147483647 : Int32)) % (6 : Int32)))), (.int (p6 &&& (2147483647 : Int32)))])) X0 hx rfl (hb hby at_19) rfl hnz19 ?_
    show Steps p.tables e below (s₁.setTop (mkF m 20 #[.val (.int p1), .val (.int p2), .val (.int p3), .val (.int p4), .val (.int p5), .val (.int p6), .val (.int ((1 : Int32) + ((p5 &&& (2147483647 : Int32)) % (6 : Int32)))), .unset, .unset, .unset] [(.int ((p6 &&& (2147483647 : Int32)) % ((1 : Int32) + ((p5 &&& (2147483647 : Int32)) % (6 : Int32)))))])) _
    refine XS.istore X0.here hx rfl (hb hby at_20) rfl (l' := #[.val (.int p1), .val (.int p2), .val (.int p3), .val (.int p4), .val (.int p5), .val (.int p6), .val (.int ((1 : Int32) + ((p5 &&& (2147483647 : Int32)) % (6 : Int32)))), .val (.int ((p6 &&& (2147483647 : Int32)) % ((1 : Int32) + ((p5 &&& (2147483647 : Int32)) % (6 : Int32))))), .unset, .unset]) rfl ?_
    show Steps p.tables e below (s₁.setTop (mkF m 22 #[.val (.int p1), .val (.int p2), .val (.int p3), .val (.int p4), .val (.int p5), .val (.int p6), .val (.int ((1 : Int32) + ((p5 &&& (2147483647 : Int32)) % (6 : Int32)))), .val (.int ((p6 &&& (2147483647 : Int32)) % ((1 : Int32) + ((p5 &&& (2147483647 : Int32)) % (6 : Int32))))), .unset, .unset] [])) _
    refine st7 _ ?_
    show Steps p.tables e below (T7.setTop (mkF m 25 #[.val (.int p1), .val (.int p2), .val (.int p3), .val (.int p4), .val (.int p5), .val (.int p6), .val (.int ((1 : Int32) + ((p5 &&& (2147483647 : Int32)) % (6 : Int32)))), .val (.int ((p6 &&& (2147483647 : Int32)) % ((1 : Int32) + ((p5 &&& (2147483647 : Int32)) % (6 : Int32))))), .unset, .unset] [(.ref b7)])) _
    refine XS.dup X7.here hx rfl (hb hby at_25) rfl rfl ?_
    show Steps p.tables e below (T7.setTop (mkF m 26 #[.val (.int p1), .val (.int p2), .val (.int p3), .val (.int p4), .val (.int p5), .val (.int p6), .val (.int ((1 : Int32) + ((p5 &&& (2147483647 : Int32)) % (6 : Int32)))), .val (.int ((p6 &&& (2147483647 : Int32)) % ((1 : Int32) + ((p5 &&& (2147483647 : Int32)) % (6 : Int32))))), .unset, .unset] [(.ref b7), (.ref b7)])) _
    refine st8.trans ?_
    show Steps p.tables e below (T8.setTop (mkF m 29 #[.val (.int p1), .val (.int p2), .val (.int p3), .val (.int p4), .val (.int p5), .val (.int p6), .val (.int ((1 : Int32) + ((p5 &&& (2147483647 : Int32)) % (6 : Int32)))), .val (.int ((p6 &&& (2147483647 : Int32)) % ((1 : Int32) + ((p5 &&& (2147483647 : Int32)) % (6 : Int32))))), .unset, .unset] [(.ref b7)])) _
    refine XS.astore X8.here hx rfl (hb hby at_29) rfl rfl (l' := #[.val (.int p1), .val (.int p2), .val (.int p3), .val (.int p4), .val (.int p5), .val (.int p6), .val (.int ((1 : Int32) + ((p5 &&& (2147483647 : Int32)) % (6 : Int32)))), .val (.int ((p6 &&& (2147483647 : Int32)) % ((1 : Int32) + ((p5 &&& (2147483647 : Int32)) % (6 : Int32))))), .val (.ref b7), .unset]) rfl ?_
    show Steps p.tables e below (T8.setTop (mkF m 31 #[.val (.int p1), .val (.int p2), .val (.int p3), .val (.int p4), .val (.int p5), .val (.int p6), .val (.int ((1 : Int32) + ((p5 &&& (2147483647 : Int32)) % (6 : Int32)))), .val (.int ((p6 &&& (2147483647 : Int32)) % ((1 : Int32) + ((p5 &&& (2147483647 : Int32)) % (6 : Int32))))), .val (.ref b7), .unset] [])) _
    refine XS.aload X8.here hx rfl (hb hby at_31) rfl rfl ?_
    show Steps p.tables e below (T8.setTop (mkF m 33 #[.val (.int p1), .val (.int p2), .val (.int p3), .val (.int p4), .val (.int p5), .val (.int p6), .val (.int ((1 : Int32) + ((p5 &&& (2147483647 : Int32)) % (6 : Int32)))), .val (.int ((p6 &&& (2147483647 : Int32)) % ((1 : Int32) + ((p5 &&& (2147483647 : Int32)) % (6 : Int32))))), .val (.ref b7), .unset] [(.ref b7)])) _
    refine XS.iloadN X8.here hx rfl (hb hby at_33) rfl ?_
    show Steps p.tables e below (T8.setTop (mkF m 34 #[.val (.int p1), .val (.int p2), .val (.int p3), .val (.int p4), .val (.int p5), .val (.int p6), .val (.int ((1 : Int32) + ((p5 &&& (2147483647 : Int32)) % (6 : Int32)))), .val (.int ((p6 &&& (2147483647 : Int32)) % ((1 : Int32) + ((p5 &&& (2147483647 : Int32)) % (6 : Int32))))), .val (.ref b7), .unset] [(.int p1), (.ref b7)])) _
    refine st9.trans ?_
    show Steps p.tables e below (T9.setTop (mkF m 37 #[.val (.int p1), .val (.int p2), .val (.int p3), .val (.int p4), .val (.int p5), .val (.int p6), .val (.int ((1 : Int32) + ((p5 &&& (2147483647 : Int32)) % (6 : Int32)))), .val (.int ((p6 &&& (2147483647 : Int32)) % ((1 : Int32) + ((p5 &&& (2147483647 : Int32)) % (6 : Int32))))), .val (.ref b7), .unset] [])) _
    refine XS.iload X9.here hx rfl (hb hby at_37) rfl ?_
    show Steps p.tables e below (T9.setTop (mkF m 39 #[.val (.int p1), .val (.int p2), .val (.int p3), .val (.int p4), .val (.int p5), .val (.int p6), .val (.int ((1 : Int32) + ((p5 &&& (2147483647 : Int32)) % (6 : Int32)))), .val (.int ((p6 &&& (2147483647 : Int32)) % ((1 : Int32) + ((p5 &&& (2147483647 : Int32)) % (6 : Int32))))), .val (.ref b7), .unset] [(.int ((1 : Int32) + ((p5 &&& (2147483647 : Int32)) % (6 : Int32))))])) _
    refine XS.iconst X9.here hx rfl (hb hby at_39) ?_
    show Steps p.tables e below (T9.setTop (mkF m 40 #[.val (.int p1), .val (.int p2), .val (.int p3), .val (.int p4), .val (.int p5), .val (.int p6), .val (.int ((1 : Int32) + ((p5 &&& (2147483647 : Int32)) % (6 : Int32)))), .val (.int ((p6 &&& (2147483647 : Int32)) % ((1 : Int32) + ((p5 &&& (2147483647 : Int32)) % (6 : Int32))))), .val (.ref b7), .unset] [(.int (1 : Int32)), (.int ((1 : Int32) + ((p5 &&& (2147483647 : Int32)) % (6 : Int32))))])) _
    refine XS.icmpNo X9.here hx rfl (hb hby at_40) rfl (tlt hc40).2.2.2 ?_
    show Steps p.tables e below (T9.setTop (mkF m 43 #[.val (.int p1), .val (.int p2), .val (.int p3), .val (.int p4), .val (.int p5), .val (.int p6), .val (.int ((1 : Int32) + ((p5 &&& (2147483647 : Int32)) % (6 : Int32)))), .val (.int ((p6 &&& (2147483647 : Int32)) % ((1 : Int32) + ((p5 &&& (2147483647 : Int32)) % (6 : Int32))))), .val (.ref b7), .unset] [])) _
    refine XS.aload X9.here hx rfl (hb hby at_43) rfl rfl ?_
    show Steps p.tables e below (T9.setTop (mkF m 45 #[.val (.int p1), .val (.int p2), .val (.int p3), .val (.int p4), .val (.int p5), .val (.int p6), .val (.int ((1 : Int32) + ((p5 &&& (2147483647 : Int32)) % (6 : Int32)))), .val (.int ((p6 &&& (2147483647 : Int32)) % ((1 : Int32) + ((p5 &&& (2147483647 : Int32)) % (6 : Int32))))), .val (.ref b7), .unset] [(.ref b7)])) _
    refine XS.iloadN X9.here hx rfl (hb hby at_45) rfl ?_
    show Steps p.tables e below (T9.setTop (mkF m 46 #[.val (.int p1), .val (.int p2), .val (.int p3), .val (.int p4), .val (.int p5), .val (.int p6), .val (.int ((1 : Int32) + ((p5 &&& (2147483647 : Int32)) % (6 : Int32)))), .val (.int ((p6 &&& (2147483647 : Int32)) % ((1 : Int32) + ((p5 &&& (2147483647 : Int32)) % (6 : Int32))))), .val (.ref b7), .unset] [(.int p2), (.ref b7)])) _
    refine st10.trans ?_
    show Steps p.tables e below (T10.setTop (mkF m 49 #[.val (.int p1), .val (.int p2), .val (.int p3), .val (.int p4), .val (.int p5), .val (.int p6), .val (.int ((1 : Int32) + ((p5 &&& (2147483647 : Int32)) % (6 : Int32)))), .val (.int ((p6 &&& (2147483647 : Int32)) % ((1 : Int32) + ((p5 &&& (2147483647 : Int32)) % (6 : Int32))))), .val (.ref b7), .unset] [])) _
    refine XS.iload X10.here hx rfl (hb hby at_49) rfl ?_
    show Steps p.tables e below (T10.setTop (mkF m 51 #[.val (.int p1), .val (.int p2), .val (.int p3), .val (.int p4), .val (.int p5), .val (.int p6), .val (.int ((1 : Int32) + ((p5 &&& (2147483647 : Int32)) % (6 : Int32)))), .val (.int ((p6 &&& (2147483647 : Int32)) % ((1 : Int32) + ((p5 &&& (2147483647 : Int32)) % (6 : Int32))))), .val (.ref b7), .unset] [(.int ((1 : Int32) + ((p5 &&& (2147483647 : Int32)) % (6 : Int32))))])) _
    refine XS.iconst X10.here hx rfl (hb hby at_51) ?_
    show Steps p.tables e below (T10.setTop (mkF m 52 #[.val (.int p1), .val (.int p2), .val (.int p3), .val (.int p4), .val (.int p5), .val (.int p6), .val (.int ((1 : Int32) + ((p5 &&& (2147483647 : Int32)) % (6 : Int32)))), .val (.int ((p6 &&& (2147483647 : Int32)) % ((1 : Int32) + ((p5 &&& (2147483647 : Int32)) % (6 : Int32))))), .val (.ref b7), .unset] [(.int (2 : Int32)), (.int ((1 : Int32) + ((p5 &&& (2147483647 : Int32)) % (6 : Int32))))])) _
    refine XS.icmpNo X10.here hx rfl (hb hby at_52) rfl (tlt hc52).2.2.2 ?_
    show Steps p.tables e below (T10.setTop (mkF m 55 #[.val (.int p1), .val (.int p2), .val (.int p3), .val (.int p4), .val (.int p5), .val (.int p6), .val (.int ((1 : Int32) + ((p5 &&& (2147483647 : Int32)) % (6 : Int32)))), .val (.int ((p6 &&& (2147483647 : Int32)) % ((1 : Int32) + ((p5 &&& (2147483647 : Int32)) % (6 : Int32))))), .val (.ref b7), .unset] [])) _
    refine XS.aload X10.here hx rfl (hb hby at_55) rfl rfl ?_
    show Steps p.tables e below (T10.setTop (mkF m 57 #[.val (.int p1), .val (.int p2), .val (.int p3), .val (.int p4), .val (.int p5), .val (.int p6), .val (.int ((1 : Int32) + ((p5 &&& (2147483647 : Int32)) % (6 : Int32)))), .val (.int ((p6 &&& (2147483647 : Int32)) % ((1 : Int32) + ((p5 &&& (2147483647 : Int32)) % (6 : Int32))))), .val (.ref b7), .unset] [(.ref b7)])) _
    refine XS.iloadN X10.here hx rfl (hb hby at_57) rfl ?_
    show Steps p.tables e below (T10.setTop (mkF m 58 #[.val (.int p1), .val (.int p2), .val (.int p3), .val (.int p4), .val (.int p5), .val (.int p6), .val (.int ((1 : Int32) + ((p5 &&& (2147483647 : Int32)) % (6 : Int32)))), .val (.int ((p6 &&& (2147483647 : Int32)) % ((1 : Int32) + ((p5 &&& (2147483647 : Int32)) % (6 : Int32))))), .val (.ref b7), .unset] [(.int p3), (.ref b7)])) _
    refine st11.trans ?_
    show Steps p.tables e below (T11.setTop (mkF m 61 #[.val (.int p1), .val (.int p2), .val (.int p3), .val (.int p4), .val (.int p5), .val (.int p6), .val (.int ((1 : Int32) + ((p5 &&& (2147483647 : Int32)) % (6 : Int32)))), .val (.int ((p6 &&& (2147483647 : Int32)) % ((1 : Int32) + ((p5 &&& (2147483647 : Int32)) % (6 : Int32))))), .val (.ref b7), .unset] [])) _
    refine XS.iload X11.here hx rfl (hb hby at_61) rfl ?_
    show Steps p.tables e below (T11.setTop (mkF m 63 #[.val (.int p1), .val (.int p2), .val (.int p3), .val (.int p4), .val (.int p5), .val (.int p6), .val (.int ((1 : Int32) + ((p5 &&& (2147483647 : Int32)) % (6 : Int32)))), .val (.int ((p6 &&& (2147483647 : Int32)) % ((1 : Int32) + ((p5 &&& (2147483647 : Int32)) % (6 : Int32))))), .val (.ref b7), .unset] [(.int ((1 : Int32) + ((p5 &&& (2147483647 : Int32)) % (6 : Int32))))])) _
    refine XS.iconst X11.here hx rfl (hb hby at_63) ?_
    show Steps p.tables e below (T11.setTop (mkF m 64 #[.val (.int p1), .val (.int p2), .val (.int p3), .val (.int p4), .val (.int p5), .val (.int p6), .val (.int ((1 : Int32) + ((p5 &&& (2147483647 : Int32)) % (6 : Int32)))), .val (.int ((p6 &&& (2147483647 : Int32)) % ((1 : Int32) + ((p5 &&& (2147483647 : Int32)) % (6 : Int32))))), .val (.ref b7), .unset] [(.int (3 : Int32)), (.int ((1 : Int32) + ((p5 &&& (2147483647 : Int32)) % (6 : Int32))))])) _
    refine XS.icmpNo X11.here hx rfl (hb hby at_64) rfl (tlt hc64).2.2.2 ?_
    show Steps p.tables e below (T11.setTop (mkF m 67 #[.val (.int p1), .val (.int p2), .val (.int p3), .val (.int p4), .val (.int p5), .val (.int p6), .val (.int ((1 : Int32) + ((p5 &&& (2147483647 : Int32)) % (6 : Int32)))), .val (.int ((p6 &&& (2147483647 : Int32)) % ((1 : Int32) + ((p5 &&& (2147483647 : Int32)) % (6 : Int32))))), .val (.ref b7), .unset] [])) _
    refine XS.aload X11.here hx rfl (hb hby at_67) rfl rfl ?_
    show Steps p.tables e below (T11.setTop (mkF m 69 #[.val (.int p1), .val (.int p2), .val (.int p3), .val (.int p4), .val (.int p5), .val (.int p6), .val (.int ((1 : Int32) + ((p5 &&& (2147483647 : Int32)) % (6 : Int32)))), .val (.int ((p6 &&& (2147483647 : Int32)) % ((1 : Int32) + ((p5 &&& (2147483647 : Int32)) % (6 : Int32))))), .val (.ref b7), .unset] [(.ref b7)])) _
    refine XS.iloadN X11.here hx rfl (hb hby at_69) rfl ?_
    show Steps p.tables e below (T11.setTop (mkF m 70 #[.val (.int p1), .val (.int p2), .val (.int p3), .val (.int p4), .val (.int p5), .val (.int p6), .val (.int ((1 : Int32) + ((p5 &&& (2147483647 : Int32)) % (6 : Int32)))), .val (.int ((p6 &&& (2147483647 : Int32)) % ((1 : Int32) + ((p5 &&& (2147483647 : Int32)) % (6 : Int32))))), .val (.ref b7), .unset] [(.int p4), (.ref b7)])) _
    refine st12.trans ?_
    show Steps p.tables e below (T12.setTop (mkF m 73 #[.val (.int p1), .val (.int p2), .val (.int p3), .val (.int p4), .val (.int p5), .val (.int p6), .val (.int ((1 : Int32) + ((p5 &&& (2147483647 : Int32)) % (6 : Int32)))), .val (.int ((p6 &&& (2147483647 : Int32)) % ((1 : Int32) + ((p5 &&& (2147483647 : Int32)) % (6 : Int32))))), .val (.ref b7), .unset] [])) _
    refine XS.iload X12.here hx rfl (hb hby at_73) rfl ?_
    show Steps p.tables e below (T12.setTop (mkF m 75 #[.val (.int p1), .val (.int p2), .val (.int p3), .val (.int p4), .val (.int p5), .val (.int p6), .val (.int ((1 : Int32) + ((p5 &&& (2147483647 : Int32)) % (6 : Int32)))), .val (.int ((p6 &&& (2147483647 : Int32)) % ((1 : Int32) + ((p5 &&& (2147483647 : Int32)) % (6 : Int32))))), .val (.ref b7), .unset] [(.int ((1 : Int32) + ((p5 &&& (2147483647 : Int32)) % (6 : Int32))))])) _
    refine XS.iconst X12.here hx rfl (hb hby at_75) ?_
    show Steps p.tables e below (T12.setTop (mkF m 76 #[.val (.int p1), .val (.int p2), .val (.int p3), .val (.int p4), .val (.int p5), .val (.int p6), .val (.int ((1 : Int32) + ((p5 &&& (2147483647 : Int32)) % (6 : Int32)))), .val (.int ((p6 &&& (2147483647 : Int32)) % ((1 : Int32) + ((p5 &&& (2147483647 : Int32)) % (6 : Int32))))), .val (.ref b7), .unset] [(.int (4 : Int32)), (.int ((1 : Int32) + ((p5 &&& (2147483647 : Int32)) % (6 : Int32))))])) _
    refine XS.icmpNo X12.here hx rfl (hb hby at_76) rfl (tlt hc76).2.2.2 ?_
    show Steps p.tables e below (T12.setTop (mkF m 79 #[.val (.int p1), .val (.int p2), .val (.int p3), .val (.int p4), .val (.int p5), .val (.int p6), .val (.int ((1 : Int32) + ((p5 &&& (2147483647 : Int32)) % (6 : Int32)))), .val (.int ((p6 &&& (2147483647 : Int32)) % ((1 : Int32) + ((p5 &&& (2147483647 : Int32)) % (6 : Int32))))), .val (.ref b7), .unset] [])) _
    refine XS.aload X12.here hx rfl (hb hby at_79) rfl rfl ?_
    show Steps p.tables e below (T12.setTop (mkF m 81 #[.val (.int p1), .val (.int p2), .val (.int p3), .val (.int p4), .val (.int p5), .val (.int p6), .val (.int ((1 : Int32) + ((p5 &&& (2147483647 : Int32)) % (6 : Int32)))), .val (.int ((p6 &&& (2147483647 : Int32)) % ((1 : Int32) + ((p5 &&& (2147483647 : Int32)) % (6 : Int32))))), .val (.ref b7), .unset] [(.ref b7)])) _
    refine XS.iloadN X12.here hx rfl (hb hby at_81) rfl ?_
    show Steps p.tables e below (T12.setTop (mkF m 82 #[.val (.int p1), .val (.int p2), .val (.int p3), .val (.int p4), .val (.int p5), .val (.int p6), .val (.int ((1 : Int32) + ((p5 &&& (2147483647 : Int32)) % (6 : Int32)))), .val (.int ((p6 &&& (2147483647 : Int32)) % ((1 : Int32) + ((p5 &&& (2147483647 : Int32)) % (6 : Int32))))), .val (.ref b7), .unset] [(.int p1), (.ref b7)])) _
    refine XS.iconst X12.here hx rfl (hb hby at_82) ?_
    show Steps p.tables e below (T12.setTop (mkF m 83 #[.val (.int p1), .val (.int p2), .val (.int p3), .val (.int p4), .val (.int p5), .val (.int p6), .val (.int ((1 : Int32) + ((p5 &&& (2147483647 : Int32)) % (6 : Int32)))), .val (.int ((p6 &&& (2147483647 : Int32)) % ((1 : Int32) + ((p5 &&& (2147483647 : Int32)) % (6 : Int32))))), .val (.ref b7), .unset] [(.int (-1 : Int32)), (.int p1), (.ref b7)])) _
    refine XS.ixor X12.here hx rfl (hb hby at_83) rfl ?_
    show Steps p.tables e below (T12.setTop (mkF m 84 #[.val (.int p1), .val (.int p2), .val (.int p3), .val (.int p4), .val (.int p5), .val (.int p6), .val (.int ((1 : Int32) + ((p5 &&& (2147483647 : Int32)) % (6 : Int32)))), .val (.int ((p6 &&& (2147483647 : Int32)) % ((1 : Int32) + ((p5 &&& (2147483647 : Int32)) % (6 : Int32))))), .val (.ref b7), .unset] [(.int (p1 ^^^ (-1 : Int32))), (.ref b7)])) _
    refine st13.trans ?_
    show Steps p.tables e below (T13.setTop (mkF m 87 #[.val (.int p1), .val (.int p2), .val (.int p3), .val (.int p4), .val (.int p5), .val (.int p6), .val (.int ((1 : Int32) + ((p5 &&& (2147483647 : Int32)) % (6 : Int32)))), .val (.int ((p6 &&& (2147483647 : Int32)) % ((1 : Int32) + ((p5 &&& (2147483647 : Int32)) % (6 : Int32))))), .val (.ref b7), .unset] [])) _
    refine XS.iload X13.here hx rfl (hb hby at_87) rfl ?_
    show Steps p.tables e below (T13.setTop (mkF m 89 #[.val (.int p1), .val (.int p2), .val (.int p3), .val (.int p4), .val (.int p5), .val (.int p6), .val (.int ((1 : Int32) + ((p5 &&& (2147483647 : Int32)) % (6 : Int32)))), .val (.int ((p6 &&& (2147483647 : Int32)) % ((1 : Int32) + ((p5 &&& (2147483647 : Int32)) % (6 : Int32))))), .val (.ref b7), .unset] [(.int ((1 : Int32) + ((p5 &&& (2147483647 : Int32)) % (6 : Int32))))])) _
    refine XS.iconst X13.here hx rfl (hb hby at_89) ?_
    show Steps p.tables e below (T13.setTop (mkF m 90 #[.val (.int p1), .val (.int p2), .val (.int p3), .val (.int p4), .val (.int p5), .val (.int p6), .val (.int ((1 : Int32) + ((p5 &&& (2147483647 : Int32)) % (6 : Int32)))), .val (.int ((p6 &&& (2147483647 : Int32)) % ((1 : Int32) + ((p5 &&& (2147483647 : Int32)) % (6 : Int32))))), .val (.ref b7), .unset] [(.int (5 : Int32)), (.int ((1 : Int32) + ((p5 &&& (2147483647 : Int32)) % (6 : Int32))))])) _
    refine XS.icmpNo X13.here hx rfl (hb hby at_90) rfl (tlt hc90).2.2.2 ?_
    show Steps p.tables e below (T13.setTop (mkF m 93 #[.val (.int p1), .val (.int p2), .val (.int p3), .val (.int p4), .val (.int p5), .val (.int p6), .val (.int ((1 : Int32) + ((p5 &&& (2147483647 : Int32)) % (6 : Int32)))), .val (.int ((p6 &&& (2147483647 : Int32)) % ((1 : Int32) + ((p5 &&& (2147483647 : Int32)) % (6 : Int32))))), .val (.ref b7), .unset] [])) _
    refine XS.aload X13.here hx rfl (hb hby at_93) rfl rfl ?_
    show Steps p.tables e below (T13.setTop (mkF m 95 #[.val (.int p1), .val (.int p2), .val (.int p3), .val (.int p4), .val (.int p5), .val (.int p6), .val (.int ((1 : Int32) + ((p5 &&& (2147483647 : Int32)) % (6 : Int32)))), .val (.int ((p6 &&& (2147483647 : Int32)) % ((1 : Int32) + ((p5 &&& (2147483647 : Int32)) % (6 : Int32))))), .val (.ref b7), .unset] [(.ref b7)])) _
    refine XS.iloadN X13.here hx rfl (hb hby at_95) rfl ?_
    show Steps p.tables e below (T13.setTop (mkF m 96 #[.val (.int p1), .val (.int p2), .val (.int p3), .val (.int p4), .val (.int p5), .val (.int p6), .val (.int ((1 : Int32) + ((p5 &&& (2147483647 : Int32)) % (6 : Int32)))), .val (.int ((p6 &&& (2147483647 : Int32)) % ((1 : Int32) + ((p5 &&& (2147483647 : Int32)) % (6 : Int32))))), .val (.ref b7), .unset] [(.int p2), (.ref b7)])) _
    refine XS.iconst X13.here hx rfl (hb hby at_96) ?_
    show Steps p.tables e below (T13.setTop (mkF m 97 #[.val (.int p1), .val (.int p2), .val (.int p3), .val (.int p4), .val (.int p5), .val (.int p6), .val (.int ((1 : Int32) + ((p5 &&& (2147483647 : Int32)) % (6 : Int32)))), .val (.int ((p6 &&& (2147483647 : Int32)) % ((1 : Int32) + ((p5 &&& (2147483647 : Int32)) % (6 : Int32))))), .val (.ref b7), .unset] [(.int (-1 : Int32)), (.int p2), (.ref b7)])) _
    refine XS.ixor X13.here hx rfl (hb hby at_97) rfl ?_
    show Steps p.tables e below (T13.setTop (mkF m 98 #[.val (.int p1), .val (.int p2), .val (.int p3), .val (.int p4), .val (.int p5), .val (.int p6), .val (.int ((1 : Int32) + ((p5 &&& (2147483647 : Int32)) % (6 : Int32)))), .val (.int ((p6 &&& (2147483647 : Int32)) % ((1 : Int32) + ((p5 &&& (2147483647 : Int32)) % (6 : Int32))))), .val (.ref b7), .unset] [(.int (p2 ^^^ (-1 : Int32))), (.ref b7)])) _
    refine st14.trans ?_
    show Steps p.tables e below (T14.setTop (mkF m 101 #[.val (.int p1), .val (.int p2), .val (.int p3), .val (.int p4), .val (.int p5), .val (.int p6), .val (.int ((1 : Int32) + ((p5 &&& (2147483647 : Int32)) % (6 : Int32)))), .val (.int ((p6 &&& (2147483647 : Int32)) % ((1 : Int32) + ((p5 &&& (2147483647 : Int32)) % (6 : Int32))))), .val (.ref b7), .unset] [])) _
    refine st15 _ ?_
    show Steps p.tables e below (T15.setTop (mkF m 167 #[.val (.int p1), .val (.int p2), .val (.int p3), .val (.int p4), .val (.int p5), .val (.int p6), .val (.int ((1 : Int32) + ((p5 &&& (2147483647 : Int32)) % (6 : Int32)))), .val (.int ((p6 &&& (2147483647 : Int32)) % ((1 : Int32) + ((p5 &&& (2147483647 : Int32)) % (6 : Int32))))), .val (.ref b7), .val (.int ex)] [])) _
    refine XS.aload X15.here hx rfl (hb hby at_167) rfl rfl ?_
    show Steps p.tables e below (T15.setTop (mkF m 169 #[.val (.int p1), .val (.int p2), .val (.int p3), .val (.int p4), .val (.int p5), .val (.int p6), .val (.int ((1 : Int32) + ((p5 &&& (2147483647 : Int32)) % (6 : Int32)))), .val (.int ((p6 &&& (2147483647 : Int32)) % ((1 : Int32) + ((p5 &&& (2147483647 : Int32)) % (6 : Int32))))), .val (.ref b7), .val (.int ex)] [(.ref b7)])) _
    refine XS.iload X15.here hx rfl (hb hby at_169) rfl ?_
    show Steps p.tables e below (T15.setTop (mkF m 171 #[.val (.int p1), .val (.int p2), .val (.int p3), .val (.int p4), .val (.int p5), .val (.int p6), .val (.int ((1 : Int32) + ((p5 &&& (2147483647 : Int32)) % (6 : Int32)))), .val (.int ((p6 &&& (2147483647 : Int32)) % ((1 : Int32) + ((p5 &&& (2147483647 : Int32)) % (6 : Int32))))), .val (.ref b7), .val (.int ex)] [(.int ((p6 &&& (2147483647 : Int32)) % ((1 : Int32) + ((p5 &&& (2147483647 : Int32)) % (6 : Int32))))), (.ref b7)])) _
    refine st16.trans ?_
    show Steps p.tables e below (T16.setTop (mkF m 174 #[.val (.int p1), .val (.int p2), .val (.int p3), .val (.int p4), .val (.int p5), .val (.int p6), .val (.int ((1 : Int32) + ((p5 &&& (2147483647 : Int32)) % (6 : Int32)))), .val (.int ((p6 &&& (2147483647 : Int32)) % ((1 : Int32) + ((p5 &&& (2147483647 : Int32)) % (6 : Int32))))), .val (.ref b7), .val (.int ex)] [(.int ex)])) _
    refine XS.iload X16.here hx rfl (hb hby at_174) rfl ?_
    show Steps p.tables e below (T16.setTop (mkF m 176 #[.val (.int p1), .val (.int p2), .val (.int p3), .val (.int p4), .val (.int p5), .val (.int p6), .val (.int ((1 : Int32) + ((p5 &&& (2147483647 : Int32)) % (6 : Int32)))), .val (.int ((p6 &&& (2147483647 : Int32)) % ((1 : Int32) + ((p5 &&& (2147483647 : Int32)) % (6 : Int32))))), .val (.ref b7), .val (.int ex)] [(.int ex), (.int ex)])) _
    refine XS.icmpNo X16.here hx rfl (hb hby at_176) rfl (teq (rfl : ex = ex)).2 ?_
    show Steps p.tables e below (T16.setTop (mkF m 179 #[.val (.int p1), .val (.int p2), .val (.int p3), .val (.int p4), .val (.int p5), .val (.int p6), .val (.int ((1 : Int32) + ((p5 &&& (2147483647 : Int32)) % (6 : Int32)))), .val (.int ((p6 &&& (2147483647 : Int32)) % ((1 : Int32) + ((p5 &&& (2147483647 : Int32)) % (6 : Int32))))), .val (.ref b7), .val (.int ex)] [])) _
    refine XS.iconst X16.here hx rfl (hb hby at_179) ?_
    show Steps p.tables e below (T16.setTop (mkF m 180 #[.val (.int p1), .val (.int p2), .val (.int p3), .val (.int p4), .val (.int p5), .val (.int p6), .val (.int ((1 : Int32) + ((p5 &&& (2147483647 : Int32)) % (6 : Int32)))), .val (.int ((p6 &&& (2147483647 : Int32)) % ((1 : Int32) + ((p5 &&& (2147483647 : Int32)) % (6 : Int32))))), .val (.ref b7), .val (.int ex)] [(.int (1 : Int32))])) _
    refine XS.goto X16.here hx rfl (pc0 := 180) (pc' := 184) rfl (hb hby at_180) (by decide) (by decide) ?_
    show Steps p.tables e below (T16.setTop (mkF m 184 #[.val (.int p1), .val (.int p2), .val (.int p3), .val (.int p4), .val (.int p5), .val (.int p6), .val (.int ((1 : Int32) + ((p5 &&& (2147483647 : Int32)) % (6 : Int32)))), .val (.int ((p6 &&& (2147483647 : Int32)) % ((1 : Int32) + ((p5 &&& (2147483647 : Int32)) % (6 : Int32))))), .val (.ref b7), .val (.int ex)] [(.int (1 : Int32))])) _
    exact retN X16 hx (t := .boolean) Bd.returns (by simp) (hb hby at_184) hr
  · show Qlaw0 n0 _ T16.heap _
    rw [e16q]
    exact ⟨rfl, N16⟩
theorem own_mod (x d : Int32) (n : Int) (hd : d.toInt = n) (hn : 0 < n) : 0 ≤ ((x &&& (2147483647 : Int32)) % d).toInt ∧ ((x &&& (2147483647 : Int32)) % d).toInt < n := by
  have h1 := c_and x 2147483647 (by decide)
  have h2 := (c_irem (x &&& 2147483647) d n hd).1 h1.1
  rw [h2]
  exact ⟨Int.emod_nonneg _ (by omega), Int.emod_lt_of_pos _ hn⟩
theorem own_six (x : Int32) : (¬ ((x &&& (2147483647 : Int32)) % (6 : Int32)) < 0 ∧ ((x &&& (2147483647 : Int32)) % (6 : Int32)) < (6 : Int32)) ∧ (((x &&& (2147483647 : Int32)) % (6 : Int32)) = (0 : Int32) ∨ ((x &&& (2147483647 : Int32)) % (6 : Int32)) = (1 : Int32) ∨ ((x &&& (2147483647 : Int32)) % (6 : Int32)) = (2 : Int32) ∨ ((x &&& (2147483647 : Int32)) % (6 : Int32)) = (3 : Int32) ∨ ((x &&& (2147483647 : Int32)) % (6 : Int32)) = (4 : Int32) ∨ ((x &&& (2147483647 : Int32)) % (6 : Int32)) = (5 : Int32)) := by
  have h := own_mod x 6 6 (by decide) (by decide)
  generalize ((x &&& (2147483647 : Int32)) % (6 : Int32)) = j at h ⊢
  have z0 : (0 : Int32).toInt = 0 := by decide
  have zn : (6 : Int32).toInt = 6 := by decide
  refine ⟨⟨by rw [Int32.lt_iff_toInt_lt]; omega, by rw [Int32.lt_iff_toInt_lt]; omega⟩, ?_⟩
  have hc : j.toInt = 0 ∨ j.toInt = 1 ∨ j.toInt = 2 ∨ j.toInt = 3 ∨ j.toInt = 4 ∨ j.toInt = 5 := by omega
  rcases hc with c | c | c | c | c | c
  · exact Or.inl (Int32.toInt_inj.mp (c.trans (by decide)))
  · exact Or.inr (Or.inl (Int32.toInt_inj.mp (c.trans (by decide))))
  · exact Or.inr (Or.inr (Or.inl (Int32.toInt_inj.mp (c.trans (by decide)))))
  · exact Or.inr (Or.inr (Or.inr (Or.inl (Int32.toInt_inj.mp (c.trans (by decide))))))
  · exact Or.inr (Or.inr (Or.inr (Or.inr (Or.inl (Int32.toInt_inj.mp (c.trans (by decide)))))))
  · exact Or.inr (Or.inr (Or.inr (Or.inr (Or.inr ((Int32.toInt_inj.mp (c.trans (by decide))))))))
theorem own_k1 (x d : Int32) (hd : d.toInt = 1) : ((x &&& (2147483647 : Int32)) % d) = (0 : Int32) := by
  have h := own_mod x d 1 hd (by decide)
  generalize ((x &&& (2147483647 : Int32)) % d) = j at h ⊢
  have c : j.toInt = 0 := by omega
  exact Int32.toInt_inj.mp (c.trans (by decide))
theorem own_k2 (x d : Int32) (hd : d.toInt = 2) : ((x &&& (2147483647 : Int32)) % d) = (0 : Int32) ∨ ((x &&& (2147483647 : Int32)) % d) = (1 : Int32) := by
  have h := own_mod x d 2 hd (by decide)
  generalize ((x &&& (2147483647 : Int32)) % d) = j at h ⊢
  have hc : j.toInt = 0 ∨ j.toInt = 1 := by omega
  rcases hc with c | c
  · exact Or.inl (Int32.toInt_inj.mp (c.trans (by decide)))
  · exact Or.inr ((Int32.toInt_inj.mp (c.trans (by decide))))
theorem own_k3 (x d : Int32) (hd : d.toInt = 3) : ((x &&& (2147483647 : Int32)) % d) = (0 : Int32) ∨ ((x &&& (2147483647 : Int32)) % d) = (1 : Int32) ∨ ((x &&& (2147483647 : Int32)) % d) = (2 : Int32) := by
  have h := own_mod x d 3 hd (by decide)
  generalize ((x &&& (2147483647 : Int32)) % d) = j at h ⊢
  have hc : j.toInt = 0 ∨ j.toInt = 1 ∨ j.toInt = 2 := by omega
  rcases hc with c | c | c
  · exact Or.inl (Int32.toInt_inj.mp (c.trans (by decide)))
  · exact Or.inr (Or.inl (Int32.toInt_inj.mp (c.trans (by decide))))
  · exact Or.inr (Or.inr ((Int32.toInt_inj.mp (c.trans (by decide)))))
theorem own_k4 (x d : Int32) (hd : d.toInt = 4) : ((x &&& (2147483647 : Int32)) % d) = (0 : Int32) ∨ ((x &&& (2147483647 : Int32)) % d) = (1 : Int32) ∨ ((x &&& (2147483647 : Int32)) % d) = (2 : Int32) ∨ ((x &&& (2147483647 : Int32)) % d) = (3 : Int32) := by
  have h := own_mod x d 4 hd (by decide)
  generalize ((x &&& (2147483647 : Int32)) % d) = j at h ⊢
  have hc : j.toInt = 0 ∨ j.toInt = 1 ∨ j.toInt = 2 ∨ j.toInt = 3 := by omega
  rcases hc with c | c | c | c
  · exact Or.inl (Int32.toInt_inj.mp (c.trans (by decide)))
  · exact Or.inr (Or.inl (Int32.toInt_inj.mp (c.trans (by decide))))
  · exact Or.inr (Or.inr (Or.inl (Int32.toInt_inj.mp (c.trans (by decide)))))
  · exact Or.inr (Or.inr (Or.inr ((Int32.toInt_inj.mp (c.trans (by decide))))))
theorem own_k5 (x d : Int32) (hd : d.toInt = 5) : ((x &&& (2147483647 : Int32)) % d) = (0 : Int32) ∨ ((x &&& (2147483647 : Int32)) % d) = (1 : Int32) ∨ ((x &&& (2147483647 : Int32)) % d) = (2 : Int32) ∨ ((x &&& (2147483647 : Int32)) % d) = (3 : Int32) ∨ ((x &&& (2147483647 : Int32)) % d) = (4 : Int32) := by
  have h := own_mod x d 5 hd (by decide)
  generalize ((x &&& (2147483647 : Int32)) % d) = j at h ⊢
  have hc : j.toInt = 0 ∨ j.toInt = 1 ∨ j.toInt = 2 ∨ j.toInt = 3 ∨ j.toInt = 4 := by omega
  rcases hc with c | c | c | c | c
  · exact Or.inl (Int32.toInt_inj.mp (c.trans (by decide)))
  · exact Or.inr (Or.inl (Int32.toInt_inj.mp (c.trans (by decide))))
  · exact Or.inr (Or.inr (Or.inl (Int32.toInt_inj.mp (c.trans (by decide)))))
  · exact Or.inr (Or.inr (Or.inr (Or.inl (Int32.toInt_inj.mp (c.trans (by decide))))))
  · exact Or.inr (Or.inr (Or.inr (Or.inr ((Int32.toInt_inj.mp (c.trans (by decide)))))))
theorem own_k6 (x d : Int32) (hd : d.toInt = 6) : ((x &&& (2147483647 : Int32)) % d) = (0 : Int32) ∨ ((x &&& (2147483647 : Int32)) % d) = (1 : Int32) ∨ ((x &&& (2147483647 : Int32)) % d) = (2 : Int32) ∨ ((x &&& (2147483647 : Int32)) % d) = (3 : Int32) ∨ ((x &&& (2147483647 : Int32)) % d) = (4 : Int32) ∨ ((x &&& (2147483647 : Int32)) % d) = (5 : Int32) := by
  have h := own_mod x d 6 hd (by decide)
  generalize ((x &&& (2147483647 : Int32)) % d) = j at h ⊢
  have hc : j.toInt = 0 ∨ j.toInt = 1 ∨ j.toInt = 2 ∨ j.toInt = 3 ∨ j.toInt = 4 ∨ j.toInt = 5 := by omega
  rcases hc with c | c | c | c | c | c
  · exact Or.inl (Int32.toInt_inj.mp (c.trans (by decide)))
  · exact Or.inr (Or.inl (Int32.toInt_inj.mp (c.trans (by decide))))
  · exact Or.inr (Or.inr (Or.inl (Int32.toInt_inj.mp (c.trans (by decide)))))
  · exact Or.inr (Or.inr (Or.inr (Or.inl (Int32.toInt_inj.mp (c.trans (by decide))))))
  · exact Or.inr (Or.inr (Or.inr (Or.inr (Or.inl (Int32.toInt_inj.mp (c.trans (by decide)))))))
  · exact Or.inr (Or.inr (Or.inr (Or.inr (Or.inr ((Int32.toInt_inj.mp (c.trans (by decide))))))))
set_option maxRecDepth 65536 in
set_option maxHeartbeats 40000000 in
theorem comes_1 {Post : Tables → Env → Array Value → State → Outcome → State → Prop} (hpost : ∀ tb e args s v u, (limb_1_1.after args s (.returned v) u = true ∧ limb_1_2.after args s (.returned v) u = true ∧ True) → FrameEnd s (.returned v) u (Jvm.fieldLocs frame_1_writes args s ++ Jvm.arrayLocs frame_1_arrays args s ++ Jvm.staticLocs frame_1_statics s) 16 128 → Post tb e args s (.returned v) u) :
    ArmFor flags0 classFile x code maxLocals ret World_1 tables_1 room_1 Calls_1 rest_1 Pre_1 Post := by
  intro l hfl _ _ p e ha hc hk s m args below hf hA hF happ hP
  obtain ⟨hcalls, hrest, hpre⟩ := hP
  obtain ⟨-, -, -, hnamed, -, -, -, hat⟩ := (Spec.applies_iff hf).mp happ
  obtain ⟨hg, hn⟩ := and_e (Cond.before_iff.mp (show (Jvm.Cond.and given_1 narrow_1).before args s = true from hpre))
  obtain ⟨g17, g18⟩ := and_e hg
  obtain ⟨g19, g20⟩ := and_e g18
  obtain ⟨g21, g22⟩ := and_e g20
  obtain ⟨g23, g24⟩ := and_e g22
  obtain ⟨g25, g26⟩ := and_e g24
  obtain ⟨g27, g28⟩ := and_e g26
  obtain ⟨w0, w1, w2, w3, w4, w5, rfl⟩ : ∃ w0 w1 w2 w3 w4 w5 : Value, args = #[w0, w1, w2, w3, w4, w5] := by
    have hs : args.size = 6 := by simpa [Cond.value, given_1] using g17
    obtain ⟨L⟩ := args
    match L, hs with
    | [w0, w1, w2, w3, w4, w5], _ => exact ⟨w0, w1, w2, w3, w4, w5, rfl⟩
  have hw := fun d (hd : d ∈ tables_1) => atoms_spec (ws := Jvm.Cond.code x code maxLocals ret :: tables_1) hat d (List.mem_cons_of_mem _ hd)
  have hfit : Fit s := fun {y c} hc i hi => by
    obtain ⟨ha, rfl⟩ := Array.getElem?_eq_some_iff.mp hc
    have q := List.all_eq_true.mp ((Array.all_eq_true_iff_forall_mem.mp hF) _ (Array.getElem_mem ha)) i (List.mem_range.mpr hi)
    simpa [Array.getElem?_eq_getElem hi] using q
  obtain ⟨i0, ei0⟩ := is_v g19
  obtain rfl : w0 = (.int i0) := Option.some.inj ei0
  obtain ⟨i1, ei1⟩ := is_v g21
  obtain rfl : w1 = (.int i1) := Option.some.inj ei1
  obtain ⟨i2, ei2⟩ := is_v g23
  obtain rfl : w2 = (.int i2) := Option.some.inj ei2
  obtain ⟨i3, ei3⟩ := is_v g25
  obtain rfl : w3 = (.int i3) := Option.some.inj ei3
  obtain ⟨i4, ei4⟩ := is_v g27
  obtain rfl : w4 = (.int i4) := Option.some.inj ei4
  obtain ⟨i5, ei5⟩ := is_v g28
  obtain rfl : w5 = (.int i5) := Option.some.inj ei5
  obtain ⟨-, hcs⟩ := own_six i4
  rcases hcs with c | c | c | c | c | c
  · have hd : ((1 : Int32) + ((i4 &&& (2147483647 : Int32)) % (6 : Int32))).toInt = 1 := by rw [c]; decide
    have q := own_k1 i5 _ hd
    obtain ⟨n, o, h1, h2, h3, _, L, rfl, ⟨rfl, N⟩, hq⟩ := rm0_1 l s _ hw tables_1 i0 i1 i2 i3 i4 i5 i0 s.heap s.heap.size (Nat.le_refl _) (Or.inl ⟨q, rfl⟩) (by rw [q]; decide) (by rw [q]; decide) (by rw [q]; decide) (by rw [q, show ((0 : Int32) &&& (65535 : Int32)).toNatClampNeg = 0 from by decide]; rfl) (by rw [c]; decide) (by rw [c]; decide) (by rw [c]; decide) (by rw [c]; decide) (by rw [c]; decide) (by rw [c]; decide) p e ha hc hk s m _ below hf ((Spec.applies_iff_loose hf).mp happ).1 ⟨rfl, State.Warmed39.refl s, rfl⟩ trivial
    refine ⟨n, _, h1, h2, h3, hpost _ _ _ _ _ _ ⟨Cond.after_iff.mpr rfl, Cond.after_iff.mpr (eq_i res_at (Term.int_eval (1)) rfl), trivial⟩ ⟨hq.1, hq.2.1, (hq.2.2.sift fun y hy => Or.inr (N y hy)).mono (by decide) (by decide)⟩⟩
  · have hd : ((1 : Int32) + ((i4 &&& (2147483647 : Int32)) % (6 : Int32))).toInt = 2 := by rw [c]; decide
    rcases own_k2 i5 _ hd with q | q
    ·
      obtain ⟨n, o, h1, h2, h3, _, L, rfl, ⟨rfl, N⟩, hq⟩ := rm0_2 l s _ hw tables_1 i0 i1 i2 i3 i4 i5 i0 s.heap s.heap.size (Nat.le_refl _) (Or.inl ⟨q, rfl⟩) (by rw [q]; decide) (by rw [q]; decide) (by rw [q]; decide) (by rw [q, show ((0 : Int32) &&& (65535 : Int32)).toNatClampNeg = 0 from by decide]; rfl) (by rw [c]; decide) (by rw [c]; decide) (by rw [c]; decide) (by rw [c]; decide) (by rw [c]; decide) (by rw [c]; decide) p e ha hc hk s m _ below hf ((Spec.applies_iff_loose hf).mp happ).1 ⟨rfl, State.Warmed39.refl s, rfl⟩ trivial
      refine ⟨n, _, h1, h2, h3, hpost _ _ _ _ _ _ ⟨Cond.after_iff.mpr rfl, Cond.after_iff.mpr (eq_i res_at (Term.int_eval (1)) rfl), trivial⟩ ⟨hq.1, hq.2.1, (hq.2.2.sift fun y hy => Or.inr (N y hy)).mono (by decide) (by decide)⟩⟩
    ·
      obtain ⟨n, o, h1, h2, h3, _, L, rfl, ⟨rfl, N⟩, hq⟩ := rm0_2 l s _ hw tables_1 i0 i1 i2 i3 i4 i5 i1 s.heap s.heap.size (Nat.le_refl _) (Or.inr (Or.inl ⟨(by rw [q]; decide), q, rfl⟩)) (by rw [q]; decide) (by rw [q]; decide) (by rw [q]; decide) (by rw [q, show ((1 : Int32) &&& (65535 : Int32)).toNatClampNeg = 1 from by decide]; rfl) (by rw [c]; decide) (by rw [c]; decide) (by rw [c]; decide) (by rw [c]; decide) (by rw [c]; decide) (by rw [c]; decide) p e ha hc hk s m _ below hf ((Spec.applies_iff_loose hf).mp happ).1 ⟨rfl, State.Warmed39.refl s, rfl⟩ trivial
      refine ⟨n, _, h1, h2, h3, hpost _ _ _ _ _ _ ⟨Cond.after_iff.mpr rfl, Cond.after_iff.mpr (eq_i res_at (Term.int_eval (1)) rfl), trivial⟩ ⟨hq.1, hq.2.1, (hq.2.2.sift fun y hy => Or.inr (N y hy)).mono (by decide) (by decide)⟩⟩
  · have hd : ((1 : Int32) + ((i4 &&& (2147483647 : Int32)) % (6 : Int32))).toInt = 3 := by rw [c]; decide
    rcases own_k3 i5 _ hd with q | q | q
    ·
      obtain ⟨n, o, h1, h2, h3, _, L, rfl, ⟨rfl, N⟩, hq⟩ := rm0_3 l s _ hw tables_1 i0 i1 i2 i3 i4 i5 i0 s.heap s.heap.size (Nat.le_refl _) (Or.inl ⟨q, rfl⟩) (by rw [q]; decide) (by rw [q]; decide) (by rw [q]; decide) (by rw [q, show ((0 : Int32) &&& (65535 : Int32)).toNatClampNeg = 0 from by decide]; rfl) (by rw [c]; decide) (by rw [c]; decide) (by rw [c]; decide) (by rw [c]; decide) (by rw [c]; decide) (by rw [c]; decide) p e ha hc hk s m _ below hf ((Spec.applies_iff_loose hf).mp happ).1 ⟨rfl, State.Warmed39.refl s, rfl⟩ trivial
      refine ⟨n, _, h1, h2, h3, hpost _ _ _ _ _ _ ⟨Cond.after_iff.mpr rfl, Cond.after_iff.mpr (eq_i res_at (Term.int_eval (1)) rfl), trivial⟩ ⟨hq.1, hq.2.1, (hq.2.2.sift fun y hy => Or.inr (N y hy)).mono (by decide) (by decide)⟩⟩
    ·
      obtain ⟨n, o, h1, h2, h3, _, L, rfl, ⟨rfl, N⟩, hq⟩ := rm0_3 l s _ hw tables_1 i0 i1 i2 i3 i4 i5 i1 s.heap s.heap.size (Nat.le_refl _) (Or.inr (Or.inl ⟨(by rw [q]; decide), q, rfl⟩)) (by rw [q]; decide) (by rw [q]; decide) (by rw [q]; decide) (by rw [q, show ((1 : Int32) &&& (65535 : Int32)).toNatClampNeg = 1 from by decide]; rfl) (by rw [c]; decide) (by rw [c]; decide) (by rw [c]; decide) (by rw [c]; decide) (by rw [c]; decide) (by rw [c]; decide) p e ha hc hk s m _ below hf ((Spec.applies_iff_loose hf).mp happ).1 ⟨rfl, State.Warmed39.refl s, rfl⟩ trivial
      refine ⟨n, _, h1, h2, h3, hpost _ _ _ _ _ _ ⟨Cond.after_iff.mpr rfl, Cond.after_iff.mpr (eq_i res_at (Term.int_eval (1)) rfl), trivial⟩ ⟨hq.1, hq.2.1, (hq.2.2.sift fun y hy => Or.inr (N y hy)).mono (by decide) (by decide)⟩⟩
    ·
      obtain ⟨n, o, h1, h2, h3, _, L, rfl, ⟨rfl, N⟩, hq⟩ := rm0_3 l s _ hw tables_1 i0 i1 i2 i3 i4 i5 i2 s.heap s.heap.size (Nat.le_refl _) (Or.inr (Or.inr (Or.inl ⟨(by rw [q]; decide), (by rw [q]; decide), q, rfl⟩))) (by rw [q]; decide) (by rw [q]; decide) (by rw [q]; decide) (by rw [q, show ((2 : Int32) &&& (65535 : Int32)).toNatClampNeg = 2 from by decide]; rfl) (by rw [c]; decide) (by rw [c]; decide) (by rw [c]; decide) (by rw [c]; decide) (by rw [c]; decide) (by rw [c]; decide) p e ha hc hk s m _ below hf ((Spec.applies_iff_loose hf).mp happ).1 ⟨rfl, State.Warmed39.refl s, rfl⟩ trivial
      refine ⟨n, _, h1, h2, h3, hpost _ _ _ _ _ _ ⟨Cond.after_iff.mpr rfl, Cond.after_iff.mpr (eq_i res_at (Term.int_eval (1)) rfl), trivial⟩ ⟨hq.1, hq.2.1, (hq.2.2.sift fun y hy => Or.inr (N y hy)).mono (by decide) (by decide)⟩⟩
  · have hd : ((1 : Int32) + ((i4 &&& (2147483647 : Int32)) % (6 : Int32))).toInt = 4 := by rw [c]; decide
    rcases own_k4 i5 _ hd with q | q | q | q
    ·
      obtain ⟨n, o, h1, h2, h3, _, L, rfl, ⟨rfl, N⟩, hq⟩ := rm0_4 l s _ hw tables_1 i0 i1 i2 i3 i4 i5 i0 s.heap s.heap.size (Nat.le_refl _) (Or.inl ⟨q, rfl⟩) (by rw [q]; decide) (by rw [q]; decide) (by rw [q]; decide) (by rw [q, show ((0 : Int32) &&& (65535 : Int32)).toNatClampNeg = 0 from by decide]; rfl) (by rw [c]; decide) (by rw [c]; decide) (by rw [c]; decide) (by rw [c]; decide) (by rw [c]; decide) (by rw [c]; decide) p e ha hc hk s m _ below hf ((Spec.applies_iff_loose hf).mp happ).1 ⟨rfl, State.Warmed39.refl s, rfl⟩ trivial
      refine ⟨n, _, h1, h2, h3, hpost _ _ _ _ _ _ ⟨Cond.after_iff.mpr rfl, Cond.after_iff.mpr (eq_i res_at (Term.int_eval (1)) rfl), trivial⟩ ⟨hq.1, hq.2.1, (hq.2.2.sift fun y hy => Or.inr (N y hy)).mono (by decide) (by decide)⟩⟩
    ·
      obtain ⟨n, o, h1, h2, h3, _, L, rfl, ⟨rfl, N⟩, hq⟩ := rm0_4 l s _ hw tables_1 i0 i1 i2 i3 i4 i5 i1 s.heap s.heap.size (Nat.le_refl _) (Or.inr (Or.inl ⟨(by rw [q]; decide), q, rfl⟩)) (by rw [q]; decide) (by rw [q]; decide) (by rw [q]; decide) (by rw [q, show ((1 : Int32) &&& (65535 : Int32)).toNatClampNeg = 1 from by decide]; rfl) (by rw [c]; decide) (by rw [c]; decide) (by rw [c]; decide) (by rw [c]; decide) (by rw [c]; decide) (by rw [c]; decide) p e ha hc hk s m _ below hf ((Spec.applies_iff_loose hf).mp happ).1 ⟨rfl, State.Warmed39.refl s, rfl⟩ trivial
      refine ⟨n, _, h1, h2, h3, hpost _ _ _ _ _ _ ⟨Cond.after_iff.mpr rfl, Cond.after_iff.mpr (eq_i res_at (Term.int_eval (1)) rfl), trivial⟩ ⟨hq.1, hq.2.1, (hq.2.2.sift fun y hy => Or.inr (N y hy)).mono (by decide) (by decide)⟩⟩
    ·
      obtain ⟨n, o, h1, h2, h3, _, L, rfl, ⟨rfl, N⟩, hq⟩ := rm0_4 l s _ hw tables_1 i0 i1 i2 i3 i4 i5 i2 s.heap s.heap.size (Nat.le_refl _) (Or.inr (Or.inr (Or.inl ⟨(by rw [q]; decide), (by rw [q]; decide), q, rfl⟩))) (by rw [q]; decide) (by rw [q]; decide) (by rw [q]; decide) (by rw [q, show ((2 : Int32) &&& (65535 : Int32)).toNatClampNeg = 2 from by decide]; rfl) (by rw [c]; decide) (by rw [c]; decide) (by rw [c]; decide) (by rw [c]; decide) (by rw [c]; decide) (by rw [c]; decide) p e ha hc hk s m _ below hf ((Spec.applies_iff_loose hf).mp happ).1 ⟨rfl, State.Warmed39.refl s, rfl⟩ trivial
      refine ⟨n, _, h1, h2, h3, hpost _ _ _ _ _ _ ⟨Cond.after_iff.mpr rfl, Cond.after_iff.mpr (eq_i res_at (Term.int_eval (1)) rfl), trivial⟩ ⟨hq.1, hq.2.1, (hq.2.2.sift fun y hy => Or.inr (N y hy)).mono (by decide) (by decide)⟩⟩
    ·
      obtain ⟨n, o, h1, h2, h3, _, L, rfl, ⟨rfl, N⟩, hq⟩ := rm0_4 l s _ hw tables_1 i0 i1 i2 i3 i4 i5 i3 s.heap s.heap.size (Nat.le_refl _) (Or.inr (Or.inr (Or.inr (Or.inl ⟨(by rw [q]; decide), (by rw [q]; decide), (by rw [q]; decide), q, rfl⟩)))) (by rw [q]; decide) (by rw [q]; decide) (by rw [q]; decide) (by rw [q, show ((3 : Int32) &&& (65535 : Int32)).toNatClampNeg = 3 from by decide]; rfl) (by rw [c]; decide) (by rw [c]; decide) (by rw [c]; decide) (by rw [c]; decide) (by rw [c]; decide) (by rw [c]; decide) p e ha hc hk s m _ below hf ((Spec.applies_iff_loose hf).mp happ).1 ⟨rfl, State.Warmed39.refl s, rfl⟩ trivial
      refine ⟨n, _, h1, h2, h3, hpost _ _ _ _ _ _ ⟨Cond.after_iff.mpr rfl, Cond.after_iff.mpr (eq_i res_at (Term.int_eval (1)) rfl), trivial⟩ ⟨hq.1, hq.2.1, (hq.2.2.sift fun y hy => Or.inr (N y hy)).mono (by decide) (by decide)⟩⟩
  · have hd : ((1 : Int32) + ((i4 &&& (2147483647 : Int32)) % (6 : Int32))).toInt = 5 := by rw [c]; decide
    rcases own_k5 i5 _ hd with q | q | q | q | q
    ·
      obtain ⟨n, o, h1, h2, h3, _, L, rfl, ⟨rfl, N⟩, hq⟩ := rm0_5 l s _ hw tables_1 i0 i1 i2 i3 i4 i5 i0 s.heap s.heap.size (Nat.le_refl _) (Or.inl ⟨q, rfl⟩) (by rw [q]; decide) (by rw [q]; decide) (by rw [q]; decide) (by rw [q, show ((0 : Int32) &&& (65535 : Int32)).toNatClampNeg = 0 from by decide]; rfl) (by rw [c]; decide) (by rw [c]; decide) (by rw [c]; decide) (by rw [c]; decide) (by rw [c]; decide) (by rw [c]; decide) p e ha hc hk s m _ below hf ((Spec.applies_iff_loose hf).mp happ).1 ⟨rfl, State.Warmed39.refl s, rfl⟩ trivial
      refine ⟨n, _, h1, h2, h3, hpost _ _ _ _ _ _ ⟨Cond.after_iff.mpr rfl, Cond.after_iff.mpr (eq_i res_at (Term.int_eval (1)) rfl), trivial⟩ ⟨hq.1, hq.2.1, (hq.2.2.sift fun y hy => Or.inr (N y hy)).mono (by decide) (by decide)⟩⟩
    ·
      obtain ⟨n, o, h1, h2, h3, _, L, rfl, ⟨rfl, N⟩, hq⟩ := rm0_5 l s _ hw tables_1 i0 i1 i2 i3 i4 i5 i1 s.heap s.heap.size (Nat.le_refl _) (Or.inr (Or.inl ⟨(by rw [q]; decide), q, rfl⟩)) (by rw [q]; decide) (by rw [q]; decide) (by rw [q]; decide) (by rw [q, show ((1 : Int32) &&& (65535 : Int32)).toNatClampNeg = 1 from by decide]; rfl) (by rw [c]; decide) (by rw [c]; decide) (by rw [c]; decide) (by rw [c]; decide) (by rw [c]; decide) (by rw [c]; decide) p e ha hc hk s m _ below hf ((Spec.applies_iff_loose hf).mp happ).1 ⟨rfl, State.Warmed39.refl s, rfl⟩ trivial
      refine ⟨n, _, h1, h2, h3, hpost _ _ _ _ _ _ ⟨Cond.after_iff.mpr rfl, Cond.after_iff.mpr (eq_i res_at (Term.int_eval (1)) rfl), trivial⟩ ⟨hq.1, hq.2.1, (hq.2.2.sift fun y hy => Or.inr (N y hy)).mono (by decide) (by decide)⟩⟩
    ·
      obtain ⟨n, o, h1, h2, h3, _, L, rfl, ⟨rfl, N⟩, hq⟩ := rm0_5 l s _ hw tables_1 i0 i1 i2 i3 i4 i5 i2 s.heap s.heap.size (Nat.le_refl _) (Or.inr (Or.inr (Or.inl ⟨(by rw [q]; decide), (by rw [q]; decide), q, rfl⟩))) (by rw [q]; decide) (by rw [q]; decide) (by rw [q]; decide) (by rw [q, show ((2 : Int32) &&& (65535 : Int32)).toNatClampNeg = 2 from by decide]; rfl) (by rw [c]; decide) (by rw [c]; decide) (by rw [c]; decide) (by rw [c]; decide) (by rw [c]; decide) (by rw [c]; decide) p e ha hc hk s m _ below hf ((Spec.applies_iff_loose hf).mp happ).1 ⟨rfl, State.Warmed39.refl s, rfl⟩ trivial
      refine ⟨n, _, h1, h2, h3, hpost _ _ _ _ _ _ ⟨Cond.after_iff.mpr rfl, Cond.after_iff.mpr (eq_i res_at (Term.int_eval (1)) rfl), trivial⟩ ⟨hq.1, hq.2.1, (hq.2.2.sift fun y hy => Or.inr (N y hy)).mono (by decide) (by decide)⟩⟩
    ·
      obtain ⟨n, o, h1, h2, h3, _, L, rfl, ⟨rfl, N⟩, hq⟩ := rm0_5 l s _ hw tables_1 i0 i1 i2 i3 i4 i5 i3 s.heap s.heap.size (Nat.le_refl _) (Or.inr (Or.inr (Or.inr (Or.inl ⟨(by rw [q]; decide), (by rw [q]; decide), (by rw [q]; decide), q, rfl⟩)))) (by rw [q]; decide) (by rw [q]; decide) (by rw [q]; decide) (by rw [q, show ((3 : Int32) &&& (65535 : Int32)).toNatClampNeg = 3 from by decide]; rfl) (by rw [c]; decide) (by rw [c]; decide) (by rw [c]; decide) (by rw [c]; decide) (by rw [c]; decide) (by rw [c]; decide) p e ha hc hk s m _ below hf ((Spec.applies_iff_loose hf).mp happ).1 ⟨rfl, State.Warmed39.refl s, rfl⟩ trivial
      refine ⟨n, _, h1, h2, h3, hpost _ _ _ _ _ _ ⟨Cond.after_iff.mpr rfl, Cond.after_iff.mpr (eq_i res_at (Term.int_eval (1)) rfl), trivial⟩ ⟨hq.1, hq.2.1, (hq.2.2.sift fun y hy => Or.inr (N y hy)).mono (by decide) (by decide)⟩⟩
    ·
      obtain ⟨n, o, h1, h2, h3, _, L, rfl, ⟨rfl, N⟩, hq⟩ := rm0_5 l s _ hw tables_1 i0 i1 i2 i3 i4 i5 (i0 ^^^ (-1 : Int32)) s.heap s.heap.size (Nat.le_refl _) (Or.inr (Or.inr (Or.inr (Or.inr (Or.inl ⟨(by rw [q]; decide), (by rw [q]; decide), (by rw [q]; decide), (by rw [q]; decide), q, rfl⟩))))) (by rw [q]; decide) (by rw [q]; decide) (by rw [q]; decide) (by rw [q, show ((4 : Int32) &&& (65535 : Int32)).toNatClampNeg = 4 from by decide]; rfl) (by rw [c]; decide) (by rw [c]; decide) (by rw [c]; decide) (by rw [c]; decide) (by rw [c]; decide) (by rw [c]; decide) p e ha hc hk s m _ below hf ((Spec.applies_iff_loose hf).mp happ).1 ⟨rfl, State.Warmed39.refl s, rfl⟩ trivial
      refine ⟨n, _, h1, h2, h3, hpost _ _ _ _ _ _ ⟨Cond.after_iff.mpr rfl, Cond.after_iff.mpr (eq_i res_at (Term.int_eval (1)) rfl), trivial⟩ ⟨hq.1, hq.2.1, (hq.2.2.sift fun y hy => Or.inr (N y hy)).mono (by decide) (by decide)⟩⟩
  · have hd : ((1 : Int32) + ((i4 &&& (2147483647 : Int32)) % (6 : Int32))).toInt = 6 := by rw [c]; decide
    rcases own_k6 i5 _ hd with q | q | q | q | q | q
    ·
      obtain ⟨n, o, h1, h2, h3, _, L, rfl, ⟨rfl, N⟩, hq⟩ := rm0_6 l s _ hw tables_1 i0 i1 i2 i3 i4 i5 i0 s.heap s.heap.size (Nat.le_refl _) (Or.inl ⟨q, rfl⟩) (by rw [q]; decide) (by rw [q]; decide) (by rw [q]; decide) (by rw [q, show ((0 : Int32) &&& (65535 : Int32)).toNatClampNeg = 0 from by decide]; rfl) (by rw [c]; decide) (by rw [c]; decide) (by rw [c]; decide) (by rw [c]; decide) (by rw [c]; decide) (by rw [c]; decide) p e ha hc hk s m _ below hf ((Spec.applies_iff_loose hf).mp happ).1 ⟨rfl, State.Warmed39.refl s, rfl⟩ trivial
      refine ⟨n, _, h1, h2, h3, hpost _ _ _ _ _ _ ⟨Cond.after_iff.mpr rfl, Cond.after_iff.mpr (eq_i res_at (Term.int_eval (1)) rfl), trivial⟩ ⟨hq.1, hq.2.1, (hq.2.2.sift fun y hy => Or.inr (N y hy)).mono (by decide) (by decide)⟩⟩
    ·
      obtain ⟨n, o, h1, h2, h3, _, L, rfl, ⟨rfl, N⟩, hq⟩ := rm0_6 l s _ hw tables_1 i0 i1 i2 i3 i4 i5 i1 s.heap s.heap.size (Nat.le_refl _) (Or.inr (Or.inl ⟨(by rw [q]; decide), q, rfl⟩)) (by rw [q]; decide) (by rw [q]; decide) (by rw [q]; decide) (by rw [q, show ((1 : Int32) &&& (65535 : Int32)).toNatClampNeg = 1 from by decide]; rfl) (by rw [c]; decide) (by rw [c]; decide) (by rw [c]; decide) (by rw [c]; decide) (by rw [c]; decide) (by rw [c]; decide) p e ha hc hk s m _ below hf ((Spec.applies_iff_loose hf).mp happ).1 ⟨rfl, State.Warmed39.refl s, rfl⟩ trivial
      refine ⟨n, _, h1, h2, h3, hpost _ _ _ _ _ _ ⟨Cond.after_iff.mpr rfl, Cond.after_iff.mpr (eq_i res_at (Term.int_eval (1)) rfl), trivial⟩ ⟨hq.1, hq.2.1, (hq.2.2.sift fun y hy => Or.inr (N y hy)).mono (by decide) (by decide)⟩⟩
    ·
      obtain ⟨n, o, h1, h2, h3, _, L, rfl, ⟨rfl, N⟩, hq⟩ := rm0_6 l s _ hw tables_1 i0 i1 i2 i3 i4 i5 i2 s.heap s.heap.size (Nat.le_refl _) (Or.inr (Or.inr (Or.inl ⟨(by rw [q]; decide), (by rw [q]; decide), q, rfl⟩))) (by rw [q]; decide) (by rw [q]; decide) (by rw [q]; decide) (by rw [q, show ((2 : Int32) &&& (65535 : Int32)).toNatClampNeg = 2 from by decide]; rfl) (by rw [c]; decide) (by rw [c]; decide) (by rw [c]; decide) (by rw [c]; decide) (by rw [c]; decide) (by rw [c]; decide) p e ha hc hk s m _ below hf ((Spec.applies_iff_loose hf).mp happ).1 ⟨rfl, State.Warmed39.refl s, rfl⟩ trivial
      refine ⟨n, _, h1, h2, h3, hpost _ _ _ _ _ _ ⟨Cond.after_iff.mpr rfl, Cond.after_iff.mpr (eq_i res_at (Term.int_eval (1)) rfl), trivial⟩ ⟨hq.1, hq.2.1, (hq.2.2.sift fun y hy => Or.inr (N y hy)).mono (by decide) (by decide)⟩⟩
    ·
      obtain ⟨n, o, h1, h2, h3, _, L, rfl, ⟨rfl, N⟩, hq⟩ := rm0_6 l s _ hw tables_1 i0 i1 i2 i3 i4 i5 i3 s.heap s.heap.size (Nat.le_refl _) (Or.inr (Or.inr (Or.inr (Or.inl ⟨(by rw [q]; decide), (by rw [q]; decide), (by rw [q]; decide), q, rfl⟩)))) (by rw [q]; decide) (by rw [q]; decide) (by rw [q]; decide) (by rw [q, show ((3 : Int32) &&& (65535 : Int32)).toNatClampNeg = 3 from by decide]; rfl) (by rw [c]; decide) (by rw [c]; decide) (by rw [c]; decide) (by rw [c]; decide) (by rw [c]; decide) (by rw [c]; decide) p e ha hc hk s m _ below hf ((Spec.applies_iff_loose hf).mp happ).1 ⟨rfl, State.Warmed39.refl s, rfl⟩ trivial
      refine ⟨n, _, h1, h2, h3, hpost _ _ _ _ _ _ ⟨Cond.after_iff.mpr rfl, Cond.after_iff.mpr (eq_i res_at (Term.int_eval (1)) rfl), trivial⟩ ⟨hq.1, hq.2.1, (hq.2.2.sift fun y hy => Or.inr (N y hy)).mono (by decide) (by decide)⟩⟩
    ·
      obtain ⟨n, o, h1, h2, h3, _, L, rfl, ⟨rfl, N⟩, hq⟩ := rm0_6 l s _ hw tables_1 i0 i1 i2 i3 i4 i5 (i0 ^^^ (-1 : Int32)) s.heap s.heap.size (Nat.le_refl _) (Or.inr (Or.inr (Or.inr (Or.inr (Or.inl ⟨(by rw [q]; decide), (by rw [q]; decide), (by rw [q]; decide), (by rw [q]; decide), q, rfl⟩))))) (by rw [q]; decide) (by rw [q]; decide) (by rw [q]; decide) (by rw [q, show ((4 : Int32) &&& (65535 : Int32)).toNatClampNeg = 4 from by decide]; rfl) (by rw [c]; decide) (by rw [c]; decide) (by rw [c]; decide) (by rw [c]; decide) (by rw [c]; decide) (by rw [c]; decide) p e ha hc hk s m _ below hf ((Spec.applies_iff_loose hf).mp happ).1 ⟨rfl, State.Warmed39.refl s, rfl⟩ trivial
      refine ⟨n, _, h1, h2, h3, hpost _ _ _ _ _ _ ⟨Cond.after_iff.mpr rfl, Cond.after_iff.mpr (eq_i res_at (Term.int_eval (1)) rfl), trivial⟩ ⟨hq.1, hq.2.1, (hq.2.2.sift fun y hy => Or.inr (N y hy)).mono (by decide) (by decide)⟩⟩
    ·
      obtain ⟨n, o, h1, h2, h3, _, L, rfl, ⟨rfl, N⟩, hq⟩ := rm0_6 l s _ hw tables_1 i0 i1 i2 i3 i4 i5 (i1 ^^^ (-1 : Int32)) s.heap s.heap.size (Nat.le_refl _) (Or.inr (Or.inr (Or.inr (Or.inr (Or.inr (⟨(by rw [q]; decide), (by rw [q]; decide), (by rw [q]; decide), (by rw [q]; decide), (by rw [q]; decide), rfl⟩)))))) (by rw [q]; decide) (by rw [q]; decide) (by rw [q]; decide) (by rw [q, show ((5 : Int32) &&& (65535 : Int32)).toNatClampNeg = 5 from by decide]; rfl) (by rw [c]; decide) (by rw [c]; decide) (by rw [c]; decide) (by rw [c]; decide) (by rw [c]; decide) (by rw [c]; decide) p e ha hc hk s m _ below hf ((Spec.applies_iff_loose hf).mp happ).1 ⟨rfl, State.Warmed39.refl s, rfl⟩ trivial
      refine ⟨n, _, h1, h2, h3, hpost _ _ _ _ _ _ ⟨Cond.after_iff.mpr rfl, Cond.after_iff.mpr (eq_i res_at (Term.int_eval (1)) rfl), trivial⟩ ⟨hq.1, hq.2.1, (hq.2.2.sift fun y hy => Or.inr (N y hy)).mono (by decide) (by decide)⟩⟩
theorem main_1_1 : Claimed_1_1 := comes_1 fun _ _ _ _ _ _ h hF => ⟨h.1, hF⟩
theorem main_1_2 : Claimed_1_2 := comes_1 fun _ _ _ _ _ _ h hF => ⟨h.2.1, hF⟩
end Jvm.Pilot.@@N@@
namespace Jvm.Pilot.@@N@@
open Jvm Jvm.ClassFile Sem Op Lib Jvm.Free Jvm.Stand Jvm.Pilot.@@N@@.Jvm.D
/-! MADE BY PROGRAM (witnessworld.py) out of the Statement's table words and the real class files: 9 classes; the members and pool entries that the words name. The judged class is class 1, her method 1. -/
namespace start1
open Jvm.ClassFile
def u (s : String) : CpInfo := .utf8 (stringToUtf16 s)
/-- a pool by its gaps: so many unusable entries, then the entry; so many at the end -/
def gap : Nat → List CpInfo → List CpInfo
  | 0, r => r
  | n + 1, r => .unusable :: gap n r
def poolList (es : List (Nat × CpInfo)) (last : Nat) : List CpInfo := es.foldr (fun e r => gap e.1 (e.2 :: r)) (gap last [])
def pool (es : List (Nat × CpInfo)) (last : Nat) : Array CpInfo := ⟨poolList es last⟩
def fileOf (pool : Array CpInfo) (this : Nat) (attrs : Array Attribute := #[]) (ms : Array MethodInfo := #[]) (fl : Nat := 33) (sup : Nat := 0) (ifs : Array Nat := #[]) (fds : Array FieldInfo := #[]) : ClassFile where
  minorVersion := 0
  majorVersion := 65
  constantPool := pool
  accessFlags := fl
  thisClass := this
  superClass := sup
  interfaces := ifs
  fields := fds
  methods := ms
  attributes := attrs
def plain (name : String) (sup : Option ClassId) : Class where
  name := name
  kind := .ordinary
  loader := none
  accessFlags := 33
  super := sup
  interfaces := #[]
  cf := none
  fields := #[]
  methods := #[]
  instanceTypes := #[]
  staticTypes := #[]
  resolved := #[]
  callSites := []
  init := .initialized
  statics := none
  mirror := none

def pool0 : Array CpInfo := pool [(5, u "<init>"), (0, u "()V"), (1, .class_ 10), (1, u "java/lang/Object")] 113

def k0c0 : Code := { maxStack := 0, maxLocals := 1, code := object_method_1_code, exceptionTable := #[], attributes := #[] }
def k0m0 : Method := { name := "<init>", desc := "()V", sig := { parameters := [], returnType := none }, accessFlags := 1, code := some k0c0 }
/-- java/lang/Object -/
def k0 : Class := { plain "java/lang/Object" none with
  accessFlags := 33
  interfaces := #[]
  cf := some (fileOf pool0 8 #[] #[{ accessFlags := 1, nameIndex := 5, descriptorIndex := 6, attributes := #[] }] 33 0 #[] #[])
  fields := #[]
  methods := #[k0m0]
  instanceTypes := #[]
  staticTypes := #[]
  resolved := Array.replicate 124 none
  statics := none }

def pool1 : Array CpInfo := pool [(2, .class_ 4), (0, .nameAndType 5 6), (0, u "java/lang/Object"), (0, u "<init>"), (0, u "()V"), (0, .integer 2147483647), (0, .class_ 9), (0, u "com/example/hearsay/hearsay/graph/IntList"), (0, .methodref 8 3), (0, .methodref 8 12), (0, .nameAndType 13 14), (0, u "add"), (0, u "(I)V"), (0, .methodref 8 16), (0, .nameAndType 17 18), (0, u "get"), (0, u "(I)I"), (0, .class_ 20), (0, u "com/example/hearsay/hearsay/graph/IntListGetPinLaw"), (2, u "law"), (0, u "(IIIIII)Z")] 3

def k1m0 : Method := { name := "<init>", desc := "()V", sig := { parameters := [], returnType := none }, accessFlags := 1, code := none }
def k1c1 : Code := { maxStack := 3, maxLocals := 10, code := code, exceptionTable := #[], attributes := #[] }
def k1m1 : Method := { name := "law", desc := "(IIIIII)Z", sig := { parameters := [.int, .int, .int, .int, .int, .int], returnType := some .boolean }, accessFlags := 9, code := some k1c1 }
/-- com/example/hearsay/hearsay/graph/IntListGetPinLaw -/
def k1 : Class := { plain "com/example/hearsay/hearsay/graph/IntListGetPinLaw" (some 0) with
  accessFlags := 49
  interfaces := #[]
  cf := some (fileOf pool1 19 #[] #[{ accessFlags := 1, nameIndex := 5, descriptorIndex := 6, attributes := #[] }, { accessFlags := 9, nameIndex := 23, descriptorIndex := 24, attributes := #[] }] 49 2 #[] #[])
  fields := #[]
  methods := #[k1m0, k1m1]
  instanceTypes := #[]
  staticTypes := #[]
  resolved := Array.replicate 28 none
  statics := none }

def pool2 : Array CpInfo := pool [(1, .class_ 2), (0, u "com/example/hearsay/hearsay/graph/IntList"), (0, .methodref 4 5), (0, .class_ 6), (0, .nameAndType 7 8), (0, u "java/lang/Object"), (0, u "<init>"), (0, u "()V"), (0, .class_ 10), (0, u "[I"), (0, .fieldref 1 12), (0, .nameAndType 13 14), (0, u "chunks"), (0, u "[[I"), (0, .integer 65536), (0, .fieldref 1 17), (0, .nameAndType 18 19), (0, u "size"), (0, u "I"), (2, u "add"), (0, u "(I)V"), (0, .integer 65535), (21, u "get"), (0, u "(I)I"), (18, u "SHIFT"), (2, u "CHUNK"), (0, u "MASK")] 10

def k2c0 : Code := { maxStack := 5, maxLocals := 1, code := prog_102_method_1_code, exceptionTable := #[], attributes := #[] }
def k2m0 : Method := { name := "<init>", desc := "()V", sig := { parameters := [], returnType := none }, accessFlags := 0, code := some k2c0 }
def k2c1 : Code := { maxStack := 3, maxLocals := 2, code := prog_102_method_5_code, exceptionTable := #[], attributes := #[] }
def k2m1 : Method := { name := "get", desc := "(I)I", sig := { parameters := [.int], returnType := some .int }, accessFlags := 0, code := some k2c1 }
def k2c2 : Code := { maxStack := 7, maxLocals := 3, code := prog_102_method_6_code, exceptionTable := #[], attributes := #[] }
def k2m2 : Method := { name := "add", desc := "(I)V", sig := { parameters := [.int], returnType := none }, accessFlags := 0, code := some k2c2 }
/-- com/example/hearsay/hearsay/graph/IntList -/
def k2 : Class := { plain "com/example/hearsay/hearsay/graph/IntList" (some 0) with
  accessFlags := 48
  interfaces := #[]
  cf := some (fileOf pool2 1 #[] #[{ accessFlags := 0, nameIndex := 7, descriptorIndex := 8, attributes := #[] }, { accessFlags := 0, nameIndex := 46, descriptorIndex := 47, attributes := #[] }, { accessFlags := 0, nameIndex := 22, descriptorIndex := 23, attributes := #[] }] 48 4 #[] #[{ accessFlags := 26, nameIndex := 66, descriptorIndex := 19, attributes := #[] }, { accessFlags := 26, nameIndex := 69, descriptorIndex := 19, attributes := #[] }, { accessFlags := 26, nameIndex := 70, descriptorIndex := 19, attributes := #[] }, { accessFlags := 2, nameIndex := 13, descriptorIndex := 14, attributes := #[] }, { accessFlags := 2, nameIndex := 18, descriptorIndex := 19, attributes := #[] }])
  fields := #[{ name := "SHIFT", type := .int, accessFlags := 26, slot := 0, constantValue := 0 }, { name := "CHUNK", type := .int, accessFlags := 26, slot := 1, constantValue := 0 }, { name := "MASK", type := .int, accessFlags := 26, slot := 2, constantValue := 0 }, { name := "chunks", type := (.array (.array .int)), accessFlags := 2, slot := 0, constantValue := 0 }, { name := "size", type := .int, accessFlags := 2, slot := 1, constantValue := 0 }]
  methods := #[k2m0, k2m1, k2m2]
  instanceTypes := #[(.array (.array .int)), .int]
  staticTypes := #[.int, .int, .int]
  resolved := Array.replicate 81 none
  statics := none }

def pool3 : Array CpInfo := pool [(1, u "java/lang/Cloneable"), (0, .class_ 1), (0, u "java/lang/Object"), (0, .class_ 3)] 3

/-- java/lang/Cloneable -/
def k3 : Class := { plain "java/lang/Cloneable" (some 0) with
  accessFlags := 1537
  interfaces := #[]
  cf := some (fileOf pool3 2 #[] #[] 1537 4 #[] #[])
  fields := #[]
  methods := #[]
  instanceTypes := #[]
  staticTypes := #[]
  resolved := Array.replicate 8 none
  statics := none }

def pool4 : Array CpInfo := pool [(1, u "java/io/Serializable"), (0, .class_ 1), (0, u "java/lang/Object"), (0, .class_ 3)] 3

/-- java/io/Serializable -/
def k4 : Class := { plain "java/io/Serializable" (some 0) with
  accessFlags := 1537
  interfaces := #[]
  cf := some (fileOf pool4 2 #[] #[] 1537 4 #[] #[])
  fields := #[]
  methods := #[]
  instanceTypes := #[]
  staticTypes := #[]
  resolved := Array.replicate 8 none
  statics := none }

/-- the primitive byte -/
def k5 : Class := { plain "byte" none with kind := .primitive 'B', accessFlags := 0x411 }
/-- [B -/
def k6 : Class := { plain "[B" (some 0) with kind := .array 5 .byte, interfaces := #[3, 4], accessFlags := 1041 }

/-- the primitive int -/
def k7 : Class := { plain "int" none with kind := .primitive 'I', accessFlags := 0x411 }
/-- [I -/
def k8 : Class := { plain "[I" (some 0) with kind := .array 7 .int, interfaces := #[3, 4], accessFlags := 1041 }

/-- int[][] -/
def k9 : Class := { plain "[[I" (some 0) with kind := .array 8 (.array .int), interfaces := #[3, 4], accessFlags := 1041 }
def heap : Heap := #[]
def classes : Array Class := #[k0, k1, k2, k3, k4, k5, k6, k7, k8, k9]
def interned : List (Array UInt16 × Addr) := []
def slotsUsed : Nat := 0
def theMethod : MethodId := ⟨1, 1⟩
def args0 : Array Value := #[.int 3, .int 4, .int 5, .int 6, .int 7, .int 8]
def aboutOver (below : List Frame) : State where
  vm := { classes := classes, interned := interned.toArray }
  heap := heap
  slotsUsed := slotsUsed
  threads := #[{ frames := .invoking theMethod args0 :: below }]
def below0 : List Frame := [.native { method := ⟨0, 0⟩, args := #[] }]
def about1 : State := aboutOver below0
def p0 : Program := .bare "" "" ""
def e0 : Env := launch0.env 0 0 0
theorem w_frames : about1.frames = Frame.invoking theMethod args0 :: below0 := rfl
set_option maxRecDepth 65536 in
theorem w_args : argsFit about1.vm theMethod args0 = true := by decide +kernel
set_option maxRecDepth 65536 in
theorem w_heap : heapFits about1 = true := by decide +kernel
set_option maxRecDepth 65536 in
theorem w_runnable : about1.curStatus? = some .runnable := by decide +kernel
set_option maxRecDepth 65536 in
theorem w_alone : about1.alone = true := by decide +kernel
set_option maxRecDepth 65536 in
theorem w_named : about1.methodNamed? x = some theMethod := by decide +kernel
set_option maxRecDepth 65536 in
theorem w_hears : about1.hears theMethod below0 = true := by decide +kernel
set_option maxRecDepth 65536 in
theorem w_ripe : about1.ripe theMethod args0 below0 = true := by decide +kernel
theorem w_running : about1.status = .running := rfl
set_option maxRecDepth 65536 in
theorem w_room : about1.hasRoom e0.platform room_1 = true :=
  launch0.hasRoom_least _ room_1 (by decide +kernel) (by decide +kernel) (by decide +kernel) (by decide +kernel) (by decide +kernel) (by decide +kernel)
theorem allAtoms_all (ts : List Jvm.Cond) (a : Array Jvm.Value) (st : Jvm.State) : (allAtoms ts).before a st = ts.all (fun c => c.before a st) := by
  induction ts with
  | nil => rfl
  | cons c t ih =>
    show (Jvm.Cond.and c (allAtoms t)).before a st = _
    rw [Jvm.Cond.before_and, ih, List.all_cons]
def words1 : List Jvm.Cond := Jvm.Cond.code x code maxLocals ret :: tables_1
/-- a 'code' word, met by the world's own term for the bytes: nothing is compared byte by byte -/
theorem code_word {y : MethodName} {bytes : ByteArray} {mx : Nat} {rt : Option FieldType} {a : Array Value} {s : State} {m : MethodId} {meth : Method} {c : Code} (h1 : s.methodNamed? y = some m) (h2 : s.vm.method? m = some meth) (h3 : meth.code = some c) (h4 : c.code = bytes)
    (h5 : (c.maxLocals == mx && c.exceptionTable.isEmpty && decide (c.maxStack ≤ mostOperands) && decide (meth.sig.returnType = rt) && !meth.locks && decide (parseMethodDescriptor y.desc = some meth.sig)) = true) : (Jvm.Cond.code y bytes mx rt).before a s = true := by
  simp only [Bool.and_eq_true, beq_iff_eq, Bool.not_eq_true', decide_eq_true_eq] at h5
  obtain ⟨⟨⟨⟨⟨g1, g2⟩, g3⟩, g4⟩, g5⟩, g6⟩ := h5
  simp [Cond.before, Cond.holds, Cond.value, h1, h2, h3, h4, g1, g2, g3, g4, g5, g6]
def isCode : Jvm.Cond → Bool
  | .code _ _ _ _ => true
  | _ => false
theorem all_split {L : List Jvm.Cond} {P : Jvm.Cond → Bool} (h1 : L.all (fun c => isCode c || P c) = true) (h2 : ∀ c ∈ L.filter isCode, P c = true) : L.all P = true := by
  refine List.all_eq_true.mpr fun c hc => ?_
  have h := List.all_eq_true.mp h1 c hc
  rcases Bool.eq_false_or_eq_true (isCode c) with hi | hi
  · exact h2 c (List.mem_filter.mpr ⟨hc, hi⟩)
  · simpa [hi] using h
set_option maxRecDepth 65536 in
theorem w_c0 : (Jvm.Cond.code x code maxLocals ret).before args0 about1 = true := code_word (m := ⟨1, 1⟩) (meth := k1m1) (c := k1c1) (by decide +kernel) rfl rfl rfl (by decide +kernel)
set_option maxRecDepth 65536 in
theorem w_c1 : (Jvm.Cond.code ({ cls := "com/example/hearsay/hearsay/graph/IntList", name := "<init>", desc := "()V" } : Jvm.MethodName) prog_102_method_1_code (1 : Nat) (Option.none : Option Jvm.ClassFile.FieldType)).before args0 about1 = true := code_word (m := ⟨2, 0⟩) (meth := k2m0) (c := k2c0) (by decide +kernel) rfl rfl rfl (by decide +kernel)
set_option maxRecDepth 65536 in
theorem w_c2 : (Jvm.Cond.code ({ cls := "java/lang/Object", name := "<init>", desc := "()V" } : Jvm.MethodName) object_method_1_code (1 : Nat) (Option.none : Option Jvm.ClassFile.FieldType)).before args0 about1 = true := code_word (m := ⟨0, 0⟩) (meth := k0m0) (c := k0c0) (by decide +kernel) rfl rfl rfl (by decide +kernel)
set_option maxRecDepth 65536 in
theorem w_c3 : (Jvm.Cond.code ({ cls := "com/example/hearsay/hearsay/graph/IntList", name := "add", desc := "(I)V" } : Jvm.MethodName) prog_102_method_6_code (3 : Nat) (Option.none : Option Jvm.ClassFile.FieldType)).before args0 about1 = true := code_word (m := ⟨2, 2⟩) (meth := k2m2) (c := k2c2) (by decide +kernel) rfl rfl rfl (by decide +kernel)
set_option maxRecDepth 65536 in
theorem w_c4 : (Jvm.Cond.code ({ cls := "com/example/hearsay/hearsay/graph/IntList", name := "get", desc := "(I)I" } : Jvm.MethodName) prog_102_method_5_code (2 : Nat) (Option.some Jvm.ClassFile.FieldType.int)).before args0 about1 = true := code_word (m := ⟨2, 1⟩) (meth := k2m1) (c := k2c1) (by decide +kernel) rfl rfl rfl (by decide +kernel)
def codes1 : List Jvm.Cond := [Jvm.Cond.code x code maxLocals ret, Jvm.Cond.code ({ cls := "com/example/hearsay/hearsay/graph/IntList", name := "<init>", desc := "()V" } : Jvm.MethodName) prog_102_method_1_code (1 : Nat) (Option.none : Option Jvm.ClassFile.FieldType), Jvm.Cond.code ({ cls := "java/lang/Object", name := "<init>", desc := "()V" } : Jvm.MethodName) object_method_1_code (1 : Nat) (Option.none : Option Jvm.ClassFile.FieldType), Jvm.Cond.code ({ cls := "com/example/hearsay/hearsay/graph/IntList", name := "add", desc := "(I)V" } : Jvm.MethodName) prog_102_method_6_code (3 : Nat) (Option.none : Option Jvm.ClassFile.FieldType), Jvm.Cond.code ({ cls := "com/example/hearsay/hearsay/graph/IntList", name := "get", desc := "(I)I" } : Jvm.MethodName) prog_102_method_5_code (2 : Nat) (Option.some Jvm.ClassFile.FieldType.int)]
set_option maxRecDepth 65536 in
theorem codes_eq : words1.filter isCode = codes1 := rfl
theorem w_codes : ∀ c ∈ words1.filter isCode, c.before args0 about1 = true := by
  rw [codes_eq]
  intro c hc
  simp only [codes1, List.mem_cons, List.not_mem_nil, or_false] at hc
  rcases hc with rfl | rfl | rfl | rfl | rfl
  · exact w_c0
  · exact w_c1
  · exact w_c2
  · exact w_c3
  · exact w_c4
set_option maxRecDepth 65536 in
theorem w_t1 : (words1.take 24).all (fun c => isCode c || c.before args0 about1) = true := by decide +kernel
set_option maxRecDepth 65536 in
theorem w_t2 : (words1.drop 24).all (fun c => isCode c || c.before args0 about1) = true := by decide +kernel
theorem w_tables : (allAtoms (Jvm.Cond.code x code maxLocals ret :: tables_1)).before args0 about1 = true := by
  rw [allAtoms_all]
  show words1.all (fun c => c.before args0 about1) = true
  refine all_split ?_ w_codes
  rw [← List.take_append_drop 24 words1, List.all_append, w_t1, w_t2]
  rfl
set_option maxRecDepth 65536 in
theorem w_case : (Jvm.Cond.and given_1 narrow_1).before args0 about1 = true := by decide +kernel
theorem w_applies : (headSpec (Jvm.Cond.code x code maxLocals ret :: tables_1) room_1).applies x e0.platform about1 = true :=
  (Spec.applies_iff w_frames).mpr ⟨w_running, w_runnable, w_alone, w_named, w_hears, w_ripe, w_room, w_tables⟩
theorem atStart : AtStart classFile x code maxLocals ret World_1 tables_1 room_1 Calls_1 rest_1 Pre_1 launch0 p0 e0 about1 theMethod args0 below0 :=
  ⟨lists_1, trivial, launch0.admits_env _ _ _, launch0.least_env, fairChoices_fair.cas, fairChoices_fair.clock, w_frames, w_args, w_heap, w_applies, trivial, trivial, w_case⟩
end start1
theorem witness_1 : WitnessClaimed_1 := ⟨start1.p0, start1.e0, start1.about1, start1.theMethod, start1.args0, start1.below0, start1.atStart⟩
end Jvm.Pilot.@@N@@
