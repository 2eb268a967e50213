import JvmDerived
import JvmDerived.Pilot.@@N@@Statement
import JvmDerived.Pilot.@@N@@Code
set_option linter.unusedVariables false
set_option linter.unusedSimpArgs false
namespace Jvm.Pilot.@@N@@
open Jvm Jvm.ClassFile Sem Op Lib Jvm.Free Jvm.Stand Jvm.LawKit Jvm.RoadKit Bundle Jvm.Pilot.@@N@@.Jvm.D
theorem own_ne_arr {Z : State} {h : Heap} {a b : Addr} {C : String} {a0 : Array Value} {kk : Nat} {k : ClassId} {ty : FieldType} {n : Int32} {vs : List Value} {d : Value} (F : Exa Z h a C) (wi : (Cond.instantiable C kk).before a0 Z = true) (V : Arv Z h b k ty n vs d) : a ≠ b := by
  obtain ⟨c, A, -⟩ := V
  exact ne_arr F wi A
theorem own_cast {tb : Tables} {e : Env} {below : List Frame} {t : State} {A : Type} (f : A → State) {a b : A} (h : a = b) (k : Steps tb e below (f b) t) : Steps tb e below (f a) t := h ▸ k
theorem d1_0 : decode prog_2_method_1_code 0 = .ok (.aload_n 0, 1) := by decide +kernel
theorem d1_1 : decode prog_2_method_1_code 1 = .ok (.invokespecial 1, 3) := by decide +kernel
theorem d1_4 : decode prog_2_method_1_code 4 = .ok (.aload_n 0, 1) := by decide +kernel
theorem d1_5 : decode prog_2_method_1_code 5 = .ok (.iload_n 1, 1) := by decide +kernel
theorem d1_6 : decode prog_2_method_1_code 6 = .ok (.putfield 7, 3) := by decide +kernel
theorem d1_9 : decode prog_2_method_1_code 9 = .ok (.aload_n 0, 1) := by decide +kernel
theorem d1_10 : decode prog_2_method_1_code 10 = .ok (.iload_n 2, 1) := by decide +kernel
theorem d1_11 : decode prog_2_method_1_code 11 = .ok (.putfield 13, 3) := by decide +kernel
theorem d1_14 : decode prog_2_method_1_code 14 = .ok (.return_, 1) := by decide +kernel
theorem ef_rmInit (m : MethodId) (x0 : Addr) (x1 : Int32) (x2 : Int32) : entryFrame m #[(.ref x0), (.int x1), (.int x2)] 3 = mkF m 0 #[.val (.ref x0), .val (.int x1), .val (.int x2)] [] := by first | (simp [entryFrame, mkF, argsToLocals, Value.category]; done) | rfl
def QInit (Z : State) (b : Addr) (u : Int32) (v1 : Int32) (h0 : Heap) (n0 : Nat) (v : Option Value) (h : Heap) (L : List Loc) : Prop := v = none ∧ Fr n0 L ∧ Keep h0 h [b] ∧ Exa Z h b "com/example/deodar/deodar/AclChange" ∧ Fld Z h b "com/example/deodar/deodar/AclChange" "aclsWritten" "I" (.int u) ∧ Fld Z h b "com/example/deodar/deodar/AclChange" "nodesRepointed" "I" (.int v1)
theorem pn_0 : plainName "com/example/deodar/deodar/AclChange" = true := by first | (simp [plainName, overriddenIn]; done) | decide +kernel
set_option maxRecDepth 65536 in
set_option maxHeartbeats 40000000 in
theorem rmInit (l : Launch) (Z : State) (a0 : Array Value) (hw : ∀ d ∈ tables_1, d.before a0 Z = true) (ws : List Jvm.Cond) (b : Addr) (u : Int32) (v1 : Int32) (h0 : Heap) (n0 : Nat) (Z0 : n0 ≤ h0.size) (E_b : Exa Z h0 b "com/example/deodar/deodar/AclChange") (F_aclsWritten_b : Fld Z h0 b "com/example/deodar/deodar/AclChange" "aclsWritten" "I" (.int (0 : Int32))) (F_nodesRepointed_b : Fld Z h0 b "com/example/deodar/deodar/AclChange" "nodesRepointed" "I" (.int (0 : Int32))) (g_b : n0 ≤ b) :
    MetFree l (⟨"com/example/deodar/deodar/AclChange", "<init>", "(II)V"⟩ : MethodName) (head1 (Jvm.Cond.code (⟨"com/example/deodar/deodar/AclChange", "<init>", "(II)V"⟩ : MethodName) prog_2_method_1_code 3 none :: ws) ({ frames := 1, cells := 0, slots := 0, locals := 12 } : Room)) (fun a U => a = #[(.ref b), (.int u), (.int v1)] ∧ Z.Warmed39 U.vm ∧ U.heap = h0) (fun _ _ _ _ _ => True) (fun _ U o U' => ∃ v L, o = .returned v ∧ QInit Z b u v1 h0 n0 v U'.heap L ∧ FrameEnd U o U' L ({ frames := 1, cells := 0, slots := 0, locals := 12 } : Room).cells ({ frames := 1, cells := 0, slots := 0, locals := 12 } : Room).slots) := by
  refine MetFree.of_bodySF (plainFor_of_name pn_0) hisR ?_
  intro p e s m args below meth c s₁ Bd hml0 hP hK
  obtain ⟨rfl, hZ, hh⟩ := hP
  have hx := Bd.exec
  have hby := Bd.bytes
  have hml : c.maxLocals = 3 := hml0
  have hown : s.vm.findClass "com/example/deodar/deodar/AclChange" = some m.cls := findClass_of_methodNamed Bd.named
  have hnm := (name_of_methodNamed Bd.named Bd.method).1
  have X0 : Stand p l e ({ frames := 1, cells := 0, slots := 0, locals := 12 } : Room) s m #[(.ref b), (.int u), (.int v1)] below meth c s₁ [] 0 0 := Stand.of_body Bd
  have e0 : s₁.heap = h0 := by rw [← hh, Bd.state]; rfl
  have N0 := Fr.nil n0
  have pre0 : ∀ t, Steps p.tables e below (s₁.setTop (mkF m 0 #[.val (.ref b), .val (.int u), .val (.int v1)] [])) t → Steps p.tables e below (s₁.setTop (entryFrame m #[(.ref b), (.int u), (.int v1)] 3)) t := fun t kk => castTop (ef_rmInit m b u v1) kk
  obtain ⟨T1, X1, e1, st1⟩ := initO X0 hx hZ hown (hw _ (List.mem_of_getElem? (i := 6) rfl)) (hw _ (List.mem_of_getElem? (i := 7) rfl)) (hw _ (List.mem_of_getElem? (i := 8) rfl)) e0 (g := (mkF m 1 #[.val (.ref b), .val (.int u), .val (.int v1)] [(.ref b)])) rfl (by rw [hml]; rfl) rfl (hb hby d1_1) (by decide) (W := 0) (by show 2 * 0 + _ ≤ _; exact Nat.le_of_eq rfl) (by decide)
  obtain ⟨T2, h2, X2, e2, W2, st2⟩ := putF X1 hx hZ hown (host := "") (Or.inl (hw _ (List.mem_of_getElem? (i := 9) rfl))) Via.refl e1 F_aclsWritten_b E_b (Or.inr ⟨(hw _ (List.mem_of_getElem? (i := 10) rfl)), rfl, hnm⟩) (hw _ (List.mem_of_getElem? (i := 1) rfl)) (ty := .int) (by decide) rfl rfl (g := (mkF m 6 #[.val (.ref b), .val (.int u), .val (.int v1)] [(.int u), (.ref b)])) rfl rfl (hb hby d1_6)
  have Ex3 : Exa Z h2 b "com/example/deodar/deodar/AclChange" := (E_b.wr W2)
  have F4 : Fld Z h2 b "com/example/deodar/deodar/AclChange" "nodesRepointed" "I" (.int (0 : Int32)) := (F_nodesRepointed_b.other W2 (Or.inr (slot_ne (Or.inr (hw _ (List.mem_of_getElem? (i := 12) rfl))) (Or.inr (hw _ (List.mem_of_getElem? (i := 10) rfl))) (by decide) (t := .int) (t' := .int) (by decide) (by decide))))
  have K5 : Keep h0 h2 [b] := (Keep.refl h0 _).wr W2 (Or.inl (List.mem_of_getElem? (i := 0) rfl))
  have N6 := Fr.snoc X2 N0 g_b
  have F7 : Fld Z h2 b "com/example/deodar/deodar/AclChange" "aclsWritten" "I" (.int u) := F_aclsWritten_b.same W2
  obtain ⟨T8, h8, X8, e8, W8, st8⟩ := putF X2 hx hZ hown (host := "") (Or.inl (hw _ (List.mem_of_getElem? (i := 11) rfl))) Via.refl e2 F4 Ex3 (Or.inr ⟨(hw _ (List.mem_of_getElem? (i := 12) rfl)), rfl, hnm⟩) (hw _ (List.mem_of_getElem? (i := 1) rfl)) (ty := .int) (by decide) rfl rfl (g := (mkF m 11 #[.val (.ref b), .val (.int u), .val (.int v1)] [(.int v1), (.ref b)])) rfl rfl (hb hby d1_11)
  have Ex9 : Exa Z h8 b "com/example/deodar/deodar/AclChange" := (Ex3.wr W8)
  have F10 : Fld Z h8 b "com/example/deodar/deodar/AclChange" "aclsWritten" "I" (.int u) := (F7.other W8 (Or.inr (slot_ne (Or.inr (hw _ (List.mem_of_getElem? (i := 10) rfl))) (Or.inr (hw _ (List.mem_of_getElem? (i := 12) rfl))) (by decide) (t := .int) (t' := .int) (by decide) (by decide))))
  have K11 : Keep h0 h8 [b] := K5.wr W8 (Or.inl (List.mem_of_getElem? (i := 0) rfl))
  have N12 := Fr.snoc X8 N6 g_b
  have F13 : Fld Z h8 b "com/example/deodar/deodar/AclChange" "nodesRepointed" "I" (.int v1) := F4.same W8
  have pre14 : ∀ t, Steps p.tables e below (T8.setTop (mkF m 14 #[.val (.ref b), .val (.int u), .val (.int v1)] [])) t → Steps p.tables e below (s₁.setTop (entryFrame m #[(.ref b), (.int u), (.int v1)] 3)) t := fun t kk => pre0 t (by
      show Steps p.tables e below (s₁.setTop (mkF m 0 #[.val (.ref b), .val (.int u), .val (.int v1)] [])) _
      refine XS.aloadN X0.here hx rfl (hb hby d1_0) rfl rfl ?_
      show Steps p.tables e below (s₁.setTop (mkF m 1 #[.val (.ref b), .val (.int u), .val (.int v1)] [(.ref b)])) _
      refine st1 _ ?_
      show Steps p.tables e below (T1.setTop (mkF m 4 #[.val (.ref b), .val (.int u), .val (.int v1)] [])) _
      refine XS.aloadN X1.here hx rfl (hb hby d1_4) rfl rfl ?_
      show Steps p.tables e below (T1.setTop (mkF m 5 #[.val (.ref b), .val (.int u), .val (.int v1)] [(.ref b)])) _
      refine XS.iloadN X1.here hx rfl (hb hby d1_5) rfl ?_
      show Steps p.tables e below (T1.setTop (mkF m 6 #[.val (.ref b), .val (.int u), .val (.int v1)] [(.int u), (.ref b)])) _
      refine st2 _ ?_
      show Steps p.tables e below (T2.setTop (mkF m 9 #[.val (.ref b), .val (.int u), .val (.int v1)] [])) _
      refine XS.aloadN X2.here hx rfl (hb hby d1_9) rfl rfl ?_
      show Steps p.tables e below (T2.setTop (mkF m 10 #[.val (.ref b), .val (.int u), .val (.int v1)] [(.ref b)])) _
      refine XS.iloadN X2.here hx rfl (hb hby d1_10) rfl ?_
      show Steps p.tables e below (T2.setTop (mkF m 11 #[.val (.ref b), .val (.int u), .val (.int v1)] [(.int v1), (.ref b)])) _
      refine st8 _ ?_
      exact kk)
  obtain ⟨fs, hr, hrun, hended, hW, hsame⟩ := X8.leave (v := none) (fun _ => rfl)
  refine ⟨_, _, pre14 _ ?_, hrun, hended, _, _, rfl, ?_, ⟨_, rfl⟩, hW, hsame.mono (by decide) (by decide)⟩
  · show Steps p.tables e below (T8.setTop (mkF m 14 #[.val (.ref b), .val (.int u), .val (.int v1)] [])) _
    exact X8.returnOut hx Bd.returns (hb hby d1_14) hr
  · show QInit Z b u v1 h0 n0 _ T8.heap _
    rw [e8]
    exact ⟨rfl, N12, K11, Ex9, F10, F13⟩
theorem d3_0 : decode prog_2_method_4_code 0 = .ok (.new 8, 3) := by decide +kernel
theorem d3_3 : decode prog_2_method_4_code 3 = .ok (.dup, 1) := by decide +kernel
theorem d3_4 : decode prog_2_method_4_code 4 = .ok (.aload_n 0, 1) := by decide +kernel
theorem d3_5 : decode prog_2_method_4_code 5 = .ok (.getfield 7, 3) := by decide +kernel
theorem d3_8 : decode prog_2_method_4_code 8 = .ok (.aload_n 1, 1) := by decide +kernel
theorem d3_9 : decode prog_2_method_4_code 9 = .ok (.getfield 7, 3) := by decide +kernel
theorem d3_12 : decode prog_2_method_4_code 12 = .ok (.iadd, 1) := by decide +kernel
theorem d3_13 : decode prog_2_method_4_code 13 = .ok (.aload_n 0, 1) := by decide +kernel
theorem d3_14 : decode prog_2_method_4_code 14 = .ok (.getfield 13, 3) := by decide +kernel
theorem d3_17 : decode prog_2_method_4_code 17 = .ok (.aload_n 1, 1) := by decide +kernel
theorem d3_18 : decode prog_2_method_4_code 18 = .ok (.getfield 13, 3) := by decide +kernel
theorem d3_21 : decode prog_2_method_4_code 21 = .ok (.iadd, 1) := by decide +kernel
theorem d3_22 : decode prog_2_method_4_code 22 = .ok (.invokespecial 16, 3) := by decide +kernel
theorem pd_0 : parseMethodDescriptor "(II)V" = some ⟨[.int, .int], none⟩ := by decide +kernel
theorem d3_25 : decode prog_2_method_4_code 25 = .ok (.areturn, 1) := by decide +kernel
theorem ef_rmAnd (m : MethodId) (x0 : Addr) (x1 : Addr) : entryFrame m #[(.ref x0), (.ref x1)] 2 = mkF m 0 #[.val (.ref x0), .val (.ref x1)] [] := by first | (simp [entryFrame, mkF, argsToLocals, Value.category]; done) | rfl
def QAnd (Z : State) (b : Addr) (b2 : Addr) (x1 : Int32) (x2 : Int32) (y1 : Int32) (y2 : Int32) (h0 : Heap) (n0 : Nat) (v : Option Value) (h : Heap) (L : List Loc) : Prop := ∃ (nb : Addr), v = some (.ref nb) ∧ Fr n0 L ∧ Keep h0 h [] ∧ h0.size ≤ nb ∧ Exa Z h nb "com/example/deodar/deodar/AclChange" ∧ Fld Z h nb "com/example/deodar/deodar/AclChange" "aclsWritten" "I" (.int (x1 + y1)) ∧ Fld Z h nb "com/example/deodar/deodar/AclChange" "nodesRepointed" "I" (.int (x2 + y2))
set_option maxRecDepth 65536 in
set_option maxHeartbeats 40000000 in
theorem rmAnd (l : Launch) (Z : State) (a0 : Array Value) (hw : ∀ d ∈ tables_1, d.before a0 Z = true) (ws : List Jvm.Cond) (b : Addr) (b2 : Addr) (x1 : Int32) (x2 : Int32) (y1 : Int32) (y2 : Int32) (h0 : Heap) (n0 : Nat) (Z0 : n0 ≤ h0.size) (F_aclsWritten_b : Fld Z h0 b "com/example/deodar/deodar/AclChange" "aclsWritten" "I" (.int x1)) (F_nodesRepointed_b : Fld Z h0 b "com/example/deodar/deodar/AclChange" "nodesRepointed" "I" (.int x2)) (F_aclsWritten_b2 : Fld Z h0 b2 "com/example/deodar/deodar/AclChange" "aclsWritten" "I" (.int y1)) (F_nodesRepointed_b2 : Fld Z h0 b2 "com/example/deodar/deodar/AclChange" "nodesRepointed" "I" (.int y2)) :
    MetFree l (⟨"com/example/deodar/deodar/AclChange", "and", "(Lcom/example/deodar/deodar/AclChange;)Lcom/example/deodar/deodar/AclChange;"⟩ : MethodName) (head1 (Jvm.Cond.code (⟨"com/example/deodar/deodar/AclChange", "and", "(Lcom/example/deodar/deodar/AclChange;)Lcom/example/deodar/deodar/AclChange;"⟩ : MethodName) prog_2_method_4_code 2 (some (.object "com/example/deodar/deodar/AclChange")) :: ws) ({ frames := 2, cells := 1, slots := 2, locals := 27 } : Room)) (fun a U => a = #[(.ref b), (.ref b2)] ∧ Z.Warmed39 U.vm ∧ U.heap = h0) (fun _ _ _ _ _ => True) (fun _ U o U' => ∃ v L, o = .returned v ∧ QAnd Z b b2 x1 x2 y1 y2 h0 n0 v U'.heap L ∧ FrameEnd U o U' L ({ frames := 2, cells := 1, slots := 2, locals := 27 } : Room).cells ({ frames := 2, cells := 1, slots := 2, locals := 27 } : Room).slots) := by
  refine MetFree.of_bodySF (plainFor_of_name pn_0) hisR ?_
  intro p e s m args below meth c s₁ Bd hml0 hP hK
  obtain ⟨rfl, hZ, hh⟩ := hP
  have hx := Bd.exec
  have hby := Bd.bytes
  have hml : c.maxLocals = 2 := hml0
  have hown : s.vm.findClass "com/example/deodar/deodar/AclChange" = some m.cls := findClass_of_methodNamed Bd.named
  have hnm := (name_of_methodNamed Bd.named Bd.method).1
  have X0 : Stand p l e ({ frames := 2, cells := 1, slots := 2, locals := 27 } : Room) s m #[(.ref b), (.ref b2)] below meth c s₁ [] 0 0 := Stand.of_body Bd
  have e0 : s₁.heap = h0 := by rw [← hh, Bd.state]; rfl
  have N0 := Fr.nil n0
  have pre0 : ∀ t, Steps p.tables e below (s₁.setTop (mkF m 0 #[.val (.ref b), .val (.ref b2)] [])) t → Steps p.tables e below (s₁.setTop (entryFrame m #[(.ref b), (.ref b2)] 2)) t := fun t kk => castTop (ef_rmAnd m b b2) kk
  obtain ⟨T15, h15, X15, e15, E15, A15, D15, -, st15⟩ := newO X0 hx hZ hown (hw _ (List.mem_of_getElem? (i := 18) rfl)) (hw _ (List.mem_of_getElem? (i := 1) rfl)) (hw _ (List.mem_of_getElem? (i := 2) rfl)) e0 (g := (mkF m 0 #[.val (.ref b), .val (.ref b2)] [])) rfl (hb hby d3_0) (by decide) (by decide)
  obtain ⟨b15, gq15⟩ : ∃ z, z = h0.size := ⟨_, rfl⟩
  rw [← gq15] at A15 D15 st15
  have ne16 : b ≠ b15 := Nat.ne_of_lt (Nat.lt_of_lt_of_le F_aclsWritten_b.lt (Nat.le_of_eq gq15.symm))
  have ne17 : b2 ≠ b15 := Nat.ne_of_lt (Nat.lt_of_lt_of_le F_aclsWritten_b2.lt (Nat.le_of_eq gq15.symm))
  have g_b15 : n0 ≤ b15 := Nat.le_trans Z0 (Nat.le_of_eq gq15.symm)
  have sz_b15 : h0.size ≤ b15 := Nat.le_trans (Nat.le_refl _) (Nat.le_of_eq gq15.symm)
  have F18 : Fld Z h15 b "com/example/deodar/deodar/AclChange" "aclsWritten" "I" (.int x1) := (F_aclsWritten_b.ext E15)
  have F19 : Fld Z h15 b "com/example/deodar/deodar/AclChange" "nodesRepointed" "I" (.int x2) := (F_nodesRepointed_b.ext E15)
  have F20 : Fld Z h15 b2 "com/example/deodar/deodar/AclChange" "aclsWritten" "I" (.int y1) := (F_aclsWritten_b2.ext E15)
  have F21 : Fld Z h15 b2 "com/example/deodar/deodar/AclChange" "nodesRepointed" "I" (.int y2) := (F_nodesRepointed_b2.ext E15)
  have K22 : Keep h0 h15 [] := (Keep.refl h0 _).ext E15
  have F23 : Fld Z h15 b15 "com/example/deodar/deodar/AclChange" "aclsWritten" "I" (.int (0 : Int32)) := D15 (Or.inr (hw _ (List.mem_of_getElem? (i := 10) rfl))) (ty := .int) (by decide)
  have F24 : Fld Z h15 b15 "com/example/deodar/deodar/AclChange" "nodesRepointed" "I" (.int (0 : Int32)) := D15 (Or.inr (hw _ (List.mem_of_getElem? (i := 12) rfl))) (ty := .int) (by decide)
  obtain ⟨T25, X25, e25, st25⟩ := getF X15 hx hZ hown (host := "") (Or.inl (hw _ (List.mem_of_getElem? (i := 9) rfl))) Via.refl e15 F18 (g := (mkF m 5 #[.val (.ref b), .val (.ref b2)] [(.ref b), (.ref b15), (.ref b15)])) rfl rfl (hb hby d3_5)
  obtain ⟨T26, X26, e26, st26⟩ := getF X25 hx hZ hown (host := "") (Or.inl (hw _ (List.mem_of_getElem? (i := 9) rfl))) Via.refl e25 F20 (g := (mkF m 9 #[.val (.ref b), .val (.ref b2)] [(.ref b2), (.int x1), (.ref b15), (.ref b15)])) rfl rfl (hb hby d3_9)
  obtain ⟨T27, X27, e27, st27⟩ := getF X26 hx hZ hown (host := "") (Or.inl (hw _ (List.mem_of_getElem? (i := 11) rfl))) Via.refl e26 F19 (g := (mkF m 14 #[.val (.ref b), .val (.ref b2)] [(.ref b), (.int (x1 + y1)), (.ref b15), (.ref b15)])) rfl rfl (hb hby d3_14)
  obtain ⟨T28, X28, e28, st28⟩ := getF X27 hx hZ hown (host := "") (Or.inl (hw _ (List.mem_of_getElem? (i := 11) rfl))) Via.refl e27 F21 (g := (mkF m 18 #[.val (.ref b), .val (.ref b2)] [(.ref b2), (.int x2), (.int (x1 + y1)), (.ref b15), (.ref b15)])) rfl rfl (hb hby d3_18)
  obtain ⟨_, _, ⟨T29, L29, k29, n29⟩, -, X29, ⟨Lc29, hQ29, l29, y29, z29⟩, st29⟩ := X28.specialBack hx (y := (⟨"com/example/deodar/deodar/AclChange", "<init>", "(II)V"⟩ : MethodName)) rfl hown (mvT hZ (hw _ (List.mem_of_getElem? (i := 19) rfl))) (mvT hZ (hw _ (List.mem_of_getElem? (i := 4) rfl))) (mvT hZ (hw _ (List.mem_of_getElem? (i := 5) rfl))) (by decide) (backOf (W := 1) (rmInit l Z a0 hw [] b15 (x1 + y1) (x2 + y2) h15 n0 (Nat.le_trans Z0 K22.1) A15 F23 F24 g_b15) hZ (hw _ (List.mem_of_getElem? (i := 5) rfl)) (hw _ (List.mem_of_getElem? (i := 2) rfl)) (by decide) (by decide)) (g := (mkF m 22 #[.val (.ref b), .val (.ref b2)] [(.int (x2 + y2)), (.int (x1 + y1)), (.ref b15), (.ref b15)])) rfl (by rw [hml]; rfl) (Steps.refl _) (a := b15) (argsL := [(.int (x1 + y1)), (.int (x2 + y2))]) (rest := [(.ref b15)]) (lenOf pd_0 rfl) rfl (by show 2 * 0 + _ ≤ _; exact Nat.le_of_eq rfl) (hb hby d3_22) (fun _ _ => ⟨rfl, e28, (by decide : 1 + 0 ≤ _), (by decide : 2 + 0 ≤ _)⟩)
  dsimp only [Pt.U, Pt.locs, Pt.cells, Pt.slots] at X29 l29 y29 z29 st29 hQ29
  subst l29 y29 z29
  obtain ⟨rfl, N29q, K29q, P29_0, P29_1, P29_2⟩ := hQ29
  have N29 := Fr.app N0 N29q
  have F30 : Fld Z T29.heap b "com/example/deodar/deodar/AclChange" "aclsWritten" "I" (.int x1) := (F18.keep K29q (ninS ne16 nin0))
  have F31 : Fld Z T29.heap b "com/example/deodar/deodar/AclChange" "nodesRepointed" "I" (.int x2) := (F19.keep K29q (ninS ne16 nin0))
  have F32 : Fld Z T29.heap b2 "com/example/deodar/deodar/AclChange" "aclsWritten" "I" (.int y1) := (F20.keep K29q (ninS ne17 nin0))
  have F33 : Fld Z T29.heap b2 "com/example/deodar/deodar/AclChange" "nodesRepointed" "I" (.int y2) := (F21.keep K29q (ninS ne17 nin0))
  have Ex34 : Exa Z T29.heap b15 "com/example/deodar/deodar/AclChange" := (A15.keep K29q)
  have K35 : Keep h0 T29.heap [] := K22.trans K29q (allS (Or.inr sz_b15) all0)
  have pre36 : ∀ t, Steps p.tables e below (T29.setTop (mkF m 25 #[.val (.ref b), .val (.ref b2)] [(.ref b15)])) t → Steps p.tables e below (s₁.setTop (entryFrame m #[(.ref b), (.ref b2)] 2)) t := fun t kk => pre0 t (by
      show Steps p.tables e below (s₁.setTop (mkF m 0 #[.val (.ref b), .val (.ref b2)] [])) _
      refine st15 _ ?_
      show Steps p.tables e below (T15.setTop (mkF m 3 #[.val (.ref b), .val (.ref b2)] [(.ref b15)])) _
      refine XS.dup X15.here hx rfl (hb hby d3_3) rfl rfl ?_
      show Steps p.tables e below (T15.setTop (mkF m 4 #[.val (.ref b), .val (.ref b2)] [(.ref b15), (.ref b15)])) _
      refine XS.aloadN X15.here hx rfl (hb hby d3_4) rfl rfl ?_
      show Steps p.tables e below (T15.setTop (mkF m 5 #[.val (.ref b), .val (.ref b2)] [(.ref b), (.ref b15), (.ref b15)])) _
      refine st25 _ ?_
      show Steps p.tables e below (T25.setTop (mkF m 8 #[.val (.ref b), .val (.ref b2)] [(.int x1), (.ref b15), (.ref b15)])) _
      refine XS.aloadN X25.here hx rfl (hb hby d3_8) rfl rfl ?_
      show Steps p.tables e below (T25.setTop (mkF m 9 #[.val (.ref b), .val (.ref b2)] [(.ref b2), (.int x1), (.ref b15), (.ref b15)])) _
      refine st26 _ ?_
      show Steps p.tables e below (T26.setTop (mkF m 12 #[.val (.ref b), .val (.ref b2)] [(.int y1), (.int x1), (.ref b15), (.ref b15)])) _
      refine XS.iadd X26.here hx rfl (hb hby d3_12) rfl ?_
      show Steps p.tables e below (T26.setTop (mkF m 13 #[.val (.ref b), .val (.ref b2)] [(.int (x1 + y1)), (.ref b15), (.ref b15)])) _
      refine XS.aloadN X26.here hx rfl (hb hby d3_13) rfl rfl ?_
      show Steps p.tables e below (T26.setTop (mkF m 14 #[.val (.ref b), .val (.ref b2)] [(.ref b), (.int (x1 + y1)), (.ref b15), (.ref b15)])) _
      refine st27 _ ?_
      show Steps p.tables e below (T27.setTop (mkF m 17 #[.val (.ref b), .val (.ref b2)] [(.int x2), (.int (x1 + y1)), (.ref b15), (.ref b15)])) _
      refine XS.aloadN X27.here hx rfl (hb hby d3_17) rfl rfl ?_
      show Steps p.tables e below (T27.setTop (mkF m 18 #[.val (.ref b), .val (.ref b2)] [(.ref b2), (.int x2), (.int (x1 + y1)), (.ref b15), (.ref b15)])) _
      refine st28 _ ?_
      show Steps p.tables e below (T28.setTop (mkF m 21 #[.val (.ref b), .val (.ref b2)] [(.int y2), (.int x2), (.int (x1 + y1)), (.ref b15), (.ref b15)])) _
      refine XS.iadd X28.here hx rfl (hb hby d3_21) rfl ?_
      show Steps p.tables e below (T28.setTop (mkF m 22 #[.val (.ref b), .val (.ref b2)] [(.int (x2 + y2)), (.int (x1 + y1)), (.ref b15), (.ref b15)])) _
      refine st29.trans ?_
      exact kk)
  obtain ⟨fs, hr, hrun, hended, hW, hsame⟩ := X29.leave (v := some (.ref b15)) (fun h => by rw [Bd.returns] at h; cases h)
  refine ⟨_, _, pre36 _ ?_, hrun, hended, _, _, rfl, ?_, ⟨_, rfl⟩, hW, hsame.mono (by decide) (by decide)⟩
  · show Steps p.tables e below (T29.setTop (mkF m 25 #[.val (.ref b), .val (.ref b2)] [(.ref b15)])) _
    exact retOut X29 hx Bd.returns rfl (Or.inr (Or.inr (Or.inr (Or.inr ⟨rfl, rfl, rfl⟩)))) (hb hby d3_25) hr
  · show QAnd Z b b2 x1 x2 y1 y2 h0 n0 _ T29.heap _
    exact ⟨b15, rfl, N29, K35, sz_b15, P29_0, P29_1, P29_2⟩
theorem d4_0 : decode prog_2_method_2_code 0 = .ok (.aload_n 0, 1) := by decide +kernel
theorem d4_1 : decode prog_2_method_2_code 1 = .ok (.getfield 7, 3) := by decide +kernel
theorem d4_4 : decode prog_2_method_2_code 4 = .ok (.ireturn, 1) := by decide +kernel
theorem ef_rmA (m : MethodId) (x0 : Addr) : entryFrame m #[(.ref x0)] 1 = mkF m 0 #[.val (.ref x0)] [] := by first | (simp [entryFrame, mkF, argsToLocals, Value.category]; done) | rfl
def QA (Z : State) (b : Addr) (x1 : Int32) (h0 : Heap) (n0 : Nat) (v : Option Value) (h : Heap) (L : List Loc) : Prop := v = some (.int x1) ∧ Fr n0 L ∧ h = h0
set_option maxRecDepth 65536 in
set_option maxHeartbeats 40000000 in
theorem rmA (l : Launch) (Z : State) (a0 : Array Value) (hw : ∀ d ∈ tables_1, d.before a0 Z = true) (ws : List Jvm.Cond) (b : Addr) (x1 : Int32) (h0 : Heap) (n0 : Nat) (Z0 : n0 ≤ h0.size) (F_aclsWritten_b : Fld Z h0 b "com/example/deodar/deodar/AclChange" "aclsWritten" "I" (.int x1)) :
    MetFree l (⟨"com/example/deodar/deodar/AclChange", "aclsWritten", "()I"⟩ : MethodName) (head1 (Jvm.Cond.code (⟨"com/example/deodar/deodar/AclChange", "aclsWritten", "()I"⟩ : MethodName) prog_2_method_2_code 1 (some .int) :: ws) ({ frames := 0, cells := 0, slots := 0, locals := 0 } : Room)) (fun a U => a = #[(.ref b)] ∧ Z.Warmed39 U.vm ∧ U.heap = h0) (fun _ _ _ _ _ => True) (fun _ U o U' => ∃ v L, o = .returned v ∧ QA Z b x1 h0 n0 v U'.heap L ∧ FrameEnd U o U' L ({ frames := 0, cells := 0, slots := 0, locals := 0 } : Room).cells ({ frames := 0, cells := 0, slots := 0, locals := 0 } : Room).slots) := by
  refine MetFree.of_bodySF (plainFor_of_name pn_0) hisR ?_
  intro p e s m args below meth c s₁ Bd hml0 hP hK
  obtain ⟨rfl, hZ, hh⟩ := hP
  have hx := Bd.exec
  have hby := Bd.bytes
  have hml : c.maxLocals = 1 := hml0
  have hown : s.vm.findClass "com/example/deodar/deodar/AclChange" = some m.cls := findClass_of_methodNamed Bd.named
  have hnm := (name_of_methodNamed Bd.named Bd.method).1
  have X0 : Stand p l e ({ frames := 0, cells := 0, slots := 0, locals := 0 } : Room) s m #[(.ref b)] below meth c s₁ [] 0 0 := Stand.of_body Bd
  have e0 : s₁.heap = h0 := by rw [← hh, Bd.state]; rfl
  have N0 := Fr.nil n0
  have pre0 : ∀ t, Steps p.tables e below (s₁.setTop (mkF m 0 #[.val (.ref b)] [])) t → Steps p.tables e below (s₁.setTop (entryFrame m #[(.ref b)] 1)) t := fun t kk => castTop (ef_rmA m b) kk
  obtain ⟨T37, X37, e37, st37⟩ := getF X0 hx hZ hown (host := "") (Or.inl (hw _ (List.mem_of_getElem? (i := 9) rfl))) Via.refl e0 F_aclsWritten_b (g := (mkF m 1 #[.val (.ref b)] [(.ref b)])) rfl rfl (hb hby d4_1)
  have pre38 : ∀ t, Steps p.tables e below (T37.setTop (mkF m 4 #[.val (.ref b)] [(.int x1)])) t → Steps p.tables e below (s₁.setTop (entryFrame m #[(.ref b)] 1)) t := fun t kk => pre0 t (by
      show Steps p.tables e below (s₁.setTop (mkF m 0 #[.val (.ref b)] [])) _
      refine XS.aloadN X0.here hx rfl (hb hby d4_0) rfl rfl ?_
      show Steps p.tables e below (s₁.setTop (mkF m 1 #[.val (.ref b)] [(.ref b)])) _
      refine st37 _ ?_
      exact kk)
  obtain ⟨fs, hr, hrun, hended, hW, hsame⟩ := X37.leave (v := some (.int x1)) (fun h => by rw [Bd.returns] at h; cases h)
  refine ⟨_, _, pre38 _ ?_, hrun, hended, _, _, rfl, ?_, ⟨_, rfl⟩, hW, hsame.mono (by decide) (by decide)⟩
  · show Steps p.tables e below (T37.setTop (mkF m 4 #[.val (.ref b)] [(.int x1)])) _
    exact retOut X37 hx Bd.returns rfl (Or.inl ⟨rfl, Or.inl rfl, _, rfl⟩) (hb hby d4_4) hr
  · show QA Z b x1 h0 n0 _ T37.heap _
    rw [e37]
    exact ⟨rfl, N0, rfl⟩
theorem d5_0 : decode prog_2_method_3_code 0 = .ok (.aload_n 0, 1) := by decide +kernel
theorem d5_1 : decode prog_2_method_3_code 1 = .ok (.getfield 13, 3) := by decide +kernel
theorem d5_4 : decode prog_2_method_3_code 4 = .ok (.ireturn, 1) := by decide +kernel
theorem ef_rmN (m : MethodId) (x0 : Addr) : entryFrame m #[(.ref x0)] 1 = mkF m 0 #[.val (.ref x0)] [] := by first | (simp [entryFrame, mkF, argsToLocals, Value.category]; done) | rfl
def QN (Z : State) (b : Addr) (x1 : Int32) (h0 : Heap) (n0 : Nat) (v : Option Value) (h : Heap) (L : List Loc) : Prop := v = some (.int x1) ∧ Fr n0 L ∧ h = h0
set_option maxRecDepth 65536 in
set_option maxHeartbeats 40000000 in
theorem rmN (l : Launch) (Z : State) (a0 : Array Value) (hw : ∀ d ∈ tables_1, d.before a0 Z = true) (ws : List Jvm.Cond) (b : Addr) (x1 : Int32) (h0 : Heap) (n0 : Nat) (Z0 : n0 ≤ h0.size) (F_nodesRepointed_b : Fld Z h0 b "com/example/deodar/deodar/AclChange" "nodesRepointed" "I" (.int x1)) :
    MetFree l (⟨"com/example/deodar/deodar/AclChange", "nodesRepointed", "()I"⟩ : MethodName) (head1 (Jvm.Cond.code (⟨"com/example/deodar/deodar/AclChange", "nodesRepointed", "()I"⟩ : MethodName) prog_2_method_3_code 1 (some .int) :: ws) ({ frames := 0, cells := 0, slots := 0, locals := 0 } : Room)) (fun a U => a = #[(.ref b)] ∧ Z.Warmed39 U.vm ∧ U.heap = h0) (fun _ _ _ _ _ => True) (fun _ U o U' => ∃ v L, o = .returned v ∧ QN Z b x1 h0 n0 v U'.heap L ∧ FrameEnd U o U' L ({ frames := 0, cells := 0, slots := 0, locals := 0 } : Room).cells ({ frames := 0, cells := 0, slots := 0, locals := 0 } : Room).slots) := by
  refine MetFree.of_bodySF (plainFor_of_name pn_0) hisR ?_
  intro p e s m args below meth c s₁ Bd hml0 hP hK
  obtain ⟨rfl, hZ, hh⟩ := hP
  have hx := Bd.exec
  have hby := Bd.bytes
  have hml : c.maxLocals = 1 := hml0
  have hown : s.vm.findClass "com/example/deodar/deodar/AclChange" = some m.cls := findClass_of_methodNamed Bd.named
  have hnm := (name_of_methodNamed Bd.named Bd.method).1
  have X0 : Stand p l e ({ frames := 0, cells := 0, slots := 0, locals := 0 } : Room) s m #[(.ref b)] below meth c s₁ [] 0 0 := Stand.of_body Bd
  have e0 : s₁.heap = h0 := by rw [← hh, Bd.state]; rfl
  have N0 := Fr.nil n0
  have pre0 : ∀ t, Steps p.tables e below (s₁.setTop (mkF m 0 #[.val (.ref b)] [])) t → Steps p.tables e below (s₁.setTop (entryFrame m #[(.ref b)] 1)) t := fun t kk => castTop (ef_rmN m b) kk
  obtain ⟨T39, X39, e39, st39⟩ := getF X0 hx hZ hown (host := "") (Or.inl (hw _ (List.mem_of_getElem? (i := 11) rfl))) Via.refl e0 F_nodesRepointed_b (g := (mkF m 1 #[.val (.ref b)] [(.ref b)])) rfl rfl (hb hby d5_1)
  have pre40 : ∀ t, Steps p.tables e below (T39.setTop (mkF m 4 #[.val (.ref b)] [(.int x1)])) t → Steps p.tables e below (s₁.setTop (entryFrame m #[(.ref b)] 1)) t := fun t kk => pre0 t (by
      show Steps p.tables e below (s₁.setTop (mkF m 0 #[.val (.ref b)] [])) _
      refine XS.aloadN X0.here hx rfl (hb hby d5_0) rfl rfl ?_
      show Steps p.tables e below (s₁.setTop (mkF m 1 #[.val (.ref b)] [(.ref b)])) _
      refine st39 _ ?_
      exact kk)
  obtain ⟨fs, hr, hrun, hended, hW, hsame⟩ := X39.leave (v := some (.int x1)) (fun h => by rw [Bd.returns] at h; cases h)
  refine ⟨_, _, pre40 _ ?_, hrun, hended, _, _, rfl, ?_, ⟨_, rfl⟩, hW, hsame.mono (by decide) (by decide)⟩
  · show Steps p.tables e below (T39.setTop (mkF m 4 #[.val (.ref b)] [(.int x1)])) _
    exact retOut X39 hx Bd.returns rfl (Or.inl ⟨rfl, Or.inl rfl, _, rfl⟩) (hb hby d5_4) hr
  · show QN Z b x1 h0 n0 _ T39.heap _
    rw [e39]
    exact ⟨rfl, N0, rfl⟩
theorem d6_0 : decode prog_2_method_5_code 0 = .ok (.aload_n 1, 1) := by decide +kernel
theorem d6_1 : decode prog_2_method_5_code 1 = .ok (.instanceof 8, 3) := by decide +kernel
theorem d6_4 : decode prog_2_method_5_code 4 = .ok (.ifCond .eq 34, 3) := by decide +kernel
theorem d6_7 : decode prog_2_method_5_code 7 = .ok (.aload_n 1, 1) := by decide +kernel
theorem d6_8 : decode prog_2_method_5_code 8 = .ok (.checkcast 8, 3) := by decide +kernel
theorem d6_11 : decode prog_2_method_5_code 11 = .ok (.astore_n 2, 1) := by decide +kernel
theorem d6_12 : decode prog_2_method_5_code 12 = .ok (.aload_n 2, 1) := by decide +kernel
theorem d6_13 : decode prog_2_method_5_code 13 = .ok (.getfield 7, 3) := by decide +kernel
theorem d6_16 : decode prog_2_method_5_code 16 = .ok (.aload_n 0, 1) := by decide +kernel
theorem d6_17 : decode prog_2_method_5_code 17 = .ok (.getfield 7, 3) := by decide +kernel
theorem d6_20 : decode prog_2_method_5_code 20 = .ok (.if_icmp .ne 18, 3) := by decide +kernel
theorem d6_23 : decode prog_2_method_5_code 23 = .ok (.aload_n 2, 1) := by decide +kernel
theorem d6_24 : decode prog_2_method_5_code 24 = .ok (.getfield 13, 3) := by decide +kernel
theorem d6_27 : decode prog_2_method_5_code 27 = .ok (.aload_n 0, 1) := by decide +kernel
theorem d6_28 : decode prog_2_method_5_code 28 = .ok (.getfield 13, 3) := by decide +kernel
theorem d6_31 : decode prog_2_method_5_code 31 = .ok (.if_icmp .ne 7, 3) := by decide +kernel
theorem d6_34 : decode prog_2_method_5_code 34 = .ok (.iconst 1, 1) := by decide +kernel
theorem d6_35 : decode prog_2_method_5_code 35 = .ok (.goto 4, 3) := by decide +kernel
theorem d6_38 : decode prog_2_method_5_code 38 = .ok (.iconst 0, 1) := by decide +kernel
def own_eq (x1 : Int32) (x2 : Int32) (y1 : Int32) (y2 : Int32) : Int32 := (if y1 = x1 then (if y2 = x2 then (1 : Int32) else (0 : Int32)) else (0 : Int32))
theorem d6_39 : decode prog_2_method_5_code 39 = .ok (.ireturn, 1) := by decide +kernel
theorem ef_rmEq (m : MethodId) (x0 : Addr) (x1 : Addr) : entryFrame m #[(.ref x0), (.ref x1)] 3 = mkF m 0 #[.val (.ref x0), .val (.ref x1), .unset] [] := by first | (simp [entryFrame, mkF, argsToLocals, Value.category]; done) | rfl
def QEq (Z : State) (b : Addr) (b2 : Addr) (x1 : Int32) (x2 : Int32) (y1 : Int32) (y2 : Int32) (h0 : Heap) (n0 : Nat) (v : Option Value) (h : Heap) (L : List Loc) : Prop := v = some (.int (own_eq x1 x2 y1 y2)) ∧ Fr n0 L ∧ h = h0
set_option maxRecDepth 65536 in
set_option maxHeartbeats 40000000 in
theorem rmEq (l : Launch) (Z : State) (a0 : Array Value) (hw : ∀ d ∈ tables_1, d.before a0 Z = true) (ws : List Jvm.Cond) (b : Addr) (b2 : Addr) (x1 : Int32) (x2 : Int32) (y1 : Int32) (y2 : Int32) (h0 : Heap) (n0 : Nat) (Z0 : n0 ≤ h0.size) (E_b2 : Exa Z h0 b2 "com/example/deodar/deodar/AclChange") (F_aclsWritten_b : Fld Z h0 b "com/example/deodar/deodar/AclChange" "aclsWritten" "I" (.int x1)) (F_nodesRepointed_b : Fld Z h0 b "com/example/deodar/deodar/AclChange" "nodesRepointed" "I" (.int x2)) (F_aclsWritten_b2 : Fld Z h0 b2 "com/example/deodar/deodar/AclChange" "aclsWritten" "I" (.int y1)) (F_nodesRepointed_b2 : Fld Z h0 b2 "com/example/deodar/deodar/AclChange" "nodesRepointed" "I" (.int y2)) :
    MetFree l (⟨"com/example/deodar/deodar/AclChange", "equals", "(Ljava/lang/Object;)Z"⟩ : MethodName) (head1 (Jvm.Cond.code (⟨"com/example/deodar/deodar/AclChange", "equals", "(Ljava/lang/Object;)Z"⟩ : MethodName) prog_2_method_5_code 3 (some .boolean) :: ws) ({ frames := 0, cells := 0, slots := 0, locals := 0 } : Room)) (fun a U => a = #[(.ref b), (.ref b2)] ∧ Z.Warmed39 U.vm ∧ U.heap = h0) (fun _ _ _ _ _ => True) (fun _ U o U' => ∃ v L, o = .returned v ∧ QEq Z b b2 x1 x2 y1 y2 h0 n0 v U'.heap L ∧ FrameEnd U o U' L ({ frames := 0, cells := 0, slots := 0, locals := 0 } : Room).cells ({ frames := 0, cells := 0, slots := 0, locals := 0 } : Room).slots) := by
  refine MetFree.of_bodySF (plainFor_of_name pn_0) hisR ?_
  intro p e s m args below meth c s₁ Bd hml0 hP hK
  obtain ⟨rfl, hZ, hh⟩ := hP
  have hx := Bd.exec
  have hby := Bd.bytes
  have hml : c.maxLocals = 3 := hml0
  have hown : s.vm.findClass "com/example/deodar/deodar/AclChange" = some m.cls := findClass_of_methodNamed Bd.named
  have hnm := (name_of_methodNamed Bd.named Bd.method).1
  have X0 : Stand p l e ({ frames := 0, cells := 0, slots := 0, locals := 0 } : Room) s m #[(.ref b), (.ref b2)] below meth c s₁ [] 0 0 := Stand.of_body Bd
  have e0 : s₁.heap = h0 := by rw [← hh, Bd.state]; rfl
  have N0 := Fr.nil n0
  have pre0 : ∀ t, Steps p.tables e below (s₁.setTop (mkF m 0 #[.val (.ref b), .val (.ref b2), .unset] [])) t → Steps p.tables e below (s₁.setTop (entryFrame m #[(.ref b), (.ref b2)] 3)) t := fun t kk => castTop (ef_rmEq m b b2) kk
  obtain ⟨T41, X41, e41, st41⟩ := instY X0 hx hZ hown (hw _ (List.mem_of_getElem? (i := 18) rfl)) e0 (Ins.self E_b2) (g := (mkF m 1 #[.val (.ref b), .val (.ref b2), .unset] [(.ref b2)])) rfl rfl (hb hby d6_1)
  obtain ⟨T42, X42, e42, st42⟩ := castY X41 hx hZ hown (hw _ (List.mem_of_getElem? (i := 18) rfl)) e41 (Ins.self E_b2) (g := (mkF m 8 #[.val (.ref b), .val (.ref b2), .unset] [(.ref b2)])) rfl rfl (hb hby d6_8)
  obtain ⟨T43, X43, e43, st43⟩ := getF X42 hx hZ hown (host := "") (Or.inl (hw _ (List.mem_of_getElem? (i := 9) rfl))) Via.refl e42 F_aclsWritten_b2 (g := (mkF m 13 #[.val (.ref b), .val (.ref b2), .val (.ref b2)] [(.ref b2)])) rfl rfl (hb hby d6_13)
  obtain ⟨T44, X44, e44, st44⟩ := getF X43 hx hZ hown (host := "") (Or.inl (hw _ (List.mem_of_getElem? (i := 9) rfl))) Via.refl e43 F_aclsWritten_b (g := (mkF m 17 #[.val (.ref b), .val (.ref b2), .val (.ref b2)] [(.ref b), (.int y1)])) rfl rfl (hb hby d6_17)
  have pre45 : ∀ t, Steps p.tables e below (T44.setTop (mkF m 20 #[.val (.ref b), .val (.ref b2), .val (.ref b2)] [(.int x1), (.int y1)])) t → Steps p.tables e below (s₁.setTop (entryFrame m #[(.ref b), (.ref b2)] 3)) t := fun t kk => pre0 t (by
      show Steps p.tables e below (s₁.setTop (mkF m 0 #[.val (.ref b), .val (.ref b2), .unset] [])) _
      refine XS.aloadN X0.here hx rfl (hb hby d6_0) rfl rfl ?_
      show Steps p.tables e below (s₁.setTop (mkF m 1 #[.val (.ref b), .val (.ref b2), .unset] [(.ref b2)])) _
      refine st41 _ ?_
      show Steps p.tables e below (T41.setTop (mkF m 4 #[.val (.ref b), .val (.ref b2), .unset] [(.int (1 : Int32))])) _
      refine XS.ifNo X41.here hx rfl (hb hby d6_4) rfl ((if0 _ _).trans (feq (by decide : ¬ ((1 : Int32) = (0 : Int32)))).1) ?_
      show Steps p.tables e below (T41.setTop (mkF m 7 #[.val (.ref b), .val (.ref b2), .unset] [])) _
      refine XS.aloadN X41.here hx rfl (hb hby d6_7) rfl rfl ?_
      show Steps p.tables e below (T41.setTop (mkF m 8 #[.val (.ref b), .val (.ref b2), .unset] [(.ref b2)])) _
      refine st42 _ ?_
      show Steps p.tables e below (T42.setTop (mkF m 11 #[.val (.ref b), .val (.ref b2), .unset] [(.ref b2)])) _
      refine XS.astoreN X42.here hx rfl (hb hby d6_11) rfl rfl (l' := #[.val (.ref b), .val (.ref b2), .val (.ref b2)]) rfl ?_
      show Steps p.tables e below (T42.setTop (mkF m 12 #[.val (.ref b), .val (.ref b2), .val (.ref b2)] [])) _
      refine XS.aloadN X42.here hx rfl (hb hby d6_12) rfl rfl ?_
      show Steps p.tables e below (T42.setTop (mkF m 13 #[.val (.ref b), .val (.ref b2), .val (.ref b2)] [(.ref b2)])) _
      refine st43 _ ?_
      show Steps p.tables e below (T43.setTop (mkF m 16 #[.val (.ref b), .val (.ref b2), .val (.ref b2)] [(.int y1)])) _
      refine XS.aloadN X43.here hx rfl (hb hby d6_16) rfl rfl ?_
      show Steps p.tables e below (T43.setTop (mkF m 17 #[.val (.ref b), .val (.ref b2), .val (.ref b2)] [(.ref b), (.int y1)])) _
      refine st44 _ ?_
      exact kk)
  by_cases hc46 : y1 = x1
  · obtain ⟨T47, X47, e47, st47⟩ := getF X44 hx hZ hown (host := "") (Or.inl (hw _ (List.mem_of_getElem? (i := 11) rfl))) Via.refl e44 F_nodesRepointed_b2 (g := (mkF m 24 #[.val (.ref b), .val (.ref b2), .val (.ref b2)] [(.ref b2)])) rfl rfl (hb hby d6_24)
    obtain ⟨T48, X48, e48, st48⟩ := getF X47 hx hZ hown (host := "") (Or.inl (hw _ (List.mem_of_getElem? (i := 11) rfl))) Via.refl e47 F_nodesRepointed_b (g := (mkF m 28 #[.val (.ref b), .val (.ref b2), .val (.ref b2)] [(.ref b), (.int y2)])) rfl rfl (hb hby d6_28)
    have pre49 : ∀ t, Steps p.tables e below (T48.setTop (mkF m 31 #[.val (.ref b), .val (.ref b2), .val (.ref b2)] [(.int x2), (.int y2)])) t → Steps p.tables e below (s₁.setTop (entryFrame m #[(.ref b), (.ref b2)] 3)) t := fun t kk => pre45 t (by
        show Steps p.tables e below (T44.setTop (mkF m 20 #[.val (.ref b), .val (.ref b2), .val (.ref b2)] [(.int x1), (.int y1)])) _
        refine XS.icmpNo X44.here hx rfl (hb hby d6_20) rfl (teq hc46).2 ?_
        show Steps p.tables e below (T44.setTop (mkF m 23 #[.val (.ref b), .val (.ref b2), .val (.ref b2)] [])) _
        refine XS.aloadN X44.here hx rfl (hb hby d6_23) rfl rfl ?_
        show Steps p.tables e below (T44.setTop (mkF m 24 #[.val (.ref b), .val (.ref b2), .val (.ref b2)] [(.ref b2)])) _
        refine st47 _ ?_
        show Steps p.tables e below (T47.setTop (mkF m 27 #[.val (.ref b), .val (.ref b2), .val (.ref b2)] [(.int y2)])) _
        refine XS.aloadN X47.here hx rfl (hb hby d6_27) rfl rfl ?_
        show Steps p.tables e below (T47.setTop (mkF m 28 #[.val (.ref b), .val (.ref b2), .val (.ref b2)] [(.ref b), (.int y2)])) _
        refine st48 _ ?_
        exact kk)
    by_cases hc50 : y2 = x2
    · have pre51 : ∀ t, Steps p.tables e below (T48.setTop (mkF m 39 #[.val (.ref b), .val (.ref b2), .val (.ref b2)] [(.int (1 : Int32))])) t → Steps p.tables e below (s₁.setTop (entryFrame m #[(.ref b), (.ref b2)] 3)) t := fun t kk => pre49 t (by
          show Steps p.tables e below (T48.setTop (mkF m 31 #[.val (.ref b), .val (.ref b2), .val (.ref b2)] [(.int x2), (.int y2)])) _
          refine XS.icmpNo X48.here hx rfl (hb hby d6_31) rfl (teq hc50).2 ?_
          show Steps p.tables e below (T48.setTop (mkF m 34 #[.val (.ref b), .val (.ref b2), .val (.ref b2)] [])) _
          refine XS.iconst X48.here hx rfl (hb hby d6_34) ?_
          show Steps p.tables e below (T48.setTop (mkF m 35 #[.val (.ref b), .val (.ref b2), .val (.ref b2)] [(.int (1 : Int32))])) _
          refine XS.goto X48.here hx rfl (pc0 := 35) (pc' := 39) rfl (hb hby d6_35) (by decide) (by decide) ?_
          exact kk)
      obtain ⟨fs, hr, hrun, hended, hW, hsame⟩ := X48.leave (v := some (.int (1 : Int32))) (fun h => by rw [Bd.returns] at h; cases h)
      refine ⟨_, _, pre51 _ ?_, hrun, hended, _, _, rfl, ?_, ⟨_, rfl⟩, hW, hsame.mono (by decide) (by decide)⟩
      · show Steps p.tables e below (T48.setTop (mkF m 39 #[.val (.ref b), .val (.ref b2), .val (.ref b2)] [(.int (1 : Int32))])) _
        exact retN X48 hx (t := .boolean) Bd.returns (by simp) (hb hby d6_39) hr
      · show QEq Z b b2 x1 x2 y1 y2 h0 n0 _ T48.heap _
        rw [e48]
        exact ⟨(by unfold own_eq; rw [if_pos hc46, if_pos hc50]), N0, rfl⟩
    · have pre52 : ∀ t, Steps p.tables e below (T48.setTop (mkF m 39 #[.val (.ref b), .val (.ref b2), .val (.ref b2)] [(.int (0 : Int32))])) t → Steps p.tables e below (s₁.setTop (entryFrame m #[(.ref b), (.ref b2)] 3)) t := fun t kk => pre49 t (by
          show Steps p.tables e below (T48.setTop (mkF m 31 #[.val (.ref b), .val (.ref b2), .val (.ref b2)] [(.int x2), (.int y2)])) _
          refine XS.icmpYes X48.here hx rfl (pc0 := 31) (pc' := 38) rfl (hb hby d6_31) rfl (feq hc50).2 (by decide) (by decide) ?_
          show Steps p.tables e below (T48.setTop (mkF m 38 #[.val (.ref b), .val (.ref b2), .val (.ref b2)] [])) _
          refine XS.iconst X48.here hx rfl (hb hby d6_38) ?_
          exact kk)
      obtain ⟨fs, hr, hrun, hended, hW, hsame⟩ := X48.leave (v := some (.int (0 : Int32))) (fun h => by rw [Bd.returns] at h; cases h)
      refine ⟨_, _, pre52 _ ?_, hrun, hended, _, _, rfl, ?_, ⟨_, rfl⟩, hW, hsame.mono (by decide) (by decide)⟩
      · show Steps p.tables e below (T48.setTop (mkF m 39 #[.val (.ref b), .val (.ref b2), .val (.ref b2)] [(.int (0 : Int32))])) _
        exact retN X48 hx (t := .boolean) Bd.returns (by simp) (hb hby d6_39) hr
      · show QEq Z b b2 x1 x2 y1 y2 h0 n0 _ T48.heap _
        rw [e48]
        exact ⟨(by unfold own_eq; rw [if_pos hc46, if_neg hc50]), N0, rfl⟩
  · have pre53 : ∀ t, Steps p.tables e below (T44.setTop (mkF m 39 #[.val (.ref b), .val (.ref b2), .val (.ref b2)] [(.int (0 : Int32))])) t → Steps p.tables e below (s₁.setTop (entryFrame m #[(.ref b), (.ref b2)] 3)) t := fun t kk => pre45 t (by
        show Steps p.tables e below (T44.setTop (mkF m 20 #[.val (.ref b), .val (.ref b2), .val (.ref b2)] [(.int x1), (.int y1)])) _
        refine XS.icmpYes X44.here hx rfl (pc0 := 20) (pc' := 38) rfl (hb hby d6_20) rfl (feq hc46).2 (by decide) (by decide) ?_
        show Steps p.tables e below (T44.setTop (mkF m 38 #[.val (.ref b), .val (.ref b2), .val (.ref b2)] [])) _
        refine XS.iconst X44.here hx rfl (hb hby d6_38) ?_
        exact kk)
    obtain ⟨fs, hr, hrun, hended, hW, hsame⟩ := X44.leave (v := some (.int (0 : Int32))) (fun h => by rw [Bd.returns] at h; cases h)
    refine ⟨_, _, pre53 _ ?_, hrun, hended, _, _, rfl, ?_, ⟨_, rfl⟩, hW, hsame.mono (by decide) (by decide)⟩
    · show Steps p.tables e below (T44.setTop (mkF m 39 #[.val (.ref b), .val (.ref b2), .val (.ref b2)] [(.int (0 : Int32))])) _
      exact retN X44 hx (t := .boolean) Bd.returns (by simp) (hb hby d6_39) hr
    · show QEq Z b b2 x1 x2 y1 y2 h0 n0 _ T44.heap _
      rw [e44]
      exact ⟨(by unfold own_eq; rw [if_neg hc46]), N0, rfl⟩
theorem pd_1 : parseMethodDescriptor "(Lcom/example/deodar/deodar/AclChange;)Lcom/example/deodar/deodar/AclChange;" = some ⟨[(.object "com/example/deodar/deodar/AclChange")], some (.object "com/example/deodar/deodar/AclChange")⟩ := by decide +kernel
theorem pd_2 : parseMethodDescriptor "()I" = some ⟨[], some .int⟩ := by decide +kernel
theorem pd_3 : parseMethodDescriptor "(Ljava/lang/Object;)Z" = some ⟨[(.object "java/lang/Object")], some .boolean⟩ := by decide +kernel
theorem ef_rm0 (m : MethodId) (x0 : Int32) (x1 : Int32) (x2 : Int32) (x3 : Int32) : entryFrame m #[(.int x0), (.int x1), (.int x2), (.int x3)] maxLocals = mkF m 0 #[.val (.int x0), .val (.int x1), .val (.int x2), .val (.int x3), .unset, .unset, .unset, .unset, .unset, .unset] [] := by first | (simp [entryFrame, mkF, argsToLocals, Value.category, maxLocals]; done) | rfl
def Q0 (Z : State) (p0 : Int32) (p1 : Int32) (p2 : Int32) (p3 : Int32) (h0 : Heap) (n0 : Nat) (v : Option Value) (h : Heap) (L : List Loc) : Prop := v = some (.int (1 : Int32)) ∧ Fr n0 L ∧ Keep h0 h []
theorem pn_1 : plainName "com/example/deodar/deodar/AclChangeAndPinLaw" = true := by first | (simp [plainName, overriddenIn]; done) | decide +kernel
set_option maxRecDepth 65536 in
set_option maxHeartbeats 40000000 in
theorem rm0 (l : Launch) (Z : State) (a0 : Array Value) (hw : ∀ d ∈ tables_1, d.before a0 Z = true) (ws : List Jvm.Cond) (p0 : Int32) (p1 : Int32) (p2 : Int32) (p3 : Int32) (h0 : Heap) (n0 : Nat) (Z0 : n0 ≤ h0.size)  :
    MetFree l x (head1 (Jvm.Cond.code x code maxLocals ret :: ws) room_1) (fun a U => a = #[(.int p0), (.int p1), (.int p2), (.int p3)] ∧ Z.Warmed39 U.vm ∧ U.heap = h0) (fun _ _ _ _ _ => True) (fun _ U o U' => ∃ v L, o = .returned v ∧ Q0 Z p0 p1 p2 p3 h0 n0 v U'.heap L ∧ FrameEnd U o U' L room_1.cells room_1.slots) := by
  refine MetFree.of_bodySF (plainFor_of_name pn_1) hisR ?_
  intro p e s m args below meth c s₁ Bd hml0 hP hK
  obtain ⟨rfl, hZ, hh⟩ := hP
  have hx := Bd.exec
  have hby := Bd.bytes
  have hml : c.maxLocals = 10 := hml0
  have hown : s.vm.findClass "com/example/deodar/deodar/AclChangeAndPinLaw" = some m.cls := findClass_of_methodNamed Bd.named
  have hnm := (name_of_methodNamed Bd.named Bd.method).1
  have X0 : Stand p l e room_1 s m #[(.int p0), (.int p1), (.int p2), (.int p3)] below meth c s₁ [] 0 0 := Stand.of_body Bd
  have e0 : s₁.heap = h0 := by rw [← hh, Bd.state]; rfl
  have N0 := Fr.nil n0
  have pre0 : ∀ t, Steps p.tables e below (s₁.setTop (mkF m 0 #[.val (.int p0), .val (.int p1), .val (.int p2), .val (.int p3), .unset, .unset, .unset, .unset, .unset, .unset] [])) t → Steps p.tables e below (s₁.setTop (entryFrame m #[(.int p0), (.int p1), (.int p2), (.int p3)] maxLocals)) t := fun t kk => castTop (ef_rm0 m p0 p1 p2 p3) kk
  obtain ⟨T54, h54, X54, e54, E54, A54, D54, -, st54⟩ := newO X0 hx hZ hown (hw _ (List.mem_of_getElem? (i := 0) rfl)) (hw _ (List.mem_of_getElem? (i := 1) rfl)) (hw _ (List.mem_of_getElem? (i := 2) rfl)) e0 (g := (mkF m 0 #[.val (.int p0), .val (.int p1), .val (.int p2), .val (.int p3), .unset, .unset, .unset, .unset, .unset, .unset] [])) rfl (hb hby at_0) (by decide) (by decide)
  obtain ⟨b54, gq54⟩ : ∃ z, z = h0.size := ⟨_, rfl⟩
  rw [← gq54] at A54 D54 st54
  have g_b54 : n0 ≤ b54 := Nat.le_trans Z0 (Nat.le_of_eq gq54.symm)
  have sz_b54 : h0.size ≤ b54 := Nat.le_trans (Nat.le_refl _) (Nat.le_of_eq gq54.symm)
  have K55 : Keep h0 h54 [] := (Keep.refl h0 _).ext E54
  have F56 : Fld Z h54 b54 "com/example/deodar/deodar/AclChange" "aclsWritten" "I" (.int (0 : Int32)) := D54 (Or.inr (hw _ (List.mem_of_getElem? (i := 10) rfl))) (ty := .int) (by decide)
  have F57 : Fld Z h54 b54 "com/example/deodar/deodar/AclChange" "nodesRepointed" "I" (.int (0 : Int32)) := D54 (Or.inr (hw _ (List.mem_of_getElem? (i := 12) rfl))) (ty := .int) (by decide)
  obtain ⟨_, _, ⟨T58, L58, k58, n58⟩, -, X58, ⟨Lc58, hQ58, l58, y58, z58⟩, st58⟩ := X54.specialBack hx (y := (⟨"com/example/deodar/deodar/AclChange", "<init>", "(II)V"⟩ : MethodName)) rfl hown (mvT hZ (hw _ (List.mem_of_getElem? (i := 3) rfl))) (mvT hZ (hw _ (List.mem_of_getElem? (i := 4) rfl))) (mvT hZ (hw _ (List.mem_of_getElem? (i := 5) rfl))) (by decide) (backOf (W := 1) (rmInit l Z a0 hw [] b54 p0 p1 h54 n0 (Nat.le_trans Z0 K55.1) A54 F56 F57 g_b54) hZ (hw _ (List.mem_of_getElem? (i := 5) rfl)) (hw _ (List.mem_of_getElem? (i := 2) rfl)) (by decide) (by decide)) (g := (mkF m 6 #[.val (.int p0), .val (.int p1), .val (.int p2), .val (.int p3), .unset, .unset, .unset, .unset, .unset, .unset] [(.int p1), (.int p0), (.ref b54), (.ref b54)])) rfl (by rw [hml]; rfl) (Steps.refl _) (a := b54) (argsL := [(.int p0), (.int p1)]) (rest := [(.ref b54)]) (lenOf pd_0 rfl) rfl (by show 2 * 0 + _ ≤ _; exact Nat.le_of_eq rfl) (hb hby at_6) (fun _ _ => ⟨rfl, e54, (by decide : 1 + 0 ≤ _), (by decide : 2 + 0 ≤ _)⟩)
  dsimp only [Pt.U, Pt.locs, Pt.cells, Pt.slots] at X58 l58 y58 z58 st58 hQ58
  subst l58 y58 z58
  obtain ⟨rfl, N58q, K58q, P58_0, P58_1, P58_2⟩ := hQ58
  have N58 := Fr.app N0 N58q
  have Ex59 : Exa Z T58.heap b54 "com/example/deodar/deodar/AclChange" := (A54.keep K58q)
  have K60 : Keep h0 T58.heap [] := K55.trans K58q (allS (Or.inr sz_b54) all0)
  obtain ⟨T61, h61, X61, e61, E61, A61, D61, -, st61⟩ := newO X58 hx hZ hown (hw _ (List.mem_of_getElem? (i := 0) rfl)) (hw _ (List.mem_of_getElem? (i := 1) rfl)) (hw _ (List.mem_of_getElem? (i := 2) rfl)) rfl (g := (mkF m 11 #[.val (.int p0), .val (.int p1), .val (.int p2), .val (.int p3), .val (.ref b54), .unset, .unset, .unset, .unset, .unset] [])) rfl (hb hby at_11) (by decide) (by decide)
  obtain ⟨b61, gq61⟩ : ∃ z, z = T58.heap.size := ⟨_, rfl⟩
  rw [← gq61] at A61 D61 st61
  have ne62 : b54 ≠ b61 := Nat.ne_of_lt (Nat.lt_of_lt_of_le P58_0.lt (Nat.le_of_eq gq61.symm))
  have g_b61 : n0 ≤ b61 := Nat.le_trans (Nat.le_trans Z0 K60.1) (Nat.le_of_eq gq61.symm)
  have sz_b61 : h0.size ≤ b61 := Nat.le_trans K60.1 (Nat.le_of_eq gq61.symm)
  have Ex63 : Exa Z h61 b54 "com/example/deodar/deodar/AclChange" := (P58_0.ext E61)
  have F64 : Fld Z h61 b54 "com/example/deodar/deodar/AclChange" "aclsWritten" "I" (.int p0) := (P58_1.ext E61)
  have F65 : Fld Z h61 b54 "com/example/deodar/deodar/AclChange" "nodesRepointed" "I" (.int p1) := (P58_2.ext E61)
  have K66 : Keep h0 h61 [] := K60.ext E61
  have F67 : Fld Z h61 b61 "com/example/deodar/deodar/AclChange" "aclsWritten" "I" (.int (0 : Int32)) := D61 (Or.inr (hw _ (List.mem_of_getElem? (i := 10) rfl))) (ty := .int) (by decide)
  have F68 : Fld Z h61 b61 "com/example/deodar/deodar/AclChange" "nodesRepointed" "I" (.int (0 : Int32)) := D61 (Or.inr (hw _ (List.mem_of_getElem? (i := 12) rfl))) (ty := .int) (by decide)
  obtain ⟨_, _, ⟨T69, L69, k69, n69⟩, -, X69, ⟨Lc69, hQ69, l69, y69, z69⟩, st69⟩ := X61.specialBack hx (y := (⟨"com/example/deodar/deodar/AclChange", "<init>", "(II)V"⟩ : MethodName)) rfl hown (mvT hZ (hw _ (List.mem_of_getElem? (i := 3) rfl))) (mvT hZ (hw _ (List.mem_of_getElem? (i := 4) rfl))) (mvT hZ (hw _ (List.mem_of_getElem? (i := 5) rfl))) (by decide) (backOf (W := 1) (rmInit l Z a0 hw [] b61 p2 p3 h61 n0 (Nat.le_trans Z0 K66.1) A61 F67 F68 g_b61) hZ (hw _ (List.mem_of_getElem? (i := 5) rfl)) (hw _ (List.mem_of_getElem? (i := 2) rfl)) (by decide) (by decide)) (g := (mkF m 17 #[.val (.int p0), .val (.int p1), .val (.int p2), .val (.int p3), .val (.ref b54), .unset, .unset, .unset, .unset, .unset] [(.int p3), (.int p2), (.ref b61), (.ref b61)])) rfl (by rw [hml]; rfl) (Steps.refl _) (a := b61) (argsL := [(.int p2), (.int p3)]) (rest := [(.ref b61)]) (lenOf pd_0 rfl) rfl (by show 2 * 0 + _ ≤ _; exact Nat.le_of_eq rfl) (hb hby at_17) (fun _ _ => ⟨rfl, e61, (by decide : 2 + 0 ≤ _), (by decide : 4 + 0 ≤ _)⟩)
  dsimp only [Pt.U, Pt.locs, Pt.cells, Pt.slots] at X69 l69 y69 z69 st69 hQ69
  subst l69 y69 z69
  obtain ⟨rfl, N69q, K69q, P69_0, P69_1, P69_2⟩ := hQ69
  have N69 := Fr.app N58 N69q
  have Ex70 : Exa Z T69.heap b54 "com/example/deodar/deodar/AclChange" := (Ex63.keep K69q)
  have F71 : Fld Z T69.heap b54 "com/example/deodar/deodar/AclChange" "aclsWritten" "I" (.int p0) := (F64.keep K69q (ninS ne62 nin0))
  have F72 : Fld Z T69.heap b54 "com/example/deodar/deodar/AclChange" "nodesRepointed" "I" (.int p1) := (F65.keep K69q (ninS ne62 nin0))
  have Ex73 : Exa Z T69.heap b61 "com/example/deodar/deodar/AclChange" := (A61.keep K69q)
  have K74 : Keep h0 T69.heap [] := K66.trans K69q (allS (Or.inr sz_b61) all0)
  obtain ⟨cq75, kq75, q75a, q75b, q75c⟩ := isOf hZ rfl Ex70
  obtain ⟨_, _, ⟨T75, L75, k75, n75⟩, -, X75, ⟨Lc75, hQ75, l75, y75, z75⟩, st75⟩ := X69.virtualBack hx (y := (⟨"com/example/deodar/deodar/AclChange", "and", "(Lcom/example/deodar/deodar/AclChange;)Lcom/example/deodar/deodar/AclChange;"⟩ : MethodName)) (z := (⟨"com/example/deodar/deodar/AclChange", "and", "(Lcom/example/deodar/deodar/AclChange;)Lcom/example/deodar/deodar/AclChange;"⟩ : MethodName)) hown (mvT hZ (hw _ (List.mem_of_getElem? (i := 13) rfl))) (mvT hZ (hw _ (List.mem_of_getElem? (i := 14) rfl))) (notFace_of_selects (args := #[]) (mvT hZ (hw _ (List.mem_of_getElem? (i := 16) rfl)))) (mvT hZ (hw _ (List.mem_of_getElem? (i := 16) rfl))) (mvT hZ (hw _ (List.mem_of_getElem? (i := 15) rfl))) (by decide) (backOf (W := 0) (rmAnd l Z a0 hw [] b54 b61 p0 p1 p2 p3 T69.heap n0 (Nat.le_trans Z0 K74.1) F71 F72 P69_1 P69_2) hZ (hw _ (List.mem_of_getElem? (i := 17) rfl)) (hw _ (List.mem_of_getElem? (i := 2) rfl)) (by decide) (by decide)) q75a q75c (g := (mkF m 26 #[.val (.int p0), .val (.int p1), .val (.int p2), .val (.int p3), .val (.ref b54), .val (.ref b61), .unset, .unset, .unset, .unset] [(.ref b61), (.ref b54)])) rfl (by rw [hml]; rfl) (Steps.refl _) (argsL := [(.ref b61)]) (rest := []) (lenOf pd_1 rfl) rfl (by show 2 * 0 + _ ≤ _; exact Nat.le_of_eq rfl) (hb hby at_26) (fun _ _ => ⟨rfl, rfl, (by decide : 2 + 1 ≤ _), (by decide : 4 + 2 ≤ _)⟩)
  dsimp only [Pt.U, Pt.locs, Pt.cells, Pt.slots] at X75 l75 y75 z75 st75 hQ75
  subst l75 y75 z75
  obtain ⟨nb_75, rfl, N75q, K75q, sz75_nb, P75_0, P75_1, P75_2⟩ := hQ75
  have N75 := Fr.app N69 N75q
  have ne76 : b54 ≠ nb_75 := Nat.ne_of_lt (Nat.lt_of_lt_of_le Ex70.lt sz75_nb)
  have ne77 : b61 ≠ nb_75 := Nat.ne_of_lt (Nat.lt_of_lt_of_le P69_0.lt sz75_nb)
  have g_nb_75 : n0 ≤ nb_75 := Nat.le_trans (Nat.le_trans Z0 K74.1) sz75_nb
  have sz_nb_75 : h0.size ≤ nb_75 := Nat.le_trans K74.1 sz75_nb
  have Ex78 : Exa Z T75.heap b54 "com/example/deodar/deodar/AclChange" := (Ex70.keep K75q)
  have F79 : Fld Z T75.heap b54 "com/example/deodar/deodar/AclChange" "aclsWritten" "I" (.int p0) := (F71.keep K75q nin0)
  have F80 : Fld Z T75.heap b54 "com/example/deodar/deodar/AclChange" "nodesRepointed" "I" (.int p1) := (F72.keep K75q nin0)
  have Ex81 : Exa Z T75.heap b61 "com/example/deodar/deodar/AclChange" := (P69_0.keep K75q)
  have F82 : Fld Z T75.heap b61 "com/example/deodar/deodar/AclChange" "aclsWritten" "I" (.int p2) := (P69_1.keep K75q nin0)
  have F83 : Fld Z T75.heap b61 "com/example/deodar/deodar/AclChange" "nodesRepointed" "I" (.int p3) := (P69_2.keep K75q nin0)
  have K84 : Keep h0 T75.heap [] := K74.trans K75q all0
  obtain ⟨cq85, kq85, q85a, q85b, q85c⟩ := isOf hZ rfl Ex81
  obtain ⟨_, _, ⟨T85, L85, k85, n85⟩, -, X85, ⟨Lc85, hQ85, l85, y85, z85⟩, st85⟩ := X75.virtualBack hx (y := (⟨"com/example/deodar/deodar/AclChange", "and", "(Lcom/example/deodar/deodar/AclChange;)Lcom/example/deodar/deodar/AclChange;"⟩ : MethodName)) (z := (⟨"com/example/deodar/deodar/AclChange", "and", "(Lcom/example/deodar/deodar/AclChange;)Lcom/example/deodar/deodar/AclChange;"⟩ : MethodName)) hown (mvT hZ (hw _ (List.mem_of_getElem? (i := 13) rfl))) (mvT hZ (hw _ (List.mem_of_getElem? (i := 14) rfl))) (notFace_of_selects (args := #[]) (mvT hZ (hw _ (List.mem_of_getElem? (i := 16) rfl)))) (mvT hZ (hw _ (List.mem_of_getElem? (i := 16) rfl))) (mvT hZ (hw _ (List.mem_of_getElem? (i := 15) rfl))) (by decide) (backOf (W := 0) (rmAnd l Z a0 hw [] b61 b54 p2 p3 p0 p1 T75.heap n0 (Nat.le_trans Z0 K84.1) F82 F83 F79 F80) hZ (hw _ (List.mem_of_getElem? (i := 17) rfl)) (hw _ (List.mem_of_getElem? (i := 2) rfl)) (by decide) (by decide)) q85a q85c (g := (mkF m 35 #[.val (.int p0), .val (.int p1), .val (.int p2), .val (.int p3), .val (.ref b54), .val (.ref b61), .val (.ref nb_75), .unset, .unset, .unset] [(.ref b54), (.ref b61)])) rfl (by rw [hml]; rfl) (Steps.refl _) (argsL := [(.ref b54)]) (rest := []) (lenOf pd_1 rfl) rfl (by show 2 * 0 + _ ≤ _; exact Nat.le_of_eq rfl) (hb hby at_35) (fun _ _ => ⟨rfl, rfl, (by decide : 3 + 1 ≤ _), (by decide : 6 + 2 ≤ _)⟩)
  dsimp only [Pt.U, Pt.locs, Pt.cells, Pt.slots] at X85 l85 y85 z85 st85 hQ85
  subst l85 y85 z85
  obtain ⟨nb_85, rfl, N85q, K85q, sz85_nb, P85_0, P85_1, P85_2⟩ := hQ85
  have N85 := Fr.app N75 N85q
  have ne86 : b54 ≠ nb_85 := Nat.ne_of_lt (Nat.lt_of_lt_of_le Ex78.lt sz85_nb)
  have ne87 : b61 ≠ nb_85 := Nat.ne_of_lt (Nat.lt_of_lt_of_le Ex81.lt sz85_nb)
  have ne88 : nb_75 ≠ nb_85 := Nat.ne_of_lt (Nat.lt_of_lt_of_le P75_0.lt sz85_nb)
  have g_nb_85 : n0 ≤ nb_85 := Nat.le_trans (Nat.le_trans Z0 K84.1) sz85_nb
  have sz_nb_85 : h0.size ≤ nb_85 := Nat.le_trans K84.1 sz85_nb
  have Ex89 : Exa Z T85.heap b54 "com/example/deodar/deodar/AclChange" := (Ex78.keep K85q)
  have F90 : Fld Z T85.heap b54 "com/example/deodar/deodar/AclChange" "aclsWritten" "I" (.int p0) := (F79.keep K85q nin0)
  have F91 : Fld Z T85.heap b54 "com/example/deodar/deodar/AclChange" "nodesRepointed" "I" (.int p1) := (F80.keep K85q nin0)
  have Ex92 : Exa Z T85.heap b61 "com/example/deodar/deodar/AclChange" := (Ex81.keep K85q)
  have F93 : Fld Z T85.heap b61 "com/example/deodar/deodar/AclChange" "aclsWritten" "I" (.int p2) := (F82.keep K85q nin0)
  have F94 : Fld Z T85.heap b61 "com/example/deodar/deodar/AclChange" "nodesRepointed" "I" (.int p3) := (F83.keep K85q nin0)
  have Ex95 : Exa Z T85.heap nb_75 "com/example/deodar/deodar/AclChange" := (P75_0.keep K85q)
  have F96 : Fld Z T85.heap nb_75 "com/example/deodar/deodar/AclChange" "aclsWritten" "I" (.int (p0 + p2)) := (P75_1.keep K85q nin0)
  have F97 : Fld Z T85.heap nb_75 "com/example/deodar/deodar/AclChange" "nodesRepointed" "I" (.int (p1 + p3)) := (P75_2.keep K85q nin0)
  have K98 : Keep h0 T85.heap [] := K84.trans K85q all0
  obtain ⟨cq99, kq99, q99a, q99b, q99c⟩ := isOf hZ rfl Ex95
  obtain ⟨_, _, ⟨T99, L99, k99, n99⟩, -, X99, ⟨Lc99, hQ99, l99, y99, z99⟩, st99⟩ := X85.virtualBack hx (y := (⟨"com/example/deodar/deodar/AclChange", "aclsWritten", "()I"⟩ : MethodName)) (z := (⟨"com/example/deodar/deodar/AclChange", "aclsWritten", "()I"⟩ : MethodName)) hown (mvT hZ (hw _ (List.mem_of_getElem? (i := 20) rfl))) (mvT hZ (hw _ (List.mem_of_getElem? (i := 21) rfl))) (notFace_of_selects (args := #[]) (mvT hZ (hw _ (List.mem_of_getElem? (i := 23) rfl)))) (mvT hZ (hw _ (List.mem_of_getElem? (i := 23) rfl))) (mvT hZ (hw _ (List.mem_of_getElem? (i := 22) rfl))) (by decide) (backOf (W := 0) (rmA l Z a0 hw [] nb_75 (p0 + p2) T85.heap n0 (Nat.le_trans Z0 K98.1) F96) hZ (hw _ (List.mem_of_getElem? (i := 24) rfl)) (hw _ (List.mem_of_getElem? (i := 2) rfl)) (by decide) (by decide)) q99a q99c (g := (mkF m 42 #[.val (.int p0), .val (.int p1), .val (.int p2), .val (.int p3), .val (.ref b54), .val (.ref b61), .val (.ref nb_75), .val (.ref nb_85), .unset, .unset] [(.ref nb_75)])) rfl (by rw [hml]; rfl) (Steps.refl _) (argsL := []) (rest := []) (lenOf pd_2 rfl) rfl (by show 2 * 0 + _ ≤ _; exact Nat.le_of_eq rfl) (hb hby at_42) (fun _ _ => ⟨rfl, rfl, (by decide : 4 + 0 ≤ _), (by decide : 8 + 0 ≤ _)⟩)
  dsimp only [Pt.U, Pt.locs, Pt.cells, Pt.slots] at X99 l99 y99 z99 st99 hQ99
  subst l99 y99 z99
  obtain ⟨rfl, N99q, e99⟩ := hQ99
  have N99 := Fr.app N85 N99q
  obtain ⟨cq100, kq100, q100a, q100b, q100c⟩ := isOf hZ e99 Ex95
  obtain ⟨_, _, ⟨T100, L100, k100, n100⟩, -, X100, ⟨Lc100, hQ100, l100, y100, z100⟩, st100⟩ := X99.virtualBack hx (y := (⟨"com/example/deodar/deodar/AclChange", "nodesRepointed", "()I"⟩ : MethodName)) (z := (⟨"com/example/deodar/deodar/AclChange", "nodesRepointed", "()I"⟩ : MethodName)) hown (mvT hZ (hw _ (List.mem_of_getElem? (i := 25) rfl))) (mvT hZ (hw _ (List.mem_of_getElem? (i := 26) rfl))) (notFace_of_selects (args := #[]) (mvT hZ (hw _ (List.mem_of_getElem? (i := 28) rfl)))) (mvT hZ (hw _ (List.mem_of_getElem? (i := 28) rfl))) (mvT hZ (hw _ (List.mem_of_getElem? (i := 27) rfl))) (by decide) (backOf (W := 0) (rmN l Z a0 hw [] nb_75 (p1 + p3) T85.heap n0 (Nat.le_trans Z0 K98.1) F97) hZ (hw _ (List.mem_of_getElem? (i := 29) rfl)) (hw _ (List.mem_of_getElem? (i := 2) rfl)) (by decide) (by decide)) q100a q100c (g := (mkF m 53 #[.val (.int p0), .val (.int p1), .val (.int p2), .val (.int p3), .val (.ref b54), .val (.ref b61), .val (.ref nb_75), .val (.ref nb_85), .unset, .unset] [(.ref nb_75)])) rfl (by rw [hml]; rfl) (Steps.refl _) (argsL := []) (rest := []) (lenOf pd_2 rfl) rfl (by show 2 * 0 + _ ≤ _; exact Nat.le_of_eq rfl) (hb hby at_53) (fun _ _ => ⟨rfl, e99, (by decide : 4 + 0 ≤ _), (by decide : 8 + 0 ≤ _)⟩)
  dsimp only [Pt.U, Pt.locs, Pt.cells, Pt.slots] at X100 l100 y100 z100 st100 hQ100
  subst l100 y100 z100
  obtain ⟨rfl, N100q, e100⟩ := hQ100
  have N100 := Fr.app N99 N100q
  obtain ⟨cq101, kq101, q101a, q101b, q101c⟩ := isOf hZ e100 Ex95
  obtain ⟨_, _, ⟨T101, L101, k101, n101⟩, -, X101, ⟨Lc101, hQ101, l101, y101, z101⟩, st101⟩ := X100.virtualBack hx (y := (⟨"com/example/deodar/deodar/AclChange", "equals", "(Ljava/lang/Object;)Z"⟩ : MethodName)) (z := (⟨"com/example/deodar/deodar/AclChange", "equals", "(Ljava/lang/Object;)Z"⟩ : MethodName)) hown (mvT hZ (hw _ (List.mem_of_getElem? (i := 30) rfl))) (mvT hZ (hw _ (List.mem_of_getElem? (i := 31) rfl))) (notFace_of_selects (args := #[]) (mvT hZ (hw _ (List.mem_of_getElem? (i := 33) rfl)))) (mvT hZ (hw _ (List.mem_of_getElem? (i := 33) rfl))) (mvT hZ (hw _ (List.mem_of_getElem? (i := 32) rfl))) (by decide) (backOf (W := 0) (rmEq l Z a0 hw [] nb_75 nb_85 (p0 + p2) (p1 + p3) (p2 + p0) (p3 + p1) T85.heap n0 (Nat.le_trans Z0 K98.1) P85_0 F96 F97 P85_1 P85_2) hZ (hw _ (List.mem_of_getElem? (i := 34) rfl)) (hw _ (List.mem_of_getElem? (i := 2) rfl)) (by decide) (by decide)) q101a q101c (g := (mkF m 73 #[.val (.int p0), .val (.int p1), .val (.int p2), .val (.int p3), .val (.ref b54), .val (.ref b61), .val (.ref nb_75), .val (.ref nb_85), .val (.int (1 : Int32)), .unset] [(.ref nb_85), (.ref nb_75)])) rfl (by rw [hml]; rfl) (Steps.refl _) (argsL := [(.ref nb_85)]) (rest := []) (lenOf pd_3 rfl) rfl (by show 2 * 0 + _ ≤ _; exact Nat.le_of_eq rfl) (hb hby at_73) (fun _ _ => ⟨rfl, e100, (by decide : 4 + 0 ≤ _), (by decide : 8 + 0 ≤ _)⟩)
  dsimp only [Pt.U, Pt.locs, Pt.cells, Pt.slots] at X101 l101 y101 z101 st101 hQ101
  subst l101 y101 z101
  obtain ⟨rfl, N101q, e101⟩ := hQ101
  have N101 := Fr.app N100 N101q
  have hb102 : ¬ ((own_eq (p0 + p2) (p1 + p3) (p2 + p0) (p3 + p1)) = (0 : Int32)) := by unfold own_eq; rw [if_pos (Int32.add_comm _ _), if_pos (Int32.add_comm _ _)]; decide
  have pre103 : ∀ t, Steps p.tables e below (T101.setTop (mkF m 93 #[.val (.int p0), .val (.int p1), .val (.int p2), .val (.int p3), .val (.ref b54), .val (.ref b61), .val (.ref nb_75), .val (.ref nb_85), .val (.int (1 : Int32)), .val (.int (own_eq (p0 + p2) (p1 + p3) (p2 + p0) (p3 + p1)))] [(.int (1 : Int32))])) t → Steps p.tables e below (s₁.setTop (entryFrame m #[(.int p0), (.int p1), (.int p2), (.int p3)] maxLocals)) t := fun t kk => pre0 t (by
      show Steps p.tables e below (s₁.setTop (mkF m 0 #[.val (.int p0), .val (.int p1), .val (.int p2), .val (.int p3), .unset, .unset, .unset, .unset, .unset, .unset] [])) _
      refine st54 _ ?_
      show Steps p.tables e below (T54.setTop (mkF m 3 #[.val (.int p0), .val (.int p1), .val (.int p2), .val (.int p3), .unset, .unset, .unset, .unset, .unset, .unset] [(.ref b54)])) _
      refine XS.dup X54.here hx rfl (hb hby at_3) rfl rfl ?_
      show Steps p.tables e below (T54.setTop (mkF m 4 #[.val (.int p0), .val (.int p1), .val (.int p2), .val (.int p3), .unset, .unset, .unset, .unset, .unset, .unset] [(.ref b54), (.ref b54)])) _
      refine XS.iloadN X54.here hx rfl (hb hby at_4) rfl ?_
      show Steps p.tables e below (T54.setTop (mkF m 5 #[.val (.int p0), .val (.int p1), .val (.int p2), .val (.int p3), .unset, .unset, .unset, .unset, .unset, .unset] [(.int p0), (.ref b54), (.ref b54)])) _
      refine XS.iloadN X54.here hx rfl (hb hby at_5) rfl ?_
      show Steps p.tables e below (T54.setTop (mkF m 6 #[.val (.int p0), .val (.int p1), .val (.int p2), .val (.int p3), .unset, .unset, .unset, .unset, .unset, .unset] [(.int p1), (.int p0), (.ref b54), (.ref b54)])) _
      refine st58.trans ?_
      show Steps p.tables e below (T58.setTop (mkF m 9 #[.val (.int p0), .val (.int p1), .val (.int p2), .val (.int p3), .unset, .unset, .unset, .unset, .unset, .unset] [(.ref b54)])) _
      refine XS.astore X58.here hx rfl (hb hby at_9) rfl rfl (l' := #[.val (.int p0), .val (.int p1), .val (.int p2), .val (.int p3), .val (.ref b54), .unset, .unset, .unset, .unset, .unset]) rfl ?_
      show Steps p.tables e below (T58.setTop (mkF m 11 #[.val (.int p0), .val (.int p1), .val (.int p2), .val (.int p3), .val (.ref b54), .unset, .unset, .unset, .unset, .unset] [])) _
      refine st61 _ ?_
      show Steps p.tables e below (T61.setTop (mkF m 14 #[.val (.int p0), .val (.int p1), .val (.int p2), .val (.int p3), .val (.ref b54), .unset, .unset, .unset, .unset, .unset] [(.ref b61)])) _
      refine XS.dup X61.here hx rfl (hb hby at_14) rfl rfl ?_
      show Steps p.tables e below (T61.setTop (mkF m 15 #[.val (.int p0), .val (.int p1), .val (.int p2), .val (.int p3), .val (.ref b54), .unset, .unset, .unset, .unset, .unset] [(.ref b61), (.ref b61)])) _
      refine XS.iloadN X61.here hx rfl (hb hby at_15) rfl ?_
      show Steps p.tables e below (T61.setTop (mkF m 16 #[.val (.int p0), .val (.int p1), .val (.int p2), .val (.int p3), .val (.ref b54), .unset, .unset, .unset, .unset, .unset] [(.int p2), (.ref b61), (.ref b61)])) _
      refine XS.iloadN X61.here hx rfl (hb hby at_16) rfl ?_
      show Steps p.tables e below (T61.setTop (mkF m 17 #[.val (.int p0), .val (.int p1), .val (.int p2), .val (.int p3), .val (.ref b54), .unset, .unset, .unset, .unset, .unset] [(.int p3), (.int p2), (.ref b61), (.ref b61)])) _
      refine st69.trans ?_
      show Steps p.tables e below (T69.setTop (mkF m 20 #[.val (.int p0), .val (.int p1), .val (.int p2), .val (.int p3), .val (.ref b54), .unset, .unset, .unset, .unset, .unset] [(.ref b61)])) _
      refine XS.astore X69.here hx rfl (hb hby at_20) rfl rfl (l' := #[.val (.int p0), .val (.int p1), .val (.int p2), .val (.int p3), .val (.ref b54), .val (.ref b61), .unset, .unset, .unset, .unset]) rfl ?_
      show Steps p.tables e below (T69.setTop (mkF m 22 #[.val (.int p0), .val (.int p1), .val (.int p2), .val (.int p3), .val (.ref b54), .val (.ref b61), .unset, .unset, .unset, .unset] [])) _
      refine XS.aload X69.here hx rfl (hb hby at_22) rfl rfl ?_
      show Steps p.tables e below (T69.setTop (mkF m 24 #[.val (.int p0), .val (.int p1), .val (.int p2), .val (.int p3), .val (.ref b54), .val (.ref b61), .unset, .unset, .unset, .unset] [(.ref b54)])) _
      refine XS.aload X69.here hx rfl (hb hby at_24) rfl rfl ?_
      show Steps p.tables e below (T69.setTop (mkF m 26 #[.val (.int p0), .val (.int p1), .val (.int p2), .val (.int p3), .val (.ref b54), .val (.ref b61), .unset, .unset, .unset, .unset] [(.ref b61), (.ref b54)])) _
      refine st75.trans ?_
      show Steps p.tables e below (T75.setTop (mkF m 29 #[.val (.int p0), .val (.int p1), .val (.int p2), .val (.int p3), .val (.ref b54), .val (.ref b61), .unset, .unset, .unset, .unset] [(.ref nb_75)])) _
      refine XS.astore X75.here hx rfl (hb hby at_29) rfl rfl (l' := #[.val (.int p0), .val (.int p1), .val (.int p2), .val (.int p3), .val (.ref b54), .val (.ref b61), .val (.ref nb_75), .unset, .unset, .unset]) rfl ?_
      show Steps p.tables e below (T75.setTop (mkF m 31 #[.val (.int p0), .val (.int p1), .val (.int p2), .val (.int p3), .val (.ref b54), .val (.ref b61), .val (.ref nb_75), .unset, .unset, .unset] [])) _
      refine XS.aload X75.here hx rfl (hb hby at_31) rfl rfl ?_
      show Steps p.tables e below (T75.setTop (mkF m 33 #[.val (.int p0), .val (.int p1), .val (.int p2), .val (.int p3), .val (.ref b54), .val (.ref b61), .val (.ref nb_75), .unset, .unset, .unset] [(.ref b61)])) _
      refine XS.aload X75.here hx rfl (hb hby at_33) rfl rfl ?_
      show Steps p.tables e below (T75.setTop (mkF m 35 #[.val (.int p0), .val (.int p1), .val (.int p2), .val (.int p3), .val (.ref b54), .val (.ref b61), .val (.ref nb_75), .unset, .unset, .unset] [(.ref b54), (.ref b61)])) _
      refine st85.trans ?_
      show Steps p.tables e below (T85.setTop (mkF m 38 #[.val (.int p0), .val (.int p1), .val (.int p2), .val (.int p3), .val (.ref b54), .val (.ref b61), .val (.ref nb_75), .unset, .unset, .unset] [(.ref nb_85)])) _
      refine XS.astore X85.here hx rfl (hb hby at_38) rfl rfl (l' := #[.val (.int p0), .val (.int p1), .val (.int p2), .val (.int p3), .val (.ref b54), .val (.ref b61), .val (.ref nb_75), .val (.ref nb_85), .unset, .unset]) rfl ?_
      show Steps p.tables e below (T85.setTop (mkF m 40 #[.val (.int p0), .val (.int p1), .val (.int p2), .val (.int p3), .val (.ref b54), .val (.ref b61), .val (.ref nb_75), .val (.ref nb_85), .unset, .unset] [])) _
      refine XS.aload X85.here hx rfl (hb hby at_40) rfl rfl ?_
      show Steps p.tables e below (T85.setTop (mkF m 42 #[.val (.int p0), .val (.int p1), .val (.int p2), .val (.int p3), .val (.ref b54), .val (.ref b61), .val (.ref nb_75), .val (.ref nb_85), .unset, .unset] [(.ref nb_75)])) _
      refine st99.trans ?_
      show Steps p.tables e below (T99.setTop (mkF m 45 #[.val (.int p0), .val (.int p1), .val (.int p2), .val (.int p3), .val (.ref b54), .val (.ref b61), .val (.ref nb_75), .val (.ref nb_85), .unset, .unset] [(.int (p0 + p2))])) _
      refine XS.iloadN X99.here hx rfl (hb hby at_45) rfl ?_
      show Steps p.tables e below (T99.setTop (mkF m 46 #[.val (.int p0), .val (.int p1), .val (.int p2), .val (.int p3), .val (.ref b54), .val (.ref b61), .val (.ref nb_75), .val (.ref nb_85), .unset, .unset] [(.int p0), (.int (p0 + p2))])) _
      refine XS.iloadN X99.here hx rfl (hb hby at_46) rfl ?_
      show Steps p.tables e below (T99.setTop (mkF m 47 #[.val (.int p0), .val (.int p1), .val (.int p2), .val (.int p3), .val (.ref b54), .val (.ref b61), .val (.ref nb_75), .val (.ref nb_85), .unset, .unset] [(.int p2), (.int p0), (.int (p0 + p2))])) _
      refine XS.iadd X99.here hx rfl (hb hby at_47) rfl ?_
      show Steps p.tables e below (T99.setTop (mkF m 48 #[.val (.int p0), .val (.int p1), .val (.int p2), .val (.int p3), .val (.ref b54), .val (.ref b61), .val (.ref nb_75), .val (.ref nb_85), .unset, .unset] [(.int (p0 + p2)), (.int (p0 + p2))])) _
      refine XS.icmpNo X99.here hx rfl (hb hby at_48) rfl (teq (rfl : (p0 + p2) = (p0 + p2))).2 ?_
      show Steps p.tables e below (T99.setTop (mkF m 51 #[.val (.int p0), .val (.int p1), .val (.int p2), .val (.int p3), .val (.ref b54), .val (.ref b61), .val (.ref nb_75), .val (.ref nb_85), .unset, .unset] [])) _
      refine XS.aload X99.here hx rfl (hb hby at_51) rfl rfl ?_
      show Steps p.tables e below (T99.setTop (mkF m 53 #[.val (.int p0), .val (.int p1), .val (.int p2), .val (.int p3), .val (.ref b54), .val (.ref b61), .val (.ref nb_75), .val (.ref nb_85), .unset, .unset] [(.ref nb_75)])) _
      refine st100.trans ?_
      show Steps p.tables e below (T100.setTop (mkF m 56 #[.val (.int p0), .val (.int p1), .val (.int p2), .val (.int p3), .val (.ref b54), .val (.ref b61), .val (.ref nb_75), .val (.ref nb_85), .unset, .unset] [(.int (p1 + p3))])) _
      refine XS.iloadN X100.here hx rfl (hb hby at_56) rfl ?_
      show Steps p.tables e below (T100.setTop (mkF m 57 #[.val (.int p0), .val (.int p1), .val (.int p2), .val (.int p3), .val (.ref b54), .val (.ref b61), .val (.ref nb_75), .val (.ref nb_85), .unset, .unset] [(.int p1), (.int (p1 + p3))])) _
      refine XS.iloadN X100.here hx rfl (hb hby at_57) rfl ?_
      show Steps p.tables e below (T100.setTop (mkF m 58 #[.val (.int p0), .val (.int p1), .val (.int p2), .val (.int p3), .val (.ref b54), .val (.ref b61), .val (.ref nb_75), .val (.ref nb_85), .unset, .unset] [(.int p3), (.int p1), (.int (p1 + p3))])) _
      refine XS.iadd X100.here hx rfl (hb hby at_58) rfl ?_
      show Steps p.tables e below (T100.setTop (mkF m 59 #[.val (.int p0), .val (.int p1), .val (.int p2), .val (.int p3), .val (.ref b54), .val (.ref b61), .val (.ref nb_75), .val (.ref nb_85), .unset, .unset] [(.int (p1 + p3)), (.int (p1 + p3))])) _
      refine XS.icmpNo X100.here hx rfl (hb hby at_59) rfl (teq (rfl : (p1 + p3) = (p1 + p3))).2 ?_
      show Steps p.tables e below (T100.setTop (mkF m 62 #[.val (.int p0), .val (.int p1), .val (.int p2), .val (.int p3), .val (.ref b54), .val (.ref b61), .val (.ref nb_75), .val (.ref nb_85), .unset, .unset] [])) _
      refine XS.iconst X100.here hx rfl (hb hby at_62) ?_
      show Steps p.tables e below (T100.setTop (mkF m 63 #[.val (.int p0), .val (.int p1), .val (.int p2), .val (.int p3), .val (.ref b54), .val (.ref b61), .val (.ref nb_75), .val (.ref nb_85), .unset, .unset] [(.int (1 : Int32))])) _
      refine XS.goto X100.here hx rfl (pc0 := 63) (pc' := 67) rfl (hb hby at_63) (by decide) (by decide) ?_
      show Steps p.tables e below (T100.setTop (mkF m 67 #[.val (.int p0), .val (.int p1), .val (.int p2), .val (.int p3), .val (.ref b54), .val (.ref b61), .val (.ref nb_75), .val (.ref nb_85), .unset, .unset] [(.int (1 : Int32))])) _
      refine XS.istore X100.here hx rfl (hb hby at_67) rfl (l' := #[.val (.int p0), .val (.int p1), .val (.int p2), .val (.int p3), .val (.ref b54), .val (.ref b61), .val (.ref nb_75), .val (.ref nb_85), .val (.int (1 : Int32)), .unset]) rfl ?_
      show Steps p.tables e below (T100.setTop (mkF m 69 #[.val (.int p0), .val (.int p1), .val (.int p2), .val (.int p3), .val (.ref b54), .val (.ref b61), .val (.ref nb_75), .val (.ref nb_85), .val (.int (1 : Int32)), .unset] [])) _
      refine XS.aload X100.here hx rfl (hb hby at_69) rfl rfl ?_
      show Steps p.tables e below (T100.setTop (mkF m 71 #[.val (.int p0), .val (.int p1), .val (.int p2), .val (.int p3), .val (.ref b54), .val (.ref b61), .val (.ref nb_75), .val (.ref nb_85), .val (.int (1 : Int32)), .unset] [(.ref nb_75)])) _
      refine XS.aload X100.here hx rfl (hb hby at_71) rfl rfl ?_
      show Steps p.tables e below (T100.setTop (mkF m 73 #[.val (.int p0), .val (.int p1), .val (.int p2), .val (.int p3), .val (.ref b54), .val (.ref b61), .val (.ref nb_75), .val (.ref nb_85), .val (.int (1 : Int32)), .unset] [(.ref nb_85), (.ref nb_75)])) _
      refine st101.trans ?_
      show Steps p.tables e below (T101.setTop (mkF m 76 #[.val (.int p0), .val (.int p1), .val (.int p2), .val (.int p3), .val (.ref b54), .val (.ref b61), .val (.ref nb_75), .val (.ref nb_85), .val (.int (1 : Int32)), .unset] [(.int (own_eq (p0 + p2) (p1 + p3) (p2 + p0) (p3 + p1)))])) _
      refine XS.istore X101.here hx rfl (hb hby at_76) rfl (l' := #[.val (.int p0), .val (.int p1), .val (.int p2), .val (.int p3), .val (.ref b54), .val (.ref b61), .val (.ref nb_75), .val (.ref nb_85), .val (.int (1 : Int32)), .val (.int (own_eq (p0 + p2) (p1 + p3) (p2 + p0) (p3 + p1)))]) rfl ?_
      show Steps p.tables e below (T101.setTop (mkF m 78 #[.val (.int p0), .val (.int p1), .val (.int p2), .val (.int p3), .val (.ref b54), .val (.ref b61), .val (.ref nb_75), .val (.ref nb_85), .val (.int (1 : Int32)), .val (.int (own_eq (p0 + p2) (p1 + p3) (p2 + p0) (p3 + p1)))] [])) _
      refine XS.iload X101.here hx rfl (hb hby at_78) rfl ?_
      show Steps p.tables e below (T101.setTop (mkF m 80 #[.val (.int p0), .val (.int p1), .val (.int p2), .val (.int p3), .val (.ref b54), .val (.ref b61), .val (.ref nb_75), .val (.ref nb_85), .val (.int (1 : Int32)), .val (.int (own_eq (p0 + p2) (p1 + p3) (p2 + p0) (p3 + p1)))] [(.int (1 : Int32))])) _
      refine XS.ifNo X101.here hx rfl (hb hby at_80) rfl ((if0 _ _).trans (feq (by decide : ¬ ((1 : Int32) = (0 : Int32)))).1) ?_
      show Steps p.tables e below (T101.setTop (mkF m 83 #[.val (.int p0), .val (.int p1), .val (.int p2), .val (.int p3), .val (.ref b54), .val (.ref b61), .val (.ref nb_75), .val (.ref nb_85), .val (.int (1 : Int32)), .val (.int (own_eq (p0 + p2) (p1 + p3) (p2 + p0) (p3 + p1)))] [])) _
      refine XS.iload X101.here hx rfl (hb hby at_83) rfl ?_
      show Steps p.tables e below (T101.setTop (mkF m 85 #[.val (.int p0), .val (.int p1), .val (.int p2), .val (.int p3), .val (.ref b54), .val (.ref b61), .val (.ref nb_75), .val (.ref nb_85), .val (.int (1 : Int32)), .val (.int (own_eq (p0 + p2) (p1 + p3) (p2 + p0) (p3 + p1)))] [(.int (own_eq (p0 + p2) (p1 + p3) (p2 + p0) (p3 + p1)))])) _
      refine XS.ifNo X101.here hx rfl (hb hby at_85) rfl ((if0 _ _).trans (feq hb102).1) ?_
      show Steps p.tables e below (T101.setTop (mkF m 88 #[.val (.int p0), .val (.int p1), .val (.int p2), .val (.int p3), .val (.ref b54), .val (.ref b61), .val (.ref nb_75), .val (.ref nb_85), .val (.int (1 : Int32)), .val (.int (own_eq (p0 + p2) (p1 + p3) (p2 + p0) (p3 + p1)))] [])) _
      refine XS.iconst X101.here hx rfl (hb hby at_88) ?_
      show Steps p.tables e below (T101.setTop (mkF m 89 #[.val (.int p0), .val (.int p1), .val (.int p2), .val (.int p3), .val (.ref b54), .val (.ref b61), .val (.ref nb_75), .val (.ref nb_85), .val (.int (1 : Int32)), .val (.int (own_eq (p0 + p2) (p1 + p3) (p2 + p0) (p3 + p1)))] [(.int (1 : Int32))])) _
      refine XS.goto X101.here hx rfl (pc0 := 89) (pc' := 93) rfl (hb hby at_89) (by decide) (by decide) ?_
      exact kk)
  obtain ⟨fs, hr, hrun, hended, hW, hsame⟩ := X101.leave (v := some (.int (1 : Int32))) (fun h => by rw [Bd.returns] at h; cases h)
  refine ⟨_, _, pre103 _ ?_, hrun, hended, _, _, rfl, ?_, ⟨_, rfl⟩, hW, hsame.mono (by decide) (by decide)⟩
  · show Steps p.tables e below (T101.setTop (mkF m 93 #[.val (.int p0), .val (.int p1), .val (.int p2), .val (.int p3), .val (.ref b54), .val (.ref b61), .val (.ref nb_75), .val (.ref nb_85), .val (.int (1 : Int32)), .val (.int (own_eq (p0 + p2) (p1 + p3) (p2 + p0) (p3 + p1)))] [(.int (1 : Int32))])) _
    exact retN X101 hx (t := .boolean) Bd.returns (by simp) (hb hby at_93) hr
  · show Q0 Z p0 p1 p2 p3 h0 n0 _ T101.heap _
    rw [e101]
    exact ⟨rfl, N101, K98⟩
set_option maxRecDepth 65536 in
set_option maxHeartbeats 40000000 in
theorem comes_1 {Post : Tables → Env → Array Value → State → Outcome → State → Prop} (hpost : ∀ tb e args s v u, (limb_1_1.after args s (.returned v) u = true ∧ limb_1_2.after args s (.returned v) u = true ∧ True) → FrameEnd s (.returned v) u (Jvm.fieldLocs frame_1_writes args s ++ Jvm.arrayLocs frame_1_arrays args s ++ Jvm.staticLocs frame_1_statics s) 16 128 → Post tb e args s (.returned v) u) :
    ArmFor flags0 classFile x code maxLocals ret World_1 tables_1 room_1 Calls_1 rest_1 Pre_1 Post := by
  intro l hfl _ _ p e ha hc hk s m args below hf hA hF happ hP
  obtain ⟨hcalls, hrest, hpre⟩ := hP
  obtain ⟨-, -, -, hnamed, -, -, -, hat⟩ := (Spec.applies_iff hf).mp happ
  obtain ⟨hg, hn⟩ := and_e (Cond.before_iff.mp (show (Jvm.Cond.and given_1 narrow_1).before args s = true from hpre))
  obtain ⟨gg104, gg105⟩ := and_e hg
  obtain ⟨gg106, gg107⟩ := and_e gg105
  obtain ⟨gg108, gg109⟩ := and_e gg107
  obtain ⟨gg110, gg111⟩ := and_e gg109
  obtain ⟨w0, w1, w2, w3, rfl⟩ : ∃ w0 w1 w2 w3 : Value, args = #[w0, w1, w2, w3] := by
    have hs : args.size = 4 := by simpa [Cond.value, given_1] using gg104
    obtain ⟨L⟩ := args
    match L, hs with
    | [w0, w1, w2, w3], _ => exact ⟨w0, w1, w2, w3, rfl⟩
  have hw := fun d (hd : d ∈ tables_1) => atoms_spec (ws := Jvm.Cond.code x code maxLocals ret :: tables_1) hat d (List.mem_cons_of_mem _ hd)
  have hfit : Fit s := fun {y c} hc i hi => by
    obtain ⟨ha, rfl⟩ := Array.getElem?_eq_some_iff.mp hc
    have q := List.all_eq_true.mp ((Array.all_eq_true_iff_forall_mem.mp hF) _ (Array.getElem_mem ha)) i (List.mem_range.mpr hi)
    simpa [Array.getElem?_eq_getElem hi] using q
  obtain ⟨i0, ei0⟩ := is_v gg106
  obtain rfl : w0 = (.int i0) := Option.some.inj ei0
  obtain ⟨i1, ei1⟩ := is_v gg108
  obtain rfl : w1 = (.int i1) := Option.some.inj ei1
  obtain ⟨i2, ei2⟩ := is_v gg110
  obtain rfl : w2 = (.int i2) := Option.some.inj ei2
  obtain ⟨i3, ei3⟩ := is_v gg111
  obtain rfl : w3 = (.int i3) := Option.some.inj ei3
  obtain ⟨n, o, h1, h2, h3, _, L, rfl, ⟨rfl, N, -⟩, hq⟩ := rm0 l s _ hw tables_1 i0 i1 i2 i3  s.heap s.heap.size (Nat.le_refl _)  p e ha hc hk s m _ below hf ((Spec.applies_iff_loose hf).mp happ).1 ⟨rfl, State.Warmed39.refl s, rfl⟩ trivial
  refine ⟨n, _, h1, h2, h3, hpost _ _ _ _ _ _ ⟨Cond.after_iff.mpr rfl, Cond.after_iff.mpr (eq_i res_at (Term.int_eval (1)) rfl), trivial⟩ ⟨hq.1, hq.2.1, (hq.2.2.sift fun y hy => Or.inr (N y hy)).mono (by decide) (by decide)⟩⟩
theorem main_1_1 : Claimed_1_1 := comes_1 fun _ _ _ _ _ _ h hF => ⟨h.1, hF⟩
theorem main_1_2 : Claimed_1_2 := comes_1 fun _ _ _ _ _ _ h hF => ⟨h.2.1, hF⟩
end Jvm.Pilot.@@N@@
namespace Jvm.Pilot.@@N@@
open Jvm Jvm.ClassFile Sem Op Lib Jvm.Free Jvm.Stand Jvm.Pilot.@@N@@.Jvm.D
/-! MADE BY PROGRAM (witnessworld.py) out of the Statement's table words and the real class files: 9 classes; the members and pool entries that the words name. The judged class is class 1, her method 1. -/
namespace start1
open Jvm.ClassFile
def u (s : String) : CpInfo := .utf8 (stringToUtf16 s)
/-- a pool by its gaps: so many unusable entries, then the entry; so many at the end -/
def gap : Nat → List CpInfo → List CpInfo
  | 0, r => r
  | n + 1, r => .unusable :: gap n r
def poolList (es : List (Nat × CpInfo)) (last : Nat) : List CpInfo := es.foldr (fun e r => gap e.1 (e.2 :: r)) (gap last [])
def pool (es : List (Nat × CpInfo)) (last : Nat) : Array CpInfo := ⟨poolList es last⟩
def fileOf (pool : Array CpInfo) (this : Nat) (attrs : Array Attribute := #[]) (ms : Array MethodInfo := #[]) (fl : Nat := 33) (sup : Nat := 0) (ifs : Array Nat := #[]) (fds : Array FieldInfo := #[]) : ClassFile where
  minorVersion := 0
  majorVersion := 65
  constantPool := pool
  accessFlags := fl
  thisClass := this
  superClass := sup
  interfaces := ifs
  fields := fds
  methods := ms
  attributes := attrs
def plain (name : String) (sup : Option ClassId) : Class where
  name := name
  kind := .ordinary
  loader := none
  accessFlags := 33
  super := sup
  interfaces := #[]
  cf := none
  fields := #[]
  methods := #[]
  instanceTypes := #[]
  staticTypes := #[]
  resolved := #[]
  callSites := []
  init := .initialized
  statics := none
  mirror := none

def pool0 : Array CpInfo := pool [(5, u "<init>"), (0, u "()V"), (1, .class_ 10), (1, u "java/lang/Object")] 113

def k0c0 : Code := { maxStack := 0, maxLocals := 1, code := object_method_1_code, exceptionTable := #[], attributes := #[] }
def k0m0 : Method := { name := "<init>", desc := "()V", sig := { parameters := [], returnType := none }, accessFlags := 1, code := some k0c0 }
/-- java/lang/Object -/
def k0 : Class := { plain "java/lang/Object" none with
  accessFlags := 33
  interfaces := #[]
  cf := some (fileOf pool0 8 #[] #[{ accessFlags := 1, nameIndex := 5, descriptorIndex := 6, attributes := #[] }] 33 0 #[] #[])
  fields := #[]
  methods := #[k0m0]
  instanceTypes := #[]
  staticTypes := #[]
  resolved := Array.replicate 124 none
  statics := none }

def pool1 : Array CpInfo := pool [(2, .class_ 4), (1, u "java/lang/Object"), (0, u "<init>"), (0, u "()V"), (0, .class_ 8), (0, u "com/example/deodar/deodar/AclChange"), (0, .methodref 7 10), (0, .nameAndType 5 11), (0, u "(II)V"), (0, .methodref 7 13), (0, .nameAndType 14 15), (0, u "and"), (0, u "(Lcom/example/deodar/deodar/AclChange;)Lcom/example/deodar/deodar/AclChange;"), (0, .methodref 7 17), (0, .nameAndType 18 19), (0, u "aclsWritten"), (0, u "()I"), (0, .methodref 7 21), (0, .nameAndType 22 19), (0, u "nodesRepointed"), (0, .methodref 7 24), (0, .nameAndType 25 26), (0, u "equals"), (0, u "(Ljava/lang/Object;)Z"), (0, .class_ 28), (0, u "com/example/deodar/deodar/AclChangeAndPinLaw"), (2, u "law"), (0, u "(IIII)Z")] 3

def k1m0 : Method := { name := "<init>", desc := "()V", sig := { parameters := [], returnType := none }, accessFlags := 1, code := none }
def k1c1 : Code := { maxStack := 4, maxLocals := 10, code := code, exceptionTable := #[], attributes := #[] }
def k1m1 : Method := { name := "law", desc := "(IIII)Z", sig := { parameters := [.int, .int, .int, .int], returnType := some .boolean }, accessFlags := 9, code := some k1c1 }
/-- com/example/deodar/deodar/AclChangeAndPinLaw -/
def k1 : Class := { plain "com/example/deodar/deodar/AclChangeAndPinLaw" (some 0) with
  accessFlags := 49
  interfaces := #[]
  cf := some (fileOf pool1 27 #[] #[{ accessFlags := 1, nameIndex := 5, descriptorIndex := 6, attributes := #[] }, { accessFlags := 9, nameIndex := 31, descriptorIndex := 32, attributes := #[] }] 49 2 #[] #[])
  fields := #[]
  methods := #[k1m0, k1m1]
  instanceTypes := #[]
  staticTypes := #[]
  resolved := Array.replicate 36 none
  statics := none }

def pool2 : Array CpInfo := pool [(1, .methodref 2 3), (0, .class_ 4), (0, .nameAndType 5 6), (0, u "java/lang/Object"), (0, u "<init>"), (0, u "()V"), (0, .fieldref 8 9), (0, .class_ 10), (0, .nameAndType 11 12), (0, u "com/example/deodar/deodar/AclChange"), (0, u "aclsWritten"), (0, u "I"), (0, .fieldref 8 14), (0, .nameAndType 15 12), (0, u "nodesRepointed"), (0, .methodref 8 17), (0, .nameAndType 5 18), (0, u "(II)V"), (6, u "()I"), (0, u "and"), (0, u "(Lcom/example/deodar/deodar/AclChange;)Lcom/example/deodar/deodar/AclChange;"), (0, u "equals"), (0, u "(Ljava/lang/Object;)Z")] 21

def k2c0 : Code := { maxStack := 2, maxLocals := 3, code := prog_2_method_1_code, exceptionTable := #[], attributes := #[] }
def k2m0 : Method := { name := "<init>", desc := "(II)V", sig := { parameters := [.int, .int], returnType := none }, accessFlags := 0, code := some k2c0 }
def k2c1 : Code := { maxStack := 1, maxLocals := 1, code := prog_2_method_2_code, exceptionTable := #[], attributes := #[] }
def k2m1 : Method := { name := "aclsWritten", desc := "()I", sig := { parameters := [], returnType := some .int }, accessFlags := 1, code := some k2c1 }
def k2c2 : Code := { maxStack := 1, maxLocals := 1, code := prog_2_method_3_code, exceptionTable := #[], attributes := #[] }
def k2m2 : Method := { name := "nodesRepointed", desc := "()I", sig := { parameters := [], returnType := some .int }, accessFlags := 1, code := some k2c2 }
def k2c3 : Code := { maxStack := 5, maxLocals := 2, code := prog_2_method_4_code, exceptionTable := #[], attributes := #[] }
def k2m3 : Method := { name := "and", desc := "(Lcom/example/deodar/deodar/AclChange;)Lcom/example/deodar/deodar/AclChange;", sig := { parameters := [(.object "com/example/deodar/deodar/AclChange")], returnType := some (.object "com/example/deodar/deodar/AclChange") }, accessFlags := 0, code := some k2c3 }
def k2c4 : Code := { maxStack := 2, maxLocals := 3, code := prog_2_method_5_code, exceptionTable := #[], attributes := #[] }
def k2m4 : Method := { name := "equals", desc := "(Ljava/lang/Object;)Z", sig := { parameters := [(.object "java/lang/Object")], returnType := some .boolean }, accessFlags := 1, code := some k2c4 }
/-- com/example/deodar/deodar/AclChange -/
def k2 : Class := { plain "com/example/deodar/deodar/AclChange" (some 0) with
  accessFlags := 33
  interfaces := #[]
  cf := some (fileOf pool2 8 #[] #[{ accessFlags := 0, nameIndex := 5, descriptorIndex := 18, attributes := #[] }, { accessFlags := 1, nameIndex := 11, descriptorIndex := 25, attributes := #[] }, { accessFlags := 1, nameIndex := 15, descriptorIndex := 25, attributes := #[] }, { accessFlags := 0, nameIndex := 26, descriptorIndex := 27, attributes := #[] }, { accessFlags := 1, nameIndex := 28, descriptorIndex := 29, attributes := #[] }] 33 2 #[] #[{ accessFlags := 18, nameIndex := 11, descriptorIndex := 12, attributes := #[] }, { accessFlags := 18, nameIndex := 15, descriptorIndex := 12, attributes := #[] }])
  fields := #[{ name := "aclsWritten", type := .int, accessFlags := 18, slot := 0, constantValue := 0 }, { name := "nodesRepointed", type := .int, accessFlags := 18, slot := 1, constantValue := 0 }]
  methods := #[k2m0, k2m1, k2m2, k2m3, k2m4]
  instanceTypes := #[.int, .int]
  staticTypes := #[]
  resolved := Array.replicate 51 none
  statics := none }

def pool3 : Array CpInfo := pool [(1, u "java/lang/Cloneable"), (0, .class_ 1), (0, u "java/lang/Object"), (0, .class_ 3)] 3

/-- java/lang/Cloneable -/
def k3 : Class := { plain "java/lang/Cloneable" (some 0) with
  accessFlags := 1537
  interfaces := #[]
  cf := some (fileOf pool3 2 #[] #[] 1537 4 #[] #[])
  fields := #[]
  methods := #[]
  instanceTypes := #[]
  staticTypes := #[]
  resolved := Array.replicate 8 none
  statics := none }

def pool4 : Array CpInfo := pool [(1, u "java/io/Serializable"), (0, .class_ 1), (0, u "java/lang/Object"), (0, .class_ 3)] 3

/-- java/io/Serializable -/
def k4 : Class := { plain "java/io/Serializable" (some 0) with
  accessFlags := 1537
  interfaces := #[]
  cf := some (fileOf pool4 2 #[] #[] 1537 4 #[] #[])
  fields := #[]
  methods := #[]
  instanceTypes := #[]
  staticTypes := #[]
  resolved := Array.replicate 8 none
  statics := none }

/-- the primitive byte -/
def k5 : Class := { plain "byte" none with kind := .primitive 'B', accessFlags := 0x411 }
/-- [B -/
def k6 : Class := { plain "[B" (some 0) with kind := .array 5 .byte, interfaces := #[3, 4], accessFlags := 1041 }

/-- the primitive int -/
def k7 : Class := { plain "int" none with kind := .primitive 'I', accessFlags := 0x411 }
/-- [I -/
def k8 : Class := { plain "[I" (some 0) with kind := .array 7 .int, interfaces := #[3, 4], accessFlags := 1041 }

def heap : Heap := #[]
def classes : Array Class := #[k0, k1, k2, k3, k4, k5, k6, k7, k8]
def interned : List (Array UInt16 × Addr) := []
def slotsUsed : Nat := 0
def theMethod : MethodId := ⟨1, 1⟩
def args0 : Array Value := #[.int 5, .int 6, .int 7, .int 8]
def aboutOver (below : List Frame) : State where
  vm := { classes := classes, interned := interned.toArray }
  heap := heap
  slotsUsed := slotsUsed
  threads := #[{ frames := .invoking theMethod args0 :: below }]
def below0 : List Frame := [.native { method := ⟨0, 0⟩, args := #[] }]
def about1 : State := aboutOver below0
def p0 : Program := .bare "" "" ""
def e0 : Env := launch0.env 0 0 0
theorem w_frames : about1.frames = Frame.invoking theMethod args0 :: below0 := rfl
set_option maxRecDepth 65536 in
theorem w_args : argsFit about1.vm theMethod args0 = true := by decide +kernel
set_option maxRecDepth 65536 in
theorem w_heap : heapFits about1 = true := by decide +kernel
set_option maxRecDepth 65536 in
theorem w_runnable : about1.curStatus? = some .runnable := by decide +kernel
set_option maxRecDepth 65536 in
theorem w_alone : about1.alone = true := by decide +kernel
set_option maxRecDepth 65536 in
theorem w_named : about1.methodNamed? x = some theMethod := by decide +kernel
set_option maxRecDepth 65536 in
theorem w_hears : about1.hears theMethod below0 = true := by decide +kernel
set_option maxRecDepth 65536 in
theorem w_ripe : about1.ripe theMethod args0 below0 = true := by decide +kernel
theorem w_running : about1.status = .running := rfl
set_option maxRecDepth 65536 in
theorem w_room : about1.hasRoom e0.platform room_1 = true :=
  launch0.hasRoom_least _ room_1 (by decide +kernel) (by decide +kernel) (by decide +kernel) (by decide +kernel) (by decide +kernel) (by decide +kernel)
theorem allAtoms_all (ts : List Jvm.Cond) (a : Array Jvm.Value) (st : Jvm.State) : (allAtoms ts).before a st = ts.all (fun c => c.before a st) := by
  induction ts with
  | nil => rfl
  | cons c t ih =>
    show (Jvm.Cond.and c (allAtoms t)).before a st = _
    rw [Jvm.Cond.before_and, ih, List.all_cons]
def words1 : List Jvm.Cond := Jvm.Cond.code x code maxLocals ret :: tables_1
/-- a 'code' word, met by the world's own term for the bytes: nothing is compared byte by byte -/
theorem code_word {y : MethodName} {bytes : ByteArray} {mx : Nat} {rt : Option FieldType} {a : Array Value} {s : State} {m : MethodId} {meth : Method} {c : Code} (h1 : s.methodNamed? y = some m) (h2 : s.vm.method? m = some meth) (h3 : meth.code = some c) (h4 : c.code = bytes)
    (h5 : (c.maxLocals == mx && c.exceptionTable.isEmpty && decide (c.maxStack ≤ mostOperands) && decide (meth.sig.returnType = rt) && !meth.locks && decide (parseMethodDescriptor y.desc = some meth.sig)) = true) : (Jvm.Cond.code y bytes mx rt).before a s = true := by
  simp only [Bool.and_eq_true, beq_iff_eq, Bool.not_eq_true', decide_eq_true_eq] at h5
  obtain ⟨⟨⟨⟨⟨g1, g2⟩, g3⟩, g4⟩, g5⟩, g6⟩ := h5
  simp [Cond.before, Cond.holds, Cond.value, h1, h2, h3, h4, g1, g2, g3, g4, g5, g6]
def isCode : Jvm.Cond → Bool
  | .code _ _ _ _ => true
  | _ => false
theorem all_split {L : List Jvm.Cond} {P : Jvm.Cond → Bool} (h1 : L.all (fun c => isCode c || P c) = true) (h2 : ∀ c ∈ L.filter isCode, P c = true) : L.all P = true := by
  refine List.all_eq_true.mpr fun c hc => ?_
  have h := List.all_eq_true.mp h1 c hc
  rcases Bool.eq_false_or_eq_true (isCode c) with hi | hi
  · exact h2 c (List.mem_filter.mpr ⟨hc, hi⟩)
  · simpa [hi] using h
set_option maxRecDepth 65536 in
theorem w_c0 : (Jvm.Cond.code x code maxLocals ret).before args0 about1 = true := code_word (m := ⟨1, 1⟩) (meth := k1m1) (c := k1c1) (by decide +kernel) rfl rfl rfl (by decide +kernel)
set_option maxRecDepth 65536 in
theorem w_c1 : (Jvm.Cond.code ({ cls := "com/example/deodar/deodar/AclChange", name := "<init>", desc := "(II)V" } : Jvm.MethodName) prog_2_method_1_code (3 : Nat) (Option.none : Option Jvm.ClassFile.FieldType)).before args0 about1 = true := code_word (m := ⟨2, 0⟩) (meth := k2m0) (c := k2c0) (by decide +kernel) rfl rfl rfl (by decide +kernel)
set_option maxRecDepth 65536 in
theorem w_c2 : (Jvm.Cond.code ({ cls := "java/lang/Object", name := "<init>", desc := "()V" } : Jvm.MethodName) object_method_1_code (1 : Nat) (Option.none : Option Jvm.ClassFile.FieldType)).before args0 about1 = true := code_word (m := ⟨0, 0⟩) (meth := k0m0) (c := k0c0) (by decide +kernel) rfl rfl rfl (by decide +kernel)
set_option maxRecDepth 65536 in
theorem w_c3 : (Jvm.Cond.code ({ cls := "com/example/deodar/deodar/AclChange", name := "and", desc := "(Lcom/example/deodar/deodar/AclChange;)Lcom/example/deodar/deodar/AclChange;" } : Jvm.MethodName) prog_2_method_4_code (2 : Nat) (Option.some (Jvm.ClassFile.FieldType.object "com/example/deodar/deodar/AclChange"))).before args0 about1 = true := code_word (m := ⟨2, 3⟩) (meth := k2m3) (c := k2c3) (by decide +kernel) rfl rfl rfl (by decide +kernel)
set_option maxRecDepth 65536 in
theorem w_c4 : (Jvm.Cond.code ({ cls := "com/example/deodar/deodar/AclChange", name := "aclsWritten", desc := "()I" } : Jvm.MethodName) prog_2_method_2_code (1 : Nat) (Option.some Jvm.ClassFile.FieldType.int)).before args0 about1 = true := code_word (m := ⟨2, 1⟩) (meth := k2m1) (c := k2c1) (by decide +kernel) rfl rfl rfl (by decide +kernel)
set_option maxRecDepth 65536 in
theorem w_c5 : (Jvm.Cond.code ({ cls := "com/example/deodar/deodar/AclChange", name := "nodesRepointed", desc := "()I" } : Jvm.MethodName) prog_2_method_3_code (1 : Nat) (Option.some Jvm.ClassFile.FieldType.int)).before args0 about1 = true := code_word (m := ⟨2, 2⟩) (meth := k2m2) (c := k2c2) (by decide +kernel) rfl rfl rfl (by decide +kernel)
set_option maxRecDepth 65536 in
theorem w_c6 : (Jvm.Cond.code ({ cls := "com/example/deodar/deodar/AclChange", name := "equals", desc := "(Ljava/lang/Object;)Z" } : Jvm.MethodName) prog_2_method_5_code (3 : Nat) (Option.some Jvm.ClassFile.FieldType.boolean)).before args0 about1 = true := code_word (m := ⟨2, 4⟩) (meth := k2m4) (c := k2c4) (by decide +kernel) rfl rfl rfl (by decide +kernel)
def codes1 : List Jvm.Cond := [Jvm.Cond.code x code maxLocals ret, Jvm.Cond.code ({ cls := "com/example/deodar/deodar/AclChange", name := "<init>", desc := "(II)V" } : Jvm.MethodName) prog_2_method_1_code (3 : Nat) (Option.none : Option Jvm.ClassFile.FieldType), Jvm.Cond.code ({ cls := "java/lang/Object", name := "<init>", desc := "()V" } : Jvm.MethodName) object_method_1_code (1 : Nat) (Option.none : Option Jvm.ClassFile.FieldType), Jvm.Cond.code ({ cls := "com/example/deodar/deodar/AclChange", name := "and", desc := "(Lcom/example/deodar/deodar/AclChange;)Lcom/example/deodar/deodar/AclChange;" } : Jvm.MethodName) prog_2_method_4_code (2 : Nat) (Option.some (Jvm.ClassFile.FieldType.object "com/example/deodar/deodar/AclChange")), Jvm.Cond.code ({ cls := "com/example/deodar/deodar/AclChange", name := "aclsWritten", desc := "()I" } : Jvm.MethodName) prog_2_method_2_code (1 : Nat) (Option.some Jvm.ClassFile.FieldType.int), Jvm.Cond.code ({ cls := "com/example/deodar/deodar/AclChange", name := "nodesRepointed", desc := "()I" } : Jvm.MethodName) prog_2_method_3_code (1 : Nat) (Option.some Jvm.ClassFile.FieldType.int), Jvm.Cond.code ({ cls := "com/example/deodar/deodar/AclChange", name := "equals", desc := "(Ljava/lang/Object;)Z" } : Jvm.MethodName) prog_2_method_5_code (3 : Nat) (Option.some Jvm.ClassFile.FieldType.boolean)]
set_option maxRecDepth 65536 in
theorem codes_eq : words1.filter isCode = codes1 := rfl
theorem w_codes : ∀ c ∈ words1.filter isCode, c.before args0 about1 = true := by
  rw [codes_eq]
  intro c hc
  simp only [codes1, List.mem_cons, List.not_mem_nil, or_false] at hc
  rcases hc with rfl | rfl | rfl | rfl | rfl | rfl | rfl
  · exact w_c0
  · exact w_c1
  · exact w_c2
  · exact w_c3
  · exact w_c4
  · exact w_c5
  · exact w_c6
set_option maxRecDepth 65536 in
theorem w_t1 : (words1.take 24).all (fun c => isCode c || c.before args0 about1) = true := by decide +kernel
set_option maxRecDepth 65536 in
theorem w_t2 : (words1.drop 24).all (fun c => isCode c || c.before args0 about1) = true := by decide +kernel
theorem w_tables : (allAtoms (Jvm.Cond.code x code maxLocals ret :: tables_1)).before args0 about1 = true := by
  rw [allAtoms_all]
  show words1.all (fun c => c.before args0 about1) = true
  refine all_split ?_ w_codes
  rw [← List.take_append_drop 24 words1, List.all_append, w_t1, w_t2]
  rfl
set_option maxRecDepth 65536 in
theorem w_case : (Jvm.Cond.and given_1 narrow_1).before args0 about1 = true := by decide +kernel
theorem w_applies : (headSpec (Jvm.Cond.code x code maxLocals ret :: tables_1) room_1).applies x e0.platform about1 = true :=
  (Spec.applies_iff w_frames).mpr ⟨w_running, w_runnable, w_alone, w_named, w_hears, w_ripe, w_room, w_tables⟩
theorem atStart : AtStart classFile x code maxLocals ret World_1 tables_1 room_1 Calls_1 rest_1 Pre_1 launch0 p0 e0 about1 theMethod args0 below0 :=
  ⟨lists_1, trivial, launch0.admits_env _ _ _, launch0.least_env, fairChoices_fair.cas, fairChoices_fair.clock, w_frames, w_args, w_heap, w_applies, trivial, trivial, w_case⟩
end start1
theorem witness_1 : WitnessClaimed_1 := ⟨start1.p0, start1.e0, start1.about1, start1.theMethod, start1.args0, start1.below0, start1.atStart⟩
end Jvm.Pilot.@@N@@
