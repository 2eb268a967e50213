import JvmDerived
import JvmDerived.Pilot.@@N@@Statement
import JvmDerived.Pilot.@@N@@Code
set_option linter.unusedVariables false
set_option linter.unusedSimpArgs false
namespace Jvm.Pilot.@@N@@
open Jvm Jvm.ClassFile Sem Op Lib Jvm.Free Jvm.Stand Jvm.LawKit Jvm.RoadKit Bundle Jvm.Pilot.@@N@@.Jvm.D
theorem own_ne_arr {Z : State} {h : Heap} {a b : Addr} {C : String} {a0 : Array Value} {kk : Nat} {k : ClassId} {ty : FieldType} {n : Int32} {vs : List Value} {d : Value} (F : Exa Z h a C) (wi : (Cond.instantiable C kk).before a0 Z = true) (V : Arv Z h b k ty n vs d) : a ≠ b := by
  obtain ⟨c, A, -⟩ := V
  exact ne_arr F wi A
theorem own_cast {tb : Tables} {e : Env} {below : List Frame} {t : State} {A : Type} (f : A → State) {a b : A} (h : a = b) (k : Steps tb e below (f b) t) : Steps tb e below (f a) t := h ▸ k
theorem d1_0 : decode prog_2_method_1_code 0 = .ok (.aload_n 0, 1) := by decide +kernel
theorem d1_1 : decode prog_2_method_1_code 1 = .ok (.invokespecial 1, 3) := by decide +kernel
theorem d1_4 : decode prog_2_method_1_code 4 = .ok (.aload_n 0, 1) := by decide +kernel
theorem d1_5 : decode prog_2_method_1_code 5 = .ok (.iload_n 1, 1) := by decide +kernel
theorem d1_6 : decode prog_2_method_1_code 6 = .ok (.putfield 7, 3) := by decide +kernel
theorem d1_9 : decode prog_2_method_1_code 9 = .ok (.aload_n 0, 1) := by decide +kernel
theorem d1_10 : decode prog_2_method_1_code 10 = .ok (.iload_n 2, 1) := by decide +kernel
theorem d1_11 : decode prog_2_method_1_code 11 = .ok (.putfield 13, 3) := by decide +kernel
theorem d1_14 : decode prog_2_method_1_code 14 = .ok (.return_, 1) := by decide +kernel
theorem ef_rmInit (m : MethodId) (x0 : Addr) (x1 : Int32) (x2 : Int32) : entryFrame m #[(.ref x0), (.int x1), (.int x2)] 3 = mkF m 0 #[.val (.ref x0), .val (.int x1), .val (.int x2)] [] := by first | (simp [entryFrame, mkF, argsToLocals, Value.category]; done) | rfl
def QInit (Z : State) (b : Addr) (u : Int32) (v1 : Int32) (h0 : Heap) (n0 : Nat) (v : Option Value) (h : Heap) (L : List Loc) : Prop := v = none ∧ Fr n0 L ∧ Keep h0 h [b] ∧ Exa Z h b "com/example/deodar/deodar/AclChange" ∧ Fld Z h b "com/example/deodar/deodar/AclChange" "aclsWritten" "I" (.int u) ∧ Fld Z h b "com/example/deodar/deodar/AclChange" "nodesRepointed" "I" (.int v1)
theorem pn_0 : plainName "com/example/deodar/deodar/AclChange" = true := by first | (simp [plainName, overriddenIn]; done) | decide +kernel
set_option maxRecDepth 65536 in
set_option maxHeartbeats 40000000 in
theorem rmInit (l : Launch) (Z : State) (a0 : Array Value) (hw : ∀ d ∈ tables_1, d.before a0 Z = true) (ws : List Jvm.Cond) (b : Addr) (u : Int32) (v1 : Int32) (h0 : Heap) (n0 : Nat) (Z0 : n0 ≤ h0.size) (E_b : Exa Z h0 b "com/example/deodar/deodar/AclChange") (F_aclsWritten_b : Fld Z h0 b "com/example/deodar/deodar/AclChange" "aclsWritten" "I" (.int (0 : Int32))) (F_nodesRepointed_b : Fld Z h0 b "com/example/deodar/deodar/AclChange" "nodesRepointed" "I" (.int (0 : Int32))) (g_b : n0 ≤ b) :
    MetFree l (⟨"com/example/deodar/deodar/AclChange", "<init>", "(II)V"⟩ : MethodName) (head1 (Jvm.Cond.code (⟨"com/example/deodar/deodar/AclChange", "<init>", "(II)V"⟩ : MethodName) prog_2_method_1_code 3 none :: ws) ({ frames := 1, cells := 0, slots := 0, locals := 12 } : Room)) (fun aA uU => aA = #[(.ref b), (.int u), (.int v1)] ∧ Z.Warmed39 uU.vm ∧ uU.heap = h0) (fun _ _ _ _ _ => True) (fun _ uU oO uU' => ∃ vV lL, oO = .returned vV ∧ QInit Z b u v1 h0 n0 vV uU'.heap lL ∧ FrameEnd uU oO uU' lL ({ frames := 1, cells := 0, slots := 0, locals := 12 } : Room).cells ({ frames := 1, cells := 0, slots := 0, locals := 12 } : Room).slots) := by
  refine MetFree.of_bodySF (plainFor_of_name pn_0) hisR ?_
  intro p e s m args below meth c s₁ Bd hml0 hP hK
  obtain ⟨rfl, hZ, hh⟩ := hP
  have hx := Bd.exec
  have hby := Bd.bytes
  have hml : c.maxLocals = 3 := hml0
  have hown : s.vm.findClass "com/example/deodar/deodar/AclChange" = some m.cls := findClass_of_methodNamed Bd.named
  have hnm := (name_of_methodNamed Bd.named Bd.method).1
  have X0 : Stand p l e ({ frames := 1, cells := 0, slots := 0, locals := 12 } : Room) s m #[(.ref b), (.int u), (.int v1)] below meth c s₁ [] 0 0 := Stand.of_body Bd
  have e0 : s₁.heap = h0 := by rw [← hh, Bd.state]; rfl
  have N0 := Fr.nil n0
  have pre0 : ∀ t, Steps p.tables e below (s₁.setTop (mkF m 0 #[.val (.ref b), .val (.int u), .val (.int v1)] [])) t → Steps p.tables e below (s₁.setTop (entryFrame m #[(.ref b), (.int u), (.int v1)] 3)) t := fun t kk => castTop (ef_rmInit m b u v1) kk
  obtain ⟨T1, X1, e1, st1⟩ := initO X0 hx hZ hown (hw _ (List.mem_of_getElem? (i := 6) rfl)) (hw _ (List.mem_of_getElem? (i := 7) rfl)) (hw _ (List.mem_of_getElem? (i := 8) rfl)) e0 (g := (mkF m 1 #[.val (.ref b), .val (.int u), .val (.int v1)] [(.ref b)])) rfl (by rw [hml]; rfl) rfl (hb hby d1_1) (by decide) (W := 0) (by show 2 * 0 + _ ≤ _; exact Nat.le_of_eq rfl) (by decide)
  obtain ⟨T2, h2, X2, e2, W2, st2⟩ := putF X1 hx hZ hown (host := "") (Or.inl (hw _ (List.mem_of_getElem? (i := 9) rfl))) Via.refl e1 F_aclsWritten_b E_b (Or.inr ⟨(hw _ (List.mem_of_getElem? (i := 10) rfl)), rfl, hnm⟩) (hw _ (List.mem_of_getElem? (i := 1) rfl)) (ty := .int) (by decide) rfl rfl (g := (mkF m 6 #[.val (.ref b), .val (.int u), .val (.int v1)] [(.int u), (.ref b)])) rfl rfl (hb hby d1_6)
  have Ex3 : Exa Z h2 b "com/example/deodar/deodar/AclChange" := (E_b.wr W2)
  have F4 : Fld Z h2 b "com/example/deodar/deodar/AclChange" "nodesRepointed" "I" (.int (0 : Int32)) := (F_nodesRepointed_b.other W2 (Or.inr (slot_ne (Or.inr (hw _ (List.mem_of_getElem? (i := 12) rfl))) (Or.inr (hw _ (List.mem_of_getElem? (i := 10) rfl))) (by decide) (t := .int) (t' := .int) (by decide) (by decide))))
  have K5 : Keep h0 h2 [b] := (Keep.refl h0 _).wr W2 (Or.inl (List.mem_of_getElem? (i := 0) rfl))
  have N6 := Fr.snoc X2 N0 g_b
  have F7 : Fld Z h2 b "com/example/deodar/deodar/AclChange" "aclsWritten" "I" (.int u) := F_aclsWritten_b.same W2
  obtain ⟨T8, h8, X8, e8, W8, st8⟩ := putF X2 hx hZ hown (host := "") (Or.inl (hw _ (List.mem_of_getElem? (i := 11) rfl))) Via.refl e2 F4 Ex3 (Or.inr ⟨(hw _ (List.mem_of_getElem? (i := 12) rfl)), rfl, hnm⟩) (hw _ (List.mem_of_getElem? (i := 1) rfl)) (ty := .int) (by decide) rfl rfl (g := (mkF m 11 #[.val (.ref b), .val (.int u), .val (.int v1)] [(.int v1), (.ref b)])) rfl rfl (hb hby d1_11)
  have Ex9 : Exa Z h8 b "com/example/deodar/deodar/AclChange" := (Ex3.wr W8)
  have F10 : Fld Z h8 b "com/example/deodar/deodar/AclChange" "aclsWritten" "I" (.int u) := (F7.other W8 (Or.inr (slot_ne (Or.inr (hw _ (List.mem_of_getElem? (i := 10) rfl))) (Or.inr (hw _ (List.mem_of_getElem? (i := 12) rfl))) (by decide) (t := .int) (t' := .int) (by decide) (by decide))))
  have K11 : Keep h0 h8 [b] := K5.wr W8 (Or.inl (List.mem_of_getElem? (i := 0) rfl))
  have N12 := Fr.snoc X8 N6 g_b
  have F13 : Fld Z h8 b "com/example/deodar/deodar/AclChange" "nodesRepointed" "I" (.int v1) := F4.same W8
  have pre14 : ∀ t, Steps p.tables e below (T8.setTop (mkF m 14 #[.val (.ref b), .val (.int u), .val (.int v1)] [])) t → Steps p.tables e below (s₁.setTop (entryFrame m #[(.ref b), (.int u), (.int v1)] 3)) t := fun t kk => pre0 t (by
      show Steps p.tables e below (s₁.setTop (mkF m 0 #[.val (.ref b), .val (.int u), .val (.int v1)] [])) _
      refine XS.aloadN X0.here hx rfl (hb hby d1_0) rfl rfl ?_
      show Steps p.tables e below (s₁.setTop (mkF m 1 #[.val (.ref b), .val (.int u), .val (.int v1)] [(.ref b)])) _
      refine st1 _ ?_
      show Steps p.tables e below (T1.setTop (mkF m 4 #[.val (.ref b), .val (.int u), .val (.int v1)] [])) _
      refine XS.aloadN X1.here hx rfl (hb hby d1_4) rfl rfl ?_
      show Steps p.tables e below (T1.setTop (mkF m 5 #[.val (.ref b), .val (.int u), .val (.int v1)] [(.ref b)])) _
      refine XS.iloadN X1.here hx rfl (hb hby d1_5) rfl ?_
      show Steps p.tables e below (T1.setTop (mkF m 6 #[.val (.ref b), .val (.int u), .val (.int v1)] [(.int u), (.ref b)])) _
      refine st2 _ ?_
      show Steps p.tables e below (T2.setTop (mkF m 9 #[.val (.ref b), .val (.int u), .val (.int v1)] [])) _
      refine XS.aloadN X2.here hx rfl (hb hby d1_9) rfl rfl ?_
      show Steps p.tables e below (T2.setTop (mkF m 10 #[.val (.ref b), .val (.int u), .val (.int v1)] [(.ref b)])) _
      refine XS.iloadN X2.here hx rfl (hb hby d1_10) rfl ?_
      show Steps p.tables e below (T2.setTop (mkF m 11 #[.val (.ref b), .val (.int u), .val (.int v1)] [(.int v1), (.ref b)])) _
      refine st8 _ ?_
      exact kk)
  obtain ⟨fs, hr, hrun, hended, hW, hsame⟩ := X8.leave (v := none) (fun _ => rfl)
  refine ⟨_, _, pre14 _ ?_, hrun, hended, _, _, rfl, ?_, ⟨_, rfl⟩, hW, hsame.mono (by decide) (by decide)⟩
  · show Steps p.tables e below (T8.setTop (mkF m 14 #[.val (.ref b), .val (.int u), .val (.int v1)] [])) _
    exact X8.returnOut hx Bd.returns (hb hby d1_14) hr
  · show QInit Z b u v1 h0 n0 _ T8.heap _
    rw [e8]
    exact ⟨rfl, N12, K11, Ex9, F10, F13⟩
theorem d3_0 : decode prog_2_method_5_code 0 = .ok (.aload_n 1, 1) := by decide +kernel
theorem d3_1 : decode prog_2_method_5_code 1 = .ok (.instanceof 8, 3) := by decide +kernel
theorem d3_4 : decode prog_2_method_5_code 4 = .ok (.ifCond .eq 34, 3) := by decide +kernel
theorem d3_7 : decode prog_2_method_5_code 7 = .ok (.aload_n 1, 1) := by decide +kernel
theorem d3_8 : decode prog_2_method_5_code 8 = .ok (.checkcast 8, 3) := by decide +kernel
theorem d3_11 : decode prog_2_method_5_code 11 = .ok (.astore_n 2, 1) := by decide +kernel
theorem d3_12 : decode prog_2_method_5_code 12 = .ok (.aload_n 2, 1) := by decide +kernel
theorem d3_13 : decode prog_2_method_5_code 13 = .ok (.getfield 7, 3) := by decide +kernel
theorem d3_16 : decode prog_2_method_5_code 16 = .ok (.aload_n 0, 1) := by decide +kernel
theorem d3_17 : decode prog_2_method_5_code 17 = .ok (.getfield 7, 3) := by decide +kernel
theorem d3_20 : decode prog_2_method_5_code 20 = .ok (.if_icmp .ne 18, 3) := by decide +kernel
theorem d3_23 : decode prog_2_method_5_code 23 = .ok (.aload_n 2, 1) := by decide +kernel
theorem d3_24 : decode prog_2_method_5_code 24 = .ok (.getfield 13, 3) := by decide +kernel
theorem d3_27 : decode prog_2_method_5_code 27 = .ok (.aload_n 0, 1) := by decide +kernel
theorem d3_28 : decode prog_2_method_5_code 28 = .ok (.getfield 13, 3) := by decide +kernel
theorem d3_31 : decode prog_2_method_5_code 31 = .ok (.if_icmp .ne 7, 3) := by decide +kernel
theorem d3_34 : decode prog_2_method_5_code 34 = .ok (.iconst 1, 1) := by decide +kernel
theorem d3_35 : decode prog_2_method_5_code 35 = .ok (.goto 4, 3) := by decide +kernel
theorem d3_38 : decode prog_2_method_5_code 38 = .ok (.iconst 0, 1) := by decide +kernel
def own_eq (x1 : Int32) (x2 : Int32) (y1 : Int32) (y2 : Int32) : Int32 := (if y1 = x1 then (if y2 = x2 then (1 : Int32) else (0 : Int32)) else (0 : Int32))
theorem d3_39 : decode prog_2_method_5_code 39 = .ok (.ireturn, 1) := by decide +kernel
theorem ef_rmEq (m : MethodId) (x0 : Addr) (x1 : Addr) : entryFrame m #[(.ref x0), (.ref x1)] 3 = mkF m 0 #[.val (.ref x0), .val (.ref x1), .unset] [] := by first | (simp [entryFrame, mkF, argsToLocals, Value.category]; done) | rfl
def QEq (Z : State) (b : Addr) (b2 : Addr) (x1 : Int32) (x2 : Int32) (y1 : Int32) (y2 : Int32) (h0 : Heap) (n0 : Nat) (v : Option Value) (h : Heap) (L : List Loc) : Prop := v = some (.int (own_eq x1 x2 y1 y2)) ∧ Fr n0 L ∧ h = h0
set_option maxRecDepth 65536 in
set_option maxHeartbeats 40000000 in
theorem rmEq (l : Launch) (Z : State) (a0 : Array Value) (hw : ∀ d ∈ tables_1, d.before a0 Z = true) (ws : List Jvm.Cond) (b : Addr) (b2 : Addr) (x1 : Int32) (x2 : Int32) (y1 : Int32) (y2 : Int32) (h0 : Heap) (n0 : Nat) (Z0 : n0 ≤ h0.size) (E_b2 : Exa Z h0 b2 "com/example/deodar/deodar/AclChange") (F_aclsWritten_b : Fld Z h0 b "com/example/deodar/deodar/AclChange" "aclsWritten" "I" (.int x1)) (F_nodesRepointed_b : Fld Z h0 b "com/example/deodar/deodar/AclChange" "nodesRepointed" "I" (.int x2)) (F_aclsWritten_b2 : Fld Z h0 b2 "com/example/deodar/deodar/AclChange" "aclsWritten" "I" (.int y1)) (F_nodesRepointed_b2 : Fld Z h0 b2 "com/example/deodar/deodar/AclChange" "nodesRepointed" "I" (.int y2)) :
    MetFree l (⟨"com/example/deodar/deodar/AclChange", "equals", "(Ljava/lang/Object;)Z"⟩ : MethodName) (head1 (Jvm.Cond.code (⟨"com/example/deodar/deodar/AclChange", "equals", "(Ljava/lang/Object;)Z"⟩ : MethodName) prog_2_method_5_code 3 (some .boolean) :: ws) ({ frames := 0, cells := 0, slots := 0, locals := 0 } : Room)) (fun aA uU => aA = #[(.ref b), (.ref b2)] ∧ Z.Warmed39 uU.vm ∧ uU.heap = h0) (fun _ _ _ _ _ => True) (fun _ uU oO uU' => ∃ vV lL, oO = .returned vV ∧ QEq Z b b2 x1 x2 y1 y2 h0 n0 vV uU'.heap lL ∧ FrameEnd uU oO uU' lL ({ frames := 0, cells := 0, slots := 0, locals := 0 } : Room).cells ({ frames := 0, cells := 0, slots := 0, locals := 0 } : Room).slots) := by
  refine MetFree.of_bodySF (plainFor_of_name pn_0) hisR ?_
  intro p e s m args below meth c s₁ Bd hml0 hP hK
  obtain ⟨rfl, hZ, hh⟩ := hP
  have hx := Bd.exec
  have hby := Bd.bytes
  have hml : c.maxLocals = 3 := hml0
  have hown : s.vm.findClass "com/example/deodar/deodar/AclChange" = some m.cls := findClass_of_methodNamed Bd.named
  have hnm := (name_of_methodNamed Bd.named Bd.method).1
  have X0 : Stand p l e ({ frames := 0, cells := 0, slots := 0, locals := 0 } : Room) s m #[(.ref b), (.ref b2)] below meth c s₁ [] 0 0 := Stand.of_body Bd
  have e0 : s₁.heap = h0 := by rw [← hh, Bd.state]; rfl
  have N0 := Fr.nil n0
  have pre0 : ∀ t, Steps p.tables e below (s₁.setTop (mkF m 0 #[.val (.ref b), .val (.ref b2), .unset] [])) t → Steps p.tables e below (s₁.setTop (entryFrame m #[(.ref b), (.ref b2)] 3)) t := fun t kk => castTop (ef_rmEq m b b2) kk
  obtain ⟨T15, X15, e15, st15⟩ := instY X0 hx hZ hown (hw _ (List.mem_of_getElem? (i := 18) rfl)) e0 (Ins.self E_b2) (g := (mkF m 1 #[.val (.ref b), .val (.ref b2), .unset] [(.ref b2)])) rfl rfl (hb hby d3_1)
  obtain ⟨T16, X16, e16, st16⟩ := castY X15 hx hZ hown (hw _ (List.mem_of_getElem? (i := 18) rfl)) e15 (Ins.self E_b2) (g := (mkF m 8 #[.val (.ref b), .val (.ref b2), .unset] [(.ref b2)])) rfl rfl (hb hby d3_8)
  obtain ⟨T17, X17, e17, st17⟩ := getF X16 hx hZ hown (host := "") (Or.inl (hw _ (List.mem_of_getElem? (i := 9) rfl))) Via.refl e16 F_aclsWritten_b2 (g := (mkF m 13 #[.val (.ref b), .val (.ref b2), .val (.ref b2)] [(.ref b2)])) rfl rfl (hb hby d3_13)
  obtain ⟨T18, X18, e18, st18⟩ := getF X17 hx hZ hown (host := "") (Or.inl (hw _ (List.mem_of_getElem? (i := 9) rfl))) Via.refl e17 F_aclsWritten_b (g := (mkF m 17 #[.val (.ref b), .val (.ref b2), .val (.ref b2)] [(.ref b), (.int y1)])) rfl rfl (hb hby d3_17)
  have pre19 : ∀ t, Steps p.tables e below (T18.setTop (mkF m 20 #[.val (.ref b), .val (.ref b2), .val (.ref b2)] [(.int x1), (.int y1)])) t → Steps p.tables e below (s₁.setTop (entryFrame m #[(.ref b), (.ref b2)] 3)) t := fun t kk => pre0 t (by
      show Steps p.tables e below (s₁.setTop (mkF m 0 #[.val (.ref b), .val (.ref b2), .unset] [])) _
      refine XS.aloadN X0.here hx rfl (hb hby d3_0) rfl rfl ?_
      show Steps p.tables e below (s₁.setTop (mkF m 1 #[.val (.ref b), .val (.ref b2), .unset] [(.ref b2)])) _
      refine st15 _ ?_
      show Steps p.tables e below (T15.setTop (mkF m 4 #[.val (.ref b), .val (.ref b2), .unset] [(.int (1 : Int32))])) _
      refine XS.ifNo X15.here hx rfl (hb hby d3_4) rfl ((if0 _ _).trans (feq (by decide : ¬ ((1 : Int32) = (0 : Int32)))).1) ?_
      show Steps p.tables e below (T15.setTop (mkF m 7 #[.val (.ref b), .val (.ref b2), .unset] [])) _
      refine XS.aloadN X15.here hx rfl (hb hby d3_7) rfl rfl ?_
      show Steps p.tables e below (T15.setTop (mkF m 8 #[.val (.ref b), .val (.ref b2), .unset] [(.ref b2)])) _
      refine st16 _ ?_
      show Steps p.tables e below (T16.setTop (mkF m 11 #[.val (.ref b), .val (.ref b2), .unset] [(.ref b2)])) _
      refine XS.astoreN X16.here hx rfl (hb hby d3_11) rfl rfl (l' := #[.val (.ref b), .val (.ref b2), .val (.ref b2)]) rfl ?_
      show Steps p.tables e below (T16.setTop (mkF m 12 #[.val (.ref b), .val (.ref b2), .val (.ref b2)] [])) _
      refine XS.aloadN X16.here hx rfl (hb hby d3_12) rfl rfl ?_
      show Steps p.tables e below (T16.setTop (mkF m 13 #[.val (.ref b), .val (.ref b2), .val (.ref b2)] [(.ref b2)])) _
      refine st17 _ ?_
      show Steps p.tables e below (T17.setTop (mkF m 16 #[.val (.ref b), .val (.ref b2), .val (.ref b2)] [(.int y1)])) _
      refine XS.aloadN X17.here hx rfl (hb hby d3_16) rfl rfl ?_
      show Steps p.tables e below (T17.setTop (mkF m 17 #[.val (.ref b), .val (.ref b2), .val (.ref b2)] [(.ref b), (.int y1)])) _
      refine st18 _ ?_
      exact kk)
  by_cases hc20 : y1 = x1
  · obtain ⟨T21, X21, e21, st21⟩ := getF X18 hx hZ hown (host := "") (Or.inl (hw _ (List.mem_of_getElem? (i := 11) rfl))) Via.refl e18 F_nodesRepointed_b2 (g := (mkF m 24 #[.val (.ref b), .val (.ref b2), .val (.ref b2)] [(.ref b2)])) rfl rfl (hb hby d3_24)
    obtain ⟨T22, X22, e22, st22⟩ := getF X21 hx hZ hown (host := "") (Or.inl (hw _ (List.mem_of_getElem? (i := 11) rfl))) Via.refl e21 F_nodesRepointed_b (g := (mkF m 28 #[.val (.ref b), .val (.ref b2), .val (.ref b2)] [(.ref b), (.int y2)])) rfl rfl (hb hby d3_28)
    have pre23 : ∀ t, Steps p.tables e below (T22.setTop (mkF m 31 #[.val (.ref b), .val (.ref b2), .val (.ref b2)] [(.int x2), (.int y2)])) t → Steps p.tables e below (s₁.setTop (entryFrame m #[(.ref b), (.ref b2)] 3)) t := fun t kk => pre19 t (by
        show Steps p.tables e below (T18.setTop (mkF m 20 #[.val (.ref b), .val (.ref b2), .val (.ref b2)] [(.int x1), (.int y1)])) _
        refine XS.icmpNo X18.here hx rfl (hb hby d3_20) rfl (teq hc20).2 ?_
        show Steps p.tables e below (T18.setTop (mkF m 23 #[.val (.ref b), .val (.ref b2), .val (.ref b2)] [])) _
        refine XS.aloadN X18.here hx rfl (hb hby d3_23) rfl rfl ?_
        show Steps p.tables e below (T18.setTop (mkF m 24 #[.val (.ref b), .val (.ref b2), .val (.ref b2)] [(.ref b2)])) _
        refine st21 _ ?_
        show Steps p.tables e below (T21.setTop (mkF m 27 #[.val (.ref b), .val (.ref b2), .val (.ref b2)] [(.int y2)])) _
        refine XS.aloadN X21.here hx rfl (hb hby d3_27) rfl rfl ?_
        show Steps p.tables e below (T21.setTop (mkF m 28 #[.val (.ref b), .val (.ref b2), .val (.ref b2)] [(.ref b), (.int y2)])) _
        refine st22 _ ?_
        exact kk)
    by_cases hc24 : y2 = x2
    · have pre25 : ∀ t, Steps p.tables e below (T22.setTop (mkF m 39 #[.val (.ref b), .val (.ref b2), .val (.ref b2)] [(.int (1 : Int32))])) t → Steps p.tables e below (s₁.setTop (entryFrame m #[(.ref b), (.ref b2)] 3)) t := fun t kk => pre23 t (by
          show Steps p.tables e below (T22.setTop (mkF m 31 #[.val (.ref b), .val (.ref b2), .val (.ref b2)] [(.int x2), (.int y2)])) _
          refine XS.icmpNo X22.here hx rfl (hb hby d3_31) rfl (teq hc24).2 ?_
          show Steps p.tables e below (T22.setTop (mkF m 34 #[.val (.ref b), .val (.ref b2), .val (.ref b2)] [])) _
          refine XS.iconst X22.here hx rfl (hb hby d3_34) ?_
          show Steps p.tables e below (T22.setTop (mkF m 35 #[.val (.ref b), .val (.ref b2), .val (.ref b2)] [(.int (1 : Int32))])) _
          refine XS.goto X22.here hx rfl (pc0 := 35) (pc' := 39) rfl (hb hby d3_35) (by decide) (by decide) ?_
          exact kk)
      obtain ⟨fs, hr, hrun, hended, hW, hsame⟩ := X22.leave (v := some (.int (1 : Int32))) (fun h => by rw [Bd.returns] at h; cases h)
      refine ⟨_, _, pre25 _ ?_, hrun, hended, _, _, rfl, ?_, ⟨_, rfl⟩, hW, hsame.mono (by decide) (by decide)⟩
      · show Steps p.tables e below (T22.setTop (mkF m 39 #[.val (.ref b), .val (.ref b2), .val (.ref b2)] [(.int (1 : Int32))])) _
        exact retN X22 hx (t := .boolean) Bd.returns (by simp) (hb hby d3_39) hr
      · show QEq Z b b2 x1 x2 y1 y2 h0 n0 _ T22.heap _
        rw [e22]
        exact ⟨(by unfold own_eq; rw [if_pos hc20, if_pos hc24]), N0, rfl⟩
    · have pre26 : ∀ t, Steps p.tables e below (T22.setTop (mkF m 39 #[.val (.ref b), .val (.ref b2), .val (.ref b2)] [(.int (0 : Int32))])) t → Steps p.tables e below (s₁.setTop (entryFrame m #[(.ref b), (.ref b2)] 3)) t := fun t kk => pre23 t (by
          show Steps p.tables e below (T22.setTop (mkF m 31 #[.val (.ref b), .val (.ref b2), .val (.ref b2)] [(.int x2), (.int y2)])) _
          refine XS.icmpYes X22.here hx rfl (pc0 := 31) (pc' := 38) rfl (hb hby d3_31) rfl (feq hc24).2 (by decide) (by decide) ?_
          show Steps p.tables e below (T22.setTop (mkF m 38 #[.val (.ref b), .val (.ref b2), .val (.ref b2)] [])) _
          refine XS.iconst X22.here hx rfl (hb hby d3_38) ?_
          exact kk)
      obtain ⟨fs, hr, hrun, hended, hW, hsame⟩ := X22.leave (v := some (.int (0 : Int32))) (fun h => by rw [Bd.returns] at h; cases h)
      refine ⟨_, _, pre26 _ ?_, hrun, hended, _, _, rfl, ?_, ⟨_, rfl⟩, hW, hsame.mono (by decide) (by decide)⟩
      · show Steps p.tables e below (T22.setTop (mkF m 39 #[.val (.ref b), .val (.ref b2), .val (.ref b2)] [(.int (0 : Int32))])) _
        exact retN X22 hx (t := .boolean) Bd.returns (by simp) (hb hby d3_39) hr
      · show QEq Z b b2 x1 x2 y1 y2 h0 n0 _ T22.heap _
        rw [e22]
        exact ⟨(by unfold own_eq; rw [if_pos hc20, if_neg hc24]), N0, rfl⟩
  · have pre27 : ∀ t, Steps p.tables e below (T18.setTop (mkF m 39 #[.val (.ref b), .val (.ref b2), .val (.ref b2)] [(.int (0 : Int32))])) t → Steps p.tables e below (s₁.setTop (entryFrame m #[(.ref b), (.ref b2)] 3)) t := fun t kk => pre19 t (by
        show Steps p.tables e below (T18.setTop (mkF m 20 #[.val (.ref b), .val (.ref b2), .val (.ref b2)] [(.int x1), (.int y1)])) _
        refine XS.icmpYes X18.here hx rfl (pc0 := 20) (pc' := 38) rfl (hb hby d3_20) rfl (feq hc20).2 (by decide) (by decide) ?_
        show Steps p.tables e below (T18.setTop (mkF m 38 #[.val (.ref b), .val (.ref b2), .val (.ref b2)] [])) _
        refine XS.iconst X18.here hx rfl (hb hby d3_38) ?_
        exact kk)
    obtain ⟨fs, hr, hrun, hended, hW, hsame⟩ := X18.leave (v := some (.int (0 : Int32))) (fun h => by rw [Bd.returns] at h; cases h)
    refine ⟨_, _, pre27 _ ?_, hrun, hended, _, _, rfl, ?_, ⟨_, rfl⟩, hW, hsame.mono (by decide) (by decide)⟩
    · show Steps p.tables e below (T18.setTop (mkF m 39 #[.val (.ref b), .val (.ref b2), .val (.ref b2)] [(.int (0 : Int32))])) _
      exact retN X18 hx (t := .boolean) Bd.returns (by simp) (hb hby d3_39) hr
    · show QEq Z b b2 x1 x2 y1 y2 h0 n0 _ T18.heap _
      rw [e18]
      exact ⟨(by unfold own_eq; rw [if_neg hc20]), N0, rfl⟩
theorem ef_rmEqN (m : MethodId) (x0 : Addr) : entryFrame m #[(.ref x0), .null] 3 = mkF m 0 #[.val (.ref x0), .val .null, .unset] [] := by first | (simp [entryFrame, mkF, argsToLocals, Value.category]; done) | rfl
def QEqN (Z : State) (b : Addr) (h0 : Heap) (n0 : Nat) (v : Option Value) (h : Heap) (L : List Loc) : Prop := v = some (.int (0 : Int32)) ∧ Fr n0 L ∧ h = h0
set_option maxRecDepth 65536 in
set_option maxHeartbeats 40000000 in
theorem rmEqN (l : Launch) (Z : State) (a0 : Array Value) (hw : ∀ d ∈ tables_1, d.before a0 Z = true) (ws : List Jvm.Cond) (b : Addr) (h0 : Heap) (n0 : Nat) (Z0 : n0 ≤ h0.size)  :
    MetFree l (⟨"com/example/deodar/deodar/AclChange", "equals", "(Ljava/lang/Object;)Z"⟩ : MethodName) (head1 (Jvm.Cond.code (⟨"com/example/deodar/deodar/AclChange", "equals", "(Ljava/lang/Object;)Z"⟩ : MethodName) prog_2_method_5_code 3 (some .boolean) :: ws) ({ frames := 0, cells := 0, slots := 0, locals := 0 } : Room)) (fun aA uU => aA = #[(.ref b), .null] ∧ Z.Warmed39 uU.vm ∧ uU.heap = h0) (fun _ _ _ _ _ => True) (fun _ uU oO uU' => ∃ vV lL, oO = .returned vV ∧ QEqN Z b h0 n0 vV uU'.heap lL ∧ FrameEnd uU oO uU' lL ({ frames := 0, cells := 0, slots := 0, locals := 0 } : Room).cells ({ frames := 0, cells := 0, slots := 0, locals := 0 } : Room).slots) := by
  refine MetFree.of_bodySF (plainFor_of_name pn_0) hisR ?_
  intro p e s m args below meth c s₁ Bd hml0 hP hK
  obtain ⟨rfl, hZ, hh⟩ := hP
  have hx := Bd.exec
  have hby := Bd.bytes
  have hml : c.maxLocals = 3 := hml0
  have hown : s.vm.findClass "com/example/deodar/deodar/AclChange" = some m.cls := findClass_of_methodNamed Bd.named
  have hnm := (name_of_methodNamed Bd.named Bd.method).1
  have X0 : Stand p l e ({ frames := 0, cells := 0, slots := 0, locals := 0 } : Room) s m #[(.ref b), .null] below meth c s₁ [] 0 0 := Stand.of_body Bd
  have e0 : s₁.heap = h0 := by rw [← hh, Bd.state]; rfl
  have N0 := Fr.nil n0
  have pre0 : ∀ t, Steps p.tables e below (s₁.setTop (mkF m 0 #[.val (.ref b), .val .null, .unset] [])) t → Steps p.tables e below (s₁.setTop (entryFrame m #[(.ref b), .null] 3)) t := fun t kk => castTop (ef_rmEqN m b) kk
  have pre28 : ∀ t, Steps p.tables e below (s₁.setTop (mkF m 39 #[.val (.ref b), .val .null, .unset] [(.int (0 : Int32))])) t → Steps p.tables e below (s₁.setTop (entryFrame m #[(.ref b), .null] 3)) t := fun t kk => pre0 t (by
      show Steps p.tables e below (s₁.setTop (mkF m 0 #[.val (.ref b), .val .null, .unset] [])) _
      refine XS.aloadN X0.here hx rfl (hb hby d3_0) rfl rfl ?_
      show Steps p.tables e below (s₁.setTop (mkF m 1 #[.val (.ref b), .val .null, .unset] [.null])) _
      refine X0.instanceofNull hx (g := (mkF m 1 #[.val (.ref b), .val .null, .unset] [.null])) rfl rfl (hb hby d3_1) _ ?_
      show Steps p.tables e below (s₁.setTop (mkF m 4 #[.val (.ref b), .val .null, .unset] [(.int (0 : Int32))])) _
      refine XS.ifYes X0.here hx rfl (pc0 := 4) (pc' := 38) rfl (hb hby d3_4) rfl ((if0 _ _).trans (teq (by decide : (0 : Int32) = (0 : Int32))).1) (by decide) (by decide) ?_
      show Steps p.tables e below (s₁.setTop (mkF m 38 #[.val (.ref b), .val .null, .unset] [])) _
      refine XS.iconst X0.here hx rfl (hb hby d3_38) ?_
      exact kk)
  obtain ⟨fs, hr, hrun, hended, hW, hsame⟩ := X0.leave (v := some (.int (0 : Int32))) (fun h => by rw [Bd.returns] at h; cases h)
  refine ⟨_, _, pre28 _ ?_, hrun, hended, _, _, rfl, ?_, ⟨_, rfl⟩, hW, hsame.mono (by decide) (by decide)⟩
  · show Steps p.tables e below (s₁.setTop (mkF m 39 #[.val (.ref b), .val .null, .unset] [(.int (0 : Int32))])) _
    exact retN X0 hx (t := .boolean) Bd.returns (by simp) (hb hby d3_39) hr
  · show QEqN Z b h0 n0 _ s₁.heap _
    rw [e0]
    exact ⟨rfl, N0, rfl⟩
theorem own_found {Z : State} {a0 : Array Value} {K : String} {n : Nat} (w : (Cond.instantiable K n).before a0 Z = true) : ∃ t k, Z.vm.findClass K = some t ∧ Z.vm.classes[t]? = some k ∧ k.kind = .ordinary ∧ k.isInterface = false := by
  simp only [Cond.before, Cond.holds, Cond.value] at w
  cases hc : Z.vm.findClass K with
  | none => simp [hc] at w
  | some t =>
    cases hk : Z.vm.classes[t]? with
    | none => simp [hc, hk] at w
    | some k =>
      simp [hc, hk] at w
      exact ⟨t, k, rfl, hk, w.1.1.1, w.1.1.2.1⟩
theorem own_root {Z : State} {a0 : Array Value} {O K : String} {n : Nat} (w : (Cond.noSuperclass O).before a0 Z = true) (wk : (Cond.instantiable K n).before a0 Z = true) (hn : O ≠ K) : NS Z O K := by
  obtain ⟨c, k, h1, h2, h3, -, -⟩ := Cond.noSuperclass_spec w
  obtain ⟨t, kt, g1, -⟩ := own_found wk
  have ne := ids_ne h1 g1 hn
  refine ⟨c, t, h1, g1, fun fuel => ?_⟩
  cases fuel with
  | zero => rfl
  | succ f => simp [Vm.isSubclassAux, ne, h2, h3]
theorem own_not {Z : State} {a0 : Array Value} {C S K : String} {n : Nat} (w : (Cond.superclass C S).before a0 Z = true) (wk : (Cond.instantiable K n).before a0 Z = true) (ns : NS Z C K) (hn : C ≠ K) : ∃ c t, Z.vm.findClass C = some c ∧ Z.vm.findClass K = some t ∧ Z.vm.assignable c t = false := by
  obtain ⟨c, t, h0, g0, n3⟩ := ns
  obtain ⟨p, k, kp, h1, h2, h3, h4, h5, -, h7⟩ := Cond.superclass_spec h0 w
  obtain ⟨t', k', g1, g2, g3, g4⟩ := own_found wk
  cases g0.symm.trans g1
  have ne := ids_ne h0 g0 hn
  refine ⟨c, t, h0, g0, ?_⟩
  show Z.vm.assignableAux (255 + 1) c t = false
  simp [Vm.assignableAux, ne, h2, g2, h5, g3, g4, Vm.isSubclass, n3]
theorem ef_rmEqI (m : MethodId) (x0 : Addr) (x1 : Addr) : entryFrame m #[(.ref x0), (.ref x1)] 3 = mkF m 0 #[.val (.ref x0), .val (.ref x1), .unset] [] := by first | (simp [entryFrame, mkF, argsToLocals, Value.category]; done) | rfl
def QEqI (Z : State) (b : Addr) (b2 : Addr) (h0 : Heap) (n0 : Nat) (v : Option Value) (h : Heap) (L : List Loc) : Prop := v = some (.int (0 : Int32)) ∧ Fr n0 L ∧ h = h0
set_option maxRecDepth 65536 in
set_option maxHeartbeats 40000000 in
theorem rmEqI (l : Launch) (Z : State) (a0 : Array Value) (hw : ∀ d ∈ tables_1, d.before a0 Z = true) (ws : List Jvm.Cond) (b : Addr) (b2 : Addr) (h0 : Heap) (n0 : Nat) (Z0 : n0 ≤ h0.size) (E_b2 : Exa Z h0 b2 "java/lang/Integer") :
    MetFree l (⟨"com/example/deodar/deodar/AclChange", "equals", "(Ljava/lang/Object;)Z"⟩ : MethodName) (head1 (Jvm.Cond.code (⟨"com/example/deodar/deodar/AclChange", "equals", "(Ljava/lang/Object;)Z"⟩ : MethodName) prog_2_method_5_code 3 (some .boolean) :: ws) ({ frames := 0, cells := 0, slots := 0, locals := 0 } : Room)) (fun aA uU => aA = #[(.ref b), (.ref b2)] ∧ Z.Warmed39 uU.vm ∧ uU.heap = h0) (fun _ _ _ _ _ => True) (fun _ uU oO uU' => ∃ vV lL, oO = .returned vV ∧ QEqI Z b b2 h0 n0 vV uU'.heap lL ∧ FrameEnd uU oO uU' lL ({ frames := 0, cells := 0, slots := 0, locals := 0 } : Room).cells ({ frames := 0, cells := 0, slots := 0, locals := 0 } : Room).slots) := by
  refine MetFree.of_bodySF (plainFor_of_name pn_0) hisR ?_
  intro p e s m args below meth c s₁ Bd hml0 hP hK
  obtain ⟨rfl, hZ, hh⟩ := hP
  have hx := Bd.exec
  have hby := Bd.bytes
  have hml : c.maxLocals = 3 := hml0
  have hown : s.vm.findClass "com/example/deodar/deodar/AclChange" = some m.cls := findClass_of_methodNamed Bd.named
  have hnm := (name_of_methodNamed Bd.named Bd.method).1
  have X0 : Stand p l e ({ frames := 0, cells := 0, slots := 0, locals := 0 } : Room) s m #[(.ref b), (.ref b2)] below meth c s₁ [] 0 0 := Stand.of_body Bd
  have e0 : s₁.heap = h0 := by rw [← hh, Bd.state]; rfl
  have N0 := Fr.nil n0
  have pre0 : ∀ t, Steps p.tables e below (s₁.setTop (mkF m 0 #[.val (.ref b), .val (.ref b2), .unset] [])) t → Steps p.tables e below (s₁.setTop (entryFrame m #[(.ref b), (.ref b2)] 3)) t := fun t kk => castTop (ef_rmEqI m b b2) kk
  obtain ⟨T29, X29, e29, st29⟩ := instNo X0 hx hZ hown (hw _ (List.mem_of_getElem? (i := 18) rfl)) e0 E_b2 (own_not (hw _ (List.mem_of_getElem? (i := 41) rfl)) (hw _ (List.mem_of_getElem? (i := 1) rfl)) (NS.step (hw _ (List.mem_of_getElem? (i := 41) rfl)) (NS.step (hw _ (List.mem_of_getElem? (i := 42) rfl)) (own_root (hw _ (List.mem_of_getElem? (i := 43) rfl)) (hw _ (List.mem_of_getElem? (i := 1) rfl)) (by decide)) (by decide)) (by decide)) (by decide)) (g := (mkF m 1 #[.val (.ref b), .val (.ref b2), .unset] [(.ref b2)])) rfl rfl (hb hby d3_1)
  have pre30 : ∀ t, Steps p.tables e below (T29.setTop (mkF m 39 #[.val (.ref b), .val (.ref b2), .unset] [(.int (0 : Int32))])) t → Steps p.tables e below (s₁.setTop (entryFrame m #[(.ref b), (.ref b2)] 3)) t := fun t kk => pre0 t (by
      show Steps p.tables e below (s₁.setTop (mkF m 0 #[.val (.ref b), .val (.ref b2), .unset] [])) _
      refine XS.aloadN X0.here hx rfl (hb hby d3_0) rfl rfl ?_
      show Steps p.tables e below (s₁.setTop (mkF m 1 #[.val (.ref b), .val (.ref b2), .unset] [(.ref b2)])) _
      refine st29 _ ?_
      show Steps p.tables e below (T29.setTop (mkF m 4 #[.val (.ref b), .val (.ref b2), .unset] [(.int (0 : Int32))])) _
      refine XS.ifYes X29.here hx rfl (pc0 := 4) (pc' := 38) rfl (hb hby d3_4) rfl ((if0 _ _).trans (teq (by decide : (0 : Int32) = (0 : Int32))).1) (by decide) (by decide) ?_
      show Steps p.tables e below (T29.setTop (mkF m 38 #[.val (.ref b), .val (.ref b2), .unset] [])) _
      refine XS.iconst X29.here hx rfl (hb hby d3_38) ?_
      exact kk)
  obtain ⟨fs, hr, hrun, hended, hW, hsame⟩ := X29.leave (v := some (.int (0 : Int32))) (fun h => by rw [Bd.returns] at h; cases h)
  refine ⟨_, _, pre30 _ ?_, hrun, hended, _, _, rfl, ?_, ⟨_, rfl⟩, hW, hsame.mono (by decide) (by decide)⟩
  · show Steps p.tables e below (T29.setTop (mkF m 39 #[.val (.ref b), .val (.ref b2), .unset] [(.int (0 : Int32))])) _
    exact retN X29 hx (t := .boolean) Bd.returns (by simp) (hb hby d3_39) hr
  · show QEqI Z b b2 h0 n0 _ T29.heap _
    rw [e29]
    exact ⟨rfl, N0, rfl⟩
theorem d6_0 : decode jdk_18_method_1_code 0 = .ok (.aload_n 0, 1) := by decide +kernel
theorem d6_1 : decode jdk_18_method_1_code 1 = .ok (.invokespecial 1, 3) := by decide +kernel
theorem d6_4 : decode jdk_18_method_1_code 4 = .ok (.return_, 1) := by decide +kernel
theorem ef_rmNum (m : MethodId) (x0 : Addr) : entryFrame m #[(.ref x0)] 1 = mkF m 0 #[.val (.ref x0)] [] := by first | (simp [entryFrame, mkF, argsToLocals, Value.category]; done) | rfl
def QNum (Z : State) (b : Addr) (h0 : Heap) (n0 : Nat) (v : Option Value) (h : Heap) (L : List Loc) : Prop := v = none ∧ Fr n0 L ∧ h = h0
theorem pn_1 : plainName "java/lang/Number" = true := by first | (simp [plainName, overriddenIn]; done) | decide +kernel
set_option maxRecDepth 65536 in
set_option maxHeartbeats 40000000 in
theorem rmNum (l : Launch) (Z : State) (a0 : Array Value) (hw : ∀ d ∈ tables_1, d.before a0 Z = true) (ws : List Jvm.Cond) (b : Addr) (h0 : Heap) (n0 : Nat) (Z0 : n0 ≤ h0.size)  :
    MetFree l (⟨"java/lang/Number", "<init>", "()V"⟩ : MethodName) (head1 (Jvm.Cond.code (⟨"java/lang/Number", "<init>", "()V"⟩ : MethodName) jdk_18_method_1_code 1 none :: ws) ({ frames := 1, cells := 0, slots := 0, locals := 12 } : Room)) (fun aA uU => aA = #[(.ref b)] ∧ Z.Warmed39 uU.vm ∧ uU.heap = h0) (fun _ _ _ _ _ => True) (fun _ uU oO uU' => ∃ vV lL, oO = .returned vV ∧ QNum Z b h0 n0 vV uU'.heap lL ∧ FrameEnd uU oO uU' lL ({ frames := 1, cells := 0, slots := 0, locals := 12 } : Room).cells ({ frames := 1, cells := 0, slots := 0, locals := 12 } : Room).slots) := by
  refine MetFree.of_bodySF (plainFor_of_name pn_1) hisR ?_
  intro p e s m args below meth c s₁ Bd hml0 hP hK
  obtain ⟨rfl, hZ, hh⟩ := hP
  have hx := Bd.exec
  have hby := Bd.bytes
  have hml : c.maxLocals = 1 := hml0
  have hown : s.vm.findClass "java/lang/Number" = some m.cls := findClass_of_methodNamed Bd.named
  have hnm := (name_of_methodNamed Bd.named Bd.method).1
  have X0 : Stand p l e ({ frames := 1, cells := 0, slots := 0, locals := 12 } : Room) s m #[(.ref b)] below meth c s₁ [] 0 0 := Stand.of_body Bd
  have e0 : s₁.heap = h0 := by rw [← hh, Bd.state]; rfl
  have N0 := Fr.nil n0
  have pre0 : ∀ t, Steps p.tables e below (s₁.setTop (mkF m 0 #[.val (.ref b)] [])) t → Steps p.tables e below (s₁.setTop (entryFrame m #[(.ref b)] 1)) t := fun t kk => castTop (ef_rmNum m b) kk
  obtain ⟨T31, X31, e31, st31⟩ := initO X0 hx hZ hown (hw _ (List.mem_of_getElem? (i := 38) rfl)) (hw _ (List.mem_of_getElem? (i := 7) rfl)) (hw _ (List.mem_of_getElem? (i := 8) rfl)) e0 (g := (mkF m 1 #[.val (.ref b)] [(.ref b)])) rfl (by rw [hml]; rfl) rfl (hb hby d6_1) (by decide) (W := 0) (by show 2 * 0 + _ ≤ _; exact Nat.le_of_eq rfl) (by decide)
  have pre32 : ∀ t, Steps p.tables e below (T31.setTop (mkF m 4 #[.val (.ref b)] [])) t → Steps p.tables e below (s₁.setTop (entryFrame m #[(.ref b)] 1)) t := fun t kk => pre0 t (by
      show Steps p.tables e below (s₁.setTop (mkF m 0 #[.val (.ref b)] [])) _
      refine XS.aloadN X0.here hx rfl (hb hby d6_0) rfl rfl ?_
      show Steps p.tables e below (s₁.setTop (mkF m 1 #[.val (.ref b)] [(.ref b)])) _
      refine st31 _ ?_
      exact kk)
  obtain ⟨fs, hr, hrun, hended, hW, hsame⟩ := X31.leave (v := none) (fun _ => rfl)
  refine ⟨_, _, pre32 _ ?_, hrun, hended, _, _, rfl, ?_, ⟨_, rfl⟩, hW, hsame.mono (by decide) (by decide)⟩
  · show Steps p.tables e below (T31.setTop (mkF m 4 #[.val (.ref b)] [])) _
    exact X31.returnOut hx Bd.returns (hb hby d6_4) hr
  · show QNum Z b h0 n0 _ T31.heap _
    rw [e31]
    exact ⟨rfl, N0, rfl⟩
theorem d5_0 : decode jdk_33_method_23_code 0 = .ok (.aload_n 0, 1) := by decide +kernel
theorem d5_1 : decode jdk_33_method_23_code 1 = .ok (.invokespecial 202, 3) := by decide +kernel
theorem pd_0 : parseMethodDescriptor "()V" = some ⟨[], none⟩ := by decide +kernel
theorem d5_4 : decode jdk_33_method_23_code 4 = .ok (.aload_n 0, 1) := by decide +kernel
theorem d5_5 : decode jdk_33_method_23_code 5 = .ok (.iload_n 1, 1) := by decide +kernel
theorem d5_6 : decode jdk_33_method_23_code 6 = .ok (.putfield 205, 3) := by decide +kernel
theorem d5_9 : decode jdk_33_method_23_code 9 = .ok (.return_, 1) := by decide +kernel
theorem ef_rmIInit (m : MethodId) (x0 : Addr) (x1 : Int32) : entryFrame m #[(.ref x0), (.int x1)] 2 = mkF m 0 #[.val (.ref x0), .val (.int x1)] [] := by first | (simp [entryFrame, mkF, argsToLocals, Value.category]; done) | rfl
def QIInit (Z : State) (b : Addr) (u : Int32) (h0 : Heap) (n0 : Nat) (v : Option Value) (h : Heap) (L : List Loc) : Prop := v = none ∧ Fr n0 L ∧ Keep h0 h [b] ∧ Exa Z h b "java/lang/Integer"
theorem pn_2 : plainName "java/lang/Integer" = true := by first | (simp [plainName, overriddenIn]; done) | decide +kernel
set_option maxRecDepth 65536 in
set_option maxHeartbeats 40000000 in
theorem rmIInit (l : Launch) (Z : State) (a0 : Array Value) (hw : ∀ d ∈ tables_1, d.before a0 Z = true) (ws : List Jvm.Cond) (b : Addr) (u : Int32) (h0 : Heap) (n0 : Nat) (Z0 : n0 ≤ h0.size) (E_b : Exa Z h0 b "java/lang/Integer") (F_value_b : Fld Z h0 b "java/lang/Integer" "value" "I" (.int (0 : Int32))) (g_b : n0 ≤ b) :
    MetFree l (⟨"java/lang/Integer", "<init>", "(I)V"⟩ : MethodName) (head1 (Jvm.Cond.code (⟨"java/lang/Integer", "<init>", "(I)V"⟩ : MethodName) jdk_33_method_23_code 2 none :: ws) ({ frames := 2, cells := 0, slots := 0, locals := 24 } : Room)) (fun aA uU => aA = #[(.ref b), (.int u)] ∧ Z.Warmed39 uU.vm ∧ uU.heap = h0) (fun _ _ _ _ _ => True) (fun _ uU oO uU' => ∃ vV lL, oO = .returned vV ∧ QIInit Z b u h0 n0 vV uU'.heap lL ∧ FrameEnd uU oO uU' lL ({ frames := 2, cells := 0, slots := 0, locals := 24 } : Room).cells ({ frames := 2, cells := 0, slots := 0, locals := 24 } : Room).slots) := by
  refine MetFree.of_bodySF (plainFor_of_name pn_2) hisR ?_
  intro p e s m args below meth c s₁ Bd hml0 hP hK
  obtain ⟨rfl, hZ, hh⟩ := hP
  have hx := Bd.exec
  have hby := Bd.bytes
  have hml : c.maxLocals = 2 := hml0
  have hown : s.vm.findClass "java/lang/Integer" = some m.cls := findClass_of_methodNamed Bd.named
  have hnm := (name_of_methodNamed Bd.named Bd.method).1
  have X0 : Stand p l e ({ frames := 2, cells := 0, slots := 0, locals := 24 } : Room) s m #[(.ref b), (.int u)] below meth c s₁ [] 0 0 := Stand.of_body Bd
  have e0 : s₁.heap = h0 := by rw [← hh, Bd.state]; rfl
  have N0 := Fr.nil n0
  have pre0 : ∀ t, Steps p.tables e below (s₁.setTop (mkF m 0 #[.val (.ref b), .val (.int u)] [])) t → Steps p.tables e below (s₁.setTop (entryFrame m #[(.ref b), (.int u)] 2)) t := fun t kk => castTop (ef_rmIInit m b u) kk
  obtain ⟨_, _, ⟨T33, L33, k33, n33⟩, -, X33, ⟨Lc33, hQ33, l33, y33, z33⟩, st33⟩ := X0.specialBack hx (y := (⟨"java/lang/Number", "<init>", "()V"⟩ : MethodName)) rfl hown (mvT hZ (hw _ (List.mem_of_getElem? (i := 32) rfl))) (mvT hZ (hw _ (List.mem_of_getElem? (i := 33) rfl))) (mvT hZ (hw _ (List.mem_of_getElem? (i := 37) rfl))) (by decide) (backOf (W := 0) (rmNum l Z a0 hw [] b h0 n0 Z0) hZ (hw _ (List.mem_of_getElem? (i := 37) rfl)) (hw _ (List.mem_of_getElem? (i := 36) rfl)) (by decide) (by decide)) (g := (mkF m 1 #[.val (.ref b), .val (.int u)] [(.ref b)])) rfl (by rw [hml]; rfl) (Steps.refl _) (a := b) (argsL := []) (rest := []) (lenOf pd_0 rfl) rfl (by show 2 * 0 + _ ≤ _; exact Nat.le_of_eq rfl) (hb hby d5_1) (fun _ _ => ⟨rfl, e0, (by decide : 0 + 0 ≤ _), (by decide : 0 + 0 ≤ _)⟩)
  dsimp only [Pt.U, Pt.locs, Pt.cells, Pt.slots] at X33 l33 y33 z33 st33 hQ33
  subst l33 y33 z33
  obtain ⟨rfl, N33q, e33⟩ := hQ33
  have N33 := Fr.app N0 N33q
  obtain ⟨T34, h34, X34, e34, W34, st34⟩ := putF X33 hx hZ hown (host := "") (Or.inl (hw _ (List.mem_of_getElem? (i := 39) rfl))) Via.refl e33 F_value_b E_b (Or.inr ⟨(hw _ (List.mem_of_getElem? (i := 40) rfl)), rfl, hnm⟩) (hw _ (List.mem_of_getElem? (i := 27) rfl)) (ty := .int) (by decide) rfl rfl (g := (mkF m 6 #[.val (.ref b), .val (.int u)] [(.int u), (.ref b)])) rfl rfl (hb hby d5_6)
  have Ex35 : Exa Z h34 b "java/lang/Integer" := (E_b.wr W34)
  have K36 : Keep h0 h34 [b] := (Keep.refl h0 _).wr W34 (Or.inl (List.mem_of_getElem? (i := 0) rfl))
  have N37 := Fr.snoc X34 N33 g_b
  have F38 : Fld Z h34 b "java/lang/Integer" "value" "I" (.int u) := F_value_b.same W34
  have pre39 : ∀ t, Steps p.tables e below (T34.setTop (mkF m 9 #[.val (.ref b), .val (.int u)] [])) t → Steps p.tables e below (s₁.setTop (entryFrame m #[(.ref b), (.int u)] 2)) t := fun t kk => pre0 t (by
      show Steps p.tables e below (s₁.setTop (mkF m 0 #[.val (.ref b), .val (.int u)] [])) _
      refine XS.aloadN X0.here hx rfl (hb hby d5_0) rfl rfl ?_
      show Steps p.tables e below (s₁.setTop (mkF m 1 #[.val (.ref b), .val (.int u)] [(.ref b)])) _
      refine st33.trans ?_
      show Steps p.tables e below (T33.setTop (mkF m 4 #[.val (.ref b), .val (.int u)] [])) _
      refine XS.aloadN X33.here hx rfl (hb hby d5_4) rfl rfl ?_
      show Steps p.tables e below (T33.setTop (mkF m 5 #[.val (.ref b), .val (.int u)] [(.ref b)])) _
      refine XS.iloadN X33.here hx rfl (hb hby d5_5) rfl ?_
      show Steps p.tables e below (T33.setTop (mkF m 6 #[.val (.ref b), .val (.int u)] [(.int u), (.ref b)])) _
      refine st34 _ ?_
      exact kk)
  obtain ⟨fs, hr, hrun, hended, hW, hsame⟩ := X34.leave (v := none) (fun _ => rfl)
  refine ⟨_, _, pre39 _ ?_, hrun, hended, _, _, rfl, ?_, ⟨_, rfl⟩, hW, hsame.mono (by decide) (by decide)⟩
  · show Steps p.tables e below (T34.setTop (mkF m 9 #[.val (.ref b), .val (.int u)] [])) _
    exact X34.returnOut hx Bd.returns (hb hby d5_9) hr
  · show QIInit Z b u h0 n0 _ T34.heap _
    rw [e34]
    exact ⟨rfl, N37, K36, Ex35⟩
theorem d4_0 : decode jdk_33_method_22_code 0 = .ok (.iload_n 0, 1) := by decide +kernel
theorem d4_1 : decode jdk_33_method_22_code 1 = .ok (.bipush (-128), 2) := by decide +kernel
theorem d4_3 : decode jdk_33_method_22_code 3 = .ok (.if_icmp .lt 20, 3) := by decide +kernel
theorem d4_23 : decode jdk_33_method_22_code 23 = .ok (.new 1, 3) := by decide +kernel
theorem d4_26 : decode jdk_33_method_22_code 26 = .ok (.dup, 1) := by decide +kernel
theorem d4_27 : decode jdk_33_method_22_code 27 = .ok (.iload_n 0, 1) := by decide +kernel
theorem d4_28 : decode jdk_33_method_22_code 28 = .ok (.invokespecial 199, 3) := by decide +kernel
theorem pd_1 : parseMethodDescriptor "(I)V" = some ⟨[.int], none⟩ := by decide +kernel
theorem d4_31 : decode jdk_33_method_22_code 31 = .ok (.areturn, 1) := by decide +kernel
theorem d4_6 : decode jdk_33_method_22_code 6 = .ok (.iload_n 0, 1) := by decide +kernel
theorem d4_7 : decode jdk_33_method_22_code 7 = .ok (.getstatic 191, 3) := by decide +kernel
theorem d4_10 : decode jdk_33_method_22_code 10 = .ok (.if_icmp .gt 13, 3) := by decide +kernel
theorem d4_13 : decode jdk_33_method_22_code 13 = .ok (.getstatic 195, 3) := by decide +kernel
theorem d4_16 : decode jdk_33_method_22_code 16 = .ok (.iload_n 0, 1) := by decide +kernel
theorem d4_17 : decode jdk_33_method_22_code 17 = .ok (.sipush 128, 3) := by decide +kernel
theorem d4_20 : decode jdk_33_method_22_code 20 = .ok (.iadd, 1) := by decide +kernel
theorem d4_21 : decode jdk_33_method_22_code 21 = .ok (.aaload, 1) := by decide +kernel
theorem d4_22 : decode jdk_33_method_22_code 22 = .ok (.areturn, 1) := by decide +kernel
theorem own_idx {u : Int32} (h1 : ¬ u < (-128 : Int32)) (h2 : ¬ (127 : Int32) < u) : ¬ (u + (128 : Int32)) < 0 ∧ (u + (128 : Int32)) < 256 := by
  rw [Int32.lt_iff_toInt_lt] at h1 h2
  have a1 : (-128 : Int32).toInt = -128 := by decide
  have a2 : (127 : Int32).toInt = 127 := by decide
  have a3 : (128 : Int32).toInt = 128 := by decide
  have a4 : (256 : Int32).toInt = 256 := by decide
  have a5 : (0 : Int32).toInt = 0 := by decide
  have e : (u + (128 : Int32)).toInt = u.toInt + 128 := by rw [Jvm.Free.XT.add32 ⟨by omega, by omega⟩, a3]
  rw [Int32.lt_iff_toInt_lt, Int32.lt_iff_toInt_lt, e]
  omega
theorem own_inb {cl : Cell} {j : Int32} (hs : cl.slots.size = 256) (h : ¬ j < 0 ∧ j < 256) : ¬ (j < 0 ∨ cl.slots.size ≤ j.toNatClampNeg) :=
  inb_of (z := 256) (by rw [hs]; rfl) h
theorem ef_rmVal (m : MethodId) (x0 : Int32) : entryFrame m #[(.int x0)] 1 = mkF m 0 #[.val (.int x0)] [] := by first | (simp [entryFrame, mkF, argsToLocals, Value.category]; done) | rfl
def QVal (Z : State) (u : Int32) (wc : Addr) (cl : Cell) (h0 : Heap) (n0 : Nat) (v : Option Value) (h : Heap) (L : List Loc) : Prop := ∃ (r : Addr), v = some (.ref r) ∧ Fr n0 L ∧ Keep h0 h [] ∧ Exa Z h r "java/lang/Integer"
set_option maxRecDepth 65536 in
set_option maxHeartbeats 40000000 in
theorem rmVal (l : Launch) (Z : State) (a0 : Array Value) (hw : ∀ d ∈ tables_1, d.before a0 Z = true) (ws : List Jvm.Cond) (u : Int32) (wc : Addr) (cl : Cell) (h0 : Heap) (n0 : Nat) (Z0 : n0 ≤ h0.size) (O_0 : Old Z n0 h0) (hSh : Sta Z Z.heap "java/lang/Integer$IntegerCache" "high" "I" (.int (127 : Int32))) (hSc : Sta Z Z.heap "java/lang/Integer$IntegerCache" "cache" "[Ljava/lang/Integer;" (.ref wc)) (hAr : Arr Z Z.heap wc cl (.object "java/lang/Integer")) (hsz : cl.slots.size = 256) (hel : ∀ j : Int32, ¬ j < 0 → j < 256 → ∃ r : Addr, cl.slots[j.toNatClampNeg]? = some (.ref r) ∧ Exa Z Z.heap r "java/lang/Integer") :
    MetFree l (⟨"java/lang/Integer", "valueOf", "(I)Ljava/lang/Integer;"⟩ : MethodName) (head1 (Jvm.Cond.code (⟨"java/lang/Integer", "valueOf", "(I)Ljava/lang/Integer;"⟩ : MethodName) jdk_33_method_22_code 1 (some (.object "java/lang/Integer")) :: ws) ({ frames := 3, cells := 1, slots := 1, locals := 38 } : Room)) (fun aA uU => aA = #[(.int u)] ∧ Z.Warmed39 uU.vm ∧ uU.heap = h0) (fun _ _ _ _ _ => True) (fun _ uU oO uU' => ∃ vV lL, oO = .returned vV ∧ QVal Z u wc cl h0 n0 vV uU'.heap lL ∧ FrameEnd uU oO uU' lL ({ frames := 3, cells := 1, slots := 1, locals := 38 } : Room).cells ({ frames := 3, cells := 1, slots := 1, locals := 38 } : Room).slots) := by
  refine MetFree.of_bodySF (plainFor_of_name pn_2) hisR ?_
  intro p e s m args below meth c s₁ Bd hml0 hP hK
  obtain ⟨rfl, hZ, hh⟩ := hP
  have hx := Bd.exec
  have hby := Bd.bytes
  have hml : c.maxLocals = 1 := hml0
  have hown : s.vm.findClass "java/lang/Integer" = some m.cls := findClass_of_methodNamed Bd.named
  have hnm := (name_of_methodNamed Bd.named Bd.method).1
  have X0 : Stand p l e ({ frames := 3, cells := 1, slots := 1, locals := 38 } : Room) s m #[(.int u)] below meth c s₁ [] 0 0 := Stand.of_body Bd
  have e0 : s₁.heap = h0 := by rw [← hh, Bd.state]; rfl
  have N0 := Fr.nil n0
  have pre0 : ∀ t, Steps p.tables e below (s₁.setTop (mkF m 0 #[.val (.int u)] [])) t → Steps p.tables e below (s₁.setTop (entryFrame m #[(.int u)] 1)) t := fun t kk => castTop (ef_rmVal m u) kk
  have S1 : Sta Z h0 "java/lang/Integer$IntegerCache" "high" "I" (.int (127 : Int32)) := hSh.ext O_0.2
  have S2 : Sta Z h0 "java/lang/Integer$IntegerCache" "cache" "[Ljava/lang/Integer;" (.ref wc) := hSc.ext O_0.2
  have A1 : Arr Z h0 wc cl (.object "java/lang/Integer") := hAr.ext O_0.2
  have pre40 : ∀ t, Steps p.tables e below (s₁.setTop (mkF m 3 #[.val (.int u)] [(.int (-128 : Int32)), (.int u)])) t → Steps p.tables e below (s₁.setTop (entryFrame m #[(.int u)] 1)) t := fun t kk => pre0 t (by
      show Steps p.tables e below (s₁.setTop (mkF m 0 #[.val (.int u)] [])) _
      refine XS.iloadN X0.here hx rfl (hb hby d4_0) rfl ?_
      show Steps p.tables e below (s₁.setTop (mkF m 1 #[.val (.int u)] [(.int u)])) _
      refine XS.bipush X0.here hx rfl (hb hby d4_1) ?_
      exact kk)
  by_cases hlo : u < (-128 : Int32)
  · obtain ⟨T41, h41, X41, e41, E41, A41, D41, -, st41⟩ := newO X0 hx hZ hown (hw _ (List.mem_of_getElem? (i := 26) rfl)) (hw _ (List.mem_of_getElem? (i := 27) rfl)) (hw _ (List.mem_of_getElem? (i := 22) rfl)) e0 (g := (mkF m 23 #[.val (.int u)] [])) rfl (hb hby d4_23) (by decide) (by decide)
    obtain ⟨b41, gq41⟩ : ∃ z, z = h0.size := ⟨_, rfl⟩
    rw [← gq41] at A41 D41 st41
    have g_b41 : n0 ≤ b41 := Nat.le_trans Z0 (Nat.le_of_eq gq41.symm)
    have sz_b41 : h0.size ≤ b41 := Nat.le_trans (Nat.le_refl _) (Nat.le_of_eq gq41.symm)
    have Xf42 : Old Z n0 h41 := (O_0.ext E41)
    have Sa43 : Sta Z h41 "java/lang/Integer$IntegerCache" "high" "I" (.int (127 : Int32)) := (S1.ext E41)
    have Sa44 : Sta Z h41 "java/lang/Integer$IntegerCache" "cache" "[Ljava/lang/Integer;" (.ref wc) := (S2.ext E41)
    have K45 : Keep h0 h41 [] := (Keep.refl h0 _).ext E41
    have F46 : Fld Z h41 b41 "java/lang/Integer" "value" "I" (.int (0 : Int32)) := D41 (Or.inr (hw _ (List.mem_of_getElem? (i := 40) rfl))) (ty := .int) (by decide)
    obtain ⟨_, _, ⟨T47, L47, k47, n47⟩, -, X47, ⟨Lc47, hQ47, l47, y47, z47⟩, st47⟩ := X41.specialBack hx (y := (⟨"java/lang/Integer", "<init>", "(I)V"⟩ : MethodName)) rfl hown (mvT hZ (hw _ (List.mem_of_getElem? (i := 28) rfl))) (mvT hZ (hw _ (List.mem_of_getElem? (i := 29) rfl))) (mvT hZ (hw _ (List.mem_of_getElem? (i := 31) rfl))) (by decide) (backOf (W := 1) (rmIInit l Z a0 hw [] b41 u h41 n0 (Nat.le_trans Z0 K45.1) A41 F46 g_b41) hZ (hw _ (List.mem_of_getElem? (i := 31) rfl)) (hw _ (List.mem_of_getElem? (i := 22) rfl)) (by decide) (by decide)) (g := (mkF m 28 #[.val (.int u)] [(.int u), (.ref b41), (.ref b41)])) rfl (by rw [hml]; rfl) (Steps.refl _) (a := b41) (argsL := [(.int u)]) (rest := [(.ref b41)]) (lenOf pd_1 rfl) rfl (by show 2 * 0 + _ ≤ _; exact Nat.le_of_eq rfl) (hb hby d4_28) (fun _ _ => ⟨rfl, e41, (by decide : 1 + 0 ≤ _), (by decide : 1 + 0 ≤ _)⟩)
    dsimp only [Pt.U, Pt.locs, Pt.cells, Pt.slots] at X47 l47 y47 z47 st47 hQ47
    subst l47 y47 z47
    obtain ⟨rfl, N47q, K47q, P47_0⟩ := hQ47
    have N47 := Fr.app N0 N47q
    have Xf48 : Old Z n0 T47.heap := (Xf42.keep K47q (allS g_b41 all0))
    have Ex49 : Exa Z T47.heap b41 "java/lang/Integer" := (A41.keep K47q)
    have K50 : Keep h0 T47.heap [] := K45.trans K47q (allS (Or.inr sz_b41) all0)
    have pre51 : ∀ t, Steps p.tables e below (T47.setTop (mkF m 31 #[.val (.int u)] [(.ref b41)])) t → Steps p.tables e below (s₁.setTop (entryFrame m #[(.int u)] 1)) t := fun t kk => pre40 t (by
        show Steps p.tables e below (s₁.setTop (mkF m 3 #[.val (.int u)] [(.int (-128 : Int32)), (.int u)])) _
        refine XS.icmpYes X0.here hx rfl (pc0 := 3) (pc' := 23) rfl (hb hby d4_3) rfl (tlt hlo).1 (by decide) (by decide) ?_
        show Steps p.tables e below (s₁.setTop (mkF m 23 #[.val (.int u)] [])) _
        refine st41 _ ?_
        show Steps p.tables e below (T41.setTop (mkF m 26 #[.val (.int u)] [(.ref b41)])) _
        refine XS.dup X41.here hx rfl (hb hby d4_26) rfl rfl ?_
        show Steps p.tables e below (T41.setTop (mkF m 27 #[.val (.int u)] [(.ref b41), (.ref b41)])) _
        refine XS.iloadN X41.here hx rfl (hb hby d4_27) rfl ?_
        show Steps p.tables e below (T41.setTop (mkF m 28 #[.val (.int u)] [(.int u), (.ref b41), (.ref b41)])) _
        refine st47.trans ?_
        exact kk)
    obtain ⟨fs, hr, hrun, hended, hW, hsame⟩ := X47.leave (v := some (.ref b41)) (fun h => by rw [Bd.returns] at h; cases h)
    refine ⟨_, _, pre51 _ ?_, hrun, hended, _, _, rfl, ?_, ⟨_, rfl⟩, hW, hsame.mono (by decide) (by decide)⟩
    · show Steps p.tables e below (T47.setTop (mkF m 31 #[.val (.int u)] [(.ref b41)])) _
      exact retOut X47 hx Bd.returns rfl (Or.inr (Or.inr (Or.inr (Or.inr ⟨rfl, rfl, rfl⟩)))) (hb hby d4_31) hr
    · show QVal Z u wc cl h0 n0 _ T47.heap _
      exact ⟨b41, rfl, N47, K50, P47_0⟩
  · obtain ⟨T52, X52, e52, st52⟩ := getS2 X0 hx hZ hown (host := "") (Or.inl (hw _ (List.mem_of_getElem? (i := 24) rfl))) Via.refl e0 S1 (g := (mkF m 7 #[.val (.int u)] [(.int u)])) rfl (hb hby d4_7)
    have pre53 : ∀ t, Steps p.tables e below (T52.setTop (mkF m 10 #[.val (.int u)] [(.int (127 : Int32)), (.int u)])) t → Steps p.tables e below (s₁.setTop (entryFrame m #[(.int u)] 1)) t := fun t kk => pre40 t (by
        show Steps p.tables e below (s₁.setTop (mkF m 3 #[.val (.int u)] [(.int (-128 : Int32)), (.int u)])) _
        refine XS.icmpNo X0.here hx rfl (hb hby d4_3) rfl (flt hlo).1 ?_
        show Steps p.tables e below (s₁.setTop (mkF m 6 #[.val (.int u)] [])) _
        refine XS.iloadN X0.here hx rfl (hb hby d4_6) rfl ?_
        show Steps p.tables e below (s₁.setTop (mkF m 7 #[.val (.int u)] [(.int u)])) _
        refine st52 _ ?_
        exact kk)
    by_cases hhi : (127 : Int32) < u
    · obtain ⟨T54, h54, X54, e54, E54, A54, D54, -, st54⟩ := newO X52 hx hZ hown (hw _ (List.mem_of_getElem? (i := 26) rfl)) (hw _ (List.mem_of_getElem? (i := 27) rfl)) (hw _ (List.mem_of_getElem? (i := 22) rfl)) e52 (g := (mkF m 23 #[.val (.int u)] [])) rfl (hb hby d4_23) (by decide) (by decide)
      obtain ⟨b54, gq54⟩ : ∃ z, z = h0.size := ⟨_, rfl⟩
      rw [← gq54] at A54 D54 st54
      have g_b54 : n0 ≤ b54 := Nat.le_trans Z0 (Nat.le_of_eq gq54.symm)
      have sz_b54 : h0.size ≤ b54 := Nat.le_trans (Nat.le_refl _) (Nat.le_of_eq gq54.symm)
      have Xf55 : Old Z n0 h54 := (O_0.ext E54)
      have Sa56 : Sta Z h54 "java/lang/Integer$IntegerCache" "high" "I" (.int (127 : Int32)) := (S1.ext E54)
      have Sa57 : Sta Z h54 "java/lang/Integer$IntegerCache" "cache" "[Ljava/lang/Integer;" (.ref wc) := (S2.ext E54)
      have K58 : Keep h0 h54 [] := (Keep.refl h0 _).ext E54
      have F59 : Fld Z h54 b54 "java/lang/Integer" "value" "I" (.int (0 : Int32)) := D54 (Or.inr (hw _ (List.mem_of_getElem? (i := 40) rfl))) (ty := .int) (by decide)
      obtain ⟨_, _, ⟨T60, L60, k60, n60⟩, -, X60, ⟨Lc60, hQ60, l60, y60, z60⟩, st60⟩ := X54.specialBack hx (y := (⟨"java/lang/Integer", "<init>", "(I)V"⟩ : MethodName)) rfl hown (mvT hZ (hw _ (List.mem_of_getElem? (i := 28) rfl))) (mvT hZ (hw _ (List.mem_of_getElem? (i := 29) rfl))) (mvT hZ (hw _ (List.mem_of_getElem? (i := 31) rfl))) (by decide) (backOf (W := 1) (rmIInit l Z a0 hw [] b54 u h54 n0 (Nat.le_trans Z0 K58.1) A54 F59 g_b54) hZ (hw _ (List.mem_of_getElem? (i := 31) rfl)) (hw _ (List.mem_of_getElem? (i := 22) rfl)) (by decide) (by decide)) (g := (mkF m 28 #[.val (.int u)] [(.int u), (.ref b54), (.ref b54)])) rfl (by rw [hml]; rfl) (Steps.refl _) (a := b54) (argsL := [(.int u)]) (rest := [(.ref b54)]) (lenOf pd_1 rfl) rfl (by show 2 * 0 + _ ≤ _; exact Nat.le_of_eq rfl) (hb hby d4_28) (fun _ _ => ⟨rfl, e54, (by decide : 1 + 0 ≤ _), (by decide : 1 + 0 ≤ _)⟩)
      dsimp only [Pt.U, Pt.locs, Pt.cells, Pt.slots] at X60 l60 y60 z60 st60 hQ60
      subst l60 y60 z60
      obtain ⟨rfl, N60q, K60q, P60_0⟩ := hQ60
      have N60 := Fr.app N0 N60q
      have Xf61 : Old Z n0 T60.heap := (Xf55.keep K60q (allS g_b54 all0))
      have Ex62 : Exa Z T60.heap b54 "java/lang/Integer" := (A54.keep K60q)
      have K63 : Keep h0 T60.heap [] := K58.trans K60q (allS (Or.inr sz_b54) all0)
      have pre64 : ∀ t, Steps p.tables e below (T60.setTop (mkF m 31 #[.val (.int u)] [(.ref b54)])) t → Steps p.tables e below (s₁.setTop (entryFrame m #[(.int u)] 1)) t := fun t kk => pre53 t (by
          show Steps p.tables e below (T52.setTop (mkF m 10 #[.val (.int u)] [(.int (127 : Int32)), (.int u)])) _
          refine XS.icmpYes X52.here hx rfl (pc0 := 10) (pc' := 23) rfl (hb hby d4_10) rfl (tlt hhi).2.2.1 (by decide) (by decide) ?_
          show Steps p.tables e below (T52.setTop (mkF m 23 #[.val (.int u)] [])) _
          refine st54 _ ?_
          show Steps p.tables e below (T54.setTop (mkF m 26 #[.val (.int u)] [(.ref b54)])) _
          refine XS.dup X54.here hx rfl (hb hby d4_26) rfl rfl ?_
          show Steps p.tables e below (T54.setTop (mkF m 27 #[.val (.int u)] [(.ref b54), (.ref b54)])) _
          refine XS.iloadN X54.here hx rfl (hb hby d4_27) rfl ?_
          show Steps p.tables e below (T54.setTop (mkF m 28 #[.val (.int u)] [(.int u), (.ref b54), (.ref b54)])) _
          refine st60.trans ?_
          exact kk)
      obtain ⟨fs, hr, hrun, hended, hW, hsame⟩ := X60.leave (v := some (.ref b54)) (fun h => by rw [Bd.returns] at h; cases h)
      refine ⟨_, _, pre64 _ ?_, hrun, hended, _, _, rfl, ?_, ⟨_, rfl⟩, hW, hsame.mono (by decide) (by decide)⟩
      · show Steps p.tables e below (T60.setTop (mkF m 31 #[.val (.int u)] [(.ref b54)])) _
        exact retOut X60 hx Bd.returns rfl (Or.inr (Or.inr (Or.inr (Or.inr ⟨rfl, rfl, rfl⟩)))) (hb hby d4_31) hr
      · show QVal Z u wc cl h0 n0 _ T60.heap _
        exact ⟨b54, rfl, N60, K63, P60_0⟩
    · obtain ⟨r, hr1, hr2⟩ := hel (u + (128 : Int32)) (own_idx hlo hhi).1 (own_idx hlo hhi).2
      have hr3 : Exa Z h0 r "java/lang/Integer" := hr2.ext O_0.2
      have hin0 : ¬ ((u + (128 : Int32)) < 0 ∨ cl.slots.size ≤ (u + (128 : Int32)).toNatClampNeg) := own_inb hsz (own_idx hlo hhi)
      obtain ⟨T65, X65, e65, st65⟩ := getS2 X52 hx hZ hown (host := "") (Or.inl (hw _ (List.mem_of_getElem? (i := 44) rfl))) Via.refl e52 S2 (g := (mkF m 13 #[.val (.int u)] [])) rfl (hb hby d4_13)
      have pre66 : ∀ t, Steps p.tables e below (T65.setTop (mkF m 22 #[.val (.int u)] [(.ref r)])) t → Steps p.tables e below (s₁.setTop (entryFrame m #[(.int u)] 1)) t := fun t kk => pre53 t (by
          show Steps p.tables e below (T52.setTop (mkF m 10 #[.val (.int u)] [(.int (127 : Int32)), (.int u)])) _
          refine XS.icmpNo X52.here hx rfl (hb hby d4_10) rfl (flt hhi).2.2.1 ?_
          show Steps p.tables e below (T52.setTop (mkF m 13 #[.val (.int u)] [])) _
          refine st65 _ ?_
          show Steps p.tables e below (T65.setTop (mkF m 16 #[.val (.int u)] [(.ref wc)])) _
          refine XS.iloadN X65.here hx rfl (hb hby d4_16) rfl ?_
          show Steps p.tables e below (T65.setTop (mkF m 17 #[.val (.int u)] [(.int u), (.ref wc)])) _
          refine XS.sipush X65.here hx rfl (hb hby d4_17) ?_
          show Steps p.tables e below (T65.setTop (mkF m 20 #[.val (.int u)] [(.int (128 : Int32)), (.int u), (.ref wc)])) _
          refine XS.iadd X65.here hx rfl (hb hby d4_20) rfl ?_
          show Steps p.tables e below (T65.setTop (mkF m 21 #[.val (.int u)] [(.int (u + (128 : Int32))), (.ref wc)])) _
          refine X65.aaload hx (j := (u + (128 : Int32))) (v := (.ref r)) (by rw [e65]; exact A1.1) (State.isArrayOf_alike hZ.alike A1.2.1) rfl A1.2.2 hin0 hr1 (g := (mkF m 21 #[.val (.int u)] [(.int (u + (128 : Int32))), (.ref wc)])) rfl rfl (hb hby d4_21) _ ?_
          exact kk)
      obtain ⟨fs, hr, hrun, hended, hW, hsame⟩ := X65.leave (v := some (.ref r)) (fun h => by rw [Bd.returns] at h; cases h)
      refine ⟨_, _, pre66 _ ?_, hrun, hended, _, _, rfl, ?_, ⟨_, rfl⟩, hW, hsame.mono (by decide) (by decide)⟩
      · show Steps p.tables e below (T65.setTop (mkF m 22 #[.val (.int u)] [(.ref r)])) _
        exact retOut X65 hx Bd.returns rfl (Or.inr (Or.inr (Or.inr (Or.inr ⟨rfl, rfl, rfl⟩)))) (hb hby d4_22) hr
      · show QVal Z u wc cl h0 n0 _ T65.heap _
        rw [e65]
        exact ⟨r, rfl, N0, Keep.refl _ _, hr3⟩
theorem pd_2 : parseMethodDescriptor "(II)V" = some ⟨[.int, .int], none⟩ := by decide +kernel
theorem pd_3 : parseMethodDescriptor "(Ljava/lang/Object;)Z" = some ⟨[(.object "java/lang/Object")], some .boolean⟩ := by decide +kernel
theorem pd_4 : parseMethodDescriptor "(I)Ljava/lang/Integer;" = some ⟨[.int], some (.object "java/lang/Integer")⟩ := by decide +kernel
theorem ef_rm0 (m : MethodId) (x0 : Int32) (x1 : Int32) (x2 : Int32) (x3 : Int32) (x4 : Int32) : entryFrame m #[(.int x0), (.int x1), (.int x2), (.int x3), (.int x4)] maxLocals = mkF m 0 #[.val (.int x0), .val (.int x1), .val (.int x2), .val (.int x3), .val (.int x4), .unset, .unset, .unset, .unset, .unset, .unset, .unset, .unset, .unset] [] := by first | (simp [entryFrame, mkF, argsToLocals, Value.category, maxLocals]; done) | rfl
def Q0 (Z : State) (p0 : Int32) (p1 : Int32) (p2 : Int32) (p3 : Int32) (p4 : Int32) (wc : Addr) (cl : Cell) (h0 : Heap) (n0 : Nat) (v : Option Value) (h : Heap) (L : List Loc) : Prop := v = some (.int (1 : Int32)) ∧ Fr n0 L ∧ Keep h0 h []
theorem pn_3 : plainName "com/example/deodar/deodar/AclChangeEqualsPinLaw" = true := by first | (simp [plainName, overriddenIn]; done) | decide +kernel
set_option maxRecDepth 65536 in
set_option maxHeartbeats 40000000 in
theorem rm0 (l : Launch) (Z : State) (a0 : Array Value) (hw : ∀ d ∈ tables_1, d.before a0 Z = true) (ws : List Jvm.Cond) (p0 : Int32) (p1 : Int32) (p2 : Int32) (p3 : Int32) (p4 : Int32) (wc : Addr) (cl : Cell) (h0 : Heap) (n0 : Nat) (Z0 : n0 ≤ h0.size) (O_0 : Old Z n0 h0) (hSh : Sta Z Z.heap "java/lang/Integer$IntegerCache" "high" "I" (.int (127 : Int32))) (hSc : Sta Z Z.heap "java/lang/Integer$IntegerCache" "cache" "[Ljava/lang/Integer;" (.ref wc)) (hAr : Arr Z Z.heap wc cl (.object "java/lang/Integer")) (hsz : cl.slots.size = 256) (hel : ∀ j : Int32, ¬ j < 0 → j < 256 → ∃ r : Addr, cl.slots[j.toNatClampNeg]? = some (.ref r) ∧ Exa Z Z.heap r "java/lang/Integer") :
    MetFree l x (head1 (Jvm.Cond.code x code maxLocals ret :: ws) room_1) (fun aA uU => aA = #[(.int p0), (.int p1), (.int p2), (.int p3), (.int p4)] ∧ Z.Warmed39 uU.vm ∧ uU.heap = h0) (fun _ _ _ _ _ => True) (fun _ uU oO uU' => ∃ vV lL, oO = .returned vV ∧ Q0 Z p0 p1 p2 p3 p4 wc cl h0 n0 vV uU'.heap lL ∧ FrameEnd uU oO uU' lL room_1.cells room_1.slots) := by
  refine MetFree.of_bodySF (plainFor_of_name pn_3) hisR ?_
  intro p e s m args below meth c s₁ Bd hml0 hP hK
  obtain ⟨rfl, hZ, hh⟩ := hP
  have hx := Bd.exec
  have hby := Bd.bytes
  have hml : c.maxLocals = 14 := hml0
  have hown : s.vm.findClass "com/example/deodar/deodar/AclChangeEqualsPinLaw" = some m.cls := findClass_of_methodNamed Bd.named
  have hnm := (name_of_methodNamed Bd.named Bd.method).1
  have X0 : Stand p l e room_1 s m #[(.int p0), (.int p1), (.int p2), (.int p3), (.int p4)] below meth c s₁ [] 0 0 := Stand.of_body Bd
  have e0 : s₁.heap = h0 := by rw [← hh, Bd.state]; rfl
  have N0 := Fr.nil n0
  have pre0 : ∀ t, Steps p.tables e below (s₁.setTop (mkF m 0 #[.val (.int p0), .val (.int p1), .val (.int p2), .val (.int p3), .val (.int p4), .unset, .unset, .unset, .unset, .unset, .unset, .unset, .unset, .unset] [])) t → Steps p.tables e below (s₁.setTop (entryFrame m #[(.int p0), (.int p1), (.int p2), (.int p3), (.int p4)] maxLocals)) t := fun t kk => castTop (ef_rm0 m p0 p1 p2 p3 p4) kk
  obtain ⟨c2, d2, hv_c2, hv_d2, pre77j⟩ : ∃ (c2 : Int32) (d2 : Int32), c2 = (if (p4 &&& (1 : Int32)) = (0 : Int32) then p2 else p0) ∧ d2 = (if (p4 &&& (1 : Int32)) = (0 : Int32) then (if (p4 &&& (2 : Int32)) = (0 : Int32) then p3 else p1) else (if (p4 &&& (2 : Int32)) = (0 : Int32) then p3 else p1)) ∧ ∀ t, Steps p.tables e below (s₁.setTop (mkF m 28 #[.val (.int p0), .val (.int p1), .val (.int p2), .val (.int p3), .val (.int p4), .val (.int c2), .val (.int d2), .unset, .unset, .unset, .unset, .unset, .unset, .unset] [])) t → Steps p.tables e below (s₁.setTop (entryFrame m #[(.int p0), (.int p1), (.int p2), (.int p3), (.int p4)] maxLocals)) t := by
    have pre67 : ∀ t, Steps p.tables e below (s₁.setTop (mkF m 4 #[.val (.int p0), .val (.int p1), .val (.int p2), .val (.int p3), .val (.int p4), .unset, .unset, .unset, .unset, .unset, .unset, .unset, .unset, .unset] [(.int (p4 &&& (1 : Int32)))])) t → Steps p.tables e below (s₁.setTop (entryFrame m #[(.int p0), (.int p1), (.int p2), (.int p3), (.int p4)] maxLocals)) t := fun t kk => pre0 t (by
        show Steps p.tables e below (s₁.setTop (mkF m 0 #[.val (.int p0), .val (.int p1), .val (.int p2), .val (.int p3), .val (.int p4), .unset, .unset, .unset, .unset, .unset, .unset, .unset, .unset, .unset] [])) _
        refine XS.iload X0.here hx rfl (hb hby at_0) rfl ?_
        show Steps p.tables e below (s₁.setTop (mkF m 2 #[.val (.int p0), .val (.int p1), .val (.int p2), .val (.int p3), .val (.int p4), .unset, .unset, .unset, .unset, .unset, .unset, .unset, .unset, .unset] [(.int p4)])) _
        refine XS.iconst X0.here hx rfl (hb hby at_2) ?_
        show Steps p.tables e below (s₁.setTop (mkF m 3 #[.val (.int p0), .val (.int p1), .val (.int p2), .val (.int p3), .val (.int p4), .unset, .unset, .unset, .unset, .unset, .unset, .unset, .unset, .unset] [(.int (1 : Int32)), (.int p4)])) _
        refine XS.iand X0.here hx rfl (hb hby at_3) rfl ?_
        exact kk)
    by_cases hc68 : (p4 &&& (1 : Int32)) = (0 : Int32)
    · have pre69 : ∀ t, Steps p.tables e below (s₁.setTop (mkF m 18 #[.val (.int p0), .val (.int p1), .val (.int p2), .val (.int p3), .val (.int p4), .val (.int p2), .unset, .unset, .unset, .unset, .unset, .unset, .unset, .unset] [(.int (p4 &&& (2 : Int32)))])) t → Steps p.tables e below (s₁.setTop (entryFrame m #[(.int p0), (.int p1), (.int p2), (.int p3), (.int p4)] maxLocals)) t := fun t kk => pre67 t (by
          show Steps p.tables e below (s₁.setTop (mkF m 4 #[.val (.int p0), .val (.int p1), .val (.int p2), .val (.int p3), .val (.int p4), .unset, .unset, .unset, .unset, .unset, .unset, .unset, .unset, .unset] [(.int (p4 &&& (1 : Int32)))])) _
          refine XS.ifYes X0.here hx rfl (pc0 := 4) (pc' := 11) rfl (hb hby at_4) rfl ((if0 _ _).trans (teq hc68).1) (by decide) (by decide) ?_
          show Steps p.tables e below (s₁.setTop (mkF m 11 #[.val (.int p0), .val (.int p1), .val (.int p2), .val (.int p3), .val (.int p4), .unset, .unset, .unset, .unset, .unset, .unset, .unset, .unset, .unset] [])) _
          refine XS.iloadN X0.here hx rfl (hb hby at_11) rfl ?_
          show Steps p.tables e below (s₁.setTop (mkF m 12 #[.val (.int p0), .val (.int p1), .val (.int p2), .val (.int p3), .val (.int p4), .unset, .unset, .unset, .unset, .unset, .unset, .unset, .unset, .unset] [(.int p2)])) _
          refine XS.istore X0.here hx rfl (hb hby at_12) rfl (l' := #[.val (.int p0), .val (.int p1), .val (.int p2), .val (.int p3), .val (.int p4), .val (.int p2), .unset, .unset, .unset, .unset, .unset, .unset, .unset, .unset]) rfl ?_
          show Steps p.tables e below (s₁.setTop (mkF m 14 #[.val (.int p0), .val (.int p1), .val (.int p2), .val (.int p3), .val (.int p4), .val (.int p2), .unset, .unset, .unset, .unset, .unset, .unset, .unset, .unset] [])) _
          refine XS.iload X0.here hx rfl (hb hby at_14) rfl ?_
          show Steps p.tables e below (s₁.setTop (mkF m 16 #[.val (.int p0), .val (.int p1), .val (.int p2), .val (.int p3), .val (.int p4), .val (.int p2), .unset, .unset, .unset, .unset, .unset, .unset, .unset, .unset] [(.int p4)])) _
          refine XS.iconst X0.here hx rfl (hb hby at_16) ?_
          show Steps p.tables e below (s₁.setTop (mkF m 17 #[.val (.int p0), .val (.int p1), .val (.int p2), .val (.int p3), .val (.int p4), .val (.int p2), .unset, .unset, .unset, .unset, .unset, .unset, .unset, .unset] [(.int (2 : Int32)), (.int p4)])) _
          refine XS.iand X0.here hx rfl (hb hby at_17) rfl ?_
          exact kk)
      by_cases hc70 : (p4 &&& (2 : Int32)) = (0 : Int32)
      · have pre71 : ∀ t, Steps p.tables e below (s₁.setTop (mkF m 28 #[.val (.int p0), .val (.int p1), .val (.int p2), .val (.int p3), .val (.int p4), .val (.int p2), .val (.int p3), .unset, .unset, .unset, .unset, .unset, .unset, .unset] [])) t → Steps p.tables e below (s₁.setTop (entryFrame m #[(.int p0), (.int p1), (.int p2), (.int p3), (.int p4)] maxLocals)) t := fun t kk => pre69 t (by
            show Steps p.tables e below (s₁.setTop (mkF m 18 #[.val (.int p0), .val (.int p1), .val (.int p2), .val (.int p3), .val (.int p4), .val (.int p2), .unset, .unset, .unset, .unset, .unset, .unset, .unset, .unset] [(.int (p4 &&& (2 : Int32)))])) _
            refine XS.ifYes X0.here hx rfl (pc0 := 18) (pc' := 25) rfl (hb hby at_18) rfl ((if0 _ _).trans (teq hc70).1) (by decide) (by decide) ?_
            show Steps p.tables e below (s₁.setTop (mkF m 25 #[.val (.int p0), .val (.int p1), .val (.int p2), .val (.int p3), .val (.int p4), .val (.int p2), .unset, .unset, .unset, .unset, .unset, .unset, .unset, .unset] [])) _
            refine XS.iloadN X0.here hx rfl (hb hby at_25) rfl ?_
            show Steps p.tables e below (s₁.setTop (mkF m 26 #[.val (.int p0), .val (.int p1), .val (.int p2), .val (.int p3), .val (.int p4), .val (.int p2), .unset, .unset, .unset, .unset, .unset, .unset, .unset, .unset] [(.int p3)])) _
            refine XS.istore X0.here hx rfl (hb hby at_26) rfl (l' := #[.val (.int p0), .val (.int p1), .val (.int p2), .val (.int p3), .val (.int p4), .val (.int p2), .val (.int p3), .unset, .unset, .unset, .unset, .unset, .unset, .unset]) rfl ?_
            exact kk)
        exact ⟨p2, p3, (by rw [if_pos hc68]), (by rw [if_pos hc68, if_pos hc70]), pre71⟩
      · have pre72 : ∀ t, Steps p.tables e below (s₁.setTop (mkF m 28 #[.val (.int p0), .val (.int p1), .val (.int p2), .val (.int p3), .val (.int p4), .val (.int p2), .val (.int p1), .unset, .unset, .unset, .unset, .unset, .unset, .unset] [])) t → Steps p.tables e below (s₁.setTop (entryFrame m #[(.int p0), (.int p1), (.int p2), (.int p3), (.int p4)] maxLocals)) t := fun t kk => pre69 t (by
            show Steps p.tables e below (s₁.setTop (mkF m 18 #[.val (.int p0), .val (.int p1), .val (.int p2), .val (.int p3), .val (.int p4), .val (.int p2), .unset, .unset, .unset, .unset, .unset, .unset, .unset, .unset] [(.int (p4 &&& (2 : Int32)))])) _
            refine XS.ifNo X0.here hx rfl (hb hby at_18) rfl ((if0 _ _).trans (feq hc70).1) ?_
            show Steps p.tables e below (s₁.setTop (mkF m 21 #[.val (.int p0), .val (.int p1), .val (.int p2), .val (.int p3), .val (.int p4), .val (.int p2), .unset, .unset, .unset, .unset, .unset, .unset, .unset, .unset] [])) _
            refine XS.iloadN X0.here hx rfl (hb hby at_21) rfl ?_
            show Steps p.tables e below (s₁.setTop (mkF m 22 #[.val (.int p0), .val (.int p1), .val (.int p2), .val (.int p3), .val (.int p4), .val (.int p2), .unset, .unset, .unset, .unset, .unset, .unset, .unset, .unset] [(.int p1)])) _
            refine XS.goto X0.here hx rfl (pc0 := 22) (pc' := 26) rfl (hb hby at_22) (by decide) (by decide) ?_
            show Steps p.tables e below (s₁.setTop (mkF m 26 #[.val (.int p0), .val (.int p1), .val (.int p2), .val (.int p3), .val (.int p4), .val (.int p2), .unset, .unset, .unset, .unset, .unset, .unset, .unset, .unset] [(.int p1)])) _
            refine XS.istore X0.here hx rfl (hb hby at_26) rfl (l' := #[.val (.int p0), .val (.int p1), .val (.int p2), .val (.int p3), .val (.int p4), .val (.int p2), .val (.int p1), .unset, .unset, .unset, .unset, .unset, .unset, .unset]) rfl ?_
            exact kk)
        exact ⟨p2, p1, (by rw [if_pos hc68]), (by rw [if_pos hc68, if_neg hc70]), pre72⟩
    · have pre73 : ∀ t, Steps p.tables e below (s₁.setTop (mkF m 18 #[.val (.int p0), .val (.int p1), .val (.int p2), .val (.int p3), .val (.int p4), .val (.int p0), .unset, .unset, .unset, .unset, .unset, .unset, .unset, .unset] [(.int (p4 &&& (2 : Int32)))])) t → Steps p.tables e below (s₁.setTop (entryFrame m #[(.int p0), (.int p1), (.int p2), (.int p3), (.int p4)] maxLocals)) t := fun t kk => pre67 t (by
          show Steps p.tables e below (s₁.setTop (mkF m 4 #[.val (.int p0), .val (.int p1), .val (.int p2), .val (.int p3), .val (.int p4), .unset, .unset, .unset, .unset, .unset, .unset, .unset, .unset, .unset] [(.int (p4 &&& (1 : Int32)))])) _
          refine XS.ifNo X0.here hx rfl (hb hby at_4) rfl ((if0 _ _).trans (feq hc68).1) ?_
          show Steps p.tables e below (s₁.setTop (mkF m 7 #[.val (.int p0), .val (.int p1), .val (.int p2), .val (.int p3), .val (.int p4), .unset, .unset, .unset, .unset, .unset, .unset, .unset, .unset, .unset] [])) _
          refine XS.iloadN X0.here hx rfl (hb hby at_7) rfl ?_
          show Steps p.tables e below (s₁.setTop (mkF m 8 #[.val (.int p0), .val (.int p1), .val (.int p2), .val (.int p3), .val (.int p4), .unset, .unset, .unset, .unset, .unset, .unset, .unset, .unset, .unset] [(.int p0)])) _
          refine XS.goto X0.here hx rfl (pc0 := 8) (pc' := 12) rfl (hb hby at_8) (by decide) (by decide) ?_
          show Steps p.tables e below (s₁.setTop (mkF m 12 #[.val (.int p0), .val (.int p1), .val (.int p2), .val (.int p3), .val (.int p4), .unset, .unset, .unset, .unset, .unset, .unset, .unset, .unset, .unset] [(.int p0)])) _
          refine XS.istore X0.here hx rfl (hb hby at_12) rfl (l' := #[.val (.int p0), .val (.int p1), .val (.int p2), .val (.int p3), .val (.int p4), .val (.int p0), .unset, .unset, .unset, .unset, .unset, .unset, .unset, .unset]) rfl ?_
          show Steps p.tables e below (s₁.setTop (mkF m 14 #[.val (.int p0), .val (.int p1), .val (.int p2), .val (.int p3), .val (.int p4), .val (.int p0), .unset, .unset, .unset, .unset, .unset, .unset, .unset, .unset] [])) _
          refine XS.iload X0.here hx rfl (hb hby at_14) rfl ?_
          show Steps p.tables e below (s₁.setTop (mkF m 16 #[.val (.int p0), .val (.int p1), .val (.int p2), .val (.int p3), .val (.int p4), .val (.int p0), .unset, .unset, .unset, .unset, .unset, .unset, .unset, .unset] [(.int p4)])) _
          refine XS.iconst X0.here hx rfl (hb hby at_16) ?_
          show Steps p.tables e below (s₁.setTop (mkF m 17 #[.val (.int p0), .val (.int p1), .val (.int p2), .val (.int p3), .val (.int p4), .val (.int p0), .unset, .unset, .unset, .unset, .unset, .unset, .unset, .unset] [(.int (2 : Int32)), (.int p4)])) _
          refine XS.iand X0.here hx rfl (hb hby at_17) rfl ?_
          exact kk)
      by_cases hc74 : (p4 &&& (2 : Int32)) = (0 : Int32)
      · have pre75 : ∀ t, Steps p.tables e below (s₁.setTop (mkF m 28 #[.val (.int p0), .val (.int p1), .val (.int p2), .val (.int p3), .val (.int p4), .val (.int p0), .val (.int p3), .unset, .unset, .unset, .unset, .unset, .unset, .unset] [])) t → Steps p.tables e below (s₁.setTop (entryFrame m #[(.int p0), (.int p1), (.int p2), (.int p3), (.int p4)] maxLocals)) t := fun t kk => pre73 t (by
            show Steps p.tables e below (s₁.setTop (mkF m 18 #[.val (.int p0), .val (.int p1), .val (.int p2), .val (.int p3), .val (.int p4), .val (.int p0), .unset, .unset, .unset, .unset, .unset, .unset, .unset, .unset] [(.int (p4 &&& (2 : Int32)))])) _
            refine XS.ifYes X0.here hx rfl (pc0 := 18) (pc' := 25) rfl (hb hby at_18) rfl ((if0 _ _).trans (teq hc74).1) (by decide) (by decide) ?_
            show Steps p.tables e below (s₁.setTop (mkF m 25 #[.val (.int p0), .val (.int p1), .val (.int p2), .val (.int p3), .val (.int p4), .val (.int p0), .unset, .unset, .unset, .unset, .unset, .unset, .unset, .unset] [])) _
            refine XS.iloadN X0.here hx rfl (hb hby at_25) rfl ?_
            show Steps p.tables e below (s₁.setTop (mkF m 26 #[.val (.int p0), .val (.int p1), .val (.int p2), .val (.int p3), .val (.int p4), .val (.int p0), .unset, .unset, .unset, .unset, .unset, .unset, .unset, .unset] [(.int p3)])) _
            refine XS.istore X0.here hx rfl (hb hby at_26) rfl (l' := #[.val (.int p0), .val (.int p1), .val (.int p2), .val (.int p3), .val (.int p4), .val (.int p0), .val (.int p3), .unset, .unset, .unset, .unset, .unset, .unset, .unset]) rfl ?_
            exact kk)
        exact ⟨p0, p3, (by rw [if_neg hc68]), (by rw [if_neg hc68, if_pos hc74]), pre75⟩
      · have pre76 : ∀ t, Steps p.tables e below (s₁.setTop (mkF m 28 #[.val (.int p0), .val (.int p1), .val (.int p2), .val (.int p3), .val (.int p4), .val (.int p0), .val (.int p1), .unset, .unset, .unset, .unset, .unset, .unset, .unset] [])) t → Steps p.tables e below (s₁.setTop (entryFrame m #[(.int p0), (.int p1), (.int p2), (.int p3), (.int p4)] maxLocals)) t := fun t kk => pre73 t (by
            show Steps p.tables e below (s₁.setTop (mkF m 18 #[.val (.int p0), .val (.int p1), .val (.int p2), .val (.int p3), .val (.int p4), .val (.int p0), .unset, .unset, .unset, .unset, .unset, .unset, .unset, .unset] [(.int (p4 &&& (2 : Int32)))])) _
            refine XS.ifNo X0.here hx rfl (hb hby at_18) rfl ((if0 _ _).trans (feq hc74).1) ?_
            show Steps p.tables e below (s₁.setTop (mkF m 21 #[.val (.int p0), .val (.int p1), .val (.int p2), .val (.int p3), .val (.int p4), .val (.int p0), .unset, .unset, .unset, .unset, .unset, .unset, .unset, .unset] [])) _
            refine XS.iloadN X0.here hx rfl (hb hby at_21) rfl ?_
            show Steps p.tables e below (s₁.setTop (mkF m 22 #[.val (.int p0), .val (.int p1), .val (.int p2), .val (.int p3), .val (.int p4), .val (.int p0), .unset, .unset, .unset, .unset, .unset, .unset, .unset, .unset] [(.int p1)])) _
            refine XS.goto X0.here hx rfl (pc0 := 22) (pc' := 26) rfl (hb hby at_22) (by decide) (by decide) ?_
            show Steps p.tables e below (s₁.setTop (mkF m 26 #[.val (.int p0), .val (.int p1), .val (.int p2), .val (.int p3), .val (.int p4), .val (.int p0), .unset, .unset, .unset, .unset, .unset, .unset, .unset, .unset] [(.int p1)])) _
            refine XS.istore X0.here hx rfl (hb hby at_26) rfl (l' := #[.val (.int p0), .val (.int p1), .val (.int p2), .val (.int p3), .val (.int p4), .val (.int p0), .val (.int p1), .unset, .unset, .unset, .unset, .unset, .unset, .unset]) rfl ?_
            exact kk)
        exact ⟨p0, p1, (by rw [if_neg hc68]), (by rw [if_neg hc68, if_neg hc74]), pre76⟩
  have pre78 : ∀ t, Steps p.tables e below (s₁.setTop (mkF m 36 #[.val (.int p0), .val (.int p1), .val (.int p2), .val (.int p3), .val (.int p4), .val (.int c2), .val (.int d2), .val (.int (((p4.toUInt32 >>> ((2 : Int32) &&& 31).toUInt32).toInt32) &&& (3 : Int32))), .unset, .unset, .unset, .unset, .unset, .unset] [])) t → Steps p.tables e below (s₁.setTop (entryFrame m #[(.int p0), (.int p1), (.int p2), (.int p3), (.int p4)] maxLocals)) t := fun t kk => pre77j t (by
      show Steps p.tables e below (s₁.setTop (mkF m 28 #[.val (.int p0), .val (.int p1), .val (.int p2), .val (.int p3), .val (.int p4), .val (.int c2), .val (.int d2), .unset, .unset, .unset, .unset, .unset, .unset, .unset] [])) _
      refine XS.iload X0.here hx rfl (hb hby at_28) rfl ?_
      show Steps p.tables e below (s₁.setTop (mkF m 30 #[.val (.int p0), .val (.int p1), .val (.int p2), .val (.int p3), .val (.int p4), .val (.int c2), .val (.int d2), .unset, .unset, .unset, .unset, .unset, .unset, .unset] [(.int p4)])) _
      refine XS.iconst X0.here hx rfl (hb hby at_30) ?_
      show Steps p.tables e below (s₁.setTop (mkF m 31 #[.val (.int p0), .val (.int p1), .val (.int p2), .val (.int p3), .val (.int p4), .val (.int c2), .val (.int d2), .unset, .unset, .unset, .unset, .unset, .unset, .unset] [(.int (2 : Int32)), (.int p4)])) _
      refine XS.iushr X0.here hx rfl (hb hby at_31) rfl ?_
      show Steps p.tables e below (s₁.setTop (mkF m 32 #[.val (.int p0), .val (.int p1), .val (.int p2), .val (.int p3), .val (.int p4), .val (.int c2), .val (.int d2), .unset, .unset, .unset, .unset, .unset, .unset, .unset] [(.int ((p4.toUInt32 >>> ((2 : Int32) &&& 31).toUInt32).toInt32))])) _
      refine XS.iconst X0.here hx rfl (hb hby at_32) ?_
      show Steps p.tables e below (s₁.setTop (mkF m 33 #[.val (.int p0), .val (.int p1), .val (.int p2), .val (.int p3), .val (.int p4), .val (.int c2), .val (.int d2), .unset, .unset, .unset, .unset, .unset, .unset, .unset] [(.int (3 : Int32)), (.int ((p4.toUInt32 >>> ((2 : Int32) &&& 31).toUInt32).toInt32))])) _
      refine XS.iand X0.here hx rfl (hb hby at_33) rfl ?_
      show Steps p.tables e below (s₁.setTop (mkF m 34 #[.val (.int p0), .val (.int p1), .val (.int p2), .val (.int p3), .val (.int p4), .val (.int c2), .val (.int d2), .unset, .unset, .unset, .unset, .unset, .unset, .unset] [(.int (((p4.toUInt32 >>> ((2 : Int32) &&& 31).toUInt32).toInt32) &&& (3 : Int32)))])) _
      refine XS.istore X0.here hx rfl (hb hby at_34) rfl (l' := #[.val (.int p0), .val (.int p1), .val (.int p2), .val (.int p3), .val (.int p4), .val (.int c2), .val (.int d2), .val (.int (((p4.toUInt32 >>> ((2 : Int32) &&& 31).toUInt32).toInt32) &&& (3 : Int32))), .unset, .unset, .unset, .unset, .unset, .unset]) rfl ?_
      exact kk)
  obtain ⟨kd, hv_kd⟩ : ∃ z : Int32, z = (((p4.toUInt32 >>> ((2 : Int32) &&& 31).toUInt32).toInt32) &&& (3 : Int32)) := ⟨_, rfl⟩
  have pre79 : ∀ t, Steps p.tables e below (s₁.setTop (mkF m 36 #[.val (.int p0), .val (.int p1), .val (.int p2), .val (.int p3), .val (.int p4), .val (.int c2), .val (.int d2), .val (.int kd), .unset, .unset, .unset, .unset, .unset, .unset] [])) t → Steps p.tables e below (s₁.setTop (entryFrame m #[(.int p0), (.int p1), (.int p2), (.int p3), (.int p4)] maxLocals)) t := by subst hv_kd; exact pre78
  obtain ⟨T80, h80, X80, e80, E80, A80, D80, -, st80⟩ := newO X0 hx hZ hown (hw _ (List.mem_of_getElem? (i := 0) rfl)) (hw _ (List.mem_of_getElem? (i := 1) rfl)) (hw _ (List.mem_of_getElem? (i := 2) rfl)) e0 (g := (mkF m 36 #[.val (.int p0), .val (.int p1), .val (.int p2), .val (.int p3), .val (.int p4), .val (.int c2), .val (.int d2), .val (.int kd), .unset, .unset, .unset, .unset, .unset, .unset] [])) rfl (hb hby at_36) (by decide) (by decide)
  obtain ⟨b80, gq80⟩ : ∃ z, z = h0.size := ⟨_, rfl⟩
  rw [← gq80] at A80 D80 st80
  have g_b80 : n0 ≤ b80 := Nat.le_trans Z0 (Nat.le_of_eq gq80.symm)
  have sz_b80 : h0.size ≤ b80 := Nat.le_trans (Nat.le_refl _) (Nat.le_of_eq gq80.symm)
  have Xf81 : Old Z n0 h80 := (O_0.ext E80)
  have K82 : Keep h0 h80 [] := (Keep.refl h0 _).ext E80
  have F83 : Fld Z h80 b80 "com/example/deodar/deodar/AclChange" "aclsWritten" "I" (.int (0 : Int32)) := D80 (Or.inr (hw _ (List.mem_of_getElem? (i := 10) rfl))) (ty := .int) (by decide)
  have F84 : Fld Z h80 b80 "com/example/deodar/deodar/AclChange" "nodesRepointed" "I" (.int (0 : Int32)) := D80 (Or.inr (hw _ (List.mem_of_getElem? (i := 12) rfl))) (ty := .int) (by decide)
  obtain ⟨_, _, ⟨T85, L85, k85, n85⟩, -, X85, ⟨Lc85, hQ85, l85, y85, z85⟩, st85⟩ := X80.specialBack hx (y := (⟨"com/example/deodar/deodar/AclChange", "<init>", "(II)V"⟩ : MethodName)) rfl hown (mvT hZ (hw _ (List.mem_of_getElem? (i := 3) rfl))) (mvT hZ (hw _ (List.mem_of_getElem? (i := 4) rfl))) (mvT hZ (hw _ (List.mem_of_getElem? (i := 5) rfl))) (by decide) (backOf (W := 1) (rmInit l Z a0 hw [] b80 p0 p1 h80 n0 (Nat.le_trans Z0 K82.1) A80 F83 F84 g_b80) hZ (hw _ (List.mem_of_getElem? (i := 5) rfl)) (hw _ (List.mem_of_getElem? (i := 2) rfl)) (by decide) (by decide)) (g := (mkF m 42 #[.val (.int p0), .val (.int p1), .val (.int p2), .val (.int p3), .val (.int p4), .val (.int c2), .val (.int d2), .val (.int kd), .unset, .unset, .unset, .unset, .unset, .unset] [(.int p1), (.int p0), (.ref b80), (.ref b80)])) rfl (by rw [hml]; rfl) (Steps.refl _) (a := b80) (argsL := [(.int p0), (.int p1)]) (rest := [(.ref b80)]) (lenOf pd_2 rfl) rfl (by show 2 * 0 + _ ≤ _; exact Nat.le_of_eq rfl) (hb hby at_42) (fun _ _ => ⟨rfl, e80, (by decide : 1 + 0 ≤ _), (by decide : 2 + 0 ≤ _)⟩)
  dsimp only [Pt.U, Pt.locs, Pt.cells, Pt.slots] at X85 l85 y85 z85 st85 hQ85
  subst l85 y85 z85
  obtain ⟨rfl, N85q, K85q, P85_0, P85_1, P85_2⟩ := hQ85
  have N85 := Fr.app N0 N85q
  have Xf86 : Old Z n0 T85.heap := (Xf81.keep K85q (allS g_b80 all0))
  have Ex87 : Exa Z T85.heap b80 "com/example/deodar/deodar/AclChange" := (A80.keep K85q)
  have K88 : Keep h0 T85.heap [] := K82.trans K85q (allS (Or.inr sz_b80) all0)
  obtain ⟨T89, h89, X89, e89, E89, A89, D89, -, st89⟩ := newO X85 hx hZ hown (hw _ (List.mem_of_getElem? (i := 0) rfl)) (hw _ (List.mem_of_getElem? (i := 1) rfl)) (hw _ (List.mem_of_getElem? (i := 2) rfl)) rfl (g := (mkF m 47 #[.val (.int p0), .val (.int p1), .val (.int p2), .val (.int p3), .val (.int p4), .val (.int c2), .val (.int d2), .val (.int kd), .val (.ref b80), .unset, .unset, .unset, .unset, .unset] [])) rfl (hb hby at_47) (by decide) (by decide)
  obtain ⟨b89, gq89⟩ : ∃ z, z = T85.heap.size := ⟨_, rfl⟩
  rw [← gq89] at A89 D89 st89
  have ne90 : b80 ≠ b89 := Nat.ne_of_lt (Nat.lt_of_lt_of_le P85_0.lt (Nat.le_of_eq gq89.symm))
  have g_b89 : n0 ≤ b89 := Nat.le_trans (Nat.le_trans Z0 K88.1) (Nat.le_of_eq gq89.symm)
  have sz_b89 : h0.size ≤ b89 := Nat.le_trans K88.1 (Nat.le_of_eq gq89.symm)
  have Xf91 : Old Z n0 h89 := (Xf86.ext E89)
  have Ex92 : Exa Z h89 b80 "com/example/deodar/deodar/AclChange" := (P85_0.ext E89)
  have F93 : Fld Z h89 b80 "com/example/deodar/deodar/AclChange" "aclsWritten" "I" (.int p0) := (P85_1.ext E89)
  have F94 : Fld Z h89 b80 "com/example/deodar/deodar/AclChange" "nodesRepointed" "I" (.int p1) := (P85_2.ext E89)
  have K95 : Keep h0 h89 [] := K88.ext E89
  have F96 : Fld Z h89 b89 "com/example/deodar/deodar/AclChange" "aclsWritten" "I" (.int (0 : Int32)) := D89 (Or.inr (hw _ (List.mem_of_getElem? (i := 10) rfl))) (ty := .int) (by decide)
  have F97 : Fld Z h89 b89 "com/example/deodar/deodar/AclChange" "nodesRepointed" "I" (.int (0 : Int32)) := D89 (Or.inr (hw _ (List.mem_of_getElem? (i := 12) rfl))) (ty := .int) (by decide)
  obtain ⟨_, _, ⟨T98, L98, k98, n98⟩, -, X98, ⟨Lc98, hQ98, l98, y98, z98⟩, st98⟩ := X89.specialBack hx (y := (⟨"com/example/deodar/deodar/AclChange", "<init>", "(II)V"⟩ : MethodName)) rfl hown (mvT hZ (hw _ (List.mem_of_getElem? (i := 3) rfl))) (mvT hZ (hw _ (List.mem_of_getElem? (i := 4) rfl))) (mvT hZ (hw _ (List.mem_of_getElem? (i := 5) rfl))) (by decide) (backOf (W := 1) (rmInit l Z a0 hw [] b89 c2 d2 h89 n0 (Nat.le_trans Z0 K95.1) A89 F96 F97 g_b89) hZ (hw _ (List.mem_of_getElem? (i := 5) rfl)) (hw _ (List.mem_of_getElem? (i := 2) rfl)) (by decide) (by decide)) (g := (mkF m 55 #[.val (.int p0), .val (.int p1), .val (.int p2), .val (.int p3), .val (.int p4), .val (.int c2), .val (.int d2), .val (.int kd), .val (.ref b80), .unset, .unset, .unset, .unset, .unset] [(.int d2), (.int c2), (.ref b89), (.ref b89)])) rfl (by rw [hml]; rfl) (Steps.refl _) (a := b89) (argsL := [(.int c2), (.int d2)]) (rest := [(.ref b89)]) (lenOf pd_2 rfl) rfl (by show 2 * 0 + _ ≤ _; exact Nat.le_of_eq rfl) (hb hby at_55) (fun _ _ => ⟨rfl, e89, (by decide : 2 + 0 ≤ _), (by decide : 4 + 0 ≤ _)⟩)
  dsimp only [Pt.U, Pt.locs, Pt.cells, Pt.slots] at X98 l98 y98 z98 st98 hQ98
  subst l98 y98 z98
  obtain ⟨rfl, N98q, K98q, P98_0, P98_1, P98_2⟩ := hQ98
  have N98 := Fr.app N85 N98q
  have Xf99 : Old Z n0 T98.heap := (Xf91.keep K98q (allS g_b89 all0))
  have Ex100 : Exa Z T98.heap b80 "com/example/deodar/deodar/AclChange" := (Ex92.keep K98q)
  have F101 : Fld Z T98.heap b80 "com/example/deodar/deodar/AclChange" "aclsWritten" "I" (.int p0) := (F93.keep K98q (ninS ne90 nin0))
  have F102 : Fld Z T98.heap b80 "com/example/deodar/deodar/AclChange" "nodesRepointed" "I" (.int p1) := (F94.keep K98q (ninS ne90 nin0))
  have Ex103 : Exa Z T98.heap b89 "com/example/deodar/deodar/AclChange" := (A89.keep K98q)
  have K104 : Keep h0 T98.heap [] := K95.trans K98q (allS (Or.inr sz_b89) all0)
  have pre105 : ∀ t, Steps p.tables e below (T98.setTop (mkF m 62 #[.val (.int p0), .val (.int p1), .val (.int p2), .val (.int p3), .val (.int p4), .val (.int c2), .val (.int d2), .val (.int kd), .val (.ref b80), .val (.ref b89), .unset, .unset, .unset, .unset] [(.int kd)])) t → Steps p.tables e below (s₁.setTop (entryFrame m #[(.int p0), (.int p1), (.int p2), (.int p3), (.int p4)] maxLocals)) t := fun t kk => pre79 t (by
      show Steps p.tables e below (s₁.setTop (mkF m 36 #[.val (.int p0), .val (.int p1), .val (.int p2), .val (.int p3), .val (.int p4), .val (.int c2), .val (.int d2), .val (.int kd), .unset, .unset, .unset, .unset, .unset, .unset] [])) _
      refine st80 _ ?_
      show Steps p.tables e below (T80.setTop (mkF m 39 #[.val (.int p0), .val (.int p1), .val (.int p2), .val (.int p3), .val (.int p4), .val (.int c2), .val (.int d2), .val (.int kd), .unset, .unset, .unset, .unset, .unset, .unset] [(.ref b80)])) _
      refine XS.dup X80.here hx rfl (hb hby at_39) rfl rfl ?_
      show Steps p.tables e below (T80.setTop (mkF m 40 #[.val (.int p0), .val (.int p1), .val (.int p2), .val (.int p3), .val (.int p4), .val (.int c2), .val (.int d2), .val (.int kd), .unset, .unset, .unset, .unset, .unset, .unset] [(.ref b80), (.ref b80)])) _
      refine XS.iloadN X80.here hx rfl (hb hby at_40) rfl ?_
      show Steps p.tables e below (T80.setTop (mkF m 41 #[.val (.int p0), .val (.int p1), .val (.int p2), .val (.int p3), .val (.int p4), .val (.int c2), .val (.int d2), .val (.int kd), .unset, .unset, .unset, .unset, .unset, .unset] [(.int p0), (.ref b80), (.ref b80)])) _
      refine XS.iloadN X80.here hx rfl (hb hby at_41) rfl ?_
      show Steps p.tables e below (T80.setTop (mkF m 42 #[.val (.int p0), .val (.int p1), .val (.int p2), .val (.int p3), .val (.int p4), .val (.int c2), .val (.int d2), .val (.int kd), .unset, .unset, .unset, .unset, .unset, .unset] [(.int p1), (.int p0), (.ref b80), (.ref b80)])) _
      refine st85.trans ?_
      show Steps p.tables e below (T85.setTop (mkF m 45 #[.val (.int p0), .val (.int p1), .val (.int p2), .val (.int p3), .val (.int p4), .val (.int c2), .val (.int d2), .val (.int kd), .unset, .unset, .unset, .unset, .unset, .unset] [(.ref b80)])) _
      refine XS.astore X85.here hx rfl (hb hby at_45) rfl rfl (l' := #[.val (.int p0), .val (.int p1), .val (.int p2), .val (.int p3), .val (.int p4), .val (.int c2), .val (.int d2), .val (.int kd), .val (.ref b80), .unset, .unset, .unset, .unset, .unset]) rfl ?_
      show Steps p.tables e below (T85.setTop (mkF m 47 #[.val (.int p0), .val (.int p1), .val (.int p2), .val (.int p3), .val (.int p4), .val (.int c2), .val (.int d2), .val (.int kd), .val (.ref b80), .unset, .unset, .unset, .unset, .unset] [])) _
      refine st89 _ ?_
      show Steps p.tables e below (T89.setTop (mkF m 50 #[.val (.int p0), .val (.int p1), .val (.int p2), .val (.int p3), .val (.int p4), .val (.int c2), .val (.int d2), .val (.int kd), .val (.ref b80), .unset, .unset, .unset, .unset, .unset] [(.ref b89)])) _
      refine XS.dup X89.here hx rfl (hb hby at_50) rfl rfl ?_
      show Steps p.tables e below (T89.setTop (mkF m 51 #[.val (.int p0), .val (.int p1), .val (.int p2), .val (.int p3), .val (.int p4), .val (.int c2), .val (.int d2), .val (.int kd), .val (.ref b80), .unset, .unset, .unset, .unset, .unset] [(.ref b89), (.ref b89)])) _
      refine XS.iload X89.here hx rfl (hb hby at_51) rfl ?_
      show Steps p.tables e below (T89.setTop (mkF m 53 #[.val (.int p0), .val (.int p1), .val (.int p2), .val (.int p3), .val (.int p4), .val (.int c2), .val (.int d2), .val (.int kd), .val (.ref b80), .unset, .unset, .unset, .unset, .unset] [(.int c2), (.ref b89), (.ref b89)])) _
      refine XS.iload X89.here hx rfl (hb hby at_53) rfl ?_
      show Steps p.tables e below (T89.setTop (mkF m 55 #[.val (.int p0), .val (.int p1), .val (.int p2), .val (.int p3), .val (.int p4), .val (.int c2), .val (.int d2), .val (.int kd), .val (.ref b80), .unset, .unset, .unset, .unset, .unset] [(.int d2), (.int c2), (.ref b89), (.ref b89)])) _
      refine st98.trans ?_
      show Steps p.tables e below (T98.setTop (mkF m 58 #[.val (.int p0), .val (.int p1), .val (.int p2), .val (.int p3), .val (.int p4), .val (.int c2), .val (.int d2), .val (.int kd), .val (.ref b80), .unset, .unset, .unset, .unset, .unset] [(.ref b89)])) _
      refine XS.astore X98.here hx rfl (hb hby at_58) rfl rfl (l' := #[.val (.int p0), .val (.int p1), .val (.int p2), .val (.int p3), .val (.int p4), .val (.int c2), .val (.int d2), .val (.int kd), .val (.ref b80), .val (.ref b89), .unset, .unset, .unset, .unset]) rfl ?_
      show Steps p.tables e below (T98.setTop (mkF m 60 #[.val (.int p0), .val (.int p1), .val (.int p2), .val (.int p3), .val (.int p4), .val (.int c2), .val (.int d2), .val (.int kd), .val (.ref b80), .val (.ref b89), .unset, .unset, .unset, .unset] [])) _
      refine XS.iload X98.here hx rfl (hb hby at_60) rfl ?_
      exact kk)
  by_cases hk0 : kd = (0 : Int32)
  · have pre106 : ∀ t, Steps p.tables e below (T98.setTop (mkF m 72 #[.val (.int p0), .val (.int p1), .val (.int p2), .val (.int p3), .val (.int p4), .val (.int c2), .val (.int d2), .val (.int kd), .val (.ref b80), .val (.ref b89), .val (.ref b89), .unset, .unset, .unset] [(.int c2), (.int p0)])) t → Steps p.tables e below (s₁.setTop (entryFrame m #[(.int p0), (.int p1), (.int p2), (.int p3), (.int p4)] maxLocals)) t := fun t kk => pre105 t (by
        show Steps p.tables e below (T98.setTop (mkF m 62 #[.val (.int p0), .val (.int p1), .val (.int p2), .val (.int p3), .val (.int p4), .val (.int c2), .val (.int d2), .val (.int kd), .val (.ref b80), .val (.ref b89), .unset, .unset, .unset, .unset] [(.int kd)])) _
        refine XS.ifNo X98.here hx rfl (hb hby at_62) rfl ((if0 _ _).trans (teq hk0).2) ?_
        show Steps p.tables e below (T98.setTop (mkF m 65 #[.val (.int p0), .val (.int p1), .val (.int p2), .val (.int p3), .val (.int p4), .val (.int c2), .val (.int d2), .val (.int kd), .val (.ref b80), .val (.ref b89), .unset, .unset, .unset, .unset] [])) _
        refine XS.aload X98.here hx rfl (hb hby at_65) rfl rfl ?_
        show Steps p.tables e below (T98.setTop (mkF m 67 #[.val (.int p0), .val (.int p1), .val (.int p2), .val (.int p3), .val (.int p4), .val (.int c2), .val (.int d2), .val (.int kd), .val (.ref b80), .val (.ref b89), .unset, .unset, .unset, .unset] [(.ref b89)])) _
        refine XS.astore X98.here hx rfl (hb hby at_67) rfl rfl (l' := #[.val (.int p0), .val (.int p1), .val (.int p2), .val (.int p3), .val (.int p4), .val (.int c2), .val (.int d2), .val (.int kd), .val (.ref b80), .val (.ref b89), .val (.ref b89), .unset, .unset, .unset]) rfl ?_
        show Steps p.tables e below (T98.setTop (mkF m 69 #[.val (.int p0), .val (.int p1), .val (.int p2), .val (.int p3), .val (.int p4), .val (.int c2), .val (.int d2), .val (.int kd), .val (.ref b80), .val (.ref b89), .val (.ref b89), .unset, .unset, .unset] [])) _
        refine XS.iloadN X98.here hx rfl (hb hby at_69) rfl ?_
        show Steps p.tables e below (T98.setTop (mkF m 70 #[.val (.int p0), .val (.int p1), .val (.int p2), .val (.int p3), .val (.int p4), .val (.int c2), .val (.int d2), .val (.int kd), .val (.ref b80), .val (.ref b89), .val (.ref b89), .unset, .unset, .unset] [(.int p0)])) _
        refine XS.iload X98.here hx rfl (hb hby at_70) rfl ?_
        exact kk)
    by_cases ha : p0 = c2
    · have pre107 : ∀ t, Steps p.tables e below (T98.setTop (mkF m 78 #[.val (.int p0), .val (.int p1), .val (.int p2), .val (.int p3), .val (.int p4), .val (.int c2), .val (.int d2), .val (.int kd), .val (.ref b80), .val (.ref b89), .val (.ref b89), .unset, .unset, .unset] [(.int d2), (.int p1)])) t → Steps p.tables e below (s₁.setTop (entryFrame m #[(.int p0), (.int p1), (.int p2), (.int p3), (.int p4)] maxLocals)) t := fun t kk => pre106 t (by
          show Steps p.tables e below (T98.setTop (mkF m 72 #[.val (.int p0), .val (.int p1), .val (.int p2), .val (.int p3), .val (.int p4), .val (.int c2), .val (.int d2), .val (.int kd), .val (.ref b80), .val (.ref b89), .val (.ref b89), .unset, .unset, .unset] [(.int c2), (.int p0)])) _
          refine XS.icmpNo X98.here hx rfl (hb hby at_72) rfl (teq ha).2 ?_
          show Steps p.tables e below (T98.setTop (mkF m 75 #[.val (.int p0), .val (.int p1), .val (.int p2), .val (.int p3), .val (.int p4), .val (.int c2), .val (.int d2), .val (.int kd), .val (.ref b80), .val (.ref b89), .val (.ref b89), .unset, .unset, .unset] [])) _
          refine XS.iloadN X98.here hx rfl (hb hby at_75) rfl ?_
          show Steps p.tables e below (T98.setTop (mkF m 76 #[.val (.int p0), .val (.int p1), .val (.int p2), .val (.int p3), .val (.int p4), .val (.int c2), .val (.int d2), .val (.int kd), .val (.ref b80), .val (.ref b89), .val (.ref b89), .unset, .unset, .unset] [(.int p1)])) _
          refine XS.iload X98.here hx rfl (hb hby at_76) rfl ?_
          exact kk)
      by_cases hb1 : p1 = d2
      · obtain ⟨cq108, kq108, q108a, q108b, q108c⟩ := isOf hZ rfl Ex100
        obtain ⟨_, _, ⟨T108, L108, k108, n108⟩, -, X108, ⟨Lc108, hQ108, l108, y108, z108⟩, st108⟩ := X98.virtualBack hx (y := (⟨"com/example/deodar/deodar/AclChange", "equals", "(Ljava/lang/Object;)Z"⟩ : MethodName)) (z := (⟨"com/example/deodar/deodar/AclChange", "equals", "(Ljava/lang/Object;)Z"⟩ : MethodName)) hown (mvT hZ (hw _ (List.mem_of_getElem? (i := 13) rfl))) (mvT hZ (hw _ (List.mem_of_getElem? (i := 14) rfl))) (notFace_of_selects (args := #[]) (mvT hZ (hw _ (List.mem_of_getElem? (i := 16) rfl)))) (mvT hZ (hw _ (List.mem_of_getElem? (i := 16) rfl))) (mvT hZ (hw _ (List.mem_of_getElem? (i := 15) rfl))) (by decide) (backOf (W := 0) (rmEq l Z a0 hw [] b80 b89 p0 p1 c2 d2 T98.heap n0 (Nat.le_trans Z0 K104.1) P98_0 F101 F102 P98_1 P98_2) hZ (hw _ (List.mem_of_getElem? (i := 17) rfl)) (hw _ (List.mem_of_getElem? (i := 2) rfl)) (by decide) (by decide)) q108a q108c (g := (mkF m 135 #[.val (.int p0), .val (.int p1), .val (.int p2), .val (.int p3), .val (.int p4), .val (.int c2), .val (.int d2), .val (.int kd), .val (.ref b80), .val (.ref b89), .val (.ref b89), .val (.int (1 : Int32)), .unset, .unset] [(.ref b89), (.ref b80)])) rfl (by rw [hml]; rfl) (Steps.refl _) (argsL := [(.ref b89)]) (rest := []) (lenOf pd_3 rfl) rfl (by show 2 * 0 + _ ≤ _; exact Nat.le_of_eq rfl) (hb hby at_135) (fun _ _ => ⟨rfl, rfl, (by decide : 2 + 0 ≤ _), (by decide : 4 + 0 ≤ _)⟩)
        dsimp only [Pt.U, Pt.locs, Pt.cells, Pt.slots] at X108 l108 y108 z108 st108 hQ108
        subst l108 y108 z108
        obtain ⟨rfl, N108q, e108⟩ := hQ108
        have N108 := Fr.app N98 N108q
        obtain ⟨cq109, kq109, q109a, q109b, q109c⟩ := isOf hZ e108 P98_0
        obtain ⟨_, _, ⟨T109, L109, k109, n109⟩, -, X109, ⟨Lc109, hQ109, l109, y109, z109⟩, st109⟩ := X108.virtualBack hx (y := (⟨"com/example/deodar/deodar/AclChange", "equals", "(Ljava/lang/Object;)Z"⟩ : MethodName)) (z := (⟨"com/example/deodar/deodar/AclChange", "equals", "(Ljava/lang/Object;)Z"⟩ : MethodName)) hown (mvT hZ (hw _ (List.mem_of_getElem? (i := 13) rfl))) (mvT hZ (hw _ (List.mem_of_getElem? (i := 14) rfl))) (notFace_of_selects (args := #[]) (mvT hZ (hw _ (List.mem_of_getElem? (i := 16) rfl)))) (mvT hZ (hw _ (List.mem_of_getElem? (i := 16) rfl))) (mvT hZ (hw _ (List.mem_of_getElem? (i := 15) rfl))) (by decide) (backOf (W := 0) (rmEq l Z a0 hw [] b89 b80 c2 d2 p0 p1 T98.heap n0 (Nat.le_trans Z0 K104.1) Ex100 P98_1 P98_2 F101 F102) hZ (hw _ (List.mem_of_getElem? (i := 17) rfl)) (hw _ (List.mem_of_getElem? (i := 2) rfl)) (by decide) (by decide)) q109a q109c (g := (mkF m 149 #[.val (.int p0), .val (.int p1), .val (.int p2), .val (.int p3), .val (.int p4), .val (.int c2), .val (.int d2), .val (.int kd), .val (.ref b80), .val (.ref b89), .val (.ref b89), .val (.int (1 : Int32)), .val (.int (own_eq p0 p1 c2 d2)), .unset] [(.ref b80), (.ref b89)])) rfl (by rw [hml]; rfl) (Steps.refl _) (argsL := [(.ref b80)]) (rest := []) (lenOf pd_3 rfl) rfl (by show 2 * 0 + _ ≤ _; exact Nat.le_of_eq rfl) (hb hby at_149) (fun _ _ => ⟨rfl, e108, (by decide : 2 + 0 ≤ _), (by decide : 4 + 0 ≤ _)⟩)
        dsimp only [Pt.U, Pt.locs, Pt.cells, Pt.slots] at X109 l109 y109 z109 st109 hQ109
        subst l109 y109 z109
        obtain ⟨rfl, N109q, e109⟩ := hQ109
        have N109 := Fr.app N108 N109q
        have hb110 : (own_eq c2 d2 p0 p1) = (1 : Int32) := by unfold own_eq; rw [if_pos ha, if_pos hb1]
        have hb111 : (own_eq p0 p1 c2 d2) = (1 : Int32) := by unfold own_eq; rw [if_pos ha.symm, if_pos hb1.symm]
        have pre112 : ∀ t, Steps p.tables e below (T109.setTop (mkF m 185 #[.val (.int p0), .val (.int p1), .val (.int p2), .val (.int p3), .val (.int p4), .val (.int c2), .val (.int d2), .val (.int kd), .val (.ref b80), .val (.ref b89), .val (.ref b89), .val (.int (1 : Int32)), .val (.int (own_eq p0 p1 c2 d2)), .val (.int (1 : Int32))] [(.int (1 : Int32))])) t → Steps p.tables e below (s₁.setTop (entryFrame m #[(.int p0), (.int p1), (.int p2), (.int p3), (.int p4)] maxLocals)) t := fun t kk => pre107 t (by
            show Steps p.tables e below (T98.setTop (mkF m 78 #[.val (.int p0), .val (.int p1), .val (.int p2), .val (.int p3), .val (.int p4), .val (.int c2), .val (.int d2), .val (.int kd), .val (.ref b80), .val (.ref b89), .val (.ref b89), .unset, .unset, .unset] [(.int d2), (.int p1)])) _
            refine XS.icmpNo X98.here hx rfl (hb hby at_78) rfl (teq hb1).2 ?_
            show Steps p.tables e below (T98.setTop (mkF m 81 #[.val (.int p0), .val (.int p1), .val (.int p2), .val (.int p3), .val (.int p4), .val (.int c2), .val (.int d2), .val (.int kd), .val (.ref b80), .val (.ref b89), .val (.ref b89), .unset, .unset, .unset] [])) _
            refine XS.iconst X98.here hx rfl (hb hby at_81) ?_
            show Steps p.tables e below (T98.setTop (mkF m 82 #[.val (.int p0), .val (.int p1), .val (.int p2), .val (.int p3), .val (.int p4), .val (.int c2), .val (.int d2), .val (.int kd), .val (.ref b80), .val (.ref b89), .val (.ref b89), .unset, .unset, .unset] [(.int (1 : Int32))])) _
            refine XS.goto X98.here hx rfl (pc0 := 82) (pc' := 86) rfl (hb hby at_82) (by decide) (by decide) ?_
            show Steps p.tables e below (T98.setTop (mkF m 86 #[.val (.int p0), .val (.int p1), .val (.int p2), .val (.int p3), .val (.int p4), .val (.int c2), .val (.int d2), .val (.int kd), .val (.ref b80), .val (.ref b89), .val (.ref b89), .unset, .unset, .unset] [(.int (1 : Int32))])) _
            refine XS.istore X98.here hx rfl (hb hby at_86) rfl (l' := #[.val (.int p0), .val (.int p1), .val (.int p2), .val (.int p3), .val (.int p4), .val (.int c2), .val (.int d2), .val (.int kd), .val (.ref b80), .val (.ref b89), .val (.ref b89), .val (.int (1 : Int32)), .unset, .unset]) rfl ?_
            show Steps p.tables e below (T98.setTop (mkF m 88 #[.val (.int p0), .val (.int p1), .val (.int p2), .val (.int p3), .val (.int p4), .val (.int c2), .val (.int d2), .val (.int kd), .val (.ref b80), .val (.ref b89), .val (.ref b89), .val (.int (1 : Int32)), .unset, .unset] [])) _
            refine XS.goto X98.here hx rfl (pc0 := 88) (pc' := 131) rfl (hb hby at_88) (by decide) (by decide) ?_
            show Steps p.tables e below (T98.setTop (mkF m 131 #[.val (.int p0), .val (.int p1), .val (.int p2), .val (.int p3), .val (.int p4), .val (.int c2), .val (.int d2), .val (.int kd), .val (.ref b80), .val (.ref b89), .val (.ref b89), .val (.int (1 : Int32)), .unset, .unset] [])) _
            refine XS.aload X98.here hx rfl (hb hby at_131) rfl rfl ?_
            show Steps p.tables e below (T98.setTop (mkF m 133 #[.val (.int p0), .val (.int p1), .val (.int p2), .val (.int p3), .val (.int p4), .val (.int c2), .val (.int d2), .val (.int kd), .val (.ref b80), .val (.ref b89), .val (.ref b89), .val (.int (1 : Int32)), .unset, .unset] [(.ref b80)])) _
            refine XS.aload X98.here hx rfl (hb hby at_133) rfl rfl ?_
            show Steps p.tables e below (T98.setTop (mkF m 135 #[.val (.int p0), .val (.int p1), .val (.int p2), .val (.int p3), .val (.int p4), .val (.int c2), .val (.int d2), .val (.int kd), .val (.ref b80), .val (.ref b89), .val (.ref b89), .val (.int (1 : Int32)), .unset, .unset] [(.ref b89), (.ref b80)])) _
            refine st108.trans ?_
            show Steps p.tables e below (T108.setTop (mkF m 138 #[.val (.int p0), .val (.int p1), .val (.int p2), .val (.int p3), .val (.int p4), .val (.int c2), .val (.int d2), .val (.int kd), .val (.ref b80), .val (.ref b89), .val (.ref b89), .val (.int (1 : Int32)), .unset, .unset] [(.int (own_eq p0 p1 c2 d2))])) _
            refine XS.istore X108.here hx rfl (hb hby at_138) rfl (l' := #[.val (.int p0), .val (.int p1), .val (.int p2), .val (.int p3), .val (.int p4), .val (.int c2), .val (.int d2), .val (.int kd), .val (.ref b80), .val (.ref b89), .val (.ref b89), .val (.int (1 : Int32)), .val (.int (own_eq p0 p1 c2 d2)), .unset]) rfl ?_
            show Steps p.tables e below (T108.setTop (mkF m 140 #[.val (.int p0), .val (.int p1), .val (.int p2), .val (.int p3), .val (.int p4), .val (.int c2), .val (.int d2), .val (.int kd), .val (.ref b80), .val (.ref b89), .val (.ref b89), .val (.int (1 : Int32)), .val (.int (own_eq p0 p1 c2 d2)), .unset] [])) _
            refine XS.iload X108.here hx rfl (hb hby at_140) rfl ?_
            show Steps p.tables e below (T108.setTop (mkF m 142 #[.val (.int p0), .val (.int p1), .val (.int p2), .val (.int p3), .val (.int p4), .val (.int c2), .val (.int d2), .val (.int kd), .val (.ref b80), .val (.ref b89), .val (.ref b89), .val (.int (1 : Int32)), .val (.int (own_eq p0 p1 c2 d2)), .unset] [(.int kd)])) _
            refine XS.ifNo X108.here hx rfl (hb hby at_142) rfl ((if0 _ _).trans (teq hk0).2) ?_
            show Steps p.tables e below (T108.setTop (mkF m 145 #[.val (.int p0), .val (.int p1), .val (.int p2), .val (.int p3), .val (.int p4), .val (.int c2), .val (.int d2), .val (.int kd), .val (.ref b80), .val (.ref b89), .val (.ref b89), .val (.int (1 : Int32)), .val (.int (own_eq p0 p1 c2 d2)), .unset] [])) _
            refine XS.aload X108.here hx rfl (hb hby at_145) rfl rfl ?_
            show Steps p.tables e below (T108.setTop (mkF m 147 #[.val (.int p0), .val (.int p1), .val (.int p2), .val (.int p3), .val (.int p4), .val (.int c2), .val (.int d2), .val (.int kd), .val (.ref b80), .val (.ref b89), .val (.ref b89), .val (.int (1 : Int32)), .val (.int (own_eq p0 p1 c2 d2)), .unset] [(.ref b89)])) _
            refine XS.aload X108.here hx rfl (hb hby at_147) rfl rfl ?_
            show Steps p.tables e below (T108.setTop (mkF m 149 #[.val (.int p0), .val (.int p1), .val (.int p2), .val (.int p3), .val (.int p4), .val (.int c2), .val (.int d2), .val (.int kd), .val (.ref b80), .val (.ref b89), .val (.ref b89), .val (.int (1 : Int32)), .val (.int (own_eq p0 p1 c2 d2)), .unset] [(.ref b80), (.ref b89)])) _
            refine st109.trans ?_
            show Steps p.tables e below (T109.setTop (mkF m 152 #[.val (.int p0), .val (.int p1), .val (.int p2), .val (.int p3), .val (.int p4), .val (.int c2), .val (.int d2), .val (.int kd), .val (.ref b80), .val (.ref b89), .val (.ref b89), .val (.int (1 : Int32)), .val (.int (own_eq p0 p1 c2 d2)), .unset] [(.int (own_eq c2 d2 p0 p1))])) _
            refine XS.iload X109.here hx rfl (hb hby at_152) rfl ?_
            show Steps p.tables e below (T109.setTop (mkF m 154 #[.val (.int p0), .val (.int p1), .val (.int p2), .val (.int p3), .val (.int p4), .val (.int c2), .val (.int d2), .val (.int kd), .val (.ref b80), .val (.ref b89), .val (.ref b89), .val (.int (1 : Int32)), .val (.int (own_eq p0 p1 c2 d2)), .unset] [(.int (1 : Int32)), (.int (own_eq c2 d2 p0 p1))])) _
            refine XS.icmpNo X109.here hx rfl (hb hby at_154) rfl (teq hb110).2 ?_
            show Steps p.tables e below (T109.setTop (mkF m 157 #[.val (.int p0), .val (.int p1), .val (.int p2), .val (.int p3), .val (.int p4), .val (.int c2), .val (.int d2), .val (.int kd), .val (.ref b80), .val (.ref b89), .val (.ref b89), .val (.int (1 : Int32)), .val (.int (own_eq p0 p1 c2 d2)), .unset] [])) _
            refine XS.iconst X109.here hx rfl (hb hby at_157) ?_
            show Steps p.tables e below (T109.setTop (mkF m 158 #[.val (.int p0), .val (.int p1), .val (.int p2), .val (.int p3), .val (.int p4), .val (.int c2), .val (.int d2), .val (.int kd), .val (.ref b80), .val (.ref b89), .val (.ref b89), .val (.int (1 : Int32)), .val (.int (own_eq p0 p1 c2 d2)), .unset] [(.int (1 : Int32))])) _
            refine XS.goto X109.here hx rfl (pc0 := 158) (pc' := 166) rfl (hb hby at_158) (by decide) (by decide) ?_
            show Steps p.tables e below (T109.setTop (mkF m 166 #[.val (.int p0), .val (.int p1), .val (.int p2), .val (.int p3), .val (.int p4), .val (.int c2), .val (.int d2), .val (.int kd), .val (.ref b80), .val (.ref b89), .val (.ref b89), .val (.int (1 : Int32)), .val (.int (own_eq p0 p1 c2 d2)), .unset] [(.int (1 : Int32))])) _
            refine XS.istore X109.here hx rfl (hb hby at_166) rfl (l' := #[.val (.int p0), .val (.int p1), .val (.int p2), .val (.int p3), .val (.int p4), .val (.int c2), .val (.int d2), .val (.int kd), .val (.ref b80), .val (.ref b89), .val (.ref b89), .val (.int (1 : Int32)), .val (.int (own_eq p0 p1 c2 d2)), .val (.int (1 : Int32))]) rfl ?_
            show Steps p.tables e below (T109.setTop (mkF m 168 #[.val (.int p0), .val (.int p1), .val (.int p2), .val (.int p3), .val (.int p4), .val (.int c2), .val (.int d2), .val (.int kd), .val (.ref b80), .val (.ref b89), .val (.ref b89), .val (.int (1 : Int32)), .val (.int (own_eq p0 p1 c2 d2)), .val (.int (1 : Int32))] [])) _
            refine XS.iload X109.here hx rfl (hb hby at_168) rfl ?_
            show Steps p.tables e below (T109.setTop (mkF m 170 #[.val (.int p0), .val (.int p1), .val (.int p2), .val (.int p3), .val (.int p4), .val (.int c2), .val (.int d2), .val (.int kd), .val (.ref b80), .val (.ref b89), .val (.ref b89), .val (.int (1 : Int32)), .val (.int (own_eq p0 p1 c2 d2)), .val (.int (1 : Int32))] [(.int (own_eq p0 p1 c2 d2))])) _
            refine XS.iload X109.here hx rfl (hb hby at_170) rfl ?_
            show Steps p.tables e below (T109.setTop (mkF m 172 #[.val (.int p0), .val (.int p1), .val (.int p2), .val (.int p3), .val (.int p4), .val (.int c2), .val (.int d2), .val (.int kd), .val (.ref b80), .val (.ref b89), .val (.ref b89), .val (.int (1 : Int32)), .val (.int (own_eq p0 p1 c2 d2)), .val (.int (1 : Int32))] [(.int (1 : Int32)), (.int (own_eq p0 p1 c2 d2))])) _
            refine XS.icmpNo X109.here hx rfl (hb hby at_172) rfl (teq hb111).2 ?_
            show Steps p.tables e below (T109.setTop (mkF m 175 #[.val (.int p0), .val (.int p1), .val (.int p2), .val (.int p3), .val (.int p4), .val (.int c2), .val (.int d2), .val (.int kd), .val (.ref b80), .val (.ref b89), .val (.ref b89), .val (.int (1 : Int32)), .val (.int (own_eq p0 p1 c2 d2)), .val (.int (1 : Int32))] [])) _
            refine XS.iload X109.here hx rfl (hb hby at_175) rfl ?_
            show Steps p.tables e below (T109.setTop (mkF m 177 #[.val (.int p0), .val (.int p1), .val (.int p2), .val (.int p3), .val (.int p4), .val (.int c2), .val (.int d2), .val (.int kd), .val (.ref b80), .val (.ref b89), .val (.ref b89), .val (.int (1 : Int32)), .val (.int (own_eq p0 p1 c2 d2)), .val (.int (1 : Int32))] [(.int (1 : Int32))])) _
            refine XS.ifNo X109.here hx rfl (hb hby at_177) rfl ((if0 _ _).trans (feq (by decide : ¬ ((1 : Int32) = (0 : Int32)))).1) ?_
            show Steps p.tables e below (T109.setTop (mkF m 180 #[.val (.int p0), .val (.int p1), .val (.int p2), .val (.int p3), .val (.int p4), .val (.int c2), .val (.int d2), .val (.int kd), .val (.ref b80), .val (.ref b89), .val (.ref b89), .val (.int (1 : Int32)), .val (.int (own_eq p0 p1 c2 d2)), .val (.int (1 : Int32))] [])) _
            refine XS.iconst X109.here hx rfl (hb hby at_180) ?_
            show Steps p.tables e below (T109.setTop (mkF m 181 #[.val (.int p0), .val (.int p1), .val (.int p2), .val (.int p3), .val (.int p4), .val (.int c2), .val (.int d2), .val (.int kd), .val (.ref b80), .val (.ref b89), .val (.ref b89), .val (.int (1 : Int32)), .val (.int (own_eq p0 p1 c2 d2)), .val (.int (1 : Int32))] [(.int (1 : Int32))])) _
            refine XS.goto X109.here hx rfl (pc0 := 181) (pc' := 185) rfl (hb hby at_181) (by decide) (by decide) ?_
            exact kk)
        obtain ⟨fs, hr, hrun, hended, hW, hsame⟩ := X109.leave (v := some (.int (1 : Int32))) (fun h => by rw [Bd.returns] at h; cases h)
        refine ⟨_, _, pre112 _ ?_, hrun, hended, _, _, rfl, ?_, ⟨_, rfl⟩, hW, hsame.mono (by decide) (by decide)⟩
        · show Steps p.tables e below (T109.setTop (mkF m 185 #[.val (.int p0), .val (.int p1), .val (.int p2), .val (.int p3), .val (.int p4), .val (.int c2), .val (.int d2), .val (.int kd), .val (.ref b80), .val (.ref b89), .val (.ref b89), .val (.int (1 : Int32)), .val (.int (own_eq p0 p1 c2 d2)), .val (.int (1 : Int32))] [(.int (1 : Int32))])) _
          exact retN X109 hx (t := .boolean) Bd.returns (by simp) (hb hby at_185) hr
        · show Q0 Z p0 p1 p2 p3 p4 wc cl h0 n0 _ T109.heap _
          rw [e109]
          exact ⟨rfl, N109, K104⟩
      · obtain ⟨cq113, kq113, q113a, q113b, q113c⟩ := isOf hZ rfl Ex100
        obtain ⟨_, _, ⟨T113, L113, k113, n113⟩, -, X113, ⟨Lc113, hQ113, l113, y113, z113⟩, st113⟩ := X98.virtualBack hx (y := (⟨"com/example/deodar/deodar/AclChange", "equals", "(Ljava/lang/Object;)Z"⟩ : MethodName)) (z := (⟨"com/example/deodar/deodar/AclChange", "equals", "(Ljava/lang/Object;)Z"⟩ : MethodName)) hown (mvT hZ (hw _ (List.mem_of_getElem? (i := 13) rfl))) (mvT hZ (hw _ (List.mem_of_getElem? (i := 14) rfl))) (notFace_of_selects (args := #[]) (mvT hZ (hw _ (List.mem_of_getElem? (i := 16) rfl)))) (mvT hZ (hw _ (List.mem_of_getElem? (i := 16) rfl))) (mvT hZ (hw _ (List.mem_of_getElem? (i := 15) rfl))) (by decide) (backOf (W := 0) (rmEq l Z a0 hw [] b80 b89 p0 p1 c2 d2 T98.heap n0 (Nat.le_trans Z0 K104.1) P98_0 F101 F102 P98_1 P98_2) hZ (hw _ (List.mem_of_getElem? (i := 17) rfl)) (hw _ (List.mem_of_getElem? (i := 2) rfl)) (by decide) (by decide)) q113a q113c (g := (mkF m 135 #[.val (.int p0), .val (.int p1), .val (.int p2), .val (.int p3), .val (.int p4), .val (.int c2), .val (.int d2), .val (.int kd), .val (.ref b80), .val (.ref b89), .val (.ref b89), .val (.int (0 : Int32)), .unset, .unset] [(.ref b89), (.ref b80)])) rfl (by rw [hml]; rfl) (Steps.refl _) (argsL := [(.ref b89)]) (rest := []) (lenOf pd_3 rfl) rfl (by show 2 * 0 + _ ≤ _; exact Nat.le_of_eq rfl) (hb hby at_135) (fun _ _ => ⟨rfl, rfl, (by decide : 2 + 0 ≤ _), (by decide : 4 + 0 ≤ _)⟩)
        dsimp only [Pt.U, Pt.locs, Pt.cells, Pt.slots] at X113 l113 y113 z113 st113 hQ113
        subst l113 y113 z113
        obtain ⟨rfl, N113q, e113⟩ := hQ113
        have N113 := Fr.app N98 N113q
        obtain ⟨cq114, kq114, q114a, q114b, q114c⟩ := isOf hZ e113 P98_0
        obtain ⟨_, _, ⟨T114, L114, k114, n114⟩, -, X114, ⟨Lc114, hQ114, l114, y114, z114⟩, st114⟩ := X113.virtualBack hx (y := (⟨"com/example/deodar/deodar/AclChange", "equals", "(Ljava/lang/Object;)Z"⟩ : MethodName)) (z := (⟨"com/example/deodar/deodar/AclChange", "equals", "(Ljava/lang/Object;)Z"⟩ : MethodName)) hown (mvT hZ (hw _ (List.mem_of_getElem? (i := 13) rfl))) (mvT hZ (hw _ (List.mem_of_getElem? (i := 14) rfl))) (notFace_of_selects (args := #[]) (mvT hZ (hw _ (List.mem_of_getElem? (i := 16) rfl)))) (mvT hZ (hw _ (List.mem_of_getElem? (i := 16) rfl))) (mvT hZ (hw _ (List.mem_of_getElem? (i := 15) rfl))) (by decide) (backOf (W := 0) (rmEq l Z a0 hw [] b89 b80 c2 d2 p0 p1 T98.heap n0 (Nat.le_trans Z0 K104.1) Ex100 P98_1 P98_2 F101 F102) hZ (hw _ (List.mem_of_getElem? (i := 17) rfl)) (hw _ (List.mem_of_getElem? (i := 2) rfl)) (by decide) (by decide)) q114a q114c (g := (mkF m 149 #[.val (.int p0), .val (.int p1), .val (.int p2), .val (.int p3), .val (.int p4), .val (.int c2), .val (.int d2), .val (.int kd), .val (.ref b80), .val (.ref b89), .val (.ref b89), .val (.int (0 : Int32)), .val (.int (own_eq p0 p1 c2 d2)), .unset] [(.ref b80), (.ref b89)])) rfl (by rw [hml]; rfl) (Steps.refl _) (argsL := [(.ref b80)]) (rest := []) (lenOf pd_3 rfl) rfl (by show 2 * 0 + _ ≤ _; exact Nat.le_of_eq rfl) (hb hby at_149) (fun _ _ => ⟨rfl, e113, (by decide : 2 + 0 ≤ _), (by decide : 4 + 0 ≤ _)⟩)
        dsimp only [Pt.U, Pt.locs, Pt.cells, Pt.slots] at X114 l114 y114 z114 st114 hQ114
        subst l114 y114 z114
        obtain ⟨rfl, N114q, e114⟩ := hQ114
        have N114 := Fr.app N113 N114q
        have hb115 : (own_eq c2 d2 p0 p1) = (0 : Int32) := by unfold own_eq; rw [if_pos ha, if_neg hb1]
        have hb116 : (own_eq p0 p1 c2 d2) = (0 : Int32) := by unfold own_eq; rw [if_pos ha.symm, if_neg (fun z => hb1 z.symm)]
        have pre117 : ∀ t, Steps p.tables e below (T114.setTop (mkF m 185 #[.val (.int p0), .val (.int p1), .val (.int p2), .val (.int p3), .val (.int p4), .val (.int c2), .val (.int d2), .val (.int kd), .val (.ref b80), .val (.ref b89), .val (.ref b89), .val (.int (0 : Int32)), .val (.int (own_eq p0 p1 c2 d2)), .val (.int (1 : Int32))] [(.int (1 : Int32))])) t → Steps p.tables e below (s₁.setTop (entryFrame m #[(.int p0), (.int p1), (.int p2), (.int p3), (.int p4)] maxLocals)) t := fun t kk => pre107 t (by
            show Steps p.tables e below (T98.setTop (mkF m 78 #[.val (.int p0), .val (.int p1), .val (.int p2), .val (.int p3), .val (.int p4), .val (.int c2), .val (.int d2), .val (.int kd), .val (.ref b80), .val (.ref b89), .val (.ref b89), .unset, .unset, .unset] [(.int d2), (.int p1)])) _
            refine XS.icmpYes X98.here hx rfl (pc0 := 78) (pc' := 85) rfl (hb hby at_78) rfl (feq hb1).2 (by decide) (by decide) ?_
            show Steps p.tables e below (T98.setTop (mkF m 85 #[.val (.int p0), .val (.int p1), .val (.int p2), .val (.int p3), .val (.int p4), .val (.int c2), .val (.int d2), .val (.int kd), .val (.ref b80), .val (.ref b89), .val (.ref b89), .unset, .unset, .unset] [])) _
            refine XS.iconst X98.here hx rfl (hb hby at_85) ?_
            show Steps p.tables e below (T98.setTop (mkF m 86 #[.val (.int p0), .val (.int p1), .val (.int p2), .val (.int p3), .val (.int p4), .val (.int c2), .val (.int d2), .val (.int kd), .val (.ref b80), .val (.ref b89), .val (.ref b89), .unset, .unset, .unset] [(.int (0 : Int32))])) _
            refine XS.istore X98.here hx rfl (hb hby at_86) rfl (l' := #[.val (.int p0), .val (.int p1), .val (.int p2), .val (.int p3), .val (.int p4), .val (.int c2), .val (.int d2), .val (.int kd), .val (.ref b80), .val (.ref b89), .val (.ref b89), .val (.int (0 : Int32)), .unset, .unset]) rfl ?_
            show Steps p.tables e below (T98.setTop (mkF m 88 #[.val (.int p0), .val (.int p1), .val (.int p2), .val (.int p3), .val (.int p4), .val (.int c2), .val (.int d2), .val (.int kd), .val (.ref b80), .val (.ref b89), .val (.ref b89), .val (.int (0 : Int32)), .unset, .unset] [])) _
            refine XS.goto X98.here hx rfl (pc0 := 88) (pc' := 131) rfl (hb hby at_88) (by decide) (by decide) ?_
            show Steps p.tables e below (T98.setTop (mkF m 131 #[.val (.int p0), .val (.int p1), .val (.int p2), .val (.int p3), .val (.int p4), .val (.int c2), .val (.int d2), .val (.int kd), .val (.ref b80), .val (.ref b89), .val (.ref b89), .val (.int (0 : Int32)), .unset, .unset] [])) _
            refine XS.aload X98.here hx rfl (hb hby at_131) rfl rfl ?_
            show Steps p.tables e below (T98.setTop (mkF m 133 #[.val (.int p0), .val (.int p1), .val (.int p2), .val (.int p3), .val (.int p4), .val (.int c2), .val (.int d2), .val (.int kd), .val (.ref b80), .val (.ref b89), .val (.ref b89), .val (.int (0 : Int32)), .unset, .unset] [(.ref b80)])) _
            refine XS.aload X98.here hx rfl (hb hby at_133) rfl rfl ?_
            show Steps p.tables e below (T98.setTop (mkF m 135 #[.val (.int p0), .val (.int p1), .val (.int p2), .val (.int p3), .val (.int p4), .val (.int c2), .val (.int d2), .val (.int kd), .val (.ref b80), .val (.ref b89), .val (.ref b89), .val (.int (0 : Int32)), .unset, .unset] [(.ref b89), (.ref b80)])) _
            refine st113.trans ?_
            show Steps p.tables e below (T113.setTop (mkF m 138 #[.val (.int p0), .val (.int p1), .val (.int p2), .val (.int p3), .val (.int p4), .val (.int c2), .val (.int d2), .val (.int kd), .val (.ref b80), .val (.ref b89), .val (.ref b89), .val (.int (0 : Int32)), .unset, .unset] [(.int (own_eq p0 p1 c2 d2))])) _
            refine XS.istore X113.here hx rfl (hb hby at_138) rfl (l' := #[.val (.int p0), .val (.int p1), .val (.int p2), .val (.int p3), .val (.int p4), .val (.int c2), .val (.int d2), .val (.int kd), .val (.ref b80), .val (.ref b89), .val (.ref b89), .val (.int (0 : Int32)), .val (.int (own_eq p0 p1 c2 d2)), .unset]) rfl ?_
            show Steps p.tables e below (T113.setTop (mkF m 140 #[.val (.int p0), .val (.int p1), .val (.int p2), .val (.int p3), .val (.int p4), .val (.int c2), .val (.int d2), .val (.int kd), .val (.ref b80), .val (.ref b89), .val (.ref b89), .val (.int (0 : Int32)), .val (.int (own_eq p0 p1 c2 d2)), .unset] [])) _
            refine XS.iload X113.here hx rfl (hb hby at_140) rfl ?_
            show Steps p.tables e below (T113.setTop (mkF m 142 #[.val (.int p0), .val (.int p1), .val (.int p2), .val (.int p3), .val (.int p4), .val (.int c2), .val (.int d2), .val (.int kd), .val (.ref b80), .val (.ref b89), .val (.ref b89), .val (.int (0 : Int32)), .val (.int (own_eq p0 p1 c2 d2)), .unset] [(.int kd)])) _
            refine XS.ifNo X113.here hx rfl (hb hby at_142) rfl ((if0 _ _).trans (teq hk0).2) ?_
            show Steps p.tables e below (T113.setTop (mkF m 145 #[.val (.int p0), .val (.int p1), .val (.int p2), .val (.int p3), .val (.int p4), .val (.int c2), .val (.int d2), .val (.int kd), .val (.ref b80), .val (.ref b89), .val (.ref b89), .val (.int (0 : Int32)), .val (.int (own_eq p0 p1 c2 d2)), .unset] [])) _
            refine XS.aload X113.here hx rfl (hb hby at_145) rfl rfl ?_
            show Steps p.tables e below (T113.setTop (mkF m 147 #[.val (.int p0), .val (.int p1), .val (.int p2), .val (.int p3), .val (.int p4), .val (.int c2), .val (.int d2), .val (.int kd), .val (.ref b80), .val (.ref b89), .val (.ref b89), .val (.int (0 : Int32)), .val (.int (own_eq p0 p1 c2 d2)), .unset] [(.ref b89)])) _
            refine XS.aload X113.here hx rfl (hb hby at_147) rfl rfl ?_
            show Steps p.tables e below (T113.setTop (mkF m 149 #[.val (.int p0), .val (.int p1), .val (.int p2), .val (.int p3), .val (.int p4), .val (.int c2), .val (.int d2), .val (.int kd), .val (.ref b80), .val (.ref b89), .val (.ref b89), .val (.int (0 : Int32)), .val (.int (own_eq p0 p1 c2 d2)), .unset] [(.ref b80), (.ref b89)])) _
            refine st114.trans ?_
            show Steps p.tables e below (T114.setTop (mkF m 152 #[.val (.int p0), .val (.int p1), .val (.int p2), .val (.int p3), .val (.int p4), .val (.int c2), .val (.int d2), .val (.int kd), .val (.ref b80), .val (.ref b89), .val (.ref b89), .val (.int (0 : Int32)), .val (.int (own_eq p0 p1 c2 d2)), .unset] [(.int (own_eq c2 d2 p0 p1))])) _
            refine XS.iload X114.here hx rfl (hb hby at_152) rfl ?_
            show Steps p.tables e below (T114.setTop (mkF m 154 #[.val (.int p0), .val (.int p1), .val (.int p2), .val (.int p3), .val (.int p4), .val (.int c2), .val (.int d2), .val (.int kd), .val (.ref b80), .val (.ref b89), .val (.ref b89), .val (.int (0 : Int32)), .val (.int (own_eq p0 p1 c2 d2)), .unset] [(.int (0 : Int32)), (.int (own_eq c2 d2 p0 p1))])) _
            refine XS.icmpNo X114.here hx rfl (hb hby at_154) rfl (teq hb115).2 ?_
            show Steps p.tables e below (T114.setTop (mkF m 157 #[.val (.int p0), .val (.int p1), .val (.int p2), .val (.int p3), .val (.int p4), .val (.int c2), .val (.int d2), .val (.int kd), .val (.ref b80), .val (.ref b89), .val (.ref b89), .val (.int (0 : Int32)), .val (.int (own_eq p0 p1 c2 d2)), .unset] [])) _
            refine XS.iconst X114.here hx rfl (hb hby at_157) ?_
            show Steps p.tables e below (T114.setTop (mkF m 158 #[.val (.int p0), .val (.int p1), .val (.int p2), .val (.int p3), .val (.int p4), .val (.int c2), .val (.int d2), .val (.int kd), .val (.ref b80), .val (.ref b89), .val (.ref b89), .val (.int (0 : Int32)), .val (.int (own_eq p0 p1 c2 d2)), .unset] [(.int (1 : Int32))])) _
            refine XS.goto X114.here hx rfl (pc0 := 158) (pc' := 166) rfl (hb hby at_158) (by decide) (by decide) ?_
            show Steps p.tables e below (T114.setTop (mkF m 166 #[.val (.int p0), .val (.int p1), .val (.int p2), .val (.int p3), .val (.int p4), .val (.int c2), .val (.int d2), .val (.int kd), .val (.ref b80), .val (.ref b89), .val (.ref b89), .val (.int (0 : Int32)), .val (.int (own_eq p0 p1 c2 d2)), .unset] [(.int (1 : Int32))])) _
            refine XS.istore X114.here hx rfl (hb hby at_166) rfl (l' := #[.val (.int p0), .val (.int p1), .val (.int p2), .val (.int p3), .val (.int p4), .val (.int c2), .val (.int d2), .val (.int kd), .val (.ref b80), .val (.ref b89), .val (.ref b89), .val (.int (0 : Int32)), .val (.int (own_eq p0 p1 c2 d2)), .val (.int (1 : Int32))]) rfl ?_
            show Steps p.tables e below (T114.setTop (mkF m 168 #[.val (.int p0), .val (.int p1), .val (.int p2), .val (.int p3), .val (.int p4), .val (.int c2), .val (.int d2), .val (.int kd), .val (.ref b80), .val (.ref b89), .val (.ref b89), .val (.int (0 : Int32)), .val (.int (own_eq p0 p1 c2 d2)), .val (.int (1 : Int32))] [])) _
            refine XS.iload X114.here hx rfl (hb hby at_168) rfl ?_
            show Steps p.tables e below (T114.setTop (mkF m 170 #[.val (.int p0), .val (.int p1), .val (.int p2), .val (.int p3), .val (.int p4), .val (.int c2), .val (.int d2), .val (.int kd), .val (.ref b80), .val (.ref b89), .val (.ref b89), .val (.int (0 : Int32)), .val (.int (own_eq p0 p1 c2 d2)), .val (.int (1 : Int32))] [(.int (own_eq p0 p1 c2 d2))])) _
            refine XS.iload X114.here hx rfl (hb hby at_170) rfl ?_
            show Steps p.tables e below (T114.setTop (mkF m 172 #[.val (.int p0), .val (.int p1), .val (.int p2), .val (.int p3), .val (.int p4), .val (.int c2), .val (.int d2), .val (.int kd), .val (.ref b80), .val (.ref b89), .val (.ref b89), .val (.int (0 : Int32)), .val (.int (own_eq p0 p1 c2 d2)), .val (.int (1 : Int32))] [(.int (0 : Int32)), (.int (own_eq p0 p1 c2 d2))])) _
            refine XS.icmpNo X114.here hx rfl (hb hby at_172) rfl (teq hb116).2 ?_
            show Steps p.tables e below (T114.setTop (mkF m 175 #[.val (.int p0), .val (.int p1), .val (.int p2), .val (.int p3), .val (.int p4), .val (.int c2), .val (.int d2), .val (.int kd), .val (.ref b80), .val (.ref b89), .val (.ref b89), .val (.int (0 : Int32)), .val (.int (own_eq p0 p1 c2 d2)), .val (.int (1 : Int32))] [])) _
            refine XS.iload X114.here hx rfl (hb hby at_175) rfl ?_
            show Steps p.tables e below (T114.setTop (mkF m 177 #[.val (.int p0), .val (.int p1), .val (.int p2), .val (.int p3), .val (.int p4), .val (.int c2), .val (.int d2), .val (.int kd), .val (.ref b80), .val (.ref b89), .val (.ref b89), .val (.int (0 : Int32)), .val (.int (own_eq p0 p1 c2 d2)), .val (.int (1 : Int32))] [(.int (1 : Int32))])) _
            refine XS.ifNo X114.here hx rfl (hb hby at_177) rfl ((if0 _ _).trans (feq (by decide : ¬ ((1 : Int32) = (0 : Int32)))).1) ?_
            show Steps p.tables e below (T114.setTop (mkF m 180 #[.val (.int p0), .val (.int p1), .val (.int p2), .val (.int p3), .val (.int p4), .val (.int c2), .val (.int d2), .val (.int kd), .val (.ref b80), .val (.ref b89), .val (.ref b89), .val (.int (0 : Int32)), .val (.int (own_eq p0 p1 c2 d2)), .val (.int (1 : Int32))] [])) _
            refine XS.iconst X114.here hx rfl (hb hby at_180) ?_
            show Steps p.tables e below (T114.setTop (mkF m 181 #[.val (.int p0), .val (.int p1), .val (.int p2), .val (.int p3), .val (.int p4), .val (.int c2), .val (.int d2), .val (.int kd), .val (.ref b80), .val (.ref b89), .val (.ref b89), .val (.int (0 : Int32)), .val (.int (own_eq p0 p1 c2 d2)), .val (.int (1 : Int32))] [(.int (1 : Int32))])) _
            refine XS.goto X114.here hx rfl (pc0 := 181) (pc' := 185) rfl (hb hby at_181) (by decide) (by decide) ?_
            exact kk)
        obtain ⟨fs, hr, hrun, hended, hW, hsame⟩ := X114.leave (v := some (.int (1 : Int32))) (fun h => by rw [Bd.returns] at h; cases h)
        refine ⟨_, _, pre117 _ ?_, hrun, hended, _, _, rfl, ?_, ⟨_, rfl⟩, hW, hsame.mono (by decide) (by decide)⟩
        · show Steps p.tables e below (T114.setTop (mkF m 185 #[.val (.int p0), .val (.int p1), .val (.int p2), .val (.int p3), .val (.int p4), .val (.int c2), .val (.int d2), .val (.int kd), .val (.ref b80), .val (.ref b89), .val (.ref b89), .val (.int (0 : Int32)), .val (.int (own_eq p0 p1 c2 d2)), .val (.int (1 : Int32))] [(.int (1 : Int32))])) _
          exact retN X114 hx (t := .boolean) Bd.returns (by simp) (hb hby at_185) hr
        · show Q0 Z p0 p1 p2 p3 p4 wc cl h0 n0 _ T114.heap _
          rw [e114]
          exact ⟨rfl, N114, K104⟩
    · obtain ⟨cq118, kq118, q118a, q118b, q118c⟩ := isOf hZ rfl Ex100
      obtain ⟨_, _, ⟨T118, L118, k118, n118⟩, -, X118, ⟨Lc118, hQ118, l118, y118, z118⟩, st118⟩ := X98.virtualBack hx (y := (⟨"com/example/deodar/deodar/AclChange", "equals", "(Ljava/lang/Object;)Z"⟩ : MethodName)) (z := (⟨"com/example/deodar/deodar/AclChange", "equals", "(Ljava/lang/Object;)Z"⟩ : MethodName)) hown (mvT hZ (hw _ (List.mem_of_getElem? (i := 13) rfl))) (mvT hZ (hw _ (List.mem_of_getElem? (i := 14) rfl))) (notFace_of_selects (args := #[]) (mvT hZ (hw _ (List.mem_of_getElem? (i := 16) rfl)))) (mvT hZ (hw _ (List.mem_of_getElem? (i := 16) rfl))) (mvT hZ (hw _ (List.mem_of_getElem? (i := 15) rfl))) (by decide) (backOf (W := 0) (rmEq l Z a0 hw [] b80 b89 p0 p1 c2 d2 T98.heap n0 (Nat.le_trans Z0 K104.1) P98_0 F101 F102 P98_1 P98_2) hZ (hw _ (List.mem_of_getElem? (i := 17) rfl)) (hw _ (List.mem_of_getElem? (i := 2) rfl)) (by decide) (by decide)) q118a q118c (g := (mkF m 135 #[.val (.int p0), .val (.int p1), .val (.int p2), .val (.int p3), .val (.int p4), .val (.int c2), .val (.int d2), .val (.int kd), .val (.ref b80), .val (.ref b89), .val (.ref b89), .val (.int (0 : Int32)), .unset, .unset] [(.ref b89), (.ref b80)])) rfl (by rw [hml]; rfl) (Steps.refl _) (argsL := [(.ref b89)]) (rest := []) (lenOf pd_3 rfl) rfl (by show 2 * 0 + _ ≤ _; exact Nat.le_of_eq rfl) (hb hby at_135) (fun _ _ => ⟨rfl, rfl, (by decide : 2 + 0 ≤ _), (by decide : 4 + 0 ≤ _)⟩)
      dsimp only [Pt.U, Pt.locs, Pt.cells, Pt.slots] at X118 l118 y118 z118 st118 hQ118
      subst l118 y118 z118
      obtain ⟨rfl, N118q, e118⟩ := hQ118
      have N118 := Fr.app N98 N118q
      obtain ⟨cq119, kq119, q119a, q119b, q119c⟩ := isOf hZ e118 P98_0
      obtain ⟨_, _, ⟨T119, L119, k119, n119⟩, -, X119, ⟨Lc119, hQ119, l119, y119, z119⟩, st119⟩ := X118.virtualBack hx (y := (⟨"com/example/deodar/deodar/AclChange", "equals", "(Ljava/lang/Object;)Z"⟩ : MethodName)) (z := (⟨"com/example/deodar/deodar/AclChange", "equals", "(Ljava/lang/Object;)Z"⟩ : MethodName)) hown (mvT hZ (hw _ (List.mem_of_getElem? (i := 13) rfl))) (mvT hZ (hw _ (List.mem_of_getElem? (i := 14) rfl))) (notFace_of_selects (args := #[]) (mvT hZ (hw _ (List.mem_of_getElem? (i := 16) rfl)))) (mvT hZ (hw _ (List.mem_of_getElem? (i := 16) rfl))) (mvT hZ (hw _ (List.mem_of_getElem? (i := 15) rfl))) (by decide) (backOf (W := 0) (rmEq l Z a0 hw [] b89 b80 c2 d2 p0 p1 T98.heap n0 (Nat.le_trans Z0 K104.1) Ex100 P98_1 P98_2 F101 F102) hZ (hw _ (List.mem_of_getElem? (i := 17) rfl)) (hw _ (List.mem_of_getElem? (i := 2) rfl)) (by decide) (by decide)) q119a q119c (g := (mkF m 149 #[.val (.int p0), .val (.int p1), .val (.int p2), .val (.int p3), .val (.int p4), .val (.int c2), .val (.int d2), .val (.int kd), .val (.ref b80), .val (.ref b89), .val (.ref b89), .val (.int (0 : Int32)), .val (.int (own_eq p0 p1 c2 d2)), .unset] [(.ref b80), (.ref b89)])) rfl (by rw [hml]; rfl) (Steps.refl _) (argsL := [(.ref b80)]) (rest := []) (lenOf pd_3 rfl) rfl (by show 2 * 0 + _ ≤ _; exact Nat.le_of_eq rfl) (hb hby at_149) (fun _ _ => ⟨rfl, e118, (by decide : 2 + 0 ≤ _), (by decide : 4 + 0 ≤ _)⟩)
      dsimp only [Pt.U, Pt.locs, Pt.cells, Pt.slots] at X119 l119 y119 z119 st119 hQ119
      subst l119 y119 z119
      obtain ⟨rfl, N119q, e119⟩ := hQ119
      have N119 := Fr.app N118 N119q
      have hb120 : (own_eq c2 d2 p0 p1) = (0 : Int32) := by unfold own_eq; rw [if_neg ha]
      have hb121 : (own_eq p0 p1 c2 d2) = (0 : Int32) := by unfold own_eq; rw [if_neg (fun z => ha z.symm)]
      have pre122 : ∀ t, Steps p.tables e below (T119.setTop (mkF m 185 #[.val (.int p0), .val (.int p1), .val (.int p2), .val (.int p3), .val (.int p4), .val (.int c2), .val (.int d2), .val (.int kd), .val (.ref b80), .val (.ref b89), .val (.ref b89), .val (.int (0 : Int32)), .val (.int (own_eq p0 p1 c2 d2)), .val (.int (1 : Int32))] [(.int (1 : Int32))])) t → Steps p.tables e below (s₁.setTop (entryFrame m #[(.int p0), (.int p1), (.int p2), (.int p3), (.int p4)] maxLocals)) t := fun t kk => pre106 t (by
          show Steps p.tables e below (T98.setTop (mkF m 72 #[.val (.int p0), .val (.int p1), .val (.int p2), .val (.int p3), .val (.int p4), .val (.int c2), .val (.int d2), .val (.int kd), .val (.ref b80), .val (.ref b89), .val (.ref b89), .unset, .unset, .unset] [(.int c2), (.int p0)])) _
          refine XS.icmpYes X98.here hx rfl (pc0 := 72) (pc' := 85) rfl (hb hby at_72) rfl (feq ha).2 (by decide) (by decide) ?_
          show Steps p.tables e below (T98.setTop (mkF m 85 #[.val (.int p0), .val (.int p1), .val (.int p2), .val (.int p3), .val (.int p4), .val (.int c2), .val (.int d2), .val (.int kd), .val (.ref b80), .val (.ref b89), .val (.ref b89), .unset, .unset, .unset] [])) _
          refine XS.iconst X98.here hx rfl (hb hby at_85) ?_
          show Steps p.tables e below (T98.setTop (mkF m 86 #[.val (.int p0), .val (.int p1), .val (.int p2), .val (.int p3), .val (.int p4), .val (.int c2), .val (.int d2), .val (.int kd), .val (.ref b80), .val (.ref b89), .val (.ref b89), .unset, .unset, .unset] [(.int (0 : Int32))])) _
          refine XS.istore X98.here hx rfl (hb hby at_86) rfl (l' := #[.val (.int p0), .val (.int p1), .val (.int p2), .val (.int p3), .val (.int p4), .val (.int c2), .val (.int d2), .val (.int kd), .val (.ref b80), .val (.ref b89), .val (.ref b89), .val (.int (0 : Int32)), .unset, .unset]) rfl ?_
          show Steps p.tables e below (T98.setTop (mkF m 88 #[.val (.int p0), .val (.int p1), .val (.int p2), .val (.int p3), .val (.int p4), .val (.int c2), .val (.int d2), .val (.int kd), .val (.ref b80), .val (.ref b89), .val (.ref b89), .val (.int (0 : Int32)), .unset, .unset] [])) _
          refine XS.goto X98.here hx rfl (pc0 := 88) (pc' := 131) rfl (hb hby at_88) (by decide) (by decide) ?_
          show Steps p.tables e below (T98.setTop (mkF m 131 #[.val (.int p0), .val (.int p1), .val (.int p2), .val (.int p3), .val (.int p4), .val (.int c2), .val (.int d2), .val (.int kd), .val (.ref b80), .val (.ref b89), .val (.ref b89), .val (.int (0 : Int32)), .unset, .unset] [])) _
          refine XS.aload X98.here hx rfl (hb hby at_131) rfl rfl ?_
          show Steps p.tables e below (T98.setTop (mkF m 133 #[.val (.int p0), .val (.int p1), .val (.int p2), .val (.int p3), .val (.int p4), .val (.int c2), .val (.int d2), .val (.int kd), .val (.ref b80), .val (.ref b89), .val (.ref b89), .val (.int (0 : Int32)), .unset, .unset] [(.ref b80)])) _
          refine XS.aload X98.here hx rfl (hb hby at_133) rfl rfl ?_
          show Steps p.tables e below (T98.setTop (mkF m 135 #[.val (.int p0), .val (.int p1), .val (.int p2), .val (.int p3), .val (.int p4), .val (.int c2), .val (.int d2), .val (.int kd), .val (.ref b80), .val (.ref b89), .val (.ref b89), .val (.int (0 : Int32)), .unset, .unset] [(.ref b89), (.ref b80)])) _
          refine st118.trans ?_
          show Steps p.tables e below (T118.setTop (mkF m 138 #[.val (.int p0), .val (.int p1), .val (.int p2), .val (.int p3), .val (.int p4), .val (.int c2), .val (.int d2), .val (.int kd), .val (.ref b80), .val (.ref b89), .val (.ref b89), .val (.int (0 : Int32)), .unset, .unset] [(.int (own_eq p0 p1 c2 d2))])) _
          refine XS.istore X118.here hx rfl (hb hby at_138) rfl (l' := #[.val (.int p0), .val (.int p1), .val (.int p2), .val (.int p3), .val (.int p4), .val (.int c2), .val (.int d2), .val (.int kd), .val (.ref b80), .val (.ref b89), .val (.ref b89), .val (.int (0 : Int32)), .val (.int (own_eq p0 p1 c2 d2)), .unset]) rfl ?_
          show Steps p.tables e below (T118.setTop (mkF m 140 #[.val (.int p0), .val (.int p1), .val (.int p2), .val (.int p3), .val (.int p4), .val (.int c2), .val (.int d2), .val (.int kd), .val (.ref b80), .val (.ref b89), .val (.ref b89), .val (.int (0 : Int32)), .val (.int (own_eq p0 p1 c2 d2)), .unset] [])) _
          refine XS.iload X118.here hx rfl (hb hby at_140) rfl ?_
          show Steps p.tables e below (T118.setTop (mkF m 142 #[.val (.int p0), .val (.int p1), .val (.int p2), .val (.int p3), .val (.int p4), .val (.int c2), .val (.int d2), .val (.int kd), .val (.ref b80), .val (.ref b89), .val (.ref b89), .val (.int (0 : Int32)), .val (.int (own_eq p0 p1 c2 d2)), .unset] [(.int kd)])) _
          refine XS.ifNo X118.here hx rfl (hb hby at_142) rfl ((if0 _ _).trans (teq hk0).2) ?_
          show Steps p.tables e below (T118.setTop (mkF m 145 #[.val (.int p0), .val (.int p1), .val (.int p2), .val (.int p3), .val (.int p4), .val (.int c2), .val (.int d2), .val (.int kd), .val (.ref b80), .val (.ref b89), .val (.ref b89), .val (.int (0 : Int32)), .val (.int (own_eq p0 p1 c2 d2)), .unset] [])) _
          refine XS.aload X118.here hx rfl (hb hby at_145) rfl rfl ?_
          show Steps p.tables e below (T118.setTop (mkF m 147 #[.val (.int p0), .val (.int p1), .val (.int p2), .val (.int p3), .val (.int p4), .val (.int c2), .val (.int d2), .val (.int kd), .val (.ref b80), .val (.ref b89), .val (.ref b89), .val (.int (0 : Int32)), .val (.int (own_eq p0 p1 c2 d2)), .unset] [(.ref b89)])) _
          refine XS.aload X118.here hx rfl (hb hby at_147) rfl rfl ?_
          show Steps p.tables e below (T118.setTop (mkF m 149 #[.val (.int p0), .val (.int p1), .val (.int p2), .val (.int p3), .val (.int p4), .val (.int c2), .val (.int d2), .val (.int kd), .val (.ref b80), .val (.ref b89), .val (.ref b89), .val (.int (0 : Int32)), .val (.int (own_eq p0 p1 c2 d2)), .unset] [(.ref b80), (.ref b89)])) _
          refine st119.trans ?_
          show Steps p.tables e below (T119.setTop (mkF m 152 #[.val (.int p0), .val (.int p1), .val (.int p2), .val (.int p3), .val (.int p4), .val (.int c2), .val (.int d2), .val (.int kd), .val (.ref b80), .val (.ref b89), .val (.ref b89), .val (.int (0 : Int32)), .val (.int (own_eq p0 p1 c2 d2)), .unset] [(.int (own_eq c2 d2 p0 p1))])) _
          refine XS.iload X119.here hx rfl (hb hby at_152) rfl ?_
          show Steps p.tables e below (T119.setTop (mkF m 154 #[.val (.int p0), .val (.int p1), .val (.int p2), .val (.int p3), .val (.int p4), .val (.int c2), .val (.int d2), .val (.int kd), .val (.ref b80), .val (.ref b89), .val (.ref b89), .val (.int (0 : Int32)), .val (.int (own_eq p0 p1 c2 d2)), .unset] [(.int (0 : Int32)), (.int (own_eq c2 d2 p0 p1))])) _
          refine XS.icmpNo X119.here hx rfl (hb hby at_154) rfl (teq hb120).2 ?_
          show Steps p.tables e below (T119.setTop (mkF m 157 #[.val (.int p0), .val (.int p1), .val (.int p2), .val (.int p3), .val (.int p4), .val (.int c2), .val (.int d2), .val (.int kd), .val (.ref b80), .val (.ref b89), .val (.ref b89), .val (.int (0 : Int32)), .val (.int (own_eq p0 p1 c2 d2)), .unset] [])) _
          refine XS.iconst X119.here hx rfl (hb hby at_157) ?_
          show Steps p.tables e below (T119.setTop (mkF m 158 #[.val (.int p0), .val (.int p1), .val (.int p2), .val (.int p3), .val (.int p4), .val (.int c2), .val (.int d2), .val (.int kd), .val (.ref b80), .val (.ref b89), .val (.ref b89), .val (.int (0 : Int32)), .val (.int (own_eq p0 p1 c2 d2)), .unset] [(.int (1 : Int32))])) _
          refine XS.goto X119.here hx rfl (pc0 := 158) (pc' := 166) rfl (hb hby at_158) (by decide) (by decide) ?_
          show Steps p.tables e below (T119.setTop (mkF m 166 #[.val (.int p0), .val (.int p1), .val (.int p2), .val (.int p3), .val (.int p4), .val (.int c2), .val (.int d2), .val (.int kd), .val (.ref b80), .val (.ref b89), .val (.ref b89), .val (.int (0 : Int32)), .val (.int (own_eq p0 p1 c2 d2)), .unset] [(.int (1 : Int32))])) _
          refine XS.istore X119.here hx rfl (hb hby at_166) rfl (l' := #[.val (.int p0), .val (.int p1), .val (.int p2), .val (.int p3), .val (.int p4), .val (.int c2), .val (.int d2), .val (.int kd), .val (.ref b80), .val (.ref b89), .val (.ref b89), .val (.int (0 : Int32)), .val (.int (own_eq p0 p1 c2 d2)), .val (.int (1 : Int32))]) rfl ?_
          show Steps p.tables e below (T119.setTop (mkF m 168 #[.val (.int p0), .val (.int p1), .val (.int p2), .val (.int p3), .val (.int p4), .val (.int c2), .val (.int d2), .val (.int kd), .val (.ref b80), .val (.ref b89), .val (.ref b89), .val (.int (0 : Int32)), .val (.int (own_eq p0 p1 c2 d2)), .val (.int (1 : Int32))] [])) _
          refine XS.iload X119.here hx rfl (hb hby at_168) rfl ?_
          show Steps p.tables e below (T119.setTop (mkF m 170 #[.val (.int p0), .val (.int p1), .val (.int p2), .val (.int p3), .val (.int p4), .val (.int c2), .val (.int d2), .val (.int kd), .val (.ref b80), .val (.ref b89), .val (.ref b89), .val (.int (0 : Int32)), .val (.int (own_eq p0 p1 c2 d2)), .val (.int (1 : Int32))] [(.int (own_eq p0 p1 c2 d2))])) _
          refine XS.iload X119.here hx rfl (hb hby at_170) rfl ?_
          show Steps p.tables e below (T119.setTop (mkF m 172 #[.val (.int p0), .val (.int p1), .val (.int p2), .val (.int p3), .val (.int p4), .val (.int c2), .val (.int d2), .val (.int kd), .val (.ref b80), .val (.ref b89), .val (.ref b89), .val (.int (0 : Int32)), .val (.int (own_eq p0 p1 c2 d2)), .val (.int (1 : Int32))] [(.int (0 : Int32)), (.int (own_eq p0 p1 c2 d2))])) _
          refine XS.icmpNo X119.here hx rfl (hb hby at_172) rfl (teq hb121).2 ?_
          show Steps p.tables e below (T119.setTop (mkF m 175 #[.val (.int p0), .val (.int p1), .val (.int p2), .val (.int p3), .val (.int p4), .val (.int c2), .val (.int d2), .val (.int kd), .val (.ref b80), .val (.ref b89), .val (.ref b89), .val (.int (0 : Int32)), .val (.int (own_eq p0 p1 c2 d2)), .val (.int (1 : Int32))] [])) _
          refine XS.iload X119.here hx rfl (hb hby at_175) rfl ?_
          show Steps p.tables e below (T119.setTop (mkF m 177 #[.val (.int p0), .val (.int p1), .val (.int p2), .val (.int p3), .val (.int p4), .val (.int c2), .val (.int d2), .val (.int kd), .val (.ref b80), .val (.ref b89), .val (.ref b89), .val (.int (0 : Int32)), .val (.int (own_eq p0 p1 c2 d2)), .val (.int (1 : Int32))] [(.int (1 : Int32))])) _
          refine XS.ifNo X119.here hx rfl (hb hby at_177) rfl ((if0 _ _).trans (feq (by decide : ¬ ((1 : Int32) = (0 : Int32)))).1) ?_
          show Steps p.tables e below (T119.setTop (mkF m 180 #[.val (.int p0), .val (.int p1), .val (.int p2), .val (.int p3), .val (.int p4), .val (.int c2), .val (.int d2), .val (.int kd), .val (.ref b80), .val (.ref b89), .val (.ref b89), .val (.int (0 : Int32)), .val (.int (own_eq p0 p1 c2 d2)), .val (.int (1 : Int32))] [])) _
          refine XS.iconst X119.here hx rfl (hb hby at_180) ?_
          show Steps p.tables e below (T119.setTop (mkF m 181 #[.val (.int p0), .val (.int p1), .val (.int p2), .val (.int p3), .val (.int p4), .val (.int c2), .val (.int d2), .val (.int kd), .val (.ref b80), .val (.ref b89), .val (.ref b89), .val (.int (0 : Int32)), .val (.int (own_eq p0 p1 c2 d2)), .val (.int (1 : Int32))] [(.int (1 : Int32))])) _
          refine XS.goto X119.here hx rfl (pc0 := 181) (pc' := 185) rfl (hb hby at_181) (by decide) (by decide) ?_
          exact kk)
      obtain ⟨fs, hr, hrun, hended, hW, hsame⟩ := X119.leave (v := some (.int (1 : Int32))) (fun h => by rw [Bd.returns] at h; cases h)
      refine ⟨_, _, pre122 _ ?_, hrun, hended, _, _, rfl, ?_, ⟨_, rfl⟩, hW, hsame.mono (by decide) (by decide)⟩
      · show Steps p.tables e below (T119.setTop (mkF m 185 #[.val (.int p0), .val (.int p1), .val (.int p2), .val (.int p3), .val (.int p4), .val (.int c2), .val (.int d2), .val (.int kd), .val (.ref b80), .val (.ref b89), .val (.ref b89), .val (.int (0 : Int32)), .val (.int (own_eq p0 p1 c2 d2)), .val (.int (1 : Int32))] [(.int (1 : Int32))])) _
        exact retN X119 hx (t := .boolean) Bd.returns (by simp) (hb hby at_185) hr
      · show Q0 Z p0 p1 p2 p3 p4 wc cl h0 n0 _ T119.heap _
        rw [e119]
        exact ⟨rfl, N119, K104⟩
  · have pre123 : ∀ t, Steps p.tables e below (T98.setTop (mkF m 94 #[.val (.int p0), .val (.int p1), .val (.int p2), .val (.int p3), .val (.int p4), .val (.int c2), .val (.int d2), .val (.int kd), .val (.ref b80), .val (.ref b89), .unset, .unset, .unset, .unset] [(.int (1 : Int32)), (.int kd)])) t → Steps p.tables e below (s₁.setTop (entryFrame m #[(.int p0), (.int p1), (.int p2), (.int p3), (.int p4)] maxLocals)) t := fun t kk => pre105 t (by
        show Steps p.tables e below (T98.setTop (mkF m 62 #[.val (.int p0), .val (.int p1), .val (.int p2), .val (.int p3), .val (.int p4), .val (.int c2), .val (.int d2), .val (.int kd), .val (.ref b80), .val (.ref b89), .unset, .unset, .unset, .unset] [(.int kd)])) _
        refine XS.ifYes X98.here hx rfl (pc0 := 62) (pc' := 91) rfl (hb hby at_62) rfl ((if0 _ _).trans (feq hk0).2) (by decide) (by decide) ?_
        show Steps p.tables e below (T98.setTop (mkF m 91 #[.val (.int p0), .val (.int p1), .val (.int p2), .val (.int p3), .val (.int p4), .val (.int c2), .val (.int d2), .val (.int kd), .val (.ref b80), .val (.ref b89), .unset, .unset, .unset, .unset] [])) _
        refine XS.iload X98.here hx rfl (hb hby at_91) rfl ?_
        show Steps p.tables e below (T98.setTop (mkF m 93 #[.val (.int p0), .val (.int p1), .val (.int p2), .val (.int p3), .val (.int p4), .val (.int c2), .val (.int d2), .val (.int kd), .val (.ref b80), .val (.ref b89), .unset, .unset, .unset, .unset] [(.int kd)])) _
        refine XS.iconst X98.here hx rfl (hb hby at_93) ?_
        exact kk)
    by_cases hk1 : kd = (1 : Int32)
    · obtain ⟨cq124, kq124, q124a, q124b, q124c⟩ := isOf hZ rfl Ex100
      obtain ⟨_, _, ⟨T124, L124, k124, n124⟩, -, X124, ⟨Lc124, hQ124, l124, y124, z124⟩, st124⟩ := X98.virtualBack hx (y := (⟨"com/example/deodar/deodar/AclChange", "equals", "(Ljava/lang/Object;)Z"⟩ : MethodName)) (z := (⟨"com/example/deodar/deodar/AclChange", "equals", "(Ljava/lang/Object;)Z"⟩ : MethodName)) hown (mvT hZ (hw _ (List.mem_of_getElem? (i := 13) rfl))) (mvT hZ (hw _ (List.mem_of_getElem? (i := 14) rfl))) (notFace_of_selects (args := #[]) (mvT hZ (hw _ (List.mem_of_getElem? (i := 16) rfl)))) (mvT hZ (hw _ (List.mem_of_getElem? (i := 16) rfl))) (mvT hZ (hw _ (List.mem_of_getElem? (i := 15) rfl))) (by decide) (backOf (W := 0) (rmEqN l Z a0 hw [] b80 T98.heap n0 (Nat.le_trans Z0 K104.1)) hZ (hw _ (List.mem_of_getElem? (i := 17) rfl)) (hw _ (List.mem_of_getElem? (i := 2) rfl)) (by decide) (by decide)) q124a q124c (g := (mkF m 135 #[.val (.int p0), .val (.int p1), .val (.int p2), .val (.int p3), .val (.int p4), .val (.int c2), .val (.int d2), .val (.int kd), .val (.ref b80), .val (.ref b89), .val .null, .val (.int (0 : Int32)), .unset, .unset] [.null, (.ref b80)])) rfl (by rw [hml]; rfl) (Steps.refl _) (argsL := [.null]) (rest := []) (lenOf pd_3 rfl) rfl (by show 2 * 0 + _ ≤ _; exact Nat.le_of_eq rfl) (hb hby at_135) (fun _ _ => ⟨rfl, rfl, (by decide : 2 + 0 ≤ _), (by decide : 4 + 0 ≤ _)⟩)
      dsimp only [Pt.U, Pt.locs, Pt.cells, Pt.slots] at X124 l124 y124 z124 st124 hQ124
      subst l124 y124 z124
      obtain ⟨rfl, N124q, e124⟩ := hQ124
      have N124 := Fr.app N98 N124q
      have pre125 : ∀ t, Steps p.tables e below (T124.setTop (mkF m 185 #[.val (.int p0), .val (.int p1), .val (.int p2), .val (.int p3), .val (.int p4), .val (.int c2), .val (.int d2), .val (.int kd), .val (.ref b80), .val (.ref b89), .val .null, .val (.int (0 : Int32)), .val (.int (0 : Int32)), .val (.int (1 : Int32))] [(.int (1 : Int32))])) t → Steps p.tables e below (s₁.setTop (entryFrame m #[(.int p0), (.int p1), (.int p2), (.int p3), (.int p4)] maxLocals)) t := fun t kk => pre123 t (by
          show Steps p.tables e below (T98.setTop (mkF m 94 #[.val (.int p0), .val (.int p1), .val (.int p2), .val (.int p3), .val (.int p4), .val (.int c2), .val (.int d2), .val (.int kd), .val (.ref b80), .val (.ref b89), .unset, .unset, .unset, .unset] [(.int (1 : Int32)), (.int kd)])) _
          refine XS.icmpNo X98.here hx rfl (hb hby at_94) rfl (teq hk1).2 ?_
          show Steps p.tables e below (T98.setTop (mkF m 97 #[.val (.int p0), .val (.int p1), .val (.int p2), .val (.int p3), .val (.int p4), .val (.int c2), .val (.int d2), .val (.int kd), .val (.ref b80), .val (.ref b89), .unset, .unset, .unset, .unset] [])) _
          refine XS.aconstNull X98.here hx rfl (hb hby at_97) ?_
          show Steps p.tables e below (T98.setTop (mkF m 98 #[.val (.int p0), .val (.int p1), .val (.int p2), .val (.int p3), .val (.int p4), .val (.int c2), .val (.int d2), .val (.int kd), .val (.ref b80), .val (.ref b89), .unset, .unset, .unset, .unset] [.null])) _
          refine XS.astore X98.here hx rfl (hb hby at_98) rfl rfl (l' := #[.val (.int p0), .val (.int p1), .val (.int p2), .val (.int p3), .val (.int p4), .val (.int c2), .val (.int d2), .val (.int kd), .val (.ref b80), .val (.ref b89), .val .null, .unset, .unset, .unset]) rfl ?_
          show Steps p.tables e below (T98.setTop (mkF m 100 #[.val (.int p0), .val (.int p1), .val (.int p2), .val (.int p3), .val (.int p4), .val (.int c2), .val (.int d2), .val (.int kd), .val (.ref b80), .val (.ref b89), .val .null, .unset, .unset, .unset] [])) _
          refine XS.iconst X98.here hx rfl (hb hby at_100) ?_
          show Steps p.tables e below (T98.setTop (mkF m 101 #[.val (.int p0), .val (.int p1), .val (.int p2), .val (.int p3), .val (.int p4), .val (.int c2), .val (.int d2), .val (.int kd), .val (.ref b80), .val (.ref b89), .val .null, .unset, .unset, .unset] [(.int (0 : Int32))])) _
          refine XS.istore X98.here hx rfl (hb hby at_101) rfl (l' := #[.val (.int p0), .val (.int p1), .val (.int p2), .val (.int p3), .val (.int p4), .val (.int c2), .val (.int d2), .val (.int kd), .val (.ref b80), .val (.ref b89), .val .null, .val (.int (0 : Int32)), .unset, .unset]) rfl ?_
          show Steps p.tables e below (T98.setTop (mkF m 103 #[.val (.int p0), .val (.int p1), .val (.int p2), .val (.int p3), .val (.int p4), .val (.int c2), .val (.int d2), .val (.int kd), .val (.ref b80), .val (.ref b89), .val .null, .val (.int (0 : Int32)), .unset, .unset] [])) _
          refine XS.goto X98.here hx rfl (pc0 := 103) (pc' := 131) rfl (hb hby at_103) (by decide) (by decide) ?_
          show Steps p.tables e below (T98.setTop (mkF m 131 #[.val (.int p0), .val (.int p1), .val (.int p2), .val (.int p3), .val (.int p4), .val (.int c2), .val (.int d2), .val (.int kd), .val (.ref b80), .val (.ref b89), .val .null, .val (.int (0 : Int32)), .unset, .unset] [])) _
          refine XS.aload X98.here hx rfl (hb hby at_131) rfl rfl ?_
          show Steps p.tables e below (T98.setTop (mkF m 133 #[.val (.int p0), .val (.int p1), .val (.int p2), .val (.int p3), .val (.int p4), .val (.int c2), .val (.int d2), .val (.int kd), .val (.ref b80), .val (.ref b89), .val .null, .val (.int (0 : Int32)), .unset, .unset] [(.ref b80)])) _
          refine XS.aload X98.here hx rfl (hb hby at_133) rfl rfl ?_
          show Steps p.tables e below (T98.setTop (mkF m 135 #[.val (.int p0), .val (.int p1), .val (.int p2), .val (.int p3), .val (.int p4), .val (.int c2), .val (.int d2), .val (.int kd), .val (.ref b80), .val (.ref b89), .val .null, .val (.int (0 : Int32)), .unset, .unset] [.null, (.ref b80)])) _
          refine st124.trans ?_
          show Steps p.tables e below (T124.setTop (mkF m 138 #[.val (.int p0), .val (.int p1), .val (.int p2), .val (.int p3), .val (.int p4), .val (.int c2), .val (.int d2), .val (.int kd), .val (.ref b80), .val (.ref b89), .val .null, .val (.int (0 : Int32)), .unset, .unset] [(.int (0 : Int32))])) _
          refine XS.istore X124.here hx rfl (hb hby at_138) rfl (l' := #[.val (.int p0), .val (.int p1), .val (.int p2), .val (.int p3), .val (.int p4), .val (.int c2), .val (.int d2), .val (.int kd), .val (.ref b80), .val (.ref b89), .val .null, .val (.int (0 : Int32)), .val (.int (0 : Int32)), .unset]) rfl ?_
          show Steps p.tables e below (T124.setTop (mkF m 140 #[.val (.int p0), .val (.int p1), .val (.int p2), .val (.int p3), .val (.int p4), .val (.int c2), .val (.int d2), .val (.int kd), .val (.ref b80), .val (.ref b89), .val .null, .val (.int (0 : Int32)), .val (.int (0 : Int32)), .unset] [])) _
          refine XS.iload X124.here hx rfl (hb hby at_140) rfl ?_
          show Steps p.tables e below (T124.setTop (mkF m 142 #[.val (.int p0), .val (.int p1), .val (.int p2), .val (.int p3), .val (.int p4), .val (.int c2), .val (.int d2), .val (.int kd), .val (.ref b80), .val (.ref b89), .val .null, .val (.int (0 : Int32)), .val (.int (0 : Int32)), .unset] [(.int kd)])) _
          refine XS.ifYes X124.here hx rfl (pc0 := 142) (pc' := 165) rfl (hb hby at_142) rfl ((if0 _ _).trans (feq hk0).2) (by decide) (by decide) ?_
          show Steps p.tables e below (T124.setTop (mkF m 165 #[.val (.int p0), .val (.int p1), .val (.int p2), .val (.int p3), .val (.int p4), .val (.int c2), .val (.int d2), .val (.int kd), .val (.ref b80), .val (.ref b89), .val .null, .val (.int (0 : Int32)), .val (.int (0 : Int32)), .unset] [])) _
          refine XS.iconst X124.here hx rfl (hb hby at_165) ?_
          show Steps p.tables e below (T124.setTop (mkF m 166 #[.val (.int p0), .val (.int p1), .val (.int p2), .val (.int p3), .val (.int p4), .val (.int c2), .val (.int d2), .val (.int kd), .val (.ref b80), .val (.ref b89), .val .null, .val (.int (0 : Int32)), .val (.int (0 : Int32)), .unset] [(.int (1 : Int32))])) _
          refine XS.istore X124.here hx rfl (hb hby at_166) rfl (l' := #[.val (.int p0), .val (.int p1), .val (.int p2), .val (.int p3), .val (.int p4), .val (.int c2), .val (.int d2), .val (.int kd), .val (.ref b80), .val (.ref b89), .val .null, .val (.int (0 : Int32)), .val (.int (0 : Int32)), .val (.int (1 : Int32))]) rfl ?_
          show Steps p.tables e below (T124.setTop (mkF m 168 #[.val (.int p0), .val (.int p1), .val (.int p2), .val (.int p3), .val (.int p4), .val (.int c2), .val (.int d2), .val (.int kd), .val (.ref b80), .val (.ref b89), .val .null, .val (.int (0 : Int32)), .val (.int (0 : Int32)), .val (.int (1 : Int32))] [])) _
          refine XS.iload X124.here hx rfl (hb hby at_168) rfl ?_
          show Steps p.tables e below (T124.setTop (mkF m 170 #[.val (.int p0), .val (.int p1), .val (.int p2), .val (.int p3), .val (.int p4), .val (.int c2), .val (.int d2), .val (.int kd), .val (.ref b80), .val (.ref b89), .val .null, .val (.int (0 : Int32)), .val (.int (0 : Int32)), .val (.int (1 : Int32))] [(.int (0 : Int32))])) _
          refine XS.iload X124.here hx rfl (hb hby at_170) rfl ?_
          show Steps p.tables e below (T124.setTop (mkF m 172 #[.val (.int p0), .val (.int p1), .val (.int p2), .val (.int p3), .val (.int p4), .val (.int c2), .val (.int d2), .val (.int kd), .val (.ref b80), .val (.ref b89), .val .null, .val (.int (0 : Int32)), .val (.int (0 : Int32)), .val (.int (1 : Int32))] [(.int (0 : Int32)), (.int (0 : Int32))])) _
          refine XS.icmpNo X124.here hx rfl (hb hby at_172) rfl (teq (by decide : (0 : Int32) = (0 : Int32))).2 ?_
          show Steps p.tables e below (T124.setTop (mkF m 175 #[.val (.int p0), .val (.int p1), .val (.int p2), .val (.int p3), .val (.int p4), .val (.int c2), .val (.int d2), .val (.int kd), .val (.ref b80), .val (.ref b89), .val .null, .val (.int (0 : Int32)), .val (.int (0 : Int32)), .val (.int (1 : Int32))] [])) _
          refine XS.iload X124.here hx rfl (hb hby at_175) rfl ?_
          show Steps p.tables e below (T124.setTop (mkF m 177 #[.val (.int p0), .val (.int p1), .val (.int p2), .val (.int p3), .val (.int p4), .val (.int c2), .val (.int d2), .val (.int kd), .val (.ref b80), .val (.ref b89), .val .null, .val (.int (0 : Int32)), .val (.int (0 : Int32)), .val (.int (1 : Int32))] [(.int (1 : Int32))])) _
          refine XS.ifNo X124.here hx rfl (hb hby at_177) rfl ((if0 _ _).trans (feq (by decide : ¬ ((1 : Int32) = (0 : Int32)))).1) ?_
          show Steps p.tables e below (T124.setTop (mkF m 180 #[.val (.int p0), .val (.int p1), .val (.int p2), .val (.int p3), .val (.int p4), .val (.int c2), .val (.int d2), .val (.int kd), .val (.ref b80), .val (.ref b89), .val .null, .val (.int (0 : Int32)), .val (.int (0 : Int32)), .val (.int (1 : Int32))] [])) _
          refine XS.iconst X124.here hx rfl (hb hby at_180) ?_
          show Steps p.tables e below (T124.setTop (mkF m 181 #[.val (.int p0), .val (.int p1), .val (.int p2), .val (.int p3), .val (.int p4), .val (.int c2), .val (.int d2), .val (.int kd), .val (.ref b80), .val (.ref b89), .val .null, .val (.int (0 : Int32)), .val (.int (0 : Int32)), .val (.int (1 : Int32))] [(.int (1 : Int32))])) _
          refine XS.goto X124.here hx rfl (pc0 := 181) (pc' := 185) rfl (hb hby at_181) (by decide) (by decide) ?_
          exact kk)
      obtain ⟨fs, hr, hrun, hended, hW, hsame⟩ := X124.leave (v := some (.int (1 : Int32))) (fun h => by rw [Bd.returns] at h; cases h)
      refine ⟨_, _, pre125 _ ?_, hrun, hended, _, _, rfl, ?_, ⟨_, rfl⟩, hW, hsame.mono (by decide) (by decide)⟩
      · show Steps p.tables e below (T124.setTop (mkF m 185 #[.val (.int p0), .val (.int p1), .val (.int p2), .val (.int p3), .val (.int p4), .val (.int c2), .val (.int d2), .val (.int kd), .val (.ref b80), .val (.ref b89), .val .null, .val (.int (0 : Int32)), .val (.int (0 : Int32)), .val (.int (1 : Int32))] [(.int (1 : Int32))])) _
        exact retN X124 hx (t := .boolean) Bd.returns (by simp) (hb hby at_185) hr
      · show Q0 Z p0 p1 p2 p3 p4 wc cl h0 n0 _ T124.heap _
        rw [e124]
        exact ⟨rfl, N124, K104⟩
    · have pre126 : ∀ t, Steps p.tables e below (T98.setTop (mkF m 109 #[.val (.int p0), .val (.int p1), .val (.int p2), .val (.int p3), .val (.int p4), .val (.int c2), .val (.int d2), .val (.int kd), .val (.ref b80), .val (.ref b89), .unset, .unset, .unset, .unset] [(.int (2 : Int32)), (.int kd)])) t → Steps p.tables e below (s₁.setTop (entryFrame m #[(.int p0), (.int p1), (.int p2), (.int p3), (.int p4)] maxLocals)) t := fun t kk => pre123 t (by
          show Steps p.tables e below (T98.setTop (mkF m 94 #[.val (.int p0), .val (.int p1), .val (.int p2), .val (.int p3), .val (.int p4), .val (.int c2), .val (.int d2), .val (.int kd), .val (.ref b80), .val (.ref b89), .unset, .unset, .unset, .unset] [(.int (1 : Int32)), (.int kd)])) _
          refine XS.icmpYes X98.here hx rfl (pc0 := 94) (pc' := 106) rfl (hb hby at_94) rfl (feq hk1).2 (by decide) (by decide) ?_
          show Steps p.tables e below (T98.setTop (mkF m 106 #[.val (.int p0), .val (.int p1), .val (.int p2), .val (.int p3), .val (.int p4), .val (.int c2), .val (.int d2), .val (.int kd), .val (.ref b80), .val (.ref b89), .unset, .unset, .unset, .unset] [])) _
          refine XS.iload X98.here hx rfl (hb hby at_106) rfl ?_
          show Steps p.tables e below (T98.setTop (mkF m 108 #[.val (.int p0), .val (.int p1), .val (.int p2), .val (.int p3), .val (.int p4), .val (.int c2), .val (.int d2), .val (.int kd), .val (.ref b80), .val (.ref b89), .unset, .unset, .unset, .unset] [(.int kd)])) _
          refine XS.iconst X98.here hx rfl (hb hby at_108) ?_
          exact kk)
      by_cases hk2 : kd = (2 : Int32)
      · have hp128 : Sta Z Z.heap "java/lang/Integer$IntegerCache" "high" "I" (.int (127 : Int32)) := hSh
        have hp129 : Sta Z Z.heap "java/lang/Integer$IntegerCache" "cache" "[Ljava/lang/Integer;" (.ref wc) := hSc
        have hp130 : Arr Z Z.heap wc cl (.object "java/lang/Integer") := hAr
        have hp131 : cl.slots.size = 256 := hsz
        have hp132 : ∀ j : Int32, ¬ j < 0 → j < 256 → ∃ r : Addr, cl.slots[j.toNatClampNeg]? = some (.ref r) ∧ Exa Z Z.heap r "java/lang/Integer" := hel
        obtain ⟨_, _, ⟨T127, L127, k127, n127⟩, -, X127, ⟨Lc127, hQ127, l127, y127, z127⟩, st127⟩ := Jvm.LawKit.callS X98 hx (y := (⟨"java/lang/Integer", "valueOf", "(I)Ljava/lang/Integer;"⟩ : MethodName)) hown (mvT hZ (hw _ (List.mem_of_getElem? (i := 20) rfl))) (mvT hZ (hw _ (List.mem_of_getElem? (i := 21) rfl))) (mvT hZ (hw _ (List.mem_of_getElem? (i := 22) rfl))) (mvT hZ (hw _ (List.mem_of_getElem? (i := 23) rfl))) (by decide) (backOf (W := 0) (rmVal l Z a0 hw [] p0 wc cl T98.heap n0 (Nat.le_trans Z0 K104.1) Xf99 hp128 hp129 hp130 hp131 hp132) hZ (hw _ (List.mem_of_getElem? (i := 23) rfl)) (hw _ (List.mem_of_getElem? (i := 22) rfl)) (by decide) (by decide)) (g := (mkF m 113 #[.val (.int p0), .val (.int p1), .val (.int p2), .val (.int p3), .val (.int p4), .val (.int c2), .val (.int d2), .val (.int kd), .val (.ref b80), .val (.ref b89), .unset, .unset, .unset, .unset] [(.int p0)])) rfl (by rw [hml]; rfl) (argsL := [(.int p0)]) (rest := []) (lenOf pd_4 rfl) rfl (by show 2 * 0 + _ ≤ _; exact Nat.le_of_eq rfl) (hb hby at_113) (fun _ _ => ⟨rfl, rfl, (by decide : 2 + 1 ≤ _), (by decide : 4 + 1 ≤ _)⟩)
        dsimp only [Pt.U, Pt.locs, Pt.cells, Pt.slots] at X127 l127 y127 z127 st127 hQ127
        subst l127 y127 z127
        obtain ⟨r_127, rfl, N127q, K127q, P127_0⟩ := hQ127
        have N127 := Fr.app N98 N127q
        have Xf133 : Old Z n0 T127.heap := (Xf99.keep K127q all0)
        have Ex134 : Exa Z T127.heap b80 "com/example/deodar/deodar/AclChange" := (Ex100.keep K127q)
        have F135 : Fld Z T127.heap b80 "com/example/deodar/deodar/AclChange" "aclsWritten" "I" (.int p0) := (F101.keep K127q nin0)
        have F136 : Fld Z T127.heap b80 "com/example/deodar/deodar/AclChange" "nodesRepointed" "I" (.int p1) := (F102.keep K127q nin0)
        have Ex137 : Exa Z T127.heap b89 "com/example/deodar/deodar/AclChange" := (P98_0.keep K127q)
        have F138 : Fld Z T127.heap b89 "com/example/deodar/deodar/AclChange" "aclsWritten" "I" (.int c2) := (P98_1.keep K127q nin0)
        have F139 : Fld Z T127.heap b89 "com/example/deodar/deodar/AclChange" "nodesRepointed" "I" (.int d2) := (P98_2.keep K127q nin0)
        have K140 : Keep h0 T127.heap [] := K104.trans K127q all0
        obtain ⟨cq141, kq141, q141a, q141b, q141c⟩ := isOf hZ rfl Ex134
        obtain ⟨_, _, ⟨T141, L141, k141, n141⟩, -, X141, ⟨Lc141, hQ141, l141, y141, z141⟩, st141⟩ := X127.virtualBack hx (y := (⟨"com/example/deodar/deodar/AclChange", "equals", "(Ljava/lang/Object;)Z"⟩ : MethodName)) (z := (⟨"com/example/deodar/deodar/AclChange", "equals", "(Ljava/lang/Object;)Z"⟩ : MethodName)) hown (mvT hZ (hw _ (List.mem_of_getElem? (i := 13) rfl))) (mvT hZ (hw _ (List.mem_of_getElem? (i := 14) rfl))) (notFace_of_selects (args := #[]) (mvT hZ (hw _ (List.mem_of_getElem? (i := 16) rfl)))) (mvT hZ (hw _ (List.mem_of_getElem? (i := 16) rfl))) (mvT hZ (hw _ (List.mem_of_getElem? (i := 15) rfl))) (by decide) (backOf (W := 0) (rmEqI l Z a0 hw [] b80 r_127 T127.heap n0 (Nat.le_trans Z0 K140.1) P127_0) hZ (hw _ (List.mem_of_getElem? (i := 17) rfl)) (hw _ (List.mem_of_getElem? (i := 2) rfl)) (by decide) (by decide)) q141a q141c (g := (mkF m 135 #[.val (.int p0), .val (.int p1), .val (.int p2), .val (.int p3), .val (.int p4), .val (.int c2), .val (.int d2), .val (.int kd), .val (.ref b80), .val (.ref b89), .val (.ref r_127), .val (.int (0 : Int32)), .unset, .unset] [(.ref r_127), (.ref b80)])) rfl (by rw [hml]; rfl) (Steps.refl _) (argsL := [(.ref r_127)]) (rest := []) (lenOf pd_3 rfl) rfl (by show 2 * 0 + _ ≤ _; exact Nat.le_of_eq rfl) (hb hby at_135) (fun _ _ => ⟨rfl, rfl, (by decide : 3 + 0 ≤ _), (by decide : 5 + 0 ≤ _)⟩)
        dsimp only [Pt.U, Pt.locs, Pt.cells, Pt.slots] at X141 l141 y141 z141 st141 hQ141
        subst l141 y141 z141
        obtain ⟨rfl, N141q, e141⟩ := hQ141
        have N141 := Fr.app N127 N141q
        have pre142 : ∀ t, Steps p.tables e below (T141.setTop (mkF m 185 #[.val (.int p0), .val (.int p1), .val (.int p2), .val (.int p3), .val (.int p4), .val (.int c2), .val (.int d2), .val (.int kd), .val (.ref b80), .val (.ref b89), .val (.ref r_127), .val (.int (0 : Int32)), .val (.int (0 : Int32)), .val (.int (1 : Int32))] [(.int (1 : Int32))])) t → Steps p.tables e below (s₁.setTop (entryFrame m #[(.int p0), (.int p1), (.int p2), (.int p3), (.int p4)] maxLocals)) t := fun t kk => pre126 t (by
            show Steps p.tables e below (T98.setTop (mkF m 109 #[.val (.int p0), .val (.int p1), .val (.int p2), .val (.int p3), .val (.int p4), .val (.int c2), .val (.int d2), .val (.int kd), .val (.ref b80), .val (.ref b89), .unset, .unset, .unset, .unset] [(.int (2 : Int32)), (.int kd)])) _
            refine XS.icmpNo X98.here hx rfl (hb hby at_109) rfl (teq hk2).2 ?_
            show Steps p.tables e below (T98.setTop (mkF m 112 #[.val (.int p0), .val (.int p1), .val (.int p2), .val (.int p3), .val (.int p4), .val (.int c2), .val (.int d2), .val (.int kd), .val (.ref b80), .val (.ref b89), .unset, .unset, .unset, .unset] [])) _
            refine XS.iloadN X98.here hx rfl (hb hby at_112) rfl ?_
            show Steps p.tables e below (T98.setTop (mkF m 113 #[.val (.int p0), .val (.int p1), .val (.int p2), .val (.int p3), .val (.int p4), .val (.int c2), .val (.int d2), .val (.int kd), .val (.ref b80), .val (.ref b89), .unset, .unset, .unset, .unset] [(.int p0)])) _
            refine st127 _ ?_
            show Steps p.tables e below (T127.setTop (mkF m 116 #[.val (.int p0), .val (.int p1), .val (.int p2), .val (.int p3), .val (.int p4), .val (.int c2), .val (.int d2), .val (.int kd), .val (.ref b80), .val (.ref b89), .unset, .unset, .unset, .unset] [(.ref r_127)])) _
            refine XS.astore X127.here hx rfl (hb hby at_116) rfl rfl (l' := #[.val (.int p0), .val (.int p1), .val (.int p2), .val (.int p3), .val (.int p4), .val (.int c2), .val (.int d2), .val (.int kd), .val (.ref b80), .val (.ref b89), .val (.ref r_127), .unset, .unset, .unset]) rfl ?_
            show Steps p.tables e below (T127.setTop (mkF m 118 #[.val (.int p0), .val (.int p1), .val (.int p2), .val (.int p3), .val (.int p4), .val (.int c2), .val (.int d2), .val (.int kd), .val (.ref b80), .val (.ref b89), .val (.ref r_127), .unset, .unset, .unset] [])) _
            refine XS.iconst X127.here hx rfl (hb hby at_118) ?_
            show Steps p.tables e below (T127.setTop (mkF m 119 #[.val (.int p0), .val (.int p1), .val (.int p2), .val (.int p3), .val (.int p4), .val (.int c2), .val (.int d2), .val (.int kd), .val (.ref b80), .val (.ref b89), .val (.ref r_127), .unset, .unset, .unset] [(.int (0 : Int32))])) _
            refine XS.istore X127.here hx rfl (hb hby at_119) rfl (l' := #[.val (.int p0), .val (.int p1), .val (.int p2), .val (.int p3), .val (.int p4), .val (.int c2), .val (.int d2), .val (.int kd), .val (.ref b80), .val (.ref b89), .val (.ref r_127), .val (.int (0 : Int32)), .unset, .unset]) rfl ?_
            show Steps p.tables e below (T127.setTop (mkF m 121 #[.val (.int p0), .val (.int p1), .val (.int p2), .val (.int p3), .val (.int p4), .val (.int c2), .val (.int d2), .val (.int kd), .val (.ref b80), .val (.ref b89), .val (.ref r_127), .val (.int (0 : Int32)), .unset, .unset] [])) _
            refine XS.goto X127.here hx rfl (pc0 := 121) (pc' := 131) rfl (hb hby at_121) (by decide) (by decide) ?_
            show Steps p.tables e below (T127.setTop (mkF m 131 #[.val (.int p0), .val (.int p1), .val (.int p2), .val (.int p3), .val (.int p4), .val (.int c2), .val (.int d2), .val (.int kd), .val (.ref b80), .val (.ref b89), .val (.ref r_127), .val (.int (0 : Int32)), .unset, .unset] [])) _
            refine XS.aload X127.here hx rfl (hb hby at_131) rfl rfl ?_
            show Steps p.tables e below (T127.setTop (mkF m 133 #[.val (.int p0), .val (.int p1), .val (.int p2), .val (.int p3), .val (.int p4), .val (.int c2), .val (.int d2), .val (.int kd), .val (.ref b80), .val (.ref b89), .val (.ref r_127), .val (.int (0 : Int32)), .unset, .unset] [(.ref b80)])) _
            refine XS.aload X127.here hx rfl (hb hby at_133) rfl rfl ?_
            show Steps p.tables e below (T127.setTop (mkF m 135 #[.val (.int p0), .val (.int p1), .val (.int p2), .val (.int p3), .val (.int p4), .val (.int c2), .val (.int d2), .val (.int kd), .val (.ref b80), .val (.ref b89), .val (.ref r_127), .val (.int (0 : Int32)), .unset, .unset] [(.ref r_127), (.ref b80)])) _
            refine st141.trans ?_
            show Steps p.tables e below (T141.setTop (mkF m 138 #[.val (.int p0), .val (.int p1), .val (.int p2), .val (.int p3), .val (.int p4), .val (.int c2), .val (.int d2), .val (.int kd), .val (.ref b80), .val (.ref b89), .val (.ref r_127), .val (.int (0 : Int32)), .unset, .unset] [(.int (0 : Int32))])) _
            refine XS.istore X141.here hx rfl (hb hby at_138) rfl (l' := #[.val (.int p0), .val (.int p1), .val (.int p2), .val (.int p3), .val (.int p4), .val (.int c2), .val (.int d2), .val (.int kd), .val (.ref b80), .val (.ref b89), .val (.ref r_127), .val (.int (0 : Int32)), .val (.int (0 : Int32)), .unset]) rfl ?_
            show Steps p.tables e below (T141.setTop (mkF m 140 #[.val (.int p0), .val (.int p1), .val (.int p2), .val (.int p3), .val (.int p4), .val (.int c2), .val (.int d2), .val (.int kd), .val (.ref b80), .val (.ref b89), .val (.ref r_127), .val (.int (0 : Int32)), .val (.int (0 : Int32)), .unset] [])) _
            refine XS.iload X141.here hx rfl (hb hby at_140) rfl ?_
            show Steps p.tables e below (T141.setTop (mkF m 142 #[.val (.int p0), .val (.int p1), .val (.int p2), .val (.int p3), .val (.int p4), .val (.int c2), .val (.int d2), .val (.int kd), .val (.ref b80), .val (.ref b89), .val (.ref r_127), .val (.int (0 : Int32)), .val (.int (0 : Int32)), .unset] [(.int kd)])) _
            refine XS.ifYes X141.here hx rfl (pc0 := 142) (pc' := 165) rfl (hb hby at_142) rfl ((if0 _ _).trans (feq hk0).2) (by decide) (by decide) ?_
            show Steps p.tables e below (T141.setTop (mkF m 165 #[.val (.int p0), .val (.int p1), .val (.int p2), .val (.int p3), .val (.int p4), .val (.int c2), .val (.int d2), .val (.int kd), .val (.ref b80), .val (.ref b89), .val (.ref r_127), .val (.int (0 : Int32)), .val (.int (0 : Int32)), .unset] [])) _
            refine XS.iconst X141.here hx rfl (hb hby at_165) ?_
            show Steps p.tables e below (T141.setTop (mkF m 166 #[.val (.int p0), .val (.int p1), .val (.int p2), .val (.int p3), .val (.int p4), .val (.int c2), .val (.int d2), .val (.int kd), .val (.ref b80), .val (.ref b89), .val (.ref r_127), .val (.int (0 : Int32)), .val (.int (0 : Int32)), .unset] [(.int (1 : Int32))])) _
            refine XS.istore X141.here hx rfl (hb hby at_166) rfl (l' := #[.val (.int p0), .val (.int p1), .val (.int p2), .val (.int p3), .val (.int p4), .val (.int c2), .val (.int d2), .val (.int kd), .val (.ref b80), .val (.ref b89), .val (.ref r_127), .val (.int (0 : Int32)), .val (.int (0 : Int32)), .val (.int (1 : Int32))]) rfl ?_
            show Steps p.tables e below (T141.setTop (mkF m 168 #[.val (.int p0), .val (.int p1), .val (.int p2), .val (.int p3), .val (.int p4), .val (.int c2), .val (.int d2), .val (.int kd), .val (.ref b80), .val (.ref b89), .val (.ref r_127), .val (.int (0 : Int32)), .val (.int (0 : Int32)), .val (.int (1 : Int32))] [])) _
            refine XS.iload X141.here hx rfl (hb hby at_168) rfl ?_
            show Steps p.tables e below (T141.setTop (mkF m 170 #[.val (.int p0), .val (.int p1), .val (.int p2), .val (.int p3), .val (.int p4), .val (.int c2), .val (.int d2), .val (.int kd), .val (.ref b80), .val (.ref b89), .val (.ref r_127), .val (.int (0 : Int32)), .val (.int (0 : Int32)), .val (.int (1 : Int32))] [(.int (0 : Int32))])) _
            refine XS.iload X141.here hx rfl (hb hby at_170) rfl ?_
            show Steps p.tables e below (T141.setTop (mkF m 172 #[.val (.int p0), .val (.int p1), .val (.int p2), .val (.int p3), .val (.int p4), .val (.int c2), .val (.int d2), .val (.int kd), .val (.ref b80), .val (.ref b89), .val (.ref r_127), .val (.int (0 : Int32)), .val (.int (0 : Int32)), .val (.int (1 : Int32))] [(.int (0 : Int32)), (.int (0 : Int32))])) _
            refine XS.icmpNo X141.here hx rfl (hb hby at_172) rfl (teq (by decide : (0 : Int32) = (0 : Int32))).2 ?_
            show Steps p.tables e below (T141.setTop (mkF m 175 #[.val (.int p0), .val (.int p1), .val (.int p2), .val (.int p3), .val (.int p4), .val (.int c2), .val (.int d2), .val (.int kd), .val (.ref b80), .val (.ref b89), .val (.ref r_127), .val (.int (0 : Int32)), .val (.int (0 : Int32)), .val (.int (1 : Int32))] [])) _
            refine XS.iload X141.here hx rfl (hb hby at_175) rfl ?_
            show Steps p.tables e below (T141.setTop (mkF m 177 #[.val (.int p0), .val (.int p1), .val (.int p2), .val (.int p3), .val (.int p4), .val (.int c2), .val (.int d2), .val (.int kd), .val (.ref b80), .val (.ref b89), .val (.ref r_127), .val (.int (0 : Int32)), .val (.int (0 : Int32)), .val (.int (1 : Int32))] [(.int (1 : Int32))])) _
            refine XS.ifNo X141.here hx rfl (hb hby at_177) rfl ((if0 _ _).trans (feq (by decide : ¬ ((1 : Int32) = (0 : Int32)))).1) ?_
            show Steps p.tables e below (T141.setTop (mkF m 180 #[.val (.int p0), .val (.int p1), .val (.int p2), .val (.int p3), .val (.int p4), .val (.int c2), .val (.int d2), .val (.int kd), .val (.ref b80), .val (.ref b89), .val (.ref r_127), .val (.int (0 : Int32)), .val (.int (0 : Int32)), .val (.int (1 : Int32))] [])) _
            refine XS.iconst X141.here hx rfl (hb hby at_180) ?_
            show Steps p.tables e below (T141.setTop (mkF m 181 #[.val (.int p0), .val (.int p1), .val (.int p2), .val (.int p3), .val (.int p4), .val (.int c2), .val (.int d2), .val (.int kd), .val (.ref b80), .val (.ref b89), .val (.ref r_127), .val (.int (0 : Int32)), .val (.int (0 : Int32)), .val (.int (1 : Int32))] [(.int (1 : Int32))])) _
            refine XS.goto X141.here hx rfl (pc0 := 181) (pc' := 185) rfl (hb hby at_181) (by decide) (by decide) ?_
            exact kk)
        obtain ⟨fs, hr, hrun, hended, hW, hsame⟩ := X141.leave (v := some (.int (1 : Int32))) (fun h => by rw [Bd.returns] at h; cases h)
        refine ⟨_, _, pre142 _ ?_, hrun, hended, _, _, rfl, ?_, ⟨_, rfl⟩, hW, hsame.mono (by decide) (by decide)⟩
        · show Steps p.tables e below (T141.setTop (mkF m 185 #[.val (.int p0), .val (.int p1), .val (.int p2), .val (.int p3), .val (.int p4), .val (.int c2), .val (.int d2), .val (.int kd), .val (.ref b80), .val (.ref b89), .val (.ref r_127), .val (.int (0 : Int32)), .val (.int (0 : Int32)), .val (.int (1 : Int32))] [(.int (1 : Int32))])) _
          exact retN X141 hx (t := .boolean) Bd.returns (by simp) (hb hby at_185) hr
        · show Q0 Z p0 p1 p2 p3 p4 wc cl h0 n0 _ T141.heap _
          rw [e141]
          exact ⟨rfl, N141, K140⟩
      · obtain ⟨cq143, kq143, q143a, q143b, q143c⟩ := isOf hZ rfl Ex100
        obtain ⟨_, _, ⟨T143, L143, k143, n143⟩, -, X143, ⟨Lc143, hQ143, l143, y143, z143⟩, st143⟩ := X98.virtualBack hx (y := (⟨"com/example/deodar/deodar/AclChange", "equals", "(Ljava/lang/Object;)Z"⟩ : MethodName)) (z := (⟨"com/example/deodar/deodar/AclChange", "equals", "(Ljava/lang/Object;)Z"⟩ : MethodName)) hown (mvT hZ (hw _ (List.mem_of_getElem? (i := 13) rfl))) (mvT hZ (hw _ (List.mem_of_getElem? (i := 14) rfl))) (notFace_of_selects (args := #[]) (mvT hZ (hw _ (List.mem_of_getElem? (i := 16) rfl)))) (mvT hZ (hw _ (List.mem_of_getElem? (i := 16) rfl))) (mvT hZ (hw _ (List.mem_of_getElem? (i := 15) rfl))) (by decide) (backOf (W := 0) (rmEq l Z a0 hw [] b80 b80 p0 p1 p0 p1 T98.heap n0 (Nat.le_trans Z0 K104.1) Ex100 F101 F102 F101 F102) hZ (hw _ (List.mem_of_getElem? (i := 17) rfl)) (hw _ (List.mem_of_getElem? (i := 2) rfl)) (by decide) (by decide)) q143a q143c (g := (mkF m 135 #[.val (.int p0), .val (.int p1), .val (.int p2), .val (.int p3), .val (.int p4), .val (.int c2), .val (.int d2), .val (.int kd), .val (.ref b80), .val (.ref b89), .val (.ref b80), .val (.int (1 : Int32)), .unset, .unset] [(.ref b80), (.ref b80)])) rfl (by rw [hml]; rfl) (Steps.refl _) (argsL := [(.ref b80)]) (rest := []) (lenOf pd_3 rfl) rfl (by show 2 * 0 + _ ≤ _; exact Nat.le_of_eq rfl) (hb hby at_135) (fun _ _ => ⟨rfl, rfl, (by decide : 2 + 0 ≤ _), (by decide : 4 + 0 ≤ _)⟩)
        dsimp only [Pt.U, Pt.locs, Pt.cells, Pt.slots] at X143 l143 y143 z143 st143 hQ143
        subst l143 y143 z143
        obtain ⟨rfl, N143q, e143⟩ := hQ143
        have N143 := Fr.app N98 N143q
        have hb144 : (own_eq p0 p1 p0 p1) = (1 : Int32) := by unfold own_eq; rw [if_pos rfl, if_pos rfl]
        have pre145 : ∀ t, Steps p.tables e below (T143.setTop (mkF m 185 #[.val (.int p0), .val (.int p1), .val (.int p2), .val (.int p3), .val (.int p4), .val (.int c2), .val (.int d2), .val (.int kd), .val (.ref b80), .val (.ref b89), .val (.ref b80), .val (.int (1 : Int32)), .val (.int (own_eq p0 p1 p0 p1)), .val (.int (1 : Int32))] [(.int (1 : Int32))])) t → Steps p.tables e below (s₁.setTop (entryFrame m #[(.int p0), (.int p1), (.int p2), (.int p3), (.int p4)] maxLocals)) t := fun t kk => pre126 t (by
            show Steps p.tables e below (T98.setTop (mkF m 109 #[.val (.int p0), .val (.int p1), .val (.int p2), .val (.int p3), .val (.int p4), .val (.int c2), .val (.int d2), .val (.int kd), .val (.ref b80), .val (.ref b89), .unset, .unset, .unset, .unset] [(.int (2 : Int32)), (.int kd)])) _
            refine XS.icmpYes X98.here hx rfl (pc0 := 109) (pc' := 124) rfl (hb hby at_109) rfl (feq hk2).2 (by decide) (by decide) ?_
            show Steps p.tables e below (T98.setTop (mkF m 124 #[.val (.int p0), .val (.int p1), .val (.int p2), .val (.int p3), .val (.int p4), .val (.int c2), .val (.int d2), .val (.int kd), .val (.ref b80), .val (.ref b89), .unset, .unset, .unset, .unset] [])) _
            refine XS.aload X98.here hx rfl (hb hby at_124) rfl rfl ?_
            show Steps p.tables e below (T98.setTop (mkF m 126 #[.val (.int p0), .val (.int p1), .val (.int p2), .val (.int p3), .val (.int p4), .val (.int c2), .val (.int d2), .val (.int kd), .val (.ref b80), .val (.ref b89), .unset, .unset, .unset, .unset] [(.ref b80)])) _
            refine XS.astore X98.here hx rfl (hb hby at_126) rfl rfl (l' := #[.val (.int p0), .val (.int p1), .val (.int p2), .val (.int p3), .val (.int p4), .val (.int c2), .val (.int d2), .val (.int kd), .val (.ref b80), .val (.ref b89), .val (.ref b80), .unset, .unset, .unset]) rfl ?_
            show Steps p.tables e below (T98.setTop (mkF m 128 #[.val (.int p0), .val (.int p1), .val (.int p2), .val (.int p3), .val (.int p4), .val (.int c2), .val (.int d2), .val (.int kd), .val (.ref b80), .val (.ref b89), .val (.ref b80), .unset, .unset, .unset] [])) _
            refine XS.iconst X98.here hx rfl (hb hby at_128) ?_
            show Steps p.tables e below (T98.setTop (mkF m 129 #[.val (.int p0), .val (.int p1), .val (.int p2), .val (.int p3), .val (.int p4), .val (.int c2), .val (.int d2), .val (.int kd), .val (.ref b80), .val (.ref b89), .val (.ref b80), .unset, .unset, .unset] [(.int (1 : Int32))])) _
            refine XS.istore X98.here hx rfl (hb hby at_129) rfl (l' := #[.val (.int p0), .val (.int p1), .val (.int p2), .val (.int p3), .val (.int p4), .val (.int c2), .val (.int d2), .val (.int kd), .val (.ref b80), .val (.ref b89), .val (.ref b80), .val (.int (1 : Int32)), .unset, .unset]) rfl ?_
            show Steps p.tables e below (T98.setTop (mkF m 131 #[.val (.int p0), .val (.int p1), .val (.int p2), .val (.int p3), .val (.int p4), .val (.int c2), .val (.int d2), .val (.int kd), .val (.ref b80), .val (.ref b89), .val (.ref b80), .val (.int (1 : Int32)), .unset, .unset] [])) _
            refine XS.aload X98.here hx rfl (hb hby at_131) rfl rfl ?_
            show Steps p.tables e below (T98.setTop (mkF m 133 #[.val (.int p0), .val (.int p1), .val (.int p2), .val (.int p3), .val (.int p4), .val (.int c2), .val (.int d2), .val (.int kd), .val (.ref b80), .val (.ref b89), .val (.ref b80), .val (.int (1 : Int32)), .unset, .unset] [(.ref b80)])) _
            refine XS.aload X98.here hx rfl (hb hby at_133) rfl rfl ?_
            show Steps p.tables e below (T98.setTop (mkF m 135 #[.val (.int p0), .val (.int p1), .val (.int p2), .val (.int p3), .val (.int p4), .val (.int c2), .val (.int d2), .val (.int kd), .val (.ref b80), .val (.ref b89), .val (.ref b80), .val (.int (1 : Int32)), .unset, .unset] [(.ref b80), (.ref b80)])) _
            refine st143.trans ?_
            show Steps p.tables e below (T143.setTop (mkF m 138 #[.val (.int p0), .val (.int p1), .val (.int p2), .val (.int p3), .val (.int p4), .val (.int c2), .val (.int d2), .val (.int kd), .val (.ref b80), .val (.ref b89), .val (.ref b80), .val (.int (1 : Int32)), .unset, .unset] [(.int (own_eq p0 p1 p0 p1))])) _
            refine XS.istore X143.here hx rfl (hb hby at_138) rfl (l' := #[.val (.int p0), .val (.int p1), .val (.int p2), .val (.int p3), .val (.int p4), .val (.int c2), .val (.int d2), .val (.int kd), .val (.ref b80), .val (.ref b89), .val (.ref b80), .val (.int (1 : Int32)), .val (.int (own_eq p0 p1 p0 p1)), .unset]) rfl ?_
            show Steps p.tables e below (T143.setTop (mkF m 140 #[.val (.int p0), .val (.int p1), .val (.int p2), .val (.int p3), .val (.int p4), .val (.int c2), .val (.int d2), .val (.int kd), .val (.ref b80), .val (.ref b89), .val (.ref b80), .val (.int (1 : Int32)), .val (.int (own_eq p0 p1 p0 p1)), .unset] [])) _
            refine XS.iload X143.here hx rfl (hb hby at_140) rfl ?_
            show Steps p.tables e below (T143.setTop (mkF m 142 #[.val (.int p0), .val (.int p1), .val (.int p2), .val (.int p3), .val (.int p4), .val (.int c2), .val (.int d2), .val (.int kd), .val (.ref b80), .val (.ref b89), .val (.ref b80), .val (.int (1 : Int32)), .val (.int (own_eq p0 p1 p0 p1)), .unset] [(.int kd)])) _
            refine XS.ifYes X143.here hx rfl (pc0 := 142) (pc' := 165) rfl (hb hby at_142) rfl ((if0 _ _).trans (feq hk0).2) (by decide) (by decide) ?_
            show Steps p.tables e below (T143.setTop (mkF m 165 #[.val (.int p0), .val (.int p1), .val (.int p2), .val (.int p3), .val (.int p4), .val (.int c2), .val (.int d2), .val (.int kd), .val (.ref b80), .val (.ref b89), .val (.ref b80), .val (.int (1 : Int32)), .val (.int (own_eq p0 p1 p0 p1)), .unset] [])) _
            refine XS.iconst X143.here hx rfl (hb hby at_165) ?_
            show Steps p.tables e below (T143.setTop (mkF m 166 #[.val (.int p0), .val (.int p1), .val (.int p2), .val (.int p3), .val (.int p4), .val (.int c2), .val (.int d2), .val (.int kd), .val (.ref b80), .val (.ref b89), .val (.ref b80), .val (.int (1 : Int32)), .val (.int (own_eq p0 p1 p0 p1)), .unset] [(.int (1 : Int32))])) _
            refine XS.istore X143.here hx rfl (hb hby at_166) rfl (l' := #[.val (.int p0), .val (.int p1), .val (.int p2), .val (.int p3), .val (.int p4), .val (.int c2), .val (.int d2), .val (.int kd), .val (.ref b80), .val (.ref b89), .val (.ref b80), .val (.int (1 : Int32)), .val (.int (own_eq p0 p1 p0 p1)), .val (.int (1 : Int32))]) rfl ?_
            show Steps p.tables e below (T143.setTop (mkF m 168 #[.val (.int p0), .val (.int p1), .val (.int p2), .val (.int p3), .val (.int p4), .val (.int c2), .val (.int d2), .val (.int kd), .val (.ref b80), .val (.ref b89), .val (.ref b80), .val (.int (1 : Int32)), .val (.int (own_eq p0 p1 p0 p1)), .val (.int (1 : Int32))] [])) _
            refine XS.iload X143.here hx rfl (hb hby at_168) rfl ?_
            show Steps p.tables e below (T143.setTop (mkF m 170 #[.val (.int p0), .val (.int p1), .val (.int p2), .val (.int p3), .val (.int p4), .val (.int c2), .val (.int d2), .val (.int kd), .val (.ref b80), .val (.ref b89), .val (.ref b80), .val (.int (1 : Int32)), .val (.int (own_eq p0 p1 p0 p1)), .val (.int (1 : Int32))] [(.int (own_eq p0 p1 p0 p1))])) _
            refine XS.iload X143.here hx rfl (hb hby at_170) rfl ?_
            show Steps p.tables e below (T143.setTop (mkF m 172 #[.val (.int p0), .val (.int p1), .val (.int p2), .val (.int p3), .val (.int p4), .val (.int c2), .val (.int d2), .val (.int kd), .val (.ref b80), .val (.ref b89), .val (.ref b80), .val (.int (1 : Int32)), .val (.int (own_eq p0 p1 p0 p1)), .val (.int (1 : Int32))] [(.int (1 : Int32)), (.int (own_eq p0 p1 p0 p1))])) _
            refine XS.icmpNo X143.here hx rfl (hb hby at_172) rfl (teq hb144).2 ?_
            show Steps p.tables e below (T143.setTop (mkF m 175 #[.val (.int p0), .val (.int p1), .val (.int p2), .val (.int p3), .val (.int p4), .val (.int c2), .val (.int d2), .val (.int kd), .val (.ref b80), .val (.ref b89), .val (.ref b80), .val (.int (1 : Int32)), .val (.int (own_eq p0 p1 p0 p1)), .val (.int (1 : Int32))] [])) _
            refine XS.iload X143.here hx rfl (hb hby at_175) rfl ?_
            show Steps p.tables e below (T143.setTop (mkF m 177 #[.val (.int p0), .val (.int p1), .val (.int p2), .val (.int p3), .val (.int p4), .val (.int c2), .val (.int d2), .val (.int kd), .val (.ref b80), .val (.ref b89), .val (.ref b80), .val (.int (1 : Int32)), .val (.int (own_eq p0 p1 p0 p1)), .val (.int (1 : Int32))] [(.int (1 : Int32))])) _
            refine XS.ifNo X143.here hx rfl (hb hby at_177) rfl ((if0 _ _).trans (feq (by decide : ¬ ((1 : Int32) = (0 : Int32)))).1) ?_
            show Steps p.tables e below (T143.setTop (mkF m 180 #[.val (.int p0), .val (.int p1), .val (.int p2), .val (.int p3), .val (.int p4), .val (.int c2), .val (.int d2), .val (.int kd), .val (.ref b80), .val (.ref b89), .val (.ref b80), .val (.int (1 : Int32)), .val (.int (own_eq p0 p1 p0 p1)), .val (.int (1 : Int32))] [])) _
            refine XS.iconst X143.here hx rfl (hb hby at_180) ?_
            show Steps p.tables e below (T143.setTop (mkF m 181 #[.val (.int p0), .val (.int p1), .val (.int p2), .val (.int p3), .val (.int p4), .val (.int c2), .val (.int d2), .val (.int kd), .val (.ref b80), .val (.ref b89), .val (.ref b80), .val (.int (1 : Int32)), .val (.int (own_eq p0 p1 p0 p1)), .val (.int (1 : Int32))] [(.int (1 : Int32))])) _
            refine XS.goto X143.here hx rfl (pc0 := 181) (pc' := 185) rfl (hb hby at_181) (by decide) (by decide) ?_
            exact kk)
        obtain ⟨fs, hr, hrun, hended, hW, hsame⟩ := X143.leave (v := some (.int (1 : Int32))) (fun h => by rw [Bd.returns] at h; cases h)
        refine ⟨_, _, pre145 _ ?_, hrun, hended, _, _, rfl, ?_, ⟨_, rfl⟩, hW, hsame.mono (by decide) (by decide)⟩
        · show Steps p.tables e below (T143.setTop (mkF m 185 #[.val (.int p0), .val (.int p1), .val (.int p2), .val (.int p3), .val (.int p4), .val (.int c2), .val (.int d2), .val (.int kd), .val (.ref b80), .val (.ref b89), .val (.ref b80), .val (.int (1 : Int32)), .val (.int (own_eq p0 p1 p0 p1)), .val (.int (1 : Int32))] [(.int (1 : Int32))])) _
          exact retN X143 hx (t := .boolean) Bd.returns (by simp) (hb hby at_185) hr
        · show Q0 Z p0 p1 p2 p3 p4 wc cl h0 n0 _ T143.heap _
          rw [e143]
          exact ⟨rfl, N143, K104⟩
def own_st (f : Nat → Option Bool) (acc : Option Bool) (i : Nat) : Option Bool := match acc with
  | some true => f i
  | x => x
theorem own_fold {f : Nat → Option Bool} : ∀ (L : List Nat) (acc : Option Bool), L.foldl (own_st f) acc = some true → acc = some true ∧ ∀ i ∈ L, f i = some true
  | [], acc, h => ⟨h, fun _ q => nomatch q⟩
  | i :: L, acc, h => by
    obtain ⟨h1, h2⟩ := own_fold L (own_st f acc i) h
    cases acc with
    | none => exact nomatch h1
    | some b =>
      cases b with
      | false => exact nomatch h1
      | true => exact ⟨rfl, fun j hj => by
          rcases List.mem_cons.mp hj with rfl | hj
          · exact h1
          · exact h2 j hj⟩
theorem own_all {args : Array Value} {s : State} {t : Term} {c : Jvm.Cond} {a : Addr} {cl : Cell} (h : (Cond.all t c).value args s none s [] = some true) (ht : t.eval args s none [] s = some (.ref a)) (ha : s.arrayAt? a = some cl) : ∀ i, i < cl.slots.size → c.value args s none s [i] = some true := by
  intro i hi
  have h' : (List.range cl.slots.size).foldl (own_st fun i => c.value args s none s [i]) (some true) = some true := by
    simp only [Cond.value, ht, ha] at h
    exact h
  exact (own_fold _ _ h').2 i (List.mem_range.mpr hi)
theorem own_ev {args : Array Value} {s : State} {t : Term} {k : Int32} (h : (Cond.eq t (.int k)).value args s none s [] = some true) : t.eval args s none [] s = some (.int k) := by
  cases hv : t.eval args s none [] s with
  | none => simp [Cond.value, hv] at h
  | some v => cases v <;> simp [Cond.value, hv, Term.eval] at h; rw [h]
theorem own_len {args : Array Value} {s : State} {t : Term} {a : Addr} {cl : Cell} {n : Int32} (ht : t.eval args s none [] s = some (.ref a)) (ha : s.arrayAt? a = some cl) (h : (Cond.eq (.length t) (.int n)).value args s none s [] = some true) : cl.slots.size = n.toNatClampNeg := by
  have e := own_ev h
  simp [Term.eval, ht, ha] at e
  obtain ⟨h1, h2⟩ := e
  have e1 : (Nat.toInt32 cl.slots.size).toNatClampNeg = cl.slots.size := by simp only [Int32.toNatClampNeg, len_toInt h1]; rfl
  rw [← e1, h2]

set_option maxRecDepth 65536 in
set_option maxHeartbeats 40000000 in
theorem comes_1 {Post : Tables → Env → Array Value → State → Outcome → State → Prop} (hpost : ∀ tb e args s v u, (limb_1_1.after args s (.returned v) u = true ∧ limb_1_2.after args s (.returned v) u = true ∧ True) → FrameEnd s (.returned v) u (Jvm.fieldLocs frame_1_writes args s ++ Jvm.arrayLocs frame_1_arrays args s ++ Jvm.staticLocs frame_1_statics s) 16 128 → Post tb e args s (.returned v) u) :
    ArmFor flags0 classFile x code maxLocals ret World_1 tables_1 room_1 Calls_1 rest_1 Pre_1 Post := by
  intro l hfl _ _ p e ha hc hk s m args below hf hA hF happ hP
  obtain ⟨hcalls, hrest, hpre⟩ := hP
  obtain ⟨-, -, -, hnamed, -, -, -, hat⟩ := (Spec.applies_iff hf).mp happ
  obtain ⟨hg, hn⟩ := and_e (Cond.before_iff.mp (show (Jvm.Cond.and given_1 narrow_1).before args s = true from hpre))
  obtain ⟨gg146, gg147⟩ := and_e hg
  obtain ⟨gg148, gg149⟩ := and_e gg147
  obtain ⟨gg150, gg151⟩ := and_e gg149
  obtain ⟨gg152, gg153⟩ := and_e gg151
  obtain ⟨gg154, gg155⟩ := and_e gg153
  obtain ⟨w0, w1, w2, w3, w4, rfl⟩ : ∃ w0 w1 w2 w3 w4 : Value, args = #[w0, w1, w2, w3, w4] := by
    have hs : args.size = 5 := by simpa [Cond.value, given_1] using gg146
    obtain ⟨L⟩ := args
    match L, hs with
    | [w0, w1, w2, w3, w4], _ => exact ⟨w0, w1, w2, w3, w4, rfl⟩
  have hw := fun d (hd : d ∈ tables_1) => atoms_spec (ws := Jvm.Cond.code x code maxLocals ret :: tables_1) hat d (List.mem_cons_of_mem _ hd)
  have hfit : Fit s := fun {y c} hc i hi => by
    obtain ⟨ha, rfl⟩ := Array.getElem?_eq_some_iff.mp hc
    have q := List.all_eq_true.mp ((Array.all_eq_true_iff_forall_mem.mp hF) _ (Array.getElem_mem ha)) i (List.mem_range.mpr hi)
    simpa [Array.getElem?_eq_getElem hi] using q
  obtain ⟨hsets, hown0⟩ := atoms_of _ (rest_1_c_eq ▸ (show rest_1_c.before _ s = true from hrest))
  have hr0 := Cond.before_iff.mp hown0
  obtain ⟨i0, ei0⟩ := is_v gg148
  obtain rfl : w0 = (.int i0) := Option.some.inj ei0
  obtain ⟨i1, ei1⟩ := is_v gg150
  obtain rfl : w1 = (.int i1) := Option.some.inj ei1
  obtain ⟨i2, ei2⟩ := is_v gg152
  obtain rfl : w2 = (.int i2) := Option.some.inj ei2
  obtain ⟨i3, ei3⟩ := is_v gg154
  obtain rfl : w3 = (.int i3) := Option.some.inj ei3
  obtain ⟨i4, ei4⟩ := is_v gg155
  obtain rfl : w4 = (.int i4) := Option.some.inj ei4
  have hS0 := fun i (w : Jvm.Cond) (hi : jdkStatics_1[i]? = some w) => Cond.before_iff.mp (hsets w (List.mem_of_getElem? hi))
  have e3 := hS0 3 _ rfl
  obtain ⟨wc, ec⟩ := arr_v (hS0 4 _ rfl)
  have hSh : Sta s s.heap "java/lang/Integer$IntegerCache" "high" "I" (.int (127 : Int32)) := Sta.start (own_ev e3) (Or.inl (hsets _ (List.mem_of_getElem? (i := 1) rfl)))
  have hSc : Sta s s.heap "java/lang/Integer$IntegerCache" "cache" "[Ljava/lang/Integer;" (.ref wc) := Sta.start ec (Or.inr ⟨hw _ (List.mem_of_getElem? (i := 25) rfl), hsets _ (List.mem_of_getElem? (i := 2) rfl)⟩)
  obtain ⟨cl, hAr⟩ := Arr.start ec (hS0 4 _ rfl)
  have haa : s.arrayAt? wc = some cl := Arr.fin (State.Warmed39.refl s).alike hAr
  have hsz : cl.slots.size = 256 := own_len ec haa (hS0 6 _ rfl)
  have hel : ∀ j : Int32, ¬ j < 0 → j < 256 → ∃ r : Addr, cl.slots[j.toNatClampNeg]? = some (.ref r) ∧ Exa s s.heap r "java/lang/Integer" := by
    intro j h1 h2
    have hin : j.toNatClampNeg < cl.slots.size := Nat.lt_of_not_le fun q => (own_inb hsz ⟨h1, h2⟩) (Or.inr q)
    obtain ⟨q1, -⟩ := and_e (own_all (hS0 7 _ rfl) ec haa j.toNatClampNeg hin)
    obtain ⟨r, er⟩ := exa_v q1
    refine ⟨r, ?_, exa_at er q1⟩
    rw [elem_f (idx := [j.toNatClampNeg]) (show Term.eval _ s none [j.toNatClampNeg] s (.static "java/lang/Integer$IntegerCache" "cache" "[Ljava/lang/Integer;") = some (.ref wc) from ec) (idx_at h1) haa h1] at er
    exact er
  obtain ⟨n, o, h1, h2, h3, _, L, rfl, ⟨rfl, N, -⟩, hq⟩ := rm0 l s _ hw tables_1 i0 i1 i2 i3 i4 wc cl s.heap s.heap.size (Nat.le_refl _) (Old.start s) hSh hSc hAr hsz hel p e ha hc hk s m _ below hf ((Spec.applies_iff_loose hf).mp happ).1 ⟨rfl, State.Warmed39.refl s, rfl⟩ trivial
  refine ⟨n, _, h1, h2, h3, hpost _ _ _ _ _ _ ⟨Cond.after_iff.mpr rfl, Cond.after_iff.mpr (eq_i res_at (Term.int_eval (1)) rfl), trivial⟩ ⟨hq.1, hq.2.1, (hq.2.2.sift fun y hy => Or.inr (N y hy)).mono (by decide) (by decide)⟩⟩
theorem main_1_1 : Claimed_1_1 := comes_1 fun _ _ _ _ _ _ h hF => ⟨h.1, hF⟩
theorem main_1_2 : Claimed_1_2 := comes_1 fun _ _ _ _ _ _ h hF => ⟨h.2.1, hF⟩
end Jvm.Pilot.@@N@@
namespace Jvm.Pilot.@@N@@
open Jvm Jvm.ClassFile Sem Op Lib Jvm.Free Jvm.Stand Jvm.Pilot.@@N@@.Jvm.D
/-! MADE BY PROGRAM (witnessworld.py) out of the Statement's table words and the real class files: 16 classes; the members and pool entries that the words name. The judged class is class 1, her method 1. -/
namespace start1
open Jvm.ClassFile
def u (s : String) : CpInfo := .utf8 (stringToUtf16 s)
/-- a pool by its gaps: so many unusable entries, then the entry; so many at the end -/
def gap : Nat → List CpInfo → List CpInfo
  | 0, r => r
  | n + 1, r => .unusable :: gap n r
def poolList (es : List (Nat × CpInfo)) (last : Nat) : List CpInfo := es.foldr (fun e r => gap e.1 (e.2 :: r)) (gap last [])
def pool (es : List (Nat × CpInfo)) (last : Nat) : Array CpInfo := ⟨poolList es last⟩
def fileOf (pool : Array CpInfo) (this : Nat) (attrs : Array Attribute := #[]) (ms : Array MethodInfo := #[]) (fl : Nat := 33) (sup : Nat := 0) (ifs : Array Nat := #[]) (fds : Array FieldInfo := #[]) : ClassFile where
  minorVersion := 0
  majorVersion := 65
  constantPool := pool
  accessFlags := fl
  thisClass := this
  superClass := sup
  interfaces := ifs
  fields := fds
  methods := ms
  attributes := attrs
def plain (name : String) (sup : Option ClassId) : Class where
  name := name
  kind := .ordinary
  loader := none
  accessFlags := 33
  super := sup
  interfaces := #[]
  cf := none
  fields := #[]
  methods := #[]
  instanceTypes := #[]
  staticTypes := #[]
  resolved := #[]
  callSites := []
  init := .initialized
  statics := none
  mirror := none

def pool0 : Array CpInfo := pool [(5, u "<init>"), (0, u "()V"), (1, .class_ 10), (1, u "java/lang/Object")] 113

def k0c0 : Code := { maxStack := 0, maxLocals := 1, code := object_method_1_code, exceptionTable := #[], attributes := #[] }
def k0m0 : Method := { name := "<init>", desc := "()V", sig := { parameters := [], returnType := none }, accessFlags := 1, code := some k0c0 }
/-- java/lang/Object -/
def k0 : Class := { plain "java/lang/Object" none with
  accessFlags := 33
  interfaces := #[]
  cf := some (fileOf pool0 8 #[] #[{ accessFlags := 1, nameIndex := 5, descriptorIndex := 6, attributes := #[] }] 33 0 #[] #[])
  fields := #[]
  methods := #[k0m0]
  instanceTypes := #[]
  staticTypes := #[]
  resolved := Array.replicate 124 none
  statics := none }

def pool1 : Array CpInfo := pool [(2, .class_ 4), (1, u "java/lang/Object"), (0, u "<init>"), (0, u "()V"), (0, .class_ 8), (0, u "com/example/deodar/deodar/AclChange"), (0, .methodref 7 10), (0, .nameAndType 5 11), (0, u "(II)V"), (0, .methodref 13 14), (0, .class_ 15), (0, .nameAndType 16 17), (0, u "java/lang/Integer"), (0, u "valueOf"), (0, u "(I)Ljava/lang/Integer;"), (0, .methodref 7 19), (0, .nameAndType 20 21), (0, u "equals"), (0, u "(Ljava/lang/Object;)Z"), (0, .class_ 23), (0, u "com/example/deodar/deodar/AclChangeEqualsPinLaw"), (2, u "law"), (0, u "(IIIII)Z")] 3

def k1m0 : Method := { name := "<init>", desc := "()V", sig := { parameters := [], returnType := none }, accessFlags := 1, code := none }
def k1c1 : Code := { maxStack := 4, maxLocals := 14, code := code, exceptionTable := #[], attributes := #[] }
def k1m1 : Method := { name := "law", desc := "(IIIII)Z", sig := { parameters := [.int, .int, .int, .int, .int], returnType := some .boolean }, accessFlags := 9, code := some k1c1 }
/-- com/example/deodar/deodar/AclChangeEqualsPinLaw -/
def k1 : Class := { plain "com/example/deodar/deodar/AclChangeEqualsPinLaw" (some 0) with
  accessFlags := 49
  interfaces := #[]
  cf := some (fileOf pool1 22 #[] #[{ accessFlags := 1, nameIndex := 5, descriptorIndex := 6, attributes := #[] }, { accessFlags := 9, nameIndex := 26, descriptorIndex := 27, attributes := #[] }] 49 2 #[] #[])
  fields := #[]
  methods := #[k1m0, k1m1]
  instanceTypes := #[]
  staticTypes := #[]
  resolved := Array.replicate 31 none
  statics := none }

def pool2 : Array CpInfo := pool [(1, .methodref 2 3), (0, .class_ 4), (0, .nameAndType 5 6), (0, u "java/lang/Object"), (0, u "<init>"), (0, u "()V"), (0, .fieldref 8 9), (0, .class_ 10), (0, .nameAndType 11 12), (0, u "com/example/deodar/deodar/AclChange"), (0, u "aclsWritten"), (0, u "I"), (0, .fieldref 8 14), (0, .nameAndType 15 12), (0, u "nodesRepointed"), (2, u "(II)V"), (9, u "equals"), (0, u "(Ljava/lang/Object;)Z")] 21

def k2c0 : Code := { maxStack := 2, maxLocals := 3, code := prog_2_method_1_code, exceptionTable := #[], attributes := #[] }
def k2m0 : Method := { name := "<init>", desc := "(II)V", sig := { parameters := [.int, .int], returnType := none }, accessFlags := 0, code := some k2c0 }
def k2c1 : Code := { maxStack := 2, maxLocals := 3, code := prog_2_method_5_code, exceptionTable := #[], attributes := #[] }
def k2m1 : Method := { name := "equals", desc := "(Ljava/lang/Object;)Z", sig := { parameters := [(.object "java/lang/Object")], returnType := some .boolean }, accessFlags := 1, code := some k2c1 }
/-- com/example/deodar/deodar/AclChange -/
def k2 : Class := { plain "com/example/deodar/deodar/AclChange" (some 0) with
  accessFlags := 33
  interfaces := #[]
  cf := some (fileOf pool2 8 #[] #[{ accessFlags := 0, nameIndex := 5, descriptorIndex := 18, attributes := #[] }, { accessFlags := 1, nameIndex := 28, descriptorIndex := 29, attributes := #[] }] 33 2 #[] #[{ accessFlags := 18, nameIndex := 11, descriptorIndex := 12, attributes := #[] }, { accessFlags := 18, nameIndex := 15, descriptorIndex := 12, attributes := #[] }])
  fields := #[{ name := "aclsWritten", type := .int, accessFlags := 18, slot := 0, constantValue := 0 }, { name := "nodesRepointed", type := .int, accessFlags := 18, slot := 1, constantValue := 0 }]
  methods := #[k2m0, k2m1]
  instanceTypes := #[.int, .int]
  staticTypes := #[]
  resolved := Array.replicate 51 none
  statics := none }

def pool3 : Array CpInfo := pool [(1, .class_ 2), (0, u "java/io/Serializable"), (0, .class_ 4), (0, u "java/lang/Object")] 2

/-- java/io/Serializable -/
def k3 : Class := { plain "java/io/Serializable" (some 0) with
  accessFlags := 1537
  interfaces := #[]
  cf := some (fileOf pool3 1 #[] #[] 1537 3 #[] #[])
  fields := #[]
  methods := #[]
  instanceTypes := #[]
  staticTypes := #[]
  resolved := Array.replicate 7 none
  statics := none }

def pool4 : Array CpInfo := pool [(1, .methodref 2 3), (0, .class_ 4), (0, .nameAndType 5 6), (0, u "java/lang/Object"), (0, u "<init>"), (0, u "()V"), (1, .class_ 10), (1, u "java/lang/Number"), (2, .class_ 14), (0, u "java/io/Serializable"), (0, u "serialVersionUID"), (0, u "J")] 20

def k4c0 : Code := { maxStack := 1, maxLocals := 1, code := jdk_18_method_1_code, exceptionTable := #[], attributes := #[] }
def k4m0 : Method := { name := "<init>", desc := "()V", sig := { parameters := [], returnType := none }, accessFlags := 1, code := some k4c0 }
/-- java/lang/Number -/
def k4 : Class := { plain "java/lang/Number" (some 0) with
  accessFlags := 1057
  interfaces := #[3]
  cf := some (fileOf pool4 8 #[] #[{ accessFlags := 1, nameIndex := 5, descriptorIndex := 6, attributes := #[] }] 1057 2 #[13] #[{ accessFlags := 26, nameIndex := 15, descriptorIndex := 16, attributes := #[] }])
  fields := #[{ name := "serialVersionUID", type := .long, accessFlags := 26, slot := 0, constantValue := 0 }]
  methods := #[k4m0]
  instanceTypes := #[]
  staticTypes := #[.long]
  resolved := Array.replicate 37 none
  statics := none }

def pool5 : Array CpInfo := pool [(1, .class_ 2), (0, u "java/lang/Comparable"), (0, .class_ 4), (0, u "java/lang/Object")] 7

/-- java/lang/Comparable -/
def k5 : Class := { plain "java/lang/Comparable" (some 0) with
  accessFlags := 1537
  interfaces := #[]
  cf := some (fileOf pool5 1 #[] #[] 1537 3 #[] #[])
  fields := #[]
  methods := #[]
  instanceTypes := #[]
  staticTypes := #[]
  resolved := Array.replicate 12 none
  statics := none }

def pool6 : Array CpInfo := pool [(1, .class_ 2), (0, u "java/lang/constant/Constable"), (0, .class_ 4), (0, u "java/lang/Object")] 6

/-- java/lang/constant/Constable -/
def k6 : Class := { plain "java/lang/constant/Constable" (some 0) with
  accessFlags := 1537
  interfaces := #[]
  cf := some (fileOf pool6 1 #[] #[] 1537 3 #[] #[])
  fields := #[]
  methods := #[]
  instanceTypes := #[]
  staticTypes := #[]
  resolved := Array.replicate 11 none
  statics := none }

def pool7 : Array CpInfo := pool [(1, .class_ 2), (0, u "java/lang/constant/ConstantDesc"), (0, .class_ 4), (0, u "java/lang/Object")] 32

/-- java/lang/constant/ConstantDesc -/
def k7 : Class := { plain "java/lang/constant/ConstantDesc" (some 0) with
  accessFlags := 1537
  interfaces := #[]
  cf := some (fileOf pool7 1 #[] #[] 1537 3 #[] #[])
  fields := #[]
  methods := #[]
  instanceTypes := #[]
  staticTypes := #[]
  resolved := Array.replicate 37 none
  statics := none }

def pool8 : Array CpInfo := pool [(1, .class_ 2), (0, u "java/lang/Integer"), (16, u "digits"), (0, u "[C"), (46, u "<init>"), (17, u "DigitOnes"), (0, u "[B"), (2, u "DigitTens"), (10, .nameAndType 67 101), (0, u "()V"), (85, u "valueOf"), (0, u "(I)Ljava/lang/Integer;"), (0, .class_ 190), (0, u "java/lang/Integer$IntegerCache"), (0, .fieldref 189 192), (0, .nameAndType 193 194), (0, u "high"), (0, u "I"), (0, .fieldref 189 196), (0, .nameAndType 197 198), (0, u "cache"), (0, u "[Ljava/lang/Integer;"), (0, .methodref 1 200), (0, .nameAndType 67 201), (0, u "(I)V"), (0, .methodref 203 100), (0, .class_ 204), (0, u "java/lang/Number"), (0, .fieldref 1 206), (0, .nameAndType 207 194), (0, u "value"), (94, u "TYPE"), (0, u "Ljava/lang/Class;"), (0, .class_ 305), (0, u "java/lang/Comparable"), (0, .class_ 307), (0, u "java/lang/constant/Constable"), (0, .class_ 309), (0, u "java/lang/constant/ConstantDesc"), (0, u "MIN_VALUE"), (1, u "MAX_VALUE"), (3, u "SIZE"), (1, u "BYTES"), (1, u "serialVersionUID"), (0, u "J")] 131

def k8c0 : Code := { maxStack := 3, maxLocals := 1, code := jdk_33_method_22_code, exceptionTable := #[], attributes := #[] }
def k8m0 : Method := { name := "valueOf", desc := "(I)Ljava/lang/Integer;", sig := { parameters := [.int], returnType := some (.object "java/lang/Integer") }, accessFlags := 9, code := some k8c0 }
def k8c1 : Code := { maxStack := 2, maxLocals := 2, code := jdk_33_method_23_code, exceptionTable := #[], attributes := #[] }
def k8m1 : Method := { name := "<init>", desc := "(I)V", sig := { parameters := [.int], returnType := none }, accessFlags := 1, code := some k8c1 }
/-- java/lang/Integer -/
def k8 : Class := { plain "java/lang/Integer" (some 4) with
  accessFlags := 49
  interfaces := #[5, 6, 7]
  cf := some (fileOf pool8 1 #[.nestMembers #[189]] #[{ accessFlags := 9, nameIndex := 187, descriptorIndex := 188, attributes := #[] }, { accessFlags := 1, nameIndex := 67, descriptorIndex := 201, attributes := #[] }] 49 203 #[304, 306, 308] #[{ accessFlags := 25, nameIndex := 310, descriptorIndex := 194, attributes := #[] }, { accessFlags := 25, nameIndex := 312, descriptorIndex := 194, attributes := #[] }, { accessFlags := 25, nameIndex := 302, descriptorIndex := 303, attributes := #[] }, { accessFlags := 24, nameIndex := 19, descriptorIndex := 20, attributes := #[] }, { accessFlags := 24, nameIndex := 89, descriptorIndex := 86, attributes := #[] }, { accessFlags := 24, nameIndex := 85, descriptorIndex := 86, attributes := #[] }, { accessFlags := 18, nameIndex := 207, descriptorIndex := 194, attributes := #[] }, { accessFlags := 25, nameIndex := 316, descriptorIndex := 194, attributes := #[] }, { accessFlags := 25, nameIndex := 318, descriptorIndex := 194, attributes := #[] }, { accessFlags := 26, nameIndex := 320, descriptorIndex := 321, attributes := #[] }])
  fields := #[{ name := "MIN_VALUE", type := .int, accessFlags := 25, slot := 0, constantValue := 0 }, { name := "MAX_VALUE", type := .int, accessFlags := 25, slot := 1, constantValue := 0 }, { name := "TYPE", type := (.object "java/lang/Class"), accessFlags := 25, slot := 2, constantValue := 0 }, { name := "digits", type := (.array .char), accessFlags := 24, slot := 3, constantValue := 0 }, { name := "DigitTens", type := (.array .byte), accessFlags := 24, slot := 4, constantValue := 0 }, { name := "DigitOnes", type := (.array .byte), accessFlags := 24, slot := 5, constantValue := 0 }, { name := "value", type := .int, accessFlags := 18, slot := 0, constantValue := 0 }, { name := "SIZE", type := .int, accessFlags := 25, slot := 6, constantValue := 0 }, { name := "BYTES", type := .int, accessFlags := 25, slot := 7, constantValue := 0 }, { name := "serialVersionUID", type := .long, accessFlags := 26, slot := 8, constantValue := 0 }]
  methods := #[k8m0, k8m1]
  instanceTypes := #[.int]
  staticTypes := #[.int, .int, (.object "java/lang/Class"), (.array .char), (.array .byte), (.array .byte), .int, .int, .long]
  resolved := Array.replicate 453 none
  statics := none }

def pool9 : Array CpInfo := pool [(2, .class_ 4), (1, u "java/lang/Object"), (0, u "<init>"), (0, u "()V"), (0, .class_ 8), (0, u "java/lang/Integer"), (7, .class_ 18), (1, u "java/lang/Integer$IntegerCache"), (0, u "$assertionsDisabled"), (0, u "Z"), (26, u "high"), (0, u "I"), (8, u "archivedCache"), (0, u "[Ljava/lang/Integer;"), (12, u "cache"), (0, u "low")] 27

def k9m0 : Method := { name := "<init>", desc := "()V", sig := { parameters := [], returnType := none }, accessFlags := 2, code := none }
/-- java/lang/Integer$IntegerCache -/
def k9 : Class := { plain "java/lang/Integer$IntegerCache" (some 0) with
  accessFlags := 48
  interfaces := #[]
  cf := some (fileOf pool9 16 #[.nestHost 7] #[{ accessFlags := 2, nameIndex := 5, descriptorIndex := 6, attributes := #[] }] 48 2 #[] #[{ accessFlags := 24, nameIndex := 72, descriptorIndex := 48, attributes := #[] }, { accessFlags := 24, nameIndex := 47, descriptorIndex := 48, attributes := #[] }, { accessFlags := 24, nameIndex := 71, descriptorIndex := 58, attributes := #[] }, { accessFlags := 8, nameIndex := 57, descriptorIndex := 58, attributes := #[] }, { accessFlags := 4120, nameIndex := 19, descriptorIndex := 20, attributes := #[] }])
  fields := #[{ name := "low", type := .int, accessFlags := 24, slot := 0, constantValue := 0 }, { name := "high", type := .int, accessFlags := 24, slot := 1, constantValue := 0 }, { name := "cache", type := (.array (.object "java/lang/Integer")), accessFlags := 24, slot := 2, constantValue := 0 }, { name := "archivedCache", type := (.array (.object "java/lang/Integer")), accessFlags := 8, slot := 3, constantValue := 0 }, { name := "$assertionsDisabled", type := .boolean, accessFlags := 4120, slot := 4, constantValue := 0 }]
  methods := #[k9m0]
  instanceTypes := #[]
  staticTypes := #[.int, .int, (.array (.object "java/lang/Integer")), (.array (.object "java/lang/Integer")), .boolean]
  resolved := Array.replicate 100 none
  statics := some 0 }

def pool10 : Array CpInfo := pool [(1, u "java/lang/Cloneable"), (0, .class_ 1), (0, u "java/lang/Object"), (0, .class_ 3)] 3

/-- java/lang/Cloneable -/
def k10 : Class := { plain "java/lang/Cloneable" (some 0) with
  accessFlags := 1537
  interfaces := #[]
  cf := some (fileOf pool10 2 #[] #[] 1537 4 #[] #[])
  fields := #[]
  methods := #[]
  instanceTypes := #[]
  staticTypes := #[]
  resolved := Array.replicate 8 none
  statics := none }

/-- the primitive byte -/
def k11 : Class := { plain "byte" none with kind := .primitive 'B', accessFlags := 0x411 }
/-- [B -/
def k12 : Class := { plain "[B" (some 0) with kind := .array 11 .byte, interfaces := #[10, 3], accessFlags := 1041 }

/-- the primitive int -/
def k13 : Class := { plain "int" none with kind := .primitive 'I', accessFlags := 0x411 }
/-- [I -/
def k14 : Class := { plain "[I" (some 0) with kind := .array 13 .int, interfaces := #[10, 3], accessFlags := 1041 }

/-- [Ljava/lang/Integer; -/
def k15 : Class := { plain "[Ljava/lang/Integer;" (some 0) with kind := .array 8 (.object "java/lang/Integer"), interfaces := #[10, 3], accessFlags := 1041 }

def heap : Heap := #[{ cls := 9, slots := #[.int 0, .int 127, .ref 1, .null, .int 0], vm := .statics 9 },
  { cls := 15, slots := #[.ref 2, .ref 3, .ref 4, .ref 5, .ref 6, .ref 7, .ref 8, .ref 9, .ref 10, .ref 11, .ref 12, .ref 13, .ref 14, .ref 15, .ref 16, .ref 17, .ref 18, .ref 19, .ref 20, .ref 21, .ref 22, .ref 23, .ref 24, .ref 25, .ref 26, .ref 27, .ref 28, .ref 29, .ref 30, .ref 31, .ref 32, .ref 33, .ref 34, .ref 35, .ref 36, .ref 37, .ref 38, .ref 39, .ref 40, .ref 41, .ref 42, .ref 43, .ref 44, .ref 45, .ref 46, .ref 47, .ref 48, .ref 49, .ref 50, .ref 51, .ref 52, .ref 53, .ref 54, .ref 55, .ref 56, .ref 57, .ref 58, .ref 59, .ref 60, .ref 61, .ref 62, .ref 63, .ref 64, .ref 65, .ref 66, .ref 67, .ref 68, .ref 69, .ref 70, .ref 71, .ref 72, .ref 73, .ref 74, .ref 75, .ref 76, .ref 77, .ref 78, .ref 79, .ref 80, .ref 81, .ref 82, .ref 83, .ref 84, .ref 85, .ref 86, .ref 87, .ref 88, .ref 89, .ref 90, .ref 91, .ref 92, .ref 93, .ref 94, .ref 95, .ref 96, .ref 97, .ref 98, .ref 99, .ref 100, .ref 101, .ref 102, .ref 103, .ref 104, .ref 105, .ref 106, .ref 107, .ref 108, .ref 109, .ref 110, .ref 111, .ref 112, .ref 113, .ref 114, .ref 115, .ref 116, .ref 117, .ref 118, .ref 119, .ref 120, .ref 121, .ref 122, .ref 123, .ref 124, .ref 125, .ref 126, .ref 127, .ref 128, .ref 129, .ref 130, .ref 131, .ref 132, .ref 133, .ref 134, .ref 135, .ref 136, .ref 137, .ref 138, .ref 139, .ref 140, .ref 141, .ref 142, .ref 143, .ref 144, .ref 145, .ref 146, .ref 147, .ref 148, .ref 149, .ref 150, .ref 151, .ref 152, .ref 153, .ref 154, .ref 155, .ref 156, .ref 157, .ref 158, .ref 159, .ref 160, .ref 161, .ref 162, .ref 163, .ref 164, .ref 165, .ref 166, .ref 167, .ref 168, .ref 169, .ref 170, .ref 171, .ref 172, .ref 173, .ref 174, .ref 175, .ref 176, .ref 177, .ref 178, .ref 179, .ref 180, .ref 181, .ref 182, .ref 183, .ref 184, .ref 185, .ref 186, .ref 187, .ref 188, .ref 189, .ref 190, .ref 191, .ref 192, .ref 193, .ref 194, .ref 195, .ref 196, .ref 197, .ref 198, .ref 199, .ref 200, .ref 201, .ref 202, .ref 203, .ref 204, .ref 205, .ref 206, .ref 207, .ref 208, .ref 209, .ref 210, .ref 211, .ref 212, .ref 213, .ref 214, .ref 215, .ref 216, .ref 217, .ref 218, .ref 219, .ref 220, .ref 221, .ref 222, .ref 223, .ref 224, .ref 225, .ref 226, .ref 227, .ref 228, .ref 229, .ref 230, .ref 231, .ref 232, .ref 233, .ref 234, .ref 235, .ref 236, .ref 237, .ref 238, .ref 239, .ref 240, .ref 241, .ref 242, .ref 243, .ref 244, .ref 245, .ref 246, .ref 247, .ref 248, .ref 249, .ref 250, .ref 251, .ref 252, .ref 253, .ref 254, .ref 255, .ref 256, .ref 257], vm := .none },
  { cls := 8, slots := #[.int (-128)], vm := .none },
  { cls := 8, slots := #[.int (-127)], vm := .none },
  { cls := 8, slots := #[.int (-126)], vm := .none },
  { cls := 8, slots := #[.int (-125)], vm := .none },
  { cls := 8, slots := #[.int (-124)], vm := .none },
  { cls := 8, slots := #[.int (-123)], vm := .none },
  { cls := 8, slots := #[.int (-122)], vm := .none },
  { cls := 8, slots := #[.int (-121)], vm := .none },
  { cls := 8, slots := #[.int (-120)], vm := .none },
  { cls := 8, slots := #[.int (-119)], vm := .none },
  { cls := 8, slots := #[.int (-118)], vm := .none },
  { cls := 8, slots := #[.int (-117)], vm := .none },
  { cls := 8, slots := #[.int (-116)], vm := .none },
  { cls := 8, slots := #[.int (-115)], vm := .none },
  { cls := 8, slots := #[.int (-114)], vm := .none },
  { cls := 8, slots := #[.int (-113)], vm := .none },
  { cls := 8, slots := #[.int (-112)], vm := .none },
  { cls := 8, slots := #[.int (-111)], vm := .none },
  { cls := 8, slots := #[.int (-110)], vm := .none },
  { cls := 8, slots := #[.int (-109)], vm := .none },
  { cls := 8, slots := #[.int (-108)], vm := .none },
  { cls := 8, slots := #[.int (-107)], vm := .none },
  { cls := 8, slots := #[.int (-106)], vm := .none },
  { cls := 8, slots := #[.int (-105)], vm := .none },
  { cls := 8, slots := #[.int (-104)], vm := .none },
  { cls := 8, slots := #[.int (-103)], vm := .none },
  { cls := 8, slots := #[.int (-102)], vm := .none },
  { cls := 8, slots := #[.int (-101)], vm := .none },
  { cls := 8, slots := #[.int (-100)], vm := .none },
  { cls := 8, slots := #[.int (-99)], vm := .none },
  { cls := 8, slots := #[.int (-98)], vm := .none },
  { cls := 8, slots := #[.int (-97)], vm := .none },
  { cls := 8, slots := #[.int (-96)], vm := .none },
  { cls := 8, slots := #[.int (-95)], vm := .none },
  { cls := 8, slots := #[.int (-94)], vm := .none },
  { cls := 8, slots := #[.int (-93)], vm := .none },
  { cls := 8, slots := #[.int (-92)], vm := .none },
  { cls := 8, slots := #[.int (-91)], vm := .none },
  { cls := 8, slots := #[.int (-90)], vm := .none },
  { cls := 8, slots := #[.int (-89)], vm := .none },
  { cls := 8, slots := #[.int (-88)], vm := .none },
  { cls := 8, slots := #[.int (-87)], vm := .none },
  { cls := 8, slots := #[.int (-86)], vm := .none },
  { cls := 8, slots := #[.int (-85)], vm := .none },
  { cls := 8, slots := #[.int (-84)], vm := .none },
  { cls := 8, slots := #[.int (-83)], vm := .none },
  { cls := 8, slots := #[.int (-82)], vm := .none },
  { cls := 8, slots := #[.int (-81)], vm := .none },
  { cls := 8, slots := #[.int (-80)], vm := .none },
  { cls := 8, slots := #[.int (-79)], vm := .none },
  { cls := 8, slots := #[.int (-78)], vm := .none },
  { cls := 8, slots := #[.int (-77)], vm := .none },
  { cls := 8, slots := #[.int (-76)], vm := .none },
  { cls := 8, slots := #[.int (-75)], vm := .none },
  { cls := 8, slots := #[.int (-74)], vm := .none },
  { cls := 8, slots := #[.int (-73)], vm := .none },
  { cls := 8, slots := #[.int (-72)], vm := .none },
  { cls := 8, slots := #[.int (-71)], vm := .none },
  { cls := 8, slots := #[.int (-70)], vm := .none },
  { cls := 8, slots := #[.int (-69)], vm := .none },
  { cls := 8, slots := #[.int (-68)], vm := .none },
  { cls := 8, slots := #[.int (-67)], vm := .none },
  { cls := 8, slots := #[.int (-66)], vm := .none },
  { cls := 8, slots := #[.int (-65)], vm := .none },
  { cls := 8, slots := #[.int (-64)], vm := .none },
  { cls := 8, slots := #[.int (-63)], vm := .none },
  { cls := 8, slots := #[.int (-62)], vm := .none },
  { cls := 8, slots := #[.int (-61)], vm := .none },
  { cls := 8, slots := #[.int (-60)], vm := .none },
  { cls := 8, slots := #[.int (-59)], vm := .none },
  { cls := 8, slots := #[.int (-58)], vm := .none },
  { cls := 8, slots := #[.int (-57)], vm := .none },
  { cls := 8, slots := #[.int (-56)], vm := .none },
  { cls := 8, slots := #[.int (-55)], vm := .none },
  { cls := 8, slots := #[.int (-54)], vm := .none },
  { cls := 8, slots := #[.int (-53)], vm := .none },
  { cls := 8, slots := #[.int (-52)], vm := .none },
  { cls := 8, slots := #[.int (-51)], vm := .none },
  { cls := 8, slots := #[.int (-50)], vm := .none },
  { cls := 8, slots := #[.int (-49)], vm := .none },
  { cls := 8, slots := #[.int (-48)], vm := .none },
  { cls := 8, slots := #[.int (-47)], vm := .none },
  { cls := 8, slots := #[.int (-46)], vm := .none },
  { cls := 8, slots := #[.int (-45)], vm := .none },
  { cls := 8, slots := #[.int (-44)], vm := .none },
  { cls := 8, slots := #[.int (-43)], vm := .none },
  { cls := 8, slots := #[.int (-42)], vm := .none },
  { cls := 8, slots := #[.int (-41)], vm := .none },
  { cls := 8, slots := #[.int (-40)], vm := .none },
  { cls := 8, slots := #[.int (-39)], vm := .none },
  { cls := 8, slots := #[.int (-38)], vm := .none },
  { cls := 8, slots := #[.int (-37)], vm := .none },
  { cls := 8, slots := #[.int (-36)], vm := .none },
  { cls := 8, slots := #[.int (-35)], vm := .none },
  { cls := 8, slots := #[.int (-34)], vm := .none },
  { cls := 8, slots := #[.int (-33)], vm := .none },
  { cls := 8, slots := #[.int (-32)], vm := .none },
  { cls := 8, slots := #[.int (-31)], vm := .none },
  { cls := 8, slots := #[.int (-30)], vm := .none },
  { cls := 8, slots := #[.int (-29)], vm := .none },
  { cls := 8, slots := #[.int (-28)], vm := .none },
  { cls := 8, slots := #[.int (-27)], vm := .none },
  { cls := 8, slots := #[.int (-26)], vm := .none },
  { cls := 8, slots := #[.int (-25)], vm := .none },
  { cls := 8, slots := #[.int (-24)], vm := .none },
  { cls := 8, slots := #[.int (-23)], vm := .none },
  { cls := 8, slots := #[.int (-22)], vm := .none },
  { cls := 8, slots := #[.int (-21)], vm := .none },
  { cls := 8, slots := #[.int (-20)], vm := .none },
  { cls := 8, slots := #[.int (-19)], vm := .none },
  { cls := 8, slots := #[.int (-18)], vm := .none },
  { cls := 8, slots := #[.int (-17)], vm := .none },
  { cls := 8, slots := #[.int (-16)], vm := .none },
  { cls := 8, slots := #[.int (-15)], vm := .none },
  { cls := 8, slots := #[.int (-14)], vm := .none },
  { cls := 8, slots := #[.int (-13)], vm := .none },
  { cls := 8, slots := #[.int (-12)], vm := .none },
  { cls := 8, slots := #[.int (-11)], vm := .none },
  { cls := 8, slots := #[.int (-10)], vm := .none },
  { cls := 8, slots := #[.int (-9)], vm := .none },
  { cls := 8, slots := #[.int (-8)], vm := .none },
  { cls := 8, slots := #[.int (-7)], vm := .none },
  { cls := 8, slots := #[.int (-6)], vm := .none },
  { cls := 8, slots := #[.int (-5)], vm := .none },
  { cls := 8, slots := #[.int (-4)], vm := .none },
  { cls := 8, slots := #[.int (-3)], vm := .none },
  { cls := 8, slots := #[.int (-2)], vm := .none },
  { cls := 8, slots := #[.int (-1)], vm := .none },
  { cls := 8, slots := #[.int 0], vm := .none },
  { cls := 8, slots := #[.int 1], vm := .none },
  { cls := 8, slots := #[.int 2], vm := .none },
  { cls := 8, slots := #[.int 3], vm := .none },
  { cls := 8, slots := #[.int 4], vm := .none },
  { cls := 8, slots := #[.int 5], vm := .none },
  { cls := 8, slots := #[.int 6], vm := .none },
  { cls := 8, slots := #[.int 7], vm := .none },
  { cls := 8, slots := #[.int 8], vm := .none },
  { cls := 8, slots := #[.int 9], vm := .none },
  { cls := 8, slots := #[.int 10], vm := .none },
  { cls := 8, slots := #[.int 11], vm := .none },
  { cls := 8, slots := #[.int 12], vm := .none },
  { cls := 8, slots := #[.int 13], vm := .none },
  { cls := 8, slots := #[.int 14], vm := .none },
  { cls := 8, slots := #[.int 15], vm := .none },
  { cls := 8, slots := #[.int 16], vm := .none },
  { cls := 8, slots := #[.int 17], vm := .none },
  { cls := 8, slots := #[.int 18], vm := .none },
  { cls := 8, slots := #[.int 19], vm := .none },
  { cls := 8, slots := #[.int 20], vm := .none },
  { cls := 8, slots := #[.int 21], vm := .none },
  { cls := 8, slots := #[.int 22], vm := .none },
  { cls := 8, slots := #[.int 23], vm := .none },
  { cls := 8, slots := #[.int 24], vm := .none },
  { cls := 8, slots := #[.int 25], vm := .none },
  { cls := 8, slots := #[.int 26], vm := .none },
  { cls := 8, slots := #[.int 27], vm := .none },
  { cls := 8, slots := #[.int 28], vm := .none },
  { cls := 8, slots := #[.int 29], vm := .none },
  { cls := 8, slots := #[.int 30], vm := .none },
  { cls := 8, slots := #[.int 31], vm := .none },
  { cls := 8, slots := #[.int 32], vm := .none },
  { cls := 8, slots := #[.int 33], vm := .none },
  { cls := 8, slots := #[.int 34], vm := .none },
  { cls := 8, slots := #[.int 35], vm := .none },
  { cls := 8, slots := #[.int 36], vm := .none },
  { cls := 8, slots := #[.int 37], vm := .none },
  { cls := 8, slots := #[.int 38], vm := .none },
  { cls := 8, slots := #[.int 39], vm := .none },
  { cls := 8, slots := #[.int 40], vm := .none },
  { cls := 8, slots := #[.int 41], vm := .none },
  { cls := 8, slots := #[.int 42], vm := .none },
  { cls := 8, slots := #[.int 43], vm := .none },
  { cls := 8, slots := #[.int 44], vm := .none },
  { cls := 8, slots := #[.int 45], vm := .none },
  { cls := 8, slots := #[.int 46], vm := .none },
  { cls := 8, slots := #[.int 47], vm := .none },
  { cls := 8, slots := #[.int 48], vm := .none },
  { cls := 8, slots := #[.int 49], vm := .none },
  { cls := 8, slots := #[.int 50], vm := .none },
  { cls := 8, slots := #[.int 51], vm := .none },
  { cls := 8, slots := #[.int 52], vm := .none },
  { cls := 8, slots := #[.int 53], vm := .none },
  { cls := 8, slots := #[.int 54], vm := .none },
  { cls := 8, slots := #[.int 55], vm := .none },
  { cls := 8, slots := #[.int 56], vm := .none },
  { cls := 8, slots := #[.int 57], vm := .none },
  { cls := 8, slots := #[.int 58], vm := .none },
  { cls := 8, slots := #[.int 59], vm := .none },
  { cls := 8, slots := #[.int 60], vm := .none },
  { cls := 8, slots := #[.int 61], vm := .none },
  { cls := 8, slots := #[.int 62], vm := .none },
  { cls := 8, slots := #[.int 63], vm := .none },
  { cls := 8, slots := #[.int 64], vm := .none },
  { cls := 8, slots := #[.int 65], vm := .none },
  { cls := 8, slots := #[.int 66], vm := .none },
  { cls := 8, slots := #[.int 67], vm := .none },
  { cls := 8, slots := #[.int 68], vm := .none },
  { cls := 8, slots := #[.int 69], vm := .none },
  { cls := 8, slots := #[.int 70], vm := .none },
  { cls := 8, slots := #[.int 71], vm := .none },
  { cls := 8, slots := #[.int 72], vm := .none },
  { cls := 8, slots := #[.int 73], vm := .none },
  { cls := 8, slots := #[.int 74], vm := .none },
  { cls := 8, slots := #[.int 75], vm := .none },
  { cls := 8, slots := #[.int 76], vm := .none },
  { cls := 8, slots := #[.int 77], vm := .none },
  { cls := 8, slots := #[.int 78], vm := .none },
  { cls := 8, slots := #[.int 79], vm := .none },
  { cls := 8, slots := #[.int 80], vm := .none },
  { cls := 8, slots := #[.int 81], vm := .none },
  { cls := 8, slots := #[.int 82], vm := .none },
  { cls := 8, slots := #[.int 83], vm := .none },
  { cls := 8, slots := #[.int 84], vm := .none },
  { cls := 8, slots := #[.int 85], vm := .none },
  { cls := 8, slots := #[.int 86], vm := .none },
  { cls := 8, slots := #[.int 87], vm := .none },
  { cls := 8, slots := #[.int 88], vm := .none },
  { cls := 8, slots := #[.int 89], vm := .none },
  { cls := 8, slots := #[.int 90], vm := .none },
  { cls := 8, slots := #[.int 91], vm := .none },
  { cls := 8, slots := #[.int 92], vm := .none },
  { cls := 8, slots := #[.int 93], vm := .none },
  { cls := 8, slots := #[.int 94], vm := .none },
  { cls := 8, slots := #[.int 95], vm := .none },
  { cls := 8, slots := #[.int 96], vm := .none },
  { cls := 8, slots := #[.int 97], vm := .none },
  { cls := 8, slots := #[.int 98], vm := .none },
  { cls := 8, slots := #[.int 99], vm := .none },
  { cls := 8, slots := #[.int 100], vm := .none },
  { cls := 8, slots := #[.int 101], vm := .none },
  { cls := 8, slots := #[.int 102], vm := .none },
  { cls := 8, slots := #[.int 103], vm := .none },
  { cls := 8, slots := #[.int 104], vm := .none },
  { cls := 8, slots := #[.int 105], vm := .none },
  { cls := 8, slots := #[.int 106], vm := .none },
  { cls := 8, slots := #[.int 107], vm := .none },
  { cls := 8, slots := #[.int 108], vm := .none },
  { cls := 8, slots := #[.int 109], vm := .none },
  { cls := 8, slots := #[.int 110], vm := .none },
  { cls := 8, slots := #[.int 111], vm := .none },
  { cls := 8, slots := #[.int 112], vm := .none },
  { cls := 8, slots := #[.int 113], vm := .none },
  { cls := 8, slots := #[.int 114], vm := .none },
  { cls := 8, slots := #[.int 115], vm := .none },
  { cls := 8, slots := #[.int 116], vm := .none },
  { cls := 8, slots := #[.int 117], vm := .none },
  { cls := 8, slots := #[.int 118], vm := .none },
  { cls := 8, slots := #[.int 119], vm := .none },
  { cls := 8, slots := #[.int 120], vm := .none },
  { cls := 8, slots := #[.int 121], vm := .none },
  { cls := 8, slots := #[.int 122], vm := .none },
  { cls := 8, slots := #[.int 123], vm := .none },
  { cls := 8, slots := #[.int 124], vm := .none },
  { cls := 8, slots := #[.int 125], vm := .none },
  { cls := 8, slots := #[.int 126], vm := .none },
  { cls := 8, slots := #[.int 127], vm := .none }]
def classes : Array Class := #[k0, k1, k2, k3, k4, k5, k6, k7, k8, k9, k10, k11, k12, k13, k14, k15]
def interned : List (Array UInt16 × Addr) := []
def slotsUsed : Nat := 517
def theMethod : MethodId := ⟨1, 1⟩
def args0 : Array Value := #[.int 5, .int 6, .int 7, .int 8, .int 1]
def aboutOver (below : List Frame) : State where
  vm := { classes := classes, interned := interned.toArray }
  heap := heap
  slotsUsed := slotsUsed
  threads := #[{ frames := .invoking theMethod args0 :: below }]
def below0 : List Frame := [.native { method := ⟨0, 0⟩, args := #[] }]
def about1 : State := aboutOver below0
def p0 : Program := .bare "" "" ""
def e0 : Env := launch0.env 0 0 0
theorem w_frames : about1.frames = Frame.invoking theMethod args0 :: below0 := rfl
set_option maxRecDepth 65536 in
theorem w_args : argsFit about1.vm theMethod args0 = true := by decide +kernel
set_option maxRecDepth 65536 in
theorem w_heap : heapFits about1 = true := by decide +kernel
set_option maxRecDepth 65536 in
theorem w_runnable : about1.curStatus? = some .runnable := by decide +kernel
set_option maxRecDepth 65536 in
theorem w_alone : about1.alone = true := by decide +kernel
set_option maxRecDepth 65536 in
theorem w_named : about1.methodNamed? x = some theMethod := by decide +kernel
set_option maxRecDepth 65536 in
theorem w_hears : about1.hears theMethod below0 = true := by decide +kernel
set_option maxRecDepth 65536 in
theorem w_ripe : about1.ripe theMethod args0 below0 = true := by decide +kernel
theorem w_running : about1.status = .running := rfl
set_option maxRecDepth 65536 in
theorem w_room : about1.hasRoom e0.platform room_1 = true :=
  launch0.hasRoom_least _ room_1 (by decide +kernel) (by decide +kernel) (by decide +kernel) (by decide +kernel) (by decide +kernel) (by decide +kernel)
theorem allAtoms_all (ts : List Jvm.Cond) (a : Array Jvm.Value) (st : Jvm.State) : (allAtoms ts).before a st = ts.all (fun c => c.before a st) := by
  induction ts with
  | nil => rfl
  | cons c t ih =>
    show (Jvm.Cond.and c (allAtoms t)).before a st = _
    rw [Jvm.Cond.before_and, ih, List.all_cons]
def words1 : List Jvm.Cond := Jvm.Cond.code x code maxLocals ret :: tables_1
/-- a 'code' word, met by the world's own term for the bytes: nothing is compared byte by byte -/
theorem code_word {y : MethodName} {bytes : ByteArray} {mx : Nat} {rt : Option FieldType} {a : Array Value} {s : State} {m : MethodId} {meth : Method} {c : Code} (h1 : s.methodNamed? y = some m) (h2 : s.vm.method? m = some meth) (h3 : meth.code = some c) (h4 : c.code = bytes)
    (h5 : (c.maxLocals == mx && c.exceptionTable.isEmpty && decide (c.maxStack ≤ mostOperands) && decide (meth.sig.returnType = rt) && !meth.locks && decide (parseMethodDescriptor y.desc = some meth.sig)) = true) : (Jvm.Cond.code y bytes mx rt).before a s = true := by
  simp only [Bool.and_eq_true, beq_iff_eq, Bool.not_eq_true', decide_eq_true_eq] at h5
  obtain ⟨⟨⟨⟨⟨g1, g2⟩, g3⟩, g4⟩, g5⟩, g6⟩ := h5
  simp [Cond.before, Cond.holds, Cond.value, h1, h2, h3, h4, g1, g2, g3, g4, g5, g6]
def isCode : Jvm.Cond → Bool
  | .code _ _ _ _ => true
  | _ => false
theorem all_split {L : List Jvm.Cond} {P : Jvm.Cond → Bool} (h1 : L.all (fun c => isCode c || P c) = true) (h2 : ∀ c ∈ L.filter isCode, P c = true) : L.all P = true := by
  refine List.all_eq_true.mpr fun c hc => ?_
  have h := List.all_eq_true.mp h1 c hc
  rcases Bool.eq_false_or_eq_true (isCode c) with hi | hi
  · exact h2 c (List.mem_filter.mpr ⟨hc, hi⟩)
  · simpa [hi] using h
set_option maxRecDepth 65536 in
theorem w_c0 : (Jvm.Cond.code x code maxLocals ret).before args0 about1 = true := code_word (m := ⟨1, 1⟩) (meth := k1m1) (c := k1c1) (by decide +kernel) rfl rfl rfl (by decide +kernel)
set_option maxRecDepth 65536 in
theorem w_c1 : (Jvm.Cond.code ({ cls := "com/example/deodar/deodar/AclChange", name := "<init>", desc := "(II)V" } : Jvm.MethodName) prog_2_method_1_code (3 : Nat) (Option.none : Option Jvm.ClassFile.FieldType)).before args0 about1 = true := code_word (m := ⟨2, 0⟩) (meth := k2m0) (c := k2c0) (by decide +kernel) rfl rfl rfl (by decide +kernel)
set_option maxRecDepth 65536 in
theorem w_c2 : (Jvm.Cond.code ({ cls := "java/lang/Object", name := "<init>", desc := "()V" } : Jvm.MethodName) object_method_1_code (1 : Nat) (Option.none : Option Jvm.ClassFile.FieldType)).before args0 about1 = true := code_word (m := ⟨0, 0⟩) (meth := k0m0) (c := k0c0) (by decide +kernel) rfl rfl rfl (by decide +kernel)
set_option maxRecDepth 65536 in
theorem w_c3 : (Jvm.Cond.code ({ cls := "com/example/deodar/deodar/AclChange", name := "equals", desc := "(Ljava/lang/Object;)Z" } : Jvm.MethodName) prog_2_method_5_code (3 : Nat) (Option.some Jvm.ClassFile.FieldType.boolean)).before args0 about1 = true := code_word (m := ⟨2, 1⟩) (meth := k2m1) (c := k2c1) (by decide +kernel) rfl rfl rfl (by decide +kernel)
set_option maxRecDepth 65536 in
theorem w_c4 : (Jvm.Cond.code ({ cls := "java/lang/Integer", name := "valueOf", desc := "(I)Ljava/lang/Integer;" } : Jvm.MethodName) jdk_33_method_22_code (1 : Nat) (Option.some (Jvm.ClassFile.FieldType.object "java/lang/Integer"))).before args0 about1 = true := code_word (m := ⟨8, 0⟩) (meth := k8m0) (c := k8c0) (by decide +kernel) rfl rfl rfl (by decide +kernel)
set_option maxRecDepth 65536 in
theorem w_c5 : (Jvm.Cond.code ({ cls := "java/lang/Integer", name := "<init>", desc := "(I)V" } : Jvm.MethodName) jdk_33_method_23_code (2 : Nat) (Option.none : Option Jvm.ClassFile.FieldType)).before args0 about1 = true := code_word (m := ⟨8, 1⟩) (meth := k8m1) (c := k8c1) (by decide +kernel) rfl rfl rfl (by decide +kernel)
set_option maxRecDepth 65536 in
theorem w_c6 : (Jvm.Cond.code ({ cls := "java/lang/Number", name := "<init>", desc := "()V" } : Jvm.MethodName) jdk_18_method_1_code (1 : Nat) (Option.none : Option Jvm.ClassFile.FieldType)).before args0 about1 = true := code_word (m := ⟨4, 0⟩) (meth := k4m0) (c := k4c0) (by decide +kernel) rfl rfl rfl (by decide +kernel)
def codes1 : List Jvm.Cond := [Jvm.Cond.code x code maxLocals ret, Jvm.Cond.code ({ cls := "com/example/deodar/deodar/AclChange", name := "<init>", desc := "(II)V" } : Jvm.MethodName) prog_2_method_1_code (3 : Nat) (Option.none : Option Jvm.ClassFile.FieldType), Jvm.Cond.code ({ cls := "java/lang/Object", name := "<init>", desc := "()V" } : Jvm.MethodName) object_method_1_code (1 : Nat) (Option.none : Option Jvm.ClassFile.FieldType), Jvm.Cond.code ({ cls := "com/example/deodar/deodar/AclChange", name := "equals", desc := "(Ljava/lang/Object;)Z" } : Jvm.MethodName) prog_2_method_5_code (3 : Nat) (Option.some Jvm.ClassFile.FieldType.boolean), Jvm.Cond.code ({ cls := "java/lang/Integer", name := "valueOf", desc := "(I)Ljava/lang/Integer;" } : Jvm.MethodName) jdk_33_method_22_code (1 : Nat) (Option.some (Jvm.ClassFile.FieldType.object "java/lang/Integer")), Jvm.Cond.code ({ cls := "java/lang/Integer", name := "<init>", desc := "(I)V" } : Jvm.MethodName) jdk_33_method_23_code (2 : Nat) (Option.none : Option Jvm.ClassFile.FieldType), Jvm.Cond.code ({ cls := "java/lang/Number", name := "<init>", desc := "()V" } : Jvm.MethodName) jdk_18_method_1_code (1 : Nat) (Option.none : Option Jvm.ClassFile.FieldType)]
set_option maxRecDepth 65536 in
theorem codes_eq : words1.filter isCode = codes1 := rfl
theorem w_codes : ∀ c ∈ words1.filter isCode, c.before args0 about1 = true := by
  rw [codes_eq]
  intro c hc
  simp only [codes1, List.mem_cons, List.not_mem_nil, or_false] at hc
  rcases hc with rfl | rfl | rfl | rfl | rfl | rfl | rfl
  · exact w_c0
  · exact w_c1
  · exact w_c2
  · exact w_c3
  · exact w_c4
  · exact w_c5
  · exact w_c6
set_option maxRecDepth 65536 in
theorem w_t1 : (words1.take 24).all (fun c => isCode c || c.before args0 about1) = true := by decide +kernel
set_option maxRecDepth 65536 in
theorem w_t2 : (words1.drop 24).all (fun c => isCode c || c.before args0 about1) = true := by decide +kernel
theorem w_tables : (allAtoms (Jvm.Cond.code x code maxLocals ret :: tables_1)).before args0 about1 = true := by
  rw [allAtoms_all]
  show words1.all (fun c => c.before args0 about1) = true
  refine all_split ?_ w_codes
  rw [← List.take_append_drop 24 words1, List.all_append, w_t1, w_t2]
  rfl
set_option maxRecDepth 65536 in
theorem w_rest : rest_1_c.before args0 about1 = true := by decide +kernel
set_option maxRecDepth 65536 in
theorem w_case : (Jvm.Cond.and given_1 narrow_1).before args0 about1 = true := by decide +kernel
theorem w_applies : (headSpec (Jvm.Cond.code x code maxLocals ret :: tables_1) room_1).applies x e0.platform about1 = true :=
  (Spec.applies_iff w_frames).mpr ⟨w_running, w_runnable, w_alone, w_named, w_hears, w_ripe, w_room, w_tables⟩
theorem atStart : AtStart classFile x code maxLocals ret World_1 tables_1 room_1 Calls_1 rest_1 Pre_1 launch0 p0 e0 about1 theMethod args0 below0 :=
  ⟨lists_1, trivial, launch0.admits_env _ _ _, launch0.least_env, fairChoices_fair.cas, fairChoices_fair.clock, w_frames, w_args, w_heap, w_applies, trivial, w_rest, w_case⟩
end start1
theorem witness_1 : WitnessClaimed_1 := ⟨start1.p0, start1.e0, start1.about1, start1.theMethod, start1.args0, start1.below0, start1.atStart⟩
end Jvm.Pilot.@@N@@
