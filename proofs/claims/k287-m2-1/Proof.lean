import JvmDerived
import JvmDerived.Pilot.@@N@@Statement
import JvmDerived.Pilot.@@N@@Code
set_option linter.unusedVariables false
set_option linter.unusedSimpArgs false
@@BLOCK:NumsL.lean.txt@@
namespace Jvm.Pilot.@@N@@
open Jvm Jvm.ClassFile Sem Op Lib Jvm.Free Jvm.Stand Jvm.LawKit Jvm.RoadKit Bundle Jvm.Pilot.@@N@@.Jvm.D
theorem own_ne_arr {Z : State} {h : Heap} {a b : Addr} {C : String} {a0 : Array Value} {kk : Nat} {k : ClassId} {ty : FieldType} {n : Int32} {vs : List Value} {d : Value} (F : Exa Z h a C) (wi : (Cond.instantiable C kk).before a0 Z = true) (V : Arv Z h b k ty n vs d) : a ≠ b := by
  obtain ⟨c, A, -⟩ := V
  exact ne_arr F wi A
theorem own_cast {tb : Tables} {e : Env} {below : List Frame} {t : State} {A : Type} (f : A → State) {a b : A} (h : a = b) (k : Steps tb e below (f b) t) : Steps tb e below (f a) t := h ▸ k
theorem d2_0 : decode jdk_30_method_1_code 0 = .ok (.aload_n 0, 1) := by decide +kernel
theorem d2_1 : decode jdk_30_method_1_code 1 = .ok (.invokespecial 1, 3) := by decide +kernel
theorem d2_4 : decode jdk_30_method_1_code 4 = .ok (.return_, 1) := by decide +kernel
theorem ef_rmRec (m : MethodId) (x0 : Addr) : entryFrame m #[(.ref x0)] 1 = mkF m 0 #[.val (.ref x0)] [] := by first | (simp [entryFrame, mkF, argsToLocals, Value.category]; done) | rfl
def QRec (Z : State) (b : Addr) (h0 : Heap) (n0 : Nat) (v : Option Value) (h : Heap) (L : List Loc) : Prop := v = none ∧ Fr n0 L ∧ h = h0
theorem pn_0 : plainName "java/lang/Record" = true := by first | (simp [plainName, overriddenIn]; done) | decide +kernel
set_option maxRecDepth 65536 in
set_option maxHeartbeats 40000000 in
theorem rmRec (l : Launch) (Z : State) (a0 : Array Value) (hw : ∀ d ∈ tables_1, d.before a0 Z = true) (ws : List Jvm.Cond) (b : Addr) (h0 : Heap) (n0 : Nat) (Z0 : n0 ≤ h0.size)  :
    MetFree l (⟨"java/lang/Record", "<init>", "()V"⟩ : MethodName) (head1 (Jvm.Cond.code (⟨"java/lang/Record", "<init>", "()V"⟩ : MethodName) jdk_30_method_1_code 1 none :: ws) ({ frames := 1, cells := 0, slots := 0, locals := 12 } : Room)) (fun a U => a = #[(.ref b)] ∧ Z.Warmed39 U.vm ∧ U.heap = h0) (fun _ _ _ _ _ => True) (fun _ U o U' => ∃ v L, o = .returned v ∧ QRec Z b h0 n0 v U'.heap L ∧ FrameEnd U o U' L ({ frames := 1, cells := 0, slots := 0, locals := 12 } : Room).cells ({ frames := 1, cells := 0, slots := 0, locals := 12 } : Room).slots) := by
  refine MetFree.of_bodySF (plainFor_of_name pn_0) hisR ?_
  intro p e s m args below meth c s₁ Bd hml0 hP hK
  obtain ⟨rfl, hZ, hh⟩ := hP
  have hx := Bd.exec
  have hby := Bd.bytes
  have hml : c.maxLocals = 1 := hml0
  have hown : s.vm.findClass "java/lang/Record" = some m.cls := findClass_of_methodNamed Bd.named
  have hnm := (name_of_methodNamed Bd.named Bd.method).1
  have X0 : Stand p l e ({ frames := 1, cells := 0, slots := 0, locals := 12 } : Room) s m #[(.ref b)] below meth c s₁ [] 0 0 := Stand.of_body Bd
  have e0 : s₁.heap = h0 := by rw [← hh, Bd.state]; rfl
  have N0 := Fr.nil n0
  have pre0 : ∀ t, Steps p.tables e below (s₁.setTop (mkF m 0 #[.val (.ref b)] [])) t → Steps p.tables e below (s₁.setTop (entryFrame m #[(.ref b)] 1)) t := fun t kk => castTop (ef_rmRec m b) kk
  obtain ⟨T1, X1, e1, st1⟩ := initO X0 hx hZ hown (hw _ (List.mem_of_getElem? (i := 11) rfl)) (hw _ (List.mem_of_getElem? (i := 12) rfl)) (hw _ (List.mem_of_getElem? (i := 13) rfl)) e0 (g := (mkF m 1 #[.val (.ref b)] [(.ref b)])) rfl (by rw [hml]; rfl) rfl (hb hby d2_1) (by decide) (W := 0) (by show 2 * 0 + _ ≤ _; exact Nat.le_of_eq rfl) (by decide)
  have pre2 : ∀ t, Steps p.tables e below (T1.setTop (mkF m 4 #[.val (.ref b)] [])) t → Steps p.tables e below (s₁.setTop (entryFrame m #[(.ref b)] 1)) t := fun t kk => pre0 t (by
      show Steps p.tables e below (s₁.setTop (mkF m 0 #[.val (.ref b)] [])) _
      refine XS.aloadN X0.here hx rfl (hb hby d2_0) rfl rfl ?_
      show Steps p.tables e below (s₁.setTop (mkF m 1 #[.val (.ref b)] [(.ref b)])) _
      refine st1 _ ?_
      exact kk)
  obtain ⟨fs, hr, hrun, hended, hW, hsame⟩ := X1.leave (v := none) (fun _ => rfl)
  refine ⟨_, _, pre2 _ ?_, hrun, hended, _, _, rfl, ?_, ⟨_, rfl⟩, hW, hsame.mono (by decide) (by decide)⟩
  · show Steps p.tables e below (T1.setTop (mkF m 4 #[.val (.ref b)] [])) _
    exact X1.returnOut hx Bd.returns (hb hby d2_4) hr
  · show QRec Z b h0 n0 _ T1.heap _
    rw [e1]
    exact ⟨rfl, N0, rfl⟩
theorem d1_0 : decode prog_36_method_1_code 0 = .ok (.aload_n 0, 1) := by decide +kernel
theorem d1_1 : decode prog_36_method_1_code 1 = .ok (.invokespecial 3, 3) := by decide +kernel
theorem pd_0 : parseMethodDescriptor "()V" = some ⟨[], none⟩ := by decide +kernel
theorem d1_4 : decode prog_36_method_1_code 4 = .ok (.iload_n 1, 1) := by decide +kernel
theorem d1_5 : decode prog_36_method_1_code 5 = .ok (.iconst 1, 1) := by decide +kernel
theorem d1_6 : decode prog_36_method_1_code 6 = .ok (.if_icmp .lt 9, 3) := by decide +kernel
theorem d1_9 : decode prog_36_method_1_code 9 = .ok (.iload_n 1, 1) := by decide +kernel
theorem d1_10 : decode prog_36_method_1_code 10 = .ok (.bipush 64, 2) := by decide +kernel
theorem d1_12 : decode prog_36_method_1_code 12 = .ok (.if_icmp .le 17, 3) := by decide +kernel
theorem d1_29 : decode prog_36_method_1_code 29 = .ok (.aload_n 0, 1) := by decide +kernel
theorem d1_30 : decode prog_36_method_1_code 30 = .ok (.iload_n 1, 1) := by decide +kernel
theorem d1_31 : decode prog_36_method_1_code 31 = .ok (.putfield 20, 3) := by decide +kernel
theorem d1_34 : decode prog_36_method_1_code 34 = .ok (.return_, 1) := by decide +kernel
theorem ef_rmInit (m : MethodId) (x0 : Addr) (x1 : Int32) : entryFrame m #[(.ref x0), (.int x1)] 2 = mkF m 0 #[.val (.ref x0), .val (.int x1)] [] := by first | (simp [entryFrame, mkF, argsToLocals, Value.category]; done) | rfl
def QInit (Z : State) (b : Addr) (u : Int32) (h0 : Heap) (n0 : Nat) (v : Option Value) (h : Heap) (L : List Loc) : Prop := v = none ∧ Fr n0 L ∧ Keep h0 h [b] ∧ Exa Z h b "com/example/relations_to_proofs/relationstoproofs/model/BitWidth" ∧ Fld Z h b "com/example/relations_to_proofs/relationstoproofs/model/BitWidth" "bits" "I" (.int u)
theorem pn_1 : plainName "com/example/relations_to_proofs/relationstoproofs/model/BitWidth" = true := by first | (simp [plainName, overriddenIn]; done) | decide +kernel
set_option maxRecDepth 65536 in
set_option maxHeartbeats 40000000 in
theorem rmInit (l : Launch) (Z : State) (a0 : Array Value) (hw : ∀ d ∈ tables_1, d.before a0 Z = true) (ws : List Jvm.Cond) (b : Addr) (u : Int32) (h0 : Heap) (n0 : Nat) (Z0 : n0 ≤ h0.size) (E_b : Exa Z h0 b "com/example/relations_to_proofs/relationstoproofs/model/BitWidth") (F_bits_b : Fld Z h0 b "com/example/relations_to_proofs/relationstoproofs/model/BitWidth" "bits" "I" (.int (0 : Int32))) (hp1 : ¬ (u < (1 : Int32))) (hp2 : ¬ ((64 : Int32) < u)) (g_b : n0 ≤ b) :
    MetFree l (⟨"com/example/relations_to_proofs/relationstoproofs/model/BitWidth", "<init>", "(I)V"⟩ : MethodName) (head1 (Jvm.Cond.code (⟨"com/example/relations_to_proofs/relationstoproofs/model/BitWidth", "<init>", "(I)V"⟩ : MethodName) prog_36_method_1_code 2 none :: ws) ({ frames := 2, cells := 0, slots := 0, locals := 24 } : Room)) (fun a U => a = #[(.ref b), (.int u)] ∧ Z.Warmed39 U.vm ∧ U.heap = h0) (fun _ _ _ _ _ => True) (fun _ U o U' => ∃ v L, o = .returned v ∧ QInit Z b u h0 n0 v U'.heap L ∧ FrameEnd U o U' L ({ frames := 2, cells := 0, slots := 0, locals := 24 } : Room).cells ({ frames := 2, cells := 0, slots := 0, locals := 24 } : Room).slots) := by
  refine MetFree.of_bodySF (plainFor_of_name pn_1) hisR ?_
  intro p e s m args below meth c s₁ Bd hml0 hP hK
  obtain ⟨rfl, hZ, hh⟩ := hP
  have hx := Bd.exec
  have hby := Bd.bytes
  have hml : c.maxLocals = 2 := hml0
  have hown : s.vm.findClass "com/example/relations_to_proofs/relationstoproofs/model/BitWidth" = some m.cls := findClass_of_methodNamed Bd.named
  have hnm := (name_of_methodNamed Bd.named Bd.method).1
  have X0 : Stand p l e ({ frames := 2, cells := 0, slots := 0, locals := 24 } : Room) s m #[(.ref b), (.int u)] below meth c s₁ [] 0 0 := Stand.of_body Bd
  have e0 : s₁.heap = h0 := by rw [← hh, Bd.state]; rfl
  have N0 := Fr.nil n0
  have pre0 : ∀ t, Steps p.tables e below (s₁.setTop (mkF m 0 #[.val (.ref b), .val (.int u)] [])) t → Steps p.tables e below (s₁.setTop (entryFrame m #[(.ref b), (.int u)] 2)) t := fun t kk => castTop (ef_rmInit m b u) kk
  obtain ⟨_, _, ⟨T3, L3, k3, n3⟩, -, X3, ⟨Lc3, hQ3, l3, y3, z3⟩, st3⟩ := X0.specialBack hx (y := (⟨"java/lang/Record", "<init>", "()V"⟩ : MethodName)) rfl hown (mvT hZ (hw _ (List.mem_of_getElem? (i := 6) rfl))) (mvT hZ (hw _ (List.mem_of_getElem? (i := 7) rfl))) (mvT hZ (hw _ (List.mem_of_getElem? (i := 10) rfl))) (by decide) (backOf (W := 0) (rmRec l Z a0 hw [] b h0 n0 Z0) hZ (hw _ (List.mem_of_getElem? (i := 10) rfl)) (hw _ (List.mem_of_getElem? (i := 9) rfl)) (by decide) (by decide)) (g := (mkF m 1 #[.val (.ref b), .val (.int u)] [(.ref b)])) rfl (by rw [hml]; rfl) (Steps.refl _) (a := b) (argsL := []) (rest := []) (lenOf pd_0 rfl) rfl (by show 2 * 0 + _ ≤ _; exact Nat.le_of_eq rfl) (hb hby d1_1) (fun _ _ => ⟨rfl, e0, (by decide : 0 + 0 ≤ _), (by decide : 0 + 0 ≤ _)⟩)
  dsimp only [Pt.U, Pt.locs, Pt.cells, Pt.slots] at X3 l3 y3 z3 st3 hQ3
  subst l3 y3 z3
  obtain ⟨rfl, N3q, e3⟩ := hQ3
  have N3 := Fr.app N0 N3q
  obtain ⟨T4, h4, X4, e4, W4, st4⟩ := putF X3 hx hZ hown (host := "") (Or.inl (hw _ (List.mem_of_getElem? (i := 14) rfl))) Via.refl e3 F_bits_b E_b (Or.inr ⟨(hw _ (List.mem_of_getElem? (i := 15) rfl)), rfl, hnm⟩) (hw _ (List.mem_of_getElem? (i := 1) rfl)) (ty := .int) (by decide) rfl rfl (g := (mkF m 31 #[.val (.ref b), .val (.int u)] [(.int u), (.ref b)])) rfl rfl (hb hby d1_31)
  have Ex5 : Exa Z h4 b "com/example/relations_to_proofs/relationstoproofs/model/BitWidth" := (E_b.wr W4)
  have K6 : Keep h0 h4 [b] := (Keep.refl h0 _).wr W4 (Or.inl (List.mem_of_getElem? (i := 0) rfl))
  have N7 := Fr.snoc X4 N3 g_b
  have F8 : Fld Z h4 b "com/example/relations_to_proofs/relationstoproofs/model/BitWidth" "bits" "I" (.int u) := F_bits_b.same W4
  have pre9 : ∀ t, Steps p.tables e below (T4.setTop (mkF m 34 #[.val (.ref b), .val (.int u)] [])) t → Steps p.tables e below (s₁.setTop (entryFrame m #[(.ref b), (.int u)] 2)) t := fun t kk => pre0 t (by
      show Steps p.tables e below (s₁.setTop (mkF m 0 #[.val (.ref b), .val (.int u)] [])) _
      refine XS.aloadN X0.here hx rfl (hb hby d1_0) rfl rfl ?_
      show Steps p.tables e below (s₁.setTop (mkF m 1 #[.val (.ref b), .val (.int u)] [(.ref b)])) _
      refine st3.trans ?_
      show Steps p.tables e below (T3.setTop (mkF m 4 #[.val (.ref b), .val (.int u)] [])) _
      refine XS.iloadN X3.here hx rfl (hb hby d1_4) rfl ?_
      show Steps p.tables e below (T3.setTop (mkF m 5 #[.val (.ref b), .val (.int u)] [(.int u)])) _
      refine XS.iconst X3.here hx rfl (hb hby d1_5) ?_
      show Steps p.tables e below (T3.setTop (mkF m 6 #[.val (.ref b), .val (.int u)] [(.int (1 : Int32)), (.int u)])) _
      refine XS.icmpNo X3.here hx rfl (hb hby d1_6) rfl (flt hp1).1 ?_
      show Steps p.tables e below (T3.setTop (mkF m 9 #[.val (.ref b), .val (.int u)] [])) _
      refine XS.iloadN X3.here hx rfl (hb hby d1_9) rfl ?_
      show Steps p.tables e below (T3.setTop (mkF m 10 #[.val (.ref b), .val (.int u)] [(.int u)])) _
      refine XS.bipush X3.here hx rfl (hb hby d1_10) ?_
      show Steps p.tables e below (T3.setTop (mkF m 12 #[.val (.ref b), .val (.int u)] [(.int (64 : Int32)), (.int u)])) _
      refine XS.icmpYes X3.here hx rfl (pc0 := 12) (pc' := 29) rfl (hb hby d1_12) rfl (flt hp2).2.2.2 (by decide) (by decide) ?_
      show Steps p.tables e below (T3.setTop (mkF m 29 #[.val (.ref b), .val (.int u)] [])) _
      refine XS.aloadN X3.here hx rfl (hb hby d1_29) rfl rfl ?_
      show Steps p.tables e below (T3.setTop (mkF m 30 #[.val (.ref b), .val (.int u)] [(.ref b)])) _
      refine XS.iloadN X3.here hx rfl (hb hby d1_30) rfl ?_
      show Steps p.tables e below (T3.setTop (mkF m 31 #[.val (.ref b), .val (.int u)] [(.int u), (.ref b)])) _
      refine st4 _ ?_
      exact kk)
  obtain ⟨fs, hr, hrun, hended, hW, hsame⟩ := X4.leave (v := none) (fun _ => rfl)
  refine ⟨_, _, pre9 _ ?_, hrun, hended, _, _, rfl, ?_, ⟨_, rfl⟩, hW, hsame.mono (by decide) (by decide)⟩
  · show Steps p.tables e below (T4.setTop (mkF m 34 #[.val (.ref b), .val (.int u)] [])) _
    exact X4.returnOut hx Bd.returns (hb hby d1_34) hr
  · show QInit Z b u h0 n0 _ T4.heap _
    rw [e4]
    exact ⟨rfl, N7, K6, Ex5, F8⟩
theorem d4_0 : decode prog_36_method_2_code 0 = .ok (.ldc2_w 24, 3) := by decide +kernel
theorem d4_3 : decode prog_36_method_2_code 3 = .ok (.bipush 64, 2) := by decide +kernel
theorem d4_5 : decode prog_36_method_2_code 5 = .ok (.aload_n 0, 1) := by decide +kernel
theorem d4_6 : decode prog_36_method_2_code 6 = .ok (.getfield 20, 3) := by decide +kernel
theorem d4_9 : decode prog_36_method_2_code 9 = .ok (.isub, 1) := by decide +kernel
theorem d4_10 : decode prog_36_method_2_code 10 = .ok (.lshr, 1) := by decide +kernel
theorem d4_11 : decode prog_36_method_2_code 11 = .ok (.lreturn, 1) := by decide +kernel
theorem ef_rmMin (m : MethodId) (x0 : Addr) : entryFrame m #[(.ref x0)] 1 = mkF m 0 #[.val (.ref x0)] [] := by first | (simp [entryFrame, mkF, argsToLocals, Value.category]; done) | rfl
def QMin (Z : State) (b : Addr) (u : Int32) (h0 : Heap) (n0 : Nat) (v : Option Value) (h : Heap) (L : List Loc) : Prop := v = some (.long ((-9223372036854775808 : Int64) >>> (((64 : Int32) - u) &&& 0x3f).toInt64)) ∧ Fr n0 L ∧ h = h0
set_option maxRecDepth 65536 in
set_option maxHeartbeats 40000000 in
theorem rmMin (l : Launch) (Z : State) (a0 : Array Value) (hw : ∀ d ∈ tables_1, d.before a0 Z = true) (ws : List Jvm.Cond) (b : Addr) (u : Int32) (h0 : Heap) (n0 : Nat) (Z0 : n0 ≤ h0.size) (F_bits_b : Fld Z h0 b "com/example/relations_to_proofs/relationstoproofs/model/BitWidth" "bits" "I" (.int u)) :
    MetFree l (⟨"com/example/relations_to_proofs/relationstoproofs/model/BitWidth", "min", "()J"⟩ : MethodName) (head1 (Jvm.Cond.code (⟨"com/example/relations_to_proofs/relationstoproofs/model/BitWidth", "min", "()J"⟩ : MethodName) prog_36_method_2_code 1 (some .long) :: ws) ({ frames := 0, cells := 0, slots := 0, locals := 0 } : Room)) (fun a U => a = #[(.ref b)] ∧ Z.Warmed39 U.vm ∧ U.heap = h0) (fun _ _ _ _ _ => True) (fun _ U o U' => ∃ v L, o = .returned v ∧ QMin Z b u h0 n0 v U'.heap L ∧ FrameEnd U o U' L ({ frames := 0, cells := 0, slots := 0, locals := 0 } : Room).cells ({ frames := 0, cells := 0, slots := 0, locals := 0 } : Room).slots) := by
  refine MetFree.of_bodySF (plainFor_of_name pn_1) hisR ?_
  intro p e s m args below meth c s₁ Bd hml0 hP hK
  obtain ⟨rfl, hZ, hh⟩ := hP
  have hx := Bd.exec
  have hby := Bd.bytes
  have hml : c.maxLocals = 1 := hml0
  have hown : s.vm.findClass "com/example/relations_to_proofs/relationstoproofs/model/BitWidth" = some m.cls := findClass_of_methodNamed Bd.named
  have hnm := (name_of_methodNamed Bd.named Bd.method).1
  have X0 : Stand p l e ({ frames := 0, cells := 0, slots := 0, locals := 0 } : Room) s m #[(.ref b)] below meth c s₁ [] 0 0 := Stand.of_body Bd
  have e0 : s₁.heap = h0 := by rw [← hh, Bd.state]; rfl
  have N0 := Fr.nil n0
  have pre0 : ∀ t, Steps p.tables e below (s₁.setTop (mkF m 0 #[.val (.ref b)] [])) t → Steps p.tables e below (s₁.setTop (entryFrame m #[(.ref b)] 1)) t := fun t kk => castTop (ef_rmMin m b) kk
  obtain ⟨T10, X10, e10, st10⟩ := getF X0 hx hZ hown (host := "") (Or.inl (hw _ (List.mem_of_getElem? (i := 14) rfl))) Via.refl e0 F_bits_b (g := (mkF m 6 #[.val (.ref b)] [(.ref b), (.int (64 : Int32)), (.long (-9223372036854775808 : Int64))])) rfl rfl (hb hby d4_6)
  have pre11 : ∀ t, Steps p.tables e below (T10.setTop (mkF m 11 #[.val (.ref b)] [(.long ((-9223372036854775808 : Int64) >>> (((64 : Int32) - u) &&& 0x3f).toInt64))])) t → Steps p.tables e below (s₁.setTop (entryFrame m #[(.ref b)] 1)) t := fun t kk => pre0 t (by
      show Steps p.tables e below (s₁.setTop (mkF m 0 #[.val (.ref b)] [])) _
      refine X0.ldc2Long hx hown (mvT hZ (hw _ (List.mem_of_getElem? (i := 21) rfl))) (g := (mkF m 0 #[.val (.ref b)] [])) rfl (hb hby d4_0) _ ?_
      show Steps p.tables e below (s₁.setTop (mkF m 3 #[.val (.ref b)] [(.long (-9223372036854775808 : Int64))])) _
      refine XS.bipush X0.here hx rfl (hb hby d4_3) ?_
      show Steps p.tables e below (s₁.setTop (mkF m 5 #[.val (.ref b)] [(.int (64 : Int32)), (.long (-9223372036854775808 : Int64))])) _
      refine XS.aloadN X0.here hx rfl (hb hby d4_5) rfl rfl ?_
      show Steps p.tables e below (s₁.setTop (mkF m 6 #[.val (.ref b)] [(.ref b), (.int (64 : Int32)), (.long (-9223372036854775808 : Int64))])) _
      refine st10 _ ?_
      show Steps p.tables e below (T10.setTop (mkF m 9 #[.val (.ref b)] [(.int u), (.int (64 : Int32)), (.long (-9223372036854775808 : Int64))])) _
      refine XS.isub X10.here hx rfl (hb hby d4_9) rfl ?_
      show Steps p.tables e below (T10.setTop (mkF m 10 #[.val (.ref b)] [(.int ((64 : Int32) - u)), (.long (-9223372036854775808 : Int64))])) _
      refine XS.lshr X10.here hx rfl (hb hby d4_10) rfl ?_
      exact kk)
  obtain ⟨fs, hr, hrun, hended, hW, hsame⟩ := X10.leave (v := some (.long ((-9223372036854775808 : Int64) >>> (((64 : Int32) - u) &&& 0x3f).toInt64))) (fun h => by rw [Bd.returns] at h; cases h)
  refine ⟨_, _, pre11 _ ?_, hrun, hended, _, _, rfl, ?_, ⟨_, rfl⟩, hW, hsame.mono (by decide) (by decide)⟩
  · show Steps p.tables e below (T10.setTop (mkF m 11 #[.val (.ref b)] [(.long ((-9223372036854775808 : Int64) >>> (((64 : Int32) - u) &&& 0x3f).toInt64))])) _
    exact retOut X10 hx Bd.returns rfl (Or.inr (Or.inl ⟨rfl, rfl, _, rfl⟩)) (hb hby d4_11) hr
  · show QMin Z b u h0 n0 _ T10.heap _
    rw [e10]
    exact ⟨rfl, N0, rfl⟩
theorem own_m (b : Int32) : (b &&& (63 : Int32)).toInt = b.toInt % 64 := Jvm.Kit.i32_mask b 63 (k := 6) (by decide) (by decide)
theorem own_all : ∀ n : Nat, n < 64 → ¬ (Int32.ofNat n + (1 : Int32) < (1 : Int32)) ∧ ¬ ((64 : Int32) < Int32.ofNat n + (1 : Int32)) ∧ ((-9223372036854775808 : Int64) >>> (((64 : Int32) - (Int32.ofNat n + (1 : Int32))) &&& 0x3f).toInt64) = (-((1 : Int64) <<< (((Int32.ofNat n + (1 : Int32)) - (1 : Int32)) &&& 0x3f).toInt64)) := by
  decide +kernel
theorem own_mask (b : Int32) : ∃ n : Nat, n < 64 ∧ b &&& (63 : Int32) = Int32.ofNat n := by
  have h : (b &&& (63 : Int32)).toInt = b.toInt % 64 := own_m b
  refine ⟨(b.toInt % 64).toNat, by omega, ?_⟩
  rw [← Int32.toInt_inj, h, Int32.toInt_ofNat_of_lt (by omega)]
  omega
theorem own_lo (b : Int32) : ¬ ((b &&& (63 : Int32)) + (1 : Int32) < (1 : Int32)) ∧ ¬ ((64 : Int32) < (b &&& (63 : Int32)) + (1 : Int32)) ∧ ((-9223372036854775808 : Int64) >>> (((64 : Int32) - ((b &&& (63 : Int32)) + (1 : Int32))) &&& 0x3f).toInt64) = (-((1 : Int64) <<< ((((b &&& (63 : Int32)) + (1 : Int32)) - (1 : Int32)) &&& 0x3f).toInt64)) := by
  obtain ⟨n, hn, e⟩ := own_mask b
  rw [e]
  exact own_all n hn
theorem pd_1 : parseMethodDescriptor "(I)V" = some ⟨[.int], none⟩ := by decide +kernel
theorem pd_2 : parseMethodDescriptor "()J" = some ⟨[], some .long⟩ := by decide +kernel
theorem ef_rm0 (m : MethodId) (x0 : Int32) : entryFrame m #[(.int x0)] maxLocals = mkF m 0 #[.val (.int x0), .unset, .unset, .unset, .unset] [] := by first | (simp [entryFrame, mkF, argsToLocals, Value.category, maxLocals]; done) | rfl
def Q0 (Z : State) (p0 : Int32) (h0 : Heap) (n0 : Nat) (v : Option Value) (h : Heap) (L : List Loc) : Prop := v = some (.int (1 : Int32)) ∧ Fr n0 L ∧ Keep h0 h []
theorem pn_2 : plainName "com/example/relations_to_proofs/relationstoproofs/model/BitWidthMinPinLaw" = true := by first | (simp [plainName, overriddenIn]; done) | decide +kernel
set_option maxRecDepth 65536 in
set_option maxHeartbeats 40000000 in
theorem rm0 (l : Launch) (Z : State) (a0 : Array Value) (hw : ∀ d ∈ tables_1, d.before a0 Z = true) (ws : List Jvm.Cond) (p0 : Int32) (h0 : Heap) (n0 : Nat) (Z0 : n0 ≤ h0.size)  :
    MetFree l x (head1 (Jvm.Cond.code x code maxLocals ret :: ws) room_1) (fun a U => a = #[(.int p0)] ∧ Z.Warmed39 U.vm ∧ U.heap = h0) (fun _ _ _ _ _ => True) (fun _ U o U' => ∃ v L, o = .returned v ∧ Q0 Z p0 h0 n0 v U'.heap L ∧ FrameEnd U o U' L room_1.cells room_1.slots) := by
  refine MetFree.of_bodySF (plainFor_of_name pn_2) hisR ?_
  intro p e s m args below meth c s₁ Bd hml0 hP hK
  obtain ⟨rfl, hZ, hh⟩ := hP
  have hx := Bd.exec
  have hby := Bd.bytes
  have hml : c.maxLocals = 5 := hml0
  have hown : s.vm.findClass "com/example/relations_to_proofs/relationstoproofs/model/BitWidthMinPinLaw" = some m.cls := findClass_of_methodNamed Bd.named
  have hnm := (name_of_methodNamed Bd.named Bd.method).1
  have X0 : Stand p l e room_1 s m #[(.int p0)] below meth c s₁ [] 0 0 := Stand.of_body Bd
  have e0 : s₁.heap = h0 := by rw [← hh, Bd.state]; rfl
  have N0 := Fr.nil n0
  have pre0 : ∀ t, Steps p.tables e below (s₁.setTop (mkF m 0 #[.val (.int p0), .unset, .unset, .unset, .unset] [])) t → Steps p.tables e below (s₁.setTop (entryFrame m #[(.int p0)] maxLocals)) t := fun t kk => castTop (ef_rm0 m p0) kk
  obtain ⟨ha, hb2, hc0⟩ := own_lo p0
  obtain ⟨T12, h12, X12, e12, E12, A12, D12, -, st12⟩ := newO X0 hx hZ hown (hw _ (List.mem_of_getElem? (i := 0) rfl)) (hw _ (List.mem_of_getElem? (i := 1) rfl)) (hw _ (List.mem_of_getElem? (i := 2) rfl)) e0 (g := (mkF m 7 #[.val (.int p0), .val (.int ((p0 &&& (63 : Int32)) + (1 : Int32))), .unset, .unset, .unset] [])) rfl (hb hby at_7) (by decide) (by decide)
  obtain ⟨b12, gq12⟩ : ∃ z, z = h0.size := ⟨_, rfl⟩
  rw [← gq12] at A12 D12 st12
  have g_b12 : n0 ≤ b12 := Nat.le_trans Z0 (Nat.le_of_eq gq12.symm)
  have sz_b12 : h0.size ≤ b12 := Nat.le_trans (Nat.le_refl _) (Nat.le_of_eq gq12.symm)
  have K13 : Keep h0 h12 [] := (Keep.refl h0 _).ext E12
  have F14 : Fld Z h12 b12 "com/example/relations_to_proofs/relationstoproofs/model/BitWidth" "bits" "I" (.int (0 : Int32)) := D12 (Or.inr (hw _ (List.mem_of_getElem? (i := 15) rfl))) (ty := .int) (by decide)
  have hp16 : ¬ (((p0 &&& (63 : Int32)) + (1 : Int32)) < (1 : Int32)) := ha
  have hp17 : ¬ ((64 : Int32) < ((p0 &&& (63 : Int32)) + (1 : Int32))) := hb2
  obtain ⟨_, _, ⟨T15, L15, k15, n15⟩, -, X15, ⟨Lc15, hQ15, l15, y15, z15⟩, st15⟩ := X12.specialBack hx (y := (⟨"com/example/relations_to_proofs/relationstoproofs/model/BitWidth", "<init>", "(I)V"⟩ : MethodName)) rfl hown (mvT hZ (hw _ (List.mem_of_getElem? (i := 3) rfl))) (mvT hZ (hw _ (List.mem_of_getElem? (i := 4) rfl))) (mvT hZ (hw _ (List.mem_of_getElem? (i := 5) rfl))) (by decide) (backOf (W := 1) (rmInit l Z a0 hw [] b12 ((p0 &&& (63 : Int32)) + (1 : Int32)) h12 n0 (Nat.le_trans Z0 K13.1) A12 F14 hp16 hp17 g_b12) hZ (hw _ (List.mem_of_getElem? (i := 5) rfl)) (hw _ (List.mem_of_getElem? (i := 2) rfl)) (by decide) (by decide)) (g := (mkF m 12 #[.val (.int p0), .val (.int ((p0 &&& (63 : Int32)) + (1 : Int32))), .unset, .unset, .unset] [(.int ((p0 &&& (63 : Int32)) + (1 : Int32))), (.ref b12), (.ref b12)])) rfl (by rw [hml]; rfl) (Steps.refl _) (a := b12) (argsL := [(.int ((p0 &&& (63 : Int32)) + (1 : Int32)))]) (rest := [(.ref b12)]) (lenOf pd_1 rfl) rfl (by show 2 * 0 + _ ≤ _; exact Nat.le_of_eq rfl) (hb hby at_12) (fun _ _ => ⟨rfl, e12, (by decide : 1 + 0 ≤ _), (by decide : 1 + 0 ≤ _)⟩)
  dsimp only [Pt.U, Pt.locs, Pt.cells, Pt.slots] at X15 l15 y15 z15 st15 hQ15
  subst l15 y15 z15
  obtain ⟨rfl, N15q, K15q, P15_0, P15_1⟩ := hQ15
  have N15 := Fr.app N0 N15q
  have Ex18 : Exa Z T15.heap b12 "com/example/relations_to_proofs/relationstoproofs/model/BitWidth" := (A12.keep K15q)
  have K19 : Keep h0 T15.heap [] := K13.trans K15q (allS (Or.inr sz_b12) all0)
  obtain ⟨cq20, kq20, q20a, q20b, q20c⟩ := isOf hZ rfl P15_0
  obtain ⟨_, _, ⟨T20, L20, k20, n20⟩, -, X20, ⟨Lc20, hQ20, l20, y20, z20⟩, st20⟩ := X15.virtualBack hx (y := (⟨"com/example/relations_to_proofs/relationstoproofs/model/BitWidth", "min", "()J"⟩ : MethodName)) (z := (⟨"com/example/relations_to_proofs/relationstoproofs/model/BitWidth", "min", "()J"⟩ : MethodName)) hown (mvT hZ (hw _ (List.mem_of_getElem? (i := 16) rfl))) (mvT hZ (hw _ (List.mem_of_getElem? (i := 17) rfl))) (notFace_of_selects (args := #[]) (mvT hZ (hw _ (List.mem_of_getElem? (i := 19) rfl)))) (mvT hZ (hw _ (List.mem_of_getElem? (i := 19) rfl))) (mvT hZ (hw _ (List.mem_of_getElem? (i := 18) rfl))) (by decide) (backOf (W := 0) (rmMin l Z a0 hw [] b12 ((p0 &&& (63 : Int32)) + (1 : Int32)) T15.heap n0 (Nat.le_trans Z0 K19.1) P15_1) hZ (hw _ (List.mem_of_getElem? (i := 20) rfl)) (hw _ (List.mem_of_getElem? (i := 2) rfl)) (by decide) (by decide)) q20a q20c (g := (mkF m 24 #[.val (.int p0), .val (.int ((p0 &&& (63 : Int32)) + (1 : Int32))), .val (.ref b12), .val (.long (-((1 : Int64) <<< ((((p0 &&& (63 : Int32)) + (1 : Int32)) - (1 : Int32)) &&& 0x3f).toInt64))), .second] [(.ref b12)])) rfl (by rw [hml]; rfl) (Steps.refl _) (argsL := []) (rest := []) (lenOf pd_2 rfl) rfl (by show 2 * 0 + _ ≤ _; exact Nat.le_of_eq rfl) (hb hby at_24) (fun _ _ => ⟨rfl, rfl, (by decide : 1 + 0 ≤ _), (by decide : 1 + 0 ≤ _)⟩)
  dsimp only [Pt.U, Pt.locs, Pt.cells, Pt.slots] at X20 l20 y20 z20 st20 hQ20
  subst l20 y20 z20
  obtain ⟨rfl, N20q, e20⟩ := hQ20
  have N20 := Fr.app N15 N20q
  have hb21 : ((-9223372036854775808 : Int64) >>> (((64 : Int32) - ((p0 &&& (63 : Int32)) + (1 : Int32))) &&& 0x3f).toInt64) = (-((1 : Int64) <<< ((((p0 &&& (63 : Int32)) + (1 : Int32)) - (1 : Int32)) &&& 0x3f).toInt64)) := hc0
  have pre22 : ∀ t, Steps p.tables e below (T20.setTop (mkF m 37 #[.val (.int p0), .val (.int ((p0 &&& (63 : Int32)) + (1 : Int32))), .val (.ref b12), .val (.long (-((1 : Int64) <<< ((((p0 &&& (63 : Int32)) + (1 : Int32)) - (1 : Int32)) &&& 0x3f).toInt64))), .second] [(.int (1 : Int32))])) t → Steps p.tables e below (s₁.setTop (entryFrame m #[(.int p0)] maxLocals)) t := fun t kk => pre0 t (by
      show Steps p.tables e below (s₁.setTop (mkF m 0 #[.val (.int p0), .unset, .unset, .unset, .unset] [])) _
      refine XS.iloadN X0.here hx rfl (hb hby at_0) rfl ?_
      show Steps p.tables e below (s₁.setTop (mkF m 1 #[.val (.int p0), .unset, .unset, .unset, .unset] [(.int p0)])) _
      refine XS.bipush X0.here hx rfl (hb hby at_1) ?_
      show Steps p.tables e below (s₁.setTop (mkF m 3 #[.val (.int p0), .unset, .unset, .unset, .unset] [(.int (63 : Int32)), (.int p0)])) _
      refine XS.iand X0.here hx rfl (hb hby at_3) rfl ?_
      show Steps p.tables e below (s₁.setTop (mkF m 4 #[.val (.int p0), .unset, .unset, .unset, .unset] [(.int (p0 &&& (63 : Int32)))])) _
      refine XS.iconst X0.here hx rfl (hb hby at_4) ?_
      show Steps p.tables e below (s₁.setTop (mkF m 5 #[.val (.int p0), .unset, .unset, .unset, .unset] [(.int (1 : Int32)), (.int (p0 &&& (63 : Int32)))])) _
      refine XS.iadd X0.here hx rfl (hb hby at_5) rfl ?_
      show Steps p.tables e below (s₁.setTop (mkF m 6 #[.val (.int p0), .unset, .unset, .unset, .unset] [(.int ((p0 &&& (63 : Int32)) + (1 : Int32)))])) _
      refine XS.istoreN X0.here hx rfl (hb hby at_6) rfl (l' := #[.val (.int p0), .val (.int ((p0 &&& (63 : Int32)) + (1 : Int32))), .unset, .unset, .unset]) rfl ?_
      show Steps p.tables e below (s₁.setTop (mkF m 7 #[.val (.int p0), .val (.int ((p0 &&& (63 : Int32)) + (1 : Int32))), .unset, .unset, .unset] [])) _
      refine st12 _ ?_
      show Steps p.tables e below (T12.setTop (mkF m 10 #[.val (.int p0), .val (.int ((p0 &&& (63 : Int32)) + (1 : Int32))), .unset, .unset, .unset] [(.ref b12)])) _
      refine XS.dup X12.here hx rfl (hb hby at_10) rfl rfl ?_
      show Steps p.tables e below (T12.setTop (mkF m 11 #[.val (.int p0), .val (.int ((p0 &&& (63 : Int32)) + (1 : Int32))), .unset, .unset, .unset] [(.ref b12), (.ref b12)])) _
      refine XS.iloadN X12.here hx rfl (hb hby at_11) rfl ?_
      show Steps p.tables e below (T12.setTop (mkF m 12 #[.val (.int p0), .val (.int ((p0 &&& (63 : Int32)) + (1 : Int32))), .unset, .unset, .unset] [(.int ((p0 &&& (63 : Int32)) + (1 : Int32))), (.ref b12), (.ref b12)])) _
      refine st15.trans ?_
      show Steps p.tables e below (T15.setTop (mkF m 15 #[.val (.int p0), .val (.int ((p0 &&& (63 : Int32)) + (1 : Int32))), .unset, .unset, .unset] [(.ref b12)])) _
      refine XS.astoreN X15.here hx rfl (hb hby at_15) rfl rfl (l' := #[.val (.int p0), .val (.int ((p0 &&& (63 : Int32)) + (1 : Int32))), .val (.ref b12), .unset, .unset]) rfl ?_
      show Steps p.tables e below (T15.setTop (mkF m 16 #[.val (.int p0), .val (.int ((p0 &&& (63 : Int32)) + (1 : Int32))), .val (.ref b12), .unset, .unset] [])) _
      refine XS.lconst X15.here hx rfl (hb hby at_16) ?_
      show Steps p.tables e below (T15.setTop (mkF m 17 #[.val (.int p0), .val (.int ((p0 &&& (63 : Int32)) + (1 : Int32))), .val (.ref b12), .unset, .unset] [(.long (1 : Int64))])) _
      refine XS.iloadN X15.here hx rfl (hb hby at_17) rfl ?_
      show Steps p.tables e below (T15.setTop (mkF m 18 #[.val (.int p0), .val (.int ((p0 &&& (63 : Int32)) + (1 : Int32))), .val (.ref b12), .unset, .unset] [(.int ((p0 &&& (63 : Int32)) + (1 : Int32))), (.long (1 : Int64))])) _
      refine XS.iconst X15.here hx rfl (hb hby at_18) ?_
      show Steps p.tables e below (T15.setTop (mkF m 19 #[.val (.int p0), .val (.int ((p0 &&& (63 : Int32)) + (1 : Int32))), .val (.ref b12), .unset, .unset] [(.int (1 : Int32)), (.int ((p0 &&& (63 : Int32)) + (1 : Int32))), (.long (1 : Int64))])) _
      refine XS.isub X15.here hx rfl (hb hby at_19) rfl ?_
      show Steps p.tables e below (T15.setTop (mkF m 20 #[.val (.int p0), .val (.int ((p0 &&& (63 : Int32)) + (1 : Int32))), .val (.ref b12), .unset, .unset] [(.int (((p0 &&& (63 : Int32)) + (1 : Int32)) - (1 : Int32))), (.long (1 : Int64))])) _
      refine XS.lshl X15.here hx rfl (hb hby at_20) rfl ?_
      show Steps p.tables e below (T15.setTop (mkF m 21 #[.val (.int p0), .val (.int ((p0 &&& (63 : Int32)) + (1 : Int32))), .val (.ref b12), .unset, .unset] [(.long ((1 : Int64) <<< ((((p0 &&& (63 : Int32)) + (1 : Int32)) - (1 : Int32)) &&& 0x3f).toInt64))])) _
      refine XS.lneg X15.here hx rfl (hb hby at_21) rfl ?_
      show Steps p.tables e below (T15.setTop (mkF m 22 #[.val (.int p0), .val (.int ((p0 &&& (63 : Int32)) + (1 : Int32))), .val (.ref b12), .unset, .unset] [(.long (-((1 : Int64) <<< ((((p0 &&& (63 : Int32)) + (1 : Int32)) - (1 : Int32)) &&& 0x3f).toInt64)))])) _
      refine XS.lstoreN X15.here hx rfl (hb hby at_22) rfl (l' := #[.val (.int p0), .val (.int ((p0 &&& (63 : Int32)) + (1 : Int32))), .val (.ref b12), .val (.long (-((1 : Int64) <<< ((((p0 &&& (63 : Int32)) + (1 : Int32)) - (1 : Int32)) &&& 0x3f).toInt64))), .second]) rfl ?_
      show Steps p.tables e below (T15.setTop (mkF m 23 #[.val (.int p0), .val (.int ((p0 &&& (63 : Int32)) + (1 : Int32))), .val (.ref b12), .val (.long (-((1 : Int64) <<< ((((p0 &&& (63 : Int32)) + (1 : Int32)) - (1 : Int32)) &&& 0x3f).toInt64))), .second] [])) _
      refine XS.aloadN X15.here hx rfl (hb hby at_23) rfl rfl ?_
      show Steps p.tables e below (T15.setTop (mkF m 24 #[.val (.int p0), .val (.int ((p0 &&& (63 : Int32)) + (1 : Int32))), .val (.ref b12), .val (.long (-((1 : Int64) <<< ((((p0 &&& (63 : Int32)) + (1 : Int32)) - (1 : Int32)) &&& 0x3f).toInt64))), .second] [(.ref b12)])) _
      refine st20.trans ?_
      show Steps p.tables e below (T20.setTop (mkF m 27 #[.val (.int p0), .val (.int ((p0 &&& (63 : Int32)) + (1 : Int32))), .val (.ref b12), .val (.long (-((1 : Int64) <<< ((((p0 &&& (63 : Int32)) + (1 : Int32)) - (1 : Int32)) &&& 0x3f).toInt64))), .second] [(.long ((-9223372036854775808 : Int64) >>> (((64 : Int32) - ((p0 &&& (63 : Int32)) + (1 : Int32))) &&& 0x3f).toInt64))])) _
      refine XS.lloadN X20.here hx rfl (hb hby at_27) rfl ?_
      show Steps p.tables e below (T20.setTop (mkF m 28 #[.val (.int p0), .val (.int ((p0 &&& (63 : Int32)) + (1 : Int32))), .val (.ref b12), .val (.long (-((1 : Int64) <<< ((((p0 &&& (63 : Int32)) + (1 : Int32)) - (1 : Int32)) &&& 0x3f).toInt64))), .second] [(.long (-((1 : Int64) <<< ((((p0 &&& (63 : Int32)) + (1 : Int32)) - (1 : Int32)) &&& 0x3f).toInt64))), (.long ((-9223372036854775808 : Int64) >>> (((64 : Int32) - ((p0 &&& (63 : Int32)) + (1 : Int32))) &&& 0x3f).toInt64))])) _
      refine XS.lcmp X20.here hx rfl (hb hby at_28) rfl ?_
      show Steps p.tables e below (T20.setTop (mkF m 29 #[.val (.int p0), .val (.int ((p0 &&& (63 : Int32)) + (1 : Int32))), .val (.ref b12), .val (.long (-((1 : Int64) <<< ((((p0 &&& (63 : Int32)) + (1 : Int32)) - (1 : Int32)) &&& 0x3f).toInt64))), .second] [(.int (lcmpW ((-9223372036854775808 : Int64) >>> (((64 : Int32) - ((p0 &&& (63 : Int32)) + (1 : Int32))) &&& 0x3f).toInt64) (-((1 : Int64) <<< ((((p0 &&& (63 : Int32)) + (1 : Int32)) - (1 : Int32)) &&& 0x3f).toInt64))))])) _
      refine XS.ifNo X20.here hx rfl (hb hby at_29) rfl (Jvm.Free.XT.ll_ne_f hb21) ?_
      show Steps p.tables e below (T20.setTop (mkF m 32 #[.val (.int p0), .val (.int ((p0 &&& (63 : Int32)) + (1 : Int32))), .val (.ref b12), .val (.long (-((1 : Int64) <<< ((((p0 &&& (63 : Int32)) + (1 : Int32)) - (1 : Int32)) &&& 0x3f).toInt64))), .second] [])) _
      refine XS.iconst X20.here hx rfl (hb hby at_32) ?_
      show Steps p.tables e below (T20.setTop (mkF m 33 #[.val (.int p0), .val (.int ((p0 &&& (63 : Int32)) + (1 : Int32))), .val (.ref b12), .val (.long (-((1 : Int64) <<< ((((p0 &&& (63 : Int32)) + (1 : Int32)) - (1 : Int32)) &&& 0x3f).toInt64))), .second] [(.int (1 : Int32))])) _
      refine XS.goto X20.here hx rfl (pc0 := 33) (pc' := 37) rfl (hb hby at_33) (by decide) (by decide) ?_
      exact kk)
  obtain ⟨fs, hr, hrun, hended, hW, hsame⟩ := X20.leave (v := some (.int (1 : Int32))) (fun h => by rw [Bd.returns] at h; cases h)
  refine ⟨_, _, pre22 _ ?_, hrun, hended, _, _, rfl, ?_, ⟨_, rfl⟩, hW, hsame.mono (by decide) (by decide)⟩
  · show Steps p.tables e below (T20.setTop (mkF m 37 #[.val (.int p0), .val (.int ((p0 &&& (63 : Int32)) + (1 : Int32))), .val (.ref b12), .val (.long (-((1 : Int64) <<< ((((p0 &&& (63 : Int32)) + (1 : Int32)) - (1 : Int32)) &&& 0x3f).toInt64))), .second] [(.int (1 : Int32))])) _
    exact retN X20 hx (t := .boolean) Bd.returns (by simp) (hb hby at_37) hr
  · show Q0 Z p0 h0 n0 _ T20.heap _
    rw [e20]
    exact ⟨rfl, N20, K19⟩
set_option maxRecDepth 65536 in
set_option maxHeartbeats 40000000 in
theorem comes_1 {Post : Tables → Env → Array Value → State → Outcome → State → Prop} (hpost : ∀ tb e args s v u, (limb_1_1.after args s (.returned v) u = true ∧ limb_1_2.after args s (.returned v) u = true ∧ True) → FrameEnd s (.returned v) u (Jvm.fieldLocs frame_1_writes args s ++ Jvm.arrayLocs frame_1_arrays args s ++ Jvm.staticLocs frame_1_statics s) 16 128 → Post tb e args s (.returned v) u) :
    ArmFor flags0 classFile x code maxLocals ret World_1 tables_1 room_1 Calls_1 rest_1 Pre_1 Post := by
  intro l hfl _ _ p e ha hc hk s m args below hf hA hF happ hP
  obtain ⟨hcalls, hrest, hpre⟩ := hP
  obtain ⟨-, -, -, hnamed, -, -, -, hat⟩ := (Spec.applies_iff hf).mp happ
  obtain ⟨hg, hn⟩ := and_e (Cond.before_iff.mp (show (Jvm.Cond.and given_1 narrow_1).before args s = true from hpre))
  obtain ⟨gg23, gg24⟩ := and_e hg
  obtain ⟨w0, rfl⟩ : ∃ w0 : Value, args = #[w0] := by
    have hs : args.size = 1 := by simpa [Cond.value, given_1] using gg23
    obtain ⟨L⟩ := args
    match L, hs with
    | [w0], _ => exact ⟨w0, rfl⟩
  have hw := fun d (hd : d ∈ tables_1) => atoms_spec (ws := Jvm.Cond.code x code maxLocals ret :: tables_1) hat d (List.mem_cons_of_mem _ hd)
  have hfit : Fit s := fun {y c} hc i hi => by
    obtain ⟨ha, rfl⟩ := Array.getElem?_eq_some_iff.mp hc
    have q := List.all_eq_true.mp ((Array.all_eq_true_iff_forall_mem.mp hF) _ (Array.getElem_mem ha)) i (List.mem_range.mpr hi)
    simpa [Array.getElem?_eq_getElem hi] using q
  obtain ⟨i0, ei0⟩ := is_v gg24
  obtain rfl : w0 = (.int i0) := Option.some.inj ei0
  obtain ⟨n, o, h1, h2, h3, _, L, rfl, ⟨rfl, N, -⟩, hq⟩ := rm0 l s _ hw tables_1 i0  s.heap s.heap.size (Nat.le_refl _)  p e ha hc hk s m _ below hf ((Spec.applies_iff_loose hf).mp happ).1 ⟨rfl, State.Warmed39.refl s, rfl⟩ trivial
  refine ⟨n, _, h1, h2, h3, hpost _ _ _ _ _ _ ⟨Cond.after_iff.mpr rfl, Cond.after_iff.mpr (eq_i res_at (Term.int_eval (1)) rfl), trivial⟩ ⟨hq.1, hq.2.1, (hq.2.2.sift fun y hy => Or.inr (N y hy)).mono (by decide) (by decide)⟩⟩
theorem main_1_1 : Claimed_1_1 := comes_1 fun _ _ _ _ _ _ h hF => ⟨h.1, hF⟩
theorem main_1_2 : Claimed_1_2 := comes_1 fun _ _ _ _ _ _ h hF => ⟨h.2.1, hF⟩
end Jvm.Pilot.@@N@@
namespace Jvm.Pilot.@@N@@
open Jvm Jvm.ClassFile Sem Op Lib Jvm.Free Jvm.Stand Jvm.Pilot.@@N@@.Jvm.D
/-! MADE BY PROGRAM (witnessworld.py) out of the Statement's table words and the real class files: 10 classes; the members and pool entries that the words name. The judged class is class 1, her method 1. -/
namespace start1
open Jvm.ClassFile
def u (s : String) : CpInfo := .utf8 (stringToUtf16 s)
/-- a pool by its gaps: so many unusable entries, then the entry; so many at the end -/
def gap : Nat → List CpInfo → List CpInfo
  | 0, r => r
  | n + 1, r => .unusable :: gap n r
def poolList (es : List (Nat × CpInfo)) (last : Nat) : List CpInfo := es.foldr (fun e r => gap e.1 (e.2 :: r)) (gap last [])
def pool (es : List (Nat × CpInfo)) (last : Nat) : Array CpInfo := ⟨poolList es last⟩
def fileOf (pool : Array CpInfo) (this : Nat) (attrs : Array Attribute := #[]) (ms : Array MethodInfo := #[]) (fl : Nat := 33) (sup : Nat := 0) (ifs : Array Nat := #[]) (fds : Array FieldInfo := #[]) : ClassFile where
  minorVersion := 0
  majorVersion := 65
  constantPool := pool
  accessFlags := fl
  thisClass := this
  superClass := sup
  interfaces := ifs
  fields := fds
  methods := ms
  attributes := attrs
def plain (name : String) (sup : Option ClassId) : Class where
  name := name
  kind := .ordinary
  loader := none
  accessFlags := 33
  super := sup
  interfaces := #[]
  cf := none
  fields := #[]
  methods := #[]
  instanceTypes := #[]
  staticTypes := #[]
  resolved := #[]
  callSites := []
  init := .initialized
  statics := none
  mirror := none

def pool0 : Array CpInfo := pool [(5, u "<init>"), (0, u "()V"), (1, .class_ 10), (1, u "java/lang/Object")] 113

def k0c0 : Code := { maxStack := 0, maxLocals := 1, code := object_method_1_code, exceptionTable := #[], attributes := #[] }
def k0m0 : Method := { name := "<init>", desc := "()V", sig := { parameters := [], returnType := none }, accessFlags := 1, code := some k0c0 }
/-- java/lang/Object -/
def k0 : Class := { plain "java/lang/Object" none with
  accessFlags := 33
  interfaces := #[]
  cf := some (fileOf pool0 8 #[] #[{ accessFlags := 1, nameIndex := 5, descriptorIndex := 6, attributes := #[] }] 33 0 #[] #[])
  fields := #[]
  methods := #[k0m0]
  instanceTypes := #[]
  staticTypes := #[]
  resolved := Array.replicate 124 none
  statics := none }

def pool1 : Array CpInfo := pool [(2, .class_ 4), (1, u "java/lang/Object"), (0, u "<init>"), (0, u "()V"), (0, .class_ 8), (0, u "com/example/relations_to_proofs/relationstoproofs/model/BitWidth"), (0, .methodref 7 10), (0, .nameAndType 5 11), (0, u "(I)V"), (0, .methodref 7 13), (0, .nameAndType 14 15), (0, u "min"), (0, u "()J"), (0, .class_ 17), (0, u "com/example/relations_to_proofs/relationstoproofs/model/BitWidthMinPinLaw"), (2, u "law"), (0, u "(I)Z")] 3

def k1m0 : Method := { name := "<init>", desc := "()V", sig := { parameters := [], returnType := none }, accessFlags := 1, code := none }
def k1c1 : Code := { maxStack := 4, maxLocals := 5, code := code, exceptionTable := #[], attributes := #[] }
def k1m1 : Method := { name := "law", desc := "(I)Z", sig := { parameters := [.int], returnType := some .boolean }, accessFlags := 9, code := some k1c1 }
/-- com/example/relations_to_proofs/relationstoproofs/model/BitWidthMinPinLaw -/
def k1 : Class := { plain "com/example/relations_to_proofs/relationstoproofs/model/BitWidthMinPinLaw" (some 0) with
  accessFlags := 49
  interfaces := #[]
  cf := some (fileOf pool1 16 #[] #[{ accessFlags := 1, nameIndex := 5, descriptorIndex := 6, attributes := #[] }, { accessFlags := 9, nameIndex := 20, descriptorIndex := 21, attributes := #[] }] 49 2 #[] #[])
  fields := #[]
  methods := #[k1m0, k1m1]
  instanceTypes := #[]
  staticTypes := #[]
  resolved := Array.replicate 25 none
  statics := none }

def pool2 : Array CpInfo := pool [(1, .methodref 2 3), (0, .class_ 4), (0, .nameAndType 5 6), (0, u "java/lang/Object"), (0, u "<init>"), (0, u "()V"), (0, .class_ 8), (0, u "java/lang/Record")] 13

def k2c0 : Code := { maxStack := 1, maxLocals := 1, code := jdk_30_method_1_code, exceptionTable := #[], attributes := #[] }
def k2m0 : Method := { name := "<init>", desc := "()V", sig := { parameters := [], returnType := none }, accessFlags := 4, code := some k2c0 }
/-- java/lang/Record -/
def k2 : Class := { plain "java/lang/Record" (some 0) with
  accessFlags := 1057
  interfaces := #[]
  cf := some (fileOf pool2 7 #[] #[{ accessFlags := 4, nameIndex := 5, descriptorIndex := 6, attributes := #[] }] 1057 2 #[] #[])
  fields := #[]
  methods := #[k2m0]
  instanceTypes := #[]
  staticTypes := #[]
  resolved := Array.replicate 22 none
  statics := none }

def pool3 : Array CpInfo := pool [(3, .methodref 4 5), (0, .class_ 6), (0, .nameAndType 7 8), (0, u "java/lang/Record"), (0, u "<init>"), (0, u "()V"), (0, .class_ 10), (0, u "com/example/relations_to_proofs/relationstoproofs/model/BitWidth"), (9, .fieldref 9 21), (0, .nameAndType 22 23), (0, u "bits"), (0, u "I"), (0, .long 9223372036854775808), (3, u "min"), (0, u "()J"), (18, u "MAX_BITS"), (2, u "(I)V")] 40

def k3c0 : Code := { maxStack := 3, maxLocals := 2, code := prog_36_method_1_code, exceptionTable := #[], attributes := #[] }
def k3m0 : Method := { name := "<init>", desc := "(I)V", sig := { parameters := [.int], returnType := none }, accessFlags := 1, code := some k3c0 }
def k3c1 : Code := { maxStack := 4, maxLocals := 1, code := prog_36_method_2_code, exceptionTable := #[], attributes := #[] }
def k3m1 : Method := { name := "min", desc := "()J", sig := { parameters := [], returnType := some .long }, accessFlags := 1, code := some k3c1 }
/-- com/example/relations_to_proofs/relationstoproofs/model/BitWidth -/
def k3 : Class := { plain "com/example/relations_to_proofs/relationstoproofs/model/BitWidth" (some 2) with
  accessFlags := 49
  interfaces := #[]
  cf := some (fileOf pool3 9 #[] #[{ accessFlags := 1, nameIndex := 7, descriptorIndex := 51, attributes := #[] }, { accessFlags := 1, nameIndex := 28, descriptorIndex := 29, attributes := #[] }] 49 4 #[] #[{ accessFlags := 18, nameIndex := 22, descriptorIndex := 23, attributes := #[] }, { accessFlags := 25, nameIndex := 48, descriptorIndex := 23, attributes := #[] }])
  fields := #[{ name := "bits", type := .int, accessFlags := 18, slot := 0, constantValue := 0 }, { name := "MAX_BITS", type := .int, accessFlags := 25, slot := 0, constantValue := 0 }]
  methods := #[k3m0, k3m1]
  instanceTypes := #[.int]
  staticTypes := #[.int]
  resolved := Array.replicate 92 none
  statics := none }

def pool4 : Array CpInfo := pool [(1, u "java/lang/Cloneable"), (0, .class_ 1), (0, u "java/lang/Object"), (0, .class_ 3)] 3

/-- java/lang/Cloneable -/
def k4 : Class := { plain "java/lang/Cloneable" (some 0) with
  accessFlags := 1537
  interfaces := #[]
  cf := some (fileOf pool4 2 #[] #[] 1537 4 #[] #[])
  fields := #[]
  methods := #[]
  instanceTypes := #[]
  staticTypes := #[]
  resolved := Array.replicate 8 none
  statics := none }

def pool5 : Array CpInfo := pool [(1, u "java/io/Serializable"), (0, .class_ 1), (0, u "java/lang/Object"), (0, .class_ 3)] 3

/-- java/io/Serializable -/
def k5 : Class := { plain "java/io/Serializable" (some 0) with
  accessFlags := 1537
  interfaces := #[]
  cf := some (fileOf pool5 2 #[] #[] 1537 4 #[] #[])
  fields := #[]
  methods := #[]
  instanceTypes := #[]
  staticTypes := #[]
  resolved := Array.replicate 8 none
  statics := none }

/-- the primitive byte -/
def k6 : Class := { plain "byte" none with kind := .primitive 'B', accessFlags := 0x411 }
/-- [B -/
def k7 : Class := { plain "[B" (some 0) with kind := .array 6 .byte, interfaces := #[4, 5], accessFlags := 1041 }

/-- the primitive int -/
def k8 : Class := { plain "int" none with kind := .primitive 'I', accessFlags := 0x411 }
/-- [I -/
def k9 : Class := { plain "[I" (some 0) with kind := .array 8 .int, interfaces := #[4, 5], accessFlags := 1041 }

def heap : Heap := #[]
def classes : Array Class := #[k0, k1, k2, k3, k4, k5, k6, k7, k8, k9]
def interned : List (Array UInt16 × Addr) := []
def slotsUsed : Nat := 0
def theMethod : MethodId := ⟨1, 1⟩
def args0 : Array Value := #[.int 5]
def aboutOver (below : List Frame) : State where
  vm := { classes := classes, interned := interned.toArray }
  heap := heap
  slotsUsed := slotsUsed
  threads := #[{ frames := .invoking theMethod args0 :: below }]
def below0 : List Frame := [.native { method := ⟨0, 0⟩, args := #[] }]
def about1 : State := aboutOver below0
def p0 : Program := .bare "" "" ""
def e0 : Env := launch0.env 0 0 0
theorem w_frames : about1.frames = Frame.invoking theMethod args0 :: below0 := rfl
set_option maxRecDepth 65536 in
theorem w_args : argsFit about1.vm theMethod args0 = true := by decide +kernel
set_option maxRecDepth 65536 in
theorem w_heap : heapFits about1 = true := by decide +kernel
set_option maxRecDepth 65536 in
theorem w_runnable : about1.curStatus? = some .runnable := by decide +kernel
set_option maxRecDepth 65536 in
theorem w_alone : about1.alone = true := by decide +kernel
set_option maxRecDepth 65536 in
theorem w_named : about1.methodNamed? x = some theMethod := by decide +kernel
set_option maxRecDepth 65536 in
theorem w_hears : about1.hears theMethod below0 = true := by decide +kernel
set_option maxRecDepth 65536 in
theorem w_ripe : about1.ripe theMethod args0 below0 = true := by decide +kernel
theorem w_running : about1.status = .running := rfl
set_option maxRecDepth 65536 in
theorem w_room : about1.hasRoom e0.platform room_1 = true :=
  launch0.hasRoom_least _ room_1 (by decide +kernel) (by decide +kernel) (by decide +kernel) (by decide +kernel) (by decide +kernel) (by decide +kernel)
theorem allAtoms_all (ts : List Jvm.Cond) (a : Array Jvm.Value) (st : Jvm.State) : (allAtoms ts).before a st = ts.all (fun c => c.before a st) := by
  induction ts with
  | nil => rfl
  | cons c t ih =>
    show (Jvm.Cond.and c (allAtoms t)).before a st = _
    rw [Jvm.Cond.before_and, ih, List.all_cons]
def words1 : List Jvm.Cond := Jvm.Cond.code x code maxLocals ret :: tables_1
/-- a 'code' word, met by the world's own term for the bytes: nothing is compared byte by byte -/
theorem code_word {y : MethodName} {bytes : ByteArray} {mx : Nat} {rt : Option FieldType} {a : Array Value} {s : State} {m : MethodId} {meth : Method} {c : Code} (h1 : s.methodNamed? y = some m) (h2 : s.vm.method? m = some meth) (h3 : meth.code = some c) (h4 : c.code = bytes)
    (h5 : (c.maxLocals == mx && c.exceptionTable.isEmpty && decide (c.maxStack ≤ mostOperands) && decide (meth.sig.returnType = rt) && !meth.locks && decide (parseMethodDescriptor y.desc = some meth.sig)) = true) : (Jvm.Cond.code y bytes mx rt).before a s = true := by
  simp only [Bool.and_eq_true, beq_iff_eq, Bool.not_eq_true', decide_eq_true_eq] at h5
  obtain ⟨⟨⟨⟨⟨g1, g2⟩, g3⟩, g4⟩, g5⟩, g6⟩ := h5
  simp [Cond.before, Cond.holds, Cond.value, h1, h2, h3, h4, g1, g2, g3, g4, g5, g6]
def isCode : Jvm.Cond → Bool
  | .code _ _ _ _ => true
  | _ => false
theorem all_split {L : List Jvm.Cond} {P : Jvm.Cond → Bool} (h1 : L.all (fun c => isCode c || P c) = true) (h2 : ∀ c ∈ L.filter isCode, P c = true) : L.all P = true := by
  refine List.all_eq_true.mpr fun c hc => ?_
  have h := List.all_eq_true.mp h1 c hc
  rcases Bool.eq_false_or_eq_true (isCode c) with hi | hi
  · exact h2 c (List.mem_filter.mpr ⟨hc, hi⟩)
  · simpa [hi] using h
set_option maxRecDepth 65536 in
theorem w_c0 : (Jvm.Cond.code x code maxLocals ret).before args0 about1 = true := code_word (m := ⟨1, 1⟩) (meth := k1m1) (c := k1c1) (by decide +kernel) rfl rfl rfl (by decide +kernel)
set_option maxRecDepth 65536 in
theorem w_c1 : (Jvm.Cond.code ({ cls := "com/example/relations_to_proofs/relationstoproofs/model/BitWidth", name := "<init>", desc := "(I)V" } : Jvm.MethodName) prog_36_method_1_code (2 : Nat) (Option.none : Option Jvm.ClassFile.FieldType)).before args0 about1 = true := code_word (m := ⟨3, 0⟩) (meth := k3m0) (c := k3c0) (by decide +kernel) rfl rfl rfl (by decide +kernel)
set_option maxRecDepth 65536 in
theorem w_c2 : (Jvm.Cond.code ({ cls := "java/lang/Record", name := "<init>", desc := "()V" } : Jvm.MethodName) jdk_30_method_1_code (1 : Nat) (Option.none : Option Jvm.ClassFile.FieldType)).before args0 about1 = true := code_word (m := ⟨2, 0⟩) (meth := k2m0) (c := k2c0) (by decide +kernel) rfl rfl rfl (by decide +kernel)
set_option maxRecDepth 65536 in
theorem w_c3 : (Jvm.Cond.code ({ cls := "java/lang/Object", name := "<init>", desc := "()V" } : Jvm.MethodName) object_method_1_code (1 : Nat) (Option.none : Option Jvm.ClassFile.FieldType)).before args0 about1 = true := code_word (m := ⟨0, 0⟩) (meth := k0m0) (c := k0c0) (by decide +kernel) rfl rfl rfl (by decide +kernel)
set_option maxRecDepth 65536 in
theorem w_c4 : (Jvm.Cond.code ({ cls := "com/example/relations_to_proofs/relationstoproofs/model/BitWidth", name := "min", desc := "()J" } : Jvm.MethodName) prog_36_method_2_code (1 : Nat) (Option.some Jvm.ClassFile.FieldType.long)).before args0 about1 = true := code_word (m := ⟨3, 1⟩) (meth := k3m1) (c := k3c1) (by decide +kernel) rfl rfl rfl (by decide +kernel)
def codes1 : List Jvm.Cond := [Jvm.Cond.code x code maxLocals ret, Jvm.Cond.code ({ cls := "com/example/relations_to_proofs/relationstoproofs/model/BitWidth", name := "<init>", desc := "(I)V" } : Jvm.MethodName) prog_36_method_1_code (2 : Nat) (Option.none : Option Jvm.ClassFile.FieldType), Jvm.Cond.code ({ cls := "java/lang/Record", name := "<init>", desc := "()V" } : Jvm.MethodName) jdk_30_method_1_code (1 : Nat) (Option.none : Option Jvm.ClassFile.FieldType), Jvm.Cond.code ({ cls := "java/lang/Object", name := "<init>", desc := "()V" } : Jvm.MethodName) object_method_1_code (1 : Nat) (Option.none : Option Jvm.ClassFile.FieldType), Jvm.Cond.code ({ cls := "com/example/relations_to_proofs/relationstoproofs/model/BitWidth", name := "min", desc := "()J" } : Jvm.MethodName) prog_36_method_2_code (1 : Nat) (Option.some Jvm.ClassFile.FieldType.long)]
set_option maxRecDepth 65536 in
theorem codes_eq : words1.filter isCode = codes1 := rfl
theorem w_codes : ∀ c ∈ words1.filter isCode, c.before args0 about1 = true := by
  rw [codes_eq]
  intro c hc
  simp only [codes1, List.mem_cons, List.not_mem_nil, or_false] at hc
  rcases hc with rfl | rfl | rfl | rfl | rfl
  · exact w_c0
  · exact w_c1
  · exact w_c2
  · exact w_c3
  · exact w_c4
set_option maxRecDepth 65536 in
theorem w_t1 : words1.all (fun c => isCode c || c.before args0 about1) = true := by decide +kernel
theorem w_tables : (allAtoms (Jvm.Cond.code x code maxLocals ret :: tables_1)).before args0 about1 = true := by
  rw [allAtoms_all]
  show words1.all (fun c => c.before args0 about1) = true
  refine all_split ?_ w_codes
  rw [w_t1]
set_option maxRecDepth 65536 in
theorem w_case : (Jvm.Cond.and given_1 narrow_1).before args0 about1 = true := by decide +kernel
theorem w_applies : (headSpec (Jvm.Cond.code x code maxLocals ret :: tables_1) room_1).applies x e0.platform about1 = true :=
  (Spec.applies_iff w_frames).mpr ⟨w_running, w_runnable, w_alone, w_named, w_hears, w_ripe, w_room, w_tables⟩
theorem atStart : AtStart classFile x code maxLocals ret World_1 tables_1 room_1 Calls_1 rest_1 Pre_1 launch0 p0 e0 about1 theMethod args0 below0 :=
  ⟨lists_1, trivial, launch0.admits_env _ _ _, launch0.least_env, fairChoices_fair.cas, fairChoices_fair.clock, w_frames, w_args, w_heap, w_applies, trivial, trivial, w_case⟩
end start1
theorem witness_1 : WitnessClaimed_1 := ⟨start1.p0, start1.e0, start1.about1, start1.theMethod, start1.args0, start1.below0, start1.atStart⟩
end Jvm.Pilot.@@N@@
