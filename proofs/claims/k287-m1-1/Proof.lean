import JvmDerived
import JvmDerived.Pilot.@@N@@Statement
import JvmDerived.Pilot.@@N@@Code
set_option linter.unusedVariables false
set_option linter.unusedSimpArgs false
@@BLOCK:NumsL.lean.txt@@
namespace Jvm.Pilot.@@N@@
open Jvm Jvm.ClassFile Sem Op Lib Jvm.Free Jvm.Stand Jvm.LawKit Jvm.RoadKit Bundle Jvm.Pilot.@@N@@.Jvm.D
theorem own_ne_arr {Z : State} {h : Heap} {a b : Addr} {C : String} {a0 : Array Value} {kk : Nat} {k : ClassId} {ty : FieldType} {n : Int32} {vs : List Value} {d : Value} (F : Exa Z h a C) (wi : (Cond.instantiable C kk).before a0 Z = true) (V : Arv Z h b k ty n vs d) : a ≠ b := by
  obtain ⟨c, A, -⟩ := V
  exact ne_arr F wi A
theorem own_cast {tb : Tables} {e : Env} {below : List Frame} {t : State} {A : Type} (f : A → State) {a b : A} (h : a = b) (k : Steps tb e below (f b) t) : Steps tb e below (f a) t := h ▸ k
theorem d2_0 : decode jdk_30_method_1_code 0 = .ok (.aload_n 0, 1) := by decide +kernel
theorem d2_1 : decode jdk_30_method_1_code 1 = .ok (.invokespecial 1, 3) := by decide +kernel
theorem d2_4 : decode jdk_30_method_1_code 4 = .ok (.return_, 1) := by decide +kernel
theorem ef_rmRec (m : MethodId) (x0 : Addr) : entryFrame m #[(.ref x0)] 1 = mkF m 0 #[.val (.ref x0)] [] := by first | (simp [entryFrame, mkF, argsToLocals, Value.category]; done) | rfl
def QRec (Z : State) (b : Addr) (h0 : Heap) (n0 : Nat) (v : Option Value) (h : Heap) (L : List Loc) : Prop := v = none ∧ Fr n0 L ∧ h = h0
theorem pn_0 : plainName "java/lang/Record" = true := by first | (simp [plainName, overriddenIn]; done) | decide +kernel
set_option maxRecDepth 65536 in
set_option maxHeartbeats 40000000 in
theorem rmRec (l : Launch) (Z : State) (a0 : Array Value) (hw : ∀ d ∈ tables_1, d.before a0 Z = true) (ws : List Jvm.Cond) (b : Addr) (h0 : Heap) (n0 : Nat) (Z0 : n0 ≤ h0.size)  :
    MetFree l (⟨"java/lang/Record", "<init>", "()V"⟩ : MethodName) (head1 (Jvm.Cond.code (⟨"java/lang/Record", "<init>", "()V"⟩ : MethodName) jdk_30_method_1_code 1 none :: ws) ({ frames := 1, cells := 0, slots := 0, locals := 12 } : Room)) (fun aA uU => aA = #[(.ref b)] ∧ Z.Warmed39 uU.vm ∧ uU.heap = h0) (fun _ _ _ _ _ => True) (fun _ uU oO uU' => ∃ vV lL, oO = .returned vV ∧ QRec Z b h0 n0 vV uU'.heap lL ∧ FrameEnd uU oO uU' lL ({ frames := 1, cells := 0, slots := 0, locals := 12 } : Room).cells ({ frames := 1, cells := 0, slots := 0, locals := 12 } : Room).slots) := by
  refine MetFree.of_bodySF (plainFor_of_name pn_0) hisR ?_
  intro p e s m args below meth c s₁ Bd hml0 hP hK
  obtain ⟨rfl, hZ, hh⟩ := hP
  have hx := Bd.exec
  have hby := Bd.bytes
  have hml : c.maxLocals = 1 := hml0
  have hown : s.vm.findClass "java/lang/Record" = some m.cls := findClass_of_methodNamed Bd.named
  have hnm := (name_of_methodNamed Bd.named Bd.method).1
  have X0 : Stand p l e ({ frames := 1, cells := 0, slots := 0, locals := 12 } : Room) s m #[(.ref b)] below meth c s₁ [] 0 0 := Stand.of_body Bd
  have e0 : s₁.heap = h0 := by rw [← hh, Bd.state]; rfl
  have N0 := Fr.nil n0
  have pre0 : ∀ t, Steps p.tables e below (s₁.setTop (mkF m 0 #[.val (.ref b)] [])) t → Steps p.tables e below (s₁.setTop (entryFrame m #[(.ref b)] 1)) t := fun t kk => castTop (ef_rmRec m b) kk
  obtain ⟨T1, X1, e1, st1⟩ := initO X0 hx hZ hown (hw _ (List.mem_of_getElem? (i := 12) rfl)) (hw _ (List.mem_of_getElem? (i := 13) rfl)) (hw _ (List.mem_of_getElem? (i := 14) rfl)) e0 (g := (mkF m 1 #[.val (.ref b)] [(.ref b)])) rfl (by rw [hml]; rfl) rfl (hb hby d2_1) (by decide) (W := 0) (by show 2 * 0 + _ ≤ _; exact Nat.le_of_eq rfl) (by decide)
  have pre2 : ∀ t, Steps p.tables e below (T1.setTop (mkF m 4 #[.val (.ref b)] [])) t → Steps p.tables e below (s₁.setTop (entryFrame m #[(.ref b)] 1)) t := fun t kk => pre0 t (by
      show Steps p.tables e below (s₁.setTop (mkF m 0 #[.val (.ref b)] [])) _
      refine XS.aloadN X0.here hx rfl (hb hby d2_0) rfl rfl ?_
      show Steps p.tables e below (s₁.setTop (mkF m 1 #[.val (.ref b)] [(.ref b)])) _
      refine st1 _ ?_
      exact kk)
  obtain ⟨fs, hr, hrun, hended, hW, hsame⟩ := X1.leave (v := none) (fun _ => rfl)
  refine ⟨_, _, pre2 _ ?_, hrun, hended, _, _, rfl, ?_, ⟨_, rfl⟩, hW, hsame.mono (by decide) (by decide)⟩
  · show Steps p.tables e below (T1.setTop (mkF m 4 #[.val (.ref b)] [])) _
    exact X1.returnOut hx Bd.returns (hb hby d2_4) hr
  · show QRec Z b h0 n0 _ T1.heap _
    rw [e1]
    exact ⟨rfl, N0, rfl⟩
theorem d1_0 : decode prog_36_method_1_code 0 = .ok (.aload_n 0, 1) := by decide +kernel
theorem d1_1 : decode prog_36_method_1_code 1 = .ok (.invokespecial 3, 3) := by decide +kernel
theorem pd_0 : parseMethodDescriptor "()V" = some ⟨[], none⟩ := by decide +kernel
theorem d1_4 : decode prog_36_method_1_code 4 = .ok (.iload_n 1, 1) := by decide +kernel
theorem d1_5 : decode prog_36_method_1_code 5 = .ok (.iconst 1, 1) := by decide +kernel
theorem d1_6 : decode prog_36_method_1_code 6 = .ok (.if_icmp .lt 9, 3) := by decide +kernel
theorem d1_9 : decode prog_36_method_1_code 9 = .ok (.iload_n 1, 1) := by decide +kernel
theorem d1_10 : decode prog_36_method_1_code 10 = .ok (.bipush 64, 2) := by decide +kernel
theorem d1_12 : decode prog_36_method_1_code 12 = .ok (.if_icmp .le 17, 3) := by decide +kernel
theorem d1_29 : decode prog_36_method_1_code 29 = .ok (.aload_n 0, 1) := by decide +kernel
theorem d1_30 : decode prog_36_method_1_code 30 = .ok (.iload_n 1, 1) := by decide +kernel
theorem d1_31 : decode prog_36_method_1_code 31 = .ok (.putfield 20, 3) := by decide +kernel
theorem d1_34 : decode prog_36_method_1_code 34 = .ok (.return_, 1) := by decide +kernel
theorem ef_rmInit (m : MethodId) (x0 : Addr) (x1 : Int32) : entryFrame m #[(.ref x0), (.int x1)] 2 = mkF m 0 #[.val (.ref x0), .val (.int x1)] [] := by first | (simp [entryFrame, mkF, argsToLocals, Value.category]; done) | rfl
def QInit (Z : State) (b : Addr) (u : Int32) (h0 : Heap) (n0 : Nat) (v : Option Value) (h : Heap) (L : List Loc) : Prop := v = none ∧ Fr n0 L ∧ Keep h0 h [b] ∧ Exa Z h b "com/example/relations_to_proofs/relationstoproofs/model/BitWidth" ∧ Fld Z h b "com/example/relations_to_proofs/relationstoproofs/model/BitWidth" "bits" "I" (.int u)
theorem pn_1 : plainName "com/example/relations_to_proofs/relationstoproofs/model/BitWidth" = true := by first | (simp [plainName, overriddenIn]; done) | decide +kernel
set_option maxRecDepth 65536 in
set_option maxHeartbeats 40000000 in
theorem rmInit (l : Launch) (Z : State) (a0 : Array Value) (hw : ∀ d ∈ tables_1, d.before a0 Z = true) (ws : List Jvm.Cond) (b : Addr) (u : Int32) (h0 : Heap) (n0 : Nat) (Z0 : n0 ≤ h0.size) (E_b : Exa Z h0 b "com/example/relations_to_proofs/relationstoproofs/model/BitWidth") (F_bits_b : Fld Z h0 b "com/example/relations_to_proofs/relationstoproofs/model/BitWidth" "bits" "I" (.int (0 : Int32))) (hp1 : ¬ (u < (1 : Int32))) (hp2 : ¬ ((64 : Int32) < u)) (g_b : n0 ≤ b) :
    MetFree l (⟨"com/example/relations_to_proofs/relationstoproofs/model/BitWidth", "<init>", "(I)V"⟩ : MethodName) (head1 (Jvm.Cond.code (⟨"com/example/relations_to_proofs/relationstoproofs/model/BitWidth", "<init>", "(I)V"⟩ : MethodName) prog_36_method_1_code 2 none :: ws) ({ frames := 2, cells := 0, slots := 0, locals := 24 } : Room)) (fun aA uU => aA = #[(.ref b), (.int u)] ∧ Z.Warmed39 uU.vm ∧ uU.heap = h0) (fun _ _ _ _ _ => True) (fun _ uU oO uU' => ∃ vV lL, oO = .returned vV ∧ QInit Z b u h0 n0 vV uU'.heap lL ∧ FrameEnd uU oO uU' lL ({ frames := 2, cells := 0, slots := 0, locals := 24 } : Room).cells ({ frames := 2, cells := 0, slots := 0, locals := 24 } : Room).slots) := by
  refine MetFree.of_bodySF (plainFor_of_name pn_1) hisR ?_
  intro p e s m args below meth c s₁ Bd hml0 hP hK
  obtain ⟨rfl, hZ, hh⟩ := hP
  have hx := Bd.exec
  have hby := Bd.bytes
  have hml : c.maxLocals = 2 := hml0
  have hown : s.vm.findClass "com/example/relations_to_proofs/relationstoproofs/model/BitWidth" = some m.cls := findClass_of_methodNamed Bd.named
  have hnm := (name_of_methodNamed Bd.named Bd.method).1
  have X0 : Stand p l e ({ frames := 2, cells := 0, slots := 0, locals := 24 } : Room) s m #[(.ref b), (.int u)] below meth c s₁ [] 0 0 := Stand.of_body Bd
  have e0 : s₁.heap = h0 := by rw [← hh, Bd.state]; rfl
  have N0 := Fr.nil n0
  have pre0 : ∀ t, Steps p.tables e below (s₁.setTop (mkF m 0 #[.val (.ref b), .val (.int u)] [])) t → Steps p.tables e below (s₁.setTop (entryFrame m #[(.ref b), (.int u)] 2)) t := fun t kk => castTop (ef_rmInit m b u) kk
  obtain ⟨_, _, ⟨T3, L3, k3, n3⟩, -, X3, ⟨Lc3, hQ3, l3, y3, z3⟩, st3⟩ := X0.specialBack hx (y := (⟨"java/lang/Record", "<init>", "()V"⟩ : MethodName)) rfl hown (mvT hZ (hw _ (List.mem_of_getElem? (i := 7) rfl))) (mvT hZ (hw _ (List.mem_of_getElem? (i := 8) rfl))) (mvT hZ (hw _ (List.mem_of_getElem? (i := 11) rfl))) (by decide) (backOf (W := 0) (rmRec l Z a0 hw [] b h0 n0 Z0) hZ (hw _ (List.mem_of_getElem? (i := 11) rfl)) (hw _ (List.mem_of_getElem? (i := 10) rfl)) (by decide) (by decide)) (g := (mkF m 1 #[.val (.ref b), .val (.int u)] [(.ref b)])) rfl (by rw [hml]; rfl) (Steps.refl _) (a := b) (argsL := []) (rest := []) (lenOf pd_0 rfl) rfl (by show 2 * 0 + _ ≤ _; exact Nat.le_of_eq rfl) (hb hby d1_1) (fun _ _ => ⟨rfl, e0, (by decide : 0 + 0 ≤ _), (by decide : 0 + 0 ≤ _)⟩)
  dsimp only [Pt.U, Pt.locs, Pt.cells, Pt.slots] at X3 l3 y3 z3 st3 hQ3
  subst l3 y3 z3
  obtain ⟨rfl, N3q, e3⟩ := hQ3
  have N3 := Fr.app N0 N3q
  obtain ⟨T4, h4, X4, e4, W4, st4⟩ := putF X3 hx hZ hown (host := "") (Or.inl (hw _ (List.mem_of_getElem? (i := 15) rfl))) Via.refl e3 F_bits_b E_b (Or.inr ⟨(hw _ (List.mem_of_getElem? (i := 16) rfl)), rfl, hnm⟩) (hw _ (List.mem_of_getElem? (i := 2) rfl)) (ty := .int) (by decide) rfl rfl (g := (mkF m 31 #[.val (.ref b), .val (.int u)] [(.int u), (.ref b)])) rfl rfl (hb hby d1_31)
  have Ex5 : Exa Z h4 b "com/example/relations_to_proofs/relationstoproofs/model/BitWidth" := (E_b.wr W4)
  have K6 : Keep h0 h4 [b] := (Keep.refl h0 _).wr W4 (Or.inl (List.mem_of_getElem? (i := 0) rfl))
  have N7 := Fr.snoc X4 N3 g_b
  have F8 : Fld Z h4 b "com/example/relations_to_proofs/relationstoproofs/model/BitWidth" "bits" "I" (.int u) := F_bits_b.same W4
  have pre9 : ∀ t, Steps p.tables e below (T4.setTop (mkF m 34 #[.val (.ref b), .val (.int u)] [])) t → Steps p.tables e below (s₁.setTop (entryFrame m #[(.ref b), (.int u)] 2)) t := fun t kk => pre0 t (by
      show Steps p.tables e below (s₁.setTop (mkF m 0 #[.val (.ref b), .val (.int u)] [])) _
      refine XS.aloadN X0.here hx rfl (hb hby d1_0) rfl rfl ?_
      show Steps p.tables e below (s₁.setTop (mkF m 1 #[.val (.ref b), .val (.int u)] [(.ref b)])) _
      refine st3.trans ?_
      show Steps p.tables e below (T3.setTop (mkF m 4 #[.val (.ref b), .val (.int u)] [])) _
      refine XS.iloadN X3.here hx rfl (hb hby d1_4) rfl ?_
      show Steps p.tables e below (T3.setTop (mkF m 5 #[.val (.ref b), .val (.int u)] [(.int u)])) _
      refine XS.iconst X3.here hx rfl (hb hby d1_5) ?_
      show Steps p.tables e below (T3.setTop (mkF m 6 #[.val (.ref b), .val (.int u)] [(.int (1 : Int32)), (.int u)])) _
      refine XS.icmpNo X3.here hx rfl (hb hby d1_6) rfl (flt hp1).1 ?_
      show Steps p.tables e below (T3.setTop (mkF m 9 #[.val (.ref b), .val (.int u)] [])) _
      refine XS.iloadN X3.here hx rfl (hb hby d1_9) rfl ?_
      show Steps p.tables e below (T3.setTop (mkF m 10 #[.val (.ref b), .val (.int u)] [(.int u)])) _
      refine XS.bipush X3.here hx rfl (hb hby d1_10) ?_
      show Steps p.tables e below (T3.setTop (mkF m 12 #[.val (.ref b), .val (.int u)] [(.int (64 : Int32)), (.int u)])) _
      refine XS.icmpYes X3.here hx rfl (pc0 := 12) (pc' := 29) rfl (hb hby d1_12) rfl (flt hp2).2.2.2 (by decide) (by decide) ?_
      show Steps p.tables e below (T3.setTop (mkF m 29 #[.val (.ref b), .val (.int u)] [])) _
      refine XS.aloadN X3.here hx rfl (hb hby d1_29) rfl rfl ?_
      show Steps p.tables e below (T3.setTop (mkF m 30 #[.val (.ref b), .val (.int u)] [(.ref b)])) _
      refine XS.iloadN X3.here hx rfl (hb hby d1_30) rfl ?_
      show Steps p.tables e below (T3.setTop (mkF m 31 #[.val (.ref b), .val (.int u)] [(.int u), (.ref b)])) _
      refine st4 _ ?_
      exact kk)
  obtain ⟨fs, hr, hrun, hended, hW, hsame⟩ := X4.leave (v := none) (fun _ => rfl)
  refine ⟨_, _, pre9 _ ?_, hrun, hended, _, _, rfl, ?_, ⟨_, rfl⟩, hW, hsame.mono (by decide) (by decide)⟩
  · show Steps p.tables e below (T4.setTop (mkF m 34 #[.val (.ref b), .val (.int u)] [])) _
    exact X4.returnOut hx Bd.returns (hb hby d1_34) hr
  · show QInit Z b u h0 n0 _ T4.heap _
    rw [e4]
    exact ⟨rfl, N7, K6, Ex5, F8⟩
theorem d4_0 : decode prog_36_method_4_code 0 = .ok (.bipush 64, 2) := by decide +kernel
theorem d4_2 : decode prog_36_method_4_code 2 = .ok (.aload_n 0, 1) := by decide +kernel
theorem d4_3 : decode prog_36_method_4_code 3 = .ok (.getfield 20, 3) := by decide +kernel
theorem d4_6 : decode prog_36_method_4_code 6 = .ok (.isub, 1) := by decide +kernel
theorem d4_7 : decode prog_36_method_4_code 7 = .ok (.istore_n 3, 1) := by decide +kernel
theorem d4_8 : decode prog_36_method_4_code 8 = .ok (.lload_n 1, 1) := by decide +kernel
theorem d4_9 : decode prog_36_method_4_code 9 = .ok (.iload_n 3, 1) := by decide +kernel
theorem d4_10 : decode prog_36_method_4_code 10 = .ok (.lshl, 1) := by decide +kernel
theorem d4_11 : decode prog_36_method_4_code 11 = .ok (.iload_n 3, 1) := by decide +kernel
theorem d4_12 : decode prog_36_method_4_code 12 = .ok (.lshr, 1) := by decide +kernel
def own_wrap (q : Int64) (u : Int32) : Int64 := ((q <<< (((64 : Int32) - u) &&& 0x3f).toInt64) >>> (((64 : Int32) - u) &&& 0x3f).toInt64)
theorem d4_13 : decode prog_36_method_4_code 13 = .ok (.lreturn, 1) := by decide +kernel
theorem ef_rmWrap (m : MethodId) (x0 : Addr) (x1 : Int64) : entryFrame m #[(.ref x0), (.long x1)] 4 = mkF m 0 #[.val (.ref x0), .val (.long x1), .second, .unset] [] := by first | (simp [entryFrame, mkF, argsToLocals, Value.category]; done) | rfl
def QWrap (Z : State) (b : Addr) (q : Int64) (u : Int32) (h0 : Heap) (n0 : Nat) (v : Option Value) (h : Heap) (L : List Loc) : Prop := v = some (.long (own_wrap q u)) ∧ Fr n0 L ∧ h = h0
set_option maxRecDepth 65536 in
set_option maxHeartbeats 40000000 in
theorem rmWrap (l : Launch) (Z : State) (a0 : Array Value) (hw : ∀ d ∈ tables_1, d.before a0 Z = true) (ws : List Jvm.Cond) (b : Addr) (q : Int64) (u : Int32) (h0 : Heap) (n0 : Nat) (Z0 : n0 ≤ h0.size) (F_bits_b : Fld Z h0 b "com/example/relations_to_proofs/relationstoproofs/model/BitWidth" "bits" "I" (.int u)) :
    MetFree l (⟨"com/example/relations_to_proofs/relationstoproofs/model/BitWidth", "wrap", "(J)J"⟩ : MethodName) (head1 (Jvm.Cond.code (⟨"com/example/relations_to_proofs/relationstoproofs/model/BitWidth", "wrap", "(J)J"⟩ : MethodName) prog_36_method_4_code 4 (some .long) :: ws) ({ frames := 0, cells := 0, slots := 0, locals := 0 } : Room)) (fun aA uU => aA = #[(.ref b), (.long q)] ∧ Z.Warmed39 uU.vm ∧ uU.heap = h0) (fun _ _ _ _ _ => True) (fun _ uU oO uU' => ∃ vV lL, oO = .returned vV ∧ QWrap Z b q u h0 n0 vV uU'.heap lL ∧ FrameEnd uU oO uU' lL ({ frames := 0, cells := 0, slots := 0, locals := 0 } : Room).cells ({ frames := 0, cells := 0, slots := 0, locals := 0 } : Room).slots) := by
  refine MetFree.of_bodySF (plainFor_of_name pn_1) hisR ?_
  intro p e s m args below meth c s₁ Bd hml0 hP hK
  obtain ⟨rfl, hZ, hh⟩ := hP
  have hx := Bd.exec
  have hby := Bd.bytes
  have hml : c.maxLocals = 4 := hml0
  have hown : s.vm.findClass "com/example/relations_to_proofs/relationstoproofs/model/BitWidth" = some m.cls := findClass_of_methodNamed Bd.named
  have hnm := (name_of_methodNamed Bd.named Bd.method).1
  have X0 : Stand p l e ({ frames := 0, cells := 0, slots := 0, locals := 0 } : Room) s m #[(.ref b), (.long q)] below meth c s₁ [] 0 0 := Stand.of_body Bd
  have e0 : s₁.heap = h0 := by rw [← hh, Bd.state]; rfl
  have N0 := Fr.nil n0
  have pre0 : ∀ t, Steps p.tables e below (s₁.setTop (mkF m 0 #[.val (.ref b), .val (.long q), .second, .unset] [])) t → Steps p.tables e below (s₁.setTop (entryFrame m #[(.ref b), (.long q)] 4)) t := fun t kk => castTop (ef_rmWrap m b q) kk
  obtain ⟨T10, X10, e10, st10⟩ := getF X0 hx hZ hown (host := "") (Or.inl (hw _ (List.mem_of_getElem? (i := 15) rfl))) Via.refl e0 F_bits_b (g := (mkF m 3 #[.val (.ref b), .val (.long q), .second, .unset] [(.ref b), (.int (64 : Int32))])) rfl rfl (hb hby d4_3)
  have pre11 : ∀ t, Steps p.tables e below (T10.setTop (mkF m 13 #[.val (.ref b), .val (.long q), .second, .val (.int ((64 : Int32) - u))] [(.long ((q <<< (((64 : Int32) - u) &&& 0x3f).toInt64) >>> (((64 : Int32) - u) &&& 0x3f).toInt64))])) t → Steps p.tables e below (s₁.setTop (entryFrame m #[(.ref b), (.long q)] 4)) t := fun t kk => pre0 t (by
      show Steps p.tables e below (s₁.setTop (mkF m 0 #[.val (.ref b), .val (.long q), .second, .unset] [])) _
      refine XS.bipush X0.here hx rfl (hb hby d4_0) ?_
      show Steps p.tables e below (s₁.setTop (mkF m 2 #[.val (.ref b), .val (.long q), .second, .unset] [(.int (64 : Int32))])) _
      refine XS.aloadN X0.here hx rfl (hb hby d4_2) rfl rfl ?_
      show Steps p.tables e below (s₁.setTop (mkF m 3 #[.val (.ref b), .val (.long q), .second, .unset] [(.ref b), (.int (64 : Int32))])) _
      refine st10 _ ?_
      show Steps p.tables e below (T10.setTop (mkF m 6 #[.val (.ref b), .val (.long q), .second, .unset] [(.int u), (.int (64 : Int32))])) _
      refine XS.isub X10.here hx rfl (hb hby d4_6) rfl ?_
      show Steps p.tables e below (T10.setTop (mkF m 7 #[.val (.ref b), .val (.long q), .second, .unset] [(.int ((64 : Int32) - u))])) _
      refine XS.istoreN X10.here hx rfl (hb hby d4_7) rfl (l' := #[.val (.ref b), .val (.long q), .second, .val (.int ((64 : Int32) - u))]) rfl ?_
      show Steps p.tables e below (T10.setTop (mkF m 8 #[.val (.ref b), .val (.long q), .second, .val (.int ((64 : Int32) - u))] [])) _
      refine XS.lloadN X10.here hx rfl (hb hby d4_8) rfl ?_
      show Steps p.tables e below (T10.setTop (mkF m 9 #[.val (.ref b), .val (.long q), .second, .val (.int ((64 : Int32) - u))] [(.long q)])) _
      refine XS.iloadN X10.here hx rfl (hb hby d4_9) rfl ?_
      show Steps p.tables e below (T10.setTop (mkF m 10 #[.val (.ref b), .val (.long q), .second, .val (.int ((64 : Int32) - u))] [(.int ((64 : Int32) - u)), (.long q)])) _
      refine XS.lshl X10.here hx rfl (hb hby d4_10) rfl ?_
      show Steps p.tables e below (T10.setTop (mkF m 11 #[.val (.ref b), .val (.long q), .second, .val (.int ((64 : Int32) - u))] [(.long (q <<< (((64 : Int32) - u) &&& 0x3f).toInt64))])) _
      refine XS.iloadN X10.here hx rfl (hb hby d4_11) rfl ?_
      show Steps p.tables e below (T10.setTop (mkF m 12 #[.val (.ref b), .val (.long q), .second, .val (.int ((64 : Int32) - u))] [(.int ((64 : Int32) - u)), (.long (q <<< (((64 : Int32) - u) &&& 0x3f).toInt64))])) _
      refine XS.lshr X10.here hx rfl (hb hby d4_12) rfl ?_
      exact kk)
  obtain ⟨fs, hr, hrun, hended, hW, hsame⟩ := X10.leave (v := some (.long ((q <<< (((64 : Int32) - u) &&& 0x3f).toInt64) >>> (((64 : Int32) - u) &&& 0x3f).toInt64))) (fun h => by rw [Bd.returns] at h; cases h)
  refine ⟨_, _, pre11 _ ?_, hrun, hended, _, _, rfl, ?_, ⟨_, rfl⟩, hW, hsame.mono (by decide) (by decide)⟩
  · show Steps p.tables e below (T10.setTop (mkF m 13 #[.val (.ref b), .val (.long q), .second, .val (.int ((64 : Int32) - u))] [(.long ((q <<< (((64 : Int32) - u) &&& 0x3f).toInt64) >>> (((64 : Int32) - u) &&& 0x3f).toInt64))])) _
    exact retOut X10 hx Bd.returns rfl (Or.inr (Or.inl ⟨rfl, rfl, _, rfl⟩)) (hb hby d4_13) hr
  · show QWrap Z b q u h0 n0 _ T10.heap _
    rw [e10]
    exact ⟨rfl, N0, rfl⟩
theorem d5_0 : decode method_2_code 0 = .ok (.iload_n 0, 1) := by decide +kernel
theorem d5_1 : decode method_2_code 1 = .ok (.bipush 64, 2) := by decide +kernel
theorem d5_3 : decode method_2_code 3 = .ok (.if_icmp .ne 5, 3) := by decide +kernel
theorem d5_6 : decode method_2_code 6 = .ok (.lload_n 1, 1) := by decide +kernel
theorem d5_8 : decode method_2_code 8 = .ok (.lconst 1, 1) := by decide +kernel
theorem d5_9 : decode method_2_code 9 = .ok (.iload_n 0, 1) := by decide +kernel
theorem d5_10 : decode method_2_code 10 = .ok (.lshl, 1) := by decide +kernel
theorem d5_11 : decode method_2_code 11 = .ok (.lstore_n 3, 1) := by decide +kernel
theorem d5_12 : decode method_2_code 12 = .ok (.lload_n 1, 1) := by decide +kernel
theorem d5_13 : decode method_2_code 13 = .ok (.lload_n 3, 1) := by decide +kernel
theorem d5_14 : decode method_2_code 14 = .ok (.lconst 1, 1) := by decide +kernel
theorem d5_15 : decode method_2_code 15 = .ok (.lsub, 1) := by decide +kernel
theorem d5_16 : decode method_2_code 16 = .ok (.land, 1) := by decide +kernel
theorem d5_17 : decode method_2_code 17 = .ok (.lstore 5, 2) := by decide +kernel
theorem d5_19 : decode method_2_code 19 = .ok (.lconst 1, 1) := by decide +kernel
theorem d5_20 : decode method_2_code 20 = .ok (.iload_n 0, 1) := by decide +kernel
theorem d5_21 : decode method_2_code 21 = .ok (.iconst 1, 1) := by decide +kernel
theorem d5_22 : decode method_2_code 22 = .ok (.isub, 1) := by decide +kernel
theorem d5_23 : decode method_2_code 23 = .ok (.lshl, 1) := by decide +kernel
theorem d5_24 : decode method_2_code 24 = .ok (.lstore 7, 2) := by decide +kernel
theorem d5_26 : decode method_2_code 26 = .ok (.lload 5, 2) := by decide +kernel
theorem d5_28 : decode method_2_code 28 = .ok (.lload 7, 2) := by decide +kernel
theorem d5_30 : decode method_2_code 30 = .ok (.lcmp, 1) := by decide +kernel
theorem d5_31 : decode method_2_code 31 = .ok (.ifCond .lt 8, 3) := by decide +kernel
theorem d5_39 : decode method_2_code 39 = .ok (.lload 5, 2) := by decide +kernel
theorem d5_34 : decode method_2_code 34 = .ok (.lload 5, 2) := by decide +kernel
theorem d5_36 : decode method_2_code 36 = .ok (.lload_n 3, 1) := by decide +kernel
theorem d5_37 : decode method_2_code 37 = .ok (.lsub, 1) := by decide +kernel
def own_ref (u : Int32) (q : Int64) : Int64 := (if u = (64 : Int32) then q else (if (q &&& (((1 : Int64) <<< (u &&& 0x3f).toInt64) - (1 : Int64))) < ((1 : Int64) <<< ((u - (1 : Int32)) &&& 0x3f).toInt64) then (q &&& (((1 : Int64) <<< (u &&& 0x3f).toInt64) - (1 : Int64))) else ((q &&& (((1 : Int64) <<< (u &&& 0x3f).toInt64) - (1 : Int64))) - ((1 : Int64) <<< (u &&& 0x3f).toInt64))))
theorem d5_7 : decode method_2_code 7 = .ok (.lreturn, 1) := by decide +kernel
theorem d5_41 : decode method_2_code 41 = .ok (.lreturn, 1) := by decide +kernel
theorem d5_38 : decode method_2_code 38 = .ok (.lreturn, 1) := by decide +kernel
theorem ef_rmRef (m : MethodId) (x0 : Int32) (x1 : Int64) : entryFrame m #[(.int x0), (.long x1)] 9 = mkF m 0 #[.val (.int x0), .val (.long x1), .second, .unset, .unset, .unset, .unset, .unset, .unset] [] := by first | (simp [entryFrame, mkF, argsToLocals, Value.category]; done) | rfl
def QRef (Z : State) (u : Int32) (q : Int64) (h0 : Heap) (n0 : Nat) (v : Option Value) (h : Heap) (L : List Loc) : Prop := v = some (.long (own_ref u q)) ∧ Fr n0 L ∧ h = h0
theorem pn_2 : plainName "com/example/relations_to_proofs/relationstoproofs/model/BitWidthWrapPinLaw" = true := by first | (simp [plainName, overriddenIn]; done) | decide +kernel
set_option maxRecDepth 65536 in
set_option maxHeartbeats 40000000 in
theorem rmRef (l : Launch) (Z : State) (a0 : Array Value) (hw : ∀ d ∈ tables_1, d.before a0 Z = true) (ws : List Jvm.Cond) (u : Int32) (q : Int64) (h0 : Heap) (n0 : Nat) (Z0 : n0 ≤ h0.size)  :
    MetFree l (⟨"com/example/relations_to_proofs/relationstoproofs/model/BitWidthWrapPinLaw", "reference", "(IJ)J"⟩ : MethodName) (head1 (Jvm.Cond.code (⟨"com/example/relations_to_proofs/relationstoproofs/model/BitWidthWrapPinLaw", "reference", "(IJ)J"⟩ : MethodName) method_2_code 9 (some .long) :: ws) ({ frames := 0, cells := 0, slots := 0, locals := 0 } : Room)) (fun aA uU => aA = #[(.int u), (.long q)] ∧ Z.Warmed39 uU.vm ∧ uU.heap = h0) (fun _ _ _ _ _ => True) (fun _ uU oO uU' => ∃ vV lL, oO = .returned vV ∧ QRef Z u q h0 n0 vV uU'.heap lL ∧ FrameEnd uU oO uU' lL ({ frames := 0, cells := 0, slots := 0, locals := 0 } : Room).cells ({ frames := 0, cells := 0, slots := 0, locals := 0 } : Room).slots) := by
  refine MetFree.of_bodySF (plainFor_of_name pn_2) hisR ?_
  intro p e s m args below meth c s₁ Bd hml0 hP hK
  obtain ⟨rfl, hZ, hh⟩ := hP
  have hx := Bd.exec
  have hby := Bd.bytes
  have hml : c.maxLocals = 9 := hml0
  have hown : s.vm.findClass "com/example/relations_to_proofs/relationstoproofs/model/BitWidthWrapPinLaw" = some m.cls := findClass_of_methodNamed Bd.named
  have hnm := (name_of_methodNamed Bd.named Bd.method).1
  have X0 : Stand p l e ({ frames := 0, cells := 0, slots := 0, locals := 0 } : Room) s m #[(.int u), (.long q)] below meth c s₁ [] 0 0 := Stand.of_body Bd
  have e0 : s₁.heap = h0 := by rw [← hh, Bd.state]; rfl
  have N0 := Fr.nil n0
  have pre0 : ∀ t, Steps p.tables e below (s₁.setTop (mkF m 0 #[.val (.int u), .val (.long q), .second, .unset, .unset, .unset, .unset, .unset, .unset] [])) t → Steps p.tables e below (s₁.setTop (entryFrame m #[(.int u), (.long q)] 9)) t := fun t kk => castTop (ef_rmRef m u q) kk
  have pre12 : ∀ t, Steps p.tables e below (s₁.setTop (mkF m 3 #[.val (.int u), .val (.long q), .second, .unset, .unset, .unset, .unset, .unset, .unset] [(.int (64 : Int32)), (.int u)])) t → Steps p.tables e below (s₁.setTop (entryFrame m #[(.int u), (.long q)] 9)) t := fun t kk => pre0 t (by
      show Steps p.tables e below (s₁.setTop (mkF m 0 #[.val (.int u), .val (.long q), .second, .unset, .unset, .unset, .unset, .unset, .unset] [])) _
      refine XS.iloadN X0.here hx rfl (hb hby d5_0) rfl ?_
      show Steps p.tables e below (s₁.setTop (mkF m 1 #[.val (.int u), .val (.long q), .second, .unset, .unset, .unset, .unset, .unset, .unset] [(.int u)])) _
      refine XS.bipush X0.here hx rfl (hb hby d5_1) ?_
      exact kk)
  by_cases hc13 : u = (64 : Int32)
  · have pre16 : ∀ t, Steps p.tables e below (s₁.setTop (mkF m 7 #[.val (.int u), .val (.long q), .second, .unset, .unset, .unset, .unset, .unset, .unset] [(.long q)])) t → Steps p.tables e below (s₁.setTop (entryFrame m #[(.int u), (.long q)] 9)) t := fun t kk => pre12 t (by
        show Steps p.tables e below (s₁.setTop (mkF m 3 #[.val (.int u), .val (.long q), .second, .unset, .unset, .unset, .unset, .unset, .unset] [(.int (64 : Int32)), (.int u)])) _
        refine XS.icmpNo X0.here hx rfl (hb hby d5_3) rfl (teq hc13).2 ?_
        show Steps p.tables e below (s₁.setTop (mkF m 6 #[.val (.int u), .val (.long q), .second, .unset, .unset, .unset, .unset, .unset, .unset] [])) _
        refine XS.lloadN X0.here hx rfl (hb hby d5_6) rfl ?_
        exact kk)
    obtain ⟨fs, hr, hrun, hended, hW, hsame⟩ := X0.leave (v := some (.long q)) (fun h => by rw [Bd.returns] at h; cases h)
    refine ⟨_, _, pre16 _ ?_, hrun, hended, _, _, rfl, ?_, ⟨_, rfl⟩, hW, hsame.mono (by decide) (by decide)⟩
    · show Steps p.tables e below (s₁.setTop (mkF m 7 #[.val (.int u), .val (.long q), .second, .unset, .unset, .unset, .unset, .unset, .unset] [(.long q)])) _
      exact retOut X0 hx Bd.returns rfl (Or.inr (Or.inl ⟨rfl, rfl, _, rfl⟩)) (hb hby d5_7) hr
    · show QRef Z u q h0 n0 _ s₁.heap _
      rw [e0]
      exact ⟨(by unfold own_ref; rw [if_pos hc13]), N0, rfl⟩
  · have pre14 : ∀ t, Steps p.tables e below (s₁.setTop (mkF m 31 #[.val (.int u), .val (.long q), .second, .val (.long ((1 : Int64) <<< (u &&& 0x3f).toInt64)), .second, .val (.long (q &&& (((1 : Int64) <<< (u &&& 0x3f).toInt64) - (1 : Int64)))), .second, .val (.long ((1 : Int64) <<< ((u - (1 : Int32)) &&& 0x3f).toInt64)), .second] [(.int (lcmpW (q &&& (((1 : Int64) <<< (u &&& 0x3f).toInt64) - (1 : Int64))) ((1 : Int64) <<< ((u - (1 : Int32)) &&& 0x3f).toInt64)))])) t → Steps p.tables e below (s₁.setTop (entryFrame m #[(.int u), (.long q)] 9)) t := fun t kk => pre12 t (by
        show Steps p.tables e below (s₁.setTop (mkF m 3 #[.val (.int u), .val (.long q), .second, .unset, .unset, .unset, .unset, .unset, .unset] [(.int (64 : Int32)), (.int u)])) _
        refine XS.icmpYes X0.here hx rfl (pc0 := 3) (pc' := 8) rfl (hb hby d5_3) rfl (feq hc13).2 (by decide) (by decide) ?_
        show Steps p.tables e below (s₁.setTop (mkF m 8 #[.val (.int u), .val (.long q), .second, .unset, .unset, .unset, .unset, .unset, .unset] [])) _
        refine XS.lconst X0.here hx rfl (hb hby d5_8) ?_
        show Steps p.tables e below (s₁.setTop (mkF m 9 #[.val (.int u), .val (.long q), .second, .unset, .unset, .unset, .unset, .unset, .unset] [(.long (1 : Int64))])) _
        refine XS.iloadN X0.here hx rfl (hb hby d5_9) rfl ?_
        show Steps p.tables e below (s₁.setTop (mkF m 10 #[.val (.int u), .val (.long q), .second, .unset, .unset, .unset, .unset, .unset, .unset] [(.int u), (.long (1 : Int64))])) _
        refine XS.lshl X0.here hx rfl (hb hby d5_10) rfl ?_
        show Steps p.tables e below (s₁.setTop (mkF m 11 #[.val (.int u), .val (.long q), .second, .unset, .unset, .unset, .unset, .unset, .unset] [(.long ((1 : Int64) <<< (u &&& 0x3f).toInt64))])) _
        refine XS.lstoreN X0.here hx rfl (hb hby d5_11) rfl (l' := #[.val (.int u), .val (.long q), .second, .val (.long ((1 : Int64) <<< (u &&& 0x3f).toInt64)), .second, .unset, .unset, .unset, .unset]) rfl ?_
        show Steps p.tables e below (s₁.setTop (mkF m 12 #[.val (.int u), .val (.long q), .second, .val (.long ((1 : Int64) <<< (u &&& 0x3f).toInt64)), .second, .unset, .unset, .unset, .unset] [])) _
        refine XS.lloadN X0.here hx rfl (hb hby d5_12) rfl ?_
        show Steps p.tables e below (s₁.setTop (mkF m 13 #[.val (.int u), .val (.long q), .second, .val (.long ((1 : Int64) <<< (u &&& 0x3f).toInt64)), .second, .unset, .unset, .unset, .unset] [(.long q)])) _
        refine XS.lloadN X0.here hx rfl (hb hby d5_13) rfl ?_
        show Steps p.tables e below (s₁.setTop (mkF m 14 #[.val (.int u), .val (.long q), .second, .val (.long ((1 : Int64) <<< (u &&& 0x3f).toInt64)), .second, .unset, .unset, .unset, .unset] [(.long ((1 : Int64) <<< (u &&& 0x3f).toInt64)), (.long q)])) _
        refine XS.lconst X0.here hx rfl (hb hby d5_14) ?_
        show Steps p.tables e below (s₁.setTop (mkF m 15 #[.val (.int u), .val (.long q), .second, .val (.long ((1 : Int64) <<< (u &&& 0x3f).toInt64)), .second, .unset, .unset, .unset, .unset] [(.long (1 : Int64)), (.long ((1 : Int64) <<< (u &&& 0x3f).toInt64)), (.long q)])) _
        refine XS.lsub X0.here hx rfl (hb hby d5_15) rfl ?_
        show Steps p.tables e below (s₁.setTop (mkF m 16 #[.val (.int u), .val (.long q), .second, .val (.long ((1 : Int64) <<< (u &&& 0x3f).toInt64)), .second, .unset, .unset, .unset, .unset] [(.long (((1 : Int64) <<< (u &&& 0x3f).toInt64) - (1 : Int64))), (.long q)])) _
        refine XS.land X0.here hx rfl (hb hby d5_16) rfl ?_
        show Steps p.tables e below (s₁.setTop (mkF m 17 #[.val (.int u), .val (.long q), .second, .val (.long ((1 : Int64) <<< (u &&& 0x3f).toInt64)), .second, .unset, .unset, .unset, .unset] [(.long (q &&& (((1 : Int64) <<< (u &&& 0x3f).toInt64) - (1 : Int64))))])) _
        refine XS.lstore X0.here hx rfl (hb hby d5_17) rfl (l' := #[.val (.int u), .val (.long q), .second, .val (.long ((1 : Int64) <<< (u &&& 0x3f).toInt64)), .second, .val (.long (q &&& (((1 : Int64) <<< (u &&& 0x3f).toInt64) - (1 : Int64)))), .second, .unset, .unset]) rfl ?_
        show Steps p.tables e below (s₁.setTop (mkF m 19 #[.val (.int u), .val (.long q), .second, .val (.long ((1 : Int64) <<< (u &&& 0x3f).toInt64)), .second, .val (.long (q &&& (((1 : Int64) <<< (u &&& 0x3f).toInt64) - (1 : Int64)))), .second, .unset, .unset] [])) _
        refine XS.lconst X0.here hx rfl (hb hby d5_19) ?_
        show Steps p.tables e below (s₁.setTop (mkF m 20 #[.val (.int u), .val (.long q), .second, .val (.long ((1 : Int64) <<< (u &&& 0x3f).toInt64)), .second, .val (.long (q &&& (((1 : Int64) <<< (u &&& 0x3f).toInt64) - (1 : Int64)))), .second, .unset, .unset] [(.long (1 : Int64))])) _
        refine XS.iloadN X0.here hx rfl (hb hby d5_20) rfl ?_
        show Steps p.tables e below (s₁.setTop (mkF m 21 #[.val (.int u), .val (.long q), .second, .val (.long ((1 : Int64) <<< (u &&& 0x3f).toInt64)), .second, .val (.long (q &&& (((1 : Int64) <<< (u &&& 0x3f).toInt64) - (1 : Int64)))), .second, .unset, .unset] [(.int u), (.long (1 : Int64))])) _
        refine XS.iconst X0.here hx rfl (hb hby d5_21) ?_
        show Steps p.tables e below (s₁.setTop (mkF m 22 #[.val (.int u), .val (.long q), .second, .val (.long ((1 : Int64) <<< (u &&& 0x3f).toInt64)), .second, .val (.long (q &&& (((1 : Int64) <<< (u &&& 0x3f).toInt64) - (1 : Int64)))), .second, .unset, .unset] [(.int (1 : Int32)), (.int u), (.long (1 : Int64))])) _
        refine XS.isub X0.here hx rfl (hb hby d5_22) rfl ?_
        show Steps p.tables e below (s₁.setTop (mkF m 23 #[.val (.int u), .val (.long q), .second, .val (.long ((1 : Int64) <<< (u &&& 0x3f).toInt64)), .second, .val (.long (q &&& (((1 : Int64) <<< (u &&& 0x3f).toInt64) - (1 : Int64)))), .second, .unset, .unset] [(.int (u - (1 : Int32))), (.long (1 : Int64))])) _
        refine XS.lshl X0.here hx rfl (hb hby d5_23) rfl ?_
        show Steps p.tables e below (s₁.setTop (mkF m 24 #[.val (.int u), .val (.long q), .second, .val (.long ((1 : Int64) <<< (u &&& 0x3f).toInt64)), .second, .val (.long (q &&& (((1 : Int64) <<< (u &&& 0x3f).toInt64) - (1 : Int64)))), .second, .unset, .unset] [(.long ((1 : Int64) <<< ((u - (1 : Int32)) &&& 0x3f).toInt64))])) _
        refine XS.lstore X0.here hx rfl (hb hby d5_24) rfl (l' := #[.val (.int u), .val (.long q), .second, .val (.long ((1 : Int64) <<< (u &&& 0x3f).toInt64)), .second, .val (.long (q &&& (((1 : Int64) <<< (u &&& 0x3f).toInt64) - (1 : Int64)))), .second, .val (.long ((1 : Int64) <<< ((u - (1 : Int32)) &&& 0x3f).toInt64)), .second]) rfl ?_
        show Steps p.tables e below (s₁.setTop (mkF m 26 #[.val (.int u), .val (.long q), .second, .val (.long ((1 : Int64) <<< (u &&& 0x3f).toInt64)), .second, .val (.long (q &&& (((1 : Int64) <<< (u &&& 0x3f).toInt64) - (1 : Int64)))), .second, .val (.long ((1 : Int64) <<< ((u - (1 : Int32)) &&& 0x3f).toInt64)), .second] [])) _
        refine XS.lload X0.here hx rfl (hb hby d5_26) rfl ?_
        show Steps p.tables e below (s₁.setTop (mkF m 28 #[.val (.int u), .val (.long q), .second, .val (.long ((1 : Int64) <<< (u &&& 0x3f).toInt64)), .second, .val (.long (q &&& (((1 : Int64) <<< (u &&& 0x3f).toInt64) - (1 : Int64)))), .second, .val (.long ((1 : Int64) <<< ((u - (1 : Int32)) &&& 0x3f).toInt64)), .second] [(.long (q &&& (((1 : Int64) <<< (u &&& 0x3f).toInt64) - (1 : Int64))))])) _
        refine XS.lload X0.here hx rfl (hb hby d5_28) rfl ?_
        show Steps p.tables e below (s₁.setTop (mkF m 30 #[.val (.int u), .val (.long q), .second, .val (.long ((1 : Int64) <<< (u &&& 0x3f).toInt64)), .second, .val (.long (q &&& (((1 : Int64) <<< (u &&& 0x3f).toInt64) - (1 : Int64)))), .second, .val (.long ((1 : Int64) <<< ((u - (1 : Int32)) &&& 0x3f).toInt64)), .second] [(.long ((1 : Int64) <<< ((u - (1 : Int32)) &&& 0x3f).toInt64)), (.long (q &&& (((1 : Int64) <<< (u &&& 0x3f).toInt64) - (1 : Int64))))])) _
        refine XS.lcmp X0.here hx rfl (hb hby d5_30) rfl ?_
        exact kk)
    by_cases hc15 : (q &&& (((1 : Int64) <<< (u &&& 0x3f).toInt64) - (1 : Int64))) < ((1 : Int64) <<< ((u - (1 : Int32)) &&& 0x3f).toInt64)
    · have pre17 : ∀ t, Steps p.tables e below (s₁.setTop (mkF m 41 #[.val (.int u), .val (.long q), .second, .val (.long ((1 : Int64) <<< (u &&& 0x3f).toInt64)), .second, .val (.long (q &&& (((1 : Int64) <<< (u &&& 0x3f).toInt64) - (1 : Int64)))), .second, .val (.long ((1 : Int64) <<< ((u - (1 : Int32)) &&& 0x3f).toInt64)), .second] [(.long (q &&& (((1 : Int64) <<< (u &&& 0x3f).toInt64) - (1 : Int64))))])) t → Steps p.tables e below (s₁.setTop (entryFrame m #[(.int u), (.long q)] 9)) t := fun t kk => pre14 t (by
          show Steps p.tables e below (s₁.setTop (mkF m 31 #[.val (.int u), .val (.long q), .second, .val (.long ((1 : Int64) <<< (u &&& 0x3f).toInt64)), .second, .val (.long (q &&& (((1 : Int64) <<< (u &&& 0x3f).toInt64) - (1 : Int64)))), .second, .val (.long ((1 : Int64) <<< ((u - (1 : Int32)) &&& 0x3f).toInt64)), .second] [(.int (lcmpW (q &&& (((1 : Int64) <<< (u &&& 0x3f).toInt64) - (1 : Int64))) ((1 : Int64) <<< ((u - (1 : Int32)) &&& 0x3f).toInt64)))])) _
          refine XS.ifYes X0.here hx rfl (pc0 := 31) (pc' := 39) rfl (hb hby d5_31) rfl (Jvm.Free.XT.ll_lt_t hc15) (by decide) (by decide) ?_
          show Steps p.tables e below (s₁.setTop (mkF m 39 #[.val (.int u), .val (.long q), .second, .val (.long ((1 : Int64) <<< (u &&& 0x3f).toInt64)), .second, .val (.long (q &&& (((1 : Int64) <<< (u &&& 0x3f).toInt64) - (1 : Int64)))), .second, .val (.long ((1 : Int64) <<< ((u - (1 : Int32)) &&& 0x3f).toInt64)), .second] [])) _
          refine XS.lload X0.here hx rfl (hb hby d5_39) rfl ?_
          exact kk)
      obtain ⟨fs, hr, hrun, hended, hW, hsame⟩ := X0.leave (v := some (.long (q &&& (((1 : Int64) <<< (u &&& 0x3f).toInt64) - (1 : Int64))))) (fun h => by rw [Bd.returns] at h; cases h)
      refine ⟨_, _, pre17 _ ?_, hrun, hended, _, _, rfl, ?_, ⟨_, rfl⟩, hW, hsame.mono (by decide) (by decide)⟩
      · show Steps p.tables e below (s₁.setTop (mkF m 41 #[.val (.int u), .val (.long q), .second, .val (.long ((1 : Int64) <<< (u &&& 0x3f).toInt64)), .second, .val (.long (q &&& (((1 : Int64) <<< (u &&& 0x3f).toInt64) - (1 : Int64)))), .second, .val (.long ((1 : Int64) <<< ((u - (1 : Int32)) &&& 0x3f).toInt64)), .second] [(.long (q &&& (((1 : Int64) <<< (u &&& 0x3f).toInt64) - (1 : Int64))))])) _
        exact retOut X0 hx Bd.returns rfl (Or.inr (Or.inl ⟨rfl, rfl, _, rfl⟩)) (hb hby d5_41) hr
      · show QRef Z u q h0 n0 _ s₁.heap _
        rw [e0]
        exact ⟨(by unfold own_ref; rw [if_neg hc13, if_pos hc15]), N0, rfl⟩
    · have pre18 : ∀ t, Steps p.tables e below (s₁.setTop (mkF m 38 #[.val (.int u), .val (.long q), .second, .val (.long ((1 : Int64) <<< (u &&& 0x3f).toInt64)), .second, .val (.long (q &&& (((1 : Int64) <<< (u &&& 0x3f).toInt64) - (1 : Int64)))), .second, .val (.long ((1 : Int64) <<< ((u - (1 : Int32)) &&& 0x3f).toInt64)), .second] [(.long ((q &&& (((1 : Int64) <<< (u &&& 0x3f).toInt64) - (1 : Int64))) - ((1 : Int64) <<< (u &&& 0x3f).toInt64)))])) t → Steps p.tables e below (s₁.setTop (entryFrame m #[(.int u), (.long q)] 9)) t := fun t kk => pre14 t (by
          show Steps p.tables e below (s₁.setTop (mkF m 31 #[.val (.int u), .val (.long q), .second, .val (.long ((1 : Int64) <<< (u &&& 0x3f).toInt64)), .second, .val (.long (q &&& (((1 : Int64) <<< (u &&& 0x3f).toInt64) - (1 : Int64)))), .second, .val (.long ((1 : Int64) <<< ((u - (1 : Int32)) &&& 0x3f).toInt64)), .second] [(.int (lcmpW (q &&& (((1 : Int64) <<< (u &&& 0x3f).toInt64) - (1 : Int64))) ((1 : Int64) <<< ((u - (1 : Int32)) &&& 0x3f).toInt64)))])) _
          refine XS.ifNo X0.here hx rfl (hb hby d5_31) rfl (Jvm.Free.XT.ll_lt_f hc15) ?_
          show Steps p.tables e below (s₁.setTop (mkF m 34 #[.val (.int u), .val (.long q), .second, .val (.long ((1 : Int64) <<< (u &&& 0x3f).toInt64)), .second, .val (.long (q &&& (((1 : Int64) <<< (u &&& 0x3f).toInt64) - (1 : Int64)))), .second, .val (.long ((1 : Int64) <<< ((u - (1 : Int32)) &&& 0x3f).toInt64)), .second] [])) _
          refine XS.lload X0.here hx rfl (hb hby d5_34) rfl ?_
          show Steps p.tables e below (s₁.setTop (mkF m 36 #[.val (.int u), .val (.long q), .second, .val (.long ((1 : Int64) <<< (u &&& 0x3f).toInt64)), .second, .val (.long (q &&& (((1 : Int64) <<< (u &&& 0x3f).toInt64) - (1 : Int64)))), .second, .val (.long ((1 : Int64) <<< ((u - (1 : Int32)) &&& 0x3f).toInt64)), .second] [(.long (q &&& (((1 : Int64) <<< (u &&& 0x3f).toInt64) - (1 : Int64))))])) _
          refine XS.lloadN X0.here hx rfl (hb hby d5_36) rfl ?_
          show Steps p.tables e below (s₁.setTop (mkF m 37 #[.val (.int u), .val (.long q), .second, .val (.long ((1 : Int64) <<< (u &&& 0x3f).toInt64)), .second, .val (.long (q &&& (((1 : Int64) <<< (u &&& 0x3f).toInt64) - (1 : Int64)))), .second, .val (.long ((1 : Int64) <<< ((u - (1 : Int32)) &&& 0x3f).toInt64)), .second] [(.long ((1 : Int64) <<< (u &&& 0x3f).toInt64)), (.long (q &&& (((1 : Int64) <<< (u &&& 0x3f).toInt64) - (1 : Int64))))])) _
          refine XS.lsub X0.here hx rfl (hb hby d5_37) rfl ?_
          exact kk)
      obtain ⟨fs, hr, hrun, hended, hW, hsame⟩ := X0.leave (v := some (.long ((q &&& (((1 : Int64) <<< (u &&& 0x3f).toInt64) - (1 : Int64))) - ((1 : Int64) <<< (u &&& 0x3f).toInt64)))) (fun h => by rw [Bd.returns] at h; cases h)
      refine ⟨_, _, pre18 _ ?_, hrun, hended, _, _, rfl, ?_, ⟨_, rfl⟩, hW, hsame.mono (by decide) (by decide)⟩
      · show Steps p.tables e below (s₁.setTop (mkF m 38 #[.val (.int u), .val (.long q), .second, .val (.long ((1 : Int64) <<< (u &&& 0x3f).toInt64)), .second, .val (.long (q &&& (((1 : Int64) <<< (u &&& 0x3f).toInt64) - (1 : Int64)))), .second, .val (.long ((1 : Int64) <<< ((u - (1 : Int32)) &&& 0x3f).toInt64)), .second] [(.long ((q &&& (((1 : Int64) <<< (u &&& 0x3f).toInt64) - (1 : Int64))) - ((1 : Int64) <<< (u &&& 0x3f).toInt64)))])) _
        exact retOut X0 hx Bd.returns rfl (Or.inr (Or.inl ⟨rfl, rfl, _, rfl⟩)) (hb hby d5_38) hr
      · show QRef Z u q h0 n0 _ s₁.heap _
        rw [e0]
        exact ⟨(by unfold own_ref; rw [if_neg hc13, if_neg hc15]), N0, rfl⟩
theorem own_bits (b : Int32) : ∃ n : Nat, 1 ≤ n ∧ n ≤ 64 ∧ (1 : Int32) + ((b &&& (2147483647 : Int32)) % (64 : Int32)) = Int32.ofNat n := by
  have e : (b &&& (2147483647 : Int32)).toInt = b.toInt % 2 ^ 31 := Jvm.Kit.i32_mask b 2147483647 (k := 31) (by decide) (by decide)
  have e64 : (64 : Int32).toInt = 64 := by decide
  have e1 : (1 : Int32).toInt = 1 := by decide
  have r : ((b &&& (2147483647 : Int32)) % (64 : Int32)).toInt = (b &&& (2147483647 : Int32)).toInt % 64 := by rw [Jvm.Kit.i32_rem_nonneg (by rw [e]; omega), e64]
  refine ⟨(1 + (b &&& (2147483647 : Int32)).toInt % 64).toNat, by omega, by omega, ?_⟩
  rw [← Int32.toInt_inj, Jvm.Kit.i32_add (by omega) (by omega), r, e1, Int32.toInt_ofNat_of_lt (by omega)]
  omega
theorem own_sh : ∀ n : Nat, n < 65 → 1 ≤ n → (((((64 : Int32) - Int32.ofNat n) &&& 0x3f).toInt64).toBitVec.smod 64).toNat = 64 - n := by decide +kernel
theorem own_cmp : ∀ n : Nat, n < 65 → 1 ≤ n → ¬ (Int32.ofNat n < (1 : Int32)) ∧ ¬ ((64 : Int32) < Int32.ofNat n) := by decide +kernel
theorem own_m1 : ∀ n : Nat, n < 64 → 1 ≤ n → ¬ Int32.ofNat n = (64 : Int32) ∧ (((1 : Int64) <<< ((Int32.ofNat n) &&& 0x3f).toInt64) - (1 : Int64)).toBitVec.toNat = 2 ^ n - 1 ∧ ((1 : Int64) <<< ((Int32.ofNat n) &&& 0x3f).toInt64).toInt = ((2 : Int) ^ n).bmod (2 ^ 64) ∧ ((1 : Int64) <<< (((Int32.ofNat n) - (1 : Int32)) &&& 0x3f).toInt64).toInt = (2 : Int) ^ (n - 1) := by decide +kernel
theorem own_pw : ∀ n : Nat, n < 64 → 1 ≤ n → (2 : Int) ^ n = 2 * 2 ^ (n - 1) ∧ (2 : Int) ^ n ≤ 2 ^ 63 ∧ (0 : Int) < 2 ^ (n - 1) := by decide +kernel
theorem own_pk : ∀ n : Nat, n < 65 → 1 ≤ n → ((2 : Int) ^ (n - 1) * 2) * 2 ^ (64 - n) = 2 ^ 64 ∧ (0 : Int) < 2 ^ (64 - n) ∧ (0 : Int) < 2 ^ (n - 1) := by decide +kernel
theorem own_bm (x M K : Int) (hM : 0 < M) (hK : 0 < K) (h : (M * 2) * K = 2 ^ 64) : ((x * K).bmod (2 ^ 64)) / K = (if x % (M * 2) < M then x % (M * 2) else x % (M * 2) - M * 2) := by
  rw [Int.bmod_def]
  have e : (x * K) % ((2 ^ 64 : Nat) : Int) = (x % (M * 2)) * K := by
    have : ((2 ^ 64 : Nat) : Int) = (M * 2) * K := by rw [h]; rfl
    rw [this, Int.mul_comm x K, Int.mul_comm (M * 2) K, Int.mul_emod_mul_of_pos _ _ hK, Int.mul_comm]
  rw [e]
  have h2 : (((2 ^ 64 : Nat) : Int) + 1) / 2 = M * K := by
    have : ((2 ^ 64 : Nat) : Int) = 2 * (M * K) := by rw [show ((2 ^ 64 : Nat) : Int) = 2 ^ 64 from rfl, ← h, Int.mul_comm M 2, Int.mul_assoc]
    omega
  rw [h2]
  by_cases c : x % (M * 2) < M
  · rw [if_pos c, if_pos (Int.mul_lt_mul_of_pos_right c hK), Int.mul_ediv_cancel _ (by omega)]
  · rw [if_neg c, if_neg (fun z => c (Int.lt_of_mul_lt_mul_right z (by omega)))]
    have : x % (M * 2) * K - ((2 ^ 64 : Nat) : Int) = (x % (M * 2) - M * 2) * K := by
      rw [Int.sub_mul, h]; rfl
    rw [this, Int.mul_ediv_cancel _ (by omega)]
theorem own_shl (x n : Int64) {k : Nat} (hn : (n.toBitVec.smod 64).toNat = k) : (x <<< n).toInt = (x.toInt * 2 ^ k).bmod (2 ^ 64) := by
  rw [← Int64.toInt_toBitVec, Int64.toBitVec_shiftLeft, BitVec.shiftLeft_eq', hn, BitVec.toInt_shiftLeft]
  rw [Nat.shiftLeft_eq, ← Int64.toInt_toBitVec, BitVec.toInt_eq_toNat_bmod]
  simp [Int.bmod_mul_bmod]
theorem own_w (n : Nat) (h1 : 1 ≤ n) (h2 : n ≤ 64) (q : Int64) : own_wrap q (Int32.ofNat n) = own_ref (Int32.ofNat n) q := by
  obtain ⟨k1, k2, k3⟩ := own_pk n (by omega) h1
  have sh := own_sh n (by omega) h1
  have L : (own_wrap q (Int32.ofNat n)).toInt = (if q.toInt % (2 ^ (n - 1) * 2) < 2 ^ (n - 1) then q.toInt % (2 ^ (n - 1) * 2) else q.toInt % (2 ^ (n - 1) * 2) - 2 ^ (n - 1) * 2) := by
    unfold own_wrap
    rw [Jvm.Kit.i64_shr _ _ sh, own_shl _ _ sh, own_bm q.toInt _ _ k3 k2 k1]
  rw [← Int64.toInt_inj, L]
  have b1 := q.toInt_lt
  have b2 := q.le_toInt
  by_cases hn : n = 64
  · subst hn
    have R : own_ref (Int32.ofNat 64) q = q := by unfold own_ref; exact if_pos (by decide)
    have e : (2 : Int) ^ (64 - 1) = 9223372036854775808 := by decide
    rw [R, e]
    split <;> omega
  · obtain ⟨m1, m2, m3, m4⟩ := own_m1 n (by omega) h1
    obtain ⟨p1, p2, p3⟩ := own_pw n (by omega) h1
    have lo : (q &&& (((1 : Int64) <<< ((Int32.ofNat n) &&& 0x3f).toInt64) - (1 : Int64))).toInt = q.toInt % 2 ^ n := Jvm.Kit.i64_mask q _ (by omega) m2
    have r0 : 0 ≤ q.toInt % 2 ^ n := Int.emod_nonneg _ (by omega)
    have r1 : q.toInt % 2 ^ n < 2 ^ n := Int.emod_lt_of_pos _ (by omega)
    unfold own_ref
    rw [if_neg m1, show (2 : Int) ^ (n - 1) * 2 = 2 ^ n by rw [p1, Int.mul_comm]]
    by_cases c : q.toInt % 2 ^ n < 2 ^ (n - 1)
    · rw [if_pos c, if_pos (by rw [Int64.lt_iff_toInt_lt, lo, m4]; exact c), lo]
    · rw [if_neg c, if_neg (by rw [Int64.lt_iff_toInt_lt, lo, m4]; exact c), Int64.toInt_sub, lo, m3, Int.sub_bmod_bmod]
      exact (Jvm.Kit.bmod64 (by omega) (by omega)).symm
theorem own_lo (b : Int32) (q : Int64) : ¬ ((1 : Int32) + ((b &&& (2147483647 : Int32)) % (64 : Int32)) < (1 : Int32)) ∧ ¬ ((64 : Int32) < (1 : Int32) + ((b &&& (2147483647 : Int32)) % (64 : Int32))) ∧ own_wrap q ((1 : Int32) + ((b &&& (2147483647 : Int32)) % (64 : Int32))) = own_ref ((1 : Int32) + ((b &&& (2147483647 : Int32)) % (64 : Int32))) q := by
  obtain ⟨n, h1, h2, e⟩ := own_bits b
  rw [e]
  exact ⟨(own_cmp n (by omega) h1).1, (own_cmp n (by omega) h1).2, own_w n h1 h2 q⟩

theorem pd_1 : parseMethodDescriptor "(I)V" = some ⟨[.int], none⟩ := by decide +kernel
theorem pd_2 : parseMethodDescriptor "(J)J" = some ⟨[.long], some .long⟩ := by decide +kernel
theorem pd_3 : parseMethodDescriptor "(IJ)J" = some ⟨[.int, .long], some .long⟩ := by decide +kernel
theorem ef_rm0 (m : MethodId) (x0 : Int32) (x1 : Int64) : entryFrame m #[(.int x0), (.long x1)] maxLocals = mkF m 0 #[.val (.int x0), .val (.long x1), .second, .unset, .unset, .unset, .unset] [] := by first | (simp [entryFrame, mkF, argsToLocals, Value.category, maxLocals]; done) | rfl
def Q0 (Z : State) (p0 : Int32) (p1 : Int64) (h0 : Heap) (n0 : Nat) (v : Option Value) (h : Heap) (L : List Loc) : Prop := v = some (.int (1 : Int32)) ∧ Fr n0 L ∧ Keep h0 h []
set_option maxRecDepth 65536 in
set_option maxHeartbeats 40000000 in
theorem rm0 (l : Launch) (Z : State) (a0 : Array Value) (hw : ∀ d ∈ tables_1, d.before a0 Z = true) (ws : List Jvm.Cond) (p0 : Int32) (p1 : Int64) (h0 : Heap) (n0 : Nat) (Z0 : n0 ≤ h0.size)  :
    MetFree l x (head1 (Jvm.Cond.code x code maxLocals ret :: ws) room_1) (fun aA uU => aA = #[(.int p0), (.long p1)] ∧ Z.Warmed39 uU.vm ∧ uU.heap = h0) (fun _ _ _ _ _ => True) (fun _ uU oO uU' => ∃ vV lL, oO = .returned vV ∧ Q0 Z p0 p1 h0 n0 vV uU'.heap lL ∧ FrameEnd uU oO uU' lL room_1.cells room_1.slots) := by
  refine MetFree.of_bodySF (plainFor_of_name pn_2) hisR ?_
  intro p e s m args below meth c s₁ Bd hml0 hP hK
  obtain ⟨rfl, hZ, hh⟩ := hP
  have hx := Bd.exec
  have hby := Bd.bytes
  have hml : c.maxLocals = 7 := hml0
  have hown : s.vm.findClass "com/example/relations_to_proofs/relationstoproofs/model/BitWidthWrapPinLaw" = some m.cls := findClass_of_methodNamed Bd.named
  have hnm := (name_of_methodNamed Bd.named Bd.method).1
  have X0 : Stand p l e room_1 s m #[(.int p0), (.long p1)] below meth c s₁ [] 0 0 := Stand.of_body Bd
  have e0 : s₁.heap = h0 := by rw [← hh, Bd.state]; rfl
  have N0 := Fr.nil n0
  have pre0 : ∀ t, Steps p.tables e below (s₁.setTop (mkF m 0 #[.val (.int p0), .val (.long p1), .second, .unset, .unset, .unset, .unset] [])) t → Steps p.tables e below (s₁.setTop (entryFrame m #[(.int p0), (.long p1)] maxLocals)) t := fun t kk => castTop (ef_rm0 m p0 p1) kk
  obtain ⟨ha, hb2, hc0⟩ := own_lo p0 p1
  obtain ⟨T19, h19, X19, e19, E19, A19, D19, -, st19⟩ := newO X0 hx hZ hown (hw _ (List.mem_of_getElem? (i := 1) rfl)) (hw _ (List.mem_of_getElem? (i := 2) rfl)) (hw _ (List.mem_of_getElem? (i := 3) rfl)) e0 (g := (mkF m 10 #[.val (.int p0), .val (.long p1), .second, .val (.int ((1 : Int32) + ((p0 &&& (2147483647 : Int32)) % (64 : Int32)))), .unset, .unset, .unset] [])) rfl (hb hby at_10) (by decide) (by decide)
  obtain ⟨b19, gq19⟩ : ∃ z, z = h0.size := ⟨_, rfl⟩
  rw [← gq19] at A19 D19 st19
  have g_b19 : n0 ≤ b19 := Nat.le_trans Z0 (Nat.le_of_eq gq19.symm)
  have sz_b19 : h0.size ≤ b19 := Nat.le_trans (Nat.le_refl _) (Nat.le_of_eq gq19.symm)
  have K20 : Keep h0 h19 [] := (Keep.refl h0 _).ext E19
  have F21 : Fld Z h19 b19 "com/example/relations_to_proofs/relationstoproofs/model/BitWidth" "bits" "I" (.int (0 : Int32)) := D19 (Or.inr (hw _ (List.mem_of_getElem? (i := 16) rfl))) (ty := .int) (by decide)
  have hp23 : ¬ (((1 : Int32) + ((p0 &&& (2147483647 : Int32)) % (64 : Int32))) < (1 : Int32)) := ha
  have hp24 : ¬ ((64 : Int32) < ((1 : Int32) + ((p0 &&& (2147483647 : Int32)) % (64 : Int32)))) := hb2
  obtain ⟨_, _, ⟨T22, L22, k22, n22⟩, -, X22, ⟨Lc22, hQ22, l22, y22, z22⟩, st22⟩ := X19.specialBack hx (y := (⟨"com/example/relations_to_proofs/relationstoproofs/model/BitWidth", "<init>", "(I)V"⟩ : MethodName)) rfl hown (mvT hZ (hw _ (List.mem_of_getElem? (i := 4) rfl))) (mvT hZ (hw _ (List.mem_of_getElem? (i := 5) rfl))) (mvT hZ (hw _ (List.mem_of_getElem? (i := 6) rfl))) (by decide) (backOf (W := 1) (rmInit l Z a0 hw [] b19 ((1 : Int32) + ((p0 &&& (2147483647 : Int32)) % (64 : Int32))) h19 n0 (Nat.le_trans Z0 K20.1) A19 F21 hp23 hp24 g_b19) hZ (hw _ (List.mem_of_getElem? (i := 6) rfl)) (hw _ (List.mem_of_getElem? (i := 3) rfl)) (by decide) (by decide)) (g := (mkF m 15 #[.val (.int p0), .val (.long p1), .second, .val (.int ((1 : Int32) + ((p0 &&& (2147483647 : Int32)) % (64 : Int32)))), .unset, .unset, .unset] [(.int ((1 : Int32) + ((p0 &&& (2147483647 : Int32)) % (64 : Int32)))), (.ref b19), (.ref b19)])) rfl (by rw [hml]; rfl) (Steps.refl _) (a := b19) (argsL := [(.int ((1 : Int32) + ((p0 &&& (2147483647 : Int32)) % (64 : Int32))))]) (rest := [(.ref b19)]) (lenOf pd_1 rfl) rfl (by show 2 * 0 + _ ≤ _; exact Nat.le_of_eq rfl) (hb hby at_15) (fun _ _ => ⟨rfl, e19, (by decide : 1 + 0 ≤ _), (by decide : 1 + 0 ≤ _)⟩)
  dsimp only [Pt.U, Pt.locs, Pt.cells, Pt.slots] at X22 l22 y22 z22 st22 hQ22
  subst l22 y22 z22
  obtain ⟨rfl, N22q, K22q, P22_0, P22_1⟩ := hQ22
  have N22 := Fr.app N0 N22q
  have Ex25 : Exa Z T22.heap b19 "com/example/relations_to_proofs/relationstoproofs/model/BitWidth" := (A19.keep K22q)
  have K26 : Keep h0 T22.heap [] := K20.trans K22q (allS (Or.inr sz_b19) all0)
  obtain ⟨cq27, kq27, q27a, q27b, q27c⟩ := isOf hZ rfl P22_0
  obtain ⟨_, _, ⟨T27, L27, k27, n27⟩, -, X27, ⟨Lc27, hQ27, l27, y27, z27⟩, st27⟩ := X22.virtualBack hx (y := (⟨"com/example/relations_to_proofs/relationstoproofs/model/BitWidth", "wrap", "(J)J"⟩ : MethodName)) (z := (⟨"com/example/relations_to_proofs/relationstoproofs/model/BitWidth", "wrap", "(J)J"⟩ : MethodName)) hown (mvT hZ (hw _ (List.mem_of_getElem? (i := 17) rfl))) (mvT hZ (hw _ (List.mem_of_getElem? (i := 18) rfl))) (notFace_of_selects (args := #[]) (mvT hZ (hw _ (List.mem_of_getElem? (i := 20) rfl)))) (mvT hZ (hw _ (List.mem_of_getElem? (i := 20) rfl))) (mvT hZ (hw _ (List.mem_of_getElem? (i := 19) rfl))) (by decide) (backOf (W := 0) (rmWrap l Z a0 hw [] b19 p1 ((1 : Int32) + ((p0 &&& (2147483647 : Int32)) % (64 : Int32))) T22.heap n0 (Nat.le_trans Z0 K26.1) P22_1) hZ (hw _ (List.mem_of_getElem? (i := 21) rfl)) (hw _ (List.mem_of_getElem? (i := 3) rfl)) (by decide) (by decide)) q27a q27c (g := (mkF m 23 #[.val (.int p0), .val (.long p1), .second, .val (.int ((1 : Int32) + ((p0 &&& (2147483647 : Int32)) % (64 : Int32)))), .val (.ref b19), .unset, .unset] [(.long p1), (.ref b19)])) rfl (by rw [hml]; rfl) (Steps.refl _) (argsL := [(.long p1)]) (rest := []) (lenOf pd_2 rfl) rfl (by show 2 * 0 + _ ≤ _; exact Nat.le_of_eq rfl) (hb hby at_23) (fun _ _ => ⟨rfl, rfl, (by decide : 1 + 0 ≤ _), (by decide : 1 + 0 ≤ _)⟩)
  dsimp only [Pt.U, Pt.locs, Pt.cells, Pt.slots] at X27 l27 y27 z27 st27 hQ27
  subst l27 y27 z27
  obtain ⟨rfl, N27q, e27⟩ := hQ27
  have N27 := Fr.app N22 N27q
  obtain ⟨_, _, ⟨T28, L28, k28, n28⟩, -, X28, ⟨Lc28, hQ28, l28, y28, z28⟩, st28⟩ := Jvm.LawKit.callS X27 hx (y := (⟨"com/example/relations_to_proofs/relationstoproofs/model/BitWidthWrapPinLaw", "reference", "(IJ)J"⟩ : MethodName)) hown (mvT hZ (hw _ (List.mem_of_getElem? (i := 22) rfl))) (mvT hZ (hw _ (List.mem_of_getElem? (i := 23) rfl))) (mvT hZ (hw _ (List.mem_of_getElem? (i := 24) rfl))) (mvT hZ (hw _ (List.mem_of_getElem? (i := 25) rfl))) (by decide) (backOf (W := 2) (rmRef l Z a0 hw [] ((1 : Int32) + ((p0 &&& (2147483647 : Int32)) % (64 : Int32))) p1 T22.heap n0 (Nat.le_trans Z0 K26.1)) hZ (hw _ (List.mem_of_getElem? (i := 25) rfl)) (hw _ (List.mem_of_getElem? (i := 24) rfl)) (by decide) (by decide)) (g := (mkF m 32 #[.val (.int p0), .val (.long p1), .second, .val (.int ((1 : Int32) + ((p0 &&& (2147483647 : Int32)) % (64 : Int32)))), .val (.ref b19), .val (.long (own_wrap p1 ((1 : Int32) + ((p0 &&& (2147483647 : Int32)) % (64 : Int32))))), .second] [(.long p1), (.int ((1 : Int32) + ((p0 &&& (2147483647 : Int32)) % (64 : Int32)))), (.long (own_wrap p1 ((1 : Int32) + ((p0 &&& (2147483647 : Int32)) % (64 : Int32)))))])) rfl (by rw [hml]; rfl) (argsL := [(.int ((1 : Int32) + ((p0 &&& (2147483647 : Int32)) % (64 : Int32)))), (.long p1)]) (rest := [(.long (own_wrap p1 ((1 : Int32) + ((p0 &&& (2147483647 : Int32)) % (64 : Int32)))))]) (lenOf pd_3 rfl) rfl (by show 2 * 0 + _ ≤ _; exact Nat.le_of_eq rfl) (hb hby at_32) (fun _ _ => ⟨rfl, e27, (by decide : 1 + 0 ≤ _), (by decide : 1 + 0 ≤ _)⟩)
  dsimp only [Pt.U, Pt.locs, Pt.cells, Pt.slots] at X28 l28 y28 z28 st28 hQ28
  subst l28 y28 z28
  obtain ⟨rfl, N28q, e28⟩ := hQ28
  have N28 := Fr.app N27 N28q
  have hb29 : (own_wrap p1 ((1 : Int32) + ((p0 &&& (2147483647 : Int32)) % (64 : Int32)))) = (own_ref ((1 : Int32) + ((p0 &&& (2147483647 : Int32)) % (64 : Int32))) p1) := hc0
  have pre30 : ∀ t, Steps p.tables e below (T28.setTop (mkF m 44 #[.val (.int p0), .val (.long p1), .second, .val (.int ((1 : Int32) + ((p0 &&& (2147483647 : Int32)) % (64 : Int32)))), .val (.ref b19), .val (.long (own_wrap p1 ((1 : Int32) + ((p0 &&& (2147483647 : Int32)) % (64 : Int32))))), .second] [(.int (1 : Int32))])) t → Steps p.tables e below (s₁.setTop (entryFrame m #[(.int p0), (.long p1)] maxLocals)) t := fun t kk => pre0 t (by
      show Steps p.tables e below (s₁.setTop (mkF m 0 #[.val (.int p0), .val (.long p1), .second, .unset, .unset, .unset, .unset] [])) _
      refine XS.iconst X0.here hx rfl (hb hby at_0) ?_
      show Steps p.tables e below (s₁.setTop (mkF m 1 #[.val (.int p0), .val (.long p1), .second, .unset, .unset, .unset, .unset] [(.int (1 : Int32))])) _
      refine XS.iloadN X0.here hx rfl (hb hby at_1) rfl ?_
      show Steps p.tables e below (s₁.setTop (mkF m 2 #[.val (.int p0), .val (.long p1), .second, .unset, .unset, .unset, .unset] [(.int p0), (.int (1 : Int32))])) _
      refine X0.ldcInt hx hown (mvT hZ (hw _ (List.mem_of_getElem? (i := 0) rfl))) (g := (mkF m 2 #[.val (.int p0), .val (.long p1), .second, .unset, .unset, .unset, .unset] [(.int p0), (.int (1 : Int32))])) rfl (hb hby at_2) _ ?_
      show Steps p.tables e below (s₁.setTop (mkF m 4 #[.val (.int p0), .val (.long p1), .second, .unset, .unset, .unset, .unset] [(.int (2147483647 : Int32)), (.int p0), (.int (1 : Int32))])) _
      refine XS.iand X0.here hx rfl (hb hby at_4) rfl ?_
      show Steps p.tables e below (s₁.setTop (mkF m 5 #[.val (.int p0), .val (.long p1), .second, .unset, .unset, .unset, .unset] [(.int (p0 &&& (2147483647 : Int32))), (.int (1 : Int32))])) _
      refine XS.bipush X0.here hx rfl (hb hby at_5) ?_
      show Steps p.tables e below (s₁.setTop (mkF m 7 #[.val (.int p0), .val (.long p1), .second, .unset, .unset, .unset, .unset] [(.int (64 : Int32)), (.int (p0 &&& (2147483647 : Int32))), (.int (1 : Int32))])) _
      refine iremM X0 hx rfl (hb hby at_7) rfl (by decide) ?_
      show Steps p.tables e below (s₁.setTop (mkF m 8 #[.val (.int p0), .val (.long p1), .second, .unset, .unset, .unset, .unset] [(.int ((p0 &&& (2147483647 : Int32)) % (64 : Int32))), (.int (1 : Int32))])) _
      refine XS.iadd X0.here hx rfl (hb hby at_8) rfl ?_
      show Steps p.tables e below (s₁.setTop (mkF m 9 #[.val (.int p0), .val (.long p1), .second, .unset, .unset, .unset, .unset] [(.int ((1 : Int32) + ((p0 &&& (2147483647 : Int32)) % (64 : Int32))))])) _
      refine XS.istoreN X0.here hx rfl (hb hby at_9) rfl (l' := #[.val (.int p0), .val (.long p1), .second, .val (.int ((1 : Int32) + ((p0 &&& (2147483647 : Int32)) % (64 : Int32)))), .unset, .unset, .unset]) rfl ?_
      show Steps p.tables e below (s₁.setTop (mkF m 10 #[.val (.int p0), .val (.long p1), .second, .val (.int ((1 : Int32) + ((p0 &&& (2147483647 : Int32)) % (64 : Int32)))), .unset, .unset, .unset] [])) _
      refine st19 _ ?_
      show Steps p.tables e below (T19.setTop (mkF m 13 #[.val (.int p0), .val (.long p1), .second, .val (.int ((1 : Int32) + ((p0 &&& (2147483647 : Int32)) % (64 : Int32)))), .unset, .unset, .unset] [(.ref b19)])) _
      refine XS.dup X19.here hx rfl (hb hby at_13) rfl rfl ?_
      show Steps p.tables e below (T19.setTop (mkF m 14 #[.val (.int p0), .val (.long p1), .second, .val (.int ((1 : Int32) + ((p0 &&& (2147483647 : Int32)) % (64 : Int32)))), .unset, .unset, .unset] [(.ref b19), (.ref b19)])) _
      refine XS.iloadN X19.here hx rfl (hb hby at_14) rfl ?_
      show Steps p.tables e below (T19.setTop (mkF m 15 #[.val (.int p0), .val (.long p1), .second, .val (.int ((1 : Int32) + ((p0 &&& (2147483647 : Int32)) % (64 : Int32)))), .unset, .unset, .unset] [(.int ((1 : Int32) + ((p0 &&& (2147483647 : Int32)) % (64 : Int32)))), (.ref b19), (.ref b19)])) _
      refine st22.trans ?_
      show Steps p.tables e below (T22.setTop (mkF m 18 #[.val (.int p0), .val (.long p1), .second, .val (.int ((1 : Int32) + ((p0 &&& (2147483647 : Int32)) % (64 : Int32)))), .unset, .unset, .unset] [(.ref b19)])) _
      refine XS.astore X22.here hx rfl (hb hby at_18) rfl rfl (l' := #[.val (.int p0), .val (.long p1), .second, .val (.int ((1 : Int32) + ((p0 &&& (2147483647 : Int32)) % (64 : Int32)))), .val (.ref b19), .unset, .unset]) rfl ?_
      show Steps p.tables e below (T22.setTop (mkF m 20 #[.val (.int p0), .val (.long p1), .second, .val (.int ((1 : Int32) + ((p0 &&& (2147483647 : Int32)) % (64 : Int32)))), .val (.ref b19), .unset, .unset] [])) _
      refine XS.aload X22.here hx rfl (hb hby at_20) rfl rfl ?_
      show Steps p.tables e below (T22.setTop (mkF m 22 #[.val (.int p0), .val (.long p1), .second, .val (.int ((1 : Int32) + ((p0 &&& (2147483647 : Int32)) % (64 : Int32)))), .val (.ref b19), .unset, .unset] [(.ref b19)])) _
      refine XS.lloadN X22.here hx rfl (hb hby at_22) rfl ?_
      show Steps p.tables e below (T22.setTop (mkF m 23 #[.val (.int p0), .val (.long p1), .second, .val (.int ((1 : Int32) + ((p0 &&& (2147483647 : Int32)) % (64 : Int32)))), .val (.ref b19), .unset, .unset] [(.long p1), (.ref b19)])) _
      refine st27.trans ?_
      show Steps p.tables e below (T27.setTop (mkF m 26 #[.val (.int p0), .val (.long p1), .second, .val (.int ((1 : Int32) + ((p0 &&& (2147483647 : Int32)) % (64 : Int32)))), .val (.ref b19), .unset, .unset] [(.long (own_wrap p1 ((1 : Int32) + ((p0 &&& (2147483647 : Int32)) % (64 : Int32)))))])) _
      refine XS.lstore X27.here hx rfl (hb hby at_26) rfl (l' := #[.val (.int p0), .val (.long p1), .second, .val (.int ((1 : Int32) + ((p0 &&& (2147483647 : Int32)) % (64 : Int32)))), .val (.ref b19), .val (.long (own_wrap p1 ((1 : Int32) + ((p0 &&& (2147483647 : Int32)) % (64 : Int32))))), .second]) rfl ?_
      show Steps p.tables e below (T27.setTop (mkF m 28 #[.val (.int p0), .val (.long p1), .second, .val (.int ((1 : Int32) + ((p0 &&& (2147483647 : Int32)) % (64 : Int32)))), .val (.ref b19), .val (.long (own_wrap p1 ((1 : Int32) + ((p0 &&& (2147483647 : Int32)) % (64 : Int32))))), .second] [])) _
      refine XS.lload X27.here hx rfl (hb hby at_28) rfl ?_
      show Steps p.tables e below (T27.setTop (mkF m 30 #[.val (.int p0), .val (.long p1), .second, .val (.int ((1 : Int32) + ((p0 &&& (2147483647 : Int32)) % (64 : Int32)))), .val (.ref b19), .val (.long (own_wrap p1 ((1 : Int32) + ((p0 &&& (2147483647 : Int32)) % (64 : Int32))))), .second] [(.long (own_wrap p1 ((1 : Int32) + ((p0 &&& (2147483647 : Int32)) % (64 : Int32)))))])) _
      refine XS.iloadN X27.here hx rfl (hb hby at_30) rfl ?_
      show Steps p.tables e below (T27.setTop (mkF m 31 #[.val (.int p0), .val (.long p1), .second, .val (.int ((1 : Int32) + ((p0 &&& (2147483647 : Int32)) % (64 : Int32)))), .val (.ref b19), .val (.long (own_wrap p1 ((1 : Int32) + ((p0 &&& (2147483647 : Int32)) % (64 : Int32))))), .second] [(.int ((1 : Int32) + ((p0 &&& (2147483647 : Int32)) % (64 : Int32)))), (.long (own_wrap p1 ((1 : Int32) + ((p0 &&& (2147483647 : Int32)) % (64 : Int32)))))])) _
      refine XS.lloadN X27.here hx rfl (hb hby at_31) rfl ?_
      show Steps p.tables e below (T27.setTop (mkF m 32 #[.val (.int p0), .val (.long p1), .second, .val (.int ((1 : Int32) + ((p0 &&& (2147483647 : Int32)) % (64 : Int32)))), .val (.ref b19), .val (.long (own_wrap p1 ((1 : Int32) + ((p0 &&& (2147483647 : Int32)) % (64 : Int32))))), .second] [(.long p1), (.int ((1 : Int32) + ((p0 &&& (2147483647 : Int32)) % (64 : Int32)))), (.long (own_wrap p1 ((1 : Int32) + ((p0 &&& (2147483647 : Int32)) % (64 : Int32)))))])) _
      refine st28 _ ?_
      show Steps p.tables e below (T28.setTop (mkF m 35 #[.val (.int p0), .val (.long p1), .second, .val (.int ((1 : Int32) + ((p0 &&& (2147483647 : Int32)) % (64 : Int32)))), .val (.ref b19), .val (.long (own_wrap p1 ((1 : Int32) + ((p0 &&& (2147483647 : Int32)) % (64 : Int32))))), .second] [(.long (own_ref ((1 : Int32) + ((p0 &&& (2147483647 : Int32)) % (64 : Int32))) p1)), (.long (own_wrap p1 ((1 : Int32) + ((p0 &&& (2147483647 : Int32)) % (64 : Int32)))))])) _
      refine XS.lcmp X28.here hx rfl (hb hby at_35) rfl ?_
      show Steps p.tables e below (T28.setTop (mkF m 36 #[.val (.int p0), .val (.long p1), .second, .val (.int ((1 : Int32) + ((p0 &&& (2147483647 : Int32)) % (64 : Int32)))), .val (.ref b19), .val (.long (own_wrap p1 ((1 : Int32) + ((p0 &&& (2147483647 : Int32)) % (64 : Int32))))), .second] [(.int (lcmpW (own_wrap p1 ((1 : Int32) + ((p0 &&& (2147483647 : Int32)) % (64 : Int32)))) (own_ref ((1 : Int32) + ((p0 &&& (2147483647 : Int32)) % (64 : Int32))) p1)))])) _
      refine XS.ifNo X28.here hx rfl (hb hby at_36) rfl (Jvm.Free.XT.ll_ne_f hb29) ?_
      show Steps p.tables e below (T28.setTop (mkF m 39 #[.val (.int p0), .val (.long p1), .second, .val (.int ((1 : Int32) + ((p0 &&& (2147483647 : Int32)) % (64 : Int32)))), .val (.ref b19), .val (.long (own_wrap p1 ((1 : Int32) + ((p0 &&& (2147483647 : Int32)) % (64 : Int32))))), .second] [])) _
      refine XS.iconst X28.here hx rfl (hb hby at_39) ?_
      show Steps p.tables e below (T28.setTop (mkF m 40 #[.val (.int p0), .val (.long p1), .second, .val (.int ((1 : Int32) + ((p0 &&& (2147483647 : Int32)) % (64 : Int32)))), .val (.ref b19), .val (.long (own_wrap p1 ((1 : Int32) + ((p0 &&& (2147483647 : Int32)) % (64 : Int32))))), .second] [(.int (1 : Int32))])) _
      refine XS.goto X28.here hx rfl (pc0 := 40) (pc' := 44) rfl (hb hby at_40) (by decide) (by decide) ?_
      exact kk)
  obtain ⟨fs, hr, hrun, hended, hW, hsame⟩ := X28.leave (v := some (.int (1 : Int32))) (fun h => by rw [Bd.returns] at h; cases h)
  refine ⟨_, _, pre30 _ ?_, hrun, hended, _, _, rfl, ?_, ⟨_, rfl⟩, hW, hsame.mono (by decide) (by decide)⟩
  · show Steps p.tables e below (T28.setTop (mkF m 44 #[.val (.int p0), .val (.long p1), .second, .val (.int ((1 : Int32) + ((p0 &&& (2147483647 : Int32)) % (64 : Int32)))), .val (.ref b19), .val (.long (own_wrap p1 ((1 : Int32) + ((p0 &&& (2147483647 : Int32)) % (64 : Int32))))), .second] [(.int (1 : Int32))])) _
    exact retN X28 hx (t := .boolean) Bd.returns (by simp) (hb hby at_44) hr
  · show Q0 Z p0 p1 h0 n0 _ T28.heap _
    rw [e28]
    exact ⟨rfl, N28, K26⟩
set_option maxRecDepth 65536 in
set_option maxHeartbeats 40000000 in
theorem comes_1 {Post : Tables → Env → Array Value → State → Outcome → State → Prop} (hpost : ∀ tb e args s v u, (limb_1_1.after args s (.returned v) u = true ∧ limb_1_2.after args s (.returned v) u = true ∧ True) → FrameEnd s (.returned v) u (Jvm.fieldLocs frame_1_writes args s ++ Jvm.arrayLocs frame_1_arrays args s ++ Jvm.staticLocs frame_1_statics s) 16 128 → Post tb e args s (.returned v) u) :
    ArmFor flags0 classFile x code maxLocals ret World_1 tables_1 room_1 Calls_1 rest_1 Pre_1 Post := by
  intro l hfl _ _ p e ha hc hk s m args below hf hA hF happ hP
  obtain ⟨hcalls, hrest, hpre⟩ := hP
  obtain ⟨-, -, -, hnamed, -, -, -, hat⟩ := (Spec.applies_iff hf).mp happ
  obtain ⟨hg, hn⟩ := and_e (Cond.before_iff.mp (show (Jvm.Cond.and given_1 narrow_1).before args s = true from hpre))
  obtain ⟨gg31, gg32⟩ := and_e hg
  obtain ⟨gg33, gg34⟩ := and_e gg32
  obtain ⟨w0, w1, rfl⟩ : ∃ w0 w1 : Value, args = #[w0, w1] := by
    have hs : args.size = 2 := by simpa [Cond.value, given_1] using gg31
    obtain ⟨L⟩ := args
    match L, hs with
    | [w0, w1], _ => exact ⟨w0, w1, rfl⟩
  have hw := fun d (hd : d ∈ tables_1) => atoms_spec (ws := Jvm.Cond.code x code maxLocals ret :: tables_1) hat d (List.mem_cons_of_mem _ hd)
  have hfit : Fit s := fun {y c} hc i hi => by
    obtain ⟨ha, rfl⟩ := Array.getElem?_eq_some_iff.mp hc
    have q := List.all_eq_true.mp ((Array.all_eq_true_iff_forall_mem.mp hF) _ (Array.getElem_mem ha)) i (List.mem_range.mpr hi)
    simpa [Array.getElem?_eq_getElem hi] using q
  obtain ⟨i0, ei0⟩ := is_v gg33
  obtain rfl : w0 = (.int i0) := Option.some.inj ei0
  obtain ⟨i1, ei1⟩ := isL_v gg34
  obtain rfl : w1 = (.long i1) := Option.some.inj ei1
  obtain ⟨n, o, h1, h2, h3, _, L, rfl, ⟨rfl, N, -⟩, hq⟩ := rm0 l s _ hw tables_1 i0 i1  s.heap s.heap.size (Nat.le_refl _)  p e ha hc hk s m _ below hf ((Spec.applies_iff_loose hf).mp happ).1 ⟨rfl, State.Warmed39.refl s, rfl⟩ trivial
  refine ⟨n, _, h1, h2, h3, hpost _ _ _ _ _ _ ⟨Cond.after_iff.mpr rfl, Cond.after_iff.mpr (eq_i res_at (Term.int_eval (1)) rfl), trivial⟩ ⟨hq.1, hq.2.1, (hq.2.2.sift fun y hy => Or.inr (N y hy)).mono (by decide) (by decide)⟩⟩
theorem main_1_1 : Claimed_1_1 := comes_1 fun _ _ _ _ _ _ h hF => ⟨h.1, hF⟩
theorem main_1_2 : Claimed_1_2 := comes_1 fun _ _ _ _ _ _ h hF => ⟨h.2.1, hF⟩
end Jvm.Pilot.@@N@@
namespace Jvm.Pilot.@@N@@
open Jvm Jvm.ClassFile Sem Op Lib Jvm.Free Jvm.Stand Jvm.Pilot.@@N@@.Jvm.D
/-! MADE BY PROGRAM (witnessworld.py) out of the Statement's table words and the real class files: 10 classes; the members and pool entries that the words name. The judged class is class 1, her method 2. -/
namespace start1
open Jvm.ClassFile
def u (s : String) : CpInfo := .utf8 (stringToUtf16 s)
/-- a pool by its gaps: so many unusable entries, then the entry; so many at the end -/
def gap : Nat → List CpInfo → List CpInfo
  | 0, r => r
  | n + 1, r => .unusable :: gap n r
def poolList (es : List (Nat × CpInfo)) (last : Nat) : List CpInfo := es.foldr (fun e r => gap e.1 (e.2 :: r)) (gap last [])
def pool (es : List (Nat × CpInfo)) (last : Nat) : Array CpInfo := ⟨poolList es last⟩
def fileOf (pool : Array CpInfo) (this : Nat) (attrs : Array Attribute := #[]) (ms : Array MethodInfo := #[]) (fl : Nat := 33) (sup : Nat := 0) (ifs : Array Nat := #[]) (fds : Array FieldInfo := #[]) : ClassFile where
  minorVersion := 0
  majorVersion := 65
  constantPool := pool
  accessFlags := fl
  thisClass := this
  superClass := sup
  interfaces := ifs
  fields := fds
  methods := ms
  attributes := attrs
def plain (name : String) (sup : Option ClassId) : Class where
  name := name
  kind := .ordinary
  loader := none
  accessFlags := 33
  super := sup
  interfaces := #[]
  cf := none
  fields := #[]
  methods := #[]
  instanceTypes := #[]
  staticTypes := #[]
  resolved := #[]
  callSites := []
  init := .initialized
  statics := none
  mirror := none

def pool0 : Array CpInfo := pool [(5, u "<init>"), (0, u "()V"), (1, .class_ 10), (1, u "java/lang/Object")] 113

def k0c0 : Code := { maxStack := 0, maxLocals := 1, code := object_method_1_code, exceptionTable := #[], attributes := #[] }
def k0m0 : Method := { name := "<init>", desc := "()V", sig := { parameters := [], returnType := none }, accessFlags := 1, code := some k0c0 }
/-- java/lang/Object -/
def k0 : Class := { plain "java/lang/Object" none with
  accessFlags := 33
  interfaces := #[]
  cf := some (fileOf pool0 8 #[] #[{ accessFlags := 1, nameIndex := 5, descriptorIndex := 6, attributes := #[] }] 33 0 #[] #[])
  fields := #[]
  methods := #[k0m0]
  instanceTypes := #[]
  staticTypes := #[]
  resolved := Array.replicate 124 none
  statics := none }

def pool1 : Array CpInfo := pool [(2, .class_ 4), (1, u "java/lang/Object"), (0, u "<init>"), (0, u "()V"), (0, .integer 2147483647), (0, .class_ 9), (0, u "com/example/relations_to_proofs/relationstoproofs/model/BitWidth"), (0, .methodref 8 11), (0, .nameAndType 5 12), (0, u "(I)V"), (0, .methodref 8 14), (0, .nameAndType 15 16), (0, u "wrap"), (0, u "(J)J"), (0, .methodref 18 19), (0, .class_ 20), (0, .nameAndType 21 22), (0, u "com/example/relations_to_proofs/relationstoproofs/model/BitWidthWrapPinLaw"), (0, u "reference"), (0, u "(IJ)J"), (3, u "law"), (0, u "(IJ)Z")] 2

def k1m0 : Method := { name := "<init>", desc := "()V", sig := { parameters := [], returnType := none }, accessFlags := 1, code := none }
def k1c1 : Code := { maxStack := 6, maxLocals := 9, code := method_2_code, exceptionTable := #[], attributes := #[] }
def k1m1 : Method := { name := "reference", desc := "(IJ)J", sig := { parameters := [.int, .long], returnType := some .long }, accessFlags := 10, code := some k1c1 }
def k1c2 : Code := { maxStack := 5, maxLocals := 7, code := code, exceptionTable := #[], attributes := #[] }
def k1m2 : Method := { name := "law", desc := "(IJ)Z", sig := { parameters := [.int, .long], returnType := some .boolean }, accessFlags := 9, code := some k1c2 }
/-- com/example/relations_to_proofs/relationstoproofs/model/BitWidthWrapPinLaw -/
def k1 : Class := { plain "com/example/relations_to_proofs/relationstoproofs/model/BitWidthWrapPinLaw" (some 0) with
  accessFlags := 49
  interfaces := #[]
  cf := some (fileOf pool1 18 #[] #[{ accessFlags := 1, nameIndex := 5, descriptorIndex := 6, attributes := #[] }, { accessFlags := 10, nameIndex := 21, descriptorIndex := 22, attributes := #[] }, { accessFlags := 9, nameIndex := 26, descriptorIndex := 27, attributes := #[] }] 49 2 #[] #[])
  fields := #[]
  methods := #[k1m0, k1m1, k1m2]
  instanceTypes := #[]
  staticTypes := #[]
  resolved := Array.replicate 30 none
  statics := none }

def pool2 : Array CpInfo := pool [(1, .methodref 2 3), (0, .class_ 4), (0, .nameAndType 5 6), (0, u "java/lang/Object"), (0, u "<init>"), (0, u "()V"), (0, .class_ 8), (0, u "java/lang/Record")] 13

def k2c0 : Code := { maxStack := 1, maxLocals := 1, code := jdk_30_method_1_code, exceptionTable := #[], attributes := #[] }
def k2m0 : Method := { name := "<init>", desc := "()V", sig := { parameters := [], returnType := none }, accessFlags := 4, code := some k2c0 }
/-- java/lang/Record -/
def k2 : Class := { plain "java/lang/Record" (some 0) with
  accessFlags := 1057
  interfaces := #[]
  cf := some (fileOf pool2 7 #[] #[{ accessFlags := 4, nameIndex := 5, descriptorIndex := 6, attributes := #[] }] 1057 2 #[] #[])
  fields := #[]
  methods := #[k2m0]
  instanceTypes := #[]
  staticTypes := #[]
  resolved := Array.replicate 22 none
  statics := none }

def pool3 : Array CpInfo := pool [(3, .methodref 4 5), (0, .class_ 6), (0, .nameAndType 7 8), (0, u "java/lang/Record"), (0, u "<init>"), (0, u "()V"), (0, .class_ 10), (0, u "com/example/relations_to_proofs/relationstoproofs/model/BitWidth"), (9, .fieldref 9 21), (0, .nameAndType 22 23), (0, u "bits"), (0, u "I"), (10, u "wrap"), (0, u "(J)J"), (12, u "MAX_BITS"), (2, u "(I)V")] 40

def k3c0 : Code := { maxStack := 3, maxLocals := 2, code := prog_36_method_1_code, exceptionTable := #[], attributes := #[] }
def k3m0 : Method := { name := "<init>", desc := "(I)V", sig := { parameters := [.int], returnType := none }, accessFlags := 1, code := some k3c0 }
def k3c1 : Code := { maxStack := 3, maxLocals := 4, code := prog_36_method_4_code, exceptionTable := #[], attributes := #[] }
def k3m1 : Method := { name := "wrap", desc := "(J)J", sig := { parameters := [.long], returnType := some .long }, accessFlags := 1, code := some k3c1 }
/-- com/example/relations_to_proofs/relationstoproofs/model/BitWidth -/
def k3 : Class := { plain "com/example/relations_to_proofs/relationstoproofs/model/BitWidth" (some 2) with
  accessFlags := 49
  interfaces := #[]
  cf := some (fileOf pool3 9 #[] #[{ accessFlags := 1, nameIndex := 7, descriptorIndex := 51, attributes := #[] }, { accessFlags := 1, nameIndex := 34, descriptorIndex := 35, attributes := #[] }] 49 4 #[] #[{ accessFlags := 18, nameIndex := 22, descriptorIndex := 23, attributes := #[] }, { accessFlags := 25, nameIndex := 48, descriptorIndex := 23, attributes := #[] }])
  fields := #[{ name := "bits", type := .int, accessFlags := 18, slot := 0, constantValue := 0 }, { name := "MAX_BITS", type := .int, accessFlags := 25, slot := 0, constantValue := 0 }]
  methods := #[k3m0, k3m1]
  instanceTypes := #[.int]
  staticTypes := #[.int]
  resolved := Array.replicate 92 none
  statics := none }

def pool4 : Array CpInfo := pool [(1, u "java/lang/Cloneable"), (0, .class_ 1), (0, u "java/lang/Object"), (0, .class_ 3)] 3

/-- java/lang/Cloneable -/
def k4 : Class := { plain "java/lang/Cloneable" (some 0) with
  accessFlags := 1537
  interfaces := #[]
  cf := some (fileOf pool4 2 #[] #[] 1537 4 #[] #[])
  fields := #[]
  methods := #[]
  instanceTypes := #[]
  staticTypes := #[]
  resolved := Array.replicate 8 none
  statics := none }

def pool5 : Array CpInfo := pool [(1, u "java/io/Serializable"), (0, .class_ 1), (0, u "java/lang/Object"), (0, .class_ 3)] 3

/-- java/io/Serializable -/
def k5 : Class := { plain "java/io/Serializable" (some 0) with
  accessFlags := 1537
  interfaces := #[]
  cf := some (fileOf pool5 2 #[] #[] 1537 4 #[] #[])
  fields := #[]
  methods := #[]
  instanceTypes := #[]
  staticTypes := #[]
  resolved := Array.replicate 8 none
  statics := none }

/-- the primitive byte -/
def k6 : Class := { plain "byte" none with kind := .primitive 'B', accessFlags := 0x411 }
/-- [B -/
def k7 : Class := { plain "[B" (some 0) with kind := .array 6 .byte, interfaces := #[4, 5], accessFlags := 1041 }

/-- the primitive int -/
def k8 : Class := { plain "int" none with kind := .primitive 'I', accessFlags := 0x411 }
/-- [I -/
def k9 : Class := { plain "[I" (some 0) with kind := .array 8 .int, interfaces := #[4, 5], accessFlags := 1041 }

def heap : Heap := #[]
def classes : Array Class := #[k0, k1, k2, k3, k4, k5, k6, k7, k8, k9]
def interned : List (Array UInt16 × Addr) := []
def slotsUsed : Nat := 0
def theMethod : MethodId := ⟨1, 2⟩
def args0 : Array Value := #[.int 5, .long 77]
def aboutOver (below : List Frame) : State where
  vm := { classes := classes, interned := interned.toArray }
  heap := heap
  slotsUsed := slotsUsed
  threads := #[{ frames := .invoking theMethod args0 :: below }]
def below0 : List Frame := [.native { method := ⟨0, 0⟩, args := #[] }]
def about1 : State := aboutOver below0
def p0 : Program := .bare "" "" ""
def e0 : Env := launch0.env 0 0 0
theorem w_frames : about1.frames = Frame.invoking theMethod args0 :: below0 := rfl
set_option maxRecDepth 65536 in
theorem w_args : argsFit about1.vm theMethod args0 = true := by decide +kernel
set_option maxRecDepth 65536 in
theorem w_heap : heapFits about1 = true := by decide +kernel
set_option maxRecDepth 65536 in
theorem w_runnable : about1.curStatus? = some .runnable := by decide +kernel
set_option maxRecDepth 65536 in
theorem w_alone : about1.alone = true := by decide +kernel
set_option maxRecDepth 65536 in
theorem w_named : about1.methodNamed? x = some theMethod := by decide +kernel
set_option maxRecDepth 65536 in
theorem w_hears : about1.hears theMethod below0 = true := by decide +kernel
set_option maxRecDepth 65536 in
theorem w_ripe : about1.ripe theMethod args0 below0 = true := by decide +kernel
theorem w_running : about1.status = .running := rfl
set_option maxRecDepth 65536 in
theorem w_room : about1.hasRoom e0.platform room_1 = true :=
  launch0.hasRoom_least _ room_1 (by decide +kernel) (by decide +kernel) (by decide +kernel) (by decide +kernel) (by decide +kernel) (by decide +kernel)
theorem allAtoms_all (ts : List Jvm.Cond) (a : Array Jvm.Value) (st : Jvm.State) : (allAtoms ts).before a st = ts.all (fun c => c.before a st) := by
  induction ts with
  | nil => rfl
  | cons c t ih =>
    show (Jvm.Cond.and c (allAtoms t)).before a st = _
    rw [Jvm.Cond.before_and, ih, List.all_cons]
def words1 : List Jvm.Cond := Jvm.Cond.code x code maxLocals ret :: tables_1
/-- a 'code' word, met by the world's own term for the bytes: nothing is compared byte by byte -/
theorem code_word {y : MethodName} {bytes : ByteArray} {mx : Nat} {rt : Option FieldType} {a : Array Value} {s : State} {m : MethodId} {meth : Method} {c : Code} (h1 : s.methodNamed? y = some m) (h2 : s.vm.method? m = some meth) (h3 : meth.code = some c) (h4 : c.code = bytes)
    (h5 : (c.maxLocals == mx && c.exceptionTable.isEmpty && decide (c.maxStack ≤ mostOperands) && decide (meth.sig.returnType = rt) && !meth.locks && decide (parseMethodDescriptor y.desc = some meth.sig)) = true) : (Jvm.Cond.code y bytes mx rt).before a s = true := by
  simp only [Bool.and_eq_true, beq_iff_eq, Bool.not_eq_true', decide_eq_true_eq] at h5
  obtain ⟨⟨⟨⟨⟨g1, g2⟩, g3⟩, g4⟩, g5⟩, g6⟩ := h5
  simp [Cond.before, Cond.holds, Cond.value, h1, h2, h3, h4, g1, g2, g3, g4, g5, g6]
def isCode : Jvm.Cond → Bool
  | .code _ _ _ _ => true
  | _ => false
theorem all_split {L : List Jvm.Cond} {P : Jvm.Cond → Bool} (h1 : L.all (fun c => isCode c || P c) = true) (h2 : ∀ c ∈ L.filter isCode, P c = true) : L.all P = true := by
  refine List.all_eq_true.mpr fun c hc => ?_
  have h := List.all_eq_true.mp h1 c hc
  rcases Bool.eq_false_or_eq_true (isCode c) with hi | hi
  · exact h2 c (List.mem_filter.mpr ⟨hc, hi⟩)
  · simpa [hi] using h
set_option maxRecDepth 65536 in
theorem w_c0 : (Jvm.Cond.code x code maxLocals ret).before args0 about1 = true := code_word (m := ⟨1, 2⟩) (meth := k1m2) (c := k1c2) (by decide +kernel) rfl rfl rfl (by decide +kernel)
set_option maxRecDepth 65536 in
theorem w_c1 : (Jvm.Cond.code ({ cls := "com/example/relations_to_proofs/relationstoproofs/model/BitWidth", name := "<init>", desc := "(I)V" } : Jvm.MethodName) prog_36_method_1_code (2 : Nat) (Option.none : Option Jvm.ClassFile.FieldType)).before args0 about1 = true := code_word (m := ⟨3, 0⟩) (meth := k3m0) (c := k3c0) (by decide +kernel) rfl rfl rfl (by decide +kernel)
set_option maxRecDepth 65536 in
theorem w_c2 : (Jvm.Cond.code ({ cls := "java/lang/Record", name := "<init>", desc := "()V" } : Jvm.MethodName) jdk_30_method_1_code (1 : Nat) (Option.none : Option Jvm.ClassFile.FieldType)).before args0 about1 = true := code_word (m := ⟨2, 0⟩) (meth := k2m0) (c := k2c0) (by decide +kernel) rfl rfl rfl (by decide +kernel)
set_option maxRecDepth 65536 in
theorem w_c3 : (Jvm.Cond.code ({ cls := "java/lang/Object", name := "<init>", desc := "()V" } : Jvm.MethodName) object_method_1_code (1 : Nat) (Option.none : Option Jvm.ClassFile.FieldType)).before args0 about1 = true := code_word (m := ⟨0, 0⟩) (meth := k0m0) (c := k0c0) (by decide +kernel) rfl rfl rfl (by decide +kernel)
set_option maxRecDepth 65536 in
theorem w_c4 : (Jvm.Cond.code ({ cls := "com/example/relations_to_proofs/relationstoproofs/model/BitWidth", name := "wrap", desc := "(J)J" } : Jvm.MethodName) prog_36_method_4_code (4 : Nat) (Option.some Jvm.ClassFile.FieldType.long)).before args0 about1 = true := code_word (m := ⟨3, 1⟩) (meth := k3m1) (c := k3c1) (by decide +kernel) rfl rfl rfl (by decide +kernel)
set_option maxRecDepth 65536 in
theorem w_c5 : (Jvm.Cond.code ({ cls := "com/example/relations_to_proofs/relationstoproofs/model/BitWidthWrapPinLaw", name := "reference", desc := "(IJ)J" } : Jvm.MethodName) method_2_code (9 : Nat) (Option.some Jvm.ClassFile.FieldType.long)).before args0 about1 = true := code_word (m := ⟨1, 1⟩) (meth := k1m1) (c := k1c1) (by decide +kernel) rfl rfl rfl (by decide +kernel)
def codes1 : List Jvm.Cond := [Jvm.Cond.code x code maxLocals ret, Jvm.Cond.code ({ cls := "com/example/relations_to_proofs/relationstoproofs/model/BitWidth", name := "<init>", desc := "(I)V" } : Jvm.MethodName) prog_36_method_1_code (2 : Nat) (Option.none : Option Jvm.ClassFile.FieldType), Jvm.Cond.code ({ cls := "java/lang/Record", name := "<init>", desc := "()V" } : Jvm.MethodName) jdk_30_method_1_code (1 : Nat) (Option.none : Option Jvm.ClassFile.FieldType), Jvm.Cond.code ({ cls := "java/lang/Object", name := "<init>", desc := "()V" } : Jvm.MethodName) object_method_1_code (1 : Nat) (Option.none : Option Jvm.ClassFile.FieldType), Jvm.Cond.code ({ cls := "com/example/relations_to_proofs/relationstoproofs/model/BitWidth", name := "wrap", desc := "(J)J" } : Jvm.MethodName) prog_36_method_4_code (4 : Nat) (Option.some Jvm.ClassFile.FieldType.long), Jvm.Cond.code ({ cls := "com/example/relations_to_proofs/relationstoproofs/model/BitWidthWrapPinLaw", name := "reference", desc := "(IJ)J" } : Jvm.MethodName) method_2_code (9 : Nat) (Option.some Jvm.ClassFile.FieldType.long)]
set_option maxRecDepth 65536 in
theorem codes_eq : words1.filter isCode = codes1 := rfl
theorem w_codes : ∀ c ∈ words1.filter isCode, c.before args0 about1 = true := by
  rw [codes_eq]
  intro c hc
  simp only [codes1, List.mem_cons, List.not_mem_nil, or_false] at hc
  rcases hc with rfl | rfl | rfl | rfl | rfl | rfl
  · exact w_c0
  · exact w_c1
  · exact w_c2
  · exact w_c3
  · exact w_c4
  · exact w_c5
set_option maxRecDepth 65536 in
theorem w_t1 : (words1.take 24).all (fun c => isCode c || c.before args0 about1) = true := by decide +kernel
set_option maxRecDepth 65536 in
theorem w_t2 : (words1.drop 24).all (fun c => isCode c || c.before args0 about1) = true := by decide +kernel
theorem w_tables : (allAtoms (Jvm.Cond.code x code maxLocals ret :: tables_1)).before args0 about1 = true := by
  rw [allAtoms_all]
  show words1.all (fun c => c.before args0 about1) = true
  refine all_split ?_ w_codes
  rw [← List.take_append_drop 24 words1, List.all_append, w_t1, w_t2]
  rfl
set_option maxRecDepth 65536 in
theorem w_case : (Jvm.Cond.and given_1 narrow_1).before args0 about1 = true := by decide +kernel
theorem w_applies : (headSpec (Jvm.Cond.code x code maxLocals ret :: tables_1) room_1).applies x e0.platform about1 = true :=
  (Spec.applies_iff w_frames).mpr ⟨w_running, w_runnable, w_alone, w_named, w_hears, w_ripe, w_room, w_tables⟩
theorem atStart : AtStart classFile x code maxLocals ret World_1 tables_1 room_1 Calls_1 rest_1 Pre_1 launch0 p0 e0 about1 theMethod args0 below0 :=
  ⟨lists_1, trivial, launch0.admits_env _ _ _, launch0.least_env, fairChoices_fair.cas, fairChoices_fair.clock, w_frames, w_args, w_heap, w_applies, trivial, trivial, w_case⟩
end start1
theorem witness_1 : WitnessClaimed_1 := ⟨start1.p0, start1.e0, start1.about1, start1.theMethod, start1.args0, start1.below0, start1.atStart⟩
end Jvm.Pilot.@@N@@
