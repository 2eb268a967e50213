import JvmDerived
import JvmDerived.Pilot.@@N@@Statement
import JvmDerived.Pilot.@@N@@Code
set_option linter.unusedVariables false
set_option linter.unusedSimpArgs false
namespace Jvm.Pilot.@@N@@
open Jvm Jvm.ClassFile Sem Op Lib Jvm.Free Jvm.Stand Jvm.LawKit Jvm.RoadKit Bundle Jvm.Pilot.@@N@@.Jvm.D
theorem own_ne_arr {Z : State} {h : Heap} {a b : Addr} {C : String} {a0 : Array Value} {kk : Nat} {k : ClassId} {ty : FieldType} {n : Int32} {vs : List Value} {d : Value} (F : Exa Z h a C) (wi : (Cond.instantiable C kk).before a0 Z = true) (V : Arv Z h b k ty n vs d) : a ≠ b := by
  obtain ⟨c, A, -⟩ := V
  exact ne_arr F wi A
theorem own_std {p : Program} {l : Launch} {e : Env} {R : Room} {s : State} {m : MethodId} {args : Array Value} {below : List Frame} {meth : Method} {c : Code} {T : State} {locs : List Loc} {c0 s0 cc ss : Nat} (X : Stand p l e R s m args below meth c T locs c0 s0) (h1 : c0 = cc) (h2 : s0 = ss) : Stand p l e R s m args below meth c T locs cc ss := by
  subst h1 h2; exact X
theorem own_cast {tb : Tables} {e : Env} {below : List Frame} {t : State} {A : Type} (f : A → State) {a b : A} (h : a = b) (k : Steps tb e below (f b) t) : Steps tb e below (f a) t := h ▸ k
theorem d2_0 : decode prog_57_method_1_code 0 = .ok (.aload_n 0, 1) := by decide +kernel
theorem d2_1 : decode prog_57_method_1_code 1 = .ok (.invokespecial 1, 3) := by decide +kernel
theorem d2_4 : decode prog_57_method_1_code 4 = .ok (.aload_n 0, 1) := by decide +kernel
theorem d2_5 : decode prog_57_method_1_code 5 = .ok (.sipush 8192, 3) := by decide +kernel
theorem d2_8 : decode prog_57_method_1_code 8 = .ok (.newarray .byte, 2) := by decide +kernel
theorem d2_10 : decode prog_57_method_1_code 10 = .ok (.putfield 9, 3) := by decide +kernel
theorem d2_13 : decode prog_57_method_1_code 13 = .ok (.return_, 1) := by decide +kernel
theorem ef_rmFr (m : MethodId) (x0 : Addr) : entryFrame m #[(.ref x0)] 1 = mkF m 0 #[.val (.ref x0)] [] := by first | (simp [entryFrame, mkF, argsToLocals, Value.category]; done) | rfl
def QFr (Z : State) (b : Addr) (h0 : Heap) (n0 : Nat) (v : Option Value) (h : Heap) (L : List Loc) : Prop := v = none ∧ Fr n0 L ∧ Keep h0 h [b] ∧ Exa Z h b "com/example/redoubt/redoubt/storage/PageCache$Frame" ∧ Fld Z h b "com/example/redoubt/redoubt/storage/PageCache$Frame" "page" "I" (.int (0 : Int32))
theorem pn_0 : plainName "com/example/redoubt/redoubt/storage/PageCache$Frame" = true := by first | (simp [plainName, overriddenIn]; done) | decide +kernel
set_option maxRecDepth 65536 in
set_option maxHeartbeats 40000000 in
theorem rmFr (l : Launch) (Z : State) (a0 : Array Value) (hw : ∀ d ∈ tables_1, d.before a0 Z = true) (ws : List Jvm.Cond) (b : Addr) (h0 : Heap) (n0 : Nat) (Z0 : n0 ≤ h0.size) (E_b : Exa Z h0 b "com/example/redoubt/redoubt/storage/PageCache$Frame") (F_data_b : Fld Z h0 b "com/example/redoubt/redoubt/storage/PageCache$Frame" "data" "[B" .null) (F_page_b : Fld Z h0 b "com/example/redoubt/redoubt/storage/PageCache$Frame" "page" "I" (.int (0 : Int32))) (g_b : n0 ≤ b) :
    MetFree l (⟨"com/example/redoubt/redoubt/storage/PageCache$Frame", "<init>", "()V"⟩ : MethodName) (head1 (Jvm.Cond.code (⟨"com/example/redoubt/redoubt/storage/PageCache$Frame", "<init>", "()V"⟩ : MethodName) prog_57_method_1_code 1 none :: ws) ({ frames := 1, cells := 1, slots := 8192, locals := 12 } : Room)) (fun aA uU => aA = #[(.ref b)] ∧ Z.Warmed39 uU.vm ∧ uU.heap = h0) (fun _ _ _ _ _ => True) (fun _ uU oO uU' => ∃ vV lL, oO = .returned vV ∧ QFr Z b h0 n0 vV uU'.heap lL ∧ FrameEnd uU oO uU' lL ({ frames := 1, cells := 1, slots := 8192, locals := 12 } : Room).cells ({ frames := 1, cells := 1, slots := 8192, locals := 12 } : Room).slots) := by
  refine MetFree.of_bodySF (plainFor_of_name pn_0) hisR ?_
  intro p e s m args below meth c s₁ Bd hml0 hP hK
  obtain ⟨rfl, hZ, hh⟩ := hP
  have hx := Bd.exec
  have hby := Bd.bytes
  have hml : c.maxLocals = 1 := hml0
  have hown : s.vm.findClass "com/example/redoubt/redoubt/storage/PageCache$Frame" = some m.cls := findClass_of_methodNamed Bd.named
  have hnm := (name_of_methodNamed Bd.named Bd.method).1
  have X0 : Stand p l e ({ frames := 1, cells := 1, slots := 8192, locals := 12 } : Room) s m #[(.ref b)] below meth c s₁ [] 0 0 := Stand.of_body Bd
  have e0 : s₁.heap = h0 := by rw [← hh, Bd.state]; rfl
  have N0 := Fr.nil n0
  have pre0 : ∀ t, Steps p.tables e below (s₁.setTop (mkF m 0 #[.val (.ref b)] [])) t → Steps p.tables e below (s₁.setTop (entryFrame m #[(.ref b)] 1)) t := fun t kk => castTop (ef_rmFr m b) kk
  obtain ⟨T1, X1, e1, st1⟩ := initO X0 hx hZ hown (hw _ (List.mem_of_getElem? (i := 12) rfl)) (hw _ (List.mem_of_getElem? (i := 13) rfl)) (hw _ (List.mem_of_getElem? (i := 14) rfl)) e0 (g := (mkF m 1 #[.val (.ref b)] [(.ref b)])) rfl (by rw [hml]; rfl) rfl (hb hby d2_1) (by decide) (W := 0) (by show 2 * 0 + _ ≤ _; exact Nat.le_of_eq rfl) (by decide)
  obtain ⟨T2, h2, k2, X2, e2, E2, A2, st2⟩ := newP X1 hx hZ (hw _ (List.mem_of_getElem? (i := 15) rfl)) e1 (g := (mkF m 8 #[.val (.ref b)] [(.int (8192 : Int32)), (.ref b)])) rfl (hb hby d2_8) rfl (by decide) (cap := 8192) (by decide) (by decide) (by decide) (by decide)
  obtain ⟨b2, gq2⟩ : ∃ z, z = h0.size := ⟨_, rfl⟩
  rw [← gq2] at A2 st2
  have ne3 : b ≠ b2 := Nat.ne_of_lt (Nat.lt_of_lt_of_le E_b.lt (Nat.le_of_eq gq2.symm))
  have g_b2 : n0 ≤ b2 := Nat.le_trans Z0 (Nat.le_of_eq gq2.symm)
  have sz_b2 : h0.size ≤ b2 := Nat.le_trans (Nat.le_refl _) (Nat.le_of_eq gq2.symm)
  have Ex4 : Exa Z h2 b "com/example/redoubt/redoubt/storage/PageCache$Frame" := (E_b.ext E2)
  have F5 : Fld Z h2 b "com/example/redoubt/redoubt/storage/PageCache$Frame" "data" "[B" .null := (F_data_b.ext E2)
  have F6 : Fld Z h2 b "com/example/redoubt/redoubt/storage/PageCache$Frame" "page" "I" (.int (0 : Int32)) := (F_page_b.ext E2)
  have K7 : Keep h0 h2 [b] := (Keep.refl h0 _).ext E2
  have Av2 : Arv Z h2 b2 k2 .byte (8192 : Int32) ([]) (.int (0 : Int32)) := Arv.new A2 (by decide)
  obtain ⟨T8, h8, X8, e8, W8, st8⟩ := putF X2 hx hZ hown (host := "") (Or.inl (hw _ (List.mem_of_getElem? (i := 16) rfl))) Via.refl e2 F5 Ex4 (Or.inr ⟨(hw _ (List.mem_of_getElem? (i := 17) rfl)), rfl, hnm⟩) (hw _ (List.mem_of_getElem? (i := 7) rfl)) (ty := (.array .byte)) (by decide) rfl rfl (g := (mkF m 10 #[.val (.ref b)] [(.ref b2), (.ref b)])) rfl rfl (hb hby d2_10)
  have Ex9 : Exa Z h8 b "com/example/redoubt/redoubt/storage/PageCache$Frame" := (Ex4.wr W8)
  have F10 : Fld Z h8 b "com/example/redoubt/redoubt/storage/PageCache$Frame" "page" "I" (.int (0 : Int32)) := (F6.other W8 (Or.inr (slot_ne (Or.inl (hw _ (List.mem_of_getElem? (i := 19) rfl))) (Or.inr (hw _ (List.mem_of_getElem? (i := 17) rfl))) (by decide) (t := .int) (t' := (.array .byte)) (by decide) (by decide))))
  have Av11 : Arv Z h8 b2 k2 .byte (8192 : Int32) ([]) (.int (0 : Int32)) := (Av2.other W8 (Ne.symm ne3))
  have K12 : Keep h0 h8 [b] := K7.wr W8 (Or.inl (List.mem_of_getElem? (i := 0) rfl))
  have N13 := Fr.snoc X8 N0 g_b
  have F14 : Fld Z h8 b "com/example/redoubt/redoubt/storage/PageCache$Frame" "data" "[B" (.ref b2) := F5.same W8
  have pre15 : ∀ t, Steps p.tables e below (T8.setTop (mkF m 13 #[.val (.ref b)] [])) t → Steps p.tables e below (s₁.setTop (entryFrame m #[(.ref b)] 1)) t := fun t kk => pre0 t (by
      show Steps p.tables e below (s₁.setTop (mkF m 0 #[.val (.ref b)] [])) _
      refine XS.aloadN X0.here hx rfl (hb hby d2_0) rfl rfl ?_
      show Steps p.tables e below (s₁.setTop (mkF m 1 #[.val (.ref b)] [(.ref b)])) _
      refine st1 _ ?_
      show Steps p.tables e below (T1.setTop (mkF m 4 #[.val (.ref b)] [])) _
      refine XS.aloadN X1.here hx rfl (hb hby d2_4) rfl rfl ?_
      show Steps p.tables e below (T1.setTop (mkF m 5 #[.val (.ref b)] [(.ref b)])) _
      refine XS.sipush X1.here hx rfl (hb hby d2_5) ?_
      show Steps p.tables e below (T1.setTop (mkF m 8 #[.val (.ref b)] [(.int (8192 : Int32)), (.ref b)])) _
      refine st2 _ ?_
      show Steps p.tables e below (T2.setTop (mkF m 10 #[.val (.ref b)] [(.ref b2), (.ref b)])) _
      refine st8 _ ?_
      exact kk)
  obtain ⟨fs, hr, hrun, hended, hW, hsame⟩ := X8.leave (v := none) (fun _ => rfl)
  refine ⟨_, _, pre15 _ ?_, hrun, hended, _, _, rfl, ?_, ⟨_, rfl⟩, hW, hsame.mono (by decide) (by decide)⟩
  · show Steps p.tables e below (T8.setTop (mkF m 13 #[.val (.ref b)] [])) _
    exact X8.returnOut hx Bd.returns (hb hby d2_13) hr
  · show QFr Z b h0 n0 _ T8.heap _
    rw [e8]
    exact ⟨rfl, N13, K12, Ex9, F10⟩
theorem d4_0 : decode prog_47_method_1_code 0 = .ok (.aload_n 0, 1) := by decide +kernel
theorem d4_1 : decode prog_47_method_1_code 1 = .ok (.invokespecial 1, 3) := by decide +kernel
theorem d4_4 : decode prog_47_method_1_code 4 = .ok (.aload_n 0, 1) := by decide +kernel
theorem d4_5 : decode prog_47_method_1_code 5 = .ok (.bipush 16, 2) := by decide +kernel
theorem d4_7 : decode prog_47_method_1_code 7 = .ok (.anewarray 9, 3) := by decide +kernel
theorem d4_10 : decode prog_47_method_1_code 10 = .ok (.putfield 11, 3) := by decide +kernel
theorem d4_13 : decode prog_47_method_1_code 13 = .ok (.aload_n 0, 1) := by decide +kernel
theorem d4_14 : decode prog_47_method_1_code 14 = .ok (.bipush 28, 2) := by decide +kernel
theorem d4_16 : decode prog_47_method_1_code 16 = .ok (.putfield 17, 3) := by decide +kernel
theorem d4_19 : decode prog_47_method_1_code 19 = .ok (.return_, 1) := by decide +kernel
theorem ef_rmTab (m : MethodId) (x0 : Addr) : entryFrame m #[(.ref x0)] 1 = mkF m 0 #[.val (.ref x0)] [] := by first | (simp [entryFrame, mkF, argsToLocals, Value.category]; done) | rfl
def QTab (Z : State) (tb : Addr) (h0 : Heap) (n0 : Nat) (v : Option Value) (h : Heap) (L : List Loc) : Prop := ∃ (a : Addr) (k : ClassId), v = none ∧ Fr n0 L ∧ Keep h0 h [tb] ∧ h0.size ≤ a ∧ Exa Z h tb "com/example/redoubt/redoubt/storage/FrameTable" ∧ Fld Z h tb "com/example/redoubt/redoubt/storage/FrameTable" "slots" "[Lcom/example/redoubt/redoubt/storage/PageCache$Frame;" (.ref a) ∧ Fld Z h tb "com/example/redoubt/redoubt/storage/FrameTable" "shift" "I" (.int (28 : Int32)) ∧ Fld Z h tb "com/example/redoubt/redoubt/storage/FrameTable" "size" "I" (.int (0 : Int32)) ∧ Arv Z h a k (.object "com/example/redoubt/redoubt/storage/PageCache$Frame") (16 : Int32) ([.null, .null, .null, .null, .null, .null, .null, .null, .null, .null, .null, .null, .null, .null, .null, .null] : List Value) .null ∧ Ovr Z k "com/example/redoubt/redoubt/storage/PageCache$Frame"
theorem pn_1 : plainName "com/example/redoubt/redoubt/storage/FrameTable" = true := by first | (simp [plainName, overriddenIn]; done) | decide +kernel
set_option maxRecDepth 65536 in
set_option maxHeartbeats 40000000 in
theorem rmTab (l : Launch) (Z : State) (a0 : Array Value) (hw : ∀ d ∈ tables_1, d.before a0 Z = true) (ws : List Jvm.Cond) (tb : Addr) (h0 : Heap) (n0 : Nat) (Z0 : n0 ≤ h0.size) (E_tb : Exa Z h0 tb "com/example/redoubt/redoubt/storage/FrameTable") (F_slots_tb : Fld Z h0 tb "com/example/redoubt/redoubt/storage/FrameTable" "slots" "[Lcom/example/redoubt/redoubt/storage/PageCache$Frame;" .null) (F_shift_tb : Fld Z h0 tb "com/example/redoubt/redoubt/storage/FrameTable" "shift" "I" (.int (0 : Int32))) (F_size_tb : Fld Z h0 tb "com/example/redoubt/redoubt/storage/FrameTable" "size" "I" (.int (0 : Int32))) (g_tb : n0 ≤ tb) :
    MetFree l (⟨"com/example/redoubt/redoubt/storage/FrameTable", "<init>", "()V"⟩ : MethodName) (head1 (Jvm.Cond.code (⟨"com/example/redoubt/redoubt/storage/FrameTable", "<init>", "()V"⟩ : MethodName) prog_47_method_1_code 1 none :: ws) ({ frames := 1, cells := 1, slots := 16, locals := 12 } : Room)) (fun aA uU => aA = #[(.ref tb)] ∧ Z.Warmed39 uU.vm ∧ uU.heap = h0) (fun _ _ _ _ _ => True) (fun _ uU oO uU' => ∃ vV lL, oO = .returned vV ∧ QTab Z tb h0 n0 vV uU'.heap lL ∧ FrameEnd uU oO uU' lL ({ frames := 1, cells := 1, slots := 16, locals := 12 } : Room).cells ({ frames := 1, cells := 1, slots := 16, locals := 12 } : Room).slots) := by
  refine MetFree.of_bodySF (plainFor_of_name pn_1) hisR ?_
  intro p e s m args below meth c s₁ Bd hml0 hP hK
  obtain ⟨rfl, hZ, hh⟩ := hP
  have hx := Bd.exec
  have hby := Bd.bytes
  have hml : c.maxLocals = 1 := hml0
  have hown : s.vm.findClass "com/example/redoubt/redoubt/storage/FrameTable" = some m.cls := findClass_of_methodNamed Bd.named
  have hnm := (name_of_methodNamed Bd.named Bd.method).1
  have X0 : Stand p l e ({ frames := 1, cells := 1, slots := 16, locals := 12 } : Room) s m #[(.ref tb)] below meth c s₁ [] 0 0 := Stand.of_body Bd
  have e0 : s₁.heap = h0 := by rw [← hh, Bd.state]; rfl
  have N0 := Fr.nil n0
  have pre0 : ∀ t, Steps p.tables e below (s₁.setTop (mkF m 0 #[.val (.ref tb)] [])) t → Steps p.tables e below (s₁.setTop (entryFrame m #[(.ref tb)] 1)) t := fun t kk => castTop (ef_rmTab m tb) kk
  obtain ⟨T16, X16, e16, st16⟩ := initO X0 hx hZ hown (hw _ (List.mem_of_getElem? (i := 27) rfl)) (hw _ (List.mem_of_getElem? (i := 13) rfl)) (hw _ (List.mem_of_getElem? (i := 14) rfl)) e0 (g := (mkF m 1 #[.val (.ref tb)] [(.ref tb)])) rfl (by rw [hml]; rfl) rfl (hb hby d4_1) (by decide) (W := 0) (by show 2 * 0 + _ ≤ _; exact Nat.le_of_eq rfl) (by decide)
  obtain ⟨T17, h17, k17, X17, e17, E17, A17, O17, st17⟩ := newR X16 hx hZ hown (hw _ (List.mem_of_getElem? (i := 28) rfl)) (hw _ (List.mem_of_getElem? (i := 2) rfl)) e16 (g := (mkF m 7 #[.val (.ref tb)] [(.int (16 : Int32)), (.ref tb)])) rfl (hb hby d4_7) rfl (by decide) (cap := 16) (by decide) (by decide) (by decide) (by decide)
  obtain ⟨b17, gq17⟩ : ∃ z, z = h0.size := ⟨_, rfl⟩
  rw [← gq17] at A17 st17
  have ne18 : tb ≠ b17 := Nat.ne_of_lt (Nat.lt_of_lt_of_le E_tb.lt (Nat.le_of_eq gq17.symm))
  have g_b17 : n0 ≤ b17 := Nat.le_trans Z0 (Nat.le_of_eq gq17.symm)
  have sz_b17 : h0.size ≤ b17 := Nat.le_trans (Nat.le_refl _) (Nat.le_of_eq gq17.symm)
  have Ex19 : Exa Z h17 tb "com/example/redoubt/redoubt/storage/FrameTable" := (E_tb.ext E17)
  have F20 : Fld Z h17 tb "com/example/redoubt/redoubt/storage/FrameTable" "slots" "[Lcom/example/redoubt/redoubt/storage/PageCache$Frame;" .null := (F_slots_tb.ext E17)
  have F21 : Fld Z h17 tb "com/example/redoubt/redoubt/storage/FrameTable" "shift" "I" (.int (0 : Int32)) := (F_shift_tb.ext E17)
  have F22 : Fld Z h17 tb "com/example/redoubt/redoubt/storage/FrameTable" "size" "I" (.int (0 : Int32)) := (F_size_tb.ext E17)
  have K23 : Keep h0 h17 [tb] := (Keep.refl h0 _).ext E17
  have Av17 : Arv Z h17 b17 k17 (.object "com/example/redoubt/redoubt/storage/PageCache$Frame") (16 : Int32) ([.null, .null, .null, .null, .null, .null, .null, .null, .null, .null, .null, .null, .null, .null, .null, .null] : List Value) .null := (Arv.new A17 (by decide)).pad (pad_rep [] .null 16)
  obtain ⟨T24, h24, X24, e24, W24, st24⟩ := putF X17 hx hZ hown (host := "") (Or.inl (hw _ (List.mem_of_getElem? (i := 29) rfl))) Via.refl e17 F20 Ex19 (Or.inl (hw _ (List.mem_of_getElem? (i := 30) rfl))) (hw _ (List.mem_of_getElem? (i := 22) rfl)) (ty := (.array (.object "com/example/redoubt/redoubt/storage/PageCache$Frame"))) (by decide) rfl rfl (g := (mkF m 10 #[.val (.ref tb)] [(.ref b17), (.ref tb)])) rfl rfl (hb hby d4_10)
  have Ex25 : Exa Z h24 tb "com/example/redoubt/redoubt/storage/FrameTable" := (Ex19.wr W24)
  have F26 : Fld Z h24 tb "com/example/redoubt/redoubt/storage/FrameTable" "shift" "I" (.int (0 : Int32)) := (F21.other W24 (Or.inr (slot_ne (Or.inl (hw _ (List.mem_of_getElem? (i := 32) rfl))) (Or.inl (hw _ (List.mem_of_getElem? (i := 30) rfl))) (by decide) (t := .int) (t' := (.array (.object "com/example/redoubt/redoubt/storage/PageCache$Frame"))) (by decide) (by decide))))
  have F27 : Fld Z h24 tb "com/example/redoubt/redoubt/storage/FrameTable" "size" "I" (.int (0 : Int32)) := (F22.other W24 (Or.inr (slot_ne (Or.inl (hw _ (List.mem_of_getElem? (i := 39) rfl))) (Or.inl (hw _ (List.mem_of_getElem? (i := 30) rfl))) (by decide) (t := .int) (t' := (.array (.object "com/example/redoubt/redoubt/storage/PageCache$Frame"))) (by decide) (by decide))))
  have Av28 : Arv Z h24 b17 k17 (.object "com/example/redoubt/redoubt/storage/PageCache$Frame") (16 : Int32) ([.null, .null, .null, .null, .null, .null, .null, .null, .null, .null, .null, .null, .null, .null, .null, .null] : List Value) .null := (Av17.other W24 (Ne.symm ne18))
  have K29 : Keep h0 h24 [tb] := K23.wr W24 (Or.inl (List.mem_of_getElem? (i := 0) rfl))
  have N30 := Fr.snoc X24 N0 g_tb
  have F31 : Fld Z h24 tb "com/example/redoubt/redoubt/storage/FrameTable" "slots" "[Lcom/example/redoubt/redoubt/storage/PageCache$Frame;" (.ref b17) := F20.same W24
  obtain ⟨T32, h32, X32, e32, W32, st32⟩ := putF X24 hx hZ hown (host := "") (Or.inl (hw _ (List.mem_of_getElem? (i := 31) rfl))) Via.refl e24 F26 Ex25 (Or.inl (hw _ (List.mem_of_getElem? (i := 32) rfl))) (hw _ (List.mem_of_getElem? (i := 22) rfl)) (ty := .int) (by decide) rfl rfl (g := (mkF m 16 #[.val (.ref tb)] [(.int (28 : Int32)), (.ref tb)])) rfl rfl (hb hby d4_16)
  have Ex33 : Exa Z h32 tb "com/example/redoubt/redoubt/storage/FrameTable" := (Ex25.wr W32)
  have F34 : Fld Z h32 tb "com/example/redoubt/redoubt/storage/FrameTable" "size" "I" (.int (0 : Int32)) := (F27.other W32 (Or.inr (slot_ne (Or.inl (hw _ (List.mem_of_getElem? (i := 39) rfl))) (Or.inl (hw _ (List.mem_of_getElem? (i := 32) rfl))) (by decide) (t := .int) (t' := .int) (by decide) (by decide))))
  have Av35 : Arv Z h32 b17 k17 (.object "com/example/redoubt/redoubt/storage/PageCache$Frame") (16 : Int32) ([.null, .null, .null, .null, .null, .null, .null, .null, .null, .null, .null, .null, .null, .null, .null, .null] : List Value) .null := (Av28.other W32 (Ne.symm ne18))
  have F36 : Fld Z h32 tb "com/example/redoubt/redoubt/storage/FrameTable" "slots" "[Lcom/example/redoubt/redoubt/storage/PageCache$Frame;" (.ref b17) := (F31.other W32 (Or.inr (slot_ne (Or.inl (hw _ (List.mem_of_getElem? (i := 30) rfl))) (Or.inl (hw _ (List.mem_of_getElem? (i := 32) rfl))) (by decide) (t := (.array (.object "com/example/redoubt/redoubt/storage/PageCache$Frame"))) (t' := .int) (by decide) (by decide))))
  have K37 : Keep h0 h32 [tb] := K29.wr W32 (Or.inl (List.mem_of_getElem? (i := 0) rfl))
  have N38 := Fr.snoc X32 N30 g_tb
  have F39 : Fld Z h32 tb "com/example/redoubt/redoubt/storage/FrameTable" "shift" "I" (.int (28 : Int32)) := F26.same W32
  have pre40 : ∀ t, Steps p.tables e below (T32.setTop (mkF m 19 #[.val (.ref tb)] [])) t → Steps p.tables e below (s₁.setTop (entryFrame m #[(.ref tb)] 1)) t := fun t kk => pre0 t (by
      show Steps p.tables e below (s₁.setTop (mkF m 0 #[.val (.ref tb)] [])) _
      refine XS.aloadN X0.here hx rfl (hb hby d4_0) rfl rfl ?_
      show Steps p.tables e below (s₁.setTop (mkF m 1 #[.val (.ref tb)] [(.ref tb)])) _
      refine st16 _ ?_
      show Steps p.tables e below (T16.setTop (mkF m 4 #[.val (.ref tb)] [])) _
      refine XS.aloadN X16.here hx rfl (hb hby d4_4) rfl rfl ?_
      show Steps p.tables e below (T16.setTop (mkF m 5 #[.val (.ref tb)] [(.ref tb)])) _
      refine XS.bipush X16.here hx rfl (hb hby d4_5) ?_
      show Steps p.tables e below (T16.setTop (mkF m 7 #[.val (.ref tb)] [(.int (16 : Int32)), (.ref tb)])) _
      refine st17 _ ?_
      show Steps p.tables e below (T17.setTop (mkF m 10 #[.val (.ref tb)] [(.ref b17), (.ref tb)])) _
      refine st24 _ ?_
      show Steps p.tables e below (T24.setTop (mkF m 13 #[.val (.ref tb)] [])) _
      refine XS.aloadN X24.here hx rfl (hb hby d4_13) rfl rfl ?_
      show Steps p.tables e below (T24.setTop (mkF m 14 #[.val (.ref tb)] [(.ref tb)])) _
      refine XS.bipush X24.here hx rfl (hb hby d4_14) ?_
      show Steps p.tables e below (T24.setTop (mkF m 16 #[.val (.ref tb)] [(.int (28 : Int32)), (.ref tb)])) _
      refine st32 _ ?_
      exact kk)
  obtain ⟨fs, hr, hrun, hended, hW, hsame⟩ := X32.leave (v := none) (fun _ => rfl)
  refine ⟨_, _, pre40 _ ?_, hrun, hended, _, _, rfl, ?_, ⟨_, rfl⟩, hW, hsame.mono (by decide) (by decide)⟩
  · show Steps p.tables e below (T32.setTop (mkF m 19 #[.val (.ref tb)] [])) _
    exact X32.returnOut hx Bd.returns (hb hby d4_19) hr
  · show QTab Z tb h0 n0 _ T32.heap _
    rw [e32]
    exact ⟨b17, k17, rfl, N38, K37, sz_b17, Ex33, F36, F39, F34, Av35, O17⟩
theorem d7_0 : decode prog_47_method_7_code 0 = .ok (.iload_n 1, 1) := by decide +kernel
theorem d7_1 : decode prog_47_method_7_code 1 = .ok (.ldc 38, 2) := by decide +kernel
theorem d7_3 : decode prog_47_method_7_code 3 = .ok (.imul, 1) := by decide +kernel
theorem d7_4 : decode prog_47_method_7_code 4 = .ok (.aload_n 0, 1) := by decide +kernel
theorem d7_5 : decode prog_47_method_7_code 5 = .ok (.getfield 17, 3) := by decide +kernel
theorem d7_8 : decode prog_47_method_7_code 8 = .ok (.iushr, 1) := by decide +kernel
def own_home (pg : Int32) (sh : Int32) : Int32 := (((pg * (-1640531527 : Int32)).toUInt32 >>> (sh &&& 31).toUInt32).toInt32)
theorem d7_9 : decode prog_47_method_7_code 9 = .ok (.ireturn, 1) := by decide +kernel
theorem ef_rmHome (m : MethodId) (x0 : Addr) (x1 : Int32) : entryFrame m #[(.ref x0), (.int x1)] 2 = mkF m 0 #[.val (.ref x0), .val (.int x1)] [] := by first | (simp [entryFrame, mkF, argsToLocals, Value.category]; done) | rfl
def QHome (Z : State) (tb : Addr) (pg : Int32) (sh : Int32) (h0 : Heap) (n0 : Nat) (v : Option Value) (h : Heap) (L : List Loc) : Prop := v = some (.int (own_home pg sh)) ∧ Fr n0 L ∧ h = h0
set_option maxRecDepth 65536 in
set_option maxHeartbeats 40000000 in
theorem rmHome (l : Launch) (Z : State) (a0 : Array Value) (hw : ∀ d ∈ tables_1, d.before a0 Z = true) (ws : List Jvm.Cond) (tb : Addr) (pg : Int32) (sh : Int32) (h0 : Heap) (n0 : Nat) (Z0 : n0 ≤ h0.size) (F_shift_tb : Fld Z h0 tb "com/example/redoubt/redoubt/storage/FrameTable" "shift" "I" (.int sh)) :
    MetFree l (⟨"com/example/redoubt/redoubt/storage/FrameTable", "home", "(I)I"⟩ : MethodName) (head1 (Jvm.Cond.code (⟨"com/example/redoubt/redoubt/storage/FrameTable", "home", "(I)I"⟩ : MethodName) prog_47_method_7_code 2 (some .int) :: ws) ({ frames := 0, cells := 0, slots := 0, locals := 0 } : Room)) (fun aA uU => aA = #[(.ref tb), (.int pg)] ∧ Z.Warmed39 uU.vm ∧ uU.heap = h0) (fun _ _ _ _ _ => True) (fun _ uU oO uU' => ∃ vV lL, oO = .returned vV ∧ QHome Z tb pg sh h0 n0 vV uU'.heap lL ∧ FrameEnd uU oO uU' lL ({ frames := 0, cells := 0, slots := 0, locals := 0 } : Room).cells ({ frames := 0, cells := 0, slots := 0, locals := 0 } : Room).slots) := by
  refine MetFree.of_bodySF (plainFor_of_name pn_1) hisR ?_
  intro p e s m args below meth c s₁ Bd hml0 hP hK
  obtain ⟨rfl, hZ, hh⟩ := hP
  have hx := Bd.exec
  have hby := Bd.bytes
  have hml : c.maxLocals = 2 := hml0
  have hown : s.vm.findClass "com/example/redoubt/redoubt/storage/FrameTable" = some m.cls := findClass_of_methodNamed Bd.named
  have hnm := (name_of_methodNamed Bd.named Bd.method).1
  have X0 : Stand p l e ({ frames := 0, cells := 0, slots := 0, locals := 0 } : Room) s m #[(.ref tb), (.int pg)] below meth c s₁ [] 0 0 := Stand.of_body Bd
  have e0 : s₁.heap = h0 := by rw [← hh, Bd.state]; rfl
  have N0 := Fr.nil n0
  have pre0 : ∀ t, Steps p.tables e below (s₁.setTop (mkF m 0 #[.val (.ref tb), .val (.int pg)] [])) t → Steps p.tables e below (s₁.setTop (entryFrame m #[(.ref tb), (.int pg)] 2)) t := fun t kk => castTop (ef_rmHome m tb pg) kk
  obtain ⟨T41, X41, e41, st41⟩ := getF X0 hx hZ hown (host := "") (Or.inl (hw _ (List.mem_of_getElem? (i := 31) rfl))) Via.refl e0 F_shift_tb (g := (mkF m 5 #[.val (.ref tb), .val (.int pg)] [(.ref tb), (.int (pg * (-1640531527 : Int32)))])) rfl rfl (hb hby d7_5)
  have pre42 : ∀ t, Steps p.tables e below (T41.setTop (mkF m 9 #[.val (.ref tb), .val (.int pg)] [(.int (((pg * (-1640531527 : Int32)).toUInt32 >>> (sh &&& 31).toUInt32).toInt32))])) t → Steps p.tables e below (s₁.setTop (entryFrame m #[(.ref tb), (.int pg)] 2)) t := fun t kk => pre0 t (by
      show Steps p.tables e below (s₁.setTop (mkF m 0 #[.val (.ref tb), .val (.int pg)] [])) _
      refine XS.iloadN X0.here hx rfl (hb hby d7_0) rfl ?_
      show Steps p.tables e below (s₁.setTop (mkF m 1 #[.val (.ref tb), .val (.int pg)] [(.int pg)])) _
      refine X0.ldcInt hx hown (mvT hZ (hw _ (List.mem_of_getElem? (i := 49) rfl))) (g := (mkF m 1 #[.val (.ref tb), .val (.int pg)] [(.int pg)])) rfl (hb hby d7_1) _ ?_
      show Steps p.tables e below (s₁.setTop (mkF m 3 #[.val (.ref tb), .val (.int pg)] [(.int (-1640531527 : Int32)), (.int pg)])) _
      refine XS.imul X0.here hx rfl (hb hby d7_3) rfl ?_
      show Steps p.tables e below (s₁.setTop (mkF m 4 #[.val (.ref tb), .val (.int pg)] [(.int (pg * (-1640531527 : Int32)))])) _
      refine XS.aloadN X0.here hx rfl (hb hby d7_4) rfl rfl ?_
      show Steps p.tables e below (s₁.setTop (mkF m 5 #[.val (.ref tb), .val (.int pg)] [(.ref tb), (.int (pg * (-1640531527 : Int32)))])) _
      refine st41 _ ?_
      show Steps p.tables e below (T41.setTop (mkF m 8 #[.val (.ref tb), .val (.int pg)] [(.int sh), (.int (pg * (-1640531527 : Int32)))])) _
      refine XS.iushr X41.here hx rfl (hb hby d7_8) rfl ?_
      exact kk)
  obtain ⟨fs, hr, hrun, hended, hW, hsame⟩ := X41.leave (v := some (.int (((pg * (-1640531527 : Int32)).toUInt32 >>> (sh &&& 31).toUInt32).toInt32))) (fun h => by rw [Bd.returns] at h; cases h)
  refine ⟨_, _, pre42 _ ?_, hrun, hended, _, _, rfl, ?_, ⟨_, rfl⟩, hW, hsame.mono (by decide) (by decide)⟩
  · show Steps p.tables e below (T41.setTop (mkF m 9 #[.val (.ref tb), .val (.int pg)] [(.int (((pg * (-1640531527 : Int32)).toUInt32 >>> (sh &&& 31).toUInt32).toInt32))])) _
    exact retOut X41 hx Bd.returns rfl (Or.inl ⟨rfl, Or.inl rfl, _, rfl⟩) (hb hby d7_9) hr
  · show QHome Z tb pg sh h0 n0 _ T41.heap _
    rw [e41]
    exact ⟨rfl, N0, rfl⟩
theorem d9_0 : decode prog_47_method_5_code 0 = .ok (.aload_n 0, 1) := by decide +kernel
theorem d9_1 : decode prog_47_method_5_code 1 = .ok (.getfield 28, 3) := by decide +kernel
theorem d9_4 : decode prog_47_method_5_code 4 = .ok (.ireturn, 1) := by decide +kernel
theorem ef_rmSize (m : MethodId) (x0 : Addr) : entryFrame m #[(.ref x0)] 1 = mkF m 0 #[.val (.ref x0)] [] := by first | (simp [entryFrame, mkF, argsToLocals, Value.category]; done) | rfl
def QSize (Z : State) (tb : Addr) (c0 : Int32) (h0 : Heap) (n0 : Nat) (v : Option Value) (h : Heap) (L : List Loc) : Prop := v = some (.int c0) ∧ Fr n0 L ∧ h = h0
set_option maxRecDepth 65536 in
set_option maxHeartbeats 40000000 in
theorem rmSize (l : Launch) (Z : State) (a0 : Array Value) (hw : ∀ d ∈ tables_1, d.before a0 Z = true) (ws : List Jvm.Cond) (tb : Addr) (c0 : Int32) (h0 : Heap) (n0 : Nat) (Z0 : n0 ≤ h0.size) (F_size_tb : Fld Z h0 tb "com/example/redoubt/redoubt/storage/FrameTable" "size" "I" (.int c0)) :
    MetFree l (⟨"com/example/redoubt/redoubt/storage/FrameTable", "size", "()I"⟩ : MethodName) (head1 (Jvm.Cond.code (⟨"com/example/redoubt/redoubt/storage/FrameTable", "size", "()I"⟩ : MethodName) prog_47_method_5_code 1 (some .int) :: ws) ({ frames := 0, cells := 0, slots := 0, locals := 0 } : Room)) (fun aA uU => aA = #[(.ref tb)] ∧ Z.Warmed39 uU.vm ∧ uU.heap = h0) (fun _ _ _ _ _ => True) (fun _ uU oO uU' => ∃ vV lL, oO = .returned vV ∧ QSize Z tb c0 h0 n0 vV uU'.heap lL ∧ FrameEnd uU oO uU' lL ({ frames := 0, cells := 0, slots := 0, locals := 0 } : Room).cells ({ frames := 0, cells := 0, slots := 0, locals := 0 } : Room).slots) := by
  refine MetFree.of_bodySF (plainFor_of_name pn_1) hisR ?_
  intro p e s m args below meth c s₁ Bd hml0 hP hK
  obtain ⟨rfl, hZ, hh⟩ := hP
  have hx := Bd.exec
  have hby := Bd.bytes
  have hml : c.maxLocals = 1 := hml0
  have hown : s.vm.findClass "com/example/redoubt/redoubt/storage/FrameTable" = some m.cls := findClass_of_methodNamed Bd.named
  have hnm := (name_of_methodNamed Bd.named Bd.method).1
  have X0 : Stand p l e ({ frames := 0, cells := 0, slots := 0, locals := 0 } : Room) s m #[(.ref tb)] below meth c s₁ [] 0 0 := Stand.of_body Bd
  have e0 : s₁.heap = h0 := by rw [← hh, Bd.state]; rfl
  have N0 := Fr.nil n0
  have pre0 : ∀ t, Steps p.tables e below (s₁.setTop (mkF m 0 #[.val (.ref tb)] [])) t → Steps p.tables e below (s₁.setTop (entryFrame m #[(.ref tb)] 1)) t := fun t kk => castTop (ef_rmSize m tb) kk
  obtain ⟨T43, X43, e43, st43⟩ := getF X0 hx hZ hown (host := "") (Or.inl (hw _ (List.mem_of_getElem? (i := 38) rfl))) Via.refl e0 F_size_tb (g := (mkF m 1 #[.val (.ref tb)] [(.ref tb)])) rfl rfl (hb hby d9_1)
  have pre44 : ∀ t, Steps p.tables e below (T43.setTop (mkF m 4 #[.val (.ref tb)] [(.int c0)])) t → Steps p.tables e below (s₁.setTop (entryFrame m #[(.ref tb)] 1)) t := fun t kk => pre0 t (by
      show Steps p.tables e below (s₁.setTop (mkF m 0 #[.val (.ref tb)] [])) _
      refine XS.aloadN X0.here hx rfl (hb hby d9_0) rfl rfl ?_
      show Steps p.tables e below (s₁.setTop (mkF m 1 #[.val (.ref tb)] [(.ref tb)])) _
      refine st43 _ ?_
      exact kk)
  obtain ⟨fs, hr, hrun, hended, hW, hsame⟩ := X43.leave (v := some (.int c0)) (fun h => by rw [Bd.returns] at h; cases h)
  refine ⟨_, _, pre44 _ ?_, hrun, hended, _, _, rfl, ?_, ⟨_, rfl⟩, hW, hsame.mono (by decide) (by decide)⟩
  · show Steps p.tables e below (T43.setTop (mkF m 4 #[.val (.ref tb)] [(.int c0)])) _
    exact retOut X43 hx Bd.returns rfl (Or.inl ⟨rfl, Or.inl rfl, _, rfl⟩) (hb hby d9_4) hr
  · show QSize Z tb c0 h0 n0 _ T43.heap _
    rw [e43]
    exact ⟨rfl, N0, rfl⟩
def own_tb (n : Int32) (N : Nat) (sh : Int32) : Prop := (n = 16 ∧ N = 16 ∧ sh = 28) ∨ (n = 32 ∧ N = 32 ∧ sh = 27)
theorem own_le32 {n : Int32} {N : Nat} {sh : Int32} (h : own_tb n N sh) : N ≤ 32 := by rcases h with ⟨-, rfl, -⟩ | ⟨-, rfl, -⟩ <;> decide
theorem own_ixx : ∀ i : Nat, i < 32 → (Int32.ofNat i).toNatClampNeg = i := by decide +kernel
theorem own_ix {n : Int32} {N : Nat} {sh : Int32} (h : own_tb n N sh) {i : Nat} (hi : i < N) : (Int32.ofNat i).toNatClampNeg = i := own_ixx i (Nat.lt_of_lt_of_le hi (own_le32 h))
theorem own_in16 : ∀ i : Nat, i < 16 → ¬ (Int32.ofNat i) < 0 ∧ (Int32.ofNat i) < (16 : Int32) := by decide +kernel
theorem own_in32 : ∀ i : Nat, i < 32 → ¬ (Int32.ofNat i) < 0 ∧ (Int32.ofNat i) < (32 : Int32) := by decide +kernel
theorem own_in {n : Int32} {N : Nat} {sh : Int32} (h : own_tb n N sh) {i : Nat} (hi : i < N) : ¬ (Int32.ofNat i) < 0 ∧ (Int32.ofNat i) < n := by
  rcases h with ⟨rfl, rfl, -⟩ | ⟨rfl, rfl, -⟩
  · exact own_in16 i hi
  · exact own_in32 i hi
theorem own_nx16 : ∀ i : Nat, i < 16 → ((Int32.ofNat i) + (1 : Int32)) &&& ((16 : Int32) - (1 : Int32)) = Int32.ofNat ((i + 1) % 16) := by decide +kernel
theorem own_nx32 : ∀ i : Nat, i < 32 → ((Int32.ofNat i) + (1 : Int32)) &&& ((32 : Int32) - (1 : Int32)) = Int32.ofNat ((i + 1) % 32) := by decide +kernel
theorem own_nx {n : Int32} {N : Nat} {sh : Int32} (h : own_tb n N sh) {i : Nat} (hi : i < N) : ((Int32.ofNat i) + (1 : Int32)) &&& (n - (1 : Int32)) = Int32.ofNat ((i + 1) % N) := by
  rcases h with ⟨rfl, rfl, -⟩ | ⟨rfl, rfl, -⟩
  · exact own_nx16 i hi
  · exact own_nx32 i hi
theorem own_dec {n : Int32} {N : Nat} {sh : Int32} (h : own_tb n N sh) {i j0 : Nat} (hi : i < N) (hj : j0 < N) (hne : i ≠ j0) : (j0 + N - (i + 1) % N) % N < (j0 + N - i) % N := by
  rcases h with ⟨-, rfl, -⟩ | ⟨-, rfl, -⟩ <;> omega
theorem own_mod {n : Int32} {N : Nat} {sh : Int32} (h : own_tb n N sh) (i : Nat) : i % N < N := by
  rcases h with ⟨-, rfl, -⟩ | ⟨-, rfl, -⟩ <;> omega
theorem own_ush (x : Int32) (s : UInt32) (k : Nat) (hs : s.toNat = k) (hk : k < 32) (h0 : 0 < k) : ∃ i : Nat, i < 2 ^ (32 - k) ∧ (x.toUInt32 >>> s).toInt32 = Int32.ofNat i := by
  refine ⟨(x.toUInt32 >>> s).toNat, ?_, ?_⟩
  · rw [UInt32.toNat_shiftRight, hs, Nat.mod_eq_of_lt hk, Nat.shiftRight_eq_div_pow]
    have := x.toUInt32.toNat_lt
    rw [Nat.div_lt_iff_lt_mul (Nat.pow_pos (by decide)), ← Nat.pow_add, Nat.sub_add_cancel (Nat.le_of_lt hk)]
    exact this
  · generalize x.toUInt32 >>> s = u
    apply Int32.toBitVec_inj.mp
    apply BitVec.eq_of_toNat_eq
    simp [Int32.toBitVec_ofNat]
def own_cnt : List Value → Nat
  | [] => 0
  | .null :: r => own_cnt r
  | _ :: r => own_cnt r + 1
theorem own_free : ∀ (vs : List Value), own_cnt vs < vs.length → ∃ j, j < vs.length ∧ vs.getD j .null = .null
  | [], h => absurd h (by decide)
  | v :: r, h => by
    by_cases hv : v = .null
    · exact ⟨0, by simp, by simp [hv]⟩
    · have h1 : own_cnt (v :: r) = own_cnt r + 1 := by cases v <;> first | rfl | exact absurd rfl hv
      rw [h1] at h
      obtain ⟨j, h2, h3⟩ := own_free r (by simpa using h)
      exact ⟨j + 1, by simpa using h2, by simpa using h3⟩
theorem own_cset : ∀ (vs : List Value) (i : Nat) (f : Addr), i < vs.length → vs.getD i .null = .null → own_cnt (vs.set i (.ref f)) = own_cnt vs + 1
  | [], i, f, h, _ => absurd h (by simp)
  | v :: r, 0, f, _, e => by
    have : v = .null := by simpa using e
    subst this; rfl
  | v :: r, i + 1, f, h, e => by
    have ih := own_cset r i f (by simpa using h) (by simpa using e)
    have hc : ∀ (w : Value) (q : List Value), own_cnt (w :: q) = own_cnt q + (if w = .null then 0 else 1) := by
      intro w q; cases w <;> simp [own_cnt]
    show own_cnt (v :: r.set i (.ref f)) = _
    rw [hc, hc, ih]; omega
theorem own_rset {vs : List Value} (h : ∀ jj, (vs.getD jj .null).isRef = true) (i : Nat) (f : Addr) : ∀ jj, ((vs.set i (.ref f)).getD jj .null).isRef = true := by
  intro jj
  by_cases e : i = jj
  · subst e
    by_cases hl : i < vs.length
    · simp [List.getD, hl]; rfl
    · have := h i; simpa [List.getD, hl] using this
  · have := h jj
    simpa [List.getD, List.getElem?_set, e] using this
theorem own_tr {a b k : Int32} (h : ¬ a < k) (hab : a < b) : ¬ b < k := by
  rw [Int32.lt_iff_toInt_lt] at *; omega
theorem own_hm {n : Int32} {N : Nat} {sh : Int32} (h : own_tb n N sh) (pg : Int32) : ∃ i : Nat, i < N ∧ own_home pg sh = Int32.ofNat i := by
  rcases h with ⟨-, rfl, rfl⟩ | ⟨-, rfl, rfl⟩
  · exact own_ush (pg * (-1640531527 : Int32)) _ 28 (by decide) (by decide) (by decide)
  · exact own_ush (pg * (-1640531527 : Int32)) _ 27 (by decide) (by decide) (by decide)
def own_Good (Z : State) (h : Heap) (vs : List Value) : Prop := ∀ v ∈ vs, v = .null ∨ ∃ (f : Addr) (pg : Int32), v = .ref f ∧ Exa Z h f "com/example/redoubt/redoubt/storage/PageCache$Frame" ∧ Fld Z h f "com/example/redoubt/redoubt/storage/PageCache$Frame" "page" "I" (.int pg)
theorem own_good_ext {Z : State} {h h' : Heap} {vs : List Value} (G : own_Good Z h vs) (E : Ext h h') : own_Good Z h' vs := fun v hv => by
  rcases G v hv with q | ⟨f, pg, e, E1, F1⟩
  · exact Or.inl q
  · exact Or.inr ⟨f, pg, e, E1.ext E, F1.ext E⟩
theorem own_good_keep {Z : State} {h h' : Heap} {vs : List Value} {ws : List Addr} (G : own_Good Z h vs) (K : Keep h h' ws) (q : ∀ f, Exa Z h f "com/example/redoubt/redoubt/storage/PageCache$Frame" → f ∉ ws) : own_Good Z h' vs := fun v hv => by
  rcases G v hv with r | ⟨f, pg, e, E1, F1⟩
  · exact Or.inl r
  · exact Or.inr ⟨f, pg, e, E1.keep K, F1.keep K (q f E1)⟩
theorem own_good_wr {Z : State} {h h' : Heap} {vs : List Value} {o : Addr} {sl : Nat} {w : Value} (G : own_Good Z h vs) (W : Wr h h' o sl w) (q : ∀ f, Exa Z h f "com/example/redoubt/redoubt/storage/PageCache$Frame" → f ≠ o) : own_Good Z h' vs := fun v hv => by
  rcases G v hv with r | ⟨f, pg, e, E1, F1⟩
  · exact Or.inl r
  · exact Or.inr ⟨f, pg, e, E1.wr W, F1.other W (Or.inl (q f E1))⟩
theorem own_good_set {Z : State} {h : Heap} {vs : List Value} {f : Addr} {pg : Int32} (G : own_Good Z h vs) (E : Exa Z h f "com/example/redoubt/redoubt/storage/PageCache$Frame") (F : Fld Z h f "com/example/redoubt/redoubt/storage/PageCache$Frame" "page" "I" (.int pg)) (i : Nat) : own_Good Z h (vs.set i (.ref f)) := fun v hv => by
  rcases List.mem_or_eq_of_mem_set hv with q | q
  · exact G v q
  · exact Or.inr ⟨f, pg, q, E, F⟩
theorem own_good_ref {Z : State} {h : Heap} {vs : List Value} (G : own_Good Z h vs) : ∀ jj, (vs.getD jj .null).isRef = true := fun jj => by
  by_cases hl : jj < vs.length
  · have e : vs.getD jj .null = vs[jj] := by simp [List.getD, hl]
    rw [e]
    rcases G _ (List.getElem_mem hl) with q | ⟨f, pg, q, -, -⟩
    · rw [q]; rfl
    · rw [q]; rfl
  · have e : vs.getD jj .null = .null := by simp [List.getD, hl]
    rw [e]; rfl
theorem own_good_at {Z : State} {h : Heap} {vs : List Value} (G : own_Good Z h vs) {jj : Nat} (hl : jj < vs.length) : vs.getD jj .null = .null ∨ ∃ (f : Addr) (pg : Int32), vs.getD jj .null = .ref f ∧ Exa Z h f "com/example/redoubt/redoubt/storage/PageCache$Frame" ∧ Fld Z h f "com/example/redoubt/redoubt/storage/PageCache$Frame" "page" "I" (.int pg) := by
  have e : vs.getD jj .null = vs[jj] := by simp [List.getD, hl]
  rw [e]; exact G _ (List.getElem_mem hl)
theorem d6_17 : decode prog_47_method_8_code 17 = .ok (.aload_n 0, 1) := by decide +kernel
theorem d6_18 : decode prog_47_method_8_code 18 = .ok (.getfield 11, 3) := by decide +kernel
theorem d6_21 : decode prog_47_method_8_code 21 = .ok (.iload_n 3, 1) := by decide +kernel
theorem d6_22 : decode prog_47_method_8_code 22 = .ok (.aaload, 1) := by decide +kernel
theorem d6_23 : decode prog_47_method_8_code 23 = .ok (.ifnull 12, 3) := by decide +kernel
theorem d6_26 : decode prog_47_method_8_code 26 = .ok (.iload_n 3, 1) := by decide +kernel
theorem d6_27 : decode prog_47_method_8_code 27 = .ok (.iconst 1, 1) := by decide +kernel
theorem d6_28 : decode prog_47_method_8_code 28 = .ok (.iadd, 1) := by decide +kernel
theorem d6_29 : decode prog_47_method_8_code 29 = .ok (.iload_n 2, 1) := by decide +kernel
theorem d6_30 : decode prog_47_method_8_code 30 = .ok (.iand, 1) := by decide +kernel
theorem d6_31 : decode prog_47_method_8_code 31 = .ok (.istore_n 3, 1) := by decide +kernel
theorem d6_32 : decode prog_47_method_8_code 32 = .ok (.goto (-15), 3) := by decide +kernel
set_option maxRecDepth 65536 in
set_option maxHeartbeats 40000000 in
theorem loopPlace {p : Program} {l : Launch} {e : Env} {R : Room} {s : State} {m : MethodId} {args : Array Value} {below : List Frame} {meth : Method} {c : Code} {cells slots : Nat} {Z : State} {a0 : Array Value} {n0 : Nat}
    (hx : p.tables.exec = Jvm.exec) (hZ : Z.Warmed39 s.vm) (hw : ∀ d ∈ tables_1, d.before a0 Z = true) (hby : c.code = prog_47_method_8_code) (hml : c.maxLocals = 4) (hown : s.vm.findClass "com/example/redoubt/redoubt/storage/FrameTable" = some m.cls) :
    ∀ (kM : Nat) (T0 : State) (locs : List Loc) (h0 : Heap) (tb : Addr) (f : Addr) (n : Int32) (i : Nat) (a : Addr) (k : ClassId) (vs : List Value) (N : Nat) (sh : Int32) (j0 : Nat) (X0 : Stand p l e R s m args below meth c T0 locs cells slots) (e0 : T0.heap = h0) (N0 : Fr n0 locs) (Z0 : n0 ≤ h0.size) (F_slots_tb : Fld Z h0 tb "com/example/redoubt/redoubt/storage/FrameTable" "slots" "[Lcom/example/redoubt/redoubt/storage/PageCache$Frame;" (.ref a)) (V_a : Arv Z h0 a k (.object "com/example/redoubt/redoubt/storage/PageCache$Frame") n vs .null) (hN : own_tb n N sh) (hi : i < N) (hj : j0 < N) (hj0 : vs.getD j0 .null = .null) (href : ∀ jj, (vs.getD jj .null).isRef = true) (hkM : (j0 + N - i) % N = kM),
      ∃ (T' : State) (locs' : List Loc) (ix : Nat), Stand p l e R s m args below meth c T' locs' cells slots ∧ Fr n0 locs' ∧ T'.heap = h0 ∧ ix < N ∧ vs.getD ix .null = .null ∧ ∀ t, Steps p.tables e below (T'.setTop (mkF m 35 #[.val (.ref tb), .val (.ref f), .val (.int (n - (1 : Int32))), .val (.int (Int32.ofNat ix))] [])) t → Steps p.tables e below (T0.setTop (mkF m 17 #[.val (.ref tb), .val (.ref f), .val (.int (n - (1 : Int32))), .val (.int (Int32.ofNat i))] [])) t := by
  intro kM
  induction kM using Nat.strongRecOn with
  | ind kM ih =>
  intro T0 locs h0 tb f n i a k vs N sh j0 X0 e0 N0 Z0 F_slots_tb V_a hN hi hj hj0 href hkM
  subst hkM
  have pre0 : ∀ t, Steps p.tables e below (T0.setTop (mkF m 17 #[.val (.ref tb), .val (.ref f), .val (.int (n - (1 : Int32))), .val (.int (Int32.ofNat i))] [])) t → Steps p.tables e below (T0.setTop (mkF m 17 #[.val (.ref tb), .val (.ref f), .val (.int (n - (1 : Int32))), .val (.int (Int32.ofNat i))] [])) t := fun t kk => kk
  obtain ⟨vv, hvv⟩ : ∃ z, z = vs.getD i .null := ⟨_, rfl⟩
  have hr_vv : vv.isRef = true := by rw [hvv]; exact href i
  obtain ⟨T45, X45, e45, st45⟩ := getF X0 hx hZ hown (host := "") (Or.inl (hw _ (List.mem_of_getElem? (i := 29) rfl))) Via.refl e0 F_slots_tb (g := (mkF m 18 #[.val (.ref tb), .val (.ref f), .val (.int (n - (1 : Int32))), .val (.int (Int32.ofNat i))] [(.ref tb)])) rfl rfl (hb hby d6_18)
  obtain ⟨cl46, Ar46, q46, Sz46, Nn46, H46, G46⟩ := id V_a
  have hin46 : ¬ ((Int32.ofNat i) < 0 ∨ cl46.slots.size ≤ ((Int32.ofNat i)).toNatClampNeg) := (inb_of Sz46 (own_in hN hi))
  have hat46 : cl46.slots[((Int32.ofNat i)).toNatClampNeg]? = some vv := H46.at hin46 (by rw [own_ix hN hi, hvv])
  have pre47 : ∀ t, Steps p.tables e below (T45.setTop (mkF m 23 #[.val (.ref tb), .val (.ref f), .val (.int (n - (1 : Int32))), .val (.int (Int32.ofNat i))] [vv])) t → Steps p.tables e below (T0.setTop (mkF m 17 #[.val (.ref tb), .val (.ref f), .val (.int (n - (1 : Int32))), .val (.int (Int32.ofNat i))] [])) t := fun t kk => pre0 t (by
      show Steps p.tables e below (T0.setTop (mkF m 17 #[.val (.ref tb), .val (.ref f), .val (.int (n - (1 : Int32))), .val (.int (Int32.ofNat i))] [])) _
      refine XS.aloadN X0.here hx rfl (hb hby d6_17) rfl rfl ?_
      show Steps p.tables e below (T0.setTop (mkF m 18 #[.val (.ref tb), .val (.ref f), .val (.int (n - (1 : Int32))), .val (.int (Int32.ofNat i))] [(.ref tb)])) _
      refine st45 _ ?_
      show Steps p.tables e below (T45.setTop (mkF m 21 #[.val (.ref tb), .val (.ref f), .val (.int (n - (1 : Int32))), .val (.int (Int32.ofNat i))] [(.ref a)])) _
      refine XS.iloadN X45.here hx rfl (hb hby d6_21) rfl ?_
      show Steps p.tables e below (T45.setTop (mkF m 22 #[.val (.ref tb), .val (.ref f), .val (.int (n - (1 : Int32))), .val (.int (Int32.ofNat i))] [(.int (Int32.ofNat i)), (.ref a)])) _
      refine X45.aaload hx (j := (Int32.ofNat i)) (v := vv) (by rw [e45]; exact Ar46.1) (State.isArrayOf_alike hZ.alike Ar46.2.1) rfl Ar46.2.2 hin46 hat46 (g := (mkF m 22 #[.val (.ref tb), .val (.ref f), .val (.int (n - (1 : Int32))), .val (.int (Int32.ofNat i))] [(.int (Int32.ofNat i)), (.ref a)])) rfl rfl (hb hby d6_22) _ ?_
      exact kk)
  by_cases hnull : vv = .null
  · have pre48 : ∀ t, Steps p.tables e below (T45.setTop (mkF m 35 #[.val (.ref tb), .val (.ref f), .val (.int (n - (1 : Int32))), .val (.int (Int32.ofNat i))] [])) t → Steps p.tables e below (T0.setTop (mkF m 17 #[.val (.ref tb), .val (.ref f), .val (.int (n - (1 : Int32))), .val (.int (Int32.ofNat i))] [])) t := fun t kk => pre47 t (by
        show Steps p.tables e below (T45.setTop (mkF m 23 #[.val (.ref tb), .val (.ref f), .val (.int (n - (1 : Int32))), .val (.int (Int32.ofNat i))] [vv])) _
        refine Jvm.Free.XT.nullYes X45.here hx rfl (pc0 := 23) (pc' := 35) rfl (hb hby d6_23) rfl hnull (by decide) (by decide) ?_
        exact kk)
    exact ⟨T45, _, i, X45, N0, e45, hi, (by rw [← hvv]; exact hnull), pre48⟩
  · have pre49 : ∀ t, Steps p.tables e below (T45.setTop (mkF m 17 #[.val (.ref tb), .val (.ref f), .val (.int (n - (1 : Int32))), .val (.int (((Int32.ofNat i) + (1 : Int32)) &&& (n - (1 : Int32))))] [])) t → Steps p.tables e below (T0.setTop (mkF m 17 #[.val (.ref tb), .val (.ref f), .val (.int (n - (1 : Int32))), .val (.int (Int32.ofNat i))] [])) t := fun t kk => pre47 t (by
        show Steps p.tables e below (T45.setTop (mkF m 23 #[.val (.ref tb), .val (.ref f), .val (.int (n - (1 : Int32))), .val (.int (Int32.ofNat i))] [vv])) _
        refine Jvm.Free.XT.nullNo X45.here hx rfl (hb hby d6_23) rfl hr_vv hnull ?_
        show Steps p.tables e below (T45.setTop (mkF m 26 #[.val (.ref tb), .val (.ref f), .val (.int (n - (1 : Int32))), .val (.int (Int32.ofNat i))] [])) _
        refine XS.iloadN X45.here hx rfl (hb hby d6_26) rfl ?_
        show Steps p.tables e below (T45.setTop (mkF m 27 #[.val (.ref tb), .val (.ref f), .val (.int (n - (1 : Int32))), .val (.int (Int32.ofNat i))] [(.int (Int32.ofNat i))])) _
        refine XS.iconst X45.here hx rfl (hb hby d6_27) ?_
        show Steps p.tables e below (T45.setTop (mkF m 28 #[.val (.ref tb), .val (.ref f), .val (.int (n - (1 : Int32))), .val (.int (Int32.ofNat i))] [(.int (1 : Int32)), (.int (Int32.ofNat i))])) _
        refine XS.iadd X45.here hx rfl (hb hby d6_28) rfl ?_
        show Steps p.tables e below (T45.setTop (mkF m 29 #[.val (.ref tb), .val (.ref f), .val (.int (n - (1 : Int32))), .val (.int (Int32.ofNat i))] [(.int ((Int32.ofNat i) + (1 : Int32)))])) _
        refine XS.iloadN X45.here hx rfl (hb hby d6_29) rfl ?_
        show Steps p.tables e below (T45.setTop (mkF m 30 #[.val (.ref tb), .val (.ref f), .val (.int (n - (1 : Int32))), .val (.int (Int32.ofNat i))] [(.int (n - (1 : Int32))), (.int ((Int32.ofNat i) + (1 : Int32)))])) _
        refine XS.iand X45.here hx rfl (hb hby d6_30) rfl ?_
        show Steps p.tables e below (T45.setTop (mkF m 31 #[.val (.ref tb), .val (.ref f), .val (.int (n - (1 : Int32))), .val (.int (Int32.ofNat i))] [(.int (((Int32.ofNat i) + (1 : Int32)) &&& (n - (1 : Int32))))])) _
        refine XS.istoreN X45.here hx rfl (hb hby d6_31) rfl (l' := #[.val (.ref tb), .val (.ref f), .val (.int (n - (1 : Int32))), .val (.int (((Int32.ofNat i) + (1 : Int32)) &&& (n - (1 : Int32))))]) rfl ?_
        show Steps p.tables e below (T45.setTop (mkF m 32 #[.val (.ref tb), .val (.ref f), .val (.int (n - (1 : Int32))), .val (.int (((Int32.ofNat i) + (1 : Int32)) &&& (n - (1 : Int32))))] [])) _
        refine XS.goto X45.here hx rfl (pc0 := 32) (pc' := 17) rfl (hb hby d6_32) (by decide) (by decide) ?_
        exact kk)
    have eq50 : (((Int32.ofNat i) + (1 : Int32)) &&& (n - (1 : Int32))) = (Int32.ofNat ((i + 1) % N)) := own_nx hN hi
    have pre51 : ∀ t, Steps p.tables e below (T45.setTop (mkF m 17 #[.val (.ref tb), .val (.ref f), .val (.int (n - (1 : Int32))), .val (.int (Int32.ofNat ((i + 1) % N)))] [])) t → Steps p.tables e below (T0.setTop (mkF m 17 #[.val (.ref tb), .val (.ref f), .val (.int (n - (1 : Int32))), .val (.int (Int32.ofNat i))] [])) t := fun t kk => pre49 t (own_cast (fun zz : Int32 => T45.setTop (mkF m 17 #[.val (.ref tb), .val (.ref f), .val (.int (n - (1 : Int32))), .val (.int zz)] [])) eq50 kk)
    have hp52 : own_tb n N sh := hN
    have hp53 : ((i + 1) % N) < N := own_mod hN (i + 1)
    have hp54 : j0 < N := hj
    have hp55 : vs.getD j0 .null = .null := hj0
    have hp56 : ∀ jj, (vs.getD jj .null).isRef = true := href
    obtain ⟨T57, lc57, ix_57, X57, N57, e57, pu57_0, pu57_1, pre57⟩ := ih _ (own_dec hN hi hj (fun q => hnull (by rw [hvv, q]; exact hj0))) T45 _ h0 tb f n ((i + 1) % N) a k vs N sh j0 X45 e45 N0 Z0 F_slots_tb V_a hp52 hp53 hp54 hp55 hp56 rfl
    exact ⟨T57, _, ix_57, X57, N57, e57, pu57_0, pu57_1, fun t kk => pre51 t (pre57 t kk)⟩
theorem d6_0 : decode prog_47_method_8_code 0 = .ok (.aload_n 0, 1) := by decide +kernel
theorem d6_1 : decode prog_47_method_8_code 1 = .ok (.getfield 11, 3) := by decide +kernel
theorem d6_4 : decode prog_47_method_8_code 4 = .ok (.arraylength, 1) := by decide +kernel
theorem d6_5 : decode prog_47_method_8_code 5 = .ok (.iconst 1, 1) := by decide +kernel
theorem d6_6 : decode prog_47_method_8_code 6 = .ok (.isub, 1) := by decide +kernel
theorem d6_7 : decode prog_47_method_8_code 7 = .ok (.istore_n 2, 1) := by decide +kernel
theorem d6_8 : decode prog_47_method_8_code 8 = .ok (.aload_n 0, 1) := by decide +kernel
theorem d6_9 : decode prog_47_method_8_code 9 = .ok (.aload_n 1, 1) := by decide +kernel
theorem d6_10 : decode prog_47_method_8_code 10 = .ok (.getfield 25, 3) := by decide +kernel
theorem d6_13 : decode prog_47_method_8_code 13 = .ok (.invokevirtual 21, 3) := by decide +kernel
theorem pd_0 : parseMethodDescriptor "(I)I" = some ⟨[.int], some .int⟩ := by decide +kernel
theorem own_found {Z : State} {a0 : Array Value} {K : String} {n : Nat} (w : (Cond.instantiable K n).before a0 Z = true) : ∃ t k, Z.vm.findClass K = some t ∧ Z.vm.classes[t]? = some k ∧ k.kind = .ordinary ∧ k.isInterface = false := by
  simp only [Cond.before, Cond.holds, Cond.value] at w
  cases hc : Z.vm.findClass K with
  | none => simp [hc] at w
  | some t =>
    cases hk : Z.vm.classes[t]? with
    | none => simp [hc, hk] at w
    | some k =>
      simp [hc, hk] at w
      exact ⟨t, k, rfl, hk, w.1.1.1, w.1.1.2.1⟩
/-- a private method by its contract, where the sheet bears no 'selects' word: that the class is no interface comes of 'instantiable' -/
theorem own_privBack {p : Program} {l : Launch} {e : Env} {R : Room} {s : State} {m : MethodId} {args : Array Value} {below : List Frame} {meth : Method} {c : Code} {T : State} {locs : List Loc} {cells slots : Nat}
    (X : Stand p l e R s m args below meth c T locs cells slots) (hx : p.tables.exec = Jvm.exec) {own : String} {index nn : Nat} {y : MethodName} {bytes : ByteArray} {maxL : Nat} {ret : Option FieldType}
    (hown : s.vm.findClass own = some m.cls) (hlink : (Cond.methodLink own index y).before args s = true) (hinst : (Cond.instanceMethod y).before args s = true) (hi : (Cond.instantiable y.cls nn).before args s = true)
    (hpriv : s.PrivateAt y) (hcode : (Cond.code y bytes maxL ret).before args s = true) (hy : y.cls ≠ "java/lang/invoke/MethodHandle" ∧ y.cls ≠ "java/lang/invoke/VarHandle")
    {W : Nat} {Pre : Pt → Array Value → Prop} {Post : Pt → Array Value → Option Value → Pt → Prop} (hK : Back l R p e below s args y 3 W Pre Post)
    {g : JFrame} (hg : g.method = m) (hsize : g.locals.size = c.maxLocals) {a : Addr} {cell : Cell} (hcell : T.heap[a]? = some cell) (hobj : ∀ q, cell.vm ≠ .statics q)
    {argsL rest : List Value} (hlen : ∀ sig, parseMethodDescriptor y.desc = some sig → argsL.length = sig.parameters.length)
    (hstack : g.stack = argsL.reverse ++ .ref a :: rest) (hW : 2 * g.monitorRoom + (rest.map fun v => v.category).sum ≤ W) (hdg : decode c.code g.pc = .ok (.invokevirtual index, 3))
    (hpre : ∀ vm₁, s.WarmedH vm₁ → Pre ⟨T.setVm vm₁, locs, cells, slots⟩ (.ref a :: argsL).toArray) :
    ∃ (v : Option Value) (vm₁ : Vm) (B : Pt), s.WarmedH vm₁ ∧ Stand p l e R s m args below meth c B.U B.locs B.cells B.slots ∧ Post ⟨T.setVm vm₁, locs, cells, slots⟩ (.ref a :: argsL).toArray v B ∧
      Steps p.tables e below (T.setTop g) (B.U.setTop { g with pc := g.pc + 3, stack := v.toList ++ rest }) := by
  obtain ⟨mk, mm, n1, n2, n3, n4⟩ := Cond.instanceMethod_spec hinst
  obtain ⟨mm', _, r1, -, -, -, -, -, -, r2⟩ := Cond.code_spec n1 hcode
  obtain rfl : mm = mm' := Option.some.inj (n2.symm.trans r1)
  obtain ⟨t, kt, f1, f2, -, f4⟩ := own_found hi
  obtain rfl : t = mk.cls := Option.some.inj (f1.symm.trans (findClass_of_methodNamed n1))
  obtain ⟨vm1, X1, st1⟩ := X.invokevirtual hx hown hlink n1 n2 n3 f2 f4 hy hcell hobj (selectMethod_private n2 (hpriv mk mm n1 n2)) n2 n4 f2 f4 hg (hlen _ r2) hstack hdg
  obtain ⟨v, B, X2, po, st2⟩ := hK m meth c ⟨T.setVm vm1, locs, cells, slots⟩ { g with stack := rest } (.invokevirtual index) mk (.ref a :: argsL).toArray X1 hg hsize hdg hW (X1.named n1) (hpre vm1 X1.warmed)
  refine ⟨v, vm1, B, X1.warmed, X2, po, ?_⟩
  have st0 : Steps p.tables e below (T.setTop g) _ := st1 _ fun acts => by rw [doInvoke_state]; exact Steps.refl _
  exact st0.trans st2
theorem d6_16 : decode prog_47_method_8_code 16 = .ok (.istore_n 3, 1) := by decide +kernel
theorem d6_35 : decode prog_47_method_8_code 35 = .ok (.aload_n 0, 1) := by decide +kernel
theorem d6_36 : decode prog_47_method_8_code 36 = .ok (.getfield 11, 3) := by decide +kernel
theorem d6_39 : decode prog_47_method_8_code 39 = .ok (.iload_n 3, 1) := by decide +kernel
theorem d6_40 : decode prog_47_method_8_code 40 = .ok (.aload_n 1, 1) := by decide +kernel
theorem d6_41 : decode prog_47_method_8_code 41 = .ok (.aastore, 1) := by decide +kernel
theorem d6_42 : decode prog_47_method_8_code 42 = .ok (.return_, 1) := by decide +kernel
theorem ef_rmPlace (m : MethodId) (x0 : Addr) (x1 : Addr) : entryFrame m #[(.ref x0), (.ref x1)] 4 = mkF m 0 #[.val (.ref x0), .val (.ref x1), .unset, .unset] [] := by first | (simp [entryFrame, mkF, argsToLocals, Value.category]; done) | rfl
def QPlace (Z : State) (tb : Addr) (f : Addr) (sh : Int32) (pg : Int32) (n : Int32) (N : Nat) (a : Addr) (k : ClassId) (vs : List Value) (j0 : Nat) (h0 : Heap) (n0 : Nat) (v : Option Value) (h : Heap) (L : List Loc) : Prop := ∃ (ix : Nat), v = none ∧ Fr n0 L ∧ Keep h0 h [a] ∧ Arv Z h a k (.object "com/example/redoubt/redoubt/storage/PageCache$Frame") n (vs.set ix (.ref f)) .null ∧ ix < N ∧ vs.getD ix .null = .null
set_option maxRecDepth 65536 in
set_option maxHeartbeats 40000000 in
theorem rmPlace (l : Launch) (Z : State) (a0 : Array Value) (hw : ∀ d ∈ tables_1, d.before a0 Z = true) (ws : List Jvm.Cond) (tb : Addr) (f : Addr) (sh : Int32) (pg : Int32) (n : Int32) (N : Nat) (a : Addr) (k : ClassId) (vs : List Value) (j0 : Nat) (h0 : Heap) (n0 : Nat) (Z0 : n0 ≤ h0.size) (E_tb : Exa Z h0 tb "com/example/redoubt/redoubt/storage/FrameTable") (F_slots_tb : Fld Z h0 tb "com/example/redoubt/redoubt/storage/FrameTable" "slots" "[Lcom/example/redoubt/redoubt/storage/PageCache$Frame;" (.ref a)) (F_shift_tb : Fld Z h0 tb "com/example/redoubt/redoubt/storage/FrameTable" "shift" "I" (.int sh)) (V_a : Arv Z h0 a k (.object "com/example/redoubt/redoubt/storage/PageCache$Frame") n vs .null) (E_f : Exa Z h0 f "com/example/redoubt/redoubt/storage/PageCache$Frame") (F_page_f : Fld Z h0 f "com/example/redoubt/redoubt/storage/PageCache$Frame" "page" "I" (.int pg)) (hN : own_tb n N sh) (hlen : vs.length = N) (hj : j0 < N) (hj0 : vs.getD j0 .null = .null) (href : ∀ jj, (vs.getD jj .null).isRef = true) (ho : Ovr Z k "com/example/redoubt/redoubt/storage/PageCache$Frame") (g_a : n0 ≤ a) :
    MetFree l (⟨"com/example/redoubt/redoubt/storage/FrameTable", "place", "(Lcom/example/redoubt/redoubt/storage/PageCache$Frame;)V"⟩ : MethodName) (head1 (Jvm.Cond.code (⟨"com/example/redoubt/redoubt/storage/FrameTable", "place", "(Lcom/example/redoubt/redoubt/storage/PageCache$Frame;)V"⟩ : MethodName) prog_47_method_8_code 4 none :: ws) ({ frames := 1, cells := 0, slots := 0, locals := 13 } : Room)) (fun aA uU => aA = #[(.ref tb), (.ref f)] ∧ Z.Warmed39 uU.vm ∧ uU.heap = h0) (fun _ _ _ _ _ => True) (fun _ uU oO uU' => ∃ vV lL, oO = .returned vV ∧ QPlace Z tb f sh pg n N a k vs j0 h0 n0 vV uU'.heap lL ∧ FrameEnd uU oO uU' lL ({ frames := 1, cells := 0, slots := 0, locals := 13 } : Room).cells ({ frames := 1, cells := 0, slots := 0, locals := 13 } : Room).slots) := by
  refine MetFree.of_bodySF (plainFor_of_name pn_1) hisR ?_
  intro p e s m args below meth c s₁ Bd hml0 hP hK
  obtain ⟨rfl, hZ, hh⟩ := hP
  have hx := Bd.exec
  have hby := Bd.bytes
  have hml : c.maxLocals = 4 := hml0
  have hown : s.vm.findClass "com/example/redoubt/redoubt/storage/FrameTable" = some m.cls := findClass_of_methodNamed Bd.named
  have hnm := (name_of_methodNamed Bd.named Bd.method).1
  have X0 : Stand p l e ({ frames := 1, cells := 0, slots := 0, locals := 13 } : Room) s m #[(.ref tb), (.ref f)] below meth c s₁ [] 0 0 := Stand.of_body Bd
  have e0 : s₁.heap = h0 := by rw [← hh, Bd.state]; rfl
  have N0 := Fr.nil n0
  have pre0 : ∀ t, Steps p.tables e below (s₁.setTop (mkF m 0 #[.val (.ref tb), .val (.ref f), .unset, .unset] [])) t → Steps p.tables e below (s₁.setTop (entryFrame m #[(.ref tb), (.ref f)] 4)) t := fun t kk => castTop (ef_rmPlace m tb f) kk
  obtain ⟨T58, X58, e58, st58⟩ := getF X0 hx hZ hown (host := "") (Or.inl (hw _ (List.mem_of_getElem? (i := 29) rfl))) Via.refl e0 F_slots_tb (g := (mkF m 1 #[.val (.ref tb), .val (.ref f), .unset, .unset] [(.ref tb)])) rfl rfl (hb hby d6_1)
  obtain ⟨cl59, Ar59, -, Sz59, Nn59, -, -⟩ := id V_a
  obtain ⟨T60, X60, e60, st60⟩ := getF X58 hx hZ hown (host := "") (Or.inl (hw _ (List.mem_of_getElem? (i := 44) rfl))) Via.refl e58 F_page_f (g := (mkF m 10 #[.val (.ref tb), .val (.ref f), .val (.int (n - (1 : Int32))), .unset] [(.ref f), (.ref tb)])) rfl rfl (hb hby d6_10)
  obtain ⟨cq61, q61, q61'⟩ := E_tb.cell
  obtain ⟨_, _, ⟨T61, L61, k61, n61⟩, -, X61, ⟨Lc61, hQ61, l61, y61, z61⟩, st61⟩ := own_privBack X60 hx (y := (⟨"com/example/redoubt/redoubt/storage/FrameTable", "home", "(I)I"⟩ : MethodName)) hown (mvT hZ (hw _ (List.mem_of_getElem? (i := 45) rfl))) (mvT hZ (hw _ (List.mem_of_getElem? (i := 46) rfl))) (mvT hZ (hw _ (List.mem_of_getElem? (i := 22) rfl))) (Cond.privateMethod_at (mvP hZ (hw _ (List.mem_of_getElem? (i := 47) rfl)) (args := #[]))) (mvT hZ (hw _ (List.mem_of_getElem? (i := 48) rfl))) (by decide) (backOf (W := 0) (rmHome l Z a0 hw [] tb pg sh h0 n0 Z0 F_shift_tb) hZ (hw _ (List.mem_of_getElem? (i := 48) rfl)) (hw _ (List.mem_of_getElem? (i := 23) rfl)) (by decide) (by decide)) (g := (mkF m 13 #[.val (.ref tb), .val (.ref f), .val (.int (n - (1 : Int32))), .unset] [(.int pg), (.ref tb)])) rfl (by rw [hml]; rfl) (a := tb) (by rw [e60]; exact q61) q61' (argsL := [(.int pg)]) (rest := []) (lenOf pd_0 rfl) rfl (by show 2 * 0 + _ ≤ _; exact Nat.le_of_eq rfl) (hb hby d6_13) (fun _ _ => ⟨rfl, e60, (by decide : 0 + 0 ≤ _), (by decide : 0 + 0 ≤ _)⟩)
  dsimp only [Pt.U, Pt.locs, Pt.cells, Pt.slots] at X61 l61 y61 z61 st61 hQ61
  rw [l61, y61, z61] at X61
  replace X61 := own_std X61 (cc := 0) (ss := 0) rfl rfl
  obtain ⟨rfl, N61q, e61⟩ := hQ61
  have N61 := Fr.app N0 N61q
  obtain ⟨i0, hi0, ei0⟩ := own_hm hN pg
  have pre62 : ∀ t, Steps p.tables e below (T61.setTop (mkF m 17 #[.val (.ref tb), .val (.ref f), .val (.int (n - (1 : Int32))), .val (.int (own_home pg sh))] [])) t → Steps p.tables e below (s₁.setTop (entryFrame m #[(.ref tb), (.ref f)] 4)) t := fun t kk => pre0 t (by
      show Steps p.tables e below (s₁.setTop (mkF m 0 #[.val (.ref tb), .val (.ref f), .unset, .unset] [])) _
      refine XS.aloadN X0.here hx rfl (hb hby d6_0) rfl rfl ?_
      show Steps p.tables e below (s₁.setTop (mkF m 1 #[.val (.ref tb), .val (.ref f), .unset, .unset] [(.ref tb)])) _
      refine st58 _ ?_
      show Steps p.tables e below (T58.setTop (mkF m 4 #[.val (.ref tb), .val (.ref f), .unset, .unset] [(.ref a)])) _
      refine X58.arraylength hx (by rw [e58]; exact Ar59.1) (State.isArrayOf_alike hZ.alike Ar59.2.1) (g := (mkF m 4 #[.val (.ref tb), .val (.ref f), .unset, .unset] [(.ref a)])) rfl rfl (hb hby d6_4) _ ?_
      rw [len_of Sz59 Nn59]
      show Steps p.tables e below (T58.setTop (mkF m 5 #[.val (.ref tb), .val (.ref f), .unset, .unset] [(.int n)])) _
      refine XS.iconst X58.here hx rfl (hb hby d6_5) ?_
      show Steps p.tables e below (T58.setTop (mkF m 6 #[.val (.ref tb), .val (.ref f), .unset, .unset] [(.int (1 : Int32)), (.int n)])) _
      refine XS.isub X58.here hx rfl (hb hby d6_6) rfl ?_
      show Steps p.tables e below (T58.setTop (mkF m 7 #[.val (.ref tb), .val (.ref f), .unset, .unset] [(.int (n - (1 : Int32)))])) _
      refine XS.istoreN X58.here hx rfl (hb hby d6_7) rfl (l' := #[.val (.ref tb), .val (.ref f), .val (.int (n - (1 : Int32))), .unset]) rfl ?_
      show Steps p.tables e below (T58.setTop (mkF m 8 #[.val (.ref tb), .val (.ref f), .val (.int (n - (1 : Int32))), .unset] [])) _
      refine XS.aloadN X58.here hx rfl (hb hby d6_8) rfl rfl ?_
      show Steps p.tables e below (T58.setTop (mkF m 9 #[.val (.ref tb), .val (.ref f), .val (.int (n - (1 : Int32))), .unset] [(.ref tb)])) _
      refine XS.aloadN X58.here hx rfl (hb hby d6_9) rfl rfl ?_
      show Steps p.tables e below (T58.setTop (mkF m 10 #[.val (.ref tb), .val (.ref f), .val (.int (n - (1 : Int32))), .unset] [(.ref f), (.ref tb)])) _
      refine st60 _ ?_
      show Steps p.tables e below (T60.setTop (mkF m 13 #[.val (.ref tb), .val (.ref f), .val (.int (n - (1 : Int32))), .unset] [(.int pg), (.ref tb)])) _
      refine st61.trans ?_
      show Steps p.tables e below (T61.setTop (mkF m 16 #[.val (.ref tb), .val (.ref f), .val (.int (n - (1 : Int32))), .unset] [(.int (own_home pg sh))])) _
      refine XS.istoreN X61.here hx rfl (hb hby d6_16) rfl (l' := #[.val (.ref tb), .val (.ref f), .val (.int (n - (1 : Int32))), .val (.int (own_home pg sh))]) rfl ?_
      exact kk)
  have eq63 : (own_home pg sh) = (Int32.ofNat i0) := ei0
  have pre64 : ∀ t, Steps p.tables e below (T61.setTop (mkF m 17 #[.val (.ref tb), .val (.ref f), .val (.int (n - (1 : Int32))), .val (.int (Int32.ofNat i0))] [])) t → Steps p.tables e below (s₁.setTop (entryFrame m #[(.ref tb), (.ref f)] 4)) t := fun t kk => pre62 t (own_cast (fun zz : Int32 => T61.setTop (mkF m 17 #[.val (.ref tb), .val (.ref f), .val (.int (n - (1 : Int32))), .val (.int zz)] [])) eq63 kk)
  have hp65 : own_tb n N sh := hN
  have hp66 : i0 < N := hi0
  have hp67 : j0 < N := hj
  have hp68 : vs.getD j0 .null = .null := hj0
  have hp69 : ∀ jj, (vs.getD jj .null).isRef = true := href
  obtain ⟨T70, lc70, ix_70, X70, N70, e70, pu70_0, pu70_1, pre70⟩ := loopPlace hx hZ hw hby hml hown (n0 := n0) _ T61 _ h0 tb f n i0 a k vs N sh j0 X61 e61 N61 Z0 F_slots_tb V_a hp65 hp66 hp67 hp68 hp69 rfl
  have pre71 : ∀ t, Steps p.tables e below (T70.setTop (mkF m 35 #[.val (.ref tb), .val (.ref f), .val (.int (n - (1 : Int32))), .val (.int (Int32.ofNat ix_70))] [])) t → Steps p.tables e below (s₁.setTop (entryFrame m #[(.ref tb), (.ref f)] 4)) t := fun t kk => pre64 t (pre70 t kk)
  obtain ⟨T72, X72, e72, st72⟩ := getF X70 hx hZ hown (host := "") (Or.inl (hw _ (List.mem_of_getElem? (i := 29) rfl))) Via.refl e70 F_slots_tb (g := (mkF m 36 #[.val (.ref tb), .val (.ref f), .val (.int (n - (1 : Int32))), .val (.int (Int32.ofNat ix_70))] [(.ref tb)])) rfl rfl (hb hby d6_36)
  obtain ⟨cl73, Ar73, q73, Sz73, Nn73, H73, G73⟩ := id V_a
  have hin73 : ¬ ((Int32.ofNat ix_70) < 0 ∨ cl73.slots.size ≤ ((Int32.ofNat ix_70)).toNatClampNeg) := (inb_of Sz73 (own_in hN pu70_0))
  obtain ⟨T74, h74, X74, e74, W74, st74⟩ := stR X72 hx hZ e72 Ar73 (j := (Int32.ofNat ix_70)) hin73 rfl (Sto.ofV Ar73 q73 ho (Ins.self E_f)) (g := (mkF m 41 #[.val (.ref tb), .val (.ref f), .val (.int (n - (1 : Int32))), .val (.int (Int32.ofNat ix_70))] [(.ref f), (.int (Int32.ofNat ix_70)), (.ref a)])) rfl rfl (hb hby d6_41)
  have Ex75 : Exa Z h74 tb "com/example/redoubt/redoubt/storage/FrameTable" := (E_tb.wr W74)
  have ne76 : tb ≠ a := own_ne_arr E_tb (hw _ (List.mem_of_getElem? (i := 22) rfl)) V_a
  have F77 : Fld Z h74 tb "com/example/redoubt/redoubt/storage/FrameTable" "slots" "[Lcom/example/redoubt/redoubt/storage/PageCache$Frame;" (.ref a) := (F_slots_tb.other W74 (Or.inl ne76))
  have F78 : Fld Z h74 tb "com/example/redoubt/redoubt/storage/FrameTable" "shift" "I" (.int sh) := (F_shift_tb.other W74 (Or.inl ne76))
  have Ex79 : Exa Z h74 f "com/example/redoubt/redoubt/storage/PageCache$Frame" := (E_f.wr W74)
  have ne80 : f ≠ a := own_ne_arr E_f (hw _ (List.mem_of_getElem? (i := 7) rfl)) V_a
  have F81 : Fld Z h74 f "com/example/redoubt/redoubt/storage/PageCache$Frame" "page" "I" (.int pg) := (F_page_f.other W74 (Or.inl ne80))
  have K82 : Keep h0 h74 [a] := (Keep.refl h0 _).wr W74 (Or.inl (List.mem_of_getElem? (i := 0) rfl))
  have N83 := Fr.snoc X74 N70 g_a
  have Av74 : Arv Z h74 a k (.object "com/example/redoubt/redoubt/storage/PageCache$Frame") n (vs.set ix_70 (.ref f)) .null := Arv.set Ar73 q73 Sz73 Nn73 H73 G73 rfl W74 ix_70 (own_ix hN pu70_0) (by rw [hlen]; exact pu70_0)
  have pre84 : ∀ t, Steps p.tables e below (T74.setTop (mkF m 42 #[.val (.ref tb), .val (.ref f), .val (.int (n - (1 : Int32))), .val (.int (Int32.ofNat ix_70))] [])) t → Steps p.tables e below (s₁.setTop (entryFrame m #[(.ref tb), (.ref f)] 4)) t := fun t kk => pre71 t (by
      show Steps p.tables e below (T70.setTop (mkF m 35 #[.val (.ref tb), .val (.ref f), .val (.int (n - (1 : Int32))), .val (.int (Int32.ofNat ix_70))] [])) _
      refine XS.aloadN X70.here hx rfl (hb hby d6_35) rfl rfl ?_
      show Steps p.tables e below (T70.setTop (mkF m 36 #[.val (.ref tb), .val (.ref f), .val (.int (n - (1 : Int32))), .val (.int (Int32.ofNat ix_70))] [(.ref tb)])) _
      refine st72 _ ?_
      show Steps p.tables e below (T72.setTop (mkF m 39 #[.val (.ref tb), .val (.ref f), .val (.int (n - (1 : Int32))), .val (.int (Int32.ofNat ix_70))] [(.ref a)])) _
      refine XS.iloadN X72.here hx rfl (hb hby d6_39) rfl ?_
      show Steps p.tables e below (T72.setTop (mkF m 40 #[.val (.ref tb), .val (.ref f), .val (.int (n - (1 : Int32))), .val (.int (Int32.ofNat ix_70))] [(.int (Int32.ofNat ix_70)), (.ref a)])) _
      refine XS.aloadN X72.here hx rfl (hb hby d6_40) rfl rfl ?_
      show Steps p.tables e below (T72.setTop (mkF m 41 #[.val (.ref tb), .val (.ref f), .val (.int (n - (1 : Int32))), .val (.int (Int32.ofNat ix_70))] [(.ref f), (.int (Int32.ofNat ix_70)), (.ref a)])) _
      refine st74 _ ?_
      exact kk)
  obtain ⟨fs, hr, hrun, hended, hW, hsame⟩ := X74.leave (v := none) (fun _ => rfl)
  refine ⟨_, _, pre84 _ ?_, hrun, hended, _, _, rfl, ?_, ⟨_, rfl⟩, hW, hsame.mono (by decide) (by decide)⟩
  · show Steps p.tables e below (T74.setTop (mkF m 42 #[.val (.ref tb), .val (.ref f), .val (.int (n - (1 : Int32))), .val (.int (Int32.ofNat ix_70))] [])) _
    exact X74.returnOut hx Bd.returns (hb hby d6_42) hr
  · show QPlace Z tb f sh pg n N a k vs j0 h0 n0 _ T74.heap _
    rw [e74]
    exact ⟨ix_70, rfl, N83, K82, Av74, pu70_0, pu70_1⟩
theorem ef_rmPlaceH (m : MethodId) (x0 : Addr) (x1 : Addr) : entryFrame m #[(.ref x0), (.ref x1)] 4 = mkF m 0 #[.val (.ref x0), .val (.ref x1), .unset, .unset] [] := by first | (simp [entryFrame, mkF, argsToLocals, Value.category]; done) | rfl
def QPlaceH (Z : State) (tb : Addr) (f : Addr) (sh : Int32) (pg : Int32) (n : Int32) (N : Nat) (a : Addr) (k : ClassId) (vs : List Value) (h0 : Heap) (n0 : Nat) (v : Option Value) (h : Heap) (L : List Loc) : Prop := v = none ∧ Fr n0 L ∧ Keep h0 h [a] ∧ Arv Z h a k (.object "com/example/redoubt/redoubt/storage/PageCache$Frame") n (vs.set (own_home pg sh).toNatClampNeg (.ref f)) .null
set_option maxRecDepth 65536 in
set_option maxHeartbeats 40000000 in
theorem rmPlaceH (l : Launch) (Z : State) (a0 : Array Value) (hw : ∀ d ∈ tables_1, d.before a0 Z = true) (ws : List Jvm.Cond) (tb : Addr) (f : Addr) (sh : Int32) (pg : Int32) (n : Int32) (N : Nat) (a : Addr) (k : ClassId) (vs : List Value) (h0 : Heap) (n0 : Nat) (Z0 : n0 ≤ h0.size) (E_tb : Exa Z h0 tb "com/example/redoubt/redoubt/storage/FrameTable") (F_slots_tb : Fld Z h0 tb "com/example/redoubt/redoubt/storage/FrameTable" "slots" "[Lcom/example/redoubt/redoubt/storage/PageCache$Frame;" (.ref a)) (F_shift_tb : Fld Z h0 tb "com/example/redoubt/redoubt/storage/FrameTable" "shift" "I" (.int sh)) (V_a : Arv Z h0 a k (.object "com/example/redoubt/redoubt/storage/PageCache$Frame") n vs .null) (E_f : Exa Z h0 f "com/example/redoubt/redoubt/storage/PageCache$Frame") (F_page_f : Fld Z h0 f "com/example/redoubt/redoubt/storage/PageCache$Frame" "page" "I" (.int pg)) (hN : own_tb n N sh) (hlen : vs.length = N) (hnull : ∀ jj, vs.getD jj .null = .null) (ho : Ovr Z k "com/example/redoubt/redoubt/storage/PageCache$Frame") (g_a : n0 ≤ a) :
    MetFree l (⟨"com/example/redoubt/redoubt/storage/FrameTable", "place", "(Lcom/example/redoubt/redoubt/storage/PageCache$Frame;)V"⟩ : MethodName) (head1 (Jvm.Cond.code (⟨"com/example/redoubt/redoubt/storage/FrameTable", "place", "(Lcom/example/redoubt/redoubt/storage/PageCache$Frame;)V"⟩ : MethodName) prog_47_method_8_code 4 none :: ws) ({ frames := 1, cells := 0, slots := 0, locals := 13 } : Room)) (fun aA uU => aA = #[(.ref tb), (.ref f)] ∧ Z.Warmed39 uU.vm ∧ uU.heap = h0) (fun _ _ _ _ _ => True) (fun _ uU oO uU' => ∃ vV lL, oO = .returned vV ∧ QPlaceH Z tb f sh pg n N a k vs h0 n0 vV uU'.heap lL ∧ FrameEnd uU oO uU' lL ({ frames := 1, cells := 0, slots := 0, locals := 13 } : Room).cells ({ frames := 1, cells := 0, slots := 0, locals := 13 } : Room).slots) := by
  refine MetFree.of_bodySF (plainFor_of_name pn_1) hisR ?_
  intro p e s m args below meth c s₁ Bd hml0 hP hK
  obtain ⟨rfl, hZ, hh⟩ := hP
  have hx := Bd.exec
  have hby := Bd.bytes
  have hml : c.maxLocals = 4 := hml0
  have hown : s.vm.findClass "com/example/redoubt/redoubt/storage/FrameTable" = some m.cls := findClass_of_methodNamed Bd.named
  have hnm := (name_of_methodNamed Bd.named Bd.method).1
  have X0 : Stand p l e ({ frames := 1, cells := 0, slots := 0, locals := 13 } : Room) s m #[(.ref tb), (.ref f)] below meth c s₁ [] 0 0 := Stand.of_body Bd
  have e0 : s₁.heap = h0 := by rw [← hh, Bd.state]; rfl
  have N0 := Fr.nil n0
  have pre0 : ∀ t, Steps p.tables e below (s₁.setTop (mkF m 0 #[.val (.ref tb), .val (.ref f), .unset, .unset] [])) t → Steps p.tables e below (s₁.setTop (entryFrame m #[(.ref tb), (.ref f)] 4)) t := fun t kk => castTop (ef_rmPlaceH m tb f) kk
  obtain ⟨i0, hi0, ei0⟩ := own_hm hN pg
  obtain ⟨T85, X85, e85, st85⟩ := getF X0 hx hZ hown (host := "") (Or.inl (hw _ (List.mem_of_getElem? (i := 29) rfl))) Via.refl e0 F_slots_tb (g := (mkF m 1 #[.val (.ref tb), .val (.ref f), .unset, .unset] [(.ref tb)])) rfl rfl (hb hby d6_1)
  obtain ⟨cl86, Ar86, -, Sz86, Nn86, -, -⟩ := id V_a
  obtain ⟨T87, X87, e87, st87⟩ := getF X85 hx hZ hown (host := "") (Or.inl (hw _ (List.mem_of_getElem? (i := 44) rfl))) Via.refl e85 F_page_f (g := (mkF m 10 #[.val (.ref tb), .val (.ref f), .val (.int (n - (1 : Int32))), .unset] [(.ref f), (.ref tb)])) rfl rfl (hb hby d6_10)
  obtain ⟨cq88, q88, q88'⟩ := E_tb.cell
  obtain ⟨_, _, ⟨T88, L88, k88, n88⟩, -, X88, ⟨Lc88, hQ88, l88, y88, z88⟩, st88⟩ := own_privBack X87 hx (y := (⟨"com/example/redoubt/redoubt/storage/FrameTable", "home", "(I)I"⟩ : MethodName)) hown (mvT hZ (hw _ (List.mem_of_getElem? (i := 45) rfl))) (mvT hZ (hw _ (List.mem_of_getElem? (i := 46) rfl))) (mvT hZ (hw _ (List.mem_of_getElem? (i := 22) rfl))) (Cond.privateMethod_at (mvP hZ (hw _ (List.mem_of_getElem? (i := 47) rfl)) (args := #[]))) (mvT hZ (hw _ (List.mem_of_getElem? (i := 48) rfl))) (by decide) (backOf (W := 0) (rmHome l Z a0 hw [] tb pg sh h0 n0 Z0 F_shift_tb) hZ (hw _ (List.mem_of_getElem? (i := 48) rfl)) (hw _ (List.mem_of_getElem? (i := 23) rfl)) (by decide) (by decide)) (g := (mkF m 13 #[.val (.ref tb), .val (.ref f), .val (.int (n - (1 : Int32))), .unset] [(.int pg), (.ref tb)])) rfl (by rw [hml]; rfl) (a := tb) (by rw [e87]; exact q88) q88' (argsL := [(.int pg)]) (rest := []) (lenOf pd_0 rfl) rfl (by show 2 * 0 + _ ≤ _; exact Nat.le_of_eq rfl) (hb hby d6_13) (fun _ _ => ⟨rfl, e87, (by decide : 0 + 0 ≤ _), (by decide : 0 + 0 ≤ _)⟩)
  dsimp only [Pt.U, Pt.locs, Pt.cells, Pt.slots] at X88 l88 y88 z88 st88 hQ88
  rw [l88, y88, z88] at X88
  replace X88 := own_std X88 (cc := 0) (ss := 0) rfl rfl
  obtain ⟨rfl, N88q, e88⟩ := hQ88
  have N88 := Fr.app N0 N88q
  obtain ⟨T89, X89, e89, st89⟩ := getF X88 hx hZ hown (host := "") (Or.inl (hw _ (List.mem_of_getElem? (i := 29) rfl))) Via.refl e88 F_slots_tb (g := (mkF m 18 #[.val (.ref tb), .val (.ref f), .val (.int (n - (1 : Int32))), .val (.int (own_home pg sh))] [(.ref tb)])) rfl rfl (hb hby d6_18)
  obtain ⟨cl90, Ar90, q90, Sz90, Nn90, H90, G90⟩ := id V_a
  have hin90 : ¬ ((own_home pg sh) < 0 ∨ cl90.slots.size ≤ ((own_home pg sh)).toNatClampNeg) := (inb_of Sz90 (by rw [ei0]; exact own_in hN hi0))
  have hat90 : cl90.slots[((own_home pg sh)).toNatClampNeg]? = some .null := H90.at hin90 (hnull _)
  obtain ⟨T91, X91, e91, st91⟩ := getF X89 hx hZ hown (host := "") (Or.inl (hw _ (List.mem_of_getElem? (i := 29) rfl))) Via.refl e89 F_slots_tb (g := (mkF m 36 #[.val (.ref tb), .val (.ref f), .val (.int (n - (1 : Int32))), .val (.int (own_home pg sh))] [(.ref tb)])) rfl rfl (hb hby d6_36)
  obtain ⟨cl92, Ar92, q92, Sz92, Nn92, H92, G92⟩ := id V_a
  have hin92 : ¬ ((own_home pg sh) < 0 ∨ cl92.slots.size ≤ ((own_home pg sh)).toNatClampNeg) := (inb_of Sz92 (by rw [ei0]; exact own_in hN hi0))
  obtain ⟨T93, h93, X93, e93, W93, st93⟩ := stR X91 hx hZ e91 Ar92 (j := (own_home pg sh)) hin92 rfl (Sto.ofV Ar92 q92 ho (Ins.self E_f)) (g := (mkF m 41 #[.val (.ref tb), .val (.ref f), .val (.int (n - (1 : Int32))), .val (.int (own_home pg sh))] [(.ref f), (.int (own_home pg sh)), (.ref a)])) rfl rfl (hb hby d6_41)
  have Ex94 : Exa Z h93 tb "com/example/redoubt/redoubt/storage/FrameTable" := (E_tb.wr W93)
  have ne95 : tb ≠ a := own_ne_arr E_tb (hw _ (List.mem_of_getElem? (i := 22) rfl)) V_a
  have F96 : Fld Z h93 tb "com/example/redoubt/redoubt/storage/FrameTable" "slots" "[Lcom/example/redoubt/redoubt/storage/PageCache$Frame;" (.ref a) := (F_slots_tb.other W93 (Or.inl ne95))
  have F97 : Fld Z h93 tb "com/example/redoubt/redoubt/storage/FrameTable" "shift" "I" (.int sh) := (F_shift_tb.other W93 (Or.inl ne95))
  have Ex98 : Exa Z h93 f "com/example/redoubt/redoubt/storage/PageCache$Frame" := (E_f.wr W93)
  have ne99 : f ≠ a := own_ne_arr E_f (hw _ (List.mem_of_getElem? (i := 7) rfl)) V_a
  have F100 : Fld Z h93 f "com/example/redoubt/redoubt/storage/PageCache$Frame" "page" "I" (.int pg) := (F_page_f.other W93 (Or.inl ne99))
  have K101 : Keep h0 h93 [a] := (Keep.refl h0 _).wr W93 (Or.inl (List.mem_of_getElem? (i := 0) rfl))
  have N102 := Fr.snoc X93 N88 g_a
  have Av93 : Arv Z h93 a k (.object "com/example/redoubt/redoubt/storage/PageCache$Frame") n (vs.set (own_home pg sh).toNatClampNeg (.ref f)) .null := Arv.set Ar92 q92 Sz92 Nn92 H92 G92 rfl W93 (own_home pg sh).toNatClampNeg rfl (by rw [hlen, ei0, own_ix hN hi0]; exact hi0)
  have pre103 : ∀ t, Steps p.tables e below (T93.setTop (mkF m 42 #[.val (.ref tb), .val (.ref f), .val (.int (n - (1 : Int32))), .val (.int (own_home pg sh))] [])) t → Steps p.tables e below (s₁.setTop (entryFrame m #[(.ref tb), (.ref f)] 4)) t := fun t kk => pre0 t (by
      show Steps p.tables e below (s₁.setTop (mkF m 0 #[.val (.ref tb), .val (.ref f), .unset, .unset] [])) _
      refine XS.aloadN X0.here hx rfl (hb hby d6_0) rfl rfl ?_
      show Steps p.tables e below (s₁.setTop (mkF m 1 #[.val (.ref tb), .val (.ref f), .unset, .unset] [(.ref tb)])) _
      refine st85 _ ?_
      show Steps p.tables e below (T85.setTop (mkF m 4 #[.val (.ref tb), .val (.ref f), .unset, .unset] [(.ref a)])) _
      refine X85.arraylength hx (by rw [e85]; exact Ar86.1) (State.isArrayOf_alike hZ.alike Ar86.2.1) (g := (mkF m 4 #[.val (.ref tb), .val (.ref f), .unset, .unset] [(.ref a)])) rfl rfl (hb hby d6_4) _ ?_
      rw [len_of Sz86 Nn86]
      show Steps p.tables e below (T85.setTop (mkF m 5 #[.val (.ref tb), .val (.ref f), .unset, .unset] [(.int n)])) _
      refine XS.iconst X85.here hx rfl (hb hby d6_5) ?_
      show Steps p.tables e below (T85.setTop (mkF m 6 #[.val (.ref tb), .val (.ref f), .unset, .unset] [(.int (1 : Int32)), (.int n)])) _
      refine XS.isub X85.here hx rfl (hb hby d6_6) rfl ?_
      show Steps p.tables e below (T85.setTop (mkF m 7 #[.val (.ref tb), .val (.ref f), .unset, .unset] [(.int (n - (1 : Int32)))])) _
      refine XS.istoreN X85.here hx rfl (hb hby d6_7) rfl (l' := #[.val (.ref tb), .val (.ref f), .val (.int (n - (1 : Int32))), .unset]) rfl ?_
      show Steps p.tables e below (T85.setTop (mkF m 8 #[.val (.ref tb), .val (.ref f), .val (.int (n - (1 : Int32))), .unset] [])) _
      refine XS.aloadN X85.here hx rfl (hb hby d6_8) rfl rfl ?_
      show Steps p.tables e below (T85.setTop (mkF m 9 #[.val (.ref tb), .val (.ref f), .val (.int (n - (1 : Int32))), .unset] [(.ref tb)])) _
      refine XS.aloadN X85.here hx rfl (hb hby d6_9) rfl rfl ?_
      show Steps p.tables e below (T85.setTop (mkF m 10 #[.val (.ref tb), .val (.ref f), .val (.int (n - (1 : Int32))), .unset] [(.ref f), (.ref tb)])) _
      refine st87 _ ?_
      show Steps p.tables e below (T87.setTop (mkF m 13 #[.val (.ref tb), .val (.ref f), .val (.int (n - (1 : Int32))), .unset] [(.int pg), (.ref tb)])) _
      refine st88.trans ?_
      show Steps p.tables e below (T88.setTop (mkF m 16 #[.val (.ref tb), .val (.ref f), .val (.int (n - (1 : Int32))), .unset] [(.int (own_home pg sh))])) _
      refine XS.istoreN X88.here hx rfl (hb hby d6_16) rfl (l' := #[.val (.ref tb), .val (.ref f), .val (.int (n - (1 : Int32))), .val (.int (own_home pg sh))]) rfl ?_
      show Steps p.tables e below (T88.setTop (mkF m 17 #[.val (.ref tb), .val (.ref f), .val (.int (n - (1 : Int32))), .val (.int (own_home pg sh))] [])) _
      refine XS.aloadN X88.here hx rfl (hb hby d6_17) rfl rfl ?_
      show Steps p.tables e below (T88.setTop (mkF m 18 #[.val (.ref tb), .val (.ref f), .val (.int (n - (1 : Int32))), .val (.int (own_home pg sh))] [(.ref tb)])) _
      refine st89 _ ?_
      show Steps p.tables e below (T89.setTop (mkF m 21 #[.val (.ref tb), .val (.ref f), .val (.int (n - (1 : Int32))), .val (.int (own_home pg sh))] [(.ref a)])) _
      refine XS.iloadN X89.here hx rfl (hb hby d6_21) rfl ?_
      show Steps p.tables e below (T89.setTop (mkF m 22 #[.val (.ref tb), .val (.ref f), .val (.int (n - (1 : Int32))), .val (.int (own_home pg sh))] [(.int (own_home pg sh)), (.ref a)])) _
      refine X89.aaload hx (j := (own_home pg sh)) (v := .null) (by rw [e89]; exact Ar90.1) (State.isArrayOf_alike hZ.alike Ar90.2.1) rfl Ar90.2.2 hin90 hat90 (g := (mkF m 22 #[.val (.ref tb), .val (.ref f), .val (.int (n - (1 : Int32))), .val (.int (own_home pg sh))] [(.int (own_home pg sh)), (.ref a)])) rfl rfl (hb hby d6_22) _ ?_
      show Steps p.tables e below (T89.setTop (mkF m 23 #[.val (.ref tb), .val (.ref f), .val (.int (n - (1 : Int32))), .val (.int (own_home pg sh))] [.null])) _
      refine XS.ifnullYes X89.here hx rfl (pc0 := 23) (pc' := 35) rfl (hb hby d6_23) rfl (by decide) (by decide) ?_
      show Steps p.tables e below (T89.setTop (mkF m 35 #[.val (.ref tb), .val (.ref f), .val (.int (n - (1 : Int32))), .val (.int (own_home pg sh))] [])) _
      refine XS.aloadN X89.here hx rfl (hb hby d6_35) rfl rfl ?_
      show Steps p.tables e below (T89.setTop (mkF m 36 #[.val (.ref tb), .val (.ref f), .val (.int (n - (1 : Int32))), .val (.int (own_home pg sh))] [(.ref tb)])) _
      refine st91 _ ?_
      show Steps p.tables e below (T91.setTop (mkF m 39 #[.val (.ref tb), .val (.ref f), .val (.int (n - (1 : Int32))), .val (.int (own_home pg sh))] [(.ref a)])) _
      refine XS.iloadN X91.here hx rfl (hb hby d6_39) rfl ?_
      show Steps p.tables e below (T91.setTop (mkF m 40 #[.val (.ref tb), .val (.ref f), .val (.int (n - (1 : Int32))), .val (.int (own_home pg sh))] [(.int (own_home pg sh)), (.ref a)])) _
      refine XS.aloadN X91.here hx rfl (hb hby d6_40) rfl rfl ?_
      show Steps p.tables e below (T91.setTop (mkF m 41 #[.val (.ref tb), .val (.ref f), .val (.int (n - (1 : Int32))), .val (.int (own_home pg sh))] [(.ref f), (.int (own_home pg sh)), (.ref a)])) _
      refine st93 _ ?_
      exact kk)
  obtain ⟨fs, hr, hrun, hended, hW, hsame⟩ := X93.leave (v := none) (fun _ => rfl)
  refine ⟨_, _, pre103 _ ?_, hrun, hended, _, _, rfl, ?_, ⟨_, rfl⟩, hW, hsame.mono (by decide) (by decide)⟩
  · show Steps p.tables e below (T93.setTop (mkF m 42 #[.val (.ref tb), .val (.ref f), .val (.int (n - (1 : Int32))), .val (.int (own_home pg sh))] [])) _
    exact X93.returnOut hx Bd.returns (hb hby d6_42) hr
  · show QPlaceH Z tb f sh pg n N a k vs h0 n0 _ T93.heap _
    rw [e93]
    exact ⟨rfl, N102, K101, Av93⟩
theorem d11_34 : decode prog_47_method_9_code 34 = .ok (.iload 4, 2) := by decide +kernel
theorem d11_36 : decode prog_47_method_9_code 36 = .ok (.iload_n 3, 1) := by decide +kernel
theorem d11_37 : decode prog_47_method_9_code 37 = .ok (.if_icmp .ge 26, 3) := by decide +kernel
theorem d11_40 : decode prog_47_method_9_code 40 = .ok (.aload_n 2, 1) := by decide +kernel
theorem d11_41 : decode prog_47_method_9_code 41 = .ok (.iload 4, 2) := by decide +kernel
theorem d11_43 : decode prog_47_method_9_code 43 = .ok (.aaload, 1) := by decide +kernel
theorem d11_44 : decode prog_47_method_9_code 44 = .ok (.astore 5, 2) := by decide +kernel
theorem d11_46 : decode prog_47_method_9_code 46 = .ok (.aload 5, 2) := by decide +kernel
theorem d11_48 : decode prog_47_method_9_code 48 = .ok (.ifnull 9, 3) := by decide +kernel
theorem d11_57 : decode prog_47_method_9_code 57 = .ok (.iinc 4 1, 3) := by decide +kernel
theorem d11_60 : decode prog_47_method_9_code 60 = .ok (.goto (-26), 3) := by decide +kernel
theorem d11_51 : decode prog_47_method_9_code 51 = .ok (.aload_n 0, 1) := by decide +kernel
theorem d11_52 : decode prog_47_method_9_code 52 = .ok (.aload 5, 2) := by decide +kernel
theorem d11_54 : decode prog_47_method_9_code 54 = .ok (.invokevirtual 34, 3) := by decide +kernel
theorem pd_1 : parseMethodDescriptor "(Lcom/example/redoubt/redoubt/storage/PageCache$Frame;)V" = some ⟨[(.object "com/example/redoubt/redoubt/storage/PageCache$Frame")], none⟩ := by decide +kernel
theorem own_nul : ∀ v, v ∈ ([.null, .null, .null, .null, .null, .null, .null, .null, .null, .null, .null, .null, .null, .null, .null, .null, .null, .null, .null, .null, .null, .null, .null, .null, .null, .null, .null, .null, .null, .null, .null, .null] : List Value) → v = .null := fun v hv => List.eq_of_mem_replicate (n := 32) hv
theorem own_lt16 {i : Nat} (h : (Int32.ofNat i) < (16 : Int32)) (hi : i ≤ 16) : i < 16 := by
  rcases Nat.lt_or_eq_of_le hi with h1 | h1
  · exact h1
  · subst h1; exact absurd h (by decide)
theorem own_suc16 : ∀ i : Nat, i < 16 → (Int32.ofNat i) + (1 : Int32) = Int32.ofNat (i + 1) := by decide +kernel
set_option maxRecDepth 65536 in
set_option maxHeartbeats 40000000 in
theorem loopGrow {p : Program} {l : Launch} {e : Env} {s : State} {m : MethodId} {args : Array Value} {below : List Frame} {meth : Method} {c : Code} {cells slots : Nat} {Z : State} {a0 : Array Value} {n0 : Nat}
    (hx : p.tables.exec = Jvm.exec) (hZ : Z.Warmed39 s.vm) (hw : ∀ d ∈ tables_1, d.before a0 Z = true) (hby : c.code = prog_47_method_9_code) (hml : c.maxLocals = 6) (hown : s.vm.findClass "com/example/redoubt/redoubt/storage/FrameTable" = some m.cls) (hcells : cells + 0 ≤ ({ frames := 2, cells := 1, slots := 32, locals := 28 } : Room).cells) (hslots : slots + 0 ≤ ({ frames := 2, cells := 1, slots := 32, locals := 28 } : Room).slots) :
    ∀ (kM : Nat) (T0 : State) (locs : List Loc) (h0 : Heap) (tb : Addr) (a : Addr) (i : Nat) (s5 : Slot) (k : ClassId) (vs : List Value) (a2 : Addr) (k2 : ClassId) (vs2 : List Value) (c0 : Int32) (X0 : Stand p l e ({ frames := 2, cells := 1, slots := 32, locals := 28 } : Room) s m args below meth c T0 locs cells slots) (e0 : T0.heap = h0) (N0 : Fr n0 locs) (Z0 : n0 ≤ h0.size) (E_tb : Exa Z h0 tb "com/example/redoubt/redoubt/storage/FrameTable") (F_slots_tb : Fld Z h0 tb "com/example/redoubt/redoubt/storage/FrameTable" "slots" "[Lcom/example/redoubt/redoubt/storage/PageCache$Frame;" (.ref a2)) (F_shift_tb : Fld Z h0 tb "com/example/redoubt/redoubt/storage/FrameTable" "shift" "I" (.int (27 : Int32))) (F_size_tb : Fld Z h0 tb "com/example/redoubt/redoubt/storage/FrameTable" "size" "I" (.int c0)) (V_a : Arv Z h0 a k (.object "com/example/redoubt/redoubt/storage/PageCache$Frame") (16 : Int32) vs .null) (G_0 : own_Good Z h0 vs) (V_a2 : Arv Z h0 a2 k2 (.object "com/example/redoubt/redoubt/storage/PageCache$Frame") (32 : Int32) vs2 .null) (G_2 : own_Good Z h0 vs2) (hlen : vs.length = 16) (hlen2 : vs2.length = 32) (hi : i ≤ 16) (hcnt : own_cnt vs2 ≤ i) (href2 : ∀ jj, (vs2.getD jj .null).isRef = true) (ho2 : Ovr Z k2 "com/example/redoubt/redoubt/storage/PageCache$Frame") (haa : a ≠ a2) (hs5 : s5 = .unset ∨ ∃ w, s5 = .val w ∧ w.category = 1) (g_a2 : n0 ≤ a2) (hkM : 16 - i = kM),
      ∃ (T' : State) (locs' : List Loc) (h' : Heap) (ii : Nat) (s6 : Slot) (vs3 : List Value), Stand p l e ({ frames := 2, cells := 1, slots := 32, locals := 28 } : Room) s m args below meth c T' locs' cells slots ∧ Fr n0 locs' ∧ T'.heap = h' ∧ Keep h0 h' [a2] ∧ Arv Z h' a2 k2 (.object "com/example/redoubt/redoubt/storage/PageCache$Frame") (32 : Int32) vs3 .null ∧ own_Good Z h' vs3 ∧ vs3.length = 32 ∧ own_cnt vs3 ≤ 16 ∧ ∀ t, Steps p.tables e below (T'.setTop (mkF m 63 #[.val (.ref tb), .val (.ref a), .val (.ref a), .val (.int (16 : Int32)), .val (.int (Int32.ofNat ii)), s6] [])) t → Steps p.tables e below (T0.setTop (mkF m 34 #[.val (.ref tb), .val (.ref a), .val (.ref a), .val (.int (16 : Int32)), .val (.int (Int32.ofNat i)), s5] [])) t := by
  intro kM
  induction kM using Nat.strongRecOn with
  | ind kM ih =>
  intro T0 locs h0 tb a i s5 k vs a2 k2 vs2 c0 X0 e0 N0 Z0 E_tb F_slots_tb F_shift_tb F_size_tb V_a G_0 V_a2 G_2 hlen hlen2 hi hcnt href2 ho2 haa hs5 g_a2 hkM
  subst hkM
  have pre0 : ∀ t, Steps p.tables e below (T0.setTop (mkF m 34 #[.val (.ref tb), .val (.ref a), .val (.ref a), .val (.int (16 : Int32)), .val (.int (Int32.ofNat i)), s5] [])) t → Steps p.tables e below (T0.setTop (mkF m 34 #[.val (.ref tb), .val (.ref a), .val (.ref a), .val (.int (16 : Int32)), .val (.int (Int32.ofNat i)), s5] [])) t := fun t kk => kk
  have pre104 : ∀ t, Steps p.tables e below (T0.setTop (mkF m 37 #[.val (.ref tb), .val (.ref a), .val (.ref a), .val (.int (16 : Int32)), .val (.int (Int32.ofNat i)), s5] [(.int (16 : Int32)), (.int (Int32.ofNat i))])) t → Steps p.tables e below (T0.setTop (mkF m 34 #[.val (.ref tb), .val (.ref a), .val (.ref a), .val (.int (16 : Int32)), .val (.int (Int32.ofNat i)), s5] [])) t := fun t kk => pre0 t (by
      show Steps p.tables e below (T0.setTop (mkF m 34 #[.val (.ref tb), .val (.ref a), .val (.ref a), .val (.int (16 : Int32)), .val (.int (Int32.ofNat i)), s5] [])) _
      refine XS.iload X0.here hx rfl (hb hby d11_34) rfl ?_
      show Steps p.tables e below (T0.setTop (mkF m 36 #[.val (.ref tb), .val (.ref a), .val (.ref a), .val (.int (16 : Int32)), .val (.int (Int32.ofNat i)), s5] [(.int (Int32.ofNat i))])) _
      refine XS.iloadN X0.here hx rfl (hb hby d11_36) rfl ?_
      exact kk)
  by_cases hl0 : (Int32.ofNat i) < (16 : Int32)
  · have hlt : i < 16 := own_lt16 hl0 hi
    obtain ⟨vv, hvv⟩ : ∃ z, z = vs.getD i .null := ⟨_, rfl⟩
    have hr_vv : vv.isRef = true := by rw [hvv]; exact own_good_ref G_0 i
    obtain ⟨cl106, Ar106, q106, Sz106, Nn106, H106, G106⟩ := id V_a
    have hin106 : ¬ ((Int32.ofNat i) < 0 ∨ cl106.slots.size ≤ ((Int32.ofNat i)).toNatClampNeg) := (inb_of Sz106 (own_in16 i hlt))
    have hat106 : cl106.slots[((Int32.ofNat i)).toNatClampNeg]? = some vv := H106.at hin106 (by rw [own_ixx i (by omega), hvv])
    have pre107 : ∀ t, Steps p.tables e below (T0.setTop (mkF m 48 #[.val (.ref tb), .val (.ref a), .val (.ref a), .val (.int (16 : Int32)), .val (.int (Int32.ofNat i)), .val vv] [vv])) t → Steps p.tables e below (T0.setTop (mkF m 34 #[.val (.ref tb), .val (.ref a), .val (.ref a), .val (.int (16 : Int32)), .val (.int (Int32.ofNat i)), s5] [])) t := fun t kk => pre104 t (by
        show Steps p.tables e below (T0.setTop (mkF m 37 #[.val (.ref tb), .val (.ref a), .val (.ref a), .val (.int (16 : Int32)), .val (.int (Int32.ofNat i)), s5] [(.int (16 : Int32)), (.int (Int32.ofNat i))])) _
        refine XS.icmpNo X0.here hx rfl (hb hby d11_37) rfl (tlt hl0).2.1 ?_
        show Steps p.tables e below (T0.setTop (mkF m 40 #[.val (.ref tb), .val (.ref a), .val (.ref a), .val (.int (16 : Int32)), .val (.int (Int32.ofNat i)), s5] [])) _
        refine XS.aloadN X0.here hx rfl (hb hby d11_40) rfl rfl ?_
        show Steps p.tables e below (T0.setTop (mkF m 41 #[.val (.ref tb), .val (.ref a), .val (.ref a), .val (.int (16 : Int32)), .val (.int (Int32.ofNat i)), s5] [(.ref a)])) _
        refine XS.iload X0.here hx rfl (hb hby d11_41) rfl ?_
        show Steps p.tables e below (T0.setTop (mkF m 43 #[.val (.ref tb), .val (.ref a), .val (.ref a), .val (.int (16 : Int32)), .val (.int (Int32.ofNat i)), s5] [(.int (Int32.ofNat i)), (.ref a)])) _
        refine X0.aaload hx (j := (Int32.ofNat i)) (v := vv) (by rw [e0]; exact Ar106.1) (State.isArrayOf_alike hZ.alike Ar106.2.1) rfl Ar106.2.2 hin106 hat106 (g := (mkF m 43 #[.val (.ref tb), .val (.ref a), .val (.ref a), .val (.int (16 : Int32)), .val (.int (Int32.ofNat i)), s5] [(.int (Int32.ofNat i)), (.ref a)])) rfl rfl (hb hby d11_43) _ ?_
        show Steps p.tables e below (T0.setTop (mkF m 44 #[.val (.ref tb), .val (.ref a), .val (.ref a), .val (.int (16 : Int32)), .val (.int (Int32.ofNat i)), s5] [vv])) _
        refine XS.astore X0.here hx rfl (hb hby d11_44) rfl hr_vv (l' := #[.val (.ref tb), .val (.ref a), .val (.ref a), .val (.int (16 : Int32)), .val (.int (Int32.ofNat i)), .val vv]) (XS.store1 rfl hs5 (Jvm.Free.XT.cat1 hr_vv)) ?_
        show Steps p.tables e below (T0.setTop (mkF m 46 #[.val (.ref tb), .val (.ref a), .val (.ref a), .val (.int (16 : Int32)), .val (.int (Int32.ofNat i)), .val vv] [])) _
        refine XS.aload X0.here hx rfl (hb hby d11_46) rfl hr_vv ?_
        exact kk)
    by_cases hnull : vv = .null
    · have pre108 : ∀ t, Steps p.tables e below (T0.setTop (mkF m 34 #[.val (.ref tb), .val (.ref a), .val (.ref a), .val (.int (16 : Int32)), .val (.int ((Int32.ofNat i) + (1 : Int32))), .val vv] [])) t → Steps p.tables e below (T0.setTop (mkF m 34 #[.val (.ref tb), .val (.ref a), .val (.ref a), .val (.int (16 : Int32)), .val (.int (Int32.ofNat i)), s5] [])) t := fun t kk => pre107 t (by
          show Steps p.tables e below (T0.setTop (mkF m 48 #[.val (.ref tb), .val (.ref a), .val (.ref a), .val (.int (16 : Int32)), .val (.int (Int32.ofNat i)), .val vv] [vv])) _
          refine Jvm.Free.XT.nullYes X0.here hx rfl (pc0 := 48) (pc' := 57) rfl (hb hby d11_48) rfl hnull (by decide) (by decide) ?_
          show Steps p.tables e below (T0.setTop (mkF m 57 #[.val (.ref tb), .val (.ref a), .val (.ref a), .val (.int (16 : Int32)), .val (.int (Int32.ofNat i)), .val vv] [])) _
          refine XS.iinc X0.here hx rfl (hb hby d11_57) rfl (l' := #[.val (.ref tb), .val (.ref a), .val (.ref a), .val (.int (16 : Int32)), .val (.int ((Int32.ofNat i) + (1 : Int32))), .val vv]) rfl ?_
          show Steps p.tables e below (T0.setTop (mkF m 60 #[.val (.ref tb), .val (.ref a), .val (.ref a), .val (.int (16 : Int32)), .val (.int ((Int32.ofNat i) + (1 : Int32))), .val vv] [])) _
          refine XS.goto X0.here hx rfl (pc0 := 60) (pc' := 34) rfl (hb hby d11_60) (by decide) (by decide) ?_
          exact kk)
      have eq109 : ((Int32.ofNat i) + (1 : Int32)) = (Int32.ofNat (i + 1)) := own_suc16 i hlt
      have pre110 : ∀ t, Steps p.tables e below (T0.setTop (mkF m 34 #[.val (.ref tb), .val (.ref a), .val (.ref a), .val (.int (16 : Int32)), .val (.int (Int32.ofNat (i + 1))), .val vv] [])) t → Steps p.tables e below (T0.setTop (mkF m 34 #[.val (.ref tb), .val (.ref a), .val (.ref a), .val (.int (16 : Int32)), .val (.int (Int32.ofNat i)), s5] [])) t := fun t kk => pre108 t (own_cast (fun zz : Int32 => T0.setTop (mkF m 34 #[.val (.ref tb), .val (.ref a), .val (.ref a), .val (.int (16 : Int32)), .val (.int zz), .val vv] [])) eq109 kk)
      have hp111 : vs.length = 16 := hlen
      have hp112 : vs2.length = 32 := hlen2
      have hp113 : (i + 1) ≤ 16 := hlt
      have hp114 : own_cnt vs2 ≤ (i + 1) := Nat.le_succ_of_le hcnt
      have hp115 : ∀ jj, (vs2.getD jj .null).isRef = true := href2
      have hp116 : Ovr Z k2 "com/example/redoubt/redoubt/storage/PageCache$Frame" := ho2
      have hp117 : a ≠ a2 := haa
      have hp118 : (Slot.val vv) = .unset ∨ ∃ w, (Slot.val vv) = .val w ∧ w.category = 1 := Or.inr ⟨vv, rfl, Jvm.Free.XT.cat1 hr_vv⟩
      obtain ⟨T119, lc119, h119, ii_119, s6_119, vs3_119, X119, N119, e119, K119, P119_0, P119_1, pu119_0, pu119_1, pre119⟩ := ih _ (by omega) T0 _ h0 tb a (i + 1) (Slot.val vv) k vs a2 k2 vs2 c0 X0 e0 N0 Z0 E_tb F_slots_tb F_shift_tb F_size_tb V_a G_0 V_a2 G_2 hp111 hp112 hp113 hp114 hp115 hp116 hp117 hp118 g_a2 rfl
      exact ⟨T119, _, _, ii_119, s6_119, vs3_119, X119, N119, e119, ((Keep.refl _ _).trans K119 (allS (Or.inl (List.mem_of_getElem? (i := 0) rfl)) all0)), P119_0, P119_1, pu119_0, pu119_1, fun t kk => pre110 t (pre119 t kk)⟩
    · obtain ⟨f, pg, ef, Ef, Ff⟩ : ∃ (f : Addr) (pg : Int32), vv = .ref f ∧ Exa Z h0 f "com/example/redoubt/redoubt/storage/PageCache$Frame" ∧ Fld Z h0 f "com/example/redoubt/redoubt/storage/PageCache$Frame" "page" "I" (.int pg) := by
        rcases own_good_at G_0 (jj := i) (by rw [hlen]; exact hlt) with q | ⟨f, pg, q, E1, F1⟩
        · exact absurd (hvv.trans q) hnull
        · exact ⟨f, pg, hvv.trans q, E1, F1⟩
      have pre120 : ∀ t, Steps p.tables e below (T0.setTop (mkF m 51 #[.val (.ref tb), .val (.ref a), .val (.ref a), .val (.int (16 : Int32)), .val (.int (Int32.ofNat i)), .val vv] [])) t → Steps p.tables e below (T0.setTop (mkF m 34 #[.val (.ref tb), .val (.ref a), .val (.ref a), .val (.int (16 : Int32)), .val (.int (Int32.ofNat i)), s5] [])) t := fun t kk => pre107 t (by
          show Steps p.tables e below (T0.setTop (mkF m 48 #[.val (.ref tb), .val (.ref a), .val (.ref a), .val (.int (16 : Int32)), .val (.int (Int32.ofNat i)), .val vv] [vv])) _
          refine Jvm.Free.XT.nullNo X0.here hx rfl (hb hby d11_48) rfl hr_vv hnull ?_
          exact kk)
      have pre121 : ∀ t, Steps p.tables e below (T0.setTop (mkF m 51 #[.val (.ref tb), .val (.ref a), .val (.ref a), .val (.int (16 : Int32)), .val (.int (Int32.ofNat i)), .val (.ref f)] [])) t → Steps p.tables e below (T0.setTop (mkF m 34 #[.val (.ref tb), .val (.ref a), .val (.ref a), .val (.int (16 : Int32)), .val (.int (Int32.ofNat i)), s5] [])) t := fun t kk => pre120 t (own_cast (fun zz : Value => T0.setTop (mkF m 51 #[.val (.ref tb), .val (.ref a), .val (.ref a), .val (.int (16 : Int32)), .val (.int (Int32.ofNat i)), .val zz] [])) ef kk)
      obtain ⟨j0, hj, hj0⟩ := own_free vs2 (by rw [hlen2]; omega)
      rw [hlen2] at hj
      have hp123 : own_tb (32 : Int32) 32 (27 : Int32) := Or.inr ⟨rfl, rfl, rfl⟩
      have hp124 : vs2.length = 32 := hlen2
      have hp125 : j0 < 32 := hj
      have hp126 : vs2.getD j0 .null = .null := hj0
      have hp127 : ∀ jj, (vs2.getD jj .null).isRef = true := href2
      have hp128 : Ovr Z k2 "com/example/redoubt/redoubt/storage/PageCache$Frame" := ho2
      obtain ⟨cq122, q122, q122'⟩ := E_tb.cell
      obtain ⟨_, _, ⟨T122, L122, k122, n122⟩, -, X122, ⟨Lc122, hQ122, l122, y122, z122⟩, st122⟩ := own_privBack X0 hx (y := (⟨"com/example/redoubt/redoubt/storage/FrameTable", "place", "(Lcom/example/redoubt/redoubt/storage/PageCache$Frame;)V"⟩ : MethodName)) hown (mvT hZ (hw _ (List.mem_of_getElem? (i := 40) rfl))) (mvT hZ (hw _ (List.mem_of_getElem? (i := 41) rfl))) (mvT hZ (hw _ (List.mem_of_getElem? (i := 22) rfl))) (Cond.privateMethod_at (mvP hZ (hw _ (List.mem_of_getElem? (i := 42) rfl)) (args := #[]))) (mvT hZ (hw _ (List.mem_of_getElem? (i := 43) rfl))) (by decide) (backOf (W := 0) (rmPlace l Z a0 hw [] tb f (27 : Int32) pg (32 : Int32) 32 a2 k2 vs2 j0 h0 n0 Z0 E_tb F_slots_tb F_shift_tb V_a2 Ef Ff hp123 hp124 hp125 hp126 hp127 hp128 g_a2) hZ (hw _ (List.mem_of_getElem? (i := 43) rfl)) (hw _ (List.mem_of_getElem? (i := 23) rfl)) (by decide) (by decide)) (g := (mkF m 54 #[.val (.ref tb), .val (.ref a), .val (.ref a), .val (.int (16 : Int32)), .val (.int (Int32.ofNat i)), .val (.ref f)] [(.ref f), (.ref tb)])) rfl (by rw [hml]; rfl) (a := tb) (by rw [e0]; exact q122) q122' (argsL := [(.ref f)]) (rest := []) (lenOf pd_1 rfl) rfl (by show 2 * 0 + _ ≤ _; exact Nat.le_of_eq rfl) (hb hby d11_54) (fun _ _ => ⟨rfl, e0, hcells, hslots⟩)
      dsimp only [Pt.U, Pt.locs, Pt.cells, Pt.slots] at X122 l122 y122 z122 st122 hQ122
      rw [l122, y122, z122] at X122
      replace X122 := own_std X122 (cc := cells) (ss := slots) rfl rfl
      obtain ⟨ix_122, rfl, N122q, K122q, P122_0, pu122_0, pu122_1⟩ := hQ122
      have N122 := Fr.app N0 N122q
      have Ex129 : Exa Z T122.heap tb "com/example/redoubt/redoubt/storage/FrameTable" := (E_tb.keep K122q)
      have ne130 : tb ≠ a2 := own_ne_arr E_tb (hw _ (List.mem_of_getElem? (i := 22) rfl)) V_a2
      have F131 : Fld Z T122.heap tb "com/example/redoubt/redoubt/storage/FrameTable" "slots" "[Lcom/example/redoubt/redoubt/storage/PageCache$Frame;" (.ref a2) := (F_slots_tb.keep K122q (ninS ne130 nin0))
      have F132 : Fld Z T122.heap tb "com/example/redoubt/redoubt/storage/FrameTable" "shift" "I" (.int (27 : Int32)) := (F_shift_tb.keep K122q (ninS ne130 nin0))
      have F133 : Fld Z T122.heap tb "com/example/redoubt/redoubt/storage/FrameTable" "size" "I" (.int c0) := (F_size_tb.keep K122q (ninS ne130 nin0))
      have Av134 : Arv Z T122.heap a k (.object "com/example/redoubt/redoubt/storage/PageCache$Frame") (16 : Int32) vs .null := (V_a.keep K122q (ninS haa nin0))
      have Xf135 : own_Good Z T122.heap vs := (own_good_keep G_0 K122q (fun f hf => (ninS (own_ne_arr hf (hw _ (List.mem_of_getElem? (i := 7) rfl)) V_a2) nin0)))
      have Xf136 : own_Good Z T122.heap vs2 := (own_good_keep G_2 K122q (fun f hf => (ninS (own_ne_arr hf (hw _ (List.mem_of_getElem? (i := 7) rfl)) V_a2) nin0)))
      have Ex137 : Exa Z T122.heap f "com/example/redoubt/redoubt/storage/PageCache$Frame" := (Ef.keep K122q)
      have ne138 : f ≠ a2 := own_ne_arr Ef (hw _ (List.mem_of_getElem? (i := 7) rfl)) V_a2
      have F139 : Fld Z T122.heap f "com/example/redoubt/redoubt/storage/PageCache$Frame" "page" "I" (.int pg) := (Ff.keep K122q (ninS ne138 nin0))
      have K140 : Keep h0 T122.heap [a2] := (Keep.refl h0 _).trans K122q (allS (Or.inl (List.mem_of_getElem? (i := 0) rfl)) all0)
      obtain ⟨us, hus⟩ : ∃ z, z = vs2.set ix_122 (.ref f) := ⟨_, rfl⟩
      have Av141 : Arv Z T122.heap a2 k2 (.object "com/example/redoubt/redoubt/storage/PageCache$Frame") (32 : Int32) us .null := by rw [hus]; exact P122_0
      have G142 : own_Good Z T122.heap us := by rw [hus]; exact own_good_set Xf136 Ex137 F139 _
      have pre143 : ∀ t, Steps p.tables e below (T122.setTop (mkF m 34 #[.val (.ref tb), .val (.ref a), .val (.ref a), .val (.int (16 : Int32)), .val (.int ((Int32.ofNat i) + (1 : Int32))), .val (.ref f)] [])) t → Steps p.tables e below (T0.setTop (mkF m 34 #[.val (.ref tb), .val (.ref a), .val (.ref a), .val (.int (16 : Int32)), .val (.int (Int32.ofNat i)), s5] [])) t := fun t kk => pre121 t (by
          show Steps p.tables e below (T0.setTop (mkF m 51 #[.val (.ref tb), .val (.ref a), .val (.ref a), .val (.int (16 : Int32)), .val (.int (Int32.ofNat i)), .val (.ref f)] [])) _
          refine XS.aloadN X0.here hx rfl (hb hby d11_51) rfl rfl ?_
          show Steps p.tables e below (T0.setTop (mkF m 52 #[.val (.ref tb), .val (.ref a), .val (.ref a), .val (.int (16 : Int32)), .val (.int (Int32.ofNat i)), .val (.ref f)] [(.ref tb)])) _
          refine XS.aload X0.here hx rfl (hb hby d11_52) rfl rfl ?_
          show Steps p.tables e below (T0.setTop (mkF m 54 #[.val (.ref tb), .val (.ref a), .val (.ref a), .val (.int (16 : Int32)), .val (.int (Int32.ofNat i)), .val (.ref f)] [(.ref f), (.ref tb)])) _
          refine st122.trans ?_
          show Steps p.tables e below (T122.setTop (mkF m 57 #[.val (.ref tb), .val (.ref a), .val (.ref a), .val (.int (16 : Int32)), .val (.int (Int32.ofNat i)), .val (.ref f)] [])) _
          refine XS.iinc X122.here hx rfl (hb hby d11_57) rfl (l' := #[.val (.ref tb), .val (.ref a), .val (.ref a), .val (.int (16 : Int32)), .val (.int ((Int32.ofNat i) + (1 : Int32))), .val (.ref f)]) rfl ?_
          show Steps p.tables e below (T122.setTop (mkF m 60 #[.val (.ref tb), .val (.ref a), .val (.ref a), .val (.int (16 : Int32)), .val (.int ((Int32.ofNat i) + (1 : Int32))), .val (.ref f)] [])) _
          refine XS.goto X122.here hx rfl (pc0 := 60) (pc' := 34) rfl (hb hby d11_60) (by decide) (by decide) ?_
          exact kk)
      have eq144 : ((Int32.ofNat i) + (1 : Int32)) = (Int32.ofNat (i + 1)) := own_suc16 i hlt
      have pre145 : ∀ t, Steps p.tables e below (T122.setTop (mkF m 34 #[.val (.ref tb), .val (.ref a), .val (.ref a), .val (.int (16 : Int32)), .val (.int (Int32.ofNat (i + 1))), .val (.ref f)] [])) t → Steps p.tables e below (T0.setTop (mkF m 34 #[.val (.ref tb), .val (.ref a), .val (.ref a), .val (.int (16 : Int32)), .val (.int (Int32.ofNat i)), s5] [])) t := fun t kk => pre143 t (own_cast (fun zz : Int32 => T122.setTop (mkF m 34 #[.val (.ref tb), .val (.ref a), .val (.ref a), .val (.int (16 : Int32)), .val (.int zz), .val (.ref f)] [])) eq144 kk)
      have hp146 : vs.length = 16 := hlen
      have hp147 : us.length = 32 := by rw [hus, List.length_set]; exact hlen2
      have hp148 : (i + 1) ≤ 16 := hlt
      have hp149 : own_cnt us ≤ (i + 1) := by rw [hus, own_cset vs2 ix_122 f (by rw [hlen2]; exact pu122_0) pu122_1]; exact Nat.succ_le_succ hcnt
      have hp150 : ∀ jj, (us.getD jj .null).isRef = true := by rw [hus]; exact own_rset href2 _ _
      have hp151 : Ovr Z k2 "com/example/redoubt/redoubt/storage/PageCache$Frame" := ho2
      have hp152 : a ≠ a2 := haa
      have hp153 : (Slot.val (.ref f)) = .unset ∨ ∃ w, (Slot.val (.ref f)) = .val w ∧ w.category = 1 := Or.inr ⟨.ref f, rfl, rfl⟩
      obtain ⟨T154, lc154, h154, ii_154, s6_154, vs3_154, X154, N154, e154, K154, P154_0, P154_1, pu154_0, pu154_1, pre154⟩ := ih _ (by omega) T122 _ T122.heap tb a (i + 1) (Slot.val (.ref f)) k vs a2 k2 us c0 X122 rfl N122 (Nat.le_trans Z0 K140.1) Ex129 F131 F132 F133 Av134 Xf135 Av141 G142 hp146 hp147 hp148 hp149 hp150 hp151 hp152 hp153 g_a2 rfl
      exact ⟨T154, _, _, ii_154, s6_154, vs3_154, X154, N154, e154, (K140.trans K154 (allS (Or.inl (List.mem_of_getElem? (i := 0) rfl)) all0)), P154_0, P154_1, pu154_0, pu154_1, fun t kk => pre145 t (pre154 t kk)⟩
  · have pre105 : ∀ t, Steps p.tables e below (T0.setTop (mkF m 63 #[.val (.ref tb), .val (.ref a), .val (.ref a), .val (.int (16 : Int32)), .val (.int (Int32.ofNat i)), s5] [])) t → Steps p.tables e below (T0.setTop (mkF m 34 #[.val (.ref tb), .val (.ref a), .val (.ref a), .val (.int (16 : Int32)), .val (.int (Int32.ofNat i)), s5] [])) t := fun t kk => pre104 t (by
        show Steps p.tables e below (T0.setTop (mkF m 37 #[.val (.ref tb), .val (.ref a), .val (.ref a), .val (.int (16 : Int32)), .val (.int (Int32.ofNat i)), s5] [(.int (16 : Int32)), (.int (Int32.ofNat i))])) _
        refine XS.icmpYes X0.here hx rfl (pc0 := 37) (pc' := 63) rfl (hb hby d11_37) rfl (flt hl0).2.1 (by decide) (by decide) ?_
        exact kk)
    exact ⟨T0, _, _, i, s5, vs2, X0, N0, e0, Keep.refl _ _, V_a2, G_2, hlen2, (Nat.le_trans hcnt hi), pre105⟩
theorem d11_0 : decode prog_47_method_9_code 0 = .ok (.aload_n 0, 1) := by decide +kernel
theorem d11_1 : decode prog_47_method_9_code 1 = .ok (.getfield 11, 3) := by decide +kernel
theorem d11_4 : decode prog_47_method_9_code 4 = .ok (.astore_n 1, 1) := by decide +kernel
theorem d11_5 : decode prog_47_method_9_code 5 = .ok (.aload_n 0, 1) := by decide +kernel
theorem d11_6 : decode prog_47_method_9_code 6 = .ok (.iconst 2, 1) := by decide +kernel
theorem d11_7 : decode prog_47_method_9_code 7 = .ok (.aload_n 1, 1) := by decide +kernel
theorem d11_8 : decode prog_47_method_9_code 8 = .ok (.arraylength, 1) := by decide +kernel
theorem d11_9 : decode prog_47_method_9_code 9 = .ok (.imul, 1) := by decide +kernel
theorem d11_10 : decode prog_47_method_9_code 10 = .ok (.anewarray 9, 3) := by decide +kernel
theorem d11_13 : decode prog_47_method_9_code 13 = .ok (.putfield 11, 3) := by decide +kernel
theorem d11_16 : decode prog_47_method_9_code 16 = .ok (.aload_n 0, 1) := by decide +kernel
theorem d11_17 : decode prog_47_method_9_code 17 = .ok (.dup, 1) := by decide +kernel
theorem d11_18 : decode prog_47_method_9_code 18 = .ok (.getfield 17, 3) := by decide +kernel
theorem d11_21 : decode prog_47_method_9_code 21 = .ok (.iconst 1, 1) := by decide +kernel
theorem d11_22 : decode prog_47_method_9_code 22 = .ok (.isub, 1) := by decide +kernel
theorem d11_23 : decode prog_47_method_9_code 23 = .ok (.putfield 17, 3) := by decide +kernel
theorem d11_26 : decode prog_47_method_9_code 26 = .ok (.aload_n 1, 1) := by decide +kernel
theorem d11_27 : decode prog_47_method_9_code 27 = .ok (.astore_n 2, 1) := by decide +kernel
theorem d11_28 : decode prog_47_method_9_code 28 = .ok (.aload_n 2, 1) := by decide +kernel
theorem d11_29 : decode prog_47_method_9_code 29 = .ok (.arraylength, 1) := by decide +kernel
theorem d11_30 : decode prog_47_method_9_code 30 = .ok (.istore_n 3, 1) := by decide +kernel
theorem d11_31 : decode prog_47_method_9_code 31 = .ok (.iconst 0, 1) := by decide +kernel
theorem d11_32 : decode prog_47_method_9_code 32 = .ok (.istore 4, 2) := by decide +kernel
theorem d11_63 : decode prog_47_method_9_code 63 = .ok (.return_, 1) := by decide +kernel
theorem ef_rmGrow (m : MethodId) (x0 : Addr) : entryFrame m #[(.ref x0)] 6 = mkF m 0 #[.val (.ref x0), .unset, .unset, .unset, .unset, .unset] [] := by first | (simp [entryFrame, mkF, argsToLocals, Value.category]; done) | rfl
def QGrow (Z : State) (tb : Addr) (a : Addr) (k : ClassId) (vs : List Value) (c0 : Int32) (h0 : Heap) (n0 : Nat) (v : Option Value) (h : Heap) (L : List Loc) : Prop := ∃ (a2 : Addr) (k2 : ClassId) (vs2 : List Value), v = none ∧ Fr n0 L ∧ Keep h0 h [tb] ∧ h0.size ≤ a2 ∧ Exa Z h tb "com/example/redoubt/redoubt/storage/FrameTable" ∧ Fld Z h tb "com/example/redoubt/redoubt/storage/FrameTable" "slots" "[Lcom/example/redoubt/redoubt/storage/PageCache$Frame;" (.ref a2) ∧ Fld Z h tb "com/example/redoubt/redoubt/storage/FrameTable" "shift" "I" (.int (27 : Int32)) ∧ Fld Z h tb "com/example/redoubt/redoubt/storage/FrameTable" "size" "I" (.int c0) ∧ Arv Z h a2 k2 (.object "com/example/redoubt/redoubt/storage/PageCache$Frame") (32 : Int32) vs2 .null ∧ own_Good Z h vs2 ∧ vs2.length = 32 ∧ own_cnt vs2 ≤ 16 ∧ Ovr Z k2 "com/example/redoubt/redoubt/storage/PageCache$Frame"
set_option maxRecDepth 65536 in
set_option maxHeartbeats 40000000 in
theorem rmGrow (l : Launch) (Z : State) (a0 : Array Value) (hw : ∀ d ∈ tables_1, d.before a0 Z = true) (ws : List Jvm.Cond) (tb : Addr) (a : Addr) (k : ClassId) (vs : List Value) (c0 : Int32) (h0 : Heap) (n0 : Nat) (Z0 : n0 ≤ h0.size) (E_tb : Exa Z h0 tb "com/example/redoubt/redoubt/storage/FrameTable") (F_slots_tb : Fld Z h0 tb "com/example/redoubt/redoubt/storage/FrameTable" "slots" "[Lcom/example/redoubt/redoubt/storage/PageCache$Frame;" (.ref a)) (F_shift_tb : Fld Z h0 tb "com/example/redoubt/redoubt/storage/FrameTable" "shift" "I" (.int (28 : Int32))) (F_size_tb : Fld Z h0 tb "com/example/redoubt/redoubt/storage/FrameTable" "size" "I" (.int c0)) (V_a : Arv Z h0 a k (.object "com/example/redoubt/redoubt/storage/PageCache$Frame") (16 : Int32) vs .null) (G_0 : own_Good Z h0 vs) (hlen : vs.length = 16) (g_tb : n0 ≤ tb) :
    MetFree l (⟨"com/example/redoubt/redoubt/storage/FrameTable", "grow", "()V"⟩ : MethodName) (head1 (Jvm.Cond.code (⟨"com/example/redoubt/redoubt/storage/FrameTable", "grow", "()V"⟩ : MethodName) prog_47_method_9_code 6 none :: ws) ({ frames := 2, cells := 1, slots := 32, locals := 28 } : Room)) (fun aA uU => aA = #[(.ref tb)] ∧ Z.Warmed39 uU.vm ∧ uU.heap = h0) (fun _ _ _ _ _ => True) (fun _ uU oO uU' => ∃ vV lL, oO = .returned vV ∧ QGrow Z tb a k vs c0 h0 n0 vV uU'.heap lL ∧ FrameEnd uU oO uU' lL ({ frames := 2, cells := 1, slots := 32, locals := 28 } : Room).cells ({ frames := 2, cells := 1, slots := 32, locals := 28 } : Room).slots) := by
  refine MetFree.of_bodySF (plainFor_of_name pn_1) hisR ?_
  intro p e s m args below meth c s₁ Bd hml0 hP hK
  obtain ⟨rfl, hZ, hh⟩ := hP
  have hx := Bd.exec
  have hby := Bd.bytes
  have hml : c.maxLocals = 6 := hml0
  have hown : s.vm.findClass "com/example/redoubt/redoubt/storage/FrameTable" = some m.cls := findClass_of_methodNamed Bd.named
  have hnm := (name_of_methodNamed Bd.named Bd.method).1
  have X0 : Stand p l e ({ frames := 2, cells := 1, slots := 32, locals := 28 } : Room) s m #[(.ref tb)] below meth c s₁ [] 0 0 := Stand.of_body Bd
  have e0 : s₁.heap = h0 := by rw [← hh, Bd.state]; rfl
  have N0 := Fr.nil n0
  have pre0 : ∀ t, Steps p.tables e below (s₁.setTop (mkF m 0 #[.val (.ref tb), .unset, .unset, .unset, .unset, .unset] [])) t → Steps p.tables e below (s₁.setTop (entryFrame m #[(.ref tb)] 6)) t := fun t kk => castTop (ef_rmGrow m tb) kk
  obtain ⟨T155, X155, e155, st155⟩ := getF X0 hx hZ hown (host := "") (Or.inl (hw _ (List.mem_of_getElem? (i := 29) rfl))) Via.refl e0 F_slots_tb (g := (mkF m 1 #[.val (.ref tb), .unset, .unset, .unset, .unset, .unset] [(.ref tb)])) rfl rfl (hb hby d11_1)
  obtain ⟨cl156, Ar156, -, Sz156, Nn156, -, -⟩ := id V_a
  have pre157 : ∀ t, Steps p.tables e below (T155.setTop (mkF m 10 #[.val (.ref tb), .val (.ref a), .unset, .unset, .unset, .unset] [(.int ((2 : Int32) * (16 : Int32))), (.ref tb)])) t → Steps p.tables e below (s₁.setTop (entryFrame m #[(.ref tb)] 6)) t := fun t kk => pre0 t (by
      show Steps p.tables e below (s₁.setTop (mkF m 0 #[.val (.ref tb), .unset, .unset, .unset, .unset, .unset] [])) _
      refine XS.aloadN X0.here hx rfl (hb hby d11_0) rfl rfl ?_
      show Steps p.tables e below (s₁.setTop (mkF m 1 #[.val (.ref tb), .unset, .unset, .unset, .unset, .unset] [(.ref tb)])) _
      refine st155 _ ?_
      show Steps p.tables e below (T155.setTop (mkF m 4 #[.val (.ref tb), .unset, .unset, .unset, .unset, .unset] [(.ref a)])) _
      refine XS.astoreN X155.here hx rfl (hb hby d11_4) rfl rfl (l' := #[.val (.ref tb), .val (.ref a), .unset, .unset, .unset, .unset]) rfl ?_
      show Steps p.tables e below (T155.setTop (mkF m 5 #[.val (.ref tb), .val (.ref a), .unset, .unset, .unset, .unset] [])) _
      refine XS.aloadN X155.here hx rfl (hb hby d11_5) rfl rfl ?_
      show Steps p.tables e below (T155.setTop (mkF m 6 #[.val (.ref tb), .val (.ref a), .unset, .unset, .unset, .unset] [(.ref tb)])) _
      refine XS.iconst X155.here hx rfl (hb hby d11_6) ?_
      show Steps p.tables e below (T155.setTop (mkF m 7 #[.val (.ref tb), .val (.ref a), .unset, .unset, .unset, .unset] [(.int (2 : Int32)), (.ref tb)])) _
      refine XS.aloadN X155.here hx rfl (hb hby d11_7) rfl rfl ?_
      show Steps p.tables e below (T155.setTop (mkF m 8 #[.val (.ref tb), .val (.ref a), .unset, .unset, .unset, .unset] [(.ref a), (.int (2 : Int32)), (.ref tb)])) _
      refine X155.arraylength hx (by rw [e155]; exact Ar156.1) (State.isArrayOf_alike hZ.alike Ar156.2.1) (g := (mkF m 8 #[.val (.ref tb), .val (.ref a), .unset, .unset, .unset, .unset] [(.ref a), (.int (2 : Int32)), (.ref tb)])) rfl rfl (hb hby d11_8) _ ?_
      rw [len_of Sz156 Nn156]
      show Steps p.tables e below (T155.setTop (mkF m 9 #[.val (.ref tb), .val (.ref a), .unset, .unset, .unset, .unset] [(.int (16 : Int32)), (.int (2 : Int32)), (.ref tb)])) _
      refine XS.imul X155.here hx rfl (hb hby d11_9) rfl ?_
      exact kk)
  have eq158 : ((2 : Int32) * (16 : Int32)) = (32 : Int32) := by decide
  have pre159 : ∀ t, Steps p.tables e below (T155.setTop (mkF m 10 #[.val (.ref tb), .val (.ref a), .unset, .unset, .unset, .unset] [(.int (32 : Int32)), (.ref tb)])) t → Steps p.tables e below (s₁.setTop (entryFrame m #[(.ref tb)] 6)) t := fun t kk => pre157 t (own_cast (fun zz : Int32 => T155.setTop (mkF m 10 #[.val (.ref tb), .val (.ref a), .unset, .unset, .unset, .unset] [(.int zz), (.ref tb)])) eq158 kk)
  obtain ⟨T160, h160, k160, X160, e160, E160, A160, O160, st160⟩ := newR X155 hx hZ hown (hw _ (List.mem_of_getElem? (i := 28) rfl)) (hw _ (List.mem_of_getElem? (i := 2) rfl)) e155 (g := (mkF m 10 #[.val (.ref tb), .val (.ref a), .unset, .unset, .unset, .unset] [(.int (32 : Int32)), (.ref tb)])) rfl (hb hby d11_10) rfl (by decide) (cap := 32) (by decide) (by decide) (by decide) (by decide)
  obtain ⟨b160, gq160⟩ : ∃ z, z = h0.size := ⟨_, rfl⟩
  rw [← gq160] at A160 st160
  have ne161 : tb ≠ b160 := Nat.ne_of_lt (Nat.lt_of_lt_of_le E_tb.lt (Nat.le_of_eq gq160.symm))
  have ne162 : a ≠ b160 := Nat.ne_of_lt (Nat.lt_of_lt_of_le V_a.lt (Nat.le_of_eq gq160.symm))
  have g_b160 : n0 ≤ b160 := Nat.le_trans Z0 (Nat.le_of_eq gq160.symm)
  have sz_b160 : h0.size ≤ b160 := Nat.le_trans (Nat.le_refl _) (Nat.le_of_eq gq160.symm)
  have Ex163 : Exa Z h160 tb "com/example/redoubt/redoubt/storage/FrameTable" := (E_tb.ext E160)
  have F164 : Fld Z h160 tb "com/example/redoubt/redoubt/storage/FrameTable" "slots" "[Lcom/example/redoubt/redoubt/storage/PageCache$Frame;" (.ref a) := (F_slots_tb.ext E160)
  have F165 : Fld Z h160 tb "com/example/redoubt/redoubt/storage/FrameTable" "shift" "I" (.int (28 : Int32)) := (F_shift_tb.ext E160)
  have F166 : Fld Z h160 tb "com/example/redoubt/redoubt/storage/FrameTable" "size" "I" (.int c0) := (F_size_tb.ext E160)
  have Av167 : Arv Z h160 a k (.object "com/example/redoubt/redoubt/storage/PageCache$Frame") (16 : Int32) vs .null := (V_a.ext E160)
  have Xf168 : own_Good Z h160 vs := (own_good_ext G_0 E160)
  have K169 : Keep h0 h160 [tb] := (Keep.refl h0 _).ext E160
  have Av160 : Arv Z h160 b160 k160 (.object "com/example/redoubt/redoubt/storage/PageCache$Frame") (32 : Int32) ([.null, .null, .null, .null, .null, .null, .null, .null, .null, .null, .null, .null, .null, .null, .null, .null, .null, .null, .null, .null, .null, .null, .null, .null, .null, .null, .null, .null, .null, .null, .null, .null] : List Value) .null := (Arv.new A160 (by decide)).pad (pad_rep [] .null 32)
  obtain ⟨T170, h170, X170, e170, W170, st170⟩ := putF X160 hx hZ hown (host := "") (Or.inl (hw _ (List.mem_of_getElem? (i := 29) rfl))) Via.refl e160 F164 Ex163 (Or.inl (hw _ (List.mem_of_getElem? (i := 30) rfl))) (hw _ (List.mem_of_getElem? (i := 22) rfl)) (ty := (.array (.object "com/example/redoubt/redoubt/storage/PageCache$Frame"))) (by decide) rfl rfl (g := (mkF m 13 #[.val (.ref tb), .val (.ref a), .unset, .unset, .unset, .unset] [(.ref b160), (.ref tb)])) rfl rfl (hb hby d11_13)
  have Ex171 : Exa Z h170 tb "com/example/redoubt/redoubt/storage/FrameTable" := (Ex163.wr W170)
  have F172 : Fld Z h170 tb "com/example/redoubt/redoubt/storage/FrameTable" "shift" "I" (.int (28 : Int32)) := (F165.other W170 (Or.inr (slot_ne (Or.inl (hw _ (List.mem_of_getElem? (i := 32) rfl))) (Or.inl (hw _ (List.mem_of_getElem? (i := 30) rfl))) (by decide) (t := .int) (t' := (.array (.object "com/example/redoubt/redoubt/storage/PageCache$Frame"))) (by decide) (by decide))))
  have F173 : Fld Z h170 tb "com/example/redoubt/redoubt/storage/FrameTable" "size" "I" (.int c0) := (F166.other W170 (Or.inr (slot_ne (Or.inl (hw _ (List.mem_of_getElem? (i := 39) rfl))) (Or.inl (hw _ (List.mem_of_getElem? (i := 30) rfl))) (by decide) (t := .int) (t' := (.array (.object "com/example/redoubt/redoubt/storage/PageCache$Frame"))) (by decide) (by decide))))
  have ne174 : tb ≠ a := own_ne_arr Ex163 (hw _ (List.mem_of_getElem? (i := 22) rfl)) Av167
  have Av175 : Arv Z h170 a k (.object "com/example/redoubt/redoubt/storage/PageCache$Frame") (16 : Int32) vs .null := (Av167.other W170 (Ne.symm ne174))
  have Xf176 : own_Good Z h170 vs := (own_good_wr Xf168 W170 (fun f hf => (ne_exa hf Ex163 (by decide))))
  have Av177 : Arv Z h170 b160 k160 (.object "com/example/redoubt/redoubt/storage/PageCache$Frame") (32 : Int32) ([.null, .null, .null, .null, .null, .null, .null, .null, .null, .null, .null, .null, .null, .null, .null, .null, .null, .null, .null, .null, .null, .null, .null, .null, .null, .null, .null, .null, .null, .null, .null, .null] : List Value) .null := (Av160.other W170 (Ne.symm ne161))
  have K178 : Keep h0 h170 [tb] := K169.wr W170 (Or.inl (List.mem_of_getElem? (i := 0) rfl))
  have N179 := Fr.snoc X170 N0 g_tb
  have F180 : Fld Z h170 tb "com/example/redoubt/redoubt/storage/FrameTable" "slots" "[Lcom/example/redoubt/redoubt/storage/PageCache$Frame;" (.ref b160) := F164.same W170
  obtain ⟨T181, X181, e181, st181⟩ := getF X170 hx hZ hown (host := "") (Or.inl (hw _ (List.mem_of_getElem? (i := 31) rfl))) Via.refl e170 F172 (g := (mkF m 18 #[.val (.ref tb), .val (.ref a), .unset, .unset, .unset, .unset] [(.ref tb), (.ref tb)])) rfl rfl (hb hby d11_18)
  obtain ⟨T182, h182, X182, e182, W182, st182⟩ := putF X181 hx hZ hown (host := "") (Or.inl (hw _ (List.mem_of_getElem? (i := 31) rfl))) Via.refl e181 F172 Ex171 (Or.inl (hw _ (List.mem_of_getElem? (i := 32) rfl))) (hw _ (List.mem_of_getElem? (i := 22) rfl)) (ty := .int) (by decide) rfl rfl (g := (mkF m 23 #[.val (.ref tb), .val (.ref a), .unset, .unset, .unset, .unset] [(.int ((28 : Int32) - (1 : Int32))), (.ref tb)])) rfl rfl (hb hby d11_23)
  have Ex183 : Exa Z h182 tb "com/example/redoubt/redoubt/storage/FrameTable" := (Ex171.wr W182)
  have F184 : Fld Z h182 tb "com/example/redoubt/redoubt/storage/FrameTable" "size" "I" (.int c0) := (F173.other W182 (Or.inr (slot_ne (Or.inl (hw _ (List.mem_of_getElem? (i := 39) rfl))) (Or.inl (hw _ (List.mem_of_getElem? (i := 32) rfl))) (by decide) (t := .int) (t' := .int) (by decide) (by decide))))
  have Av185 : Arv Z h182 a k (.object "com/example/redoubt/redoubt/storage/PageCache$Frame") (16 : Int32) vs .null := (Av175.other W182 (Ne.symm ne174))
  have Xf186 : own_Good Z h182 vs := (own_good_wr Xf176 W182 (fun f hf => (ne_exa hf Ex171 (by decide))))
  have Av187 : Arv Z h182 b160 k160 (.object "com/example/redoubt/redoubt/storage/PageCache$Frame") (32 : Int32) ([.null, .null, .null, .null, .null, .null, .null, .null, .null, .null, .null, .null, .null, .null, .null, .null, .null, .null, .null, .null, .null, .null, .null, .null, .null, .null, .null, .null, .null, .null, .null, .null] : List Value) .null := (Av177.other W182 (Ne.symm ne161))
  have F188 : Fld Z h182 tb "com/example/redoubt/redoubt/storage/FrameTable" "slots" "[Lcom/example/redoubt/redoubt/storage/PageCache$Frame;" (.ref b160) := (F180.other W182 (Or.inr (slot_ne (Or.inl (hw _ (List.mem_of_getElem? (i := 30) rfl))) (Or.inl (hw _ (List.mem_of_getElem? (i := 32) rfl))) (by decide) (t := (.array (.object "com/example/redoubt/redoubt/storage/PageCache$Frame"))) (t' := .int) (by decide) (by decide))))
  have K189 : Keep h0 h182 [tb] := K178.wr W182 (Or.inl (List.mem_of_getElem? (i := 0) rfl))
  have N190 := Fr.snoc X182 N179 g_tb
  have F191 : Fld Z h182 tb "com/example/redoubt/redoubt/storage/FrameTable" "shift" "I" (.int ((28 : Int32) - (1 : Int32))) := F172.same W182
  have eq193 : ((28 : Int32) - (1 : Int32)) = (27 : Int32) := by decide
  have F192 : Fld Z h182 tb "com/example/redoubt/redoubt/storage/FrameTable" "shift" "I" (.int (27 : Int32)) := by rw [← eq193]; exact F191
  obtain ⟨cl194, Ar194, -, Sz194, Nn194, -, -⟩ := id Av185
  have pre195 : ∀ t, Steps p.tables e below (T182.setTop (mkF m 34 #[.val (.ref tb), .val (.ref a), .val (.ref a), .val (.int (16 : Int32)), .val (.int (0 : Int32)), .unset] [])) t → Steps p.tables e below (s₁.setTop (entryFrame m #[(.ref tb)] 6)) t := fun t kk => pre159 t (by
      show Steps p.tables e below (T155.setTop (mkF m 10 #[.val (.ref tb), .val (.ref a), .unset, .unset, .unset, .unset] [(.int (32 : Int32)), (.ref tb)])) _
      refine st160 _ ?_
      show Steps p.tables e below (T160.setTop (mkF m 13 #[.val (.ref tb), .val (.ref a), .unset, .unset, .unset, .unset] [(.ref b160), (.ref tb)])) _
      refine st170 _ ?_
      show Steps p.tables e below (T170.setTop (mkF m 16 #[.val (.ref tb), .val (.ref a), .unset, .unset, .unset, .unset] [])) _
      refine XS.aloadN X170.here hx rfl (hb hby d11_16) rfl rfl ?_
      show Steps p.tables e below (T170.setTop (mkF m 17 #[.val (.ref tb), .val (.ref a), .unset, .unset, .unset, .unset] [(.ref tb)])) _
      refine XS.dup X170.here hx rfl (hb hby d11_17) rfl rfl ?_
      show Steps p.tables e below (T170.setTop (mkF m 18 #[.val (.ref tb), .val (.ref a), .unset, .unset, .unset, .unset] [(.ref tb), (.ref tb)])) _
      refine st181 _ ?_
      show Steps p.tables e below (T181.setTop (mkF m 21 #[.val (.ref tb), .val (.ref a), .unset, .unset, .unset, .unset] [(.int (28 : Int32)), (.ref tb)])) _
      refine XS.iconst X181.here hx rfl (hb hby d11_21) ?_
      show Steps p.tables e below (T181.setTop (mkF m 22 #[.val (.ref tb), .val (.ref a), .unset, .unset, .unset, .unset] [(.int (1 : Int32)), (.int (28 : Int32)), (.ref tb)])) _
      refine XS.isub X181.here hx rfl (hb hby d11_22) rfl ?_
      show Steps p.tables e below (T181.setTop (mkF m 23 #[.val (.ref tb), .val (.ref a), .unset, .unset, .unset, .unset] [(.int ((28 : Int32) - (1 : Int32))), (.ref tb)])) _
      refine st182 _ ?_
      show Steps p.tables e below (T182.setTop (mkF m 26 #[.val (.ref tb), .val (.ref a), .unset, .unset, .unset, .unset] [])) _
      refine XS.aloadN X182.here hx rfl (hb hby d11_26) rfl rfl ?_
      show Steps p.tables e below (T182.setTop (mkF m 27 #[.val (.ref tb), .val (.ref a), .unset, .unset, .unset, .unset] [(.ref a)])) _
      refine XS.astoreN X182.here hx rfl (hb hby d11_27) rfl rfl (l' := #[.val (.ref tb), .val (.ref a), .val (.ref a), .unset, .unset, .unset]) rfl ?_
      show Steps p.tables e below (T182.setTop (mkF m 28 #[.val (.ref tb), .val (.ref a), .val (.ref a), .unset, .unset, .unset] [])) _
      refine XS.aloadN X182.here hx rfl (hb hby d11_28) rfl rfl ?_
      show Steps p.tables e below (T182.setTop (mkF m 29 #[.val (.ref tb), .val (.ref a), .val (.ref a), .unset, .unset, .unset] [(.ref a)])) _
      refine X182.arraylength hx (by rw [e182]; exact Ar194.1) (State.isArrayOf_alike hZ.alike Ar194.2.1) (g := (mkF m 29 #[.val (.ref tb), .val (.ref a), .val (.ref a), .unset, .unset, .unset] [(.ref a)])) rfl rfl (hb hby d11_29) _ ?_
      rw [len_of Sz194 Nn194]
      show Steps p.tables e below (T182.setTop (mkF m 30 #[.val (.ref tb), .val (.ref a), .val (.ref a), .unset, .unset, .unset] [(.int (16 : Int32))])) _
      refine XS.istoreN X182.here hx rfl (hb hby d11_30) rfl (l' := #[.val (.ref tb), .val (.ref a), .val (.ref a), .val (.int (16 : Int32)), .unset, .unset]) rfl ?_
      show Steps p.tables e below (T182.setTop (mkF m 31 #[.val (.ref tb), .val (.ref a), .val (.ref a), .val (.int (16 : Int32)), .unset, .unset] [])) _
      refine XS.iconst X182.here hx rfl (hb hby d11_31) ?_
      show Steps p.tables e below (T182.setTop (mkF m 32 #[.val (.ref tb), .val (.ref a), .val (.ref a), .val (.int (16 : Int32)), .unset, .unset] [(.int (0 : Int32))])) _
      refine XS.istore X182.here hx rfl (hb hby d11_32) rfl (l' := #[.val (.ref tb), .val (.ref a), .val (.ref a), .val (.int (16 : Int32)), .val (.int (0 : Int32)), .unset]) rfl ?_
      exact kk)
  have eq196 : (0 : Int32) = (Int32.ofNat 0) := rfl
  have pre197 : ∀ t, Steps p.tables e below (T182.setTop (mkF m 34 #[.val (.ref tb), .val (.ref a), .val (.ref a), .val (.int (16 : Int32)), .val (.int (Int32.ofNat 0)), .unset] [])) t → Steps p.tables e below (s₁.setTop (entryFrame m #[(.ref tb)] 6)) t := fun t kk => pre195 t (own_cast (fun zz : Int32 => T182.setTop (mkF m 34 #[.val (.ref tb), .val (.ref a), .val (.ref a), .val (.int (16 : Int32)), .val (.int zz), .unset] [])) eq196 kk)
  have G198 : own_Good Z h182 ([.null, .null, .null, .null, .null, .null, .null, .null, .null, .null, .null, .null, .null, .null, .null, .null, .null, .null, .null, .null, .null, .null, .null, .null, .null, .null, .null, .null, .null, .null, .null, .null] : List Value) := fun v hv => Or.inl (own_nul _ hv)
  have hp199 : vs.length = 16 := hlen
  have hp200 : ([.null, .null, .null, .null, .null, .null, .null, .null, .null, .null, .null, .null, .null, .null, .null, .null, .null, .null, .null, .null, .null, .null, .null, .null, .null, .null, .null, .null, .null, .null, .null, .null] : List Value).length = 32 := rfl
  have hp201 : 0 ≤ 16 := Nat.zero_le _
  have hp202 : own_cnt ([.null, .null, .null, .null, .null, .null, .null, .null, .null, .null, .null, .null, .null, .null, .null, .null, .null, .null, .null, .null, .null, .null, .null, .null, .null, .null, .null, .null, .null, .null, .null, .null] : List Value) ≤ 0 := Nat.le_refl _
  have hp203 : ∀ jj, (([.null, .null, .null, .null, .null, .null, .null, .null, .null, .null, .null, .null, .null, .null, .null, .null, .null, .null, .null, .null, .null, .null, .null, .null, .null, .null, .null, .null, .null, .null, .null, .null] : List Value).getD jj .null).isRef = true := own_good_ref G198
  have hp204 : Ovr Z k160 "com/example/redoubt/redoubt/storage/PageCache$Frame" := O160
  have hp205 : a ≠ b160 := ne162
  have hp206 : Slot.unset = .unset ∨ ∃ w, Slot.unset = .val w ∧ w.category = 1 := Or.inl rfl
  obtain ⟨T207, lc207, h207, ii_207, s6_207, vs3_207, X207, N207, e207, K207, P207_0, P207_1, pu207_0, pu207_1, pre207⟩ := loopGrow hx hZ hw hby hml hown (by decide) (by decide) (n0 := n0) _ T182 _ h182 tb a 0 Slot.unset k vs b160 k160 ([.null, .null, .null, .null, .null, .null, .null, .null, .null, .null, .null, .null, .null, .null, .null, .null, .null, .null, .null, .null, .null, .null, .null, .null, .null, .null, .null, .null, .null, .null, .null, .null] : List Value) c0 X182 e182 N190 (Nat.le_trans Z0 K189.1) Ex183 F188 F192 F184 Av185 Xf186 Av187 G198 hp199 hp200 hp201 hp202 hp203 hp204 hp205 hp206 g_b160 rfl
  have Ex209 : Exa Z h207 tb "com/example/redoubt/redoubt/storage/FrameTable" := (Ex183.keep K207)
  have F210 : Fld Z h207 tb "com/example/redoubt/redoubt/storage/FrameTable" "size" "I" (.int c0) := (F184.keep K207 (ninS ne161 nin0))
  have Av211 : Arv Z h207 a k (.object "com/example/redoubt/redoubt/storage/PageCache$Frame") (16 : Int32) vs .null := (Av185.keep K207 (ninS ne162 nin0))
  have Xf212 : own_Good Z h207 vs := (own_good_keep Xf186 K207 (fun f hf => (ninS (own_ne_arr hf (hw _ (List.mem_of_getElem? (i := 7) rfl)) Av187) nin0)))
  have F213 : Fld Z h207 tb "com/example/redoubt/redoubt/storage/FrameTable" "slots" "[Lcom/example/redoubt/redoubt/storage/PageCache$Frame;" (.ref b160) := (F188.keep K207 (ninS ne161 nin0))
  have F214 : Fld Z h207 tb "com/example/redoubt/redoubt/storage/FrameTable" "shift" "I" (.int (27 : Int32)) := (F192.keep K207 (ninS ne161 nin0))
  have Xf215 : own_Good Z h207 ([.null, .null, .null, .null, .null, .null, .null, .null, .null, .null, .null, .null, .null, .null, .null, .null, .null, .null, .null, .null, .null, .null, .null, .null, .null, .null, .null, .null, .null, .null, .null, .null] : List Value) := (own_good_keep G198 K207 (fun f hf => (ninS (own_ne_arr hf (hw _ (List.mem_of_getElem? (i := 7) rfl)) Av187) nin0)))
  have K216 : Keep h0 h207 [tb] := K189.trans K207 (allS (Or.inr sz_b160) all0)
  have pre208 : ∀ t, Steps p.tables e below (T207.setTop (mkF m 63 #[.val (.ref tb), .val (.ref a), .val (.ref a), .val (.int (16 : Int32)), .val (.int (Int32.ofNat ii_207)), s6_207] [])) t → Steps p.tables e below (s₁.setTop (entryFrame m #[(.ref tb)] 6)) t := fun t kk => pre197 t (pre207 t kk)
  obtain ⟨fs, hr, hrun, hended, hW, hsame⟩ := X207.leave (v := none) (fun _ => rfl)
  refine ⟨_, _, pre208 _ ?_, hrun, hended, _, _, rfl, ?_, ⟨_, rfl⟩, hW, hsame.mono (by decide) (by decide)⟩
  · show Steps p.tables e below (T207.setTop (mkF m 63 #[.val (.ref tb), .val (.ref a), .val (.ref a), .val (.int (16 : Int32)), .val (.int (Int32.ofNat ii_207)), s6_207] [])) _
    exact X207.returnOut hx Bd.returns (hb hby d11_63) hr
  · show QGrow Z tb a k vs c0 h0 n0 _ T207.heap _
    rw [e207]
    exact ⟨b160, k160, vs3_207, rfl, N207, K216, sz_b160, Ex209, F213, F214, F210, P207_0, P207_1, pu207_0, pu207_1, O160⟩
theorem d5_0 : decode prog_47_method_3_code 0 = .ok (.iconst 2, 1) := by decide +kernel
theorem d5_1 : decode prog_47_method_3_code 1 = .ok (.aload_n 0, 1) := by decide +kernel
theorem d5_2 : decode prog_47_method_3_code 2 = .ok (.getfield 28, 3) := by decide +kernel
theorem d5_5 : decode prog_47_method_3_code 5 = .ok (.iconst 1, 1) := by decide +kernel
theorem d5_6 : decode prog_47_method_3_code 6 = .ok (.iadd, 1) := by decide +kernel
theorem d5_7 : decode prog_47_method_3_code 7 = .ok (.imul, 1) := by decide +kernel
theorem d5_8 : decode prog_47_method_3_code 8 = .ok (.aload_n 0, 1) := by decide +kernel
theorem d5_9 : decode prog_47_method_3_code 9 = .ok (.getfield 11, 3) := by decide +kernel
theorem d5_12 : decode prog_47_method_3_code 12 = .ok (.arraylength, 1) := by decide +kernel
theorem d5_13 : decode prog_47_method_3_code 13 = .ok (.if_icmp .le 7, 3) := by decide +kernel
theorem d5_20 : decode prog_47_method_3_code 20 = .ok (.aload_n 0, 1) := by decide +kernel
theorem d5_21 : decode prog_47_method_3_code 21 = .ok (.aload_n 1, 1) := by decide +kernel
theorem d5_22 : decode prog_47_method_3_code 22 = .ok (.invokevirtual 34, 3) := by decide +kernel
theorem d5_25 : decode prog_47_method_3_code 25 = .ok (.aload_n 0, 1) := by decide +kernel
theorem d5_26 : decode prog_47_method_3_code 26 = .ok (.dup, 1) := by decide +kernel
theorem d5_27 : decode prog_47_method_3_code 27 = .ok (.getfield 28, 3) := by decide +kernel
theorem d5_30 : decode prog_47_method_3_code 30 = .ok (.iconst 1, 1) := by decide +kernel
theorem d5_31 : decode prog_47_method_3_code 31 = .ok (.iadd, 1) := by decide +kernel
theorem d5_32 : decode prog_47_method_3_code 32 = .ok (.putfield 28, 3) := by decide +kernel
theorem d5_35 : decode prog_47_method_3_code 35 = .ok (.return_, 1) := by decide +kernel
theorem ef_rmAddO (m : MethodId) (x0 : Addr) (x1 : Addr) : entryFrame m #[(.ref x0), (.ref x1)] 2 = mkF m 0 #[.val (.ref x0), .val (.ref x1)] [] := by first | (simp [entryFrame, mkF, argsToLocals, Value.category]; done) | rfl
def QAddO (Z : State) (tb : Addr) (f : Addr) (sh : Int32) (pg : Int32) (n : Int32) (N : Nat) (a : Addr) (k : ClassId) (vs : List Value) (c0 : Int32) (h0 : Heap) (n0 : Nat) (v : Option Value) (h : Heap) (L : List Loc) : Prop := ∃ (vs2 : List Value), v = none ∧ Fr n0 L ∧ Keep h0 h [tb, a] ∧ Exa Z h tb "com/example/redoubt/redoubt/storage/FrameTable" ∧ Fld Z h tb "com/example/redoubt/redoubt/storage/FrameTable" "slots" "[Lcom/example/redoubt/redoubt/storage/PageCache$Frame;" (.ref a) ∧ Fld Z h tb "com/example/redoubt/redoubt/storage/FrameTable" "shift" "I" (.int sh) ∧ Fld Z h tb "com/example/redoubt/redoubt/storage/FrameTable" "size" "I" (.int (c0 + (1 : Int32))) ∧ Arv Z h a k (.object "com/example/redoubt/redoubt/storage/PageCache$Frame") n vs2 .null ∧ own_Good Z h vs2 ∧ vs2.length = N ∧ own_cnt vs2 = own_cnt vs + 1
set_option maxRecDepth 65536 in
set_option maxHeartbeats 40000000 in
theorem rmAddO (l : Launch) (Z : State) (a0 : Array Value) (hw : ∀ d ∈ tables_1, d.before a0 Z = true) (ws : List Jvm.Cond) (tb : Addr) (f : Addr) (sh : Int32) (pg : Int32) (n : Int32) (N : Nat) (a : Addr) (k : ClassId) (vs : List Value) (c0 : Int32) (h0 : Heap) (n0 : Nat) (Z0 : n0 ≤ h0.size) (E_tb : Exa Z h0 tb "com/example/redoubt/redoubt/storage/FrameTable") (F_slots_tb : Fld Z h0 tb "com/example/redoubt/redoubt/storage/FrameTable" "slots" "[Lcom/example/redoubt/redoubt/storage/PageCache$Frame;" (.ref a)) (F_shift_tb : Fld Z h0 tb "com/example/redoubt/redoubt/storage/FrameTable" "shift" "I" (.int sh)) (F_size_tb : Fld Z h0 tb "com/example/redoubt/redoubt/storage/FrameTable" "size" "I" (.int c0)) (V_a : Arv Z h0 a k (.object "com/example/redoubt/redoubt/storage/PageCache$Frame") n vs .null) (G_0 : own_Good Z h0 vs) (E_f : Exa Z h0 f "com/example/redoubt/redoubt/storage/PageCache$Frame") (F_page_f : Fld Z h0 f "com/example/redoubt/redoubt/storage/PageCache$Frame" "page" "I" (.int pg)) (hN : own_tb n N sh) (hlen : vs.length = N) (ho : Ovr Z k "com/example/redoubt/redoubt/storage/PageCache$Frame") (hcnt : own_cnt vs < N) (hroom : ¬ (n < ((2 : Int32) * (c0 + (1 : Int32))))) (g_tb : n0 ≤ tb) (g_a : n0 ≤ a) :
    MetFree l (⟨"com/example/redoubt/redoubt/storage/FrameTable", "add", "(Lcom/example/redoubt/redoubt/storage/PageCache$Frame;)V"⟩ : MethodName) (head1 (Jvm.Cond.code (⟨"com/example/redoubt/redoubt/storage/FrameTable", "add", "(Lcom/example/redoubt/redoubt/storage/PageCache$Frame;)V"⟩ : MethodName) prog_47_method_3_code 2 none :: ws) ({ frames := 2, cells := 0, slots := 0, locals := 28 } : Room)) (fun aA uU => aA = #[(.ref tb), (.ref f)] ∧ Z.Warmed39 uU.vm ∧ uU.heap = h0) (fun _ _ _ _ _ => True) (fun _ uU oO uU' => ∃ vV lL, oO = .returned vV ∧ QAddO Z tb f sh pg n N a k vs c0 h0 n0 vV uU'.heap lL ∧ FrameEnd uU oO uU' lL ({ frames := 2, cells := 0, slots := 0, locals := 28 } : Room).cells ({ frames := 2, cells := 0, slots := 0, locals := 28 } : Room).slots) := by
  refine MetFree.of_bodySF (plainFor_of_name pn_1) hisR ?_
  intro p e s m args below meth c s₁ Bd hml0 hP hK
  obtain ⟨rfl, hZ, hh⟩ := hP
  have hx := Bd.exec
  have hby := Bd.bytes
  have hml : c.maxLocals = 2 := hml0
  have hown : s.vm.findClass "com/example/redoubt/redoubt/storage/FrameTable" = some m.cls := findClass_of_methodNamed Bd.named
  have hnm := (name_of_methodNamed Bd.named Bd.method).1
  have X0 : Stand p l e ({ frames := 2, cells := 0, slots := 0, locals := 28 } : Room) s m #[(.ref tb), (.ref f)] below meth c s₁ [] 0 0 := Stand.of_body Bd
  have e0 : s₁.heap = h0 := by rw [← hh, Bd.state]; rfl
  have N0 := Fr.nil n0
  have pre0 : ∀ t, Steps p.tables e below (s₁.setTop (mkF m 0 #[.val (.ref tb), .val (.ref f)] [])) t → Steps p.tables e below (s₁.setTop (entryFrame m #[(.ref tb), (.ref f)] 2)) t := fun t kk => castTop (ef_rmAddO m tb f) kk
  obtain ⟨j0, hj, hj0⟩ := own_free vs (by rw [hlen]; exact hcnt)
  rw [hlen] at hj
  have href := own_good_ref G_0
  obtain ⟨T217, X217, e217, st217⟩ := getF X0 hx hZ hown (host := "") (Or.inl (hw _ (List.mem_of_getElem? (i := 38) rfl))) Via.refl e0 F_size_tb (g := (mkF m 2 #[.val (.ref tb), .val (.ref f)] [(.ref tb), (.int (2 : Int32))])) rfl rfl (hb hby d5_2)
  obtain ⟨T218, X218, e218, st218⟩ := getF X217 hx hZ hown (host := "") (Or.inl (hw _ (List.mem_of_getElem? (i := 29) rfl))) Via.refl e217 F_slots_tb (g := (mkF m 9 #[.val (.ref tb), .val (.ref f)] [(.ref tb), (.int ((2 : Int32) * (c0 + (1 : Int32))))])) rfl rfl (hb hby d5_9)
  obtain ⟨cl219, Ar219, -, Sz219, Nn219, -, -⟩ := id V_a
  have hp221 : own_tb n N sh := hN
  have hp222 : vs.length = N := hlen
  have hp223 : j0 < N := hj
  have hp224 : vs.getD j0 .null = .null := hj0
  have hp225 : ∀ jj, (vs.getD jj .null).isRef = true := href
  have hp226 : Ovr Z k "com/example/redoubt/redoubt/storage/PageCache$Frame" := ho
  obtain ⟨cq220, q220, q220'⟩ := E_tb.cell
  obtain ⟨_, _, ⟨T220, L220, k220, n220⟩, -, X220, ⟨Lc220, hQ220, l220, y220, z220⟩, st220⟩ := own_privBack X218 hx (y := (⟨"com/example/redoubt/redoubt/storage/FrameTable", "place", "(Lcom/example/redoubt/redoubt/storage/PageCache$Frame;)V"⟩ : MethodName)) hown (mvT hZ (hw _ (List.mem_of_getElem? (i := 40) rfl))) (mvT hZ (hw _ (List.mem_of_getElem? (i := 41) rfl))) (mvT hZ (hw _ (List.mem_of_getElem? (i := 22) rfl))) (Cond.privateMethod_at (mvP hZ (hw _ (List.mem_of_getElem? (i := 42) rfl)) (args := #[]))) (mvT hZ (hw _ (List.mem_of_getElem? (i := 43) rfl))) (by decide) (backOf (W := 0) (rmPlace l Z a0 hw [] tb f sh pg n N a k vs j0 h0 n0 Z0 E_tb F_slots_tb F_shift_tb V_a E_f F_page_f hp221 hp222 hp223 hp224 hp225 hp226 g_a) hZ (hw _ (List.mem_of_getElem? (i := 43) rfl)) (hw _ (List.mem_of_getElem? (i := 23) rfl)) (by decide) (by decide)) (g := (mkF m 22 #[.val (.ref tb), .val (.ref f)] [(.ref f), (.ref tb)])) rfl (by rw [hml]; rfl) (a := tb) (by rw [e218]; exact q220) q220' (argsL := [(.ref f)]) (rest := []) (lenOf pd_1 rfl) rfl (by show 2 * 0 + _ ≤ _; exact Nat.le_of_eq rfl) (hb hby d5_22) (fun _ _ => ⟨rfl, e218, (by decide : 0 + 0 ≤ _), (by decide : 0 + 0 ≤ _)⟩)
  dsimp only [Pt.U, Pt.locs, Pt.cells, Pt.slots] at X220 l220 y220 z220 st220 hQ220
  rw [l220, y220, z220] at X220
  replace X220 := own_std X220 (cc := 0) (ss := 0) rfl rfl
  obtain ⟨ix_220, rfl, N220q, K220q, P220_0, pu220_0, pu220_1⟩ := hQ220
  have N220 := Fr.app N0 N220q
  have Ex227 : Exa Z T220.heap tb "com/example/redoubt/redoubt/storage/FrameTable" := (E_tb.keep K220q)
  have ne228 : tb ≠ a := own_ne_arr E_tb (hw _ (List.mem_of_getElem? (i := 22) rfl)) V_a
  have F229 : Fld Z T220.heap tb "com/example/redoubt/redoubt/storage/FrameTable" "slots" "[Lcom/example/redoubt/redoubt/storage/PageCache$Frame;" (.ref a) := (F_slots_tb.keep K220q (ninS ne228 nin0))
  have F230 : Fld Z T220.heap tb "com/example/redoubt/redoubt/storage/FrameTable" "shift" "I" (.int sh) := (F_shift_tb.keep K220q (ninS ne228 nin0))
  have F231 : Fld Z T220.heap tb "com/example/redoubt/redoubt/storage/FrameTable" "size" "I" (.int c0) := (F_size_tb.keep K220q (ninS ne228 nin0))
  have Xf232 : own_Good Z T220.heap vs := (own_good_keep G_0 K220q (fun f hf => (ninS (own_ne_arr hf (hw _ (List.mem_of_getElem? (i := 7) rfl)) V_a) nin0)))
  have Ex233 : Exa Z T220.heap f "com/example/redoubt/redoubt/storage/PageCache$Frame" := (E_f.keep K220q)
  have ne234 : f ≠ a := own_ne_arr E_f (hw _ (List.mem_of_getElem? (i := 7) rfl)) V_a
  have F235 : Fld Z T220.heap f "com/example/redoubt/redoubt/storage/PageCache$Frame" "page" "I" (.int pg) := (F_page_f.keep K220q (ninS ne234 nin0))
  have K236 : Keep h0 T220.heap [tb, a] := (Keep.refl h0 _).trans K220q (allS (Or.inl (List.mem_of_getElem? (i := 1) rfl)) all0)
  obtain ⟨us, hus⟩ : ∃ z, z = vs.set ix_220 (.ref f) := ⟨_, rfl⟩
  have Av237 : Arv Z T220.heap a k (.object "com/example/redoubt/redoubt/storage/PageCache$Frame") n us .null := by rw [hus]; exact P220_0
  have G238 : own_Good Z T220.heap us := by rw [hus]; exact own_good_set Xf232 Ex233 F235 _
  obtain ⟨T239, X239, e239, st239⟩ := getF X220 hx hZ hown (host := "") (Or.inl (hw _ (List.mem_of_getElem? (i := 38) rfl))) Via.refl rfl F231 (g := (mkF m 27 #[.val (.ref tb), .val (.ref f)] [(.ref tb), (.ref tb)])) rfl rfl (hb hby d5_27)
  obtain ⟨T240, h240, X240, e240, W240, st240⟩ := putF X239 hx hZ hown (host := "") (Or.inl (hw _ (List.mem_of_getElem? (i := 38) rfl))) Via.refl e239 F231 Ex227 (Or.inl (hw _ (List.mem_of_getElem? (i := 39) rfl))) (hw _ (List.mem_of_getElem? (i := 22) rfl)) (ty := .int) (by decide) rfl rfl (g := (mkF m 32 #[.val (.ref tb), .val (.ref f)] [(.int (c0 + (1 : Int32))), (.ref tb)])) rfl rfl (hb hby d5_32)
  have Ex241 : Exa Z h240 tb "com/example/redoubt/redoubt/storage/FrameTable" := (Ex227.wr W240)
  have F242 : Fld Z h240 tb "com/example/redoubt/redoubt/storage/FrameTable" "slots" "[Lcom/example/redoubt/redoubt/storage/PageCache$Frame;" (.ref a) := (F229.other W240 (Or.inr (slot_ne (Or.inl (hw _ (List.mem_of_getElem? (i := 30) rfl))) (Or.inl (hw _ (List.mem_of_getElem? (i := 39) rfl))) (by decide) (t := (.array (.object "com/example/redoubt/redoubt/storage/PageCache$Frame"))) (t' := .int) (by decide) (by decide))))
  have F243 : Fld Z h240 tb "com/example/redoubt/redoubt/storage/FrameTable" "shift" "I" (.int sh) := (F230.other W240 (Or.inr (slot_ne (Or.inl (hw _ (List.mem_of_getElem? (i := 32) rfl))) (Or.inl (hw _ (List.mem_of_getElem? (i := 39) rfl))) (by decide) (t := .int) (t' := .int) (by decide) (by decide))))
  have Xf244 : own_Good Z h240 us := (own_good_wr G238 W240 (fun f hf => (ne_exa hf Ex227 (by decide))))
  have Ex245 : Exa Z h240 f "com/example/redoubt/redoubt/storage/PageCache$Frame" := (Ex233.wr W240)
  have ne246 : f ≠ tb := ne_exa Ex233 Ex227 (by decide)
  have F247 : Fld Z h240 f "com/example/redoubt/redoubt/storage/PageCache$Frame" "page" "I" (.int pg) := (F235.other W240 (Or.inl ne246))
  have Av248 : Arv Z h240 a k (.object "com/example/redoubt/redoubt/storage/PageCache$Frame") n us .null := (Av237.other W240 (Ne.symm ne228))
  have K249 : Keep h0 h240 [tb, a] := K236.wr W240 (Or.inl (List.mem_of_getElem? (i := 0) rfl))
  have N250 := Fr.snoc X240 N220 g_tb
  have F251 : Fld Z h240 tb "com/example/redoubt/redoubt/storage/FrameTable" "size" "I" (.int (c0 + (1 : Int32))) := F231.same W240
  have pre252 : ∀ t, Steps p.tables e below (T240.setTop (mkF m 35 #[.val (.ref tb), .val (.ref f)] [])) t → Steps p.tables e below (s₁.setTop (entryFrame m #[(.ref tb), (.ref f)] 2)) t := fun t kk => pre0 t (by
      show Steps p.tables e below (s₁.setTop (mkF m 0 #[.val (.ref tb), .val (.ref f)] [])) _
      refine XS.iconst X0.here hx rfl (hb hby d5_0) ?_
      show Steps p.tables e below (s₁.setTop (mkF m 1 #[.val (.ref tb), .val (.ref f)] [(.int (2 : Int32))])) _
      refine XS.aloadN X0.here hx rfl (hb hby d5_1) rfl rfl ?_
      show Steps p.tables e below (s₁.setTop (mkF m 2 #[.val (.ref tb), .val (.ref f)] [(.ref tb), (.int (2 : Int32))])) _
      refine st217 _ ?_
      show Steps p.tables e below (T217.setTop (mkF m 5 #[.val (.ref tb), .val (.ref f)] [(.int c0), (.int (2 : Int32))])) _
      refine XS.iconst X217.here hx rfl (hb hby d5_5) ?_
      show Steps p.tables e below (T217.setTop (mkF m 6 #[.val (.ref tb), .val (.ref f)] [(.int (1 : Int32)), (.int c0), (.int (2 : Int32))])) _
      refine XS.iadd X217.here hx rfl (hb hby d5_6) rfl ?_
      show Steps p.tables e below (T217.setTop (mkF m 7 #[.val (.ref tb), .val (.ref f)] [(.int (c0 + (1 : Int32))), (.int (2 : Int32))])) _
      refine XS.imul X217.here hx rfl (hb hby d5_7) rfl ?_
      show Steps p.tables e below (T217.setTop (mkF m 8 #[.val (.ref tb), .val (.ref f)] [(.int ((2 : Int32) * (c0 + (1 : Int32))))])) _
      refine XS.aloadN X217.here hx rfl (hb hby d5_8) rfl rfl ?_
      show Steps p.tables e below (T217.setTop (mkF m 9 #[.val (.ref tb), .val (.ref f)] [(.ref tb), (.int ((2 : Int32) * (c0 + (1 : Int32))))])) _
      refine st218 _ ?_
      show Steps p.tables e below (T218.setTop (mkF m 12 #[.val (.ref tb), .val (.ref f)] [(.ref a), (.int ((2 : Int32) * (c0 + (1 : Int32))))])) _
      refine X218.arraylength hx (by rw [e218]; exact Ar219.1) (State.isArrayOf_alike hZ.alike Ar219.2.1) (g := (mkF m 12 #[.val (.ref tb), .val (.ref f)] [(.ref a), (.int ((2 : Int32) * (c0 + (1 : Int32))))])) rfl rfl (hb hby d5_12) _ ?_
      rw [len_of Sz219 Nn219]
      show Steps p.tables e below (T218.setTop (mkF m 13 #[.val (.ref tb), .val (.ref f)] [(.int n), (.int ((2 : Int32) * (c0 + (1 : Int32))))])) _
      refine XS.icmpYes X218.here hx rfl (pc0 := 13) (pc' := 20) rfl (hb hby d5_13) rfl (flt hroom).2.2.2 (by decide) (by decide) ?_
      show Steps p.tables e below (T218.setTop (mkF m 20 #[.val (.ref tb), .val (.ref f)] [])) _
      refine XS.aloadN X218.here hx rfl (hb hby d5_20) rfl rfl ?_
      show Steps p.tables e below (T218.setTop (mkF m 21 #[.val (.ref tb), .val (.ref f)] [(.ref tb)])) _
      refine XS.aloadN X218.here hx rfl (hb hby d5_21) rfl rfl ?_
      show Steps p.tables e below (T218.setTop (mkF m 22 #[.val (.ref tb), .val (.ref f)] [(.ref f), (.ref tb)])) _
      refine st220.trans ?_
      show Steps p.tables e below (T220.setTop (mkF m 25 #[.val (.ref tb), .val (.ref f)] [])) _
      refine XS.aloadN X220.here hx rfl (hb hby d5_25) rfl rfl ?_
      show Steps p.tables e below (T220.setTop (mkF m 26 #[.val (.ref tb), .val (.ref f)] [(.ref tb)])) _
      refine XS.dup X220.here hx rfl (hb hby d5_26) rfl rfl ?_
      show Steps p.tables e below (T220.setTop (mkF m 27 #[.val (.ref tb), .val (.ref f)] [(.ref tb), (.ref tb)])) _
      refine st239 _ ?_
      show Steps p.tables e below (T239.setTop (mkF m 30 #[.val (.ref tb), .val (.ref f)] [(.int c0), (.ref tb)])) _
      refine XS.iconst X239.here hx rfl (hb hby d5_30) ?_
      show Steps p.tables e below (T239.setTop (mkF m 31 #[.val (.ref tb), .val (.ref f)] [(.int (1 : Int32)), (.int c0), (.ref tb)])) _
      refine XS.iadd X239.here hx rfl (hb hby d5_31) rfl ?_
      show Steps p.tables e below (T239.setTop (mkF m 32 #[.val (.ref tb), .val (.ref f)] [(.int (c0 + (1 : Int32))), (.ref tb)])) _
      refine st240 _ ?_
      exact kk)
  obtain ⟨fs, hr, hrun, hended, hW, hsame⟩ := X240.leave (v := none) (fun _ => rfl)
  refine ⟨_, _, pre252 _ ?_, hrun, hended, _, _, rfl, ?_, ⟨_, rfl⟩, hW, hsame.mono (by decide) (by decide)⟩
  · show Steps p.tables e below (T240.setTop (mkF m 35 #[.val (.ref tb), .val (.ref f)] [])) _
    exact X240.returnOut hx Bd.returns (hb hby d5_35) hr
  · show QAddO Z tb f sh pg n N a k vs c0 h0 n0 _ T240.heap _
    rw [e240]
    exact ⟨us, rfl, N250, K249, Ex241, F242, F243, F251, Av248, Xf244, (by rw [hus, List.length_set]; exact hlen), (by rw [hus]; exact own_cset vs ix_220 f (by rw [hlen]; exact pu220_0) pu220_1)⟩
theorem d5_16 : decode prog_47_method_3_code 16 = .ok (.aload_n 0, 1) := by decide +kernel
theorem d5_17 : decode prog_47_method_3_code 17 = .ok (.invokevirtual 31, 3) := by decide +kernel
theorem pd_2 : parseMethodDescriptor "()V" = some ⟨[], none⟩ := by decide +kernel
theorem ef_rmAddG (m : MethodId) (x0 : Addr) (x1 : Addr) : entryFrame m #[(.ref x0), (.ref x1)] 2 = mkF m 0 #[.val (.ref x0), .val (.ref x1)] [] := by first | (simp [entryFrame, mkF, argsToLocals, Value.category]; done) | rfl
def QAddG (Z : State) (tb : Addr) (f : Addr) (pg : Int32) (a : Addr) (k : ClassId) (vs : List Value) (h0 : Heap) (n0 : Nat) (v : Option Value) (h : Heap) (L : List Loc) : Prop := ∃ (a2 : Addr), v = none ∧ Fr n0 L ∧ Keep h0 h [tb] ∧ Exa Z h tb "com/example/redoubt/redoubt/storage/FrameTable" ∧ Fld Z h tb "com/example/redoubt/redoubt/storage/FrameTable" "slots" "[Lcom/example/redoubt/redoubt/storage/PageCache$Frame;" (.ref a2) ∧ Fld Z h tb "com/example/redoubt/redoubt/storage/FrameTable" "shift" "I" (.int (27 : Int32)) ∧ Fld Z h tb "com/example/redoubt/redoubt/storage/FrameTable" "size" "I" (.int (9 : Int32))
set_option maxRecDepth 65536 in
set_option maxHeartbeats 40000000 in
theorem rmAddG (l : Launch) (Z : State) (a0 : Array Value) (hw : ∀ d ∈ tables_1, d.before a0 Z = true) (ws : List Jvm.Cond) (tb : Addr) (f : Addr) (pg : Int32) (a : Addr) (k : ClassId) (vs : List Value) (h0 : Heap) (n0 : Nat) (Z0 : n0 ≤ h0.size) (E_tb : Exa Z h0 tb "com/example/redoubt/redoubt/storage/FrameTable") (F_slots_tb : Fld Z h0 tb "com/example/redoubt/redoubt/storage/FrameTable" "slots" "[Lcom/example/redoubt/redoubt/storage/PageCache$Frame;" (.ref a)) (F_shift_tb : Fld Z h0 tb "com/example/redoubt/redoubt/storage/FrameTable" "shift" "I" (.int (28 : Int32))) (F_size_tb : Fld Z h0 tb "com/example/redoubt/redoubt/storage/FrameTable" "size" "I" (.int (8 : Int32))) (V_a : Arv Z h0 a k (.object "com/example/redoubt/redoubt/storage/PageCache$Frame") (16 : Int32) vs .null) (G_0 : own_Good Z h0 vs) (E_f : Exa Z h0 f "com/example/redoubt/redoubt/storage/PageCache$Frame") (F_page_f : Fld Z h0 f "com/example/redoubt/redoubt/storage/PageCache$Frame" "page" "I" (.int pg)) (hlen : vs.length = 16) (g_tb : n0 ≤ tb) :
    MetFree l (⟨"com/example/redoubt/redoubt/storage/FrameTable", "add", "(Lcom/example/redoubt/redoubt/storage/PageCache$Frame;)V"⟩ : MethodName) (head1 (Jvm.Cond.code (⟨"com/example/redoubt/redoubt/storage/FrameTable", "add", "(Lcom/example/redoubt/redoubt/storage/PageCache$Frame;)V"⟩ : MethodName) prog_47_method_3_code 2 none :: ws) ({ frames := 3, cells := 1, slots := 32, locals := 45 } : Room)) (fun aA uU => aA = #[(.ref tb), (.ref f)] ∧ Z.Warmed39 uU.vm ∧ uU.heap = h0) (fun _ _ _ _ _ => True) (fun _ uU oO uU' => ∃ vV lL, oO = .returned vV ∧ QAddG Z tb f pg a k vs h0 n0 vV uU'.heap lL ∧ FrameEnd uU oO uU' lL ({ frames := 3, cells := 1, slots := 32, locals := 45 } : Room).cells ({ frames := 3, cells := 1, slots := 32, locals := 45 } : Room).slots) := by
  refine MetFree.of_bodySF (plainFor_of_name pn_1) hisR ?_
  intro p e s m args below meth c s₁ Bd hml0 hP hK
  obtain ⟨rfl, hZ, hh⟩ := hP
  have hx := Bd.exec
  have hby := Bd.bytes
  have hml : c.maxLocals = 2 := hml0
  have hown : s.vm.findClass "com/example/redoubt/redoubt/storage/FrameTable" = some m.cls := findClass_of_methodNamed Bd.named
  have hnm := (name_of_methodNamed Bd.named Bd.method).1
  have X0 : Stand p l e ({ frames := 3, cells := 1, slots := 32, locals := 45 } : Room) s m #[(.ref tb), (.ref f)] below meth c s₁ [] 0 0 := Stand.of_body Bd
  have e0 : s₁.heap = h0 := by rw [← hh, Bd.state]; rfl
  have N0 := Fr.nil n0
  have pre0 : ∀ t, Steps p.tables e below (s₁.setTop (mkF m 0 #[.val (.ref tb), .val (.ref f)] [])) t → Steps p.tables e below (s₁.setTop (entryFrame m #[(.ref tb), (.ref f)] 2)) t := fun t kk => castTop (ef_rmAddG m tb f) kk
  obtain ⟨T253, X253, e253, st253⟩ := getF X0 hx hZ hown (host := "") (Or.inl (hw _ (List.mem_of_getElem? (i := 38) rfl))) Via.refl e0 F_size_tb (g := (mkF m 2 #[.val (.ref tb), .val (.ref f)] [(.ref tb), (.int (2 : Int32))])) rfl rfl (hb hby d5_2)
  obtain ⟨T254, X254, e254, st254⟩ := getF X253 hx hZ hown (host := "") (Or.inl (hw _ (List.mem_of_getElem? (i := 29) rfl))) Via.refl e253 F_slots_tb (g := (mkF m 9 #[.val (.ref tb), .val (.ref f)] [(.ref tb), (.int ((2 : Int32) * ((8 : Int32) + (1 : Int32))))])) rfl rfl (hb hby d5_9)
  obtain ⟨cl255, Ar255, -, Sz255, Nn255, -, -⟩ := id V_a
  have hb256 : (16 : Int32) < ((2 : Int32) * ((8 : Int32) + (1 : Int32))) := by decide
  have hp258 : vs.length = 16 := hlen
  obtain ⟨cq257, q257, q257'⟩ := E_tb.cell
  obtain ⟨_, _, ⟨T257, L257, k257, n257⟩, -, X257, ⟨Lc257, hQ257, l257, y257, z257⟩, st257⟩ := own_privBack X254 hx (y := (⟨"com/example/redoubt/redoubt/storage/FrameTable", "grow", "()V"⟩ : MethodName)) hown (mvT hZ (hw _ (List.mem_of_getElem? (i := 65) rfl))) (mvT hZ (hw _ (List.mem_of_getElem? (i := 66) rfl))) (mvT hZ (hw _ (List.mem_of_getElem? (i := 22) rfl))) (Cond.privateMethod_at (mvP hZ (hw _ (List.mem_of_getElem? (i := 67) rfl)) (args := #[]))) (mvT hZ (hw _ (List.mem_of_getElem? (i := 68) rfl))) (by decide) (backOf (W := 0) (rmGrow l Z a0 hw [] tb a k vs (8 : Int32) h0 n0 Z0 E_tb F_slots_tb F_shift_tb F_size_tb V_a G_0 hp258 g_tb) hZ (hw _ (List.mem_of_getElem? (i := 68) rfl)) (hw _ (List.mem_of_getElem? (i := 23) rfl)) (by decide) (by decide)) (g := (mkF m 17 #[.val (.ref tb), .val (.ref f)] [(.ref tb)])) rfl (by rw [hml]; rfl) (a := tb) (by rw [e254]; exact q257) q257' (argsL := []) (rest := []) (lenOf pd_2 rfl) rfl (by show 2 * 0 + _ ≤ _; exact Nat.le_of_eq rfl) (hb hby d5_17) (fun _ _ => ⟨rfl, e254, (by decide : 0 + 1 ≤ _), (by decide : 0 + 32 ≤ _)⟩)
  dsimp only [Pt.U, Pt.locs, Pt.cells, Pt.slots] at X257 l257 y257 z257 st257 hQ257
  rw [l257, y257, z257] at X257
  replace X257 := own_std X257 (cc := 1) (ss := 32) rfl rfl
  obtain ⟨a2_257, k2_257, vs2_257, rfl, N257q, K257q, sz257_a2, P257_0, P257_1, P257_2, P257_3, P257_4, P257_5, pu257_0, pu257_1, pu257_2⟩ := hQ257
  have N257 := Fr.app N0 N257q
  have ne259 : tb ≠ a2_257 := Nat.ne_of_lt (Nat.lt_of_lt_of_le E_tb.lt sz257_a2)
  have ne260 : a ≠ a2_257 := Nat.ne_of_lt (Nat.lt_of_lt_of_le V_a.lt sz257_a2)
  have ne261 : f ≠ a2_257 := Nat.ne_of_lt (Nat.lt_of_lt_of_le E_f.lt sz257_a2)
  have g_a2_257 : n0 ≤ a2_257 := Nat.le_trans Z0 sz257_a2
  have sz_a2_257 : h0.size ≤ a2_257 := Nat.le_trans (Nat.le_refl _) sz257_a2
  have Ex262 : Exa Z T257.heap tb "com/example/redoubt/redoubt/storage/FrameTable" := (E_tb.keep K257q)
  have ne263 : tb ≠ a := own_ne_arr E_tb (hw _ (List.mem_of_getElem? (i := 22) rfl)) V_a
  have Av264 : Arv Z T257.heap a k (.object "com/example/redoubt/redoubt/storage/PageCache$Frame") (16 : Int32) vs .null := (V_a.keep K257q (ninS (Ne.symm ne263) nin0))
  have Xf265 : own_Good Z T257.heap vs := (own_good_keep G_0 K257q (fun f hf => (ninS (ne_exa hf E_tb (by decide)) nin0)))
  have Ex266 : Exa Z T257.heap f "com/example/redoubt/redoubt/storage/PageCache$Frame" := (E_f.keep K257q)
  have ne267 : f ≠ tb := ne_exa E_f E_tb (by decide)
  have F268 : Fld Z T257.heap f "com/example/redoubt/redoubt/storage/PageCache$Frame" "page" "I" (.int pg) := (F_page_f.keep K257q (ninS ne267 nin0))
  have K269 : Keep h0 T257.heap [tb] := (Keep.refl h0 _).trans K257q (allS (Or.inl (List.mem_of_getElem? (i := 0) rfl)) all0)
  obtain ⟨j0, hj, hj0⟩ := own_free vs2_257 (by rw [pu257_0]; omega)
  rw [pu257_0] at hj
  have hp271 : own_tb (32 : Int32) 32 (27 : Int32) := Or.inr ⟨rfl, rfl, rfl⟩
  have hp272 : vs2_257.length = 32 := pu257_0
  have hp273 : j0 < 32 := hj
  have hp274 : vs2_257.getD j0 .null = .null := hj0
  have hp275 : ∀ jj, (vs2_257.getD jj .null).isRef = true := own_good_ref P257_5
  have hp276 : Ovr Z k2_257 "com/example/redoubt/redoubt/storage/PageCache$Frame" := pu257_2
  obtain ⟨cq270, q270, q270'⟩ := P257_0.cell
  obtain ⟨_, _, ⟨T270, L270, k270, n270⟩, -, X270, ⟨Lc270, hQ270, l270, y270, z270⟩, st270⟩ := own_privBack X257 hx (y := (⟨"com/example/redoubt/redoubt/storage/FrameTable", "place", "(Lcom/example/redoubt/redoubt/storage/PageCache$Frame;)V"⟩ : MethodName)) hown (mvT hZ (hw _ (List.mem_of_getElem? (i := 40) rfl))) (mvT hZ (hw _ (List.mem_of_getElem? (i := 41) rfl))) (mvT hZ (hw _ (List.mem_of_getElem? (i := 22) rfl))) (Cond.privateMethod_at (mvP hZ (hw _ (List.mem_of_getElem? (i := 42) rfl)) (args := #[]))) (mvT hZ (hw _ (List.mem_of_getElem? (i := 43) rfl))) (by decide) (backOf (W := 0) (rmPlace l Z a0 hw [] tb f (27 : Int32) pg (32 : Int32) 32 a2_257 k2_257 vs2_257 j0 T257.heap n0 (Nat.le_trans Z0 K269.1) P257_0 P257_1 P257_2 P257_4 Ex266 F268 hp271 hp272 hp273 hp274 hp275 hp276 g_a2_257) hZ (hw _ (List.mem_of_getElem? (i := 43) rfl)) (hw _ (List.mem_of_getElem? (i := 23) rfl)) (by decide) (by decide)) (g := (mkF m 22 #[.val (.ref tb), .val (.ref f)] [(.ref f), (.ref tb)])) rfl (by rw [hml]; rfl) (a := tb) q270 q270' (argsL := [(.ref f)]) (rest := []) (lenOf pd_1 rfl) rfl (by show 2 * 0 + _ ≤ _; exact Nat.le_of_eq rfl) (hb hby d5_22) (fun _ _ => ⟨rfl, rfl, (by decide : 1 + 0 ≤ _), (by decide : 32 + 0 ≤ _)⟩)
  dsimp only [Pt.U, Pt.locs, Pt.cells, Pt.slots] at X270 l270 y270 z270 st270 hQ270
  rw [l270, y270, z270] at X270
  replace X270 := own_std X270 (cc := 1) (ss := 32) rfl rfl
  obtain ⟨ix_270, rfl, N270q, K270q, P270_0, pu270_0, pu270_1⟩ := hQ270
  have N270 := Fr.app N257 N270q
  have Ex277 : Exa Z T270.heap tb "com/example/redoubt/redoubt/storage/FrameTable" := (P257_0.keep K270q)
  have Av278 : Arv Z T270.heap a k (.object "com/example/redoubt/redoubt/storage/PageCache$Frame") (16 : Int32) vs .null := (Av264.keep K270q (ninS ne260 nin0))
  have Xf279 : own_Good Z T270.heap vs := (own_good_keep Xf265 K270q (fun f hf => (ninS (own_ne_arr hf (hw _ (List.mem_of_getElem? (i := 7) rfl)) P257_4) nin0)))
  have Ex280 : Exa Z T270.heap f "com/example/redoubt/redoubt/storage/PageCache$Frame" := (Ex266.keep K270q)
  have F281 : Fld Z T270.heap f "com/example/redoubt/redoubt/storage/PageCache$Frame" "page" "I" (.int pg) := (F268.keep K270q (ninS ne261 nin0))
  have F282 : Fld Z T270.heap tb "com/example/redoubt/redoubt/storage/FrameTable" "slots" "[Lcom/example/redoubt/redoubt/storage/PageCache$Frame;" (.ref a2_257) := (P257_1.keep K270q (ninS ne259 nin0))
  have F283 : Fld Z T270.heap tb "com/example/redoubt/redoubt/storage/FrameTable" "shift" "I" (.int (27 : Int32)) := (P257_2.keep K270q (ninS ne259 nin0))
  have F284 : Fld Z T270.heap tb "com/example/redoubt/redoubt/storage/FrameTable" "size" "I" (.int (8 : Int32)) := (P257_3.keep K270q (ninS ne259 nin0))
  have Xf285 : own_Good Z T270.heap vs2_257 := (own_good_keep P257_5 K270q (fun f hf => (ninS (own_ne_arr hf (hw _ (List.mem_of_getElem? (i := 7) rfl)) P257_4) nin0)))
  have K286 : Keep h0 T270.heap [tb] := K269.trans K270q (allS (Or.inr sz_a2_257) all0)
  obtain ⟨T287, X287, e287, st287⟩ := getF X270 hx hZ hown (host := "") (Or.inl (hw _ (List.mem_of_getElem? (i := 38) rfl))) Via.refl rfl F284 (g := (mkF m 27 #[.val (.ref tb), .val (.ref f)] [(.ref tb), (.ref tb)])) rfl rfl (hb hby d5_27)
  obtain ⟨T288, h288, X288, e288, W288, st288⟩ := putF X287 hx hZ hown (host := "") (Or.inl (hw _ (List.mem_of_getElem? (i := 38) rfl))) Via.refl e287 F284 Ex277 (Or.inl (hw _ (List.mem_of_getElem? (i := 39) rfl))) (hw _ (List.mem_of_getElem? (i := 22) rfl)) (ty := .int) (by decide) rfl rfl (g := (mkF m 32 #[.val (.ref tb), .val (.ref f)] [(.int ((8 : Int32) + (1 : Int32))), (.ref tb)])) rfl rfl (hb hby d5_32)
  have Ex289 : Exa Z h288 tb "com/example/redoubt/redoubt/storage/FrameTable" := (Ex277.wr W288)
  have Av290 : Arv Z h288 a k (.object "com/example/redoubt/redoubt/storage/PageCache$Frame") (16 : Int32) vs .null := (Av278.other W288 (Ne.symm ne263))
  have Xf291 : own_Good Z h288 vs := (own_good_wr Xf279 W288 (fun f hf => (ne_exa hf Ex277 (by decide))))
  have Ex292 : Exa Z h288 f "com/example/redoubt/redoubt/storage/PageCache$Frame" := (Ex280.wr W288)
  have F293 : Fld Z h288 f "com/example/redoubt/redoubt/storage/PageCache$Frame" "page" "I" (.int pg) := (F281.other W288 (Or.inl ne267))
  have F294 : Fld Z h288 tb "com/example/redoubt/redoubt/storage/FrameTable" "slots" "[Lcom/example/redoubt/redoubt/storage/PageCache$Frame;" (.ref a2_257) := (F282.other W288 (Or.inr (slot_ne (Or.inl (hw _ (List.mem_of_getElem? (i := 30) rfl))) (Or.inl (hw _ (List.mem_of_getElem? (i := 39) rfl))) (by decide) (t := (.array (.object "com/example/redoubt/redoubt/storage/PageCache$Frame"))) (t' := .int) (by decide) (by decide))))
  have F295 : Fld Z h288 tb "com/example/redoubt/redoubt/storage/FrameTable" "shift" "I" (.int (27 : Int32)) := (F283.other W288 (Or.inr (slot_ne (Or.inl (hw _ (List.mem_of_getElem? (i := 32) rfl))) (Or.inl (hw _ (List.mem_of_getElem? (i := 39) rfl))) (by decide) (t := .int) (t' := .int) (by decide) (by decide))))
  have Xf296 : own_Good Z h288 vs2_257 := (own_good_wr Xf285 W288 (fun f hf => (ne_exa hf Ex277 (by decide))))
  have Av297 : Arv Z h288 a2_257 k2_257 (.object "com/example/redoubt/redoubt/storage/PageCache$Frame") (32 : Int32) (vs2_257.set ix_270 (.ref f)) .null := (P270_0.other W288 (Ne.symm ne259))
  have K298 : Keep h0 h288 [tb] := K286.wr W288 (Or.inl (List.mem_of_getElem? (i := 0) rfl))
  have N299 := Fr.snoc X288 N270 g_tb
  have F300 : Fld Z h288 tb "com/example/redoubt/redoubt/storage/FrameTable" "size" "I" (.int ((8 : Int32) + (1 : Int32))) := F284.same W288
  have eq302 : ((8 : Int32) + (1 : Int32)) = (9 : Int32) := by decide
  have F301 : Fld Z h288 tb "com/example/redoubt/redoubt/storage/FrameTable" "size" "I" (.int (9 : Int32)) := by rw [← eq302]; exact F300
  have pre303 : ∀ t, Steps p.tables e below (T288.setTop (mkF m 35 #[.val (.ref tb), .val (.ref f)] [])) t → Steps p.tables e below (s₁.setTop (entryFrame m #[(.ref tb), (.ref f)] 2)) t := fun t kk => pre0 t (by
      show Steps p.tables e below (s₁.setTop (mkF m 0 #[.val (.ref tb), .val (.ref f)] [])) _
      refine XS.iconst X0.here hx rfl (hb hby d5_0) ?_
      show Steps p.tables e below (s₁.setTop (mkF m 1 #[.val (.ref tb), .val (.ref f)] [(.int (2 : Int32))])) _
      refine XS.aloadN X0.here hx rfl (hb hby d5_1) rfl rfl ?_
      show Steps p.tables e below (s₁.setTop (mkF m 2 #[.val (.ref tb), .val (.ref f)] [(.ref tb), (.int (2 : Int32))])) _
      refine st253 _ ?_
      show Steps p.tables e below (T253.setTop (mkF m 5 #[.val (.ref tb), .val (.ref f)] [(.int (8 : Int32)), (.int (2 : Int32))])) _
      refine XS.iconst X253.here hx rfl (hb hby d5_5) ?_
      show Steps p.tables e below (T253.setTop (mkF m 6 #[.val (.ref tb), .val (.ref f)] [(.int (1 : Int32)), (.int (8 : Int32)), (.int (2 : Int32))])) _
      refine XS.iadd X253.here hx rfl (hb hby d5_6) rfl ?_
      show Steps p.tables e below (T253.setTop (mkF m 7 #[.val (.ref tb), .val (.ref f)] [(.int ((8 : Int32) + (1 : Int32))), (.int (2 : Int32))])) _
      refine XS.imul X253.here hx rfl (hb hby d5_7) rfl ?_
      show Steps p.tables e below (T253.setTop (mkF m 8 #[.val (.ref tb), .val (.ref f)] [(.int ((2 : Int32) * ((8 : Int32) + (1 : Int32))))])) _
      refine XS.aloadN X253.here hx rfl (hb hby d5_8) rfl rfl ?_
      show Steps p.tables e below (T253.setTop (mkF m 9 #[.val (.ref tb), .val (.ref f)] [(.ref tb), (.int ((2 : Int32) * ((8 : Int32) + (1 : Int32))))])) _
      refine st254 _ ?_
      show Steps p.tables e below (T254.setTop (mkF m 12 #[.val (.ref tb), .val (.ref f)] [(.ref a), (.int ((2 : Int32) * ((8 : Int32) + (1 : Int32))))])) _
      refine X254.arraylength hx (by rw [e254]; exact Ar255.1) (State.isArrayOf_alike hZ.alike Ar255.2.1) (g := (mkF m 12 #[.val (.ref tb), .val (.ref f)] [(.ref a), (.int ((2 : Int32) * ((8 : Int32) + (1 : Int32))))])) rfl rfl (hb hby d5_12) _ ?_
      rw [len_of Sz255 Nn255]
      show Steps p.tables e below (T254.setTop (mkF m 13 #[.val (.ref tb), .val (.ref f)] [(.int (16 : Int32)), (.int ((2 : Int32) * ((8 : Int32) + (1 : Int32))))])) _
      refine XS.icmpNo X254.here hx rfl (hb hby d5_13) rfl (tlt hb256).2.2.2 ?_
      show Steps p.tables e below (T254.setTop (mkF m 16 #[.val (.ref tb), .val (.ref f)] [])) _
      refine XS.aloadN X254.here hx rfl (hb hby d5_16) rfl rfl ?_
      show Steps p.tables e below (T254.setTop (mkF m 17 #[.val (.ref tb), .val (.ref f)] [(.ref tb)])) _
      refine st257.trans ?_
      show Steps p.tables e below (T257.setTop (mkF m 20 #[.val (.ref tb), .val (.ref f)] [])) _
      refine XS.aloadN X257.here hx rfl (hb hby d5_20) rfl rfl ?_
      show Steps p.tables e below (T257.setTop (mkF m 21 #[.val (.ref tb), .val (.ref f)] [(.ref tb)])) _
      refine XS.aloadN X257.here hx rfl (hb hby d5_21) rfl rfl ?_
      show Steps p.tables e below (T257.setTop (mkF m 22 #[.val (.ref tb), .val (.ref f)] [(.ref f), (.ref tb)])) _
      refine st270.trans ?_
      show Steps p.tables e below (T270.setTop (mkF m 25 #[.val (.ref tb), .val (.ref f)] [])) _
      refine XS.aloadN X270.here hx rfl (hb hby d5_25) rfl rfl ?_
      show Steps p.tables e below (T270.setTop (mkF m 26 #[.val (.ref tb), .val (.ref f)] [(.ref tb)])) _
      refine XS.dup X270.here hx rfl (hb hby d5_26) rfl rfl ?_
      show Steps p.tables e below (T270.setTop (mkF m 27 #[.val (.ref tb), .val (.ref f)] [(.ref tb), (.ref tb)])) _
      refine st287 _ ?_
      show Steps p.tables e below (T287.setTop (mkF m 30 #[.val (.ref tb), .val (.ref f)] [(.int (8 : Int32)), (.ref tb)])) _
      refine XS.iconst X287.here hx rfl (hb hby d5_30) ?_
      show Steps p.tables e below (T287.setTop (mkF m 31 #[.val (.ref tb), .val (.ref f)] [(.int (1 : Int32)), (.int (8 : Int32)), (.ref tb)])) _
      refine XS.iadd X287.here hx rfl (hb hby d5_31) rfl ?_
      show Steps p.tables e below (T287.setTop (mkF m 32 #[.val (.ref tb), .val (.ref f)] [(.int ((8 : Int32) + (1 : Int32))), (.ref tb)])) _
      refine st288 _ ?_
      exact kk)
  obtain ⟨fs, hr, hrun, hended, hW, hsame⟩ := X288.leave (v := none) (fun _ => rfl)
  refine ⟨_, _, pre303 _ ?_, hrun, hended, _, _, rfl, ?_, ⟨_, rfl⟩, hW, hsame.mono (by decide) (by decide)⟩
  · show Steps p.tables e below (T288.setTop (mkF m 35 #[.val (.ref tb), .val (.ref f)] [])) _
    exact X288.returnOut hx Bd.returns (hb hby d5_35) hr
  · show QAddG Z tb f pg a k vs h0 n0 _ T288.heap _
    rw [e288]
    exact ⟨a2_257, rfl, N299, K298, Ex289, F294, F295, F301⟩
theorem ef_rmAddH (m : MethodId) (x0 : Addr) (x1 : Addr) : entryFrame m #[(.ref x0), (.ref x1)] 2 = mkF m 0 #[.val (.ref x0), .val (.ref x1)] [] := by first | (simp [entryFrame, mkF, argsToLocals, Value.category]; done) | rfl
def QAddH (Z : State) (tb : Addr) (f : Addr) (sh : Int32) (pg : Int32) (n : Int32) (N : Nat) (a : Addr) (k : ClassId) (vs : List Value) (c0 : Int32) (h0 : Heap) (n0 : Nat) (v : Option Value) (h : Heap) (L : List Loc) : Prop := v = none ∧ Fr n0 L ∧ Keep h0 h [tb, a] ∧ Exa Z h tb "com/example/redoubt/redoubt/storage/FrameTable" ∧ Fld Z h tb "com/example/redoubt/redoubt/storage/FrameTable" "slots" "[Lcom/example/redoubt/redoubt/storage/PageCache$Frame;" (.ref a) ∧ Fld Z h tb "com/example/redoubt/redoubt/storage/FrameTable" "shift" "I" (.int sh) ∧ Fld Z h tb "com/example/redoubt/redoubt/storage/FrameTable" "size" "I" (.int (c0 + (1 : Int32))) ∧ Arv Z h a k (.object "com/example/redoubt/redoubt/storage/PageCache$Frame") n (vs.set (own_home pg sh).toNatClampNeg (.ref f)) .null
set_option maxRecDepth 65536 in
set_option maxHeartbeats 40000000 in
theorem rmAddH (l : Launch) (Z : State) (a0 : Array Value) (hw : ∀ d ∈ tables_1, d.before a0 Z = true) (ws : List Jvm.Cond) (tb : Addr) (f : Addr) (sh : Int32) (pg : Int32) (n : Int32) (N : Nat) (a : Addr) (k : ClassId) (vs : List Value) (c0 : Int32) (h0 : Heap) (n0 : Nat) (Z0 : n0 ≤ h0.size) (E_tb : Exa Z h0 tb "com/example/redoubt/redoubt/storage/FrameTable") (F_slots_tb : Fld Z h0 tb "com/example/redoubt/redoubt/storage/FrameTable" "slots" "[Lcom/example/redoubt/redoubt/storage/PageCache$Frame;" (.ref a)) (F_shift_tb : Fld Z h0 tb "com/example/redoubt/redoubt/storage/FrameTable" "shift" "I" (.int sh)) (F_size_tb : Fld Z h0 tb "com/example/redoubt/redoubt/storage/FrameTable" "size" "I" (.int c0)) (V_a : Arv Z h0 a k (.object "com/example/redoubt/redoubt/storage/PageCache$Frame") n vs .null) (E_f : Exa Z h0 f "com/example/redoubt/redoubt/storage/PageCache$Frame") (F_page_f : Fld Z h0 f "com/example/redoubt/redoubt/storage/PageCache$Frame" "page" "I" (.int pg)) (hN : own_tb n N sh) (hlen : vs.length = N) (hnull : ∀ jj, vs.getD jj .null = .null) (ho : Ovr Z k "com/example/redoubt/redoubt/storage/PageCache$Frame") (hroom : ¬ (n < ((2 : Int32) * (c0 + (1 : Int32))))) (g_tb : n0 ≤ tb) (g_a : n0 ≤ a) :
    MetFree l (⟨"com/example/redoubt/redoubt/storage/FrameTable", "add", "(Lcom/example/redoubt/redoubt/storage/PageCache$Frame;)V"⟩ : MethodName) (head1 (Jvm.Cond.code (⟨"com/example/redoubt/redoubt/storage/FrameTable", "add", "(Lcom/example/redoubt/redoubt/storage/PageCache$Frame;)V"⟩ : MethodName) prog_47_method_3_code 2 none :: ws) ({ frames := 2, cells := 0, slots := 0, locals := 28 } : Room)) (fun aA uU => aA = #[(.ref tb), (.ref f)] ∧ Z.Warmed39 uU.vm ∧ uU.heap = h0) (fun _ _ _ _ _ => True) (fun _ uU oO uU' => ∃ vV lL, oO = .returned vV ∧ QAddH Z tb f sh pg n N a k vs c0 h0 n0 vV uU'.heap lL ∧ FrameEnd uU oO uU' lL ({ frames := 2, cells := 0, slots := 0, locals := 28 } : Room).cells ({ frames := 2, cells := 0, slots := 0, locals := 28 } : Room).slots) := by
  refine MetFree.of_bodySF (plainFor_of_name pn_1) hisR ?_
  intro p e s m args below meth c s₁ Bd hml0 hP hK
  obtain ⟨rfl, hZ, hh⟩ := hP
  have hx := Bd.exec
  have hby := Bd.bytes
  have hml : c.maxLocals = 2 := hml0
  have hown : s.vm.findClass "com/example/redoubt/redoubt/storage/FrameTable" = some m.cls := findClass_of_methodNamed Bd.named
  have hnm := (name_of_methodNamed Bd.named Bd.method).1
  have X0 : Stand p l e ({ frames := 2, cells := 0, slots := 0, locals := 28 } : Room) s m #[(.ref tb), (.ref f)] below meth c s₁ [] 0 0 := Stand.of_body Bd
  have e0 : s₁.heap = h0 := by rw [← hh, Bd.state]; rfl
  have N0 := Fr.nil n0
  have pre0 : ∀ t, Steps p.tables e below (s₁.setTop (mkF m 0 #[.val (.ref tb), .val (.ref f)] [])) t → Steps p.tables e below (s₁.setTop (entryFrame m #[(.ref tb), (.ref f)] 2)) t := fun t kk => castTop (ef_rmAddH m tb f) kk
  obtain ⟨T304, X304, e304, st304⟩ := getF X0 hx hZ hown (host := "") (Or.inl (hw _ (List.mem_of_getElem? (i := 38) rfl))) Via.refl e0 F_size_tb (g := (mkF m 2 #[.val (.ref tb), .val (.ref f)] [(.ref tb), (.int (2 : Int32))])) rfl rfl (hb hby d5_2)
  obtain ⟨T305, X305, e305, st305⟩ := getF X304 hx hZ hown (host := "") (Or.inl (hw _ (List.mem_of_getElem? (i := 29) rfl))) Via.refl e304 F_slots_tb (g := (mkF m 9 #[.val (.ref tb), .val (.ref f)] [(.ref tb), (.int ((2 : Int32) * (c0 + (1 : Int32))))])) rfl rfl (hb hby d5_9)
  obtain ⟨cl306, Ar306, -, Sz306, Nn306, -, -⟩ := id V_a
  have hp308 : own_tb n N sh := hN
  have hp309 : vs.length = N := hlen
  have hp310 : ∀ jj, vs.getD jj .null = .null := hnull
  have hp311 : Ovr Z k "com/example/redoubt/redoubt/storage/PageCache$Frame" := ho
  obtain ⟨cq307, q307, q307'⟩ := E_tb.cell
  obtain ⟨_, _, ⟨T307, L307, k307, n307⟩, -, X307, ⟨Lc307, hQ307, l307, y307, z307⟩, st307⟩ := own_privBack X305 hx (y := (⟨"com/example/redoubt/redoubt/storage/FrameTable", "place", "(Lcom/example/redoubt/redoubt/storage/PageCache$Frame;)V"⟩ : MethodName)) hown (mvT hZ (hw _ (List.mem_of_getElem? (i := 40) rfl))) (mvT hZ (hw _ (List.mem_of_getElem? (i := 41) rfl))) (mvT hZ (hw _ (List.mem_of_getElem? (i := 22) rfl))) (Cond.privateMethod_at (mvP hZ (hw _ (List.mem_of_getElem? (i := 42) rfl)) (args := #[]))) (mvT hZ (hw _ (List.mem_of_getElem? (i := 43) rfl))) (by decide) (backOf (W := 0) (rmPlaceH l Z a0 hw [] tb f sh pg n N a k vs h0 n0 Z0 E_tb F_slots_tb F_shift_tb V_a E_f F_page_f hp308 hp309 hp310 hp311 g_a) hZ (hw _ (List.mem_of_getElem? (i := 43) rfl)) (hw _ (List.mem_of_getElem? (i := 23) rfl)) (by decide) (by decide)) (g := (mkF m 22 #[.val (.ref tb), .val (.ref f)] [(.ref f), (.ref tb)])) rfl (by rw [hml]; rfl) (a := tb) (by rw [e305]; exact q307) q307' (argsL := [(.ref f)]) (rest := []) (lenOf pd_1 rfl) rfl (by show 2 * 0 + _ ≤ _; exact Nat.le_of_eq rfl) (hb hby d5_22) (fun _ _ => ⟨rfl, e305, (by decide : 0 + 0 ≤ _), (by decide : 0 + 0 ≤ _)⟩)
  dsimp only [Pt.U, Pt.locs, Pt.cells, Pt.slots] at X307 l307 y307 z307 st307 hQ307
  rw [l307, y307, z307] at X307
  replace X307 := own_std X307 (cc := 0) (ss := 0) rfl rfl
  obtain ⟨rfl, N307q, K307q, P307_0⟩ := hQ307
  have N307 := Fr.app N0 N307q
  have Ex312 : Exa Z T307.heap tb "com/example/redoubt/redoubt/storage/FrameTable" := (E_tb.keep K307q)
  have ne313 : tb ≠ a := own_ne_arr E_tb (hw _ (List.mem_of_getElem? (i := 22) rfl)) V_a
  have F314 : Fld Z T307.heap tb "com/example/redoubt/redoubt/storage/FrameTable" "slots" "[Lcom/example/redoubt/redoubt/storage/PageCache$Frame;" (.ref a) := (F_slots_tb.keep K307q (ninS ne313 nin0))
  have F315 : Fld Z T307.heap tb "com/example/redoubt/redoubt/storage/FrameTable" "shift" "I" (.int sh) := (F_shift_tb.keep K307q (ninS ne313 nin0))
  have F316 : Fld Z T307.heap tb "com/example/redoubt/redoubt/storage/FrameTable" "size" "I" (.int c0) := (F_size_tb.keep K307q (ninS ne313 nin0))
  have Ex317 : Exa Z T307.heap f "com/example/redoubt/redoubt/storage/PageCache$Frame" := (E_f.keep K307q)
  have ne318 : f ≠ a := own_ne_arr E_f (hw _ (List.mem_of_getElem? (i := 7) rfl)) V_a
  have F319 : Fld Z T307.heap f "com/example/redoubt/redoubt/storage/PageCache$Frame" "page" "I" (.int pg) := (F_page_f.keep K307q (ninS ne318 nin0))
  have K320 : Keep h0 T307.heap [tb, a] := (Keep.refl h0 _).trans K307q (allS (Or.inl (List.mem_of_getElem? (i := 1) rfl)) all0)
  obtain ⟨T321, X321, e321, st321⟩ := getF X307 hx hZ hown (host := "") (Or.inl (hw _ (List.mem_of_getElem? (i := 38) rfl))) Via.refl rfl F316 (g := (mkF m 27 #[.val (.ref tb), .val (.ref f)] [(.ref tb), (.ref tb)])) rfl rfl (hb hby d5_27)
  obtain ⟨T322, h322, X322, e322, W322, st322⟩ := putF X321 hx hZ hown (host := "") (Or.inl (hw _ (List.mem_of_getElem? (i := 38) rfl))) Via.refl e321 F316 Ex312 (Or.inl (hw _ (List.mem_of_getElem? (i := 39) rfl))) (hw _ (List.mem_of_getElem? (i := 22) rfl)) (ty := .int) (by decide) rfl rfl (g := (mkF m 32 #[.val (.ref tb), .val (.ref f)] [(.int (c0 + (1 : Int32))), (.ref tb)])) rfl rfl (hb hby d5_32)
  have Ex323 : Exa Z h322 tb "com/example/redoubt/redoubt/storage/FrameTable" := (Ex312.wr W322)
  have F324 : Fld Z h322 tb "com/example/redoubt/redoubt/storage/FrameTable" "slots" "[Lcom/example/redoubt/redoubt/storage/PageCache$Frame;" (.ref a) := (F314.other W322 (Or.inr (slot_ne (Or.inl (hw _ (List.mem_of_getElem? (i := 30) rfl))) (Or.inl (hw _ (List.mem_of_getElem? (i := 39) rfl))) (by decide) (t := (.array (.object "com/example/redoubt/redoubt/storage/PageCache$Frame"))) (t' := .int) (by decide) (by decide))))
  have F325 : Fld Z h322 tb "com/example/redoubt/redoubt/storage/FrameTable" "shift" "I" (.int sh) := (F315.other W322 (Or.inr (slot_ne (Or.inl (hw _ (List.mem_of_getElem? (i := 32) rfl))) (Or.inl (hw _ (List.mem_of_getElem? (i := 39) rfl))) (by decide) (t := .int) (t' := .int) (by decide) (by decide))))
  have Ex326 : Exa Z h322 f "com/example/redoubt/redoubt/storage/PageCache$Frame" := (Ex317.wr W322)
  have ne327 : f ≠ tb := ne_exa Ex317 Ex312 (by decide)
  have F328 : Fld Z h322 f "com/example/redoubt/redoubt/storage/PageCache$Frame" "page" "I" (.int pg) := (F319.other W322 (Or.inl ne327))
  have Av329 : Arv Z h322 a k (.object "com/example/redoubt/redoubt/storage/PageCache$Frame") n (vs.set (own_home pg sh).toNatClampNeg (.ref f)) .null := (P307_0.other W322 (Ne.symm ne313))
  have K330 : Keep h0 h322 [tb, a] := K320.wr W322 (Or.inl (List.mem_of_getElem? (i := 0) rfl))
  have N331 := Fr.snoc X322 N307 g_tb
  have F332 : Fld Z h322 tb "com/example/redoubt/redoubt/storage/FrameTable" "size" "I" (.int (c0 + (1 : Int32))) := F316.same W322
  have pre333 : ∀ t, Steps p.tables e below (T322.setTop (mkF m 35 #[.val (.ref tb), .val (.ref f)] [])) t → Steps p.tables e below (s₁.setTop (entryFrame m #[(.ref tb), (.ref f)] 2)) t := fun t kk => pre0 t (by
      show Steps p.tables e below (s₁.setTop (mkF m 0 #[.val (.ref tb), .val (.ref f)] [])) _
      refine XS.iconst X0.here hx rfl (hb hby d5_0) ?_
      show Steps p.tables e below (s₁.setTop (mkF m 1 #[.val (.ref tb), .val (.ref f)] [(.int (2 : Int32))])) _
      refine XS.aloadN X0.here hx rfl (hb hby d5_1) rfl rfl ?_
      show Steps p.tables e below (s₁.setTop (mkF m 2 #[.val (.ref tb), .val (.ref f)] [(.ref tb), (.int (2 : Int32))])) _
      refine st304 _ ?_
      show Steps p.tables e below (T304.setTop (mkF m 5 #[.val (.ref tb), .val (.ref f)] [(.int c0), (.int (2 : Int32))])) _
      refine XS.iconst X304.here hx rfl (hb hby d5_5) ?_
      show Steps p.tables e below (T304.setTop (mkF m 6 #[.val (.ref tb), .val (.ref f)] [(.int (1 : Int32)), (.int c0), (.int (2 : Int32))])) _
      refine XS.iadd X304.here hx rfl (hb hby d5_6) rfl ?_
      show Steps p.tables e below (T304.setTop (mkF m 7 #[.val (.ref tb), .val (.ref f)] [(.int (c0 + (1 : Int32))), (.int (2 : Int32))])) _
      refine XS.imul X304.here hx rfl (hb hby d5_7) rfl ?_
      show Steps p.tables e below (T304.setTop (mkF m 8 #[.val (.ref tb), .val (.ref f)] [(.int ((2 : Int32) * (c0 + (1 : Int32))))])) _
      refine XS.aloadN X304.here hx rfl (hb hby d5_8) rfl rfl ?_
      show Steps p.tables e below (T304.setTop (mkF m 9 #[.val (.ref tb), .val (.ref f)] [(.ref tb), (.int ((2 : Int32) * (c0 + (1 : Int32))))])) _
      refine st305 _ ?_
      show Steps p.tables e below (T305.setTop (mkF m 12 #[.val (.ref tb), .val (.ref f)] [(.ref a), (.int ((2 : Int32) * (c0 + (1 : Int32))))])) _
      refine X305.arraylength hx (by rw [e305]; exact Ar306.1) (State.isArrayOf_alike hZ.alike Ar306.2.1) (g := (mkF m 12 #[.val (.ref tb), .val (.ref f)] [(.ref a), (.int ((2 : Int32) * (c0 + (1 : Int32))))])) rfl rfl (hb hby d5_12) _ ?_
      rw [len_of Sz306 Nn306]
      show Steps p.tables e below (T305.setTop (mkF m 13 #[.val (.ref tb), .val (.ref f)] [(.int n), (.int ((2 : Int32) * (c0 + (1 : Int32))))])) _
      refine XS.icmpYes X305.here hx rfl (pc0 := 13) (pc' := 20) rfl (hb hby d5_13) rfl (flt hroom).2.2.2 (by decide) (by decide) ?_
      show Steps p.tables e below (T305.setTop (mkF m 20 #[.val (.ref tb), .val (.ref f)] [])) _
      refine XS.aloadN X305.here hx rfl (hb hby d5_20) rfl rfl ?_
      show Steps p.tables e below (T305.setTop (mkF m 21 #[.val (.ref tb), .val (.ref f)] [(.ref tb)])) _
      refine XS.aloadN X305.here hx rfl (hb hby d5_21) rfl rfl ?_
      show Steps p.tables e below (T305.setTop (mkF m 22 #[.val (.ref tb), .val (.ref f)] [(.ref f), (.ref tb)])) _
      refine st307.trans ?_
      show Steps p.tables e below (T307.setTop (mkF m 25 #[.val (.ref tb), .val (.ref f)] [])) _
      refine XS.aloadN X307.here hx rfl (hb hby d5_25) rfl rfl ?_
      show Steps p.tables e below (T307.setTop (mkF m 26 #[.val (.ref tb), .val (.ref f)] [(.ref tb)])) _
      refine XS.dup X307.here hx rfl (hb hby d5_26) rfl rfl ?_
      show Steps p.tables e below (T307.setTop (mkF m 27 #[.val (.ref tb), .val (.ref f)] [(.ref tb), (.ref tb)])) _
      refine st321 _ ?_
      show Steps p.tables e below (T321.setTop (mkF m 30 #[.val (.ref tb), .val (.ref f)] [(.int c0), (.ref tb)])) _
      refine XS.iconst X321.here hx rfl (hb hby d5_30) ?_
      show Steps p.tables e below (T321.setTop (mkF m 31 #[.val (.ref tb), .val (.ref f)] [(.int (1 : Int32)), (.int c0), (.ref tb)])) _
      refine XS.iadd X321.here hx rfl (hb hby d5_31) rfl ?_
      show Steps p.tables e below (T321.setTop (mkF m 32 #[.val (.ref tb), .val (.ref f)] [(.int (c0 + (1 : Int32))), (.ref tb)])) _
      refine st322 _ ?_
      exact kk)
  obtain ⟨fs, hr, hrun, hended, hW, hsame⟩ := X322.leave (v := none) (fun _ => rfl)
  refine ⟨_, _, pre333 _ ?_, hrun, hended, _, _, rfl, ?_, ⟨_, rfl⟩, hW, hsame.mono (by decide) (by decide)⟩
  · show Steps p.tables e below (T322.setTop (mkF m 35 #[.val (.ref tb), .val (.ref f)] [])) _
    exact X322.returnOut hx Bd.returns (hb hby d5_35) hr
  · show QAddH Z tb f sh pg n N a k vs c0 h0 n0 _ T322.heap _
    rw [e322]
    exact ⟨rfl, N331, K330, Ex323, F324, F325, F332, Av329⟩
theorem d8_0 : decode prog_47_method_6_code 0 = .ok (.aload_n 0, 1) := by decide +kernel
theorem d8_1 : decode prog_47_method_6_code 1 = .ok (.bipush 16, 2) := by decide +kernel
theorem d8_3 : decode prog_47_method_6_code 3 = .ok (.anewarray 9, 3) := by decide +kernel
theorem d8_6 : decode prog_47_method_6_code 6 = .ok (.putfield 11, 3) := by decide +kernel
theorem d8_9 : decode prog_47_method_6_code 9 = .ok (.aload_n 0, 1) := by decide +kernel
theorem d8_10 : decode prog_47_method_6_code 10 = .ok (.bipush 28, 2) := by decide +kernel
theorem d8_12 : decode prog_47_method_6_code 12 = .ok (.putfield 17, 3) := by decide +kernel
theorem d8_15 : decode prog_47_method_6_code 15 = .ok (.aload_n 0, 1) := by decide +kernel
theorem d8_16 : decode prog_47_method_6_code 16 = .ok (.iconst 0, 1) := by decide +kernel
theorem d8_17 : decode prog_47_method_6_code 17 = .ok (.putfield 28, 3) := by decide +kernel
theorem d8_20 : decode prog_47_method_6_code 20 = .ok (.return_, 1) := by decide +kernel
theorem ef_rmClear (m : MethodId) (x0 : Addr) : entryFrame m #[(.ref x0)] 1 = mkF m 0 #[.val (.ref x0)] [] := by first | (simp [entryFrame, mkF, argsToLocals, Value.category]; done) | rfl
def QClear (Z : State) (tb : Addr) (a : Addr) (sh : Int32) (c0 : Int32) (h0 : Heap) (n0 : Nat) (v : Option Value) (h : Heap) (L : List Loc) : Prop := ∃ (a2 : Addr) (k2 : ClassId), v = none ∧ Fr n0 L ∧ Keep h0 h [tb] ∧ h0.size ≤ a2 ∧ Exa Z h tb "com/example/redoubt/redoubt/storage/FrameTable" ∧ Fld Z h tb "com/example/redoubt/redoubt/storage/FrameTable" "slots" "[Lcom/example/redoubt/redoubt/storage/PageCache$Frame;" (.ref a2) ∧ Fld Z h tb "com/example/redoubt/redoubt/storage/FrameTable" "shift" "I" (.int (28 : Int32)) ∧ Fld Z h tb "com/example/redoubt/redoubt/storage/FrameTable" "size" "I" (.int (0 : Int32)) ∧ Arv Z h a2 k2 (.object "com/example/redoubt/redoubt/storage/PageCache$Frame") (16 : Int32) ([.null, .null, .null, .null, .null, .null, .null, .null, .null, .null, .null, .null, .null, .null, .null, .null] : List Value) .null ∧ Ovr Z k2 "com/example/redoubt/redoubt/storage/PageCache$Frame"
set_option maxRecDepth 65536 in
set_option maxHeartbeats 40000000 in
theorem rmClear (l : Launch) (Z : State) (a0 : Array Value) (hw : ∀ d ∈ tables_1, d.before a0 Z = true) (ws : List Jvm.Cond) (tb : Addr) (a : Addr) (sh : Int32) (c0 : Int32) (h0 : Heap) (n0 : Nat) (Z0 : n0 ≤ h0.size) (E_tb : Exa Z h0 tb "com/example/redoubt/redoubt/storage/FrameTable") (F_slots_tb : Fld Z h0 tb "com/example/redoubt/redoubt/storage/FrameTable" "slots" "[Lcom/example/redoubt/redoubt/storage/PageCache$Frame;" (.ref a)) (F_shift_tb : Fld Z h0 tb "com/example/redoubt/redoubt/storage/FrameTable" "shift" "I" (.int sh)) (F_size_tb : Fld Z h0 tb "com/example/redoubt/redoubt/storage/FrameTable" "size" "I" (.int c0)) (g_tb : n0 ≤ tb) :
    MetFree l (⟨"com/example/redoubt/redoubt/storage/FrameTable", "clear", "()V"⟩ : MethodName) (head1 (Jvm.Cond.code (⟨"com/example/redoubt/redoubt/storage/FrameTable", "clear", "()V"⟩ : MethodName) prog_47_method_6_code 1 none :: ws) ({ frames := 0, cells := 1, slots := 16, locals := 0 } : Room)) (fun aA uU => aA = #[(.ref tb)] ∧ Z.Warmed39 uU.vm ∧ uU.heap = h0) (fun _ _ _ _ _ => True) (fun _ uU oO uU' => ∃ vV lL, oO = .returned vV ∧ QClear Z tb a sh c0 h0 n0 vV uU'.heap lL ∧ FrameEnd uU oO uU' lL ({ frames := 0, cells := 1, slots := 16, locals := 0 } : Room).cells ({ frames := 0, cells := 1, slots := 16, locals := 0 } : Room).slots) := by
  refine MetFree.of_bodySF (plainFor_of_name pn_1) hisR ?_
  intro p e s m args below meth c s₁ Bd hml0 hP hK
  obtain ⟨rfl, hZ, hh⟩ := hP
  have hx := Bd.exec
  have hby := Bd.bytes
  have hml : c.maxLocals = 1 := hml0
  have hown : s.vm.findClass "com/example/redoubt/redoubt/storage/FrameTable" = some m.cls := findClass_of_methodNamed Bd.named
  have hnm := (name_of_methodNamed Bd.named Bd.method).1
  have X0 : Stand p l e ({ frames := 0, cells := 1, slots := 16, locals := 0 } : Room) s m #[(.ref tb)] below meth c s₁ [] 0 0 := Stand.of_body Bd
  have e0 : s₁.heap = h0 := by rw [← hh, Bd.state]; rfl
  have N0 := Fr.nil n0
  have pre0 : ∀ t, Steps p.tables e below (s₁.setTop (mkF m 0 #[.val (.ref tb)] [])) t → Steps p.tables e below (s₁.setTop (entryFrame m #[(.ref tb)] 1)) t := fun t kk => castTop (ef_rmClear m tb) kk
  obtain ⟨T334, h334, k334, X334, e334, E334, A334, O334, st334⟩ := newR X0 hx hZ hown (hw _ (List.mem_of_getElem? (i := 28) rfl)) (hw _ (List.mem_of_getElem? (i := 2) rfl)) e0 (g := (mkF m 3 #[.val (.ref tb)] [(.int (16 : Int32)), (.ref tb)])) rfl (hb hby d8_3) rfl (by decide) (cap := 16) (by decide) (by decide) (by decide) (by decide)
  obtain ⟨b334, gq334⟩ : ∃ z, z = h0.size := ⟨_, rfl⟩
  rw [← gq334] at A334 st334
  have ne335 : tb ≠ b334 := Nat.ne_of_lt (Nat.lt_of_lt_of_le E_tb.lt (Nat.le_of_eq gq334.symm))
  have g_b334 : n0 ≤ b334 := Nat.le_trans Z0 (Nat.le_of_eq gq334.symm)
  have sz_b334 : h0.size ≤ b334 := Nat.le_trans (Nat.le_refl _) (Nat.le_of_eq gq334.symm)
  have Ex336 : Exa Z h334 tb "com/example/redoubt/redoubt/storage/FrameTable" := (E_tb.ext E334)
  have F337 : Fld Z h334 tb "com/example/redoubt/redoubt/storage/FrameTable" "slots" "[Lcom/example/redoubt/redoubt/storage/PageCache$Frame;" (.ref a) := (F_slots_tb.ext E334)
  have F338 : Fld Z h334 tb "com/example/redoubt/redoubt/storage/FrameTable" "shift" "I" (.int sh) := (F_shift_tb.ext E334)
  have F339 : Fld Z h334 tb "com/example/redoubt/redoubt/storage/FrameTable" "size" "I" (.int c0) := (F_size_tb.ext E334)
  have K340 : Keep h0 h334 [tb] := (Keep.refl h0 _).ext E334
  have Av334 : Arv Z h334 b334 k334 (.object "com/example/redoubt/redoubt/storage/PageCache$Frame") (16 : Int32) ([.null, .null, .null, .null, .null, .null, .null, .null, .null, .null, .null, .null, .null, .null, .null, .null] : List Value) .null := (Arv.new A334 (by decide)).pad (pad_rep [] .null 16)
  obtain ⟨T341, h341, X341, e341, W341, st341⟩ := putF X334 hx hZ hown (host := "") (Or.inl (hw _ (List.mem_of_getElem? (i := 29) rfl))) Via.refl e334 F337 Ex336 (Or.inl (hw _ (List.mem_of_getElem? (i := 30) rfl))) (hw _ (List.mem_of_getElem? (i := 22) rfl)) (ty := (.array (.object "com/example/redoubt/redoubt/storage/PageCache$Frame"))) (by decide) rfl rfl (g := (mkF m 6 #[.val (.ref tb)] [(.ref b334), (.ref tb)])) rfl rfl (hb hby d8_6)
  have Ex342 : Exa Z h341 tb "com/example/redoubt/redoubt/storage/FrameTable" := (Ex336.wr W341)
  have F343 : Fld Z h341 tb "com/example/redoubt/redoubt/storage/FrameTable" "shift" "I" (.int sh) := (F338.other W341 (Or.inr (slot_ne (Or.inl (hw _ (List.mem_of_getElem? (i := 32) rfl))) (Or.inl (hw _ (List.mem_of_getElem? (i := 30) rfl))) (by decide) (t := .int) (t' := (.array (.object "com/example/redoubt/redoubt/storage/PageCache$Frame"))) (by decide) (by decide))))
  have F344 : Fld Z h341 tb "com/example/redoubt/redoubt/storage/FrameTable" "size" "I" (.int c0) := (F339.other W341 (Or.inr (slot_ne (Or.inl (hw _ (List.mem_of_getElem? (i := 39) rfl))) (Or.inl (hw _ (List.mem_of_getElem? (i := 30) rfl))) (by decide) (t := .int) (t' := (.array (.object "com/example/redoubt/redoubt/storage/PageCache$Frame"))) (by decide) (by decide))))
  have Av345 : Arv Z h341 b334 k334 (.object "com/example/redoubt/redoubt/storage/PageCache$Frame") (16 : Int32) ([.null, .null, .null, .null, .null, .null, .null, .null, .null, .null, .null, .null, .null, .null, .null, .null] : List Value) .null := (Av334.other W341 (Ne.symm ne335))
  have K346 : Keep h0 h341 [tb] := K340.wr W341 (Or.inl (List.mem_of_getElem? (i := 0) rfl))
  have N347 := Fr.snoc X341 N0 g_tb
  have F348 : Fld Z h341 tb "com/example/redoubt/redoubt/storage/FrameTable" "slots" "[Lcom/example/redoubt/redoubt/storage/PageCache$Frame;" (.ref b334) := F337.same W341
  obtain ⟨T349, h349, X349, e349, W349, st349⟩ := putF X341 hx hZ hown (host := "") (Or.inl (hw _ (List.mem_of_getElem? (i := 31) rfl))) Via.refl e341 F343 Ex342 (Or.inl (hw _ (List.mem_of_getElem? (i := 32) rfl))) (hw _ (List.mem_of_getElem? (i := 22) rfl)) (ty := .int) (by decide) rfl rfl (g := (mkF m 12 #[.val (.ref tb)] [(.int (28 : Int32)), (.ref tb)])) rfl rfl (hb hby d8_12)
  have Ex350 : Exa Z h349 tb "com/example/redoubt/redoubt/storage/FrameTable" := (Ex342.wr W349)
  have F351 : Fld Z h349 tb "com/example/redoubt/redoubt/storage/FrameTable" "size" "I" (.int c0) := (F344.other W349 (Or.inr (slot_ne (Or.inl (hw _ (List.mem_of_getElem? (i := 39) rfl))) (Or.inl (hw _ (List.mem_of_getElem? (i := 32) rfl))) (by decide) (t := .int) (t' := .int) (by decide) (by decide))))
  have Av352 : Arv Z h349 b334 k334 (.object "com/example/redoubt/redoubt/storage/PageCache$Frame") (16 : Int32) ([.null, .null, .null, .null, .null, .null, .null, .null, .null, .null, .null, .null, .null, .null, .null, .null] : List Value) .null := (Av345.other W349 (Ne.symm ne335))
  have F353 : Fld Z h349 tb "com/example/redoubt/redoubt/storage/FrameTable" "slots" "[Lcom/example/redoubt/redoubt/storage/PageCache$Frame;" (.ref b334) := (F348.other W349 (Or.inr (slot_ne (Or.inl (hw _ (List.mem_of_getElem? (i := 30) rfl))) (Or.inl (hw _ (List.mem_of_getElem? (i := 32) rfl))) (by decide) (t := (.array (.object "com/example/redoubt/redoubt/storage/PageCache$Frame"))) (t' := .int) (by decide) (by decide))))
  have K354 : Keep h0 h349 [tb] := K346.wr W349 (Or.inl (List.mem_of_getElem? (i := 0) rfl))
  have N355 := Fr.snoc X349 N347 g_tb
  have F356 : Fld Z h349 tb "com/example/redoubt/redoubt/storage/FrameTable" "shift" "I" (.int (28 : Int32)) := F343.same W349
  obtain ⟨T357, h357, X357, e357, W357, st357⟩ := putF X349 hx hZ hown (host := "") (Or.inl (hw _ (List.mem_of_getElem? (i := 38) rfl))) Via.refl e349 F351 Ex350 (Or.inl (hw _ (List.mem_of_getElem? (i := 39) rfl))) (hw _ (List.mem_of_getElem? (i := 22) rfl)) (ty := .int) (by decide) rfl rfl (g := (mkF m 17 #[.val (.ref tb)] [(.int (0 : Int32)), (.ref tb)])) rfl rfl (hb hby d8_17)
  have Ex358 : Exa Z h357 tb "com/example/redoubt/redoubt/storage/FrameTable" := (Ex350.wr W357)
  have Av359 : Arv Z h357 b334 k334 (.object "com/example/redoubt/redoubt/storage/PageCache$Frame") (16 : Int32) ([.null, .null, .null, .null, .null, .null, .null, .null, .null, .null, .null, .null, .null, .null, .null, .null] : List Value) .null := (Av352.other W357 (Ne.symm ne335))
  have F360 : Fld Z h357 tb "com/example/redoubt/redoubt/storage/FrameTable" "slots" "[Lcom/example/redoubt/redoubt/storage/PageCache$Frame;" (.ref b334) := (F353.other W357 (Or.inr (slot_ne (Or.inl (hw _ (List.mem_of_getElem? (i := 30) rfl))) (Or.inl (hw _ (List.mem_of_getElem? (i := 39) rfl))) (by decide) (t := (.array (.object "com/example/redoubt/redoubt/storage/PageCache$Frame"))) (t' := .int) (by decide) (by decide))))
  have F361 : Fld Z h357 tb "com/example/redoubt/redoubt/storage/FrameTable" "shift" "I" (.int (28 : Int32)) := (F356.other W357 (Or.inr (slot_ne (Or.inl (hw _ (List.mem_of_getElem? (i := 32) rfl))) (Or.inl (hw _ (List.mem_of_getElem? (i := 39) rfl))) (by decide) (t := .int) (t' := .int) (by decide) (by decide))))
  have K362 : Keep h0 h357 [tb] := K354.wr W357 (Or.inl (List.mem_of_getElem? (i := 0) rfl))
  have N363 := Fr.snoc X357 N355 g_tb
  have F364 : Fld Z h357 tb "com/example/redoubt/redoubt/storage/FrameTable" "size" "I" (.int (0 : Int32)) := F351.same W357
  have pre365 : ∀ t, Steps p.tables e below (T357.setTop (mkF m 20 #[.val (.ref tb)] [])) t → Steps p.tables e below (s₁.setTop (entryFrame m #[(.ref tb)] 1)) t := fun t kk => pre0 t (by
      show Steps p.tables e below (s₁.setTop (mkF m 0 #[.val (.ref tb)] [])) _
      refine XS.aloadN X0.here hx rfl (hb hby d8_0) rfl rfl ?_
      show Steps p.tables e below (s₁.setTop (mkF m 1 #[.val (.ref tb)] [(.ref tb)])) _
      refine XS.bipush X0.here hx rfl (hb hby d8_1) ?_
      show Steps p.tables e below (s₁.setTop (mkF m 3 #[.val (.ref tb)] [(.int (16 : Int32)), (.ref tb)])) _
      refine st334 _ ?_
      show Steps p.tables e below (T334.setTop (mkF m 6 #[.val (.ref tb)] [(.ref b334), (.ref tb)])) _
      refine st341 _ ?_
      show Steps p.tables e below (T341.setTop (mkF m 9 #[.val (.ref tb)] [])) _
      refine XS.aloadN X341.here hx rfl (hb hby d8_9) rfl rfl ?_
      show Steps p.tables e below (T341.setTop (mkF m 10 #[.val (.ref tb)] [(.ref tb)])) _
      refine XS.bipush X341.here hx rfl (hb hby d8_10) ?_
      show Steps p.tables e below (T341.setTop (mkF m 12 #[.val (.ref tb)] [(.int (28 : Int32)), (.ref tb)])) _
      refine st349 _ ?_
      show Steps p.tables e below (T349.setTop (mkF m 15 #[.val (.ref tb)] [])) _
      refine XS.aloadN X349.here hx rfl (hb hby d8_15) rfl rfl ?_
      show Steps p.tables e below (T349.setTop (mkF m 16 #[.val (.ref tb)] [(.ref tb)])) _
      refine XS.iconst X349.here hx rfl (hb hby d8_16) ?_
      show Steps p.tables e below (T349.setTop (mkF m 17 #[.val (.ref tb)] [(.int (0 : Int32)), (.ref tb)])) _
      refine st357 _ ?_
      exact kk)
  obtain ⟨fs, hr, hrun, hended, hW, hsame⟩ := X357.leave (v := none) (fun _ => rfl)
  refine ⟨_, _, pre365 _ ?_, hrun, hended, _, _, rfl, ?_, ⟨_, rfl⟩, hW, hsame.mono (by decide) (by decide)⟩
  · show Steps p.tables e below (T357.setTop (mkF m 20 #[.val (.ref tb)] [])) _
    exact X357.returnOut hx Bd.returns (hb hby d8_20) hr
  · show QClear Z tb a sh c0 h0 n0 _ T357.heap _
    rw [e357]
    exact ⟨b334, k334, rfl, N363, K362, sz_b334, Ex358, F360, F361, F364, Av359, O334⟩
theorem d10_0 : decode prog_47_method_2_code 0 = .ok (.aload_n 0, 1) := by decide +kernel
theorem d10_1 : decode prog_47_method_2_code 1 = .ok (.getfield 11, 3) := by decide +kernel
theorem d10_4 : decode prog_47_method_2_code 4 = .ok (.arraylength, 1) := by decide +kernel
theorem d10_5 : decode prog_47_method_2_code 5 = .ok (.iconst 1, 1) := by decide +kernel
theorem d10_6 : decode prog_47_method_2_code 6 = .ok (.isub, 1) := by decide +kernel
theorem d10_7 : decode prog_47_method_2_code 7 = .ok (.istore_n 2, 1) := by decide +kernel
theorem d10_8 : decode prog_47_method_2_code 8 = .ok (.aload_n 0, 1) := by decide +kernel
theorem d10_9 : decode prog_47_method_2_code 9 = .ok (.iload_n 1, 1) := by decide +kernel
theorem d10_10 : decode prog_47_method_2_code 10 = .ok (.invokevirtual 21, 3) := by decide +kernel
theorem d10_13 : decode prog_47_method_2_code 13 = .ok (.istore_n 3, 1) := by decide +kernel
theorem d10_14 : decode prog_47_method_2_code 14 = .ok (.aload_n 0, 1) := by decide +kernel
theorem d10_15 : decode prog_47_method_2_code 15 = .ok (.getfield 11, 3) := by decide +kernel
theorem d10_18 : decode prog_47_method_2_code 18 = .ok (.iload_n 3, 1) := by decide +kernel
theorem d10_19 : decode prog_47_method_2_code 19 = .ok (.aaload, 1) := by decide +kernel
theorem d10_20 : decode prog_47_method_2_code 20 = .ok (.astore 4, 2) := by decide +kernel
theorem d10_22 : decode prog_47_method_2_code 22 = .ok (.aload 4, 2) := by decide +kernel
theorem d10_24 : decode prog_47_method_2_code 24 = .ok (.ifnull 12, 3) := by decide +kernel
theorem d10_36 : decode prog_47_method_2_code 36 = .ok (.aload 4, 2) := by decide +kernel
theorem d10_38 : decode prog_47_method_2_code 38 = .ok (.areturn, 1) := by decide +kernel
theorem ef_rmGetN (m : MethodId) (x0 : Addr) (x1 : Int32) : entryFrame m #[(.ref x0), (.int x1)] 5 = mkF m 0 #[.val (.ref x0), .val (.int x1), .unset, .unset, .unset] [] := by first | (simp [entryFrame, mkF, argsToLocals, Value.category]; done) | rfl
def QGetN (Z : State) (tb : Addr) (pg : Int32) (sh : Int32) (n : Int32) (N : Nat) (a : Addr) (k : ClassId) (vs : List Value) (h0 : Heap) (n0 : Nat) (v : Option Value) (h : Heap) (L : List Loc) : Prop := v = some .null ∧ Fr n0 L ∧ h = h0
set_option maxRecDepth 65536 in
set_option maxHeartbeats 40000000 in
theorem rmGetN (l : Launch) (Z : State) (a0 : Array Value) (hw : ∀ d ∈ tables_1, d.before a0 Z = true) (ws : List Jvm.Cond) (tb : Addr) (pg : Int32) (sh : Int32) (n : Int32) (N : Nat) (a : Addr) (k : ClassId) (vs : List Value) (h0 : Heap) (n0 : Nat) (Z0 : n0 ≤ h0.size) (E_tb : Exa Z h0 tb "com/example/redoubt/redoubt/storage/FrameTable") (F_slots_tb : Fld Z h0 tb "com/example/redoubt/redoubt/storage/FrameTable" "slots" "[Lcom/example/redoubt/redoubt/storage/PageCache$Frame;" (.ref a)) (F_shift_tb : Fld Z h0 tb "com/example/redoubt/redoubt/storage/FrameTable" "shift" "I" (.int sh)) (V_a : Arv Z h0 a k (.object "com/example/redoubt/redoubt/storage/PageCache$Frame") n vs .null) (hN : own_tb n N sh) (hnull : ∀ jj, vs.getD jj .null = .null) :
    MetFree l (⟨"com/example/redoubt/redoubt/storage/FrameTable", "get", "(I)Lcom/example/redoubt/redoubt/storage/PageCache$Frame;"⟩ : MethodName) (head1 (Jvm.Cond.code (⟨"com/example/redoubt/redoubt/storage/FrameTable", "get", "(I)Lcom/example/redoubt/redoubt/storage/PageCache$Frame;"⟩ : MethodName) prog_47_method_2_code 5 (some (.object "com/example/redoubt/redoubt/storage/PageCache$Frame")) :: ws) ({ frames := 1, cells := 0, slots := 0, locals := 13 } : Room)) (fun aA uU => aA = #[(.ref tb), (.int pg)] ∧ Z.Warmed39 uU.vm ∧ uU.heap = h0) (fun _ _ _ _ _ => True) (fun _ uU oO uU' => ∃ vV lL, oO = .returned vV ∧ QGetN Z tb pg sh n N a k vs h0 n0 vV uU'.heap lL ∧ FrameEnd uU oO uU' lL ({ frames := 1, cells := 0, slots := 0, locals := 13 } : Room).cells ({ frames := 1, cells := 0, slots := 0, locals := 13 } : Room).slots) := by
  refine MetFree.of_bodySF (plainFor_of_name pn_1) hisR ?_
  intro p e s m args below meth c s₁ Bd hml0 hP hK
  obtain ⟨rfl, hZ, hh⟩ := hP
  have hx := Bd.exec
  have hby := Bd.bytes
  have hml : c.maxLocals = 5 := hml0
  have hown : s.vm.findClass "com/example/redoubt/redoubt/storage/FrameTable" = some m.cls := findClass_of_methodNamed Bd.named
  have hnm := (name_of_methodNamed Bd.named Bd.method).1
  have X0 : Stand p l e ({ frames := 1, cells := 0, slots := 0, locals := 13 } : Room) s m #[(.ref tb), (.int pg)] below meth c s₁ [] 0 0 := Stand.of_body Bd
  have e0 : s₁.heap = h0 := by rw [← hh, Bd.state]; rfl
  have N0 := Fr.nil n0
  have pre0 : ∀ t, Steps p.tables e below (s₁.setTop (mkF m 0 #[.val (.ref tb), .val (.int pg), .unset, .unset, .unset] [])) t → Steps p.tables e below (s₁.setTop (entryFrame m #[(.ref tb), (.int pg)] 5)) t := fun t kk => castTop (ef_rmGetN m tb pg) kk
  obtain ⟨T366, X366, e366, st366⟩ := getF X0 hx hZ hown (host := "") (Or.inl (hw _ (List.mem_of_getElem? (i := 29) rfl))) Via.refl e0 F_slots_tb (g := (mkF m 1 #[.val (.ref tb), .val (.int pg), .unset, .unset, .unset] [(.ref tb)])) rfl rfl (hb hby d10_1)
  obtain ⟨cl367, Ar367, -, Sz367, Nn367, -, -⟩ := id V_a
  obtain ⟨cq368, q368, q368'⟩ := E_tb.cell
  obtain ⟨_, _, ⟨T368, L368, k368, n368⟩, -, X368, ⟨Lc368, hQ368, l368, y368, z368⟩, st368⟩ := own_privBack X366 hx (y := (⟨"com/example/redoubt/redoubt/storage/FrameTable", "home", "(I)I"⟩ : MethodName)) hown (mvT hZ (hw _ (List.mem_of_getElem? (i := 45) rfl))) (mvT hZ (hw _ (List.mem_of_getElem? (i := 46) rfl))) (mvT hZ (hw _ (List.mem_of_getElem? (i := 22) rfl))) (Cond.privateMethod_at (mvP hZ (hw _ (List.mem_of_getElem? (i := 47) rfl)) (args := #[]))) (mvT hZ (hw _ (List.mem_of_getElem? (i := 48) rfl))) (by decide) (backOf (W := 0) (rmHome l Z a0 hw [] tb pg sh h0 n0 Z0 F_shift_tb) hZ (hw _ (List.mem_of_getElem? (i := 48) rfl)) (hw _ (List.mem_of_getElem? (i := 23) rfl)) (by decide) (by decide)) (g := (mkF m 10 #[.val (.ref tb), .val (.int pg), .val (.int (n - (1 : Int32))), .unset, .unset] [(.int pg), (.ref tb)])) rfl (by rw [hml]; rfl) (a := tb) (by rw [e366]; exact q368) q368' (argsL := [(.int pg)]) (rest := []) (lenOf pd_0 rfl) rfl (by show 2 * 0 + _ ≤ _; exact Nat.le_of_eq rfl) (hb hby d10_10) (fun _ _ => ⟨rfl, e366, (by decide : 0 + 0 ≤ _), (by decide : 0 + 0 ≤ _)⟩)
  dsimp only [Pt.U, Pt.locs, Pt.cells, Pt.slots] at X368 l368 y368 z368 st368 hQ368
  rw [l368, y368, z368] at X368
  replace X368 := own_std X368 (cc := 0) (ss := 0) rfl rfl
  obtain ⟨rfl, N368q, e368⟩ := hQ368
  have N368 := Fr.app N0 N368q
  obtain ⟨i0, hi0, ei0⟩ := own_hm hN pg
  have pre369 : ∀ t, Steps p.tables e below (T368.setTop (mkF m 14 #[.val (.ref tb), .val (.int pg), .val (.int (n - (1 : Int32))), .val (.int (own_home pg sh)), .unset] [])) t → Steps p.tables e below (s₁.setTop (entryFrame m #[(.ref tb), (.int pg)] 5)) t := fun t kk => pre0 t (by
      show Steps p.tables e below (s₁.setTop (mkF m 0 #[.val (.ref tb), .val (.int pg), .unset, .unset, .unset] [])) _
      refine XS.aloadN X0.here hx rfl (hb hby d10_0) rfl rfl ?_
      show Steps p.tables e below (s₁.setTop (mkF m 1 #[.val (.ref tb), .val (.int pg), .unset, .unset, .unset] [(.ref tb)])) _
      refine st366 _ ?_
      show Steps p.tables e below (T366.setTop (mkF m 4 #[.val (.ref tb), .val (.int pg), .unset, .unset, .unset] [(.ref a)])) _
      refine X366.arraylength hx (by rw [e366]; exact Ar367.1) (State.isArrayOf_alike hZ.alike Ar367.2.1) (g := (mkF m 4 #[.val (.ref tb), .val (.int pg), .unset, .unset, .unset] [(.ref a)])) rfl rfl (hb hby d10_4) _ ?_
      rw [len_of Sz367 Nn367]
      show Steps p.tables e below (T366.setTop (mkF m 5 #[.val (.ref tb), .val (.int pg), .unset, .unset, .unset] [(.int n)])) _
      refine XS.iconst X366.here hx rfl (hb hby d10_5) ?_
      show Steps p.tables e below (T366.setTop (mkF m 6 #[.val (.ref tb), .val (.int pg), .unset, .unset, .unset] [(.int (1 : Int32)), (.int n)])) _
      refine XS.isub X366.here hx rfl (hb hby d10_6) rfl ?_
      show Steps p.tables e below (T366.setTop (mkF m 7 #[.val (.ref tb), .val (.int pg), .unset, .unset, .unset] [(.int (n - (1 : Int32)))])) _
      refine XS.istoreN X366.here hx rfl (hb hby d10_7) rfl (l' := #[.val (.ref tb), .val (.int pg), .val (.int (n - (1 : Int32))), .unset, .unset]) rfl ?_
      show Steps p.tables e below (T366.setTop (mkF m 8 #[.val (.ref tb), .val (.int pg), .val (.int (n - (1 : Int32))), .unset, .unset] [])) _
      refine XS.aloadN X366.here hx rfl (hb hby d10_8) rfl rfl ?_
      show Steps p.tables e below (T366.setTop (mkF m 9 #[.val (.ref tb), .val (.int pg), .val (.int (n - (1 : Int32))), .unset, .unset] [(.ref tb)])) _
      refine XS.iloadN X366.here hx rfl (hb hby d10_9) rfl ?_
      show Steps p.tables e below (T366.setTop (mkF m 10 #[.val (.ref tb), .val (.int pg), .val (.int (n - (1 : Int32))), .unset, .unset] [(.int pg), (.ref tb)])) _
      refine st368.trans ?_
      show Steps p.tables e below (T368.setTop (mkF m 13 #[.val (.ref tb), .val (.int pg), .val (.int (n - (1 : Int32))), .unset, .unset] [(.int (own_home pg sh))])) _
      refine XS.istoreN X368.here hx rfl (hb hby d10_13) rfl (l' := #[.val (.ref tb), .val (.int pg), .val (.int (n - (1 : Int32))), .val (.int (own_home pg sh)), .unset]) rfl ?_
      exact kk)
  have eq370 : (own_home pg sh) = (Int32.ofNat i0) := ei0
  have pre371 : ∀ t, Steps p.tables e below (T368.setTop (mkF m 14 #[.val (.ref tb), .val (.int pg), .val (.int (n - (1 : Int32))), .val (.int (Int32.ofNat i0)), .unset] [])) t → Steps p.tables e below (s₁.setTop (entryFrame m #[(.ref tb), (.int pg)] 5)) t := fun t kk => pre369 t (own_cast (fun zz : Int32 => T368.setTop (mkF m 14 #[.val (.ref tb), .val (.int pg), .val (.int (n - (1 : Int32))), .val (.int zz), .unset] [])) eq370 kk)
  obtain ⟨T372, X372, e372, st372⟩ := getF X368 hx hZ hown (host := "") (Or.inl (hw _ (List.mem_of_getElem? (i := 29) rfl))) Via.refl e368 F_slots_tb (g := (mkF m 15 #[.val (.ref tb), .val (.int pg), .val (.int (n - (1 : Int32))), .val (.int (Int32.ofNat i0)), .unset] [(.ref tb)])) rfl rfl (hb hby d10_15)
  obtain ⟨cl373, Ar373, q373, Sz373, Nn373, H373, G373⟩ := id V_a
  have hin373 : ¬ ((Int32.ofNat i0) < 0 ∨ cl373.slots.size ≤ ((Int32.ofNat i0)).toNatClampNeg) := (inb_of Sz373 (own_in hN hi0))
  have hat373 : cl373.slots[((Int32.ofNat i0)).toNatClampNeg]? = some .null := H373.at hin373 (hnull _)
  have pre374 : ∀ t, Steps p.tables e below (T372.setTop (mkF m 38 #[.val (.ref tb), .val (.int pg), .val (.int (n - (1 : Int32))), .val (.int (Int32.ofNat i0)), .val .null] [.null])) t → Steps p.tables e below (s₁.setTop (entryFrame m #[(.ref tb), (.int pg)] 5)) t := fun t kk => pre371 t (by
      show Steps p.tables e below (T368.setTop (mkF m 14 #[.val (.ref tb), .val (.int pg), .val (.int (n - (1 : Int32))), .val (.int (Int32.ofNat i0)), .unset] [])) _
      refine XS.aloadN X368.here hx rfl (hb hby d10_14) rfl rfl ?_
      show Steps p.tables e below (T368.setTop (mkF m 15 #[.val (.ref tb), .val (.int pg), .val (.int (n - (1 : Int32))), .val (.int (Int32.ofNat i0)), .unset] [(.ref tb)])) _
      refine st372 _ ?_
      show Steps p.tables e below (T372.setTop (mkF m 18 #[.val (.ref tb), .val (.int pg), .val (.int (n - (1 : Int32))), .val (.int (Int32.ofNat i0)), .unset] [(.ref a)])) _
      refine XS.iloadN X372.here hx rfl (hb hby d10_18) rfl ?_
      show Steps p.tables e below (T372.setTop (mkF m 19 #[.val (.ref tb), .val (.int pg), .val (.int (n - (1 : Int32))), .val (.int (Int32.ofNat i0)), .unset] [(.int (Int32.ofNat i0)), (.ref a)])) _
      refine X372.aaload hx (j := (Int32.ofNat i0)) (v := .null) (by rw [e372]; exact Ar373.1) (State.isArrayOf_alike hZ.alike Ar373.2.1) rfl Ar373.2.2 hin373 hat373 (g := (mkF m 19 #[.val (.ref tb), .val (.int pg), .val (.int (n - (1 : Int32))), .val (.int (Int32.ofNat i0)), .unset] [(.int (Int32.ofNat i0)), (.ref a)])) rfl rfl (hb hby d10_19) _ ?_
      show Steps p.tables e below (T372.setTop (mkF m 20 #[.val (.ref tb), .val (.int pg), .val (.int (n - (1 : Int32))), .val (.int (Int32.ofNat i0)), .unset] [.null])) _
      refine XS.astore X372.here hx rfl (hb hby d10_20) rfl rfl (l' := #[.val (.ref tb), .val (.int pg), .val (.int (n - (1 : Int32))), .val (.int (Int32.ofNat i0)), .val .null]) rfl ?_
      show Steps p.tables e below (T372.setTop (mkF m 22 #[.val (.ref tb), .val (.int pg), .val (.int (n - (1 : Int32))), .val (.int (Int32.ofNat i0)), .val .null] [])) _
      refine XS.aload X372.here hx rfl (hb hby d10_22) rfl rfl ?_
      show Steps p.tables e below (T372.setTop (mkF m 24 #[.val (.ref tb), .val (.int pg), .val (.int (n - (1 : Int32))), .val (.int (Int32.ofNat i0)), .val .null] [.null])) _
      refine XS.ifnullYes X372.here hx rfl (pc0 := 24) (pc' := 36) rfl (hb hby d10_24) rfl (by decide) (by decide) ?_
      show Steps p.tables e below (T372.setTop (mkF m 36 #[.val (.ref tb), .val (.int pg), .val (.int (n - (1 : Int32))), .val (.int (Int32.ofNat i0)), .val .null] [])) _
      refine XS.aload X372.here hx rfl (hb hby d10_36) rfl rfl ?_
      exact kk)
  obtain ⟨fs, hr, hrun, hended, hW, hsame⟩ := X372.leave (v := some .null) (fun h => by rw [Bd.returns] at h; cases h)
  refine ⟨_, _, pre374 _ ?_, hrun, hended, _, _, rfl, ?_, ⟨_, rfl⟩, hW, hsame.mono (by decide) (by decide)⟩
  · show Steps p.tables e below (T372.setTop (mkF m 38 #[.val (.ref tb), .val (.int pg), .val (.int (n - (1 : Int32))), .val (.int (Int32.ofNat i0)), .val .null] [.null])) _
    exact retOut X372 hx Bd.returns rfl (Or.inr (Or.inr (Or.inr (Or.inr ⟨rfl, rfl, rfl⟩)))) (hb hby d10_38) hr
  · show QGetN Z tb pg sh n N a k vs h0 n0 _ T372.heap _
    rw [e372]
    exact ⟨rfl, N368, rfl⟩
theorem d10_27 : decode prog_47_method_2_code 27 = .ok (.aload 4, 2) := by decide +kernel
theorem d10_29 : decode prog_47_method_2_code 29 = .ok (.getfield 25, 3) := by decide +kernel
theorem d10_32 : decode prog_47_method_2_code 32 = .ok (.iload_n 1, 1) := by decide +kernel
theorem d10_33 : decode prog_47_method_2_code 33 = .ok (.if_icmp .ne 6, 3) := by decide +kernel
theorem ef_rmGetF (m : MethodId) (x0 : Addr) (x1 : Int32) : entryFrame m #[(.ref x0), (.int x1)] 5 = mkF m 0 #[.val (.ref x0), .val (.int x1), .unset, .unset, .unset] [] := by first | (simp [entryFrame, mkF, argsToLocals, Value.category]; done) | rfl
def QGetF (Z : State) (tb : Addr) (pg : Int32) (sh : Int32) (n : Int32) (N : Nat) (a : Addr) (k : ClassId) (vs : List Value) (f : Addr) (h0 : Heap) (n0 : Nat) (v : Option Value) (h : Heap) (L : List Loc) : Prop := v = some (.ref f) ∧ Fr n0 L ∧ h = h0
set_option maxRecDepth 65536 in
set_option maxHeartbeats 40000000 in
theorem rmGetF (l : Launch) (Z : State) (a0 : Array Value) (hw : ∀ d ∈ tables_1, d.before a0 Z = true) (ws : List Jvm.Cond) (tb : Addr) (pg : Int32) (sh : Int32) (n : Int32) (N : Nat) (a : Addr) (k : ClassId) (vs : List Value) (f : Addr) (h0 : Heap) (n0 : Nat) (Z0 : n0 ≤ h0.size) (E_tb : Exa Z h0 tb "com/example/redoubt/redoubt/storage/FrameTable") (F_slots_tb : Fld Z h0 tb "com/example/redoubt/redoubt/storage/FrameTable" "slots" "[Lcom/example/redoubt/redoubt/storage/PageCache$Frame;" (.ref a)) (F_shift_tb : Fld Z h0 tb "com/example/redoubt/redoubt/storage/FrameTable" "shift" "I" (.int sh)) (V_a : Arv Z h0 a k (.object "com/example/redoubt/redoubt/storage/PageCache$Frame") n vs .null) (F_page_f : Fld Z h0 f "com/example/redoubt/redoubt/storage/PageCache$Frame" "page" "I" (.int pg)) (hN : own_tb n N sh) (hat0 : vs.getD (own_home pg sh).toNatClampNeg .null = (.ref f)) :
    MetFree l (⟨"com/example/redoubt/redoubt/storage/FrameTable", "get", "(I)Lcom/example/redoubt/redoubt/storage/PageCache$Frame;"⟩ : MethodName) (head1 (Jvm.Cond.code (⟨"com/example/redoubt/redoubt/storage/FrameTable", "get", "(I)Lcom/example/redoubt/redoubt/storage/PageCache$Frame;"⟩ : MethodName) prog_47_method_2_code 5 (some (.object "com/example/redoubt/redoubt/storage/PageCache$Frame")) :: ws) ({ frames := 1, cells := 0, slots := 0, locals := 13 } : Room)) (fun aA uU => aA = #[(.ref tb), (.int pg)] ∧ Z.Warmed39 uU.vm ∧ uU.heap = h0) (fun _ _ _ _ _ => True) (fun _ uU oO uU' => ∃ vV lL, oO = .returned vV ∧ QGetF Z tb pg sh n N a k vs f h0 n0 vV uU'.heap lL ∧ FrameEnd uU oO uU' lL ({ frames := 1, cells := 0, slots := 0, locals := 13 } : Room).cells ({ frames := 1, cells := 0, slots := 0, locals := 13 } : Room).slots) := by
  refine MetFree.of_bodySF (plainFor_of_name pn_1) hisR ?_
  intro p e s m args below meth c s₁ Bd hml0 hP hK
  obtain ⟨rfl, hZ, hh⟩ := hP
  have hx := Bd.exec
  have hby := Bd.bytes
  have hml : c.maxLocals = 5 := hml0
  have hown : s.vm.findClass "com/example/redoubt/redoubt/storage/FrameTable" = some m.cls := findClass_of_methodNamed Bd.named
  have hnm := (name_of_methodNamed Bd.named Bd.method).1
  have X0 : Stand p l e ({ frames := 1, cells := 0, slots := 0, locals := 13 } : Room) s m #[(.ref tb), (.int pg)] below meth c s₁ [] 0 0 := Stand.of_body Bd
  have e0 : s₁.heap = h0 := by rw [← hh, Bd.state]; rfl
  have N0 := Fr.nil n0
  have pre0 : ∀ t, Steps p.tables e below (s₁.setTop (mkF m 0 #[.val (.ref tb), .val (.int pg), .unset, .unset, .unset] [])) t → Steps p.tables e below (s₁.setTop (entryFrame m #[(.ref tb), (.int pg)] 5)) t := fun t kk => castTop (ef_rmGetF m tb pg) kk
  obtain ⟨T375, X375, e375, st375⟩ := getF X0 hx hZ hown (host := "") (Or.inl (hw _ (List.mem_of_getElem? (i := 29) rfl))) Via.refl e0 F_slots_tb (g := (mkF m 1 #[.val (.ref tb), .val (.int pg), .unset, .unset, .unset] [(.ref tb)])) rfl rfl (hb hby d10_1)
  obtain ⟨cl376, Ar376, -, Sz376, Nn376, -, -⟩ := id V_a
  obtain ⟨cq377, q377, q377'⟩ := E_tb.cell
  obtain ⟨_, _, ⟨T377, L377, k377, n377⟩, -, X377, ⟨Lc377, hQ377, l377, y377, z377⟩, st377⟩ := own_privBack X375 hx (y := (⟨"com/example/redoubt/redoubt/storage/FrameTable", "home", "(I)I"⟩ : MethodName)) hown (mvT hZ (hw _ (List.mem_of_getElem? (i := 45) rfl))) (mvT hZ (hw _ (List.mem_of_getElem? (i := 46) rfl))) (mvT hZ (hw _ (List.mem_of_getElem? (i := 22) rfl))) (Cond.privateMethod_at (mvP hZ (hw _ (List.mem_of_getElem? (i := 47) rfl)) (args := #[]))) (mvT hZ (hw _ (List.mem_of_getElem? (i := 48) rfl))) (by decide) (backOf (W := 0) (rmHome l Z a0 hw [] tb pg sh h0 n0 Z0 F_shift_tb) hZ (hw _ (List.mem_of_getElem? (i := 48) rfl)) (hw _ (List.mem_of_getElem? (i := 23) rfl)) (by decide) (by decide)) (g := (mkF m 10 #[.val (.ref tb), .val (.int pg), .val (.int (n - (1 : Int32))), .unset, .unset] [(.int pg), (.ref tb)])) rfl (by rw [hml]; rfl) (a := tb) (by rw [e375]; exact q377) q377' (argsL := [(.int pg)]) (rest := []) (lenOf pd_0 rfl) rfl (by show 2 * 0 + _ ≤ _; exact Nat.le_of_eq rfl) (hb hby d10_10) (fun _ _ => ⟨rfl, e375, (by decide : 0 + 0 ≤ _), (by decide : 0 + 0 ≤ _)⟩)
  dsimp only [Pt.U, Pt.locs, Pt.cells, Pt.slots] at X377 l377 y377 z377 st377 hQ377
  rw [l377, y377, z377] at X377
  replace X377 := own_std X377 (cc := 0) (ss := 0) rfl rfl
  obtain ⟨rfl, N377q, e377⟩ := hQ377
  have N377 := Fr.app N0 N377q
  obtain ⟨i0, hi0, ei0⟩ := own_hm hN pg
  obtain ⟨T378, X378, e378, st378⟩ := getF X377 hx hZ hown (host := "") (Or.inl (hw _ (List.mem_of_getElem? (i := 29) rfl))) Via.refl e377 F_slots_tb (g := (mkF m 15 #[.val (.ref tb), .val (.int pg), .val (.int (n - (1 : Int32))), .val (.int (own_home pg sh)), .unset] [(.ref tb)])) rfl rfl (hb hby d10_15)
  obtain ⟨cl379, Ar379, q379, Sz379, Nn379, H379, G379⟩ := id V_a
  have hin379 : ¬ ((own_home pg sh) < 0 ∨ cl379.slots.size ≤ ((own_home pg sh)).toNatClampNeg) := (inb_of Sz379 (by rw [ei0]; exact own_in hN hi0))
  have hat379 : cl379.slots[((own_home pg sh)).toNatClampNeg]? = some (.ref f) := H379.at hin379 hat0
  obtain ⟨T380, X380, e380, st380⟩ := getF X378 hx hZ hown (host := "") (Or.inl (hw _ (List.mem_of_getElem? (i := 44) rfl))) Via.refl e378 F_page_f (g := (mkF m 29 #[.val (.ref tb), .val (.int pg), .val (.int (n - (1 : Int32))), .val (.int (own_home pg sh)), .val (.ref f)] [(.ref f)])) rfl rfl (hb hby d10_29)
  have pre381 : ∀ t, Steps p.tables e below (T380.setTop (mkF m 38 #[.val (.ref tb), .val (.int pg), .val (.int (n - (1 : Int32))), .val (.int (own_home pg sh)), .val (.ref f)] [(.ref f)])) t → Steps p.tables e below (s₁.setTop (entryFrame m #[(.ref tb), (.int pg)] 5)) t := fun t kk => pre0 t (by
      show Steps p.tables e below (s₁.setTop (mkF m 0 #[.val (.ref tb), .val (.int pg), .unset, .unset, .unset] [])) _
      refine XS.aloadN X0.here hx rfl (hb hby d10_0) rfl rfl ?_
      show Steps p.tables e below (s₁.setTop (mkF m 1 #[.val (.ref tb), .val (.int pg), .unset, .unset, .unset] [(.ref tb)])) _
      refine st375 _ ?_
      show Steps p.tables e below (T375.setTop (mkF m 4 #[.val (.ref tb), .val (.int pg), .unset, .unset, .unset] [(.ref a)])) _
      refine X375.arraylength hx (by rw [e375]; exact Ar376.1) (State.isArrayOf_alike hZ.alike Ar376.2.1) (g := (mkF m 4 #[.val (.ref tb), .val (.int pg), .unset, .unset, .unset] [(.ref a)])) rfl rfl (hb hby d10_4) _ ?_
      rw [len_of Sz376 Nn376]
      show Steps p.tables e below (T375.setTop (mkF m 5 #[.val (.ref tb), .val (.int pg), .unset, .unset, .unset] [(.int n)])) _
      refine XS.iconst X375.here hx rfl (hb hby d10_5) ?_
      show Steps p.tables e below (T375.setTop (mkF m 6 #[.val (.ref tb), .val (.int pg), .unset, .unset, .unset] [(.int (1 : Int32)), (.int n)])) _
      refine XS.isub X375.here hx rfl (hb hby d10_6) rfl ?_
      show Steps p.tables e below (T375.setTop (mkF m 7 #[.val (.ref tb), .val (.int pg), .unset, .unset, .unset] [(.int (n - (1 : Int32)))])) _
      refine XS.istoreN X375.here hx rfl (hb hby d10_7) rfl (l' := #[.val (.ref tb), .val (.int pg), .val (.int (n - (1 : Int32))), .unset, .unset]) rfl ?_
      show Steps p.tables e below (T375.setTop (mkF m 8 #[.val (.ref tb), .val (.int pg), .val (.int (n - (1 : Int32))), .unset, .unset] [])) _
      refine XS.aloadN X375.here hx rfl (hb hby d10_8) rfl rfl ?_
      show Steps p.tables e below (T375.setTop (mkF m 9 #[.val (.ref tb), .val (.int pg), .val (.int (n - (1 : Int32))), .unset, .unset] [(.ref tb)])) _
      refine XS.iloadN X375.here hx rfl (hb hby d10_9) rfl ?_
      show Steps p.tables e below (T375.setTop (mkF m 10 #[.val (.ref tb), .val (.int pg), .val (.int (n - (1 : Int32))), .unset, .unset] [(.int pg), (.ref tb)])) _
      refine st377.trans ?_
      show Steps p.tables e below (T377.setTop (mkF m 13 #[.val (.ref tb), .val (.int pg), .val (.int (n - (1 : Int32))), .unset, .unset] [(.int (own_home pg sh))])) _
      refine XS.istoreN X377.here hx rfl (hb hby d10_13) rfl (l' := #[.val (.ref tb), .val (.int pg), .val (.int (n - (1 : Int32))), .val (.int (own_home pg sh)), .unset]) rfl ?_
      show Steps p.tables e below (T377.setTop (mkF m 14 #[.val (.ref tb), .val (.int pg), .val (.int (n - (1 : Int32))), .val (.int (own_home pg sh)), .unset] [])) _
      refine XS.aloadN X377.here hx rfl (hb hby d10_14) rfl rfl ?_
      show Steps p.tables e below (T377.setTop (mkF m 15 #[.val (.ref tb), .val (.int pg), .val (.int (n - (1 : Int32))), .val (.int (own_home pg sh)), .unset] [(.ref tb)])) _
      refine st378 _ ?_
      show Steps p.tables e below (T378.setTop (mkF m 18 #[.val (.ref tb), .val (.int pg), .val (.int (n - (1 : Int32))), .val (.int (own_home pg sh)), .unset] [(.ref a)])) _
      refine XS.iloadN X378.here hx rfl (hb hby d10_18) rfl ?_
      show Steps p.tables e below (T378.setTop (mkF m 19 #[.val (.ref tb), .val (.int pg), .val (.int (n - (1 : Int32))), .val (.int (own_home pg sh)), .unset] [(.int (own_home pg sh)), (.ref a)])) _
      refine X378.aaload hx (j := (own_home pg sh)) (v := (.ref f)) (by rw [e378]; exact Ar379.1) (State.isArrayOf_alike hZ.alike Ar379.2.1) rfl Ar379.2.2 hin379 hat379 (g := (mkF m 19 #[.val (.ref tb), .val (.int pg), .val (.int (n - (1 : Int32))), .val (.int (own_home pg sh)), .unset] [(.int (own_home pg sh)), (.ref a)])) rfl rfl (hb hby d10_19) _ ?_
      show Steps p.tables e below (T378.setTop (mkF m 20 #[.val (.ref tb), .val (.int pg), .val (.int (n - (1 : Int32))), .val (.int (own_home pg sh)), .unset] [(.ref f)])) _
      refine XS.astore X378.here hx rfl (hb hby d10_20) rfl rfl (l' := #[.val (.ref tb), .val (.int pg), .val (.int (n - (1 : Int32))), .val (.int (own_home pg sh)), .val (.ref f)]) rfl ?_
      show Steps p.tables e below (T378.setTop (mkF m 22 #[.val (.ref tb), .val (.int pg), .val (.int (n - (1 : Int32))), .val (.int (own_home pg sh)), .val (.ref f)] [])) _
      refine XS.aload X378.here hx rfl (hb hby d10_22) rfl rfl ?_
      show Steps p.tables e below (T378.setTop (mkF m 24 #[.val (.ref tb), .val (.int pg), .val (.int (n - (1 : Int32))), .val (.int (own_home pg sh)), .val (.ref f)] [(.ref f)])) _
      refine XS.ifnullNo X378.here hx rfl (hb hby d10_24) rfl ?_
      show Steps p.tables e below (T378.setTop (mkF m 27 #[.val (.ref tb), .val (.int pg), .val (.int (n - (1 : Int32))), .val (.int (own_home pg sh)), .val (.ref f)] [])) _
      refine XS.aload X378.here hx rfl (hb hby d10_27) rfl rfl ?_
      show Steps p.tables e below (T378.setTop (mkF m 29 #[.val (.ref tb), .val (.int pg), .val (.int (n - (1 : Int32))), .val (.int (own_home pg sh)), .val (.ref f)] [(.ref f)])) _
      refine st380 _ ?_
      show Steps p.tables e below (T380.setTop (mkF m 32 #[.val (.ref tb), .val (.int pg), .val (.int (n - (1 : Int32))), .val (.int (own_home pg sh)), .val (.ref f)] [(.int pg)])) _
      refine XS.iloadN X380.here hx rfl (hb hby d10_32) rfl ?_
      show Steps p.tables e below (T380.setTop (mkF m 33 #[.val (.ref tb), .val (.int pg), .val (.int (n - (1 : Int32))), .val (.int (own_home pg sh)), .val (.ref f)] [(.int pg), (.int pg)])) _
      refine XS.icmpNo X380.here hx rfl (hb hby d10_33) rfl (teq (rfl : pg = pg)).2 ?_
      show Steps p.tables e below (T380.setTop (mkF m 36 #[.val (.ref tb), .val (.int pg), .val (.int (n - (1 : Int32))), .val (.int (own_home pg sh)), .val (.ref f)] [])) _
      refine XS.aload X380.here hx rfl (hb hby d10_36) rfl rfl ?_
      exact kk)
  obtain ⟨fs, hr, hrun, hended, hW, hsame⟩ := X380.leave (v := some (.ref f)) (fun h => by rw [Bd.returns] at h; cases h)
  refine ⟨_, _, pre381 _ ?_, hrun, hended, _, _, rfl, ?_, ⟨_, rfl⟩, hW, hsame.mono (by decide) (by decide)⟩
  · show Steps p.tables e below (T380.setTop (mkF m 38 #[.val (.ref tb), .val (.int pg), .val (.int (n - (1 : Int32))), .val (.int (own_home pg sh)), .val (.ref f)] [(.ref f)])) _
    exact retOut X380 hx Bd.returns rfl (Or.inr (Or.inr (Or.inr (Or.inr ⟨rfl, rfl, rfl⟩)))) (hb hby d10_38) hr
  · show QGetF Z tb pg sh n N a k vs f h0 n0 _ T380.heap _
    rw [e380]
    exact ⟨rfl, N377, rfl⟩
theorem d1_0 : decode method_2_code 0 = .ok (.new 7, 3) := by decide +kernel
theorem d1_3 : decode method_2_code 3 = .ok (.dup, 1) := by decide +kernel
theorem d1_4 : decode method_2_code 4 = .ok (.invokespecial 9, 3) := by decide +kernel
theorem d1_7 : decode method_2_code 7 = .ok (.astore_n 1, 1) := by decide +kernel
theorem d1_8 : decode method_2_code 8 = .ok (.aload_n 1, 1) := by decide +kernel
theorem d1_9 : decode method_2_code 9 = .ok (.iload_n 0, 1) := by decide +kernel
theorem d1_10 : decode method_2_code 10 = .ok (.putfield 10, 3) := by decide +kernel
theorem d1_13 : decode method_2_code 13 = .ok (.aload_n 1, 1) := by decide +kernel
theorem d1_14 : decode method_2_code 14 = .ok (.areturn, 1) := by decide +kernel
theorem ef_rmFrame (m : MethodId) (x0 : Int32) : entryFrame m #[(.int x0)] 2 = mkF m 0 #[.val (.int x0), .unset] [] := by first | (simp [entryFrame, mkF, argsToLocals, Value.category]; done) | rfl
def QFrame (Z : State) (pg : Int32) (h0 : Heap) (n0 : Nat) (v : Option Value) (h : Heap) (L : List Loc) : Prop := ∃ (nb : Addr), v = some (.ref nb) ∧ Fr n0 L ∧ Keep h0 h [] ∧ h0.size ≤ nb ∧ Exa Z h nb "com/example/redoubt/redoubt/storage/PageCache$Frame" ∧ Fld Z h nb "com/example/redoubt/redoubt/storage/PageCache$Frame" "page" "I" (.int pg)
theorem pn_2 : plainName "com/example/redoubt/redoubt/storage/FrameTableClearPinLaw" = true := by first | (simp [plainName, overriddenIn]; done) | decide +kernel
set_option maxRecDepth 65536 in
set_option maxHeartbeats 40000000 in
theorem rmFrame (l : Launch) (Z : State) (a0 : Array Value) (hw : ∀ d ∈ tables_1, d.before a0 Z = true) (ws : List Jvm.Cond) (pg : Int32) (h0 : Heap) (n0 : Nat) (Z0 : n0 ≤ h0.size)  :
    MetFree l (⟨"com/example/redoubt/redoubt/storage/FrameTableClearPinLaw", "frame", "(I)Lcom/example/redoubt/redoubt/storage/PageCache$Frame;"⟩ : MethodName) (head1 (Jvm.Cond.code (⟨"com/example/redoubt/redoubt/storage/FrameTableClearPinLaw", "frame", "(I)Lcom/example/redoubt/redoubt/storage/PageCache$Frame;"⟩ : MethodName) method_2_code 2 (some (.object "com/example/redoubt/redoubt/storage/PageCache$Frame")) :: ws) ({ frames := 2, cells := 2, slots := 8198, locals := 25 } : Room)) (fun aA uU => aA = #[(.int pg)] ∧ Z.Warmed39 uU.vm ∧ uU.heap = h0) (fun _ _ _ _ _ => True) (fun _ uU oO uU' => ∃ vV lL, oO = .returned vV ∧ QFrame Z pg h0 n0 vV uU'.heap lL ∧ FrameEnd uU oO uU' lL ({ frames := 2, cells := 2, slots := 8198, locals := 25 } : Room).cells ({ frames := 2, cells := 2, slots := 8198, locals := 25 } : Room).slots) := by
  refine MetFree.of_bodySF (plainFor_of_name pn_2) hisR ?_
  intro p e s m args below meth c s₁ Bd hml0 hP hK
  obtain ⟨rfl, hZ, hh⟩ := hP
  have hx := Bd.exec
  have hby := Bd.bytes
  have hml : c.maxLocals = 2 := hml0
  have hown : s.vm.findClass "com/example/redoubt/redoubt/storage/FrameTableClearPinLaw" = some m.cls := findClass_of_methodNamed Bd.named
  have hnm := (name_of_methodNamed Bd.named Bd.method).1
  have X0 : Stand p l e ({ frames := 2, cells := 2, slots := 8198, locals := 25 } : Room) s m #[(.int pg)] below meth c s₁ [] 0 0 := Stand.of_body Bd
  have e0 : s₁.heap = h0 := by rw [← hh, Bd.state]; rfl
  have N0 := Fr.nil n0
  have pre0 : ∀ t, Steps p.tables e below (s₁.setTop (mkF m 0 #[.val (.int pg), .unset] [])) t → Steps p.tables e below (s₁.setTop (entryFrame m #[(.int pg)] 2)) t := fun t kk => castTop (ef_rmFrame m pg) kk
  obtain ⟨T382, h382, X382, e382, E382, A382, D382, -, st382⟩ := newO X0 hx hZ hown (hw _ (List.mem_of_getElem? (i := 1) rfl)) (hw _ (List.mem_of_getElem? (i := 7) rfl)) (hw _ (List.mem_of_getElem? (i := 8) rfl)) e0 (g := (mkF m 0 #[.val (.int pg), .unset] [])) rfl (hb hby d1_0) (by decide) (by decide)
  obtain ⟨b382, gq382⟩ : ∃ z, z = h0.size := ⟨_, rfl⟩
  rw [← gq382] at A382 D382 st382
  have g_b382 : n0 ≤ b382 := Nat.le_trans Z0 (Nat.le_of_eq gq382.symm)
  have sz_b382 : h0.size ≤ b382 := Nat.le_trans (Nat.le_refl _) (Nat.le_of_eq gq382.symm)
  have K383 : Keep h0 h382 [] := (Keep.refl h0 _).ext E382
  have F384 : Fld Z h382 b382 "com/example/redoubt/redoubt/storage/PageCache$Frame" "data" "[B" .null := D382 (Or.inr (hw _ (List.mem_of_getElem? (i := 17) rfl))) (ty := (.array .byte)) (by decide)
  have F385 : Fld Z h382 b382 "com/example/redoubt/redoubt/storage/PageCache$Frame" "page" "I" (.int (0 : Int32)) := D382 (Or.inl (hw _ (List.mem_of_getElem? (i := 19) rfl))) (ty := .int) (by decide)
  obtain ⟨_, _, ⟨T386, L386, k386, n386⟩, -, X386, ⟨Lc386, hQ386, l386, y386, z386⟩, st386⟩ := X382.specialBack hx (y := (⟨"com/example/redoubt/redoubt/storage/PageCache$Frame", "<init>", "()V"⟩ : MethodName)) rfl hown (mvT hZ (hw _ (List.mem_of_getElem? (i := 9) rfl))) (mvT hZ (hw _ (List.mem_of_getElem? (i := 10) rfl))) (mvT hZ (hw _ (List.mem_of_getElem? (i := 11) rfl))) (by decide) (backOf (W := 1) (rmFr l Z a0 hw [] b382 h382 n0 (Nat.le_trans Z0 K383.1) A382 F384 F385 g_b382) hZ (hw _ (List.mem_of_getElem? (i := 11) rfl)) (hw _ (List.mem_of_getElem? (i := 8) rfl)) (by decide) (by decide)) (g := (mkF m 4 #[.val (.int pg), .unset] [(.ref b382), (.ref b382)])) rfl (by rw [hml]; rfl) (Steps.refl _) (a := b382) (argsL := []) (rest := [(.ref b382)]) (lenOf pd_2 rfl) rfl (by show 2 * 0 + _ ≤ _; exact Nat.le_of_eq rfl) (hb hby d1_4) (fun _ _ => ⟨rfl, e382, (by decide : 1 + 1 ≤ _), (by decide : 6 + 8192 ≤ _)⟩)
  dsimp only [Pt.U, Pt.locs, Pt.cells, Pt.slots] at X386 l386 y386 z386 st386 hQ386
  rw [l386, y386, z386] at X386
  replace X386 := own_std X386 (cc := 2) (ss := 8198) rfl rfl
  obtain ⟨rfl, N386q, K386q, P386_0, P386_1⟩ := hQ386
  have N386 := Fr.app N0 N386q
  have Ex387 : Exa Z T386.heap b382 "com/example/redoubt/redoubt/storage/PageCache$Frame" := (A382.keep K386q)
  have K388 : Keep h0 T386.heap [] := K383.trans K386q (allS (Or.inr sz_b382) all0)
  obtain ⟨T389, h389, X389, e389, W389, st389⟩ := putF X386 hx hZ hown (host := "") (Or.inl (hw _ (List.mem_of_getElem? (i := 18) rfl))) Via.refl rfl P386_1 P386_0 (Or.inl (hw _ (List.mem_of_getElem? (i := 19) rfl))) (hw _ (List.mem_of_getElem? (i := 7) rfl)) (ty := .int) (by decide) rfl rfl (g := (mkF m 10 #[.val (.int pg), .val (.ref b382)] [(.int pg), (.ref b382)])) rfl rfl (hb hby d1_10)
  have Ex390 : Exa Z h389 b382 "com/example/redoubt/redoubt/storage/PageCache$Frame" := (P386_0.wr W389)
  have K391 : Keep h0 h389 [] := K388.wr W389 (Or.inr sz_b382)
  have N392 := Fr.snoc X389 N386 g_b382
  have F393 : Fld Z h389 b382 "com/example/redoubt/redoubt/storage/PageCache$Frame" "page" "I" (.int pg) := P386_1.same W389
  have pre394 : ∀ t, Steps p.tables e below (T389.setTop (mkF m 14 #[.val (.int pg), .val (.ref b382)] [(.ref b382)])) t → Steps p.tables e below (s₁.setTop (entryFrame m #[(.int pg)] 2)) t := fun t kk => pre0 t (by
      show Steps p.tables e below (s₁.setTop (mkF m 0 #[.val (.int pg), .unset] [])) _
      refine st382 _ ?_
      show Steps p.tables e below (T382.setTop (mkF m 3 #[.val (.int pg), .unset] [(.ref b382)])) _
      refine XS.dup X382.here hx rfl (hb hby d1_3) rfl rfl ?_
      show Steps p.tables e below (T382.setTop (mkF m 4 #[.val (.int pg), .unset] [(.ref b382), (.ref b382)])) _
      refine st386.trans ?_
      show Steps p.tables e below (T386.setTop (mkF m 7 #[.val (.int pg), .unset] [(.ref b382)])) _
      refine XS.astoreN X386.here hx rfl (hb hby d1_7) rfl rfl (l' := #[.val (.int pg), .val (.ref b382)]) rfl ?_
      show Steps p.tables e below (T386.setTop (mkF m 8 #[.val (.int pg), .val (.ref b382)] [])) _
      refine XS.aloadN X386.here hx rfl (hb hby d1_8) rfl rfl ?_
      show Steps p.tables e below (T386.setTop (mkF m 9 #[.val (.int pg), .val (.ref b382)] [(.ref b382)])) _
      refine XS.iloadN X386.here hx rfl (hb hby d1_9) rfl ?_
      show Steps p.tables e below (T386.setTop (mkF m 10 #[.val (.int pg), .val (.ref b382)] [(.int pg), (.ref b382)])) _
      refine st389 _ ?_
      show Steps p.tables e below (T389.setTop (mkF m 13 #[.val (.int pg), .val (.ref b382)] [])) _
      refine XS.aloadN X389.here hx rfl (hb hby d1_13) rfl rfl ?_
      exact kk)
  obtain ⟨fs, hr, hrun, hended, hW, hsame⟩ := X389.leave (v := some (.ref b382)) (fun h => by rw [Bd.returns] at h; cases h)
  refine ⟨_, _, pre394 _ ?_, hrun, hended, _, _, rfl, ?_, ⟨_, rfl⟩, hW, hsame.mono (by decide) (by decide)⟩
  · show Steps p.tables e below (T389.setTop (mkF m 14 #[.val (.int pg), .val (.ref b382)] [(.ref b382)])) _
    exact retOut X389 hx Bd.returns rfl (Or.inr (Or.inr (Or.inr (Or.inr ⟨rfl, rfl, rfl⟩)))) (hb hby d1_14) hr
  · show QFrame Z pg h0 n0 _ T389.heap _
    rw [e389]
    exact ⟨b382, rfl, N392, K391, sz_b382, Ex390, F393⟩
theorem own_rep (n jj : Nat) : (List.replicate n Value.null).getD jj .null = .null := by
  cases h : (List.replicate n Value.null)[jj]? with
  | none => simp only [List.getD, h]; rfl
  | some v =>
    have e := List.eq_of_mem_replicate (List.mem_of_getElem? h)
    simp only [List.getD, h]; exact e
theorem own_nl : ∀ jj, ([.null, .null, .null, .null, .null, .null, .null, .null, .null, .null, .null, .null, .null, .null, .null, .null] : List Value).getD jj .null = .null := own_rep 16
theorem own_ng {Z : State} {h : Heap} : own_Good Z h [.null, .null, .null, .null, .null, .null, .null, .null, .null, .null, .null, .null, .null, .null, .null, .null] := fun v hv => Or.inl (List.eq_of_mem_replicate (n := 16) hv)
theorem own_gsr (vs : List Value) (i : Nat) (v : Value) (h : i < vs.length) : (vs.set i v).getD i .null = v := by
  simp [List.getD, h]
theorem own_put (pg : Int32) (f : Addr) : (([.null, .null, .null, .null, .null, .null, .null, .null, .null, .null, .null, .null, .null, .null, .null, .null] : List Value).set (own_home pg (28 : Int32)).toNatClampNeg (.ref f)).getD (own_home pg (28 : Int32)).toNatClampNeg .null = (.ref f) := by
  obtain ⟨i, hi, e⟩ := own_hm (n := 16) (N := 16) (sh := 28) (Or.inl ⟨rfl, rfl, rfl⟩) pg
  exact own_gsr _ _ _ (by rw [e, own_ixx i (by omega)]; exact hi)
theorem pd_3 : parseMethodDescriptor "(I)Lcom/example/redoubt/redoubt/storage/PageCache$Frame;" = some ⟨[.int], some (.object "com/example/redoubt/redoubt/storage/PageCache$Frame")⟩ := by decide +kernel
theorem pd_4 : parseMethodDescriptor "()I" = some ⟨[], some .int⟩ := by decide +kernel
theorem ef_rm0 (m : MethodId) (x0 : Int32) (x1 : Int32) (x2 : Int32) (x3 : Int32) (x4 : Int32) : entryFrame m #[(.int x0), (.int x1), (.int x2), (.int x3), (.int x4)] maxLocals = mkF m 0 #[.val (.int x0), .val (.int x1), .val (.int x2), .val (.int x3), .val (.int x4), .unset, .unset, .unset, .unset, .unset, .unset, .unset, .unset, .unset] [] := by first | (simp [entryFrame, mkF, argsToLocals, Value.category, maxLocals]; done) | rfl
def Q0 (Z : State) (p0 : Int32) (p1 : Int32) (p2 : Int32) (p3 : Int32) (p4 : Int32) (h0 : Heap) (n0 : Nat) (v : Option Value) (h : Heap) (L : List Loc) : Prop := v = some (.int (1 : Int32)) ∧ Fr n0 L ∧ Keep h0 h []
set_option maxRecDepth 65536 in
set_option maxHeartbeats 40000000 in
theorem rm0 (l : Launch) (Z : State) (a0 : Array Value) (hw : ∀ d ∈ tables_1, d.before a0 Z = true) (ws : List Jvm.Cond) (p0 : Int32) (p1 : Int32) (p2 : Int32) (p3 : Int32) (p4 : Int32) (h0 : Heap) (n0 : Nat) (Z0 : n0 ≤ h0.size)  :
    MetFree l x (head1 (Jvm.Cond.code x code maxLocals ret :: ws) room_1) (fun aA uU => aA = #[(.int p0), (.int p1), (.int p2), (.int p3), (.int p4)] ∧ Z.Warmed39 uU.vm ∧ uU.heap = h0) (fun _ _ _ _ _ => True) (fun _ uU oO uU' => ∃ vV lL, oO = .returned vV ∧ Q0 Z p0 p1 p2 p3 p4 h0 n0 vV uU'.heap lL ∧ FrameEnd uU oO uU' lL room_1.cells room_1.slots) := by
  refine MetFree.of_bodySF (plainFor_of_name pn_2) hisR ?_
  intro p e s m args below meth c s₁ Bd hml0 hP hK
  obtain ⟨rfl, hZ, hh⟩ := hP
  have hx := Bd.exec
  have hby := Bd.bytes
  have hml : c.maxLocals = 14 := hml0
  have hown : s.vm.findClass "com/example/redoubt/redoubt/storage/FrameTableClearPinLaw" = some m.cls := findClass_of_methodNamed Bd.named
  have hnm := (name_of_methodNamed Bd.named Bd.method).1
  have X0 : Stand p l e room_1 s m #[(.int p0), (.int p1), (.int p2), (.int p3), (.int p4)] below meth c s₁ [] 0 0 := Stand.of_body Bd
  have e0 : s₁.heap = h0 := by rw [← hh, Bd.state]; rfl
  have N0 := Fr.nil n0
  have pre0 : ∀ t, Steps p.tables e below (s₁.setTop (mkF m 0 #[.val (.int p0), .val (.int p1), .val (.int p2), .val (.int p3), .val (.int p4), .unset, .unset, .unset, .unset, .unset, .unset, .unset, .unset, .unset] [])) t → Steps p.tables e below (s₁.setTop (entryFrame m #[(.int p0), (.int p1), (.int p2), (.int p3), (.int p4)] maxLocals)) t := fun t kk => castTop (ef_rm0 m p0 p1 p2 p3 p4) kk
  have pre395 : ∀ t, Steps p.tables e below (s₁.setTop (mkF m 14 #[.val (.int p0), .val (.int p1), .val (.int p2), .val (.int p3), .val (.int p4), .val (.int (p1 ||| (1 : Int32))), .val (.int ((p2 &&& (2147483647 : Int32)) % (10 : Int32))), .unset, .unset, .unset, .unset, .unset, .unset, .unset] [])) t → Steps p.tables e below (s₁.setTop (entryFrame m #[(.int p0), (.int p1), (.int p2), (.int p3), (.int p4)] maxLocals)) t := fun t kk => pre0 t (by
      show Steps p.tables e below (s₁.setTop (mkF m 0 #[.val (.int p0), .val (.int p1), .val (.int p2), .val (.int p3), .val (.int p4), .unset, .unset, .unset, .unset, .unset, .unset, .unset, .unset, .unset] [])) _
      refine XS.iloadN X0.here hx rfl (hb hby at_0) rfl ?_
      show Steps p.tables e below (s₁.setTop (mkF m 1 #[.val (.int p0), .val (.int p1), .val (.int p2), .val (.int p3), .val (.int p4), .unset, .unset, .unset, .unset, .unset, .unset, .unset, .unset, .unset] [(.int p1)])) _
      refine XS.iconst X0.here hx rfl (hb hby at_1) ?_
      show Steps p.tables e below (s₁.setTop (mkF m 2 #[.val (.int p0), .val (.int p1), .val (.int p2), .val (.int p3), .val (.int p4), .unset, .unset, .unset, .unset, .unset, .unset, .unset, .unset, .unset] [(.int (1 : Int32)), (.int p1)])) _
      refine XS.ior X0.here hx rfl (hb hby at_2) rfl ?_
      show Steps p.tables e below (s₁.setTop (mkF m 3 #[.val (.int p0), .val (.int p1), .val (.int p2), .val (.int p3), .val (.int p4), .unset, .unset, .unset, .unset, .unset, .unset, .unset, .unset, .unset] [(.int (p1 ||| (1 : Int32)))])) _
      refine XS.istore X0.here hx rfl (hb hby at_3) rfl (l' := #[.val (.int p0), .val (.int p1), .val (.int p2), .val (.int p3), .val (.int p4), .val (.int (p1 ||| (1 : Int32))), .unset, .unset, .unset, .unset, .unset, .unset, .unset, .unset]) rfl ?_
      show Steps p.tables e below (s₁.setTop (mkF m 5 #[.val (.int p0), .val (.int p1), .val (.int p2), .val (.int p3), .val (.int p4), .val (.int (p1 ||| (1 : Int32))), .unset, .unset, .unset, .unset, .unset, .unset, .unset, .unset] [])) _
      refine XS.iloadN X0.here hx rfl (hb hby at_5) rfl ?_
      show Steps p.tables e below (s₁.setTop (mkF m 6 #[.val (.int p0), .val (.int p1), .val (.int p2), .val (.int p3), .val (.int p4), .val (.int (p1 ||| (1 : Int32))), .unset, .unset, .unset, .unset, .unset, .unset, .unset, .unset] [(.int p2)])) _
      refine X0.ldcInt hx hown (mvT hZ (hw _ (List.mem_of_getElem? (i := 0) rfl))) (g := (mkF m 6 #[.val (.int p0), .val (.int p1), .val (.int p2), .val (.int p3), .val (.int p4), .val (.int (p1 ||| (1 : Int32))), .unset, .unset, .unset, .unset, .unset, .unset, .unset, .unset] [(.int p2)])) rfl (hb hby at_6) _ ?_
      show Steps p.tables e below (s₁.setTop (mkF m 8 #[.val (.int p0), .val (.int p1), .val (.int p2), .val (.int p3), .val (.int p4), .val (.int (p1 ||| (1 : Int32))), .unset, .unset, .unset, .unset, .unset, .unset, .unset, .unset] [(.int (2147483647 : Int32)), (.int p2)])) _
      refine XS.iand X0.here hx rfl (hb hby at_8) rfl ?_
      show Steps p.tables e below (s₁.setTop (mkF m 9 #[.val (.int p0), .val (.int p1), .val (.int p2), .val (.int p3), .val (.int p4), .val (.int (p1 ||| (1 : Int32))), .unset, .unset, .unset, .unset, .unset, .unset, .unset, .unset] [(.int (p2 &&& (2147483647 : Int32)))])) _
      refine XS.bipush X0.here hx rfl (hb hby at_9) ?_
      show Steps p.tables e below (s₁.setTop (mkF m 11 #[.val (.int p0), .val (.int p1), .val (.int p2), .val (.int p3), .val (.int p4), .val (.int (p1 ||| (1 : Int32))), .unset, .unset, .unset, .unset, .unset, .unset, .unset, .unset] [(.int (10 : Int32)), (.int (p2 &&& (2147483647 : Int32)))])) _
      refine iremM X0 hx rfl (hb hby at_11) rfl (by decide) ?_
      show Steps p.tables e below (s₁.setTop (mkF m 12 #[.val (.int p0), .val (.int p1), .val (.int p2), .val (.int p3), .val (.int p4), .val (.int (p1 ||| (1 : Int32))), .unset, .unset, .unset, .unset, .unset, .unset, .unset, .unset] [(.int ((p2 &&& (2147483647 : Int32)) % (10 : Int32)))])) _
      refine XS.istore X0.here hx rfl (hb hby at_12) rfl (l' := #[.val (.int p0), .val (.int p1), .val (.int p2), .val (.int p3), .val (.int p4), .val (.int (p1 ||| (1 : Int32))), .val (.int ((p2 &&& (2147483647 : Int32)) % (10 : Int32))), .unset, .unset, .unset, .unset, .unset, .unset, .unset]) rfl ?_
      exact kk)
  obtain ⟨kq, hv_kq⟩ : ∃ z : Int32, z = ((p2 &&& (2147483647 : Int32)) % (10 : Int32)) := ⟨_, rfl⟩
  have pre396 : ∀ t, Steps p.tables e below (s₁.setTop (mkF m 14 #[.val (.int p0), .val (.int p1), .val (.int p2), .val (.int p3), .val (.int p4), .val (.int (p1 ||| (1 : Int32))), .val (.int kq), .unset, .unset, .unset, .unset, .unset, .unset, .unset] [])) t → Steps p.tables e below (s₁.setTop (entryFrame m #[(.int p0), (.int p1), (.int p2), (.int p3), (.int p4)] maxLocals)) t := by subst hv_kq; exact pre395
  have pre397 : ∀ t, Steps p.tables e below (s₁.setTop (mkF m 23 #[.val (.int p0), .val (.int p1), .val (.int p2), .val (.int p3), .val (.int p4), .val (.int (p1 ||| (1 : Int32))), .val (.int kq), .val (.int ((p3 &&& (2147483647 : Int32)) % (9 : Int32))), .unset, .unset, .unset, .unset, .unset, .unset] [])) t → Steps p.tables e below (s₁.setTop (entryFrame m #[(.int p0), (.int p1), (.int p2), (.int p3), (.int p4)] maxLocals)) t := fun t kk => pre396 t (by
      show Steps p.tables e below (s₁.setTop (mkF m 14 #[.val (.int p0), .val (.int p1), .val (.int p2), .val (.int p3), .val (.int p4), .val (.int (p1 ||| (1 : Int32))), .val (.int kq), .unset, .unset, .unset, .unset, .unset, .unset, .unset] [])) _
      refine XS.iloadN X0.here hx rfl (hb hby at_14) rfl ?_
      show Steps p.tables e below (s₁.setTop (mkF m 15 #[.val (.int p0), .val (.int p1), .val (.int p2), .val (.int p3), .val (.int p4), .val (.int (p1 ||| (1 : Int32))), .val (.int kq), .unset, .unset, .unset, .unset, .unset, .unset, .unset] [(.int p3)])) _
      refine X0.ldcInt hx hown (mvT hZ (hw _ (List.mem_of_getElem? (i := 0) rfl))) (g := (mkF m 15 #[.val (.int p0), .val (.int p1), .val (.int p2), .val (.int p3), .val (.int p4), .val (.int (p1 ||| (1 : Int32))), .val (.int kq), .unset, .unset, .unset, .unset, .unset, .unset, .unset] [(.int p3)])) rfl (hb hby at_15) _ ?_
      show Steps p.tables e below (s₁.setTop (mkF m 17 #[.val (.int p0), .val (.int p1), .val (.int p2), .val (.int p3), .val (.int p4), .val (.int (p1 ||| (1 : Int32))), .val (.int kq), .unset, .unset, .unset, .unset, .unset, .unset, .unset] [(.int (2147483647 : Int32)), (.int p3)])) _
      refine XS.iand X0.here hx rfl (hb hby at_17) rfl ?_
      show Steps p.tables e below (s₁.setTop (mkF m 18 #[.val (.int p0), .val (.int p1), .val (.int p2), .val (.int p3), .val (.int p4), .val (.int (p1 ||| (1 : Int32))), .val (.int kq), .unset, .unset, .unset, .unset, .unset, .unset, .unset] [(.int (p3 &&& (2147483647 : Int32)))])) _
      refine XS.bipush X0.here hx rfl (hb hby at_18) ?_
      show Steps p.tables e below (s₁.setTop (mkF m 20 #[.val (.int p0), .val (.int p1), .val (.int p2), .val (.int p3), .val (.int p4), .val (.int (p1 ||| (1 : Int32))), .val (.int kq), .unset, .unset, .unset, .unset, .unset, .unset, .unset] [(.int (9 : Int32)), (.int (p3 &&& (2147483647 : Int32)))])) _
      refine iremM X0 hx rfl (hb hby at_20) rfl (by decide) ?_
      show Steps p.tables e below (s₁.setTop (mkF m 21 #[.val (.int p0), .val (.int p1), .val (.int p2), .val (.int p3), .val (.int p4), .val (.int (p1 ||| (1 : Int32))), .val (.int kq), .unset, .unset, .unset, .unset, .unset, .unset, .unset] [(.int ((p3 &&& (2147483647 : Int32)) % (9 : Int32)))])) _
      refine XS.istore X0.here hx rfl (hb hby at_21) rfl (l' := #[.val (.int p0), .val (.int p1), .val (.int p2), .val (.int p3), .val (.int p4), .val (.int (p1 ||| (1 : Int32))), .val (.int kq), .val (.int ((p3 &&& (2147483647 : Int32)) % (9 : Int32))), .unset, .unset, .unset, .unset, .unset, .unset]) rfl ?_
      exact kk)
  obtain ⟨jj, hv_jj⟩ : ∃ z : Int32, z = ((p3 &&& (2147483647 : Int32)) % (9 : Int32)) := ⟨_, rfl⟩
  have pre398 : ∀ t, Steps p.tables e below (s₁.setTop (mkF m 23 #[.val (.int p0), .val (.int p1), .val (.int p2), .val (.int p3), .val (.int p4), .val (.int (p1 ||| (1 : Int32))), .val (.int kq), .val (.int jj), .unset, .unset, .unset, .unset, .unset, .unset] [])) t → Steps p.tables e below (s₁.setTop (entryFrame m #[(.int p0), (.int p1), (.int p2), (.int p3), (.int p4)] maxLocals)) t := by subst hv_jj; exact pre397
  obtain ⟨ss, hv_ss⟩ : ∃ z : Int32, z = (p1 ||| (1 : Int32)) := ⟨_, rfl⟩
  have pre399 : ∀ t, Steps p.tables e below (s₁.setTop (mkF m 23 #[.val (.int p0), .val (.int p1), .val (.int p2), .val (.int p3), .val (.int p4), .val (.int ss), .val (.int kq), .val (.int jj), .unset, .unset, .unset, .unset, .unset, .unset] [])) t → Steps p.tables e below (s₁.setTop (entryFrame m #[(.int p0), (.int p1), (.int p2), (.int p3), (.int p4)] maxLocals)) t := by subst hv_ss; exact pre398
  obtain ⟨T400, h400, k400, X400, e400, E400, A400, O400, st400⟩ := newR X0 hx hZ hown (hw _ (List.mem_of_getElem? (i := 1) rfl)) (hw _ (List.mem_of_getElem? (i := 2) rfl)) e0 (g := (mkF m 25 #[.val (.int p0), .val (.int p1), .val (.int p2), .val (.int p3), .val (.int p4), .val (.int ss), .val (.int kq), .val (.int jj), .unset, .unset, .unset, .unset, .unset, .unset] [(.int (9 : Int32))])) rfl (hb hby at_25) rfl (by decide) (cap := 9) (by decide) (by decide) (by decide) (by decide)
  obtain ⟨b400, gq400⟩ : ∃ z, z = h0.size := ⟨_, rfl⟩
  rw [← gq400] at A400 st400
  have g_b400 : n0 ≤ b400 := Nat.le_trans Z0 (Nat.le_of_eq gq400.symm)
  have sz_b400 : h0.size ≤ b400 := Nat.le_trans (Nat.le_refl _) (Nat.le_of_eq gq400.symm)
  have K401 : Keep h0 h400 [] := (Keep.refl h0 _).ext E400
  have Av400 : Arv Z h400 b400 k400 (.object "com/example/redoubt/redoubt/storage/PageCache$Frame") (9 : Int32) ([.null, .null, .null, .null, .null, .null, .null, .null, .null] : List Value) .null := (Arv.new A400 (by decide)).pad (pad_rep [] .null 9)
  obtain ⟨_, _, ⟨T402, L402, k402, n402⟩, -, X402, ⟨Lc402, hQ402, l402, y402, z402⟩, st402⟩ := Jvm.LawKit.callS X400 hx (y := (⟨"com/example/redoubt/redoubt/storage/FrameTableClearPinLaw", "frame", "(I)Lcom/example/redoubt/redoubt/storage/PageCache$Frame;"⟩ : MethodName)) hown (mvT hZ (hw _ (List.mem_of_getElem? (i := 3) rfl))) (mvT hZ (hw _ (List.mem_of_getElem? (i := 4) rfl))) (mvT hZ (hw _ (List.mem_of_getElem? (i := 5) rfl))) (mvT hZ (hw _ (List.mem_of_getElem? (i := 6) rfl))) (by decide) (backOf (W := 2) (rmFrame l Z a0 hw [] p0 h400 n0 (Nat.le_trans Z0 K401.1)) hZ (hw _ (List.mem_of_getElem? (i := 6) rfl)) (hw _ (List.mem_of_getElem? (i := 5) rfl)) (by decide) (by decide)) (g := (mkF m 34 #[.val (.int p0), .val (.int p1), .val (.int p2), .val (.int p3), .val (.int p4), .val (.int ss), .val (.int kq), .val (.int jj), .val (.ref b400), .unset, .unset, .unset, .unset, .unset] [(.int p0), (.int (0 : Int32)), (.ref b400)])) rfl (by rw [hml]; rfl) (argsL := [(.int p0)]) (rest := [(.int (0 : Int32)), (.ref b400)]) (lenOf pd_3 rfl) rfl (by show 2 * 0 + _ ≤ _; exact Nat.le_of_eq rfl) (hb hby at_34) (fun _ _ => ⟨rfl, e400, (by decide : 1 + 2 ≤ _), (by decide : 9 + 8198 ≤ _)⟩)
  dsimp only [Pt.U, Pt.locs, Pt.cells, Pt.slots] at X402 l402 y402 z402 st402 hQ402
  rw [l402, y402, z402] at X402
  replace X402 := own_std X402 (cc := 3) (ss := 8207) rfl rfl
  obtain ⟨nb_402, rfl, N402q, K402q, sz402_nb, P402_0, P402_1⟩ := hQ402
  have N402 := Fr.app N0 N402q
  have ne403 : b400 ≠ nb_402 := Nat.ne_of_lt (Nat.lt_of_lt_of_le Av400.lt sz402_nb)
  have g_nb_402 : n0 ≤ nb_402 := Nat.le_trans (Nat.le_trans Z0 K401.1) sz402_nb
  have sz_nb_402 : h0.size ≤ nb_402 := Nat.le_trans K401.1 sz402_nb
  have Av404 : Arv Z T402.heap b400 k400 (.object "com/example/redoubt/redoubt/storage/PageCache$Frame") (9 : Int32) ([.null, .null, .null, .null, .null, .null, .null, .null, .null] : List Value) .null := (Av400.keep K402q nin0)
  have K405 : Keep h0 T402.heap [] := K401.trans K402q all0
  obtain ⟨cl406, Ar406, q406, Sz406, Nn406, H406, G406⟩ := id Av404
  have hin406 : ¬ ((0 : Int32) < 0 ∨ cl406.slots.size ≤ ((0 : Int32)).toNatClampNeg) := (inb_of Sz406 ⟨by decide, by decide⟩)
  obtain ⟨T407, h407, X407, e407, W407, st407⟩ := stR X402 hx hZ rfl Ar406 (j := (0 : Int32)) hin406 rfl (Sto.ofV Ar406 q406 O400 (Ins.self P402_0)) (g := (mkF m 37 #[.val (.int p0), .val (.int p1), .val (.int p2), .val (.int p3), .val (.int p4), .val (.int ss), .val (.int kq), .val (.int jj), .val (.ref b400), .unset, .unset, .unset, .unset, .unset] [(.ref nb_402), (.int (0 : Int32)), (.ref b400)])) rfl rfl (hb hby at_37)
  have Ex408 : Exa Z h407 nb_402 "com/example/redoubt/redoubt/storage/PageCache$Frame" := (P402_0.wr W407)
  have F409 : Fld Z h407 nb_402 "com/example/redoubt/redoubt/storage/PageCache$Frame" "page" "I" (.int p0) := (P402_1.other W407 (Or.inl (Ne.symm ne403)))
  have K410 : Keep h0 h407 [] := K405.wr W407 (Or.inr sz_b400)
  have N411 := Fr.snoc X407 N402 g_b400
  have Av407 : Arv Z h407 b400 k400 (.object "com/example/redoubt/redoubt/storage/PageCache$Frame") (9 : Int32) ([(.ref nb_402), .null, .null, .null, .null, .null, .null, .null, .null] : List Value) .null := Arv.set Ar406 q406 Sz406 Nn406 H406 G406 rfl W407 0 rfl (Nat.le_of_ble_eq_true rfl)
  obtain ⟨_, _, ⟨T412, L412, k412, n412⟩, -, X412, ⟨Lc412, hQ412, l412, y412, z412⟩, st412⟩ := Jvm.LawKit.callS X407 hx (y := (⟨"com/example/redoubt/redoubt/storage/FrameTableClearPinLaw", "frame", "(I)Lcom/example/redoubt/redoubt/storage/PageCache$Frame;"⟩ : MethodName)) hown (mvT hZ (hw _ (List.mem_of_getElem? (i := 3) rfl))) (mvT hZ (hw _ (List.mem_of_getElem? (i := 4) rfl))) (mvT hZ (hw _ (List.mem_of_getElem? (i := 5) rfl))) (mvT hZ (hw _ (List.mem_of_getElem? (i := 6) rfl))) (by decide) (backOf (W := 2) (rmFrame l Z a0 hw [] (p0 + ss) h407 n0 (Nat.le_trans Z0 K410.1)) hZ (hw _ (List.mem_of_getElem? (i := 6) rfl)) (hw _ (List.mem_of_getElem? (i := 5) rfl)) (by decide) (by decide)) (g := (mkF m 45 #[.val (.int p0), .val (.int p1), .val (.int p2), .val (.int p3), .val (.int p4), .val (.int ss), .val (.int kq), .val (.int jj), .val (.ref b400), .unset, .unset, .unset, .unset, .unset] [(.int (p0 + ss)), (.int (1 : Int32)), (.ref b400)])) rfl (by rw [hml]; rfl) (argsL := [(.int (p0 + ss))]) (rest := [(.int (1 : Int32)), (.ref b400)]) (lenOf pd_3 rfl) rfl (by show 2 * 0 + _ ≤ _; exact Nat.le_of_eq rfl) (hb hby at_45) (fun _ _ => ⟨rfl, e407, (by decide : 3 + 2 ≤ _), (by decide : 8207 + 8198 ≤ _)⟩)
  dsimp only [Pt.U, Pt.locs, Pt.cells, Pt.slots] at X412 l412 y412 z412 st412 hQ412
  rw [l412, y412, z412] at X412
  replace X412 := own_std X412 (cc := 5) (ss := 16405) rfl rfl
  obtain ⟨nb_412, rfl, N412q, K412q, sz412_nb, P412_0, P412_1⟩ := hQ412
  have N412 := Fr.app N411 N412q
  have ne413 : nb_402 ≠ nb_412 := Nat.ne_of_lt (Nat.lt_of_lt_of_le Ex408.lt sz412_nb)
  have ne414 : b400 ≠ nb_412 := Nat.ne_of_lt (Nat.lt_of_lt_of_le Av407.lt sz412_nb)
  have g_nb_412 : n0 ≤ nb_412 := Nat.le_trans (Nat.le_trans Z0 K410.1) sz412_nb
  have sz_nb_412 : h0.size ≤ nb_412 := Nat.le_trans K410.1 sz412_nb
  have Ex415 : Exa Z T412.heap nb_402 "com/example/redoubt/redoubt/storage/PageCache$Frame" := (Ex408.keep K412q)
  have F416 : Fld Z T412.heap nb_402 "com/example/redoubt/redoubt/storage/PageCache$Frame" "page" "I" (.int p0) := (F409.keep K412q nin0)
  have Av417 : Arv Z T412.heap b400 k400 (.object "com/example/redoubt/redoubt/storage/PageCache$Frame") (9 : Int32) ([(.ref nb_402), .null, .null, .null, .null, .null, .null, .null, .null] : List Value) .null := (Av407.keep K412q nin0)
  have K418 : Keep h0 T412.heap [] := K410.trans K412q all0
  obtain ⟨cl419, Ar419, q419, Sz419, Nn419, H419, G419⟩ := id Av417
  have hin419 : ¬ ((1 : Int32) < 0 ∨ cl419.slots.size ≤ ((1 : Int32)).toNatClampNeg) := (inb_of Sz419 ⟨by decide, by decide⟩)
  obtain ⟨T420, h420, X420, e420, W420, st420⟩ := stR X412 hx hZ rfl Ar419 (j := (1 : Int32)) hin419 rfl (Sto.ofV Ar419 q419 O400 (Ins.self P412_0)) (g := (mkF m 48 #[.val (.int p0), .val (.int p1), .val (.int p2), .val (.int p3), .val (.int p4), .val (.int ss), .val (.int kq), .val (.int jj), .val (.ref b400), .unset, .unset, .unset, .unset, .unset] [(.ref nb_412), (.int (1 : Int32)), (.ref b400)])) rfl rfl (hb hby at_48)
  have Ex421 : Exa Z h420 nb_402 "com/example/redoubt/redoubt/storage/PageCache$Frame" := (Ex415.wr W420)
  have F422 : Fld Z h420 nb_402 "com/example/redoubt/redoubt/storage/PageCache$Frame" "page" "I" (.int p0) := (F416.other W420 (Or.inl (Ne.symm ne403)))
  have Ex423 : Exa Z h420 nb_412 "com/example/redoubt/redoubt/storage/PageCache$Frame" := (P412_0.wr W420)
  have F424 : Fld Z h420 nb_412 "com/example/redoubt/redoubt/storage/PageCache$Frame" "page" "I" (.int (p0 + ss)) := (P412_1.other W420 (Or.inl (Ne.symm ne414)))
  have K425 : Keep h0 h420 [] := K418.wr W420 (Or.inr sz_b400)
  have N426 := Fr.snoc X420 N412 g_b400
  have Av420 : Arv Z h420 b400 k400 (.object "com/example/redoubt/redoubt/storage/PageCache$Frame") (9 : Int32) ([(.ref nb_402), (.ref nb_412), .null, .null, .null, .null, .null, .null, .null] : List Value) .null := Arv.set Ar419 q419 Sz419 Nn419 H419 G419 rfl W420 1 rfl (Nat.le_of_ble_eq_true rfl)
  obtain ⟨_, _, ⟨T427, L427, k427, n427⟩, -, X427, ⟨Lc427, hQ427, l427, y427, z427⟩, st427⟩ := Jvm.LawKit.callS X420 hx (y := (⟨"com/example/redoubt/redoubt/storage/FrameTableClearPinLaw", "frame", "(I)Lcom/example/redoubt/redoubt/storage/PageCache$Frame;"⟩ : MethodName)) hown (mvT hZ (hw _ (List.mem_of_getElem? (i := 3) rfl))) (mvT hZ (hw _ (List.mem_of_getElem? (i := 4) rfl))) (mvT hZ (hw _ (List.mem_of_getElem? (i := 5) rfl))) (mvT hZ (hw _ (List.mem_of_getElem? (i := 6) rfl))) (by decide) (backOf (W := 2) (rmFrame l Z a0 hw [] (p0 + ((2 : Int32) * ss)) h420 n0 (Nat.le_trans Z0 K425.1)) hZ (hw _ (List.mem_of_getElem? (i := 6) rfl)) (hw _ (List.mem_of_getElem? (i := 5) rfl)) (by decide) (by decide)) (g := (mkF m 58 #[.val (.int p0), .val (.int p1), .val (.int p2), .val (.int p3), .val (.int p4), .val (.int ss), .val (.int kq), .val (.int jj), .val (.ref b400), .unset, .unset, .unset, .unset, .unset] [(.int (p0 + ((2 : Int32) * ss))), (.int (2 : Int32)), (.ref b400)])) rfl (by rw [hml]; rfl) (argsL := [(.int (p0 + ((2 : Int32) * ss)))]) (rest := [(.int (2 : Int32)), (.ref b400)]) (lenOf pd_3 rfl) rfl (by show 2 * 0 + _ ≤ _; exact Nat.le_of_eq rfl) (hb hby at_58) (fun _ _ => ⟨rfl, e420, (by decide : 5 + 2 ≤ _), (by decide : 16405 + 8198 ≤ _)⟩)
  dsimp only [Pt.U, Pt.locs, Pt.cells, Pt.slots] at X427 l427 y427 z427 st427 hQ427
  rw [l427, y427, z427] at X427
  replace X427 := own_std X427 (cc := 7) (ss := 24603) rfl rfl
  obtain ⟨nb_427, rfl, N427q, K427q, sz427_nb, P427_0, P427_1⟩ := hQ427
  have N427 := Fr.app N426 N427q
  have ne428 : nb_402 ≠ nb_427 := Nat.ne_of_lt (Nat.lt_of_lt_of_le Ex421.lt sz427_nb)
  have ne429 : nb_412 ≠ nb_427 := Nat.ne_of_lt (Nat.lt_of_lt_of_le Ex423.lt sz427_nb)
  have ne430 : b400 ≠ nb_427 := Nat.ne_of_lt (Nat.lt_of_lt_of_le Av420.lt sz427_nb)
  have g_nb_427 : n0 ≤ nb_427 := Nat.le_trans (Nat.le_trans Z0 K425.1) sz427_nb
  have sz_nb_427 : h0.size ≤ nb_427 := Nat.le_trans K425.1 sz427_nb
  have Ex431 : Exa Z T427.heap nb_402 "com/example/redoubt/redoubt/storage/PageCache$Frame" := (Ex421.keep K427q)
  have F432 : Fld Z T427.heap nb_402 "com/example/redoubt/redoubt/storage/PageCache$Frame" "page" "I" (.int p0) := (F422.keep K427q nin0)
  have Ex433 : Exa Z T427.heap nb_412 "com/example/redoubt/redoubt/storage/PageCache$Frame" := (Ex423.keep K427q)
  have F434 : Fld Z T427.heap nb_412 "com/example/redoubt/redoubt/storage/PageCache$Frame" "page" "I" (.int (p0 + ss)) := (F424.keep K427q nin0)
  have Av435 : Arv Z T427.heap b400 k400 (.object "com/example/redoubt/redoubt/storage/PageCache$Frame") (9 : Int32) ([(.ref nb_402), (.ref nb_412), .null, .null, .null, .null, .null, .null, .null] : List Value) .null := (Av420.keep K427q nin0)
  have K436 : Keep h0 T427.heap [] := K425.trans K427q all0
  obtain ⟨cl437, Ar437, q437, Sz437, Nn437, H437, G437⟩ := id Av435
  have hin437 : ¬ ((2 : Int32) < 0 ∨ cl437.slots.size ≤ ((2 : Int32)).toNatClampNeg) := (inb_of Sz437 ⟨by decide, by decide⟩)
  obtain ⟨T438, h438, X438, e438, W438, st438⟩ := stR X427 hx hZ rfl Ar437 (j := (2 : Int32)) hin437 rfl (Sto.ofV Ar437 q437 O400 (Ins.self P427_0)) (g := (mkF m 61 #[.val (.int p0), .val (.int p1), .val (.int p2), .val (.int p3), .val (.int p4), .val (.int ss), .val (.int kq), .val (.int jj), .val (.ref b400), .unset, .unset, .unset, .unset, .unset] [(.ref nb_427), (.int (2 : Int32)), (.ref b400)])) rfl rfl (hb hby at_61)
  have Ex439 : Exa Z h438 nb_402 "com/example/redoubt/redoubt/storage/PageCache$Frame" := (Ex431.wr W438)
  have F440 : Fld Z h438 nb_402 "com/example/redoubt/redoubt/storage/PageCache$Frame" "page" "I" (.int p0) := (F432.other W438 (Or.inl (Ne.symm ne403)))
  have Ex441 : Exa Z h438 nb_412 "com/example/redoubt/redoubt/storage/PageCache$Frame" := (Ex433.wr W438)
  have F442 : Fld Z h438 nb_412 "com/example/redoubt/redoubt/storage/PageCache$Frame" "page" "I" (.int (p0 + ss)) := (F434.other W438 (Or.inl (Ne.symm ne414)))
  have Ex443 : Exa Z h438 nb_427 "com/example/redoubt/redoubt/storage/PageCache$Frame" := (P427_0.wr W438)
  have F444 : Fld Z h438 nb_427 "com/example/redoubt/redoubt/storage/PageCache$Frame" "page" "I" (.int (p0 + ((2 : Int32) * ss))) := (P427_1.other W438 (Or.inl (Ne.symm ne430)))
  have K445 : Keep h0 h438 [] := K436.wr W438 (Or.inr sz_b400)
  have N446 := Fr.snoc X438 N427 g_b400
  have Av438 : Arv Z h438 b400 k400 (.object "com/example/redoubt/redoubt/storage/PageCache$Frame") (9 : Int32) ([(.ref nb_402), (.ref nb_412), (.ref nb_427), .null, .null, .null, .null, .null, .null] : List Value) .null := Arv.set Ar437 q437 Sz437 Nn437 H437 G437 rfl W438 2 rfl (Nat.le_of_ble_eq_true rfl)
  obtain ⟨_, _, ⟨T447, L447, k447, n447⟩, -, X447, ⟨Lc447, hQ447, l447, y447, z447⟩, st447⟩ := Jvm.LawKit.callS X438 hx (y := (⟨"com/example/redoubt/redoubt/storage/FrameTableClearPinLaw", "frame", "(I)Lcom/example/redoubt/redoubt/storage/PageCache$Frame;"⟩ : MethodName)) hown (mvT hZ (hw _ (List.mem_of_getElem? (i := 3) rfl))) (mvT hZ (hw _ (List.mem_of_getElem? (i := 4) rfl))) (mvT hZ (hw _ (List.mem_of_getElem? (i := 5) rfl))) (mvT hZ (hw _ (List.mem_of_getElem? (i := 6) rfl))) (by decide) (backOf (W := 2) (rmFrame l Z a0 hw [] (p0 + ((3 : Int32) * ss)) h438 n0 (Nat.le_trans Z0 K445.1)) hZ (hw _ (List.mem_of_getElem? (i := 6) rfl)) (hw _ (List.mem_of_getElem? (i := 5) rfl)) (by decide) (by decide)) (g := (mkF m 71 #[.val (.int p0), .val (.int p1), .val (.int p2), .val (.int p3), .val (.int p4), .val (.int ss), .val (.int kq), .val (.int jj), .val (.ref b400), .unset, .unset, .unset, .unset, .unset] [(.int (p0 + ((3 : Int32) * ss))), (.int (3 : Int32)), (.ref b400)])) rfl (by rw [hml]; rfl) (argsL := [(.int (p0 + ((3 : Int32) * ss)))]) (rest := [(.int (3 : Int32)), (.ref b400)]) (lenOf pd_3 rfl) rfl (by show 2 * 0 + _ ≤ _; exact Nat.le_of_eq rfl) (hb hby at_71) (fun _ _ => ⟨rfl, e438, (by decide : 7 + 2 ≤ _), (by decide : 24603 + 8198 ≤ _)⟩)
  dsimp only [Pt.U, Pt.locs, Pt.cells, Pt.slots] at X447 l447 y447 z447 st447 hQ447
  rw [l447, y447, z447] at X447
  replace X447 := own_std X447 (cc := 9) (ss := 32801) rfl rfl
  obtain ⟨nb_447, rfl, N447q, K447q, sz447_nb, P447_0, P447_1⟩ := hQ447
  have N447 := Fr.app N446 N447q
  have ne448 : nb_402 ≠ nb_447 := Nat.ne_of_lt (Nat.lt_of_lt_of_le Ex439.lt sz447_nb)
  have ne449 : nb_412 ≠ nb_447 := Nat.ne_of_lt (Nat.lt_of_lt_of_le Ex441.lt sz447_nb)
  have ne450 : nb_427 ≠ nb_447 := Nat.ne_of_lt (Nat.lt_of_lt_of_le Ex443.lt sz447_nb)
  have ne451 : b400 ≠ nb_447 := Nat.ne_of_lt (Nat.lt_of_lt_of_le Av438.lt sz447_nb)
  have g_nb_447 : n0 ≤ nb_447 := Nat.le_trans (Nat.le_trans Z0 K445.1) sz447_nb
  have sz_nb_447 : h0.size ≤ nb_447 := Nat.le_trans K445.1 sz447_nb
  have Ex452 : Exa Z T447.heap nb_402 "com/example/redoubt/redoubt/storage/PageCache$Frame" := (Ex439.keep K447q)
  have F453 : Fld Z T447.heap nb_402 "com/example/redoubt/redoubt/storage/PageCache$Frame" "page" "I" (.int p0) := (F440.keep K447q nin0)
  have Ex454 : Exa Z T447.heap nb_412 "com/example/redoubt/redoubt/storage/PageCache$Frame" := (Ex441.keep K447q)
  have F455 : Fld Z T447.heap nb_412 "com/example/redoubt/redoubt/storage/PageCache$Frame" "page" "I" (.int (p0 + ss)) := (F442.keep K447q nin0)
  have Ex456 : Exa Z T447.heap nb_427 "com/example/redoubt/redoubt/storage/PageCache$Frame" := (Ex443.keep K447q)
  have F457 : Fld Z T447.heap nb_427 "com/example/redoubt/redoubt/storage/PageCache$Frame" "page" "I" (.int (p0 + ((2 : Int32) * ss))) := (F444.keep K447q nin0)
  have Av458 : Arv Z T447.heap b400 k400 (.object "com/example/redoubt/redoubt/storage/PageCache$Frame") (9 : Int32) ([(.ref nb_402), (.ref nb_412), (.ref nb_427), .null, .null, .null, .null, .null, .null] : List Value) .null := (Av438.keep K447q nin0)
  have K459 : Keep h0 T447.heap [] := K445.trans K447q all0
  obtain ⟨cl460, Ar460, q460, Sz460, Nn460, H460, G460⟩ := id Av458
  have hin460 : ¬ ((3 : Int32) < 0 ∨ cl460.slots.size ≤ ((3 : Int32)).toNatClampNeg) := (inb_of Sz460 ⟨by decide, by decide⟩)
  obtain ⟨T461, h461, X461, e461, W461, st461⟩ := stR X447 hx hZ rfl Ar460 (j := (3 : Int32)) hin460 rfl (Sto.ofV Ar460 q460 O400 (Ins.self P447_0)) (g := (mkF m 74 #[.val (.int p0), .val (.int p1), .val (.int p2), .val (.int p3), .val (.int p4), .val (.int ss), .val (.int kq), .val (.int jj), .val (.ref b400), .unset, .unset, .unset, .unset, .unset] [(.ref nb_447), (.int (3 : Int32)), (.ref b400)])) rfl rfl (hb hby at_74)
  have Ex462 : Exa Z h461 nb_402 "com/example/redoubt/redoubt/storage/PageCache$Frame" := (Ex452.wr W461)
  have F463 : Fld Z h461 nb_402 "com/example/redoubt/redoubt/storage/PageCache$Frame" "page" "I" (.int p0) := (F453.other W461 (Or.inl (Ne.symm ne403)))
  have Ex464 : Exa Z h461 nb_412 "com/example/redoubt/redoubt/storage/PageCache$Frame" := (Ex454.wr W461)
  have F465 : Fld Z h461 nb_412 "com/example/redoubt/redoubt/storage/PageCache$Frame" "page" "I" (.int (p0 + ss)) := (F455.other W461 (Or.inl (Ne.symm ne414)))
  have Ex466 : Exa Z h461 nb_427 "com/example/redoubt/redoubt/storage/PageCache$Frame" := (Ex456.wr W461)
  have F467 : Fld Z h461 nb_427 "com/example/redoubt/redoubt/storage/PageCache$Frame" "page" "I" (.int (p0 + ((2 : Int32) * ss))) := (F457.other W461 (Or.inl (Ne.symm ne430)))
  have Ex468 : Exa Z h461 nb_447 "com/example/redoubt/redoubt/storage/PageCache$Frame" := (P447_0.wr W461)
  have F469 : Fld Z h461 nb_447 "com/example/redoubt/redoubt/storage/PageCache$Frame" "page" "I" (.int (p0 + ((3 : Int32) * ss))) := (P447_1.other W461 (Or.inl (Ne.symm ne451)))
  have K470 : Keep h0 h461 [] := K459.wr W461 (Or.inr sz_b400)
  have N471 := Fr.snoc X461 N447 g_b400
  have Av461 : Arv Z h461 b400 k400 (.object "com/example/redoubt/redoubt/storage/PageCache$Frame") (9 : Int32) ([(.ref nb_402), (.ref nb_412), (.ref nb_427), (.ref nb_447), .null, .null, .null, .null, .null] : List Value) .null := Arv.set Ar460 q460 Sz460 Nn460 H460 G460 rfl W461 3 rfl (Nat.le_of_ble_eq_true rfl)
  obtain ⟨_, _, ⟨T472, L472, k472, n472⟩, -, X472, ⟨Lc472, hQ472, l472, y472, z472⟩, st472⟩ := Jvm.LawKit.callS X461 hx (y := (⟨"com/example/redoubt/redoubt/storage/FrameTableClearPinLaw", "frame", "(I)Lcom/example/redoubt/redoubt/storage/PageCache$Frame;"⟩ : MethodName)) hown (mvT hZ (hw _ (List.mem_of_getElem? (i := 3) rfl))) (mvT hZ (hw _ (List.mem_of_getElem? (i := 4) rfl))) (mvT hZ (hw _ (List.mem_of_getElem? (i := 5) rfl))) (mvT hZ (hw _ (List.mem_of_getElem? (i := 6) rfl))) (by decide) (backOf (W := 2) (rmFrame l Z a0 hw [] (p0 + ((4 : Int32) * ss)) h461 n0 (Nat.le_trans Z0 K470.1)) hZ (hw _ (List.mem_of_getElem? (i := 6) rfl)) (hw _ (List.mem_of_getElem? (i := 5) rfl)) (by decide) (by decide)) (g := (mkF m 84 #[.val (.int p0), .val (.int p1), .val (.int p2), .val (.int p3), .val (.int p4), .val (.int ss), .val (.int kq), .val (.int jj), .val (.ref b400), .unset, .unset, .unset, .unset, .unset] [(.int (p0 + ((4 : Int32) * ss))), (.int (4 : Int32)), (.ref b400)])) rfl (by rw [hml]; rfl) (argsL := [(.int (p0 + ((4 : Int32) * ss)))]) (rest := [(.int (4 : Int32)), (.ref b400)]) (lenOf pd_3 rfl) rfl (by show 2 * 0 + _ ≤ _; exact Nat.le_of_eq rfl) (hb hby at_84) (fun _ _ => ⟨rfl, e461, (by decide : 9 + 2 ≤ _), (by decide : 32801 + 8198 ≤ _)⟩)
  dsimp only [Pt.U, Pt.locs, Pt.cells, Pt.slots] at X472 l472 y472 z472 st472 hQ472
  rw [l472, y472, z472] at X472
  replace X472 := own_std X472 (cc := 11) (ss := 40999) rfl rfl
  obtain ⟨nb_472, rfl, N472q, K472q, sz472_nb, P472_0, P472_1⟩ := hQ472
  have N472 := Fr.app N471 N472q
  have ne473 : nb_402 ≠ nb_472 := Nat.ne_of_lt (Nat.lt_of_lt_of_le Ex462.lt sz472_nb)
  have ne474 : nb_412 ≠ nb_472 := Nat.ne_of_lt (Nat.lt_of_lt_of_le Ex464.lt sz472_nb)
  have ne475 : nb_427 ≠ nb_472 := Nat.ne_of_lt (Nat.lt_of_lt_of_le Ex466.lt sz472_nb)
  have ne476 : nb_447 ≠ nb_472 := Nat.ne_of_lt (Nat.lt_of_lt_of_le Ex468.lt sz472_nb)
  have ne477 : b400 ≠ nb_472 := Nat.ne_of_lt (Nat.lt_of_lt_of_le Av461.lt sz472_nb)
  have g_nb_472 : n0 ≤ nb_472 := Nat.le_trans (Nat.le_trans Z0 K470.1) sz472_nb
  have sz_nb_472 : h0.size ≤ nb_472 := Nat.le_trans K470.1 sz472_nb
  have Ex478 : Exa Z T472.heap nb_402 "com/example/redoubt/redoubt/storage/PageCache$Frame" := (Ex462.keep K472q)
  have F479 : Fld Z T472.heap nb_402 "com/example/redoubt/redoubt/storage/PageCache$Frame" "page" "I" (.int p0) := (F463.keep K472q nin0)
  have Ex480 : Exa Z T472.heap nb_412 "com/example/redoubt/redoubt/storage/PageCache$Frame" := (Ex464.keep K472q)
  have F481 : Fld Z T472.heap nb_412 "com/example/redoubt/redoubt/storage/PageCache$Frame" "page" "I" (.int (p0 + ss)) := (F465.keep K472q nin0)
  have Ex482 : Exa Z T472.heap nb_427 "com/example/redoubt/redoubt/storage/PageCache$Frame" := (Ex466.keep K472q)
  have F483 : Fld Z T472.heap nb_427 "com/example/redoubt/redoubt/storage/PageCache$Frame" "page" "I" (.int (p0 + ((2 : Int32) * ss))) := (F467.keep K472q nin0)
  have Ex484 : Exa Z T472.heap nb_447 "com/example/redoubt/redoubt/storage/PageCache$Frame" := (Ex468.keep K472q)
  have F485 : Fld Z T472.heap nb_447 "com/example/redoubt/redoubt/storage/PageCache$Frame" "page" "I" (.int (p0 + ((3 : Int32) * ss))) := (F469.keep K472q nin0)
  have Av486 : Arv Z T472.heap b400 k400 (.object "com/example/redoubt/redoubt/storage/PageCache$Frame") (9 : Int32) ([(.ref nb_402), (.ref nb_412), (.ref nb_427), (.ref nb_447), .null, .null, .null, .null, .null] : List Value) .null := (Av461.keep K472q nin0)
  have K487 : Keep h0 T472.heap [] := K470.trans K472q all0
  obtain ⟨cl488, Ar488, q488, Sz488, Nn488, H488, G488⟩ := id Av486
  have hin488 : ¬ ((4 : Int32) < 0 ∨ cl488.slots.size ≤ ((4 : Int32)).toNatClampNeg) := (inb_of Sz488 ⟨by decide, by decide⟩)
  obtain ⟨T489, h489, X489, e489, W489, st489⟩ := stR X472 hx hZ rfl Ar488 (j := (4 : Int32)) hin488 rfl (Sto.ofV Ar488 q488 O400 (Ins.self P472_0)) (g := (mkF m 87 #[.val (.int p0), .val (.int p1), .val (.int p2), .val (.int p3), .val (.int p4), .val (.int ss), .val (.int kq), .val (.int jj), .val (.ref b400), .unset, .unset, .unset, .unset, .unset] [(.ref nb_472), (.int (4 : Int32)), (.ref b400)])) rfl rfl (hb hby at_87)
  have Ex490 : Exa Z h489 nb_402 "com/example/redoubt/redoubt/storage/PageCache$Frame" := (Ex478.wr W489)
  have F491 : Fld Z h489 nb_402 "com/example/redoubt/redoubt/storage/PageCache$Frame" "page" "I" (.int p0) := (F479.other W489 (Or.inl (Ne.symm ne403)))
  have Ex492 : Exa Z h489 nb_412 "com/example/redoubt/redoubt/storage/PageCache$Frame" := (Ex480.wr W489)
  have F493 : Fld Z h489 nb_412 "com/example/redoubt/redoubt/storage/PageCache$Frame" "page" "I" (.int (p0 + ss)) := (F481.other W489 (Or.inl (Ne.symm ne414)))
  have Ex494 : Exa Z h489 nb_427 "com/example/redoubt/redoubt/storage/PageCache$Frame" := (Ex482.wr W489)
  have F495 : Fld Z h489 nb_427 "com/example/redoubt/redoubt/storage/PageCache$Frame" "page" "I" (.int (p0 + ((2 : Int32) * ss))) := (F483.other W489 (Or.inl (Ne.symm ne430)))
  have Ex496 : Exa Z h489 nb_447 "com/example/redoubt/redoubt/storage/PageCache$Frame" := (Ex484.wr W489)
  have F497 : Fld Z h489 nb_447 "com/example/redoubt/redoubt/storage/PageCache$Frame" "page" "I" (.int (p0 + ((3 : Int32) * ss))) := (F485.other W489 (Or.inl (Ne.symm ne451)))
  have Ex498 : Exa Z h489 nb_472 "com/example/redoubt/redoubt/storage/PageCache$Frame" := (P472_0.wr W489)
  have F499 : Fld Z h489 nb_472 "com/example/redoubt/redoubt/storage/PageCache$Frame" "page" "I" (.int (p0 + ((4 : Int32) * ss))) := (P472_1.other W489 (Or.inl (Ne.symm ne477)))
  have K500 : Keep h0 h489 [] := K487.wr W489 (Or.inr sz_b400)
  have N501 := Fr.snoc X489 N472 g_b400
  have Av489 : Arv Z h489 b400 k400 (.object "com/example/redoubt/redoubt/storage/PageCache$Frame") (9 : Int32) ([(.ref nb_402), (.ref nb_412), (.ref nb_427), (.ref nb_447), (.ref nb_472), .null, .null, .null, .null] : List Value) .null := Arv.set Ar488 q488 Sz488 Nn488 H488 G488 rfl W489 4 rfl (Nat.le_of_ble_eq_true rfl)
  obtain ⟨_, _, ⟨T502, L502, k502, n502⟩, -, X502, ⟨Lc502, hQ502, l502, y502, z502⟩, st502⟩ := Jvm.LawKit.callS X489 hx (y := (⟨"com/example/redoubt/redoubt/storage/FrameTableClearPinLaw", "frame", "(I)Lcom/example/redoubt/redoubt/storage/PageCache$Frame;"⟩ : MethodName)) hown (mvT hZ (hw _ (List.mem_of_getElem? (i := 3) rfl))) (mvT hZ (hw _ (List.mem_of_getElem? (i := 4) rfl))) (mvT hZ (hw _ (List.mem_of_getElem? (i := 5) rfl))) (mvT hZ (hw _ (List.mem_of_getElem? (i := 6) rfl))) (by decide) (backOf (W := 2) (rmFrame l Z a0 hw [] (p0 + ((5 : Int32) * ss)) h489 n0 (Nat.le_trans Z0 K500.1)) hZ (hw _ (List.mem_of_getElem? (i := 6) rfl)) (hw _ (List.mem_of_getElem? (i := 5) rfl)) (by decide) (by decide)) (g := (mkF m 97 #[.val (.int p0), .val (.int p1), .val (.int p2), .val (.int p3), .val (.int p4), .val (.int ss), .val (.int kq), .val (.int jj), .val (.ref b400), .unset, .unset, .unset, .unset, .unset] [(.int (p0 + ((5 : Int32) * ss))), (.int (5 : Int32)), (.ref b400)])) rfl (by rw [hml]; rfl) (argsL := [(.int (p0 + ((5 : Int32) * ss)))]) (rest := [(.int (5 : Int32)), (.ref b400)]) (lenOf pd_3 rfl) rfl (by show 2 * 0 + _ ≤ _; exact Nat.le_of_eq rfl) (hb hby at_97) (fun _ _ => ⟨rfl, e489, (by decide : 11 + 2 ≤ _), (by decide : 40999 + 8198 ≤ _)⟩)
  dsimp only [Pt.U, Pt.locs, Pt.cells, Pt.slots] at X502 l502 y502 z502 st502 hQ502
  rw [l502, y502, z502] at X502
  replace X502 := own_std X502 (cc := 13) (ss := 49197) rfl rfl
  obtain ⟨nb_502, rfl, N502q, K502q, sz502_nb, P502_0, P502_1⟩ := hQ502
  have N502 := Fr.app N501 N502q
  have ne503 : nb_402 ≠ nb_502 := Nat.ne_of_lt (Nat.lt_of_lt_of_le Ex490.lt sz502_nb)
  have ne504 : nb_412 ≠ nb_502 := Nat.ne_of_lt (Nat.lt_of_lt_of_le Ex492.lt sz502_nb)
  have ne505 : nb_427 ≠ nb_502 := Nat.ne_of_lt (Nat.lt_of_lt_of_le Ex494.lt sz502_nb)
  have ne506 : nb_447 ≠ nb_502 := Nat.ne_of_lt (Nat.lt_of_lt_of_le Ex496.lt sz502_nb)
  have ne507 : nb_472 ≠ nb_502 := Nat.ne_of_lt (Nat.lt_of_lt_of_le Ex498.lt sz502_nb)
  have ne508 : b400 ≠ nb_502 := Nat.ne_of_lt (Nat.lt_of_lt_of_le Av489.lt sz502_nb)
  have g_nb_502 : n0 ≤ nb_502 := Nat.le_trans (Nat.le_trans Z0 K500.1) sz502_nb
  have sz_nb_502 : h0.size ≤ nb_502 := Nat.le_trans K500.1 sz502_nb
  have Ex509 : Exa Z T502.heap nb_402 "com/example/redoubt/redoubt/storage/PageCache$Frame" := (Ex490.keep K502q)
  have F510 : Fld Z T502.heap nb_402 "com/example/redoubt/redoubt/storage/PageCache$Frame" "page" "I" (.int p0) := (F491.keep K502q nin0)
  have Ex511 : Exa Z T502.heap nb_412 "com/example/redoubt/redoubt/storage/PageCache$Frame" := (Ex492.keep K502q)
  have F512 : Fld Z T502.heap nb_412 "com/example/redoubt/redoubt/storage/PageCache$Frame" "page" "I" (.int (p0 + ss)) := (F493.keep K502q nin0)
  have Ex513 : Exa Z T502.heap nb_427 "com/example/redoubt/redoubt/storage/PageCache$Frame" := (Ex494.keep K502q)
  have F514 : Fld Z T502.heap nb_427 "com/example/redoubt/redoubt/storage/PageCache$Frame" "page" "I" (.int (p0 + ((2 : Int32) * ss))) := (F495.keep K502q nin0)
  have Ex515 : Exa Z T502.heap nb_447 "com/example/redoubt/redoubt/storage/PageCache$Frame" := (Ex496.keep K502q)
  have F516 : Fld Z T502.heap nb_447 "com/example/redoubt/redoubt/storage/PageCache$Frame" "page" "I" (.int (p0 + ((3 : Int32) * ss))) := (F497.keep K502q nin0)
  have Ex517 : Exa Z T502.heap nb_472 "com/example/redoubt/redoubt/storage/PageCache$Frame" := (Ex498.keep K502q)
  have F518 : Fld Z T502.heap nb_472 "com/example/redoubt/redoubt/storage/PageCache$Frame" "page" "I" (.int (p0 + ((4 : Int32) * ss))) := (F499.keep K502q nin0)
  have Av519 : Arv Z T502.heap b400 k400 (.object "com/example/redoubt/redoubt/storage/PageCache$Frame") (9 : Int32) ([(.ref nb_402), (.ref nb_412), (.ref nb_427), (.ref nb_447), (.ref nb_472), .null, .null, .null, .null] : List Value) .null := (Av489.keep K502q nin0)
  have K520 : Keep h0 T502.heap [] := K500.trans K502q all0
  obtain ⟨cl521, Ar521, q521, Sz521, Nn521, H521, G521⟩ := id Av519
  have hin521 : ¬ ((5 : Int32) < 0 ∨ cl521.slots.size ≤ ((5 : Int32)).toNatClampNeg) := (inb_of Sz521 ⟨by decide, by decide⟩)
  obtain ⟨T522, h522, X522, e522, W522, st522⟩ := stR X502 hx hZ rfl Ar521 (j := (5 : Int32)) hin521 rfl (Sto.ofV Ar521 q521 O400 (Ins.self P502_0)) (g := (mkF m 100 #[.val (.int p0), .val (.int p1), .val (.int p2), .val (.int p3), .val (.int p4), .val (.int ss), .val (.int kq), .val (.int jj), .val (.ref b400), .unset, .unset, .unset, .unset, .unset] [(.ref nb_502), (.int (5 : Int32)), (.ref b400)])) rfl rfl (hb hby at_100)
  have Ex523 : Exa Z h522 nb_402 "com/example/redoubt/redoubt/storage/PageCache$Frame" := (Ex509.wr W522)
  have F524 : Fld Z h522 nb_402 "com/example/redoubt/redoubt/storage/PageCache$Frame" "page" "I" (.int p0) := (F510.other W522 (Or.inl (Ne.symm ne403)))
  have Ex525 : Exa Z h522 nb_412 "com/example/redoubt/redoubt/storage/PageCache$Frame" := (Ex511.wr W522)
  have F526 : Fld Z h522 nb_412 "com/example/redoubt/redoubt/storage/PageCache$Frame" "page" "I" (.int (p0 + ss)) := (F512.other W522 (Or.inl (Ne.symm ne414)))
  have Ex527 : Exa Z h522 nb_427 "com/example/redoubt/redoubt/storage/PageCache$Frame" := (Ex513.wr W522)
  have F528 : Fld Z h522 nb_427 "com/example/redoubt/redoubt/storage/PageCache$Frame" "page" "I" (.int (p0 + ((2 : Int32) * ss))) := (F514.other W522 (Or.inl (Ne.symm ne430)))
  have Ex529 : Exa Z h522 nb_447 "com/example/redoubt/redoubt/storage/PageCache$Frame" := (Ex515.wr W522)
  have F530 : Fld Z h522 nb_447 "com/example/redoubt/redoubt/storage/PageCache$Frame" "page" "I" (.int (p0 + ((3 : Int32) * ss))) := (F516.other W522 (Or.inl (Ne.symm ne451)))
  have Ex531 : Exa Z h522 nb_472 "com/example/redoubt/redoubt/storage/PageCache$Frame" := (Ex517.wr W522)
  have F532 : Fld Z h522 nb_472 "com/example/redoubt/redoubt/storage/PageCache$Frame" "page" "I" (.int (p0 + ((4 : Int32) * ss))) := (F518.other W522 (Or.inl (Ne.symm ne477)))
  have Ex533 : Exa Z h522 nb_502 "com/example/redoubt/redoubt/storage/PageCache$Frame" := (P502_0.wr W522)
  have F534 : Fld Z h522 nb_502 "com/example/redoubt/redoubt/storage/PageCache$Frame" "page" "I" (.int (p0 + ((5 : Int32) * ss))) := (P502_1.other W522 (Or.inl (Ne.symm ne508)))
  have K535 : Keep h0 h522 [] := K520.wr W522 (Or.inr sz_b400)
  have N536 := Fr.snoc X522 N502 g_b400
  have Av522 : Arv Z h522 b400 k400 (.object "com/example/redoubt/redoubt/storage/PageCache$Frame") (9 : Int32) ([(.ref nb_402), (.ref nb_412), (.ref nb_427), (.ref nb_447), (.ref nb_472), (.ref nb_502), .null, .null, .null] : List Value) .null := Arv.set Ar521 q521 Sz521 Nn521 H521 G521 rfl W522 5 rfl (Nat.le_of_ble_eq_true rfl)
  obtain ⟨_, _, ⟨T537, L537, k537, n537⟩, -, X537, ⟨Lc537, hQ537, l537, y537, z537⟩, st537⟩ := Jvm.LawKit.callS X522 hx (y := (⟨"com/example/redoubt/redoubt/storage/FrameTableClearPinLaw", "frame", "(I)Lcom/example/redoubt/redoubt/storage/PageCache$Frame;"⟩ : MethodName)) hown (mvT hZ (hw _ (List.mem_of_getElem? (i := 3) rfl))) (mvT hZ (hw _ (List.mem_of_getElem? (i := 4) rfl))) (mvT hZ (hw _ (List.mem_of_getElem? (i := 5) rfl))) (mvT hZ (hw _ (List.mem_of_getElem? (i := 6) rfl))) (by decide) (backOf (W := 2) (rmFrame l Z a0 hw [] (p0 + ((6 : Int32) * ss)) h522 n0 (Nat.le_trans Z0 K535.1)) hZ (hw _ (List.mem_of_getElem? (i := 6) rfl)) (hw _ (List.mem_of_getElem? (i := 5) rfl)) (by decide) (by decide)) (g := (mkF m 112 #[.val (.int p0), .val (.int p1), .val (.int p2), .val (.int p3), .val (.int p4), .val (.int ss), .val (.int kq), .val (.int jj), .val (.ref b400), .unset, .unset, .unset, .unset, .unset] [(.int (p0 + ((6 : Int32) * ss))), (.int (6 : Int32)), (.ref b400)])) rfl (by rw [hml]; rfl) (argsL := [(.int (p0 + ((6 : Int32) * ss)))]) (rest := [(.int (6 : Int32)), (.ref b400)]) (lenOf pd_3 rfl) rfl (by show 2 * 0 + _ ≤ _; exact Nat.le_of_eq rfl) (hb hby at_112) (fun _ _ => ⟨rfl, e522, (by decide : 13 + 2 ≤ _), (by decide : 49197 + 8198 ≤ _)⟩)
  dsimp only [Pt.U, Pt.locs, Pt.cells, Pt.slots] at X537 l537 y537 z537 st537 hQ537
  rw [l537, y537, z537] at X537
  replace X537 := own_std X537 (cc := 15) (ss := 57395) rfl rfl
  obtain ⟨nb_537, rfl, N537q, K537q, sz537_nb, P537_0, P537_1⟩ := hQ537
  have N537 := Fr.app N536 N537q
  have ne538 : nb_402 ≠ nb_537 := Nat.ne_of_lt (Nat.lt_of_lt_of_le Ex523.lt sz537_nb)
  have ne539 : nb_412 ≠ nb_537 := Nat.ne_of_lt (Nat.lt_of_lt_of_le Ex525.lt sz537_nb)
  have ne540 : nb_427 ≠ nb_537 := Nat.ne_of_lt (Nat.lt_of_lt_of_le Ex527.lt sz537_nb)
  have ne541 : nb_447 ≠ nb_537 := Nat.ne_of_lt (Nat.lt_of_lt_of_le Ex529.lt sz537_nb)
  have ne542 : nb_472 ≠ nb_537 := Nat.ne_of_lt (Nat.lt_of_lt_of_le Ex531.lt sz537_nb)
  have ne543 : nb_502 ≠ nb_537 := Nat.ne_of_lt (Nat.lt_of_lt_of_le Ex533.lt sz537_nb)
  have ne544 : b400 ≠ nb_537 := Nat.ne_of_lt (Nat.lt_of_lt_of_le Av522.lt sz537_nb)
  have g_nb_537 : n0 ≤ nb_537 := Nat.le_trans (Nat.le_trans Z0 K535.1) sz537_nb
  have sz_nb_537 : h0.size ≤ nb_537 := Nat.le_trans K535.1 sz537_nb
  have Ex545 : Exa Z T537.heap nb_402 "com/example/redoubt/redoubt/storage/PageCache$Frame" := (Ex523.keep K537q)
  have F546 : Fld Z T537.heap nb_402 "com/example/redoubt/redoubt/storage/PageCache$Frame" "page" "I" (.int p0) := (F524.keep K537q nin0)
  have Ex547 : Exa Z T537.heap nb_412 "com/example/redoubt/redoubt/storage/PageCache$Frame" := (Ex525.keep K537q)
  have F548 : Fld Z T537.heap nb_412 "com/example/redoubt/redoubt/storage/PageCache$Frame" "page" "I" (.int (p0 + ss)) := (F526.keep K537q nin0)
  have Ex549 : Exa Z T537.heap nb_427 "com/example/redoubt/redoubt/storage/PageCache$Frame" := (Ex527.keep K537q)
  have F550 : Fld Z T537.heap nb_427 "com/example/redoubt/redoubt/storage/PageCache$Frame" "page" "I" (.int (p0 + ((2 : Int32) * ss))) := (F528.keep K537q nin0)
  have Ex551 : Exa Z T537.heap nb_447 "com/example/redoubt/redoubt/storage/PageCache$Frame" := (Ex529.keep K537q)
  have F552 : Fld Z T537.heap nb_447 "com/example/redoubt/redoubt/storage/PageCache$Frame" "page" "I" (.int (p0 + ((3 : Int32) * ss))) := (F530.keep K537q nin0)
  have Ex553 : Exa Z T537.heap nb_472 "com/example/redoubt/redoubt/storage/PageCache$Frame" := (Ex531.keep K537q)
  have F554 : Fld Z T537.heap nb_472 "com/example/redoubt/redoubt/storage/PageCache$Frame" "page" "I" (.int (p0 + ((4 : Int32) * ss))) := (F532.keep K537q nin0)
  have Ex555 : Exa Z T537.heap nb_502 "com/example/redoubt/redoubt/storage/PageCache$Frame" := (Ex533.keep K537q)
  have F556 : Fld Z T537.heap nb_502 "com/example/redoubt/redoubt/storage/PageCache$Frame" "page" "I" (.int (p0 + ((5 : Int32) * ss))) := (F534.keep K537q nin0)
  have Av557 : Arv Z T537.heap b400 k400 (.object "com/example/redoubt/redoubt/storage/PageCache$Frame") (9 : Int32) ([(.ref nb_402), (.ref nb_412), (.ref nb_427), (.ref nb_447), (.ref nb_472), (.ref nb_502), .null, .null, .null] : List Value) .null := (Av522.keep K537q nin0)
  have K558 : Keep h0 T537.heap [] := K535.trans K537q all0
  obtain ⟨cl559, Ar559, q559, Sz559, Nn559, H559, G559⟩ := id Av557
  have hin559 : ¬ ((6 : Int32) < 0 ∨ cl559.slots.size ≤ ((6 : Int32)).toNatClampNeg) := (inb_of Sz559 ⟨by decide, by decide⟩)
  obtain ⟨T560, h560, X560, e560, W560, st560⟩ := stR X537 hx hZ rfl Ar559 (j := (6 : Int32)) hin559 rfl (Sto.ofV Ar559 q559 O400 (Ins.self P537_0)) (g := (mkF m 115 #[.val (.int p0), .val (.int p1), .val (.int p2), .val (.int p3), .val (.int p4), .val (.int ss), .val (.int kq), .val (.int jj), .val (.ref b400), .unset, .unset, .unset, .unset, .unset] [(.ref nb_537), (.int (6 : Int32)), (.ref b400)])) rfl rfl (hb hby at_115)
  have Ex561 : Exa Z h560 nb_402 "com/example/redoubt/redoubt/storage/PageCache$Frame" := (Ex545.wr W560)
  have F562 : Fld Z h560 nb_402 "com/example/redoubt/redoubt/storage/PageCache$Frame" "page" "I" (.int p0) := (F546.other W560 (Or.inl (Ne.symm ne403)))
  have Ex563 : Exa Z h560 nb_412 "com/example/redoubt/redoubt/storage/PageCache$Frame" := (Ex547.wr W560)
  have F564 : Fld Z h560 nb_412 "com/example/redoubt/redoubt/storage/PageCache$Frame" "page" "I" (.int (p0 + ss)) := (F548.other W560 (Or.inl (Ne.symm ne414)))
  have Ex565 : Exa Z h560 nb_427 "com/example/redoubt/redoubt/storage/PageCache$Frame" := (Ex549.wr W560)
  have F566 : Fld Z h560 nb_427 "com/example/redoubt/redoubt/storage/PageCache$Frame" "page" "I" (.int (p0 + ((2 : Int32) * ss))) := (F550.other W560 (Or.inl (Ne.symm ne430)))
  have Ex567 : Exa Z h560 nb_447 "com/example/redoubt/redoubt/storage/PageCache$Frame" := (Ex551.wr W560)
  have F568 : Fld Z h560 nb_447 "com/example/redoubt/redoubt/storage/PageCache$Frame" "page" "I" (.int (p0 + ((3 : Int32) * ss))) := (F552.other W560 (Or.inl (Ne.symm ne451)))
  have Ex569 : Exa Z h560 nb_472 "com/example/redoubt/redoubt/storage/PageCache$Frame" := (Ex553.wr W560)
  have F570 : Fld Z h560 nb_472 "com/example/redoubt/redoubt/storage/PageCache$Frame" "page" "I" (.int (p0 + ((4 : Int32) * ss))) := (F554.other W560 (Or.inl (Ne.symm ne477)))
  have Ex571 : Exa Z h560 nb_502 "com/example/redoubt/redoubt/storage/PageCache$Frame" := (Ex555.wr W560)
  have F572 : Fld Z h560 nb_502 "com/example/redoubt/redoubt/storage/PageCache$Frame" "page" "I" (.int (p0 + ((5 : Int32) * ss))) := (F556.other W560 (Or.inl (Ne.symm ne508)))
  have Ex573 : Exa Z h560 nb_537 "com/example/redoubt/redoubt/storage/PageCache$Frame" := (P537_0.wr W560)
  have F574 : Fld Z h560 nb_537 "com/example/redoubt/redoubt/storage/PageCache$Frame" "page" "I" (.int (p0 + ((6 : Int32) * ss))) := (P537_1.other W560 (Or.inl (Ne.symm ne544)))
  have K575 : Keep h0 h560 [] := K558.wr W560 (Or.inr sz_b400)
  have N576 := Fr.snoc X560 N537 g_b400
  have Av560 : Arv Z h560 b400 k400 (.object "com/example/redoubt/redoubt/storage/PageCache$Frame") (9 : Int32) ([(.ref nb_402), (.ref nb_412), (.ref nb_427), (.ref nb_447), (.ref nb_472), (.ref nb_502), (.ref nb_537), .null, .null] : List Value) .null := Arv.set Ar559 q559 Sz559 Nn559 H559 G559 rfl W560 6 rfl (Nat.le_of_ble_eq_true rfl)
  obtain ⟨_, _, ⟨T577, L577, k577, n577⟩, -, X577, ⟨Lc577, hQ577, l577, y577, z577⟩, st577⟩ := Jvm.LawKit.callS X560 hx (y := (⟨"com/example/redoubt/redoubt/storage/FrameTableClearPinLaw", "frame", "(I)Lcom/example/redoubt/redoubt/storage/PageCache$Frame;"⟩ : MethodName)) hown (mvT hZ (hw _ (List.mem_of_getElem? (i := 3) rfl))) (mvT hZ (hw _ (List.mem_of_getElem? (i := 4) rfl))) (mvT hZ (hw _ (List.mem_of_getElem? (i := 5) rfl))) (mvT hZ (hw _ (List.mem_of_getElem? (i := 6) rfl))) (by decide) (backOf (W := 2) (rmFrame l Z a0 hw [] (p0 + ((7 : Int32) * ss)) h560 n0 (Nat.le_trans Z0 K575.1)) hZ (hw _ (List.mem_of_getElem? (i := 6) rfl)) (hw _ (List.mem_of_getElem? (i := 5) rfl)) (by decide) (by decide)) (g := (mkF m 127 #[.val (.int p0), .val (.int p1), .val (.int p2), .val (.int p3), .val (.int p4), .val (.int ss), .val (.int kq), .val (.int jj), .val (.ref b400), .unset, .unset, .unset, .unset, .unset] [(.int (p0 + ((7 : Int32) * ss))), (.int (7 : Int32)), (.ref b400)])) rfl (by rw [hml]; rfl) (argsL := [(.int (p0 + ((7 : Int32) * ss)))]) (rest := [(.int (7 : Int32)), (.ref b400)]) (lenOf pd_3 rfl) rfl (by show 2 * 0 + _ ≤ _; exact Nat.le_of_eq rfl) (hb hby at_127) (fun _ _ => ⟨rfl, e560, (by decide : 15 + 2 ≤ _), (by decide : 57395 + 8198 ≤ _)⟩)
  dsimp only [Pt.U, Pt.locs, Pt.cells, Pt.slots] at X577 l577 y577 z577 st577 hQ577
  rw [l577, y577, z577] at X577
  replace X577 := own_std X577 (cc := 17) (ss := 65593) rfl rfl
  obtain ⟨nb_577, rfl, N577q, K577q, sz577_nb, P577_0, P577_1⟩ := hQ577
  have N577 := Fr.app N576 N577q
  have ne578 : nb_402 ≠ nb_577 := Nat.ne_of_lt (Nat.lt_of_lt_of_le Ex561.lt sz577_nb)
  have ne579 : nb_412 ≠ nb_577 := Nat.ne_of_lt (Nat.lt_of_lt_of_le Ex563.lt sz577_nb)
  have ne580 : nb_427 ≠ nb_577 := Nat.ne_of_lt (Nat.lt_of_lt_of_le Ex565.lt sz577_nb)
  have ne581 : nb_447 ≠ nb_577 := Nat.ne_of_lt (Nat.lt_of_lt_of_le Ex567.lt sz577_nb)
  have ne582 : nb_472 ≠ nb_577 := Nat.ne_of_lt (Nat.lt_of_lt_of_le Ex569.lt sz577_nb)
  have ne583 : nb_502 ≠ nb_577 := Nat.ne_of_lt (Nat.lt_of_lt_of_le Ex571.lt sz577_nb)
  have ne584 : nb_537 ≠ nb_577 := Nat.ne_of_lt (Nat.lt_of_lt_of_le Ex573.lt sz577_nb)
  have ne585 : b400 ≠ nb_577 := Nat.ne_of_lt (Nat.lt_of_lt_of_le Av560.lt sz577_nb)
  have g_nb_577 : n0 ≤ nb_577 := Nat.le_trans (Nat.le_trans Z0 K575.1) sz577_nb
  have sz_nb_577 : h0.size ≤ nb_577 := Nat.le_trans K575.1 sz577_nb
  have Ex586 : Exa Z T577.heap nb_402 "com/example/redoubt/redoubt/storage/PageCache$Frame" := (Ex561.keep K577q)
  have F587 : Fld Z T577.heap nb_402 "com/example/redoubt/redoubt/storage/PageCache$Frame" "page" "I" (.int p0) := (F562.keep K577q nin0)
  have Ex588 : Exa Z T577.heap nb_412 "com/example/redoubt/redoubt/storage/PageCache$Frame" := (Ex563.keep K577q)
  have F589 : Fld Z T577.heap nb_412 "com/example/redoubt/redoubt/storage/PageCache$Frame" "page" "I" (.int (p0 + ss)) := (F564.keep K577q nin0)
  have Ex590 : Exa Z T577.heap nb_427 "com/example/redoubt/redoubt/storage/PageCache$Frame" := (Ex565.keep K577q)
  have F591 : Fld Z T577.heap nb_427 "com/example/redoubt/redoubt/storage/PageCache$Frame" "page" "I" (.int (p0 + ((2 : Int32) * ss))) := (F566.keep K577q nin0)
  have Ex592 : Exa Z T577.heap nb_447 "com/example/redoubt/redoubt/storage/PageCache$Frame" := (Ex567.keep K577q)
  have F593 : Fld Z T577.heap nb_447 "com/example/redoubt/redoubt/storage/PageCache$Frame" "page" "I" (.int (p0 + ((3 : Int32) * ss))) := (F568.keep K577q nin0)
  have Ex594 : Exa Z T577.heap nb_472 "com/example/redoubt/redoubt/storage/PageCache$Frame" := (Ex569.keep K577q)
  have F595 : Fld Z T577.heap nb_472 "com/example/redoubt/redoubt/storage/PageCache$Frame" "page" "I" (.int (p0 + ((4 : Int32) * ss))) := (F570.keep K577q nin0)
  have Ex596 : Exa Z T577.heap nb_502 "com/example/redoubt/redoubt/storage/PageCache$Frame" := (Ex571.keep K577q)
  have F597 : Fld Z T577.heap nb_502 "com/example/redoubt/redoubt/storage/PageCache$Frame" "page" "I" (.int (p0 + ((5 : Int32) * ss))) := (F572.keep K577q nin0)
  have Ex598 : Exa Z T577.heap nb_537 "com/example/redoubt/redoubt/storage/PageCache$Frame" := (Ex573.keep K577q)
  have F599 : Fld Z T577.heap nb_537 "com/example/redoubt/redoubt/storage/PageCache$Frame" "page" "I" (.int (p0 + ((6 : Int32) * ss))) := (F574.keep K577q nin0)
  have Av600 : Arv Z T577.heap b400 k400 (.object "com/example/redoubt/redoubt/storage/PageCache$Frame") (9 : Int32) ([(.ref nb_402), (.ref nb_412), (.ref nb_427), (.ref nb_447), (.ref nb_472), (.ref nb_502), (.ref nb_537), .null, .null] : List Value) .null := (Av560.keep K577q nin0)
  have K601 : Keep h0 T577.heap [] := K575.trans K577q all0
  obtain ⟨cl602, Ar602, q602, Sz602, Nn602, H602, G602⟩ := id Av600
  have hin602 : ¬ ((7 : Int32) < 0 ∨ cl602.slots.size ≤ ((7 : Int32)).toNatClampNeg) := (inb_of Sz602 ⟨by decide, by decide⟩)
  obtain ⟨T603, h603, X603, e603, W603, st603⟩ := stR X577 hx hZ rfl Ar602 (j := (7 : Int32)) hin602 rfl (Sto.ofV Ar602 q602 O400 (Ins.self P577_0)) (g := (mkF m 130 #[.val (.int p0), .val (.int p1), .val (.int p2), .val (.int p3), .val (.int p4), .val (.int ss), .val (.int kq), .val (.int jj), .val (.ref b400), .unset, .unset, .unset, .unset, .unset] [(.ref nb_577), (.int (7 : Int32)), (.ref b400)])) rfl rfl (hb hby at_130)
  have Ex604 : Exa Z h603 nb_402 "com/example/redoubt/redoubt/storage/PageCache$Frame" := (Ex586.wr W603)
  have F605 : Fld Z h603 nb_402 "com/example/redoubt/redoubt/storage/PageCache$Frame" "page" "I" (.int p0) := (F587.other W603 (Or.inl (Ne.symm ne403)))
  have Ex606 : Exa Z h603 nb_412 "com/example/redoubt/redoubt/storage/PageCache$Frame" := (Ex588.wr W603)
  have F607 : Fld Z h603 nb_412 "com/example/redoubt/redoubt/storage/PageCache$Frame" "page" "I" (.int (p0 + ss)) := (F589.other W603 (Or.inl (Ne.symm ne414)))
  have Ex608 : Exa Z h603 nb_427 "com/example/redoubt/redoubt/storage/PageCache$Frame" := (Ex590.wr W603)
  have F609 : Fld Z h603 nb_427 "com/example/redoubt/redoubt/storage/PageCache$Frame" "page" "I" (.int (p0 + ((2 : Int32) * ss))) := (F591.other W603 (Or.inl (Ne.symm ne430)))
  have Ex610 : Exa Z h603 nb_447 "com/example/redoubt/redoubt/storage/PageCache$Frame" := (Ex592.wr W603)
  have F611 : Fld Z h603 nb_447 "com/example/redoubt/redoubt/storage/PageCache$Frame" "page" "I" (.int (p0 + ((3 : Int32) * ss))) := (F593.other W603 (Or.inl (Ne.symm ne451)))
  have Ex612 : Exa Z h603 nb_472 "com/example/redoubt/redoubt/storage/PageCache$Frame" := (Ex594.wr W603)
  have F613 : Fld Z h603 nb_472 "com/example/redoubt/redoubt/storage/PageCache$Frame" "page" "I" (.int (p0 + ((4 : Int32) * ss))) := (F595.other W603 (Or.inl (Ne.symm ne477)))
  have Ex614 : Exa Z h603 nb_502 "com/example/redoubt/redoubt/storage/PageCache$Frame" := (Ex596.wr W603)
  have F615 : Fld Z h603 nb_502 "com/example/redoubt/redoubt/storage/PageCache$Frame" "page" "I" (.int (p0 + ((5 : Int32) * ss))) := (F597.other W603 (Or.inl (Ne.symm ne508)))
  have Ex616 : Exa Z h603 nb_537 "com/example/redoubt/redoubt/storage/PageCache$Frame" := (Ex598.wr W603)
  have F617 : Fld Z h603 nb_537 "com/example/redoubt/redoubt/storage/PageCache$Frame" "page" "I" (.int (p0 + ((6 : Int32) * ss))) := (F599.other W603 (Or.inl (Ne.symm ne544)))
  have Ex618 : Exa Z h603 nb_577 "com/example/redoubt/redoubt/storage/PageCache$Frame" := (P577_0.wr W603)
  have F619 : Fld Z h603 nb_577 "com/example/redoubt/redoubt/storage/PageCache$Frame" "page" "I" (.int (p0 + ((7 : Int32) * ss))) := (P577_1.other W603 (Or.inl (Ne.symm ne585)))
  have K620 : Keep h0 h603 [] := K601.wr W603 (Or.inr sz_b400)
  have N621 := Fr.snoc X603 N577 g_b400
  have Av603 : Arv Z h603 b400 k400 (.object "com/example/redoubt/redoubt/storage/PageCache$Frame") (9 : Int32) ([(.ref nb_402), (.ref nb_412), (.ref nb_427), (.ref nb_447), (.ref nb_472), (.ref nb_502), (.ref nb_537), (.ref nb_577), .null] : List Value) .null := Arv.set Ar602 q602 Sz602 Nn602 H602 G602 rfl W603 7 rfl (Nat.le_of_ble_eq_true rfl)
  obtain ⟨_, _, ⟨T622, L622, k622, n622⟩, -, X622, ⟨Lc622, hQ622, l622, y622, z622⟩, st622⟩ := Jvm.LawKit.callS X603 hx (y := (⟨"com/example/redoubt/redoubt/storage/FrameTableClearPinLaw", "frame", "(I)Lcom/example/redoubt/redoubt/storage/PageCache$Frame;"⟩ : MethodName)) hown (mvT hZ (hw _ (List.mem_of_getElem? (i := 3) rfl))) (mvT hZ (hw _ (List.mem_of_getElem? (i := 4) rfl))) (mvT hZ (hw _ (List.mem_of_getElem? (i := 5) rfl))) (mvT hZ (hw _ (List.mem_of_getElem? (i := 6) rfl))) (by decide) (backOf (W := 2) (rmFrame l Z a0 hw [] (p0 + ((8 : Int32) * ss)) h603 n0 (Nat.le_trans Z0 K620.1)) hZ (hw _ (List.mem_of_getElem? (i := 6) rfl)) (hw _ (List.mem_of_getElem? (i := 5) rfl)) (by decide) (by decide)) (g := (mkF m 142 #[.val (.int p0), .val (.int p1), .val (.int p2), .val (.int p3), .val (.int p4), .val (.int ss), .val (.int kq), .val (.int jj), .val (.ref b400), .unset, .unset, .unset, .unset, .unset] [(.int (p0 + ((8 : Int32) * ss))), (.int (8 : Int32)), (.ref b400)])) rfl (by rw [hml]; rfl) (argsL := [(.int (p0 + ((8 : Int32) * ss)))]) (rest := [(.int (8 : Int32)), (.ref b400)]) (lenOf pd_3 rfl) rfl (by show 2 * 0 + _ ≤ _; exact Nat.le_of_eq rfl) (hb hby at_142) (fun _ _ => ⟨rfl, e603, (by decide : 17 + 2 ≤ _), (by decide : 65593 + 8198 ≤ _)⟩)
  dsimp only [Pt.U, Pt.locs, Pt.cells, Pt.slots] at X622 l622 y622 z622 st622 hQ622
  rw [l622, y622, z622] at X622
  replace X622 := own_std X622 (cc := 19) (ss := 73791) rfl rfl
  obtain ⟨nb_622, rfl, N622q, K622q, sz622_nb, P622_0, P622_1⟩ := hQ622
  have N622 := Fr.app N621 N622q
  have ne623 : nb_402 ≠ nb_622 := Nat.ne_of_lt (Nat.lt_of_lt_of_le Ex604.lt sz622_nb)
  have ne624 : nb_412 ≠ nb_622 := Nat.ne_of_lt (Nat.lt_of_lt_of_le Ex606.lt sz622_nb)
  have ne625 : nb_427 ≠ nb_622 := Nat.ne_of_lt (Nat.lt_of_lt_of_le Ex608.lt sz622_nb)
  have ne626 : nb_447 ≠ nb_622 := Nat.ne_of_lt (Nat.lt_of_lt_of_le Ex610.lt sz622_nb)
  have ne627 : nb_472 ≠ nb_622 := Nat.ne_of_lt (Nat.lt_of_lt_of_le Ex612.lt sz622_nb)
  have ne628 : nb_502 ≠ nb_622 := Nat.ne_of_lt (Nat.lt_of_lt_of_le Ex614.lt sz622_nb)
  have ne629 : nb_537 ≠ nb_622 := Nat.ne_of_lt (Nat.lt_of_lt_of_le Ex616.lt sz622_nb)
  have ne630 : nb_577 ≠ nb_622 := Nat.ne_of_lt (Nat.lt_of_lt_of_le Ex618.lt sz622_nb)
  have ne631 : b400 ≠ nb_622 := Nat.ne_of_lt (Nat.lt_of_lt_of_le Av603.lt sz622_nb)
  have g_nb_622 : n0 ≤ nb_622 := Nat.le_trans (Nat.le_trans Z0 K620.1) sz622_nb
  have sz_nb_622 : h0.size ≤ nb_622 := Nat.le_trans K620.1 sz622_nb
  have Ex632 : Exa Z T622.heap nb_402 "com/example/redoubt/redoubt/storage/PageCache$Frame" := (Ex604.keep K622q)
  have F633 : Fld Z T622.heap nb_402 "com/example/redoubt/redoubt/storage/PageCache$Frame" "page" "I" (.int p0) := (F605.keep K622q nin0)
  have Ex634 : Exa Z T622.heap nb_412 "com/example/redoubt/redoubt/storage/PageCache$Frame" := (Ex606.keep K622q)
  have F635 : Fld Z T622.heap nb_412 "com/example/redoubt/redoubt/storage/PageCache$Frame" "page" "I" (.int (p0 + ss)) := (F607.keep K622q nin0)
  have Ex636 : Exa Z T622.heap nb_427 "com/example/redoubt/redoubt/storage/PageCache$Frame" := (Ex608.keep K622q)
  have F637 : Fld Z T622.heap nb_427 "com/example/redoubt/redoubt/storage/PageCache$Frame" "page" "I" (.int (p0 + ((2 : Int32) * ss))) := (F609.keep K622q nin0)
  have Ex638 : Exa Z T622.heap nb_447 "com/example/redoubt/redoubt/storage/PageCache$Frame" := (Ex610.keep K622q)
  have F639 : Fld Z T622.heap nb_447 "com/example/redoubt/redoubt/storage/PageCache$Frame" "page" "I" (.int (p0 + ((3 : Int32) * ss))) := (F611.keep K622q nin0)
  have Ex640 : Exa Z T622.heap nb_472 "com/example/redoubt/redoubt/storage/PageCache$Frame" := (Ex612.keep K622q)
  have F641 : Fld Z T622.heap nb_472 "com/example/redoubt/redoubt/storage/PageCache$Frame" "page" "I" (.int (p0 + ((4 : Int32) * ss))) := (F613.keep K622q nin0)
  have Ex642 : Exa Z T622.heap nb_502 "com/example/redoubt/redoubt/storage/PageCache$Frame" := (Ex614.keep K622q)
  have F643 : Fld Z T622.heap nb_502 "com/example/redoubt/redoubt/storage/PageCache$Frame" "page" "I" (.int (p0 + ((5 : Int32) * ss))) := (F615.keep K622q nin0)
  have Ex644 : Exa Z T622.heap nb_537 "com/example/redoubt/redoubt/storage/PageCache$Frame" := (Ex616.keep K622q)
  have F645 : Fld Z T622.heap nb_537 "com/example/redoubt/redoubt/storage/PageCache$Frame" "page" "I" (.int (p0 + ((6 : Int32) * ss))) := (F617.keep K622q nin0)
  have Ex646 : Exa Z T622.heap nb_577 "com/example/redoubt/redoubt/storage/PageCache$Frame" := (Ex618.keep K622q)
  have F647 : Fld Z T622.heap nb_577 "com/example/redoubt/redoubt/storage/PageCache$Frame" "page" "I" (.int (p0 + ((7 : Int32) * ss))) := (F619.keep K622q nin0)
  have Av648 : Arv Z T622.heap b400 k400 (.object "com/example/redoubt/redoubt/storage/PageCache$Frame") (9 : Int32) ([(.ref nb_402), (.ref nb_412), (.ref nb_427), (.ref nb_447), (.ref nb_472), (.ref nb_502), (.ref nb_537), (.ref nb_577), .null] : List Value) .null := (Av603.keep K622q nin0)
  have K649 : Keep h0 T622.heap [] := K620.trans K622q all0
  obtain ⟨cl650, Ar650, q650, Sz650, Nn650, H650, G650⟩ := id Av648
  have hin650 : ¬ ((8 : Int32) < 0 ∨ cl650.slots.size ≤ ((8 : Int32)).toNatClampNeg) := (inb_of Sz650 ⟨by decide, by decide⟩)
  obtain ⟨T651, h651, X651, e651, W651, st651⟩ := stR X622 hx hZ rfl Ar650 (j := (8 : Int32)) hin650 rfl (Sto.ofV Ar650 q650 O400 (Ins.self P622_0)) (g := (mkF m 145 #[.val (.int p0), .val (.int p1), .val (.int p2), .val (.int p3), .val (.int p4), .val (.int ss), .val (.int kq), .val (.int jj), .val (.ref b400), .unset, .unset, .unset, .unset, .unset] [(.ref nb_622), (.int (8 : Int32)), (.ref b400)])) rfl rfl (hb hby at_145)
  have Ex652 : Exa Z h651 nb_402 "com/example/redoubt/redoubt/storage/PageCache$Frame" := (Ex632.wr W651)
  have F653 : Fld Z h651 nb_402 "com/example/redoubt/redoubt/storage/PageCache$Frame" "page" "I" (.int p0) := (F633.other W651 (Or.inl (Ne.symm ne403)))
  have Ex654 : Exa Z h651 nb_412 "com/example/redoubt/redoubt/storage/PageCache$Frame" := (Ex634.wr W651)
  have F655 : Fld Z h651 nb_412 "com/example/redoubt/redoubt/storage/PageCache$Frame" "page" "I" (.int (p0 + ss)) := (F635.other W651 (Or.inl (Ne.symm ne414)))
  have Ex656 : Exa Z h651 nb_427 "com/example/redoubt/redoubt/storage/PageCache$Frame" := (Ex636.wr W651)
  have F657 : Fld Z h651 nb_427 "com/example/redoubt/redoubt/storage/PageCache$Frame" "page" "I" (.int (p0 + ((2 : Int32) * ss))) := (F637.other W651 (Or.inl (Ne.symm ne430)))
  have Ex658 : Exa Z h651 nb_447 "com/example/redoubt/redoubt/storage/PageCache$Frame" := (Ex638.wr W651)
  have F659 : Fld Z h651 nb_447 "com/example/redoubt/redoubt/storage/PageCache$Frame" "page" "I" (.int (p0 + ((3 : Int32) * ss))) := (F639.other W651 (Or.inl (Ne.symm ne451)))
  have Ex660 : Exa Z h651 nb_472 "com/example/redoubt/redoubt/storage/PageCache$Frame" := (Ex640.wr W651)
  have F661 : Fld Z h651 nb_472 "com/example/redoubt/redoubt/storage/PageCache$Frame" "page" "I" (.int (p0 + ((4 : Int32) * ss))) := (F641.other W651 (Or.inl (Ne.symm ne477)))
  have Ex662 : Exa Z h651 nb_502 "com/example/redoubt/redoubt/storage/PageCache$Frame" := (Ex642.wr W651)
  have F663 : Fld Z h651 nb_502 "com/example/redoubt/redoubt/storage/PageCache$Frame" "page" "I" (.int (p0 + ((5 : Int32) * ss))) := (F643.other W651 (Or.inl (Ne.symm ne508)))
  have Ex664 : Exa Z h651 nb_537 "com/example/redoubt/redoubt/storage/PageCache$Frame" := (Ex644.wr W651)
  have F665 : Fld Z h651 nb_537 "com/example/redoubt/redoubt/storage/PageCache$Frame" "page" "I" (.int (p0 + ((6 : Int32) * ss))) := (F645.other W651 (Or.inl (Ne.symm ne544)))
  have Ex666 : Exa Z h651 nb_577 "com/example/redoubt/redoubt/storage/PageCache$Frame" := (Ex646.wr W651)
  have F667 : Fld Z h651 nb_577 "com/example/redoubt/redoubt/storage/PageCache$Frame" "page" "I" (.int (p0 + ((7 : Int32) * ss))) := (F647.other W651 (Or.inl (Ne.symm ne585)))
  have Ex668 : Exa Z h651 nb_622 "com/example/redoubt/redoubt/storage/PageCache$Frame" := (P622_0.wr W651)
  have F669 : Fld Z h651 nb_622 "com/example/redoubt/redoubt/storage/PageCache$Frame" "page" "I" (.int (p0 + ((8 : Int32) * ss))) := (P622_1.other W651 (Or.inl (Ne.symm ne631)))
  have K670 : Keep h0 h651 [] := K649.wr W651 (Or.inr sz_b400)
  have N671 := Fr.snoc X651 N622 g_b400
  have Av651 : Arv Z h651 b400 k400 (.object "com/example/redoubt/redoubt/storage/PageCache$Frame") (9 : Int32) ([(.ref nb_402), (.ref nb_412), (.ref nb_427), (.ref nb_447), (.ref nb_472), (.ref nb_502), (.ref nb_537), (.ref nb_577), (.ref nb_622)] : List Value) .null := Arv.set Ar650 q650 Sz650 Nn650 H650 G650 rfl W651 8 rfl (Nat.le_of_ble_eq_true rfl)
  obtain ⟨_, _, ⟨T672, L672, k672, n672⟩, -, X672, ⟨Lc672, hQ672, l672, y672, z672⟩, st672⟩ := Jvm.LawKit.callS X651 hx (y := (⟨"com/example/redoubt/redoubt/storage/FrameTableClearPinLaw", "frame", "(I)Lcom/example/redoubt/redoubt/storage/PageCache$Frame;"⟩ : MethodName)) hown (mvT hZ (hw _ (List.mem_of_getElem? (i := 3) rfl))) (mvT hZ (hw _ (List.mem_of_getElem? (i := 4) rfl))) (mvT hZ (hw _ (List.mem_of_getElem? (i := 5) rfl))) (mvT hZ (hw _ (List.mem_of_getElem? (i := 6) rfl))) (by decide) (backOf (W := 0) (rmFrame l Z a0 hw [] p4 h651 n0 (Nat.le_trans Z0 K670.1)) hZ (hw _ (List.mem_of_getElem? (i := 6) rfl)) (hw _ (List.mem_of_getElem? (i := 5) rfl)) (by decide) (by decide)) (g := (mkF m 148 #[.val (.int p0), .val (.int p1), .val (.int p2), .val (.int p3), .val (.int p4), .val (.int ss), .val (.int kq), .val (.int jj), .val (.ref b400), .unset, .unset, .unset, .unset, .unset] [(.int p4)])) rfl (by rw [hml]; rfl) (argsL := [(.int p4)]) (rest := []) (lenOf pd_3 rfl) rfl (by show 2 * 0 + _ ≤ _; exact Nat.le_of_eq rfl) (hb hby at_148) (fun _ _ => ⟨rfl, e651, (by decide : 19 + 2 ≤ _), (by decide : 73791 + 8198 ≤ _)⟩)
  dsimp only [Pt.U, Pt.locs, Pt.cells, Pt.slots] at X672 l672 y672 z672 st672 hQ672
  rw [l672, y672, z672] at X672
  replace X672 := own_std X672 (cc := 21) (ss := 81989) rfl rfl
  obtain ⟨nb_672, rfl, N672q, K672q, sz672_nb, P672_0, P672_1⟩ := hQ672
  have N672 := Fr.app N671 N672q
  have ne673 : nb_402 ≠ nb_672 := Nat.ne_of_lt (Nat.lt_of_lt_of_le Ex652.lt sz672_nb)
  have ne674 : nb_412 ≠ nb_672 := Nat.ne_of_lt (Nat.lt_of_lt_of_le Ex654.lt sz672_nb)
  have ne675 : nb_427 ≠ nb_672 := Nat.ne_of_lt (Nat.lt_of_lt_of_le Ex656.lt sz672_nb)
  have ne676 : nb_447 ≠ nb_672 := Nat.ne_of_lt (Nat.lt_of_lt_of_le Ex658.lt sz672_nb)
  have ne677 : nb_472 ≠ nb_672 := Nat.ne_of_lt (Nat.lt_of_lt_of_le Ex660.lt sz672_nb)
  have ne678 : nb_502 ≠ nb_672 := Nat.ne_of_lt (Nat.lt_of_lt_of_le Ex662.lt sz672_nb)
  have ne679 : nb_537 ≠ nb_672 := Nat.ne_of_lt (Nat.lt_of_lt_of_le Ex664.lt sz672_nb)
  have ne680 : nb_577 ≠ nb_672 := Nat.ne_of_lt (Nat.lt_of_lt_of_le Ex666.lt sz672_nb)
  have ne681 : nb_622 ≠ nb_672 := Nat.ne_of_lt (Nat.lt_of_lt_of_le Ex668.lt sz672_nb)
  have ne682 : b400 ≠ nb_672 := Nat.ne_of_lt (Nat.lt_of_lt_of_le Av651.lt sz672_nb)
  have g_nb_672 : n0 ≤ nb_672 := Nat.le_trans (Nat.le_trans Z0 K670.1) sz672_nb
  have sz_nb_672 : h0.size ≤ nb_672 := Nat.le_trans K670.1 sz672_nb
  have Ex683 : Exa Z T672.heap nb_402 "com/example/redoubt/redoubt/storage/PageCache$Frame" := (Ex652.keep K672q)
  have F684 : Fld Z T672.heap nb_402 "com/example/redoubt/redoubt/storage/PageCache$Frame" "page" "I" (.int p0) := (F653.keep K672q nin0)
  have Ex685 : Exa Z T672.heap nb_412 "com/example/redoubt/redoubt/storage/PageCache$Frame" := (Ex654.keep K672q)
  have F686 : Fld Z T672.heap nb_412 "com/example/redoubt/redoubt/storage/PageCache$Frame" "page" "I" (.int (p0 + ss)) := (F655.keep K672q nin0)
  have Ex687 : Exa Z T672.heap nb_427 "com/example/redoubt/redoubt/storage/PageCache$Frame" := (Ex656.keep K672q)
  have F688 : Fld Z T672.heap nb_427 "com/example/redoubt/redoubt/storage/PageCache$Frame" "page" "I" (.int (p0 + ((2 : Int32) * ss))) := (F657.keep K672q nin0)
  have Ex689 : Exa Z T672.heap nb_447 "com/example/redoubt/redoubt/storage/PageCache$Frame" := (Ex658.keep K672q)
  have F690 : Fld Z T672.heap nb_447 "com/example/redoubt/redoubt/storage/PageCache$Frame" "page" "I" (.int (p0 + ((3 : Int32) * ss))) := (F659.keep K672q nin0)
  have Ex691 : Exa Z T672.heap nb_472 "com/example/redoubt/redoubt/storage/PageCache$Frame" := (Ex660.keep K672q)
  have F692 : Fld Z T672.heap nb_472 "com/example/redoubt/redoubt/storage/PageCache$Frame" "page" "I" (.int (p0 + ((4 : Int32) * ss))) := (F661.keep K672q nin0)
  have Ex693 : Exa Z T672.heap nb_502 "com/example/redoubt/redoubt/storage/PageCache$Frame" := (Ex662.keep K672q)
  have F694 : Fld Z T672.heap nb_502 "com/example/redoubt/redoubt/storage/PageCache$Frame" "page" "I" (.int (p0 + ((5 : Int32) * ss))) := (F663.keep K672q nin0)
  have Ex695 : Exa Z T672.heap nb_537 "com/example/redoubt/redoubt/storage/PageCache$Frame" := (Ex664.keep K672q)
  have F696 : Fld Z T672.heap nb_537 "com/example/redoubt/redoubt/storage/PageCache$Frame" "page" "I" (.int (p0 + ((6 : Int32) * ss))) := (F665.keep K672q nin0)
  have Ex697 : Exa Z T672.heap nb_577 "com/example/redoubt/redoubt/storage/PageCache$Frame" := (Ex666.keep K672q)
  have F698 : Fld Z T672.heap nb_577 "com/example/redoubt/redoubt/storage/PageCache$Frame" "page" "I" (.int (p0 + ((7 : Int32) * ss))) := (F667.keep K672q nin0)
  have Ex699 : Exa Z T672.heap nb_622 "com/example/redoubt/redoubt/storage/PageCache$Frame" := (Ex668.keep K672q)
  have F700 : Fld Z T672.heap nb_622 "com/example/redoubt/redoubt/storage/PageCache$Frame" "page" "I" (.int (p0 + ((8 : Int32) * ss))) := (F669.keep K672q nin0)
  have Av701 : Arv Z T672.heap b400 k400 (.object "com/example/redoubt/redoubt/storage/PageCache$Frame") (9 : Int32) ([(.ref nb_402), (.ref nb_412), (.ref nb_427), (.ref nb_447), (.ref nb_472), (.ref nb_502), (.ref nb_537), (.ref nb_577), (.ref nb_622)] : List Value) .null := (Av651.keep K672q nin0)
  have K702 : Keep h0 T672.heap [] := K670.trans K672q all0
  obtain ⟨T703, h703, X703, e703, E703, A703, D703, -, st703⟩ := newO X672 hx hZ hown (hw _ (List.mem_of_getElem? (i := 21) rfl)) (hw _ (List.mem_of_getElem? (i := 22) rfl)) (hw _ (List.mem_of_getElem? (i := 23) rfl)) rfl (g := (mkF m 153 #[.val (.int p0), .val (.int p1), .val (.int p2), .val (.int p3), .val (.int p4), .val (.int ss), .val (.int kq), .val (.int jj), .val (.ref b400), .val (.ref nb_672), .unset, .unset, .unset, .unset] [])) rfl (hb hby at_153) (by decide) (by decide)
  obtain ⟨b703, gq703⟩ : ∃ z, z = T672.heap.size := ⟨_, rfl⟩
  rw [← gq703] at A703 D703 st703
  have ne704 : nb_402 ≠ b703 := Nat.ne_of_lt (Nat.lt_of_lt_of_le Ex683.lt (Nat.le_of_eq gq703.symm))
  have ne705 : nb_412 ≠ b703 := Nat.ne_of_lt (Nat.lt_of_lt_of_le Ex685.lt (Nat.le_of_eq gq703.symm))
  have ne706 : nb_427 ≠ b703 := Nat.ne_of_lt (Nat.lt_of_lt_of_le Ex687.lt (Nat.le_of_eq gq703.symm))
  have ne707 : nb_447 ≠ b703 := Nat.ne_of_lt (Nat.lt_of_lt_of_le Ex689.lt (Nat.le_of_eq gq703.symm))
  have ne708 : nb_472 ≠ b703 := Nat.ne_of_lt (Nat.lt_of_lt_of_le Ex691.lt (Nat.le_of_eq gq703.symm))
  have ne709 : nb_502 ≠ b703 := Nat.ne_of_lt (Nat.lt_of_lt_of_le Ex693.lt (Nat.le_of_eq gq703.symm))
  have ne710 : nb_537 ≠ b703 := Nat.ne_of_lt (Nat.lt_of_lt_of_le Ex695.lt (Nat.le_of_eq gq703.symm))
  have ne711 : nb_577 ≠ b703 := Nat.ne_of_lt (Nat.lt_of_lt_of_le Ex697.lt (Nat.le_of_eq gq703.symm))
  have ne712 : nb_622 ≠ b703 := Nat.ne_of_lt (Nat.lt_of_lt_of_le Ex699.lt (Nat.le_of_eq gq703.symm))
  have ne713 : b400 ≠ b703 := Nat.ne_of_lt (Nat.lt_of_lt_of_le Av701.lt (Nat.le_of_eq gq703.symm))
  have ne714 : nb_672 ≠ b703 := Nat.ne_of_lt (Nat.lt_of_lt_of_le P672_0.lt (Nat.le_of_eq gq703.symm))
  have g_b703 : n0 ≤ b703 := Nat.le_trans (Nat.le_trans Z0 K702.1) (Nat.le_of_eq gq703.symm)
  have sz_b703 : h0.size ≤ b703 := Nat.le_trans K702.1 (Nat.le_of_eq gq703.symm)
  have Ex715 : Exa Z h703 nb_402 "com/example/redoubt/redoubt/storage/PageCache$Frame" := (Ex683.ext E703)
  have F716 : Fld Z h703 nb_402 "com/example/redoubt/redoubt/storage/PageCache$Frame" "page" "I" (.int p0) := (F684.ext E703)
  have Ex717 : Exa Z h703 nb_412 "com/example/redoubt/redoubt/storage/PageCache$Frame" := (Ex685.ext E703)
  have F718 : Fld Z h703 nb_412 "com/example/redoubt/redoubt/storage/PageCache$Frame" "page" "I" (.int (p0 + ss)) := (F686.ext E703)
  have Ex719 : Exa Z h703 nb_427 "com/example/redoubt/redoubt/storage/PageCache$Frame" := (Ex687.ext E703)
  have F720 : Fld Z h703 nb_427 "com/example/redoubt/redoubt/storage/PageCache$Frame" "page" "I" (.int (p0 + ((2 : Int32) * ss))) := (F688.ext E703)
  have Ex721 : Exa Z h703 nb_447 "com/example/redoubt/redoubt/storage/PageCache$Frame" := (Ex689.ext E703)
  have F722 : Fld Z h703 nb_447 "com/example/redoubt/redoubt/storage/PageCache$Frame" "page" "I" (.int (p0 + ((3 : Int32) * ss))) := (F690.ext E703)
  have Ex723 : Exa Z h703 nb_472 "com/example/redoubt/redoubt/storage/PageCache$Frame" := (Ex691.ext E703)
  have F724 : Fld Z h703 nb_472 "com/example/redoubt/redoubt/storage/PageCache$Frame" "page" "I" (.int (p0 + ((4 : Int32) * ss))) := (F692.ext E703)
  have Ex725 : Exa Z h703 nb_502 "com/example/redoubt/redoubt/storage/PageCache$Frame" := (Ex693.ext E703)
  have F726 : Fld Z h703 nb_502 "com/example/redoubt/redoubt/storage/PageCache$Frame" "page" "I" (.int (p0 + ((5 : Int32) * ss))) := (F694.ext E703)
  have Ex727 : Exa Z h703 nb_537 "com/example/redoubt/redoubt/storage/PageCache$Frame" := (Ex695.ext E703)
  have F728 : Fld Z h703 nb_537 "com/example/redoubt/redoubt/storage/PageCache$Frame" "page" "I" (.int (p0 + ((6 : Int32) * ss))) := (F696.ext E703)
  have Ex729 : Exa Z h703 nb_577 "com/example/redoubt/redoubt/storage/PageCache$Frame" := (Ex697.ext E703)
  have F730 : Fld Z h703 nb_577 "com/example/redoubt/redoubt/storage/PageCache$Frame" "page" "I" (.int (p0 + ((7 : Int32) * ss))) := (F698.ext E703)
  have Ex731 : Exa Z h703 nb_622 "com/example/redoubt/redoubt/storage/PageCache$Frame" := (Ex699.ext E703)
  have F732 : Fld Z h703 nb_622 "com/example/redoubt/redoubt/storage/PageCache$Frame" "page" "I" (.int (p0 + ((8 : Int32) * ss))) := (F700.ext E703)
  have Av733 : Arv Z h703 b400 k400 (.object "com/example/redoubt/redoubt/storage/PageCache$Frame") (9 : Int32) ([(.ref nb_402), (.ref nb_412), (.ref nb_427), (.ref nb_447), (.ref nb_472), (.ref nb_502), (.ref nb_537), (.ref nb_577), (.ref nb_622)] : List Value) .null := (Av701.ext E703)
  have Ex734 : Exa Z h703 nb_672 "com/example/redoubt/redoubt/storage/PageCache$Frame" := (P672_0.ext E703)
  have F735 : Fld Z h703 nb_672 "com/example/redoubt/redoubt/storage/PageCache$Frame" "page" "I" (.int p4) := (P672_1.ext E703)
  have K736 : Keep h0 h703 [] := K702.ext E703
  have F737 : Fld Z h703 b703 "com/example/redoubt/redoubt/storage/FrameTable" "slots" "[Lcom/example/redoubt/redoubt/storage/PageCache$Frame;" .null := D703 (Or.inl (hw _ (List.mem_of_getElem? (i := 30) rfl))) (ty := (.array (.object "com/example/redoubt/redoubt/storage/PageCache$Frame"))) (by decide)
  have F738 : Fld Z h703 b703 "com/example/redoubt/redoubt/storage/FrameTable" "shift" "I" (.int (0 : Int32)) := D703 (Or.inl (hw _ (List.mem_of_getElem? (i := 32) rfl))) (ty := .int) (by decide)
  have F739 : Fld Z h703 b703 "com/example/redoubt/redoubt/storage/FrameTable" "size" "I" (.int (0 : Int32)) := D703 (Or.inl (hw _ (List.mem_of_getElem? (i := 39) rfl))) (ty := .int) (by decide)
  obtain ⟨_, _, ⟨T740, L740, k740, n740⟩, -, X740, ⟨Lc740, hQ740, l740, y740, z740⟩, st740⟩ := X703.specialBack hx (y := (⟨"com/example/redoubt/redoubt/storage/FrameTable", "<init>", "()V"⟩ : MethodName)) rfl hown (mvT hZ (hw _ (List.mem_of_getElem? (i := 24) rfl))) (mvT hZ (hw _ (List.mem_of_getElem? (i := 25) rfl))) (mvT hZ (hw _ (List.mem_of_getElem? (i := 26) rfl))) (by decide) (backOf (W := 1) (rmTab l Z a0 hw [] b703 h703 n0 (Nat.le_trans Z0 K736.1) A703 F737 F738 F739 g_b703) hZ (hw _ (List.mem_of_getElem? (i := 26) rfl)) (hw _ (List.mem_of_getElem? (i := 23) rfl)) (by decide) (by decide)) (g := (mkF m 157 #[.val (.int p0), .val (.int p1), .val (.int p2), .val (.int p3), .val (.int p4), .val (.int ss), .val (.int kq), .val (.int jj), .val (.ref b400), .val (.ref nb_672), .unset, .unset, .unset, .unset] [(.ref b703), (.ref b703)])) rfl (by rw [hml]; rfl) (Steps.refl _) (a := b703) (argsL := []) (rest := [(.ref b703)]) (lenOf pd_2 rfl) rfl (by show 2 * 0 + _ ≤ _; exact Nat.le_of_eq rfl) (hb hby at_157) (fun _ _ => ⟨rfl, e703, (by decide : 22 + 1 ≤ _), (by decide : 81992 + 16 ≤ _)⟩)
  dsimp only [Pt.U, Pt.locs, Pt.cells, Pt.slots] at X740 l740 y740 z740 st740 hQ740
  rw [l740, y740, z740] at X740
  replace X740 := own_std X740 (cc := 23) (ss := 82008) rfl rfl
  obtain ⟨a_740, k_740, rfl, N740q, K740q, sz740_a, P740_0, P740_1, P740_2, P740_3, P740_4, pu740_0⟩ := hQ740
  have N740 := Fr.app N672 N740q
  have ne741 : nb_402 ≠ a_740 := Nat.ne_of_lt (Nat.lt_of_lt_of_le Ex715.lt sz740_a)
  have ne742 : nb_412 ≠ a_740 := Nat.ne_of_lt (Nat.lt_of_lt_of_le Ex717.lt sz740_a)
  have ne743 : nb_427 ≠ a_740 := Nat.ne_of_lt (Nat.lt_of_lt_of_le Ex719.lt sz740_a)
  have ne744 : nb_447 ≠ a_740 := Nat.ne_of_lt (Nat.lt_of_lt_of_le Ex721.lt sz740_a)
  have ne745 : nb_472 ≠ a_740 := Nat.ne_of_lt (Nat.lt_of_lt_of_le Ex723.lt sz740_a)
  have ne746 : nb_502 ≠ a_740 := Nat.ne_of_lt (Nat.lt_of_lt_of_le Ex725.lt sz740_a)
  have ne747 : nb_537 ≠ a_740 := Nat.ne_of_lt (Nat.lt_of_lt_of_le Ex727.lt sz740_a)
  have ne748 : nb_577 ≠ a_740 := Nat.ne_of_lt (Nat.lt_of_lt_of_le Ex729.lt sz740_a)
  have ne749 : nb_622 ≠ a_740 := Nat.ne_of_lt (Nat.lt_of_lt_of_le Ex731.lt sz740_a)
  have ne750 : b400 ≠ a_740 := Nat.ne_of_lt (Nat.lt_of_lt_of_le Av733.lt sz740_a)
  have ne751 : nb_672 ≠ a_740 := Nat.ne_of_lt (Nat.lt_of_lt_of_le Ex734.lt sz740_a)
  have ne752 : b703 ≠ a_740 := Nat.ne_of_lt (Nat.lt_of_lt_of_le A703.lt sz740_a)
  have g_a_740 : n0 ≤ a_740 := Nat.le_trans (Nat.le_trans Z0 K736.1) sz740_a
  have sz_a_740 : h0.size ≤ a_740 := Nat.le_trans K736.1 sz740_a
  have Ex753 : Exa Z T740.heap nb_402 "com/example/redoubt/redoubt/storage/PageCache$Frame" := (Ex715.keep K740q)
  have F754 : Fld Z T740.heap nb_402 "com/example/redoubt/redoubt/storage/PageCache$Frame" "page" "I" (.int p0) := (F716.keep K740q (ninS ne704 nin0))
  have Ex755 : Exa Z T740.heap nb_412 "com/example/redoubt/redoubt/storage/PageCache$Frame" := (Ex717.keep K740q)
  have F756 : Fld Z T740.heap nb_412 "com/example/redoubt/redoubt/storage/PageCache$Frame" "page" "I" (.int (p0 + ss)) := (F718.keep K740q (ninS ne705 nin0))
  have Ex757 : Exa Z T740.heap nb_427 "com/example/redoubt/redoubt/storage/PageCache$Frame" := (Ex719.keep K740q)
  have F758 : Fld Z T740.heap nb_427 "com/example/redoubt/redoubt/storage/PageCache$Frame" "page" "I" (.int (p0 + ((2 : Int32) * ss))) := (F720.keep K740q (ninS ne706 nin0))
  have Ex759 : Exa Z T740.heap nb_447 "com/example/redoubt/redoubt/storage/PageCache$Frame" := (Ex721.keep K740q)
  have F760 : Fld Z T740.heap nb_447 "com/example/redoubt/redoubt/storage/PageCache$Frame" "page" "I" (.int (p0 + ((3 : Int32) * ss))) := (F722.keep K740q (ninS ne707 nin0))
  have Ex761 : Exa Z T740.heap nb_472 "com/example/redoubt/redoubt/storage/PageCache$Frame" := (Ex723.keep K740q)
  have F762 : Fld Z T740.heap nb_472 "com/example/redoubt/redoubt/storage/PageCache$Frame" "page" "I" (.int (p0 + ((4 : Int32) * ss))) := (F724.keep K740q (ninS ne708 nin0))
  have Ex763 : Exa Z T740.heap nb_502 "com/example/redoubt/redoubt/storage/PageCache$Frame" := (Ex725.keep K740q)
  have F764 : Fld Z T740.heap nb_502 "com/example/redoubt/redoubt/storage/PageCache$Frame" "page" "I" (.int (p0 + ((5 : Int32) * ss))) := (F726.keep K740q (ninS ne709 nin0))
  have Ex765 : Exa Z T740.heap nb_537 "com/example/redoubt/redoubt/storage/PageCache$Frame" := (Ex727.keep K740q)
  have F766 : Fld Z T740.heap nb_537 "com/example/redoubt/redoubt/storage/PageCache$Frame" "page" "I" (.int (p0 + ((6 : Int32) * ss))) := (F728.keep K740q (ninS ne710 nin0))
  have Ex767 : Exa Z T740.heap nb_577 "com/example/redoubt/redoubt/storage/PageCache$Frame" := (Ex729.keep K740q)
  have F768 : Fld Z T740.heap nb_577 "com/example/redoubt/redoubt/storage/PageCache$Frame" "page" "I" (.int (p0 + ((7 : Int32) * ss))) := (F730.keep K740q (ninS ne711 nin0))
  have Ex769 : Exa Z T740.heap nb_622 "com/example/redoubt/redoubt/storage/PageCache$Frame" := (Ex731.keep K740q)
  have F770 : Fld Z T740.heap nb_622 "com/example/redoubt/redoubt/storage/PageCache$Frame" "page" "I" (.int (p0 + ((8 : Int32) * ss))) := (F732.keep K740q (ninS ne712 nin0))
  have Av771 : Arv Z T740.heap b400 k400 (.object "com/example/redoubt/redoubt/storage/PageCache$Frame") (9 : Int32) ([(.ref nb_402), (.ref nb_412), (.ref nb_427), (.ref nb_447), (.ref nb_472), (.ref nb_502), (.ref nb_537), (.ref nb_577), (.ref nb_622)] : List Value) .null := (Av733.keep K740q (ninS ne713 nin0))
  have Ex772 : Exa Z T740.heap nb_672 "com/example/redoubt/redoubt/storage/PageCache$Frame" := (Ex734.keep K740q)
  have F773 : Fld Z T740.heap nb_672 "com/example/redoubt/redoubt/storage/PageCache$Frame" "page" "I" (.int p4) := (F735.keep K740q (ninS ne714 nin0))
  have Ex774 : Exa Z T740.heap b703 "com/example/redoubt/redoubt/storage/FrameTable" := (A703.keep K740q)
  have K775 : Keep h0 T740.heap [] := K736.trans K740q (allS (Or.inr sz_b703) all0)
  obtain ⟨T1122, lc1122, h1122, a_1122, sh_1122, c0_1122, X1122, e1122, N1122, K1122, P1122_0, P1122_1, P1122_2, P1122_3, P1122_4, P1122_5, pre1122⟩ : ∃ (T1122 : State) (lc1122 : List Loc) (h1122 : Heap) (a_1122 : Addr) (sh_1122 : Int32) (c0_1122 : Int32), Stand p l e room_1 s m #[(.int p0), (.int p1), (.int p2), (.int p3), (.int p4)] below meth c T1122 lc1122 24 82040 ∧ T1122.heap = h1122 ∧ Fr n0 lc1122 ∧ Keep h0 h1122 [] ∧ Exa Z h1122 b703 "com/example/redoubt/redoubt/storage/FrameTable" ∧ Fld Z h1122 b703 "com/example/redoubt/redoubt/storage/FrameTable" "slots" "[Lcom/example/redoubt/redoubt/storage/PageCache$Frame;" (.ref a_1122) ∧ Fld Z h1122 b703 "com/example/redoubt/redoubt/storage/FrameTable" "shift" "I" (.int sh_1122) ∧ Fld Z h1122 b703 "com/example/redoubt/redoubt/storage/FrameTable" "size" "I" (.int c0_1122) ∧ Exa Z h1122 nb_672 "com/example/redoubt/redoubt/storage/PageCache$Frame" ∧ Fld Z h1122 nb_672 "com/example/redoubt/redoubt/storage/PageCache$Frame" "page" "I" (.int p4) ∧ ∀ t, Steps p.tables e below (T1122.setTop (mkF m 302 #[.val (.int p0), .val (.int p1), .val (.int p2), .val (.int p3), .val (.int p4), .val (.int ss), .val (.int kq), .val (.int jj), .val (.ref b400), .val (.ref nb_672), .val (.ref b703), .unset, .unset, .unset] [])) t → Steps p.tables e below (s₁.setTop (entryFrame m #[(.int p0), (.int p1), (.int p2), (.int p3), (.int p4)] maxLocals)) t := by
    have G776 : own_Good Z T740.heap ([.null, .null, .null, .null, .null, .null, .null, .null, .null, .null, .null, .null, .null, .null, .null, .null] : List Value) := own_ng
    have pre777 : ∀ t, Steps p.tables e below (T740.setTop (mkF m 164 #[.val (.int p0), .val (.int p1), .val (.int p2), .val (.int p3), .val (.int p4), .val (.int ss), .val (.int kq), .val (.int jj), .val (.ref b400), .val (.ref nb_672), .val (.ref b703), .unset, .unset, .unset] [(.int kq)])) t → Steps p.tables e below (s₁.setTop (entryFrame m #[(.int p0), (.int p1), (.int p2), (.int p3), (.int p4)] maxLocals)) t := fun t kk => pre399 t (by
        show Steps p.tables e below (s₁.setTop (mkF m 23 #[.val (.int p0), .val (.int p1), .val (.int p2), .val (.int p3), .val (.int p4), .val (.int ss), .val (.int kq), .val (.int jj), .unset, .unset, .unset, .unset, .unset, .unset] [])) _
        refine XS.bipush X0.here hx rfl (hb hby at_23) ?_
        show Steps p.tables e below (s₁.setTop (mkF m 25 #[.val (.int p0), .val (.int p1), .val (.int p2), .val (.int p3), .val (.int p4), .val (.int ss), .val (.int kq), .val (.int jj), .unset, .unset, .unset, .unset, .unset, .unset] [(.int (9 : Int32))])) _
        refine st400 _ ?_
        show Steps p.tables e below (T400.setTop (mkF m 28 #[.val (.int p0), .val (.int p1), .val (.int p2), .val (.int p3), .val (.int p4), .val (.int ss), .val (.int kq), .val (.int jj), .unset, .unset, .unset, .unset, .unset, .unset] [(.ref b400)])) _
        refine XS.astore X400.here hx rfl (hb hby at_28) rfl rfl (l' := #[.val (.int p0), .val (.int p1), .val (.int p2), .val (.int p3), .val (.int p4), .val (.int ss), .val (.int kq), .val (.int jj), .val (.ref b400), .unset, .unset, .unset, .unset, .unset]) rfl ?_
        show Steps p.tables e below (T400.setTop (mkF m 30 #[.val (.int p0), .val (.int p1), .val (.int p2), .val (.int p3), .val (.int p4), .val (.int ss), .val (.int kq), .val (.int jj), .val (.ref b400), .unset, .unset, .unset, .unset, .unset] [])) _
        refine XS.aload X400.here hx rfl (hb hby at_30) rfl rfl ?_
        show Steps p.tables e below (T400.setTop (mkF m 32 #[.val (.int p0), .val (.int p1), .val (.int p2), .val (.int p3), .val (.int p4), .val (.int ss), .val (.int kq), .val (.int jj), .val (.ref b400), .unset, .unset, .unset, .unset, .unset] [(.ref b400)])) _
        refine XS.iconst X400.here hx rfl (hb hby at_32) ?_
        show Steps p.tables e below (T400.setTop (mkF m 33 #[.val (.int p0), .val (.int p1), .val (.int p2), .val (.int p3), .val (.int p4), .val (.int ss), .val (.int kq), .val (.int jj), .val (.ref b400), .unset, .unset, .unset, .unset, .unset] [(.int (0 : Int32)), (.ref b400)])) _
        refine XS.iloadN X400.here hx rfl (hb hby at_33) rfl ?_
        show Steps p.tables e below (T400.setTop (mkF m 34 #[.val (.int p0), .val (.int p1), .val (.int p2), .val (.int p3), .val (.int p4), .val (.int ss), .val (.int kq), .val (.int jj), .val (.ref b400), .unset, .unset, .unset, .unset, .unset] [(.int p0), (.int (0 : Int32)), (.ref b400)])) _
        refine st402 _ ?_
        show Steps p.tables e below (T402.setTop (mkF m 37 #[.val (.int p0), .val (.int p1), .val (.int p2), .val (.int p3), .val (.int p4), .val (.int ss), .val (.int kq), .val (.int jj), .val (.ref b400), .unset, .unset, .unset, .unset, .unset] [(.ref nb_402), (.int (0 : Int32)), (.ref b400)])) _
        refine st407 _ ?_
        show Steps p.tables e below (T407.setTop (mkF m 38 #[.val (.int p0), .val (.int p1), .val (.int p2), .val (.int p3), .val (.int p4), .val (.int ss), .val (.int kq), .val (.int jj), .val (.ref b400), .unset, .unset, .unset, .unset, .unset] [])) _
        refine XS.aload X407.here hx rfl (hb hby at_38) rfl rfl ?_
        show Steps p.tables e below (T407.setTop (mkF m 40 #[.val (.int p0), .val (.int p1), .val (.int p2), .val (.int p3), .val (.int p4), .val (.int ss), .val (.int kq), .val (.int jj), .val (.ref b400), .unset, .unset, .unset, .unset, .unset] [(.ref b400)])) _
        refine XS.iconst X407.here hx rfl (hb hby at_40) ?_
        show Steps p.tables e below (T407.setTop (mkF m 41 #[.val (.int p0), .val (.int p1), .val (.int p2), .val (.int p3), .val (.int p4), .val (.int ss), .val (.int kq), .val (.int jj), .val (.ref b400), .unset, .unset, .unset, .unset, .unset] [(.int (1 : Int32)), (.ref b400)])) _
        refine XS.iloadN X407.here hx rfl (hb hby at_41) rfl ?_
        show Steps p.tables e below (T407.setTop (mkF m 42 #[.val (.int p0), .val (.int p1), .val (.int p2), .val (.int p3), .val (.int p4), .val (.int ss), .val (.int kq), .val (.int jj), .val (.ref b400), .unset, .unset, .unset, .unset, .unset] [(.int p0), (.int (1 : Int32)), (.ref b400)])) _
        refine XS.iload X407.here hx rfl (hb hby at_42) rfl ?_
        show Steps p.tables e below (T407.setTop (mkF m 44 #[.val (.int p0), .val (.int p1), .val (.int p2), .val (.int p3), .val (.int p4), .val (.int ss), .val (.int kq), .val (.int jj), .val (.ref b400), .unset, .unset, .unset, .unset, .unset] [(.int ss), (.int p0), (.int (1 : Int32)), (.ref b400)])) _
        refine XS.iadd X407.here hx rfl (hb hby at_44) rfl ?_
        show Steps p.tables e below (T407.setTop (mkF m 45 #[.val (.int p0), .val (.int p1), .val (.int p2), .val (.int p3), .val (.int p4), .val (.int ss), .val (.int kq), .val (.int jj), .val (.ref b400), .unset, .unset, .unset, .unset, .unset] [(.int (p0 + ss)), (.int (1 : Int32)), (.ref b400)])) _
        refine st412 _ ?_
        show Steps p.tables e below (T412.setTop (mkF m 48 #[.val (.int p0), .val (.int p1), .val (.int p2), .val (.int p3), .val (.int p4), .val (.int ss), .val (.int kq), .val (.int jj), .val (.ref b400), .unset, .unset, .unset, .unset, .unset] [(.ref nb_412), (.int (1 : Int32)), (.ref b400)])) _
        refine st420 _ ?_
        show Steps p.tables e below (T420.setTop (mkF m 49 #[.val (.int p0), .val (.int p1), .val (.int p2), .val (.int p3), .val (.int p4), .val (.int ss), .val (.int kq), .val (.int jj), .val (.ref b400), .unset, .unset, .unset, .unset, .unset] [])) _
        refine XS.aload X420.here hx rfl (hb hby at_49) rfl rfl ?_
        show Steps p.tables e below (T420.setTop (mkF m 51 #[.val (.int p0), .val (.int p1), .val (.int p2), .val (.int p3), .val (.int p4), .val (.int ss), .val (.int kq), .val (.int jj), .val (.ref b400), .unset, .unset, .unset, .unset, .unset] [(.ref b400)])) _
        refine XS.iconst X420.here hx rfl (hb hby at_51) ?_
        show Steps p.tables e below (T420.setTop (mkF m 52 #[.val (.int p0), .val (.int p1), .val (.int p2), .val (.int p3), .val (.int p4), .val (.int ss), .val (.int kq), .val (.int jj), .val (.ref b400), .unset, .unset, .unset, .unset, .unset] [(.int (2 : Int32)), (.ref b400)])) _
        refine XS.iloadN X420.here hx rfl (hb hby at_52) rfl ?_
        show Steps p.tables e below (T420.setTop (mkF m 53 #[.val (.int p0), .val (.int p1), .val (.int p2), .val (.int p3), .val (.int p4), .val (.int ss), .val (.int kq), .val (.int jj), .val (.ref b400), .unset, .unset, .unset, .unset, .unset] [(.int p0), (.int (2 : Int32)), (.ref b400)])) _
        refine XS.iconst X420.here hx rfl (hb hby at_53) ?_
        show Steps p.tables e below (T420.setTop (mkF m 54 #[.val (.int p0), .val (.int p1), .val (.int p2), .val (.int p3), .val (.int p4), .val (.int ss), .val (.int kq), .val (.int jj), .val (.ref b400), .unset, .unset, .unset, .unset, .unset] [(.int (2 : Int32)), (.int p0), (.int (2 : Int32)), (.ref b400)])) _
        refine XS.iload X420.here hx rfl (hb hby at_54) rfl ?_
        show Steps p.tables e below (T420.setTop (mkF m 56 #[.val (.int p0), .val (.int p1), .val (.int p2), .val (.int p3), .val (.int p4), .val (.int ss), .val (.int kq), .val (.int jj), .val (.ref b400), .unset, .unset, .unset, .unset, .unset] [(.int ss), (.int (2 : Int32)), (.int p0), (.int (2 : Int32)), (.ref b400)])) _
        refine XS.imul X420.here hx rfl (hb hby at_56) rfl ?_
        show Steps p.tables e below (T420.setTop (mkF m 57 #[.val (.int p0), .val (.int p1), .val (.int p2), .val (.int p3), .val (.int p4), .val (.int ss), .val (.int kq), .val (.int jj), .val (.ref b400), .unset, .unset, .unset, .unset, .unset] [(.int ((2 : Int32) * ss)), (.int p0), (.int (2 : Int32)), (.ref b400)])) _
        refine XS.iadd X420.here hx rfl (hb hby at_57) rfl ?_
        show Steps p.tables e below (T420.setTop (mkF m 58 #[.val (.int p0), .val (.int p1), .val (.int p2), .val (.int p3), .val (.int p4), .val (.int ss), .val (.int kq), .val (.int jj), .val (.ref b400), .unset, .unset, .unset, .unset, .unset] [(.int (p0 + ((2 : Int32) * ss))), (.int (2 : Int32)), (.ref b400)])) _
        refine st427 _ ?_
        show Steps p.tables e below (T427.setTop (mkF m 61 #[.val (.int p0), .val (.int p1), .val (.int p2), .val (.int p3), .val (.int p4), .val (.int ss), .val (.int kq), .val (.int jj), .val (.ref b400), .unset, .unset, .unset, .unset, .unset] [(.ref nb_427), (.int (2 : Int32)), (.ref b400)])) _
        refine st438 _ ?_
        show Steps p.tables e below (T438.setTop (mkF m 62 #[.val (.int p0), .val (.int p1), .val (.int p2), .val (.int p3), .val (.int p4), .val (.int ss), .val (.int kq), .val (.int jj), .val (.ref b400), .unset, .unset, .unset, .unset, .unset] [])) _
        refine XS.aload X438.here hx rfl (hb hby at_62) rfl rfl ?_
        show Steps p.tables e below (T438.setTop (mkF m 64 #[.val (.int p0), .val (.int p1), .val (.int p2), .val (.int p3), .val (.int p4), .val (.int ss), .val (.int kq), .val (.int jj), .val (.ref b400), .unset, .unset, .unset, .unset, .unset] [(.ref b400)])) _
        refine XS.iconst X438.here hx rfl (hb hby at_64) ?_
        show Steps p.tables e below (T438.setTop (mkF m 65 #[.val (.int p0), .val (.int p1), .val (.int p2), .val (.int p3), .val (.int p4), .val (.int ss), .val (.int kq), .val (.int jj), .val (.ref b400), .unset, .unset, .unset, .unset, .unset] [(.int (3 : Int32)), (.ref b400)])) _
        refine XS.iloadN X438.here hx rfl (hb hby at_65) rfl ?_
        show Steps p.tables e below (T438.setTop (mkF m 66 #[.val (.int p0), .val (.int p1), .val (.int p2), .val (.int p3), .val (.int p4), .val (.int ss), .val (.int kq), .val (.int jj), .val (.ref b400), .unset, .unset, .unset, .unset, .unset] [(.int p0), (.int (3 : Int32)), (.ref b400)])) _
        refine XS.iconst X438.here hx rfl (hb hby at_66) ?_
        show Steps p.tables e below (T438.setTop (mkF m 67 #[.val (.int p0), .val (.int p1), .val (.int p2), .val (.int p3), .val (.int p4), .val (.int ss), .val (.int kq), .val (.int jj), .val (.ref b400), .unset, .unset, .unset, .unset, .unset] [(.int (3 : Int32)), (.int p0), (.int (3 : Int32)), (.ref b400)])) _
        refine XS.iload X438.here hx rfl (hb hby at_67) rfl ?_
        show Steps p.tables e below (T438.setTop (mkF m 69 #[.val (.int p0), .val (.int p1), .val (.int p2), .val (.int p3), .val (.int p4), .val (.int ss), .val (.int kq), .val (.int jj), .val (.ref b400), .unset, .unset, .unset, .unset, .unset] [(.int ss), (.int (3 : Int32)), (.int p0), (.int (3 : Int32)), (.ref b400)])) _
        refine XS.imul X438.here hx rfl (hb hby at_69) rfl ?_
        show Steps p.tables e below (T438.setTop (mkF m 70 #[.val (.int p0), .val (.int p1), .val (.int p2), .val (.int p3), .val (.int p4), .val (.int ss), .val (.int kq), .val (.int jj), .val (.ref b400), .unset, .unset, .unset, .unset, .unset] [(.int ((3 : Int32) * ss)), (.int p0), (.int (3 : Int32)), (.ref b400)])) _
        refine XS.iadd X438.here hx rfl (hb hby at_70) rfl ?_
        show Steps p.tables e below (T438.setTop (mkF m 71 #[.val (.int p0), .val (.int p1), .val (.int p2), .val (.int p3), .val (.int p4), .val (.int ss), .val (.int kq), .val (.int jj), .val (.ref b400), .unset, .unset, .unset, .unset, .unset] [(.int (p0 + ((3 : Int32) * ss))), (.int (3 : Int32)), (.ref b400)])) _
        refine st447 _ ?_
        show Steps p.tables e below (T447.setTop (mkF m 74 #[.val (.int p0), .val (.int p1), .val (.int p2), .val (.int p3), .val (.int p4), .val (.int ss), .val (.int kq), .val (.int jj), .val (.ref b400), .unset, .unset, .unset, .unset, .unset] [(.ref nb_447), (.int (3 : Int32)), (.ref b400)])) _
        refine st461 _ ?_
        show Steps p.tables e below (T461.setTop (mkF m 75 #[.val (.int p0), .val (.int p1), .val (.int p2), .val (.int p3), .val (.int p4), .val (.int ss), .val (.int kq), .val (.int jj), .val (.ref b400), .unset, .unset, .unset, .unset, .unset] [])) _
        refine XS.aload X461.here hx rfl (hb hby at_75) rfl rfl ?_
        show Steps p.tables e below (T461.setTop (mkF m 77 #[.val (.int p0), .val (.int p1), .val (.int p2), .val (.int p3), .val (.int p4), .val (.int ss), .val (.int kq), .val (.int jj), .val (.ref b400), .unset, .unset, .unset, .unset, .unset] [(.ref b400)])) _
        refine XS.iconst X461.here hx rfl (hb hby at_77) ?_
        show Steps p.tables e below (T461.setTop (mkF m 78 #[.val (.int p0), .val (.int p1), .val (.int p2), .val (.int p3), .val (.int p4), .val (.int ss), .val (.int kq), .val (.int jj), .val (.ref b400), .unset, .unset, .unset, .unset, .unset] [(.int (4 : Int32)), (.ref b400)])) _
        refine XS.iloadN X461.here hx rfl (hb hby at_78) rfl ?_
        show Steps p.tables e below (T461.setTop (mkF m 79 #[.val (.int p0), .val (.int p1), .val (.int p2), .val (.int p3), .val (.int p4), .val (.int ss), .val (.int kq), .val (.int jj), .val (.ref b400), .unset, .unset, .unset, .unset, .unset] [(.int p0), (.int (4 : Int32)), (.ref b400)])) _
        refine XS.iconst X461.here hx rfl (hb hby at_79) ?_
        show Steps p.tables e below (T461.setTop (mkF m 80 #[.val (.int p0), .val (.int p1), .val (.int p2), .val (.int p3), .val (.int p4), .val (.int ss), .val (.int kq), .val (.int jj), .val (.ref b400), .unset, .unset, .unset, .unset, .unset] [(.int (4 : Int32)), (.int p0), (.int (4 : Int32)), (.ref b400)])) _
        refine XS.iload X461.here hx rfl (hb hby at_80) rfl ?_
        show Steps p.tables e below (T461.setTop (mkF m 82 #[.val (.int p0), .val (.int p1), .val (.int p2), .val (.int p3), .val (.int p4), .val (.int ss), .val (.int kq), .val (.int jj), .val (.ref b400), .unset, .unset, .unset, .unset, .unset] [(.int ss), (.int (4 : Int32)), (.int p0), (.int (4 : Int32)), (.ref b400)])) _
        refine XS.imul X461.here hx rfl (hb hby at_82) rfl ?_
        show Steps p.tables e below (T461.setTop (mkF m 83 #[.val (.int p0), .val (.int p1), .val (.int p2), .val (.int p3), .val (.int p4), .val (.int ss), .val (.int kq), .val (.int jj), .val (.ref b400), .unset, .unset, .unset, .unset, .unset] [(.int ((4 : Int32) * ss)), (.int p0), (.int (4 : Int32)), (.ref b400)])) _
        refine XS.iadd X461.here hx rfl (hb hby at_83) rfl ?_
        show Steps p.tables e below (T461.setTop (mkF m 84 #[.val (.int p0), .val (.int p1), .val (.int p2), .val (.int p3), .val (.int p4), .val (.int ss), .val (.int kq), .val (.int jj), .val (.ref b400), .unset, .unset, .unset, .unset, .unset] [(.int (p0 + ((4 : Int32) * ss))), (.int (4 : Int32)), (.ref b400)])) _
        refine st472 _ ?_
        show Steps p.tables e below (T472.setTop (mkF m 87 #[.val (.int p0), .val (.int p1), .val (.int p2), .val (.int p3), .val (.int p4), .val (.int ss), .val (.int kq), .val (.int jj), .val (.ref b400), .unset, .unset, .unset, .unset, .unset] [(.ref nb_472), (.int (4 : Int32)), (.ref b400)])) _
        refine st489 _ ?_
        show Steps p.tables e below (T489.setTop (mkF m 88 #[.val (.int p0), .val (.int p1), .val (.int p2), .val (.int p3), .val (.int p4), .val (.int ss), .val (.int kq), .val (.int jj), .val (.ref b400), .unset, .unset, .unset, .unset, .unset] [])) _
        refine XS.aload X489.here hx rfl (hb hby at_88) rfl rfl ?_
        show Steps p.tables e below (T489.setTop (mkF m 90 #[.val (.int p0), .val (.int p1), .val (.int p2), .val (.int p3), .val (.int p4), .val (.int ss), .val (.int kq), .val (.int jj), .val (.ref b400), .unset, .unset, .unset, .unset, .unset] [(.ref b400)])) _
        refine XS.iconst X489.here hx rfl (hb hby at_90) ?_
        show Steps p.tables e below (T489.setTop (mkF m 91 #[.val (.int p0), .val (.int p1), .val (.int p2), .val (.int p3), .val (.int p4), .val (.int ss), .val (.int kq), .val (.int jj), .val (.ref b400), .unset, .unset, .unset, .unset, .unset] [(.int (5 : Int32)), (.ref b400)])) _
        refine XS.iloadN X489.here hx rfl (hb hby at_91) rfl ?_
        show Steps p.tables e below (T489.setTop (mkF m 92 #[.val (.int p0), .val (.int p1), .val (.int p2), .val (.int p3), .val (.int p4), .val (.int ss), .val (.int kq), .val (.int jj), .val (.ref b400), .unset, .unset, .unset, .unset, .unset] [(.int p0), (.int (5 : Int32)), (.ref b400)])) _
        refine XS.iconst X489.here hx rfl (hb hby at_92) ?_
        show Steps p.tables e below (T489.setTop (mkF m 93 #[.val (.int p0), .val (.int p1), .val (.int p2), .val (.int p3), .val (.int p4), .val (.int ss), .val (.int kq), .val (.int jj), .val (.ref b400), .unset, .unset, .unset, .unset, .unset] [(.int (5 : Int32)), (.int p0), (.int (5 : Int32)), (.ref b400)])) _
        refine XS.iload X489.here hx rfl (hb hby at_93) rfl ?_
        show Steps p.tables e below (T489.setTop (mkF m 95 #[.val (.int p0), .val (.int p1), .val (.int p2), .val (.int p3), .val (.int p4), .val (.int ss), .val (.int kq), .val (.int jj), .val (.ref b400), .unset, .unset, .unset, .unset, .unset] [(.int ss), (.int (5 : Int32)), (.int p0), (.int (5 : Int32)), (.ref b400)])) _
        refine XS.imul X489.here hx rfl (hb hby at_95) rfl ?_
        show Steps p.tables e below (T489.setTop (mkF m 96 #[.val (.int p0), .val (.int p1), .val (.int p2), .val (.int p3), .val (.int p4), .val (.int ss), .val (.int kq), .val (.int jj), .val (.ref b400), .unset, .unset, .unset, .unset, .unset] [(.int ((5 : Int32) * ss)), (.int p0), (.int (5 : Int32)), (.ref b400)])) _
        refine XS.iadd X489.here hx rfl (hb hby at_96) rfl ?_
        show Steps p.tables e below (T489.setTop (mkF m 97 #[.val (.int p0), .val (.int p1), .val (.int p2), .val (.int p3), .val (.int p4), .val (.int ss), .val (.int kq), .val (.int jj), .val (.ref b400), .unset, .unset, .unset, .unset, .unset] [(.int (p0 + ((5 : Int32) * ss))), (.int (5 : Int32)), (.ref b400)])) _
        refine st502 _ ?_
        show Steps p.tables e below (T502.setTop (mkF m 100 #[.val (.int p0), .val (.int p1), .val (.int p2), .val (.int p3), .val (.int p4), .val (.int ss), .val (.int kq), .val (.int jj), .val (.ref b400), .unset, .unset, .unset, .unset, .unset] [(.ref nb_502), (.int (5 : Int32)), (.ref b400)])) _
        refine st522 _ ?_
        show Steps p.tables e below (T522.setTop (mkF m 101 #[.val (.int p0), .val (.int p1), .val (.int p2), .val (.int p3), .val (.int p4), .val (.int ss), .val (.int kq), .val (.int jj), .val (.ref b400), .unset, .unset, .unset, .unset, .unset] [])) _
        refine XS.aload X522.here hx rfl (hb hby at_101) rfl rfl ?_
        show Steps p.tables e below (T522.setTop (mkF m 103 #[.val (.int p0), .val (.int p1), .val (.int p2), .val (.int p3), .val (.int p4), .val (.int ss), .val (.int kq), .val (.int jj), .val (.ref b400), .unset, .unset, .unset, .unset, .unset] [(.ref b400)])) _
        refine XS.bipush X522.here hx rfl (hb hby at_103) ?_
        show Steps p.tables e below (T522.setTop (mkF m 105 #[.val (.int p0), .val (.int p1), .val (.int p2), .val (.int p3), .val (.int p4), .val (.int ss), .val (.int kq), .val (.int jj), .val (.ref b400), .unset, .unset, .unset, .unset, .unset] [(.int (6 : Int32)), (.ref b400)])) _
        refine XS.iloadN X522.here hx rfl (hb hby at_105) rfl ?_
        show Steps p.tables e below (T522.setTop (mkF m 106 #[.val (.int p0), .val (.int p1), .val (.int p2), .val (.int p3), .val (.int p4), .val (.int ss), .val (.int kq), .val (.int jj), .val (.ref b400), .unset, .unset, .unset, .unset, .unset] [(.int p0), (.int (6 : Int32)), (.ref b400)])) _
        refine XS.bipush X522.here hx rfl (hb hby at_106) ?_
        show Steps p.tables e below (T522.setTop (mkF m 108 #[.val (.int p0), .val (.int p1), .val (.int p2), .val (.int p3), .val (.int p4), .val (.int ss), .val (.int kq), .val (.int jj), .val (.ref b400), .unset, .unset, .unset, .unset, .unset] [(.int (6 : Int32)), (.int p0), (.int (6 : Int32)), (.ref b400)])) _
        refine XS.iload X522.here hx rfl (hb hby at_108) rfl ?_
        show Steps p.tables e below (T522.setTop (mkF m 110 #[.val (.int p0), .val (.int p1), .val (.int p2), .val (.int p3), .val (.int p4), .val (.int ss), .val (.int kq), .val (.int jj), .val (.ref b400), .unset, .unset, .unset, .unset, .unset] [(.int ss), (.int (6 : Int32)), (.int p0), (.int (6 : Int32)), (.ref b400)])) _
        refine XS.imul X522.here hx rfl (hb hby at_110) rfl ?_
        show Steps p.tables e below (T522.setTop (mkF m 111 #[.val (.int p0), .val (.int p1), .val (.int p2), .val (.int p3), .val (.int p4), .val (.int ss), .val (.int kq), .val (.int jj), .val (.ref b400), .unset, .unset, .unset, .unset, .unset] [(.int ((6 : Int32) * ss)), (.int p0), (.int (6 : Int32)), (.ref b400)])) _
        refine XS.iadd X522.here hx rfl (hb hby at_111) rfl ?_
        show Steps p.tables e below (T522.setTop (mkF m 112 #[.val (.int p0), .val (.int p1), .val (.int p2), .val (.int p3), .val (.int p4), .val (.int ss), .val (.int kq), .val (.int jj), .val (.ref b400), .unset, .unset, .unset, .unset, .unset] [(.int (p0 + ((6 : Int32) * ss))), (.int (6 : Int32)), (.ref b400)])) _
        refine st537 _ ?_
        show Steps p.tables e below (T537.setTop (mkF m 115 #[.val (.int p0), .val (.int p1), .val (.int p2), .val (.int p3), .val (.int p4), .val (.int ss), .val (.int kq), .val (.int jj), .val (.ref b400), .unset, .unset, .unset, .unset, .unset] [(.ref nb_537), (.int (6 : Int32)), (.ref b400)])) _
        refine st560 _ ?_
        show Steps p.tables e below (T560.setTop (mkF m 116 #[.val (.int p0), .val (.int p1), .val (.int p2), .val (.int p3), .val (.int p4), .val (.int ss), .val (.int kq), .val (.int jj), .val (.ref b400), .unset, .unset, .unset, .unset, .unset] [])) _
        refine XS.aload X560.here hx rfl (hb hby at_116) rfl rfl ?_
        show Steps p.tables e below (T560.setTop (mkF m 118 #[.val (.int p0), .val (.int p1), .val (.int p2), .val (.int p3), .val (.int p4), .val (.int ss), .val (.int kq), .val (.int jj), .val (.ref b400), .unset, .unset, .unset, .unset, .unset] [(.ref b400)])) _
        refine XS.bipush X560.here hx rfl (hb hby at_118) ?_
        show Steps p.tables e below (T560.setTop (mkF m 120 #[.val (.int p0), .val (.int p1), .val (.int p2), .val (.int p3), .val (.int p4), .val (.int ss), .val (.int kq), .val (.int jj), .val (.ref b400), .unset, .unset, .unset, .unset, .unset] [(.int (7 : Int32)), (.ref b400)])) _
        refine XS.iloadN X560.here hx rfl (hb hby at_120) rfl ?_
        show Steps p.tables e below (T560.setTop (mkF m 121 #[.val (.int p0), .val (.int p1), .val (.int p2), .val (.int p3), .val (.int p4), .val (.int ss), .val (.int kq), .val (.int jj), .val (.ref b400), .unset, .unset, .unset, .unset, .unset] [(.int p0), (.int (7 : Int32)), (.ref b400)])) _
        refine XS.bipush X560.here hx rfl (hb hby at_121) ?_
        show Steps p.tables e below (T560.setTop (mkF m 123 #[.val (.int p0), .val (.int p1), .val (.int p2), .val (.int p3), .val (.int p4), .val (.int ss), .val (.int kq), .val (.int jj), .val (.ref b400), .unset, .unset, .unset, .unset, .unset] [(.int (7 : Int32)), (.int p0), (.int (7 : Int32)), (.ref b400)])) _
        refine XS.iload X560.here hx rfl (hb hby at_123) rfl ?_
        show Steps p.tables e below (T560.setTop (mkF m 125 #[.val (.int p0), .val (.int p1), .val (.int p2), .val (.int p3), .val (.int p4), .val (.int ss), .val (.int kq), .val (.int jj), .val (.ref b400), .unset, .unset, .unset, .unset, .unset] [(.int ss), (.int (7 : Int32)), (.int p0), (.int (7 : Int32)), (.ref b400)])) _
        refine XS.imul X560.here hx rfl (hb hby at_125) rfl ?_
        show Steps p.tables e below (T560.setTop (mkF m 126 #[.val (.int p0), .val (.int p1), .val (.int p2), .val (.int p3), .val (.int p4), .val (.int ss), .val (.int kq), .val (.int jj), .val (.ref b400), .unset, .unset, .unset, .unset, .unset] [(.int ((7 : Int32) * ss)), (.int p0), (.int (7 : Int32)), (.ref b400)])) _
        refine XS.iadd X560.here hx rfl (hb hby at_126) rfl ?_
        show Steps p.tables e below (T560.setTop (mkF m 127 #[.val (.int p0), .val (.int p1), .val (.int p2), .val (.int p3), .val (.int p4), .val (.int ss), .val (.int kq), .val (.int jj), .val (.ref b400), .unset, .unset, .unset, .unset, .unset] [(.int (p0 + ((7 : Int32) * ss))), (.int (7 : Int32)), (.ref b400)])) _
        refine st577 _ ?_
        show Steps p.tables e below (T577.setTop (mkF m 130 #[.val (.int p0), .val (.int p1), .val (.int p2), .val (.int p3), .val (.int p4), .val (.int ss), .val (.int kq), .val (.int jj), .val (.ref b400), .unset, .unset, .unset, .unset, .unset] [(.ref nb_577), (.int (7 : Int32)), (.ref b400)])) _
        refine st603 _ ?_
        show Steps p.tables e below (T603.setTop (mkF m 131 #[.val (.int p0), .val (.int p1), .val (.int p2), .val (.int p3), .val (.int p4), .val (.int ss), .val (.int kq), .val (.int jj), .val (.ref b400), .unset, .unset, .unset, .unset, .unset] [])) _
        refine XS.aload X603.here hx rfl (hb hby at_131) rfl rfl ?_
        show Steps p.tables e below (T603.setTop (mkF m 133 #[.val (.int p0), .val (.int p1), .val (.int p2), .val (.int p3), .val (.int p4), .val (.int ss), .val (.int kq), .val (.int jj), .val (.ref b400), .unset, .unset, .unset, .unset, .unset] [(.ref b400)])) _
        refine XS.bipush X603.here hx rfl (hb hby at_133) ?_
        show Steps p.tables e below (T603.setTop (mkF m 135 #[.val (.int p0), .val (.int p1), .val (.int p2), .val (.int p3), .val (.int p4), .val (.int ss), .val (.int kq), .val (.int jj), .val (.ref b400), .unset, .unset, .unset, .unset, .unset] [(.int (8 : Int32)), (.ref b400)])) _
        refine XS.iloadN X603.here hx rfl (hb hby at_135) rfl ?_
        show Steps p.tables e below (T603.setTop (mkF m 136 #[.val (.int p0), .val (.int p1), .val (.int p2), .val (.int p3), .val (.int p4), .val (.int ss), .val (.int kq), .val (.int jj), .val (.ref b400), .unset, .unset, .unset, .unset, .unset] [(.int p0), (.int (8 : Int32)), (.ref b400)])) _
        refine XS.bipush X603.here hx rfl (hb hby at_136) ?_
        show Steps p.tables e below (T603.setTop (mkF m 138 #[.val (.int p0), .val (.int p1), .val (.int p2), .val (.int p3), .val (.int p4), .val (.int ss), .val (.int kq), .val (.int jj), .val (.ref b400), .unset, .unset, .unset, .unset, .unset] [(.int (8 : Int32)), (.int p0), (.int (8 : Int32)), (.ref b400)])) _
        refine XS.iload X603.here hx rfl (hb hby at_138) rfl ?_
        show Steps p.tables e below (T603.setTop (mkF m 140 #[.val (.int p0), .val (.int p1), .val (.int p2), .val (.int p3), .val (.int p4), .val (.int ss), .val (.int kq), .val (.int jj), .val (.ref b400), .unset, .unset, .unset, .unset, .unset] [(.int ss), (.int (8 : Int32)), (.int p0), (.int (8 : Int32)), (.ref b400)])) _
        refine XS.imul X603.here hx rfl (hb hby at_140) rfl ?_
        show Steps p.tables e below (T603.setTop (mkF m 141 #[.val (.int p0), .val (.int p1), .val (.int p2), .val (.int p3), .val (.int p4), .val (.int ss), .val (.int kq), .val (.int jj), .val (.ref b400), .unset, .unset, .unset, .unset, .unset] [(.int ((8 : Int32) * ss)), (.int p0), (.int (8 : Int32)), (.ref b400)])) _
        refine XS.iadd X603.here hx rfl (hb hby at_141) rfl ?_
        show Steps p.tables e below (T603.setTop (mkF m 142 #[.val (.int p0), .val (.int p1), .val (.int p2), .val (.int p3), .val (.int p4), .val (.int ss), .val (.int kq), .val (.int jj), .val (.ref b400), .unset, .unset, .unset, .unset, .unset] [(.int (p0 + ((8 : Int32) * ss))), (.int (8 : Int32)), (.ref b400)])) _
        refine st622 _ ?_
        show Steps p.tables e below (T622.setTop (mkF m 145 #[.val (.int p0), .val (.int p1), .val (.int p2), .val (.int p3), .val (.int p4), .val (.int ss), .val (.int kq), .val (.int jj), .val (.ref b400), .unset, .unset, .unset, .unset, .unset] [(.ref nb_622), (.int (8 : Int32)), (.ref b400)])) _
        refine st651 _ ?_
        show Steps p.tables e below (T651.setTop (mkF m 146 #[.val (.int p0), .val (.int p1), .val (.int p2), .val (.int p3), .val (.int p4), .val (.int ss), .val (.int kq), .val (.int jj), .val (.ref b400), .unset, .unset, .unset, .unset, .unset] [])) _
        refine XS.iload X651.here hx rfl (hb hby at_146) rfl ?_
        show Steps p.tables e below (T651.setTop (mkF m 148 #[.val (.int p0), .val (.int p1), .val (.int p2), .val (.int p3), .val (.int p4), .val (.int ss), .val (.int kq), .val (.int jj), .val (.ref b400), .unset, .unset, .unset, .unset, .unset] [(.int p4)])) _
        refine st672 _ ?_
        show Steps p.tables e below (T672.setTop (mkF m 151 #[.val (.int p0), .val (.int p1), .val (.int p2), .val (.int p3), .val (.int p4), .val (.int ss), .val (.int kq), .val (.int jj), .val (.ref b400), .unset, .unset, .unset, .unset, .unset] [(.ref nb_672)])) _
        refine XS.astore X672.here hx rfl (hb hby at_151) rfl rfl (l' := #[.val (.int p0), .val (.int p1), .val (.int p2), .val (.int p3), .val (.int p4), .val (.int ss), .val (.int kq), .val (.int jj), .val (.ref b400), .val (.ref nb_672), .unset, .unset, .unset, .unset]) rfl ?_
        show Steps p.tables e below (T672.setTop (mkF m 153 #[.val (.int p0), .val (.int p1), .val (.int p2), .val (.int p3), .val (.int p4), .val (.int ss), .val (.int kq), .val (.int jj), .val (.ref b400), .val (.ref nb_672), .unset, .unset, .unset, .unset] [])) _
        refine st703 _ ?_
        show Steps p.tables e below (T703.setTop (mkF m 156 #[.val (.int p0), .val (.int p1), .val (.int p2), .val (.int p3), .val (.int p4), .val (.int ss), .val (.int kq), .val (.int jj), .val (.ref b400), .val (.ref nb_672), .unset, .unset, .unset, .unset] [(.ref b703)])) _
        refine XS.dup X703.here hx rfl (hb hby at_156) rfl rfl ?_
        show Steps p.tables e below (T703.setTop (mkF m 157 #[.val (.int p0), .val (.int p1), .val (.int p2), .val (.int p3), .val (.int p4), .val (.int ss), .val (.int kq), .val (.int jj), .val (.ref b400), .val (.ref nb_672), .unset, .unset, .unset, .unset] [(.ref b703), (.ref b703)])) _
        refine st740.trans ?_
        show Steps p.tables e below (T740.setTop (mkF m 160 #[.val (.int p0), .val (.int p1), .val (.int p2), .val (.int p3), .val (.int p4), .val (.int ss), .val (.int kq), .val (.int jj), .val (.ref b400), .val (.ref nb_672), .unset, .unset, .unset, .unset] [(.ref b703)])) _
        refine XS.astore X740.here hx rfl (hb hby at_160) rfl rfl (l' := #[.val (.int p0), .val (.int p1), .val (.int p2), .val (.int p3), .val (.int p4), .val (.int ss), .val (.int kq), .val (.int jj), .val (.ref b400), .val (.ref nb_672), .val (.ref b703), .unset, .unset, .unset]) rfl ?_
        show Steps p.tables e below (T740.setTop (mkF m 162 #[.val (.int p0), .val (.int p1), .val (.int p2), .val (.int p3), .val (.int p4), .val (.int ss), .val (.int kq), .val (.int jj), .val (.ref b400), .val (.ref nb_672), .val (.ref b703), .unset, .unset, .unset] [])) _
        refine XS.iload X740.here hx rfl (hb hby at_162) rfl ?_
        exact kk)
    by_cases hk0 : (0 : Int32) < kq
    · obtain ⟨cl786, Ar786, q786, Sz786, Nn786, H786, G786⟩ := id Av771
      have hin786 : ¬ ((0 : Int32) < 0 ∨ cl786.slots.size ≤ ((0 : Int32)).toNatClampNeg) := (inb_of Sz786 ⟨by decide, by decide⟩)
      have hat786 : cl786.slots[((0 : Int32)).toNatClampNeg]? = some (.ref nb_402) := H786.at hin786 rfl
      have hp788 : own_tb (16 : Int32) 16 (28 : Int32) := Or.inl ⟨rfl, rfl, rfl⟩
      have hp789 : ([.null, .null, .null, .null, .null, .null, .null, .null, .null, .null, .null, .null, .null, .null, .null, .null] : List Value).length = 16 := rfl
      have hp790 : Ovr Z k_740 "com/example/redoubt/redoubt/storage/PageCache$Frame" := pu740_0
      have hp791 : own_cnt ([.null, .null, .null, .null, .null, .null, .null, .null, .null, .null, .null, .null, .null, .null, .null, .null] : List Value) < 16 := by decide
      have hp792 : ¬ ((16 : Int32) < ((2 : Int32) * ((0 : Int32) + (1 : Int32)))) := by decide
      obtain ⟨cq787, kq787, q787a, q787b, q787c⟩ := isOf hZ rfl P740_0
      obtain ⟨_, _, ⟨T787, L787, k787, n787⟩, -, X787, ⟨Lc787, hQ787, l787, y787, z787⟩, st787⟩ := X740.virtualBack hx (y := (⟨"com/example/redoubt/redoubt/storage/FrameTable", "add", "(Lcom/example/redoubt/redoubt/storage/PageCache$Frame;)V"⟩ : MethodName)) (z := (⟨"com/example/redoubt/redoubt/storage/FrameTable", "add", "(Lcom/example/redoubt/redoubt/storage/PageCache$Frame;)V"⟩ : MethodName)) hown (mvT hZ (hw _ (List.mem_of_getElem? (i := 33) rfl))) (mvT hZ (hw _ (List.mem_of_getElem? (i := 34) rfl))) (notFace_of_selects (args := #[]) (mvT hZ (hw _ (List.mem_of_getElem? (i := 36) rfl)))) (mvT hZ (hw _ (List.mem_of_getElem? (i := 36) rfl))) (mvT hZ (hw _ (List.mem_of_getElem? (i := 35) rfl))) (by decide) (backOf (W := 0) (rmAddO l Z a0 hw [] b703 nb_402 (28 : Int32) p0 (16 : Int32) 16 a_740 k_740 ([.null, .null, .null, .null, .null, .null, .null, .null, .null, .null, .null, .null, .null, .null, .null, .null] : List Value) (0 : Int32) T740.heap n0 (Nat.le_trans Z0 K775.1) P740_0 P740_1 P740_2 P740_3 P740_4 G776 Ex753 F754 hp788 hp789 hp790 hp791 hp792 g_b703 g_a_740) hZ (hw _ (List.mem_of_getElem? (i := 37) rfl)) (hw _ (List.mem_of_getElem? (i := 23) rfl)) (by decide) (by decide)) q787a q787c (g := (mkF m 173 #[.val (.int p0), .val (.int p1), .val (.int p2), .val (.int p3), .val (.int p4), .val (.int ss), .val (.int kq), .val (.int jj), .val (.ref b400), .val (.ref nb_672), .val (.ref b703), .unset, .unset, .unset] [(.ref nb_402), (.ref b703)])) rfl (by rw [hml]; rfl) (Steps.refl _) (argsL := [(.ref nb_402)]) (rest := []) (lenOf pd_1 rfl) rfl (by show 2 * 0 + _ ≤ _; exact Nat.le_of_eq rfl) (hb hby at_173) (fun _ _ => ⟨rfl, rfl, (by decide : 23 + 0 ≤ _), (by decide : 82008 + 0 ≤ _)⟩)
      dsimp only [Pt.U, Pt.locs, Pt.cells, Pt.slots] at X787 l787 y787 z787 st787 hQ787
      rw [l787, y787, z787] at X787
      replace X787 := own_std X787 (cc := 23) (ss := 82008) rfl rfl
      obtain ⟨vs2_787, rfl, N787q, K787q, P787_0, P787_1, P787_2, P787_3, P787_4, P787_5, pu787_0, pu787_1⟩ := hQ787
      have N787 := Fr.app N740 N787q
      have Ex793 : Exa Z T787.heap nb_402 "com/example/redoubt/redoubt/storage/PageCache$Frame" := (Ex753.keep K787q)
      have F794 : Fld Z T787.heap nb_402 "com/example/redoubt/redoubt/storage/PageCache$Frame" "page" "I" (.int p0) := (F754.keep K787q (ninS ne704 (ninS ne741 nin0)))
      have Ex795 : Exa Z T787.heap nb_412 "com/example/redoubt/redoubt/storage/PageCache$Frame" := (Ex755.keep K787q)
      have F796 : Fld Z T787.heap nb_412 "com/example/redoubt/redoubt/storage/PageCache$Frame" "page" "I" (.int (p0 + ss)) := (F756.keep K787q (ninS ne705 (ninS ne742 nin0)))
      have Ex797 : Exa Z T787.heap nb_427 "com/example/redoubt/redoubt/storage/PageCache$Frame" := (Ex757.keep K787q)
      have F798 : Fld Z T787.heap nb_427 "com/example/redoubt/redoubt/storage/PageCache$Frame" "page" "I" (.int (p0 + ((2 : Int32) * ss))) := (F758.keep K787q (ninS ne706 (ninS ne743 nin0)))
      have Ex799 : Exa Z T787.heap nb_447 "com/example/redoubt/redoubt/storage/PageCache$Frame" := (Ex759.keep K787q)
      have F800 : Fld Z T787.heap nb_447 "com/example/redoubt/redoubt/storage/PageCache$Frame" "page" "I" (.int (p0 + ((3 : Int32) * ss))) := (F760.keep K787q (ninS ne707 (ninS ne744 nin0)))
      have Ex801 : Exa Z T787.heap nb_472 "com/example/redoubt/redoubt/storage/PageCache$Frame" := (Ex761.keep K787q)
      have F802 : Fld Z T787.heap nb_472 "com/example/redoubt/redoubt/storage/PageCache$Frame" "page" "I" (.int (p0 + ((4 : Int32) * ss))) := (F762.keep K787q (ninS ne708 (ninS ne745 nin0)))
      have Ex803 : Exa Z T787.heap nb_502 "com/example/redoubt/redoubt/storage/PageCache$Frame" := (Ex763.keep K787q)
      have F804 : Fld Z T787.heap nb_502 "com/example/redoubt/redoubt/storage/PageCache$Frame" "page" "I" (.int (p0 + ((5 : Int32) * ss))) := (F764.keep K787q (ninS ne709 (ninS ne746 nin0)))
      have Ex805 : Exa Z T787.heap nb_537 "com/example/redoubt/redoubt/storage/PageCache$Frame" := (Ex765.keep K787q)
      have F806 : Fld Z T787.heap nb_537 "com/example/redoubt/redoubt/storage/PageCache$Frame" "page" "I" (.int (p0 + ((6 : Int32) * ss))) := (F766.keep K787q (ninS ne710 (ninS ne747 nin0)))
      have Ex807 : Exa Z T787.heap nb_577 "com/example/redoubt/redoubt/storage/PageCache$Frame" := (Ex767.keep K787q)
      have F808 : Fld Z T787.heap nb_577 "com/example/redoubt/redoubt/storage/PageCache$Frame" "page" "I" (.int (p0 + ((7 : Int32) * ss))) := (F768.keep K787q (ninS ne711 (ninS ne748 nin0)))
      have Ex809 : Exa Z T787.heap nb_622 "com/example/redoubt/redoubt/storage/PageCache$Frame" := (Ex769.keep K787q)
      have F810 : Fld Z T787.heap nb_622 "com/example/redoubt/redoubt/storage/PageCache$Frame" "page" "I" (.int (p0 + ((8 : Int32) * ss))) := (F770.keep K787q (ninS ne712 (ninS ne749 nin0)))
      have Av811 : Arv Z T787.heap b400 k400 (.object "com/example/redoubt/redoubt/storage/PageCache$Frame") (9 : Int32) ([(.ref nb_402), (.ref nb_412), (.ref nb_427), (.ref nb_447), (.ref nb_472), (.ref nb_502), (.ref nb_537), (.ref nb_577), (.ref nb_622)] : List Value) .null := (Av771.keep K787q (ninS ne713 (ninS ne750 nin0)))
      have Ex812 : Exa Z T787.heap nb_672 "com/example/redoubt/redoubt/storage/PageCache$Frame" := (Ex772.keep K787q)
      have F813 : Fld Z T787.heap nb_672 "com/example/redoubt/redoubt/storage/PageCache$Frame" "page" "I" (.int p4) := (F773.keep K787q (ninS ne714 (ninS ne751 nin0)))
      have Ex814 : Exa Z T787.heap b703 "com/example/redoubt/redoubt/storage/FrameTable" := (P740_0.keep K787q)
      have Xf815 : own_Good Z T787.heap ([.null, .null, .null, .null, .null, .null, .null, .null, .null, .null, .null, .null, .null, .null, .null, .null] : List Value) := (own_good_keep G776 K787q (fun f hf => (ninS (ne_exa hf P740_0 (by decide)) (ninS (own_ne_arr hf (hw _ (List.mem_of_getElem? (i := 7) rfl)) P740_4) nin0))))
      have K816 : Keep h0 T787.heap [] := K775.trans K787q (allS (Or.inr sz_b703) (allS (Or.inr sz_a_740) all0))
      have eq818 : ((0 : Int32) + (1 : Int32)) = (1 : Int32) := by decide
      have F817 : Fld Z T787.heap b703 "com/example/redoubt/redoubt/storage/FrameTable" "size" "I" (.int (1 : Int32)) := by rw [← eq818]; exact P787_3
      have cn819 : own_cnt vs2_787 = 1 := by rw [pu787_1]; rfl
      have pre820 : ∀ t, Steps p.tables e below (T787.setTop (mkF m 179 #[.val (.int p0), .val (.int p1), .val (.int p2), .val (.int p3), .val (.int p4), .val (.int ss), .val (.int kq), .val (.int jj), .val (.ref b400), .val (.ref nb_672), .val (.ref b703), .unset, .unset, .unset] [(.int (1 : Int32)), (.int kq)])) t → Steps p.tables e below (s₁.setTop (entryFrame m #[(.int p0), (.int p1), (.int p2), (.int p3), (.int p4)] maxLocals)) t := fun t kk => pre777 t (by
          show Steps p.tables e below (T740.setTop (mkF m 164 #[.val (.int p0), .val (.int p1), .val (.int p2), .val (.int p3), .val (.int p4), .val (.int ss), .val (.int kq), .val (.int jj), .val (.ref b400), .val (.ref nb_672), .val (.ref b703), .unset, .unset, .unset] [(.int kq)])) _
          refine XS.ifNo X740.here hx rfl (hb hby at_164) rfl ((if0 _ _).trans (tlt hk0).2.2.2) ?_
          show Steps p.tables e below (T740.setTop (mkF m 167 #[.val (.int p0), .val (.int p1), .val (.int p2), .val (.int p3), .val (.int p4), .val (.int ss), .val (.int kq), .val (.int jj), .val (.ref b400), .val (.ref nb_672), .val (.ref b703), .unset, .unset, .unset] [])) _
          refine XS.aload X740.here hx rfl (hb hby at_167) rfl rfl ?_
          show Steps p.tables e below (T740.setTop (mkF m 169 #[.val (.int p0), .val (.int p1), .val (.int p2), .val (.int p3), .val (.int p4), .val (.int ss), .val (.int kq), .val (.int jj), .val (.ref b400), .val (.ref nb_672), .val (.ref b703), .unset, .unset, .unset] [(.ref b703)])) _
          refine XS.aload X740.here hx rfl (hb hby at_169) rfl rfl ?_
          show Steps p.tables e below (T740.setTop (mkF m 171 #[.val (.int p0), .val (.int p1), .val (.int p2), .val (.int p3), .val (.int p4), .val (.int ss), .val (.int kq), .val (.int jj), .val (.ref b400), .val (.ref nb_672), .val (.ref b703), .unset, .unset, .unset] [(.ref b400), (.ref b703)])) _
          refine XS.iconst X740.here hx rfl (hb hby at_171) ?_
          show Steps p.tables e below (T740.setTop (mkF m 172 #[.val (.int p0), .val (.int p1), .val (.int p2), .val (.int p3), .val (.int p4), .val (.int ss), .val (.int kq), .val (.int jj), .val (.ref b400), .val (.ref nb_672), .val (.ref b703), .unset, .unset, .unset] [(.int (0 : Int32)), (.ref b400), (.ref b703)])) _
          refine X740.aaload hx (j := (0 : Int32)) (v := (.ref nb_402)) Ar786.1 (State.isArrayOf_alike hZ.alike Ar786.2.1) rfl Ar786.2.2 hin786 hat786 (g := (mkF m 172 #[.val (.int p0), .val (.int p1), .val (.int p2), .val (.int p3), .val (.int p4), .val (.int ss), .val (.int kq), .val (.int jj), .val (.ref b400), .val (.ref nb_672), .val (.ref b703), .unset, .unset, .unset] [(.int (0 : Int32)), (.ref b400), (.ref b703)])) rfl rfl (hb hby at_172) _ ?_
          show Steps p.tables e below (T740.setTop (mkF m 173 #[.val (.int p0), .val (.int p1), .val (.int p2), .val (.int p3), .val (.int p4), .val (.int ss), .val (.int kq), .val (.int jj), .val (.ref b400), .val (.ref nb_672), .val (.ref b703), .unset, .unset, .unset] [(.ref nb_402), (.ref b703)])) _
          refine st787.trans ?_
          show Steps p.tables e below (T787.setTop (mkF m 176 #[.val (.int p0), .val (.int p1), .val (.int p2), .val (.int p3), .val (.int p4), .val (.int ss), .val (.int kq), .val (.int jj), .val (.ref b400), .val (.ref nb_672), .val (.ref b703), .unset, .unset, .unset] [])) _
          refine XS.iload X787.here hx rfl (hb hby at_176) rfl ?_
          show Steps p.tables e below (T787.setTop (mkF m 178 #[.val (.int p0), .val (.int p1), .val (.int p2), .val (.int p3), .val (.int p4), .val (.int ss), .val (.int kq), .val (.int jj), .val (.ref b400), .val (.ref nb_672), .val (.ref b703), .unset, .unset, .unset] [(.int kq)])) _
          refine XS.iconst X787.here hx rfl (hb hby at_178) ?_
          exact kk)
      by_cases hk1 : (1 : Int32) < kq
      · obtain ⟨cl828, Ar828, q828, Sz828, Nn828, H828, G828⟩ := id Av811
        have hin828 : ¬ ((1 : Int32) < 0 ∨ cl828.slots.size ≤ ((1 : Int32)).toNatClampNeg) := (inb_of Sz828 ⟨by decide, by decide⟩)
        have hat828 : cl828.slots[((1 : Int32)).toNatClampNeg]? = some (.ref nb_412) := H828.at hin828 rfl
        have hp830 : own_tb (16 : Int32) 16 (28 : Int32) := Or.inl ⟨rfl, rfl, rfl⟩
        have hp831 : vs2_787.length = 16 := pu787_0
        have hp832 : Ovr Z k_740 "com/example/redoubt/redoubt/storage/PageCache$Frame" := pu740_0
        have hp833 : own_cnt vs2_787 < 16 := by rw [cn819]; decide
        have hp834 : ¬ ((16 : Int32) < ((2 : Int32) * ((1 : Int32) + (1 : Int32)))) := by decide
        obtain ⟨cq829, kq829, q829a, q829b, q829c⟩ := isOf hZ rfl P787_0
        obtain ⟨_, _, ⟨T829, L829, k829, n829⟩, -, X829, ⟨Lc829, hQ829, l829, y829, z829⟩, st829⟩ := X787.virtualBack hx (y := (⟨"com/example/redoubt/redoubt/storage/FrameTable", "add", "(Lcom/example/redoubt/redoubt/storage/PageCache$Frame;)V"⟩ : MethodName)) (z := (⟨"com/example/redoubt/redoubt/storage/FrameTable", "add", "(Lcom/example/redoubt/redoubt/storage/PageCache$Frame;)V"⟩ : MethodName)) hown (mvT hZ (hw _ (List.mem_of_getElem? (i := 33) rfl))) (mvT hZ (hw _ (List.mem_of_getElem? (i := 34) rfl))) (notFace_of_selects (args := #[]) (mvT hZ (hw _ (List.mem_of_getElem? (i := 36) rfl)))) (mvT hZ (hw _ (List.mem_of_getElem? (i := 36) rfl))) (mvT hZ (hw _ (List.mem_of_getElem? (i := 35) rfl))) (by decide) (backOf (W := 0) (rmAddO l Z a0 hw [] b703 nb_412 (28 : Int32) (p0 + ss) (16 : Int32) 16 a_740 k_740 vs2_787 (1 : Int32) T787.heap n0 (Nat.le_trans Z0 K816.1) P787_0 P787_1 P787_2 F817 P787_4 P787_5 Ex795 F796 hp830 hp831 hp832 hp833 hp834 g_b703 g_a_740) hZ (hw _ (List.mem_of_getElem? (i := 37) rfl)) (hw _ (List.mem_of_getElem? (i := 23) rfl)) (by decide) (by decide)) q829a q829c (g := (mkF m 188 #[.val (.int p0), .val (.int p1), .val (.int p2), .val (.int p3), .val (.int p4), .val (.int ss), .val (.int kq), .val (.int jj), .val (.ref b400), .val (.ref nb_672), .val (.ref b703), .unset, .unset, .unset] [(.ref nb_412), (.ref b703)])) rfl (by rw [hml]; rfl) (Steps.refl _) (argsL := [(.ref nb_412)]) (rest := []) (lenOf pd_1 rfl) rfl (by show 2 * 0 + _ ≤ _; exact Nat.le_of_eq rfl) (hb hby at_188) (fun _ _ => ⟨rfl, rfl, (by decide : 23 + 0 ≤ _), (by decide : 82008 + 0 ≤ _)⟩)
        dsimp only [Pt.U, Pt.locs, Pt.cells, Pt.slots] at X829 l829 y829 z829 st829 hQ829
        rw [l829, y829, z829] at X829
        replace X829 := own_std X829 (cc := 23) (ss := 82008) rfl rfl
        obtain ⟨vs2_829, rfl, N829q, K829q, P829_0, P829_1, P829_2, P829_3, P829_4, P829_5, pu829_0, pu829_1⟩ := hQ829
        have N829 := Fr.app N787 N829q
        have Ex835 : Exa Z T829.heap nb_402 "com/example/redoubt/redoubt/storage/PageCache$Frame" := (Ex793.keep K829q)
        have F836 : Fld Z T829.heap nb_402 "com/example/redoubt/redoubt/storage/PageCache$Frame" "page" "I" (.int p0) := (F794.keep K829q (ninS ne704 (ninS ne741 nin0)))
        have Ex837 : Exa Z T829.heap nb_412 "com/example/redoubt/redoubt/storage/PageCache$Frame" := (Ex795.keep K829q)
        have F838 : Fld Z T829.heap nb_412 "com/example/redoubt/redoubt/storage/PageCache$Frame" "page" "I" (.int (p0 + ss)) := (F796.keep K829q (ninS ne705 (ninS ne742 nin0)))
        have Ex839 : Exa Z T829.heap nb_427 "com/example/redoubt/redoubt/storage/PageCache$Frame" := (Ex797.keep K829q)
        have F840 : Fld Z T829.heap nb_427 "com/example/redoubt/redoubt/storage/PageCache$Frame" "page" "I" (.int (p0 + ((2 : Int32) * ss))) := (F798.keep K829q (ninS ne706 (ninS ne743 nin0)))
        have Ex841 : Exa Z T829.heap nb_447 "com/example/redoubt/redoubt/storage/PageCache$Frame" := (Ex799.keep K829q)
        have F842 : Fld Z T829.heap nb_447 "com/example/redoubt/redoubt/storage/PageCache$Frame" "page" "I" (.int (p0 + ((3 : Int32) * ss))) := (F800.keep K829q (ninS ne707 (ninS ne744 nin0)))
        have Ex843 : Exa Z T829.heap nb_472 "com/example/redoubt/redoubt/storage/PageCache$Frame" := (Ex801.keep K829q)
        have F844 : Fld Z T829.heap nb_472 "com/example/redoubt/redoubt/storage/PageCache$Frame" "page" "I" (.int (p0 + ((4 : Int32) * ss))) := (F802.keep K829q (ninS ne708 (ninS ne745 nin0)))
        have Ex845 : Exa Z T829.heap nb_502 "com/example/redoubt/redoubt/storage/PageCache$Frame" := (Ex803.keep K829q)
        have F846 : Fld Z T829.heap nb_502 "com/example/redoubt/redoubt/storage/PageCache$Frame" "page" "I" (.int (p0 + ((5 : Int32) * ss))) := (F804.keep K829q (ninS ne709 (ninS ne746 nin0)))
        have Ex847 : Exa Z T829.heap nb_537 "com/example/redoubt/redoubt/storage/PageCache$Frame" := (Ex805.keep K829q)
        have F848 : Fld Z T829.heap nb_537 "com/example/redoubt/redoubt/storage/PageCache$Frame" "page" "I" (.int (p0 + ((6 : Int32) * ss))) := (F806.keep K829q (ninS ne710 (ninS ne747 nin0)))
        have Ex849 : Exa Z T829.heap nb_577 "com/example/redoubt/redoubt/storage/PageCache$Frame" := (Ex807.keep K829q)
        have F850 : Fld Z T829.heap nb_577 "com/example/redoubt/redoubt/storage/PageCache$Frame" "page" "I" (.int (p0 + ((7 : Int32) * ss))) := (F808.keep K829q (ninS ne711 (ninS ne748 nin0)))
        have Ex851 : Exa Z T829.heap nb_622 "com/example/redoubt/redoubt/storage/PageCache$Frame" := (Ex809.keep K829q)
        have F852 : Fld Z T829.heap nb_622 "com/example/redoubt/redoubt/storage/PageCache$Frame" "page" "I" (.int (p0 + ((8 : Int32) * ss))) := (F810.keep K829q (ninS ne712 (ninS ne749 nin0)))
        have Av853 : Arv Z T829.heap b400 k400 (.object "com/example/redoubt/redoubt/storage/PageCache$Frame") (9 : Int32) ([(.ref nb_402), (.ref nb_412), (.ref nb_427), (.ref nb_447), (.ref nb_472), (.ref nb_502), (.ref nb_537), (.ref nb_577), (.ref nb_622)] : List Value) .null := (Av811.keep K829q (ninS ne713 (ninS ne750 nin0)))
        have Ex854 : Exa Z T829.heap nb_672 "com/example/redoubt/redoubt/storage/PageCache$Frame" := (Ex812.keep K829q)
        have F855 : Fld Z T829.heap nb_672 "com/example/redoubt/redoubt/storage/PageCache$Frame" "page" "I" (.int p4) := (F813.keep K829q (ninS ne714 (ninS ne751 nin0)))
        have Ex856 : Exa Z T829.heap b703 "com/example/redoubt/redoubt/storage/FrameTable" := (P787_0.keep K829q)
        have Xf857 : own_Good Z T829.heap vs2_787 := (own_good_keep P787_5 K829q (fun f hf => (ninS (ne_exa hf P787_0 (by decide)) (ninS (own_ne_arr hf (hw _ (List.mem_of_getElem? (i := 7) rfl)) P787_4) nin0))))
        have K858 : Keep h0 T829.heap [] := K816.trans K829q (allS (Or.inr sz_b703) (allS (Or.inr sz_a_740) all0))
        have eq860 : ((1 : Int32) + (1 : Int32)) = (2 : Int32) := by decide
        have F859 : Fld Z T829.heap b703 "com/example/redoubt/redoubt/storage/FrameTable" "size" "I" (.int (2 : Int32)) := by rw [← eq860]; exact P829_3
        have cn861 : own_cnt vs2_829 = 2 := by rw [pu829_1, cn819]
        have pre862 : ∀ t, Steps p.tables e below (T829.setTop (mkF m 194 #[.val (.int p0), .val (.int p1), .val (.int p2), .val (.int p3), .val (.int p4), .val (.int ss), .val (.int kq), .val (.int jj), .val (.ref b400), .val (.ref nb_672), .val (.ref b703), .unset, .unset, .unset] [(.int (2 : Int32)), (.int kq)])) t → Steps p.tables e below (s₁.setTop (entryFrame m #[(.int p0), (.int p1), (.int p2), (.int p3), (.int p4)] maxLocals)) t := fun t kk => pre820 t (by
            show Steps p.tables e below (T787.setTop (mkF m 179 #[.val (.int p0), .val (.int p1), .val (.int p2), .val (.int p3), .val (.int p4), .val (.int ss), .val (.int kq), .val (.int jj), .val (.ref b400), .val (.ref nb_672), .val (.ref b703), .unset, .unset, .unset] [(.int (1 : Int32)), (.int kq)])) _
            refine XS.icmpNo X787.here hx rfl (hb hby at_179) rfl (tlt hk1).2.2.2 ?_
            show Steps p.tables e below (T787.setTop (mkF m 182 #[.val (.int p0), .val (.int p1), .val (.int p2), .val (.int p3), .val (.int p4), .val (.int ss), .val (.int kq), .val (.int jj), .val (.ref b400), .val (.ref nb_672), .val (.ref b703), .unset, .unset, .unset] [])) _
            refine XS.aload X787.here hx rfl (hb hby at_182) rfl rfl ?_
            show Steps p.tables e below (T787.setTop (mkF m 184 #[.val (.int p0), .val (.int p1), .val (.int p2), .val (.int p3), .val (.int p4), .val (.int ss), .val (.int kq), .val (.int jj), .val (.ref b400), .val (.ref nb_672), .val (.ref b703), .unset, .unset, .unset] [(.ref b703)])) _
            refine XS.aload X787.here hx rfl (hb hby at_184) rfl rfl ?_
            show Steps p.tables e below (T787.setTop (mkF m 186 #[.val (.int p0), .val (.int p1), .val (.int p2), .val (.int p3), .val (.int p4), .val (.int ss), .val (.int kq), .val (.int jj), .val (.ref b400), .val (.ref nb_672), .val (.ref b703), .unset, .unset, .unset] [(.ref b400), (.ref b703)])) _
            refine XS.iconst X787.here hx rfl (hb hby at_186) ?_
            show Steps p.tables e below (T787.setTop (mkF m 187 #[.val (.int p0), .val (.int p1), .val (.int p2), .val (.int p3), .val (.int p4), .val (.int ss), .val (.int kq), .val (.int jj), .val (.ref b400), .val (.ref nb_672), .val (.ref b703), .unset, .unset, .unset] [(.int (1 : Int32)), (.ref b400), (.ref b703)])) _
            refine X787.aaload hx (j := (1 : Int32)) (v := (.ref nb_412)) Ar828.1 (State.isArrayOf_alike hZ.alike Ar828.2.1) rfl Ar828.2.2 hin828 hat828 (g := (mkF m 187 #[.val (.int p0), .val (.int p1), .val (.int p2), .val (.int p3), .val (.int p4), .val (.int ss), .val (.int kq), .val (.int jj), .val (.ref b400), .val (.ref nb_672), .val (.ref b703), .unset, .unset, .unset] [(.int (1 : Int32)), (.ref b400), (.ref b703)])) rfl rfl (hb hby at_187) _ ?_
            show Steps p.tables e below (T787.setTop (mkF m 188 #[.val (.int p0), .val (.int p1), .val (.int p2), .val (.int p3), .val (.int p4), .val (.int ss), .val (.int kq), .val (.int jj), .val (.ref b400), .val (.ref nb_672), .val (.ref b703), .unset, .unset, .unset] [(.ref nb_412), (.ref b703)])) _
            refine st829.trans ?_
            show Steps p.tables e below (T829.setTop (mkF m 191 #[.val (.int p0), .val (.int p1), .val (.int p2), .val (.int p3), .val (.int p4), .val (.int ss), .val (.int kq), .val (.int jj), .val (.ref b400), .val (.ref nb_672), .val (.ref b703), .unset, .unset, .unset] [])) _
            refine XS.iload X829.here hx rfl (hb hby at_191) rfl ?_
            show Steps p.tables e below (T829.setTop (mkF m 193 #[.val (.int p0), .val (.int p1), .val (.int p2), .val (.int p3), .val (.int p4), .val (.int ss), .val (.int kq), .val (.int jj), .val (.ref b400), .val (.ref nb_672), .val (.ref b703), .unset, .unset, .unset] [(.int kq)])) _
            refine XS.iconst X829.here hx rfl (hb hby at_193) ?_
            exact kk)
        by_cases hk2 : (2 : Int32) < kq
        · obtain ⟨cl869, Ar869, q869, Sz869, Nn869, H869, G869⟩ := id Av853
          have hin869 : ¬ ((2 : Int32) < 0 ∨ cl869.slots.size ≤ ((2 : Int32)).toNatClampNeg) := (inb_of Sz869 ⟨by decide, by decide⟩)
          have hat869 : cl869.slots[((2 : Int32)).toNatClampNeg]? = some (.ref nb_427) := H869.at hin869 rfl
          have hp871 : own_tb (16 : Int32) 16 (28 : Int32) := Or.inl ⟨rfl, rfl, rfl⟩
          have hp872 : vs2_829.length = 16 := pu829_0
          have hp873 : Ovr Z k_740 "com/example/redoubt/redoubt/storage/PageCache$Frame" := pu740_0
          have hp874 : own_cnt vs2_829 < 16 := by rw [cn861]; decide
          have hp875 : ¬ ((16 : Int32) < ((2 : Int32) * ((2 : Int32) + (1 : Int32)))) := by decide
          obtain ⟨cq870, kq870, q870a, q870b, q870c⟩ := isOf hZ rfl P829_0
          obtain ⟨_, _, ⟨T870, L870, k870, n870⟩, -, X870, ⟨Lc870, hQ870, l870, y870, z870⟩, st870⟩ := X829.virtualBack hx (y := (⟨"com/example/redoubt/redoubt/storage/FrameTable", "add", "(Lcom/example/redoubt/redoubt/storage/PageCache$Frame;)V"⟩ : MethodName)) (z := (⟨"com/example/redoubt/redoubt/storage/FrameTable", "add", "(Lcom/example/redoubt/redoubt/storage/PageCache$Frame;)V"⟩ : MethodName)) hown (mvT hZ (hw _ (List.mem_of_getElem? (i := 33) rfl))) (mvT hZ (hw _ (List.mem_of_getElem? (i := 34) rfl))) (notFace_of_selects (args := #[]) (mvT hZ (hw _ (List.mem_of_getElem? (i := 36) rfl)))) (mvT hZ (hw _ (List.mem_of_getElem? (i := 36) rfl))) (mvT hZ (hw _ (List.mem_of_getElem? (i := 35) rfl))) (by decide) (backOf (W := 0) (rmAddO l Z a0 hw [] b703 nb_427 (28 : Int32) (p0 + ((2 : Int32) * ss)) (16 : Int32) 16 a_740 k_740 vs2_829 (2 : Int32) T829.heap n0 (Nat.le_trans Z0 K858.1) P829_0 P829_1 P829_2 F859 P829_4 P829_5 Ex839 F840 hp871 hp872 hp873 hp874 hp875 g_b703 g_a_740) hZ (hw _ (List.mem_of_getElem? (i := 37) rfl)) (hw _ (List.mem_of_getElem? (i := 23) rfl)) (by decide) (by decide)) q870a q870c (g := (mkF m 203 #[.val (.int p0), .val (.int p1), .val (.int p2), .val (.int p3), .val (.int p4), .val (.int ss), .val (.int kq), .val (.int jj), .val (.ref b400), .val (.ref nb_672), .val (.ref b703), .unset, .unset, .unset] [(.ref nb_427), (.ref b703)])) rfl (by rw [hml]; rfl) (Steps.refl _) (argsL := [(.ref nb_427)]) (rest := []) (lenOf pd_1 rfl) rfl (by show 2 * 0 + _ ≤ _; exact Nat.le_of_eq rfl) (hb hby at_203) (fun _ _ => ⟨rfl, rfl, (by decide : 23 + 0 ≤ _), (by decide : 82008 + 0 ≤ _)⟩)
          dsimp only [Pt.U, Pt.locs, Pt.cells, Pt.slots] at X870 l870 y870 z870 st870 hQ870
          rw [l870, y870, z870] at X870
          replace X870 := own_std X870 (cc := 23) (ss := 82008) rfl rfl
          obtain ⟨vs2_870, rfl, N870q, K870q, P870_0, P870_1, P870_2, P870_3, P870_4, P870_5, pu870_0, pu870_1⟩ := hQ870
          have N870 := Fr.app N829 N870q
          have Ex876 : Exa Z T870.heap nb_402 "com/example/redoubt/redoubt/storage/PageCache$Frame" := (Ex835.keep K870q)
          have F877 : Fld Z T870.heap nb_402 "com/example/redoubt/redoubt/storage/PageCache$Frame" "page" "I" (.int p0) := (F836.keep K870q (ninS ne704 (ninS ne741 nin0)))
          have Ex878 : Exa Z T870.heap nb_412 "com/example/redoubt/redoubt/storage/PageCache$Frame" := (Ex837.keep K870q)
          have F879 : Fld Z T870.heap nb_412 "com/example/redoubt/redoubt/storage/PageCache$Frame" "page" "I" (.int (p0 + ss)) := (F838.keep K870q (ninS ne705 (ninS ne742 nin0)))
          have Ex880 : Exa Z T870.heap nb_427 "com/example/redoubt/redoubt/storage/PageCache$Frame" := (Ex839.keep K870q)
          have F881 : Fld Z T870.heap nb_427 "com/example/redoubt/redoubt/storage/PageCache$Frame" "page" "I" (.int (p0 + ((2 : Int32) * ss))) := (F840.keep K870q (ninS ne706 (ninS ne743 nin0)))
          have Ex882 : Exa Z T870.heap nb_447 "com/example/redoubt/redoubt/storage/PageCache$Frame" := (Ex841.keep K870q)
          have F883 : Fld Z T870.heap nb_447 "com/example/redoubt/redoubt/storage/PageCache$Frame" "page" "I" (.int (p0 + ((3 : Int32) * ss))) := (F842.keep K870q (ninS ne707 (ninS ne744 nin0)))
          have Ex884 : Exa Z T870.heap nb_472 "com/example/redoubt/redoubt/storage/PageCache$Frame" := (Ex843.keep K870q)
          have F885 : Fld Z T870.heap nb_472 "com/example/redoubt/redoubt/storage/PageCache$Frame" "page" "I" (.int (p0 + ((4 : Int32) * ss))) := (F844.keep K870q (ninS ne708 (ninS ne745 nin0)))
          have Ex886 : Exa Z T870.heap nb_502 "com/example/redoubt/redoubt/storage/PageCache$Frame" := (Ex845.keep K870q)
          have F887 : Fld Z T870.heap nb_502 "com/example/redoubt/redoubt/storage/PageCache$Frame" "page" "I" (.int (p0 + ((5 : Int32) * ss))) := (F846.keep K870q (ninS ne709 (ninS ne746 nin0)))
          have Ex888 : Exa Z T870.heap nb_537 "com/example/redoubt/redoubt/storage/PageCache$Frame" := (Ex847.keep K870q)
          have F889 : Fld Z T870.heap nb_537 "com/example/redoubt/redoubt/storage/PageCache$Frame" "page" "I" (.int (p0 + ((6 : Int32) * ss))) := (F848.keep K870q (ninS ne710 (ninS ne747 nin0)))
          have Ex890 : Exa Z T870.heap nb_577 "com/example/redoubt/redoubt/storage/PageCache$Frame" := (Ex849.keep K870q)
          have F891 : Fld Z T870.heap nb_577 "com/example/redoubt/redoubt/storage/PageCache$Frame" "page" "I" (.int (p0 + ((7 : Int32) * ss))) := (F850.keep K870q (ninS ne711 (ninS ne748 nin0)))
          have Ex892 : Exa Z T870.heap nb_622 "com/example/redoubt/redoubt/storage/PageCache$Frame" := (Ex851.keep K870q)
          have F893 : Fld Z T870.heap nb_622 "com/example/redoubt/redoubt/storage/PageCache$Frame" "page" "I" (.int (p0 + ((8 : Int32) * ss))) := (F852.keep K870q (ninS ne712 (ninS ne749 nin0)))
          have Av894 : Arv Z T870.heap b400 k400 (.object "com/example/redoubt/redoubt/storage/PageCache$Frame") (9 : Int32) ([(.ref nb_402), (.ref nb_412), (.ref nb_427), (.ref nb_447), (.ref nb_472), (.ref nb_502), (.ref nb_537), (.ref nb_577), (.ref nb_622)] : List Value) .null := (Av853.keep K870q (ninS ne713 (ninS ne750 nin0)))
          have Ex895 : Exa Z T870.heap nb_672 "com/example/redoubt/redoubt/storage/PageCache$Frame" := (Ex854.keep K870q)
          have F896 : Fld Z T870.heap nb_672 "com/example/redoubt/redoubt/storage/PageCache$Frame" "page" "I" (.int p4) := (F855.keep K870q (ninS ne714 (ninS ne751 nin0)))
          have Ex897 : Exa Z T870.heap b703 "com/example/redoubt/redoubt/storage/FrameTable" := (P829_0.keep K870q)
          have Xf898 : own_Good Z T870.heap vs2_829 := (own_good_keep P829_5 K870q (fun f hf => (ninS (ne_exa hf P829_0 (by decide)) (ninS (own_ne_arr hf (hw _ (List.mem_of_getElem? (i := 7) rfl)) P829_4) nin0))))
          have K899 : Keep h0 T870.heap [] := K858.trans K870q (allS (Or.inr sz_b703) (allS (Or.inr sz_a_740) all0))
          have eq901 : ((2 : Int32) + (1 : Int32)) = (3 : Int32) := by decide
          have F900 : Fld Z T870.heap b703 "com/example/redoubt/redoubt/storage/FrameTable" "size" "I" (.int (3 : Int32)) := by rw [← eq901]; exact P870_3
          have cn902 : own_cnt vs2_870 = 3 := by rw [pu870_1, cn861]
          have pre903 : ∀ t, Steps p.tables e below (T870.setTop (mkF m 209 #[.val (.int p0), .val (.int p1), .val (.int p2), .val (.int p3), .val (.int p4), .val (.int ss), .val (.int kq), .val (.int jj), .val (.ref b400), .val (.ref nb_672), .val (.ref b703), .unset, .unset, .unset] [(.int (3 : Int32)), (.int kq)])) t → Steps p.tables e below (s₁.setTop (entryFrame m #[(.int p0), (.int p1), (.int p2), (.int p3), (.int p4)] maxLocals)) t := fun t kk => pre862 t (by
              show Steps p.tables e below (T829.setTop (mkF m 194 #[.val (.int p0), .val (.int p1), .val (.int p2), .val (.int p3), .val (.int p4), .val (.int ss), .val (.int kq), .val (.int jj), .val (.ref b400), .val (.ref nb_672), .val (.ref b703), .unset, .unset, .unset] [(.int (2 : Int32)), (.int kq)])) _
              refine XS.icmpNo X829.here hx rfl (hb hby at_194) rfl (tlt hk2).2.2.2 ?_
              show Steps p.tables e below (T829.setTop (mkF m 197 #[.val (.int p0), .val (.int p1), .val (.int p2), .val (.int p3), .val (.int p4), .val (.int ss), .val (.int kq), .val (.int jj), .val (.ref b400), .val (.ref nb_672), .val (.ref b703), .unset, .unset, .unset] [])) _
              refine XS.aload X829.here hx rfl (hb hby at_197) rfl rfl ?_
              show Steps p.tables e below (T829.setTop (mkF m 199 #[.val (.int p0), .val (.int p1), .val (.int p2), .val (.int p3), .val (.int p4), .val (.int ss), .val (.int kq), .val (.int jj), .val (.ref b400), .val (.ref nb_672), .val (.ref b703), .unset, .unset, .unset] [(.ref b703)])) _
              refine XS.aload X829.here hx rfl (hb hby at_199) rfl rfl ?_
              show Steps p.tables e below (T829.setTop (mkF m 201 #[.val (.int p0), .val (.int p1), .val (.int p2), .val (.int p3), .val (.int p4), .val (.int ss), .val (.int kq), .val (.int jj), .val (.ref b400), .val (.ref nb_672), .val (.ref b703), .unset, .unset, .unset] [(.ref b400), (.ref b703)])) _
              refine XS.iconst X829.here hx rfl (hb hby at_201) ?_
              show Steps p.tables e below (T829.setTop (mkF m 202 #[.val (.int p0), .val (.int p1), .val (.int p2), .val (.int p3), .val (.int p4), .val (.int ss), .val (.int kq), .val (.int jj), .val (.ref b400), .val (.ref nb_672), .val (.ref b703), .unset, .unset, .unset] [(.int (2 : Int32)), (.ref b400), (.ref b703)])) _
              refine X829.aaload hx (j := (2 : Int32)) (v := (.ref nb_427)) Ar869.1 (State.isArrayOf_alike hZ.alike Ar869.2.1) rfl Ar869.2.2 hin869 hat869 (g := (mkF m 202 #[.val (.int p0), .val (.int p1), .val (.int p2), .val (.int p3), .val (.int p4), .val (.int ss), .val (.int kq), .val (.int jj), .val (.ref b400), .val (.ref nb_672), .val (.ref b703), .unset, .unset, .unset] [(.int (2 : Int32)), (.ref b400), (.ref b703)])) rfl rfl (hb hby at_202) _ ?_
              show Steps p.tables e below (T829.setTop (mkF m 203 #[.val (.int p0), .val (.int p1), .val (.int p2), .val (.int p3), .val (.int p4), .val (.int ss), .val (.int kq), .val (.int jj), .val (.ref b400), .val (.ref nb_672), .val (.ref b703), .unset, .unset, .unset] [(.ref nb_427), (.ref b703)])) _
              refine st870.trans ?_
              show Steps p.tables e below (T870.setTop (mkF m 206 #[.val (.int p0), .val (.int p1), .val (.int p2), .val (.int p3), .val (.int p4), .val (.int ss), .val (.int kq), .val (.int jj), .val (.ref b400), .val (.ref nb_672), .val (.ref b703), .unset, .unset, .unset] [])) _
              refine XS.iload X870.here hx rfl (hb hby at_206) rfl ?_
              show Steps p.tables e below (T870.setTop (mkF m 208 #[.val (.int p0), .val (.int p1), .val (.int p2), .val (.int p3), .val (.int p4), .val (.int ss), .val (.int kq), .val (.int jj), .val (.ref b400), .val (.ref nb_672), .val (.ref b703), .unset, .unset, .unset] [(.int kq)])) _
              refine XS.iconst X870.here hx rfl (hb hby at_208) ?_
              exact kk)
          by_cases hk3 : (3 : Int32) < kq
          · obtain ⟨cl909, Ar909, q909, Sz909, Nn909, H909, G909⟩ := id Av894
            have hin909 : ¬ ((3 : Int32) < 0 ∨ cl909.slots.size ≤ ((3 : Int32)).toNatClampNeg) := (inb_of Sz909 ⟨by decide, by decide⟩)
            have hat909 : cl909.slots[((3 : Int32)).toNatClampNeg]? = some (.ref nb_447) := H909.at hin909 rfl
            have hp911 : own_tb (16 : Int32) 16 (28 : Int32) := Or.inl ⟨rfl, rfl, rfl⟩
            have hp912 : vs2_870.length = 16 := pu870_0
            have hp913 : Ovr Z k_740 "com/example/redoubt/redoubt/storage/PageCache$Frame" := pu740_0
            have hp914 : own_cnt vs2_870 < 16 := by rw [cn902]; decide
            have hp915 : ¬ ((16 : Int32) < ((2 : Int32) * ((3 : Int32) + (1 : Int32)))) := by decide
            obtain ⟨cq910, kq910, q910a, q910b, q910c⟩ := isOf hZ rfl P870_0
            obtain ⟨_, _, ⟨T910, L910, k910, n910⟩, -, X910, ⟨Lc910, hQ910, l910, y910, z910⟩, st910⟩ := X870.virtualBack hx (y := (⟨"com/example/redoubt/redoubt/storage/FrameTable", "add", "(Lcom/example/redoubt/redoubt/storage/PageCache$Frame;)V"⟩ : MethodName)) (z := (⟨"com/example/redoubt/redoubt/storage/FrameTable", "add", "(Lcom/example/redoubt/redoubt/storage/PageCache$Frame;)V"⟩ : MethodName)) hown (mvT hZ (hw _ (List.mem_of_getElem? (i := 33) rfl))) (mvT hZ (hw _ (List.mem_of_getElem? (i := 34) rfl))) (notFace_of_selects (args := #[]) (mvT hZ (hw _ (List.mem_of_getElem? (i := 36) rfl)))) (mvT hZ (hw _ (List.mem_of_getElem? (i := 36) rfl))) (mvT hZ (hw _ (List.mem_of_getElem? (i := 35) rfl))) (by decide) (backOf (W := 0) (rmAddO l Z a0 hw [] b703 nb_447 (28 : Int32) (p0 + ((3 : Int32) * ss)) (16 : Int32) 16 a_740 k_740 vs2_870 (3 : Int32) T870.heap n0 (Nat.le_trans Z0 K899.1) P870_0 P870_1 P870_2 F900 P870_4 P870_5 Ex882 F883 hp911 hp912 hp913 hp914 hp915 g_b703 g_a_740) hZ (hw _ (List.mem_of_getElem? (i := 37) rfl)) (hw _ (List.mem_of_getElem? (i := 23) rfl)) (by decide) (by decide)) q910a q910c (g := (mkF m 218 #[.val (.int p0), .val (.int p1), .val (.int p2), .val (.int p3), .val (.int p4), .val (.int ss), .val (.int kq), .val (.int jj), .val (.ref b400), .val (.ref nb_672), .val (.ref b703), .unset, .unset, .unset] [(.ref nb_447), (.ref b703)])) rfl (by rw [hml]; rfl) (Steps.refl _) (argsL := [(.ref nb_447)]) (rest := []) (lenOf pd_1 rfl) rfl (by show 2 * 0 + _ ≤ _; exact Nat.le_of_eq rfl) (hb hby at_218) (fun _ _ => ⟨rfl, rfl, (by decide : 23 + 0 ≤ _), (by decide : 82008 + 0 ≤ _)⟩)
            dsimp only [Pt.U, Pt.locs, Pt.cells, Pt.slots] at X910 l910 y910 z910 st910 hQ910
            rw [l910, y910, z910] at X910
            replace X910 := own_std X910 (cc := 23) (ss := 82008) rfl rfl
            obtain ⟨vs2_910, rfl, N910q, K910q, P910_0, P910_1, P910_2, P910_3, P910_4, P910_5, pu910_0, pu910_1⟩ := hQ910
            have N910 := Fr.app N870 N910q
            have Ex916 : Exa Z T910.heap nb_402 "com/example/redoubt/redoubt/storage/PageCache$Frame" := (Ex876.keep K910q)
            have F917 : Fld Z T910.heap nb_402 "com/example/redoubt/redoubt/storage/PageCache$Frame" "page" "I" (.int p0) := (F877.keep K910q (ninS ne704 (ninS ne741 nin0)))
            have Ex918 : Exa Z T910.heap nb_412 "com/example/redoubt/redoubt/storage/PageCache$Frame" := (Ex878.keep K910q)
            have F919 : Fld Z T910.heap nb_412 "com/example/redoubt/redoubt/storage/PageCache$Frame" "page" "I" (.int (p0 + ss)) := (F879.keep K910q (ninS ne705 (ninS ne742 nin0)))
            have Ex920 : Exa Z T910.heap nb_427 "com/example/redoubt/redoubt/storage/PageCache$Frame" := (Ex880.keep K910q)
            have F921 : Fld Z T910.heap nb_427 "com/example/redoubt/redoubt/storage/PageCache$Frame" "page" "I" (.int (p0 + ((2 : Int32) * ss))) := (F881.keep K910q (ninS ne706 (ninS ne743 nin0)))
            have Ex922 : Exa Z T910.heap nb_447 "com/example/redoubt/redoubt/storage/PageCache$Frame" := (Ex882.keep K910q)
            have F923 : Fld Z T910.heap nb_447 "com/example/redoubt/redoubt/storage/PageCache$Frame" "page" "I" (.int (p0 + ((3 : Int32) * ss))) := (F883.keep K910q (ninS ne707 (ninS ne744 nin0)))
            have Ex924 : Exa Z T910.heap nb_472 "com/example/redoubt/redoubt/storage/PageCache$Frame" := (Ex884.keep K910q)
            have F925 : Fld Z T910.heap nb_472 "com/example/redoubt/redoubt/storage/PageCache$Frame" "page" "I" (.int (p0 + ((4 : Int32) * ss))) := (F885.keep K910q (ninS ne708 (ninS ne745 nin0)))
            have Ex926 : Exa Z T910.heap nb_502 "com/example/redoubt/redoubt/storage/PageCache$Frame" := (Ex886.keep K910q)
            have F927 : Fld Z T910.heap nb_502 "com/example/redoubt/redoubt/storage/PageCache$Frame" "page" "I" (.int (p0 + ((5 : Int32) * ss))) := (F887.keep K910q (ninS ne709 (ninS ne746 nin0)))
            have Ex928 : Exa Z T910.heap nb_537 "com/example/redoubt/redoubt/storage/PageCache$Frame" := (Ex888.keep K910q)
            have F929 : Fld Z T910.heap nb_537 "com/example/redoubt/redoubt/storage/PageCache$Frame" "page" "I" (.int (p0 + ((6 : Int32) * ss))) := (F889.keep K910q (ninS ne710 (ninS ne747 nin0)))
            have Ex930 : Exa Z T910.heap nb_577 "com/example/redoubt/redoubt/storage/PageCache$Frame" := (Ex890.keep K910q)
            have F931 : Fld Z T910.heap nb_577 "com/example/redoubt/redoubt/storage/PageCache$Frame" "page" "I" (.int (p0 + ((7 : Int32) * ss))) := (F891.keep K910q (ninS ne711 (ninS ne748 nin0)))
            have Ex932 : Exa Z T910.heap nb_622 "com/example/redoubt/redoubt/storage/PageCache$Frame" := (Ex892.keep K910q)
            have F933 : Fld Z T910.heap nb_622 "com/example/redoubt/redoubt/storage/PageCache$Frame" "page" "I" (.int (p0 + ((8 : Int32) * ss))) := (F893.keep K910q (ninS ne712 (ninS ne749 nin0)))
            have Av934 : Arv Z T910.heap b400 k400 (.object "com/example/redoubt/redoubt/storage/PageCache$Frame") (9 : Int32) ([(.ref nb_402), (.ref nb_412), (.ref nb_427), (.ref nb_447), (.ref nb_472), (.ref nb_502), (.ref nb_537), (.ref nb_577), (.ref nb_622)] : List Value) .null := (Av894.keep K910q (ninS ne713 (ninS ne750 nin0)))
            have Ex935 : Exa Z T910.heap nb_672 "com/example/redoubt/redoubt/storage/PageCache$Frame" := (Ex895.keep K910q)
            have F936 : Fld Z T910.heap nb_672 "com/example/redoubt/redoubt/storage/PageCache$Frame" "page" "I" (.int p4) := (F896.keep K910q (ninS ne714 (ninS ne751 nin0)))
            have Ex937 : Exa Z T910.heap b703 "com/example/redoubt/redoubt/storage/FrameTable" := (P870_0.keep K910q)
            have Xf938 : own_Good Z T910.heap vs2_870 := (own_good_keep P870_5 K910q (fun f hf => (ninS (ne_exa hf P870_0 (by decide)) (ninS (own_ne_arr hf (hw _ (List.mem_of_getElem? (i := 7) rfl)) P870_4) nin0))))
            have K939 : Keep h0 T910.heap [] := K899.trans K910q (allS (Or.inr sz_b703) (allS (Or.inr sz_a_740) all0))
            have eq941 : ((3 : Int32) + (1 : Int32)) = (4 : Int32) := by decide
            have F940 : Fld Z T910.heap b703 "com/example/redoubt/redoubt/storage/FrameTable" "size" "I" (.int (4 : Int32)) := by rw [← eq941]; exact P910_3
            have cn942 : own_cnt vs2_910 = 4 := by rw [pu910_1, cn902]
            have pre943 : ∀ t, Steps p.tables e below (T910.setTop (mkF m 224 #[.val (.int p0), .val (.int p1), .val (.int p2), .val (.int p3), .val (.int p4), .val (.int ss), .val (.int kq), .val (.int jj), .val (.ref b400), .val (.ref nb_672), .val (.ref b703), .unset, .unset, .unset] [(.int (4 : Int32)), (.int kq)])) t → Steps p.tables e below (s₁.setTop (entryFrame m #[(.int p0), (.int p1), (.int p2), (.int p3), (.int p4)] maxLocals)) t := fun t kk => pre903 t (by
                show Steps p.tables e below (T870.setTop (mkF m 209 #[.val (.int p0), .val (.int p1), .val (.int p2), .val (.int p3), .val (.int p4), .val (.int ss), .val (.int kq), .val (.int jj), .val (.ref b400), .val (.ref nb_672), .val (.ref b703), .unset, .unset, .unset] [(.int (3 : Int32)), (.int kq)])) _
                refine XS.icmpNo X870.here hx rfl (hb hby at_209) rfl (tlt hk3).2.2.2 ?_
                show Steps p.tables e below (T870.setTop (mkF m 212 #[.val (.int p0), .val (.int p1), .val (.int p2), .val (.int p3), .val (.int p4), .val (.int ss), .val (.int kq), .val (.int jj), .val (.ref b400), .val (.ref nb_672), .val (.ref b703), .unset, .unset, .unset] [])) _
                refine XS.aload X870.here hx rfl (hb hby at_212) rfl rfl ?_
                show Steps p.tables e below (T870.setTop (mkF m 214 #[.val (.int p0), .val (.int p1), .val (.int p2), .val (.int p3), .val (.int p4), .val (.int ss), .val (.int kq), .val (.int jj), .val (.ref b400), .val (.ref nb_672), .val (.ref b703), .unset, .unset, .unset] [(.ref b703)])) _
                refine XS.aload X870.here hx rfl (hb hby at_214) rfl rfl ?_
                show Steps p.tables e below (T870.setTop (mkF m 216 #[.val (.int p0), .val (.int p1), .val (.int p2), .val (.int p3), .val (.int p4), .val (.int ss), .val (.int kq), .val (.int jj), .val (.ref b400), .val (.ref nb_672), .val (.ref b703), .unset, .unset, .unset] [(.ref b400), (.ref b703)])) _
                refine XS.iconst X870.here hx rfl (hb hby at_216) ?_
                show Steps p.tables e below (T870.setTop (mkF m 217 #[.val (.int p0), .val (.int p1), .val (.int p2), .val (.int p3), .val (.int p4), .val (.int ss), .val (.int kq), .val (.int jj), .val (.ref b400), .val (.ref nb_672), .val (.ref b703), .unset, .unset, .unset] [(.int (3 : Int32)), (.ref b400), (.ref b703)])) _
                refine X870.aaload hx (j := (3 : Int32)) (v := (.ref nb_447)) Ar909.1 (State.isArrayOf_alike hZ.alike Ar909.2.1) rfl Ar909.2.2 hin909 hat909 (g := (mkF m 217 #[.val (.int p0), .val (.int p1), .val (.int p2), .val (.int p3), .val (.int p4), .val (.int ss), .val (.int kq), .val (.int jj), .val (.ref b400), .val (.ref nb_672), .val (.ref b703), .unset, .unset, .unset] [(.int (3 : Int32)), (.ref b400), (.ref b703)])) rfl rfl (hb hby at_217) _ ?_
                show Steps p.tables e below (T870.setTop (mkF m 218 #[.val (.int p0), .val (.int p1), .val (.int p2), .val (.int p3), .val (.int p4), .val (.int ss), .val (.int kq), .val (.int jj), .val (.ref b400), .val (.ref nb_672), .val (.ref b703), .unset, .unset, .unset] [(.ref nb_447), (.ref b703)])) _
                refine st910.trans ?_
                show Steps p.tables e below (T910.setTop (mkF m 221 #[.val (.int p0), .val (.int p1), .val (.int p2), .val (.int p3), .val (.int p4), .val (.int ss), .val (.int kq), .val (.int jj), .val (.ref b400), .val (.ref nb_672), .val (.ref b703), .unset, .unset, .unset] [])) _
                refine XS.iload X910.here hx rfl (hb hby at_221) rfl ?_
                show Steps p.tables e below (T910.setTop (mkF m 223 #[.val (.int p0), .val (.int p1), .val (.int p2), .val (.int p3), .val (.int p4), .val (.int ss), .val (.int kq), .val (.int jj), .val (.ref b400), .val (.ref nb_672), .val (.ref b703), .unset, .unset, .unset] [(.int kq)])) _
                refine XS.iconst X910.here hx rfl (hb hby at_223) ?_
                exact kk)
            by_cases hk4 : (4 : Int32) < kq
            · obtain ⟨cl948, Ar948, q948, Sz948, Nn948, H948, G948⟩ := id Av934
              have hin948 : ¬ ((4 : Int32) < 0 ∨ cl948.slots.size ≤ ((4 : Int32)).toNatClampNeg) := (inb_of Sz948 ⟨by decide, by decide⟩)
              have hat948 : cl948.slots[((4 : Int32)).toNatClampNeg]? = some (.ref nb_472) := H948.at hin948 rfl
              have hp950 : own_tb (16 : Int32) 16 (28 : Int32) := Or.inl ⟨rfl, rfl, rfl⟩
              have hp951 : vs2_910.length = 16 := pu910_0
              have hp952 : Ovr Z k_740 "com/example/redoubt/redoubt/storage/PageCache$Frame" := pu740_0
              have hp953 : own_cnt vs2_910 < 16 := by rw [cn942]; decide
              have hp954 : ¬ ((16 : Int32) < ((2 : Int32) * ((4 : Int32) + (1 : Int32)))) := by decide
              obtain ⟨cq949, kq949, q949a, q949b, q949c⟩ := isOf hZ rfl P910_0
              obtain ⟨_, _, ⟨T949, L949, k949, n949⟩, -, X949, ⟨Lc949, hQ949, l949, y949, z949⟩, st949⟩ := X910.virtualBack hx (y := (⟨"com/example/redoubt/redoubt/storage/FrameTable", "add", "(Lcom/example/redoubt/redoubt/storage/PageCache$Frame;)V"⟩ : MethodName)) (z := (⟨"com/example/redoubt/redoubt/storage/FrameTable", "add", "(Lcom/example/redoubt/redoubt/storage/PageCache$Frame;)V"⟩ : MethodName)) hown (mvT hZ (hw _ (List.mem_of_getElem? (i := 33) rfl))) (mvT hZ (hw _ (List.mem_of_getElem? (i := 34) rfl))) (notFace_of_selects (args := #[]) (mvT hZ (hw _ (List.mem_of_getElem? (i := 36) rfl)))) (mvT hZ (hw _ (List.mem_of_getElem? (i := 36) rfl))) (mvT hZ (hw _ (List.mem_of_getElem? (i := 35) rfl))) (by decide) (backOf (W := 0) (rmAddO l Z a0 hw [] b703 nb_472 (28 : Int32) (p0 + ((4 : Int32) * ss)) (16 : Int32) 16 a_740 k_740 vs2_910 (4 : Int32) T910.heap n0 (Nat.le_trans Z0 K939.1) P910_0 P910_1 P910_2 F940 P910_4 P910_5 Ex924 F925 hp950 hp951 hp952 hp953 hp954 g_b703 g_a_740) hZ (hw _ (List.mem_of_getElem? (i := 37) rfl)) (hw _ (List.mem_of_getElem? (i := 23) rfl)) (by decide) (by decide)) q949a q949c (g := (mkF m 233 #[.val (.int p0), .val (.int p1), .val (.int p2), .val (.int p3), .val (.int p4), .val (.int ss), .val (.int kq), .val (.int jj), .val (.ref b400), .val (.ref nb_672), .val (.ref b703), .unset, .unset, .unset] [(.ref nb_472), (.ref b703)])) rfl (by rw [hml]; rfl) (Steps.refl _) (argsL := [(.ref nb_472)]) (rest := []) (lenOf pd_1 rfl) rfl (by show 2 * 0 + _ ≤ _; exact Nat.le_of_eq rfl) (hb hby at_233) (fun _ _ => ⟨rfl, rfl, (by decide : 23 + 0 ≤ _), (by decide : 82008 + 0 ≤ _)⟩)
              dsimp only [Pt.U, Pt.locs, Pt.cells, Pt.slots] at X949 l949 y949 z949 st949 hQ949
              rw [l949, y949, z949] at X949
              replace X949 := own_std X949 (cc := 23) (ss := 82008) rfl rfl
              obtain ⟨vs2_949, rfl, N949q, K949q, P949_0, P949_1, P949_2, P949_3, P949_4, P949_5, pu949_0, pu949_1⟩ := hQ949
              have N949 := Fr.app N910 N949q
              have Ex955 : Exa Z T949.heap nb_402 "com/example/redoubt/redoubt/storage/PageCache$Frame" := (Ex916.keep K949q)
              have F956 : Fld Z T949.heap nb_402 "com/example/redoubt/redoubt/storage/PageCache$Frame" "page" "I" (.int p0) := (F917.keep K949q (ninS ne704 (ninS ne741 nin0)))
              have Ex957 : Exa Z T949.heap nb_412 "com/example/redoubt/redoubt/storage/PageCache$Frame" := (Ex918.keep K949q)
              have F958 : Fld Z T949.heap nb_412 "com/example/redoubt/redoubt/storage/PageCache$Frame" "page" "I" (.int (p0 + ss)) := (F919.keep K949q (ninS ne705 (ninS ne742 nin0)))
              have Ex959 : Exa Z T949.heap nb_427 "com/example/redoubt/redoubt/storage/PageCache$Frame" := (Ex920.keep K949q)
              have F960 : Fld Z T949.heap nb_427 "com/example/redoubt/redoubt/storage/PageCache$Frame" "page" "I" (.int (p0 + ((2 : Int32) * ss))) := (F921.keep K949q (ninS ne706 (ninS ne743 nin0)))
              have Ex961 : Exa Z T949.heap nb_447 "com/example/redoubt/redoubt/storage/PageCache$Frame" := (Ex922.keep K949q)
              have F962 : Fld Z T949.heap nb_447 "com/example/redoubt/redoubt/storage/PageCache$Frame" "page" "I" (.int (p0 + ((3 : Int32) * ss))) := (F923.keep K949q (ninS ne707 (ninS ne744 nin0)))
              have Ex963 : Exa Z T949.heap nb_472 "com/example/redoubt/redoubt/storage/PageCache$Frame" := (Ex924.keep K949q)
              have F964 : Fld Z T949.heap nb_472 "com/example/redoubt/redoubt/storage/PageCache$Frame" "page" "I" (.int (p0 + ((4 : Int32) * ss))) := (F925.keep K949q (ninS ne708 (ninS ne745 nin0)))
              have Ex965 : Exa Z T949.heap nb_502 "com/example/redoubt/redoubt/storage/PageCache$Frame" := (Ex926.keep K949q)
              have F966 : Fld Z T949.heap nb_502 "com/example/redoubt/redoubt/storage/PageCache$Frame" "page" "I" (.int (p0 + ((5 : Int32) * ss))) := (F927.keep K949q (ninS ne709 (ninS ne746 nin0)))
              have Ex967 : Exa Z T949.heap nb_537 "com/example/redoubt/redoubt/storage/PageCache$Frame" := (Ex928.keep K949q)
              have F968 : Fld Z T949.heap nb_537 "com/example/redoubt/redoubt/storage/PageCache$Frame" "page" "I" (.int (p0 + ((6 : Int32) * ss))) := (F929.keep K949q (ninS ne710 (ninS ne747 nin0)))
              have Ex969 : Exa Z T949.heap nb_577 "com/example/redoubt/redoubt/storage/PageCache$Frame" := (Ex930.keep K949q)
              have F970 : Fld Z T949.heap nb_577 "com/example/redoubt/redoubt/storage/PageCache$Frame" "page" "I" (.int (p0 + ((7 : Int32) * ss))) := (F931.keep K949q (ninS ne711 (ninS ne748 nin0)))
              have Ex971 : Exa Z T949.heap nb_622 "com/example/redoubt/redoubt/storage/PageCache$Frame" := (Ex932.keep K949q)
              have F972 : Fld Z T949.heap nb_622 "com/example/redoubt/redoubt/storage/PageCache$Frame" "page" "I" (.int (p0 + ((8 : Int32) * ss))) := (F933.keep K949q (ninS ne712 (ninS ne749 nin0)))
              have Av973 : Arv Z T949.heap b400 k400 (.object "com/example/redoubt/redoubt/storage/PageCache$Frame") (9 : Int32) ([(.ref nb_402), (.ref nb_412), (.ref nb_427), (.ref nb_447), (.ref nb_472), (.ref nb_502), (.ref nb_537), (.ref nb_577), (.ref nb_622)] : List Value) .null := (Av934.keep K949q (ninS ne713 (ninS ne750 nin0)))
              have Ex974 : Exa Z T949.heap nb_672 "com/example/redoubt/redoubt/storage/PageCache$Frame" := (Ex935.keep K949q)
              have F975 : Fld Z T949.heap nb_672 "com/example/redoubt/redoubt/storage/PageCache$Frame" "page" "I" (.int p4) := (F936.keep K949q (ninS ne714 (ninS ne751 nin0)))
              have Ex976 : Exa Z T949.heap b703 "com/example/redoubt/redoubt/storage/FrameTable" := (P910_0.keep K949q)
              have Xf977 : own_Good Z T949.heap vs2_910 := (own_good_keep P910_5 K949q (fun f hf => (ninS (ne_exa hf P910_0 (by decide)) (ninS (own_ne_arr hf (hw _ (List.mem_of_getElem? (i := 7) rfl)) P910_4) nin0))))
              have K978 : Keep h0 T949.heap [] := K939.trans K949q (allS (Or.inr sz_b703) (allS (Or.inr sz_a_740) all0))
              have eq980 : ((4 : Int32) + (1 : Int32)) = (5 : Int32) := by decide
              have F979 : Fld Z T949.heap b703 "com/example/redoubt/redoubt/storage/FrameTable" "size" "I" (.int (5 : Int32)) := by rw [← eq980]; exact P949_3
              have cn981 : own_cnt vs2_949 = 5 := by rw [pu949_1, cn942]
              have pre982 : ∀ t, Steps p.tables e below (T949.setTop (mkF m 239 #[.val (.int p0), .val (.int p1), .val (.int p2), .val (.int p3), .val (.int p4), .val (.int ss), .val (.int kq), .val (.int jj), .val (.ref b400), .val (.ref nb_672), .val (.ref b703), .unset, .unset, .unset] [(.int (5 : Int32)), (.int kq)])) t → Steps p.tables e below (s₁.setTop (entryFrame m #[(.int p0), (.int p1), (.int p2), (.int p3), (.int p4)] maxLocals)) t := fun t kk => pre943 t (by
                  show Steps p.tables e below (T910.setTop (mkF m 224 #[.val (.int p0), .val (.int p1), .val (.int p2), .val (.int p3), .val (.int p4), .val (.int ss), .val (.int kq), .val (.int jj), .val (.ref b400), .val (.ref nb_672), .val (.ref b703), .unset, .unset, .unset] [(.int (4 : Int32)), (.int kq)])) _
                  refine XS.icmpNo X910.here hx rfl (hb hby at_224) rfl (tlt hk4).2.2.2 ?_
                  show Steps p.tables e below (T910.setTop (mkF m 227 #[.val (.int p0), .val (.int p1), .val (.int p2), .val (.int p3), .val (.int p4), .val (.int ss), .val (.int kq), .val (.int jj), .val (.ref b400), .val (.ref nb_672), .val (.ref b703), .unset, .unset, .unset] [])) _
                  refine XS.aload X910.here hx rfl (hb hby at_227) rfl rfl ?_
                  show Steps p.tables e below (T910.setTop (mkF m 229 #[.val (.int p0), .val (.int p1), .val (.int p2), .val (.int p3), .val (.int p4), .val (.int ss), .val (.int kq), .val (.int jj), .val (.ref b400), .val (.ref nb_672), .val (.ref b703), .unset, .unset, .unset] [(.ref b703)])) _
                  refine XS.aload X910.here hx rfl (hb hby at_229) rfl rfl ?_
                  show Steps p.tables e below (T910.setTop (mkF m 231 #[.val (.int p0), .val (.int p1), .val (.int p2), .val (.int p3), .val (.int p4), .val (.int ss), .val (.int kq), .val (.int jj), .val (.ref b400), .val (.ref nb_672), .val (.ref b703), .unset, .unset, .unset] [(.ref b400), (.ref b703)])) _
                  refine XS.iconst X910.here hx rfl (hb hby at_231) ?_
                  show Steps p.tables e below (T910.setTop (mkF m 232 #[.val (.int p0), .val (.int p1), .val (.int p2), .val (.int p3), .val (.int p4), .val (.int ss), .val (.int kq), .val (.int jj), .val (.ref b400), .val (.ref nb_672), .val (.ref b703), .unset, .unset, .unset] [(.int (4 : Int32)), (.ref b400), (.ref b703)])) _
                  refine X910.aaload hx (j := (4 : Int32)) (v := (.ref nb_472)) Ar948.1 (State.isArrayOf_alike hZ.alike Ar948.2.1) rfl Ar948.2.2 hin948 hat948 (g := (mkF m 232 #[.val (.int p0), .val (.int p1), .val (.int p2), .val (.int p3), .val (.int p4), .val (.int ss), .val (.int kq), .val (.int jj), .val (.ref b400), .val (.ref nb_672), .val (.ref b703), .unset, .unset, .unset] [(.int (4 : Int32)), (.ref b400), (.ref b703)])) rfl rfl (hb hby at_232) _ ?_
                  show Steps p.tables e below (T910.setTop (mkF m 233 #[.val (.int p0), .val (.int p1), .val (.int p2), .val (.int p3), .val (.int p4), .val (.int ss), .val (.int kq), .val (.int jj), .val (.ref b400), .val (.ref nb_672), .val (.ref b703), .unset, .unset, .unset] [(.ref nb_472), (.ref b703)])) _
                  refine st949.trans ?_
                  show Steps p.tables e below (T949.setTop (mkF m 236 #[.val (.int p0), .val (.int p1), .val (.int p2), .val (.int p3), .val (.int p4), .val (.int ss), .val (.int kq), .val (.int jj), .val (.ref b400), .val (.ref nb_672), .val (.ref b703), .unset, .unset, .unset] [])) _
                  refine XS.iload X949.here hx rfl (hb hby at_236) rfl ?_
                  show Steps p.tables e below (T949.setTop (mkF m 238 #[.val (.int p0), .val (.int p1), .val (.int p2), .val (.int p3), .val (.int p4), .val (.int ss), .val (.int kq), .val (.int jj), .val (.ref b400), .val (.ref nb_672), .val (.ref b703), .unset, .unset, .unset] [(.int kq)])) _
                  refine XS.iconst X949.here hx rfl (hb hby at_238) ?_
                  exact kk)
              by_cases hk5 : (5 : Int32) < kq
              · obtain ⟨cl986, Ar986, q986, Sz986, Nn986, H986, G986⟩ := id Av973
                have hin986 : ¬ ((5 : Int32) < 0 ∨ cl986.slots.size ≤ ((5 : Int32)).toNatClampNeg) := (inb_of Sz986 ⟨by decide, by decide⟩)
                have hat986 : cl986.slots[((5 : Int32)).toNatClampNeg]? = some (.ref nb_502) := H986.at hin986 rfl
                have hp988 : own_tb (16 : Int32) 16 (28 : Int32) := Or.inl ⟨rfl, rfl, rfl⟩
                have hp989 : vs2_949.length = 16 := pu949_0
                have hp990 : Ovr Z k_740 "com/example/redoubt/redoubt/storage/PageCache$Frame" := pu740_0
                have hp991 : own_cnt vs2_949 < 16 := by rw [cn981]; decide
                have hp992 : ¬ ((16 : Int32) < ((2 : Int32) * ((5 : Int32) + (1 : Int32)))) := by decide
                obtain ⟨cq987, kq987, q987a, q987b, q987c⟩ := isOf hZ rfl P949_0
                obtain ⟨_, _, ⟨T987, L987, k987, n987⟩, -, X987, ⟨Lc987, hQ987, l987, y987, z987⟩, st987⟩ := X949.virtualBack hx (y := (⟨"com/example/redoubt/redoubt/storage/FrameTable", "add", "(Lcom/example/redoubt/redoubt/storage/PageCache$Frame;)V"⟩ : MethodName)) (z := (⟨"com/example/redoubt/redoubt/storage/FrameTable", "add", "(Lcom/example/redoubt/redoubt/storage/PageCache$Frame;)V"⟩ : MethodName)) hown (mvT hZ (hw _ (List.mem_of_getElem? (i := 33) rfl))) (mvT hZ (hw _ (List.mem_of_getElem? (i := 34) rfl))) (notFace_of_selects (args := #[]) (mvT hZ (hw _ (List.mem_of_getElem? (i := 36) rfl)))) (mvT hZ (hw _ (List.mem_of_getElem? (i := 36) rfl))) (mvT hZ (hw _ (List.mem_of_getElem? (i := 35) rfl))) (by decide) (backOf (W := 0) (rmAddO l Z a0 hw [] b703 nb_502 (28 : Int32) (p0 + ((5 : Int32) * ss)) (16 : Int32) 16 a_740 k_740 vs2_949 (5 : Int32) T949.heap n0 (Nat.le_trans Z0 K978.1) P949_0 P949_1 P949_2 F979 P949_4 P949_5 Ex965 F966 hp988 hp989 hp990 hp991 hp992 g_b703 g_a_740) hZ (hw _ (List.mem_of_getElem? (i := 37) rfl)) (hw _ (List.mem_of_getElem? (i := 23) rfl)) (by decide) (by decide)) q987a q987c (g := (mkF m 248 #[.val (.int p0), .val (.int p1), .val (.int p2), .val (.int p3), .val (.int p4), .val (.int ss), .val (.int kq), .val (.int jj), .val (.ref b400), .val (.ref nb_672), .val (.ref b703), .unset, .unset, .unset] [(.ref nb_502), (.ref b703)])) rfl (by rw [hml]; rfl) (Steps.refl _) (argsL := [(.ref nb_502)]) (rest := []) (lenOf pd_1 rfl) rfl (by show 2 * 0 + _ ≤ _; exact Nat.le_of_eq rfl) (hb hby at_248) (fun _ _ => ⟨rfl, rfl, (by decide : 23 + 0 ≤ _), (by decide : 82008 + 0 ≤ _)⟩)
                dsimp only [Pt.U, Pt.locs, Pt.cells, Pt.slots] at X987 l987 y987 z987 st987 hQ987
                rw [l987, y987, z987] at X987
                replace X987 := own_std X987 (cc := 23) (ss := 82008) rfl rfl
                obtain ⟨vs2_987, rfl, N987q, K987q, P987_0, P987_1, P987_2, P987_3, P987_4, P987_5, pu987_0, pu987_1⟩ := hQ987
                have N987 := Fr.app N949 N987q
                have Ex993 : Exa Z T987.heap nb_402 "com/example/redoubt/redoubt/storage/PageCache$Frame" := (Ex955.keep K987q)
                have F994 : Fld Z T987.heap nb_402 "com/example/redoubt/redoubt/storage/PageCache$Frame" "page" "I" (.int p0) := (F956.keep K987q (ninS ne704 (ninS ne741 nin0)))
                have Ex995 : Exa Z T987.heap nb_412 "com/example/redoubt/redoubt/storage/PageCache$Frame" := (Ex957.keep K987q)
                have F996 : Fld Z T987.heap nb_412 "com/example/redoubt/redoubt/storage/PageCache$Frame" "page" "I" (.int (p0 + ss)) := (F958.keep K987q (ninS ne705 (ninS ne742 nin0)))
                have Ex997 : Exa Z T987.heap nb_427 "com/example/redoubt/redoubt/storage/PageCache$Frame" := (Ex959.keep K987q)
                have F998 : Fld Z T987.heap nb_427 "com/example/redoubt/redoubt/storage/PageCache$Frame" "page" "I" (.int (p0 + ((2 : Int32) * ss))) := (F960.keep K987q (ninS ne706 (ninS ne743 nin0)))
                have Ex999 : Exa Z T987.heap nb_447 "com/example/redoubt/redoubt/storage/PageCache$Frame" := (Ex961.keep K987q)
                have F1000 : Fld Z T987.heap nb_447 "com/example/redoubt/redoubt/storage/PageCache$Frame" "page" "I" (.int (p0 + ((3 : Int32) * ss))) := (F962.keep K987q (ninS ne707 (ninS ne744 nin0)))
                have Ex1001 : Exa Z T987.heap nb_472 "com/example/redoubt/redoubt/storage/PageCache$Frame" := (Ex963.keep K987q)
                have F1002 : Fld Z T987.heap nb_472 "com/example/redoubt/redoubt/storage/PageCache$Frame" "page" "I" (.int (p0 + ((4 : Int32) * ss))) := (F964.keep K987q (ninS ne708 (ninS ne745 nin0)))
                have Ex1003 : Exa Z T987.heap nb_502 "com/example/redoubt/redoubt/storage/PageCache$Frame" := (Ex965.keep K987q)
                have F1004 : Fld Z T987.heap nb_502 "com/example/redoubt/redoubt/storage/PageCache$Frame" "page" "I" (.int (p0 + ((5 : Int32) * ss))) := (F966.keep K987q (ninS ne709 (ninS ne746 nin0)))
                have Ex1005 : Exa Z T987.heap nb_537 "com/example/redoubt/redoubt/storage/PageCache$Frame" := (Ex967.keep K987q)
                have F1006 : Fld Z T987.heap nb_537 "com/example/redoubt/redoubt/storage/PageCache$Frame" "page" "I" (.int (p0 + ((6 : Int32) * ss))) := (F968.keep K987q (ninS ne710 (ninS ne747 nin0)))
                have Ex1007 : Exa Z T987.heap nb_577 "com/example/redoubt/redoubt/storage/PageCache$Frame" := (Ex969.keep K987q)
                have F1008 : Fld Z T987.heap nb_577 "com/example/redoubt/redoubt/storage/PageCache$Frame" "page" "I" (.int (p0 + ((7 : Int32) * ss))) := (F970.keep K987q (ninS ne711 (ninS ne748 nin0)))
                have Ex1009 : Exa Z T987.heap nb_622 "com/example/redoubt/redoubt/storage/PageCache$Frame" := (Ex971.keep K987q)
                have F1010 : Fld Z T987.heap nb_622 "com/example/redoubt/redoubt/storage/PageCache$Frame" "page" "I" (.int (p0 + ((8 : Int32) * ss))) := (F972.keep K987q (ninS ne712 (ninS ne749 nin0)))
                have Av1011 : Arv Z T987.heap b400 k400 (.object "com/example/redoubt/redoubt/storage/PageCache$Frame") (9 : Int32) ([(.ref nb_402), (.ref nb_412), (.ref nb_427), (.ref nb_447), (.ref nb_472), (.ref nb_502), (.ref nb_537), (.ref nb_577), (.ref nb_622)] : List Value) .null := (Av973.keep K987q (ninS ne713 (ninS ne750 nin0)))
                have Ex1012 : Exa Z T987.heap nb_672 "com/example/redoubt/redoubt/storage/PageCache$Frame" := (Ex974.keep K987q)
                have F1013 : Fld Z T987.heap nb_672 "com/example/redoubt/redoubt/storage/PageCache$Frame" "page" "I" (.int p4) := (F975.keep K987q (ninS ne714 (ninS ne751 nin0)))
                have Ex1014 : Exa Z T987.heap b703 "com/example/redoubt/redoubt/storage/FrameTable" := (P949_0.keep K987q)
                have Xf1015 : own_Good Z T987.heap vs2_949 := (own_good_keep P949_5 K987q (fun f hf => (ninS (ne_exa hf P949_0 (by decide)) (ninS (own_ne_arr hf (hw _ (List.mem_of_getElem? (i := 7) rfl)) P949_4) nin0))))
                have K1016 : Keep h0 T987.heap [] := K978.trans K987q (allS (Or.inr sz_b703) (allS (Or.inr sz_a_740) all0))
                have eq1018 : ((5 : Int32) + (1 : Int32)) = (6 : Int32) := by decide
                have F1017 : Fld Z T987.heap b703 "com/example/redoubt/redoubt/storage/FrameTable" "size" "I" (.int (6 : Int32)) := by rw [← eq1018]; exact P987_3
                have cn1019 : own_cnt vs2_987 = 6 := by rw [pu987_1, cn981]
                have pre1020 : ∀ t, Steps p.tables e below (T987.setTop (mkF m 255 #[.val (.int p0), .val (.int p1), .val (.int p2), .val (.int p3), .val (.int p4), .val (.int ss), .val (.int kq), .val (.int jj), .val (.ref b400), .val (.ref nb_672), .val (.ref b703), .unset, .unset, .unset] [(.int (6 : Int32)), (.int kq)])) t → Steps p.tables e below (s₁.setTop (entryFrame m #[(.int p0), (.int p1), (.int p2), (.int p3), (.int p4)] maxLocals)) t := fun t kk => pre982 t (by
                    show Steps p.tables e below (T949.setTop (mkF m 239 #[.val (.int p0), .val (.int p1), .val (.int p2), .val (.int p3), .val (.int p4), .val (.int ss), .val (.int kq), .val (.int jj), .val (.ref b400), .val (.ref nb_672), .val (.ref b703), .unset, .unset, .unset] [(.int (5 : Int32)), (.int kq)])) _
                    refine XS.icmpNo X949.here hx rfl (hb hby at_239) rfl (tlt hk5).2.2.2 ?_
                    show Steps p.tables e below (T949.setTop (mkF m 242 #[.val (.int p0), .val (.int p1), .val (.int p2), .val (.int p3), .val (.int p4), .val (.int ss), .val (.int kq), .val (.int jj), .val (.ref b400), .val (.ref nb_672), .val (.ref b703), .unset, .unset, .unset] [])) _
                    refine XS.aload X949.here hx rfl (hb hby at_242) rfl rfl ?_
                    show Steps p.tables e below (T949.setTop (mkF m 244 #[.val (.int p0), .val (.int p1), .val (.int p2), .val (.int p3), .val (.int p4), .val (.int ss), .val (.int kq), .val (.int jj), .val (.ref b400), .val (.ref nb_672), .val (.ref b703), .unset, .unset, .unset] [(.ref b703)])) _
                    refine XS.aload X949.here hx rfl (hb hby at_244) rfl rfl ?_
                    show Steps p.tables e below (T949.setTop (mkF m 246 #[.val (.int p0), .val (.int p1), .val (.int p2), .val (.int p3), .val (.int p4), .val (.int ss), .val (.int kq), .val (.int jj), .val (.ref b400), .val (.ref nb_672), .val (.ref b703), .unset, .unset, .unset] [(.ref b400), (.ref b703)])) _
                    refine XS.iconst X949.here hx rfl (hb hby at_246) ?_
                    show Steps p.tables e below (T949.setTop (mkF m 247 #[.val (.int p0), .val (.int p1), .val (.int p2), .val (.int p3), .val (.int p4), .val (.int ss), .val (.int kq), .val (.int jj), .val (.ref b400), .val (.ref nb_672), .val (.ref b703), .unset, .unset, .unset] [(.int (5 : Int32)), (.ref b400), (.ref b703)])) _
                    refine X949.aaload hx (j := (5 : Int32)) (v := (.ref nb_502)) Ar986.1 (State.isArrayOf_alike hZ.alike Ar986.2.1) rfl Ar986.2.2 hin986 hat986 (g := (mkF m 247 #[.val (.int p0), .val (.int p1), .val (.int p2), .val (.int p3), .val (.int p4), .val (.int ss), .val (.int kq), .val (.int jj), .val (.ref b400), .val (.ref nb_672), .val (.ref b703), .unset, .unset, .unset] [(.int (5 : Int32)), (.ref b400), (.ref b703)])) rfl rfl (hb hby at_247) _ ?_
                    show Steps p.tables e below (T949.setTop (mkF m 248 #[.val (.int p0), .val (.int p1), .val (.int p2), .val (.int p3), .val (.int p4), .val (.int ss), .val (.int kq), .val (.int jj), .val (.ref b400), .val (.ref nb_672), .val (.ref b703), .unset, .unset, .unset] [(.ref nb_502), (.ref b703)])) _
                    refine st987.trans ?_
                    show Steps p.tables e below (T987.setTop (mkF m 251 #[.val (.int p0), .val (.int p1), .val (.int p2), .val (.int p3), .val (.int p4), .val (.int ss), .val (.int kq), .val (.int jj), .val (.ref b400), .val (.ref nb_672), .val (.ref b703), .unset, .unset, .unset] [])) _
                    refine XS.iload X987.here hx rfl (hb hby at_251) rfl ?_
                    show Steps p.tables e below (T987.setTop (mkF m 253 #[.val (.int p0), .val (.int p1), .val (.int p2), .val (.int p3), .val (.int p4), .val (.int ss), .val (.int kq), .val (.int jj), .val (.ref b400), .val (.ref nb_672), .val (.ref b703), .unset, .unset, .unset] [(.int kq)])) _
                    refine XS.bipush X987.here hx rfl (hb hby at_253) ?_
                    exact kk)
                by_cases hk6 : (6 : Int32) < kq
                · obtain ⟨cl1023, Ar1023, q1023, Sz1023, Nn1023, H1023, G1023⟩ := id Av1011
                  have hin1023 : ¬ ((6 : Int32) < 0 ∨ cl1023.slots.size ≤ ((6 : Int32)).toNatClampNeg) := (inb_of Sz1023 ⟨by decide, by decide⟩)
                  have hat1023 : cl1023.slots[((6 : Int32)).toNatClampNeg]? = some (.ref nb_537) := H1023.at hin1023 rfl
                  have hp1025 : own_tb (16 : Int32) 16 (28 : Int32) := Or.inl ⟨rfl, rfl, rfl⟩
                  have hp1026 : vs2_987.length = 16 := pu987_0
                  have hp1027 : Ovr Z k_740 "com/example/redoubt/redoubt/storage/PageCache$Frame" := pu740_0
                  have hp1028 : own_cnt vs2_987 < 16 := by rw [cn1019]; decide
                  have hp1029 : ¬ ((16 : Int32) < ((2 : Int32) * ((6 : Int32) + (1 : Int32)))) := by decide
                  obtain ⟨cq1024, kq1024, q1024a, q1024b, q1024c⟩ := isOf hZ rfl P987_0
                  obtain ⟨_, _, ⟨T1024, L1024, k1024, n1024⟩, -, X1024, ⟨Lc1024, hQ1024, l1024, y1024, z1024⟩, st1024⟩ := X987.virtualBack hx (y := (⟨"com/example/redoubt/redoubt/storage/FrameTable", "add", "(Lcom/example/redoubt/redoubt/storage/PageCache$Frame;)V"⟩ : MethodName)) (z := (⟨"com/example/redoubt/redoubt/storage/FrameTable", "add", "(Lcom/example/redoubt/redoubt/storage/PageCache$Frame;)V"⟩ : MethodName)) hown (mvT hZ (hw _ (List.mem_of_getElem? (i := 33) rfl))) (mvT hZ (hw _ (List.mem_of_getElem? (i := 34) rfl))) (notFace_of_selects (args := #[]) (mvT hZ (hw _ (List.mem_of_getElem? (i := 36) rfl)))) (mvT hZ (hw _ (List.mem_of_getElem? (i := 36) rfl))) (mvT hZ (hw _ (List.mem_of_getElem? (i := 35) rfl))) (by decide) (backOf (W := 0) (rmAddO l Z a0 hw [] b703 nb_537 (28 : Int32) (p0 + ((6 : Int32) * ss)) (16 : Int32) 16 a_740 k_740 vs2_987 (6 : Int32) T987.heap n0 (Nat.le_trans Z0 K1016.1) P987_0 P987_1 P987_2 F1017 P987_4 P987_5 Ex1005 F1006 hp1025 hp1026 hp1027 hp1028 hp1029 g_b703 g_a_740) hZ (hw _ (List.mem_of_getElem? (i := 37) rfl)) (hw _ (List.mem_of_getElem? (i := 23) rfl)) (by decide) (by decide)) q1024a q1024c (g := (mkF m 265 #[.val (.int p0), .val (.int p1), .val (.int p2), .val (.int p3), .val (.int p4), .val (.int ss), .val (.int kq), .val (.int jj), .val (.ref b400), .val (.ref nb_672), .val (.ref b703), .unset, .unset, .unset] [(.ref nb_537), (.ref b703)])) rfl (by rw [hml]; rfl) (Steps.refl _) (argsL := [(.ref nb_537)]) (rest := []) (lenOf pd_1 rfl) rfl (by show 2 * 0 + _ ≤ _; exact Nat.le_of_eq rfl) (hb hby at_265) (fun _ _ => ⟨rfl, rfl, (by decide : 23 + 0 ≤ _), (by decide : 82008 + 0 ≤ _)⟩)
                  dsimp only [Pt.U, Pt.locs, Pt.cells, Pt.slots] at X1024 l1024 y1024 z1024 st1024 hQ1024
                  rw [l1024, y1024, z1024] at X1024
                  replace X1024 := own_std X1024 (cc := 23) (ss := 82008) rfl rfl
                  obtain ⟨vs2_1024, rfl, N1024q, K1024q, P1024_0, P1024_1, P1024_2, P1024_3, P1024_4, P1024_5, pu1024_0, pu1024_1⟩ := hQ1024
                  have N1024 := Fr.app N987 N1024q
                  have Ex1030 : Exa Z T1024.heap nb_402 "com/example/redoubt/redoubt/storage/PageCache$Frame" := (Ex993.keep K1024q)
                  have F1031 : Fld Z T1024.heap nb_402 "com/example/redoubt/redoubt/storage/PageCache$Frame" "page" "I" (.int p0) := (F994.keep K1024q (ninS ne704 (ninS ne741 nin0)))
                  have Ex1032 : Exa Z T1024.heap nb_412 "com/example/redoubt/redoubt/storage/PageCache$Frame" := (Ex995.keep K1024q)
                  have F1033 : Fld Z T1024.heap nb_412 "com/example/redoubt/redoubt/storage/PageCache$Frame" "page" "I" (.int (p0 + ss)) := (F996.keep K1024q (ninS ne705 (ninS ne742 nin0)))
                  have Ex1034 : Exa Z T1024.heap nb_427 "com/example/redoubt/redoubt/storage/PageCache$Frame" := (Ex997.keep K1024q)
                  have F1035 : Fld Z T1024.heap nb_427 "com/example/redoubt/redoubt/storage/PageCache$Frame" "page" "I" (.int (p0 + ((2 : Int32) * ss))) := (F998.keep K1024q (ninS ne706 (ninS ne743 nin0)))
                  have Ex1036 : Exa Z T1024.heap nb_447 "com/example/redoubt/redoubt/storage/PageCache$Frame" := (Ex999.keep K1024q)
                  have F1037 : Fld Z T1024.heap nb_447 "com/example/redoubt/redoubt/storage/PageCache$Frame" "page" "I" (.int (p0 + ((3 : Int32) * ss))) := (F1000.keep K1024q (ninS ne707 (ninS ne744 nin0)))
                  have Ex1038 : Exa Z T1024.heap nb_472 "com/example/redoubt/redoubt/storage/PageCache$Frame" := (Ex1001.keep K1024q)
                  have F1039 : Fld Z T1024.heap nb_472 "com/example/redoubt/redoubt/storage/PageCache$Frame" "page" "I" (.int (p0 + ((4 : Int32) * ss))) := (F1002.keep K1024q (ninS ne708 (ninS ne745 nin0)))
                  have Ex1040 : Exa Z T1024.heap nb_502 "com/example/redoubt/redoubt/storage/PageCache$Frame" := (Ex1003.keep K1024q)
                  have F1041 : Fld Z T1024.heap nb_502 "com/example/redoubt/redoubt/storage/PageCache$Frame" "page" "I" (.int (p0 + ((5 : Int32) * ss))) := (F1004.keep K1024q (ninS ne709 (ninS ne746 nin0)))
                  have Ex1042 : Exa Z T1024.heap nb_537 "com/example/redoubt/redoubt/storage/PageCache$Frame" := (Ex1005.keep K1024q)
                  have F1043 : Fld Z T1024.heap nb_537 "com/example/redoubt/redoubt/storage/PageCache$Frame" "page" "I" (.int (p0 + ((6 : Int32) * ss))) := (F1006.keep K1024q (ninS ne710 (ninS ne747 nin0)))
                  have Ex1044 : Exa Z T1024.heap nb_577 "com/example/redoubt/redoubt/storage/PageCache$Frame" := (Ex1007.keep K1024q)
                  have F1045 : Fld Z T1024.heap nb_577 "com/example/redoubt/redoubt/storage/PageCache$Frame" "page" "I" (.int (p0 + ((7 : Int32) * ss))) := (F1008.keep K1024q (ninS ne711 (ninS ne748 nin0)))
                  have Ex1046 : Exa Z T1024.heap nb_622 "com/example/redoubt/redoubt/storage/PageCache$Frame" := (Ex1009.keep K1024q)
                  have F1047 : Fld Z T1024.heap nb_622 "com/example/redoubt/redoubt/storage/PageCache$Frame" "page" "I" (.int (p0 + ((8 : Int32) * ss))) := (F1010.keep K1024q (ninS ne712 (ninS ne749 nin0)))
                  have Av1048 : Arv Z T1024.heap b400 k400 (.object "com/example/redoubt/redoubt/storage/PageCache$Frame") (9 : Int32) ([(.ref nb_402), (.ref nb_412), (.ref nb_427), (.ref nb_447), (.ref nb_472), (.ref nb_502), (.ref nb_537), (.ref nb_577), (.ref nb_622)] : List Value) .null := (Av1011.keep K1024q (ninS ne713 (ninS ne750 nin0)))
                  have Ex1049 : Exa Z T1024.heap nb_672 "com/example/redoubt/redoubt/storage/PageCache$Frame" := (Ex1012.keep K1024q)
                  have F1050 : Fld Z T1024.heap nb_672 "com/example/redoubt/redoubt/storage/PageCache$Frame" "page" "I" (.int p4) := (F1013.keep K1024q (ninS ne714 (ninS ne751 nin0)))
                  have Ex1051 : Exa Z T1024.heap b703 "com/example/redoubt/redoubt/storage/FrameTable" := (P987_0.keep K1024q)
                  have Xf1052 : own_Good Z T1024.heap vs2_987 := (own_good_keep P987_5 K1024q (fun f hf => (ninS (ne_exa hf P987_0 (by decide)) (ninS (own_ne_arr hf (hw _ (List.mem_of_getElem? (i := 7) rfl)) P987_4) nin0))))
                  have K1053 : Keep h0 T1024.heap [] := K1016.trans K1024q (allS (Or.inr sz_b703) (allS (Or.inr sz_a_740) all0))
                  have eq1055 : ((6 : Int32) + (1 : Int32)) = (7 : Int32) := by decide
                  have F1054 : Fld Z T1024.heap b703 "com/example/redoubt/redoubt/storage/FrameTable" "size" "I" (.int (7 : Int32)) := by rw [← eq1055]; exact P1024_3
                  have cn1056 : own_cnt vs2_1024 = 7 := by rw [pu1024_1, cn1019]
                  have pre1057 : ∀ t, Steps p.tables e below (T1024.setTop (mkF m 272 #[.val (.int p0), .val (.int p1), .val (.int p2), .val (.int p3), .val (.int p4), .val (.int ss), .val (.int kq), .val (.int jj), .val (.ref b400), .val (.ref nb_672), .val (.ref b703), .unset, .unset, .unset] [(.int (7 : Int32)), (.int kq)])) t → Steps p.tables e below (s₁.setTop (entryFrame m #[(.int p0), (.int p1), (.int p2), (.int p3), (.int p4)] maxLocals)) t := fun t kk => pre1020 t (by
                      show Steps p.tables e below (T987.setTop (mkF m 255 #[.val (.int p0), .val (.int p1), .val (.int p2), .val (.int p3), .val (.int p4), .val (.int ss), .val (.int kq), .val (.int jj), .val (.ref b400), .val (.ref nb_672), .val (.ref b703), .unset, .unset, .unset] [(.int (6 : Int32)), (.int kq)])) _
                      refine XS.icmpNo X987.here hx rfl (hb hby at_255) rfl (tlt hk6).2.2.2 ?_
                      show Steps p.tables e below (T987.setTop (mkF m 258 #[.val (.int p0), .val (.int p1), .val (.int p2), .val (.int p3), .val (.int p4), .val (.int ss), .val (.int kq), .val (.int jj), .val (.ref b400), .val (.ref nb_672), .val (.ref b703), .unset, .unset, .unset] [])) _
                      refine XS.aload X987.here hx rfl (hb hby at_258) rfl rfl ?_
                      show Steps p.tables e below (T987.setTop (mkF m 260 #[.val (.int p0), .val (.int p1), .val (.int p2), .val (.int p3), .val (.int p4), .val (.int ss), .val (.int kq), .val (.int jj), .val (.ref b400), .val (.ref nb_672), .val (.ref b703), .unset, .unset, .unset] [(.ref b703)])) _
                      refine XS.aload X987.here hx rfl (hb hby at_260) rfl rfl ?_
                      show Steps p.tables e below (T987.setTop (mkF m 262 #[.val (.int p0), .val (.int p1), .val (.int p2), .val (.int p3), .val (.int p4), .val (.int ss), .val (.int kq), .val (.int jj), .val (.ref b400), .val (.ref nb_672), .val (.ref b703), .unset, .unset, .unset] [(.ref b400), (.ref b703)])) _
                      refine XS.bipush X987.here hx rfl (hb hby at_262) ?_
                      show Steps p.tables e below (T987.setTop (mkF m 264 #[.val (.int p0), .val (.int p1), .val (.int p2), .val (.int p3), .val (.int p4), .val (.int ss), .val (.int kq), .val (.int jj), .val (.ref b400), .val (.ref nb_672), .val (.ref b703), .unset, .unset, .unset] [(.int (6 : Int32)), (.ref b400), (.ref b703)])) _
                      refine X987.aaload hx (j := (6 : Int32)) (v := (.ref nb_537)) Ar1023.1 (State.isArrayOf_alike hZ.alike Ar1023.2.1) rfl Ar1023.2.2 hin1023 hat1023 (g := (mkF m 264 #[.val (.int p0), .val (.int p1), .val (.int p2), .val (.int p3), .val (.int p4), .val (.int ss), .val (.int kq), .val (.int jj), .val (.ref b400), .val (.ref nb_672), .val (.ref b703), .unset, .unset, .unset] [(.int (6 : Int32)), (.ref b400), (.ref b703)])) rfl rfl (hb hby at_264) _ ?_
                      show Steps p.tables e below (T987.setTop (mkF m 265 #[.val (.int p0), .val (.int p1), .val (.int p2), .val (.int p3), .val (.int p4), .val (.int ss), .val (.int kq), .val (.int jj), .val (.ref b400), .val (.ref nb_672), .val (.ref b703), .unset, .unset, .unset] [(.ref nb_537), (.ref b703)])) _
                      refine st1024.trans ?_
                      show Steps p.tables e below (T1024.setTop (mkF m 268 #[.val (.int p0), .val (.int p1), .val (.int p2), .val (.int p3), .val (.int p4), .val (.int ss), .val (.int kq), .val (.int jj), .val (.ref b400), .val (.ref nb_672), .val (.ref b703), .unset, .unset, .unset] [])) _
                      refine XS.iload X1024.here hx rfl (hb hby at_268) rfl ?_
                      show Steps p.tables e below (T1024.setTop (mkF m 270 #[.val (.int p0), .val (.int p1), .val (.int p2), .val (.int p3), .val (.int p4), .val (.int ss), .val (.int kq), .val (.int jj), .val (.ref b400), .val (.ref nb_672), .val (.ref b703), .unset, .unset, .unset] [(.int kq)])) _
                      refine XS.bipush X1024.here hx rfl (hb hby at_270) ?_
                      exact kk)
                  by_cases hk7 : (7 : Int32) < kq
                  · obtain ⟨cl1059, Ar1059, q1059, Sz1059, Nn1059, H1059, G1059⟩ := id Av1048
                    have hin1059 : ¬ ((7 : Int32) < 0 ∨ cl1059.slots.size ≤ ((7 : Int32)).toNatClampNeg) := (inb_of Sz1059 ⟨by decide, by decide⟩)
                    have hat1059 : cl1059.slots[((7 : Int32)).toNatClampNeg]? = some (.ref nb_577) := H1059.at hin1059 rfl
                    have hp1061 : own_tb (16 : Int32) 16 (28 : Int32) := Or.inl ⟨rfl, rfl, rfl⟩
                    have hp1062 : vs2_1024.length = 16 := pu1024_0
                    have hp1063 : Ovr Z k_740 "com/example/redoubt/redoubt/storage/PageCache$Frame" := pu740_0
                    have hp1064 : own_cnt vs2_1024 < 16 := by rw [cn1056]; decide
                    have hp1065 : ¬ ((16 : Int32) < ((2 : Int32) * ((7 : Int32) + (1 : Int32)))) := by decide
                    obtain ⟨cq1060, kq1060, q1060a, q1060b, q1060c⟩ := isOf hZ rfl P1024_0
                    obtain ⟨_, _, ⟨T1060, L1060, k1060, n1060⟩, -, X1060, ⟨Lc1060, hQ1060, l1060, y1060, z1060⟩, st1060⟩ := X1024.virtualBack hx (y := (⟨"com/example/redoubt/redoubt/storage/FrameTable", "add", "(Lcom/example/redoubt/redoubt/storage/PageCache$Frame;)V"⟩ : MethodName)) (z := (⟨"com/example/redoubt/redoubt/storage/FrameTable", "add", "(Lcom/example/redoubt/redoubt/storage/PageCache$Frame;)V"⟩ : MethodName)) hown (mvT hZ (hw _ (List.mem_of_getElem? (i := 33) rfl))) (mvT hZ (hw _ (List.mem_of_getElem? (i := 34) rfl))) (notFace_of_selects (args := #[]) (mvT hZ (hw _ (List.mem_of_getElem? (i := 36) rfl)))) (mvT hZ (hw _ (List.mem_of_getElem? (i := 36) rfl))) (mvT hZ (hw _ (List.mem_of_getElem? (i := 35) rfl))) (by decide) (backOf (W := 0) (rmAddO l Z a0 hw [] b703 nb_577 (28 : Int32) (p0 + ((7 : Int32) * ss)) (16 : Int32) 16 a_740 k_740 vs2_1024 (7 : Int32) T1024.heap n0 (Nat.le_trans Z0 K1053.1) P1024_0 P1024_1 P1024_2 F1054 P1024_4 P1024_5 Ex1044 F1045 hp1061 hp1062 hp1063 hp1064 hp1065 g_b703 g_a_740) hZ (hw _ (List.mem_of_getElem? (i := 37) rfl)) (hw _ (List.mem_of_getElem? (i := 23) rfl)) (by decide) (by decide)) q1060a q1060c (g := (mkF m 282 #[.val (.int p0), .val (.int p1), .val (.int p2), .val (.int p3), .val (.int p4), .val (.int ss), .val (.int kq), .val (.int jj), .val (.ref b400), .val (.ref nb_672), .val (.ref b703), .unset, .unset, .unset] [(.ref nb_577), (.ref b703)])) rfl (by rw [hml]; rfl) (Steps.refl _) (argsL := [(.ref nb_577)]) (rest := []) (lenOf pd_1 rfl) rfl (by show 2 * 0 + _ ≤ _; exact Nat.le_of_eq rfl) (hb hby at_282) (fun _ _ => ⟨rfl, rfl, (by decide : 23 + 0 ≤ _), (by decide : 82008 + 0 ≤ _)⟩)
                    dsimp only [Pt.U, Pt.locs, Pt.cells, Pt.slots] at X1060 l1060 y1060 z1060 st1060 hQ1060
                    rw [l1060, y1060, z1060] at X1060
                    replace X1060 := own_std X1060 (cc := 23) (ss := 82008) rfl rfl
                    obtain ⟨vs2_1060, rfl, N1060q, K1060q, P1060_0, P1060_1, P1060_2, P1060_3, P1060_4, P1060_5, pu1060_0, pu1060_1⟩ := hQ1060
                    have N1060 := Fr.app N1024 N1060q
                    have Ex1066 : Exa Z T1060.heap nb_402 "com/example/redoubt/redoubt/storage/PageCache$Frame" := (Ex1030.keep K1060q)
                    have F1067 : Fld Z T1060.heap nb_402 "com/example/redoubt/redoubt/storage/PageCache$Frame" "page" "I" (.int p0) := (F1031.keep K1060q (ninS ne704 (ninS ne741 nin0)))
                    have Ex1068 : Exa Z T1060.heap nb_412 "com/example/redoubt/redoubt/storage/PageCache$Frame" := (Ex1032.keep K1060q)
                    have F1069 : Fld Z T1060.heap nb_412 "com/example/redoubt/redoubt/storage/PageCache$Frame" "page" "I" (.int (p0 + ss)) := (F1033.keep K1060q (ninS ne705 (ninS ne742 nin0)))
                    have Ex1070 : Exa Z T1060.heap nb_427 "com/example/redoubt/redoubt/storage/PageCache$Frame" := (Ex1034.keep K1060q)
                    have F1071 : Fld Z T1060.heap nb_427 "com/example/redoubt/redoubt/storage/PageCache$Frame" "page" "I" (.int (p0 + ((2 : Int32) * ss))) := (F1035.keep K1060q (ninS ne706 (ninS ne743 nin0)))
                    have Ex1072 : Exa Z T1060.heap nb_447 "com/example/redoubt/redoubt/storage/PageCache$Frame" := (Ex1036.keep K1060q)
                    have F1073 : Fld Z T1060.heap nb_447 "com/example/redoubt/redoubt/storage/PageCache$Frame" "page" "I" (.int (p0 + ((3 : Int32) * ss))) := (F1037.keep K1060q (ninS ne707 (ninS ne744 nin0)))
                    have Ex1074 : Exa Z T1060.heap nb_472 "com/example/redoubt/redoubt/storage/PageCache$Frame" := (Ex1038.keep K1060q)
                    have F1075 : Fld Z T1060.heap nb_472 "com/example/redoubt/redoubt/storage/PageCache$Frame" "page" "I" (.int (p0 + ((4 : Int32) * ss))) := (F1039.keep K1060q (ninS ne708 (ninS ne745 nin0)))
                    have Ex1076 : Exa Z T1060.heap nb_502 "com/example/redoubt/redoubt/storage/PageCache$Frame" := (Ex1040.keep K1060q)
                    have F1077 : Fld Z T1060.heap nb_502 "com/example/redoubt/redoubt/storage/PageCache$Frame" "page" "I" (.int (p0 + ((5 : Int32) * ss))) := (F1041.keep K1060q (ninS ne709 (ninS ne746 nin0)))
                    have Ex1078 : Exa Z T1060.heap nb_537 "com/example/redoubt/redoubt/storage/PageCache$Frame" := (Ex1042.keep K1060q)
                    have F1079 : Fld Z T1060.heap nb_537 "com/example/redoubt/redoubt/storage/PageCache$Frame" "page" "I" (.int (p0 + ((6 : Int32) * ss))) := (F1043.keep K1060q (ninS ne710 (ninS ne747 nin0)))
                    have Ex1080 : Exa Z T1060.heap nb_577 "com/example/redoubt/redoubt/storage/PageCache$Frame" := (Ex1044.keep K1060q)
                    have F1081 : Fld Z T1060.heap nb_577 "com/example/redoubt/redoubt/storage/PageCache$Frame" "page" "I" (.int (p0 + ((7 : Int32) * ss))) := (F1045.keep K1060q (ninS ne711 (ninS ne748 nin0)))
                    have Ex1082 : Exa Z T1060.heap nb_622 "com/example/redoubt/redoubt/storage/PageCache$Frame" := (Ex1046.keep K1060q)
                    have F1083 : Fld Z T1060.heap nb_622 "com/example/redoubt/redoubt/storage/PageCache$Frame" "page" "I" (.int (p0 + ((8 : Int32) * ss))) := (F1047.keep K1060q (ninS ne712 (ninS ne749 nin0)))
                    have Av1084 : Arv Z T1060.heap b400 k400 (.object "com/example/redoubt/redoubt/storage/PageCache$Frame") (9 : Int32) ([(.ref nb_402), (.ref nb_412), (.ref nb_427), (.ref nb_447), (.ref nb_472), (.ref nb_502), (.ref nb_537), (.ref nb_577), (.ref nb_622)] : List Value) .null := (Av1048.keep K1060q (ninS ne713 (ninS ne750 nin0)))
                    have Ex1085 : Exa Z T1060.heap nb_672 "com/example/redoubt/redoubt/storage/PageCache$Frame" := (Ex1049.keep K1060q)
                    have F1086 : Fld Z T1060.heap nb_672 "com/example/redoubt/redoubt/storage/PageCache$Frame" "page" "I" (.int p4) := (F1050.keep K1060q (ninS ne714 (ninS ne751 nin0)))
                    have Ex1087 : Exa Z T1060.heap b703 "com/example/redoubt/redoubt/storage/FrameTable" := (P1024_0.keep K1060q)
                    have Xf1088 : own_Good Z T1060.heap vs2_1024 := (own_good_keep P1024_5 K1060q (fun f hf => (ninS (ne_exa hf P1024_0 (by decide)) (ninS (own_ne_arr hf (hw _ (List.mem_of_getElem? (i := 7) rfl)) P1024_4) nin0))))
                    have K1089 : Keep h0 T1060.heap [] := K1053.trans K1060q (allS (Or.inr sz_b703) (allS (Or.inr sz_a_740) all0))
                    have eq1091 : ((7 : Int32) + (1 : Int32)) = (8 : Int32) := by decide
                    have F1090 : Fld Z T1060.heap b703 "com/example/redoubt/redoubt/storage/FrameTable" "size" "I" (.int (8 : Int32)) := by rw [← eq1091]; exact P1060_3
                    have cn1092 : own_cnt vs2_1060 = 8 := by rw [pu1060_1, cn1056]
                    have pre1093 : ∀ t, Steps p.tables e below (T1060.setTop (mkF m 289 #[.val (.int p0), .val (.int p1), .val (.int p2), .val (.int p3), .val (.int p4), .val (.int ss), .val (.int kq), .val (.int jj), .val (.ref b400), .val (.ref nb_672), .val (.ref b703), .unset, .unset, .unset] [(.int (8 : Int32)), (.int kq)])) t → Steps p.tables e below (s₁.setTop (entryFrame m #[(.int p0), (.int p1), (.int p2), (.int p3), (.int p4)] maxLocals)) t := fun t kk => pre1057 t (by
                        show Steps p.tables e below (T1024.setTop (mkF m 272 #[.val (.int p0), .val (.int p1), .val (.int p2), .val (.int p3), .val (.int p4), .val (.int ss), .val (.int kq), .val (.int jj), .val (.ref b400), .val (.ref nb_672), .val (.ref b703), .unset, .unset, .unset] [(.int (7 : Int32)), (.int kq)])) _
                        refine XS.icmpNo X1024.here hx rfl (hb hby at_272) rfl (tlt hk7).2.2.2 ?_
                        show Steps p.tables e below (T1024.setTop (mkF m 275 #[.val (.int p0), .val (.int p1), .val (.int p2), .val (.int p3), .val (.int p4), .val (.int ss), .val (.int kq), .val (.int jj), .val (.ref b400), .val (.ref nb_672), .val (.ref b703), .unset, .unset, .unset] [])) _
                        refine XS.aload X1024.here hx rfl (hb hby at_275) rfl rfl ?_
                        show Steps p.tables e below (T1024.setTop (mkF m 277 #[.val (.int p0), .val (.int p1), .val (.int p2), .val (.int p3), .val (.int p4), .val (.int ss), .val (.int kq), .val (.int jj), .val (.ref b400), .val (.ref nb_672), .val (.ref b703), .unset, .unset, .unset] [(.ref b703)])) _
                        refine XS.aload X1024.here hx rfl (hb hby at_277) rfl rfl ?_
                        show Steps p.tables e below (T1024.setTop (mkF m 279 #[.val (.int p0), .val (.int p1), .val (.int p2), .val (.int p3), .val (.int p4), .val (.int ss), .val (.int kq), .val (.int jj), .val (.ref b400), .val (.ref nb_672), .val (.ref b703), .unset, .unset, .unset] [(.ref b400), (.ref b703)])) _
                        refine XS.bipush X1024.here hx rfl (hb hby at_279) ?_
                        show Steps p.tables e below (T1024.setTop (mkF m 281 #[.val (.int p0), .val (.int p1), .val (.int p2), .val (.int p3), .val (.int p4), .val (.int ss), .val (.int kq), .val (.int jj), .val (.ref b400), .val (.ref nb_672), .val (.ref b703), .unset, .unset, .unset] [(.int (7 : Int32)), (.ref b400), (.ref b703)])) _
                        refine X1024.aaload hx (j := (7 : Int32)) (v := (.ref nb_577)) Ar1059.1 (State.isArrayOf_alike hZ.alike Ar1059.2.1) rfl Ar1059.2.2 hin1059 hat1059 (g := (mkF m 281 #[.val (.int p0), .val (.int p1), .val (.int p2), .val (.int p3), .val (.int p4), .val (.int ss), .val (.int kq), .val (.int jj), .val (.ref b400), .val (.ref nb_672), .val (.ref b703), .unset, .unset, .unset] [(.int (7 : Int32)), (.ref b400), (.ref b703)])) rfl rfl (hb hby at_281) _ ?_
                        show Steps p.tables e below (T1024.setTop (mkF m 282 #[.val (.int p0), .val (.int p1), .val (.int p2), .val (.int p3), .val (.int p4), .val (.int ss), .val (.int kq), .val (.int jj), .val (.ref b400), .val (.ref nb_672), .val (.ref b703), .unset, .unset, .unset] [(.ref nb_577), (.ref b703)])) _
                        refine st1060.trans ?_
                        show Steps p.tables e below (T1060.setTop (mkF m 285 #[.val (.int p0), .val (.int p1), .val (.int p2), .val (.int p3), .val (.int p4), .val (.int ss), .val (.int kq), .val (.int jj), .val (.ref b400), .val (.ref nb_672), .val (.ref b703), .unset, .unset, .unset] [])) _
                        refine XS.iload X1060.here hx rfl (hb hby at_285) rfl ?_
                        show Steps p.tables e below (T1060.setTop (mkF m 287 #[.val (.int p0), .val (.int p1), .val (.int p2), .val (.int p3), .val (.int p4), .val (.int ss), .val (.int kq), .val (.int jj), .val (.ref b400), .val (.ref nb_672), .val (.ref b703), .unset, .unset, .unset] [(.int kq)])) _
                        refine XS.bipush X1060.here hx rfl (hb hby at_287) ?_
                        exact kk)
                    by_cases hk8 : (8 : Int32) < kq
                    · obtain ⟨cl1094, Ar1094, q1094, Sz1094, Nn1094, H1094, G1094⟩ := id Av1084
                      have hin1094 : ¬ ((8 : Int32) < 0 ∨ cl1094.slots.size ≤ ((8 : Int32)).toNatClampNeg) := (inb_of Sz1094 ⟨by decide, by decide⟩)
                      have hat1094 : cl1094.slots[((8 : Int32)).toNatClampNeg]? = some (.ref nb_622) := H1094.at hin1094 rfl
                      have hp1096 : vs2_1060.length = 16 := pu1060_0
                      obtain ⟨cq1095, kq1095, q1095a, q1095b, q1095c⟩ := isOf hZ rfl P1060_0
                      obtain ⟨_, _, ⟨T1095, L1095, k1095, n1095⟩, -, X1095, ⟨Lc1095, hQ1095, l1095, y1095, z1095⟩, st1095⟩ := X1060.virtualBack hx (y := (⟨"com/example/redoubt/redoubt/storage/FrameTable", "add", "(Lcom/example/redoubt/redoubt/storage/PageCache$Frame;)V"⟩ : MethodName)) (z := (⟨"com/example/redoubt/redoubt/storage/FrameTable", "add", "(Lcom/example/redoubt/redoubt/storage/PageCache$Frame;)V"⟩ : MethodName)) hown (mvT hZ (hw _ (List.mem_of_getElem? (i := 33) rfl))) (mvT hZ (hw _ (List.mem_of_getElem? (i := 34) rfl))) (notFace_of_selects (args := #[]) (mvT hZ (hw _ (List.mem_of_getElem? (i := 36) rfl)))) (mvT hZ (hw _ (List.mem_of_getElem? (i := 36) rfl))) (mvT hZ (hw _ (List.mem_of_getElem? (i := 35) rfl))) (by decide) (backOf (W := 0) (rmAddG l Z a0 hw [] b703 nb_622 (p0 + ((8 : Int32) * ss)) a_740 k_740 vs2_1060 T1060.heap n0 (Nat.le_trans Z0 K1089.1) P1060_0 P1060_1 P1060_2 F1090 P1060_4 P1060_5 Ex1082 F1083 hp1096 g_b703) hZ (hw _ (List.mem_of_getElem? (i := 37) rfl)) (hw _ (List.mem_of_getElem? (i := 23) rfl)) (by decide) (by decide)) q1095a q1095c (g := (mkF m 299 #[.val (.int p0), .val (.int p1), .val (.int p2), .val (.int p3), .val (.int p4), .val (.int ss), .val (.int kq), .val (.int jj), .val (.ref b400), .val (.ref nb_672), .val (.ref b703), .unset, .unset, .unset] [(.ref nb_622), (.ref b703)])) rfl (by rw [hml]; rfl) (Steps.refl _) (argsL := [(.ref nb_622)]) (rest := []) (lenOf pd_1 rfl) rfl (by show 2 * 0 + _ ≤ _; exact Nat.le_of_eq rfl) (hb hby at_299) (fun _ _ => ⟨rfl, rfl, (by decide : 23 + 1 ≤ _), (by decide : 82008 + 32 ≤ _)⟩)
                      dsimp only [Pt.U, Pt.locs, Pt.cells, Pt.slots] at X1095 l1095 y1095 z1095 st1095 hQ1095
                      rw [l1095, y1095, z1095] at X1095
                      replace X1095 := own_std X1095 (cc := 24) (ss := 82040) rfl rfl
                      obtain ⟨a2_1095, rfl, N1095q, K1095q, P1095_0, P1095_1, P1095_2, P1095_3⟩ := hQ1095
                      have N1095 := Fr.app N1060 N1095q
                      have Ex1097 : Exa Z T1095.heap nb_402 "com/example/redoubt/redoubt/storage/PageCache$Frame" := (Ex1066.keep K1095q)
                      have F1098 : Fld Z T1095.heap nb_402 "com/example/redoubt/redoubt/storage/PageCache$Frame" "page" "I" (.int p0) := (F1067.keep K1095q (ninS ne704 nin0))
                      have Ex1099 : Exa Z T1095.heap nb_412 "com/example/redoubt/redoubt/storage/PageCache$Frame" := (Ex1068.keep K1095q)
                      have F1100 : Fld Z T1095.heap nb_412 "com/example/redoubt/redoubt/storage/PageCache$Frame" "page" "I" (.int (p0 + ss)) := (F1069.keep K1095q (ninS ne705 nin0))
                      have Ex1101 : Exa Z T1095.heap nb_427 "com/example/redoubt/redoubt/storage/PageCache$Frame" := (Ex1070.keep K1095q)
                      have F1102 : Fld Z T1095.heap nb_427 "com/example/redoubt/redoubt/storage/PageCache$Frame" "page" "I" (.int (p0 + ((2 : Int32) * ss))) := (F1071.keep K1095q (ninS ne706 nin0))
                      have Ex1103 : Exa Z T1095.heap nb_447 "com/example/redoubt/redoubt/storage/PageCache$Frame" := (Ex1072.keep K1095q)
                      have F1104 : Fld Z T1095.heap nb_447 "com/example/redoubt/redoubt/storage/PageCache$Frame" "page" "I" (.int (p0 + ((3 : Int32) * ss))) := (F1073.keep K1095q (ninS ne707 nin0))
                      have Ex1105 : Exa Z T1095.heap nb_472 "com/example/redoubt/redoubt/storage/PageCache$Frame" := (Ex1074.keep K1095q)
                      have F1106 : Fld Z T1095.heap nb_472 "com/example/redoubt/redoubt/storage/PageCache$Frame" "page" "I" (.int (p0 + ((4 : Int32) * ss))) := (F1075.keep K1095q (ninS ne708 nin0))
                      have Ex1107 : Exa Z T1095.heap nb_502 "com/example/redoubt/redoubt/storage/PageCache$Frame" := (Ex1076.keep K1095q)
                      have F1108 : Fld Z T1095.heap nb_502 "com/example/redoubt/redoubt/storage/PageCache$Frame" "page" "I" (.int (p0 + ((5 : Int32) * ss))) := (F1077.keep K1095q (ninS ne709 nin0))
                      have Ex1109 : Exa Z T1095.heap nb_537 "com/example/redoubt/redoubt/storage/PageCache$Frame" := (Ex1078.keep K1095q)
                      have F1110 : Fld Z T1095.heap nb_537 "com/example/redoubt/redoubt/storage/PageCache$Frame" "page" "I" (.int (p0 + ((6 : Int32) * ss))) := (F1079.keep K1095q (ninS ne710 nin0))
                      have Ex1111 : Exa Z T1095.heap nb_577 "com/example/redoubt/redoubt/storage/PageCache$Frame" := (Ex1080.keep K1095q)
                      have F1112 : Fld Z T1095.heap nb_577 "com/example/redoubt/redoubt/storage/PageCache$Frame" "page" "I" (.int (p0 + ((7 : Int32) * ss))) := (F1081.keep K1095q (ninS ne711 nin0))
                      have Ex1113 : Exa Z T1095.heap nb_622 "com/example/redoubt/redoubt/storage/PageCache$Frame" := (Ex1082.keep K1095q)
                      have F1114 : Fld Z T1095.heap nb_622 "com/example/redoubt/redoubt/storage/PageCache$Frame" "page" "I" (.int (p0 + ((8 : Int32) * ss))) := (F1083.keep K1095q (ninS ne712 nin0))
                      have Av1115 : Arv Z T1095.heap b400 k400 (.object "com/example/redoubt/redoubt/storage/PageCache$Frame") (9 : Int32) ([(.ref nb_402), (.ref nb_412), (.ref nb_427), (.ref nb_447), (.ref nb_472), (.ref nb_502), (.ref nb_537), (.ref nb_577), (.ref nb_622)] : List Value) .null := (Av1084.keep K1095q (ninS ne713 nin0))
                      have Ex1116 : Exa Z T1095.heap nb_672 "com/example/redoubt/redoubt/storage/PageCache$Frame" := (Ex1085.keep K1095q)
                      have F1117 : Fld Z T1095.heap nb_672 "com/example/redoubt/redoubt/storage/PageCache$Frame" "page" "I" (.int p4) := (F1086.keep K1095q (ninS ne714 nin0))
                      have Ex1118 : Exa Z T1095.heap b703 "com/example/redoubt/redoubt/storage/FrameTable" := (P1060_0.keep K1095q)
                      have Xf1119 : own_Good Z T1095.heap vs2_1060 := (own_good_keep P1060_5 K1095q (fun f hf => (ninS (ne_exa hf P1060_0 (by decide)) nin0)))
                      have Av1120 : Arv Z T1095.heap a_740 k_740 (.object "com/example/redoubt/redoubt/storage/PageCache$Frame") (16 : Int32) vs2_1060 .null := (P1060_4.keep K1095q (ninS (Ne.symm ne752) nin0))
                      have K1121 : Keep h0 T1095.heap [] := K1089.trans K1095q (allS (Or.inr sz_b703) all0)
                      have pre1132 : ∀ t, Steps p.tables e below (T1095.setTop (mkF m 302 #[.val (.int p0), .val (.int p1), .val (.int p2), .val (.int p3), .val (.int p4), .val (.int ss), .val (.int kq), .val (.int jj), .val (.ref b400), .val (.ref nb_672), .val (.ref b703), .unset, .unset, .unset] [])) t → Steps p.tables e below (s₁.setTop (entryFrame m #[(.int p0), (.int p1), (.int p2), (.int p3), (.int p4)] maxLocals)) t := fun t kk => pre1093 t (by
                          show Steps p.tables e below (T1060.setTop (mkF m 289 #[.val (.int p0), .val (.int p1), .val (.int p2), .val (.int p3), .val (.int p4), .val (.int ss), .val (.int kq), .val (.int jj), .val (.ref b400), .val (.ref nb_672), .val (.ref b703), .unset, .unset, .unset] [(.int (8 : Int32)), (.int kq)])) _
                          refine XS.icmpNo X1060.here hx rfl (hb hby at_289) rfl (tlt hk8).2.2.2 ?_
                          show Steps p.tables e below (T1060.setTop (mkF m 292 #[.val (.int p0), .val (.int p1), .val (.int p2), .val (.int p3), .val (.int p4), .val (.int ss), .val (.int kq), .val (.int jj), .val (.ref b400), .val (.ref nb_672), .val (.ref b703), .unset, .unset, .unset] [])) _
                          refine XS.aload X1060.here hx rfl (hb hby at_292) rfl rfl ?_
                          show Steps p.tables e below (T1060.setTop (mkF m 294 #[.val (.int p0), .val (.int p1), .val (.int p2), .val (.int p3), .val (.int p4), .val (.int ss), .val (.int kq), .val (.int jj), .val (.ref b400), .val (.ref nb_672), .val (.ref b703), .unset, .unset, .unset] [(.ref b703)])) _
                          refine XS.aload X1060.here hx rfl (hb hby at_294) rfl rfl ?_
                          show Steps p.tables e below (T1060.setTop (mkF m 296 #[.val (.int p0), .val (.int p1), .val (.int p2), .val (.int p3), .val (.int p4), .val (.int ss), .val (.int kq), .val (.int jj), .val (.ref b400), .val (.ref nb_672), .val (.ref b703), .unset, .unset, .unset] [(.ref b400), (.ref b703)])) _
                          refine XS.bipush X1060.here hx rfl (hb hby at_296) ?_
                          show Steps p.tables e below (T1060.setTop (mkF m 298 #[.val (.int p0), .val (.int p1), .val (.int p2), .val (.int p3), .val (.int p4), .val (.int ss), .val (.int kq), .val (.int jj), .val (.ref b400), .val (.ref nb_672), .val (.ref b703), .unset, .unset, .unset] [(.int (8 : Int32)), (.ref b400), (.ref b703)])) _
                          refine X1060.aaload hx (j := (8 : Int32)) (v := (.ref nb_622)) Ar1094.1 (State.isArrayOf_alike hZ.alike Ar1094.2.1) rfl Ar1094.2.2 hin1094 hat1094 (g := (mkF m 298 #[.val (.int p0), .val (.int p1), .val (.int p2), .val (.int p3), .val (.int p4), .val (.int ss), .val (.int kq), .val (.int jj), .val (.ref b400), .val (.ref nb_672), .val (.ref b703), .unset, .unset, .unset] [(.int (8 : Int32)), (.ref b400), (.ref b703)])) rfl rfl (hb hby at_298) _ ?_
                          show Steps p.tables e below (T1060.setTop (mkF m 299 #[.val (.int p0), .val (.int p1), .val (.int p2), .val (.int p3), .val (.int p4), .val (.int ss), .val (.int kq), .val (.int jj), .val (.ref b400), .val (.ref nb_672), .val (.ref b703), .unset, .unset, .unset] [(.ref nb_622), (.ref b703)])) _
                          refine st1095.trans ?_
                          exact kk)
                      exact ⟨T1095, _, _, a2_1095, (27 : Int32), (9 : Int32), X1095, rfl, N1095, K1121, P1095_0, P1095_1, P1095_2, P1095_3, Ex1116, F1117, pre1132⟩
                    · have pre1131 : ∀ t, Steps p.tables e below (T1060.setTop (mkF m 302 #[.val (.int p0), .val (.int p1), .val (.int p2), .val (.int p3), .val (.int p4), .val (.int ss), .val (.int kq), .val (.int jj), .val (.ref b400), .val (.ref nb_672), .val (.ref b703), .unset, .unset, .unset] [])) t → Steps p.tables e below (s₁.setTop (entryFrame m #[(.int p0), (.int p1), (.int p2), (.int p3), (.int p4)] maxLocals)) t := fun t kk => pre1093 t (by
                          show Steps p.tables e below (T1060.setTop (mkF m 289 #[.val (.int p0), .val (.int p1), .val (.int p2), .val (.int p3), .val (.int p4), .val (.int ss), .val (.int kq), .val (.int jj), .val (.ref b400), .val (.ref nb_672), .val (.ref b703), .unset, .unset, .unset] [(.int (8 : Int32)), (.int kq)])) _
                          refine XS.icmpYes X1060.here hx rfl (pc0 := 289) (pc' := 302) rfl (hb hby at_289) rfl (flt hk8).2.2.2 (by decide) (by decide) ?_
                          exact kk)
                      exact ⟨T1060, _, _, a_740, (28 : Int32), (8 : Int32), X1060.more (by decide) (by decide), rfl, N1060, K1089, P1060_0, P1060_1, P1060_2, F1090, Ex1085, F1086, pre1131⟩
                  · have hb1058 : ¬ ((8 : Int32) < kq) := own_tr hk7 (by decide)
                    have pre1130 : ∀ t, Steps p.tables e below (T1024.setTop (mkF m 302 #[.val (.int p0), .val (.int p1), .val (.int p2), .val (.int p3), .val (.int p4), .val (.int ss), .val (.int kq), .val (.int jj), .val (.ref b400), .val (.ref nb_672), .val (.ref b703), .unset, .unset, .unset] [])) t → Steps p.tables e below (s₁.setTop (entryFrame m #[(.int p0), (.int p1), (.int p2), (.int p3), (.int p4)] maxLocals)) t := fun t kk => pre1057 t (by
                        show Steps p.tables e below (T1024.setTop (mkF m 272 #[.val (.int p0), .val (.int p1), .val (.int p2), .val (.int p3), .val (.int p4), .val (.int ss), .val (.int kq), .val (.int jj), .val (.ref b400), .val (.ref nb_672), .val (.ref b703), .unset, .unset, .unset] [(.int (7 : Int32)), (.int kq)])) _
                        refine XS.icmpYes X1024.here hx rfl (pc0 := 272) (pc' := 285) rfl (hb hby at_272) rfl (flt hk7).2.2.2 (by decide) (by decide) ?_
                        show Steps p.tables e below (T1024.setTop (mkF m 285 #[.val (.int p0), .val (.int p1), .val (.int p2), .val (.int p3), .val (.int p4), .val (.int ss), .val (.int kq), .val (.int jj), .val (.ref b400), .val (.ref nb_672), .val (.ref b703), .unset, .unset, .unset] [])) _
                        refine XS.iload X1024.here hx rfl (hb hby at_285) rfl ?_
                        show Steps p.tables e below (T1024.setTop (mkF m 287 #[.val (.int p0), .val (.int p1), .val (.int p2), .val (.int p3), .val (.int p4), .val (.int ss), .val (.int kq), .val (.int jj), .val (.ref b400), .val (.ref nb_672), .val (.ref b703), .unset, .unset, .unset] [(.int kq)])) _
                        refine XS.bipush X1024.here hx rfl (hb hby at_287) ?_
                        show Steps p.tables e below (T1024.setTop (mkF m 289 #[.val (.int p0), .val (.int p1), .val (.int p2), .val (.int p3), .val (.int p4), .val (.int ss), .val (.int kq), .val (.int jj), .val (.ref b400), .val (.ref nb_672), .val (.ref b703), .unset, .unset, .unset] [(.int (8 : Int32)), (.int kq)])) _
                        refine XS.icmpYes X1024.here hx rfl (pc0 := 289) (pc' := 302) rfl (hb hby at_289) rfl (flt hb1058).2.2.2 (by decide) (by decide) ?_
                        exact kk)
                    exact ⟨T1024, _, _, a_740, (28 : Int32), (7 : Int32), X1024.more (by decide) (by decide), rfl, N1024, K1053, P1024_0, P1024_1, P1024_2, F1054, Ex1049, F1050, pre1130⟩
                · have hb1021 : ¬ ((7 : Int32) < kq) := own_tr hk6 (by decide)
                  have hb1022 : ¬ ((8 : Int32) < kq) := own_tr hk6 (by decide)
                  have pre1129 : ∀ t, Steps p.tables e below (T987.setTop (mkF m 302 #[.val (.int p0), .val (.int p1), .val (.int p2), .val (.int p3), .val (.int p4), .val (.int ss), .val (.int kq), .val (.int jj), .val (.ref b400), .val (.ref nb_672), .val (.ref b703), .unset, .unset, .unset] [])) t → Steps p.tables e below (s₁.setTop (entryFrame m #[(.int p0), (.int p1), (.int p2), (.int p3), (.int p4)] maxLocals)) t := fun t kk => pre1020 t (by
                      show Steps p.tables e below (T987.setTop (mkF m 255 #[.val (.int p0), .val (.int p1), .val (.int p2), .val (.int p3), .val (.int p4), .val (.int ss), .val (.int kq), .val (.int jj), .val (.ref b400), .val (.ref nb_672), .val (.ref b703), .unset, .unset, .unset] [(.int (6 : Int32)), (.int kq)])) _
                      refine XS.icmpYes X987.here hx rfl (pc0 := 255) (pc' := 268) rfl (hb hby at_255) rfl (flt hk6).2.2.2 (by decide) (by decide) ?_
                      show Steps p.tables e below (T987.setTop (mkF m 268 #[.val (.int p0), .val (.int p1), .val (.int p2), .val (.int p3), .val (.int p4), .val (.int ss), .val (.int kq), .val (.int jj), .val (.ref b400), .val (.ref nb_672), .val (.ref b703), .unset, .unset, .unset] [])) _
                      refine XS.iload X987.here hx rfl (hb hby at_268) rfl ?_
                      show Steps p.tables e below (T987.setTop (mkF m 270 #[.val (.int p0), .val (.int p1), .val (.int p2), .val (.int p3), .val (.int p4), .val (.int ss), .val (.int kq), .val (.int jj), .val (.ref b400), .val (.ref nb_672), .val (.ref b703), .unset, .unset, .unset] [(.int kq)])) _
                      refine XS.bipush X987.here hx rfl (hb hby at_270) ?_
                      show Steps p.tables e below (T987.setTop (mkF m 272 #[.val (.int p0), .val (.int p1), .val (.int p2), .val (.int p3), .val (.int p4), .val (.int ss), .val (.int kq), .val (.int jj), .val (.ref b400), .val (.ref nb_672), .val (.ref b703), .unset, .unset, .unset] [(.int (7 : Int32)), (.int kq)])) _
                      refine XS.icmpYes X987.here hx rfl (pc0 := 272) (pc' := 285) rfl (hb hby at_272) rfl (flt hb1021).2.2.2 (by decide) (by decide) ?_
                      show Steps p.tables e below (T987.setTop (mkF m 285 #[.val (.int p0), .val (.int p1), .val (.int p2), .val (.int p3), .val (.int p4), .val (.int ss), .val (.int kq), .val (.int jj), .val (.ref b400), .val (.ref nb_672), .val (.ref b703), .unset, .unset, .unset] [])) _
                      refine XS.iload X987.here hx rfl (hb hby at_285) rfl ?_
                      show Steps p.tables e below (T987.setTop (mkF m 287 #[.val (.int p0), .val (.int p1), .val (.int p2), .val (.int p3), .val (.int p4), .val (.int ss), .val (.int kq), .val (.int jj), .val (.ref b400), .val (.ref nb_672), .val (.ref b703), .unset, .unset, .unset] [(.int kq)])) _
                      refine XS.bipush X987.here hx rfl (hb hby at_287) ?_
                      show Steps p.tables e below (T987.setTop (mkF m 289 #[.val (.int p0), .val (.int p1), .val (.int p2), .val (.int p3), .val (.int p4), .val (.int ss), .val (.int kq), .val (.int jj), .val (.ref b400), .val (.ref nb_672), .val (.ref b703), .unset, .unset, .unset] [(.int (8 : Int32)), (.int kq)])) _
                      refine XS.icmpYes X987.here hx rfl (pc0 := 289) (pc' := 302) rfl (hb hby at_289) rfl (flt hb1022).2.2.2 (by decide) (by decide) ?_
                      exact kk)
                  exact ⟨T987, _, _, a_740, (28 : Int32), (6 : Int32), X987.more (by decide) (by decide), rfl, N987, K1016, P987_0, P987_1, P987_2, F1017, Ex1012, F1013, pre1129⟩
              · have hb983 : ¬ ((6 : Int32) < kq) := own_tr hk5 (by decide)
                have hb984 : ¬ ((7 : Int32) < kq) := own_tr hk5 (by decide)
                have hb985 : ¬ ((8 : Int32) < kq) := own_tr hk5 (by decide)
                have pre1128 : ∀ t, Steps p.tables e below (T949.setTop (mkF m 302 #[.val (.int p0), .val (.int p1), .val (.int p2), .val (.int p3), .val (.int p4), .val (.int ss), .val (.int kq), .val (.int jj), .val (.ref b400), .val (.ref nb_672), .val (.ref b703), .unset, .unset, .unset] [])) t → Steps p.tables e below (s₁.setTop (entryFrame m #[(.int p0), (.int p1), (.int p2), (.int p3), (.int p4)] maxLocals)) t := fun t kk => pre982 t (by
                    show Steps p.tables e below (T949.setTop (mkF m 239 #[.val (.int p0), .val (.int p1), .val (.int p2), .val (.int p3), .val (.int p4), .val (.int ss), .val (.int kq), .val (.int jj), .val (.ref b400), .val (.ref nb_672), .val (.ref b703), .unset, .unset, .unset] [(.int (5 : Int32)), (.int kq)])) _
                    refine XS.icmpYes X949.here hx rfl (pc0 := 239) (pc' := 251) rfl (hb hby at_239) rfl (flt hk5).2.2.2 (by decide) (by decide) ?_
                    show Steps p.tables e below (T949.setTop (mkF m 251 #[.val (.int p0), .val (.int p1), .val (.int p2), .val (.int p3), .val (.int p4), .val (.int ss), .val (.int kq), .val (.int jj), .val (.ref b400), .val (.ref nb_672), .val (.ref b703), .unset, .unset, .unset] [])) _
                    refine XS.iload X949.here hx rfl (hb hby at_251) rfl ?_
                    show Steps p.tables e below (T949.setTop (mkF m 253 #[.val (.int p0), .val (.int p1), .val (.int p2), .val (.int p3), .val (.int p4), .val (.int ss), .val (.int kq), .val (.int jj), .val (.ref b400), .val (.ref nb_672), .val (.ref b703), .unset, .unset, .unset] [(.int kq)])) _
                    refine XS.bipush X949.here hx rfl (hb hby at_253) ?_
                    show Steps p.tables e below (T949.setTop (mkF m 255 #[.val (.int p0), .val (.int p1), .val (.int p2), .val (.int p3), .val (.int p4), .val (.int ss), .val (.int kq), .val (.int jj), .val (.ref b400), .val (.ref nb_672), .val (.ref b703), .unset, .unset, .unset] [(.int (6 : Int32)), (.int kq)])) _
                    refine XS.icmpYes X949.here hx rfl (pc0 := 255) (pc' := 268) rfl (hb hby at_255) rfl (flt hb983).2.2.2 (by decide) (by decide) ?_
                    show Steps p.tables e below (T949.setTop (mkF m 268 #[.val (.int p0), .val (.int p1), .val (.int p2), .val (.int p3), .val (.int p4), .val (.int ss), .val (.int kq), .val (.int jj), .val (.ref b400), .val (.ref nb_672), .val (.ref b703), .unset, .unset, .unset] [])) _
                    refine XS.iload X949.here hx rfl (hb hby at_268) rfl ?_
                    show Steps p.tables e below (T949.setTop (mkF m 270 #[.val (.int p0), .val (.int p1), .val (.int p2), .val (.int p3), .val (.int p4), .val (.int ss), .val (.int kq), .val (.int jj), .val (.ref b400), .val (.ref nb_672), .val (.ref b703), .unset, .unset, .unset] [(.int kq)])) _
                    refine XS.bipush X949.here hx rfl (hb hby at_270) ?_
                    show Steps p.tables e below (T949.setTop (mkF m 272 #[.val (.int p0), .val (.int p1), .val (.int p2), .val (.int p3), .val (.int p4), .val (.int ss), .val (.int kq), .val (.int jj), .val (.ref b400), .val (.ref nb_672), .val (.ref b703), .unset, .unset, .unset] [(.int (7 : Int32)), (.int kq)])) _
                    refine XS.icmpYes X949.here hx rfl (pc0 := 272) (pc' := 285) rfl (hb hby at_272) rfl (flt hb984).2.2.2 (by decide) (by decide) ?_
                    show Steps p.tables e below (T949.setTop (mkF m 285 #[.val (.int p0), .val (.int p1), .val (.int p2), .val (.int p3), .val (.int p4), .val (.int ss), .val (.int kq), .val (.int jj), .val (.ref b400), .val (.ref nb_672), .val (.ref b703), .unset, .unset, .unset] [])) _
                    refine XS.iload X949.here hx rfl (hb hby at_285) rfl ?_
                    show Steps p.tables e below (T949.setTop (mkF m 287 #[.val (.int p0), .val (.int p1), .val (.int p2), .val (.int p3), .val (.int p4), .val (.int ss), .val (.int kq), .val (.int jj), .val (.ref b400), .val (.ref nb_672), .val (.ref b703), .unset, .unset, .unset] [(.int kq)])) _
                    refine XS.bipush X949.here hx rfl (hb hby at_287) ?_
                    show Steps p.tables e below (T949.setTop (mkF m 289 #[.val (.int p0), .val (.int p1), .val (.int p2), .val (.int p3), .val (.int p4), .val (.int ss), .val (.int kq), .val (.int jj), .val (.ref b400), .val (.ref nb_672), .val (.ref b703), .unset, .unset, .unset] [(.int (8 : Int32)), (.int kq)])) _
                    refine XS.icmpYes X949.here hx rfl (pc0 := 289) (pc' := 302) rfl (hb hby at_289) rfl (flt hb985).2.2.2 (by decide) (by decide) ?_
                    exact kk)
                exact ⟨T949, _, _, a_740, (28 : Int32), (5 : Int32), X949.more (by decide) (by decide), rfl, N949, K978, P949_0, P949_1, P949_2, F979, Ex974, F975, pre1128⟩
            · have hb944 : ¬ ((5 : Int32) < kq) := own_tr hk4 (by decide)
              have hb945 : ¬ ((6 : Int32) < kq) := own_tr hk4 (by decide)
              have hb946 : ¬ ((7 : Int32) < kq) := own_tr hk4 (by decide)
              have hb947 : ¬ ((8 : Int32) < kq) := own_tr hk4 (by decide)
              have pre1127 : ∀ t, Steps p.tables e below (T910.setTop (mkF m 302 #[.val (.int p0), .val (.int p1), .val (.int p2), .val (.int p3), .val (.int p4), .val (.int ss), .val (.int kq), .val (.int jj), .val (.ref b400), .val (.ref nb_672), .val (.ref b703), .unset, .unset, .unset] [])) t → Steps p.tables e below (s₁.setTop (entryFrame m #[(.int p0), (.int p1), (.int p2), (.int p3), (.int p4)] maxLocals)) t := fun t kk => pre943 t (by
                  show Steps p.tables e below (T910.setTop (mkF m 224 #[.val (.int p0), .val (.int p1), .val (.int p2), .val (.int p3), .val (.int p4), .val (.int ss), .val (.int kq), .val (.int jj), .val (.ref b400), .val (.ref nb_672), .val (.ref b703), .unset, .unset, .unset] [(.int (4 : Int32)), (.int kq)])) _
                  refine XS.icmpYes X910.here hx rfl (pc0 := 224) (pc' := 236) rfl (hb hby at_224) rfl (flt hk4).2.2.2 (by decide) (by decide) ?_
                  show Steps p.tables e below (T910.setTop (mkF m 236 #[.val (.int p0), .val (.int p1), .val (.int p2), .val (.int p3), .val (.int p4), .val (.int ss), .val (.int kq), .val (.int jj), .val (.ref b400), .val (.ref nb_672), .val (.ref b703), .unset, .unset, .unset] [])) _
                  refine XS.iload X910.here hx rfl (hb hby at_236) rfl ?_
                  show Steps p.tables e below (T910.setTop (mkF m 238 #[.val (.int p0), .val (.int p1), .val (.int p2), .val (.int p3), .val (.int p4), .val (.int ss), .val (.int kq), .val (.int jj), .val (.ref b400), .val (.ref nb_672), .val (.ref b703), .unset, .unset, .unset] [(.int kq)])) _
                  refine XS.iconst X910.here hx rfl (hb hby at_238) ?_
                  show Steps p.tables e below (T910.setTop (mkF m 239 #[.val (.int p0), .val (.int p1), .val (.int p2), .val (.int p3), .val (.int p4), .val (.int ss), .val (.int kq), .val (.int jj), .val (.ref b400), .val (.ref nb_672), .val (.ref b703), .unset, .unset, .unset] [(.int (5 : Int32)), (.int kq)])) _
                  refine XS.icmpYes X910.here hx rfl (pc0 := 239) (pc' := 251) rfl (hb hby at_239) rfl (flt hb944).2.2.2 (by decide) (by decide) ?_
                  show Steps p.tables e below (T910.setTop (mkF m 251 #[.val (.int p0), .val (.int p1), .val (.int p2), .val (.int p3), .val (.int p4), .val (.int ss), .val (.int kq), .val (.int jj), .val (.ref b400), .val (.ref nb_672), .val (.ref b703), .unset, .unset, .unset] [])) _
                  refine XS.iload X910.here hx rfl (hb hby at_251) rfl ?_
                  show Steps p.tables e below (T910.setTop (mkF m 253 #[.val (.int p0), .val (.int p1), .val (.int p2), .val (.int p3), .val (.int p4), .val (.int ss), .val (.int kq), .val (.int jj), .val (.ref b400), .val (.ref nb_672), .val (.ref b703), .unset, .unset, .unset] [(.int kq)])) _
                  refine XS.bipush X910.here hx rfl (hb hby at_253) ?_
                  show Steps p.tables e below (T910.setTop (mkF m 255 #[.val (.int p0), .val (.int p1), .val (.int p2), .val (.int p3), .val (.int p4), .val (.int ss), .val (.int kq), .val (.int jj), .val (.ref b400), .val (.ref nb_672), .val (.ref b703), .unset, .unset, .unset] [(.int (6 : Int32)), (.int kq)])) _
                  refine XS.icmpYes X910.here hx rfl (pc0 := 255) (pc' := 268) rfl (hb hby at_255) rfl (flt hb945).2.2.2 (by decide) (by decide) ?_
                  show Steps p.tables e below (T910.setTop (mkF m 268 #[.val (.int p0), .val (.int p1), .val (.int p2), .val (.int p3), .val (.int p4), .val (.int ss), .val (.int kq), .val (.int jj), .val (.ref b400), .val (.ref nb_672), .val (.ref b703), .unset, .unset, .unset] [])) _
                  refine XS.iload X910.here hx rfl (hb hby at_268) rfl ?_
                  show Steps p.tables e below (T910.setTop (mkF m 270 #[.val (.int p0), .val (.int p1), .val (.int p2), .val (.int p3), .val (.int p4), .val (.int ss), .val (.int kq), .val (.int jj), .val (.ref b400), .val (.ref nb_672), .val (.ref b703), .unset, .unset, .unset] [(.int kq)])) _
                  refine XS.bipush X910.here hx rfl (hb hby at_270) ?_
                  show Steps p.tables e below (T910.setTop (mkF m 272 #[.val (.int p0), .val (.int p1), .val (.int p2), .val (.int p3), .val (.int p4), .val (.int ss), .val (.int kq), .val (.int jj), .val (.ref b400), .val (.ref nb_672), .val (.ref b703), .unset, .unset, .unset] [(.int (7 : Int32)), (.int kq)])) _
                  refine XS.icmpYes X910.here hx rfl (pc0 := 272) (pc' := 285) rfl (hb hby at_272) rfl (flt hb946).2.2.2 (by decide) (by decide) ?_
                  show Steps p.tables e below (T910.setTop (mkF m 285 #[.val (.int p0), .val (.int p1), .val (.int p2), .val (.int p3), .val (.int p4), .val (.int ss), .val (.int kq), .val (.int jj), .val (.ref b400), .val (.ref nb_672), .val (.ref b703), .unset, .unset, .unset] [])) _
                  refine XS.iload X910.here hx rfl (hb hby at_285) rfl ?_
                  show Steps p.tables e below (T910.setTop (mkF m 287 #[.val (.int p0), .val (.int p1), .val (.int p2), .val (.int p3), .val (.int p4), .val (.int ss), .val (.int kq), .val (.int jj), .val (.ref b400), .val (.ref nb_672), .val (.ref b703), .unset, .unset, .unset] [(.int kq)])) _
                  refine XS.bipush X910.here hx rfl (hb hby at_287) ?_
                  show Steps p.tables e below (T910.setTop (mkF m 289 #[.val (.int p0), .val (.int p1), .val (.int p2), .val (.int p3), .val (.int p4), .val (.int ss), .val (.int kq), .val (.int jj), .val (.ref b400), .val (.ref nb_672), .val (.ref b703), .unset, .unset, .unset] [(.int (8 : Int32)), (.int kq)])) _
                  refine XS.icmpYes X910.here hx rfl (pc0 := 289) (pc' := 302) rfl (hb hby at_289) rfl (flt hb947).2.2.2 (by decide) (by decide) ?_
                  exact kk)
              exact ⟨T910, _, _, a_740, (28 : Int32), (4 : Int32), X910.more (by decide) (by decide), rfl, N910, K939, P910_0, P910_1, P910_2, F940, Ex935, F936, pre1127⟩
          · have hb904 : ¬ ((4 : Int32) < kq) := own_tr hk3 (by decide)
            have hb905 : ¬ ((5 : Int32) < kq) := own_tr hk3 (by decide)
            have hb906 : ¬ ((6 : Int32) < kq) := own_tr hk3 (by decide)
            have hb907 : ¬ ((7 : Int32) < kq) := own_tr hk3 (by decide)
            have hb908 : ¬ ((8 : Int32) < kq) := own_tr hk3 (by decide)
            have pre1126 : ∀ t, Steps p.tables e below (T870.setTop (mkF m 302 #[.val (.int p0), .val (.int p1), .val (.int p2), .val (.int p3), .val (.int p4), .val (.int ss), .val (.int kq), .val (.int jj), .val (.ref b400), .val (.ref nb_672), .val (.ref b703), .unset, .unset, .unset] [])) t → Steps p.tables e below (s₁.setTop (entryFrame m #[(.int p0), (.int p1), (.int p2), (.int p3), (.int p4)] maxLocals)) t := fun t kk => pre903 t (by
                show Steps p.tables e below (T870.setTop (mkF m 209 #[.val (.int p0), .val (.int p1), .val (.int p2), .val (.int p3), .val (.int p4), .val (.int ss), .val (.int kq), .val (.int jj), .val (.ref b400), .val (.ref nb_672), .val (.ref b703), .unset, .unset, .unset] [(.int (3 : Int32)), (.int kq)])) _
                refine XS.icmpYes X870.here hx rfl (pc0 := 209) (pc' := 221) rfl (hb hby at_209) rfl (flt hk3).2.2.2 (by decide) (by decide) ?_
                show Steps p.tables e below (T870.setTop (mkF m 221 #[.val (.int p0), .val (.int p1), .val (.int p2), .val (.int p3), .val (.int p4), .val (.int ss), .val (.int kq), .val (.int jj), .val (.ref b400), .val (.ref nb_672), .val (.ref b703), .unset, .unset, .unset] [])) _
                refine XS.iload X870.here hx rfl (hb hby at_221) rfl ?_
                show Steps p.tables e below (T870.setTop (mkF m 223 #[.val (.int p0), .val (.int p1), .val (.int p2), .val (.int p3), .val (.int p4), .val (.int ss), .val (.int kq), .val (.int jj), .val (.ref b400), .val (.ref nb_672), .val (.ref b703), .unset, .unset, .unset] [(.int kq)])) _
                refine XS.iconst X870.here hx rfl (hb hby at_223) ?_
                show Steps p.tables e below (T870.setTop (mkF m 224 #[.val (.int p0), .val (.int p1), .val (.int p2), .val (.int p3), .val (.int p4), .val (.int ss), .val (.int kq), .val (.int jj), .val (.ref b400), .val (.ref nb_672), .val (.ref b703), .unset, .unset, .unset] [(.int (4 : Int32)), (.int kq)])) _
                refine XS.icmpYes X870.here hx rfl (pc0 := 224) (pc' := 236) rfl (hb hby at_224) rfl (flt hb904).2.2.2 (by decide) (by decide) ?_
                show Steps p.tables e below (T870.setTop (mkF m 236 #[.val (.int p0), .val (.int p1), .val (.int p2), .val (.int p3), .val (.int p4), .val (.int ss), .val (.int kq), .val (.int jj), .val (.ref b400), .val (.ref nb_672), .val (.ref b703), .unset, .unset, .unset] [])) _
                refine XS.iload X870.here hx rfl (hb hby at_236) rfl ?_
                show Steps p.tables e below (T870.setTop (mkF m 238 #[.val (.int p0), .val (.int p1), .val (.int p2), .val (.int p3), .val (.int p4), .val (.int ss), .val (.int kq), .val (.int jj), .val (.ref b400), .val (.ref nb_672), .val (.ref b703), .unset, .unset, .unset] [(.int kq)])) _
                refine XS.iconst X870.here hx rfl (hb hby at_238) ?_
                show Steps p.tables e below (T870.setTop (mkF m 239 #[.val (.int p0), .val (.int p1), .val (.int p2), .val (.int p3), .val (.int p4), .val (.int ss), .val (.int kq), .val (.int jj), .val (.ref b400), .val (.ref nb_672), .val (.ref b703), .unset, .unset, .unset] [(.int (5 : Int32)), (.int kq)])) _
                refine XS.icmpYes X870.here hx rfl (pc0 := 239) (pc' := 251) rfl (hb hby at_239) rfl (flt hb905).2.2.2 (by decide) (by decide) ?_
                show Steps p.tables e below (T870.setTop (mkF m 251 #[.val (.int p0), .val (.int p1), .val (.int p2), .val (.int p3), .val (.int p4), .val (.int ss), .val (.int kq), .val (.int jj), .val (.ref b400), .val (.ref nb_672), .val (.ref b703), .unset, .unset, .unset] [])) _
                refine XS.iload X870.here hx rfl (hb hby at_251) rfl ?_
                show Steps p.tables e below (T870.setTop (mkF m 253 #[.val (.int p0), .val (.int p1), .val (.int p2), .val (.int p3), .val (.int p4), .val (.int ss), .val (.int kq), .val (.int jj), .val (.ref b400), .val (.ref nb_672), .val (.ref b703), .unset, .unset, .unset] [(.int kq)])) _
                refine XS.bipush X870.here hx rfl (hb hby at_253) ?_
                show Steps p.tables e below (T870.setTop (mkF m 255 #[.val (.int p0), .val (.int p1), .val (.int p2), .val (.int p3), .val (.int p4), .val (.int ss), .val (.int kq), .val (.int jj), .val (.ref b400), .val (.ref nb_672), .val (.ref b703), .unset, .unset, .unset] [(.int (6 : Int32)), (.int kq)])) _
                refine XS.icmpYes X870.here hx rfl (pc0 := 255) (pc' := 268) rfl (hb hby at_255) rfl (flt hb906).2.2.2 (by decide) (by decide) ?_
                show Steps p.tables e below (T870.setTop (mkF m 268 #[.val (.int p0), .val (.int p1), .val (.int p2), .val (.int p3), .val (.int p4), .val (.int ss), .val (.int kq), .val (.int jj), .val (.ref b400), .val (.ref nb_672), .val (.ref b703), .unset, .unset, .unset] [])) _
                refine XS.iload X870.here hx rfl (hb hby at_268) rfl ?_
                show Steps p.tables e below (T870.setTop (mkF m 270 #[.val (.int p0), .val (.int p1), .val (.int p2), .val (.int p3), .val (.int p4), .val (.int ss), .val (.int kq), .val (.int jj), .val (.ref b400), .val (.ref nb_672), .val (.ref b703), .unset, .unset, .unset] [(.int kq)])) _
                refine XS.bipush X870.here hx rfl (hb hby at_270) ?_
                show Steps p.tables e below (T870.setTop (mkF m 272 #[.val (.int p0), .val (.int p1), .val (.int p2), .val (.int p3), .val (.int p4), .val (.int ss), .val (.int kq), .val (.int jj), .val (.ref b400), .val (.ref nb_672), .val (.ref b703), .unset, .unset, .unset] [(.int (7 : Int32)), (.int kq)])) _
                refine XS.icmpYes X870.here hx rfl (pc0 := 272) (pc' := 285) rfl (hb hby at_272) rfl (flt hb907).2.2.2 (by decide) (by decide) ?_
                show Steps p.tables e below (T870.setTop (mkF m 285 #[.val (.int p0), .val (.int p1), .val (.int p2), .val (.int p3), .val (.int p4), .val (.int ss), .val (.int kq), .val (.int jj), .val (.ref b400), .val (.ref nb_672), .val (.ref b703), .unset, .unset, .unset] [])) _
                refine XS.iload X870.here hx rfl (hb hby at_285) rfl ?_
                show Steps p.tables e below (T870.setTop (mkF m 287 #[.val (.int p0), .val (.int p1), .val (.int p2), .val (.int p3), .val (.int p4), .val (.int ss), .val (.int kq), .val (.int jj), .val (.ref b400), .val (.ref nb_672), .val (.ref b703), .unset, .unset, .unset] [(.int kq)])) _
                refine XS.bipush X870.here hx rfl (hb hby at_287) ?_
                show Steps p.tables e below (T870.setTop (mkF m 289 #[.val (.int p0), .val (.int p1), .val (.int p2), .val (.int p3), .val (.int p4), .val (.int ss), .val (.int kq), .val (.int jj), .val (.ref b400), .val (.ref nb_672), .val (.ref b703), .unset, .unset, .unset] [(.int (8 : Int32)), (.int kq)])) _
                refine XS.icmpYes X870.here hx rfl (pc0 := 289) (pc' := 302) rfl (hb hby at_289) rfl (flt hb908).2.2.2 (by decide) (by decide) ?_
                exact kk)
            exact ⟨T870, _, _, a_740, (28 : Int32), (3 : Int32), X870.more (by decide) (by decide), rfl, N870, K899, P870_0, P870_1, P870_2, F900, Ex895, F896, pre1126⟩
        · have hb863 : ¬ ((3 : Int32) < kq) := own_tr hk2 (by decide)
          have hb864 : ¬ ((4 : Int32) < kq) := own_tr hk2 (by decide)
          have hb865 : ¬ ((5 : Int32) < kq) := own_tr hk2 (by decide)
          have hb866 : ¬ ((6 : Int32) < kq) := own_tr hk2 (by decide)
          have hb867 : ¬ ((7 : Int32) < kq) := own_tr hk2 (by decide)
          have hb868 : ¬ ((8 : Int32) < kq) := own_tr hk2 (by decide)
          have pre1125 : ∀ t, Steps p.tables e below (T829.setTop (mkF m 302 #[.val (.int p0), .val (.int p1), .val (.int p2), .val (.int p3), .val (.int p4), .val (.int ss), .val (.int kq), .val (.int jj), .val (.ref b400), .val (.ref nb_672), .val (.ref b703), .unset, .unset, .unset] [])) t → Steps p.tables e below (s₁.setTop (entryFrame m #[(.int p0), (.int p1), (.int p2), (.int p3), (.int p4)] maxLocals)) t := fun t kk => pre862 t (by
              show Steps p.tables e below (T829.setTop (mkF m 194 #[.val (.int p0), .val (.int p1), .val (.int p2), .val (.int p3), .val (.int p4), .val (.int ss), .val (.int kq), .val (.int jj), .val (.ref b400), .val (.ref nb_672), .val (.ref b703), .unset, .unset, .unset] [(.int (2 : Int32)), (.int kq)])) _
              refine XS.icmpYes X829.here hx rfl (pc0 := 194) (pc' := 206) rfl (hb hby at_194) rfl (flt hk2).2.2.2 (by decide) (by decide) ?_
              show Steps p.tables e below (T829.setTop (mkF m 206 #[.val (.int p0), .val (.int p1), .val (.int p2), .val (.int p3), .val (.int p4), .val (.int ss), .val (.int kq), .val (.int jj), .val (.ref b400), .val (.ref nb_672), .val (.ref b703), .unset, .unset, .unset] [])) _
              refine XS.iload X829.here hx rfl (hb hby at_206) rfl ?_
              show Steps p.tables e below (T829.setTop (mkF m 208 #[.val (.int p0), .val (.int p1), .val (.int p2), .val (.int p3), .val (.int p4), .val (.int ss), .val (.int kq), .val (.int jj), .val (.ref b400), .val (.ref nb_672), .val (.ref b703), .unset, .unset, .unset] [(.int kq)])) _
              refine XS.iconst X829.here hx rfl (hb hby at_208) ?_
              show Steps p.tables e below (T829.setTop (mkF m 209 #[.val (.int p0), .val (.int p1), .val (.int p2), .val (.int p3), .val (.int p4), .val (.int ss), .val (.int kq), .val (.int jj), .val (.ref b400), .val (.ref nb_672), .val (.ref b703), .unset, .unset, .unset] [(.int (3 : Int32)), (.int kq)])) _
              refine XS.icmpYes X829.here hx rfl (pc0 := 209) (pc' := 221) rfl (hb hby at_209) rfl (flt hb863).2.2.2 (by decide) (by decide) ?_
              show Steps p.tables e below (T829.setTop (mkF m 221 #[.val (.int p0), .val (.int p1), .val (.int p2), .val (.int p3), .val (.int p4), .val (.int ss), .val (.int kq), .val (.int jj), .val (.ref b400), .val (.ref nb_672), .val (.ref b703), .unset, .unset, .unset] [])) _
              refine XS.iload X829.here hx rfl (hb hby at_221) rfl ?_
              show Steps p.tables e below (T829.setTop (mkF m 223 #[.val (.int p0), .val (.int p1), .val (.int p2), .val (.int p3), .val (.int p4), .val (.int ss), .val (.int kq), .val (.int jj), .val (.ref b400), .val (.ref nb_672), .val (.ref b703), .unset, .unset, .unset] [(.int kq)])) _
              refine XS.iconst X829.here hx rfl (hb hby at_223) ?_
              show Steps p.tables e below (T829.setTop (mkF m 224 #[.val (.int p0), .val (.int p1), .val (.int p2), .val (.int p3), .val (.int p4), .val (.int ss), .val (.int kq), .val (.int jj), .val (.ref b400), .val (.ref nb_672), .val (.ref b703), .unset, .unset, .unset] [(.int (4 : Int32)), (.int kq)])) _
              refine XS.icmpYes X829.here hx rfl (pc0 := 224) (pc' := 236) rfl (hb hby at_224) rfl (flt hb864).2.2.2 (by decide) (by decide) ?_
              show Steps p.tables e below (T829.setTop (mkF m 236 #[.val (.int p0), .val (.int p1), .val (.int p2), .val (.int p3), .val (.int p4), .val (.int ss), .val (.int kq), .val (.int jj), .val (.ref b400), .val (.ref nb_672), .val (.ref b703), .unset, .unset, .unset] [])) _
              refine XS.iload X829.here hx rfl (hb hby at_236) rfl ?_
              show Steps p.tables e below (T829.setTop (mkF m 238 #[.val (.int p0), .val (.int p1), .val (.int p2), .val (.int p3), .val (.int p4), .val (.int ss), .val (.int kq), .val (.int jj), .val (.ref b400), .val (.ref nb_672), .val (.ref b703), .unset, .unset, .unset] [(.int kq)])) _
              refine XS.iconst X829.here hx rfl (hb hby at_238) ?_
              show Steps p.tables e below (T829.setTop (mkF m 239 #[.val (.int p0), .val (.int p1), .val (.int p2), .val (.int p3), .val (.int p4), .val (.int ss), .val (.int kq), .val (.int jj), .val (.ref b400), .val (.ref nb_672), .val (.ref b703), .unset, .unset, .unset] [(.int (5 : Int32)), (.int kq)])) _
              refine XS.icmpYes X829.here hx rfl (pc0 := 239) (pc' := 251) rfl (hb hby at_239) rfl (flt hb865).2.2.2 (by decide) (by decide) ?_
              show Steps p.tables e below (T829.setTop (mkF m 251 #[.val (.int p0), .val (.int p1), .val (.int p2), .val (.int p3), .val (.int p4), .val (.int ss), .val (.int kq), .val (.int jj), .val (.ref b400), .val (.ref nb_672), .val (.ref b703), .unset, .unset, .unset] [])) _
              refine XS.iload X829.here hx rfl (hb hby at_251) rfl ?_
              show Steps p.tables e below (T829.setTop (mkF m 253 #[.val (.int p0), .val (.int p1), .val (.int p2), .val (.int p3), .val (.int p4), .val (.int ss), .val (.int kq), .val (.int jj), .val (.ref b400), .val (.ref nb_672), .val (.ref b703), .unset, .unset, .unset] [(.int kq)])) _
              refine XS.bipush X829.here hx rfl (hb hby at_253) ?_
              show Steps p.tables e below (T829.setTop (mkF m 255 #[.val (.int p0), .val (.int p1), .val (.int p2), .val (.int p3), .val (.int p4), .val (.int ss), .val (.int kq), .val (.int jj), .val (.ref b400), .val (.ref nb_672), .val (.ref b703), .unset, .unset, .unset] [(.int (6 : Int32)), (.int kq)])) _
              refine XS.icmpYes X829.here hx rfl (pc0 := 255) (pc' := 268) rfl (hb hby at_255) rfl (flt hb866).2.2.2 (by decide) (by decide) ?_
              show Steps p.tables e below (T829.setTop (mkF m 268 #[.val (.int p0), .val (.int p1), .val (.int p2), .val (.int p3), .val (.int p4), .val (.int ss), .val (.int kq), .val (.int jj), .val (.ref b400), .val (.ref nb_672), .val (.ref b703), .unset, .unset, .unset] [])) _
              refine XS.iload X829.here hx rfl (hb hby at_268) rfl ?_
              show Steps p.tables e below (T829.setTop (mkF m 270 #[.val (.int p0), .val (.int p1), .val (.int p2), .val (.int p3), .val (.int p4), .val (.int ss), .val (.int kq), .val (.int jj), .val (.ref b400), .val (.ref nb_672), .val (.ref b703), .unset, .unset, .unset] [(.int kq)])) _
              refine XS.bipush X829.here hx rfl (hb hby at_270) ?_
              show Steps p.tables e below (T829.setTop (mkF m 272 #[.val (.int p0), .val (.int p1), .val (.int p2), .val (.int p3), .val (.int p4), .val (.int ss), .val (.int kq), .val (.int jj), .val (.ref b400), .val (.ref nb_672), .val (.ref b703), .unset, .unset, .unset] [(.int (7 : Int32)), (.int kq)])) _
              refine XS.icmpYes X829.here hx rfl (pc0 := 272) (pc' := 285) rfl (hb hby at_272) rfl (flt hb867).2.2.2 (by decide) (by decide) ?_
              show Steps p.tables e below (T829.setTop (mkF m 285 #[.val (.int p0), .val (.int p1), .val (.int p2), .val (.int p3), .val (.int p4), .val (.int ss), .val (.int kq), .val (.int jj), .val (.ref b400), .val (.ref nb_672), .val (.ref b703), .unset, .unset, .unset] [])) _
              refine XS.iload X829.here hx rfl (hb hby at_285) rfl ?_
              show Steps p.tables e below (T829.setTop (mkF m 287 #[.val (.int p0), .val (.int p1), .val (.int p2), .val (.int p3), .val (.int p4), .val (.int ss), .val (.int kq), .val (.int jj), .val (.ref b400), .val (.ref nb_672), .val (.ref b703), .unset, .unset, .unset] [(.int kq)])) _
              refine XS.bipush X829.here hx rfl (hb hby at_287) ?_
              show Steps p.tables e below (T829.setTop (mkF m 289 #[.val (.int p0), .val (.int p1), .val (.int p2), .val (.int p3), .val (.int p4), .val (.int ss), .val (.int kq), .val (.int jj), .val (.ref b400), .val (.ref nb_672), .val (.ref b703), .unset, .unset, .unset] [(.int (8 : Int32)), (.int kq)])) _
              refine XS.icmpYes X829.here hx rfl (pc0 := 289) (pc' := 302) rfl (hb hby at_289) rfl (flt hb868).2.2.2 (by decide) (by decide) ?_
              exact kk)
          exact ⟨T829, _, _, a_740, (28 : Int32), (2 : Int32), X829.more (by decide) (by decide), rfl, N829, K858, P829_0, P829_1, P829_2, F859, Ex854, F855, pre1125⟩
      · have hb821 : ¬ ((2 : Int32) < kq) := own_tr hk1 (by decide)
        have hb822 : ¬ ((3 : Int32) < kq) := own_tr hk1 (by decide)
        have hb823 : ¬ ((4 : Int32) < kq) := own_tr hk1 (by decide)
        have hb824 : ¬ ((5 : Int32) < kq) := own_tr hk1 (by decide)
        have hb825 : ¬ ((6 : Int32) < kq) := own_tr hk1 (by decide)
        have hb826 : ¬ ((7 : Int32) < kq) := own_tr hk1 (by decide)
        have hb827 : ¬ ((8 : Int32) < kq) := own_tr hk1 (by decide)
        have pre1124 : ∀ t, Steps p.tables e below (T787.setTop (mkF m 302 #[.val (.int p0), .val (.int p1), .val (.int p2), .val (.int p3), .val (.int p4), .val (.int ss), .val (.int kq), .val (.int jj), .val (.ref b400), .val (.ref nb_672), .val (.ref b703), .unset, .unset, .unset] [])) t → Steps p.tables e below (s₁.setTop (entryFrame m #[(.int p0), (.int p1), (.int p2), (.int p3), (.int p4)] maxLocals)) t := fun t kk => pre820 t (by
            show Steps p.tables e below (T787.setTop (mkF m 179 #[.val (.int p0), .val (.int p1), .val (.int p2), .val (.int p3), .val (.int p4), .val (.int ss), .val (.int kq), .val (.int jj), .val (.ref b400), .val (.ref nb_672), .val (.ref b703), .unset, .unset, .unset] [(.int (1 : Int32)), (.int kq)])) _
            refine XS.icmpYes X787.here hx rfl (pc0 := 179) (pc' := 191) rfl (hb hby at_179) rfl (flt hk1).2.2.2 (by decide) (by decide) ?_
            show Steps p.tables e below (T787.setTop (mkF m 191 #[.val (.int p0), .val (.int p1), .val (.int p2), .val (.int p3), .val (.int p4), .val (.int ss), .val (.int kq), .val (.int jj), .val (.ref b400), .val (.ref nb_672), .val (.ref b703), .unset, .unset, .unset] [])) _
            refine XS.iload X787.here hx rfl (hb hby at_191) rfl ?_
            show Steps p.tables e below (T787.setTop (mkF m 193 #[.val (.int p0), .val (.int p1), .val (.int p2), .val (.int p3), .val (.int p4), .val (.int ss), .val (.int kq), .val (.int jj), .val (.ref b400), .val (.ref nb_672), .val (.ref b703), .unset, .unset, .unset] [(.int kq)])) _
            refine XS.iconst X787.here hx rfl (hb hby at_193) ?_
            show Steps p.tables e below (T787.setTop (mkF m 194 #[.val (.int p0), .val (.int p1), .val (.int p2), .val (.int p3), .val (.int p4), .val (.int ss), .val (.int kq), .val (.int jj), .val (.ref b400), .val (.ref nb_672), .val (.ref b703), .unset, .unset, .unset] [(.int (2 : Int32)), (.int kq)])) _
            refine XS.icmpYes X787.here hx rfl (pc0 := 194) (pc' := 206) rfl (hb hby at_194) rfl (flt hb821).2.2.2 (by decide) (by decide) ?_
            show Steps p.tables e below (T787.setTop (mkF m 206 #[.val (.int p0), .val (.int p1), .val (.int p2), .val (.int p3), .val (.int p4), .val (.int ss), .val (.int kq), .val (.int jj), .val (.ref b400), .val (.ref nb_672), .val (.ref b703), .unset, .unset, .unset] [])) _
            refine XS.iload X787.here hx rfl (hb hby at_206) rfl ?_
            show Steps p.tables e below (T787.setTop (mkF m 208 #[.val (.int p0), .val (.int p1), .val (.int p2), .val (.int p3), .val (.int p4), .val (.int ss), .val (.int kq), .val (.int jj), .val (.ref b400), .val (.ref nb_672), .val (.ref b703), .unset, .unset, .unset] [(.int kq)])) _
            refine XS.iconst X787.here hx rfl (hb hby at_208) ?_
            show Steps p.tables e below (T787.setTop (mkF m 209 #[.val (.int p0), .val (.int p1), .val (.int p2), .val (.int p3), .val (.int p4), .val (.int ss), .val (.int kq), .val (.int jj), .val (.ref b400), .val (.ref nb_672), .val (.ref b703), .unset, .unset, .unset] [(.int (3 : Int32)), (.int kq)])) _
            refine XS.icmpYes X787.here hx rfl (pc0 := 209) (pc' := 221) rfl (hb hby at_209) rfl (flt hb822).2.2.2 (by decide) (by decide) ?_
            show Steps p.tables e below (T787.setTop (mkF m 221 #[.val (.int p0), .val (.int p1), .val (.int p2), .val (.int p3), .val (.int p4), .val (.int ss), .val (.int kq), .val (.int jj), .val (.ref b400), .val (.ref nb_672), .val (.ref b703), .unset, .unset, .unset] [])) _
            refine XS.iload X787.here hx rfl (hb hby at_221) rfl ?_
            show Steps p.tables e below (T787.setTop (mkF m 223 #[.val (.int p0), .val (.int p1), .val (.int p2), .val (.int p3), .val (.int p4), .val (.int ss), .val (.int kq), .val (.int jj), .val (.ref b400), .val (.ref nb_672), .val (.ref b703), .unset, .unset, .unset] [(.int kq)])) _
            refine XS.iconst X787.here hx rfl (hb hby at_223) ?_
            show Steps p.tables e below (T787.setTop (mkF m 224 #[.val (.int p0), .val (.int p1), .val (.int p2), .val (.int p3), .val (.int p4), .val (.int ss), .val (.int kq), .val (.int jj), .val (.ref b400), .val (.ref nb_672), .val (.ref b703), .unset, .unset, .unset] [(.int (4 : Int32)), (.int kq)])) _
            refine XS.icmpYes X787.here hx rfl (pc0 := 224) (pc' := 236) rfl (hb hby at_224) rfl (flt hb823).2.2.2 (by decide) (by decide) ?_
            show Steps p.tables e below (T787.setTop (mkF m 236 #[.val (.int p0), .val (.int p1), .val (.int p2), .val (.int p3), .val (.int p4), .val (.int ss), .val (.int kq), .val (.int jj), .val (.ref b400), .val (.ref nb_672), .val (.ref b703), .unset, .unset, .unset] [])) _
            refine XS.iload X787.here hx rfl (hb hby at_236) rfl ?_
            show Steps p.tables e below (T787.setTop (mkF m 238 #[.val (.int p0), .val (.int p1), .val (.int p2), .val (.int p3), .val (.int p4), .val (.int ss), .val (.int kq), .val (.int jj), .val (.ref b400), .val (.ref nb_672), .val (.ref b703), .unset, .unset, .unset] [(.int kq)])) _
            refine XS.iconst X787.here hx rfl (hb hby at_238) ?_
            show Steps p.tables e below (T787.setTop (mkF m 239 #[.val (.int p0), .val (.int p1), .val (.int p2), .val (.int p3), .val (.int p4), .val (.int ss), .val (.int kq), .val (.int jj), .val (.ref b400), .val (.ref nb_672), .val (.ref b703), .unset, .unset, .unset] [(.int (5 : Int32)), (.int kq)])) _
            refine XS.icmpYes X787.here hx rfl (pc0 := 239) (pc' := 251) rfl (hb hby at_239) rfl (flt hb824).2.2.2 (by decide) (by decide) ?_
            show Steps p.tables e below (T787.setTop (mkF m 251 #[.val (.int p0), .val (.int p1), .val (.int p2), .val (.int p3), .val (.int p4), .val (.int ss), .val (.int kq), .val (.int jj), .val (.ref b400), .val (.ref nb_672), .val (.ref b703), .unset, .unset, .unset] [])) _
            refine XS.iload X787.here hx rfl (hb hby at_251) rfl ?_
            show Steps p.tables e below (T787.setTop (mkF m 253 #[.val (.int p0), .val (.int p1), .val (.int p2), .val (.int p3), .val (.int p4), .val (.int ss), .val (.int kq), .val (.int jj), .val (.ref b400), .val (.ref nb_672), .val (.ref b703), .unset, .unset, .unset] [(.int kq)])) _
            refine XS.bipush X787.here hx rfl (hb hby at_253) ?_
            show Steps p.tables e below (T787.setTop (mkF m 255 #[.val (.int p0), .val (.int p1), .val (.int p2), .val (.int p3), .val (.int p4), .val (.int ss), .val (.int kq), .val (.int jj), .val (.ref b400), .val (.ref nb_672), .val (.ref b703), .unset, .unset, .unset] [(.int (6 : Int32)), (.int kq)])) _
            refine XS.icmpYes X787.here hx rfl (pc0 := 255) (pc' := 268) rfl (hb hby at_255) rfl (flt hb825).2.2.2 (by decide) (by decide) ?_
            show Steps p.tables e below (T787.setTop (mkF m 268 #[.val (.int p0), .val (.int p1), .val (.int p2), .val (.int p3), .val (.int p4), .val (.int ss), .val (.int kq), .val (.int jj), .val (.ref b400), .val (.ref nb_672), .val (.ref b703), .unset, .unset, .unset] [])) _
            refine XS.iload X787.here hx rfl (hb hby at_268) rfl ?_
            show Steps p.tables e below (T787.setTop (mkF m 270 #[.val (.int p0), .val (.int p1), .val (.int p2), .val (.int p3), .val (.int p4), .val (.int ss), .val (.int kq), .val (.int jj), .val (.ref b400), .val (.ref nb_672), .val (.ref b703), .unset, .unset, .unset] [(.int kq)])) _
            refine XS.bipush X787.here hx rfl (hb hby at_270) ?_
            show Steps p.tables e below (T787.setTop (mkF m 272 #[.val (.int p0), .val (.int p1), .val (.int p2), .val (.int p3), .val (.int p4), .val (.int ss), .val (.int kq), .val (.int jj), .val (.ref b400), .val (.ref nb_672), .val (.ref b703), .unset, .unset, .unset] [(.int (7 : Int32)), (.int kq)])) _
            refine XS.icmpYes X787.here hx rfl (pc0 := 272) (pc' := 285) rfl (hb hby at_272) rfl (flt hb826).2.2.2 (by decide) (by decide) ?_
            show Steps p.tables e below (T787.setTop (mkF m 285 #[.val (.int p0), .val (.int p1), .val (.int p2), .val (.int p3), .val (.int p4), .val (.int ss), .val (.int kq), .val (.int jj), .val (.ref b400), .val (.ref nb_672), .val (.ref b703), .unset, .unset, .unset] [])) _
            refine XS.iload X787.here hx rfl (hb hby at_285) rfl ?_
            show Steps p.tables e below (T787.setTop (mkF m 287 #[.val (.int p0), .val (.int p1), .val (.int p2), .val (.int p3), .val (.int p4), .val (.int ss), .val (.int kq), .val (.int jj), .val (.ref b400), .val (.ref nb_672), .val (.ref b703), .unset, .unset, .unset] [(.int kq)])) _
            refine XS.bipush X787.here hx rfl (hb hby at_287) ?_
            show Steps p.tables e below (T787.setTop (mkF m 289 #[.val (.int p0), .val (.int p1), .val (.int p2), .val (.int p3), .val (.int p4), .val (.int ss), .val (.int kq), .val (.int jj), .val (.ref b400), .val (.ref nb_672), .val (.ref b703), .unset, .unset, .unset] [(.int (8 : Int32)), (.int kq)])) _
            refine XS.icmpYes X787.here hx rfl (pc0 := 289) (pc' := 302) rfl (hb hby at_289) rfl (flt hb827).2.2.2 (by decide) (by decide) ?_
            exact kk)
        exact ⟨T787, _, _, a_740, (28 : Int32), (1 : Int32), X787.more (by decide) (by decide), rfl, N787, K816, P787_0, P787_1, P787_2, F817, Ex812, F813, pre1124⟩
    · have hb778 : ¬ ((1 : Int32) < kq) := own_tr hk0 (by decide)
      have hb779 : ¬ ((2 : Int32) < kq) := own_tr hk0 (by decide)
      have hb780 : ¬ ((3 : Int32) < kq) := own_tr hk0 (by decide)
      have hb781 : ¬ ((4 : Int32) < kq) := own_tr hk0 (by decide)
      have hb782 : ¬ ((5 : Int32) < kq) := own_tr hk0 (by decide)
      have hb783 : ¬ ((6 : Int32) < kq) := own_tr hk0 (by decide)
      have hb784 : ¬ ((7 : Int32) < kq) := own_tr hk0 (by decide)
      have hb785 : ¬ ((8 : Int32) < kq) := own_tr hk0 (by decide)
      have pre1123 : ∀ t, Steps p.tables e below (T740.setTop (mkF m 302 #[.val (.int p0), .val (.int p1), .val (.int p2), .val (.int p3), .val (.int p4), .val (.int ss), .val (.int kq), .val (.int jj), .val (.ref b400), .val (.ref nb_672), .val (.ref b703), .unset, .unset, .unset] [])) t → Steps p.tables e below (s₁.setTop (entryFrame m #[(.int p0), (.int p1), (.int p2), (.int p3), (.int p4)] maxLocals)) t := fun t kk => pre777 t (by
          show Steps p.tables e below (T740.setTop (mkF m 164 #[.val (.int p0), .val (.int p1), .val (.int p2), .val (.int p3), .val (.int p4), .val (.int ss), .val (.int kq), .val (.int jj), .val (.ref b400), .val (.ref nb_672), .val (.ref b703), .unset, .unset, .unset] [(.int kq)])) _
          refine XS.ifYes X740.here hx rfl (pc0 := 164) (pc' := 176) rfl (hb hby at_164) rfl ((if0 _ _).trans (flt hk0).2.2.2) (by decide) (by decide) ?_
          show Steps p.tables e below (T740.setTop (mkF m 176 #[.val (.int p0), .val (.int p1), .val (.int p2), .val (.int p3), .val (.int p4), .val (.int ss), .val (.int kq), .val (.int jj), .val (.ref b400), .val (.ref nb_672), .val (.ref b703), .unset, .unset, .unset] [])) _
          refine XS.iload X740.here hx rfl (hb hby at_176) rfl ?_
          show Steps p.tables e below (T740.setTop (mkF m 178 #[.val (.int p0), .val (.int p1), .val (.int p2), .val (.int p3), .val (.int p4), .val (.int ss), .val (.int kq), .val (.int jj), .val (.ref b400), .val (.ref nb_672), .val (.ref b703), .unset, .unset, .unset] [(.int kq)])) _
          refine XS.iconst X740.here hx rfl (hb hby at_178) ?_
          show Steps p.tables e below (T740.setTop (mkF m 179 #[.val (.int p0), .val (.int p1), .val (.int p2), .val (.int p3), .val (.int p4), .val (.int ss), .val (.int kq), .val (.int jj), .val (.ref b400), .val (.ref nb_672), .val (.ref b703), .unset, .unset, .unset] [(.int (1 : Int32)), (.int kq)])) _
          refine XS.icmpYes X740.here hx rfl (pc0 := 179) (pc' := 191) rfl (hb hby at_179) rfl (flt hb778).2.2.2 (by decide) (by decide) ?_
          show Steps p.tables e below (T740.setTop (mkF m 191 #[.val (.int p0), .val (.int p1), .val (.int p2), .val (.int p3), .val (.int p4), .val (.int ss), .val (.int kq), .val (.int jj), .val (.ref b400), .val (.ref nb_672), .val (.ref b703), .unset, .unset, .unset] [])) _
          refine XS.iload X740.here hx rfl (hb hby at_191) rfl ?_
          show Steps p.tables e below (T740.setTop (mkF m 193 #[.val (.int p0), .val (.int p1), .val (.int p2), .val (.int p3), .val (.int p4), .val (.int ss), .val (.int kq), .val (.int jj), .val (.ref b400), .val (.ref nb_672), .val (.ref b703), .unset, .unset, .unset] [(.int kq)])) _
          refine XS.iconst X740.here hx rfl (hb hby at_193) ?_
          show Steps p.tables e below (T740.setTop (mkF m 194 #[.val (.int p0), .val (.int p1), .val (.int p2), .val (.int p3), .val (.int p4), .val (.int ss), .val (.int kq), .val (.int jj), .val (.ref b400), .val (.ref nb_672), .val (.ref b703), .unset, .unset, .unset] [(.int (2 : Int32)), (.int kq)])) _
          refine XS.icmpYes X740.here hx rfl (pc0 := 194) (pc' := 206) rfl (hb hby at_194) rfl (flt hb779).2.2.2 (by decide) (by decide) ?_
          show Steps p.tables e below (T740.setTop (mkF m 206 #[.val (.int p0), .val (.int p1), .val (.int p2), .val (.int p3), .val (.int p4), .val (.int ss), .val (.int kq), .val (.int jj), .val (.ref b400), .val (.ref nb_672), .val (.ref b703), .unset, .unset, .unset] [])) _
          refine XS.iload X740.here hx rfl (hb hby at_206) rfl ?_
          show Steps p.tables e below (T740.setTop (mkF m 208 #[.val (.int p0), .val (.int p1), .val (.int p2), .val (.int p3), .val (.int p4), .val (.int ss), .val (.int kq), .val (.int jj), .val (.ref b400), .val (.ref nb_672), .val (.ref b703), .unset, .unset, .unset] [(.int kq)])) _
          refine XS.iconst X740.here hx rfl (hb hby at_208) ?_
          show Steps p.tables e below (T740.setTop (mkF m 209 #[.val (.int p0), .val (.int p1), .val (.int p2), .val (.int p3), .val (.int p4), .val (.int ss), .val (.int kq), .val (.int jj), .val (.ref b400), .val (.ref nb_672), .val (.ref b703), .unset, .unset, .unset] [(.int (3 : Int32)), (.int kq)])) _
          refine XS.icmpYes X740.here hx rfl (pc0 := 209) (pc' := 221) rfl (hb hby at_209) rfl (flt hb780).2.2.2 (by decide) (by decide) ?_
          show Steps p.tables e below (T740.setTop (mkF m 221 #[.val (.int p0), .val (.int p1), .val (.int p2), .val (.int p3), .val (.int p4), .val (.int ss), .val (.int kq), .val (.int jj), .val (.ref b400), .val (.ref nb_672), .val (.ref b703), .unset, .unset, .unset] [])) _
          refine XS.iload X740.here hx rfl (hb hby at_221) rfl ?_
          show Steps p.tables e below (T740.setTop (mkF m 223 #[.val (.int p0), .val (.int p1), .val (.int p2), .val (.int p3), .val (.int p4), .val (.int ss), .val (.int kq), .val (.int jj), .val (.ref b400), .val (.ref nb_672), .val (.ref b703), .unset, .unset, .unset] [(.int kq)])) _
          refine XS.iconst X740.here hx rfl (hb hby at_223) ?_
          show Steps p.tables e below (T740.setTop (mkF m 224 #[.val (.int p0), .val (.int p1), .val (.int p2), .val (.int p3), .val (.int p4), .val (.int ss), .val (.int kq), .val (.int jj), .val (.ref b400), .val (.ref nb_672), .val (.ref b703), .unset, .unset, .unset] [(.int (4 : Int32)), (.int kq)])) _
          refine XS.icmpYes X740.here hx rfl (pc0 := 224) (pc' := 236) rfl (hb hby at_224) rfl (flt hb781).2.2.2 (by decide) (by decide) ?_
          show Steps p.tables e below (T740.setTop (mkF m 236 #[.val (.int p0), .val (.int p1), .val (.int p2), .val (.int p3), .val (.int p4), .val (.int ss), .val (.int kq), .val (.int jj), .val (.ref b400), .val (.ref nb_672), .val (.ref b703), .unset, .unset, .unset] [])) _
          refine XS.iload X740.here hx rfl (hb hby at_236) rfl ?_
          show Steps p.tables e below (T740.setTop (mkF m 238 #[.val (.int p0), .val (.int p1), .val (.int p2), .val (.int p3), .val (.int p4), .val (.int ss), .val (.int kq), .val (.int jj), .val (.ref b400), .val (.ref nb_672), .val (.ref b703), .unset, .unset, .unset] [(.int kq)])) _
          refine XS.iconst X740.here hx rfl (hb hby at_238) ?_
          show Steps p.tables e below (T740.setTop (mkF m 239 #[.val (.int p0), .val (.int p1), .val (.int p2), .val (.int p3), .val (.int p4), .val (.int ss), .val (.int kq), .val (.int jj), .val (.ref b400), .val (.ref nb_672), .val (.ref b703), .unset, .unset, .unset] [(.int (5 : Int32)), (.int kq)])) _
          refine XS.icmpYes X740.here hx rfl (pc0 := 239) (pc' := 251) rfl (hb hby at_239) rfl (flt hb782).2.2.2 (by decide) (by decide) ?_
          show Steps p.tables e below (T740.setTop (mkF m 251 #[.val (.int p0), .val (.int p1), .val (.int p2), .val (.int p3), .val (.int p4), .val (.int ss), .val (.int kq), .val (.int jj), .val (.ref b400), .val (.ref nb_672), .val (.ref b703), .unset, .unset, .unset] [])) _
          refine XS.iload X740.here hx rfl (hb hby at_251) rfl ?_
          show Steps p.tables e below (T740.setTop (mkF m 253 #[.val (.int p0), .val (.int p1), .val (.int p2), .val (.int p3), .val (.int p4), .val (.int ss), .val (.int kq), .val (.int jj), .val (.ref b400), .val (.ref nb_672), .val (.ref b703), .unset, .unset, .unset] [(.int kq)])) _
          refine XS.bipush X740.here hx rfl (hb hby at_253) ?_
          show Steps p.tables e below (T740.setTop (mkF m 255 #[.val (.int p0), .val (.int p1), .val (.int p2), .val (.int p3), .val (.int p4), .val (.int ss), .val (.int kq), .val (.int jj), .val (.ref b400), .val (.ref nb_672), .val (.ref b703), .unset, .unset, .unset] [(.int (6 : Int32)), (.int kq)])) _
          refine XS.icmpYes X740.here hx rfl (pc0 := 255) (pc' := 268) rfl (hb hby at_255) rfl (flt hb783).2.2.2 (by decide) (by decide) ?_
          show Steps p.tables e below (T740.setTop (mkF m 268 #[.val (.int p0), .val (.int p1), .val (.int p2), .val (.int p3), .val (.int p4), .val (.int ss), .val (.int kq), .val (.int jj), .val (.ref b400), .val (.ref nb_672), .val (.ref b703), .unset, .unset, .unset] [])) _
          refine XS.iload X740.here hx rfl (hb hby at_268) rfl ?_
          show Steps p.tables e below (T740.setTop (mkF m 270 #[.val (.int p0), .val (.int p1), .val (.int p2), .val (.int p3), .val (.int p4), .val (.int ss), .val (.int kq), .val (.int jj), .val (.ref b400), .val (.ref nb_672), .val (.ref b703), .unset, .unset, .unset] [(.int kq)])) _
          refine XS.bipush X740.here hx rfl (hb hby at_270) ?_
          show Steps p.tables e below (T740.setTop (mkF m 272 #[.val (.int p0), .val (.int p1), .val (.int p2), .val (.int p3), .val (.int p4), .val (.int ss), .val (.int kq), .val (.int jj), .val (.ref b400), .val (.ref nb_672), .val (.ref b703), .unset, .unset, .unset] [(.int (7 : Int32)), (.int kq)])) _
          refine XS.icmpYes X740.here hx rfl (pc0 := 272) (pc' := 285) rfl (hb hby at_272) rfl (flt hb784).2.2.2 (by decide) (by decide) ?_
          show Steps p.tables e below (T740.setTop (mkF m 285 #[.val (.int p0), .val (.int p1), .val (.int p2), .val (.int p3), .val (.int p4), .val (.int ss), .val (.int kq), .val (.int jj), .val (.ref b400), .val (.ref nb_672), .val (.ref b703), .unset, .unset, .unset] [])) _
          refine XS.iload X740.here hx rfl (hb hby at_285) rfl ?_
          show Steps p.tables e below (T740.setTop (mkF m 287 #[.val (.int p0), .val (.int p1), .val (.int p2), .val (.int p3), .val (.int p4), .val (.int ss), .val (.int kq), .val (.int jj), .val (.ref b400), .val (.ref nb_672), .val (.ref b703), .unset, .unset, .unset] [(.int kq)])) _
          refine XS.bipush X740.here hx rfl (hb hby at_287) ?_
          show Steps p.tables e below (T740.setTop (mkF m 289 #[.val (.int p0), .val (.int p1), .val (.int p2), .val (.int p3), .val (.int p4), .val (.int ss), .val (.int kq), .val (.int jj), .val (.ref b400), .val (.ref nb_672), .val (.ref b703), .unset, .unset, .unset] [(.int (8 : Int32)), (.int kq)])) _
          refine XS.icmpYes X740.here hx rfl (pc0 := 289) (pc' := 302) rfl (hb hby at_289) rfl (flt hb785).2.2.2 (by decide) (by decide) ?_
          exact kk)
      exact ⟨T740, _, _, a_740, (28 : Int32), (0 : Int32), X740.more (by decide) (by decide), rfl, N740, K775, P740_0, P740_1, P740_2, P740_3, Ex772, F773, pre1123⟩
  obtain ⟨cq1133, kq1133, q1133a, q1133b, q1133c⟩ := isOf hZ e1122 P1122_0
  obtain ⟨_, _, ⟨T1133, L1133, k1133, n1133⟩, -, X1133, ⟨Lc1133, hQ1133, l1133, y1133, z1133⟩, st1133⟩ := X1122.virtualBack hx (y := (⟨"com/example/redoubt/redoubt/storage/FrameTable", "clear", "()V"⟩ : MethodName)) (z := (⟨"com/example/redoubt/redoubt/storage/FrameTable", "clear", "()V"⟩ : MethodName)) hown (mvT hZ (hw _ (List.mem_of_getElem? (i := 50) rfl))) (mvT hZ (hw _ (List.mem_of_getElem? (i := 51) rfl))) (notFace_of_selects (args := #[]) (mvT hZ (hw _ (List.mem_of_getElem? (i := 53) rfl)))) (mvT hZ (hw _ (List.mem_of_getElem? (i := 53) rfl))) (mvT hZ (hw _ (List.mem_of_getElem? (i := 52) rfl))) (by decide) (backOf (W := 0) (rmClear l Z a0 hw [] b703 a_1122 sh_1122 c0_1122 h1122 n0 (Nat.le_trans Z0 K1122.1) P1122_0 P1122_1 P1122_2 P1122_3 g_b703) hZ (hw _ (List.mem_of_getElem? (i := 54) rfl)) (hw _ (List.mem_of_getElem? (i := 23) rfl)) (by decide) (by decide)) q1133a q1133c (g := (mkF m 304 #[.val (.int p0), .val (.int p1), .val (.int p2), .val (.int p3), .val (.int p4), .val (.int ss), .val (.int kq), .val (.int jj), .val (.ref b400), .val (.ref nb_672), .val (.ref b703), .unset, .unset, .unset] [(.ref b703)])) rfl (by rw [hml]; rfl) (Steps.refl _) (argsL := []) (rest := []) (lenOf pd_2 rfl) rfl (by show 2 * 0 + _ ≤ _; exact Nat.le_of_eq rfl) (hb hby at_304) (fun _ _ => ⟨rfl, e1122, (by decide : 24 + 1 ≤ _), (by decide : 82040 + 16 ≤ _)⟩)
  dsimp only [Pt.U, Pt.locs, Pt.cells, Pt.slots] at X1133 l1133 y1133 z1133 st1133 hQ1133
  rw [l1133, y1133, z1133] at X1133
  replace X1133 := own_std X1133 (cc := 25) (ss := 82056) rfl rfl
  obtain ⟨a2_1133, k2_1133, rfl, N1133q, K1133q, sz1133_a2, P1133_0, P1133_1, P1133_2, P1133_3, P1133_4, pu1133_0⟩ := hQ1133
  have N1133 := Fr.app N1122 N1133q
  have ne1134 : b703 ≠ a2_1133 := Nat.ne_of_lt (Nat.lt_of_lt_of_le P1122_0.lt sz1133_a2)
  have ne1135 : nb_672 ≠ a2_1133 := Nat.ne_of_lt (Nat.lt_of_lt_of_le P1122_4.lt sz1133_a2)
  have g_a2_1133 : n0 ≤ a2_1133 := Nat.le_trans (Nat.le_trans Z0 K1122.1) sz1133_a2
  have sz_a2_1133 : h0.size ≤ a2_1133 := Nat.le_trans K1122.1 sz1133_a2
  have Ex1136 : Exa Z T1133.heap b703 "com/example/redoubt/redoubt/storage/FrameTable" := (P1122_0.keep K1133q)
  have Ex1137 : Exa Z T1133.heap nb_672 "com/example/redoubt/redoubt/storage/PageCache$Frame" := (P1122_4.keep K1133q)
  have F1138 : Fld Z T1133.heap nb_672 "com/example/redoubt/redoubt/storage/PageCache$Frame" "page" "I" (.int p4) := (P1122_5.keep K1133q (ninS ne714 nin0))
  have K1139 : Keep h0 T1133.heap [] := K1122.trans K1133q (allS (Or.inr sz_b703) all0)
  obtain ⟨cq1140, kq1140, q1140a, q1140b, q1140c⟩ := isOf hZ rfl P1133_0
  obtain ⟨_, _, ⟨T1140, L1140, k1140, n1140⟩, -, X1140, ⟨Lc1140, hQ1140, l1140, y1140, z1140⟩, st1140⟩ := X1133.virtualBack hx (y := (⟨"com/example/redoubt/redoubt/storage/FrameTable", "size", "()I"⟩ : MethodName)) (z := (⟨"com/example/redoubt/redoubt/storage/FrameTable", "size", "()I"⟩ : MethodName)) hown (mvT hZ (hw _ (List.mem_of_getElem? (i := 55) rfl))) (mvT hZ (hw _ (List.mem_of_getElem? (i := 56) rfl))) (notFace_of_selects (args := #[]) (mvT hZ (hw _ (List.mem_of_getElem? (i := 58) rfl)))) (mvT hZ (hw _ (List.mem_of_getElem? (i := 58) rfl))) (mvT hZ (hw _ (List.mem_of_getElem? (i := 57) rfl))) (by decide) (backOf (W := 0) (rmSize l Z a0 hw [] b703 (0 : Int32) T1133.heap n0 (Nat.le_trans Z0 K1139.1) P1133_3) hZ (hw _ (List.mem_of_getElem? (i := 59) rfl)) (hw _ (List.mem_of_getElem? (i := 23) rfl)) (by decide) (by decide)) q1140a q1140c (g := (mkF m 309 #[.val (.int p0), .val (.int p1), .val (.int p2), .val (.int p3), .val (.int p4), .val (.int ss), .val (.int kq), .val (.int jj), .val (.ref b400), .val (.ref nb_672), .val (.ref b703), .unset, .unset, .unset] [(.ref b703)])) rfl (by rw [hml]; rfl) (Steps.refl _) (argsL := []) (rest := []) (lenOf pd_4 rfl) rfl (by show 2 * 0 + _ ≤ _; exact Nat.le_of_eq rfl) (hb hby at_309) (fun _ _ => ⟨rfl, rfl, (by decide : 25 + 0 ≤ _), (by decide : 82056 + 0 ≤ _)⟩)
  dsimp only [Pt.U, Pt.locs, Pt.cells, Pt.slots] at X1140 l1140 y1140 z1140 st1140 hQ1140
  rw [l1140, y1140, z1140] at X1140
  replace X1140 := own_std X1140 (cc := 25) (ss := 82056) rfl rfl
  obtain ⟨rfl, N1140q, e1140⟩ := hQ1140
  have N1140 := Fr.app N1133 N1140q
  have hp1142 : own_tb (16 : Int32) 16 (28 : Int32) := Or.inl ⟨rfl, rfl, rfl⟩
  have hp1143 : ∀ jj, ([.null, .null, .null, .null, .null, .null, .null, .null, .null, .null, .null, .null, .null, .null, .null, .null] : List Value).getD jj .null = .null := own_nl
  obtain ⟨cq1141, kq1141, q1141a, q1141b, q1141c⟩ := isOf hZ e1140 P1133_0
  obtain ⟨_, _, ⟨T1141, L1141, k1141, n1141⟩, -, X1141, ⟨Lc1141, hQ1141, l1141, y1141, z1141⟩, st1141⟩ := X1140.virtualBack hx (y := (⟨"com/example/redoubt/redoubt/storage/FrameTable", "get", "(I)Lcom/example/redoubt/redoubt/storage/PageCache$Frame;"⟩ : MethodName)) (z := (⟨"com/example/redoubt/redoubt/storage/FrameTable", "get", "(I)Lcom/example/redoubt/redoubt/storage/PageCache$Frame;"⟩ : MethodName)) hown (mvT hZ (hw _ (List.mem_of_getElem? (i := 60) rfl))) (mvT hZ (hw _ (List.mem_of_getElem? (i := 61) rfl))) (notFace_of_selects (args := #[]) (mvT hZ (hw _ (List.mem_of_getElem? (i := 63) rfl)))) (mvT hZ (hw _ (List.mem_of_getElem? (i := 63) rfl))) (mvT hZ (hw _ (List.mem_of_getElem? (i := 62) rfl))) (by decide) (backOf (W := 0) (rmGetN l Z a0 hw [] b703 (p0 + (jj * ss)) (28 : Int32) (16 : Int32) 16 a2_1133 k2_1133 ([.null, .null, .null, .null, .null, .null, .null, .null, .null, .null, .null, .null, .null, .null, .null, .null] : List Value) T1133.heap n0 (Nat.le_trans Z0 K1139.1) P1133_0 P1133_1 P1133_2 P1133_4 hp1142 hp1143) hZ (hw _ (List.mem_of_getElem? (i := 64) rfl)) (hw _ (List.mem_of_getElem? (i := 23) rfl)) (by decide) (by decide)) q1141a q1141c (g := (mkF m 331 #[.val (.int p0), .val (.int p1), .val (.int p2), .val (.int p3), .val (.int p4), .val (.int ss), .val (.int kq), .val (.int jj), .val (.ref b400), .val (.ref nb_672), .val (.ref b703), .val (.int (1 : Int32)), .unset, .unset] [(.int (p0 + (jj * ss))), (.ref b703)])) rfl (by rw [hml]; rfl) (Steps.refl _) (argsL := [(.int (p0 + (jj * ss)))]) (rest := []) (lenOf pd_3 rfl) rfl (by show 2 * 0 + _ ≤ _; exact Nat.le_of_eq rfl) (hb hby at_331) (fun _ _ => ⟨rfl, e1140, (by decide : 25 + 0 ≤ _), (by decide : 82056 + 0 ≤ _)⟩)
  dsimp only [Pt.U, Pt.locs, Pt.cells, Pt.slots] at X1141 l1141 y1141 z1141 st1141 hQ1141
  rw [l1141, y1141, z1141] at X1141
  replace X1141 := own_std X1141 (cc := 25) (ss := 82056) rfl rfl
  obtain ⟨rfl, N1141q, e1141⟩ := hQ1141
  have N1141 := Fr.app N1140 N1141q
  have hp1145 : own_tb (16 : Int32) 16 (28 : Int32) := Or.inl ⟨rfl, rfl, rfl⟩
  have hp1146 : ∀ jj, ([.null, .null, .null, .null, .null, .null, .null, .null, .null, .null, .null, .null, .null, .null, .null, .null] : List Value).getD jj .null = .null := own_nl
  obtain ⟨cq1144, kq1144, q1144a, q1144b, q1144c⟩ := isOf hZ e1141 P1133_0
  obtain ⟨_, _, ⟨T1144, L1144, k1144, n1144⟩, -, X1144, ⟨Lc1144, hQ1144, l1144, y1144, z1144⟩, st1144⟩ := X1141.virtualBack hx (y := (⟨"com/example/redoubt/redoubt/storage/FrameTable", "get", "(I)Lcom/example/redoubt/redoubt/storage/PageCache$Frame;"⟩ : MethodName)) (z := (⟨"com/example/redoubt/redoubt/storage/FrameTable", "get", "(I)Lcom/example/redoubt/redoubt/storage/PageCache$Frame;"⟩ : MethodName)) hown (mvT hZ (hw _ (List.mem_of_getElem? (i := 60) rfl))) (mvT hZ (hw _ (List.mem_of_getElem? (i := 61) rfl))) (notFace_of_selects (args := #[]) (mvT hZ (hw _ (List.mem_of_getElem? (i := 63) rfl)))) (mvT hZ (hw _ (List.mem_of_getElem? (i := 63) rfl))) (mvT hZ (hw _ (List.mem_of_getElem? (i := 62) rfl))) (by decide) (backOf (W := 0) (rmGetN l Z a0 hw [] b703 p4 (28 : Int32) (16 : Int32) 16 a2_1133 k2_1133 ([.null, .null, .null, .null, .null, .null, .null, .null, .null, .null, .null, .null, .null, .null, .null, .null] : List Value) T1133.heap n0 (Nat.le_trans Z0 K1139.1) P1133_0 P1133_1 P1133_2 P1133_4 hp1145 hp1146) hZ (hw _ (List.mem_of_getElem? (i := 64) rfl)) (hw _ (List.mem_of_getElem? (i := 23) rfl)) (by decide) (by decide)) q1144a q1144c (g := (mkF m 348 #[.val (.int p0), .val (.int p1), .val (.int p2), .val (.int p3), .val (.int p4), .val (.int ss), .val (.int kq), .val (.int jj), .val (.ref b400), .val (.ref nb_672), .val (.ref b703), .val (.int (1 : Int32)), .val (.int (1 : Int32)), .unset] [(.int p4), (.ref b703)])) rfl (by rw [hml]; rfl) (Steps.refl _) (argsL := [(.int p4)]) (rest := []) (lenOf pd_3 rfl) rfl (by show 2 * 0 + _ ≤ _; exact Nat.le_of_eq rfl) (hb hby at_348) (fun _ _ => ⟨rfl, e1141, (by decide : 25 + 0 ≤ _), (by decide : 82056 + 0 ≤ _)⟩)
  dsimp only [Pt.U, Pt.locs, Pt.cells, Pt.slots] at X1144 l1144 y1144 z1144 st1144 hQ1144
  rw [l1144, y1144, z1144] at X1144
  replace X1144 := own_std X1144 (cc := 25) (ss := 82056) rfl rfl
  obtain ⟨rfl, N1144q, e1144⟩ := hQ1144
  have N1144 := Fr.app N1141 N1144q
  have hp1148 : own_tb (16 : Int32) 16 (28 : Int32) := Or.inl ⟨rfl, rfl, rfl⟩
  have hp1149 : ([.null, .null, .null, .null, .null, .null, .null, .null, .null, .null, .null, .null, .null, .null, .null, .null] : List Value).length = 16 := rfl
  have hp1150 : ∀ jj, ([.null, .null, .null, .null, .null, .null, .null, .null, .null, .null, .null, .null, .null, .null, .null, .null] : List Value).getD jj .null = .null := own_nl
  have hp1151 : Ovr Z k2_1133 "com/example/redoubt/redoubt/storage/PageCache$Frame" := pu1133_0
  have hp1152 : ¬ ((16 : Int32) < ((2 : Int32) * ((0 : Int32) + (1 : Int32)))) := by decide
  obtain ⟨cq1147, kq1147, q1147a, q1147b, q1147c⟩ := isOf hZ e1144 P1133_0
  obtain ⟨_, _, ⟨T1147, L1147, k1147, n1147⟩, -, X1147, ⟨Lc1147, hQ1147, l1147, y1147, z1147⟩, st1147⟩ := X1144.virtualBack hx (y := (⟨"com/example/redoubt/redoubt/storage/FrameTable", "add", "(Lcom/example/redoubt/redoubt/storage/PageCache$Frame;)V"⟩ : MethodName)) (z := (⟨"com/example/redoubt/redoubt/storage/FrameTable", "add", "(Lcom/example/redoubt/redoubt/storage/PageCache$Frame;)V"⟩ : MethodName)) hown (mvT hZ (hw _ (List.mem_of_getElem? (i := 33) rfl))) (mvT hZ (hw _ (List.mem_of_getElem? (i := 34) rfl))) (notFace_of_selects (args := #[]) (mvT hZ (hw _ (List.mem_of_getElem? (i := 36) rfl)))) (mvT hZ (hw _ (List.mem_of_getElem? (i := 36) rfl))) (mvT hZ (hw _ (List.mem_of_getElem? (i := 35) rfl))) (by decide) (backOf (W := 0) (rmAddH l Z a0 hw [] b703 nb_672 (28 : Int32) p4 (16 : Int32) 16 a2_1133 k2_1133 ([.null, .null, .null, .null, .null, .null, .null, .null, .null, .null, .null, .null, .null, .null, .null, .null] : List Value) (0 : Int32) T1133.heap n0 (Nat.le_trans Z0 K1139.1) P1133_0 P1133_1 P1133_2 P1133_3 P1133_4 Ex1137 F1138 hp1148 hp1149 hp1150 hp1151 hp1152 g_b703 g_a2_1133) hZ (hw _ (List.mem_of_getElem? (i := 37) rfl)) (hw _ (List.mem_of_getElem? (i := 23) rfl)) (by decide) (by decide)) q1147a q1147c (g := (mkF m 365 #[.val (.int p0), .val (.int p1), .val (.int p2), .val (.int p3), .val (.int p4), .val (.int ss), .val (.int kq), .val (.int jj), .val (.ref b400), .val (.ref nb_672), .val (.ref b703), .val (.int (1 : Int32)), .val (.int (1 : Int32)), .val (.int (1 : Int32))] [(.ref nb_672), (.ref b703)])) rfl (by rw [hml]; rfl) (Steps.refl _) (argsL := [(.ref nb_672)]) (rest := []) (lenOf pd_1 rfl) rfl (by show 2 * 0 + _ ≤ _; exact Nat.le_of_eq rfl) (hb hby at_365) (fun _ _ => ⟨rfl, e1144, (by decide : 25 + 0 ≤ _), (by decide : 82056 + 0 ≤ _)⟩)
  dsimp only [Pt.U, Pt.locs, Pt.cells, Pt.slots] at X1147 l1147 y1147 z1147 st1147 hQ1147
  rw [l1147, y1147, z1147] at X1147
  replace X1147 := own_std X1147 (cc := 25) (ss := 82056) rfl rfl
  obtain ⟨rfl, N1147q, K1147q, P1147_0, P1147_1, P1147_2, P1147_3, P1147_4⟩ := hQ1147
  have N1147 := Fr.app N1144 N1147q
  have Ex1153 : Exa Z T1147.heap b703 "com/example/redoubt/redoubt/storage/FrameTable" := (P1133_0.keep K1147q)
  have Ex1154 : Exa Z T1147.heap nb_672 "com/example/redoubt/redoubt/storage/PageCache$Frame" := (Ex1137.keep K1147q)
  have F1155 : Fld Z T1147.heap nb_672 "com/example/redoubt/redoubt/storage/PageCache$Frame" "page" "I" (.int p4) := (F1138.keep K1147q (ninS ne714 (ninS ne1135 nin0)))
  have K1156 : Keep h0 T1147.heap [] := K1139.trans K1147q (allS (Or.inr sz_b703) (allS (Or.inr sz_a2_1133) all0))
  have hp1158 : own_tb (16 : Int32) 16 (28 : Int32) := Or.inl ⟨rfl, rfl, rfl⟩
  have hp1159 : (([.null, .null, .null, .null, .null, .null, .null, .null, .null, .null, .null, .null, .null, .null, .null, .null] : List Value).set (own_home p4 (28 : Int32)).toNatClampNeg (.ref nb_672)).getD (own_home p4 (28 : Int32)).toNatClampNeg .null = (.ref nb_672) := own_put _ _
  obtain ⟨cq1157, kq1157, q1157a, q1157b, q1157c⟩ := isOf hZ rfl P1147_0
  obtain ⟨_, _, ⟨T1157, L1157, k1157, n1157⟩, -, X1157, ⟨Lc1157, hQ1157, l1157, y1157, z1157⟩, st1157⟩ := X1147.virtualBack hx (y := (⟨"com/example/redoubt/redoubt/storage/FrameTable", "get", "(I)Lcom/example/redoubt/redoubt/storage/PageCache$Frame;"⟩ : MethodName)) (z := (⟨"com/example/redoubt/redoubt/storage/FrameTable", "get", "(I)Lcom/example/redoubt/redoubt/storage/PageCache$Frame;"⟩ : MethodName)) hown (mvT hZ (hw _ (List.mem_of_getElem? (i := 60) rfl))) (mvT hZ (hw _ (List.mem_of_getElem? (i := 61) rfl))) (notFace_of_selects (args := #[]) (mvT hZ (hw _ (List.mem_of_getElem? (i := 63) rfl)))) (mvT hZ (hw _ (List.mem_of_getElem? (i := 63) rfl))) (mvT hZ (hw _ (List.mem_of_getElem? (i := 62) rfl))) (by decide) (backOf (W := 0) (rmGetF l Z a0 hw [] b703 p4 (28 : Int32) (16 : Int32) 16 a2_1133 k2_1133 (([.null, .null, .null, .null, .null, .null, .null, .null, .null, .null, .null, .null, .null, .null, .null, .null] : List Value).set (own_home p4 (28 : Int32)).toNatClampNeg (.ref nb_672)) nb_672 T1147.heap n0 (Nat.le_trans Z0 K1156.1) P1147_0 P1147_1 P1147_2 P1147_4 F1155 hp1158 hp1159) hZ (hw _ (List.mem_of_getElem? (i := 64) rfl)) (hw _ (List.mem_of_getElem? (i := 23) rfl)) (by decide) (by decide)) q1157a q1157c (g := (mkF m 387 #[.val (.int p0), .val (.int p1), .val (.int p2), .val (.int p3), .val (.int p4), .val (.int ss), .val (.int kq), .val (.int jj), .val (.ref b400), .val (.ref nb_672), .val (.ref b703), .val (.int (1 : Int32)), .val (.int (1 : Int32)), .val (.int (1 : Int32))] [(.int p4), (.ref b703)])) rfl (by rw [hml]; rfl) (Steps.refl _) (argsL := [(.int p4)]) (rest := []) (lenOf pd_3 rfl) rfl (by show 2 * 0 + _ ≤ _; exact Nat.le_of_eq rfl) (hb hby at_387) (fun _ _ => ⟨rfl, rfl, (by decide : 25 + 0 ≤ _), (by decide : 82056 + 0 ≤ _)⟩)
  dsimp only [Pt.U, Pt.locs, Pt.cells, Pt.slots] at X1157 l1157 y1157 z1157 st1157 hQ1157
  rw [l1157, y1157, z1157] at X1157
  replace X1157 := own_std X1157 (cc := 25) (ss := 82056) rfl rfl
  obtain ⟨rfl, N1157q, e1157⟩ := hQ1157
  have N1157 := Fr.app N1147 N1157q
  obtain ⟨cq1160, kq1160, q1160a, q1160b, q1160c⟩ := isOf hZ e1157 P1147_0
  obtain ⟨_, _, ⟨T1160, L1160, k1160, n1160⟩, -, X1160, ⟨Lc1160, hQ1160, l1160, y1160, z1160⟩, st1160⟩ := X1157.virtualBack hx (y := (⟨"com/example/redoubt/redoubt/storage/FrameTable", "size", "()I"⟩ : MethodName)) (z := (⟨"com/example/redoubt/redoubt/storage/FrameTable", "size", "()I"⟩ : MethodName)) hown (mvT hZ (hw _ (List.mem_of_getElem? (i := 55) rfl))) (mvT hZ (hw _ (List.mem_of_getElem? (i := 56) rfl))) (notFace_of_selects (args := #[]) (mvT hZ (hw _ (List.mem_of_getElem? (i := 58) rfl)))) (mvT hZ (hw _ (List.mem_of_getElem? (i := 58) rfl))) (mvT hZ (hw _ (List.mem_of_getElem? (i := 57) rfl))) (by decide) (backOf (W := 0) (rmSize l Z a0 hw [] b703 ((0 : Int32) + (1 : Int32)) T1147.heap n0 (Nat.le_trans Z0 K1156.1) P1147_3) hZ (hw _ (List.mem_of_getElem? (i := 59) rfl)) (hw _ (List.mem_of_getElem? (i := 23) rfl)) (by decide) (by decide)) q1160a q1160c (g := (mkF m 397 #[.val (.int p0), .val (.int p1), .val (.int p2), .val (.int p3), .val (.int p4), .val (.int ss), .val (.int kq), .val (.int jj), .val (.ref b400), .val (.ref nb_672), .val (.ref b703), .val (.int (1 : Int32)), .val (.int (1 : Int32)), .val (.int (1 : Int32))] [(.ref b703)])) rfl (by rw [hml]; rfl) (Steps.refl _) (argsL := []) (rest := []) (lenOf pd_4 rfl) rfl (by show 2 * 0 + _ ≤ _; exact Nat.le_of_eq rfl) (hb hby at_397) (fun _ _ => ⟨rfl, e1157, (by decide : 25 + 0 ≤ _), (by decide : 82056 + 0 ≤ _)⟩)
  dsimp only [Pt.U, Pt.locs, Pt.cells, Pt.slots] at X1160 l1160 y1160 z1160 st1160 hQ1160
  rw [l1160, y1160, z1160] at X1160
  replace X1160 := own_std X1160 (cc := 25) (ss := 82056) rfl rfl
  obtain ⟨rfl, N1160q, e1160⟩ := hQ1160
  have N1160 := Fr.app N1157 N1160q
  have hb1161 : ((0 : Int32) + (1 : Int32)) = (1 : Int32) := by decide
  have pre1162 : ∀ t, Steps p.tables e below (T1160.setTop (mkF m 409 #[.val (.int p0), .val (.int p1), .val (.int p2), .val (.int p3), .val (.int p4), .val (.int ss), .val (.int kq), .val (.int jj), .val (.ref b400), .val (.ref nb_672), .val (.ref b703), .val (.int (1 : Int32)), .val (.int (1 : Int32)), .val (.int (1 : Int32))] [(.int (1 : Int32))])) t → Steps p.tables e below (s₁.setTop (entryFrame m #[(.int p0), (.int p1), (.int p2), (.int p3), (.int p4)] maxLocals)) t := fun t kk => pre1122 t (by
      show Steps p.tables e below (T1122.setTop (mkF m 302 #[.val (.int p0), .val (.int p1), .val (.int p2), .val (.int p3), .val (.int p4), .val (.int ss), .val (.int kq), .val (.int jj), .val (.ref b400), .val (.ref nb_672), .val (.ref b703), .unset, .unset, .unset] [])) _
      refine XS.aload X1122.here hx rfl (hb hby at_302) rfl rfl ?_
      show Steps p.tables e below (T1122.setTop (mkF m 304 #[.val (.int p0), .val (.int p1), .val (.int p2), .val (.int p3), .val (.int p4), .val (.int ss), .val (.int kq), .val (.int jj), .val (.ref b400), .val (.ref nb_672), .val (.ref b703), .unset, .unset, .unset] [(.ref b703)])) _
      refine st1133.trans ?_
      show Steps p.tables e below (T1133.setTop (mkF m 307 #[.val (.int p0), .val (.int p1), .val (.int p2), .val (.int p3), .val (.int p4), .val (.int ss), .val (.int kq), .val (.int jj), .val (.ref b400), .val (.ref nb_672), .val (.ref b703), .unset, .unset, .unset] [])) _
      refine XS.aload X1133.here hx rfl (hb hby at_307) rfl rfl ?_
      show Steps p.tables e below (T1133.setTop (mkF m 309 #[.val (.int p0), .val (.int p1), .val (.int p2), .val (.int p3), .val (.int p4), .val (.int ss), .val (.int kq), .val (.int jj), .val (.ref b400), .val (.ref nb_672), .val (.ref b703), .unset, .unset, .unset] [(.ref b703)])) _
      refine st1140.trans ?_
      show Steps p.tables e below (T1140.setTop (mkF m 312 #[.val (.int p0), .val (.int p1), .val (.int p2), .val (.int p3), .val (.int p4), .val (.int ss), .val (.int kq), .val (.int jj), .val (.ref b400), .val (.ref nb_672), .val (.ref b703), .unset, .unset, .unset] [(.int (0 : Int32))])) _
      refine XS.ifNo X1140.here hx rfl (hb hby at_312) rfl ((if0 _ _).trans (teq (by decide : (0 : Int32) = (0 : Int32))).2) ?_
      show Steps p.tables e below (T1140.setTop (mkF m 315 #[.val (.int p0), .val (.int p1), .val (.int p2), .val (.int p3), .val (.int p4), .val (.int ss), .val (.int kq), .val (.int jj), .val (.ref b400), .val (.ref nb_672), .val (.ref b703), .unset, .unset, .unset] [])) _
      refine XS.iconst X1140.here hx rfl (hb hby at_315) ?_
      show Steps p.tables e below (T1140.setTop (mkF m 316 #[.val (.int p0), .val (.int p1), .val (.int p2), .val (.int p3), .val (.int p4), .val (.int ss), .val (.int kq), .val (.int jj), .val (.ref b400), .val (.ref nb_672), .val (.ref b703), .unset, .unset, .unset] [(.int (1 : Int32))])) _
      refine XS.goto X1140.here hx rfl (pc0 := 316) (pc' := 320) rfl (hb hby at_316) (by decide) (by decide) ?_
      show Steps p.tables e below (T1140.setTop (mkF m 320 #[.val (.int p0), .val (.int p1), .val (.int p2), .val (.int p3), .val (.int p4), .val (.int ss), .val (.int kq), .val (.int jj), .val (.ref b400), .val (.ref nb_672), .val (.ref b703), .unset, .unset, .unset] [(.int (1 : Int32))])) _
      refine XS.istore X1140.here hx rfl (hb hby at_320) rfl (l' := #[.val (.int p0), .val (.int p1), .val (.int p2), .val (.int p3), .val (.int p4), .val (.int ss), .val (.int kq), .val (.int jj), .val (.ref b400), .val (.ref nb_672), .val (.ref b703), .val (.int (1 : Int32)), .unset, .unset]) rfl ?_
      show Steps p.tables e below (T1140.setTop (mkF m 322 #[.val (.int p0), .val (.int p1), .val (.int p2), .val (.int p3), .val (.int p4), .val (.int ss), .val (.int kq), .val (.int jj), .val (.ref b400), .val (.ref nb_672), .val (.ref b703), .val (.int (1 : Int32)), .unset, .unset] [])) _
      refine XS.aload X1140.here hx rfl (hb hby at_322) rfl rfl ?_
      show Steps p.tables e below (T1140.setTop (mkF m 324 #[.val (.int p0), .val (.int p1), .val (.int p2), .val (.int p3), .val (.int p4), .val (.int ss), .val (.int kq), .val (.int jj), .val (.ref b400), .val (.ref nb_672), .val (.ref b703), .val (.int (1 : Int32)), .unset, .unset] [(.ref b703)])) _
      refine XS.iloadN X1140.here hx rfl (hb hby at_324) rfl ?_
      show Steps p.tables e below (T1140.setTop (mkF m 325 #[.val (.int p0), .val (.int p1), .val (.int p2), .val (.int p3), .val (.int p4), .val (.int ss), .val (.int kq), .val (.int jj), .val (.ref b400), .val (.ref nb_672), .val (.ref b703), .val (.int (1 : Int32)), .unset, .unset] [(.int p0), (.ref b703)])) _
      refine XS.iload X1140.here hx rfl (hb hby at_325) rfl ?_
      show Steps p.tables e below (T1140.setTop (mkF m 327 #[.val (.int p0), .val (.int p1), .val (.int p2), .val (.int p3), .val (.int p4), .val (.int ss), .val (.int kq), .val (.int jj), .val (.ref b400), .val (.ref nb_672), .val (.ref b703), .val (.int (1 : Int32)), .unset, .unset] [(.int jj), (.int p0), (.ref b703)])) _
      refine XS.iload X1140.here hx rfl (hb hby at_327) rfl ?_
      show Steps p.tables e below (T1140.setTop (mkF m 329 #[.val (.int p0), .val (.int p1), .val (.int p2), .val (.int p3), .val (.int p4), .val (.int ss), .val (.int kq), .val (.int jj), .val (.ref b400), .val (.ref nb_672), .val (.ref b703), .val (.int (1 : Int32)), .unset, .unset] [(.int ss), (.int jj), (.int p0), (.ref b703)])) _
      refine XS.imul X1140.here hx rfl (hb hby at_329) rfl ?_
      show Steps p.tables e below (T1140.setTop (mkF m 330 #[.val (.int p0), .val (.int p1), .val (.int p2), .val (.int p3), .val (.int p4), .val (.int ss), .val (.int kq), .val (.int jj), .val (.ref b400), .val (.ref nb_672), .val (.ref b703), .val (.int (1 : Int32)), .unset, .unset] [(.int (jj * ss)), (.int p0), (.ref b703)])) _
      refine XS.iadd X1140.here hx rfl (hb hby at_330) rfl ?_
      show Steps p.tables e below (T1140.setTop (mkF m 331 #[.val (.int p0), .val (.int p1), .val (.int p2), .val (.int p3), .val (.int p4), .val (.int ss), .val (.int kq), .val (.int jj), .val (.ref b400), .val (.ref nb_672), .val (.ref b703), .val (.int (1 : Int32)), .unset, .unset] [(.int (p0 + (jj * ss))), (.ref b703)])) _
      refine st1141.trans ?_
      show Steps p.tables e below (T1141.setTop (mkF m 334 #[.val (.int p0), .val (.int p1), .val (.int p2), .val (.int p3), .val (.int p4), .val (.int ss), .val (.int kq), .val (.int jj), .val (.ref b400), .val (.ref nb_672), .val (.ref b703), .val (.int (1 : Int32)), .unset, .unset] [.null])) _
      refine XS.ifnonnullNo X1141.here hx rfl (hb hby at_334) rfl ?_
      show Steps p.tables e below (T1141.setTop (mkF m 337 #[.val (.int p0), .val (.int p1), .val (.int p2), .val (.int p3), .val (.int p4), .val (.int ss), .val (.int kq), .val (.int jj), .val (.ref b400), .val (.ref nb_672), .val (.ref b703), .val (.int (1 : Int32)), .unset, .unset] [])) _
      refine XS.iconst X1141.here hx rfl (hb hby at_337) ?_
      show Steps p.tables e below (T1141.setTop (mkF m 338 #[.val (.int p0), .val (.int p1), .val (.int p2), .val (.int p3), .val (.int p4), .val (.int ss), .val (.int kq), .val (.int jj), .val (.ref b400), .val (.ref nb_672), .val (.ref b703), .val (.int (1 : Int32)), .unset, .unset] [(.int (1 : Int32))])) _
      refine XS.goto X1141.here hx rfl (pc0 := 338) (pc' := 342) rfl (hb hby at_338) (by decide) (by decide) ?_
      show Steps p.tables e below (T1141.setTop (mkF m 342 #[.val (.int p0), .val (.int p1), .val (.int p2), .val (.int p3), .val (.int p4), .val (.int ss), .val (.int kq), .val (.int jj), .val (.ref b400), .val (.ref nb_672), .val (.ref b703), .val (.int (1 : Int32)), .unset, .unset] [(.int (1 : Int32))])) _
      refine XS.istore X1141.here hx rfl (hb hby at_342) rfl (l' := #[.val (.int p0), .val (.int p1), .val (.int p2), .val (.int p3), .val (.int p4), .val (.int ss), .val (.int kq), .val (.int jj), .val (.ref b400), .val (.ref nb_672), .val (.ref b703), .val (.int (1 : Int32)), .val (.int (1 : Int32)), .unset]) rfl ?_
      show Steps p.tables e below (T1141.setTop (mkF m 344 #[.val (.int p0), .val (.int p1), .val (.int p2), .val (.int p3), .val (.int p4), .val (.int ss), .val (.int kq), .val (.int jj), .val (.ref b400), .val (.ref nb_672), .val (.ref b703), .val (.int (1 : Int32)), .val (.int (1 : Int32)), .unset] [])) _
      refine XS.aload X1141.here hx rfl (hb hby at_344) rfl rfl ?_
      show Steps p.tables e below (T1141.setTop (mkF m 346 #[.val (.int p0), .val (.int p1), .val (.int p2), .val (.int p3), .val (.int p4), .val (.int ss), .val (.int kq), .val (.int jj), .val (.ref b400), .val (.ref nb_672), .val (.ref b703), .val (.int (1 : Int32)), .val (.int (1 : Int32)), .unset] [(.ref b703)])) _
      refine XS.iload X1141.here hx rfl (hb hby at_346) rfl ?_
      show Steps p.tables e below (T1141.setTop (mkF m 348 #[.val (.int p0), .val (.int p1), .val (.int p2), .val (.int p3), .val (.int p4), .val (.int ss), .val (.int kq), .val (.int jj), .val (.ref b400), .val (.ref nb_672), .val (.ref b703), .val (.int (1 : Int32)), .val (.int (1 : Int32)), .unset] [(.int p4), (.ref b703)])) _
      refine st1144.trans ?_
      show Steps p.tables e below (T1144.setTop (mkF m 351 #[.val (.int p0), .val (.int p1), .val (.int p2), .val (.int p3), .val (.int p4), .val (.int ss), .val (.int kq), .val (.int jj), .val (.ref b400), .val (.ref nb_672), .val (.ref b703), .val (.int (1 : Int32)), .val (.int (1 : Int32)), .unset] [.null])) _
      refine XS.ifnonnullNo X1144.here hx rfl (hb hby at_351) rfl ?_
      show Steps p.tables e below (T1144.setTop (mkF m 354 #[.val (.int p0), .val (.int p1), .val (.int p2), .val (.int p3), .val (.int p4), .val (.int ss), .val (.int kq), .val (.int jj), .val (.ref b400), .val (.ref nb_672), .val (.ref b703), .val (.int (1 : Int32)), .val (.int (1 : Int32)), .unset] [])) _
      refine XS.iconst X1144.here hx rfl (hb hby at_354) ?_
      show Steps p.tables e below (T1144.setTop (mkF m 355 #[.val (.int p0), .val (.int p1), .val (.int p2), .val (.int p3), .val (.int p4), .val (.int ss), .val (.int kq), .val (.int jj), .val (.ref b400), .val (.ref nb_672), .val (.ref b703), .val (.int (1 : Int32)), .val (.int (1 : Int32)), .unset] [(.int (1 : Int32))])) _
      refine XS.goto X1144.here hx rfl (pc0 := 355) (pc' := 359) rfl (hb hby at_355) (by decide) (by decide) ?_
      show Steps p.tables e below (T1144.setTop (mkF m 359 #[.val (.int p0), .val (.int p1), .val (.int p2), .val (.int p3), .val (.int p4), .val (.int ss), .val (.int kq), .val (.int jj), .val (.ref b400), .val (.ref nb_672), .val (.ref b703), .val (.int (1 : Int32)), .val (.int (1 : Int32)), .unset] [(.int (1 : Int32))])) _
      refine XS.istore X1144.here hx rfl (hb hby at_359) rfl (l' := #[.val (.int p0), .val (.int p1), .val (.int p2), .val (.int p3), .val (.int p4), .val (.int ss), .val (.int kq), .val (.int jj), .val (.ref b400), .val (.ref nb_672), .val (.ref b703), .val (.int (1 : Int32)), .val (.int (1 : Int32)), .val (.int (1 : Int32))]) rfl ?_
      show Steps p.tables e below (T1144.setTop (mkF m 361 #[.val (.int p0), .val (.int p1), .val (.int p2), .val (.int p3), .val (.int p4), .val (.int ss), .val (.int kq), .val (.int jj), .val (.ref b400), .val (.ref nb_672), .val (.ref b703), .val (.int (1 : Int32)), .val (.int (1 : Int32)), .val (.int (1 : Int32))] [])) _
      refine XS.aload X1144.here hx rfl (hb hby at_361) rfl rfl ?_
      show Steps p.tables e below (T1144.setTop (mkF m 363 #[.val (.int p0), .val (.int p1), .val (.int p2), .val (.int p3), .val (.int p4), .val (.int ss), .val (.int kq), .val (.int jj), .val (.ref b400), .val (.ref nb_672), .val (.ref b703), .val (.int (1 : Int32)), .val (.int (1 : Int32)), .val (.int (1 : Int32))] [(.ref b703)])) _
      refine XS.aload X1144.here hx rfl (hb hby at_363) rfl rfl ?_
      show Steps p.tables e below (T1144.setTop (mkF m 365 #[.val (.int p0), .val (.int p1), .val (.int p2), .val (.int p3), .val (.int p4), .val (.int ss), .val (.int kq), .val (.int jj), .val (.ref b400), .val (.ref nb_672), .val (.ref b703), .val (.int (1 : Int32)), .val (.int (1 : Int32)), .val (.int (1 : Int32))] [(.ref nb_672), (.ref b703)])) _
      refine st1147.trans ?_
      show Steps p.tables e below (T1147.setTop (mkF m 368 #[.val (.int p0), .val (.int p1), .val (.int p2), .val (.int p3), .val (.int p4), .val (.int ss), .val (.int kq), .val (.int jj), .val (.ref b400), .val (.ref nb_672), .val (.ref b703), .val (.int (1 : Int32)), .val (.int (1 : Int32)), .val (.int (1 : Int32))] [])) _
      refine XS.iload X1147.here hx rfl (hb hby at_368) rfl ?_
      show Steps p.tables e below (T1147.setTop (mkF m 370 #[.val (.int p0), .val (.int p1), .val (.int p2), .val (.int p3), .val (.int p4), .val (.int ss), .val (.int kq), .val (.int jj), .val (.ref b400), .val (.ref nb_672), .val (.ref b703), .val (.int (1 : Int32)), .val (.int (1 : Int32)), .val (.int (1 : Int32))] [(.int (1 : Int32))])) _
      refine XS.ifNo X1147.here hx rfl (hb hby at_370) rfl ((if0 _ _).trans (feq (by decide : ¬ ((1 : Int32) = (0 : Int32)))).1) ?_
      show Steps p.tables e below (T1147.setTop (mkF m 373 #[.val (.int p0), .val (.int p1), .val (.int p2), .val (.int p3), .val (.int p4), .val (.int ss), .val (.int kq), .val (.int jj), .val (.ref b400), .val (.ref nb_672), .val (.ref b703), .val (.int (1 : Int32)), .val (.int (1 : Int32)), .val (.int (1 : Int32))] [])) _
      refine XS.iload X1147.here hx rfl (hb hby at_373) rfl ?_
      show Steps p.tables e below (T1147.setTop (mkF m 375 #[.val (.int p0), .val (.int p1), .val (.int p2), .val (.int p3), .val (.int p4), .val (.int ss), .val (.int kq), .val (.int jj), .val (.ref b400), .val (.ref nb_672), .val (.ref b703), .val (.int (1 : Int32)), .val (.int (1 : Int32)), .val (.int (1 : Int32))] [(.int (1 : Int32))])) _
      refine XS.ifNo X1147.here hx rfl (hb hby at_375) rfl ((if0 _ _).trans (feq (by decide : ¬ ((1 : Int32) = (0 : Int32)))).1) ?_
      show Steps p.tables e below (T1147.setTop (mkF m 378 #[.val (.int p0), .val (.int p1), .val (.int p2), .val (.int p3), .val (.int p4), .val (.int ss), .val (.int kq), .val (.int jj), .val (.ref b400), .val (.ref nb_672), .val (.ref b703), .val (.int (1 : Int32)), .val (.int (1 : Int32)), .val (.int (1 : Int32))] [])) _
      refine XS.iload X1147.here hx rfl (hb hby at_378) rfl ?_
      show Steps p.tables e below (T1147.setTop (mkF m 380 #[.val (.int p0), .val (.int p1), .val (.int p2), .val (.int p3), .val (.int p4), .val (.int ss), .val (.int kq), .val (.int jj), .val (.ref b400), .val (.ref nb_672), .val (.ref b703), .val (.int (1 : Int32)), .val (.int (1 : Int32)), .val (.int (1 : Int32))] [(.int (1 : Int32))])) _
      refine XS.ifNo X1147.here hx rfl (hb hby at_380) rfl ((if0 _ _).trans (feq (by decide : ¬ ((1 : Int32) = (0 : Int32)))).1) ?_
      show Steps p.tables e below (T1147.setTop (mkF m 383 #[.val (.int p0), .val (.int p1), .val (.int p2), .val (.int p3), .val (.int p4), .val (.int ss), .val (.int kq), .val (.int jj), .val (.ref b400), .val (.ref nb_672), .val (.ref b703), .val (.int (1 : Int32)), .val (.int (1 : Int32)), .val (.int (1 : Int32))] [])) _
      refine XS.aload X1147.here hx rfl (hb hby at_383) rfl rfl ?_
      show Steps p.tables e below (T1147.setTop (mkF m 385 #[.val (.int p0), .val (.int p1), .val (.int p2), .val (.int p3), .val (.int p4), .val (.int ss), .val (.int kq), .val (.int jj), .val (.ref b400), .val (.ref nb_672), .val (.ref b703), .val (.int (1 : Int32)), .val (.int (1 : Int32)), .val (.int (1 : Int32))] [(.ref b703)])) _
      refine XS.iload X1147.here hx rfl (hb hby at_385) rfl ?_
      show Steps p.tables e below (T1147.setTop (mkF m 387 #[.val (.int p0), .val (.int p1), .val (.int p2), .val (.int p3), .val (.int p4), .val (.int ss), .val (.int kq), .val (.int jj), .val (.ref b400), .val (.ref nb_672), .val (.ref b703), .val (.int (1 : Int32)), .val (.int (1 : Int32)), .val (.int (1 : Int32))] [(.int p4), (.ref b703)])) _
      refine st1157.trans ?_
      show Steps p.tables e below (T1157.setTop (mkF m 390 #[.val (.int p0), .val (.int p1), .val (.int p2), .val (.int p3), .val (.int p4), .val (.int ss), .val (.int kq), .val (.int jj), .val (.ref b400), .val (.ref nb_672), .val (.ref b703), .val (.int (1 : Int32)), .val (.int (1 : Int32)), .val (.int (1 : Int32))] [(.ref nb_672)])) _
      refine XS.aload X1157.here hx rfl (hb hby at_390) rfl rfl ?_
      show Steps p.tables e below (T1157.setTop (mkF m 392 #[.val (.int p0), .val (.int p1), .val (.int p2), .val (.int p3), .val (.int p4), .val (.int ss), .val (.int kq), .val (.int jj), .val (.ref b400), .val (.ref nb_672), .val (.ref b703), .val (.int (1 : Int32)), .val (.int (1 : Int32)), .val (.int (1 : Int32))] [(.ref nb_672), (.ref nb_672)])) _
      refine Jvm.RoadKit.acmp (g := (mkF m 392 #[.val (.int p0), .val (.int p1), .val (.int p2), .val (.int p3), .val (.int p4), .val (.int ss), .val (.int kq), .val (.int jj), .val (.ref b400), .val (.ref nb_672), .val (.ref b703), .val (.int (1 : Int32)), .val (.int (1 : Int32)), .val (.int (1 : Int32))] [(.ref nb_672), (.ref nb_672)])) X1157 hx rfl rfl rfl (pc0 := 392) (pc' := 395) (same := true) rfl (hb hby at_392) rfl (decide_eq_true rfl) (by decide) (by decide) ?_
      show Steps p.tables e below (T1157.setTop (mkF m 395 #[.val (.int p0), .val (.int p1), .val (.int p2), .val (.int p3), .val (.int p4), .val (.int ss), .val (.int kq), .val (.int jj), .val (.ref b400), .val (.ref nb_672), .val (.ref b703), .val (.int (1 : Int32)), .val (.int (1 : Int32)), .val (.int (1 : Int32))] [])) _
      refine XS.aload X1157.here hx rfl (hb hby at_395) rfl rfl ?_
      show Steps p.tables e below (T1157.setTop (mkF m 397 #[.val (.int p0), .val (.int p1), .val (.int p2), .val (.int p3), .val (.int p4), .val (.int ss), .val (.int kq), .val (.int jj), .val (.ref b400), .val (.ref nb_672), .val (.ref b703), .val (.int (1 : Int32)), .val (.int (1 : Int32)), .val (.int (1 : Int32))] [(.ref b703)])) _
      refine st1160.trans ?_
      show Steps p.tables e below (T1160.setTop (mkF m 400 #[.val (.int p0), .val (.int p1), .val (.int p2), .val (.int p3), .val (.int p4), .val (.int ss), .val (.int kq), .val (.int jj), .val (.ref b400), .val (.ref nb_672), .val (.ref b703), .val (.int (1 : Int32)), .val (.int (1 : Int32)), .val (.int (1 : Int32))] [(.int ((0 : Int32) + (1 : Int32)))])) _
      refine XS.iconst X1160.here hx rfl (hb hby at_400) ?_
      show Steps p.tables e below (T1160.setTop (mkF m 401 #[.val (.int p0), .val (.int p1), .val (.int p2), .val (.int p3), .val (.int p4), .val (.int ss), .val (.int kq), .val (.int jj), .val (.ref b400), .val (.ref nb_672), .val (.ref b703), .val (.int (1 : Int32)), .val (.int (1 : Int32)), .val (.int (1 : Int32))] [(.int (1 : Int32)), (.int ((0 : Int32) + (1 : Int32)))])) _
      refine XS.icmpNo X1160.here hx rfl (hb hby at_401) rfl (teq hb1161).2 ?_
      show Steps p.tables e below (T1160.setTop (mkF m 404 #[.val (.int p0), .val (.int p1), .val (.int p2), .val (.int p3), .val (.int p4), .val (.int ss), .val (.int kq), .val (.int jj), .val (.ref b400), .val (.ref nb_672), .val (.ref b703), .val (.int (1 : Int32)), .val (.int (1 : Int32)), .val (.int (1 : Int32))] [])) _
      refine XS.iconst X1160.here hx rfl (hb hby at_404) ?_
      show Steps p.tables e below (T1160.setTop (mkF m 405 #[.val (.int p0), .val (.int p1), .val (.int p2), .val (.int p3), .val (.int p4), .val (.int ss), .val (.int kq), .val (.int jj), .val (.ref b400), .val (.ref nb_672), .val (.ref b703), .val (.int (1 : Int32)), .val (.int (1 : Int32)), .val (.int (1 : Int32))] [(.int (1 : Int32))])) _
      refine XS.goto X1160.here hx rfl (pc0 := 405) (pc' := 409) rfl (hb hby at_405) (by decide) (by decide) ?_
      exact kk)
  obtain ⟨fs, hr, hrun, hended, hW, hsame⟩ := X1160.leave (v := some (.int (1 : Int32))) (fun h => by rw [Bd.returns] at h; cases h)
  refine ⟨_, _, pre1162 _ ?_, hrun, hended, _, _, rfl, ?_, ⟨_, rfl⟩, hW, hsame.mono (by decide) (by decide)⟩
  · show Steps p.tables e below (T1160.setTop (mkF m 409 #[.val (.int p0), .val (.int p1), .val (.int p2), .val (.int p3), .val (.int p4), .val (.int ss), .val (.int kq), .val (.int jj), .val (.ref b400), .val (.ref nb_672), .val (.ref b703), .val (.int (1 : Int32)), .val (.int (1 : Int32)), .val (.int (1 : Int32))] [(.int (1 : Int32))])) _
    exact retN X1160 hx (t := .boolean) Bd.returns (by simp) (hb hby at_409) hr
  · show Q0 Z p0 p1 p2 p3 p4 h0 n0 _ T1160.heap _
    rw [e1160]
    exact ⟨rfl, N1160, K1156⟩
set_option maxRecDepth 65536 in
set_option maxHeartbeats 40000000 in
theorem comes_1 {Post : Tables → Env → Array Value → State → Outcome → State → Prop} (hpost : ∀ tb e args s v u, (limb_1_1.after args s (.returned v) u = true ∧ limb_1_2.after args s (.returned v) u = true ∧ True) → FrameEnd s (.returned v) u (Jvm.fieldLocs frame_1_writes args s ++ Jvm.arrayLocs frame_1_arrays args s ++ Jvm.staticLocs frame_1_statics s) 64 164224 → Post tb e args s (.returned v) u) :
    ArmFor flags0 classFile x code maxLocals ret World_1 tables_1 room_1 Calls_1 rest_1 Pre_1 Post := by
  intro l hfl _ _ p e ha hc hk s m args below hf hA hF happ hP
  obtain ⟨hcalls, hrest, hpre⟩ := hP
  obtain ⟨-, -, -, hnamed, -, -, -, hat⟩ := (Spec.applies_iff hf).mp happ
  obtain ⟨hg, hn⟩ := and_e (Cond.before_iff.mp (show (Jvm.Cond.and given_1 narrow_1).before args s = true from hpre))
  obtain ⟨gg1163, gg1164⟩ := and_e hg
  obtain ⟨gg1165, gg1166⟩ := and_e gg1164
  obtain ⟨gg1167, gg1168⟩ := and_e gg1166
  obtain ⟨gg1169, gg1170⟩ := and_e gg1168
  obtain ⟨gg1171, gg1172⟩ := and_e gg1170
  obtain ⟨w0, w1, w2, w3, w4, rfl⟩ : ∃ w0 w1 w2 w3 w4 : Value, args = #[w0, w1, w2, w3, w4] := by
    have hs : args.size = 5 := by simpa [Cond.value, given_1] using gg1163
    obtain ⟨L⟩ := args
    match L, hs with
    | [w0, w1, w2, w3, w4], _ => exact ⟨w0, w1, w2, w3, w4, rfl⟩
  have hw := fun d (hd : d ∈ tables_1) => atoms_spec (ws := Jvm.Cond.code x code maxLocals ret :: tables_1) hat d (List.mem_cons_of_mem _ hd)
  have hfit : Fit s := fun {y c} hc i hi => by
    obtain ⟨ha, rfl⟩ := Array.getElem?_eq_some_iff.mp hc
    have q := List.all_eq_true.mp ((Array.all_eq_true_iff_forall_mem.mp hF) _ (Array.getElem_mem ha)) i (List.mem_range.mpr hi)
    simpa [Array.getElem?_eq_getElem hi] using q
  obtain ⟨i0, ei0⟩ := is_v gg1165
  obtain rfl : w0 = (.int i0) := Option.some.inj ei0
  obtain ⟨i1, ei1⟩ := is_v gg1167
  obtain rfl : w1 = (.int i1) := Option.some.inj ei1
  obtain ⟨i2, ei2⟩ := is_v gg1169
  obtain rfl : w2 = (.int i2) := Option.some.inj ei2
  obtain ⟨i3, ei3⟩ := is_v gg1171
  obtain rfl : w3 = (.int i3) := Option.some.inj ei3
  obtain ⟨i4, ei4⟩ := is_v gg1172
  obtain rfl : w4 = (.int i4) := Option.some.inj ei4
  obtain ⟨n, o, h1, h2, h3, _, L, rfl, ⟨rfl, N, -⟩, hq⟩ := rm0 l s _ hw tables_1 i0 i1 i2 i3 i4  s.heap s.heap.size (Nat.le_refl _)  p e ha hc hk s m _ below hf ((Spec.applies_iff_loose hf).mp happ).1 ⟨rfl, State.Warmed39.refl s, rfl⟩ trivial
  refine ⟨n, _, h1, h2, h3, hpost _ _ _ _ _ _ ⟨Cond.after_iff.mpr rfl, Cond.after_iff.mpr (eq_i res_at (Term.int_eval (1)) rfl), trivial⟩ ⟨hq.1, hq.2.1, (hq.2.2.sift fun y hy => Or.inr (N y hy)).mono (by decide) (by decide)⟩⟩
theorem main_1_1 : Claimed_1_1 := comes_1 fun _ _ _ _ _ _ h hF => ⟨h.1, hF⟩
theorem main_1_2 : Claimed_1_2 := comes_1 fun _ _ _ _ _ _ h hF => ⟨h.2.1, hF⟩
end Jvm.Pilot.@@N@@
namespace Jvm.Pilot.@@N@@
open Jvm Jvm.ClassFile Sem Op Lib Jvm.Free Jvm.Stand Jvm.Pilot.@@N@@.Jvm.D
/-! MADE BY PROGRAM (witnessworld.py) out of the Statement's table words and the real class files: 11 classes; the members and pool entries that the words name. The judged class is class 1, her method 2. -/
namespace start1
open Jvm.ClassFile
def u (s : String) : CpInfo := .utf8 (stringToUtf16 s)
/-- a pool by its gaps: so many unusable entries, then the entry; so many at the end -/
def gap : Nat → List CpInfo → List CpInfo
  | 0, r => r
  | n + 1, r => .unusable :: gap n r
def poolList (es : List (Nat × CpInfo)) (last : Nat) : List CpInfo := es.foldr (fun e r => gap e.1 (e.2 :: r)) (gap last [])
def pool (es : List (Nat × CpInfo)) (last : Nat) : Array CpInfo := ⟨poolList es last⟩
def fileOf (pool : Array CpInfo) (this : Nat) (attrs : Array Attribute := #[]) (ms : Array MethodInfo := #[]) (fl : Nat := 33) (sup : Nat := 0) (ifs : Array Nat := #[]) (fds : Array FieldInfo := #[]) : ClassFile where
  minorVersion := 0
  majorVersion := 65
  constantPool := pool
  accessFlags := fl
  thisClass := this
  superClass := sup
  interfaces := ifs
  fields := fds
  methods := ms
  attributes := attrs
def plain (name : String) (sup : Option ClassId) : Class where
  name := name
  kind := .ordinary
  loader := none
  accessFlags := 33
  super := sup
  interfaces := #[]
  cf := none
  fields := #[]
  methods := #[]
  instanceTypes := #[]
  staticTypes := #[]
  resolved := #[]
  callSites := []
  init := .initialized
  statics := none
  mirror := none

def pool0 : Array CpInfo := pool [(5, u "<init>"), (0, u "()V"), (1, .class_ 10), (1, u "java/lang/Object")] 113

def k0c0 : Code := { maxStack := 0, maxLocals := 1, code := object_method_1_code, exceptionTable := #[], attributes := #[] }
def k0m0 : Method := { name := "<init>", desc := "()V", sig := { parameters := [], returnType := none }, accessFlags := 1, code := some k0c0 }
/-- java/lang/Object -/
def k0 : Class := { plain "java/lang/Object" none with
  accessFlags := 33
  interfaces := #[]
  cf := some (fileOf pool0 8 #[] #[{ accessFlags := 1, nameIndex := 5, descriptorIndex := 6, attributes := #[] }] 33 0 #[] #[])
  fields := #[]
  methods := #[k0m0]
  instanceTypes := #[]
  staticTypes := #[]
  resolved := Array.replicate 124 none
  statics := none }

def pool1 : Array CpInfo := pool [(2, .class_ 4), (0, .nameAndType 5 6), (0, u "java/lang/Object"), (0, u "<init>"), (0, u "()V"), (0, .class_ 8), (0, u "com/example/redoubt/redoubt/storage/PageCache$Frame"), (0, .methodref 7 3), (0, .fieldref 7 11), (0, .nameAndType 12 13), (0, u "page"), (0, u "I"), (0, .integer 2147483647), (0, .methodref 16 17), (0, .class_ 18), (0, .nameAndType 19 20), (0, u "com/example/redoubt/redoubt/storage/FrameTableClearPinLaw"), (0, u "frame"), (0, u "(I)Lcom/example/redoubt/redoubt/storage/PageCache$Frame;"), (0, .class_ 22), (0, u "com/example/redoubt/redoubt/storage/FrameTable"), (0, .methodref 21 3), (0, .methodref 21 25), (0, .nameAndType 26 27), (0, u "add"), (0, u "(Lcom/example/redoubt/redoubt/storage/PageCache$Frame;)V"), (0, .methodref 21 29), (0, .nameAndType 30 6), (0, u "clear"), (0, .methodref 21 32), (0, .nameAndType 33 34), (0, u "size"), (0, u "()I"), (0, .methodref 21 36), (0, .nameAndType 37 20), (0, u "get"), (2, u "law"), (0, u "(IIIII)Z")] 9

def k1m0 : Method := { name := "<init>", desc := "()V", sig := { parameters := [], returnType := none }, accessFlags := 1, code := none }
def k1c1 : Code := { maxStack := 2, maxLocals := 2, code := method_2_code, exceptionTable := #[], attributes := #[] }
def k1m1 : Method := { name := "frame", desc := "(I)Lcom/example/redoubt/redoubt/storage/PageCache$Frame;", sig := { parameters := [.int], returnType := some (.object "com/example/redoubt/redoubt/storage/PageCache$Frame") }, accessFlags := 10, code := some k1c1 }
def k1c2 : Code := { maxStack := 5, maxLocals := 14, code := code, exceptionTable := #[], attributes := #[] }
def k1m2 : Method := { name := "law", desc := "(IIIII)Z", sig := { parameters := [.int, .int, .int, .int, .int], returnType := some .boolean }, accessFlags := 9, code := some k1c2 }
/-- com/example/redoubt/redoubt/storage/FrameTableClearPinLaw -/
def k1 : Class := { plain "com/example/redoubt/redoubt/storage/FrameTableClearPinLaw" (some 0) with
  accessFlags := 49
  interfaces := #[]
  cf := some (fileOf pool1 16 #[] #[{ accessFlags := 1, nameIndex := 5, descriptorIndex := 6, attributes := #[] }, { accessFlags := 10, nameIndex := 19, descriptorIndex := 20, attributes := #[] }, { accessFlags := 9, nameIndex := 40, descriptorIndex := 41, attributes := #[] }] 49 2 #[] #[])
  fields := #[]
  methods := #[k1m0, k1m1, k1m2]
  instanceTypes := #[]
  staticTypes := #[]
  resolved := Array.replicate 51 none
  statics := none }

def pool2 : Array CpInfo := pool [(1, .methodref 2 3), (0, .class_ 4), (0, .nameAndType 5 6), (0, u "java/lang/Object"), (0, u "<init>"), (0, u "()V"), (2, .fieldref 10 11), (0, .class_ 12), (0, .nameAndType 13 14), (0, u "com/example/redoubt/redoubt/storage/PageCache$Frame"), (0, u "data"), (0, u "[B"), (0, u "page"), (0, u "I"), (0, u "dirty"), (0, u "Z"), (0, u "lsn"), (0, u "J"), (0, u "older"), (0, u "Lcom/example/redoubt/redoubt/storage/PageCache$Frame;"), (0, u "newer"), (5, .class_ 30), (0, u "com/example/redoubt/redoubt/storage/PageCache")] 2

def k2c0 : Code := { maxStack := 2, maxLocals := 1, code := prog_57_method_1_code, exceptionTable := #[], attributes := #[] }
def k2m0 : Method := { name := "<init>", desc := "()V", sig := { parameters := [], returnType := none }, accessFlags := 0, code := some k2c0 }
/-- com/example/redoubt/redoubt/storage/PageCache$Frame -/
def k2 : Class := { plain "com/example/redoubt/redoubt/storage/PageCache$Frame" (some 0) with
  accessFlags := 48
  interfaces := #[]
  cf := some (fileOf pool2 10 #[.nestHost 29] #[{ accessFlags := 0, nameIndex := 5, descriptorIndex := 6, attributes := #[] }] 48 2 #[] #[{ accessFlags := 16, nameIndex := 13, descriptorIndex := 14, attributes := #[] }, { accessFlags := 0, nameIndex := 15, descriptorIndex := 16, attributes := #[] }, { accessFlags := 0, nameIndex := 17, descriptorIndex := 18, attributes := #[] }, { accessFlags := 0, nameIndex := 19, descriptorIndex := 20, attributes := #[] }, { accessFlags := 0, nameIndex := 21, descriptorIndex := 22, attributes := #[] }, { accessFlags := 0, nameIndex := 23, descriptorIndex := 22, attributes := #[] }])
  fields := #[{ name := "data", type := (.array .byte), accessFlags := 16, slot := 0, constantValue := 0 }, { name := "page", type := .int, accessFlags := 0, slot := 1, constantValue := 0 }, { name := "dirty", type := .boolean, accessFlags := 0, slot := 2, constantValue := 0 }, { name := "lsn", type := .long, accessFlags := 0, slot := 3, constantValue := 0 }, { name := "older", type := (.object "com/example/redoubt/redoubt/storage/PageCache$Frame"), accessFlags := 0, slot := 4, constantValue := 0 }, { name := "newer", type := (.object "com/example/redoubt/redoubt/storage/PageCache$Frame"), accessFlags := 0, slot := 5, constantValue := 0 }]
  methods := #[k2m0]
  instanceTypes := #[(.array .byte), .int, .boolean, .long, (.object "com/example/redoubt/redoubt/storage/PageCache$Frame"), (.object "com/example/redoubt/redoubt/storage/PageCache$Frame")]
  staticTypes := #[]
  resolved := Array.replicate 33 none
  statics := none }

def pool3 : Array CpInfo := pool [(1, .methodref 2 3), (0, .class_ 4), (0, .nameAndType 5 6), (0, u "java/lang/Object"), (0, u "<init>"), (0, u "()V"), (0, .class_ 8), (0, u "com/example/redoubt/redoubt/storage/FrameTable"), (0, .class_ 10), (0, u "com/example/redoubt/redoubt/storage/PageCache$Frame"), (0, .fieldref 7 12), (0, .nameAndType 13 14), (0, u "slots"), (0, u "[Lcom/example/redoubt/redoubt/storage/PageCache$Frame;"), (2, .fieldref 7 18), (0, .nameAndType 19 20), (0, u "shift"), (0, u "I"), (0, .methodref 7 22), (0, .nameAndType 23 24), (0, u "home"), (0, u "(I)I"), (0, .fieldref 9 26), (0, .nameAndType 27 20), (0, u "page"), (0, .fieldref 7 29), (0, .nameAndType 30 20), (0, u "size"), (0, .methodref 7 32), (0, .nameAndType 33 6), (0, u "grow"), (0, .methodref 7 35), (0, .nameAndType 36 37), (0, u "place"), (0, u "(Lcom/example/redoubt/redoubt/storage/PageCache$Frame;)V"), (0, .integer 2654435769), (0, u "SPREAD"), (1, u "FIRST_SIZE_BITS"), (3, u "get"), (0, u "(I)Lcom/example/redoubt/redoubt/storage/PageCache$Frame;"), (1, u "add"), (1, u "()I"), (0, u "clear")] 7

def k3c0 : Code := { maxStack := 2, maxLocals := 1, code := prog_47_method_1_code, exceptionTable := #[], attributes := #[] }
def k3m0 : Method := { name := "<init>", desc := "()V", sig := { parameters := [], returnType := none }, accessFlags := 0, code := some k3c0 }
def k3c1 : Code := { maxStack := 2, maxLocals := 5, code := prog_47_method_2_code, exceptionTable := #[], attributes := #[] }
def k3m1 : Method := { name := "get", desc := "(I)Lcom/example/redoubt/redoubt/storage/PageCache$Frame;", sig := { parameters := [.int], returnType := some (.object "com/example/redoubt/redoubt/storage/PageCache$Frame") }, accessFlags := 0, code := some k3c1 }
def k3c2 : Code := { maxStack := 3, maxLocals := 2, code := prog_47_method_3_code, exceptionTable := #[], attributes := #[] }
def k3m2 : Method := { name := "add", desc := "(Lcom/example/redoubt/redoubt/storage/PageCache$Frame;)V", sig := { parameters := [(.object "com/example/redoubt/redoubt/storage/PageCache$Frame")], returnType := none }, accessFlags := 0, code := some k3c2 }
def k3c3 : Code := { maxStack := 1, maxLocals := 1, code := prog_47_method_5_code, exceptionTable := #[], attributes := #[] }
def k3m3 : Method := { name := "size", desc := "()I", sig := { parameters := [], returnType := some .int }, accessFlags := 0, code := some k3c3 }
def k3c4 : Code := { maxStack := 2, maxLocals := 1, code := prog_47_method_6_code, exceptionTable := #[], attributes := #[] }
def k3m4 : Method := { name := "clear", desc := "()V", sig := { parameters := [], returnType := none }, accessFlags := 0, code := some k3c4 }
def k3c5 : Code := { maxStack := 2, maxLocals := 2, code := prog_47_method_7_code, exceptionTable := #[], attributes := #[] }
def k3m5 : Method := { name := "home", desc := "(I)I", sig := { parameters := [.int], returnType := some .int }, accessFlags := 2, code := some k3c5 }
def k3c6 : Code := { maxStack := 3, maxLocals := 4, code := prog_47_method_8_code, exceptionTable := #[], attributes := #[] }
def k3m6 : Method := { name := "place", desc := "(Lcom/example/redoubt/redoubt/storage/PageCache$Frame;)V", sig := { parameters := [(.object "com/example/redoubt/redoubt/storage/PageCache$Frame")], returnType := none }, accessFlags := 2, code := some k3c6 }
def k3c7 : Code := { maxStack := 3, maxLocals := 6, code := prog_47_method_9_code, exceptionTable := #[], attributes := #[] }
def k3m7 : Method := { name := "grow", desc := "()V", sig := { parameters := [], returnType := none }, accessFlags := 2, code := some k3c7 }
/-- com/example/redoubt/redoubt/storage/FrameTable -/
def k3 : Class := { plain "com/example/redoubt/redoubt/storage/FrameTable" (some 0) with
  accessFlags := 48
  interfaces := #[]
  cf := some (fileOf pool3 7 #[] #[{ accessFlags := 0, nameIndex := 5, descriptorIndex := 6, attributes := #[] }, { accessFlags := 0, nameIndex := 45, descriptorIndex := 46, attributes := #[] }, { accessFlags := 0, nameIndex := 48, descriptorIndex := 37, attributes := #[] }, { accessFlags := 0, nameIndex := 30, descriptorIndex := 50, attributes := #[] }, { accessFlags := 0, nameIndex := 51, descriptorIndex := 6, attributes := #[] }, { accessFlags := 2, nameIndex := 23, descriptorIndex := 24, attributes := #[] }, { accessFlags := 2, nameIndex := 36, descriptorIndex := 37, attributes := #[] }, { accessFlags := 2, nameIndex := 33, descriptorIndex := 6, attributes := #[] }] 48 2 #[] #[{ accessFlags := 26, nameIndex := 39, descriptorIndex := 20, attributes := #[] }, { accessFlags := 26, nameIndex := 41, descriptorIndex := 20, attributes := #[] }, { accessFlags := 2, nameIndex := 13, descriptorIndex := 14, attributes := #[] }, { accessFlags := 2, nameIndex := 19, descriptorIndex := 20, attributes := #[] }, { accessFlags := 2, nameIndex := 30, descriptorIndex := 20, attributes := #[] }])
  fields := #[{ name := "SPREAD", type := .int, accessFlags := 26, slot := 0, constantValue := 0 }, { name := "FIRST_SIZE_BITS", type := .int, accessFlags := 26, slot := 1, constantValue := 0 }, { name := "slots", type := (.array (.object "com/example/redoubt/redoubt/storage/PageCache$Frame")), accessFlags := 2, slot := 0, constantValue := 0 }, { name := "shift", type := .int, accessFlags := 2, slot := 1, constantValue := 0 }, { name := "size", type := .int, accessFlags := 2, slot := 2, constantValue := 0 }]
  methods := #[k3m0, k3m1, k3m2, k3m3, k3m4, k3m5, k3m6, k3m7]
  instanceTypes := #[(.array (.object "com/example/redoubt/redoubt/storage/PageCache$Frame")), .int, .int]
  staticTypes := #[.int, .int]
  resolved := Array.replicate 59 none
  statics := none }

def pool4 : Array CpInfo := pool [(1, u "java/lang/Cloneable"), (0, .class_ 1), (0, u "java/lang/Object"), (0, .class_ 3)] 3

/-- java/lang/Cloneable -/
def k4 : Class := { plain "java/lang/Cloneable" (some 0) with
  accessFlags := 1537
  interfaces := #[]
  cf := some (fileOf pool4 2 #[] #[] 1537 4 #[] #[])
  fields := #[]
  methods := #[]
  instanceTypes := #[]
  staticTypes := #[]
  resolved := Array.replicate 8 none
  statics := none }

def pool5 : Array CpInfo := pool [(1, u "java/io/Serializable"), (0, .class_ 1), (0, u "java/lang/Object"), (0, .class_ 3)] 3

/-- java/io/Serializable -/
def k5 : Class := { plain "java/io/Serializable" (some 0) with
  accessFlags := 1537
  interfaces := #[]
  cf := some (fileOf pool5 2 #[] #[] 1537 4 #[] #[])
  fields := #[]
  methods := #[]
  instanceTypes := #[]
  staticTypes := #[]
  resolved := Array.replicate 8 none
  statics := none }

/-- the primitive byte -/
def k6 : Class := { plain "byte" none with kind := .primitive 'B', accessFlags := 0x411 }
/-- [B -/
def k7 : Class := { plain "[B" (some 0) with kind := .array 6 .byte, interfaces := #[4, 5], accessFlags := 1041 }

/-- the primitive int -/
def k8 : Class := { plain "int" none with kind := .primitive 'I', accessFlags := 0x411 }
/-- [I -/
def k9 : Class := { plain "[I" (some 0) with kind := .array 8 .int, interfaces := #[4, 5], accessFlags := 1041 }

/-- [Lcom/example/redoubt/redoubt/storage/PageCache$Frame; -/
def k10 : Class := { plain "[Lcom/example/redoubt/redoubt/storage/PageCache$Frame;" (some 0) with kind := .array 2 (.object "com/example/redoubt/redoubt/storage/PageCache$Frame"), interfaces := #[4, 5], accessFlags := 1041 }

def heap : Heap := #[]
def classes : Array Class := #[k0, k1, k2, k3, k4, k5, k6, k7, k8, k9, k10]
def interned : List (Array UInt16 × Addr) := []
def slotsUsed : Nat := 0
def theMethod : MethodId := ⟨1, 2⟩
def args0 : Array Value := #[.int 5, .int 7, .int 3, .int 1, .int 99]
def aboutOver (below : List Frame) : State where
  vm := { classes := classes, interned := interned.toArray }
  heap := heap
  slotsUsed := slotsUsed
  threads := #[{ frames := .invoking theMethod args0 :: below }]
def below0 : List Frame := [.native { method := ⟨0, 0⟩, args := #[] }]
def about1 : State := aboutOver below0
def p0 : Program := .bare "" "" ""
def e0 : Env := launch0.env 0 0 0
theorem w_frames : about1.frames = Frame.invoking theMethod args0 :: below0 := rfl
set_option maxRecDepth 65536 in
theorem w_args : argsFit about1.vm theMethod args0 = true := by decide +kernel
set_option maxRecDepth 65536 in
theorem w_heap : heapFits about1 = true := by decide +kernel
set_option maxRecDepth 65536 in
theorem w_runnable : about1.curStatus? = some .runnable := by decide +kernel
set_option maxRecDepth 65536 in
theorem w_alone : about1.alone = true := by decide +kernel
set_option maxRecDepth 65536 in
theorem w_named : about1.methodNamed? x = some theMethod := by decide +kernel
set_option maxRecDepth 65536 in
theorem w_hears : about1.hears theMethod below0 = true := by decide +kernel
set_option maxRecDepth 65536 in
theorem w_ripe : about1.ripe theMethod args0 below0 = true := by decide +kernel
theorem w_running : about1.status = .running := rfl
set_option maxRecDepth 65536 in
theorem w_room : about1.hasRoom e0.platform room_1 = true :=
  launch0.hasRoom_least _ room_1 (by decide +kernel) (by decide +kernel) (by decide +kernel) (by decide +kernel) (by decide +kernel) (by decide +kernel)
theorem allAtoms_all (ts : List Jvm.Cond) (a : Array Jvm.Value) (st : Jvm.State) : (allAtoms ts).before a st = ts.all (fun c => c.before a st) := by
  induction ts with
  | nil => rfl
  | cons c t ih =>
    show (Jvm.Cond.and c (allAtoms t)).before a st = _
    rw [Jvm.Cond.before_and, ih, List.all_cons]
def words1 : List Jvm.Cond := Jvm.Cond.code x code maxLocals ret :: tables_1
/-- a 'code' word, met by the world's own term for the bytes: nothing is compared byte by byte -/
theorem code_word {y : MethodName} {bytes : ByteArray} {mx : Nat} {rt : Option FieldType} {a : Array Value} {s : State} {m : MethodId} {meth : Method} {c : Code} (h1 : s.methodNamed? y = some m) (h2 : s.vm.method? m = some meth) (h3 : meth.code = some c) (h4 : c.code = bytes)
    (h5 : (c.maxLocals == mx && c.exceptionTable.isEmpty && decide (c.maxStack ≤ mostOperands) && decide (meth.sig.returnType = rt) && !meth.locks && decide (parseMethodDescriptor y.desc = some meth.sig)) = true) : (Jvm.Cond.code y bytes mx rt).before a s = true := by
  simp only [Bool.and_eq_true, beq_iff_eq, Bool.not_eq_true', decide_eq_true_eq] at h5
  obtain ⟨⟨⟨⟨⟨g1, g2⟩, g3⟩, g4⟩, g5⟩, g6⟩ := h5
  simp [Cond.before, Cond.holds, Cond.value, h1, h2, h3, h4, g1, g2, g3, g4, g5, g6]
def isCode : Jvm.Cond → Bool
  | .code _ _ _ _ => true
  | _ => false
theorem all_split {L : List Jvm.Cond} {P : Jvm.Cond → Bool} (h1 : L.all (fun c => isCode c || P c) = true) (h2 : ∀ c ∈ L.filter isCode, P c = true) : L.all P = true := by
  refine List.all_eq_true.mpr fun c hc => ?_
  have h := List.all_eq_true.mp h1 c hc
  rcases Bool.eq_false_or_eq_true (isCode c) with hi | hi
  · exact h2 c (List.mem_filter.mpr ⟨hc, hi⟩)
  · simpa [hi] using h
set_option maxRecDepth 65536 in
theorem w_c0 : (Jvm.Cond.code x code maxLocals ret).before args0 about1 = true := code_word (m := ⟨1, 2⟩) (meth := k1m2) (c := k1c2) (by decide +kernel) rfl rfl rfl (by decide +kernel)
set_option maxRecDepth 65536 in
theorem w_c1 : (Jvm.Cond.code ({ cls := "com/example/redoubt/redoubt/storage/FrameTableClearPinLaw", name := "frame", desc := "(I)Lcom/example/redoubt/redoubt/storage/PageCache$Frame;" } : Jvm.MethodName) method_2_code (2 : Nat) (Option.some (Jvm.ClassFile.FieldType.object "com/example/redoubt/redoubt/storage/PageCache$Frame"))).before args0 about1 = true := code_word (m := ⟨1, 1⟩) (meth := k1m1) (c := k1c1) (by decide +kernel) rfl rfl rfl (by decide +kernel)
set_option maxRecDepth 65536 in
theorem w_c2 : (Jvm.Cond.code ({ cls := "com/example/redoubt/redoubt/storage/PageCache$Frame", name := "<init>", desc := "()V" } : Jvm.MethodName) prog_57_method_1_code (1 : Nat) (Option.none : Option Jvm.ClassFile.FieldType)).before args0 about1 = true := code_word (m := ⟨2, 0⟩) (meth := k2m0) (c := k2c0) (by decide +kernel) rfl rfl rfl (by decide +kernel)
set_option maxRecDepth 65536 in
theorem w_c3 : (Jvm.Cond.code ({ cls := "java/lang/Object", name := "<init>", desc := "()V" } : Jvm.MethodName) object_method_1_code (1 : Nat) (Option.none : Option Jvm.ClassFile.FieldType)).before args0 about1 = true := code_word (m := ⟨0, 0⟩) (meth := k0m0) (c := k0c0) (by decide +kernel) rfl rfl rfl (by decide +kernel)
set_option maxRecDepth 65536 in
theorem w_c4 : (Jvm.Cond.code ({ cls := "com/example/redoubt/redoubt/storage/FrameTable", name := "<init>", desc := "()V" } : Jvm.MethodName) prog_47_method_1_code (1 : Nat) (Option.none : Option Jvm.ClassFile.FieldType)).before args0 about1 = true := code_word (m := ⟨3, 0⟩) (meth := k3m0) (c := k3c0) (by decide +kernel) rfl rfl rfl (by decide +kernel)
set_option maxRecDepth 65536 in
theorem w_c5 : (Jvm.Cond.code ({ cls := "com/example/redoubt/redoubt/storage/FrameTable", name := "add", desc := "(Lcom/example/redoubt/redoubt/storage/PageCache$Frame;)V" } : Jvm.MethodName) prog_47_method_3_code (2 : Nat) (Option.none : Option Jvm.ClassFile.FieldType)).before args0 about1 = true := code_word (m := ⟨3, 2⟩) (meth := k3m2) (c := k3c2) (by decide +kernel) rfl rfl rfl (by decide +kernel)
set_option maxRecDepth 65536 in
theorem w_c6 : (Jvm.Cond.code ({ cls := "com/example/redoubt/redoubt/storage/FrameTable", name := "place", desc := "(Lcom/example/redoubt/redoubt/storage/PageCache$Frame;)V" } : Jvm.MethodName) prog_47_method_8_code (4 : Nat) (Option.none : Option Jvm.ClassFile.FieldType)).before args0 about1 = true := code_word (m := ⟨3, 6⟩) (meth := k3m6) (c := k3c6) (by decide +kernel) rfl rfl rfl (by decide +kernel)
set_option maxRecDepth 65536 in
theorem w_c7 : (Jvm.Cond.code ({ cls := "com/example/redoubt/redoubt/storage/FrameTable", name := "home", desc := "(I)I" } : Jvm.MethodName) prog_47_method_7_code (2 : Nat) (Option.some Jvm.ClassFile.FieldType.int)).before args0 about1 = true := code_word (m := ⟨3, 5⟩) (meth := k3m5) (c := k3c5) (by decide +kernel) rfl rfl rfl (by decide +kernel)
set_option maxRecDepth 65536 in
theorem w_c8 : (Jvm.Cond.code ({ cls := "com/example/redoubt/redoubt/storage/FrameTable", name := "clear", desc := "()V" } : Jvm.MethodName) prog_47_method_6_code (1 : Nat) (Option.none : Option Jvm.ClassFile.FieldType)).before args0 about1 = true := code_word (m := ⟨3, 4⟩) (meth := k3m4) (c := k3c4) (by decide +kernel) rfl rfl rfl (by decide +kernel)
set_option maxRecDepth 65536 in
theorem w_c9 : (Jvm.Cond.code ({ cls := "com/example/redoubt/redoubt/storage/FrameTable", name := "size", desc := "()I" } : Jvm.MethodName) prog_47_method_5_code (1 : Nat) (Option.some Jvm.ClassFile.FieldType.int)).before args0 about1 = true := code_word (m := ⟨3, 3⟩) (meth := k3m3) (c := k3c3) (by decide +kernel) rfl rfl rfl (by decide +kernel)
set_option maxRecDepth 65536 in
theorem w_c10 : (Jvm.Cond.code ({ cls := "com/example/redoubt/redoubt/storage/FrameTable", name := "get", desc := "(I)Lcom/example/redoubt/redoubt/storage/PageCache$Frame;" } : Jvm.MethodName) prog_47_method_2_code (5 : Nat) (Option.some (Jvm.ClassFile.FieldType.object "com/example/redoubt/redoubt/storage/PageCache$Frame"))).before args0 about1 = true := code_word (m := ⟨3, 1⟩) (meth := k3m1) (c := k3c1) (by decide +kernel) rfl rfl rfl (by decide +kernel)
set_option maxRecDepth 65536 in
theorem w_c11 : (Jvm.Cond.code ({ cls := "com/example/redoubt/redoubt/storage/FrameTable", name := "grow", desc := "()V" } : Jvm.MethodName) prog_47_method_9_code (6 : Nat) (Option.none : Option Jvm.ClassFile.FieldType)).before args0 about1 = true := code_word (m := ⟨3, 7⟩) (meth := k3m7) (c := k3c7) (by decide +kernel) rfl rfl rfl (by decide +kernel)
def codes1 : List Jvm.Cond := [Jvm.Cond.code x code maxLocals ret, Jvm.Cond.code ({ cls := "com/example/redoubt/redoubt/storage/FrameTableClearPinLaw", name := "frame", desc := "(I)Lcom/example/redoubt/redoubt/storage/PageCache$Frame;" } : Jvm.MethodName) method_2_code (2 : Nat) (Option.some (Jvm.ClassFile.FieldType.object "com/example/redoubt/redoubt/storage/PageCache$Frame")), Jvm.Cond.code ({ cls := "com/example/redoubt/redoubt/storage/PageCache$Frame", name := "<init>", desc := "()V" } : Jvm.MethodName) prog_57_method_1_code (1 : Nat) (Option.none : Option Jvm.ClassFile.FieldType), Jvm.Cond.code ({ cls := "java/lang/Object", name := "<init>", desc := "()V" } : Jvm.MethodName) object_method_1_code (1 : Nat) (Option.none : Option Jvm.ClassFile.FieldType), Jvm.Cond.code ({ cls := "com/example/redoubt/redoubt/storage/FrameTable", name := "<init>", desc := "()V" } : Jvm.MethodName) prog_47_method_1_code (1 : Nat) (Option.none : Option Jvm.ClassFile.FieldType), Jvm.Cond.code ({ cls := "com/example/redoubt/redoubt/storage/FrameTable", name := "add", desc := "(Lcom/example/redoubt/redoubt/storage/PageCache$Frame;)V" } : Jvm.MethodName) prog_47_method_3_code (2 : Nat) (Option.none : Option Jvm.ClassFile.FieldType), Jvm.Cond.code ({ cls := "com/example/redoubt/redoubt/storage/FrameTable", name := "place", desc := "(Lcom/example/redoubt/redoubt/storage/PageCache$Frame;)V" } : Jvm.MethodName) prog_47_method_8_code (4 : Nat) (Option.none : Option Jvm.ClassFile.FieldType), Jvm.Cond.code ({ cls := "com/example/redoubt/redoubt/storage/FrameTable", name := "home", desc := "(I)I" } : Jvm.MethodName) prog_47_method_7_code (2 : Nat) (Option.some Jvm.ClassFile.FieldType.int), Jvm.Cond.code ({ cls := "com/example/redoubt/redoubt/storage/FrameTable", name := "clear", desc := "()V" } : Jvm.MethodName) prog_47_method_6_code (1 : Nat) (Option.none : Option Jvm.ClassFile.FieldType), Jvm.Cond.code ({ cls := "com/example/redoubt/redoubt/storage/FrameTable", name := "size", desc := "()I" } : Jvm.MethodName) prog_47_method_5_code (1 : Nat) (Option.some Jvm.ClassFile.FieldType.int), Jvm.Cond.code ({ cls := "com/example/redoubt/redoubt/storage/FrameTable", name := "get", desc := "(I)Lcom/example/redoubt/redoubt/storage/PageCache$Frame;" } : Jvm.MethodName) prog_47_method_2_code (5 : Nat) (Option.some (Jvm.ClassFile.FieldType.object "com/example/redoubt/redoubt/storage/PageCache$Frame")), Jvm.Cond.code ({ cls := "com/example/redoubt/redoubt/storage/FrameTable", name := "grow", desc := "()V" } : Jvm.MethodName) prog_47_method_9_code (6 : Nat) (Option.none : Option Jvm.ClassFile.FieldType)]
set_option maxRecDepth 65536 in
theorem codes_eq : words1.filter isCode = codes1 := rfl
theorem w_codes : ∀ c ∈ words1.filter isCode, c.before args0 about1 = true := by
  rw [codes_eq]
  intro c hc
  simp only [codes1, List.mem_cons, List.not_mem_nil, or_false] at hc
  rcases hc with rfl | rfl | rfl | rfl | rfl | rfl | rfl | rfl | rfl | rfl | rfl | rfl
  · exact w_c0
  · exact w_c1
  · exact w_c2
  · exact w_c3
  · exact w_c4
  · exact w_c5
  · exact w_c6
  · exact w_c7
  · exact w_c8
  · exact w_c9
  · exact w_c10
  · exact w_c11
set_option maxRecDepth 65536 in
theorem w_t1 : (words1.take 24).all (fun c => isCode c || c.before args0 about1) = true := by decide +kernel
set_option maxRecDepth 65536 in
theorem w_t2 : ((words1.drop 24).take 24).all (fun c => isCode c || c.before args0 about1) = true := by decide +kernel
set_option maxRecDepth 65536 in
theorem w_t3 : ((words1.drop 24).drop 24).all (fun c => isCode c || c.before args0 about1) = true := by decide +kernel
theorem w_tables : (allAtoms (Jvm.Cond.code x code maxLocals ret :: tables_1)).before args0 about1 = true := by
  rw [allAtoms_all]
  show words1.all (fun c => c.before args0 about1) = true
  refine all_split ?_ w_codes
  rw [← List.take_append_drop 24 words1, List.all_append, w_t1, ← List.take_append_drop 24 (words1.drop 24), List.all_append, w_t2, w_t3]
  rfl
set_option maxRecDepth 65536 in
theorem w_case : (Jvm.Cond.and given_1 narrow_1).before args0 about1 = true := by decide +kernel
theorem w_applies : (headSpec (Jvm.Cond.code x code maxLocals ret :: tables_1) room_1).applies x e0.platform about1 = true :=
  (Spec.applies_iff w_frames).mpr ⟨w_running, w_runnable, w_alone, w_named, w_hears, w_ripe, w_room, w_tables⟩
theorem atStart : AtStart classFile x code maxLocals ret World_1 tables_1 room_1 Calls_1 rest_1 Pre_1 launch0 p0 e0 about1 theMethod args0 below0 :=
  ⟨lists_1, trivial, launch0.admits_env _ _ _, launch0.least_env, fairChoices_fair.cas, fairChoices_fair.clock, w_frames, w_args, w_heap, w_applies, trivial, trivial, w_case⟩
end start1
theorem witness_1 : WitnessClaimed_1 := ⟨start1.p0, start1.e0, start1.about1, start1.theMethod, start1.args0, start1.below0, start1.atStart⟩
end Jvm.Pilot.@@N@@
