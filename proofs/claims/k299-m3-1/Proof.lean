import JvmDerived
import JvmDerived.Pilot.@@N@@Statement
import JvmDerived.Pilot.@@N@@Code
set_option linter.unusedVariables false
set_option linter.unusedSimpArgs false
@@BLOCK:NumsL.lean.txt@@
namespace Jvm.Pilot.@@N@@
open Jvm Jvm.ClassFile Sem Op Lib Jvm.Free Jvm.Stand Jvm.LawKit Jvm.RoadKit Bundle Jvm.Pilot.@@N@@.Jvm.D
theorem own_ne_arr {Z : State} {h : Heap} {a b : Addr} {C : String} {a0 : Array Value} {kk : Nat} {k : ClassId} {ty : FieldType} {n : Int32} {vs : List Value} {d : Value} (F : Exa Z h a C) (wi : (Cond.instantiable C kk).before a0 Z = true) (V : Arv Z h b k ty n vs d) : a ≠ b := by
  obtain ⟨c, A, -⟩ := V
  exact ne_arr F wi A
theorem own_std {p : Program} {l : Launch} {e : Env} {R : Room} {s : State} {m : MethodId} {args : Array Value} {below : List Frame} {meth : Method} {c : Code} {T : State} {locs : List Loc} {c0 s0 cc ss : Nat} (X : Stand p l e R s m args below meth c T locs c0 s0) (h1 : c0 = cc) (h2 : s0 = ss) : Stand p l e R s m args below meth c T locs cc ss := by
  subst h1 h2; exact X
theorem own_cast {tb : Tables} {e : Env} {below : List Frame} {t : State} {A : Type} (f : A → State) {a b : A} (h : a = b) (k : Steps tb e below (f b) t) : Steps tb e below (f a) t := h ▸ k
theorem d1_0 : decode prog_57_method_1_code 0 = .ok (.aload_n 0, 1) := by decide +kernel
theorem d1_1 : decode prog_57_method_1_code 1 = .ok (.invokespecial 1, 3) := by decide +kernel
theorem d1_4 : decode prog_57_method_1_code 4 = .ok (.aload_n 0, 1) := by decide +kernel
theorem d1_5 : decode prog_57_method_1_code 5 = .ok (.sipush 8192, 3) := by decide +kernel
theorem d1_8 : decode prog_57_method_1_code 8 = .ok (.newarray .byte, 2) := by decide +kernel
theorem d1_10 : decode prog_57_method_1_code 10 = .ok (.putfield 9, 3) := by decide +kernel
theorem d1_13 : decode prog_57_method_1_code 13 = .ok (.return_, 1) := by decide +kernel
theorem ef_rmFr (m : MethodId) (x0 : Addr) : entryFrame m #[(.ref x0)] 1 = mkF m 0 #[.val (.ref x0)] [] := by first | (simp [entryFrame, mkF, argsToLocals, Value.category]; done) | rfl
def QFr (Z : State) (b : Addr) (h0 : Heap) (n0 : Nat) (v : Option Value) (h : Heap) (L : List Loc) : Prop := v = none ∧ Fr n0 L ∧ Keep h0 h [b] ∧ Exa Z h b "com/example/redoubt/redoubt/storage/PageCache$Frame" ∧ Fld Z h b "com/example/redoubt/redoubt/storage/PageCache$Frame" "page" "I" (.int (0 : Int32))
theorem pn_0 : plainName "com/example/redoubt/redoubt/storage/PageCache$Frame" = true := by first | (simp [plainName, overriddenIn]; done) | decide +kernel
set_option maxRecDepth 65536 in
set_option maxHeartbeats 40000000 in
theorem rmFr (l : Launch) (Z : State) (a0 : Array Value) (hw : ∀ d ∈ tables_1, d.before a0 Z = true) (ws : List Jvm.Cond) (b : Addr) (h0 : Heap) (n0 : Nat) (Z0 : n0 ≤ h0.size) (E_b : Exa Z h0 b "com/example/redoubt/redoubt/storage/PageCache$Frame") (F_data_b : Fld Z h0 b "com/example/redoubt/redoubt/storage/PageCache$Frame" "data" "[B" .null) (F_page_b : Fld Z h0 b "com/example/redoubt/redoubt/storage/PageCache$Frame" "page" "I" (.int (0 : Int32))) (g_b : n0 ≤ b) :
    MetFree l (⟨"com/example/redoubt/redoubt/storage/PageCache$Frame", "<init>", "()V"⟩ : MethodName) (head1 (Jvm.Cond.code (⟨"com/example/redoubt/redoubt/storage/PageCache$Frame", "<init>", "()V"⟩ : MethodName) prog_57_method_1_code 1 none :: ws) ({ frames := 1, cells := 1, slots := 8192, locals := 12 } : Room)) (fun aA uU => aA = #[(.ref b)] ∧ Z.Warmed39 uU.vm ∧ uU.heap = h0) (fun _ _ _ _ _ => True) (fun _ uU oO uU' => ∃ vV lL, oO = .returned vV ∧ QFr Z b h0 n0 vV uU'.heap lL ∧ FrameEnd uU oO uU' lL ({ frames := 1, cells := 1, slots := 8192, locals := 12 } : Room).cells ({ frames := 1, cells := 1, slots := 8192, locals := 12 } : Room).slots) := by
  refine MetFree.of_bodySF (plainFor_of_name pn_0) hisR ?_
  intro p e s m args below meth c s₁ Bd hml0 hP hK
  obtain ⟨rfl, hZ, hh⟩ := hP
  have hx := Bd.exec
  have hby := Bd.bytes
  have hml : c.maxLocals = 1 := hml0
  have hown : s.vm.findClass "com/example/redoubt/redoubt/storage/PageCache$Frame" = some m.cls := findClass_of_methodNamed Bd.named
  have hnm := (name_of_methodNamed Bd.named Bd.method).1
  have X0 : Stand p l e ({ frames := 1, cells := 1, slots := 8192, locals := 12 } : Room) s m #[(.ref b)] below meth c s₁ [] 0 0 := Stand.of_body Bd
  have e0 : s₁.heap = h0 := by rw [← hh, Bd.state]; rfl
  have N0 := Fr.nil n0
  have pre0 : ∀ t, Steps p.tables e below (s₁.setTop (mkF m 0 #[.val (.ref b)] [])) t → Steps p.tables e below (s₁.setTop (entryFrame m #[(.ref b)] 1)) t := fun t kk => castTop (ef_rmFr m b) kk
  obtain ⟨T1, X1, e1, st1⟩ := initO X0 hx hZ hown (hw _ (List.mem_of_getElem? (i := 8) rfl)) (hw _ (List.mem_of_getElem? (i := 9) rfl)) (hw _ (List.mem_of_getElem? (i := 10) rfl)) e0 (g := (mkF m 1 #[.val (.ref b)] [(.ref b)])) rfl (by rw [hml]; rfl) rfl (hb hby d1_1) (by decide) (W := 0) (by show 2 * 0 + _ ≤ _; exact Nat.le_of_eq rfl) (by decide)
  obtain ⟨T2, h2, k2, X2, e2, E2, A2, st2⟩ := newP X1 hx hZ (hw _ (List.mem_of_getElem? (i := 11) rfl)) e1 (g := (mkF m 8 #[.val (.ref b)] [(.int (8192 : Int32)), (.ref b)])) rfl (hb hby d1_8) rfl (by decide) (cap := 8192) (by decide) (by decide) (by decide) (by decide)
  obtain ⟨b2, gq2⟩ : ∃ z, z = h0.size := ⟨_, rfl⟩
  rw [← gq2] at A2 st2
  have ne3 : b ≠ b2 := Nat.ne_of_lt (Nat.lt_of_lt_of_le E_b.lt (Nat.le_of_eq gq2.symm))
  have g_b2 : n0 ≤ b2 := Nat.le_trans Z0 (Nat.le_of_eq gq2.symm)
  have sz_b2 : h0.size ≤ b2 := Nat.le_trans (Nat.le_refl _) (Nat.le_of_eq gq2.symm)
  have Ex4 : Exa Z h2 b "com/example/redoubt/redoubt/storage/PageCache$Frame" := (E_b.ext E2)
  have F5 : Fld Z h2 b "com/example/redoubt/redoubt/storage/PageCache$Frame" "data" "[B" .null := (F_data_b.ext E2)
  have F6 : Fld Z h2 b "com/example/redoubt/redoubt/storage/PageCache$Frame" "page" "I" (.int (0 : Int32)) := (F_page_b.ext E2)
  have K7 : Keep h0 h2 [b] := (Keep.refl h0 _).ext E2
  have Av2 : Arv Z h2 b2 k2 .byte (8192 : Int32) ([]) (.int (0 : Int32)) := Arv.new A2 (by decide)
  obtain ⟨T8, h8, X8, e8, W8, st8⟩ := putF X2 hx hZ hown (host := "") (Or.inl (hw _ (List.mem_of_getElem? (i := 12) rfl))) Via.refl e2 F5 Ex4 (Or.inr ⟨(hw _ (List.mem_of_getElem? (i := 13) rfl)), rfl, hnm⟩) (hw _ (List.mem_of_getElem? (i := 3) rfl)) (ty := (.array .byte)) (by decide) rfl rfl (g := (mkF m 10 #[.val (.ref b)] [(.ref b2), (.ref b)])) rfl rfl (hb hby d1_10)
  have Ex9 : Exa Z h8 b "com/example/redoubt/redoubt/storage/PageCache$Frame" := (Ex4.wr W8)
  have F10 : Fld Z h8 b "com/example/redoubt/redoubt/storage/PageCache$Frame" "page" "I" (.int (0 : Int32)) := (F6.other W8 (Or.inr (slot_ne (Or.inl (hw _ (List.mem_of_getElem? (i := 16) rfl))) (Or.inr (hw _ (List.mem_of_getElem? (i := 13) rfl))) (by decide) (t := .int) (t' := (.array .byte)) (by decide) (by decide))))
  have Av11 : Arv Z h8 b2 k2 .byte (8192 : Int32) ([]) (.int (0 : Int32)) := (Av2.other W8 (Ne.symm ne3))
  have K12 : Keep h0 h8 [b] := K7.wr W8 (Or.inl (List.mem_of_getElem? (i := 0) rfl))
  have N13 := Fr.snoc X8 N0 g_b
  have F14 : Fld Z h8 b "com/example/redoubt/redoubt/storage/PageCache$Frame" "data" "[B" (.ref b2) := F5.same W8
  have pre15 : ∀ t, Steps p.tables e below (T8.setTop (mkF m 13 #[.val (.ref b)] [])) t → Steps p.tables e below (s₁.setTop (entryFrame m #[(.ref b)] 1)) t := fun t kk => pre0 t (by
      show Steps p.tables e below (s₁.setTop (mkF m 0 #[.val (.ref b)] [])) _
      refine XS.aloadN X0.here hx rfl (hb hby d1_0) rfl rfl ?_
      show Steps p.tables e below (s₁.setTop (mkF m 1 #[.val (.ref b)] [(.ref b)])) _
      refine st1 _ ?_
      show Steps p.tables e below (T1.setTop (mkF m 4 #[.val (.ref b)] [])) _
      refine XS.aloadN X1.here hx rfl (hb hby d1_4) rfl rfl ?_
      show Steps p.tables e below (T1.setTop (mkF m 5 #[.val (.ref b)] [(.ref b)])) _
      refine XS.sipush X1.here hx rfl (hb hby d1_5) ?_
      show Steps p.tables e below (T1.setTop (mkF m 8 #[.val (.ref b)] [(.int (8192 : Int32)), (.ref b)])) _
      refine st2 _ ?_
      show Steps p.tables e below (T2.setTop (mkF m 10 #[.val (.ref b)] [(.ref b2), (.ref b)])) _
      refine st8 _ ?_
      exact kk)
  obtain ⟨fs, hr, hrun, hended, hW, hsame⟩ := X8.leave (v := none) (fun _ => rfl)
  refine ⟨_, _, pre15 _ ?_, hrun, hended, _, _, rfl, ?_, ⟨_, rfl⟩, hW, hsame.mono (by decide) (by decide)⟩
  · show Steps p.tables e below (T8.setTop (mkF m 13 #[.val (.ref b)] [])) _
    exact X8.returnOut hx Bd.returns (hb hby d1_13) hr
  · show QFr Z b h0 n0 _ T8.heap _
    rw [e8]
    exact ⟨rfl, N13, K12, Ex9, F10⟩
theorem d3_0 : decode prog_47_method_1_code 0 = .ok (.aload_n 0, 1) := by decide +kernel
theorem d3_1 : decode prog_47_method_1_code 1 = .ok (.invokespecial 1, 3) := by decide +kernel
theorem d3_4 : decode prog_47_method_1_code 4 = .ok (.aload_n 0, 1) := by decide +kernel
theorem d3_5 : decode prog_47_method_1_code 5 = .ok (.bipush 16, 2) := by decide +kernel
theorem d3_7 : decode prog_47_method_1_code 7 = .ok (.anewarray 9, 3) := by decide +kernel
theorem d3_10 : decode prog_47_method_1_code 10 = .ok (.putfield 11, 3) := by decide +kernel
theorem d3_13 : decode prog_47_method_1_code 13 = .ok (.aload_n 0, 1) := by decide +kernel
theorem d3_14 : decode prog_47_method_1_code 14 = .ok (.bipush 28, 2) := by decide +kernel
theorem d3_16 : decode prog_47_method_1_code 16 = .ok (.putfield 17, 3) := by decide +kernel
theorem d3_19 : decode prog_47_method_1_code 19 = .ok (.return_, 1) := by decide +kernel
theorem ef_rmTab (m : MethodId) (x0 : Addr) : entryFrame m #[(.ref x0)] 1 = mkF m 0 #[.val (.ref x0)] [] := by first | (simp [entryFrame, mkF, argsToLocals, Value.category]; done) | rfl
def QTab (Z : State) (tb : Addr) (h0 : Heap) (n0 : Nat) (v : Option Value) (h : Heap) (L : List Loc) : Prop := ∃ (a : Addr) (k : ClassId), v = none ∧ Fr n0 L ∧ Keep h0 h [tb] ∧ h0.size ≤ a ∧ Exa Z h tb "com/example/redoubt/redoubt/storage/FrameTable" ∧ Fld Z h tb "com/example/redoubt/redoubt/storage/FrameTable" "slots" "[Lcom/example/redoubt/redoubt/storage/PageCache$Frame;" (.ref a) ∧ Fld Z h tb "com/example/redoubt/redoubt/storage/FrameTable" "shift" "I" (.int (28 : Int32)) ∧ Fld Z h tb "com/example/redoubt/redoubt/storage/FrameTable" "size" "I" (.int (0 : Int32)) ∧ Arv Z h a k (.object "com/example/redoubt/redoubt/storage/PageCache$Frame") (16 : Int32) ([.null, .null, .null, .null, .null, .null, .null, .null, .null, .null, .null, .null, .null, .null, .null, .null] : List Value) .null ∧ (Ovr Z k "com/example/redoubt/redoubt/storage/PageCache$Frame")
theorem pn_1 : plainName "com/example/redoubt/redoubt/storage/FrameTable" = true := by first | (simp [plainName, overriddenIn]; done) | decide +kernel
set_option maxRecDepth 65536 in
set_option maxHeartbeats 40000000 in
theorem rmTab (l : Launch) (Z : State) (a0 : Array Value) (hw : ∀ d ∈ tables_1, d.before a0 Z = true) (ws : List Jvm.Cond) (tb : Addr) (h0 : Heap) (n0 : Nat) (Z0 : n0 ≤ h0.size) (E_tb : Exa Z h0 tb "com/example/redoubt/redoubt/storage/FrameTable") (F_slots_tb : Fld Z h0 tb "com/example/redoubt/redoubt/storage/FrameTable" "slots" "[Lcom/example/redoubt/redoubt/storage/PageCache$Frame;" .null) (F_shift_tb : Fld Z h0 tb "com/example/redoubt/redoubt/storage/FrameTable" "shift" "I" (.int (0 : Int32))) (F_size_tb : Fld Z h0 tb "com/example/redoubt/redoubt/storage/FrameTable" "size" "I" (.int (0 : Int32))) (g_tb : n0 ≤ tb) :
    MetFree l (⟨"com/example/redoubt/redoubt/storage/FrameTable", "<init>", "()V"⟩ : MethodName) (head1 (Jvm.Cond.code (⟨"com/example/redoubt/redoubt/storage/FrameTable", "<init>", "()V"⟩ : MethodName) prog_47_method_1_code 1 none :: ws) ({ frames := 1, cells := 1, slots := 16, locals := 12 } : Room)) (fun aA uU => aA = #[(.ref tb)] ∧ Z.Warmed39 uU.vm ∧ uU.heap = h0) (fun _ _ _ _ _ => True) (fun _ uU oO uU' => ∃ vV lL, oO = .returned vV ∧ QTab Z tb h0 n0 vV uU'.heap lL ∧ FrameEnd uU oO uU' lL ({ frames := 1, cells := 1, slots := 16, locals := 12 } : Room).cells ({ frames := 1, cells := 1, slots := 16, locals := 12 } : Room).slots) := by
  refine MetFree.of_bodySF (plainFor_of_name pn_1) hisR ?_
  intro p e s m args below meth c s₁ Bd hml0 hP hK
  obtain ⟨rfl, hZ, hh⟩ := hP
  have hx := Bd.exec
  have hby := Bd.bytes
  have hml : c.maxLocals = 1 := hml0
  have hown : s.vm.findClass "com/example/redoubt/redoubt/storage/FrameTable" = some m.cls := findClass_of_methodNamed Bd.named
  have hnm := (name_of_methodNamed Bd.named Bd.method).1
  have X0 : Stand p l e ({ frames := 1, cells := 1, slots := 16, locals := 12 } : Room) s m #[(.ref tb)] below meth c s₁ [] 0 0 := Stand.of_body Bd
  have e0 : s₁.heap = h0 := by rw [← hh, Bd.state]; rfl
  have N0 := Fr.nil n0
  have pre0 : ∀ t, Steps p.tables e below (s₁.setTop (mkF m 0 #[.val (.ref tb)] [])) t → Steps p.tables e below (s₁.setTop (entryFrame m #[(.ref tb)] 1)) t := fun t kk => castTop (ef_rmTab m tb) kk
  obtain ⟨T16, X16, e16, st16⟩ := initO X0 hx hZ hown (hw _ (List.mem_of_getElem? (i := 23) rfl)) (hw _ (List.mem_of_getElem? (i := 9) rfl)) (hw _ (List.mem_of_getElem? (i := 10) rfl)) e0 (g := (mkF m 1 #[.val (.ref tb)] [(.ref tb)])) rfl (by rw [hml]; rfl) rfl (hb hby d3_1) (by decide) (W := 0) (by show 2 * 0 + _ ≤ _; exact Nat.le_of_eq rfl) (by decide)
  obtain ⟨T17, h17, k17, X17, e17, E17, A17, O17, st17⟩ := newR X16 hx hZ hown (hw _ (List.mem_of_getElem? (i := 24) rfl)) (hw _ (List.mem_of_getElem? (i := 2) rfl)) e16 (g := (mkF m 7 #[.val (.ref tb)] [(.int (16 : Int32)), (.ref tb)])) rfl (hb hby d3_7) rfl (by decide) (cap := 16) (by decide) (by decide) (by decide) (by decide)
  obtain ⟨b17, gq17⟩ : ∃ z, z = h0.size := ⟨_, rfl⟩
  rw [← gq17] at A17 st17
  have ne18 : tb ≠ b17 := Nat.ne_of_lt (Nat.lt_of_lt_of_le E_tb.lt (Nat.le_of_eq gq17.symm))
  have g_b17 : n0 ≤ b17 := Nat.le_trans Z0 (Nat.le_of_eq gq17.symm)
  have sz_b17 : h0.size ≤ b17 := Nat.le_trans (Nat.le_refl _) (Nat.le_of_eq gq17.symm)
  have Ex19 : Exa Z h17 tb "com/example/redoubt/redoubt/storage/FrameTable" := (E_tb.ext E17)
  have F20 : Fld Z h17 tb "com/example/redoubt/redoubt/storage/FrameTable" "slots" "[Lcom/example/redoubt/redoubt/storage/PageCache$Frame;" .null := (F_slots_tb.ext E17)
  have F21 : Fld Z h17 tb "com/example/redoubt/redoubt/storage/FrameTable" "shift" "I" (.int (0 : Int32)) := (F_shift_tb.ext E17)
  have F22 : Fld Z h17 tb "com/example/redoubt/redoubt/storage/FrameTable" "size" "I" (.int (0 : Int32)) := (F_size_tb.ext E17)
  have K23 : Keep h0 h17 [tb] := (Keep.refl h0 _).ext E17
  have Av17 : Arv Z h17 b17 k17 (.object "com/example/redoubt/redoubt/storage/PageCache$Frame") (16 : Int32) ([.null, .null, .null, .null, .null, .null, .null, .null, .null, .null, .null, .null, .null, .null, .null, .null] : List Value) .null := (Arv.new A17 (by decide)).pad (pad_rep [] .null 16)
  obtain ⟨T24, h24, X24, e24, W24, st24⟩ := putF X17 hx hZ hown (host := "") (Or.inl (hw _ (List.mem_of_getElem? (i := 25) rfl))) Via.refl e17 F20 Ex19 (Or.inl (hw _ (List.mem_of_getElem? (i := 26) rfl))) (hw _ (List.mem_of_getElem? (i := 18) rfl)) (ty := (.array (.object "com/example/redoubt/redoubt/storage/PageCache$Frame"))) (by decide) rfl rfl (g := (mkF m 10 #[.val (.ref tb)] [(.ref b17), (.ref tb)])) rfl rfl (hb hby d3_10)
  have Ex25 : Exa Z h24 tb "com/example/redoubt/redoubt/storage/FrameTable" := (Ex19.wr W24)
  have F26 : Fld Z h24 tb "com/example/redoubt/redoubt/storage/FrameTable" "shift" "I" (.int (0 : Int32)) := (F21.other W24 (Or.inr (slot_ne (Or.inl (hw _ (List.mem_of_getElem? (i := 28) rfl))) (Or.inl (hw _ (List.mem_of_getElem? (i := 26) rfl))) (by decide) (t := .int) (t' := (.array (.object "com/example/redoubt/redoubt/storage/PageCache$Frame"))) (by decide) (by decide))))
  have F27 : Fld Z h24 tb "com/example/redoubt/redoubt/storage/FrameTable" "size" "I" (.int (0 : Int32)) := (F22.other W24 (Or.inr (slot_ne (Or.inl (hw _ (List.mem_of_getElem? (i := 35) rfl))) (Or.inl (hw _ (List.mem_of_getElem? (i := 26) rfl))) (by decide) (t := .int) (t' := (.array (.object "com/example/redoubt/redoubt/storage/PageCache$Frame"))) (by decide) (by decide))))
  have Av28 : Arv Z h24 b17 k17 (.object "com/example/redoubt/redoubt/storage/PageCache$Frame") (16 : Int32) ([.null, .null, .null, .null, .null, .null, .null, .null, .null, .null, .null, .null, .null, .null, .null, .null] : List Value) .null := (Av17.other W24 (Ne.symm ne18))
  have K29 : Keep h0 h24 [tb] := K23.wr W24 (Or.inl (List.mem_of_getElem? (i := 0) rfl))
  have N30 := Fr.snoc X24 N0 g_tb
  have F31 : Fld Z h24 tb "com/example/redoubt/redoubt/storage/FrameTable" "slots" "[Lcom/example/redoubt/redoubt/storage/PageCache$Frame;" (.ref b17) := F20.same W24
  obtain ⟨T32, h32, X32, e32, W32, st32⟩ := putF X24 hx hZ hown (host := "") (Or.inl (hw _ (List.mem_of_getElem? (i := 27) rfl))) Via.refl e24 F26 Ex25 (Or.inl (hw _ (List.mem_of_getElem? (i := 28) rfl))) (hw _ (List.mem_of_getElem? (i := 18) rfl)) (ty := .int) (by decide) rfl rfl (g := (mkF m 16 #[.val (.ref tb)] [(.int (28 : Int32)), (.ref tb)])) rfl rfl (hb hby d3_16)
  have Ex33 : Exa Z h32 tb "com/example/redoubt/redoubt/storage/FrameTable" := (Ex25.wr W32)
  have F34 : Fld Z h32 tb "com/example/redoubt/redoubt/storage/FrameTable" "size" "I" (.int (0 : Int32)) := (F27.other W32 (Or.inr (slot_ne (Or.inl (hw _ (List.mem_of_getElem? (i := 35) rfl))) (Or.inl (hw _ (List.mem_of_getElem? (i := 28) rfl))) (by decide) (t := .int) (t' := .int) (by decide) (by decide))))
  have Av35 : Arv Z h32 b17 k17 (.object "com/example/redoubt/redoubt/storage/PageCache$Frame") (16 : Int32) ([.null, .null, .null, .null, .null, .null, .null, .null, .null, .null, .null, .null, .null, .null, .null, .null] : List Value) .null := (Av28.other W32 (Ne.symm ne18))
  have F36 : Fld Z h32 tb "com/example/redoubt/redoubt/storage/FrameTable" "slots" "[Lcom/example/redoubt/redoubt/storage/PageCache$Frame;" (.ref b17) := (F31.other W32 (Or.inr (slot_ne (Or.inl (hw _ (List.mem_of_getElem? (i := 26) rfl))) (Or.inl (hw _ (List.mem_of_getElem? (i := 28) rfl))) (by decide) (t := (.array (.object "com/example/redoubt/redoubt/storage/PageCache$Frame"))) (t' := .int) (by decide) (by decide))))
  have K37 : Keep h0 h32 [tb] := K29.wr W32 (Or.inl (List.mem_of_getElem? (i := 0) rfl))
  have N38 := Fr.snoc X32 N30 g_tb
  have F39 : Fld Z h32 tb "com/example/redoubt/redoubt/storage/FrameTable" "shift" "I" (.int (28 : Int32)) := F26.same W32
  have pre40 : ∀ t, Steps p.tables e below (T32.setTop (mkF m 19 #[.val (.ref tb)] [])) t → Steps p.tables e below (s₁.setTop (entryFrame m #[(.ref tb)] 1)) t := fun t kk => pre0 t (by
      show Steps p.tables e below (s₁.setTop (mkF m 0 #[.val (.ref tb)] [])) _
      refine XS.aloadN X0.here hx rfl (hb hby d3_0) rfl rfl ?_
      show Steps p.tables e below (s₁.setTop (mkF m 1 #[.val (.ref tb)] [(.ref tb)])) _
      refine st16 _ ?_
      show Steps p.tables e below (T16.setTop (mkF m 4 #[.val (.ref tb)] [])) _
      refine XS.aloadN X16.here hx rfl (hb hby d3_4) rfl rfl ?_
      show Steps p.tables e below (T16.setTop (mkF m 5 #[.val (.ref tb)] [(.ref tb)])) _
      refine XS.bipush X16.here hx rfl (hb hby d3_5) ?_
      show Steps p.tables e below (T16.setTop (mkF m 7 #[.val (.ref tb)] [(.int (16 : Int32)), (.ref tb)])) _
      refine st17 _ ?_
      show Steps p.tables e below (T17.setTop (mkF m 10 #[.val (.ref tb)] [(.ref b17), (.ref tb)])) _
      refine st24 _ ?_
      show Steps p.tables e below (T24.setTop (mkF m 13 #[.val (.ref tb)] [])) _
      refine XS.aloadN X24.here hx rfl (hb hby d3_13) rfl rfl ?_
      show Steps p.tables e below (T24.setTop (mkF m 14 #[.val (.ref tb)] [(.ref tb)])) _
      refine XS.bipush X24.here hx rfl (hb hby d3_14) ?_
      show Steps p.tables e below (T24.setTop (mkF m 16 #[.val (.ref tb)] [(.int (28 : Int32)), (.ref tb)])) _
      refine st32 _ ?_
      exact kk)
  obtain ⟨fs, hr, hrun, hended, hW, hsame⟩ := X32.leave (v := none) (fun _ => rfl)
  refine ⟨_, _, pre40 _ ?_, hrun, hended, _, _, rfl, ?_, ⟨_, rfl⟩, hW, hsame.mono (by decide) (by decide)⟩
  · show Steps p.tables e below (T32.setTop (mkF m 19 #[.val (.ref tb)] [])) _
    exact X32.returnOut hx Bd.returns (hb hby d3_19) hr
  · show QTab Z tb h0 n0 _ T32.heap _
    rw [e32]
    exact ⟨b17, k17, rfl, N38, K37, sz_b17, Ex33, F36, F39, F34, Av35, O17⟩
theorem d6_0 : decode prog_47_method_7_code 0 = .ok (.iload_n 1, 1) := by decide +kernel
theorem d6_1 : decode prog_47_method_7_code 1 = .ok (.ldc 38, 2) := by decide +kernel
theorem d6_3 : decode prog_47_method_7_code 3 = .ok (.imul, 1) := by decide +kernel
theorem d6_4 : decode prog_47_method_7_code 4 = .ok (.aload_n 0, 1) := by decide +kernel
theorem d6_5 : decode prog_47_method_7_code 5 = .ok (.getfield 17, 3) := by decide +kernel
theorem d6_8 : decode prog_47_method_7_code 8 = .ok (.iushr, 1) := by decide +kernel
def own_home (pg : Int32) (sh : Int32) : Int32 := (((pg * (-1640531527 : Int32)).toUInt32 >>> (sh &&& 31).toUInt32).toInt32)
theorem d6_9 : decode prog_47_method_7_code 9 = .ok (.ireturn, 1) := by decide +kernel
theorem ef_rmHome (m : MethodId) (x0 : Addr) (x1 : Int32) : entryFrame m #[(.ref x0), (.int x1)] 2 = mkF m 0 #[.val (.ref x0), .val (.int x1)] [] := by first | (simp [entryFrame, mkF, argsToLocals, Value.category]; done) | rfl
def QHome (Z : State) (tb : Addr) (pg : Int32) (sh : Int32) (h0 : Heap) (n0 : Nat) (v : Option Value) (h : Heap) (L : List Loc) : Prop := v = some (.int (own_home pg sh)) ∧ Fr n0 L ∧ h = h0
set_option maxRecDepth 65536 in
set_option maxHeartbeats 40000000 in
theorem rmHome (l : Launch) (Z : State) (a0 : Array Value) (hw : ∀ d ∈ tables_1, d.before a0 Z = true) (ws : List Jvm.Cond) (tb : Addr) (pg : Int32) (sh : Int32) (h0 : Heap) (n0 : Nat) (Z0 : n0 ≤ h0.size) (F_shift_tb : Fld Z h0 tb "com/example/redoubt/redoubt/storage/FrameTable" "shift" "I" (.int sh)) :
    MetFree l (⟨"com/example/redoubt/redoubt/storage/FrameTable", "home", "(I)I"⟩ : MethodName) (head1 (Jvm.Cond.code (⟨"com/example/redoubt/redoubt/storage/FrameTable", "home", "(I)I"⟩ : MethodName) prog_47_method_7_code 2 (some .int) :: ws) ({ frames := 0, cells := 0, slots := 0, locals := 0 } : Room)) (fun aA uU => aA = #[(.ref tb), (.int pg)] ∧ Z.Warmed39 uU.vm ∧ uU.heap = h0) (fun _ _ _ _ _ => True) (fun _ uU oO uU' => ∃ vV lL, oO = .returned vV ∧ QHome Z tb pg sh h0 n0 vV uU'.heap lL ∧ FrameEnd uU oO uU' lL ({ frames := 0, cells := 0, slots := 0, locals := 0 } : Room).cells ({ frames := 0, cells := 0, slots := 0, locals := 0 } : Room).slots) := by
  refine MetFree.of_bodySF (plainFor_of_name pn_1) hisR ?_
  intro p e s m args below meth c s₁ Bd hml0 hP hK
  obtain ⟨rfl, hZ, hh⟩ := hP
  have hx := Bd.exec
  have hby := Bd.bytes
  have hml : c.maxLocals = 2 := hml0
  have hown : s.vm.findClass "com/example/redoubt/redoubt/storage/FrameTable" = some m.cls := findClass_of_methodNamed Bd.named
  have hnm := (name_of_methodNamed Bd.named Bd.method).1
  have X0 : Stand p l e ({ frames := 0, cells := 0, slots := 0, locals := 0 } : Room) s m #[(.ref tb), (.int pg)] below meth c s₁ [] 0 0 := Stand.of_body Bd
  have e0 : s₁.heap = h0 := by rw [← hh, Bd.state]; rfl
  have N0 := Fr.nil n0
  have pre0 : ∀ t, Steps p.tables e below (s₁.setTop (mkF m 0 #[.val (.ref tb), .val (.int pg)] [])) t → Steps p.tables e below (s₁.setTop (entryFrame m #[(.ref tb), (.int pg)] 2)) t := fun t kk => castTop (ef_rmHome m tb pg) kk
  obtain ⟨T41, X41, e41, st41⟩ := getF X0 hx hZ hown (host := "") (Or.inl (hw _ (List.mem_of_getElem? (i := 27) rfl))) Via.refl e0 F_shift_tb (g := (mkF m 5 #[.val (.ref tb), .val (.int pg)] [(.ref tb), (.int (pg * (-1640531527 : Int32)))])) rfl rfl (hb hby d6_5)
  have pre42 : ∀ t, Steps p.tables e below (T41.setTop (mkF m 9 #[.val (.ref tb), .val (.int pg)] [(.int (((pg * (-1640531527 : Int32)).toUInt32 >>> (sh &&& 31).toUInt32).toInt32))])) t → Steps p.tables e below (s₁.setTop (entryFrame m #[(.ref tb), (.int pg)] 2)) t := fun t kk => pre0 t (by
      show Steps p.tables e below (s₁.setTop (mkF m 0 #[.val (.ref tb), .val (.int pg)] [])) _
      refine XS.iloadN X0.here hx rfl (hb hby d6_0) rfl ?_
      show Steps p.tables e below (s₁.setTop (mkF m 1 #[.val (.ref tb), .val (.int pg)] [(.int pg)])) _
      refine X0.ldcInt hx hown (mvT hZ (hw _ (List.mem_of_getElem? (i := 45) rfl))) (g := (mkF m 1 #[.val (.ref tb), .val (.int pg)] [(.int pg)])) rfl (hb hby d6_1) _ ?_
      show Steps p.tables e below (s₁.setTop (mkF m 3 #[.val (.ref tb), .val (.int pg)] [(.int (-1640531527 : Int32)), (.int pg)])) _
      refine XS.imul X0.here hx rfl (hb hby d6_3) rfl ?_
      show Steps p.tables e below (s₁.setTop (mkF m 4 #[.val (.ref tb), .val (.int pg)] [(.int (pg * (-1640531527 : Int32)))])) _
      refine XS.aloadN X0.here hx rfl (hb hby d6_4) rfl rfl ?_
      show Steps p.tables e below (s₁.setTop (mkF m 5 #[.val (.ref tb), .val (.int pg)] [(.ref tb), (.int (pg * (-1640531527 : Int32)))])) _
      refine st41 _ ?_
      show Steps p.tables e below (T41.setTop (mkF m 8 #[.val (.ref tb), .val (.int pg)] [(.int sh), (.int (pg * (-1640531527 : Int32)))])) _
      refine XS.iushr X41.here hx rfl (hb hby d6_8) rfl ?_
      exact kk)
  obtain ⟨fs, hr, hrun, hended, hW, hsame⟩ := X41.leave (v := some (.int (((pg * (-1640531527 : Int32)).toUInt32 >>> (sh &&& 31).toUInt32).toInt32))) (fun h => by rw [Bd.returns] at h; cases h)
  refine ⟨_, _, pre42 _ ?_, hrun, hended, _, _, rfl, ?_, ⟨_, rfl⟩, hW, hsame.mono (by decide) (by decide)⟩
  · show Steps p.tables e below (T41.setTop (mkF m 9 #[.val (.ref tb), .val (.int pg)] [(.int (((pg * (-1640531527 : Int32)).toUInt32 >>> (sh &&& 31).toUInt32).toInt32))])) _
    exact retOut X41 hx Bd.returns rfl (Or.inl ⟨rfl, Or.inl rfl, _, rfl⟩) (hb hby d6_9) hr
  · show QHome Z tb pg sh h0 n0 _ T41.heap _
    rw [e41]
    exact ⟨rfl, N0, rfl⟩
theorem d8_0 : decode prog_47_method_5_code 0 = .ok (.aload_n 0, 1) := by decide +kernel
theorem d8_1 : decode prog_47_method_5_code 1 = .ok (.getfield 28, 3) := by decide +kernel
theorem d8_4 : decode prog_47_method_5_code 4 = .ok (.ireturn, 1) := by decide +kernel
theorem ef_rmSize (m : MethodId) (x0 : Addr) : entryFrame m #[(.ref x0)] 1 = mkF m 0 #[.val (.ref x0)] [] := by first | (simp [entryFrame, mkF, argsToLocals, Value.category]; done) | rfl
def QSize (Z : State) (tb : Addr) (c0 : Int32) (h0 : Heap) (n0 : Nat) (v : Option Value) (h : Heap) (L : List Loc) : Prop := v = some (.int c0) ∧ Fr n0 L ∧ h = h0
set_option maxRecDepth 65536 in
set_option maxHeartbeats 40000000 in
theorem rmSize (l : Launch) (Z : State) (a0 : Array Value) (hw : ∀ d ∈ tables_1, d.before a0 Z = true) (ws : List Jvm.Cond) (tb : Addr) (c0 : Int32) (h0 : Heap) (n0 : Nat) (Z0 : n0 ≤ h0.size) (F_size_tb : Fld Z h0 tb "com/example/redoubt/redoubt/storage/FrameTable" "size" "I" (.int c0)) :
    MetFree l (⟨"com/example/redoubt/redoubt/storage/FrameTable", "size", "()I"⟩ : MethodName) (head1 (Jvm.Cond.code (⟨"com/example/redoubt/redoubt/storage/FrameTable", "size", "()I"⟩ : MethodName) prog_47_method_5_code 1 (some .int) :: ws) ({ frames := 0, cells := 0, slots := 0, locals := 0 } : Room)) (fun aA uU => aA = #[(.ref tb)] ∧ Z.Warmed39 uU.vm ∧ uU.heap = h0) (fun _ _ _ _ _ => True) (fun _ uU oO uU' => ∃ vV lL, oO = .returned vV ∧ QSize Z tb c0 h0 n0 vV uU'.heap lL ∧ FrameEnd uU oO uU' lL ({ frames := 0, cells := 0, slots := 0, locals := 0 } : Room).cells ({ frames := 0, cells := 0, slots := 0, locals := 0 } : Room).slots) := by
  refine MetFree.of_bodySF (plainFor_of_name pn_1) hisR ?_
  intro p e s m args below meth c s₁ Bd hml0 hP hK
  obtain ⟨rfl, hZ, hh⟩ := hP
  have hx := Bd.exec
  have hby := Bd.bytes
  have hml : c.maxLocals = 1 := hml0
  have hown : s.vm.findClass "com/example/redoubt/redoubt/storage/FrameTable" = some m.cls := findClass_of_methodNamed Bd.named
  have hnm := (name_of_methodNamed Bd.named Bd.method).1
  have X0 : Stand p l e ({ frames := 0, cells := 0, slots := 0, locals := 0 } : Room) s m #[(.ref tb)] below meth c s₁ [] 0 0 := Stand.of_body Bd
  have e0 : s₁.heap = h0 := by rw [← hh, Bd.state]; rfl
  have N0 := Fr.nil n0
  have pre0 : ∀ t, Steps p.tables e below (s₁.setTop (mkF m 0 #[.val (.ref tb)] [])) t → Steps p.tables e below (s₁.setTop (entryFrame m #[(.ref tb)] 1)) t := fun t kk => castTop (ef_rmSize m tb) kk
  obtain ⟨T43, X43, e43, st43⟩ := getF X0 hx hZ hown (host := "") (Or.inl (hw _ (List.mem_of_getElem? (i := 34) rfl))) Via.refl e0 F_size_tb (g := (mkF m 1 #[.val (.ref tb)] [(.ref tb)])) rfl rfl (hb hby d8_1)
  have pre44 : ∀ t, Steps p.tables e below (T43.setTop (mkF m 4 #[.val (.ref tb)] [(.int c0)])) t → Steps p.tables e below (s₁.setTop (entryFrame m #[(.ref tb)] 1)) t := fun t kk => pre0 t (by
      show Steps p.tables e below (s₁.setTop (mkF m 0 #[.val (.ref tb)] [])) _
      refine XS.aloadN X0.here hx rfl (hb hby d8_0) rfl rfl ?_
      show Steps p.tables e below (s₁.setTop (mkF m 1 #[.val (.ref tb)] [(.ref tb)])) _
      refine st43 _ ?_
      exact kk)
  obtain ⟨fs, hr, hrun, hended, hW, hsame⟩ := X43.leave (v := some (.int c0)) (fun h => by rw [Bd.returns] at h; cases h)
  refine ⟨_, _, pre44 _ ?_, hrun, hended, _, _, rfl, ?_, ⟨_, rfl⟩, hW, hsame.mono (by decide) (by decide)⟩
  · show Steps p.tables e below (T43.setTop (mkF m 4 #[.val (.ref tb)] [(.int c0)])) _
    exact retOut X43 hx Bd.returns rfl (Or.inl ⟨rfl, Or.inl rfl, _, rfl⟩) (hb hby d8_4) hr
  · show QSize Z tb c0 h0 n0 _ T43.heap _
    rw [e43]
    exact ⟨rfl, N0, rfl⟩
def own_tb (n : Int32) (N : Nat) (sh : Int32) : Prop := (n = 16 ∧ N = 16 ∧ sh = 28) ∨ (n = 32 ∧ N = 32 ∧ sh = 27)
theorem own_le32 {n : Int32} {N : Nat} {sh : Int32} (h : own_tb n N sh) : N ≤ 32 := by rcases h with ⟨-, rfl, -⟩ | ⟨-, rfl, -⟩ <;> decide
theorem own_ixx : ∀ i : Nat, i < 32 → (Int32.ofNat i).toNatClampNeg = i := by decide +kernel
theorem own_ix {n : Int32} {N : Nat} {sh : Int32} (h : own_tb n N sh) {i : Nat} (hi : i < N) : (Int32.ofNat i).toNatClampNeg = i := own_ixx i (Nat.lt_of_lt_of_le hi (own_le32 h))
theorem own_in16 : ∀ i : Nat, i < 16 → ¬ (Int32.ofNat i) < 0 ∧ (Int32.ofNat i) < (16 : Int32) := by decide +kernel
theorem own_in32 : ∀ i : Nat, i < 32 → ¬ (Int32.ofNat i) < 0 ∧ (Int32.ofNat i) < (32 : Int32) := by decide +kernel
theorem own_in {n : Int32} {N : Nat} {sh : Int32} (h : own_tb n N sh) {i : Nat} (hi : i < N) : ¬ (Int32.ofNat i) < 0 ∧ (Int32.ofNat i) < n := by
  rcases h with ⟨rfl, rfl, -⟩ | ⟨rfl, rfl, -⟩
  · exact own_in16 i hi
  · exact own_in32 i hi
theorem own_nx16 : ∀ i : Nat, i < 16 → ((Int32.ofNat i) + (1 : Int32)) &&& ((16 : Int32) - (1 : Int32)) = Int32.ofNat ((i + 1) % 16) := by decide +kernel
theorem own_nx32 : ∀ i : Nat, i < 32 → ((Int32.ofNat i) + (1 : Int32)) &&& ((32 : Int32) - (1 : Int32)) = Int32.ofNat ((i + 1) % 32) := by decide +kernel
theorem own_nx {n : Int32} {N : Nat} {sh : Int32} (h : own_tb n N sh) {i : Nat} (hi : i < N) : ((Int32.ofNat i) + (1 : Int32)) &&& (n - (1 : Int32)) = Int32.ofNat ((i + 1) % N) := by
  rcases h with ⟨rfl, rfl, -⟩ | ⟨rfl, rfl, -⟩
  · exact own_nx16 i hi
  · exact own_nx32 i hi
theorem own_dec {n : Int32} {N : Nat} {sh : Int32} (h : own_tb n N sh) {i j0 : Nat} (hi : i < N) (hj : j0 < N) (hne : i ≠ j0) : (j0 + N - (i + 1) % N) % N < (j0 + N - i) % N := by
  rcases h with ⟨-, rfl, -⟩ | ⟨-, rfl, -⟩ <;> omega
theorem own_mod {n : Int32} {N : Nat} {sh : Int32} (h : own_tb n N sh) (i : Nat) : i % N < N := by
  rcases h with ⟨-, rfl, -⟩ | ⟨-, rfl, -⟩ <;> omega
theorem own_ush (x : Int32) (s : UInt32) (k : Nat) (hs : s.toNat = k) (hk : k < 32) (h0 : 0 < k) : ∃ i : Nat, i < 2 ^ (32 - k) ∧ (x.toUInt32 >>> s).toInt32 = Int32.ofNat i := by
  refine ⟨(x.toUInt32 >>> s).toNat, ?_, ?_⟩
  · rw [UInt32.toNat_shiftRight, hs, Nat.mod_eq_of_lt hk, Nat.shiftRight_eq_div_pow]
    have := x.toUInt32.toNat_lt
    rw [Nat.div_lt_iff_lt_mul (Nat.pow_pos (by decide)), ← Nat.pow_add, Nat.sub_add_cancel (Nat.le_of_lt hk)]
    exact this
  · generalize x.toUInt32 >>> s = u
    apply Int32.toBitVec_inj.mp
    apply BitVec.eq_of_toNat_eq
    simp [Int32.toBitVec_ofNat]
def own_cnt : List Value → Nat
  | [] => 0
  | .null :: r => own_cnt r
  | _ :: r => own_cnt r + 1
theorem own_free : ∀ (vs : List Value), own_cnt vs < vs.length → ∃ j, j < vs.length ∧ vs.getD j .null = .null
  | [], h => absurd h (by decide)
  | v :: r, h => by
    by_cases hv : v = .null
    · exact ⟨0, by simp, by simp [hv]⟩
    · have h1 : own_cnt (v :: r) = own_cnt r + 1 := by cases v <;> first | rfl | exact absurd rfl hv
      rw [h1] at h
      obtain ⟨j, h2, h3⟩ := own_free r (by simpa using h)
      exact ⟨j + 1, by simpa using h2, by simpa using h3⟩
theorem own_cset : ∀ (vs : List Value) (i : Nat) (f : Addr), i < vs.length → vs.getD i .null = .null → own_cnt (vs.set i (.ref f)) = own_cnt vs + 1
  | [], i, f, h, _ => absurd h (by simp)
  | v :: r, 0, f, _, e => by
    have : v = .null := by simpa using e
    subst this; rfl
  | v :: r, i + 1, f, h, e => by
    have ih := own_cset r i f (by simpa using h) (by simpa using e)
    have hc : ∀ (w : Value) (q : List Value), own_cnt (w :: q) = own_cnt q + (if w = .null then 0 else 1) := by
      intro w q; cases w <;> simp [own_cnt]
    show own_cnt (v :: r.set i (.ref f)) = _
    rw [hc, hc, ih]; omega
theorem own_rset {vs : List Value} (h : ∀ jj, (vs.getD jj .null).isRef = true) (i : Nat) (f : Addr) : ∀ jj, ((vs.set i (.ref f)).getD jj .null).isRef = true := by
  intro jj
  by_cases e : i = jj
  · subst e
    by_cases hl : i < vs.length
    · simp [List.getD, hl]; rfl
    · have := h i; simpa [List.getD, hl] using this
  · have := h jj
    simpa [List.getD, List.getElem?_set, e] using this
theorem own_tr {a b k : Int32} (h : ¬ a < k) (hab : a < b) : ¬ b < k := by
  rw [Int32.lt_iff_toInt_lt] at *; omega
theorem own_hm {n : Int32} {N : Nat} {sh : Int32} (h : own_tb n N sh) (pg : Int32) : ∃ i : Nat, i < N ∧ own_home pg sh = Int32.ofNat i := by
  rcases h with ⟨-, rfl, rfl⟩ | ⟨-, rfl, rfl⟩
  · exact own_ush (pg * (-1640531527 : Int32)) _ 28 (by decide) (by decide) (by decide)
  · exact own_ush (pg * (-1640531527 : Int32)) _ 27 (by decide) (by decide) (by decide)
def own_d (h p : Nat) : Nat := (p + 16 - h) % 16
theorem own_gs (vs : List Value) (i j : Nat) (v : Value) (h : i < vs.length) : (vs.set i v).getD j .null = if i = j then v else vs.getD j .null := by
  by_cases e : i = j
  · subst e; simp [List.getD, h]
  · simp [List.getD, List.getElem?_set, e]
/-- each frame once; from its home to its place no empty slot -/
def own_TI (hm : Addr → Nat) (vs : List Value) : Prop :=
  vs.length = 16 ∧ (∀ p q f, p < 16 → q < 16 → vs.getD p .null = .ref f → vs.getD q .null = .ref f → p = q) ∧
  (∀ p f q, p < 16 → vs.getD p .null = .ref f → q < 16 → own_d (hm f) q < own_d (hm f) p → vs.getD q .null ≠ .null)
theorem own_TI_put {hm : Addr → Nat} {vs : List Value} {f : Addr} {ix : Nat} (T : own_TI hm vs) (hf : ∀ p, p < 16 → vs.getD p .null ≠ .ref f) (hix : ix < 16) (hp : ∀ q, q < 16 → own_d (hm f) q < own_d (hm f) ix → vs.getD q .null ≠ .null) : own_TI hm (vs.set ix (.ref f)) := by
  obtain ⟨hl, hi, hq⟩ := T
  have hl' : ix < vs.length := by omega
  refine ⟨by rw [List.length_set]; exact hl, ?_, ?_⟩
  · intro p q g h1 h2 e1 e2
    rw [own_gs _ _ _ _ hl'] at e1 e2
    by_cases c1 : ix = p
    · by_cases c2 : ix = q
      · omega
      · rw [if_pos c1] at e1; rw [if_neg c2] at e2
        cases e1; exact absurd e2 (hf q h2)
    · rw [if_neg c1] at e1
      by_cases c2 : ix = q
      · rw [if_pos c2] at e2; cases e2; exact absurd e1 (hf p h1)
      · rw [if_neg c2] at e2; exact hi p q g h1 h2 e1 e2
  · intro p g q h1 e1 h2 hd
    rw [own_gs _ _ _ _ hl'] at e1 ⊢
    by_cases c2 : ix = q
    · rw [if_pos c2]; exact fun z => nomatch z
    · rw [if_neg c2]
      by_cases c1 : ix = p
      · rw [if_pos c1] at e1; cases e1; subst c1; exact hp q h2 hd
      · rw [if_neg c1] at e1; exact hq p g q h1 e1 h2 hd
/-- the table with a hole, seen up to the slot s; z0: an empty slot ahead -/
def own_J (hm : Addr → Nat) (vs : List Value) (hole s z0 : Nat) : Prop :=
  vs.length = 16 ∧ (∀ p q f, p < 16 → q < 16 → vs.getD p .null = .ref f → vs.getD q .null = .ref f → p = q) ∧
  (hole < 16 ∧ s < 16 ∧ z0 < 16 ∧ vs.getD hole .null = .null ∧ vs.getD z0 .null = .null ∧ z0 ≠ hole ∧ s ≠ hole ∧ own_d hole s ≤ own_d hole z0) ∧
  (∀ p f q, p < 16 → vs.getD p .null = .ref f → q < 16 → own_d (hm f) q < own_d (hm f) p → vs.getD q .null ≠ .null ∨ (q = hole ∧ own_d hole s ≤ own_d hole p))
theorem own_J_start {hm : Addr → Nat} {vs : List Value} {f : Addr} {hole z0 : Nat} (T : own_TI hm vs) (hh : hole < 16) (e : vs.getD hole .null = .ref f) (hz : z0 < 16) (ez : vs.getD z0 .null = .null) : own_J hm (vs.set hole .null) hole ((hole + 1) % 16) z0 := by
  obtain ⟨hl, hi, hq⟩ := T
  have hl' : hole < vs.length := by omega
  have hne : z0 ≠ hole := fun q => by rw [q, e] at ez; exact nomatch ez
  refine ⟨by rw [List.length_set]; exact hl, ?_, ⟨hh, by omega, hz, ?_, ?_, hne, by omega, ?_⟩, ?_⟩
  · intro p q g h1 h2 e1 e2
    rw [own_gs _ _ _ _ hl'] at e1 e2
    by_cases c1 : hole = p
    · rw [if_pos c1] at e1; exact nomatch e1
    · by_cases c2 : hole = q
      · rw [if_pos c2] at e2; exact nomatch e2
      · rw [if_neg c1] at e1; rw [if_neg c2] at e2; exact hi p q g h1 h2 e1 e2
  · rw [own_gs _ _ _ _ hl', if_pos rfl]
  · rw [own_gs _ _ _ _ hl', if_neg (fun q => hne q.symm)]; exact ez
  · unfold own_d; omega
  · intro p g q h1 e1 h2 hd
    rw [own_gs _ _ _ _ hl'] at e1 ⊢
    by_cases c1 : hole = p
    · rw [if_pos c1] at e1; exact nomatch e1
    · rw [if_neg c1] at e1
      by_cases c2 : hole = q
      · right; refine ⟨c2.symm, ?_⟩; unfold own_d; omega
      · left; rw [if_neg c2]; exact hq p g q h1 e1 h2 hd
theorem own_J_end {hm : Addr → Nat} {vs : List Value} {hole s z0 : Nat} (hhm : ∀ f, hm f < 16) (J : own_J hm vs hole s z0) (e : vs.getD s .null = .null) : own_TI hm vs := by
  obtain ⟨hl, hi, ⟨h1, h2, h3, h4, h5, h6, h7, h8⟩, ha⟩ := J
  refine ⟨hl, hi, fun p f q hp ep hq hd => ?_⟩
  rcases ha p f q hp ep hq hd with r | ⟨rfl, r⟩
  · exact r
  · exfalso
    have hps : p ≠ s := fun z => by rw [z, e] at ep; exact nomatch ep
    have hf := hhm f
    have hx : own_d (hm f) s < own_d (hm f) p := by unfold own_d at *; omega
    rcases ha p f s hp ep h2 hx with r2 | ⟨r2, -⟩
    · exact r2 e
    · exact h7 r2
theorem own_J_skip {hm : Addr → Nat} {vs : List Value} {hole s z0 : Nat} {g : Addr} (hhm : ∀ f, hm f < 16) (J : own_J hm vs hole s z0) (e : vs.getD s .null = .ref g) (c : own_d (hm g) s < own_d hole s) : own_J hm vs hole ((s + 1) % 16) z0 := by
  obtain ⟨hl, hi, ⟨h1, h2, h3, h4, h5, h6, h7, h8⟩, ha⟩ := J
  have hsz : s ≠ z0 := fun z => by rw [z, h5] at e; exact nomatch e
  refine ⟨hl, hi, ⟨h1, by omega, h3, h4, h5, h6, ?_, ?_⟩, ?_⟩
  · unfold own_d at *; omega
  · unfold own_d at *; omega
  · intro p f q hp ep hq hd
    rcases ha p f q hp ep hq hd with r | ⟨rfl, r⟩
    · exact Or.inl r
    · right
      refine ⟨rfl, ?_⟩
      have hf := hhm f
      by_cases hps : p = s
      · subst hps
        rw [e] at ep; cases ep
        exfalso; unfold own_d at *; omega
      · unfold own_d at *; omega
theorem own_J_move {hm : Addr → Nat} {vs : List Value} {hole s z0 : Nat} {g : Addr} (hhm : ∀ f, hm f < 16) (J : own_J hm vs hole s z0) (e : vs.getD s .null = .ref g) (c : ¬ own_d (hm g) s < own_d hole s) : own_J hm ((vs.set hole (.ref g)).set s .null) s ((s + 1) % 16) z0 := by
  obtain ⟨hl, hi, ⟨h1, h2, h3, h4, h5, h6, h7, h8⟩, ha⟩ := J
  have hsz : s ≠ z0 := fun z => by rw [z, h5] at e; exact nomatch e
  have hl1 : hole < vs.length := by omega
  have hl2 : s < (vs.set hole (.ref g)).length := by rw [List.length_set]; omega
  have hg : ∀ j, ((vs.set hole (.ref g)).set s .null).getD j .null = if s = j then .null else if hole = j then .ref g else vs.getD j .null := fun j => by
    rw [own_gs _ _ _ _ hl2, own_gs _ _ _ _ hl1]
  refine ⟨by rw [List.length_set, List.length_set]; exact hl, ?_, ⟨h2, by omega, h3, ?_, ?_, fun z => hsz z.symm, by omega, ?_⟩, ?_⟩
  · intro p q f hp hq e1 e2
    rw [hg] at e1 e2
    by_cases c1 : s = p
    · rw [if_pos c1] at e1; exact nomatch e1
    · by_cases c2 : s = q
      · rw [if_pos c2] at e2; exact nomatch e2
      · rw [if_neg c1] at e1; rw [if_neg c2] at e2
        by_cases d1 : hole = p
        · by_cases d2 : hole = q
          · omega
          · rw [if_pos d1] at e1; rw [if_neg d2] at e2; cases e1
            exact absurd (hi q s g hq h2 e2 e) (fun z => c2 z.symm)
        · rw [if_neg d1] at e1
          by_cases d2 : hole = q
          · rw [if_pos d2] at e2; cases e2
            exact absurd (hi p s g hp h2 e1 e) (fun z => c1 z.symm)
          · rw [if_neg d2] at e2; exact hi p q f hp hq e1 e2
  · rw [hg, if_pos rfl]
  · rw [hg, if_neg hsz, if_neg (fun z => h6 z.symm)]; exact h5
  · unfold own_d; omega
  · intro p f q hp ep hq hd
    rw [hg] at ep ⊢
    have hf := hhm f
    by_cases c1 : s = p
    · rw [if_pos c1] at ep; exact nomatch ep
    · rw [if_neg c1] at ep
      by_cases c2 : s = q
      · right; refine ⟨c2.symm, ?_⟩; unfold own_d; omega
      · left
        rw [if_neg c2]
        by_cases d2 : hole = q
        · rw [if_pos d2]; exact fun z => nomatch z
        · rw [if_neg d2]
          by_cases d1 : hole = p
          · rw [if_pos d1] at ep; cases ep
            have hx : own_d (hm g) q < own_d (hm g) s := by unfold own_d at *; omega
            rcases ha s g q h2 e hq hx with r | ⟨r, -⟩
            · exact r
            · exact absurd r.symm d2
          · rw [if_neg d1] at ep
            rcases ha p f q hp ep hq hd with r | ⟨r, -⟩
            · exact r
            · exact absurd r.symm d2
def own_R (vs : List Value) (g : Addr) : Prop := ∃ p, p < 16 ∧ vs.getD p .null = .ref g
theorem own_R_put {vs : List Value} {ix : Nat} {f g : Addr} (hl : vs.length = 16) (hix : ix < 16) (e : vs.getD ix .null = .null) : own_R (vs.set ix (.ref f)) g ↔ g = f ∨ own_R vs g := by
  have hl' : ix < vs.length := by omega
  constructor
  · rintro ⟨p, hp, ep⟩
    rw [own_gs _ _ _ _ hl'] at ep
    by_cases c : ix = p
    · rw [if_pos c] at ep; cases ep; exact Or.inl rfl
    · rw [if_neg c] at ep; exact Or.inr ⟨p, hp, ep⟩
  · rintro (rfl | ⟨p, hp, ep⟩)
    · exact ⟨ix, hix, by rw [own_gs _ _ _ _ hl', if_pos rfl]⟩
    · refine ⟨p, hp, ?_⟩
      rw [own_gs _ _ _ _ hl', if_neg (fun z => by rw [← z, e] at ep; exact nomatch ep)]; exact ep
theorem own_R_del {hm : Addr → Nat} {vs : List Value} {hole : Nat} {f g : Addr} (T : own_TI hm vs) (hh : hole < 16) (e : vs.getD hole .null = .ref f) : own_R (vs.set hole .null) g ↔ g ≠ f ∧ own_R vs g := by
  obtain ⟨hl, hi, -⟩ := T
  have hl' : hole < vs.length := by omega
  constructor
  · rintro ⟨p, hp, ep⟩
    rw [own_gs _ _ _ _ hl'] at ep
    by_cases c : hole = p
    · rw [if_pos c] at ep; exact nomatch ep
    · rw [if_neg c] at ep
      exact ⟨fun z => by subst z; exact c (hi hole p g hh hp e ep), p, hp, ep⟩
  · rintro ⟨hn, p, hp, ep⟩
    refine ⟨p, hp, ?_⟩
    rw [own_gs _ _ _ _ hl', if_neg (fun z => by rw [← z, e] at ep; cases ep; exact hn rfl)]; exact ep
theorem own_R_move {vs : List Value} {hole s : Nat} {f g : Addr} (hl : vs.length = 16) (h1 : hole < 16) (h2 : s < 16) (hne : s ≠ hole) (eh : vs.getD hole .null = .null) (e : vs.getD s .null = .ref f) : own_R ((vs.set hole (.ref f)).set s .null) g ↔ own_R vs g := by
  have hl1 : hole < vs.length := by omega
  have hl2 : s < (vs.set hole (.ref f)).length := by rw [List.length_set]; omega
  have hg : ∀ j, ((vs.set hole (.ref f)).set s .null).getD j .null = if s = j then .null else if hole = j then .ref f else vs.getD j .null := fun j => by
    rw [own_gs _ _ _ _ hl2, own_gs _ _ _ _ hl1]
  constructor
  · rintro ⟨p, hp, ep⟩
    rw [hg] at ep
    by_cases c : s = p
    · rw [if_pos c] at ep; exact nomatch ep
    · rw [if_neg c] at ep
      by_cases d : hole = p
      · rw [if_pos d] at ep; cases ep; exact ⟨s, h2, e⟩
      · rw [if_neg d] at ep; exact ⟨p, hp, ep⟩
  · rintro ⟨p, hp, ep⟩
    by_cases c : s = p
    · subst c; rw [e] at ep; cases ep
      exact ⟨hole, h1, by rw [hg, if_neg hne, if_pos rfl]⟩
    · exact ⟨p, hp, by rw [hg, if_neg c, if_neg (fun z => by rw [← z, eh] at ep; exact nomatch ep)]; exact ep⟩
def own_hmf (pgs : Addr → Int32) (f : Addr) : Nat := (own_home (pgs f) (28 : Int32)).toNatClampNeg
theorem own_hme (pg : Int32) : own_home pg (28 : Int32) = Int32.ofNat (own_home pg (28 : Int32)).toNatClampNeg ∧ (own_home pg (28 : Int32)).toNatClampNeg < 16 := by
  obtain ⟨i, hi, e⟩ := own_hm (n := 16) (N := 16) (sh := 28) (Or.inl ⟨rfl, rfl, rfl⟩) pg
  rw [e, own_ixx i (by omega)]
  exact ⟨rfl, hi⟩
theorem own_hlt (pgs : Addr → Int32) (f : Addr) : own_hmf pgs f < 16 := (own_hme (pgs f)).2
theorem own_scan {hN i : Nat} {P : Nat → Prop} (hh : hN < 16) (hi : i < 16) (h : ∀ q, q < 16 → own_d hN q < own_d hN i → P q) (e : P i) : ∀ q, q < 16 → own_d hN q < own_d hN ((i + 1) % 16) → P q := fun q hq hd => by
  by_cases c : q = i
  · subst c; exact e
  · exact h q hq (by unfold own_d at *; omega)
theorem own_cd : ∀ x : Nat, x < 16 → ∀ y : Nat, y < 16 → ((Int32.ofNat x) - (Int32.ofNat y)) &&& ((16 : Int32) - (1 : Int32)) = Int32.ofNat (own_d y x) := by decide +kernel
theorem own_clt : ∀ x : Nat, x < 16 → ∀ y : Nat, y < 16 → ((Int32.ofNat x) < (Int32.ofNat y) ↔ x < y) := by decide +kernel
theorem own_dlt (x y : Nat) : own_d x y < 16 := by unfold own_d; omega
theorem own_cmp {sl hl hm : Nat} (h1 : sl < 16) (h2 : hl < 16) (h3 : hm < 16) : (((Int32.ofNat sl) - (Int32.ofNat hm)) &&& ((16 : Int32) - (1 : Int32))) < (((Int32.ofNat sl) - (Int32.ofNat hl)) &&& ((16 : Int32) - (1 : Int32))) ↔ own_d hm sl < own_d hl sl := by
  rw [own_cd sl h1 hm h3, own_cd sl h1 hl h2, own_clt _ (own_dlt _ _) _ (own_dlt _ _)]
theorem own_miss {pgs : Addr → Int32} {vs : List Value} {pg : Int32} {i : Nat} (T : own_TI (own_hmf pgs) vs) (hi : i < 16) (hs : ∀ q, q < 16 → own_d (own_home pg (28 : Int32)).toNatClampNeg q < own_d (own_home pg (28 : Int32)).toNatClampNeg i → ∃ g, vs.getD q .null = .ref g ∧ pgs g ≠ pg) (e : vs.getD i .null = .null) : ∀ g, own_R vs g → pgs g ≠ pg := by
  rintro g ⟨p, hp, ep⟩ hpg
  have hh : own_hmf pgs g = (own_home pg (28 : Int32)).toNatClampNeg := by unfold own_hmf; rw [hpg]
  have hlt := (own_hme pg).2
  rcases Nat.lt_trichotomy (own_d (own_home pg (28 : Int32)).toNatClampNeg p) (own_d (own_home pg (28 : Int32)).toNatClampNeg i) with c | c | c
  · obtain ⟨g', e1, e2⟩ := hs p hp c
    rw [ep] at e1; cases e1; exact e2 hpg
  · have : p = i := by unfold own_d at c; omega
    rw [this, e] at ep; exact nomatch ep
  · exact T.2.2 p g i hp ep hi (by rw [hh]; exact c) e
theorem own_nr {vs : List Value} {f : Addr} (h : ¬ own_R vs f) : ∀ p, p < 16 → vs.getD p .null ≠ .ref f := fun p hp e => h ⟨p, hp, e⟩
theorem own_fnd {hN i pf : Nat} (hh : hN < 16) (hi : i < 16) (hp : pf < 16) (hne : i ≠ pf) (hle : own_d hN i ≤ own_d hN pf) : own_d hN ((i + 1) % 16) ≤ own_d hN pf ∧ own_d hN pf - own_d hN ((i + 1) % 16) < own_d hN pf - own_d hN i := by
  unfold own_d at *; omega
theorem own_dz {s z0 : Nat} (h1 : s < 16) (h2 : z0 < 16) (h : s ≠ z0) : own_d ((s + 1) % 16) z0 < own_d s z0 := by unfold own_d; omega
def own_r5 (i : Int32) : Prop := ¬ i < 0 ∧ i < 5
def own_sel {A : Type} (x0 x1 x2 x3 x4 : A) (i : Int32) : A := if i = 0 then x0 else if i = 1 then x1 else if i = 2 then x2 else if i = 3 then x3 else x4
theorem own_five {i : Int32} (h : own_r5 i) : i = 0 ∨ i = 1 ∨ i = 2 ∨ i = 3 ∨ i = 4 := by
  obtain ⟨h1, h2⟩ := h
  rw [Int32.lt_iff_toInt_lt] at h1 h2
  have a0 : (0 : Int32).toInt = 0 := by decide
  have a1 : (1 : Int32).toInt = 1 := by decide
  have a2 : (2 : Int32).toInt = 2 := by decide
  have a3 : (3 : Int32).toInt = 3 := by decide
  have a4 : (4 : Int32).toInt = 4 := by decide
  have a5 : (5 : Int32).toInt = 5 := by decide
  simp only [← Int32.toInt_inj]
  omega
theorem own_selE (f0 f1 f2 f3 f4 : Addr) {i : Int32} (h : own_r5 i) : ([(.ref f0), (.ref f1), (.ref f2), (.ref f3), (.ref f4)] : List Value).getD i.toNatClampNeg .null = .ref (own_sel f0 f1 f2 f3 f4 i) := by
  rcases own_five h with rfl | rfl | rfl | rfl | rfl <;> rfl
theorem own_selP {A : Type} {P : A → Prop} {x0 x1 x2 x3 x4 : A} (h0 : P x0) (h1 : P x1) (h2 : P x2) (h3 : P x3) (h4 : P x4) (i : Int32) : P (own_sel x0 x1 x2 x3 x4 i) := by
  unfold own_sel; repeat' split
  all_goals assumption
theorem own_selI {A : Type} {x0 x1 x2 x3 x4 : A} (h01 : x0 ≠ x1) (h02 : x0 ≠ x2) (h03 : x0 ≠ x3) (h04 : x0 ≠ x4) (h12 : x1 ≠ x2) (h13 : x1 ≠ x3) (h14 : x1 ≠ x4) (h23 : x2 ≠ x3) (h24 : x2 ≠ x4) (h34 : x3 ≠ x4) :
    ∀ i j, own_r5 i → own_r5 j → own_sel x0 x1 x2 x3 x4 i = own_sel x0 x1 x2 x3 x4 j → i = j := by
  intro i j hi hj e
  rcases own_five hi with rfl | rfl | rfl | rfl | rfl <;> rcases own_five hj with rfl | rfl | rfl | rfl | rfl <;> first | rfl | (exfalso; revert e; first | exact h01 | exact h02 | exact h03 | exact h04 | exact h12 | exact h13 | exact h14 | exact h23 | exact h24 | exact h34 | exact h01.symm | exact h02.symm | exact h03.symm | exact h04.symm | exact h12.symm | exact h13.symm | exact h14.symm | exact h23.symm | exact h24.symm | exact h34.symm)
theorem own_chk {F : Int32 → Addr} {pgs : Addr → Int32} {vs : List Value} {iv jv tw gn m : Int32} (hi : own_r5 iv) (hj : own_r5 jv) (hm : own_r5 m) (hgn : gn = (if iv = m then (1 : Int32) else (if tw = (0 : Int32) then (0 : Int32) else (if jv = m then (1 : Int32) else (0 : Int32)))))
    (inj : ∀ i j, own_r5 i → own_r5 j → F i = F j → i = j) (pinj : ∀ i j, own_r5 i → own_r5 j → pgs (F i) = pgs (F j) → i = j)
    (hR : ∀ g, own_R vs g ↔ ((∃ i, own_r5 i ∧ g = F i) ∧ g ≠ F iv ∧ ¬ (¬ tw = (0 : Int32) ∧ g = F jv))) :
    (¬ gn = (0 : Int32) → ∀ g, own_R vs g → pgs g ≠ pgs (F m)) ∧ (gn = (0 : Int32) → own_R vs (F m) ∧ ∀ g, own_R vs g → pgs g = pgs (F m) → g = F m) := by
  constructor
  · intro h g hg e
    obtain ⟨⟨i, hir, rfl⟩, h1, h2⟩ := (hR g).mp hg
    have e1 := pinj i m hir hm e
    subst e1
    by_cases c1 : iv = i
    · subst c1; exact h1 rfl
    · rw [hgn, if_neg c1] at h
      by_cases c2 : tw = 0
      · rw [if_pos c2] at h; exact h rfl
      · rw [if_neg c2] at h
        by_cases c3 : jv = i
        · subst c3; exact h2 ⟨c2, rfl⟩
        · rw [if_neg c3] at h; exact h rfl
  · intro h
    have c1 : ¬ iv = m := fun c => by rw [hgn, if_pos c] at h; exact absurd h (by decide)
    rw [hgn, if_neg c1] at h
    refine ⟨(hR _).mpr ⟨⟨m, hm, rfl⟩, fun e => c1 (inj m iv hm hi e).symm, fun ⟨c2, e⟩ => ?_⟩, fun g hg e => ?_⟩
    · rw [if_neg c2, if_pos (inj m jv hm hj e).symm] at h; exact absurd h (by decide)
    · obtain ⟨⟨i, hir, rfl⟩, -, -⟩ := (hR g).mp hg
      rw [pinj i m hir hm e]
theorem own_d0 (h q : Nat) : ¬ own_d h q < own_d h h := by unfold own_d; omega
theorem own_d00 (h q : Nat) : own_d h h ≤ own_d h q := by unfold own_d; omega
def own_GoodP (Z : State) (h : Heap) (pgs : Addr → Int32) (vs : List Value) : Prop := ∀ v ∈ vs, v = .null ∨ ∃ f : Addr, v = .ref f ∧ Exa Z h f "com/example/redoubt/redoubt/storage/PageCache$Frame" ∧ Fld Z h f "com/example/redoubt/redoubt/storage/PageCache$Frame" "page" "I" (.int (pgs f))
theorem own_goodp_ext {Z : State} {h h' : Heap} {pgs : Addr → Int32} {vs : List Value} (G : own_GoodP Z h pgs vs) (E : Ext h h') : own_GoodP Z h' pgs vs := fun v hv => by
  rcases G v hv with q | ⟨f, e, E1, F1⟩
  · exact Or.inl q
  · exact Or.inr ⟨f, e, E1.ext E, F1.ext E⟩
theorem own_goodp_keep {Z : State} {h h' : Heap} {pgs : Addr → Int32} {vs : List Value} {ws : List Addr} (G : own_GoodP Z h pgs vs) (K : Keep h h' ws) (q : ∀ f, Exa Z h f "com/example/redoubt/redoubt/storage/PageCache$Frame" → f ∉ ws) : own_GoodP Z h' pgs vs := fun v hv => by
  rcases G v hv with r | ⟨f, e, E1, F1⟩
  · exact Or.inl r
  · exact Or.inr ⟨f, e, E1.keep K, F1.keep K (q f E1)⟩
theorem own_goodp_wr {Z : State} {h h' : Heap} {pgs : Addr → Int32} {vs : List Value} {o : Addr} {sl : Nat} {w : Value} (G : own_GoodP Z h pgs vs) (W : Wr h h' o sl w) (q : ∀ f, Exa Z h f "com/example/redoubt/redoubt/storage/PageCache$Frame" → f ≠ o) : own_GoodP Z h' pgs vs := fun v hv => by
  rcases G v hv with r | ⟨f, e, E1, F1⟩
  · exact Or.inl r
  · exact Or.inr ⟨f, e, E1.wr W, F1.other W (Or.inl (q f E1))⟩
theorem own_goodp_set {Z : State} {h : Heap} {pgs : Addr → Int32} {vs : List Value} {f : Addr} (G : own_GoodP Z h pgs vs) (E : Exa Z h f "com/example/redoubt/redoubt/storage/PageCache$Frame") (F : Fld Z h f "com/example/redoubt/redoubt/storage/PageCache$Frame" "page" "I" (.int (pgs f))) (i : Nat) : own_GoodP Z h pgs (vs.set i (.ref f)) := fun v hv => by
  rcases List.mem_or_eq_of_mem_set hv with q | q
  · exact G v q
  · exact Or.inr ⟨f, q, E, F⟩
theorem own_goodp_nul {Z : State} {h : Heap} {pgs : Addr → Int32} {vs : List Value} (G : own_GoodP Z h pgs vs) (i : Nat) : own_GoodP Z h pgs (vs.set i .null) := fun v hv => by
  rcases List.mem_or_eq_of_mem_set hv with q | q
  · exact G v q
  · exact Or.inl q
theorem own_goodp_at {Z : State} {h : Heap} {pgs : Addr → Int32} {vs : List Value} (G : own_GoodP Z h pgs vs) (hl : vs.length = 16) {i : Nat} (hi : i < 16) : vs.getD i .null = .null ∨ ∃ f : Addr, vs.getD i .null = .ref f ∧ Exa Z h f "com/example/redoubt/redoubt/storage/PageCache$Frame" ∧ Fld Z h f "com/example/redoubt/redoubt/storage/PageCache$Frame" "page" "I" (.int (pgs f)) := by
  have hi' : i < vs.length := by omega
  have e : vs.getD i .null = vs[i] := by simp [List.getD, hi']
  rw [e]; exact G _ (List.getElem_mem hi')
theorem own_goodp_ref {Z : State} {h : Heap} {pgs : Addr → Int32} {vs : List Value} (G : own_GoodP Z h pgs vs) (hl : vs.length = 16) {i : Nat} (hi : i < 16) : (vs.getD i .null).isRef = true := by
  rcases own_goodp_at G hl hi with q | ⟨f, q, -, -⟩ <;> rw [q] <;> rfl
theorem d5_17 : decode prog_47_method_8_code 17 = .ok (.aload_n 0, 1) := by decide +kernel
theorem d5_18 : decode prog_47_method_8_code 18 = .ok (.getfield 11, 3) := by decide +kernel
theorem d5_21 : decode prog_47_method_8_code 21 = .ok (.iload_n 3, 1) := by decide +kernel
theorem d5_22 : decode prog_47_method_8_code 22 = .ok (.aaload, 1) := by decide +kernel
theorem d5_23 : decode prog_47_method_8_code 23 = .ok (.ifnull 12, 3) := by decide +kernel
theorem d5_26 : decode prog_47_method_8_code 26 = .ok (.iload_n 3, 1) := by decide +kernel
theorem d5_27 : decode prog_47_method_8_code 27 = .ok (.iconst 1, 1) := by decide +kernel
theorem d5_28 : decode prog_47_method_8_code 28 = .ok (.iadd, 1) := by decide +kernel
theorem d5_29 : decode prog_47_method_8_code 29 = .ok (.iload_n 2, 1) := by decide +kernel
theorem d5_30 : decode prog_47_method_8_code 30 = .ok (.iand, 1) := by decide +kernel
theorem d5_31 : decode prog_47_method_8_code 31 = .ok (.istore_n 3, 1) := by decide +kernel
theorem d5_32 : decode prog_47_method_8_code 32 = .ok (.goto (-15), 3) := by decide +kernel
set_option maxRecDepth 65536 in
set_option maxHeartbeats 40000000 in
theorem loopPlace {p : Program} {l : Launch} {e : Env} {R : Room} {s : State} {m : MethodId} {args : Array Value} {below : List Frame} {meth : Method} {c : Code} {cells slots : Nat} {Z : State} {a0 : Array Value} {n0 : Nat}
    (hx : p.tables.exec = Jvm.exec) (hZ : Z.Warmed39 s.vm) (hw : ∀ d ∈ tables_1, d.before a0 Z = true) (hby : c.code = prog_47_method_8_code) (hml : c.maxLocals = 4) (hown : s.vm.findClass "com/example/redoubt/redoubt/storage/FrameTable" = some m.cls) :
    ∀ (kM : Nat) (T0 : State) (locs : List Loc) (h0 : Heap) (tb : Addr) (f : Addr) (i : Nat) (a : Addr) (k : ClassId) (vs : List Value) (j0 : Nat) (pgs : Addr → Int32) (hN : Nat) (X0 : Stand p l e R s m args below meth c T0 locs cells slots) (e0 : T0.heap = h0) (N0 : Fr n0 locs) (Z0 : n0 ≤ h0.size) (F_slots_tb : Fld Z h0 tb "com/example/redoubt/redoubt/storage/FrameTable" "slots" "[Lcom/example/redoubt/redoubt/storage/PageCache$Frame;" (.ref a)) (V_a : Arv Z h0 a k (.object "com/example/redoubt/redoubt/storage/PageCache$Frame") (16 : Int32) vs .null) (G_0 : own_GoodP Z h0 pgs vs) (T : own_TI (own_hmf pgs) vs) (hi : i < 16) (hj : j0 < 16) (hj0 : vs.getD j0 .null = .null) (hh : hN < 16) (hsc : ∀ q, q < 16 → own_d hN q < own_d hN i → vs.getD q .null ≠ .null) (hkM : (j0 + 16 - i) % 16 = kM),
      ∃ (T' : State) (locs' : List Loc) (ix : Nat), Stand p l e R s m args below meth c T' locs' cells slots ∧ Fr n0 locs' ∧ T'.heap = h0 ∧ (ix < 16) ∧ (vs.getD ix .null = .null) ∧ (∀ q, q < 16 → own_d hN q < own_d hN ix → vs.getD q .null ≠ .null) ∧ ∀ t, Steps p.tables e below (T'.setTop (mkF m 35 #[.val (.ref tb), .val (.ref f), .val (.int ((16 : Int32) - (1 : Int32))), .val (.int (Int32.ofNat ix))] [])) t → Steps p.tables e below (T0.setTop (mkF m 17 #[.val (.ref tb), .val (.ref f), .val (.int ((16 : Int32) - (1 : Int32))), .val (.int (Int32.ofNat i))] [])) t := by
  intro kM
  induction kM using Nat.strongRecOn with
  | ind kM ih =>
  intro T0 locs h0 tb f i a k vs j0 pgs hN X0 e0 N0 Z0 F_slots_tb V_a G_0 T hi hj hj0 hh hsc hkM
  subst hkM
  have pre0 : ∀ t, Steps p.tables e below (T0.setTop (mkF m 17 #[.val (.ref tb), .val (.ref f), .val (.int ((16 : Int32) - (1 : Int32))), .val (.int (Int32.ofNat i))] [])) t → Steps p.tables e below (T0.setTop (mkF m 17 #[.val (.ref tb), .val (.ref f), .val (.int ((16 : Int32) - (1 : Int32))), .val (.int (Int32.ofNat i))] [])) t := fun t kk => kk
  obtain ⟨vv, hvv⟩ : ∃ z, z = vs.getD i .null := ⟨_, rfl⟩
  have hr_vv : vv.isRef = true := by rw [hvv]; exact own_goodp_ref G_0 (T.1) hi
  obtain ⟨T45, X45, e45, st45⟩ := getF X0 hx hZ hown (host := "") (Or.inl (hw _ (List.mem_of_getElem? (i := 25) rfl))) Via.refl e0 F_slots_tb (g := (mkF m 18 #[.val (.ref tb), .val (.ref f), .val (.int ((16 : Int32) - (1 : Int32))), .val (.int (Int32.ofNat i))] [(.ref tb)])) rfl rfl (hb hby d5_18)
  obtain ⟨cl46, Ar46, q46, Sz46, Nn46, H46, G46⟩ := id V_a
  have hin46 : ¬ ((Int32.ofNat i) < 0 ∨ cl46.slots.size ≤ ((Int32.ofNat i)).toNatClampNeg) := (inb_of Sz46 (own_in16 i hi))
  have hat46 : cl46.slots[((Int32.ofNat i)).toNatClampNeg]? = some vv := H46.at hin46 (by rw [own_ixx i (by omega), hvv])
  have pre47 : ∀ t, Steps p.tables e below (T45.setTop (mkF m 23 #[.val (.ref tb), .val (.ref f), .val (.int ((16 : Int32) - (1 : Int32))), .val (.int (Int32.ofNat i))] [vv])) t → Steps p.tables e below (T0.setTop (mkF m 17 #[.val (.ref tb), .val (.ref f), .val (.int ((16 : Int32) - (1 : Int32))), .val (.int (Int32.ofNat i))] [])) t := fun t kk => pre0 t (by
      show Steps p.tables e below (T0.setTop (mkF m 17 #[.val (.ref tb), .val (.ref f), .val (.int ((16 : Int32) - (1 : Int32))), .val (.int (Int32.ofNat i))] [])) _
      refine XS.aloadN X0.here hx rfl (hb hby d5_17) rfl rfl ?_
      show Steps p.tables e below (T0.setTop (mkF m 18 #[.val (.ref tb), .val (.ref f), .val (.int ((16 : Int32) - (1 : Int32))), .val (.int (Int32.ofNat i))] [(.ref tb)])) _
      refine st45 _ ?_
      show Steps p.tables e below (T45.setTop (mkF m 21 #[.val (.ref tb), .val (.ref f), .val (.int ((16 : Int32) - (1 : Int32))), .val (.int (Int32.ofNat i))] [(.ref a)])) _
      refine XS.iloadN X45.here hx rfl (hb hby d5_21) rfl ?_
      show Steps p.tables e below (T45.setTop (mkF m 22 #[.val (.ref tb), .val (.ref f), .val (.int ((16 : Int32) - (1 : Int32))), .val (.int (Int32.ofNat i))] [(.int (Int32.ofNat i)), (.ref a)])) _
      refine X45.aaload hx (j := (Int32.ofNat i)) (v := vv) (by rw [e45]; exact Ar46.1) (State.isArrayOf_alike hZ.alike Ar46.2.1) rfl Ar46.2.2 hin46 hat46 (g := (mkF m 22 #[.val (.ref tb), .val (.ref f), .val (.int ((16 : Int32) - (1 : Int32))), .val (.int (Int32.ofNat i))] [(.int (Int32.ofNat i)), (.ref a)])) rfl rfl (hb hby d5_22) _ ?_
      exact kk)
  by_cases hnull : vv = .null
  · have pre48 : ∀ t, Steps p.tables e below (T45.setTop (mkF m 35 #[.val (.ref tb), .val (.ref f), .val (.int ((16 : Int32) - (1 : Int32))), .val (.int (Int32.ofNat i))] [])) t → Steps p.tables e below (T0.setTop (mkF m 17 #[.val (.ref tb), .val (.ref f), .val (.int ((16 : Int32) - (1 : Int32))), .val (.int (Int32.ofNat i))] [])) t := fun t kk => pre47 t (by
        show Steps p.tables e below (T45.setTop (mkF m 23 #[.val (.ref tb), .val (.ref f), .val (.int ((16 : Int32) - (1 : Int32))), .val (.int (Int32.ofNat i))] [vv])) _
        refine Jvm.Free.XT.nullYes X45.here hx rfl (pc0 := 23) (pc' := 35) rfl (hb hby d5_23) rfl hnull (by decide) (by decide) ?_
        exact kk)
    exact ⟨T45, _, i, X45, N0, e45, hi, (by rw [← hvv]; exact hnull), hsc, pre48⟩
  · have pre49 : ∀ t, Steps p.tables e below (T45.setTop (mkF m 17 #[.val (.ref tb), .val (.ref f), .val (.int ((16 : Int32) - (1 : Int32))), .val (.int (((Int32.ofNat i) + (1 : Int32)) &&& ((16 : Int32) - (1 : Int32))))] [])) t → Steps p.tables e below (T0.setTop (mkF m 17 #[.val (.ref tb), .val (.ref f), .val (.int ((16 : Int32) - (1 : Int32))), .val (.int (Int32.ofNat i))] [])) t := fun t kk => pre47 t (by
        show Steps p.tables e below (T45.setTop (mkF m 23 #[.val (.ref tb), .val (.ref f), .val (.int ((16 : Int32) - (1 : Int32))), .val (.int (Int32.ofNat i))] [vv])) _
        refine Jvm.Free.XT.nullNo X45.here hx rfl (hb hby d5_23) rfl hr_vv hnull ?_
        show Steps p.tables e below (T45.setTop (mkF m 26 #[.val (.ref tb), .val (.ref f), .val (.int ((16 : Int32) - (1 : Int32))), .val (.int (Int32.ofNat i))] [])) _
        refine XS.iloadN X45.here hx rfl (hb hby d5_26) rfl ?_
        show Steps p.tables e below (T45.setTop (mkF m 27 #[.val (.ref tb), .val (.ref f), .val (.int ((16 : Int32) - (1 : Int32))), .val (.int (Int32.ofNat i))] [(.int (Int32.ofNat i))])) _
        refine XS.iconst X45.here hx rfl (hb hby d5_27) ?_
        show Steps p.tables e below (T45.setTop (mkF m 28 #[.val (.ref tb), .val (.ref f), .val (.int ((16 : Int32) - (1 : Int32))), .val (.int (Int32.ofNat i))] [(.int (1 : Int32)), (.int (Int32.ofNat i))])) _
        refine XS.iadd X45.here hx rfl (hb hby d5_28) rfl ?_
        show Steps p.tables e below (T45.setTop (mkF m 29 #[.val (.ref tb), .val (.ref f), .val (.int ((16 : Int32) - (1 : Int32))), .val (.int (Int32.ofNat i))] [(.int ((Int32.ofNat i) + (1 : Int32)))])) _
        refine XS.iloadN X45.here hx rfl (hb hby d5_29) rfl ?_
        show Steps p.tables e below (T45.setTop (mkF m 30 #[.val (.ref tb), .val (.ref f), .val (.int ((16 : Int32) - (1 : Int32))), .val (.int (Int32.ofNat i))] [(.int ((16 : Int32) - (1 : Int32))), (.int ((Int32.ofNat i) + (1 : Int32)))])) _
        refine XS.iand X45.here hx rfl (hb hby d5_30) rfl ?_
        show Steps p.tables e below (T45.setTop (mkF m 31 #[.val (.ref tb), .val (.ref f), .val (.int ((16 : Int32) - (1 : Int32))), .val (.int (Int32.ofNat i))] [(.int (((Int32.ofNat i) + (1 : Int32)) &&& ((16 : Int32) - (1 : Int32))))])) _
        refine XS.istoreN X45.here hx rfl (hb hby d5_31) rfl (l' := #[.val (.ref tb), .val (.ref f), .val (.int ((16 : Int32) - (1 : Int32))), .val (.int (((Int32.ofNat i) + (1 : Int32)) &&& ((16 : Int32) - (1 : Int32))))]) rfl ?_
        show Steps p.tables e below (T45.setTop (mkF m 32 #[.val (.ref tb), .val (.ref f), .val (.int ((16 : Int32) - (1 : Int32))), .val (.int (((Int32.ofNat i) + (1 : Int32)) &&& ((16 : Int32) - (1 : Int32))))] [])) _
        refine XS.goto X45.here hx rfl (pc0 := 32) (pc' := 17) rfl (hb hby d5_32) (by decide) (by decide) ?_
        exact kk)
    have eq50 : (((Int32.ofNat i) + (1 : Int32)) &&& ((16 : Int32) - (1 : Int32))) = (Int32.ofNat ((i + 1) % 16)) := own_nx16 i hi
    have pre51 : ∀ t, Steps p.tables e below (T45.setTop (mkF m 17 #[.val (.ref tb), .val (.ref f), .val (.int ((16 : Int32) - (1 : Int32))), .val (.int (Int32.ofNat ((i + 1) % 16)))] [])) t → Steps p.tables e below (T0.setTop (mkF m 17 #[.val (.ref tb), .val (.ref f), .val (.int ((16 : Int32) - (1 : Int32))), .val (.int (Int32.ofNat i))] [])) t := fun t kk => pre49 t (own_cast (fun zz : Int32 => T45.setTop (mkF m 17 #[.val (.ref tb), .val (.ref f), .val (.int ((16 : Int32) - (1 : Int32))), .val (.int zz)] [])) eq50 kk)
    have hp52 : own_TI (own_hmf pgs) vs := T
    have hp53 : ((i + 1) % 16) < 16 := Nat.mod_lt _ (by decide)
    have hp54 : j0 < 16 := hj
    have hp55 : vs.getD j0 .null = .null := hj0
    have hp56 : hN < 16 := hh
    have hp57 : ∀ q, q < 16 → own_d hN q < own_d hN ((i + 1) % 16) → vs.getD q .null ≠ .null := own_scan hh hi hsc (by rw [← hvv]; exact hnull)
    obtain ⟨T58, lc58, ix_58, X58, N58, e58, pu58_0, pu58_1, pu58_2, pre58⟩ := ih _ (own_dec (Or.inl ⟨rfl, rfl, rfl⟩ : own_tb 16 16 28) hi hj (fun q => hnull (by rw [hvv, q]; exact hj0))) T45 _ h0 tb f ((i + 1) % 16) a k vs j0 pgs hN X45 e45 N0 Z0 F_slots_tb V_a G_0 hp52 hp53 hp54 hp55 hp56 hp57 rfl
    exact ⟨T58, _, ix_58, X58, N58, e58, pu58_0, pu58_1, pu58_2, fun t kk => pre51 t (pre58 t kk)⟩
theorem d5_0 : decode prog_47_method_8_code 0 = .ok (.aload_n 0, 1) := by decide +kernel
theorem d5_1 : decode prog_47_method_8_code 1 = .ok (.getfield 11, 3) := by decide +kernel
theorem d5_4 : decode prog_47_method_8_code 4 = .ok (.arraylength, 1) := by decide +kernel
theorem d5_5 : decode prog_47_method_8_code 5 = .ok (.iconst 1, 1) := by decide +kernel
theorem d5_6 : decode prog_47_method_8_code 6 = .ok (.isub, 1) := by decide +kernel
theorem d5_7 : decode prog_47_method_8_code 7 = .ok (.istore_n 2, 1) := by decide +kernel
theorem d5_8 : decode prog_47_method_8_code 8 = .ok (.aload_n 0, 1) := by decide +kernel
theorem d5_9 : decode prog_47_method_8_code 9 = .ok (.aload_n 1, 1) := by decide +kernel
theorem d5_10 : decode prog_47_method_8_code 10 = .ok (.getfield 25, 3) := by decide +kernel
theorem d5_13 : decode prog_47_method_8_code 13 = .ok (.invokevirtual 21, 3) := by decide +kernel
theorem pd_0 : parseMethodDescriptor "(I)I" = some ⟨[.int], some .int⟩ := by decide +kernel
theorem own_found {Z : State} {a0 : Array Value} {K : String} {n : Nat} (w : (Cond.instantiable K n).before a0 Z = true) : ∃ t k, Z.vm.findClass K = some t ∧ Z.vm.classes[t]? = some k ∧ k.kind = .ordinary ∧ k.isInterface = false := by
  simp only [Cond.before, Cond.holds, Cond.value] at w
  cases hc : Z.vm.findClass K with
  | none => simp [hc] at w
  | some t =>
    cases hk : Z.vm.classes[t]? with
    | none => simp [hc, hk] at w
    | some k =>
      simp [hc, hk] at w
      exact ⟨t, k, rfl, hk, w.1.1.1, w.1.1.2.1⟩
/-- a private method by its contract, where the sheet bears no 'selects' word: that the class is no interface comes of 'instantiable' -/
theorem own_privBack {p : Program} {l : Launch} {e : Env} {R : Room} {s : State} {m : MethodId} {args : Array Value} {below : List Frame} {meth : Method} {c : Code} {T : State} {locs : List Loc} {cells slots : Nat}
    (X : Stand p l e R s m args below meth c T locs cells slots) (hx : p.tables.exec = Jvm.exec) {own : String} {index nn : Nat} {y : MethodName} {bytes : ByteArray} {maxL : Nat} {ret : Option FieldType}
    (hown : s.vm.findClass own = some m.cls) (hlink : (Cond.methodLink own index y).before args s = true) (hinst : (Cond.instanceMethod y).before args s = true) (hi : (Cond.instantiable y.cls nn).before args s = true)
    (hpriv : s.PrivateAt y) (hcode : (Cond.code y bytes maxL ret).before args s = true) (hy : y.cls ≠ "java/lang/invoke/MethodHandle" ∧ y.cls ≠ "java/lang/invoke/VarHandle")
    {W : Nat} {Pre : Pt → Array Value → Prop} {Post : Pt → Array Value → Option Value → Pt → Prop} (hK : Back l R p e below s args y 3 W Pre Post)
    {g : JFrame} (hg : g.method = m) (hsize : g.locals.size = c.maxLocals) {a : Addr} {cell : Cell} (hcell : T.heap[a]? = some cell) (hobj : ∀ q, cell.vm ≠ .statics q)
    {argsL rest : List Value} (hlen : ∀ sig, parseMethodDescriptor y.desc = some sig → argsL.length = sig.parameters.length)
    (hstack : g.stack = argsL.reverse ++ .ref a :: rest) (hW : 2 * g.monitorRoom + (rest.map fun v => v.category).sum ≤ W) (hdg : decode c.code g.pc = .ok (.invokevirtual index, 3))
    (hpre : ∀ vm₁, s.WarmedH vm₁ → Pre ⟨T.setVm vm₁, locs, cells, slots⟩ (.ref a :: argsL).toArray) :
    ∃ (v : Option Value) (vm₁ : Vm) (B : Pt), s.WarmedH vm₁ ∧ Stand p l e R s m args below meth c B.U B.locs B.cells B.slots ∧ Post ⟨T.setVm vm₁, locs, cells, slots⟩ (.ref a :: argsL).toArray v B ∧
      Steps p.tables e below (T.setTop g) (B.U.setTop { g with pc := g.pc + 3, stack := v.toList ++ rest }) := by
  obtain ⟨mk, mm, n1, n2, n3, n4⟩ := Cond.instanceMethod_spec hinst
  obtain ⟨mm', _, r1, -, -, -, -, -, -, r2⟩ := Cond.code_spec n1 hcode
  obtain rfl : mm = mm' := Option.some.inj (n2.symm.trans r1)
  obtain ⟨t, kt, f1, f2, -, f4⟩ := own_found hi
  obtain rfl : t = mk.cls := Option.some.inj (f1.symm.trans (findClass_of_methodNamed n1))
  obtain ⟨vm1, X1, st1⟩ := X.invokevirtual hx hown hlink n1 n2 n3 f2 f4 hy hcell hobj (selectMethod_private n2 (hpriv mk mm n1 n2)) n2 n4 f2 f4 hg (hlen _ r2) hstack hdg
  obtain ⟨v, B, X2, po, st2⟩ := hK m meth c ⟨T.setVm vm1, locs, cells, slots⟩ { g with stack := rest } (.invokevirtual index) mk (.ref a :: argsL).toArray X1 hg hsize hdg hW (X1.named n1) (hpre vm1 X1.warmed)
  refine ⟨v, vm1, B, X1.warmed, X2, po, ?_⟩
  have st0 : Steps p.tables e below (T.setTop g) _ := st1 _ fun acts => by rw [doInvoke_state]; exact Steps.refl _
  exact st0.trans st2
theorem d5_16 : decode prog_47_method_8_code 16 = .ok (.istore_n 3, 1) := by decide +kernel
theorem d5_35 : decode prog_47_method_8_code 35 = .ok (.aload_n 0, 1) := by decide +kernel
theorem d5_36 : decode prog_47_method_8_code 36 = .ok (.getfield 11, 3) := by decide +kernel
theorem d5_39 : decode prog_47_method_8_code 39 = .ok (.iload_n 3, 1) := by decide +kernel
theorem d5_40 : decode prog_47_method_8_code 40 = .ok (.aload_n 1, 1) := by decide +kernel
theorem d5_41 : decode prog_47_method_8_code 41 = .ok (.aastore, 1) := by decide +kernel
theorem d5_42 : decode prog_47_method_8_code 42 = .ok (.return_, 1) := by decide +kernel
theorem ef_rmPlace (m : MethodId) (x0 : Addr) (x1 : Addr) : entryFrame m #[(.ref x0), (.ref x1)] 4 = mkF m 0 #[.val (.ref x0), .val (.ref x1), .unset, .unset] [] := by first | (simp [entryFrame, mkF, argsToLocals, Value.category]; done) | rfl
def QPlace (Z : State) (tb : Addr) (f : Addr) (a : Addr) (k : ClassId) (vs : List Value) (j0 : Nat) (pgs : Addr → Int32) (h0 : Heap) (n0 : Nat) (v : Option Value) (h : Heap) (L : List Loc) : Prop := ∃ (ix : Nat), v = none ∧ Fr n0 L ∧ Keep h0 h [a] ∧ Arv Z h a k (.object "com/example/redoubt/redoubt/storage/PageCache$Frame") (16 : Int32) (vs.set ix (.ref f)) .null ∧ (ix < 16) ∧ (vs.getD ix .null = .null) ∧ (∀ q, q < 16 → own_d (own_hmf pgs f) q < own_d (own_hmf pgs f) ix → vs.getD q .null ≠ .null)
set_option maxRecDepth 65536 in
set_option maxHeartbeats 40000000 in
theorem rmPlace (l : Launch) (Z : State) (a0 : Array Value) (hw : ∀ d ∈ tables_1, d.before a0 Z = true) (ws : List Jvm.Cond) (tb : Addr) (f : Addr) (a : Addr) (k : ClassId) (vs : List Value) (j0 : Nat) (pgs : Addr → Int32) (h0 : Heap) (n0 : Nat) (Z0 : n0 ≤ h0.size) (E_tb : Exa Z h0 tb "com/example/redoubt/redoubt/storage/FrameTable") (F_slots_tb : Fld Z h0 tb "com/example/redoubt/redoubt/storage/FrameTable" "slots" "[Lcom/example/redoubt/redoubt/storage/PageCache$Frame;" (.ref a)) (F_shift_tb : Fld Z h0 tb "com/example/redoubt/redoubt/storage/FrameTable" "shift" "I" (.int (28 : Int32))) (V_a : Arv Z h0 a k (.object "com/example/redoubt/redoubt/storage/PageCache$Frame") (16 : Int32) vs .null) (G_0 : own_GoodP Z h0 pgs vs) (E_f : Exa Z h0 f "com/example/redoubt/redoubt/storage/PageCache$Frame") (F_page_f : Fld Z h0 f "com/example/redoubt/redoubt/storage/PageCache$Frame" "page" "I" (.int (pgs f))) (T : own_TI (own_hmf pgs) vs) (hj : j0 < 16) (hj0 : vs.getD j0 .null = .null) (ho : Ovr Z k "com/example/redoubt/redoubt/storage/PageCache$Frame") (g_a : n0 ≤ a) :
    MetFree l (⟨"com/example/redoubt/redoubt/storage/FrameTable", "place", "(Lcom/example/redoubt/redoubt/storage/PageCache$Frame;)V"⟩ : MethodName) (head1 (Jvm.Cond.code (⟨"com/example/redoubt/redoubt/storage/FrameTable", "place", "(Lcom/example/redoubt/redoubt/storage/PageCache$Frame;)V"⟩ : MethodName) prog_47_method_8_code 4 none :: ws) ({ frames := 1, cells := 0, slots := 0, locals := 13 } : Room)) (fun aA uU => aA = #[(.ref tb), (.ref f)] ∧ Z.Warmed39 uU.vm ∧ uU.heap = h0) (fun _ _ _ _ _ => True) (fun _ uU oO uU' => ∃ vV lL, oO = .returned vV ∧ QPlace Z tb f a k vs j0 pgs h0 n0 vV uU'.heap lL ∧ FrameEnd uU oO uU' lL ({ frames := 1, cells := 0, slots := 0, locals := 13 } : Room).cells ({ frames := 1, cells := 0, slots := 0, locals := 13 } : Room).slots) := by
  refine MetFree.of_bodySF (plainFor_of_name pn_1) hisR ?_
  intro p e s m args below meth c s₁ Bd hml0 hP hK
  obtain ⟨rfl, hZ, hh⟩ := hP
  have hx := Bd.exec
  have hby := Bd.bytes
  have hml : c.maxLocals = 4 := hml0
  have hown : s.vm.findClass "com/example/redoubt/redoubt/storage/FrameTable" = some m.cls := findClass_of_methodNamed Bd.named
  have hnm := (name_of_methodNamed Bd.named Bd.method).1
  have X0 : Stand p l e ({ frames := 1, cells := 0, slots := 0, locals := 13 } : Room) s m #[(.ref tb), (.ref f)] below meth c s₁ [] 0 0 := Stand.of_body Bd
  have e0 : s₁.heap = h0 := by rw [← hh, Bd.state]; rfl
  have N0 := Fr.nil n0
  have pre0 : ∀ t, Steps p.tables e below (s₁.setTop (mkF m 0 #[.val (.ref tb), .val (.ref f), .unset, .unset] [])) t → Steps p.tables e below (s₁.setTop (entryFrame m #[(.ref tb), (.ref f)] 4)) t := fun t kk => castTop (ef_rmPlace m tb f) kk
  obtain ⟨T59, X59, e59, st59⟩ := getF X0 hx hZ hown (host := "") (Or.inl (hw _ (List.mem_of_getElem? (i := 25) rfl))) Via.refl e0 F_slots_tb (g := (mkF m 1 #[.val (.ref tb), .val (.ref f), .unset, .unset] [(.ref tb)])) rfl rfl (hb hby d5_1)
  obtain ⟨cl60, Ar60, -, Sz60, Nn60, -, -⟩ := id V_a
  obtain ⟨T61, X61, e61, st61⟩ := getF X59 hx hZ hown (host := "") (Or.inl (hw _ (List.mem_of_getElem? (i := 40) rfl))) Via.refl e59 F_page_f (g := (mkF m 10 #[.val (.ref tb), .val (.ref f), .val (.int ((16 : Int32) - (1 : Int32))), .unset] [(.ref f), (.ref tb)])) rfl rfl (hb hby d5_10)
  obtain ⟨cq62, q62, q62'⟩ := E_tb.cell
  obtain ⟨_, _, ⟨T62, L62, k62, n62⟩, -, X62, ⟨Lc62, hQ62, l62, y62, z62⟩, st62⟩ := own_privBack X61 hx (y := (⟨"com/example/redoubt/redoubt/storage/FrameTable", "home", "(I)I"⟩ : MethodName)) hown (mvT hZ (hw _ (List.mem_of_getElem? (i := 41) rfl))) (mvT hZ (hw _ (List.mem_of_getElem? (i := 42) rfl))) (mvT hZ (hw _ (List.mem_of_getElem? (i := 18) rfl))) (Cond.privateMethod_at (mvP hZ (hw _ (List.mem_of_getElem? (i := 43) rfl)) (args := #[]))) (mvT hZ (hw _ (List.mem_of_getElem? (i := 44) rfl))) (by decide) (backOf (W := 0) (rmHome l Z a0 hw [] tb (pgs f) (28 : Int32) h0 n0 Z0 F_shift_tb) hZ (hw _ (List.mem_of_getElem? (i := 44) rfl)) (hw _ (List.mem_of_getElem? (i := 19) rfl)) (by decide) (by decide)) (g := (mkF m 13 #[.val (.ref tb), .val (.ref f), .val (.int ((16 : Int32) - (1 : Int32))), .unset] [(.int (pgs f)), (.ref tb)])) rfl (by rw [hml]; rfl) (a := tb) (by rw [e61]; exact q62) q62' (argsL := [(.int (pgs f))]) (rest := []) (lenOf pd_0 rfl) rfl (by show 2 * 0 + _ ≤ _; exact Nat.le_of_eq rfl) (hb hby d5_13) (fun _ _ => ⟨rfl, e61, (by decide : 0 + 0 ≤ _), (by decide : 0 + 0 ≤ _)⟩)
  dsimp only [Pt.U, Pt.locs, Pt.cells, Pt.slots] at X62 l62 y62 z62 st62 hQ62
  rw [l62, y62, z62] at X62
  replace X62 := own_std X62 (cc := 0) (ss := 0) rfl rfl
  obtain ⟨rfl, N62q, e62⟩ := hQ62
  have N62 := Fr.app N0 N62q
  have pre63 : ∀ t, Steps p.tables e below (T62.setTop (mkF m 17 #[.val (.ref tb), .val (.ref f), .val (.int ((16 : Int32) - (1 : Int32))), .val (.int (own_home (pgs f) (28 : Int32)))] [])) t → Steps p.tables e below (s₁.setTop (entryFrame m #[(.ref tb), (.ref f)] 4)) t := fun t kk => pre0 t (by
      show Steps p.tables e below (s₁.setTop (mkF m 0 #[.val (.ref tb), .val (.ref f), .unset, .unset] [])) _
      refine XS.aloadN X0.here hx rfl (hb hby d5_0) rfl rfl ?_
      show Steps p.tables e below (s₁.setTop (mkF m 1 #[.val (.ref tb), .val (.ref f), .unset, .unset] [(.ref tb)])) _
      refine st59 _ ?_
      show Steps p.tables e below (T59.setTop (mkF m 4 #[.val (.ref tb), .val (.ref f), .unset, .unset] [(.ref a)])) _
      refine X59.arraylength hx (by rw [e59]; exact Ar60.1) (State.isArrayOf_alike hZ.alike Ar60.2.1) (g := (mkF m 4 #[.val (.ref tb), .val (.ref f), .unset, .unset] [(.ref a)])) rfl rfl (hb hby d5_4) _ ?_
      rw [len_of Sz60 Nn60]
      show Steps p.tables e below (T59.setTop (mkF m 5 #[.val (.ref tb), .val (.ref f), .unset, .unset] [(.int (16 : Int32))])) _
      refine XS.iconst X59.here hx rfl (hb hby d5_5) ?_
      show Steps p.tables e below (T59.setTop (mkF m 6 #[.val (.ref tb), .val (.ref f), .unset, .unset] [(.int (1 : Int32)), (.int (16 : Int32))])) _
      refine XS.isub X59.here hx rfl (hb hby d5_6) rfl ?_
      show Steps p.tables e below (T59.setTop (mkF m 7 #[.val (.ref tb), .val (.ref f), .unset, .unset] [(.int ((16 : Int32) - (1 : Int32)))])) _
      refine XS.istoreN X59.here hx rfl (hb hby d5_7) rfl (l' := #[.val (.ref tb), .val (.ref f), .val (.int ((16 : Int32) - (1 : Int32))), .unset]) rfl ?_
      show Steps p.tables e below (T59.setTop (mkF m 8 #[.val (.ref tb), .val (.ref f), .val (.int ((16 : Int32) - (1 : Int32))), .unset] [])) _
      refine XS.aloadN X59.here hx rfl (hb hby d5_8) rfl rfl ?_
      show Steps p.tables e below (T59.setTop (mkF m 9 #[.val (.ref tb), .val (.ref f), .val (.int ((16 : Int32) - (1 : Int32))), .unset] [(.ref tb)])) _
      refine XS.aloadN X59.here hx rfl (hb hby d5_9) rfl rfl ?_
      show Steps p.tables e below (T59.setTop (mkF m 10 #[.val (.ref tb), .val (.ref f), .val (.int ((16 : Int32) - (1 : Int32))), .unset] [(.ref f), (.ref tb)])) _
      refine st61 _ ?_
      show Steps p.tables e below (T61.setTop (mkF m 13 #[.val (.ref tb), .val (.ref f), .val (.int ((16 : Int32) - (1 : Int32))), .unset] [(.int (pgs f)), (.ref tb)])) _
      refine st62.trans ?_
      show Steps p.tables e below (T62.setTop (mkF m 16 #[.val (.ref tb), .val (.ref f), .val (.int ((16 : Int32) - (1 : Int32))), .unset] [(.int (own_home (pgs f) (28 : Int32)))])) _
      refine XS.istoreN X62.here hx rfl (hb hby d5_16) rfl (l' := #[.val (.ref tb), .val (.ref f), .val (.int ((16 : Int32) - (1 : Int32))), .val (.int (own_home (pgs f) (28 : Int32)))]) rfl ?_
      exact kk)
  have eq64 : (own_home (pgs f) (28 : Int32)) = (Int32.ofNat (own_hmf pgs f)) := (own_hme (pgs f)).1
  have pre65 : ∀ t, Steps p.tables e below (T62.setTop (mkF m 17 #[.val (.ref tb), .val (.ref f), .val (.int ((16 : Int32) - (1 : Int32))), .val (.int (Int32.ofNat (own_hmf pgs f)))] [])) t → Steps p.tables e below (s₁.setTop (entryFrame m #[(.ref tb), (.ref f)] 4)) t := fun t kk => pre63 t (own_cast (fun zz : Int32 => T62.setTop (mkF m 17 #[.val (.ref tb), .val (.ref f), .val (.int ((16 : Int32) - (1 : Int32))), .val (.int zz)] [])) eq64 kk)
  have hp66 : own_TI (own_hmf pgs) vs := T
  have hp67 : (own_hmf pgs f) < 16 := own_hlt pgs f
  have hp68 : j0 < 16 := hj
  have hp69 : vs.getD j0 .null = .null := hj0
  have hp70 : (own_hmf pgs f) < 16 := own_hlt pgs f
  have hp71 : ∀ q, q < 16 → own_d (own_hmf pgs f) q < own_d (own_hmf pgs f) (own_hmf pgs f) → vs.getD q .null ≠ .null := fun q _ h => absurd h (own_d0 _ _)
  obtain ⟨T72, lc72, ix_72, X72, N72, e72, pu72_0, pu72_1, pu72_2, pre72⟩ := loopPlace hx hZ hw hby hml hown (n0 := n0) _ T62 _ h0 tb f (own_hmf pgs f) a k vs j0 pgs (own_hmf pgs f) X62 e62 N62 Z0 F_slots_tb V_a G_0 hp66 hp67 hp68 hp69 hp70 hp71 rfl
  have pre73 : ∀ t, Steps p.tables e below (T72.setTop (mkF m 35 #[.val (.ref tb), .val (.ref f), .val (.int ((16 : Int32) - (1 : Int32))), .val (.int (Int32.ofNat ix_72))] [])) t → Steps p.tables e below (s₁.setTop (entryFrame m #[(.ref tb), (.ref f)] 4)) t := fun t kk => pre65 t (pre72 t kk)
  obtain ⟨T74, X74, e74, st74⟩ := getF X72 hx hZ hown (host := "") (Or.inl (hw _ (List.mem_of_getElem? (i := 25) rfl))) Via.refl e72 F_slots_tb (g := (mkF m 36 #[.val (.ref tb), .val (.ref f), .val (.int ((16 : Int32) - (1 : Int32))), .val (.int (Int32.ofNat ix_72))] [(.ref tb)])) rfl rfl (hb hby d5_36)
  obtain ⟨cl75, Ar75, q75, Sz75, Nn75, H75, G75⟩ := id V_a
  have hin75 : ¬ ((Int32.ofNat ix_72) < 0 ∨ cl75.slots.size ≤ ((Int32.ofNat ix_72)).toNatClampNeg) := (inb_of Sz75 (own_in16 ix_72 pu72_0))
  obtain ⟨T76, h76, X76, e76, W76, st76⟩ := stR X74 hx hZ e74 Ar75 (j := (Int32.ofNat ix_72)) hin75 rfl (Sto.ofV Ar75 q75 ho (Ins.self E_f)) (g := (mkF m 41 #[.val (.ref tb), .val (.ref f), .val (.int ((16 : Int32) - (1 : Int32))), .val (.int (Int32.ofNat ix_72))] [(.ref f), (.int (Int32.ofNat ix_72)), (.ref a)])) rfl rfl (hb hby d5_41)
  have Ex77 : Exa Z h76 tb "com/example/redoubt/redoubt/storage/FrameTable" := (E_tb.wr W76)
  have ne78 : tb ≠ a := own_ne_arr E_tb (hw _ (List.mem_of_getElem? (i := 18) rfl)) V_a
  have F79 : Fld Z h76 tb "com/example/redoubt/redoubt/storage/FrameTable" "slots" "[Lcom/example/redoubt/redoubt/storage/PageCache$Frame;" (.ref a) := (F_slots_tb.other W76 (Or.inl ne78))
  have F80 : Fld Z h76 tb "com/example/redoubt/redoubt/storage/FrameTable" "shift" "I" (.int (28 : Int32)) := (F_shift_tb.other W76 (Or.inl ne78))
  have Xf81 : own_GoodP Z h76 pgs vs := (own_goodp_wr G_0 W76 (fun f hf => (own_ne_arr hf (hw _ (List.mem_of_getElem? (i := 3) rfl)) V_a)))
  have Ex82 : Exa Z h76 f "com/example/redoubt/redoubt/storage/PageCache$Frame" := (E_f.wr W76)
  have ne83 : f ≠ a := own_ne_arr E_f (hw _ (List.mem_of_getElem? (i := 3) rfl)) V_a
  have F84 : Fld Z h76 f "com/example/redoubt/redoubt/storage/PageCache$Frame" "page" "I" (.int (pgs f)) := (F_page_f.other W76 (Or.inl ne83))
  have K85 : Keep h0 h76 [a] := (Keep.refl h0 _).wr W76 (Or.inl (List.mem_of_getElem? (i := 0) rfl))
  have N86 := Fr.snoc X76 N72 g_a
  have Av76 : Arv Z h76 a k (.object "com/example/redoubt/redoubt/storage/PageCache$Frame") (16 : Int32) (vs.set ix_72 (.ref f)) .null := Arv.set Ar75 q75 Sz75 Nn75 H75 G75 rfl W76 ix_72 (own_ixx ix_72 (by omega)) (by rw [T.1]; exact pu72_0)
  have pre87 : ∀ t, Steps p.tables e below (T76.setTop (mkF m 42 #[.val (.ref tb), .val (.ref f), .val (.int ((16 : Int32) - (1 : Int32))), .val (.int (Int32.ofNat ix_72))] [])) t → Steps p.tables e below (s₁.setTop (entryFrame m #[(.ref tb), (.ref f)] 4)) t := fun t kk => pre73 t (by
      show Steps p.tables e below (T72.setTop (mkF m 35 #[.val (.ref tb), .val (.ref f), .val (.int ((16 : Int32) - (1 : Int32))), .val (.int (Int32.ofNat ix_72))] [])) _
      refine XS.aloadN X72.here hx rfl (hb hby d5_35) rfl rfl ?_
      show Steps p.tables e below (T72.setTop (mkF m 36 #[.val (.ref tb), .val (.ref f), .val (.int ((16 : Int32) - (1 : Int32))), .val (.int (Int32.ofNat ix_72))] [(.ref tb)])) _
      refine st74 _ ?_
      show Steps p.tables e below (T74.setTop (mkF m 39 #[.val (.ref tb), .val (.ref f), .val (.int ((16 : Int32) - (1 : Int32))), .val (.int (Int32.ofNat ix_72))] [(.ref a)])) _
      refine XS.iloadN X74.here hx rfl (hb hby d5_39) rfl ?_
      show Steps p.tables e below (T74.setTop (mkF m 40 #[.val (.ref tb), .val (.ref f), .val (.int ((16 : Int32) - (1 : Int32))), .val (.int (Int32.ofNat ix_72))] [(.int (Int32.ofNat ix_72)), (.ref a)])) _
      refine XS.aloadN X74.here hx rfl (hb hby d5_40) rfl rfl ?_
      show Steps p.tables e below (T74.setTop (mkF m 41 #[.val (.ref tb), .val (.ref f), .val (.int ((16 : Int32) - (1 : Int32))), .val (.int (Int32.ofNat ix_72))] [(.ref f), (.int (Int32.ofNat ix_72)), (.ref a)])) _
      refine st76 _ ?_
      exact kk)
  obtain ⟨fs, hr, hrun, hended, hW, hsame⟩ := X76.leave (v := none) (fun _ => rfl)
  refine ⟨_, _, pre87 _ ?_, hrun, hended, _, _, rfl, ?_, ⟨_, rfl⟩, hW, hsame.mono (by decide) (by decide)⟩
  · show Steps p.tables e below (T76.setTop (mkF m 42 #[.val (.ref tb), .val (.ref f), .val (.int ((16 : Int32) - (1 : Int32))), .val (.int (Int32.ofNat ix_72))] [])) _
    exact X76.returnOut hx Bd.returns (hb hby d5_42) hr
  · show QPlace Z tb f a k vs j0 pgs h0 n0 _ T76.heap _
    rw [e76]
    exact ⟨ix_72, rfl, N86, K85, Av76, pu72_0, pu72_1, pu72_2⟩
theorem d4_0 : decode prog_47_method_3_code 0 = .ok (.iconst 2, 1) := by decide +kernel
theorem d4_1 : decode prog_47_method_3_code 1 = .ok (.aload_n 0, 1) := by decide +kernel
theorem d4_2 : decode prog_47_method_3_code 2 = .ok (.getfield 28, 3) := by decide +kernel
theorem d4_5 : decode prog_47_method_3_code 5 = .ok (.iconst 1, 1) := by decide +kernel
theorem d4_6 : decode prog_47_method_3_code 6 = .ok (.iadd, 1) := by decide +kernel
theorem d4_7 : decode prog_47_method_3_code 7 = .ok (.imul, 1) := by decide +kernel
theorem d4_8 : decode prog_47_method_3_code 8 = .ok (.aload_n 0, 1) := by decide +kernel
theorem d4_9 : decode prog_47_method_3_code 9 = .ok (.getfield 11, 3) := by decide +kernel
theorem d4_12 : decode prog_47_method_3_code 12 = .ok (.arraylength, 1) := by decide +kernel
theorem d4_13 : decode prog_47_method_3_code 13 = .ok (.if_icmp .le 7, 3) := by decide +kernel
theorem d4_20 : decode prog_47_method_3_code 20 = .ok (.aload_n 0, 1) := by decide +kernel
theorem d4_21 : decode prog_47_method_3_code 21 = .ok (.aload_n 1, 1) := by decide +kernel
theorem d4_22 : decode prog_47_method_3_code 22 = .ok (.invokevirtual 34, 3) := by decide +kernel
theorem pd_1 : parseMethodDescriptor "(Lcom/example/redoubt/redoubt/storage/PageCache$Frame;)V" = some ⟨[(.object "com/example/redoubt/redoubt/storage/PageCache$Frame")], none⟩ := by decide +kernel
theorem d4_25 : decode prog_47_method_3_code 25 = .ok (.aload_n 0, 1) := by decide +kernel
theorem d4_26 : decode prog_47_method_3_code 26 = .ok (.dup, 1) := by decide +kernel
theorem d4_27 : decode prog_47_method_3_code 27 = .ok (.getfield 28, 3) := by decide +kernel
theorem d4_30 : decode prog_47_method_3_code 30 = .ok (.iconst 1, 1) := by decide +kernel
theorem d4_31 : decode prog_47_method_3_code 31 = .ok (.iadd, 1) := by decide +kernel
theorem d4_32 : decode prog_47_method_3_code 32 = .ok (.putfield 28, 3) := by decide +kernel
theorem d4_35 : decode prog_47_method_3_code 35 = .ok (.return_, 1) := by decide +kernel
theorem ef_rmAdd (m : MethodId) (x0 : Addr) (x1 : Addr) : entryFrame m #[(.ref x0), (.ref x1)] 2 = mkF m 0 #[.val (.ref x0), .val (.ref x1)] [] := by first | (simp [entryFrame, mkF, argsToLocals, Value.category]; done) | rfl
def QAdd (Z : State) (tb : Addr) (f : Addr) (a : Addr) (k : ClassId) (vs : List Value) (c0 : Int32) (pgs : Addr → Int32) (h0 : Heap) (n0 : Nat) (v : Option Value) (h : Heap) (L : List Loc) : Prop := ∃ (vs2 : List Value), v = none ∧ Fr n0 L ∧ Keep h0 h [tb, a] ∧ Exa Z h tb "com/example/redoubt/redoubt/storage/FrameTable" ∧ Fld Z h tb "com/example/redoubt/redoubt/storage/FrameTable" "slots" "[Lcom/example/redoubt/redoubt/storage/PageCache$Frame;" (.ref a) ∧ Fld Z h tb "com/example/redoubt/redoubt/storage/FrameTable" "shift" "I" (.int (28 : Int32)) ∧ Fld Z h tb "com/example/redoubt/redoubt/storage/FrameTable" "size" "I" (.int (c0 + (1 : Int32))) ∧ Arv Z h a k (.object "com/example/redoubt/redoubt/storage/PageCache$Frame") (16 : Int32) vs2 .null ∧ own_GoodP Z h pgs vs2 ∧ (own_TI (own_hmf pgs) vs2) ∧ (own_cnt vs2 = own_cnt vs + 1) ∧ (∀ g, own_R vs2 g ↔ (g = f ∨ own_R vs g))
set_option maxRecDepth 65536 in
set_option maxHeartbeats 40000000 in
theorem rmAdd (l : Launch) (Z : State) (a0 : Array Value) (hw : ∀ d ∈ tables_1, d.before a0 Z = true) (ws : List Jvm.Cond) (tb : Addr) (f : Addr) (a : Addr) (k : ClassId) (vs : List Value) (c0 : Int32) (pgs : Addr → Int32) (h0 : Heap) (n0 : Nat) (Z0 : n0 ≤ h0.size) (E_tb : Exa Z h0 tb "com/example/redoubt/redoubt/storage/FrameTable") (F_slots_tb : Fld Z h0 tb "com/example/redoubt/redoubt/storage/FrameTable" "slots" "[Lcom/example/redoubt/redoubt/storage/PageCache$Frame;" (.ref a)) (F_shift_tb : Fld Z h0 tb "com/example/redoubt/redoubt/storage/FrameTable" "shift" "I" (.int (28 : Int32))) (F_size_tb : Fld Z h0 tb "com/example/redoubt/redoubt/storage/FrameTable" "size" "I" (.int c0)) (V_a : Arv Z h0 a k (.object "com/example/redoubt/redoubt/storage/PageCache$Frame") (16 : Int32) vs .null) (G_0 : own_GoodP Z h0 pgs vs) (E_f : Exa Z h0 f "com/example/redoubt/redoubt/storage/PageCache$Frame") (F_page_f : Fld Z h0 f "com/example/redoubt/redoubt/storage/PageCache$Frame" "page" "I" (.int (pgs f))) (T : own_TI (own_hmf pgs) vs) (ho : Ovr Z k "com/example/redoubt/redoubt/storage/PageCache$Frame") (hcnt : own_cnt vs < 16) (hnf : ¬ own_R vs f) (hroom : ¬ ((16 : Int32) < ((2 : Int32) * (c0 + (1 : Int32))))) (g_tb : n0 ≤ tb) (g_a : n0 ≤ a) :
    MetFree l (⟨"com/example/redoubt/redoubt/storage/FrameTable", "add", "(Lcom/example/redoubt/redoubt/storage/PageCache$Frame;)V"⟩ : MethodName) (head1 (Jvm.Cond.code (⟨"com/example/redoubt/redoubt/storage/FrameTable", "add", "(Lcom/example/redoubt/redoubt/storage/PageCache$Frame;)V"⟩ : MethodName) prog_47_method_3_code 2 none :: ws) ({ frames := 2, cells := 0, slots := 0, locals := 28 } : Room)) (fun aA uU => aA = #[(.ref tb), (.ref f)] ∧ Z.Warmed39 uU.vm ∧ uU.heap = h0) (fun _ _ _ _ _ => True) (fun _ uU oO uU' => ∃ vV lL, oO = .returned vV ∧ QAdd Z tb f a k vs c0 pgs h0 n0 vV uU'.heap lL ∧ FrameEnd uU oO uU' lL ({ frames := 2, cells := 0, slots := 0, locals := 28 } : Room).cells ({ frames := 2, cells := 0, slots := 0, locals := 28 } : Room).slots) := by
  refine MetFree.of_bodySF (plainFor_of_name pn_1) hisR ?_
  intro p e s m args below meth c s₁ Bd hml0 hP hK
  obtain ⟨rfl, hZ, hh⟩ := hP
  have hx := Bd.exec
  have hby := Bd.bytes
  have hml : c.maxLocals = 2 := hml0
  have hown : s.vm.findClass "com/example/redoubt/redoubt/storage/FrameTable" = some m.cls := findClass_of_methodNamed Bd.named
  have hnm := (name_of_methodNamed Bd.named Bd.method).1
  have X0 : Stand p l e ({ frames := 2, cells := 0, slots := 0, locals := 28 } : Room) s m #[(.ref tb), (.ref f)] below meth c s₁ [] 0 0 := Stand.of_body Bd
  have e0 : s₁.heap = h0 := by rw [← hh, Bd.state]; rfl
  have N0 := Fr.nil n0
  have pre0 : ∀ t, Steps p.tables e below (s₁.setTop (mkF m 0 #[.val (.ref tb), .val (.ref f)] [])) t → Steps p.tables e below (s₁.setTop (entryFrame m #[(.ref tb), (.ref f)] 2)) t := fun t kk => castTop (ef_rmAdd m tb f) kk
  obtain ⟨j0, hj, hj0⟩ := own_free vs (by rw [T.1]; exact hcnt)
  rw [T.1] at hj
  obtain ⟨T88, X88, e88, st88⟩ := getF X0 hx hZ hown (host := "") (Or.inl (hw _ (List.mem_of_getElem? (i := 34) rfl))) Via.refl e0 F_size_tb (g := (mkF m 2 #[.val (.ref tb), .val (.ref f)] [(.ref tb), (.int (2 : Int32))])) rfl rfl (hb hby d4_2)
  obtain ⟨T89, X89, e89, st89⟩ := getF X88 hx hZ hown (host := "") (Or.inl (hw _ (List.mem_of_getElem? (i := 25) rfl))) Via.refl e88 F_slots_tb (g := (mkF m 9 #[.val (.ref tb), .val (.ref f)] [(.ref tb), (.int ((2 : Int32) * (c0 + (1 : Int32))))])) rfl rfl (hb hby d4_9)
  obtain ⟨cl90, Ar90, -, Sz90, Nn90, -, -⟩ := id V_a
  have hp92 : own_TI (own_hmf pgs) vs := T
  have hp93 : j0 < 16 := hj
  have hp94 : vs.getD j0 .null = .null := hj0
  have hp95 : Ovr Z k "com/example/redoubt/redoubt/storage/PageCache$Frame" := ho
  obtain ⟨cq91, q91, q91'⟩ := E_tb.cell
  obtain ⟨_, _, ⟨T91, L91, k91, n91⟩, -, X91, ⟨Lc91, hQ91, l91, y91, z91⟩, st91⟩ := own_privBack X89 hx (y := (⟨"com/example/redoubt/redoubt/storage/FrameTable", "place", "(Lcom/example/redoubt/redoubt/storage/PageCache$Frame;)V"⟩ : MethodName)) hown (mvT hZ (hw _ (List.mem_of_getElem? (i := 36) rfl))) (mvT hZ (hw _ (List.mem_of_getElem? (i := 37) rfl))) (mvT hZ (hw _ (List.mem_of_getElem? (i := 18) rfl))) (Cond.privateMethod_at (mvP hZ (hw _ (List.mem_of_getElem? (i := 38) rfl)) (args := #[]))) (mvT hZ (hw _ (List.mem_of_getElem? (i := 39) rfl))) (by decide) (backOf (W := 0) (rmPlace l Z a0 hw [] tb f a k vs j0 pgs h0 n0 Z0 E_tb F_slots_tb F_shift_tb V_a G_0 E_f F_page_f hp92 hp93 hp94 hp95 g_a) hZ (hw _ (List.mem_of_getElem? (i := 39) rfl)) (hw _ (List.mem_of_getElem? (i := 19) rfl)) (by decide) (by decide)) (g := (mkF m 22 #[.val (.ref tb), .val (.ref f)] [(.ref f), (.ref tb)])) rfl (by rw [hml]; rfl) (a := tb) (by rw [e89]; exact q91) q91' (argsL := [(.ref f)]) (rest := []) (lenOf pd_1 rfl) rfl (by show 2 * 0 + _ ≤ _; exact Nat.le_of_eq rfl) (hb hby d4_22) (fun _ _ => ⟨rfl, e89, (by decide : 0 + 0 ≤ _), (by decide : 0 + 0 ≤ _)⟩)
  dsimp only [Pt.U, Pt.locs, Pt.cells, Pt.slots] at X91 l91 y91 z91 st91 hQ91
  rw [l91, y91, z91] at X91
  replace X91 := own_std X91 (cc := 0) (ss := 0) rfl rfl
  obtain ⟨ix_91, rfl, N91q, K91q, P91_0, pu91_0, pu91_1, pu91_2⟩ := hQ91
  have N91 := Fr.app N0 N91q
  have Ex96 : Exa Z T91.heap tb "com/example/redoubt/redoubt/storage/FrameTable" := (E_tb.keep K91q)
  have ne97 : tb ≠ a := own_ne_arr E_tb (hw _ (List.mem_of_getElem? (i := 18) rfl)) V_a
  have F98 : Fld Z T91.heap tb "com/example/redoubt/redoubt/storage/FrameTable" "slots" "[Lcom/example/redoubt/redoubt/storage/PageCache$Frame;" (.ref a) := (F_slots_tb.keep K91q (ninS ne97 nin0))
  have F99 : Fld Z T91.heap tb "com/example/redoubt/redoubt/storage/FrameTable" "shift" "I" (.int (28 : Int32)) := (F_shift_tb.keep K91q (ninS ne97 nin0))
  have F100 : Fld Z T91.heap tb "com/example/redoubt/redoubt/storage/FrameTable" "size" "I" (.int c0) := (F_size_tb.keep K91q (ninS ne97 nin0))
  have Xf101 : own_GoodP Z T91.heap pgs vs := (own_goodp_keep G_0 K91q (fun f hf => (ninS (own_ne_arr hf (hw _ (List.mem_of_getElem? (i := 3) rfl)) V_a) nin0)))
  have Ex102 : Exa Z T91.heap f "com/example/redoubt/redoubt/storage/PageCache$Frame" := (E_f.keep K91q)
  have ne103 : f ≠ a := own_ne_arr E_f (hw _ (List.mem_of_getElem? (i := 3) rfl)) V_a
  have F104 : Fld Z T91.heap f "com/example/redoubt/redoubt/storage/PageCache$Frame" "page" "I" (.int (pgs f)) := (F_page_f.keep K91q (ninS ne103 nin0))
  have K105 : Keep h0 T91.heap [tb, a] := (Keep.refl h0 _).trans K91q (allS (Or.inl (List.mem_of_getElem? (i := 1) rfl)) all0)
  obtain ⟨us, hus⟩ : ∃ z, z = vs.set ix_91 (.ref f) := ⟨_, rfl⟩
  have Av106 : Arv Z T91.heap a k (.object "com/example/redoubt/redoubt/storage/PageCache$Frame") (16 : Int32) us .null := by rw [hus]; exact P91_0
  have G107 : own_GoodP Z T91.heap pgs us := by rw [hus]; exact own_goodp_set Xf101 Ex102 F104 _
  obtain ⟨T108, X108, e108, st108⟩ := getF X91 hx hZ hown (host := "") (Or.inl (hw _ (List.mem_of_getElem? (i := 34) rfl))) Via.refl rfl F100 (g := (mkF m 27 #[.val (.ref tb), .val (.ref f)] [(.ref tb), (.ref tb)])) rfl rfl (hb hby d4_27)
  obtain ⟨T109, h109, X109, e109, W109, st109⟩ := putF X108 hx hZ hown (host := "") (Or.inl (hw _ (List.mem_of_getElem? (i := 34) rfl))) Via.refl e108 F100 Ex96 (Or.inl (hw _ (List.mem_of_getElem? (i := 35) rfl))) (hw _ (List.mem_of_getElem? (i := 18) rfl)) (ty := .int) (by decide) rfl rfl (g := (mkF m 32 #[.val (.ref tb), .val (.ref f)] [(.int (c0 + (1 : Int32))), (.ref tb)])) rfl rfl (hb hby d4_32)
  have Ex110 : Exa Z h109 tb "com/example/redoubt/redoubt/storage/FrameTable" := (Ex96.wr W109)
  have F111 : Fld Z h109 tb "com/example/redoubt/redoubt/storage/FrameTable" "slots" "[Lcom/example/redoubt/redoubt/storage/PageCache$Frame;" (.ref a) := (F98.other W109 (Or.inr (slot_ne (Or.inl (hw _ (List.mem_of_getElem? (i := 26) rfl))) (Or.inl (hw _ (List.mem_of_getElem? (i := 35) rfl))) (by decide) (t := (.array (.object "com/example/redoubt/redoubt/storage/PageCache$Frame"))) (t' := .int) (by decide) (by decide))))
  have F112 : Fld Z h109 tb "com/example/redoubt/redoubt/storage/FrameTable" "shift" "I" (.int (28 : Int32)) := (F99.other W109 (Or.inr (slot_ne (Or.inl (hw _ (List.mem_of_getElem? (i := 28) rfl))) (Or.inl (hw _ (List.mem_of_getElem? (i := 35) rfl))) (by decide) (t := .int) (t' := .int) (by decide) (by decide))))
  have Xf113 : own_GoodP Z h109 pgs us := (own_goodp_wr G107 W109 (fun f hf => (ne_exa hf Ex96 (by decide))))
  have Ex114 : Exa Z h109 f "com/example/redoubt/redoubt/storage/PageCache$Frame" := (Ex102.wr W109)
  have ne115 : f ≠ tb := ne_exa Ex102 Ex96 (by decide)
  have F116 : Fld Z h109 f "com/example/redoubt/redoubt/storage/PageCache$Frame" "page" "I" (.int (pgs f)) := (F104.other W109 (Or.inl ne115))
  have Av117 : Arv Z h109 a k (.object "com/example/redoubt/redoubt/storage/PageCache$Frame") (16 : Int32) us .null := (Av106.other W109 (Ne.symm ne97))
  have K118 : Keep h0 h109 [tb, a] := K105.wr W109 (Or.inl (List.mem_of_getElem? (i := 0) rfl))
  have N119 := Fr.snoc X109 N91 g_tb
  have F120 : Fld Z h109 tb "com/example/redoubt/redoubt/storage/FrameTable" "size" "I" (.int (c0 + (1 : Int32))) := F100.same W109
  have pre121 : ∀ t, Steps p.tables e below (T109.setTop (mkF m 35 #[.val (.ref tb), .val (.ref f)] [])) t → Steps p.tables e below (s₁.setTop (entryFrame m #[(.ref tb), (.ref f)] 2)) t := fun t kk => pre0 t (by
      show Steps p.tables e below (s₁.setTop (mkF m 0 #[.val (.ref tb), .val (.ref f)] [])) _
      refine XS.iconst X0.here hx rfl (hb hby d4_0) ?_
      show Steps p.tables e below (s₁.setTop (mkF m 1 #[.val (.ref tb), .val (.ref f)] [(.int (2 : Int32))])) _
      refine XS.aloadN X0.here hx rfl (hb hby d4_1) rfl rfl ?_
      show Steps p.tables e below (s₁.setTop (mkF m 2 #[.val (.ref tb), .val (.ref f)] [(.ref tb), (.int (2 : Int32))])) _
      refine st88 _ ?_
      show Steps p.tables e below (T88.setTop (mkF m 5 #[.val (.ref tb), .val (.ref f)] [(.int c0), (.int (2 : Int32))])) _
      refine XS.iconst X88.here hx rfl (hb hby d4_5) ?_
      show Steps p.tables e below (T88.setTop (mkF m 6 #[.val (.ref tb), .val (.ref f)] [(.int (1 : Int32)), (.int c0), (.int (2 : Int32))])) _
      refine XS.iadd X88.here hx rfl (hb hby d4_6) rfl ?_
      show Steps p.tables e below (T88.setTop (mkF m 7 #[.val (.ref tb), .val (.ref f)] [(.int (c0 + (1 : Int32))), (.int (2 : Int32))])) _
      refine XS.imul X88.here hx rfl (hb hby d4_7) rfl ?_
      show Steps p.tables e below (T88.setTop (mkF m 8 #[.val (.ref tb), .val (.ref f)] [(.int ((2 : Int32) * (c0 + (1 : Int32))))])) _
      refine XS.aloadN X88.here hx rfl (hb hby d4_8) rfl rfl ?_
      show Steps p.tables e below (T88.setTop (mkF m 9 #[.val (.ref tb), .val (.ref f)] [(.ref tb), (.int ((2 : Int32) * (c0 + (1 : Int32))))])) _
      refine st89 _ ?_
      show Steps p.tables e below (T89.setTop (mkF m 12 #[.val (.ref tb), .val (.ref f)] [(.ref a), (.int ((2 : Int32) * (c0 + (1 : Int32))))])) _
      refine X89.arraylength hx (by rw [e89]; exact Ar90.1) (State.isArrayOf_alike hZ.alike Ar90.2.1) (g := (mkF m 12 #[.val (.ref tb), .val (.ref f)] [(.ref a), (.int ((2 : Int32) * (c0 + (1 : Int32))))])) rfl rfl (hb hby d4_12) _ ?_
      rw [len_of Sz90 Nn90]
      show Steps p.tables e below (T89.setTop (mkF m 13 #[.val (.ref tb), .val (.ref f)] [(.int (16 : Int32)), (.int ((2 : Int32) * (c0 + (1 : Int32))))])) _
      refine XS.icmpYes X89.here hx rfl (pc0 := 13) (pc' := 20) rfl (hb hby d4_13) rfl (flt hroom).2.2.2 (by decide) (by decide) ?_
      show Steps p.tables e below (T89.setTop (mkF m 20 #[.val (.ref tb), .val (.ref f)] [])) _
      refine XS.aloadN X89.here hx rfl (hb hby d4_20) rfl rfl ?_
      show Steps p.tables e below (T89.setTop (mkF m 21 #[.val (.ref tb), .val (.ref f)] [(.ref tb)])) _
      refine XS.aloadN X89.here hx rfl (hb hby d4_21) rfl rfl ?_
      show Steps p.tables e below (T89.setTop (mkF m 22 #[.val (.ref tb), .val (.ref f)] [(.ref f), (.ref tb)])) _
      refine st91.trans ?_
      show Steps p.tables e below (T91.setTop (mkF m 25 #[.val (.ref tb), .val (.ref f)] [])) _
      refine XS.aloadN X91.here hx rfl (hb hby d4_25) rfl rfl ?_
      show Steps p.tables e below (T91.setTop (mkF m 26 #[.val (.ref tb), .val (.ref f)] [(.ref tb)])) _
      refine XS.dup X91.here hx rfl (hb hby d4_26) rfl rfl ?_
      show Steps p.tables e below (T91.setTop (mkF m 27 #[.val (.ref tb), .val (.ref f)] [(.ref tb), (.ref tb)])) _
      refine st108 _ ?_
      show Steps p.tables e below (T108.setTop (mkF m 30 #[.val (.ref tb), .val (.ref f)] [(.int c0), (.ref tb)])) _
      refine XS.iconst X108.here hx rfl (hb hby d4_30) ?_
      show Steps p.tables e below (T108.setTop (mkF m 31 #[.val (.ref tb), .val (.ref f)] [(.int (1 : Int32)), (.int c0), (.ref tb)])) _
      refine XS.iadd X108.here hx rfl (hb hby d4_31) rfl ?_
      show Steps p.tables e below (T108.setTop (mkF m 32 #[.val (.ref tb), .val (.ref f)] [(.int (c0 + (1 : Int32))), (.ref tb)])) _
      refine st109 _ ?_
      exact kk)
  obtain ⟨fs, hr, hrun, hended, hW, hsame⟩ := X109.leave (v := none) (fun _ => rfl)
  refine ⟨_, _, pre121 _ ?_, hrun, hended, _, _, rfl, ?_, ⟨_, rfl⟩, hW, hsame.mono (by decide) (by decide)⟩
  · show Steps p.tables e below (T109.setTop (mkF m 35 #[.val (.ref tb), .val (.ref f)] [])) _
    exact X109.returnOut hx Bd.returns (hb hby d4_35) hr
  · show QAdd Z tb f a k vs c0 pgs h0 n0 _ T109.heap _
    rw [e109]
    exact ⟨us, rfl, N119, K118, Ex110, F111, F112, F120, Av117, Xf113, (by rw [hus]; exact own_TI_put T (own_nr hnf) pu91_0 pu91_2), (by rw [hus]; exact own_cset vs ix_91 f (by rw [T.1]; exact pu91_0) pu91_1), (fun g => by rw [hus]; exact own_R_put T.1 pu91_0 pu91_1)⟩
theorem d10_14 : decode prog_47_method_2_code 14 = .ok (.aload_n 0, 1) := by decide +kernel
theorem d10_15 : decode prog_47_method_2_code 15 = .ok (.getfield 11, 3) := by decide +kernel
theorem d10_18 : decode prog_47_method_2_code 18 = .ok (.iload_n 3, 1) := by decide +kernel
theorem d10_19 : decode prog_47_method_2_code 19 = .ok (.aaload, 1) := by decide +kernel
theorem d10_20 : decode prog_47_method_2_code 20 = .ok (.astore 4, 2) := by decide +kernel
theorem d10_22 : decode prog_47_method_2_code 22 = .ok (.aload 4, 2) := by decide +kernel
theorem d10_24 : decode prog_47_method_2_code 24 = .ok (.ifnull 12, 3) := by decide +kernel
theorem d10_27 : decode prog_47_method_2_code 27 = .ok (.aload 4, 2) := by decide +kernel
theorem d10_29 : decode prog_47_method_2_code 29 = .ok (.getfield 25, 3) := by decide +kernel
theorem d10_32 : decode prog_47_method_2_code 32 = .ok (.iload_n 1, 1) := by decide +kernel
theorem d10_33 : decode prog_47_method_2_code 33 = .ok (.if_icmp .ne 6, 3) := by decide +kernel
theorem d10_39 : decode prog_47_method_2_code 39 = .ok (.iload_n 3, 1) := by decide +kernel
theorem d10_40 : decode prog_47_method_2_code 40 = .ok (.iconst 1, 1) := by decide +kernel
theorem d10_41 : decode prog_47_method_2_code 41 = .ok (.iadd, 1) := by decide +kernel
theorem d10_42 : decode prog_47_method_2_code 42 = .ok (.iload_n 2, 1) := by decide +kernel
theorem d10_43 : decode prog_47_method_2_code 43 = .ok (.iand, 1) := by decide +kernel
theorem d10_44 : decode prog_47_method_2_code 44 = .ok (.istore_n 3, 1) := by decide +kernel
theorem d10_45 : decode prog_47_method_2_code 45 = .ok (.goto (-31), 3) := by decide +kernel
set_option maxRecDepth 65536 in
set_option maxHeartbeats 40000000 in
theorem loopGet {p : Program} {l : Launch} {e : Env} {R : Room} {s : State} {m : MethodId} {args : Array Value} {below : List Frame} {meth : Method} {c : Code} {cells slots : Nat} {Z : State} {a0 : Array Value} {n0 : Nat}
    (hx : p.tables.exec = Jvm.exec) (hZ : Z.Warmed39 s.vm) (hw : ∀ d ∈ tables_1, d.before a0 Z = true) (hby : c.code = prog_47_method_2_code) (hml : c.maxLocals = 5) (hown : s.vm.findClass "com/example/redoubt/redoubt/storage/FrameTable" = some m.cls) :
    ∀ (kM : Nat) (T0 : State) (locs : List Loc) (h0 : Heap) (tb : Addr) (pg : Int32) (i : Nat) (s4 : Slot) (a : Addr) (k : ClassId) (vs : List Value) (j0 : Nat) (pgs : Addr → Int32) (X0 : Stand p l e R s m args below meth c T0 locs cells slots) (e0 : T0.heap = h0) (N0 : Fr n0 locs) (Z0 : n0 ≤ h0.size) (F_slots_tb : Fld Z h0 tb "com/example/redoubt/redoubt/storage/FrameTable" "slots" "[Lcom/example/redoubt/redoubt/storage/PageCache$Frame;" (.ref a)) (V_a : Arv Z h0 a k (.object "com/example/redoubt/redoubt/storage/PageCache$Frame") (16 : Int32) vs .null) (G_0 : own_GoodP Z h0 pgs vs) (T : own_TI (own_hmf pgs) vs) (hi : i < 16) (hj : j0 < 16) (hj0 : vs.getD j0 .null = .null) (hsc : ∀ q, q < 16 → own_d (own_home pg (28 : Int32)).toNatClampNeg q < own_d (own_home pg (28 : Int32)).toNatClampNeg i → ∃ g, vs.getD q .null = .ref g ∧ pgs g ≠ pg) (hs4 : s4 = .unset ∨ ∃ w, s4 = .val w ∧ w.category = 1) (hkM : (j0 + 16 - i) % 16 = kM),
      ∃ (T' : State) (locs' : List Loc) (ix : Nat) (rv : Value), Stand p l e R s m args below meth c T' locs' cells slots ∧ Fr n0 locs' ∧ T'.heap = h0 ∧ (rv.isRef = true) ∧ ((rv = .null ∧ ∀ g, own_R vs g → pgs g ≠ pg) ∨ (∃ g, rv = .ref g ∧ own_R vs g ∧ pgs g = pg)) ∧ ∀ t, Steps p.tables e below (T'.setTop (mkF m 36 #[.val (.ref tb), .val (.int pg), .val (.int ((16 : Int32) - (1 : Int32))), .val (.int (Int32.ofNat ix)), .val rv] [])) t → Steps p.tables e below (T0.setTop (mkF m 14 #[.val (.ref tb), .val (.int pg), .val (.int ((16 : Int32) - (1 : Int32))), .val (.int (Int32.ofNat i)), s4] [])) t := by
  intro kM
  induction kM using Nat.strongRecOn with
  | ind kM ih =>
  intro T0 locs h0 tb pg i s4 a k vs j0 pgs X0 e0 N0 Z0 F_slots_tb V_a G_0 T hi hj hj0 hsc hs4 hkM
  subst hkM
  have pre0 : ∀ t, Steps p.tables e below (T0.setTop (mkF m 14 #[.val (.ref tb), .val (.int pg), .val (.int ((16 : Int32) - (1 : Int32))), .val (.int (Int32.ofNat i)), s4] [])) t → Steps p.tables e below (T0.setTop (mkF m 14 #[.val (.ref tb), .val (.int pg), .val (.int ((16 : Int32) - (1 : Int32))), .val (.int (Int32.ofNat i)), s4] [])) t := fun t kk => kk
  obtain ⟨vv, hvv⟩ : ∃ z, z = vs.getD i .null := ⟨_, rfl⟩
  have hr_vv : vv.isRef = true := by rw [hvv]; exact own_goodp_ref G_0 (T.1) hi
  obtain ⟨T122, X122, e122, st122⟩ := getF X0 hx hZ hown (host := "") (Or.inl (hw _ (List.mem_of_getElem? (i := 25) rfl))) Via.refl e0 F_slots_tb (g := (mkF m 15 #[.val (.ref tb), .val (.int pg), .val (.int ((16 : Int32) - (1 : Int32))), .val (.int (Int32.ofNat i)), s4] [(.ref tb)])) rfl rfl (hb hby d10_15)
  obtain ⟨cl123, Ar123, q123, Sz123, Nn123, H123, G123⟩ := id V_a
  have hin123 : ¬ ((Int32.ofNat i) < 0 ∨ cl123.slots.size ≤ ((Int32.ofNat i)).toNatClampNeg) := (inb_of Sz123 (own_in16 i hi))
  have hat123 : cl123.slots[((Int32.ofNat i)).toNatClampNeg]? = some vv := H123.at hin123 (by rw [own_ixx i (by omega), hvv])
  have pre124 : ∀ t, Steps p.tables e below (T122.setTop (mkF m 24 #[.val (.ref tb), .val (.int pg), .val (.int ((16 : Int32) - (1 : Int32))), .val (.int (Int32.ofNat i)), .val vv] [vv])) t → Steps p.tables e below (T0.setTop (mkF m 14 #[.val (.ref tb), .val (.int pg), .val (.int ((16 : Int32) - (1 : Int32))), .val (.int (Int32.ofNat i)), s4] [])) t := fun t kk => pre0 t (by
      show Steps p.tables e below (T0.setTop (mkF m 14 #[.val (.ref tb), .val (.int pg), .val (.int ((16 : Int32) - (1 : Int32))), .val (.int (Int32.ofNat i)), s4] [])) _
      refine XS.aloadN X0.here hx rfl (hb hby d10_14) rfl rfl ?_
      show Steps p.tables e below (T0.setTop (mkF m 15 #[.val (.ref tb), .val (.int pg), .val (.int ((16 : Int32) - (1 : Int32))), .val (.int (Int32.ofNat i)), s4] [(.ref tb)])) _
      refine st122 _ ?_
      show Steps p.tables e below (T122.setTop (mkF m 18 #[.val (.ref tb), .val (.int pg), .val (.int ((16 : Int32) - (1 : Int32))), .val (.int (Int32.ofNat i)), s4] [(.ref a)])) _
      refine XS.iloadN X122.here hx rfl (hb hby d10_18) rfl ?_
      show Steps p.tables e below (T122.setTop (mkF m 19 #[.val (.ref tb), .val (.int pg), .val (.int ((16 : Int32) - (1 : Int32))), .val (.int (Int32.ofNat i)), s4] [(.int (Int32.ofNat i)), (.ref a)])) _
      refine X122.aaload hx (j := (Int32.ofNat i)) (v := vv) (by rw [e122]; exact Ar123.1) (State.isArrayOf_alike hZ.alike Ar123.2.1) rfl Ar123.2.2 hin123 hat123 (g := (mkF m 19 #[.val (.ref tb), .val (.int pg), .val (.int ((16 : Int32) - (1 : Int32))), .val (.int (Int32.ofNat i)), s4] [(.int (Int32.ofNat i)), (.ref a)])) rfl rfl (hb hby d10_19) _ ?_
      show Steps p.tables e below (T122.setTop (mkF m 20 #[.val (.ref tb), .val (.int pg), .val (.int ((16 : Int32) - (1 : Int32))), .val (.int (Int32.ofNat i)), s4] [vv])) _
      refine XS.astore X122.here hx rfl (hb hby d10_20) rfl hr_vv (l' := #[.val (.ref tb), .val (.int pg), .val (.int ((16 : Int32) - (1 : Int32))), .val (.int (Int32.ofNat i)), .val vv]) (XS.store1 rfl hs4 (Jvm.Free.XT.cat1 hr_vv)) ?_
      show Steps p.tables e below (T122.setTop (mkF m 22 #[.val (.ref tb), .val (.int pg), .val (.int ((16 : Int32) - (1 : Int32))), .val (.int (Int32.ofNat i)), .val vv] [])) _
      refine XS.aload X122.here hx rfl (hb hby d10_22) rfl hr_vv ?_
      exact kk)
  by_cases hnull : vv = .null
  · have pre125 : ∀ t, Steps p.tables e below (T122.setTop (mkF m 36 #[.val (.ref tb), .val (.int pg), .val (.int ((16 : Int32) - (1 : Int32))), .val (.int (Int32.ofNat i)), .val vv] [])) t → Steps p.tables e below (T0.setTop (mkF m 14 #[.val (.ref tb), .val (.int pg), .val (.int ((16 : Int32) - (1 : Int32))), .val (.int (Int32.ofNat i)), s4] [])) t := fun t kk => pre124 t (by
        show Steps p.tables e below (T122.setTop (mkF m 24 #[.val (.ref tb), .val (.int pg), .val (.int ((16 : Int32) - (1 : Int32))), .val (.int (Int32.ofNat i)), .val vv] [vv])) _
        refine Jvm.Free.XT.nullYes X122.here hx rfl (pc0 := 24) (pc' := 36) rfl (hb hby d10_24) rfl hnull (by decide) (by decide) ?_
        exact kk)
    exact ⟨T122, _, i, vv, X122, N0, e122, hr_vv, (Or.inl ⟨hnull, own_miss T hi hsc (by rw [← hvv]; exact hnull)⟩), pre125⟩
  · obtain ⟨gg, ef, Ef, Ff⟩ : ∃ f : Addr, vv = .ref f ∧ Exa Z h0 f "com/example/redoubt/redoubt/storage/PageCache$Frame" ∧ Fld Z h0 f "com/example/redoubt/redoubt/storage/PageCache$Frame" "page" "I" (.int (pgs f)) := by
      rcases own_goodp_at G_0 (T.1) hi with q | ⟨f, q, E1, F1⟩
      · exact absurd (hvv.trans q) hnull
      · exact ⟨f, hvv.trans q, E1, F1⟩
    have pre126 : ∀ t, Steps p.tables e below (T122.setTop (mkF m 27 #[.val (.ref tb), .val (.int pg), .val (.int ((16 : Int32) - (1 : Int32))), .val (.int (Int32.ofNat i)), .val vv] [])) t → Steps p.tables e below (T0.setTop (mkF m 14 #[.val (.ref tb), .val (.int pg), .val (.int ((16 : Int32) - (1 : Int32))), .val (.int (Int32.ofNat i)), s4] [])) t := fun t kk => pre124 t (by
        show Steps p.tables e below (T122.setTop (mkF m 24 #[.val (.ref tb), .val (.int pg), .val (.int ((16 : Int32) - (1 : Int32))), .val (.int (Int32.ofNat i)), .val vv] [vv])) _
        refine Jvm.Free.XT.nullNo X122.here hx rfl (hb hby d10_24) rfl hr_vv hnull ?_
        exact kk)
    have pre127 : ∀ t, Steps p.tables e below (T122.setTop (mkF m 27 #[.val (.ref tb), .val (.int pg), .val (.int ((16 : Int32) - (1 : Int32))), .val (.int (Int32.ofNat i)), .val (.ref gg)] [])) t → Steps p.tables e below (T0.setTop (mkF m 14 #[.val (.ref tb), .val (.int pg), .val (.int ((16 : Int32) - (1 : Int32))), .val (.int (Int32.ofNat i)), s4] [])) t := fun t kk => pre126 t (own_cast (fun zz : Value => T122.setTop (mkF m 27 #[.val (.ref tb), .val (.int pg), .val (.int ((16 : Int32) - (1 : Int32))), .val (.int (Int32.ofNat i)), .val zz] [])) ef kk)
    obtain ⟨T128, X128, e128, st128⟩ := getF X122 hx hZ hown (host := "") (Or.inl (hw _ (List.mem_of_getElem? (i := 40) rfl))) Via.refl e122 Ff (g := (mkF m 29 #[.val (.ref tb), .val (.int pg), .val (.int ((16 : Int32) - (1 : Int32))), .val (.int (Int32.ofNat i)), .val (.ref gg)] [(.ref gg)])) rfl rfl (hb hby d10_29)
    have pre129 : ∀ t, Steps p.tables e below (T128.setTop (mkF m 33 #[.val (.ref tb), .val (.int pg), .val (.int ((16 : Int32) - (1 : Int32))), .val (.int (Int32.ofNat i)), .val (.ref gg)] [(.int pg), (.int (pgs gg))])) t → Steps p.tables e below (T0.setTop (mkF m 14 #[.val (.ref tb), .val (.int pg), .val (.int ((16 : Int32) - (1 : Int32))), .val (.int (Int32.ofNat i)), s4] [])) t := fun t kk => pre127 t (by
        show Steps p.tables e below (T122.setTop (mkF m 27 #[.val (.ref tb), .val (.int pg), .val (.int ((16 : Int32) - (1 : Int32))), .val (.int (Int32.ofNat i)), .val (.ref gg)] [])) _
        refine XS.aload X122.here hx rfl (hb hby d10_27) rfl rfl ?_
        show Steps p.tables e below (T122.setTop (mkF m 29 #[.val (.ref tb), .val (.int pg), .val (.int ((16 : Int32) - (1 : Int32))), .val (.int (Int32.ofNat i)), .val (.ref gg)] [(.ref gg)])) _
        refine st128 _ ?_
        show Steps p.tables e below (T128.setTop (mkF m 32 #[.val (.ref tb), .val (.int pg), .val (.int ((16 : Int32) - (1 : Int32))), .val (.int (Int32.ofNat i)), .val (.ref gg)] [(.int (pgs gg))])) _
        refine XS.iloadN X128.here hx rfl (hb hby d10_32) rfl ?_
        exact kk)
    by_cases hpg : (pgs gg) = pg
    · have pre130 : ∀ t, Steps p.tables e below (T128.setTop (mkF m 36 #[.val (.ref tb), .val (.int pg), .val (.int ((16 : Int32) - (1 : Int32))), .val (.int (Int32.ofNat i)), .val (.ref gg)] [])) t → Steps p.tables e below (T0.setTop (mkF m 14 #[.val (.ref tb), .val (.int pg), .val (.int ((16 : Int32) - (1 : Int32))), .val (.int (Int32.ofNat i)), s4] [])) t := fun t kk => pre129 t (by
          show Steps p.tables e below (T128.setTop (mkF m 33 #[.val (.ref tb), .val (.int pg), .val (.int ((16 : Int32) - (1 : Int32))), .val (.int (Int32.ofNat i)), .val (.ref gg)] [(.int pg), (.int (pgs gg))])) _
          refine XS.icmpNo X128.here hx rfl (hb hby d10_33) rfl (teq hpg).2 ?_
          exact kk)
      exact ⟨T128, _, i, (.ref gg), X128, N0, e128, rfl, (Or.inr ⟨gg, rfl, ⟨i, hi, by rw [← hvv]; exact ef⟩, hpg⟩), pre130⟩
    · have pre131 : ∀ t, Steps p.tables e below (T128.setTop (mkF m 14 #[.val (.ref tb), .val (.int pg), .val (.int ((16 : Int32) - (1 : Int32))), .val (.int (((Int32.ofNat i) + (1 : Int32)) &&& ((16 : Int32) - (1 : Int32)))), .val (.ref gg)] [])) t → Steps p.tables e below (T0.setTop (mkF m 14 #[.val (.ref tb), .val (.int pg), .val (.int ((16 : Int32) - (1 : Int32))), .val (.int (Int32.ofNat i)), s4] [])) t := fun t kk => pre129 t (by
          show Steps p.tables e below (T128.setTop (mkF m 33 #[.val (.ref tb), .val (.int pg), .val (.int ((16 : Int32) - (1 : Int32))), .val (.int (Int32.ofNat i)), .val (.ref gg)] [(.int pg), (.int (pgs gg))])) _
          refine XS.icmpYes X128.here hx rfl (pc0 := 33) (pc' := 39) rfl (hb hby d10_33) rfl (feq hpg).2 (by decide) (by decide) ?_
          show Steps p.tables e below (T128.setTop (mkF m 39 #[.val (.ref tb), .val (.int pg), .val (.int ((16 : Int32) - (1 : Int32))), .val (.int (Int32.ofNat i)), .val (.ref gg)] [])) _
          refine XS.iloadN X128.here hx rfl (hb hby d10_39) rfl ?_
          show Steps p.tables e below (T128.setTop (mkF m 40 #[.val (.ref tb), .val (.int pg), .val (.int ((16 : Int32) - (1 : Int32))), .val (.int (Int32.ofNat i)), .val (.ref gg)] [(.int (Int32.ofNat i))])) _
          refine XS.iconst X128.here hx rfl (hb hby d10_40) ?_
          show Steps p.tables e below (T128.setTop (mkF m 41 #[.val (.ref tb), .val (.int pg), .val (.int ((16 : Int32) - (1 : Int32))), .val (.int (Int32.ofNat i)), .val (.ref gg)] [(.int (1 : Int32)), (.int (Int32.ofNat i))])) _
          refine XS.iadd X128.here hx rfl (hb hby d10_41) rfl ?_
          show Steps p.tables e below (T128.setTop (mkF m 42 #[.val (.ref tb), .val (.int pg), .val (.int ((16 : Int32) - (1 : Int32))), .val (.int (Int32.ofNat i)), .val (.ref gg)] [(.int ((Int32.ofNat i) + (1 : Int32)))])) _
          refine XS.iloadN X128.here hx rfl (hb hby d10_42) rfl ?_
          show Steps p.tables e below (T128.setTop (mkF m 43 #[.val (.ref tb), .val (.int pg), .val (.int ((16 : Int32) - (1 : Int32))), .val (.int (Int32.ofNat i)), .val (.ref gg)] [(.int ((16 : Int32) - (1 : Int32))), (.int ((Int32.ofNat i) + (1 : Int32)))])) _
          refine XS.iand X128.here hx rfl (hb hby d10_43) rfl ?_
          show Steps p.tables e below (T128.setTop (mkF m 44 #[.val (.ref tb), .val (.int pg), .val (.int ((16 : Int32) - (1 : Int32))), .val (.int (Int32.ofNat i)), .val (.ref gg)] [(.int (((Int32.ofNat i) + (1 : Int32)) &&& ((16 : Int32) - (1 : Int32))))])) _
          refine XS.istoreN X128.here hx rfl (hb hby d10_44) rfl (l' := #[.val (.ref tb), .val (.int pg), .val (.int ((16 : Int32) - (1 : Int32))), .val (.int (((Int32.ofNat i) + (1 : Int32)) &&& ((16 : Int32) - (1 : Int32)))), .val (.ref gg)]) rfl ?_
          show Steps p.tables e below (T128.setTop (mkF m 45 #[.val (.ref tb), .val (.int pg), .val (.int ((16 : Int32) - (1 : Int32))), .val (.int (((Int32.ofNat i) + (1 : Int32)) &&& ((16 : Int32) - (1 : Int32)))), .val (.ref gg)] [])) _
          refine XS.goto X128.here hx rfl (pc0 := 45) (pc' := 14) rfl (hb hby d10_45) (by decide) (by decide) ?_
          exact kk)
      have eq132 : (((Int32.ofNat i) + (1 : Int32)) &&& ((16 : Int32) - (1 : Int32))) = (Int32.ofNat ((i + 1) % 16)) := own_nx16 i hi
      have pre133 : ∀ t, Steps p.tables e below (T128.setTop (mkF m 14 #[.val (.ref tb), .val (.int pg), .val (.int ((16 : Int32) - (1 : Int32))), .val (.int (Int32.ofNat ((i + 1) % 16))), .val (.ref gg)] [])) t → Steps p.tables e below (T0.setTop (mkF m 14 #[.val (.ref tb), .val (.int pg), .val (.int ((16 : Int32) - (1 : Int32))), .val (.int (Int32.ofNat i)), s4] [])) t := fun t kk => pre131 t (own_cast (fun zz : Int32 => T128.setTop (mkF m 14 #[.val (.ref tb), .val (.int pg), .val (.int ((16 : Int32) - (1 : Int32))), .val (.int zz), .val (.ref gg)] [])) eq132 kk)
      have hp134 : own_TI (own_hmf pgs) vs := T
      have hp135 : ((i + 1) % 16) < 16 := Nat.mod_lt _ (by decide)
      have hp136 : j0 < 16 := hj
      have hp137 : vs.getD j0 .null = .null := hj0
      have hp138 : ∀ q, q < 16 → own_d (own_home pg (28 : Int32)).toNatClampNeg q < own_d (own_home pg (28 : Int32)).toNatClampNeg ((i + 1) % 16) → ∃ g, vs.getD q .null = .ref g ∧ pgs g ≠ pg := own_scan (own_hme pg).2 hi hsc ⟨gg, by rw [← hvv]; exact ef, hpg⟩
      have hp139 : (Slot.val (.ref gg)) = .unset ∨ ∃ w, (Slot.val (.ref gg)) = .val w ∧ w.category = 1 := Or.inr ⟨.ref gg, rfl, rfl⟩
      obtain ⟨T140, lc140, ix_140, rv_140, X140, N140, e140, pu140_0, pu140_1, pre140⟩ := ih _ (own_dec (Or.inl ⟨rfl, rfl, rfl⟩ : own_tb 16 16 28) hi hj (fun q => hnull (by rw [hvv, q]; exact hj0))) T128 _ h0 tb pg ((i + 1) % 16) (Slot.val (.ref gg)) a k vs j0 pgs X128 e128 N0 Z0 F_slots_tb V_a G_0 hp134 hp135 hp136 hp137 hp138 hp139 rfl
      exact ⟨T140, _, ix_140, rv_140, X140, N140, e140, pu140_0, pu140_1, fun t kk => pre133 t (pre140 t kk)⟩
theorem d10_0 : decode prog_47_method_2_code 0 = .ok (.aload_n 0, 1) := by decide +kernel
theorem d10_1 : decode prog_47_method_2_code 1 = .ok (.getfield 11, 3) := by decide +kernel
theorem d10_4 : decode prog_47_method_2_code 4 = .ok (.arraylength, 1) := by decide +kernel
theorem d10_5 : decode prog_47_method_2_code 5 = .ok (.iconst 1, 1) := by decide +kernel
theorem d10_6 : decode prog_47_method_2_code 6 = .ok (.isub, 1) := by decide +kernel
theorem d10_7 : decode prog_47_method_2_code 7 = .ok (.istore_n 2, 1) := by decide +kernel
theorem d10_8 : decode prog_47_method_2_code 8 = .ok (.aload_n 0, 1) := by decide +kernel
theorem d10_9 : decode prog_47_method_2_code 9 = .ok (.iload_n 1, 1) := by decide +kernel
theorem d10_10 : decode prog_47_method_2_code 10 = .ok (.invokevirtual 21, 3) := by decide +kernel
theorem d10_13 : decode prog_47_method_2_code 13 = .ok (.istore_n 3, 1) := by decide +kernel
theorem d10_36 : decode prog_47_method_2_code 36 = .ok (.aload 4, 2) := by decide +kernel
theorem d10_38 : decode prog_47_method_2_code 38 = .ok (.areturn, 1) := by decide +kernel
theorem ef_rmGet (m : MethodId) (x0 : Addr) (x1 : Int32) : entryFrame m #[(.ref x0), (.int x1)] 5 = mkF m 0 #[.val (.ref x0), .val (.int x1), .unset, .unset, .unset] [] := by first | (simp [entryFrame, mkF, argsToLocals, Value.category]; done) | rfl
def QGet (Z : State) (tb : Addr) (pg : Int32) (a : Addr) (k : ClassId) (vs : List Value) (j0 : Nat) (pgs : Addr → Int32) (h0 : Heap) (n0 : Nat) (v : Option Value) (h : Heap) (L : List Loc) : Prop := ∃ (rv : Value), v = some rv ∧ Fr n0 L ∧ h = h0 ∧ (rv.isRef = true) ∧ ((rv = .null ∧ ∀ g, own_R vs g → pgs g ≠ pg) ∨ (∃ g, rv = .ref g ∧ own_R vs g ∧ pgs g = pg))
set_option maxRecDepth 65536 in
set_option maxHeartbeats 40000000 in
theorem rmGet (l : Launch) (Z : State) (a0 : Array Value) (hw : ∀ d ∈ tables_1, d.before a0 Z = true) (ws : List Jvm.Cond) (tb : Addr) (pg : Int32) (a : Addr) (k : ClassId) (vs : List Value) (j0 : Nat) (pgs : Addr → Int32) (h0 : Heap) (n0 : Nat) (Z0 : n0 ≤ h0.size) (E_tb : Exa Z h0 tb "com/example/redoubt/redoubt/storage/FrameTable") (F_slots_tb : Fld Z h0 tb "com/example/redoubt/redoubt/storage/FrameTable" "slots" "[Lcom/example/redoubt/redoubt/storage/PageCache$Frame;" (.ref a)) (F_shift_tb : Fld Z h0 tb "com/example/redoubt/redoubt/storage/FrameTable" "shift" "I" (.int (28 : Int32))) (V_a : Arv Z h0 a k (.object "com/example/redoubt/redoubt/storage/PageCache$Frame") (16 : Int32) vs .null) (G_0 : own_GoodP Z h0 pgs vs) (T : own_TI (own_hmf pgs) vs) (hj : j0 < 16) (hj0 : vs.getD j0 .null = .null) :
    MetFree l (⟨"com/example/redoubt/redoubt/storage/FrameTable", "get", "(I)Lcom/example/redoubt/redoubt/storage/PageCache$Frame;"⟩ : MethodName) (head1 (Jvm.Cond.code (⟨"com/example/redoubt/redoubt/storage/FrameTable", "get", "(I)Lcom/example/redoubt/redoubt/storage/PageCache$Frame;"⟩ : MethodName) prog_47_method_2_code 5 (some (.object "com/example/redoubt/redoubt/storage/PageCache$Frame")) :: ws) ({ frames := 1, cells := 0, slots := 0, locals := 13 } : Room)) (fun aA uU => aA = #[(.ref tb), (.int pg)] ∧ Z.Warmed39 uU.vm ∧ uU.heap = h0) (fun _ _ _ _ _ => True) (fun _ uU oO uU' => ∃ vV lL, oO = .returned vV ∧ QGet Z tb pg a k vs j0 pgs h0 n0 vV uU'.heap lL ∧ FrameEnd uU oO uU' lL ({ frames := 1, cells := 0, slots := 0, locals := 13 } : Room).cells ({ frames := 1, cells := 0, slots := 0, locals := 13 } : Room).slots) := by
  refine MetFree.of_bodySF (plainFor_of_name pn_1) hisR ?_
  intro p e s m args below meth c s₁ Bd hml0 hP hK
  obtain ⟨rfl, hZ, hh⟩ := hP
  have hx := Bd.exec
  have hby := Bd.bytes
  have hml : c.maxLocals = 5 := hml0
  have hown : s.vm.findClass "com/example/redoubt/redoubt/storage/FrameTable" = some m.cls := findClass_of_methodNamed Bd.named
  have hnm := (name_of_methodNamed Bd.named Bd.method).1
  have X0 : Stand p l e ({ frames := 1, cells := 0, slots := 0, locals := 13 } : Room) s m #[(.ref tb), (.int pg)] below meth c s₁ [] 0 0 := Stand.of_body Bd
  have e0 : s₁.heap = h0 := by rw [← hh, Bd.state]; rfl
  have N0 := Fr.nil n0
  have pre0 : ∀ t, Steps p.tables e below (s₁.setTop (mkF m 0 #[.val (.ref tb), .val (.int pg), .unset, .unset, .unset] [])) t → Steps p.tables e below (s₁.setTop (entryFrame m #[(.ref tb), (.int pg)] 5)) t := fun t kk => castTop (ef_rmGet m tb pg) kk
  obtain ⟨T141, X141, e141, st141⟩ := getF X0 hx hZ hown (host := "") (Or.inl (hw _ (List.mem_of_getElem? (i := 25) rfl))) Via.refl e0 F_slots_tb (g := (mkF m 1 #[.val (.ref tb), .val (.int pg), .unset, .unset, .unset] [(.ref tb)])) rfl rfl (hb hby d10_1)
  obtain ⟨cl142, Ar142, -, Sz142, Nn142, -, -⟩ := id V_a
  obtain ⟨cq143, q143, q143'⟩ := E_tb.cell
  obtain ⟨_, _, ⟨T143, L143, k143, n143⟩, -, X143, ⟨Lc143, hQ143, l143, y143, z143⟩, st143⟩ := own_privBack X141 hx (y := (⟨"com/example/redoubt/redoubt/storage/FrameTable", "home", "(I)I"⟩ : MethodName)) hown (mvT hZ (hw _ (List.mem_of_getElem? (i := 41) rfl))) (mvT hZ (hw _ (List.mem_of_getElem? (i := 42) rfl))) (mvT hZ (hw _ (List.mem_of_getElem? (i := 18) rfl))) (Cond.privateMethod_at (mvP hZ (hw _ (List.mem_of_getElem? (i := 43) rfl)) (args := #[]))) (mvT hZ (hw _ (List.mem_of_getElem? (i := 44) rfl))) (by decide) (backOf (W := 0) (rmHome l Z a0 hw [] tb pg (28 : Int32) h0 n0 Z0 F_shift_tb) hZ (hw _ (List.mem_of_getElem? (i := 44) rfl)) (hw _ (List.mem_of_getElem? (i := 19) rfl)) (by decide) (by decide)) (g := (mkF m 10 #[.val (.ref tb), .val (.int pg), .val (.int ((16 : Int32) - (1 : Int32))), .unset, .unset] [(.int pg), (.ref tb)])) rfl (by rw [hml]; rfl) (a := tb) (by rw [e141]; exact q143) q143' (argsL := [(.int pg)]) (rest := []) (lenOf pd_0 rfl) rfl (by show 2 * 0 + _ ≤ _; exact Nat.le_of_eq rfl) (hb hby d10_10) (fun _ _ => ⟨rfl, e141, (by decide : 0 + 0 ≤ _), (by decide : 0 + 0 ≤ _)⟩)
  dsimp only [Pt.U, Pt.locs, Pt.cells, Pt.slots] at X143 l143 y143 z143 st143 hQ143
  rw [l143, y143, z143] at X143
  replace X143 := own_std X143 (cc := 0) (ss := 0) rfl rfl
  obtain ⟨rfl, N143q, e143⟩ := hQ143
  have N143 := Fr.app N0 N143q
  have pre144 : ∀ t, Steps p.tables e below (T143.setTop (mkF m 14 #[.val (.ref tb), .val (.int pg), .val (.int ((16 : Int32) - (1 : Int32))), .val (.int (own_home pg (28 : Int32))), .unset] [])) t → Steps p.tables e below (s₁.setTop (entryFrame m #[(.ref tb), (.int pg)] 5)) t := fun t kk => pre0 t (by
      show Steps p.tables e below (s₁.setTop (mkF m 0 #[.val (.ref tb), .val (.int pg), .unset, .unset, .unset] [])) _
      refine XS.aloadN X0.here hx rfl (hb hby d10_0) rfl rfl ?_
      show Steps p.tables e below (s₁.setTop (mkF m 1 #[.val (.ref tb), .val (.int pg), .unset, .unset, .unset] [(.ref tb)])) _
      refine st141 _ ?_
      show Steps p.tables e below (T141.setTop (mkF m 4 #[.val (.ref tb), .val (.int pg), .unset, .unset, .unset] [(.ref a)])) _
      refine X141.arraylength hx (by rw [e141]; exact Ar142.1) (State.isArrayOf_alike hZ.alike Ar142.2.1) (g := (mkF m 4 #[.val (.ref tb), .val (.int pg), .unset, .unset, .unset] [(.ref a)])) rfl rfl (hb hby d10_4) _ ?_
      rw [len_of Sz142 Nn142]
      show Steps p.tables e below (T141.setTop (mkF m 5 #[.val (.ref tb), .val (.int pg), .unset, .unset, .unset] [(.int (16 : Int32))])) _
      refine XS.iconst X141.here hx rfl (hb hby d10_5) ?_
      show Steps p.tables e below (T141.setTop (mkF m 6 #[.val (.ref tb), .val (.int pg), .unset, .unset, .unset] [(.int (1 : Int32)), (.int (16 : Int32))])) _
      refine XS.isub X141.here hx rfl (hb hby d10_6) rfl ?_
      show Steps p.tables e below (T141.setTop (mkF m 7 #[.val (.ref tb), .val (.int pg), .unset, .unset, .unset] [(.int ((16 : Int32) - (1 : Int32)))])) _
      refine XS.istoreN X141.here hx rfl (hb hby d10_7) rfl (l' := #[.val (.ref tb), .val (.int pg), .val (.int ((16 : Int32) - (1 : Int32))), .unset, .unset]) rfl ?_
      show Steps p.tables e below (T141.setTop (mkF m 8 #[.val (.ref tb), .val (.int pg), .val (.int ((16 : Int32) - (1 : Int32))), .unset, .unset] [])) _
      refine XS.aloadN X141.here hx rfl (hb hby d10_8) rfl rfl ?_
      show Steps p.tables e below (T141.setTop (mkF m 9 #[.val (.ref tb), .val (.int pg), .val (.int ((16 : Int32) - (1 : Int32))), .unset, .unset] [(.ref tb)])) _
      refine XS.iloadN X141.here hx rfl (hb hby d10_9) rfl ?_
      show Steps p.tables e below (T141.setTop (mkF m 10 #[.val (.ref tb), .val (.int pg), .val (.int ((16 : Int32) - (1 : Int32))), .unset, .unset] [(.int pg), (.ref tb)])) _
      refine st143.trans ?_
      show Steps p.tables e below (T143.setTop (mkF m 13 #[.val (.ref tb), .val (.int pg), .val (.int ((16 : Int32) - (1 : Int32))), .unset, .unset] [(.int (own_home pg (28 : Int32)))])) _
      refine XS.istoreN X143.here hx rfl (hb hby d10_13) rfl (l' := #[.val (.ref tb), .val (.int pg), .val (.int ((16 : Int32) - (1 : Int32))), .val (.int (own_home pg (28 : Int32))), .unset]) rfl ?_
      exact kk)
  have eq145 : (own_home pg (28 : Int32)) = (Int32.ofNat (own_home pg (28 : Int32)).toNatClampNeg) := (own_hme pg).1
  have pre146 : ∀ t, Steps p.tables e below (T143.setTop (mkF m 14 #[.val (.ref tb), .val (.int pg), .val (.int ((16 : Int32) - (1 : Int32))), .val (.int (Int32.ofNat (own_home pg (28 : Int32)).toNatClampNeg)), .unset] [])) t → Steps p.tables e below (s₁.setTop (entryFrame m #[(.ref tb), (.int pg)] 5)) t := fun t kk => pre144 t (own_cast (fun zz : Int32 => T143.setTop (mkF m 14 #[.val (.ref tb), .val (.int pg), .val (.int ((16 : Int32) - (1 : Int32))), .val (.int zz), .unset] [])) eq145 kk)
  have hp147 : own_TI (own_hmf pgs) vs := T
  have hp148 : ((own_home pg (28 : Int32)).toNatClampNeg) < 16 := (own_hme pg).2
  have hp149 : j0 < 16 := hj
  have hp150 : vs.getD j0 .null = .null := hj0
  have hp151 : ∀ q, q < 16 → own_d (own_home pg (28 : Int32)).toNatClampNeg q < own_d (own_home pg (28 : Int32)).toNatClampNeg ((own_home pg (28 : Int32)).toNatClampNeg) → ∃ g, vs.getD q .null = .ref g ∧ pgs g ≠ pg := fun q _ h => absurd h (own_d0 _ _)
  have hp152 : Slot.unset = .unset ∨ ∃ w, Slot.unset = .val w ∧ w.category = 1 := Or.inl rfl
  obtain ⟨T153, lc153, ix_153, rv_153, X153, N153, e153, pu153_0, pu153_1, pre153⟩ := loopGet hx hZ hw hby hml hown (n0 := n0) _ T143 _ h0 tb pg ((own_home pg (28 : Int32)).toNatClampNeg) Slot.unset a k vs j0 pgs X143 e143 N143 Z0 F_slots_tb V_a G_0 hp147 hp148 hp149 hp150 hp151 hp152 rfl
  have pre154 : ∀ t, Steps p.tables e below (T153.setTop (mkF m 36 #[.val (.ref tb), .val (.int pg), .val (.int ((16 : Int32) - (1 : Int32))), .val (.int (Int32.ofNat ix_153)), .val rv_153] [])) t → Steps p.tables e below (s₁.setTop (entryFrame m #[(.ref tb), (.int pg)] 5)) t := fun t kk => pre146 t (pre153 t kk)
  have hr_rv_153 := pu153_0
  have pre155 : ∀ t, Steps p.tables e below (T153.setTop (mkF m 38 #[.val (.ref tb), .val (.int pg), .val (.int ((16 : Int32) - (1 : Int32))), .val (.int (Int32.ofNat ix_153)), .val rv_153] [rv_153])) t → Steps p.tables e below (s₁.setTop (entryFrame m #[(.ref tb), (.int pg)] 5)) t := fun t kk => pre154 t (by
      show Steps p.tables e below (T153.setTop (mkF m 36 #[.val (.ref tb), .val (.int pg), .val (.int ((16 : Int32) - (1 : Int32))), .val (.int (Int32.ofNat ix_153)), .val rv_153] [])) _
      refine XS.aload X153.here hx rfl (hb hby d10_36) rfl hr_rv_153 ?_
      exact kk)
  obtain ⟨fs, hr, hrun, hended, hW, hsame⟩ := X153.leave (v := some rv_153) (fun h => by rw [Bd.returns] at h; cases h)
  refine ⟨_, _, pre155 _ ?_, hrun, hended, _, _, rfl, ?_, ⟨_, rfl⟩, hW, hsame.mono (by decide) (by decide)⟩
  · show Steps p.tables e below (T153.setTop (mkF m 38 #[.val (.ref tb), .val (.int pg), .val (.int ((16 : Int32) - (1 : Int32))), .val (.int (Int32.ofNat ix_153)), .val rv_153] [rv_153])) _
    exact retOut X153 hx Bd.returns rfl (Or.inr (Or.inr (Or.inr (Or.inr ⟨rfl, rfl, hr_rv_153⟩)))) (hb hby d10_38) hr
  · show QGet Z tb pg a k vs j0 pgs h0 n0 _ T153.heap _
    rw [e153]
    exact ⟨rv_153, rfl, N153, rfl, pu153_0, pu153_1⟩
theorem d9_0 : decode method_3_code 0 = .ok (.aload_n 0, 1) := by decide +kernel
theorem d9_1 : decode method_3_code 1 = .ok (.iload_n 2, 1) := by decide +kernel
theorem d9_2 : decode method_3_code 2 = .ok (.invokevirtual 35, 3) := by decide +kernel
theorem pd_2 : parseMethodDescriptor "(I)Lcom/example/redoubt/redoubt/storage/PageCache$Frame;" = some ⟨[.int], some (.object "com/example/redoubt/redoubt/storage/PageCache$Frame")⟩ := by decide +kernel
theorem d9_5 : decode method_3_code 5 = .ok (.astore 4, 2) := by decide +kernel
theorem d9_7 : decode method_3_code 7 = .ok (.iload_n 3, 1) := by decide +kernel
theorem d9_8 : decode method_3_code 8 = .ok (.ifCond .eq 16, 3) := by decide +kernel
theorem d9_11 : decode method_3_code 11 = .ok (.aload 4, 2) := by decide +kernel
theorem d9_13 : decode method_3_code 13 = .ok (.ifnonnull 7, 3) := by decide +kernel
theorem d9_16 : decode method_3_code 16 = .ok (.iconst 1, 1) := by decide +kernel
theorem d9_17 : decode method_3_code 17 = .ok (.goto 18, 3) := by decide +kernel
theorem d9_35 : decode method_3_code 35 = .ok (.ireturn, 1) := by decide +kernel
theorem d9_24 : decode method_3_code 24 = .ok (.aload 4, 2) := by decide +kernel
theorem d9_26 : decode method_3_code 26 = .ok (.aload_n 1, 1) := by decide +kernel
theorem d9_27 : decode method_3_code 27 = .ok (.if_acmp .ne 7, 3) := by decide +kernel
theorem d9_30 : decode method_3_code 30 = .ok (.iconst 1, 1) := by decide +kernel
theorem d9_31 : decode method_3_code 31 = .ok (.goto 4, 3) := by decide +kernel
theorem ef_rmCheck (m : MethodId) (x0 : Addr) (x1 : Addr) (x2 : Int32) (x3 : Int32) : entryFrame m #[(.ref x0), (.ref x1), (.int x2), (.int x3)] 5 = mkF m 0 #[.val (.ref x0), .val (.ref x1), .val (.int x2), .val (.int x3), .unset] [] := by first | (simp [entryFrame, mkF, argsToLocals, Value.category]; done) | rfl
def QCheck (Z : State) (tb : Addr) (fr : Addr) (pg : Int32) (gn : Int32) (a : Addr) (k : ClassId) (vs : List Value) (j0 : Nat) (pgs : Addr → Int32) (h0 : Heap) (n0 : Nat) (v : Option Value) (h : Heap) (L : List Loc) : Prop := v = some (.int (1 : Int32)) ∧ Fr n0 L ∧ h = h0
theorem pn_2 : plainName "com/example/redoubt/redoubt/storage/FrameTableRemovePinLaw" = true := by first | (simp [plainName, overriddenIn]; done) | decide +kernel
set_option maxRecDepth 65536 in
set_option maxHeartbeats 40000000 in
theorem rmCheck (l : Launch) (Z : State) (a0 : Array Value) (hw : ∀ d ∈ tables_1, d.before a0 Z = true) (ws : List Jvm.Cond) (tb : Addr) (fr : Addr) (pg : Int32) (gn : Int32) (a : Addr) (k : ClassId) (vs : List Value) (j0 : Nat) (pgs : Addr → Int32) (h0 : Heap) (n0 : Nat) (Z0 : n0 ≤ h0.size) (E_tb : Exa Z h0 tb "com/example/redoubt/redoubt/storage/FrameTable") (F_slots_tb : Fld Z h0 tb "com/example/redoubt/redoubt/storage/FrameTable" "slots" "[Lcom/example/redoubt/redoubt/storage/PageCache$Frame;" (.ref a)) (F_shift_tb : Fld Z h0 tb "com/example/redoubt/redoubt/storage/FrameTable" "shift" "I" (.int (28 : Int32))) (V_a : Arv Z h0 a k (.object "com/example/redoubt/redoubt/storage/PageCache$Frame") (16 : Int32) vs .null) (G_0 : own_GoodP Z h0 pgs vs) (T : own_TI (own_hmf pgs) vs) (hj : j0 < 16) (hj0 : vs.getD j0 .null = .null) (hg1 : ¬ gn = (0 : Int32) → ∀ g, own_R vs g → pgs g ≠ pg) (hg2 : gn = (0 : Int32) → own_R vs fr ∧ pgs fr = pg ∧ ∀ g, own_R vs g → pgs g = pg → g = fr) :
    MetFree l (⟨"com/example/redoubt/redoubt/storage/FrameTableRemovePinLaw", "check", "(Lcom/example/redoubt/redoubt/storage/FrameTable;Lcom/example/redoubt/redoubt/storage/PageCache$Frame;IZ)Z"⟩ : MethodName) (head1 (Jvm.Cond.code (⟨"com/example/redoubt/redoubt/storage/FrameTableRemovePinLaw", "check", "(Lcom/example/redoubt/redoubt/storage/FrameTable;Lcom/example/redoubt/redoubt/storage/PageCache$Frame;IZ)Z"⟩ : MethodName) method_3_code 5 (some .boolean) :: ws) ({ frames := 2, cells := 0, slots := 0, locals := 29 } : Room)) (fun aA uU => aA = #[(.ref tb), (.ref fr), (.int pg), (.int gn)] ∧ Z.Warmed39 uU.vm ∧ uU.heap = h0) (fun _ _ _ _ _ => True) (fun _ uU oO uU' => ∃ vV lL, oO = .returned vV ∧ QCheck Z tb fr pg gn a k vs j0 pgs h0 n0 vV uU'.heap lL ∧ FrameEnd uU oO uU' lL ({ frames := 2, cells := 0, slots := 0, locals := 29 } : Room).cells ({ frames := 2, cells := 0, slots := 0, locals := 29 } : Room).slots) := by
  refine MetFree.of_bodySF (plainFor_of_name pn_2) hisR ?_
  intro p e s m args below meth c s₁ Bd hml0 hP hK
  obtain ⟨rfl, hZ, hh⟩ := hP
  have hx := Bd.exec
  have hby := Bd.bytes
  have hml : c.maxLocals = 5 := hml0
  have hown : s.vm.findClass "com/example/redoubt/redoubt/storage/FrameTableRemovePinLaw" = some m.cls := findClass_of_methodNamed Bd.named
  have hnm := (name_of_methodNamed Bd.named Bd.method).1
  have X0 : Stand p l e ({ frames := 2, cells := 0, slots := 0, locals := 29 } : Room) s m #[(.ref tb), (.ref fr), (.int pg), (.int gn)] below meth c s₁ [] 0 0 := Stand.of_body Bd
  have e0 : s₁.heap = h0 := by rw [← hh, Bd.state]; rfl
  have N0 := Fr.nil n0
  have pre0 : ∀ t, Steps p.tables e below (s₁.setTop (mkF m 0 #[.val (.ref tb), .val (.ref fr), .val (.int pg), .val (.int gn), .unset] [])) t → Steps p.tables e below (s₁.setTop (entryFrame m #[(.ref tb), (.ref fr), (.int pg), (.int gn)] 5)) t := fun t kk => castTop (ef_rmCheck m tb fr pg gn) kk
  have hp157 : own_TI (own_hmf pgs) vs := T
  have hp158 : j0 < 16 := hj
  have hp159 : vs.getD j0 .null = .null := hj0
  obtain ⟨cq156, kq156, q156a, q156b, q156c⟩ := isOf hZ e0 E_tb
  obtain ⟨_, _, ⟨T156, L156, k156, n156⟩, -, X156, ⟨Lc156, hQ156, l156, y156, z156⟩, st156⟩ := X0.virtualBack hx (y := (⟨"com/example/redoubt/redoubt/storage/FrameTable", "get", "(I)Lcom/example/redoubt/redoubt/storage/PageCache$Frame;"⟩ : MethodName)) (z := (⟨"com/example/redoubt/redoubt/storage/FrameTable", "get", "(I)Lcom/example/redoubt/redoubt/storage/PageCache$Frame;"⟩ : MethodName)) hown (mvT hZ (hw _ (List.mem_of_getElem? (i := 61) rfl))) (mvT hZ (hw _ (List.mem_of_getElem? (i := 62) rfl))) (notFace_of_selects (args := #[]) (mvT hZ (hw _ (List.mem_of_getElem? (i := 64) rfl)))) (mvT hZ (hw _ (List.mem_of_getElem? (i := 64) rfl))) (mvT hZ (hw _ (List.mem_of_getElem? (i := 63) rfl))) (by decide) (backOf (W := 0) (rmGet l Z a0 hw [] tb pg a k vs j0 pgs h0 n0 Z0 E_tb F_slots_tb F_shift_tb V_a G_0 hp157 hp158 hp159) hZ (hw _ (List.mem_of_getElem? (i := 65) rfl)) (hw _ (List.mem_of_getElem? (i := 19) rfl)) (by decide) (by decide)) q156a q156c (g := (mkF m 2 #[.val (.ref tb), .val (.ref fr), .val (.int pg), .val (.int gn), .unset] [(.int pg), (.ref tb)])) rfl (by rw [hml]; rfl) (Steps.refl _) (argsL := [(.int pg)]) (rest := []) (lenOf pd_2 rfl) rfl (by show 2 * 0 + _ ≤ _; exact Nat.le_of_eq rfl) (hb hby d9_2) (fun _ _ => ⟨rfl, e0, (by decide : 0 + 0 ≤ _), (by decide : 0 + 0 ≤ _)⟩)
  dsimp only [Pt.U, Pt.locs, Pt.cells, Pt.slots] at X156 l156 y156 z156 st156 hQ156
  rw [l156, y156, z156] at X156
  replace X156 := own_std X156 (cc := 0) (ss := 0) rfl rfl
  obtain ⟨rv_156, rfl, N156q, e156, pu156_0, pu156_1⟩ := hQ156
  have N156 := Fr.app N0 N156q
  have hr_rv_156 : rv_156.isRef = true := pu156_0
  have pre160 : ∀ t, Steps p.tables e below (T156.setTop (mkF m 8 #[.val (.ref tb), .val (.ref fr), .val (.int pg), .val (.int gn), .val rv_156] [(.int gn)])) t → Steps p.tables e below (s₁.setTop (entryFrame m #[(.ref tb), (.ref fr), (.int pg), (.int gn)] 5)) t := fun t kk => pre0 t (by
      show Steps p.tables e below (s₁.setTop (mkF m 0 #[.val (.ref tb), .val (.ref fr), .val (.int pg), .val (.int gn), .unset] [])) _
      refine XS.aloadN X0.here hx rfl (hb hby d9_0) rfl rfl ?_
      show Steps p.tables e below (s₁.setTop (mkF m 1 #[.val (.ref tb), .val (.ref fr), .val (.int pg), .val (.int gn), .unset] [(.ref tb)])) _
      refine XS.iloadN X0.here hx rfl (hb hby d9_1) rfl ?_
      show Steps p.tables e below (s₁.setTop (mkF m 2 #[.val (.ref tb), .val (.ref fr), .val (.int pg), .val (.int gn), .unset] [(.int pg), (.ref tb)])) _
      refine st156.trans ?_
      show Steps p.tables e below (T156.setTop (mkF m 5 #[.val (.ref tb), .val (.ref fr), .val (.int pg), .val (.int gn), .unset] [rv_156])) _
      refine XS.astore X156.here hx rfl (hb hby d9_5) rfl hr_rv_156 (l' := #[.val (.ref tb), .val (.ref fr), .val (.int pg), .val (.int gn), .val rv_156]) (XS.store1 rfl (Or.inl rfl) (Jvm.Free.XT.cat1 hr_rv_156)) ?_
      show Steps p.tables e below (T156.setTop (mkF m 7 #[.val (.ref tb), .val (.ref fr), .val (.int pg), .val (.int gn), .val rv_156] [])) _
      refine XS.iloadN X156.here hx rfl (hb hby d9_7) rfl ?_
      exact kk)
  by_cases hgn : gn = (0 : Int32)
  · have hx0 : rv_156 = (.ref fr) := by
      obtain ⟨h1, h2, h3⟩ := hg2 hgn
      rcases pu156_1 with ⟨-, q⟩ | ⟨g, q, r, e⟩
      · exact absurd h2 (q fr h1)
      · rw [q, h3 g r e]
    have pre162 : ∀ t, Steps p.tables e below (T156.setTop (mkF m 35 #[.val (.ref tb), .val (.ref fr), .val (.int pg), .val (.int gn), .val rv_156] [(.int (1 : Int32))])) t → Steps p.tables e below (s₁.setTop (entryFrame m #[(.ref tb), (.ref fr), (.int pg), (.int gn)] 5)) t := fun t kk => pre160 t (by
        show Steps p.tables e below (T156.setTop (mkF m 8 #[.val (.ref tb), .val (.ref fr), .val (.int pg), .val (.int gn), .val rv_156] [(.int gn)])) _
        refine XS.ifYes X156.here hx rfl (pc0 := 8) (pc' := 24) rfl (hb hby d9_8) rfl ((if0 _ _).trans (teq hgn).1) (by decide) (by decide) ?_
        show Steps p.tables e below (T156.setTop (mkF m 24 #[.val (.ref tb), .val (.ref fr), .val (.int pg), .val (.int gn), .val rv_156] [])) _
        refine XS.aload X156.here hx rfl (hb hby d9_24) rfl hr_rv_156 ?_
        show Steps p.tables e below (T156.setTop (mkF m 26 #[.val (.ref tb), .val (.ref fr), .val (.int pg), .val (.int gn), .val rv_156] [rv_156])) _
        refine XS.aloadN X156.here hx rfl (hb hby d9_26) rfl rfl ?_
        show Steps p.tables e below (T156.setTop (mkF m 27 #[.val (.ref tb), .val (.ref fr), .val (.int pg), .val (.int gn), .val rv_156] [(.ref fr), rv_156])) _
        refine Jvm.RoadKit.acmp (g := (mkF m 27 #[.val (.ref tb), .val (.ref fr), .val (.int pg), .val (.int gn), .val rv_156] [(.ref fr), rv_156])) X156 hx rfl hr_rv_156 rfl (pc0 := 27) (pc' := 30) (same := true) rfl (hb hby d9_27) rfl (decide_eq_true hx0) (by decide) (by decide) ?_
        show Steps p.tables e below (T156.setTop (mkF m 30 #[.val (.ref tb), .val (.ref fr), .val (.int pg), .val (.int gn), .val rv_156] [])) _
        refine XS.iconst X156.here hx rfl (hb hby d9_30) ?_
        show Steps p.tables e below (T156.setTop (mkF m 31 #[.val (.ref tb), .val (.ref fr), .val (.int pg), .val (.int gn), .val rv_156] [(.int (1 : Int32))])) _
        refine XS.goto X156.here hx rfl (pc0 := 31) (pc' := 35) rfl (hb hby d9_31) (by decide) (by decide) ?_
        exact kk)
    obtain ⟨fs, hr, hrun, hended, hW, hsame⟩ := X156.leave (v := some (.int (1 : Int32))) (fun h => by rw [Bd.returns] at h; cases h)
    refine ⟨_, _, pre162 _ ?_, hrun, hended, _, _, rfl, ?_, ⟨_, rfl⟩, hW, hsame.mono (by decide) (by decide)⟩
    · show Steps p.tables e below (T156.setTop (mkF m 35 #[.val (.ref tb), .val (.ref fr), .val (.int pg), .val (.int gn), .val rv_156] [(.int (1 : Int32))])) _
      exact retN X156 hx (t := .boolean) Bd.returns (by simp) (hb hby d9_35) hr
    · show QCheck Z tb fr pg gn a k vs j0 pgs h0 n0 _ T156.heap _
      rw [e156]
      exact ⟨rfl, N156, rfl⟩
  · have hx0 : rv_156 = .null := by
      rcases pu156_1 with ⟨q, -⟩ | ⟨g, q, r, e⟩
      · exact q
      · exact absurd e (hg1 hgn g r)
    have pre161 : ∀ t, Steps p.tables e below (T156.setTop (mkF m 35 #[.val (.ref tb), .val (.ref fr), .val (.int pg), .val (.int gn), .val rv_156] [(.int (1 : Int32))])) t → Steps p.tables e below (s₁.setTop (entryFrame m #[(.ref tb), (.ref fr), (.int pg), (.int gn)] 5)) t := fun t kk => pre160 t (by
        show Steps p.tables e below (T156.setTop (mkF m 8 #[.val (.ref tb), .val (.ref fr), .val (.int pg), .val (.int gn), .val rv_156] [(.int gn)])) _
        refine XS.ifNo X156.here hx rfl (hb hby d9_8) rfl ((if0 _ _).trans (feq hgn).1) ?_
        show Steps p.tables e below (T156.setTop (mkF m 11 #[.val (.ref tb), .val (.ref fr), .val (.int pg), .val (.int gn), .val rv_156] [])) _
        refine XS.aload X156.here hx rfl (hb hby d9_11) rfl hr_rv_156 ?_
        show Steps p.tables e below (T156.setTop (mkF m 13 #[.val (.ref tb), .val (.ref fr), .val (.int pg), .val (.int gn), .val rv_156] [rv_156])) _
        refine Jvm.Free.XT.nonnullNo X156.here hx rfl (hb hby d9_13) rfl hx0 ?_
        show Steps p.tables e below (T156.setTop (mkF m 16 #[.val (.ref tb), .val (.ref fr), .val (.int pg), .val (.int gn), .val rv_156] [])) _
        refine XS.iconst X156.here hx rfl (hb hby d9_16) ?_
        show Steps p.tables e below (T156.setTop (mkF m 17 #[.val (.ref tb), .val (.ref fr), .val (.int pg), .val (.int gn), .val rv_156] [(.int (1 : Int32))])) _
        refine XS.goto X156.here hx rfl (pc0 := 17) (pc' := 35) rfl (hb hby d9_17) (by decide) (by decide) ?_
        exact kk)
    obtain ⟨fs, hr, hrun, hended, hW, hsame⟩ := X156.leave (v := some (.int (1 : Int32))) (fun h => by rw [Bd.returns] at h; cases h)
    refine ⟨_, _, pre161 _ ?_, hrun, hended, _, _, rfl, ?_, ⟨_, rfl⟩, hW, hsame.mono (by decide) (by decide)⟩
    · show Steps p.tables e below (T156.setTop (mkF m 35 #[.val (.ref tb), .val (.ref fr), .val (.int pg), .val (.int gn), .val rv_156] [(.int (1 : Int32))])) _
      exact retN X156 hx (t := .boolean) Bd.returns (by simp) (hb hby d9_35) hr
    · show QCheck Z tb fr pg gn a k vs j0 pgs h0 n0 _ T156.heap _
      rw [e156]
      exact ⟨rfl, N156, rfl⟩
theorem d7_17 : decode prog_47_method_4_code 17 = .ok (.aload_n 0, 1) := by decide +kernel
theorem d7_18 : decode prog_47_method_4_code 18 = .ok (.getfield 11, 3) := by decide +kernel
theorem d7_21 : decode prog_47_method_4_code 21 = .ok (.iload_n 3, 1) := by decide +kernel
theorem d7_22 : decode prog_47_method_4_code 22 = .ok (.aaload, 1) := by decide +kernel
theorem d7_23 : decode prog_47_method_4_code 23 = .ok (.aload_n 1, 1) := by decide +kernel
theorem d7_24 : decode prog_47_method_4_code 24 = .ok (.if_acmp .eq 12, 3) := by decide +kernel
theorem d7_27 : decode prog_47_method_4_code 27 = .ok (.iload_n 3, 1) := by decide +kernel
theorem d7_28 : decode prog_47_method_4_code 28 = .ok (.iconst 1, 1) := by decide +kernel
theorem d7_29 : decode prog_47_method_4_code 29 = .ok (.iadd, 1) := by decide +kernel
theorem d7_30 : decode prog_47_method_4_code 30 = .ok (.iload_n 2, 1) := by decide +kernel
theorem d7_31 : decode prog_47_method_4_code 31 = .ok (.iand, 1) := by decide +kernel
theorem d7_32 : decode prog_47_method_4_code 32 = .ok (.istore_n 3, 1) := by decide +kernel
theorem d7_33 : decode prog_47_method_4_code 33 = .ok (.goto (-16), 3) := by decide +kernel
set_option maxRecDepth 65536 in
set_option maxHeartbeats 40000000 in
theorem loopFind {p : Program} {l : Launch} {e : Env} {R : Room} {s : State} {m : MethodId} {args : Array Value} {below : List Frame} {meth : Method} {c : Code} {cells slots : Nat} {Z : State} {a0 : Array Value} {n0 : Nat}
    (hx : p.tables.exec = Jvm.exec) (hZ : Z.Warmed39 s.vm) (hw : ∀ d ∈ tables_1, d.before a0 Z = true) (hby : c.code = prog_47_method_4_code) (hml : c.maxLocals = 6) (hown : s.vm.findClass "com/example/redoubt/redoubt/storage/FrameTable" = some m.cls) :
    ∀ (kM : Nat) (T0 : State) (locs : List Loc) (h0 : Heap) (tb : Addr) (f : Addr) (i : Nat) (a : Addr) (k : ClassId) (vs : List Value) (pf : Nat) (pgs : Addr → Int32) (hN : Nat) (X0 : Stand p l e R s m args below meth c T0 locs cells slots) (e0 : T0.heap = h0) (N0 : Fr n0 locs) (Z0 : n0 ≤ h0.size) (F_slots_tb : Fld Z h0 tb "com/example/redoubt/redoubt/storage/FrameTable" "slots" "[Lcom/example/redoubt/redoubt/storage/PageCache$Frame;" (.ref a)) (V_a : Arv Z h0 a k (.object "com/example/redoubt/redoubt/storage/PageCache$Frame") (16 : Int32) vs .null) (G_0 : own_GoodP Z h0 pgs vs) (T : own_TI (own_hmf pgs) vs) (hi : i < 16) (hpf : pf < 16) (epf : vs.getD pf .null = .ref f) (hh : hN < 16) (hle : own_d hN i ≤ own_d hN pf) (hkM : own_d hN pf - own_d hN i = kM),
      ∃ (T' : State) (locs' : List Loc) (ix : Nat), Stand p l e R s m args below meth c T' locs' cells slots ∧ Fr n0 locs' ∧ T'.heap = h0 ∧ (ix < 16) ∧ (vs.getD ix .null = .ref f) ∧ ∀ t, Steps p.tables e below (T'.setTop (mkF m 36 #[.val (.ref tb), .val (.ref f), .val (.int ((16 : Int32) - (1 : Int32))), .val (.int (Int32.ofNat ix)), .unset, .unset] [])) t → Steps p.tables e below (T0.setTop (mkF m 17 #[.val (.ref tb), .val (.ref f), .val (.int ((16 : Int32) - (1 : Int32))), .val (.int (Int32.ofNat i)), .unset, .unset] [])) t := by
  intro kM
  induction kM using Nat.strongRecOn with
  | ind kM ih =>
  intro T0 locs h0 tb f i a k vs pf pgs hN X0 e0 N0 Z0 F_slots_tb V_a G_0 T hi hpf epf hh hle hkM
  subst hkM
  have pre0 : ∀ t, Steps p.tables e below (T0.setTop (mkF m 17 #[.val (.ref tb), .val (.ref f), .val (.int ((16 : Int32) - (1 : Int32))), .val (.int (Int32.ofNat i)), .unset, .unset] [])) t → Steps p.tables e below (T0.setTop (mkF m 17 #[.val (.ref tb), .val (.ref f), .val (.int ((16 : Int32) - (1 : Int32))), .val (.int (Int32.ofNat i)), .unset, .unset] [])) t := fun t kk => kk
  obtain ⟨vv, hvv⟩ : ∃ z, z = vs.getD i .null := ⟨_, rfl⟩
  have hr_vv : vv.isRef = true := by rw [hvv]; exact own_goodp_ref G_0 (T.1) hi
  obtain ⟨T163, X163, e163, st163⟩ := getF X0 hx hZ hown (host := "") (Or.inl (hw _ (List.mem_of_getElem? (i := 25) rfl))) Via.refl e0 F_slots_tb (g := (mkF m 18 #[.val (.ref tb), .val (.ref f), .val (.int ((16 : Int32) - (1 : Int32))), .val (.int (Int32.ofNat i)), .unset, .unset] [(.ref tb)])) rfl rfl (hb hby d7_18)
  obtain ⟨cl164, Ar164, q164, Sz164, Nn164, H164, G164⟩ := id V_a
  have hin164 : ¬ ((Int32.ofNat i) < 0 ∨ cl164.slots.size ≤ ((Int32.ofNat i)).toNatClampNeg) := (inb_of Sz164 (own_in16 i hi))
  have hat164 : cl164.slots[((Int32.ofNat i)).toNatClampNeg]? = some vv := H164.at hin164 (by rw [own_ixx i (by omega), hvv])
  have pre165 : ∀ t, Steps p.tables e below (T163.setTop (mkF m 24 #[.val (.ref tb), .val (.ref f), .val (.int ((16 : Int32) - (1 : Int32))), .val (.int (Int32.ofNat i)), .unset, .unset] [(.ref f), vv])) t → Steps p.tables e below (T0.setTop (mkF m 17 #[.val (.ref tb), .val (.ref f), .val (.int ((16 : Int32) - (1 : Int32))), .val (.int (Int32.ofNat i)), .unset, .unset] [])) t := fun t kk => pre0 t (by
      show Steps p.tables e below (T0.setTop (mkF m 17 #[.val (.ref tb), .val (.ref f), .val (.int ((16 : Int32) - (1 : Int32))), .val (.int (Int32.ofNat i)), .unset, .unset] [])) _
      refine XS.aloadN X0.here hx rfl (hb hby d7_17) rfl rfl ?_
      show Steps p.tables e below (T0.setTop (mkF m 18 #[.val (.ref tb), .val (.ref f), .val (.int ((16 : Int32) - (1 : Int32))), .val (.int (Int32.ofNat i)), .unset, .unset] [(.ref tb)])) _
      refine st163 _ ?_
      show Steps p.tables e below (T163.setTop (mkF m 21 #[.val (.ref tb), .val (.ref f), .val (.int ((16 : Int32) - (1 : Int32))), .val (.int (Int32.ofNat i)), .unset, .unset] [(.ref a)])) _
      refine XS.iloadN X163.here hx rfl (hb hby d7_21) rfl ?_
      show Steps p.tables e below (T163.setTop (mkF m 22 #[.val (.ref tb), .val (.ref f), .val (.int ((16 : Int32) - (1 : Int32))), .val (.int (Int32.ofNat i)), .unset, .unset] [(.int (Int32.ofNat i)), (.ref a)])) _
      refine X163.aaload hx (j := (Int32.ofNat i)) (v := vv) (by rw [e163]; exact Ar164.1) (State.isArrayOf_alike hZ.alike Ar164.2.1) rfl Ar164.2.2 hin164 hat164 (g := (mkF m 22 #[.val (.ref tb), .val (.ref f), .val (.int ((16 : Int32) - (1 : Int32))), .val (.int (Int32.ofNat i)), .unset, .unset] [(.int (Int32.ofNat i)), (.ref a)])) rfl rfl (hb hby d7_22) _ ?_
      show Steps p.tables e below (T163.setTop (mkF m 23 #[.val (.ref tb), .val (.ref f), .val (.int ((16 : Int32) - (1 : Int32))), .val (.int (Int32.ofNat i)), .unset, .unset] [vv])) _
      refine XS.aloadN X163.here hx rfl (hb hby d7_23) rfl rfl ?_
      exact kk)
  by_cases hsame : vv = (.ref f)
  · have pre166 : ∀ t, Steps p.tables e below (T163.setTop (mkF m 36 #[.val (.ref tb), .val (.ref f), .val (.int ((16 : Int32) - (1 : Int32))), .val (.int (Int32.ofNat i)), .unset, .unset] [])) t → Steps p.tables e below (T0.setTop (mkF m 17 #[.val (.ref tb), .val (.ref f), .val (.int ((16 : Int32) - (1 : Int32))), .val (.int (Int32.ofNat i)), .unset, .unset] [])) t := fun t kk => pre165 t (by
        show Steps p.tables e below (T163.setTop (mkF m 24 #[.val (.ref tb), .val (.ref f), .val (.int ((16 : Int32) - (1 : Int32))), .val (.int (Int32.ofNat i)), .unset, .unset] [(.ref f), vv])) _
        refine Jvm.RoadKit.acmp (g := (mkF m 24 #[.val (.ref tb), .val (.ref f), .val (.int ((16 : Int32) - (1 : Int32))), .val (.int (Int32.ofNat i)), .unset, .unset] [(.ref f), vv])) X163 hx rfl hr_vv rfl (pc0 := 24) (pc' := 36) (same := true) rfl (hb hby d7_24) rfl (decide_eq_true hsame) (by decide) (by decide) ?_
        exact kk)
    exact ⟨T163, _, i, X163, N0, e163, hi, (by rw [← hvv]; exact hsame), pre166⟩
  · have pre167 : ∀ t, Steps p.tables e below (T163.setTop (mkF m 17 #[.val (.ref tb), .val (.ref f), .val (.int ((16 : Int32) - (1 : Int32))), .val (.int (((Int32.ofNat i) + (1 : Int32)) &&& ((16 : Int32) - (1 : Int32)))), .unset, .unset] [])) t → Steps p.tables e below (T0.setTop (mkF m 17 #[.val (.ref tb), .val (.ref f), .val (.int ((16 : Int32) - (1 : Int32))), .val (.int (Int32.ofNat i)), .unset, .unset] [])) t := fun t kk => pre165 t (by
        show Steps p.tables e below (T163.setTop (mkF m 24 #[.val (.ref tb), .val (.ref f), .val (.int ((16 : Int32) - (1 : Int32))), .val (.int (Int32.ofNat i)), .unset, .unset] [(.ref f), vv])) _
        refine Jvm.RoadKit.acmp (g := (mkF m 24 #[.val (.ref tb), .val (.ref f), .val (.int ((16 : Int32) - (1 : Int32))), .val (.int (Int32.ofNat i)), .unset, .unset] [(.ref f), vv])) X163 hx rfl hr_vv rfl (pc0 := 24) (pc' := 27) (same := false) rfl (hb hby d7_24) rfl (decide_eq_false hsame) (by decide) (by decide) ?_
        show Steps p.tables e below (T163.setTop (mkF m 27 #[.val (.ref tb), .val (.ref f), .val (.int ((16 : Int32) - (1 : Int32))), .val (.int (Int32.ofNat i)), .unset, .unset] [])) _
        refine XS.iloadN X163.here hx rfl (hb hby d7_27) rfl ?_
        show Steps p.tables e below (T163.setTop (mkF m 28 #[.val (.ref tb), .val (.ref f), .val (.int ((16 : Int32) - (1 : Int32))), .val (.int (Int32.ofNat i)), .unset, .unset] [(.int (Int32.ofNat i))])) _
        refine XS.iconst X163.here hx rfl (hb hby d7_28) ?_
        show Steps p.tables e below (T163.setTop (mkF m 29 #[.val (.ref tb), .val (.ref f), .val (.int ((16 : Int32) - (1 : Int32))), .val (.int (Int32.ofNat i)), .unset, .unset] [(.int (1 : Int32)), (.int (Int32.ofNat i))])) _
        refine XS.iadd X163.here hx rfl (hb hby d7_29) rfl ?_
        show Steps p.tables e below (T163.setTop (mkF m 30 #[.val (.ref tb), .val (.ref f), .val (.int ((16 : Int32) - (1 : Int32))), .val (.int (Int32.ofNat i)), .unset, .unset] [(.int ((Int32.ofNat i) + (1 : Int32)))])) _
        refine XS.iloadN X163.here hx rfl (hb hby d7_30) rfl ?_
        show Steps p.tables e below (T163.setTop (mkF m 31 #[.val (.ref tb), .val (.ref f), .val (.int ((16 : Int32) - (1 : Int32))), .val (.int (Int32.ofNat i)), .unset, .unset] [(.int ((16 : Int32) - (1 : Int32))), (.int ((Int32.ofNat i) + (1 : Int32)))])) _
        refine XS.iand X163.here hx rfl (hb hby d7_31) rfl ?_
        show Steps p.tables e below (T163.setTop (mkF m 32 #[.val (.ref tb), .val (.ref f), .val (.int ((16 : Int32) - (1 : Int32))), .val (.int (Int32.ofNat i)), .unset, .unset] [(.int (((Int32.ofNat i) + (1 : Int32)) &&& ((16 : Int32) - (1 : Int32))))])) _
        refine XS.istoreN X163.here hx rfl (hb hby d7_32) rfl (l' := #[.val (.ref tb), .val (.ref f), .val (.int ((16 : Int32) - (1 : Int32))), .val (.int (((Int32.ofNat i) + (1 : Int32)) &&& ((16 : Int32) - (1 : Int32)))), .unset, .unset]) rfl ?_
        show Steps p.tables e below (T163.setTop (mkF m 33 #[.val (.ref tb), .val (.ref f), .val (.int ((16 : Int32) - (1 : Int32))), .val (.int (((Int32.ofNat i) + (1 : Int32)) &&& ((16 : Int32) - (1 : Int32)))), .unset, .unset] [])) _
        refine XS.goto X163.here hx rfl (pc0 := 33) (pc' := 17) rfl (hb hby d7_33) (by decide) (by decide) ?_
        exact kk)
    have eq168 : (((Int32.ofNat i) + (1 : Int32)) &&& ((16 : Int32) - (1 : Int32))) = (Int32.ofNat ((i + 1) % 16)) := own_nx16 i hi
    have pre169 : ∀ t, Steps p.tables e below (T163.setTop (mkF m 17 #[.val (.ref tb), .val (.ref f), .val (.int ((16 : Int32) - (1 : Int32))), .val (.int (Int32.ofNat ((i + 1) % 16))), .unset, .unset] [])) t → Steps p.tables e below (T0.setTop (mkF m 17 #[.val (.ref tb), .val (.ref f), .val (.int ((16 : Int32) - (1 : Int32))), .val (.int (Int32.ofNat i)), .unset, .unset] [])) t := fun t kk => pre167 t (own_cast (fun zz : Int32 => T163.setTop (mkF m 17 #[.val (.ref tb), .val (.ref f), .val (.int ((16 : Int32) - (1 : Int32))), .val (.int zz), .unset, .unset] [])) eq168 kk)
    have hst := own_fnd hh hi hpf (fun q => hsame (by rw [hvv, q]; exact epf)) hle
    have hp170 : own_TI (own_hmf pgs) vs := T
    have hp171 : ((i + 1) % 16) < 16 := Nat.mod_lt _ (by decide)
    have hp172 : pf < 16 := hpf
    have hp173 : vs.getD pf .null = .ref f := epf
    have hp174 : hN < 16 := hh
    have hp175 : own_d hN ((i + 1) % 16) ≤ own_d hN pf := hst.1
    obtain ⟨T176, lc176, ix_176, X176, N176, e176, pu176_0, pu176_1, pre176⟩ := ih _ hst.2 T163 _ h0 tb f ((i + 1) % 16) a k vs pf pgs hN X163 e163 N0 Z0 F_slots_tb V_a G_0 hp170 hp171 hp172 hp173 hp174 hp175 rfl
    exact ⟨T176, _, ix_176, X176, N176, e176, pu176_0, pu176_1, fun t kk => pre169 t (pre176 t kk)⟩
theorem d7_60 : decode prog_47_method_4_code 60 = .ok (.aload_n 0, 1) := by decide +kernel
theorem d7_61 : decode prog_47_method_4_code 61 = .ok (.getfield 11, 3) := by decide +kernel
theorem d7_64 : decode prog_47_method_4_code 64 = .ok (.iload 4, 2) := by decide +kernel
theorem d7_66 : decode prog_47_method_4_code 66 = .ok (.aaload, 1) := by decide +kernel
theorem d7_67 : decode prog_47_method_4_code 67 = .ok (.ifnull 70, 3) := by decide +kernel
theorem d7_70 : decode prog_47_method_4_code 70 = .ok (.aload_n 0, 1) := by decide +kernel
theorem d7_71 : decode prog_47_method_4_code 71 = .ok (.aload_n 0, 1) := by decide +kernel
theorem d7_72 : decode prog_47_method_4_code 72 = .ok (.getfield 11, 3) := by decide +kernel
theorem d7_75 : decode prog_47_method_4_code 75 = .ok (.iload 4, 2) := by decide +kernel
theorem d7_77 : decode prog_47_method_4_code 77 = .ok (.aaload, 1) := by decide +kernel
theorem d7_78 : decode prog_47_method_4_code 78 = .ok (.getfield 25, 3) := by decide +kernel
theorem d7_81 : decode prog_47_method_4_code 81 = .ok (.invokevirtual 21, 3) := by decide +kernel
theorem d7_84 : decode prog_47_method_4_code 84 = .ok (.istore 5, 2) := by decide +kernel
theorem d7_86 : decode prog_47_method_4_code 86 = .ok (.iload 4, 2) := by decide +kernel
theorem d7_88 : decode prog_47_method_4_code 88 = .ok (.iload 5, 2) := by decide +kernel
theorem d7_90 : decode prog_47_method_4_code 90 = .ok (.isub, 1) := by decide +kernel
theorem d7_91 : decode prog_47_method_4_code 91 = .ok (.iload_n 2, 1) := by decide +kernel
theorem d7_92 : decode prog_47_method_4_code 92 = .ok (.iand, 1) := by decide +kernel
theorem d7_93 : decode prog_47_method_4_code 93 = .ok (.iload 4, 2) := by decide +kernel
theorem d7_95 : decode prog_47_method_4_code 95 = .ok (.iload_n 3, 1) := by decide +kernel
theorem d7_96 : decode prog_47_method_4_code 96 = .ok (.isub, 1) := by decide +kernel
theorem d7_97 : decode prog_47_method_4_code 97 = .ok (.iload_n 2, 1) := by decide +kernel
theorem d7_98 : decode prog_47_method_4_code 98 = .ok (.iand, 1) := by decide +kernel
theorem d7_99 : decode prog_47_method_4_code 99 = .ok (.if_icmp .lt 27, 3) := by decide +kernel
theorem d7_126 : decode prog_47_method_4_code 126 = .ok (.iload 4, 2) := by decide +kernel
theorem d7_128 : decode prog_47_method_4_code 128 = .ok (.iconst 1, 1) := by decide +kernel
theorem d7_129 : decode prog_47_method_4_code 129 = .ok (.iadd, 1) := by decide +kernel
theorem d7_130 : decode prog_47_method_4_code 130 = .ok (.iload_n 2, 1) := by decide +kernel
theorem d7_131 : decode prog_47_method_4_code 131 = .ok (.iand, 1) := by decide +kernel
theorem d7_132 : decode prog_47_method_4_code 132 = .ok (.istore 4, 2) := by decide +kernel
theorem d7_134 : decode prog_47_method_4_code 134 = .ok (.goto (-74), 3) := by decide +kernel
theorem d7_102 : decode prog_47_method_4_code 102 = .ok (.aload_n 0, 1) := by decide +kernel
theorem d7_103 : decode prog_47_method_4_code 103 = .ok (.getfield 11, 3) := by decide +kernel
theorem d7_106 : decode prog_47_method_4_code 106 = .ok (.iload_n 3, 1) := by decide +kernel
theorem d7_107 : decode prog_47_method_4_code 107 = .ok (.aload_n 0, 1) := by decide +kernel
theorem d7_108 : decode prog_47_method_4_code 108 = .ok (.getfield 11, 3) := by decide +kernel
theorem d7_111 : decode prog_47_method_4_code 111 = .ok (.iload 4, 2) := by decide +kernel
theorem d7_113 : decode prog_47_method_4_code 113 = .ok (.aaload, 1) := by decide +kernel
theorem d7_114 : decode prog_47_method_4_code 114 = .ok (.aastore, 1) := by decide +kernel
theorem d7_115 : decode prog_47_method_4_code 115 = .ok (.aload_n 0, 1) := by decide +kernel
theorem d7_116 : decode prog_47_method_4_code 116 = .ok (.getfield 11, 3) := by decide +kernel
theorem d7_119 : decode prog_47_method_4_code 119 = .ok (.iload 4, 2) := by decide +kernel
theorem d7_121 : decode prog_47_method_4_code 121 = .ok (.aconst_null, 1) := by decide +kernel
theorem d7_122 : decode prog_47_method_4_code 122 = .ok (.aastore, 1) := by decide +kernel
theorem d7_123 : decode prog_47_method_4_code 123 = .ok (.iload 4, 2) := by decide +kernel
theorem d7_125 : decode prog_47_method_4_code 125 = .ok (.istore_n 3, 1) := by decide +kernel
set_option maxRecDepth 65536 in
set_option maxHeartbeats 40000000 in
theorem loopShift {p : Program} {l : Launch} {e : Env} {s : State} {m : MethodId} {args : Array Value} {below : List Frame} {meth : Method} {c : Code} {cells slots : Nat} {Z : State} {a0 : Array Value} {n0 : Nat}
    (hx : p.tables.exec = Jvm.exec) (hZ : Z.Warmed39 s.vm) (hw : ∀ d ∈ tables_1, d.before a0 Z = true) (hby : c.code = prog_47_method_4_code) (hml : c.maxLocals = 6) (hown : s.vm.findClass "com/example/redoubt/redoubt/storage/FrameTable" = some m.cls) (hcells : cells + 0 ≤ ({ frames := 1, cells := 0, slots := 0, locals := 13 } : Room).cells) (hslots : slots + 0 ≤ ({ frames := 1, cells := 0, slots := 0, locals := 13 } : Room).slots) :
    ∀ (kM : Nat) (T0 : State) (locs : List Loc) (h0 : Heap) (tb : Addr) (f : Addr) (hl : Nat) (sl : Nat) (s5 : Slot) (a : Addr) (k : ClassId) (vs : List Value) (z0 : Nat) (pgs : Addr → Int32) (c0 : Int32) (X0 : Stand p l e ({ frames := 1, cells := 0, slots := 0, locals := 13 } : Room) s m args below meth c T0 locs cells slots) (e0 : T0.heap = h0) (N0 : Fr n0 locs) (Z0 : n0 ≤ h0.size) (E_tb : Exa Z h0 tb "com/example/redoubt/redoubt/storage/FrameTable") (F_slots_tb : Fld Z h0 tb "com/example/redoubt/redoubt/storage/FrameTable" "slots" "[Lcom/example/redoubt/redoubt/storage/PageCache$Frame;" (.ref a)) (F_shift_tb : Fld Z h0 tb "com/example/redoubt/redoubt/storage/FrameTable" "shift" "I" (.int (28 : Int32))) (F_size_tb : Fld Z h0 tb "com/example/redoubt/redoubt/storage/FrameTable" "size" "I" (.int c0)) (V_a : Arv Z h0 a k (.object "com/example/redoubt/redoubt/storage/PageCache$Frame") (16 : Int32) vs .null) (G_0 : own_GoodP Z h0 pgs vs) (J : own_J (own_hmf pgs) vs hl sl z0) (ho : Ovr Z k "com/example/redoubt/redoubt/storage/PageCache$Frame") (hs5 : s5 = .unset ∨ ∃ w, s5 = .val w ∧ w.category = 1) (g_a : n0 ≤ a) (hkM : own_d sl z0 = kM),
      ∃ (T' : State) (locs' : List Loc) (h' : Heap) (hl2 : Nat) (sl2 : Nat) (s6 : Slot) (vs2 : List Value), Stand p l e ({ frames := 1, cells := 0, slots := 0, locals := 13 } : Room) s m args below meth c T' locs' cells slots ∧ Fr n0 locs' ∧ T'.heap = h' ∧ Keep h0 h' [a] ∧ Arv Z h' a k (.object "com/example/redoubt/redoubt/storage/PageCache$Frame") (16 : Int32) vs2 .null ∧ own_GoodP Z h' pgs vs2 ∧ (own_TI (own_hmf pgs) vs2) ∧ (∀ g, own_R vs2 g ↔ own_R vs g) ∧ (∃ q, q < 16 ∧ vs2.getD q .null = .null) ∧ ∀ t, Steps p.tables e below (T'.setTop (mkF m 137 #[.val (.ref tb), .val (.ref f), .val (.int ((16 : Int32) - (1 : Int32))), .val (.int (Int32.ofNat hl2)), .val (.int (Int32.ofNat sl2)), s6] [])) t → Steps p.tables e below (T0.setTop (mkF m 60 #[.val (.ref tb), .val (.ref f), .val (.int ((16 : Int32) - (1 : Int32))), .val (.int (Int32.ofNat hl)), .val (.int (Int32.ofNat sl)), s5] [])) t := by
  intro kM
  induction kM using Nat.strongRecOn with
  | ind kM ih =>
  intro T0 locs h0 tb f hl sl s5 a k vs z0 pgs c0 X0 e0 N0 Z0 E_tb F_slots_tb F_shift_tb F_size_tb V_a G_0 J ho hs5 g_a hkM
  subst hkM
  have pre0 : ∀ t, Steps p.tables e below (T0.setTop (mkF m 60 #[.val (.ref tb), .val (.ref f), .val (.int ((16 : Int32) - (1 : Int32))), .val (.int (Int32.ofNat hl)), .val (.int (Int32.ofNat sl)), s5] [])) t → Steps p.tables e below (T0.setTop (mkF m 60 #[.val (.ref tb), .val (.ref f), .val (.int ((16 : Int32) - (1 : Int32))), .val (.int (Int32.ofNat hl)), .val (.int (Int32.ofNat sl)), s5] [])) t := fun t kk => kk
  have hJ := id J
  obtain ⟨j1, -, ⟨j2, j3, j4, j5, j6, j7, j8, j9⟩, -⟩ := hJ
  obtain ⟨vv, hvv⟩ : ∃ z, z = vs.getD sl .null := ⟨_, rfl⟩
  have hr_vv : vv.isRef = true := by rw [hvv]; exact own_goodp_ref G_0 (j1) j3
  obtain ⟨T177, X177, e177, st177⟩ := getF X0 hx hZ hown (host := "") (Or.inl (hw _ (List.mem_of_getElem? (i := 25) rfl))) Via.refl e0 F_slots_tb (g := (mkF m 61 #[.val (.ref tb), .val (.ref f), .val (.int ((16 : Int32) - (1 : Int32))), .val (.int (Int32.ofNat hl)), .val (.int (Int32.ofNat sl)), s5] [(.ref tb)])) rfl rfl (hb hby d7_61)
  obtain ⟨cl178, Ar178, q178, Sz178, Nn178, H178, G178⟩ := id V_a
  have hin178 : ¬ ((Int32.ofNat sl) < 0 ∨ cl178.slots.size ≤ ((Int32.ofNat sl)).toNatClampNeg) := (inb_of Sz178 (own_in16 sl j3))
  have hat178 : cl178.slots[((Int32.ofNat sl)).toNatClampNeg]? = some vv := H178.at hin178 (by rw [own_ixx sl (by omega), hvv])
  have pre179 : ∀ t, Steps p.tables e below (T177.setTop (mkF m 67 #[.val (.ref tb), .val (.ref f), .val (.int ((16 : Int32) - (1 : Int32))), .val (.int (Int32.ofNat hl)), .val (.int (Int32.ofNat sl)), s5] [vv])) t → Steps p.tables e below (T0.setTop (mkF m 60 #[.val (.ref tb), .val (.ref f), .val (.int ((16 : Int32) - (1 : Int32))), .val (.int (Int32.ofNat hl)), .val (.int (Int32.ofNat sl)), s5] [])) t := fun t kk => pre0 t (by
      show Steps p.tables e below (T0.setTop (mkF m 60 #[.val (.ref tb), .val (.ref f), .val (.int ((16 : Int32) - (1 : Int32))), .val (.int (Int32.ofNat hl)), .val (.int (Int32.ofNat sl)), s5] [])) _
      refine XS.aloadN X0.here hx rfl (hb hby d7_60) rfl rfl ?_
      show Steps p.tables e below (T0.setTop (mkF m 61 #[.val (.ref tb), .val (.ref f), .val (.int ((16 : Int32) - (1 : Int32))), .val (.int (Int32.ofNat hl)), .val (.int (Int32.ofNat sl)), s5] [(.ref tb)])) _
      refine st177 _ ?_
      show Steps p.tables e below (T177.setTop (mkF m 64 #[.val (.ref tb), .val (.ref f), .val (.int ((16 : Int32) - (1 : Int32))), .val (.int (Int32.ofNat hl)), .val (.int (Int32.ofNat sl)), s5] [(.ref a)])) _
      refine XS.iload X177.here hx rfl (hb hby d7_64) rfl ?_
      show Steps p.tables e below (T177.setTop (mkF m 66 #[.val (.ref tb), .val (.ref f), .val (.int ((16 : Int32) - (1 : Int32))), .val (.int (Int32.ofNat hl)), .val (.int (Int32.ofNat sl)), s5] [(.int (Int32.ofNat sl)), (.ref a)])) _
      refine X177.aaload hx (j := (Int32.ofNat sl)) (v := vv) (by rw [e177]; exact Ar178.1) (State.isArrayOf_alike hZ.alike Ar178.2.1) rfl Ar178.2.2 hin178 hat178 (g := (mkF m 66 #[.val (.ref tb), .val (.ref f), .val (.int ((16 : Int32) - (1 : Int32))), .val (.int (Int32.ofNat hl)), .val (.int (Int32.ofNat sl)), s5] [(.int (Int32.ofNat sl)), (.ref a)])) rfl rfl (hb hby d7_66) _ ?_
      exact kk)
  by_cases hnull : vv = .null
  · have pre180 : ∀ t, Steps p.tables e below (T177.setTop (mkF m 137 #[.val (.ref tb), .val (.ref f), .val (.int ((16 : Int32) - (1 : Int32))), .val (.int (Int32.ofNat hl)), .val (.int (Int32.ofNat sl)), s5] [])) t → Steps p.tables e below (T0.setTop (mkF m 60 #[.val (.ref tb), .val (.ref f), .val (.int ((16 : Int32) - (1 : Int32))), .val (.int (Int32.ofNat hl)), .val (.int (Int32.ofNat sl)), s5] [])) t := fun t kk => pre179 t (by
        show Steps p.tables e below (T177.setTop (mkF m 67 #[.val (.ref tb), .val (.ref f), .val (.int ((16 : Int32) - (1 : Int32))), .val (.int (Int32.ofNat hl)), .val (.int (Int32.ofNat sl)), s5] [vv])) _
        refine Jvm.Free.XT.nullYes X177.here hx rfl (pc0 := 67) (pc' := 137) rfl (hb hby d7_67) rfl hnull (by decide) (by decide) ?_
        exact kk)
    exact ⟨T177, _, _, hl, sl, s5, vs, X177, N0, e177, Keep.refl _ _, V_a, G_0, (own_J_end (own_hlt pgs) J (by rw [← hvv]; exact hnull)), (fun g => Iff.rfl), ⟨z0, j4, j6⟩, pre180⟩
  · obtain ⟨gg, ef, Ef, Ff⟩ : ∃ f : Addr, vv = .ref f ∧ Exa Z h0 f "com/example/redoubt/redoubt/storage/PageCache$Frame" ∧ Fld Z h0 f "com/example/redoubt/redoubt/storage/PageCache$Frame" "page" "I" (.int (pgs f)) := by
      rcases own_goodp_at G_0 (j1) j3 with q | ⟨f, q, E1, F1⟩
      · exact absurd (hvv.trans q) hnull
      · exact ⟨f, hvv.trans q, E1, F1⟩
    have eg : vs.getD sl .null = .ref gg := by rw [← hvv]; exact ef
    have hsz : sl ≠ z0 := fun q => hnull (by rw [hvv, q]; exact j6)
    obtain ⟨T181, X181, e181, st181⟩ := getF X177 hx hZ hown (host := "") (Or.inl (hw _ (List.mem_of_getElem? (i := 25) rfl))) Via.refl e177 F_slots_tb (g := (mkF m 72 #[.val (.ref tb), .val (.ref f), .val (.int ((16 : Int32) - (1 : Int32))), .val (.int (Int32.ofNat hl)), .val (.int (Int32.ofNat sl)), s5] [(.ref tb), (.ref tb)])) rfl rfl (hb hby d7_72)
    obtain ⟨cl182, Ar182, q182, Sz182, Nn182, H182, G182⟩ := id V_a
    have hin182 : ¬ ((Int32.ofNat sl) < 0 ∨ cl182.slots.size ≤ ((Int32.ofNat sl)).toNatClampNeg) := (inb_of Sz182 (own_in16 sl j3))
    have hat182 : cl182.slots[((Int32.ofNat sl)).toNatClampNeg]? = some (.ref gg) := H182.at hin182 (by rw [own_ixx sl (by omega)]; exact eg)
    obtain ⟨T183, X183, e183, st183⟩ := getF X181 hx hZ hown (host := "") (Or.inl (hw _ (List.mem_of_getElem? (i := 40) rfl))) Via.refl e181 Ff (g := (mkF m 78 #[.val (.ref tb), .val (.ref f), .val (.int ((16 : Int32) - (1 : Int32))), .val (.int (Int32.ofNat hl)), .val (.int (Int32.ofNat sl)), s5] [(.ref gg), (.ref tb)])) rfl rfl (hb hby d7_78)
    obtain ⟨cq184, q184, q184'⟩ := E_tb.cell
    obtain ⟨_, _, ⟨T184, L184, k184, n184⟩, -, X184, ⟨Lc184, hQ184, l184, y184, z184⟩, st184⟩ := own_privBack X183 hx (y := (⟨"com/example/redoubt/redoubt/storage/FrameTable", "home", "(I)I"⟩ : MethodName)) hown (mvT hZ (hw _ (List.mem_of_getElem? (i := 41) rfl))) (mvT hZ (hw _ (List.mem_of_getElem? (i := 42) rfl))) (mvT hZ (hw _ (List.mem_of_getElem? (i := 18) rfl))) (Cond.privateMethod_at (mvP hZ (hw _ (List.mem_of_getElem? (i := 43) rfl)) (args := #[]))) (mvT hZ (hw _ (List.mem_of_getElem? (i := 44) rfl))) (by decide) (backOf (W := 0) (rmHome l Z a0 hw [] tb (pgs gg) (28 : Int32) h0 n0 Z0 F_shift_tb) hZ (hw _ (List.mem_of_getElem? (i := 44) rfl)) (hw _ (List.mem_of_getElem? (i := 19) rfl)) (by decide) (by decide)) (g := (mkF m 81 #[.val (.ref tb), .val (.ref f), .val (.int ((16 : Int32) - (1 : Int32))), .val (.int (Int32.ofNat hl)), .val (.int (Int32.ofNat sl)), s5] [(.int (pgs gg)), (.ref tb)])) rfl (by rw [hml]; rfl) (a := tb) (by rw [e183]; exact q184) q184' (argsL := [(.int (pgs gg))]) (rest := []) (lenOf pd_0 rfl) rfl (by show 2 * 0 + _ ≤ _; exact Nat.le_of_eq rfl) (hb hby d7_81) (fun _ _ => ⟨rfl, e183, hcells, hslots⟩)
    dsimp only [Pt.U, Pt.locs, Pt.cells, Pt.slots] at X184 l184 y184 z184 st184 hQ184
    rw [l184, y184, z184] at X184
    replace X184 := own_std X184 (cc := cells) (ss := slots) rfl rfl
    obtain ⟨rfl, N184q, e184⟩ := hQ184
    have N184 := Fr.app N0 N184q
    have pre185 : ∀ t, Steps p.tables e below (T184.setTop (mkF m 86 #[.val (.ref tb), .val (.ref f), .val (.int ((16 : Int32) - (1 : Int32))), .val (.int (Int32.ofNat hl)), .val (.int (Int32.ofNat sl)), .val (.int (own_home (pgs gg) (28 : Int32)))] [])) t → Steps p.tables e below (T0.setTop (mkF m 60 #[.val (.ref tb), .val (.ref f), .val (.int ((16 : Int32) - (1 : Int32))), .val (.int (Int32.ofNat hl)), .val (.int (Int32.ofNat sl)), s5] [])) t := fun t kk => pre179 t (by
        show Steps p.tables e below (T177.setTop (mkF m 67 #[.val (.ref tb), .val (.ref f), .val (.int ((16 : Int32) - (1 : Int32))), .val (.int (Int32.ofNat hl)), .val (.int (Int32.ofNat sl)), s5] [vv])) _
        refine Jvm.Free.XT.nullNo X177.here hx rfl (hb hby d7_67) rfl hr_vv hnull ?_
        show Steps p.tables e below (T177.setTop (mkF m 70 #[.val (.ref tb), .val (.ref f), .val (.int ((16 : Int32) - (1 : Int32))), .val (.int (Int32.ofNat hl)), .val (.int (Int32.ofNat sl)), s5] [])) _
        refine XS.aloadN X177.here hx rfl (hb hby d7_70) rfl rfl ?_
        show Steps p.tables e below (T177.setTop (mkF m 71 #[.val (.ref tb), .val (.ref f), .val (.int ((16 : Int32) - (1 : Int32))), .val (.int (Int32.ofNat hl)), .val (.int (Int32.ofNat sl)), s5] [(.ref tb)])) _
        refine XS.aloadN X177.here hx rfl (hb hby d7_71) rfl rfl ?_
        show Steps p.tables e below (T177.setTop (mkF m 72 #[.val (.ref tb), .val (.ref f), .val (.int ((16 : Int32) - (1 : Int32))), .val (.int (Int32.ofNat hl)), .val (.int (Int32.ofNat sl)), s5] [(.ref tb), (.ref tb)])) _
        refine st181 _ ?_
        show Steps p.tables e below (T181.setTop (mkF m 75 #[.val (.ref tb), .val (.ref f), .val (.int ((16 : Int32) - (1 : Int32))), .val (.int (Int32.ofNat hl)), .val (.int (Int32.ofNat sl)), s5] [(.ref a), (.ref tb)])) _
        refine XS.iload X181.here hx rfl (hb hby d7_75) rfl ?_
        show Steps p.tables e below (T181.setTop (mkF m 77 #[.val (.ref tb), .val (.ref f), .val (.int ((16 : Int32) - (1 : Int32))), .val (.int (Int32.ofNat hl)), .val (.int (Int32.ofNat sl)), s5] [(.int (Int32.ofNat sl)), (.ref a), (.ref tb)])) _
        refine X181.aaload hx (j := (Int32.ofNat sl)) (v := (.ref gg)) (by rw [e181]; exact Ar182.1) (State.isArrayOf_alike hZ.alike Ar182.2.1) rfl Ar182.2.2 hin182 hat182 (g := (mkF m 77 #[.val (.ref tb), .val (.ref f), .val (.int ((16 : Int32) - (1 : Int32))), .val (.int (Int32.ofNat hl)), .val (.int (Int32.ofNat sl)), s5] [(.int (Int32.ofNat sl)), (.ref a), (.ref tb)])) rfl rfl (hb hby d7_77) _ ?_
        show Steps p.tables e below (T181.setTop (mkF m 78 #[.val (.ref tb), .val (.ref f), .val (.int ((16 : Int32) - (1 : Int32))), .val (.int (Int32.ofNat hl)), .val (.int (Int32.ofNat sl)), s5] [(.ref gg), (.ref tb)])) _
        refine st183 _ ?_
        show Steps p.tables e below (T183.setTop (mkF m 81 #[.val (.ref tb), .val (.ref f), .val (.int ((16 : Int32) - (1 : Int32))), .val (.int (Int32.ofNat hl)), .val (.int (Int32.ofNat sl)), s5] [(.int (pgs gg)), (.ref tb)])) _
        refine st184.trans ?_
        show Steps p.tables e below (T184.setTop (mkF m 84 #[.val (.ref tb), .val (.ref f), .val (.int ((16 : Int32) - (1 : Int32))), .val (.int (Int32.ofNat hl)), .val (.int (Int32.ofNat sl)), s5] [(.int (own_home (pgs gg) (28 : Int32)))])) _
        refine XS.istore X184.here hx rfl (hb hby d7_84) rfl (l' := #[.val (.ref tb), .val (.ref f), .val (.int ((16 : Int32) - (1 : Int32))), .val (.int (Int32.ofNat hl)), .val (.int (Int32.ofNat sl)), .val (.int (own_home (pgs gg) (28 : Int32)))]) (XS.store1 rfl hs5 rfl) ?_
        exact kk)
    have eq186 : (own_home (pgs gg) (28 : Int32)) = (Int32.ofNat (own_hmf pgs gg)) := (own_hme (pgs gg)).1
    have pre187 : ∀ t, Steps p.tables e below (T184.setTop (mkF m 86 #[.val (.ref tb), .val (.ref f), .val (.int ((16 : Int32) - (1 : Int32))), .val (.int (Int32.ofNat hl)), .val (.int (Int32.ofNat sl)), .val (.int (Int32.ofNat (own_hmf pgs gg)))] [])) t → Steps p.tables e below (T0.setTop (mkF m 60 #[.val (.ref tb), .val (.ref f), .val (.int ((16 : Int32) - (1 : Int32))), .val (.int (Int32.ofNat hl)), .val (.int (Int32.ofNat sl)), s5] [])) t := fun t kk => pre185 t (own_cast (fun zz : Int32 => T184.setTop (mkF m 86 #[.val (.ref tb), .val (.ref f), .val (.int ((16 : Int32) - (1 : Int32))), .val (.int (Int32.ofNat hl)), .val (.int (Int32.ofNat sl)), .val (.int zz)] [])) eq186 kk)
    have pre188 : ∀ t, Steps p.tables e below (T184.setTop (mkF m 99 #[.val (.ref tb), .val (.ref f), .val (.int ((16 : Int32) - (1 : Int32))), .val (.int (Int32.ofNat hl)), .val (.int (Int32.ofNat sl)), .val (.int (Int32.ofNat (own_hmf pgs gg)))] [(.int (((Int32.ofNat sl) - (Int32.ofNat hl)) &&& ((16 : Int32) - (1 : Int32)))), (.int (((Int32.ofNat sl) - (Int32.ofNat (own_hmf pgs gg))) &&& ((16 : Int32) - (1 : Int32))))])) t → Steps p.tables e below (T0.setTop (mkF m 60 #[.val (.ref tb), .val (.ref f), .val (.int ((16 : Int32) - (1 : Int32))), .val (.int (Int32.ofNat hl)), .val (.int (Int32.ofNat sl)), s5] [])) t := fun t kk => pre187 t (by
        show Steps p.tables e below (T184.setTop (mkF m 86 #[.val (.ref tb), .val (.ref f), .val (.int ((16 : Int32) - (1 : Int32))), .val (.int (Int32.ofNat hl)), .val (.int (Int32.ofNat sl)), .val (.int (Int32.ofNat (own_hmf pgs gg)))] [])) _
        refine XS.iload X184.here hx rfl (hb hby d7_86) rfl ?_
        show Steps p.tables e below (T184.setTop (mkF m 88 #[.val (.ref tb), .val (.ref f), .val (.int ((16 : Int32) - (1 : Int32))), .val (.int (Int32.ofNat hl)), .val (.int (Int32.ofNat sl)), .val (.int (Int32.ofNat (own_hmf pgs gg)))] [(.int (Int32.ofNat sl))])) _
        refine XS.iload X184.here hx rfl (hb hby d7_88) rfl ?_
        show Steps p.tables e below (T184.setTop (mkF m 90 #[.val (.ref tb), .val (.ref f), .val (.int ((16 : Int32) - (1 : Int32))), .val (.int (Int32.ofNat hl)), .val (.int (Int32.ofNat sl)), .val (.int (Int32.ofNat (own_hmf pgs gg)))] [(.int (Int32.ofNat (own_hmf pgs gg))), (.int (Int32.ofNat sl))])) _
        refine XS.isub X184.here hx rfl (hb hby d7_90) rfl ?_
        show Steps p.tables e below (T184.setTop (mkF m 91 #[.val (.ref tb), .val (.ref f), .val (.int ((16 : Int32) - (1 : Int32))), .val (.int (Int32.ofNat hl)), .val (.int (Int32.ofNat sl)), .val (.int (Int32.ofNat (own_hmf pgs gg)))] [(.int ((Int32.ofNat sl) - (Int32.ofNat (own_hmf pgs gg))))])) _
        refine XS.iloadN X184.here hx rfl (hb hby d7_91) rfl ?_
        show Steps p.tables e below (T184.setTop (mkF m 92 #[.val (.ref tb), .val (.ref f), .val (.int ((16 : Int32) - (1 : Int32))), .val (.int (Int32.ofNat hl)), .val (.int (Int32.ofNat sl)), .val (.int (Int32.ofNat (own_hmf pgs gg)))] [(.int ((16 : Int32) - (1 : Int32))), (.int ((Int32.ofNat sl) - (Int32.ofNat (own_hmf pgs gg))))])) _
        refine XS.iand X184.here hx rfl (hb hby d7_92) rfl ?_
        show Steps p.tables e below (T184.setTop (mkF m 93 #[.val (.ref tb), .val (.ref f), .val (.int ((16 : Int32) - (1 : Int32))), .val (.int (Int32.ofNat hl)), .val (.int (Int32.ofNat sl)), .val (.int (Int32.ofNat (own_hmf pgs gg)))] [(.int (((Int32.ofNat sl) - (Int32.ofNat (own_hmf pgs gg))) &&& ((16 : Int32) - (1 : Int32))))])) _
        refine XS.iload X184.here hx rfl (hb hby d7_93) rfl ?_
        show Steps p.tables e below (T184.setTop (mkF m 95 #[.val (.ref tb), .val (.ref f), .val (.int ((16 : Int32) - (1 : Int32))), .val (.int (Int32.ofNat hl)), .val (.int (Int32.ofNat sl)), .val (.int (Int32.ofNat (own_hmf pgs gg)))] [(.int (Int32.ofNat sl)), (.int (((Int32.ofNat sl) - (Int32.ofNat (own_hmf pgs gg))) &&& ((16 : Int32) - (1 : Int32))))])) _
        refine XS.iloadN X184.here hx rfl (hb hby d7_95) rfl ?_
        show Steps p.tables e below (T184.setTop (mkF m 96 #[.val (.ref tb), .val (.ref f), .val (.int ((16 : Int32) - (1 : Int32))), .val (.int (Int32.ofNat hl)), .val (.int (Int32.ofNat sl)), .val (.int (Int32.ofNat (own_hmf pgs gg)))] [(.int (Int32.ofNat hl)), (.int (Int32.ofNat sl)), (.int (((Int32.ofNat sl) - (Int32.ofNat (own_hmf pgs gg))) &&& ((16 : Int32) - (1 : Int32))))])) _
        refine XS.isub X184.here hx rfl (hb hby d7_96) rfl ?_
        show Steps p.tables e below (T184.setTop (mkF m 97 #[.val (.ref tb), .val (.ref f), .val (.int ((16 : Int32) - (1 : Int32))), .val (.int (Int32.ofNat hl)), .val (.int (Int32.ofNat sl)), .val (.int (Int32.ofNat (own_hmf pgs gg)))] [(.int ((Int32.ofNat sl) - (Int32.ofNat hl))), (.int (((Int32.ofNat sl) - (Int32.ofNat (own_hmf pgs gg))) &&& ((16 : Int32) - (1 : Int32))))])) _
        refine XS.iloadN X184.here hx rfl (hb hby d7_97) rfl ?_
        show Steps p.tables e below (T184.setTop (mkF m 98 #[.val (.ref tb), .val (.ref f), .val (.int ((16 : Int32) - (1 : Int32))), .val (.int (Int32.ofNat hl)), .val (.int (Int32.ofNat sl)), .val (.int (Int32.ofNat (own_hmf pgs gg)))] [(.int ((16 : Int32) - (1 : Int32))), (.int ((Int32.ofNat sl) - (Int32.ofNat hl))), (.int (((Int32.ofNat sl) - (Int32.ofNat (own_hmf pgs gg))) &&& ((16 : Int32) - (1 : Int32))))])) _
        refine XS.iand X184.here hx rfl (hb hby d7_98) rfl ?_
        exact kk)
    by_cases hcm : (((Int32.ofNat sl) - (Int32.ofNat (own_hmf pgs gg))) &&& ((16 : Int32) - (1 : Int32))) < (((Int32.ofNat sl) - (Int32.ofNat hl)) &&& ((16 : Int32) - (1 : Int32)))
    · have J2 := own_J_skip (own_hlt pgs) J eg ((own_cmp j3 j2 (own_hlt pgs gg)).mp hcm)
      have pre189 : ∀ t, Steps p.tables e below (T184.setTop (mkF m 60 #[.val (.ref tb), .val (.ref f), .val (.int ((16 : Int32) - (1 : Int32))), .val (.int (Int32.ofNat hl)), .val (.int (((Int32.ofNat sl) + (1 : Int32)) &&& ((16 : Int32) - (1 : Int32)))), .val (.int (Int32.ofNat (own_hmf pgs gg)))] [])) t → Steps p.tables e below (T0.setTop (mkF m 60 #[.val (.ref tb), .val (.ref f), .val (.int ((16 : Int32) - (1 : Int32))), .val (.int (Int32.ofNat hl)), .val (.int (Int32.ofNat sl)), s5] [])) t := fun t kk => pre188 t (by
          show Steps p.tables e below (T184.setTop (mkF m 99 #[.val (.ref tb), .val (.ref f), .val (.int ((16 : Int32) - (1 : Int32))), .val (.int (Int32.ofNat hl)), .val (.int (Int32.ofNat sl)), .val (.int (Int32.ofNat (own_hmf pgs gg)))] [(.int (((Int32.ofNat sl) - (Int32.ofNat hl)) &&& ((16 : Int32) - (1 : Int32)))), (.int (((Int32.ofNat sl) - (Int32.ofNat (own_hmf pgs gg))) &&& ((16 : Int32) - (1 : Int32))))])) _
          refine XS.icmpYes X184.here hx rfl (pc0 := 99) (pc' := 126) rfl (hb hby d7_99) rfl (tlt hcm).1 (by decide) (by decide) ?_
          show Steps p.tables e below (T184.setTop (mkF m 126 #[.val (.ref tb), .val (.ref f), .val (.int ((16 : Int32) - (1 : Int32))), .val (.int (Int32.ofNat hl)), .val (.int (Int32.ofNat sl)), .val (.int (Int32.ofNat (own_hmf pgs gg)))] [])) _
          refine XS.iload X184.here hx rfl (hb hby d7_126) rfl ?_
          show Steps p.tables e below (T184.setTop (mkF m 128 #[.val (.ref tb), .val (.ref f), .val (.int ((16 : Int32) - (1 : Int32))), .val (.int (Int32.ofNat hl)), .val (.int (Int32.ofNat sl)), .val (.int (Int32.ofNat (own_hmf pgs gg)))] [(.int (Int32.ofNat sl))])) _
          refine XS.iconst X184.here hx rfl (hb hby d7_128) ?_
          show Steps p.tables e below (T184.setTop (mkF m 129 #[.val (.ref tb), .val (.ref f), .val (.int ((16 : Int32) - (1 : Int32))), .val (.int (Int32.ofNat hl)), .val (.int (Int32.ofNat sl)), .val (.int (Int32.ofNat (own_hmf pgs gg)))] [(.int (1 : Int32)), (.int (Int32.ofNat sl))])) _
          refine XS.iadd X184.here hx rfl (hb hby d7_129) rfl ?_
          show Steps p.tables e below (T184.setTop (mkF m 130 #[.val (.ref tb), .val (.ref f), .val (.int ((16 : Int32) - (1 : Int32))), .val (.int (Int32.ofNat hl)), .val (.int (Int32.ofNat sl)), .val (.int (Int32.ofNat (own_hmf pgs gg)))] [(.int ((Int32.ofNat sl) + (1 : Int32)))])) _
          refine XS.iloadN X184.here hx rfl (hb hby d7_130) rfl ?_
          show Steps p.tables e below (T184.setTop (mkF m 131 #[.val (.ref tb), .val (.ref f), .val (.int ((16 : Int32) - (1 : Int32))), .val (.int (Int32.ofNat hl)), .val (.int (Int32.ofNat sl)), .val (.int (Int32.ofNat (own_hmf pgs gg)))] [(.int ((16 : Int32) - (1 : Int32))), (.int ((Int32.ofNat sl) + (1 : Int32)))])) _
          refine XS.iand X184.here hx rfl (hb hby d7_131) rfl ?_
          show Steps p.tables e below (T184.setTop (mkF m 132 #[.val (.ref tb), .val (.ref f), .val (.int ((16 : Int32) - (1 : Int32))), .val (.int (Int32.ofNat hl)), .val (.int (Int32.ofNat sl)), .val (.int (Int32.ofNat (own_hmf pgs gg)))] [(.int (((Int32.ofNat sl) + (1 : Int32)) &&& ((16 : Int32) - (1 : Int32))))])) _
          refine XS.istore X184.here hx rfl (hb hby d7_132) rfl (l' := #[.val (.ref tb), .val (.ref f), .val (.int ((16 : Int32) - (1 : Int32))), .val (.int (Int32.ofNat hl)), .val (.int (((Int32.ofNat sl) + (1 : Int32)) &&& ((16 : Int32) - (1 : Int32)))), .val (.int (Int32.ofNat (own_hmf pgs gg)))]) rfl ?_
          show Steps p.tables e below (T184.setTop (mkF m 134 #[.val (.ref tb), .val (.ref f), .val (.int ((16 : Int32) - (1 : Int32))), .val (.int (Int32.ofNat hl)), .val (.int (((Int32.ofNat sl) + (1 : Int32)) &&& ((16 : Int32) - (1 : Int32)))), .val (.int (Int32.ofNat (own_hmf pgs gg)))] [])) _
          refine XS.goto X184.here hx rfl (pc0 := 134) (pc' := 60) rfl (hb hby d7_134) (by decide) (by decide) ?_
          exact kk)
      have eq190 : (((Int32.ofNat sl) + (1 : Int32)) &&& ((16 : Int32) - (1 : Int32))) = (Int32.ofNat ((sl + 1) % 16)) := own_nx16 sl j3
      have pre191 : ∀ t, Steps p.tables e below (T184.setTop (mkF m 60 #[.val (.ref tb), .val (.ref f), .val (.int ((16 : Int32) - (1 : Int32))), .val (.int (Int32.ofNat hl)), .val (.int (Int32.ofNat ((sl + 1) % 16))), .val (.int (Int32.ofNat (own_hmf pgs gg)))] [])) t → Steps p.tables e below (T0.setTop (mkF m 60 #[.val (.ref tb), .val (.ref f), .val (.int ((16 : Int32) - (1 : Int32))), .val (.int (Int32.ofNat hl)), .val (.int (Int32.ofNat sl)), s5] [])) t := fun t kk => pre189 t (own_cast (fun zz : Int32 => T184.setTop (mkF m 60 #[.val (.ref tb), .val (.ref f), .val (.int ((16 : Int32) - (1 : Int32))), .val (.int (Int32.ofNat hl)), .val (.int zz), .val (.int (Int32.ofNat (own_hmf pgs gg)))] [])) eq190 kk)
      have hp192 : own_J (own_hmf pgs) vs hl ((sl + 1) % 16) z0 := J2
      have hp193 : Ovr Z k "com/example/redoubt/redoubt/storage/PageCache$Frame" := ho
      have hp194 : (Slot.val (.int (Int32.ofNat (own_hmf pgs gg)))) = .unset ∨ ∃ w, (Slot.val (.int (Int32.ofNat (own_hmf pgs gg)))) = .val w ∧ w.category = 1 := Or.inr ⟨.int (Int32.ofNat (own_hmf pgs gg)), rfl, rfl⟩
      obtain ⟨T195, lc195, h195, hl2_195, sl2_195, s6_195, vs2_195, X195, N195, e195, K195, P195_0, P195_1, pu195_0, pu195_1, pu195_2, pre195⟩ := ih _ (own_dz j3 j4 hsz) T184 _ h0 tb f hl ((sl + 1) % 16) (Slot.val (.int (Int32.ofNat (own_hmf pgs gg)))) a k vs z0 pgs c0 X184 e184 N184 Z0 E_tb F_slots_tb F_shift_tb F_size_tb V_a G_0 hp192 hp193 hp194 g_a rfl
      exact ⟨T195, _, _, hl2_195, sl2_195, s6_195, vs2_195, X195, N195, e195, ((Keep.refl _ _).trans K195 (allS (Or.inl (List.mem_of_getElem? (i := 0) rfl)) all0)), P195_0, P195_1, pu195_0, pu195_1, pu195_2, fun t kk => pre191 t (pre195 t kk)⟩
    · have J2 := own_J_move (own_hlt pgs) J eg (fun z => hcm ((own_cmp j3 j2 (own_hlt pgs gg)).mpr z))
      obtain ⟨T196, X196, e196, st196⟩ := getF X184 hx hZ hown (host := "") (Or.inl (hw _ (List.mem_of_getElem? (i := 25) rfl))) Via.refl e184 F_slots_tb (g := (mkF m 103 #[.val (.ref tb), .val (.ref f), .val (.int ((16 : Int32) - (1 : Int32))), .val (.int (Int32.ofNat hl)), .val (.int (Int32.ofNat sl)), .val (.int (Int32.ofNat (own_hmf pgs gg)))] [(.ref tb)])) rfl rfl (hb hby d7_103)
      obtain ⟨T197, X197, e197, st197⟩ := getF X196 hx hZ hown (host := "") (Or.inl (hw _ (List.mem_of_getElem? (i := 25) rfl))) Via.refl e196 F_slots_tb (g := (mkF m 108 #[.val (.ref tb), .val (.ref f), .val (.int ((16 : Int32) - (1 : Int32))), .val (.int (Int32.ofNat hl)), .val (.int (Int32.ofNat sl)), .val (.int (Int32.ofNat (own_hmf pgs gg)))] [(.ref tb), (.int (Int32.ofNat hl)), (.ref a)])) rfl rfl (hb hby d7_108)
      obtain ⟨cl198, Ar198, q198, Sz198, Nn198, H198, G198⟩ := id V_a
      have hin198 : ¬ ((Int32.ofNat sl) < 0 ∨ cl198.slots.size ≤ ((Int32.ofNat sl)).toNatClampNeg) := (inb_of Sz198 (own_in16 sl j3))
      have hat198 : cl198.slots[((Int32.ofNat sl)).toNatClampNeg]? = some (.ref gg) := H198.at hin198 (by rw [own_ixx sl (by omega)]; exact eg)
      obtain ⟨cl199, Ar199, q199, Sz199, Nn199, H199, G199⟩ := id V_a
      have hin199 : ¬ ((Int32.ofNat hl) < 0 ∨ cl199.slots.size ≤ ((Int32.ofNat hl)).toNatClampNeg) := (inb_of Sz199 (own_in16 hl j2))
      obtain ⟨T200, h200, X200, e200, W200, st200⟩ := stR X197 hx hZ e197 Ar199 (j := (Int32.ofNat hl)) hin199 rfl (Sto.ofV Ar199 q199 ho (Ins.self Ef)) (g := (mkF m 114 #[.val (.ref tb), .val (.ref f), .val (.int ((16 : Int32) - (1 : Int32))), .val (.int (Int32.ofNat hl)), .val (.int (Int32.ofNat sl)), .val (.int (Int32.ofNat (own_hmf pgs gg)))] [(.ref gg), (.int (Int32.ofNat hl)), (.ref a)])) rfl rfl (hb hby d7_114)
      have Ex201 : Exa Z h200 tb "com/example/redoubt/redoubt/storage/FrameTable" := (E_tb.wr W200)
      have ne202 : tb ≠ a := own_ne_arr E_tb (hw _ (List.mem_of_getElem? (i := 18) rfl)) V_a
      have F203 : Fld Z h200 tb "com/example/redoubt/redoubt/storage/FrameTable" "slots" "[Lcom/example/redoubt/redoubt/storage/PageCache$Frame;" (.ref a) := (F_slots_tb.other W200 (Or.inl ne202))
      have F204 : Fld Z h200 tb "com/example/redoubt/redoubt/storage/FrameTable" "shift" "I" (.int (28 : Int32)) := (F_shift_tb.other W200 (Or.inl ne202))
      have F205 : Fld Z h200 tb "com/example/redoubt/redoubt/storage/FrameTable" "size" "I" (.int c0) := (F_size_tb.other W200 (Or.inl ne202))
      have Xf206 : own_GoodP Z h200 pgs vs := (own_goodp_wr G_0 W200 (fun f hf => (own_ne_arr hf (hw _ (List.mem_of_getElem? (i := 3) rfl)) V_a)))
      have Ex207 : Exa Z h200 gg "com/example/redoubt/redoubt/storage/PageCache$Frame" := (Ef.wr W200)
      have ne208 : gg ≠ a := own_ne_arr Ef (hw _ (List.mem_of_getElem? (i := 3) rfl)) V_a
      have F209 : Fld Z h200 gg "com/example/redoubt/redoubt/storage/PageCache$Frame" "page" "I" (.int (pgs gg)) := (Ff.other W200 (Or.inl ne208))
      have K210 : Keep h0 h200 [a] := (Keep.refl h0 _).wr W200 (Or.inl (List.mem_of_getElem? (i := 0) rfl))
      have N211 := Fr.snoc X200 N184 g_a
      have Av200 : Arv Z h200 a k (.object "com/example/redoubt/redoubt/storage/PageCache$Frame") (16 : Int32) (vs.set hl (.ref gg)) .null := Arv.set Ar199 q199 Sz199 Nn199 H199 G199 rfl W200 hl (own_ixx hl (by omega)) (by rw [j1]; exact j2)
      obtain ⟨T212, X212, e212, st212⟩ := getF X200 hx hZ hown (host := "") (Or.inl (hw _ (List.mem_of_getElem? (i := 25) rfl))) Via.refl e200 F203 (g := (mkF m 116 #[.val (.ref tb), .val (.ref f), .val (.int ((16 : Int32) - (1 : Int32))), .val (.int (Int32.ofNat hl)), .val (.int (Int32.ofNat sl)), .val (.int (Int32.ofNat (own_hmf pgs gg)))] [(.ref tb)])) rfl rfl (hb hby d7_116)
      obtain ⟨cl213, Ar213, q213, Sz213, Nn213, H213, G213⟩ := id Av200
      have hin213 : ¬ ((Int32.ofNat sl) < 0 ∨ cl213.slots.size ≤ ((Int32.ofNat sl)).toNatClampNeg) := (inb_of Sz213 (own_in16 sl j3))
      obtain ⟨T214, h214, X214, e214, W214, st214⟩ := stR X212 hx hZ e212 Ar213 (j := (Int32.ofNat sl)) hin213 rfl (Or.inl rfl) (g := (mkF m 122 #[.val (.ref tb), .val (.ref f), .val (.int ((16 : Int32) - (1 : Int32))), .val (.int (Int32.ofNat hl)), .val (.int (Int32.ofNat sl)), .val (.int (Int32.ofNat (own_hmf pgs gg)))] [.null, (.int (Int32.ofNat sl)), (.ref a)])) rfl rfl (hb hby d7_122)
      have Ex215 : Exa Z h214 tb "com/example/redoubt/redoubt/storage/FrameTable" := (Ex201.wr W214)
      have F216 : Fld Z h214 tb "com/example/redoubt/redoubt/storage/FrameTable" "slots" "[Lcom/example/redoubt/redoubt/storage/PageCache$Frame;" (.ref a) := (F203.other W214 (Or.inl ne202))
      have F217 : Fld Z h214 tb "com/example/redoubt/redoubt/storage/FrameTable" "shift" "I" (.int (28 : Int32)) := (F204.other W214 (Or.inl ne202))
      have F218 : Fld Z h214 tb "com/example/redoubt/redoubt/storage/FrameTable" "size" "I" (.int c0) := (F205.other W214 (Or.inl ne202))
      have Xf219 : own_GoodP Z h214 pgs vs := (own_goodp_wr Xf206 W214 (fun f hf => (own_ne_arr hf (hw _ (List.mem_of_getElem? (i := 3) rfl)) Av200)))
      have Ex220 : Exa Z h214 gg "com/example/redoubt/redoubt/storage/PageCache$Frame" := (Ex207.wr W214)
      have F221 : Fld Z h214 gg "com/example/redoubt/redoubt/storage/PageCache$Frame" "page" "I" (.int (pgs gg)) := (F209.other W214 (Or.inl ne208))
      have K222 : Keep h0 h214 [a] := K210.wr W214 (Or.inl (List.mem_of_getElem? (i := 0) rfl))
      have N223 := Fr.snoc X214 N211 g_a
      have Av214 : Arv Z h214 a k (.object "com/example/redoubt/redoubt/storage/PageCache$Frame") (16 : Int32) ((vs.set hl (.ref gg)).set sl .null) .null := Arv.set Ar213 q213 Sz213 Nn213 H213 G213 rfl W214 sl (own_ixx sl (by omega)) (by rw [List.length_set, j1]; exact j3)
      obtain ⟨us, hus⟩ : ∃ z, z = ((vs.set hl (.ref gg)).set sl .null) := ⟨_, rfl⟩
      have Av224 : Arv Z h214 a k (.object "com/example/redoubt/redoubt/storage/PageCache$Frame") (16 : Int32) us .null := by rw [hus]; exact Av214
      have G225 : own_GoodP Z h214 pgs us := by rw [hus]; exact own_goodp_nul (own_goodp_set Xf219 Ex220 F221 _) _
      rw [← hus] at J2
      have pre226 : ∀ t, Steps p.tables e below (T214.setTop (mkF m 60 #[.val (.ref tb), .val (.ref f), .val (.int ((16 : Int32) - (1 : Int32))), .val (.int (Int32.ofNat sl)), .val (.int (((Int32.ofNat sl) + (1 : Int32)) &&& ((16 : Int32) - (1 : Int32)))), .val (.int (Int32.ofNat (own_hmf pgs gg)))] [])) t → Steps p.tables e below (T0.setTop (mkF m 60 #[.val (.ref tb), .val (.ref f), .val (.int ((16 : Int32) - (1 : Int32))), .val (.int (Int32.ofNat hl)), .val (.int (Int32.ofNat sl)), s5] [])) t := fun t kk => pre188 t (by
          show Steps p.tables e below (T184.setTop (mkF m 99 #[.val (.ref tb), .val (.ref f), .val (.int ((16 : Int32) - (1 : Int32))), .val (.int (Int32.ofNat hl)), .val (.int (Int32.ofNat sl)), .val (.int (Int32.ofNat (own_hmf pgs gg)))] [(.int (((Int32.ofNat sl) - (Int32.ofNat hl)) &&& ((16 : Int32) - (1 : Int32)))), (.int (((Int32.ofNat sl) - (Int32.ofNat (own_hmf pgs gg))) &&& ((16 : Int32) - (1 : Int32))))])) _
          refine XS.icmpNo X184.here hx rfl (hb hby d7_99) rfl (flt hcm).1 ?_
          show Steps p.tables e below (T184.setTop (mkF m 102 #[.val (.ref tb), .val (.ref f), .val (.int ((16 : Int32) - (1 : Int32))), .val (.int (Int32.ofNat hl)), .val (.int (Int32.ofNat sl)), .val (.int (Int32.ofNat (own_hmf pgs gg)))] [])) _
          refine XS.aloadN X184.here hx rfl (hb hby d7_102) rfl rfl ?_
          show Steps p.tables e below (T184.setTop (mkF m 103 #[.val (.ref tb), .val (.ref f), .val (.int ((16 : Int32) - (1 : Int32))), .val (.int (Int32.ofNat hl)), .val (.int (Int32.ofNat sl)), .val (.int (Int32.ofNat (own_hmf pgs gg)))] [(.ref tb)])) _
          refine st196 _ ?_
          show Steps p.tables e below (T196.setTop (mkF m 106 #[.val (.ref tb), .val (.ref f), .val (.int ((16 : Int32) - (1 : Int32))), .val (.int (Int32.ofNat hl)), .val (.int (Int32.ofNat sl)), .val (.int (Int32.ofNat (own_hmf pgs gg)))] [(.ref a)])) _
          refine XS.iloadN X196.here hx rfl (hb hby d7_106) rfl ?_
          show Steps p.tables e below (T196.setTop (mkF m 107 #[.val (.ref tb), .val (.ref f), .val (.int ((16 : Int32) - (1 : Int32))), .val (.int (Int32.ofNat hl)), .val (.int (Int32.ofNat sl)), .val (.int (Int32.ofNat (own_hmf pgs gg)))] [(.int (Int32.ofNat hl)), (.ref a)])) _
          refine XS.aloadN X196.here hx rfl (hb hby d7_107) rfl rfl ?_
          show Steps p.tables e below (T196.setTop (mkF m 108 #[.val (.ref tb), .val (.ref f), .val (.int ((16 : Int32) - (1 : Int32))), .val (.int (Int32.ofNat hl)), .val (.int (Int32.ofNat sl)), .val (.int (Int32.ofNat (own_hmf pgs gg)))] [(.ref tb), (.int (Int32.ofNat hl)), (.ref a)])) _
          refine st197 _ ?_
          show Steps p.tables e below (T197.setTop (mkF m 111 #[.val (.ref tb), .val (.ref f), .val (.int ((16 : Int32) - (1 : Int32))), .val (.int (Int32.ofNat hl)), .val (.int (Int32.ofNat sl)), .val (.int (Int32.ofNat (own_hmf pgs gg)))] [(.ref a), (.int (Int32.ofNat hl)), (.ref a)])) _
          refine XS.iload X197.here hx rfl (hb hby d7_111) rfl ?_
          show Steps p.tables e below (T197.setTop (mkF m 113 #[.val (.ref tb), .val (.ref f), .val (.int ((16 : Int32) - (1 : Int32))), .val (.int (Int32.ofNat hl)), .val (.int (Int32.ofNat sl)), .val (.int (Int32.ofNat (own_hmf pgs gg)))] [(.int (Int32.ofNat sl)), (.ref a), (.int (Int32.ofNat hl)), (.ref a)])) _
          refine X197.aaload hx (j := (Int32.ofNat sl)) (v := (.ref gg)) (by rw [e197]; exact Ar198.1) (State.isArrayOf_alike hZ.alike Ar198.2.1) rfl Ar198.2.2 hin198 hat198 (g := (mkF m 113 #[.val (.ref tb), .val (.ref f), .val (.int ((16 : Int32) - (1 : Int32))), .val (.int (Int32.ofNat hl)), .val (.int (Int32.ofNat sl)), .val (.int (Int32.ofNat (own_hmf pgs gg)))] [(.int (Int32.ofNat sl)), (.ref a), (.int (Int32.ofNat hl)), (.ref a)])) rfl rfl (hb hby d7_113) _ ?_
          show Steps p.tables e below (T197.setTop (mkF m 114 #[.val (.ref tb), .val (.ref f), .val (.int ((16 : Int32) - (1 : Int32))), .val (.int (Int32.ofNat hl)), .val (.int (Int32.ofNat sl)), .val (.int (Int32.ofNat (own_hmf pgs gg)))] [(.ref gg), (.int (Int32.ofNat hl)), (.ref a)])) _
          refine st200 _ ?_
          show Steps p.tables e below (T200.setTop (mkF m 115 #[.val (.ref tb), .val (.ref f), .val (.int ((16 : Int32) - (1 : Int32))), .val (.int (Int32.ofNat hl)), .val (.int (Int32.ofNat sl)), .val (.int (Int32.ofNat (own_hmf pgs gg)))] [])) _
          refine XS.aloadN X200.here hx rfl (hb hby d7_115) rfl rfl ?_
          show Steps p.tables e below (T200.setTop (mkF m 116 #[.val (.ref tb), .val (.ref f), .val (.int ((16 : Int32) - (1 : Int32))), .val (.int (Int32.ofNat hl)), .val (.int (Int32.ofNat sl)), .val (.int (Int32.ofNat (own_hmf pgs gg)))] [(.ref tb)])) _
          refine st212 _ ?_
          show Steps p.tables e below (T212.setTop (mkF m 119 #[.val (.ref tb), .val (.ref f), .val (.int ((16 : Int32) - (1 : Int32))), .val (.int (Int32.ofNat hl)), .val (.int (Int32.ofNat sl)), .val (.int (Int32.ofNat (own_hmf pgs gg)))] [(.ref a)])) _
          refine XS.iload X212.here hx rfl (hb hby d7_119) rfl ?_
          show Steps p.tables e below (T212.setTop (mkF m 121 #[.val (.ref tb), .val (.ref f), .val (.int ((16 : Int32) - (1 : Int32))), .val (.int (Int32.ofNat hl)), .val (.int (Int32.ofNat sl)), .val (.int (Int32.ofNat (own_hmf pgs gg)))] [(.int (Int32.ofNat sl)), (.ref a)])) _
          refine XS.aconstNull X212.here hx rfl (hb hby d7_121) ?_
          show Steps p.tables e below (T212.setTop (mkF m 122 #[.val (.ref tb), .val (.ref f), .val (.int ((16 : Int32) - (1 : Int32))), .val (.int (Int32.ofNat hl)), .val (.int (Int32.ofNat sl)), .val (.int (Int32.ofNat (own_hmf pgs gg)))] [.null, (.int (Int32.ofNat sl)), (.ref a)])) _
          refine st214 _ ?_
          show Steps p.tables e below (T214.setTop (mkF m 123 #[.val (.ref tb), .val (.ref f), .val (.int ((16 : Int32) - (1 : Int32))), .val (.int (Int32.ofNat hl)), .val (.int (Int32.ofNat sl)), .val (.int (Int32.ofNat (own_hmf pgs gg)))] [])) _
          refine XS.iload X214.here hx rfl (hb hby d7_123) rfl ?_
          show Steps p.tables e below (T214.setTop (mkF m 125 #[.val (.ref tb), .val (.ref f), .val (.int ((16 : Int32) - (1 : Int32))), .val (.int (Int32.ofNat hl)), .val (.int (Int32.ofNat sl)), .val (.int (Int32.ofNat (own_hmf pgs gg)))] [(.int (Int32.ofNat sl))])) _
          refine XS.istoreN X214.here hx rfl (hb hby d7_125) rfl (l' := #[.val (.ref tb), .val (.ref f), .val (.int ((16 : Int32) - (1 : Int32))), .val (.int (Int32.ofNat sl)), .val (.int (Int32.ofNat sl)), .val (.int (Int32.ofNat (own_hmf pgs gg)))]) rfl ?_
          show Steps p.tables e below (T214.setTop (mkF m 126 #[.val (.ref tb), .val (.ref f), .val (.int ((16 : Int32) - (1 : Int32))), .val (.int (Int32.ofNat sl)), .val (.int (Int32.ofNat sl)), .val (.int (Int32.ofNat (own_hmf pgs gg)))] [])) _
          refine XS.iload X214.here hx rfl (hb hby d7_126) rfl ?_
          show Steps p.tables e below (T214.setTop (mkF m 128 #[.val (.ref tb), .val (.ref f), .val (.int ((16 : Int32) - (1 : Int32))), .val (.int (Int32.ofNat sl)), .val (.int (Int32.ofNat sl)), .val (.int (Int32.ofNat (own_hmf pgs gg)))] [(.int (Int32.ofNat sl))])) _
          refine XS.iconst X214.here hx rfl (hb hby d7_128) ?_
          show Steps p.tables e below (T214.setTop (mkF m 129 #[.val (.ref tb), .val (.ref f), .val (.int ((16 : Int32) - (1 : Int32))), .val (.int (Int32.ofNat sl)), .val (.int (Int32.ofNat sl)), .val (.int (Int32.ofNat (own_hmf pgs gg)))] [(.int (1 : Int32)), (.int (Int32.ofNat sl))])) _
          refine XS.iadd X214.here hx rfl (hb hby d7_129) rfl ?_
          show Steps p.tables e below (T214.setTop (mkF m 130 #[.val (.ref tb), .val (.ref f), .val (.int ((16 : Int32) - (1 : Int32))), .val (.int (Int32.ofNat sl)), .val (.int (Int32.ofNat sl)), .val (.int (Int32.ofNat (own_hmf pgs gg)))] [(.int ((Int32.ofNat sl) + (1 : Int32)))])) _
          refine XS.iloadN X214.here hx rfl (hb hby d7_130) rfl ?_
          show Steps p.tables e below (T214.setTop (mkF m 131 #[.val (.ref tb), .val (.ref f), .val (.int ((16 : Int32) - (1 : Int32))), .val (.int (Int32.ofNat sl)), .val (.int (Int32.ofNat sl)), .val (.int (Int32.ofNat (own_hmf pgs gg)))] [(.int ((16 : Int32) - (1 : Int32))), (.int ((Int32.ofNat sl) + (1 : Int32)))])) _
          refine XS.iand X214.here hx rfl (hb hby d7_131) rfl ?_
          show Steps p.tables e below (T214.setTop (mkF m 132 #[.val (.ref tb), .val (.ref f), .val (.int ((16 : Int32) - (1 : Int32))), .val (.int (Int32.ofNat sl)), .val (.int (Int32.ofNat sl)), .val (.int (Int32.ofNat (own_hmf pgs gg)))] [(.int (((Int32.ofNat sl) + (1 : Int32)) &&& ((16 : Int32) - (1 : Int32))))])) _
          refine XS.istore X214.here hx rfl (hb hby d7_132) rfl (l' := #[.val (.ref tb), .val (.ref f), .val (.int ((16 : Int32) - (1 : Int32))), .val (.int (Int32.ofNat sl)), .val (.int (((Int32.ofNat sl) + (1 : Int32)) &&& ((16 : Int32) - (1 : Int32)))), .val (.int (Int32.ofNat (own_hmf pgs gg)))]) rfl ?_
          show Steps p.tables e below (T214.setTop (mkF m 134 #[.val (.ref tb), .val (.ref f), .val (.int ((16 : Int32) - (1 : Int32))), .val (.int (Int32.ofNat sl)), .val (.int (((Int32.ofNat sl) + (1 : Int32)) &&& ((16 : Int32) - (1 : Int32)))), .val (.int (Int32.ofNat (own_hmf pgs gg)))] [])) _
          refine XS.goto X214.here hx rfl (pc0 := 134) (pc' := 60) rfl (hb hby d7_134) (by decide) (by decide) ?_
          exact kk)
      have eq227 : (((Int32.ofNat sl) + (1 : Int32)) &&& ((16 : Int32) - (1 : Int32))) = (Int32.ofNat ((sl + 1) % 16)) := own_nx16 sl j3
      have pre228 : ∀ t, Steps p.tables e below (T214.setTop (mkF m 60 #[.val (.ref tb), .val (.ref f), .val (.int ((16 : Int32) - (1 : Int32))), .val (.int (Int32.ofNat sl)), .val (.int (Int32.ofNat ((sl + 1) % 16))), .val (.int (Int32.ofNat (own_hmf pgs gg)))] [])) t → Steps p.tables e below (T0.setTop (mkF m 60 #[.val (.ref tb), .val (.ref f), .val (.int ((16 : Int32) - (1 : Int32))), .val (.int (Int32.ofNat hl)), .val (.int (Int32.ofNat sl)), s5] [])) t := fun t kk => pre226 t (own_cast (fun zz : Int32 => T214.setTop (mkF m 60 #[.val (.ref tb), .val (.ref f), .val (.int ((16 : Int32) - (1 : Int32))), .val (.int (Int32.ofNat sl)), .val (.int zz), .val (.int (Int32.ofNat (own_hmf pgs gg)))] [])) eq227 kk)
      have hp229 : own_J (own_hmf pgs) us sl ((sl + 1) % 16) z0 := J2
      have hp230 : Ovr Z k "com/example/redoubt/redoubt/storage/PageCache$Frame" := ho
      have hp231 : (Slot.val (.int (Int32.ofNat (own_hmf pgs gg)))) = .unset ∨ ∃ w, (Slot.val (.int (Int32.ofNat (own_hmf pgs gg)))) = .val w ∧ w.category = 1 := Or.inr ⟨.int (Int32.ofNat (own_hmf pgs gg)), rfl, rfl⟩
      obtain ⟨T232, lc232, h232, hl2_232, sl2_232, s6_232, vs2_232, X232, N232, e232, K232, P232_0, P232_1, pu232_0, pu232_1, pu232_2, pre232⟩ := ih _ (own_dz j3 j4 hsz) T214 _ h214 tb f sl ((sl + 1) % 16) (Slot.val (.int (Int32.ofNat (own_hmf pgs gg)))) a k us z0 pgs c0 X214 e214 N223 (Nat.le_trans Z0 K222.1) Ex215 F216 F217 F218 Av224 G225 hp229 hp230 hp231 g_a rfl
      exact ⟨T232, _, _, hl2_232, sl2_232, s6_232, vs2_232, X232, N232, e232, (K222.trans K232 (allS (Or.inl (List.mem_of_getElem? (i := 0) rfl)) all0)), P232_0, P232_1, pu232_0, (fun g => (pu232_1 g).trans (by rw [hus]; exact own_R_move j1 j2 j3 j8 j5 eg)), pu232_2, fun t kk => pre228 t (pre232 t kk)⟩
theorem d7_0 : decode prog_47_method_4_code 0 = .ok (.aload_n 0, 1) := by decide +kernel
theorem d7_1 : decode prog_47_method_4_code 1 = .ok (.getfield 11, 3) := by decide +kernel
theorem d7_4 : decode prog_47_method_4_code 4 = .ok (.arraylength, 1) := by decide +kernel
theorem d7_5 : decode prog_47_method_4_code 5 = .ok (.iconst 1, 1) := by decide +kernel
theorem d7_6 : decode prog_47_method_4_code 6 = .ok (.isub, 1) := by decide +kernel
theorem d7_7 : decode prog_47_method_4_code 7 = .ok (.istore_n 2, 1) := by decide +kernel
theorem d7_8 : decode prog_47_method_4_code 8 = .ok (.aload_n 0, 1) := by decide +kernel
theorem d7_9 : decode prog_47_method_4_code 9 = .ok (.aload_n 1, 1) := by decide +kernel
theorem d7_10 : decode prog_47_method_4_code 10 = .ok (.getfield 25, 3) := by decide +kernel
theorem d7_13 : decode prog_47_method_4_code 13 = .ok (.invokevirtual 21, 3) := by decide +kernel
theorem d7_16 : decode prog_47_method_4_code 16 = .ok (.istore_n 3, 1) := by decide +kernel
theorem d7_36 : decode prog_47_method_4_code 36 = .ok (.aload_n 0, 1) := by decide +kernel
theorem d7_37 : decode prog_47_method_4_code 37 = .ok (.getfield 11, 3) := by decide +kernel
theorem d7_40 : decode prog_47_method_4_code 40 = .ok (.iload_n 3, 1) := by decide +kernel
theorem d7_41 : decode prog_47_method_4_code 41 = .ok (.aconst_null, 1) := by decide +kernel
theorem d7_42 : decode prog_47_method_4_code 42 = .ok (.aastore, 1) := by decide +kernel
theorem d7_43 : decode prog_47_method_4_code 43 = .ok (.aload_n 0, 1) := by decide +kernel
theorem d7_44 : decode prog_47_method_4_code 44 = .ok (.dup, 1) := by decide +kernel
theorem d7_45 : decode prog_47_method_4_code 45 = .ok (.getfield 28, 3) := by decide +kernel
theorem d7_48 : decode prog_47_method_4_code 48 = .ok (.iconst 1, 1) := by decide +kernel
theorem d7_49 : decode prog_47_method_4_code 49 = .ok (.isub, 1) := by decide +kernel
theorem d7_50 : decode prog_47_method_4_code 50 = .ok (.putfield 28, 3) := by decide +kernel
theorem d7_53 : decode prog_47_method_4_code 53 = .ok (.iload_n 3, 1) := by decide +kernel
theorem d7_54 : decode prog_47_method_4_code 54 = .ok (.iconst 1, 1) := by decide +kernel
theorem d7_55 : decode prog_47_method_4_code 55 = .ok (.iadd, 1) := by decide +kernel
theorem d7_56 : decode prog_47_method_4_code 56 = .ok (.iload_n 2, 1) := by decide +kernel
theorem d7_57 : decode prog_47_method_4_code 57 = .ok (.iand, 1) := by decide +kernel
theorem d7_58 : decode prog_47_method_4_code 58 = .ok (.istore 4, 2) := by decide +kernel
theorem d7_137 : decode prog_47_method_4_code 137 = .ok (.return_, 1) := by decide +kernel
theorem ef_rmRemove (m : MethodId) (x0 : Addr) (x1 : Addr) : entryFrame m #[(.ref x0), (.ref x1)] 6 = mkF m 0 #[.val (.ref x0), .val (.ref x1), .unset, .unset, .unset, .unset] [] := by first | (simp [entryFrame, mkF, argsToLocals, Value.category]; done) | rfl
def QRemove (Z : State) (tb : Addr) (f : Addr) (a : Addr) (k : ClassId) (vs : List Value) (c0 : Int32) (pgs : Addr → Int32) (h0 : Heap) (n0 : Nat) (v : Option Value) (h : Heap) (L : List Loc) : Prop := ∃ (vs2 : List Value), v = none ∧ Fr n0 L ∧ Keep h0 h [tb, a] ∧ Exa Z h tb "com/example/redoubt/redoubt/storage/FrameTable" ∧ Fld Z h tb "com/example/redoubt/redoubt/storage/FrameTable" "slots" "[Lcom/example/redoubt/redoubt/storage/PageCache$Frame;" (.ref a) ∧ Fld Z h tb "com/example/redoubt/redoubt/storage/FrameTable" "shift" "I" (.int (28 : Int32)) ∧ Fld Z h tb "com/example/redoubt/redoubt/storage/FrameTable" "size" "I" (.int (c0 - (1 : Int32))) ∧ Arv Z h a k (.object "com/example/redoubt/redoubt/storage/PageCache$Frame") (16 : Int32) vs2 .null ∧ own_GoodP Z h pgs vs2 ∧ (own_TI (own_hmf pgs) vs2) ∧ (∀ g, own_R vs2 g ↔ (g ≠ f ∧ own_R vs g)) ∧ (∃ q, q < 16 ∧ vs2.getD q .null = .null)
set_option maxRecDepth 65536 in
set_option maxHeartbeats 40000000 in
theorem rmRemove (l : Launch) (Z : State) (a0 : Array Value) (hw : ∀ d ∈ tables_1, d.before a0 Z = true) (ws : List Jvm.Cond) (tb : Addr) (f : Addr) (a : Addr) (k : ClassId) (vs : List Value) (c0 : Int32) (pgs : Addr → Int32) (h0 : Heap) (n0 : Nat) (Z0 : n0 ≤ h0.size) (E_tb : Exa Z h0 tb "com/example/redoubt/redoubt/storage/FrameTable") (F_slots_tb : Fld Z h0 tb "com/example/redoubt/redoubt/storage/FrameTable" "slots" "[Lcom/example/redoubt/redoubt/storage/PageCache$Frame;" (.ref a)) (F_shift_tb : Fld Z h0 tb "com/example/redoubt/redoubt/storage/FrameTable" "shift" "I" (.int (28 : Int32))) (F_size_tb : Fld Z h0 tb "com/example/redoubt/redoubt/storage/FrameTable" "size" "I" (.int c0)) (V_a : Arv Z h0 a k (.object "com/example/redoubt/redoubt/storage/PageCache$Frame") (16 : Int32) vs .null) (G_0 : own_GoodP Z h0 pgs vs) (E_f : Exa Z h0 f "com/example/redoubt/redoubt/storage/PageCache$Frame") (F_page_f : Fld Z h0 f "com/example/redoubt/redoubt/storage/PageCache$Frame" "page" "I" (.int (pgs f))) (T : own_TI (own_hmf pgs) vs) (ho : Ovr Z k "com/example/redoubt/redoubt/storage/PageCache$Frame") (hRf : own_R vs f) (hz : ∃ q, q < 16 ∧ vs.getD q .null = .null) (g_tb : n0 ≤ tb) (g_a : n0 ≤ a) :
    MetFree l (⟨"com/example/redoubt/redoubt/storage/FrameTable", "remove", "(Lcom/example/redoubt/redoubt/storage/PageCache$Frame;)V"⟩ : MethodName) (head1 (Jvm.Cond.code (⟨"com/example/redoubt/redoubt/storage/FrameTable", "remove", "(Lcom/example/redoubt/redoubt/storage/PageCache$Frame;)V"⟩ : MethodName) prog_47_method_4_code 6 none :: ws) ({ frames := 1, cells := 0, slots := 0, locals := 13 } : Room)) (fun aA uU => aA = #[(.ref tb), (.ref f)] ∧ Z.Warmed39 uU.vm ∧ uU.heap = h0) (fun _ _ _ _ _ => True) (fun _ uU oO uU' => ∃ vV lL, oO = .returned vV ∧ QRemove Z tb f a k vs c0 pgs h0 n0 vV uU'.heap lL ∧ FrameEnd uU oO uU' lL ({ frames := 1, cells := 0, slots := 0, locals := 13 } : Room).cells ({ frames := 1, cells := 0, slots := 0, locals := 13 } : Room).slots) := by
  refine MetFree.of_bodySF (plainFor_of_name pn_1) hisR ?_
  intro p e s m args below meth c s₁ Bd hml0 hP hK
  obtain ⟨rfl, hZ, hh⟩ := hP
  have hx := Bd.exec
  have hby := Bd.bytes
  have hml : c.maxLocals = 6 := hml0
  have hown : s.vm.findClass "com/example/redoubt/redoubt/storage/FrameTable" = some m.cls := findClass_of_methodNamed Bd.named
  have hnm := (name_of_methodNamed Bd.named Bd.method).1
  have X0 : Stand p l e ({ frames := 1, cells := 0, slots := 0, locals := 13 } : Room) s m #[(.ref tb), (.ref f)] below meth c s₁ [] 0 0 := Stand.of_body Bd
  have e0 : s₁.heap = h0 := by rw [← hh, Bd.state]; rfl
  have N0 := Fr.nil n0
  have pre0 : ∀ t, Steps p.tables e below (s₁.setTop (mkF m 0 #[.val (.ref tb), .val (.ref f), .unset, .unset, .unset, .unset] [])) t → Steps p.tables e below (s₁.setTop (entryFrame m #[(.ref tb), (.ref f)] 6)) t := fun t kk => castTop (ef_rmRemove m tb f) kk
  obtain ⟨pf, hpf, epf⟩ := hRf
  obtain ⟨z0, hz1, hz2⟩ := hz
  obtain ⟨T233, X233, e233, st233⟩ := getF X0 hx hZ hown (host := "") (Or.inl (hw _ (List.mem_of_getElem? (i := 25) rfl))) Via.refl e0 F_slots_tb (g := (mkF m 1 #[.val (.ref tb), .val (.ref f), .unset, .unset, .unset, .unset] [(.ref tb)])) rfl rfl (hb hby d7_1)
  obtain ⟨cl234, Ar234, -, Sz234, Nn234, -, -⟩ := id V_a
  obtain ⟨T235, X235, e235, st235⟩ := getF X233 hx hZ hown (host := "") (Or.inl (hw _ (List.mem_of_getElem? (i := 40) rfl))) Via.refl e233 F_page_f (g := (mkF m 10 #[.val (.ref tb), .val (.ref f), .val (.int ((16 : Int32) - (1 : Int32))), .unset, .unset, .unset] [(.ref f), (.ref tb)])) rfl rfl (hb hby d7_10)
  obtain ⟨cq236, q236, q236'⟩ := E_tb.cell
  obtain ⟨_, _, ⟨T236, L236, k236, n236⟩, -, X236, ⟨Lc236, hQ236, l236, y236, z236⟩, st236⟩ := own_privBack X235 hx (y := (⟨"com/example/redoubt/redoubt/storage/FrameTable", "home", "(I)I"⟩ : MethodName)) hown (mvT hZ (hw _ (List.mem_of_getElem? (i := 41) rfl))) (mvT hZ (hw _ (List.mem_of_getElem? (i := 42) rfl))) (mvT hZ (hw _ (List.mem_of_getElem? (i := 18) rfl))) (Cond.privateMethod_at (mvP hZ (hw _ (List.mem_of_getElem? (i := 43) rfl)) (args := #[]))) (mvT hZ (hw _ (List.mem_of_getElem? (i := 44) rfl))) (by decide) (backOf (W := 0) (rmHome l Z a0 hw [] tb (pgs f) (28 : Int32) h0 n0 Z0 F_shift_tb) hZ (hw _ (List.mem_of_getElem? (i := 44) rfl)) (hw _ (List.mem_of_getElem? (i := 19) rfl)) (by decide) (by decide)) (g := (mkF m 13 #[.val (.ref tb), .val (.ref f), .val (.int ((16 : Int32) - (1 : Int32))), .unset, .unset, .unset] [(.int (pgs f)), (.ref tb)])) rfl (by rw [hml]; rfl) (a := tb) (by rw [e235]; exact q236) q236' (argsL := [(.int (pgs f))]) (rest := []) (lenOf pd_0 rfl) rfl (by show 2 * 0 + _ ≤ _; exact Nat.le_of_eq rfl) (hb hby d7_13) (fun _ _ => ⟨rfl, e235, (by decide : 0 + 0 ≤ _), (by decide : 0 + 0 ≤ _)⟩)
  dsimp only [Pt.U, Pt.locs, Pt.cells, Pt.slots] at X236 l236 y236 z236 st236 hQ236
  rw [l236, y236, z236] at X236
  replace X236 := own_std X236 (cc := 0) (ss := 0) rfl rfl
  obtain ⟨rfl, N236q, e236⟩ := hQ236
  have N236 := Fr.app N0 N236q
  have pre237 : ∀ t, Steps p.tables e below (T236.setTop (mkF m 17 #[.val (.ref tb), .val (.ref f), .val (.int ((16 : Int32) - (1 : Int32))), .val (.int (own_home (pgs f) (28 : Int32))), .unset, .unset] [])) t → Steps p.tables e below (s₁.setTop (entryFrame m #[(.ref tb), (.ref f)] 6)) t := fun t kk => pre0 t (by
      show Steps p.tables e below (s₁.setTop (mkF m 0 #[.val (.ref tb), .val (.ref f), .unset, .unset, .unset, .unset] [])) _
      refine XS.aloadN X0.here hx rfl (hb hby d7_0) rfl rfl ?_
      show Steps p.tables e below (s₁.setTop (mkF m 1 #[.val (.ref tb), .val (.ref f), .unset, .unset, .unset, .unset] [(.ref tb)])) _
      refine st233 _ ?_
      show Steps p.tables e below (T233.setTop (mkF m 4 #[.val (.ref tb), .val (.ref f), .unset, .unset, .unset, .unset] [(.ref a)])) _
      refine X233.arraylength hx (by rw [e233]; exact Ar234.1) (State.isArrayOf_alike hZ.alike Ar234.2.1) (g := (mkF m 4 #[.val (.ref tb), .val (.ref f), .unset, .unset, .unset, .unset] [(.ref a)])) rfl rfl (hb hby d7_4) _ ?_
      rw [len_of Sz234 Nn234]
      show Steps p.tables e below (T233.setTop (mkF m 5 #[.val (.ref tb), .val (.ref f), .unset, .unset, .unset, .unset] [(.int (16 : Int32))])) _
      refine XS.iconst X233.here hx rfl (hb hby d7_5) ?_
      show Steps p.tables e below (T233.setTop (mkF m 6 #[.val (.ref tb), .val (.ref f), .unset, .unset, .unset, .unset] [(.int (1 : Int32)), (.int (16 : Int32))])) _
      refine XS.isub X233.here hx rfl (hb hby d7_6) rfl ?_
      show Steps p.tables e below (T233.setTop (mkF m 7 #[.val (.ref tb), .val (.ref f), .unset, .unset, .unset, .unset] [(.int ((16 : Int32) - (1 : Int32)))])) _
      refine XS.istoreN X233.here hx rfl (hb hby d7_7) rfl (l' := #[.val (.ref tb), .val (.ref f), .val (.int ((16 : Int32) - (1 : Int32))), .unset, .unset, .unset]) rfl ?_
      show Steps p.tables e below (T233.setTop (mkF m 8 #[.val (.ref tb), .val (.ref f), .val (.int ((16 : Int32) - (1 : Int32))), .unset, .unset, .unset] [])) _
      refine XS.aloadN X233.here hx rfl (hb hby d7_8) rfl rfl ?_
      show Steps p.tables e below (T233.setTop (mkF m 9 #[.val (.ref tb), .val (.ref f), .val (.int ((16 : Int32) - (1 : Int32))), .unset, .unset, .unset] [(.ref tb)])) _
      refine XS.aloadN X233.here hx rfl (hb hby d7_9) rfl rfl ?_
      show Steps p.tables e below (T233.setTop (mkF m 10 #[.val (.ref tb), .val (.ref f), .val (.int ((16 : Int32) - (1 : Int32))), .unset, .unset, .unset] [(.ref f), (.ref tb)])) _
      refine st235 _ ?_
      show Steps p.tables e below (T235.setTop (mkF m 13 #[.val (.ref tb), .val (.ref f), .val (.int ((16 : Int32) - (1 : Int32))), .unset, .unset, .unset] [(.int (pgs f)), (.ref tb)])) _
      refine st236.trans ?_
      show Steps p.tables e below (T236.setTop (mkF m 16 #[.val (.ref tb), .val (.ref f), .val (.int ((16 : Int32) - (1 : Int32))), .unset, .unset, .unset] [(.int (own_home (pgs f) (28 : Int32)))])) _
      refine XS.istoreN X236.here hx rfl (hb hby d7_16) rfl (l' := #[.val (.ref tb), .val (.ref f), .val (.int ((16 : Int32) - (1 : Int32))), .val (.int (own_home (pgs f) (28 : Int32))), .unset, .unset]) rfl ?_
      exact kk)
  have eq238 : (own_home (pgs f) (28 : Int32)) = (Int32.ofNat (own_hmf pgs f)) := (own_hme (pgs f)).1
  have pre239 : ∀ t, Steps p.tables e below (T236.setTop (mkF m 17 #[.val (.ref tb), .val (.ref f), .val (.int ((16 : Int32) - (1 : Int32))), .val (.int (Int32.ofNat (own_hmf pgs f))), .unset, .unset] [])) t → Steps p.tables e below (s₁.setTop (entryFrame m #[(.ref tb), (.ref f)] 6)) t := fun t kk => pre237 t (own_cast (fun zz : Int32 => T236.setTop (mkF m 17 #[.val (.ref tb), .val (.ref f), .val (.int ((16 : Int32) - (1 : Int32))), .val (.int zz), .unset, .unset] [])) eq238 kk)
  have hp240 : own_TI (own_hmf pgs) vs := T
  have hp241 : (own_hmf pgs f) < 16 := own_hlt pgs f
  have hp242 : pf < 16 := hpf
  have hp243 : vs.getD pf .null = .ref f := epf
  have hp244 : (own_hmf pgs f) < 16 := own_hlt pgs f
  have hp245 : own_d (own_hmf pgs f) (own_hmf pgs f) ≤ own_d (own_hmf pgs f) pf := own_d00 _ _
  obtain ⟨T246, lc246, ix_246, X246, N246, e246, pu246_0, pu246_1, pre246⟩ := loopFind hx hZ hw hby hml hown (n0 := n0) _ T236 _ h0 tb f (own_hmf pgs f) a k vs pf pgs (own_hmf pgs f) X236 e236 N236 Z0 F_slots_tb V_a G_0 hp240 hp241 hp242 hp243 hp244 hp245 rfl
  have pre247 : ∀ t, Steps p.tables e below (T246.setTop (mkF m 36 #[.val (.ref tb), .val (.ref f), .val (.int ((16 : Int32) - (1 : Int32))), .val (.int (Int32.ofNat ix_246)), .unset, .unset] [])) t → Steps p.tables e below (s₁.setTop (entryFrame m #[(.ref tb), (.ref f)] 6)) t := fun t kk => pre239 t (pre246 t kk)
  obtain ⟨T248, X248, e248, st248⟩ := getF X246 hx hZ hown (host := "") (Or.inl (hw _ (List.mem_of_getElem? (i := 25) rfl))) Via.refl e246 F_slots_tb (g := (mkF m 37 #[.val (.ref tb), .val (.ref f), .val (.int ((16 : Int32) - (1 : Int32))), .val (.int (Int32.ofNat ix_246)), .unset, .unset] [(.ref tb)])) rfl rfl (hb hby d7_37)
  obtain ⟨cl249, Ar249, q249, Sz249, Nn249, H249, G249⟩ := id V_a
  have hin249 : ¬ ((Int32.ofNat ix_246) < 0 ∨ cl249.slots.size ≤ ((Int32.ofNat ix_246)).toNatClampNeg) := (inb_of Sz249 (own_in16 ix_246 pu246_0))
  obtain ⟨T250, h250, X250, e250, W250, st250⟩ := stR X248 hx hZ e248 Ar249 (j := (Int32.ofNat ix_246)) hin249 rfl (Or.inl rfl) (g := (mkF m 42 #[.val (.ref tb), .val (.ref f), .val (.int ((16 : Int32) - (1 : Int32))), .val (.int (Int32.ofNat ix_246)), .unset, .unset] [.null, (.int (Int32.ofNat ix_246)), (.ref a)])) rfl rfl (hb hby d7_42)
  have Ex251 : Exa Z h250 tb "com/example/redoubt/redoubt/storage/FrameTable" := (E_tb.wr W250)
  have ne252 : tb ≠ a := own_ne_arr E_tb (hw _ (List.mem_of_getElem? (i := 18) rfl)) V_a
  have F253 : Fld Z h250 tb "com/example/redoubt/redoubt/storage/FrameTable" "slots" "[Lcom/example/redoubt/redoubt/storage/PageCache$Frame;" (.ref a) := (F_slots_tb.other W250 (Or.inl ne252))
  have F254 : Fld Z h250 tb "com/example/redoubt/redoubt/storage/FrameTable" "shift" "I" (.int (28 : Int32)) := (F_shift_tb.other W250 (Or.inl ne252))
  have F255 : Fld Z h250 tb "com/example/redoubt/redoubt/storage/FrameTable" "size" "I" (.int c0) := (F_size_tb.other W250 (Or.inl ne252))
  have Xf256 : own_GoodP Z h250 pgs vs := (own_goodp_wr G_0 W250 (fun f hf => (own_ne_arr hf (hw _ (List.mem_of_getElem? (i := 3) rfl)) V_a)))
  have Ex257 : Exa Z h250 f "com/example/redoubt/redoubt/storage/PageCache$Frame" := (E_f.wr W250)
  have ne258 : f ≠ a := own_ne_arr E_f (hw _ (List.mem_of_getElem? (i := 3) rfl)) V_a
  have F259 : Fld Z h250 f "com/example/redoubt/redoubt/storage/PageCache$Frame" "page" "I" (.int (pgs f)) := (F_page_f.other W250 (Or.inl ne258))
  have K260 : Keep h0 h250 [tb, a] := (Keep.refl h0 _).wr W250 (Or.inl (List.mem_of_getElem? (i := 1) rfl))
  have N261 := Fr.snoc X250 N246 g_a
  have Av250 : Arv Z h250 a k (.object "com/example/redoubt/redoubt/storage/PageCache$Frame") (16 : Int32) (vs.set ix_246 .null) .null := Arv.set Ar249 q249 Sz249 Nn249 H249 G249 rfl W250 ix_246 (own_ixx ix_246 (by omega)) (by rw [T.1]; exact pu246_0)
  obtain ⟨us, hus⟩ : ∃ z, z = (vs.set ix_246 .null) := ⟨_, rfl⟩
  have Av262 : Arv Z h250 a k (.object "com/example/redoubt/redoubt/storage/PageCache$Frame") (16 : Int32) us .null := by rw [hus]; exact Av250
  have G263 : own_GoodP Z h250 pgs us := by rw [hus]; exact own_goodp_nul Xf256 _
  have J0 := own_J_start T pu246_0 pu246_1 hz1 hz2
  rw [← hus] at J0
  obtain ⟨T264, X264, e264, st264⟩ := getF X250 hx hZ hown (host := "") (Or.inl (hw _ (List.mem_of_getElem? (i := 34) rfl))) Via.refl e250 F255 (g := (mkF m 45 #[.val (.ref tb), .val (.ref f), .val (.int ((16 : Int32) - (1 : Int32))), .val (.int (Int32.ofNat ix_246)), .unset, .unset] [(.ref tb), (.ref tb)])) rfl rfl (hb hby d7_45)
  obtain ⟨T265, h265, X265, e265, W265, st265⟩ := putF X264 hx hZ hown (host := "") (Or.inl (hw _ (List.mem_of_getElem? (i := 34) rfl))) Via.refl e264 F255 Ex251 (Or.inl (hw _ (List.mem_of_getElem? (i := 35) rfl))) (hw _ (List.mem_of_getElem? (i := 18) rfl)) (ty := .int) (by decide) rfl rfl (g := (mkF m 50 #[.val (.ref tb), .val (.ref f), .val (.int ((16 : Int32) - (1 : Int32))), .val (.int (Int32.ofNat ix_246)), .unset, .unset] [(.int (c0 - (1 : Int32))), (.ref tb)])) rfl rfl (hb hby d7_50)
  have Ex266 : Exa Z h265 tb "com/example/redoubt/redoubt/storage/FrameTable" := (Ex251.wr W265)
  have F267 : Fld Z h265 tb "com/example/redoubt/redoubt/storage/FrameTable" "slots" "[Lcom/example/redoubt/redoubt/storage/PageCache$Frame;" (.ref a) := (F253.other W265 (Or.inr (slot_ne (Or.inl (hw _ (List.mem_of_getElem? (i := 26) rfl))) (Or.inl (hw _ (List.mem_of_getElem? (i := 35) rfl))) (by decide) (t := (.array (.object "com/example/redoubt/redoubt/storage/PageCache$Frame"))) (t' := .int) (by decide) (by decide))))
  have F268 : Fld Z h265 tb "com/example/redoubt/redoubt/storage/FrameTable" "shift" "I" (.int (28 : Int32)) := (F254.other W265 (Or.inr (slot_ne (Or.inl (hw _ (List.mem_of_getElem? (i := 28) rfl))) (Or.inl (hw _ (List.mem_of_getElem? (i := 35) rfl))) (by decide) (t := .int) (t' := .int) (by decide) (by decide))))
  have Xf269 : own_GoodP Z h265 pgs us := (own_goodp_wr G263 W265 (fun f hf => (ne_exa hf Ex251 (by decide))))
  have Ex270 : Exa Z h265 f "com/example/redoubt/redoubt/storage/PageCache$Frame" := (Ex257.wr W265)
  have ne271 : f ≠ tb := ne_exa Ex257 Ex251 (by decide)
  have F272 : Fld Z h265 f "com/example/redoubt/redoubt/storage/PageCache$Frame" "page" "I" (.int (pgs f)) := (F259.other W265 (Or.inl ne271))
  have Av273 : Arv Z h265 a k (.object "com/example/redoubt/redoubt/storage/PageCache$Frame") (16 : Int32) us .null := (Av262.other W265 (Ne.symm ne252))
  have K274 : Keep h0 h265 [tb, a] := K260.wr W265 (Or.inl (List.mem_of_getElem? (i := 0) rfl))
  have N275 := Fr.snoc X265 N261 g_tb
  have F276 : Fld Z h265 tb "com/example/redoubt/redoubt/storage/FrameTable" "size" "I" (.int (c0 - (1 : Int32))) := F255.same W265
  have pre277 : ∀ t, Steps p.tables e below (T265.setTop (mkF m 60 #[.val (.ref tb), .val (.ref f), .val (.int ((16 : Int32) - (1 : Int32))), .val (.int (Int32.ofNat ix_246)), .val (.int (((Int32.ofNat ix_246) + (1 : Int32)) &&& ((16 : Int32) - (1 : Int32)))), .unset] [])) t → Steps p.tables e below (s₁.setTop (entryFrame m #[(.ref tb), (.ref f)] 6)) t := fun t kk => pre247 t (by
      show Steps p.tables e below (T246.setTop (mkF m 36 #[.val (.ref tb), .val (.ref f), .val (.int ((16 : Int32) - (1 : Int32))), .val (.int (Int32.ofNat ix_246)), .unset, .unset] [])) _
      refine XS.aloadN X246.here hx rfl (hb hby d7_36) rfl rfl ?_
      show Steps p.tables e below (T246.setTop (mkF m 37 #[.val (.ref tb), .val (.ref f), .val (.int ((16 : Int32) - (1 : Int32))), .val (.int (Int32.ofNat ix_246)), .unset, .unset] [(.ref tb)])) _
      refine st248 _ ?_
      show Steps p.tables e below (T248.setTop (mkF m 40 #[.val (.ref tb), .val (.ref f), .val (.int ((16 : Int32) - (1 : Int32))), .val (.int (Int32.ofNat ix_246)), .unset, .unset] [(.ref a)])) _
      refine XS.iloadN X248.here hx rfl (hb hby d7_40) rfl ?_
      show Steps p.tables e below (T248.setTop (mkF m 41 #[.val (.ref tb), .val (.ref f), .val (.int ((16 : Int32) - (1 : Int32))), .val (.int (Int32.ofNat ix_246)), .unset, .unset] [(.int (Int32.ofNat ix_246)), (.ref a)])) _
      refine XS.aconstNull X248.here hx rfl (hb hby d7_41) ?_
      show Steps p.tables e below (T248.setTop (mkF m 42 #[.val (.ref tb), .val (.ref f), .val (.int ((16 : Int32) - (1 : Int32))), .val (.int (Int32.ofNat ix_246)), .unset, .unset] [.null, (.int (Int32.ofNat ix_246)), (.ref a)])) _
      refine st250 _ ?_
      show Steps p.tables e below (T250.setTop (mkF m 43 #[.val (.ref tb), .val (.ref f), .val (.int ((16 : Int32) - (1 : Int32))), .val (.int (Int32.ofNat ix_246)), .unset, .unset] [])) _
      refine XS.aloadN X250.here hx rfl (hb hby d7_43) rfl rfl ?_
      show Steps p.tables e below (T250.setTop (mkF m 44 #[.val (.ref tb), .val (.ref f), .val (.int ((16 : Int32) - (1 : Int32))), .val (.int (Int32.ofNat ix_246)), .unset, .unset] [(.ref tb)])) _
      refine XS.dup X250.here hx rfl (hb hby d7_44) rfl rfl ?_
      show Steps p.tables e below (T250.setTop (mkF m 45 #[.val (.ref tb), .val (.ref f), .val (.int ((16 : Int32) - (1 : Int32))), .val (.int (Int32.ofNat ix_246)), .unset, .unset] [(.ref tb), (.ref tb)])) _
      refine st264 _ ?_
      show Steps p.tables e below (T264.setTop (mkF m 48 #[.val (.ref tb), .val (.ref f), .val (.int ((16 : Int32) - (1 : Int32))), .val (.int (Int32.ofNat ix_246)), .unset, .unset] [(.int c0), (.ref tb)])) _
      refine XS.iconst X264.here hx rfl (hb hby d7_48) ?_
      show Steps p.tables e below (T264.setTop (mkF m 49 #[.val (.ref tb), .val (.ref f), .val (.int ((16 : Int32) - (1 : Int32))), .val (.int (Int32.ofNat ix_246)), .unset, .unset] [(.int (1 : Int32)), (.int c0), (.ref tb)])) _
      refine XS.isub X264.here hx rfl (hb hby d7_49) rfl ?_
      show Steps p.tables e below (T264.setTop (mkF m 50 #[.val (.ref tb), .val (.ref f), .val (.int ((16 : Int32) - (1 : Int32))), .val (.int (Int32.ofNat ix_246)), .unset, .unset] [(.int (c0 - (1 : Int32))), (.ref tb)])) _
      refine st265 _ ?_
      show Steps p.tables e below (T265.setTop (mkF m 53 #[.val (.ref tb), .val (.ref f), .val (.int ((16 : Int32) - (1 : Int32))), .val (.int (Int32.ofNat ix_246)), .unset, .unset] [])) _
      refine XS.iloadN X265.here hx rfl (hb hby d7_53) rfl ?_
      show Steps p.tables e below (T265.setTop (mkF m 54 #[.val (.ref tb), .val (.ref f), .val (.int ((16 : Int32) - (1 : Int32))), .val (.int (Int32.ofNat ix_246)), .unset, .unset] [(.int (Int32.ofNat ix_246))])) _
      refine XS.iconst X265.here hx rfl (hb hby d7_54) ?_
      show Steps p.tables e below (T265.setTop (mkF m 55 #[.val (.ref tb), .val (.ref f), .val (.int ((16 : Int32) - (1 : Int32))), .val (.int (Int32.ofNat ix_246)), .unset, .unset] [(.int (1 : Int32)), (.int (Int32.ofNat ix_246))])) _
      refine XS.iadd X265.here hx rfl (hb hby d7_55) rfl ?_
      show Steps p.tables e below (T265.setTop (mkF m 56 #[.val (.ref tb), .val (.ref f), .val (.int ((16 : Int32) - (1 : Int32))), .val (.int (Int32.ofNat ix_246)), .unset, .unset] [(.int ((Int32.ofNat ix_246) + (1 : Int32)))])) _
      refine XS.iloadN X265.here hx rfl (hb hby d7_56) rfl ?_
      show Steps p.tables e below (T265.setTop (mkF m 57 #[.val (.ref tb), .val (.ref f), .val (.int ((16 : Int32) - (1 : Int32))), .val (.int (Int32.ofNat ix_246)), .unset, .unset] [(.int ((16 : Int32) - (1 : Int32))), (.int ((Int32.ofNat ix_246) + (1 : Int32)))])) _
      refine XS.iand X265.here hx rfl (hb hby d7_57) rfl ?_
      show Steps p.tables e below (T265.setTop (mkF m 58 #[.val (.ref tb), .val (.ref f), .val (.int ((16 : Int32) - (1 : Int32))), .val (.int (Int32.ofNat ix_246)), .unset, .unset] [(.int (((Int32.ofNat ix_246) + (1 : Int32)) &&& ((16 : Int32) - (1 : Int32))))])) _
      refine XS.istore X265.here hx rfl (hb hby d7_58) rfl (l' := #[.val (.ref tb), .val (.ref f), .val (.int ((16 : Int32) - (1 : Int32))), .val (.int (Int32.ofNat ix_246)), .val (.int (((Int32.ofNat ix_246) + (1 : Int32)) &&& ((16 : Int32) - (1 : Int32)))), .unset]) rfl ?_
      exact kk)
  have eq278 : (((Int32.ofNat ix_246) + (1 : Int32)) &&& ((16 : Int32) - (1 : Int32))) = (Int32.ofNat ((ix_246 + 1) % 16)) := own_nx16 ix_246 pu246_0
  have pre279 : ∀ t, Steps p.tables e below (T265.setTop (mkF m 60 #[.val (.ref tb), .val (.ref f), .val (.int ((16 : Int32) - (1 : Int32))), .val (.int (Int32.ofNat ix_246)), .val (.int (Int32.ofNat ((ix_246 + 1) % 16))), .unset] [])) t → Steps p.tables e below (s₁.setTop (entryFrame m #[(.ref tb), (.ref f)] 6)) t := fun t kk => pre277 t (own_cast (fun zz : Int32 => T265.setTop (mkF m 60 #[.val (.ref tb), .val (.ref f), .val (.int ((16 : Int32) - (1 : Int32))), .val (.int (Int32.ofNat ix_246)), .val (.int zz), .unset] [])) eq278 kk)
  have hp280 : own_J (own_hmf pgs) us ix_246 ((ix_246 + 1) % 16) z0 := J0
  have hp281 : Ovr Z k "com/example/redoubt/redoubt/storage/PageCache$Frame" := ho
  have hp282 : Slot.unset = .unset ∨ ∃ w, Slot.unset = .val w ∧ w.category = 1 := Or.inl rfl
  obtain ⟨T283, lc283, h283, hl2_283, sl2_283, s6_283, vs2_283, X283, N283, e283, K283, P283_0, P283_1, pu283_0, pu283_1, pu283_2, pre283⟩ := loopShift hx hZ hw hby hml hown (by decide) (by decide) (n0 := n0) _ T265 _ h265 tb f ix_246 ((ix_246 + 1) % 16) Slot.unset a k us z0 pgs (c0 - (1 : Int32)) X265 e265 N275 (Nat.le_trans Z0 K274.1) Ex266 F267 F268 F276 Av273 Xf269 hp280 hp281 hp282 g_a rfl
  have Ex285 : Exa Z h283 tb "com/example/redoubt/redoubt/storage/FrameTable" := (Ex266.keep K283)
  have F286 : Fld Z h283 tb "com/example/redoubt/redoubt/storage/FrameTable" "slots" "[Lcom/example/redoubt/redoubt/storage/PageCache$Frame;" (.ref a) := (F267.keep K283 (ninS ne252 nin0))
  have F287 : Fld Z h283 tb "com/example/redoubt/redoubt/storage/FrameTable" "shift" "I" (.int (28 : Int32)) := (F268.keep K283 (ninS ne252 nin0))
  have Xf288 : own_GoodP Z h283 pgs us := (own_goodp_keep Xf269 K283 (fun f hf => (ninS (own_ne_arr hf (hw _ (List.mem_of_getElem? (i := 3) rfl)) Av273) nin0)))
  have Ex289 : Exa Z h283 f "com/example/redoubt/redoubt/storage/PageCache$Frame" := (Ex270.keep K283)
  have F290 : Fld Z h283 f "com/example/redoubt/redoubt/storage/PageCache$Frame" "page" "I" (.int (pgs f)) := (F272.keep K283 (ninS ne258 nin0))
  have F291 : Fld Z h283 tb "com/example/redoubt/redoubt/storage/FrameTable" "size" "I" (.int (c0 - (1 : Int32))) := (F276.keep K283 (ninS ne252 nin0))
  have K292 : Keep h0 h283 [tb, a] := K274.trans K283 (allS (Or.inl (List.mem_of_getElem? (i := 1) rfl)) all0)
  have pre284 : ∀ t, Steps p.tables e below (T283.setTop (mkF m 137 #[.val (.ref tb), .val (.ref f), .val (.int ((16 : Int32) - (1 : Int32))), .val (.int (Int32.ofNat hl2_283)), .val (.int (Int32.ofNat sl2_283)), s6_283] [])) t → Steps p.tables e below (s₁.setTop (entryFrame m #[(.ref tb), (.ref f)] 6)) t := fun t kk => pre279 t (pre283 t kk)
  obtain ⟨fs, hr, hrun, hended, hW, hsame⟩ := X283.leave (v := none) (fun _ => rfl)
  refine ⟨_, _, pre284 _ ?_, hrun, hended, _, _, rfl, ?_, ⟨_, rfl⟩, hW, hsame.mono (by decide) (by decide)⟩
  · show Steps p.tables e below (T283.setTop (mkF m 137 #[.val (.ref tb), .val (.ref f), .val (.int ((16 : Int32) - (1 : Int32))), .val (.int (Int32.ofNat hl2_283)), .val (.int (Int32.ofNat sl2_283)), s6_283] [])) _
    exact X283.returnOut hx Bd.returns (hb hby d7_137) hr
  · show QRemove Z tb f a k vs c0 pgs h0 n0 _ T283.heap _
    rw [e283]
    exact ⟨vs2_283, rfl, N283, K292, Ex285, F286, F287, F291, P283_0, P283_1, pu283_0, (fun g => (pu283_1 g).trans (by rw [hus]; exact own_R_del T pu246_0 pu246_1)), pu283_2⟩
theorem own_rep (n jj : Nat) : (List.replicate n Value.null).getD jj .null = .null := by
  cases h : (List.replicate n Value.null)[jj]? with
  | none => simp only [List.getD, h]; rfl
  | some v =>
    have e := List.eq_of_mem_replicate (List.mem_of_getElem? h)
    simp only [List.getD, h]; exact e
theorem own_nl : ∀ jj, ([.null, .null, .null, .null, .null, .null, .null, .null, .null, .null, .null, .null, .null, .null, .null, .null] : List Value).getD jj .null = .null := own_rep 16
theorem own_ng {Z : State} {h : Heap} {pgs : Addr → Int32} : own_GoodP Z h pgs [.null, .null, .null, .null, .null, .null, .null, .null, .null, .null, .null, .null, .null, .null, .null, .null] := fun v hv => Or.inl (List.eq_of_mem_replicate (n := 16) hv)
theorem own_T0 (hm : Addr → Nat) : own_TI hm [.null, .null, .null, .null, .null, .null, .null, .null, .null, .null, .null, .null, .null, .null, .null, .null] := ⟨rfl, fun p q f _ _ e _ => by rw [own_nl] at e; exact (nomatch e), fun p f q _ e _ _ => by rw [own_nl] at e; exact (nomatch e)⟩
theorem own_R0 (g : Addr) : own_R [.null, .null, .null, .null, .null, .null, .null, .null, .null, .null, .null, .null, .null, .null, .null, .null] g ↔ False := ⟨fun ⟨p, _, e⟩ => by rw [own_nl] at e; exact (nomatch e), False.elim⟩
theorem own_m5 (x k : Int32) (hx : 0 ≤ x.toInt) (hk : k.toInt = 5) : own_r5 (x % k) := by
  have e : (x % k).toInt = x.toInt % 5 := by rw [Jvm.Kit.i32_rem_nonneg hx, hk]
  have a0 : (0 : Int32).toInt = 0 := by decide
  have a5 : (5 : Int32).toInt = 5 := by decide
  refine ⟨?_, ?_⟩ <;> rw [Int32.lt_iff_toInt_lt, e] <;> omega
theorem own_iv (x : Int32) : own_r5 ((x &&& (65535 : Int32)) % (5 : Int32)) :=
  own_m5 _ _ (by rw [Jvm.Kit.i32_mask x 65535 (k := 16) (by decide) (by decide)]; omega) (by decide)
theorem own_jv (iv x : Int32) (h : own_r5 iv) : own_r5 (((iv + (1 : Int32)) + ((x &&& (16383 : Int32)) % (4 : Int32))) % (5 : Int32)) ∧ ((iv + (1 : Int32)) + ((x &&& (16383 : Int32)) % (4 : Int32))) % (5 : Int32) ≠ iv := by
  have m : (x &&& (16383 : Int32)).toInt = x.toInt % 2 ^ 14 := Jvm.Kit.i32_mask x 16383 (k := 14) (by decide) (by decide)
  have e4 : (4 : Int32).toInt = 4 := by decide
  have e5 : (5 : Int32).toInt = 5 := by decide
  have e1 : (1 : Int32).toInt = 1 := by decide
  have e0 : (0 : Int32).toInt = 0 := by decide
  have r : ((x &&& (16383 : Int32)) % (4 : Int32)).toInt = (x &&& (16383 : Int32)).toInt % 4 := by rw [Jvm.Kit.i32_rem_nonneg (by rw [m]; omega), e4]
  obtain ⟨h1, h2⟩ := h
  rw [Int32.lt_iff_toInt_lt] at h1 h2
  have s1 : (iv + (1 : Int32)).toInt = iv.toInt + 1 := by rw [Jvm.Kit.i32_add (by omega) (by omega), e1]
  have s2 : ((iv + (1 : Int32)) + ((x &&& (16383 : Int32)) % (4 : Int32))).toInt = iv.toInt + 1 + (x &&& (16383 : Int32)).toInt % 4 := by rw [Jvm.Kit.i32_add (by omega) (by omega), s1, r]
  refine ⟨own_m5 _ _ (by omega) e5, fun q => ?_⟩
  have q' := congrArg Int32.toInt q
  rw [Jvm.Kit.i32_rem_nonneg (by omega), s2, e5] at q'
  omega
theorem pd_3 : parseMethodDescriptor "()V" = some ⟨[], none⟩ := by decide +kernel
theorem pd_4 : parseMethodDescriptor "()I" = some ⟨[], some .int⟩ := by decide +kernel
theorem pd_5 : parseMethodDescriptor "(Lcom/example/redoubt/redoubt/storage/FrameTable;Lcom/example/redoubt/redoubt/storage/PageCache$Frame;IZ)Z" = some ⟨[(.object "com/example/redoubt/redoubt/storage/FrameTable"), (.object "com/example/redoubt/redoubt/storage/PageCache$Frame"), .int, .boolean], some .boolean⟩ := by decide +kernel
theorem ef_rm0 (m : MethodId) (x0 : Int64) (x1 : Int64) (x2 : Int32) (x3 : Int32) : entryFrame m #[(.long x0), (.long x1), (.int x2), (.int x3)] maxLocals = mkF m 0 #[.val (.long x0), .second, .val (.long x1), .second, .val (.int x2), .val (.int x3), .unset, .unset, .unset, .unset, .unset, .unset, .unset] [] := by first | (simp [entryFrame, mkF, argsToLocals, Value.category, maxLocals]; done) | rfl
def Q0 (Z : State) (p0 : Int64) (p1 : Int64) (p2 : Int32) (p3 : Int32) (h0 : Heap) (n0 : Nat) (v : Option Value) (h : Heap) (L : List Loc) : Prop := v = some (.int (1 : Int32)) ∧ Fr n0 L ∧ Keep h0 h []
set_option maxRecDepth 65536 in
set_option maxHeartbeats 40000000 in
theorem rm0 (l : Launch) (Z : State) (a0 : Array Value) (hw : ∀ d ∈ tables_1, d.before a0 Z = true) (ws : List Jvm.Cond) (p0 : Int64) (p1 : Int64) (p2 : Int32) (p3 : Int32) (h0 : Heap) (n0 : Nat) (Z0 : n0 ≤ h0.size)  :
    MetFree l x (head1 (Jvm.Cond.code x code maxLocals ret :: ws) room_1) (fun aA uU => aA = #[(.long p0), (.long p1), (.int p2), (.int p3)] ∧ Z.Warmed39 uU.vm ∧ uU.heap = h0) (fun _ _ _ _ _ => True) (fun _ uU oO uU' => ∃ vV lL, oO = .returned vV ∧ Q0 Z p0 p1 p2 p3 h0 n0 vV uU'.heap lL ∧ FrameEnd uU oO uU' lL room_1.cells room_1.slots) := by
  refine MetFree.of_bodySF (plainFor_of_name pn_2) hisR ?_
  intro p e s m args below meth c s₁ Bd hml0 hP hK
  obtain ⟨rfl, hZ, hh⟩ := hP
  have hx := Bd.exec
  have hby := Bd.bytes
  have hml : c.maxLocals = 13 := hml0
  have hown : s.vm.findClass "com/example/redoubt/redoubt/storage/FrameTableRemovePinLaw" = some m.cls := findClass_of_methodNamed Bd.named
  have hnm := (name_of_methodNamed Bd.named Bd.method).1
  have X0 : Stand p l e room_1 s m #[(.long p0), (.long p1), (.int p2), (.int p3)] below meth c s₁ [] 0 0 := Stand.of_body Bd
  have e0 : s₁.heap = h0 := by rw [← hh, Bd.state]; rfl
  have N0 := Fr.nil n0
  have pre0 : ∀ t, Steps p.tables e below (s₁.setTop (mkF m 0 #[.val (.long p0), .second, .val (.long p1), .second, .val (.int p2), .val (.int p3), .unset, .unset, .unset, .unset, .unset, .unset, .unset] [])) t → Steps p.tables e below (s₁.setTop (entryFrame m #[(.long p0), (.long p1), (.int p2), (.int p3)] maxLocals)) t := fun t kk => castTop (ef_rm0 m p0 p1 p2 p3) kk
  obtain ⟨T293, h293, k293, X293, e293, E293, A293, st293⟩ := newP X0 hx hZ (hw _ (List.mem_of_getElem? (i := 0) rfl)) e0 (g := (mkF m 1 #[.val (.long p0), .second, .val (.long p1), .second, .val (.int p2), .val (.int p3), .unset, .unset, .unset, .unset, .unset, .unset, .unset] [(.int (5 : Int32))])) rfl (hb hby at_1) rfl (by decide) (cap := 5) (by decide) (by decide) (by decide) (by decide)
  obtain ⟨b293, gq293⟩ : ∃ z, z = h0.size := ⟨_, rfl⟩
  rw [← gq293] at A293 st293
  have g_b293 : n0 ≤ b293 := Nat.le_trans Z0 (Nat.le_of_eq gq293.symm)
  have sz_b293 : h0.size ≤ b293 := Nat.le_trans (Nat.le_refl _) (Nat.le_of_eq gq293.symm)
  have K294 : Keep h0 h293 [] := (Keep.refl h0 _).ext E293
  have Av293 : Arv Z h293 b293 k293 .int (5 : Int32) ([(.int (0 : Int32)), (.int (0 : Int32)), (.int (0 : Int32)), (.int (0 : Int32)), (.int (0 : Int32))] : List Value) (.int (0 : Int32)) := (Arv.new A293 (by decide)).pad (pad_rep [] (.int (0 : Int32)) 5)
  have pre295 : ∀ t, Steps p.tables e below (T293.setTop (mkF m 10 #[.val (.long p0), .second, .val (.long p1), .second, .val (.int p2), .val (.int p3), .val (.ref b293), .unset, .unset, .unset, .unset, .unset, .unset] [(.int (p0.toInt32)), (.int (0 : Int32)), (.ref b293)])) t → Steps p.tables e below (s₁.setTop (entryFrame m #[(.long p0), (.long p1), (.int p2), (.int p3)] maxLocals)) t := fun t kk => pre0 t (by
      show Steps p.tables e below (s₁.setTop (mkF m 0 #[.val (.long p0), .second, .val (.long p1), .second, .val (.int p2), .val (.int p3), .unset, .unset, .unset, .unset, .unset, .unset, .unset] [])) _
      refine XS.iconst X0.here hx rfl (hb hby at_0) ?_
      show Steps p.tables e below (s₁.setTop (mkF m 1 #[.val (.long p0), .second, .val (.long p1), .second, .val (.int p2), .val (.int p3), .unset, .unset, .unset, .unset, .unset, .unset, .unset] [(.int (5 : Int32))])) _
      refine st293 _ ?_
      show Steps p.tables e below (T293.setTop (mkF m 3 #[.val (.long p0), .second, .val (.long p1), .second, .val (.int p2), .val (.int p3), .unset, .unset, .unset, .unset, .unset, .unset, .unset] [(.ref b293)])) _
      refine XS.astore X293.here hx rfl (hb hby at_3) rfl rfl (l' := #[.val (.long p0), .second, .val (.long p1), .second, .val (.int p2), .val (.int p3), .val (.ref b293), .unset, .unset, .unset, .unset, .unset, .unset]) rfl ?_
      show Steps p.tables e below (T293.setTop (mkF m 5 #[.val (.long p0), .second, .val (.long p1), .second, .val (.int p2), .val (.int p3), .val (.ref b293), .unset, .unset, .unset, .unset, .unset, .unset] [])) _
      refine XS.aload X293.here hx rfl (hb hby at_5) rfl rfl ?_
      show Steps p.tables e below (T293.setTop (mkF m 7 #[.val (.long p0), .second, .val (.long p1), .second, .val (.int p2), .val (.int p3), .val (.ref b293), .unset, .unset, .unset, .unset, .unset, .unset] [(.ref b293)])) _
      refine XS.iconst X293.here hx rfl (hb hby at_7) ?_
      show Steps p.tables e below (T293.setTop (mkF m 8 #[.val (.long p0), .second, .val (.long p1), .second, .val (.int p2), .val (.int p3), .val (.ref b293), .unset, .unset, .unset, .unset, .unset, .unset] [(.int (0 : Int32)), (.ref b293)])) _
      refine XS.lloadN X293.here hx rfl (hb hby at_8) rfl ?_
      show Steps p.tables e below (T293.setTop (mkF m 9 #[.val (.long p0), .second, .val (.long p1), .second, .val (.int p2), .val (.int p3), .val (.ref b293), .unset, .unset, .unset, .unset, .unset, .unset] [(.long p0), (.int (0 : Int32)), (.ref b293)])) _
      refine XS.l2i X293.here hx rfl (hb hby at_9) rfl ?_
      exact kk)
  obtain ⟨q0, hv_q0⟩ : ∃ z : Int32, z = (p0.toInt32) := ⟨_, rfl⟩
  have pre296 : ∀ t, Steps p.tables e below (T293.setTop (mkF m 10 #[.val (.long p0), .second, .val (.long p1), .second, .val (.int p2), .val (.int p3), .val (.ref b293), .unset, .unset, .unset, .unset, .unset, .unset] [(.int q0), (.int (0 : Int32)), (.ref b293)])) t → Steps p.tables e below (s₁.setTop (entryFrame m #[(.long p0), (.long p1), (.int p2), (.int p3)] maxLocals)) t := by subst hv_q0; exact pre295
  obtain ⟨cl297, Ar297, q297, Sz297, Nn297, H297, G297⟩ := id Av293
  have hin297 : ¬ ((0 : Int32) < 0 ∨ cl297.slots.size ≤ ((0 : Int32)).toNatClampNeg) := (inb_of Sz297 ⟨by decide, by decide⟩)
  obtain ⟨T298, h298, X298, e298, W298, st298⟩ := stI X293 hx hZ e293 Ar297 (j := (0 : Int32)) hin297 (g := (mkF m 10 #[.val (.long p0), .second, .val (.long p1), .second, .val (.int p2), .val (.int p3), .val (.ref b293), .unset, .unset, .unset, .unset, .unset, .unset] [(.int q0), (.int (0 : Int32)), (.ref b293)])) rfl rfl (hb hby at_10)
  have K299 : Keep h0 h298 [] := K294.wr W298 (Or.inr sz_b293)
  have N300 := Fr.snoc X298 N0 g_b293
  have Av298 : Arv Z h298 b293 k293 .int (5 : Int32) ([(.int q0), (.int (0 : Int32)), (.int (0 : Int32)), (.int (0 : Int32)), (.int (0 : Int32))] : List Value) (.int (0 : Int32)) := Arv.set Ar297 q297 Sz297 Nn297 H297 G297 rfl W298 0 rfl (Nat.le_of_ble_eq_true rfl)
  have pre301 : ∀ t, Steps p.tables e below (T298.setTop (mkF m 19 #[.val (.long p0), .second, .val (.long p1), .second, .val (.int p2), .val (.int p3), .val (.ref b293), .unset, .unset, .unset, .unset, .unset, .unset] [(.int (((p0.toUInt64 >>> ((32 : Int32) &&& 0x3f).toInt64.toUInt64).toInt64).toInt32)), (.int (1 : Int32)), (.ref b293)])) t → Steps p.tables e below (s₁.setTop (entryFrame m #[(.long p0), (.long p1), (.int p2), (.int p3)] maxLocals)) t := fun t kk => pre296 t (by
      show Steps p.tables e below (T293.setTop (mkF m 10 #[.val (.long p0), .second, .val (.long p1), .second, .val (.int p2), .val (.int p3), .val (.ref b293), .unset, .unset, .unset, .unset, .unset, .unset] [(.int q0), (.int (0 : Int32)), (.ref b293)])) _
      refine st298 _ ?_
      show Steps p.tables e below (T298.setTop (mkF m 11 #[.val (.long p0), .second, .val (.long p1), .second, .val (.int p2), .val (.int p3), .val (.ref b293), .unset, .unset, .unset, .unset, .unset, .unset] [])) _
      refine XS.aload X298.here hx rfl (hb hby at_11) rfl rfl ?_
      show Steps p.tables e below (T298.setTop (mkF m 13 #[.val (.long p0), .second, .val (.long p1), .second, .val (.int p2), .val (.int p3), .val (.ref b293), .unset, .unset, .unset, .unset, .unset, .unset] [(.ref b293)])) _
      refine XS.iconst X298.here hx rfl (hb hby at_13) ?_
      show Steps p.tables e below (T298.setTop (mkF m 14 #[.val (.long p0), .second, .val (.long p1), .second, .val (.int p2), .val (.int p3), .val (.ref b293), .unset, .unset, .unset, .unset, .unset, .unset] [(.int (1 : Int32)), (.ref b293)])) _
      refine XS.lloadN X298.here hx rfl (hb hby at_14) rfl ?_
      show Steps p.tables e below (T298.setTop (mkF m 15 #[.val (.long p0), .second, .val (.long p1), .second, .val (.int p2), .val (.int p3), .val (.ref b293), .unset, .unset, .unset, .unset, .unset, .unset] [(.long p0), (.int (1 : Int32)), (.ref b293)])) _
      refine XS.bipush X298.here hx rfl (hb hby at_15) ?_
      show Steps p.tables e below (T298.setTop (mkF m 17 #[.val (.long p0), .second, .val (.long p1), .second, .val (.int p2), .val (.int p3), .val (.ref b293), .unset, .unset, .unset, .unset, .unset, .unset] [(.int (32 : Int32)), (.long p0), (.int (1 : Int32)), (.ref b293)])) _
      refine XS.lushr X298.here hx rfl (hb hby at_17) rfl ?_
      show Steps p.tables e below (T298.setTop (mkF m 18 #[.val (.long p0), .second, .val (.long p1), .second, .val (.int p2), .val (.int p3), .val (.ref b293), .unset, .unset, .unset, .unset, .unset, .unset] [(.long ((p0.toUInt64 >>> ((32 : Int32) &&& 0x3f).toInt64.toUInt64).toInt64)), (.int (1 : Int32)), (.ref b293)])) _
      refine XS.l2i X298.here hx rfl (hb hby at_18) rfl ?_
      exact kk)
  obtain ⟨q1, hv_q1⟩ : ∃ z : Int32, z = (((p0.toUInt64 >>> ((32 : Int32) &&& 0x3f).toInt64.toUInt64).toInt64).toInt32) := ⟨_, rfl⟩
  have pre302 : ∀ t, Steps p.tables e below (T298.setTop (mkF m 19 #[.val (.long p0), .second, .val (.long p1), .second, .val (.int p2), .val (.int p3), .val (.ref b293), .unset, .unset, .unset, .unset, .unset, .unset] [(.int q1), (.int (1 : Int32)), (.ref b293)])) t → Steps p.tables e below (s₁.setTop (entryFrame m #[(.long p0), (.long p1), (.int p2), (.int p3)] maxLocals)) t := by subst hv_q1; exact pre301
  obtain ⟨cl303, Ar303, q303, Sz303, Nn303, H303, G303⟩ := id Av298
  have hin303 : ¬ ((1 : Int32) < 0 ∨ cl303.slots.size ≤ ((1 : Int32)).toNatClampNeg) := (inb_of Sz303 ⟨by decide, by decide⟩)
  obtain ⟨T304, h304, X304, e304, W304, st304⟩ := stI X298 hx hZ e298 Ar303 (j := (1 : Int32)) hin303 (g := (mkF m 19 #[.val (.long p0), .second, .val (.long p1), .second, .val (.int p2), .val (.int p3), .val (.ref b293), .unset, .unset, .unset, .unset, .unset, .unset] [(.int q1), (.int (1 : Int32)), (.ref b293)])) rfl rfl (hb hby at_19)
  have K305 : Keep h0 h304 [] := K299.wr W304 (Or.inr sz_b293)
  have N306 := Fr.snoc X304 N300 g_b293
  have Av304 : Arv Z h304 b293 k293 .int (5 : Int32) ([(.int q0), (.int q1), (.int (0 : Int32)), (.int (0 : Int32)), (.int (0 : Int32))] : List Value) (.int (0 : Int32)) := Arv.set Ar303 q303 Sz303 Nn303 H303 G303 rfl W304 1 rfl (Nat.le_of_ble_eq_true rfl)
  have pre307 : ∀ t, Steps p.tables e below (T304.setTop (mkF m 25 #[.val (.long p0), .second, .val (.long p1), .second, .val (.int p2), .val (.int p3), .val (.ref b293), .unset, .unset, .unset, .unset, .unset, .unset] [(.int (p1.toInt32)), (.int (2 : Int32)), (.ref b293)])) t → Steps p.tables e below (s₁.setTop (entryFrame m #[(.long p0), (.long p1), (.int p2), (.int p3)] maxLocals)) t := fun t kk => pre302 t (by
      show Steps p.tables e below (T298.setTop (mkF m 19 #[.val (.long p0), .second, .val (.long p1), .second, .val (.int p2), .val (.int p3), .val (.ref b293), .unset, .unset, .unset, .unset, .unset, .unset] [(.int q1), (.int (1 : Int32)), (.ref b293)])) _
      refine st304 _ ?_
      show Steps p.tables e below (T304.setTop (mkF m 20 #[.val (.long p0), .second, .val (.long p1), .second, .val (.int p2), .val (.int p3), .val (.ref b293), .unset, .unset, .unset, .unset, .unset, .unset] [])) _
      refine XS.aload X304.here hx rfl (hb hby at_20) rfl rfl ?_
      show Steps p.tables e below (T304.setTop (mkF m 22 #[.val (.long p0), .second, .val (.long p1), .second, .val (.int p2), .val (.int p3), .val (.ref b293), .unset, .unset, .unset, .unset, .unset, .unset] [(.ref b293)])) _
      refine XS.iconst X304.here hx rfl (hb hby at_22) ?_
      show Steps p.tables e below (T304.setTop (mkF m 23 #[.val (.long p0), .second, .val (.long p1), .second, .val (.int p2), .val (.int p3), .val (.ref b293), .unset, .unset, .unset, .unset, .unset, .unset] [(.int (2 : Int32)), (.ref b293)])) _
      refine XS.lloadN X304.here hx rfl (hb hby at_23) rfl ?_
      show Steps p.tables e below (T304.setTop (mkF m 24 #[.val (.long p0), .second, .val (.long p1), .second, .val (.int p2), .val (.int p3), .val (.ref b293), .unset, .unset, .unset, .unset, .unset, .unset] [(.long p1), (.int (2 : Int32)), (.ref b293)])) _
      refine XS.l2i X304.here hx rfl (hb hby at_24) rfl ?_
      exact kk)
  obtain ⟨q2, hv_q2⟩ : ∃ z : Int32, z = (p1.toInt32) := ⟨_, rfl⟩
  have pre308 : ∀ t, Steps p.tables e below (T304.setTop (mkF m 25 #[.val (.long p0), .second, .val (.long p1), .second, .val (.int p2), .val (.int p3), .val (.ref b293), .unset, .unset, .unset, .unset, .unset, .unset] [(.int q2), (.int (2 : Int32)), (.ref b293)])) t → Steps p.tables e below (s₁.setTop (entryFrame m #[(.long p0), (.long p1), (.int p2), (.int p3)] maxLocals)) t := by subst hv_q2; exact pre307
  obtain ⟨cl309, Ar309, q309, Sz309, Nn309, H309, G309⟩ := id Av304
  have hin309 : ¬ ((2 : Int32) < 0 ∨ cl309.slots.size ≤ ((2 : Int32)).toNatClampNeg) := (inb_of Sz309 ⟨by decide, by decide⟩)
  obtain ⟨T310, h310, X310, e310, W310, st310⟩ := stI X304 hx hZ e304 Ar309 (j := (2 : Int32)) hin309 (g := (mkF m 25 #[.val (.long p0), .second, .val (.long p1), .second, .val (.int p2), .val (.int p3), .val (.ref b293), .unset, .unset, .unset, .unset, .unset, .unset] [(.int q2), (.int (2 : Int32)), (.ref b293)])) rfl rfl (hb hby at_25)
  have K311 : Keep h0 h310 [] := K305.wr W310 (Or.inr sz_b293)
  have N312 := Fr.snoc X310 N306 g_b293
  have Av310 : Arv Z h310 b293 k293 .int (5 : Int32) ([(.int q0), (.int q1), (.int q2), (.int (0 : Int32)), (.int (0 : Int32))] : List Value) (.int (0 : Int32)) := Arv.set Ar309 q309 Sz309 Nn309 H309 G309 rfl W310 2 rfl (Nat.le_of_ble_eq_true rfl)
  have pre313 : ∀ t, Steps p.tables e below (T310.setTop (mkF m 34 #[.val (.long p0), .second, .val (.long p1), .second, .val (.int p2), .val (.int p3), .val (.ref b293), .unset, .unset, .unset, .unset, .unset, .unset] [(.int (((p1.toUInt64 >>> ((32 : Int32) &&& 0x3f).toInt64.toUInt64).toInt64).toInt32)), (.int (3 : Int32)), (.ref b293)])) t → Steps p.tables e below (s₁.setTop (entryFrame m #[(.long p0), (.long p1), (.int p2), (.int p3)] maxLocals)) t := fun t kk => pre308 t (by
      show Steps p.tables e below (T304.setTop (mkF m 25 #[.val (.long p0), .second, .val (.long p1), .second, .val (.int p2), .val (.int p3), .val (.ref b293), .unset, .unset, .unset, .unset, .unset, .unset] [(.int q2), (.int (2 : Int32)), (.ref b293)])) _
      refine st310 _ ?_
      show Steps p.tables e below (T310.setTop (mkF m 26 #[.val (.long p0), .second, .val (.long p1), .second, .val (.int p2), .val (.int p3), .val (.ref b293), .unset, .unset, .unset, .unset, .unset, .unset] [])) _
      refine XS.aload X310.here hx rfl (hb hby at_26) rfl rfl ?_
      show Steps p.tables e below (T310.setTop (mkF m 28 #[.val (.long p0), .second, .val (.long p1), .second, .val (.int p2), .val (.int p3), .val (.ref b293), .unset, .unset, .unset, .unset, .unset, .unset] [(.ref b293)])) _
      refine XS.iconst X310.here hx rfl (hb hby at_28) ?_
      show Steps p.tables e below (T310.setTop (mkF m 29 #[.val (.long p0), .second, .val (.long p1), .second, .val (.int p2), .val (.int p3), .val (.ref b293), .unset, .unset, .unset, .unset, .unset, .unset] [(.int (3 : Int32)), (.ref b293)])) _
      refine XS.lloadN X310.here hx rfl (hb hby at_29) rfl ?_
      show Steps p.tables e below (T310.setTop (mkF m 30 #[.val (.long p0), .second, .val (.long p1), .second, .val (.int p2), .val (.int p3), .val (.ref b293), .unset, .unset, .unset, .unset, .unset, .unset] [(.long p1), (.int (3 : Int32)), (.ref b293)])) _
      refine XS.bipush X310.here hx rfl (hb hby at_30) ?_
      show Steps p.tables e below (T310.setTop (mkF m 32 #[.val (.long p0), .second, .val (.long p1), .second, .val (.int p2), .val (.int p3), .val (.ref b293), .unset, .unset, .unset, .unset, .unset, .unset] [(.int (32 : Int32)), (.long p1), (.int (3 : Int32)), (.ref b293)])) _
      refine XS.lushr X310.here hx rfl (hb hby at_32) rfl ?_
      show Steps p.tables e below (T310.setTop (mkF m 33 #[.val (.long p0), .second, .val (.long p1), .second, .val (.int p2), .val (.int p3), .val (.ref b293), .unset, .unset, .unset, .unset, .unset, .unset] [(.long ((p1.toUInt64 >>> ((32 : Int32) &&& 0x3f).toInt64.toUInt64).toInt64)), (.int (3 : Int32)), (.ref b293)])) _
      refine XS.l2i X310.here hx rfl (hb hby at_33) rfl ?_
      exact kk)
  obtain ⟨q3, hv_q3⟩ : ∃ z : Int32, z = (((p1.toUInt64 >>> ((32 : Int32) &&& 0x3f).toInt64.toUInt64).toInt64).toInt32) := ⟨_, rfl⟩
  have pre314 : ∀ t, Steps p.tables e below (T310.setTop (mkF m 34 #[.val (.long p0), .second, .val (.long p1), .second, .val (.int p2), .val (.int p3), .val (.ref b293), .unset, .unset, .unset, .unset, .unset, .unset] [(.int q3), (.int (3 : Int32)), (.ref b293)])) t → Steps p.tables e below (s₁.setTop (entryFrame m #[(.long p0), (.long p1), (.int p2), (.int p3)] maxLocals)) t := by subst hv_q3; exact pre313
  obtain ⟨cl315, Ar315, q315, Sz315, Nn315, H315, G315⟩ := id Av310
  have hin315 : ¬ ((3 : Int32) < 0 ∨ cl315.slots.size ≤ ((3 : Int32)).toNatClampNeg) := (inb_of Sz315 ⟨by decide, by decide⟩)
  obtain ⟨T316, h316, X316, e316, W316, st316⟩ := stI X310 hx hZ e310 Ar315 (j := (3 : Int32)) hin315 (g := (mkF m 34 #[.val (.long p0), .second, .val (.long p1), .second, .val (.int p2), .val (.int p3), .val (.ref b293), .unset, .unset, .unset, .unset, .unset, .unset] [(.int q3), (.int (3 : Int32)), (.ref b293)])) rfl rfl (hb hby at_34)
  have K317 : Keep h0 h316 [] := K311.wr W316 (Or.inr sz_b293)
  have N318 := Fr.snoc X316 N312 g_b293
  have Av316 : Arv Z h316 b293 k293 .int (5 : Int32) ([(.int q0), (.int q1), (.int q2), (.int q3), (.int (0 : Int32))] : List Value) (.int (0 : Int32)) := Arv.set Ar315 q315 Sz315 Nn315 H315 G315 rfl W316 3 rfl (Nat.le_of_ble_eq_true rfl)
  have pre319 : ∀ t, Steps p.tables e below (T316.setTop (mkF m 40 #[.val (.long p0), .second, .val (.long p1), .second, .val (.int p2), .val (.int p3), .val (.ref b293), .unset, .unset, .unset, .unset, .unset, .unset] [(.int p2), (.int (4 : Int32)), (.ref b293)])) t → Steps p.tables e below (s₁.setTop (entryFrame m #[(.long p0), (.long p1), (.int p2), (.int p3)] maxLocals)) t := fun t kk => pre314 t (by
      show Steps p.tables e below (T310.setTop (mkF m 34 #[.val (.long p0), .second, .val (.long p1), .second, .val (.int p2), .val (.int p3), .val (.ref b293), .unset, .unset, .unset, .unset, .unset, .unset] [(.int q3), (.int (3 : Int32)), (.ref b293)])) _
      refine st316 _ ?_
      show Steps p.tables e below (T316.setTop (mkF m 35 #[.val (.long p0), .second, .val (.long p1), .second, .val (.int p2), .val (.int p3), .val (.ref b293), .unset, .unset, .unset, .unset, .unset, .unset] [])) _
      refine XS.aload X316.here hx rfl (hb hby at_35) rfl rfl ?_
      show Steps p.tables e below (T316.setTop (mkF m 37 #[.val (.long p0), .second, .val (.long p1), .second, .val (.int p2), .val (.int p3), .val (.ref b293), .unset, .unset, .unset, .unset, .unset, .unset] [(.ref b293)])) _
      refine XS.iconst X316.here hx rfl (hb hby at_37) ?_
      show Steps p.tables e below (T316.setTop (mkF m 38 #[.val (.long p0), .second, .val (.long p1), .second, .val (.int p2), .val (.int p3), .val (.ref b293), .unset, .unset, .unset, .unset, .unset, .unset] [(.int (4 : Int32)), (.ref b293)])) _
      refine XS.iload X316.here hx rfl (hb hby at_38) rfl ?_
      exact kk)
  obtain ⟨q4, hv_q4⟩ : ∃ z : Int32, z = p2 := ⟨_, rfl⟩
  have pre320 : ∀ t, Steps p.tables e below (T316.setTop (mkF m 40 #[.val (.long p0), .second, .val (.long p1), .second, .val (.int q4), .val (.int p3), .val (.ref b293), .unset, .unset, .unset, .unset, .unset, .unset] [(.int q4), (.int (4 : Int32)), (.ref b293)])) t → Steps p.tables e below (s₁.setTop (entryFrame m #[(.long p0), (.long p1), (.int p2), (.int p3)] maxLocals)) t := by subst hv_q4; exact pre319
  obtain ⟨cl321, Ar321, q321, Sz321, Nn321, H321, G321⟩ := id Av316
  have hin321 : ¬ ((4 : Int32) < 0 ∨ cl321.slots.size ≤ ((4 : Int32)).toNatClampNeg) := (inb_of Sz321 ⟨by decide, by decide⟩)
  obtain ⟨T322, h322, X322, e322, W322, st322⟩ := stI X316 hx hZ e316 Ar321 (j := (4 : Int32)) hin321 (g := (mkF m 40 #[.val (.long p0), .second, .val (.long p1), .second, .val (.int q4), .val (.int p3), .val (.ref b293), .unset, .unset, .unset, .unset, .unset, .unset] [(.int q4), (.int (4 : Int32)), (.ref b293)])) rfl rfl (hb hby at_40)
  have K323 : Keep h0 h322 [] := K317.wr W322 (Or.inr sz_b293)
  have N324 := Fr.snoc X322 N318 g_b293
  have Av322 : Arv Z h322 b293 k293 .int (5 : Int32) ([(.int q0), (.int q1), (.int q2), (.int q3), (.int q4)] : List Value) (.int (0 : Int32)) := Arv.set Ar321 q321 Sz321 Nn321 H321 G321 rfl W322 4 rfl (Nat.le_of_ble_eq_true rfl)
  obtain ⟨cl325, Ar325, q325, Sz325, Nn325, H325, G325⟩ := id Av322
  have hin325 : ¬ ((0 : Int32) < 0 ∨ cl325.slots.size ≤ ((0 : Int32)).toNatClampNeg) := (inb_of Sz325 ⟨by decide, by decide⟩)
  have hat325 : cl325.slots[((0 : Int32)).toNatClampNeg]? = some (.int q0) := H325.at hin325 rfl
  obtain ⟨cl326, Ar326, q326, Sz326, Nn326, H326, G326⟩ := id Av322
  have hin326 : ¬ ((1 : Int32) < 0 ∨ cl326.slots.size ≤ ((1 : Int32)).toNatClampNeg) := (inb_of Sz326 ⟨by decide, by decide⟩)
  have hat326 : cl326.slots[((1 : Int32)).toNatClampNeg]? = some (.int q1) := H326.at hin326 rfl
  have pre327 : ∀ t, Steps p.tables e below (T322.setTop (mkF m 49 #[.val (.long p0), .second, .val (.long p1), .second, .val (.int q4), .val (.int p3), .val (.ref b293), .unset, .unset, .unset, .unset, .unset, .unset] [(.int q1), (.int q0)])) t → Steps p.tables e below (s₁.setTop (entryFrame m #[(.long p0), (.long p1), (.int p2), (.int p3)] maxLocals)) t := fun t kk => pre320 t (by
      show Steps p.tables e below (T316.setTop (mkF m 40 #[.val (.long p0), .second, .val (.long p1), .second, .val (.int q4), .val (.int p3), .val (.ref b293), .unset, .unset, .unset, .unset, .unset, .unset] [(.int q4), (.int (4 : Int32)), (.ref b293)])) _
      refine st322 _ ?_
      show Steps p.tables e below (T322.setTop (mkF m 41 #[.val (.long p0), .second, .val (.long p1), .second, .val (.int q4), .val (.int p3), .val (.ref b293), .unset, .unset, .unset, .unset, .unset, .unset] [])) _
      refine XS.aload X322.here hx rfl (hb hby at_41) rfl rfl ?_
      show Steps p.tables e below (T322.setTop (mkF m 43 #[.val (.long p0), .second, .val (.long p1), .second, .val (.int q4), .val (.int p3), .val (.ref b293), .unset, .unset, .unset, .unset, .unset, .unset] [(.ref b293)])) _
      refine XS.iconst X322.here hx rfl (hb hby at_43) ?_
      show Steps p.tables e below (T322.setTop (mkF m 44 #[.val (.long p0), .second, .val (.long p1), .second, .val (.int q4), .val (.int p3), .val (.ref b293), .unset, .unset, .unset, .unset, .unset, .unset] [(.int (0 : Int32)), (.ref b293)])) _
      refine X322.iaload hx (j := (0 : Int32)) (v := (.int q0)) (by rw [e322]; exact Ar325.1) (State.isArrayOf_alike hZ.alike Ar325.2.1) Ar325.2.2 hin325 hat325 (g := (mkF m 44 #[.val (.long p0), .second, .val (.long p1), .second, .val (.int q4), .val (.int p3), .val (.ref b293), .unset, .unset, .unset, .unset, .unset, .unset] [(.int (0 : Int32)), (.ref b293)])) rfl rfl (hb hby at_44) _ ?_
      show Steps p.tables e below (T322.setTop (mkF m 45 #[.val (.long p0), .second, .val (.long p1), .second, .val (.int q4), .val (.int p3), .val (.ref b293), .unset, .unset, .unset, .unset, .unset, .unset] [(.int q0)])) _
      refine XS.aload X322.here hx rfl (hb hby at_45) rfl rfl ?_
      show Steps p.tables e below (T322.setTop (mkF m 47 #[.val (.long p0), .second, .val (.long p1), .second, .val (.int q4), .val (.int p3), .val (.ref b293), .unset, .unset, .unset, .unset, .unset, .unset] [(.ref b293), (.int q0)])) _
      refine XS.iconst X322.here hx rfl (hb hby at_47) ?_
      show Steps p.tables e below (T322.setTop (mkF m 48 #[.val (.long p0), .second, .val (.long p1), .second, .val (.int q4), .val (.int p3), .val (.ref b293), .unset, .unset, .unset, .unset, .unset, .unset] [(.int (1 : Int32)), (.ref b293), (.int q0)])) _
      refine X322.iaload hx (j := (1 : Int32)) (v := (.int q1)) (by rw [e322]; exact Ar326.1) (State.isArrayOf_alike hZ.alike Ar326.2.1) Ar326.2.2 hin326 hat326 (g := (mkF m 48 #[.val (.long p0), .second, .val (.long p1), .second, .val (.int q4), .val (.int p3), .val (.ref b293), .unset, .unset, .unset, .unset, .unset, .unset] [(.int (1 : Int32)), (.ref b293), (.int q0)])) rfl rfl (hb hby at_48) _ ?_
      exact kk)
  by_cases hd0 : q0 = q1
  · have pre328 : ∀ t, Steps p.tables e below (T322.setTop (mkF m 152 #[.val (.long p0), .second, .val (.long p1), .second, .val (.int q4), .val (.int p3), .val (.ref b293), .unset, .unset, .unset, .unset, .unset, .unset] [(.int (1 : Int32))])) t → Steps p.tables e below (s₁.setTop (entryFrame m #[(.long p0), (.long p1), (.int p2), (.int p3)] maxLocals)) t := fun t kk => pre327 t (by
        show Steps p.tables e below (T322.setTop (mkF m 49 #[.val (.long p0), .second, .val (.long p1), .second, .val (.int q4), .val (.int p3), .val (.ref b293), .unset, .unset, .unset, .unset, .unset, .unset] [(.int q1), (.int q0)])) _
        refine XS.icmpYes X322.here hx rfl (pc0 := 49) (pc' := 151) rfl (hb hby at_49) rfl (teq hd0).1 (by decide) (by decide) ?_
        show Steps p.tables e below (T322.setTop (mkF m 151 #[.val (.long p0), .second, .val (.long p1), .second, .val (.int q4), .val (.int p3), .val (.ref b293), .unset, .unset, .unset, .unset, .unset, .unset] [])) _
        refine XS.iconst X322.here hx rfl (hb hby at_151) ?_
        exact kk)
    obtain ⟨fs, hr, hrun, hended, hW, hsame⟩ := X322.leave (v := some (.int (1 : Int32))) (fun h => by rw [Bd.returns] at h; cases h)
    refine ⟨_, _, pre328 _ ?_, hrun, hended, _, _, rfl, ?_, ⟨_, rfl⟩, hW, hsame.mono (by decide) (by decide)⟩
    · show Steps p.tables e below (T322.setTop (mkF m 152 #[.val (.long p0), .second, .val (.long p1), .second, .val (.int q4), .val (.int p3), .val (.ref b293), .unset, .unset, .unset, .unset, .unset, .unset] [(.int (1 : Int32))])) _
      exact retN X322 hx (t := .boolean) Bd.returns (by simp) (hb hby at_152) hr
    · show Q0 Z p0 p1 p2 p3 h0 n0 _ T322.heap _
      rw [e322]
      exact ⟨rfl, N324, K323⟩
  · obtain ⟨cl329, Ar329, q329, Sz329, Nn329, H329, G329⟩ := id Av322
    have hin329 : ¬ ((0 : Int32) < 0 ∨ cl329.slots.size ≤ ((0 : Int32)).toNatClampNeg) := (inb_of Sz329 ⟨by decide, by decide⟩)
    have hat329 : cl329.slots[((0 : Int32)).toNatClampNeg]? = some (.int q0) := H329.at hin329 rfl
    obtain ⟨cl330, Ar330, q330, Sz330, Nn330, H330, G330⟩ := id Av322
    have hin330 : ¬ ((2 : Int32) < 0 ∨ cl330.slots.size ≤ ((2 : Int32)).toNatClampNeg) := (inb_of Sz330 ⟨by decide, by decide⟩)
    have hat330 : cl330.slots[((2 : Int32)).toNatClampNeg]? = some (.int q2) := H330.at hin330 rfl
    have pre331 : ∀ t, Steps p.tables e below (T322.setTop (mkF m 60 #[.val (.long p0), .second, .val (.long p1), .second, .val (.int q4), .val (.int p3), .val (.ref b293), .unset, .unset, .unset, .unset, .unset, .unset] [(.int q2), (.int q0)])) t → Steps p.tables e below (s₁.setTop (entryFrame m #[(.long p0), (.long p1), (.int p2), (.int p3)] maxLocals)) t := fun t kk => pre327 t (by
        show Steps p.tables e below (T322.setTop (mkF m 49 #[.val (.long p0), .second, .val (.long p1), .second, .val (.int q4), .val (.int p3), .val (.ref b293), .unset, .unset, .unset, .unset, .unset, .unset] [(.int q1), (.int q0)])) _
        refine XS.icmpNo X322.here hx rfl (hb hby at_49) rfl (feq hd0).1 ?_
        show Steps p.tables e below (T322.setTop (mkF m 52 #[.val (.long p0), .second, .val (.long p1), .second, .val (.int q4), .val (.int p3), .val (.ref b293), .unset, .unset, .unset, .unset, .unset, .unset] [])) _
        refine XS.aload X322.here hx rfl (hb hby at_52) rfl rfl ?_
        show Steps p.tables e below (T322.setTop (mkF m 54 #[.val (.long p0), .second, .val (.long p1), .second, .val (.int q4), .val (.int p3), .val (.ref b293), .unset, .unset, .unset, .unset, .unset, .unset] [(.ref b293)])) _
        refine XS.iconst X322.here hx rfl (hb hby at_54) ?_
        show Steps p.tables e below (T322.setTop (mkF m 55 #[.val (.long p0), .second, .val (.long p1), .second, .val (.int q4), .val (.int p3), .val (.ref b293), .unset, .unset, .unset, .unset, .unset, .unset] [(.int (0 : Int32)), (.ref b293)])) _
        refine X322.iaload hx (j := (0 : Int32)) (v := (.int q0)) (by rw [e322]; exact Ar329.1) (State.isArrayOf_alike hZ.alike Ar329.2.1) Ar329.2.2 hin329 hat329 (g := (mkF m 55 #[.val (.long p0), .second, .val (.long p1), .second, .val (.int q4), .val (.int p3), .val (.ref b293), .unset, .unset, .unset, .unset, .unset, .unset] [(.int (0 : Int32)), (.ref b293)])) rfl rfl (hb hby at_55) _ ?_
        show Steps p.tables e below (T322.setTop (mkF m 56 #[.val (.long p0), .second, .val (.long p1), .second, .val (.int q4), .val (.int p3), .val (.ref b293), .unset, .unset, .unset, .unset, .unset, .unset] [(.int q0)])) _
        refine XS.aload X322.here hx rfl (hb hby at_56) rfl rfl ?_
        show Steps p.tables e below (T322.setTop (mkF m 58 #[.val (.long p0), .second, .val (.long p1), .second, .val (.int q4), .val (.int p3), .val (.ref b293), .unset, .unset, .unset, .unset, .unset, .unset] [(.ref b293), (.int q0)])) _
        refine XS.iconst X322.here hx rfl (hb hby at_58) ?_
        show Steps p.tables e below (T322.setTop (mkF m 59 #[.val (.long p0), .second, .val (.long p1), .second, .val (.int q4), .val (.int p3), .val (.ref b293), .unset, .unset, .unset, .unset, .unset, .unset] [(.int (2 : Int32)), (.ref b293), (.int q0)])) _
        refine X322.iaload hx (j := (2 : Int32)) (v := (.int q2)) (by rw [e322]; exact Ar330.1) (State.isArrayOf_alike hZ.alike Ar330.2.1) Ar330.2.2 hin330 hat330 (g := (mkF m 59 #[.val (.long p0), .second, .val (.long p1), .second, .val (.int q4), .val (.int p3), .val (.ref b293), .unset, .unset, .unset, .unset, .unset, .unset] [(.int (2 : Int32)), (.ref b293), (.int q0)])) rfl rfl (hb hby at_59) _ ?_
        exact kk)
    by_cases hd1 : q0 = q2
    · have pre332 : ∀ t, Steps p.tables e below (T322.setTop (mkF m 152 #[.val (.long p0), .second, .val (.long p1), .second, .val (.int q4), .val (.int p3), .val (.ref b293), .unset, .unset, .unset, .unset, .unset, .unset] [(.int (1 : Int32))])) t → Steps p.tables e below (s₁.setTop (entryFrame m #[(.long p0), (.long p1), (.int p2), (.int p3)] maxLocals)) t := fun t kk => pre331 t (by
          show Steps p.tables e below (T322.setTop (mkF m 60 #[.val (.long p0), .second, .val (.long p1), .second, .val (.int q4), .val (.int p3), .val (.ref b293), .unset, .unset, .unset, .unset, .unset, .unset] [(.int q2), (.int q0)])) _
          refine XS.icmpYes X322.here hx rfl (pc0 := 60) (pc' := 151) rfl (hb hby at_60) rfl (teq hd1).1 (by decide) (by decide) ?_
          show Steps p.tables e below (T322.setTop (mkF m 151 #[.val (.long p0), .second, .val (.long p1), .second, .val (.int q4), .val (.int p3), .val (.ref b293), .unset, .unset, .unset, .unset, .unset, .unset] [])) _
          refine XS.iconst X322.here hx rfl (hb hby at_151) ?_
          exact kk)
      obtain ⟨fs, hr, hrun, hended, hW, hsame⟩ := X322.leave (v := some (.int (1 : Int32))) (fun h => by rw [Bd.returns] at h; cases h)
      refine ⟨_, _, pre332 _ ?_, hrun, hended, _, _, rfl, ?_, ⟨_, rfl⟩, hW, hsame.mono (by decide) (by decide)⟩
      · show Steps p.tables e below (T322.setTop (mkF m 152 #[.val (.long p0), .second, .val (.long p1), .second, .val (.int q4), .val (.int p3), .val (.ref b293), .unset, .unset, .unset, .unset, .unset, .unset] [(.int (1 : Int32))])) _
        exact retN X322 hx (t := .boolean) Bd.returns (by simp) (hb hby at_152) hr
      · show Q0 Z p0 p1 p2 p3 h0 n0 _ T322.heap _
        rw [e322]
        exact ⟨rfl, N324, K323⟩
    · obtain ⟨cl333, Ar333, q333, Sz333, Nn333, H333, G333⟩ := id Av322
      have hin333 : ¬ ((0 : Int32) < 0 ∨ cl333.slots.size ≤ ((0 : Int32)).toNatClampNeg) := (inb_of Sz333 ⟨by decide, by decide⟩)
      have hat333 : cl333.slots[((0 : Int32)).toNatClampNeg]? = some (.int q0) := H333.at hin333 rfl
      obtain ⟨cl334, Ar334, q334, Sz334, Nn334, H334, G334⟩ := id Av322
      have hin334 : ¬ ((3 : Int32) < 0 ∨ cl334.slots.size ≤ ((3 : Int32)).toNatClampNeg) := (inb_of Sz334 ⟨by decide, by decide⟩)
      have hat334 : cl334.slots[((3 : Int32)).toNatClampNeg]? = some (.int q3) := H334.at hin334 rfl
      have pre335 : ∀ t, Steps p.tables e below (T322.setTop (mkF m 71 #[.val (.long p0), .second, .val (.long p1), .second, .val (.int q4), .val (.int p3), .val (.ref b293), .unset, .unset, .unset, .unset, .unset, .unset] [(.int q3), (.int q0)])) t → Steps p.tables e below (s₁.setTop (entryFrame m #[(.long p0), (.long p1), (.int p2), (.int p3)] maxLocals)) t := fun t kk => pre331 t (by
          show Steps p.tables e below (T322.setTop (mkF m 60 #[.val (.long p0), .second, .val (.long p1), .second, .val (.int q4), .val (.int p3), .val (.ref b293), .unset, .unset, .unset, .unset, .unset, .unset] [(.int q2), (.int q0)])) _
          refine XS.icmpNo X322.here hx rfl (hb hby at_60) rfl (feq hd1).1 ?_
          show Steps p.tables e below (T322.setTop (mkF m 63 #[.val (.long p0), .second, .val (.long p1), .second, .val (.int q4), .val (.int p3), .val (.ref b293), .unset, .unset, .unset, .unset, .unset, .unset] [])) _
          refine XS.aload X322.here hx rfl (hb hby at_63) rfl rfl ?_
          show Steps p.tables e below (T322.setTop (mkF m 65 #[.val (.long p0), .second, .val (.long p1), .second, .val (.int q4), .val (.int p3), .val (.ref b293), .unset, .unset, .unset, .unset, .unset, .unset] [(.ref b293)])) _
          refine XS.iconst X322.here hx rfl (hb hby at_65) ?_
          show Steps p.tables e below (T322.setTop (mkF m 66 #[.val (.long p0), .second, .val (.long p1), .second, .val (.int q4), .val (.int p3), .val (.ref b293), .unset, .unset, .unset, .unset, .unset, .unset] [(.int (0 : Int32)), (.ref b293)])) _
          refine X322.iaload hx (j := (0 : Int32)) (v := (.int q0)) (by rw [e322]; exact Ar333.1) (State.isArrayOf_alike hZ.alike Ar333.2.1) Ar333.2.2 hin333 hat333 (g := (mkF m 66 #[.val (.long p0), .second, .val (.long p1), .second, .val (.int q4), .val (.int p3), .val (.ref b293), .unset, .unset, .unset, .unset, .unset, .unset] [(.int (0 : Int32)), (.ref b293)])) rfl rfl (hb hby at_66) _ ?_
          show Steps p.tables e below (T322.setTop (mkF m 67 #[.val (.long p0), .second, .val (.long p1), .second, .val (.int q4), .val (.int p3), .val (.ref b293), .unset, .unset, .unset, .unset, .unset, .unset] [(.int q0)])) _
          refine XS.aload X322.here hx rfl (hb hby at_67) rfl rfl ?_
          show Steps p.tables e below (T322.setTop (mkF m 69 #[.val (.long p0), .second, .val (.long p1), .second, .val (.int q4), .val (.int p3), .val (.ref b293), .unset, .unset, .unset, .unset, .unset, .unset] [(.ref b293), (.int q0)])) _
          refine XS.iconst X322.here hx rfl (hb hby at_69) ?_
          show Steps p.tables e below (T322.setTop (mkF m 70 #[.val (.long p0), .second, .val (.long p1), .second, .val (.int q4), .val (.int p3), .val (.ref b293), .unset, .unset, .unset, .unset, .unset, .unset] [(.int (3 : Int32)), (.ref b293), (.int q0)])) _
          refine X322.iaload hx (j := (3 : Int32)) (v := (.int q3)) (by rw [e322]; exact Ar334.1) (State.isArrayOf_alike hZ.alike Ar334.2.1) Ar334.2.2 hin334 hat334 (g := (mkF m 70 #[.val (.long p0), .second, .val (.long p1), .second, .val (.int q4), .val (.int p3), .val (.ref b293), .unset, .unset, .unset, .unset, .unset, .unset] [(.int (3 : Int32)), (.ref b293), (.int q0)])) rfl rfl (hb hby at_70) _ ?_
          exact kk)
      by_cases hd2 : q0 = q3
      · have pre336 : ∀ t, Steps p.tables e below (T322.setTop (mkF m 152 #[.val (.long p0), .second, .val (.long p1), .second, .val (.int q4), .val (.int p3), .val (.ref b293), .unset, .unset, .unset, .unset, .unset, .unset] [(.int (1 : Int32))])) t → Steps p.tables e below (s₁.setTop (entryFrame m #[(.long p0), (.long p1), (.int p2), (.int p3)] maxLocals)) t := fun t kk => pre335 t (by
            show Steps p.tables e below (T322.setTop (mkF m 71 #[.val (.long p0), .second, .val (.long p1), .second, .val (.int q4), .val (.int p3), .val (.ref b293), .unset, .unset, .unset, .unset, .unset, .unset] [(.int q3), (.int q0)])) _
            refine XS.icmpYes X322.here hx rfl (pc0 := 71) (pc' := 151) rfl (hb hby at_71) rfl (teq hd2).1 (by decide) (by decide) ?_
            show Steps p.tables e below (T322.setTop (mkF m 151 #[.val (.long p0), .second, .val (.long p1), .second, .val (.int q4), .val (.int p3), .val (.ref b293), .unset, .unset, .unset, .unset, .unset, .unset] [])) _
            refine XS.iconst X322.here hx rfl (hb hby at_151) ?_
            exact kk)
        obtain ⟨fs, hr, hrun, hended, hW, hsame⟩ := X322.leave (v := some (.int (1 : Int32))) (fun h => by rw [Bd.returns] at h; cases h)
        refine ⟨_, _, pre336 _ ?_, hrun, hended, _, _, rfl, ?_, ⟨_, rfl⟩, hW, hsame.mono (by decide) (by decide)⟩
        · show Steps p.tables e below (T322.setTop (mkF m 152 #[.val (.long p0), .second, .val (.long p1), .second, .val (.int q4), .val (.int p3), .val (.ref b293), .unset, .unset, .unset, .unset, .unset, .unset] [(.int (1 : Int32))])) _
          exact retN X322 hx (t := .boolean) Bd.returns (by simp) (hb hby at_152) hr
        · show Q0 Z p0 p1 p2 p3 h0 n0 _ T322.heap _
          rw [e322]
          exact ⟨rfl, N324, K323⟩
      · obtain ⟨cl337, Ar337, q337, Sz337, Nn337, H337, G337⟩ := id Av322
        have hin337 : ¬ ((0 : Int32) < 0 ∨ cl337.slots.size ≤ ((0 : Int32)).toNatClampNeg) := (inb_of Sz337 ⟨by decide, by decide⟩)
        have hat337 : cl337.slots[((0 : Int32)).toNatClampNeg]? = some (.int q0) := H337.at hin337 rfl
        obtain ⟨cl338, Ar338, q338, Sz338, Nn338, H338, G338⟩ := id Av322
        have hin338 : ¬ ((4 : Int32) < 0 ∨ cl338.slots.size ≤ ((4 : Int32)).toNatClampNeg) := (inb_of Sz338 ⟨by decide, by decide⟩)
        have hat338 : cl338.slots[((4 : Int32)).toNatClampNeg]? = some (.int q4) := H338.at hin338 rfl
        have pre339 : ∀ t, Steps p.tables e below (T322.setTop (mkF m 82 #[.val (.long p0), .second, .val (.long p1), .second, .val (.int q4), .val (.int p3), .val (.ref b293), .unset, .unset, .unset, .unset, .unset, .unset] [(.int q4), (.int q0)])) t → Steps p.tables e below (s₁.setTop (entryFrame m #[(.long p0), (.long p1), (.int p2), (.int p3)] maxLocals)) t := fun t kk => pre335 t (by
            show Steps p.tables e below (T322.setTop (mkF m 71 #[.val (.long p0), .second, .val (.long p1), .second, .val (.int q4), .val (.int p3), .val (.ref b293), .unset, .unset, .unset, .unset, .unset, .unset] [(.int q3), (.int q0)])) _
            refine XS.icmpNo X322.here hx rfl (hb hby at_71) rfl (feq hd2).1 ?_
            show Steps p.tables e below (T322.setTop (mkF m 74 #[.val (.long p0), .second, .val (.long p1), .second, .val (.int q4), .val (.int p3), .val (.ref b293), .unset, .unset, .unset, .unset, .unset, .unset] [])) _
            refine XS.aload X322.here hx rfl (hb hby at_74) rfl rfl ?_
            show Steps p.tables e below (T322.setTop (mkF m 76 #[.val (.long p0), .second, .val (.long p1), .second, .val (.int q4), .val (.int p3), .val (.ref b293), .unset, .unset, .unset, .unset, .unset, .unset] [(.ref b293)])) _
            refine XS.iconst X322.here hx rfl (hb hby at_76) ?_
            show Steps p.tables e below (T322.setTop (mkF m 77 #[.val (.long p0), .second, .val (.long p1), .second, .val (.int q4), .val (.int p3), .val (.ref b293), .unset, .unset, .unset, .unset, .unset, .unset] [(.int (0 : Int32)), (.ref b293)])) _
            refine X322.iaload hx (j := (0 : Int32)) (v := (.int q0)) (by rw [e322]; exact Ar337.1) (State.isArrayOf_alike hZ.alike Ar337.2.1) Ar337.2.2 hin337 hat337 (g := (mkF m 77 #[.val (.long p0), .second, .val (.long p1), .second, .val (.int q4), .val (.int p3), .val (.ref b293), .unset, .unset, .unset, .unset, .unset, .unset] [(.int (0 : Int32)), (.ref b293)])) rfl rfl (hb hby at_77) _ ?_
            show Steps p.tables e below (T322.setTop (mkF m 78 #[.val (.long p0), .second, .val (.long p1), .second, .val (.int q4), .val (.int p3), .val (.ref b293), .unset, .unset, .unset, .unset, .unset, .unset] [(.int q0)])) _
            refine XS.aload X322.here hx rfl (hb hby at_78) rfl rfl ?_
            show Steps p.tables e below (T322.setTop (mkF m 80 #[.val (.long p0), .second, .val (.long p1), .second, .val (.int q4), .val (.int p3), .val (.ref b293), .unset, .unset, .unset, .unset, .unset, .unset] [(.ref b293), (.int q0)])) _
            refine XS.iconst X322.here hx rfl (hb hby at_80) ?_
            show Steps p.tables e below (T322.setTop (mkF m 81 #[.val (.long p0), .second, .val (.long p1), .second, .val (.int q4), .val (.int p3), .val (.ref b293), .unset, .unset, .unset, .unset, .unset, .unset] [(.int (4 : Int32)), (.ref b293), (.int q0)])) _
            refine X322.iaload hx (j := (4 : Int32)) (v := (.int q4)) (by rw [e322]; exact Ar338.1) (State.isArrayOf_alike hZ.alike Ar338.2.1) Ar338.2.2 hin338 hat338 (g := (mkF m 81 #[.val (.long p0), .second, .val (.long p1), .second, .val (.int q4), .val (.int p3), .val (.ref b293), .unset, .unset, .unset, .unset, .unset, .unset] [(.int (4 : Int32)), (.ref b293), (.int q0)])) rfl rfl (hb hby at_81) _ ?_
            exact kk)
        by_cases hd3 : q0 = q4
        · have pre340 : ∀ t, Steps p.tables e below (T322.setTop (mkF m 152 #[.val (.long p0), .second, .val (.long p1), .second, .val (.int q4), .val (.int p3), .val (.ref b293), .unset, .unset, .unset, .unset, .unset, .unset] [(.int (1 : Int32))])) t → Steps p.tables e below (s₁.setTop (entryFrame m #[(.long p0), (.long p1), (.int p2), (.int p3)] maxLocals)) t := fun t kk => pre339 t (by
              show Steps p.tables e below (T322.setTop (mkF m 82 #[.val (.long p0), .second, .val (.long p1), .second, .val (.int q4), .val (.int p3), .val (.ref b293), .unset, .unset, .unset, .unset, .unset, .unset] [(.int q4), (.int q0)])) _
              refine XS.icmpYes X322.here hx rfl (pc0 := 82) (pc' := 151) rfl (hb hby at_82) rfl (teq hd3).1 (by decide) (by decide) ?_
              show Steps p.tables e below (T322.setTop (mkF m 151 #[.val (.long p0), .second, .val (.long p1), .second, .val (.int q4), .val (.int p3), .val (.ref b293), .unset, .unset, .unset, .unset, .unset, .unset] [])) _
              refine XS.iconst X322.here hx rfl (hb hby at_151) ?_
              exact kk)
          obtain ⟨fs, hr, hrun, hended, hW, hsame⟩ := X322.leave (v := some (.int (1 : Int32))) (fun h => by rw [Bd.returns] at h; cases h)
          refine ⟨_, _, pre340 _ ?_, hrun, hended, _, _, rfl, ?_, ⟨_, rfl⟩, hW, hsame.mono (by decide) (by decide)⟩
          · show Steps p.tables e below (T322.setTop (mkF m 152 #[.val (.long p0), .second, .val (.long p1), .second, .val (.int q4), .val (.int p3), .val (.ref b293), .unset, .unset, .unset, .unset, .unset, .unset] [(.int (1 : Int32))])) _
            exact retN X322 hx (t := .boolean) Bd.returns (by simp) (hb hby at_152) hr
          · show Q0 Z p0 p1 p2 p3 h0 n0 _ T322.heap _
            rw [e322]
            exact ⟨rfl, N324, K323⟩
        · obtain ⟨cl341, Ar341, q341, Sz341, Nn341, H341, G341⟩ := id Av322
          have hin341 : ¬ ((1 : Int32) < 0 ∨ cl341.slots.size ≤ ((1 : Int32)).toNatClampNeg) := (inb_of Sz341 ⟨by decide, by decide⟩)
          have hat341 : cl341.slots[((1 : Int32)).toNatClampNeg]? = some (.int q1) := H341.at hin341 rfl
          obtain ⟨cl342, Ar342, q342, Sz342, Nn342, H342, G342⟩ := id Av322
          have hin342 : ¬ ((2 : Int32) < 0 ∨ cl342.slots.size ≤ ((2 : Int32)).toNatClampNeg) := (inb_of Sz342 ⟨by decide, by decide⟩)
          have hat342 : cl342.slots[((2 : Int32)).toNatClampNeg]? = some (.int q2) := H342.at hin342 rfl
          have pre343 : ∀ t, Steps p.tables e below (T322.setTop (mkF m 93 #[.val (.long p0), .second, .val (.long p1), .second, .val (.int q4), .val (.int p3), .val (.ref b293), .unset, .unset, .unset, .unset, .unset, .unset] [(.int q2), (.int q1)])) t → Steps p.tables e below (s₁.setTop (entryFrame m #[(.long p0), (.long p1), (.int p2), (.int p3)] maxLocals)) t := fun t kk => pre339 t (by
              show Steps p.tables e below (T322.setTop (mkF m 82 #[.val (.long p0), .second, .val (.long p1), .second, .val (.int q4), .val (.int p3), .val (.ref b293), .unset, .unset, .unset, .unset, .unset, .unset] [(.int q4), (.int q0)])) _
              refine XS.icmpNo X322.here hx rfl (hb hby at_82) rfl (feq hd3).1 ?_
              show Steps p.tables e below (T322.setTop (mkF m 85 #[.val (.long p0), .second, .val (.long p1), .second, .val (.int q4), .val (.int p3), .val (.ref b293), .unset, .unset, .unset, .unset, .unset, .unset] [])) _
              refine XS.aload X322.here hx rfl (hb hby at_85) rfl rfl ?_
              show Steps p.tables e below (T322.setTop (mkF m 87 #[.val (.long p0), .second, .val (.long p1), .second, .val (.int q4), .val (.int p3), .val (.ref b293), .unset, .unset, .unset, .unset, .unset, .unset] [(.ref b293)])) _
              refine XS.iconst X322.here hx rfl (hb hby at_87) ?_
              show Steps p.tables e below (T322.setTop (mkF m 88 #[.val (.long p0), .second, .val (.long p1), .second, .val (.int q4), .val (.int p3), .val (.ref b293), .unset, .unset, .unset, .unset, .unset, .unset] [(.int (1 : Int32)), (.ref b293)])) _
              refine X322.iaload hx (j := (1 : Int32)) (v := (.int q1)) (by rw [e322]; exact Ar341.1) (State.isArrayOf_alike hZ.alike Ar341.2.1) Ar341.2.2 hin341 hat341 (g := (mkF m 88 #[.val (.long p0), .second, .val (.long p1), .second, .val (.int q4), .val (.int p3), .val (.ref b293), .unset, .unset, .unset, .unset, .unset, .unset] [(.int (1 : Int32)), (.ref b293)])) rfl rfl (hb hby at_88) _ ?_
              show Steps p.tables e below (T322.setTop (mkF m 89 #[.val (.long p0), .second, .val (.long p1), .second, .val (.int q4), .val (.int p3), .val (.ref b293), .unset, .unset, .unset, .unset, .unset, .unset] [(.int q1)])) _
              refine XS.aload X322.here hx rfl (hb hby at_89) rfl rfl ?_
              show Steps p.tables e below (T322.setTop (mkF m 91 #[.val (.long p0), .second, .val (.long p1), .second, .val (.int q4), .val (.int p3), .val (.ref b293), .unset, .unset, .unset, .unset, .unset, .unset] [(.ref b293), (.int q1)])) _
              refine XS.iconst X322.here hx rfl (hb hby at_91) ?_
              show Steps p.tables e below (T322.setTop (mkF m 92 #[.val (.long p0), .second, .val (.long p1), .second, .val (.int q4), .val (.int p3), .val (.ref b293), .unset, .unset, .unset, .unset, .unset, .unset] [(.int (2 : Int32)), (.ref b293), (.int q1)])) _
              refine X322.iaload hx (j := (2 : Int32)) (v := (.int q2)) (by rw [e322]; exact Ar342.1) (State.isArrayOf_alike hZ.alike Ar342.2.1) Ar342.2.2 hin342 hat342 (g := (mkF m 92 #[.val (.long p0), .second, .val (.long p1), .second, .val (.int q4), .val (.int p3), .val (.ref b293), .unset, .unset, .unset, .unset, .unset, .unset] [(.int (2 : Int32)), (.ref b293), (.int q1)])) rfl rfl (hb hby at_92) _ ?_
              exact kk)
          by_cases hd4 : q1 = q2
          · have pre344 : ∀ t, Steps p.tables e below (T322.setTop (mkF m 152 #[.val (.long p0), .second, .val (.long p1), .second, .val (.int q4), .val (.int p3), .val (.ref b293), .unset, .unset, .unset, .unset, .unset, .unset] [(.int (1 : Int32))])) t → Steps p.tables e below (s₁.setTop (entryFrame m #[(.long p0), (.long p1), (.int p2), (.int p3)] maxLocals)) t := fun t kk => pre343 t (by
                show Steps p.tables e below (T322.setTop (mkF m 93 #[.val (.long p0), .second, .val (.long p1), .second, .val (.int q4), .val (.int p3), .val (.ref b293), .unset, .unset, .unset, .unset, .unset, .unset] [(.int q2), (.int q1)])) _
                refine XS.icmpYes X322.here hx rfl (pc0 := 93) (pc' := 151) rfl (hb hby at_93) rfl (teq hd4).1 (by decide) (by decide) ?_
                show Steps p.tables e below (T322.setTop (mkF m 151 #[.val (.long p0), .second, .val (.long p1), .second, .val (.int q4), .val (.int p3), .val (.ref b293), .unset, .unset, .unset, .unset, .unset, .unset] [])) _
                refine XS.iconst X322.here hx rfl (hb hby at_151) ?_
                exact kk)
            obtain ⟨fs, hr, hrun, hended, hW, hsame⟩ := X322.leave (v := some (.int (1 : Int32))) (fun h => by rw [Bd.returns] at h; cases h)
            refine ⟨_, _, pre344 _ ?_, hrun, hended, _, _, rfl, ?_, ⟨_, rfl⟩, hW, hsame.mono (by decide) (by decide)⟩
            · show Steps p.tables e below (T322.setTop (mkF m 152 #[.val (.long p0), .second, .val (.long p1), .second, .val (.int q4), .val (.int p3), .val (.ref b293), .unset, .unset, .unset, .unset, .unset, .unset] [(.int (1 : Int32))])) _
              exact retN X322 hx (t := .boolean) Bd.returns (by simp) (hb hby at_152) hr
            · show Q0 Z p0 p1 p2 p3 h0 n0 _ T322.heap _
              rw [e322]
              exact ⟨rfl, N324, K323⟩
          · obtain ⟨cl345, Ar345, q345, Sz345, Nn345, H345, G345⟩ := id Av322
            have hin345 : ¬ ((1 : Int32) < 0 ∨ cl345.slots.size ≤ ((1 : Int32)).toNatClampNeg) := (inb_of Sz345 ⟨by decide, by decide⟩)
            have hat345 : cl345.slots[((1 : Int32)).toNatClampNeg]? = some (.int q1) := H345.at hin345 rfl
            obtain ⟨cl346, Ar346, q346, Sz346, Nn346, H346, G346⟩ := id Av322
            have hin346 : ¬ ((3 : Int32) < 0 ∨ cl346.slots.size ≤ ((3 : Int32)).toNatClampNeg) := (inb_of Sz346 ⟨by decide, by decide⟩)
            have hat346 : cl346.slots[((3 : Int32)).toNatClampNeg]? = some (.int q3) := H346.at hin346 rfl
            have pre347 : ∀ t, Steps p.tables e below (T322.setTop (mkF m 104 #[.val (.long p0), .second, .val (.long p1), .second, .val (.int q4), .val (.int p3), .val (.ref b293), .unset, .unset, .unset, .unset, .unset, .unset] [(.int q3), (.int q1)])) t → Steps p.tables e below (s₁.setTop (entryFrame m #[(.long p0), (.long p1), (.int p2), (.int p3)] maxLocals)) t := fun t kk => pre343 t (by
                show Steps p.tables e below (T322.setTop (mkF m 93 #[.val (.long p0), .second, .val (.long p1), .second, .val (.int q4), .val (.int p3), .val (.ref b293), .unset, .unset, .unset, .unset, .unset, .unset] [(.int q2), (.int q1)])) _
                refine XS.icmpNo X322.here hx rfl (hb hby at_93) rfl (feq hd4).1 ?_
                show Steps p.tables e below (T322.setTop (mkF m 96 #[.val (.long p0), .second, .val (.long p1), .second, .val (.int q4), .val (.int p3), .val (.ref b293), .unset, .unset, .unset, .unset, .unset, .unset] [])) _
                refine XS.aload X322.here hx rfl (hb hby at_96) rfl rfl ?_
                show Steps p.tables e below (T322.setTop (mkF m 98 #[.val (.long p0), .second, .val (.long p1), .second, .val (.int q4), .val (.int p3), .val (.ref b293), .unset, .unset, .unset, .unset, .unset, .unset] [(.ref b293)])) _
                refine XS.iconst X322.here hx rfl (hb hby at_98) ?_
                show Steps p.tables e below (T322.setTop (mkF m 99 #[.val (.long p0), .second, .val (.long p1), .second, .val (.int q4), .val (.int p3), .val (.ref b293), .unset, .unset, .unset, .unset, .unset, .unset] [(.int (1 : Int32)), (.ref b293)])) _
                refine X322.iaload hx (j := (1 : Int32)) (v := (.int q1)) (by rw [e322]; exact Ar345.1) (State.isArrayOf_alike hZ.alike Ar345.2.1) Ar345.2.2 hin345 hat345 (g := (mkF m 99 #[.val (.long p0), .second, .val (.long p1), .second, .val (.int q4), .val (.int p3), .val (.ref b293), .unset, .unset, .unset, .unset, .unset, .unset] [(.int (1 : Int32)), (.ref b293)])) rfl rfl (hb hby at_99) _ ?_
                show Steps p.tables e below (T322.setTop (mkF m 100 #[.val (.long p0), .second, .val (.long p1), .second, .val (.int q4), .val (.int p3), .val (.ref b293), .unset, .unset, .unset, .unset, .unset, .unset] [(.int q1)])) _
                refine XS.aload X322.here hx rfl (hb hby at_100) rfl rfl ?_
                show Steps p.tables e below (T322.setTop (mkF m 102 #[.val (.long p0), .second, .val (.long p1), .second, .val (.int q4), .val (.int p3), .val (.ref b293), .unset, .unset, .unset, .unset, .unset, .unset] [(.ref b293), (.int q1)])) _
                refine XS.iconst X322.here hx rfl (hb hby at_102) ?_
                show Steps p.tables e below (T322.setTop (mkF m 103 #[.val (.long p0), .second, .val (.long p1), .second, .val (.int q4), .val (.int p3), .val (.ref b293), .unset, .unset, .unset, .unset, .unset, .unset] [(.int (3 : Int32)), (.ref b293), (.int q1)])) _
                refine X322.iaload hx (j := (3 : Int32)) (v := (.int q3)) (by rw [e322]; exact Ar346.1) (State.isArrayOf_alike hZ.alike Ar346.2.1) Ar346.2.2 hin346 hat346 (g := (mkF m 103 #[.val (.long p0), .second, .val (.long p1), .second, .val (.int q4), .val (.int p3), .val (.ref b293), .unset, .unset, .unset, .unset, .unset, .unset] [(.int (3 : Int32)), (.ref b293), (.int q1)])) rfl rfl (hb hby at_103) _ ?_
                exact kk)
            by_cases hd5 : q1 = q3
            · have pre348 : ∀ t, Steps p.tables e below (T322.setTop (mkF m 152 #[.val (.long p0), .second, .val (.long p1), .second, .val (.int q4), .val (.int p3), .val (.ref b293), .unset, .unset, .unset, .unset, .unset, .unset] [(.int (1 : Int32))])) t → Steps p.tables e below (s₁.setTop (entryFrame m #[(.long p0), (.long p1), (.int p2), (.int p3)] maxLocals)) t := fun t kk => pre347 t (by
                  show Steps p.tables e below (T322.setTop (mkF m 104 #[.val (.long p0), .second, .val (.long p1), .second, .val (.int q4), .val (.int p3), .val (.ref b293), .unset, .unset, .unset, .unset, .unset, .unset] [(.int q3), (.int q1)])) _
                  refine XS.icmpYes X322.here hx rfl (pc0 := 104) (pc' := 151) rfl (hb hby at_104) rfl (teq hd5).1 (by decide) (by decide) ?_
                  show Steps p.tables e below (T322.setTop (mkF m 151 #[.val (.long p0), .second, .val (.long p1), .second, .val (.int q4), .val (.int p3), .val (.ref b293), .unset, .unset, .unset, .unset, .unset, .unset] [])) _
                  refine XS.iconst X322.here hx rfl (hb hby at_151) ?_
                  exact kk)
              obtain ⟨fs, hr, hrun, hended, hW, hsame⟩ := X322.leave (v := some (.int (1 : Int32))) (fun h => by rw [Bd.returns] at h; cases h)
              refine ⟨_, _, pre348 _ ?_, hrun, hended, _, _, rfl, ?_, ⟨_, rfl⟩, hW, hsame.mono (by decide) (by decide)⟩
              · show Steps p.tables e below (T322.setTop (mkF m 152 #[.val (.long p0), .second, .val (.long p1), .second, .val (.int q4), .val (.int p3), .val (.ref b293), .unset, .unset, .unset, .unset, .unset, .unset] [(.int (1 : Int32))])) _
                exact retN X322 hx (t := .boolean) Bd.returns (by simp) (hb hby at_152) hr
              · show Q0 Z p0 p1 p2 p3 h0 n0 _ T322.heap _
                rw [e322]
                exact ⟨rfl, N324, K323⟩
            · obtain ⟨cl349, Ar349, q349, Sz349, Nn349, H349, G349⟩ := id Av322
              have hin349 : ¬ ((1 : Int32) < 0 ∨ cl349.slots.size ≤ ((1 : Int32)).toNatClampNeg) := (inb_of Sz349 ⟨by decide, by decide⟩)
              have hat349 : cl349.slots[((1 : Int32)).toNatClampNeg]? = some (.int q1) := H349.at hin349 rfl
              obtain ⟨cl350, Ar350, q350, Sz350, Nn350, H350, G350⟩ := id Av322
              have hin350 : ¬ ((4 : Int32) < 0 ∨ cl350.slots.size ≤ ((4 : Int32)).toNatClampNeg) := (inb_of Sz350 ⟨by decide, by decide⟩)
              have hat350 : cl350.slots[((4 : Int32)).toNatClampNeg]? = some (.int q4) := H350.at hin350 rfl
              have pre351 : ∀ t, Steps p.tables e below (T322.setTop (mkF m 115 #[.val (.long p0), .second, .val (.long p1), .second, .val (.int q4), .val (.int p3), .val (.ref b293), .unset, .unset, .unset, .unset, .unset, .unset] [(.int q4), (.int q1)])) t → Steps p.tables e below (s₁.setTop (entryFrame m #[(.long p0), (.long p1), (.int p2), (.int p3)] maxLocals)) t := fun t kk => pre347 t (by
                  show Steps p.tables e below (T322.setTop (mkF m 104 #[.val (.long p0), .second, .val (.long p1), .second, .val (.int q4), .val (.int p3), .val (.ref b293), .unset, .unset, .unset, .unset, .unset, .unset] [(.int q3), (.int q1)])) _
                  refine XS.icmpNo X322.here hx rfl (hb hby at_104) rfl (feq hd5).1 ?_
                  show Steps p.tables e below (T322.setTop (mkF m 107 #[.val (.long p0), .second, .val (.long p1), .second, .val (.int q4), .val (.int p3), .val (.ref b293), .unset, .unset, .unset, .unset, .unset, .unset] [])) _
                  refine XS.aload X322.here hx rfl (hb hby at_107) rfl rfl ?_
                  show Steps p.tables e below (T322.setTop (mkF m 109 #[.val (.long p0), .second, .val (.long p1), .second, .val (.int q4), .val (.int p3), .val (.ref b293), .unset, .unset, .unset, .unset, .unset, .unset] [(.ref b293)])) _
                  refine XS.iconst X322.here hx rfl (hb hby at_109) ?_
                  show Steps p.tables e below (T322.setTop (mkF m 110 #[.val (.long p0), .second, .val (.long p1), .second, .val (.int q4), .val (.int p3), .val (.ref b293), .unset, .unset, .unset, .unset, .unset, .unset] [(.int (1 : Int32)), (.ref b293)])) _
                  refine X322.iaload hx (j := (1 : Int32)) (v := (.int q1)) (by rw [e322]; exact Ar349.1) (State.isArrayOf_alike hZ.alike Ar349.2.1) Ar349.2.2 hin349 hat349 (g := (mkF m 110 #[.val (.long p0), .second, .val (.long p1), .second, .val (.int q4), .val (.int p3), .val (.ref b293), .unset, .unset, .unset, .unset, .unset, .unset] [(.int (1 : Int32)), (.ref b293)])) rfl rfl (hb hby at_110) _ ?_
                  show Steps p.tables e below (T322.setTop (mkF m 111 #[.val (.long p0), .second, .val (.long p1), .second, .val (.int q4), .val (.int p3), .val (.ref b293), .unset, .unset, .unset, .unset, .unset, .unset] [(.int q1)])) _
                  refine XS.aload X322.here hx rfl (hb hby at_111) rfl rfl ?_
                  show Steps p.tables e below (T322.setTop (mkF m 113 #[.val (.long p0), .second, .val (.long p1), .second, .val (.int q4), .val (.int p3), .val (.ref b293), .unset, .unset, .unset, .unset, .unset, .unset] [(.ref b293), (.int q1)])) _
                  refine XS.iconst X322.here hx rfl (hb hby at_113) ?_
                  show Steps p.tables e below (T322.setTop (mkF m 114 #[.val (.long p0), .second, .val (.long p1), .second, .val (.int q4), .val (.int p3), .val (.ref b293), .unset, .unset, .unset, .unset, .unset, .unset] [(.int (4 : Int32)), (.ref b293), (.int q1)])) _
                  refine X322.iaload hx (j := (4 : Int32)) (v := (.int q4)) (by rw [e322]; exact Ar350.1) (State.isArrayOf_alike hZ.alike Ar350.2.1) Ar350.2.2 hin350 hat350 (g := (mkF m 114 #[.val (.long p0), .second, .val (.long p1), .second, .val (.int q4), .val (.int p3), .val (.ref b293), .unset, .unset, .unset, .unset, .unset, .unset] [(.int (4 : Int32)), (.ref b293), (.int q1)])) rfl rfl (hb hby at_114) _ ?_
                  exact kk)
              by_cases hd6 : q1 = q4
              · have pre352 : ∀ t, Steps p.tables e below (T322.setTop (mkF m 152 #[.val (.long p0), .second, .val (.long p1), .second, .val (.int q4), .val (.int p3), .val (.ref b293), .unset, .unset, .unset, .unset, .unset, .unset] [(.int (1 : Int32))])) t → Steps p.tables e below (s₁.setTop (entryFrame m #[(.long p0), (.long p1), (.int p2), (.int p3)] maxLocals)) t := fun t kk => pre351 t (by
                    show Steps p.tables e below (T322.setTop (mkF m 115 #[.val (.long p0), .second, .val (.long p1), .second, .val (.int q4), .val (.int p3), .val (.ref b293), .unset, .unset, .unset, .unset, .unset, .unset] [(.int q4), (.int q1)])) _
                    refine XS.icmpYes X322.here hx rfl (pc0 := 115) (pc' := 151) rfl (hb hby at_115) rfl (teq hd6).1 (by decide) (by decide) ?_
                    show Steps p.tables e below (T322.setTop (mkF m 151 #[.val (.long p0), .second, .val (.long p1), .second, .val (.int q4), .val (.int p3), .val (.ref b293), .unset, .unset, .unset, .unset, .unset, .unset] [])) _
                    refine XS.iconst X322.here hx rfl (hb hby at_151) ?_
                    exact kk)
                obtain ⟨fs, hr, hrun, hended, hW, hsame⟩ := X322.leave (v := some (.int (1 : Int32))) (fun h => by rw [Bd.returns] at h; cases h)
                refine ⟨_, _, pre352 _ ?_, hrun, hended, _, _, rfl, ?_, ⟨_, rfl⟩, hW, hsame.mono (by decide) (by decide)⟩
                · show Steps p.tables e below (T322.setTop (mkF m 152 #[.val (.long p0), .second, .val (.long p1), .second, .val (.int q4), .val (.int p3), .val (.ref b293), .unset, .unset, .unset, .unset, .unset, .unset] [(.int (1 : Int32))])) _
                  exact retN X322 hx (t := .boolean) Bd.returns (by simp) (hb hby at_152) hr
                · show Q0 Z p0 p1 p2 p3 h0 n0 _ T322.heap _
                  rw [e322]
                  exact ⟨rfl, N324, K323⟩
              · obtain ⟨cl353, Ar353, q353, Sz353, Nn353, H353, G353⟩ := id Av322
                have hin353 : ¬ ((2 : Int32) < 0 ∨ cl353.slots.size ≤ ((2 : Int32)).toNatClampNeg) := (inb_of Sz353 ⟨by decide, by decide⟩)
                have hat353 : cl353.slots[((2 : Int32)).toNatClampNeg]? = some (.int q2) := H353.at hin353 rfl
                obtain ⟨cl354, Ar354, q354, Sz354, Nn354, H354, G354⟩ := id Av322
                have hin354 : ¬ ((3 : Int32) < 0 ∨ cl354.slots.size ≤ ((3 : Int32)).toNatClampNeg) := (inb_of Sz354 ⟨by decide, by decide⟩)
                have hat354 : cl354.slots[((3 : Int32)).toNatClampNeg]? = some (.int q3) := H354.at hin354 rfl
                have pre355 : ∀ t, Steps p.tables e below (T322.setTop (mkF m 126 #[.val (.long p0), .second, .val (.long p1), .second, .val (.int q4), .val (.int p3), .val (.ref b293), .unset, .unset, .unset, .unset, .unset, .unset] [(.int q3), (.int q2)])) t → Steps p.tables e below (s₁.setTop (entryFrame m #[(.long p0), (.long p1), (.int p2), (.int p3)] maxLocals)) t := fun t kk => pre351 t (by
                    show Steps p.tables e below (T322.setTop (mkF m 115 #[.val (.long p0), .second, .val (.long p1), .second, .val (.int q4), .val (.int p3), .val (.ref b293), .unset, .unset, .unset, .unset, .unset, .unset] [(.int q4), (.int q1)])) _
                    refine XS.icmpNo X322.here hx rfl (hb hby at_115) rfl (feq hd6).1 ?_
                    show Steps p.tables e below (T322.setTop (mkF m 118 #[.val (.long p0), .second, .val (.long p1), .second, .val (.int q4), .val (.int p3), .val (.ref b293), .unset, .unset, .unset, .unset, .unset, .unset] [])) _
                    refine XS.aload X322.here hx rfl (hb hby at_118) rfl rfl ?_
                    show Steps p.tables e below (T322.setTop (mkF m 120 #[.val (.long p0), .second, .val (.long p1), .second, .val (.int q4), .val (.int p3), .val (.ref b293), .unset, .unset, .unset, .unset, .unset, .unset] [(.ref b293)])) _
                    refine XS.iconst X322.here hx rfl (hb hby at_120) ?_
                    show Steps p.tables e below (T322.setTop (mkF m 121 #[.val (.long p0), .second, .val (.long p1), .second, .val (.int q4), .val (.int p3), .val (.ref b293), .unset, .unset, .unset, .unset, .unset, .unset] [(.int (2 : Int32)), (.ref b293)])) _
                    refine X322.iaload hx (j := (2 : Int32)) (v := (.int q2)) (by rw [e322]; exact Ar353.1) (State.isArrayOf_alike hZ.alike Ar353.2.1) Ar353.2.2 hin353 hat353 (g := (mkF m 121 #[.val (.long p0), .second, .val (.long p1), .second, .val (.int q4), .val (.int p3), .val (.ref b293), .unset, .unset, .unset, .unset, .unset, .unset] [(.int (2 : Int32)), (.ref b293)])) rfl rfl (hb hby at_121) _ ?_
                    show Steps p.tables e below (T322.setTop (mkF m 122 #[.val (.long p0), .second, .val (.long p1), .second, .val (.int q4), .val (.int p3), .val (.ref b293), .unset, .unset, .unset, .unset, .unset, .unset] [(.int q2)])) _
                    refine XS.aload X322.here hx rfl (hb hby at_122) rfl rfl ?_
                    show Steps p.tables e below (T322.setTop (mkF m 124 #[.val (.long p0), .second, .val (.long p1), .second, .val (.int q4), .val (.int p3), .val (.ref b293), .unset, .unset, .unset, .unset, .unset, .unset] [(.ref b293), (.int q2)])) _
                    refine XS.iconst X322.here hx rfl (hb hby at_124) ?_
                    show Steps p.tables e below (T322.setTop (mkF m 125 #[.val (.long p0), .second, .val (.long p1), .second, .val (.int q4), .val (.int p3), .val (.ref b293), .unset, .unset, .unset, .unset, .unset, .unset] [(.int (3 : Int32)), (.ref b293), (.int q2)])) _
                    refine X322.iaload hx (j := (3 : Int32)) (v := (.int q3)) (by rw [e322]; exact Ar354.1) (State.isArrayOf_alike hZ.alike Ar354.2.1) Ar354.2.2 hin354 hat354 (g := (mkF m 125 #[.val (.long p0), .second, .val (.long p1), .second, .val (.int q4), .val (.int p3), .val (.ref b293), .unset, .unset, .unset, .unset, .unset, .unset] [(.int (3 : Int32)), (.ref b293), (.int q2)])) rfl rfl (hb hby at_125) _ ?_
                    exact kk)
                by_cases hd7 : q2 = q3
                · have pre356 : ∀ t, Steps p.tables e below (T322.setTop (mkF m 152 #[.val (.long p0), .second, .val (.long p1), .second, .val (.int q4), .val (.int p3), .val (.ref b293), .unset, .unset, .unset, .unset, .unset, .unset] [(.int (1 : Int32))])) t → Steps p.tables e below (s₁.setTop (entryFrame m #[(.long p0), (.long p1), (.int p2), (.int p3)] maxLocals)) t := fun t kk => pre355 t (by
                      show Steps p.tables e below (T322.setTop (mkF m 126 #[.val (.long p0), .second, .val (.long p1), .second, .val (.int q4), .val (.int p3), .val (.ref b293), .unset, .unset, .unset, .unset, .unset, .unset] [(.int q3), (.int q2)])) _
                      refine XS.icmpYes X322.here hx rfl (pc0 := 126) (pc' := 151) rfl (hb hby at_126) rfl (teq hd7).1 (by decide) (by decide) ?_
                      show Steps p.tables e below (T322.setTop (mkF m 151 #[.val (.long p0), .second, .val (.long p1), .second, .val (.int q4), .val (.int p3), .val (.ref b293), .unset, .unset, .unset, .unset, .unset, .unset] [])) _
                      refine XS.iconst X322.here hx rfl (hb hby at_151) ?_
                      exact kk)
                  obtain ⟨fs, hr, hrun, hended, hW, hsame⟩ := X322.leave (v := some (.int (1 : Int32))) (fun h => by rw [Bd.returns] at h; cases h)
                  refine ⟨_, _, pre356 _ ?_, hrun, hended, _, _, rfl, ?_, ⟨_, rfl⟩, hW, hsame.mono (by decide) (by decide)⟩
                  · show Steps p.tables e below (T322.setTop (mkF m 152 #[.val (.long p0), .second, .val (.long p1), .second, .val (.int q4), .val (.int p3), .val (.ref b293), .unset, .unset, .unset, .unset, .unset, .unset] [(.int (1 : Int32))])) _
                    exact retN X322 hx (t := .boolean) Bd.returns (by simp) (hb hby at_152) hr
                  · show Q0 Z p0 p1 p2 p3 h0 n0 _ T322.heap _
                    rw [e322]
                    exact ⟨rfl, N324, K323⟩
                · obtain ⟨cl357, Ar357, q357, Sz357, Nn357, H357, G357⟩ := id Av322
                  have hin357 : ¬ ((2 : Int32) < 0 ∨ cl357.slots.size ≤ ((2 : Int32)).toNatClampNeg) := (inb_of Sz357 ⟨by decide, by decide⟩)
                  have hat357 : cl357.slots[((2 : Int32)).toNatClampNeg]? = some (.int q2) := H357.at hin357 rfl
                  obtain ⟨cl358, Ar358, q358, Sz358, Nn358, H358, G358⟩ := id Av322
                  have hin358 : ¬ ((4 : Int32) < 0 ∨ cl358.slots.size ≤ ((4 : Int32)).toNatClampNeg) := (inb_of Sz358 ⟨by decide, by decide⟩)
                  have hat358 : cl358.slots[((4 : Int32)).toNatClampNeg]? = some (.int q4) := H358.at hin358 rfl
                  have pre359 : ∀ t, Steps p.tables e below (T322.setTop (mkF m 137 #[.val (.long p0), .second, .val (.long p1), .second, .val (.int q4), .val (.int p3), .val (.ref b293), .unset, .unset, .unset, .unset, .unset, .unset] [(.int q4), (.int q2)])) t → Steps p.tables e below (s₁.setTop (entryFrame m #[(.long p0), (.long p1), (.int p2), (.int p3)] maxLocals)) t := fun t kk => pre355 t (by
                      show Steps p.tables e below (T322.setTop (mkF m 126 #[.val (.long p0), .second, .val (.long p1), .second, .val (.int q4), .val (.int p3), .val (.ref b293), .unset, .unset, .unset, .unset, .unset, .unset] [(.int q3), (.int q2)])) _
                      refine XS.icmpNo X322.here hx rfl (hb hby at_126) rfl (feq hd7).1 ?_
                      show Steps p.tables e below (T322.setTop (mkF m 129 #[.val (.long p0), .second, .val (.long p1), .second, .val (.int q4), .val (.int p3), .val (.ref b293), .unset, .unset, .unset, .unset, .unset, .unset] [])) _
                      refine XS.aload X322.here hx rfl (hb hby at_129) rfl rfl ?_
                      show Steps p.tables e below (T322.setTop (mkF m 131 #[.val (.long p0), .second, .val (.long p1), .second, .val (.int q4), .val (.int p3), .val (.ref b293), .unset, .unset, .unset, .unset, .unset, .unset] [(.ref b293)])) _
                      refine XS.iconst X322.here hx rfl (hb hby at_131) ?_
                      show Steps p.tables e below (T322.setTop (mkF m 132 #[.val (.long p0), .second, .val (.long p1), .second, .val (.int q4), .val (.int p3), .val (.ref b293), .unset, .unset, .unset, .unset, .unset, .unset] [(.int (2 : Int32)), (.ref b293)])) _
                      refine X322.iaload hx (j := (2 : Int32)) (v := (.int q2)) (by rw [e322]; exact Ar357.1) (State.isArrayOf_alike hZ.alike Ar357.2.1) Ar357.2.2 hin357 hat357 (g := (mkF m 132 #[.val (.long p0), .second, .val (.long p1), .second, .val (.int q4), .val (.int p3), .val (.ref b293), .unset, .unset, .unset, .unset, .unset, .unset] [(.int (2 : Int32)), (.ref b293)])) rfl rfl (hb hby at_132) _ ?_
                      show Steps p.tables e below (T322.setTop (mkF m 133 #[.val (.long p0), .second, .val (.long p1), .second, .val (.int q4), .val (.int p3), .val (.ref b293), .unset, .unset, .unset, .unset, .unset, .unset] [(.int q2)])) _
                      refine XS.aload X322.here hx rfl (hb hby at_133) rfl rfl ?_
                      show Steps p.tables e below (T322.setTop (mkF m 135 #[.val (.long p0), .second, .val (.long p1), .second, .val (.int q4), .val (.int p3), .val (.ref b293), .unset, .unset, .unset, .unset, .unset, .unset] [(.ref b293), (.int q2)])) _
                      refine XS.iconst X322.here hx rfl (hb hby at_135) ?_
                      show Steps p.tables e below (T322.setTop (mkF m 136 #[.val (.long p0), .second, .val (.long p1), .second, .val (.int q4), .val (.int p3), .val (.ref b293), .unset, .unset, .unset, .unset, .unset, .unset] [(.int (4 : Int32)), (.ref b293), (.int q2)])) _
                      refine X322.iaload hx (j := (4 : Int32)) (v := (.int q4)) (by rw [e322]; exact Ar358.1) (State.isArrayOf_alike hZ.alike Ar358.2.1) Ar358.2.2 hin358 hat358 (g := (mkF m 136 #[.val (.long p0), .second, .val (.long p1), .second, .val (.int q4), .val (.int p3), .val (.ref b293), .unset, .unset, .unset, .unset, .unset, .unset] [(.int (4 : Int32)), (.ref b293), (.int q2)])) rfl rfl (hb hby at_136) _ ?_
                      exact kk)
                  by_cases hd8 : q2 = q4
                  · have pre360 : ∀ t, Steps p.tables e below (T322.setTop (mkF m 152 #[.val (.long p0), .second, .val (.long p1), .second, .val (.int q4), .val (.int p3), .val (.ref b293), .unset, .unset, .unset, .unset, .unset, .unset] [(.int (1 : Int32))])) t → Steps p.tables e below (s₁.setTop (entryFrame m #[(.long p0), (.long p1), (.int p2), (.int p3)] maxLocals)) t := fun t kk => pre359 t (by
                        show Steps p.tables e below (T322.setTop (mkF m 137 #[.val (.long p0), .second, .val (.long p1), .second, .val (.int q4), .val (.int p3), .val (.ref b293), .unset, .unset, .unset, .unset, .unset, .unset] [(.int q4), (.int q2)])) _
                        refine XS.icmpYes X322.here hx rfl (pc0 := 137) (pc' := 151) rfl (hb hby at_137) rfl (teq hd8).1 (by decide) (by decide) ?_
                        show Steps p.tables e below (T322.setTop (mkF m 151 #[.val (.long p0), .second, .val (.long p1), .second, .val (.int q4), .val (.int p3), .val (.ref b293), .unset, .unset, .unset, .unset, .unset, .unset] [])) _
                        refine XS.iconst X322.here hx rfl (hb hby at_151) ?_
                        exact kk)
                    obtain ⟨fs, hr, hrun, hended, hW, hsame⟩ := X322.leave (v := some (.int (1 : Int32))) (fun h => by rw [Bd.returns] at h; cases h)
                    refine ⟨_, _, pre360 _ ?_, hrun, hended, _, _, rfl, ?_, ⟨_, rfl⟩, hW, hsame.mono (by decide) (by decide)⟩
                    · show Steps p.tables e below (T322.setTop (mkF m 152 #[.val (.long p0), .second, .val (.long p1), .second, .val (.int q4), .val (.int p3), .val (.ref b293), .unset, .unset, .unset, .unset, .unset, .unset] [(.int (1 : Int32))])) _
                      exact retN X322 hx (t := .boolean) Bd.returns (by simp) (hb hby at_152) hr
                    · show Q0 Z p0 p1 p2 p3 h0 n0 _ T322.heap _
                      rw [e322]
                      exact ⟨rfl, N324, K323⟩
                  · obtain ⟨cl361, Ar361, q361, Sz361, Nn361, H361, G361⟩ := id Av322
                    have hin361 : ¬ ((3 : Int32) < 0 ∨ cl361.slots.size ≤ ((3 : Int32)).toNatClampNeg) := (inb_of Sz361 ⟨by decide, by decide⟩)
                    have hat361 : cl361.slots[((3 : Int32)).toNatClampNeg]? = some (.int q3) := H361.at hin361 rfl
                    obtain ⟨cl362, Ar362, q362, Sz362, Nn362, H362, G362⟩ := id Av322
                    have hin362 : ¬ ((4 : Int32) < 0 ∨ cl362.slots.size ≤ ((4 : Int32)).toNatClampNeg) := (inb_of Sz362 ⟨by decide, by decide⟩)
                    have hat362 : cl362.slots[((4 : Int32)).toNatClampNeg]? = some (.int q4) := H362.at hin362 rfl
                    have pre363 : ∀ t, Steps p.tables e below (T322.setTop (mkF m 148 #[.val (.long p0), .second, .val (.long p1), .second, .val (.int q4), .val (.int p3), .val (.ref b293), .unset, .unset, .unset, .unset, .unset, .unset] [(.int q4), (.int q3)])) t → Steps p.tables e below (s₁.setTop (entryFrame m #[(.long p0), (.long p1), (.int p2), (.int p3)] maxLocals)) t := fun t kk => pre359 t (by
                        show Steps p.tables e below (T322.setTop (mkF m 137 #[.val (.long p0), .second, .val (.long p1), .second, .val (.int q4), .val (.int p3), .val (.ref b293), .unset, .unset, .unset, .unset, .unset, .unset] [(.int q4), (.int q2)])) _
                        refine XS.icmpNo X322.here hx rfl (hb hby at_137) rfl (feq hd8).1 ?_
                        show Steps p.tables e below (T322.setTop (mkF m 140 #[.val (.long p0), .second, .val (.long p1), .second, .val (.int q4), .val (.int p3), .val (.ref b293), .unset, .unset, .unset, .unset, .unset, .unset] [])) _
                        refine XS.aload X322.here hx rfl (hb hby at_140) rfl rfl ?_
                        show Steps p.tables e below (T322.setTop (mkF m 142 #[.val (.long p0), .second, .val (.long p1), .second, .val (.int q4), .val (.int p3), .val (.ref b293), .unset, .unset, .unset, .unset, .unset, .unset] [(.ref b293)])) _
                        refine XS.iconst X322.here hx rfl (hb hby at_142) ?_
                        show Steps p.tables e below (T322.setTop (mkF m 143 #[.val (.long p0), .second, .val (.long p1), .second, .val (.int q4), .val (.int p3), .val (.ref b293), .unset, .unset, .unset, .unset, .unset, .unset] [(.int (3 : Int32)), (.ref b293)])) _
                        refine X322.iaload hx (j := (3 : Int32)) (v := (.int q3)) (by rw [e322]; exact Ar361.1) (State.isArrayOf_alike hZ.alike Ar361.2.1) Ar361.2.2 hin361 hat361 (g := (mkF m 143 #[.val (.long p0), .second, .val (.long p1), .second, .val (.int q4), .val (.int p3), .val (.ref b293), .unset, .unset, .unset, .unset, .unset, .unset] [(.int (3 : Int32)), (.ref b293)])) rfl rfl (hb hby at_143) _ ?_
                        show Steps p.tables e below (T322.setTop (mkF m 144 #[.val (.long p0), .second, .val (.long p1), .second, .val (.int q4), .val (.int p3), .val (.ref b293), .unset, .unset, .unset, .unset, .unset, .unset] [(.int q3)])) _
                        refine XS.aload X322.here hx rfl (hb hby at_144) rfl rfl ?_
                        show Steps p.tables e below (T322.setTop (mkF m 146 #[.val (.long p0), .second, .val (.long p1), .second, .val (.int q4), .val (.int p3), .val (.ref b293), .unset, .unset, .unset, .unset, .unset, .unset] [(.ref b293), (.int q3)])) _
                        refine XS.iconst X322.here hx rfl (hb hby at_146) ?_
                        show Steps p.tables e below (T322.setTop (mkF m 147 #[.val (.long p0), .second, .val (.long p1), .second, .val (.int q4), .val (.int p3), .val (.ref b293), .unset, .unset, .unset, .unset, .unset, .unset] [(.int (4 : Int32)), (.ref b293), (.int q3)])) _
                        refine X322.iaload hx (j := (4 : Int32)) (v := (.int q4)) (by rw [e322]; exact Ar362.1) (State.isArrayOf_alike hZ.alike Ar362.2.1) Ar362.2.2 hin362 hat362 (g := (mkF m 147 #[.val (.long p0), .second, .val (.long p1), .second, .val (.int q4), .val (.int p3), .val (.ref b293), .unset, .unset, .unset, .unset, .unset, .unset] [(.int (4 : Int32)), (.ref b293), (.int q3)])) rfl rfl (hb hby at_147) _ ?_
                        exact kk)
                    by_cases hd9 : q3 = q4
                    · have pre364 : ∀ t, Steps p.tables e below (T322.setTop (mkF m 152 #[.val (.long p0), .second, .val (.long p1), .second, .val (.int q4), .val (.int p3), .val (.ref b293), .unset, .unset, .unset, .unset, .unset, .unset] [(.int (1 : Int32))])) t → Steps p.tables e below (s₁.setTop (entryFrame m #[(.long p0), (.long p1), (.int p2), (.int p3)] maxLocals)) t := fun t kk => pre363 t (by
                          show Steps p.tables e below (T322.setTop (mkF m 148 #[.val (.long p0), .second, .val (.long p1), .second, .val (.int q4), .val (.int p3), .val (.ref b293), .unset, .unset, .unset, .unset, .unset, .unset] [(.int q4), (.int q3)])) _
                          refine XS.icmpNo X322.here hx rfl (hb hby at_148) rfl (teq hd9).2 ?_
                          show Steps p.tables e below (T322.setTop (mkF m 151 #[.val (.long p0), .second, .val (.long p1), .second, .val (.int q4), .val (.int p3), .val (.ref b293), .unset, .unset, .unset, .unset, .unset, .unset] [])) _
                          refine XS.iconst X322.here hx rfl (hb hby at_151) ?_
                          exact kk)
                      obtain ⟨fs, hr, hrun, hended, hW, hsame⟩ := X322.leave (v := some (.int (1 : Int32))) (fun h => by rw [Bd.returns] at h; cases h)
                      refine ⟨_, _, pre364 _ ?_, hrun, hended, _, _, rfl, ?_, ⟨_, rfl⟩, hW, hsame.mono (by decide) (by decide)⟩
                      · show Steps p.tables e below (T322.setTop (mkF m 152 #[.val (.long p0), .second, .val (.long p1), .second, .val (.int q4), .val (.int p3), .val (.ref b293), .unset, .unset, .unset, .unset, .unset, .unset] [(.int (1 : Int32))])) _
                        exact retN X322 hx (t := .boolean) Bd.returns (by simp) (hb hby at_152) hr
                      · show Q0 Z p0 p1 p2 p3 h0 n0 _ T322.heap _
                        rw [e322]
                        exact ⟨rfl, N324, K323⟩
                    · obtain ⟨T365, h365, k365, X365, e365, E365, A365, O365, st365⟩ := newR X322 hx hZ hown (hw _ (List.mem_of_getElem? (i := 1) rfl)) (hw _ (List.mem_of_getElem? (i := 2) rfl)) e322 (g := (mkF m 154 #[.val (.long p0), .second, .val (.long p1), .second, .val (.int q4), .val (.int p3), .val (.ref b293), .unset, .unset, .unset, .unset, .unset, .unset] [(.int (5 : Int32))])) rfl (hb hby at_154) rfl (by decide) (cap := 5) (by decide) (by decide) (by decide) (by decide)
                      obtain ⟨b365, gq365⟩ : ∃ z, z = h322.size := ⟨_, rfl⟩
                      rw [← gq365] at A365 st365
                      have ne366 : b293 ≠ b365 := Nat.ne_of_lt (Nat.lt_of_lt_of_le Av322.lt (Nat.le_of_eq gq365.symm))
                      have g_b365 : n0 ≤ b365 := Nat.le_trans (Nat.le_trans Z0 K323.1) (Nat.le_of_eq gq365.symm)
                      have sz_b365 : h0.size ≤ b365 := Nat.le_trans K323.1 (Nat.le_of_eq gq365.symm)
                      have Av367 : Arv Z h365 b293 k293 .int (5 : Int32) ([(.int q0), (.int q1), (.int q2), (.int q3), (.int q4)] : List Value) (.int (0 : Int32)) := (Av322.ext E365)
                      have K368 : Keep h0 h365 [] := K323.ext E365
                      have Av365 : Arv Z h365 b365 k365 (.object "com/example/redoubt/redoubt/storage/PageCache$Frame") (5 : Int32) ([.null, .null, .null, .null, .null] : List Value) .null := (Arv.new A365 (by decide)).pad (pad_rep [] .null 5)
                      obtain ⟨T369, h369, X369, e369, E369, A369, D369, -, st369⟩ := newO X365 hx hZ hown (hw _ (List.mem_of_getElem? (i := 1) rfl)) (hw _ (List.mem_of_getElem? (i := 3) rfl)) (hw _ (List.mem_of_getElem? (i := 4) rfl)) e365 (g := (mkF m 162 #[.val (.long p0), .second, .val (.long p1), .second, .val (.int q4), .val (.int p3), .val (.ref b293), .val (.ref b365), .unset, .unset, .unset, .unset, .unset] [(.int (0 : Int32)), (.ref b365)])) rfl (hb hby at_162) (by decide) (by decide)
                      obtain ⟨b369, gq369⟩ : ∃ z, z = h365.size := ⟨_, rfl⟩
                      rw [← gq369] at A369 D369 st369
                      have ne370 : b293 ≠ b369 := Nat.ne_of_lt (Nat.lt_of_lt_of_le Av367.lt (Nat.le_of_eq gq369.symm))
                      have ne371 : b365 ≠ b369 := Nat.ne_of_lt (Nat.lt_of_lt_of_le Av365.lt (Nat.le_of_eq gq369.symm))
                      have g_b369 : n0 ≤ b369 := Nat.le_trans (Nat.le_trans Z0 K368.1) (Nat.le_of_eq gq369.symm)
                      have sz_b369 : h0.size ≤ b369 := Nat.le_trans K368.1 (Nat.le_of_eq gq369.symm)
                      have Av372 : Arv Z h369 b293 k293 .int (5 : Int32) ([(.int q0), (.int q1), (.int q2), (.int q3), (.int q4)] : List Value) (.int (0 : Int32)) := (Av367.ext E369)
                      have Av373 : Arv Z h369 b365 k365 (.object "com/example/redoubt/redoubt/storage/PageCache$Frame") (5 : Int32) ([.null, .null, .null, .null, .null] : List Value) .null := (Av365.ext E369)
                      have K374 : Keep h0 h369 [] := K368.ext E369
                      have F375 : Fld Z h369 b369 "com/example/redoubt/redoubt/storage/PageCache$Frame" "data" "[B" .null := D369 (Or.inr (hw _ (List.mem_of_getElem? (i := 13) rfl))) (ty := (.array .byte)) (by decide)
                      have F376 : Fld Z h369 b369 "com/example/redoubt/redoubt/storage/PageCache$Frame" "page" "I" (.int (0 : Int32)) := D369 (Or.inl (hw _ (List.mem_of_getElem? (i := 16) rfl))) (ty := .int) (by decide)
                      obtain ⟨_, _, ⟨T377, L377, k377, n377⟩, -, X377, ⟨Lc377, hQ377, l377, y377, z377⟩, st377⟩ := X369.specialBack hx (y := (⟨"com/example/redoubt/redoubt/storage/PageCache$Frame", "<init>", "()V"⟩ : MethodName)) rfl hown (mvT hZ (hw _ (List.mem_of_getElem? (i := 5) rfl))) (mvT hZ (hw _ (List.mem_of_getElem? (i := 6) rfl))) (mvT hZ (hw _ (List.mem_of_getElem? (i := 7) rfl))) (by decide) (backOf (W := 3) (rmFr l Z a0 hw [] b369 h369 n0 (Nat.le_trans Z0 K374.1) A369 F375 F376 g_b369) hZ (hw _ (List.mem_of_getElem? (i := 7) rfl)) (hw _ (List.mem_of_getElem? (i := 4) rfl)) (by decide) (by decide)) (g := (mkF m 166 #[.val (.long p0), .second, .val (.long p1), .second, .val (.int q4), .val (.int p3), .val (.ref b293), .val (.ref b365), .unset, .unset, .unset, .unset, .unset] [(.ref b369), (.ref b369), (.int (0 : Int32)), (.ref b365)])) rfl (by rw [hml]; rfl) (Steps.refl _) (a := b369) (argsL := []) (rest := [(.ref b369), (.int (0 : Int32)), (.ref b365)]) (lenOf pd_3 rfl) rfl (by show 2 * 0 + _ ≤ _; exact Nat.le_of_eq rfl) (hb hby at_166) (fun _ _ => ⟨rfl, e369, (by decide : 3 + 1 ≤ _), (by decide : 16 + 8192 ≤ _)⟩)
                      dsimp only [Pt.U, Pt.locs, Pt.cells, Pt.slots] at X377 l377 y377 z377 st377 hQ377
                      rw [l377, y377, z377] at X377
                      replace X377 := own_std X377 (cc := 4) (ss := 8208) rfl rfl
                      obtain ⟨rfl, N377q, K377q, P377_0, P377_1⟩ := hQ377
                      have N377 := Fr.app N324 N377q
                      have Av378 : Arv Z T377.heap b293 k293 .int (5 : Int32) ([(.int q0), (.int q1), (.int q2), (.int q3), (.int q4)] : List Value) (.int (0 : Int32)) := (Av372.keep K377q (ninS ne370 nin0))
                      have Av379 : Arv Z T377.heap b365 k365 (.object "com/example/redoubt/redoubt/storage/PageCache$Frame") (5 : Int32) ([.null, .null, .null, .null, .null] : List Value) .null := (Av373.keep K377q (ninS ne371 nin0))
                      have Ex380 : Exa Z T377.heap b369 "com/example/redoubt/redoubt/storage/PageCache$Frame" := (A369.keep K377q)
                      have K381 : Keep h0 T377.heap [] := K374.trans K377q (allS (Or.inr sz_b369) all0)
                      obtain ⟨cl382, Ar382, q382, Sz382, Nn382, H382, G382⟩ := id Av379
                      have hin382 : ¬ ((0 : Int32) < 0 ∨ cl382.slots.size ≤ ((0 : Int32)).toNatClampNeg) := (inb_of Sz382 ⟨by decide, by decide⟩)
                      obtain ⟨T383, h383, X383, e383, W383, st383⟩ := stR X377 hx hZ rfl Ar382 (j := (0 : Int32)) hin382 rfl (Sto.ofV Ar382 q382 O365 (Ins.self P377_0)) (g := (mkF m 169 #[.val (.long p0), .second, .val (.long p1), .second, .val (.int q4), .val (.int p3), .val (.ref b293), .val (.ref b365), .unset, .unset, .unset, .unset, .unset] [(.ref b369), (.int (0 : Int32)), (.ref b365)])) rfl rfl (hb hby at_169)
                      have Av384 : Arv Z h383 b293 k293 .int (5 : Int32) ([(.int q0), (.int q1), (.int q2), (.int q3), (.int q4)] : List Value) (.int (0 : Int32)) := (Av378.other W383 ne366)
                      have Ex385 : Exa Z h383 b369 "com/example/redoubt/redoubt/storage/PageCache$Frame" := (P377_0.wr W383)
                      have F386 : Fld Z h383 b369 "com/example/redoubt/redoubt/storage/PageCache$Frame" "page" "I" (.int (0 : Int32)) := (P377_1.other W383 (Or.inl (Ne.symm ne371)))
                      have K387 : Keep h0 h383 [] := K381.wr W383 (Or.inr sz_b365)
                      have N388 := Fr.snoc X383 N377 g_b365
                      have Av383 : Arv Z h383 b365 k365 (.object "com/example/redoubt/redoubt/storage/PageCache$Frame") (5 : Int32) ([(.ref b369), .null, .null, .null, .null] : List Value) .null := Arv.set Ar382 q382 Sz382 Nn382 H382 G382 rfl W383 0 rfl (Nat.le_of_ble_eq_true rfl)
                      obtain ⟨T389, h389, X389, e389, E389, A389, D389, -, st389⟩ := newO X383 hx hZ hown (hw _ (List.mem_of_getElem? (i := 1) rfl)) (hw _ (List.mem_of_getElem? (i := 3) rfl)) (hw _ (List.mem_of_getElem? (i := 4) rfl)) e383 (g := (mkF m 173 #[.val (.long p0), .second, .val (.long p1), .second, .val (.int q4), .val (.int p3), .val (.ref b293), .val (.ref b365), .unset, .unset, .unset, .unset, .unset] [(.int (1 : Int32)), (.ref b365)])) rfl (hb hby at_173) (by decide) (by decide)
                      obtain ⟨b389, gq389⟩ : ∃ z, z = h383.size := ⟨_, rfl⟩
                      rw [← gq389] at A389 D389 st389
                      have ne390 : b293 ≠ b389 := Nat.ne_of_lt (Nat.lt_of_lt_of_le Av384.lt (Nat.le_of_eq gq389.symm))
                      have ne391 : b369 ≠ b389 := Nat.ne_of_lt (Nat.lt_of_lt_of_le Ex385.lt (Nat.le_of_eq gq389.symm))
                      have ne392 : b365 ≠ b389 := Nat.ne_of_lt (Nat.lt_of_lt_of_le Av383.lt (Nat.le_of_eq gq389.symm))
                      have g_b389 : n0 ≤ b389 := Nat.le_trans (Nat.le_trans Z0 K387.1) (Nat.le_of_eq gq389.symm)
                      have sz_b389 : h0.size ≤ b389 := Nat.le_trans K387.1 (Nat.le_of_eq gq389.symm)
                      have Av393 : Arv Z h389 b293 k293 .int (5 : Int32) ([(.int q0), (.int q1), (.int q2), (.int q3), (.int q4)] : List Value) (.int (0 : Int32)) := (Av384.ext E389)
                      have Ex394 : Exa Z h389 b369 "com/example/redoubt/redoubt/storage/PageCache$Frame" := (Ex385.ext E389)
                      have F395 : Fld Z h389 b369 "com/example/redoubt/redoubt/storage/PageCache$Frame" "page" "I" (.int (0 : Int32)) := (F386.ext E389)
                      have Av396 : Arv Z h389 b365 k365 (.object "com/example/redoubt/redoubt/storage/PageCache$Frame") (5 : Int32) ([(.ref b369), .null, .null, .null, .null] : List Value) .null := (Av383.ext E389)
                      have K397 : Keep h0 h389 [] := K387.ext E389
                      have F398 : Fld Z h389 b389 "com/example/redoubt/redoubt/storage/PageCache$Frame" "data" "[B" .null := D389 (Or.inr (hw _ (List.mem_of_getElem? (i := 13) rfl))) (ty := (.array .byte)) (by decide)
                      have F399 : Fld Z h389 b389 "com/example/redoubt/redoubt/storage/PageCache$Frame" "page" "I" (.int (0 : Int32)) := D389 (Or.inl (hw _ (List.mem_of_getElem? (i := 16) rfl))) (ty := .int) (by decide)
                      obtain ⟨_, _, ⟨T400, L400, k400, n400⟩, -, X400, ⟨Lc400, hQ400, l400, y400, z400⟩, st400⟩ := X389.specialBack hx (y := (⟨"com/example/redoubt/redoubt/storage/PageCache$Frame", "<init>", "()V"⟩ : MethodName)) rfl hown (mvT hZ (hw _ (List.mem_of_getElem? (i := 5) rfl))) (mvT hZ (hw _ (List.mem_of_getElem? (i := 6) rfl))) (mvT hZ (hw _ (List.mem_of_getElem? (i := 7) rfl))) (by decide) (backOf (W := 3) (rmFr l Z a0 hw [] b389 h389 n0 (Nat.le_trans Z0 K397.1) A389 F398 F399 g_b389) hZ (hw _ (List.mem_of_getElem? (i := 7) rfl)) (hw _ (List.mem_of_getElem? (i := 4) rfl)) (by decide) (by decide)) (g := (mkF m 177 #[.val (.long p0), .second, .val (.long p1), .second, .val (.int q4), .val (.int p3), .val (.ref b293), .val (.ref b365), .unset, .unset, .unset, .unset, .unset] [(.ref b389), (.ref b389), (.int (1 : Int32)), (.ref b365)])) rfl (by rw [hml]; rfl) (Steps.refl _) (a := b389) (argsL := []) (rest := [(.ref b389), (.int (1 : Int32)), (.ref b365)]) (lenOf pd_3 rfl) rfl (by show 2 * 0 + _ ≤ _; exact Nat.le_of_eq rfl) (hb hby at_177) (fun _ _ => ⟨rfl, e389, (by decide : 5 + 1 ≤ _), (by decide : 8214 + 8192 ≤ _)⟩)
                      dsimp only [Pt.U, Pt.locs, Pt.cells, Pt.slots] at X400 l400 y400 z400 st400 hQ400
                      rw [l400, y400, z400] at X400
                      replace X400 := own_std X400 (cc := 6) (ss := 16406) rfl rfl
                      obtain ⟨rfl, N400q, K400q, P400_0, P400_1⟩ := hQ400
                      have N400 := Fr.app N388 N400q
                      have Av401 : Arv Z T400.heap b293 k293 .int (5 : Int32) ([(.int q0), (.int q1), (.int q2), (.int q3), (.int q4)] : List Value) (.int (0 : Int32)) := (Av393.keep K400q (ninS ne390 nin0))
                      have Ex402 : Exa Z T400.heap b369 "com/example/redoubt/redoubt/storage/PageCache$Frame" := (Ex394.keep K400q)
                      have F403 : Fld Z T400.heap b369 "com/example/redoubt/redoubt/storage/PageCache$Frame" "page" "I" (.int (0 : Int32)) := (F395.keep K400q (ninS ne391 nin0))
                      have Av404 : Arv Z T400.heap b365 k365 (.object "com/example/redoubt/redoubt/storage/PageCache$Frame") (5 : Int32) ([(.ref b369), .null, .null, .null, .null] : List Value) .null := (Av396.keep K400q (ninS ne392 nin0))
                      have Ex405 : Exa Z T400.heap b389 "com/example/redoubt/redoubt/storage/PageCache$Frame" := (A389.keep K400q)
                      have K406 : Keep h0 T400.heap [] := K397.trans K400q (allS (Or.inr sz_b389) all0)
                      obtain ⟨cl407, Ar407, q407, Sz407, Nn407, H407, G407⟩ := id Av404
                      have hin407 : ¬ ((1 : Int32) < 0 ∨ cl407.slots.size ≤ ((1 : Int32)).toNatClampNeg) := (inb_of Sz407 ⟨by decide, by decide⟩)
                      obtain ⟨T408, h408, X408, e408, W408, st408⟩ := stR X400 hx hZ rfl Ar407 (j := (1 : Int32)) hin407 rfl (Sto.ofV Ar407 q407 O365 (Ins.self P400_0)) (g := (mkF m 180 #[.val (.long p0), .second, .val (.long p1), .second, .val (.int q4), .val (.int p3), .val (.ref b293), .val (.ref b365), .unset, .unset, .unset, .unset, .unset] [(.ref b389), (.int (1 : Int32)), (.ref b365)])) rfl rfl (hb hby at_180)
                      have Av409 : Arv Z h408 b293 k293 .int (5 : Int32) ([(.int q0), (.int q1), (.int q2), (.int q3), (.int q4)] : List Value) (.int (0 : Int32)) := (Av401.other W408 ne366)
                      have Ex410 : Exa Z h408 b369 "com/example/redoubt/redoubt/storage/PageCache$Frame" := (Ex402.wr W408)
                      have F411 : Fld Z h408 b369 "com/example/redoubt/redoubt/storage/PageCache$Frame" "page" "I" (.int (0 : Int32)) := (F403.other W408 (Or.inl (Ne.symm ne371)))
                      have Ex412 : Exa Z h408 b389 "com/example/redoubt/redoubt/storage/PageCache$Frame" := (P400_0.wr W408)
                      have F413 : Fld Z h408 b389 "com/example/redoubt/redoubt/storage/PageCache$Frame" "page" "I" (.int (0 : Int32)) := (P400_1.other W408 (Or.inl (Ne.symm ne392)))
                      have K414 : Keep h0 h408 [] := K406.wr W408 (Or.inr sz_b365)
                      have N415 := Fr.snoc X408 N400 g_b365
                      have Av408 : Arv Z h408 b365 k365 (.object "com/example/redoubt/redoubt/storage/PageCache$Frame") (5 : Int32) ([(.ref b369), (.ref b389), .null, .null, .null] : List Value) .null := Arv.set Ar407 q407 Sz407 Nn407 H407 G407 rfl W408 1 rfl (Nat.le_of_ble_eq_true rfl)
                      obtain ⟨T416, h416, X416, e416, E416, A416, D416, -, st416⟩ := newO X408 hx hZ hown (hw _ (List.mem_of_getElem? (i := 1) rfl)) (hw _ (List.mem_of_getElem? (i := 3) rfl)) (hw _ (List.mem_of_getElem? (i := 4) rfl)) e408 (g := (mkF m 184 #[.val (.long p0), .second, .val (.long p1), .second, .val (.int q4), .val (.int p3), .val (.ref b293), .val (.ref b365), .unset, .unset, .unset, .unset, .unset] [(.int (2 : Int32)), (.ref b365)])) rfl (hb hby at_184) (by decide) (by decide)
                      obtain ⟨b416, gq416⟩ : ∃ z, z = h408.size := ⟨_, rfl⟩
                      rw [← gq416] at A416 D416 st416
                      have ne417 : b293 ≠ b416 := Nat.ne_of_lt (Nat.lt_of_lt_of_le Av409.lt (Nat.le_of_eq gq416.symm))
                      have ne418 : b369 ≠ b416 := Nat.ne_of_lt (Nat.lt_of_lt_of_le Ex410.lt (Nat.le_of_eq gq416.symm))
                      have ne419 : b389 ≠ b416 := Nat.ne_of_lt (Nat.lt_of_lt_of_le Ex412.lt (Nat.le_of_eq gq416.symm))
                      have ne420 : b365 ≠ b416 := Nat.ne_of_lt (Nat.lt_of_lt_of_le Av408.lt (Nat.le_of_eq gq416.symm))
                      have g_b416 : n0 ≤ b416 := Nat.le_trans (Nat.le_trans Z0 K414.1) (Nat.le_of_eq gq416.symm)
                      have sz_b416 : h0.size ≤ b416 := Nat.le_trans K414.1 (Nat.le_of_eq gq416.symm)
                      have Av421 : Arv Z h416 b293 k293 .int (5 : Int32) ([(.int q0), (.int q1), (.int q2), (.int q3), (.int q4)] : List Value) (.int (0 : Int32)) := (Av409.ext E416)
                      have Ex422 : Exa Z h416 b369 "com/example/redoubt/redoubt/storage/PageCache$Frame" := (Ex410.ext E416)
                      have F423 : Fld Z h416 b369 "com/example/redoubt/redoubt/storage/PageCache$Frame" "page" "I" (.int (0 : Int32)) := (F411.ext E416)
                      have Ex424 : Exa Z h416 b389 "com/example/redoubt/redoubt/storage/PageCache$Frame" := (Ex412.ext E416)
                      have F425 : Fld Z h416 b389 "com/example/redoubt/redoubt/storage/PageCache$Frame" "page" "I" (.int (0 : Int32)) := (F413.ext E416)
                      have Av426 : Arv Z h416 b365 k365 (.object "com/example/redoubt/redoubt/storage/PageCache$Frame") (5 : Int32) ([(.ref b369), (.ref b389), .null, .null, .null] : List Value) .null := (Av408.ext E416)
                      have K427 : Keep h0 h416 [] := K414.ext E416
                      have F428 : Fld Z h416 b416 "com/example/redoubt/redoubt/storage/PageCache$Frame" "data" "[B" .null := D416 (Or.inr (hw _ (List.mem_of_getElem? (i := 13) rfl))) (ty := (.array .byte)) (by decide)
                      have F429 : Fld Z h416 b416 "com/example/redoubt/redoubt/storage/PageCache$Frame" "page" "I" (.int (0 : Int32)) := D416 (Or.inl (hw _ (List.mem_of_getElem? (i := 16) rfl))) (ty := .int) (by decide)
                      obtain ⟨_, _, ⟨T430, L430, k430, n430⟩, -, X430, ⟨Lc430, hQ430, l430, y430, z430⟩, st430⟩ := X416.specialBack hx (y := (⟨"com/example/redoubt/redoubt/storage/PageCache$Frame", "<init>", "()V"⟩ : MethodName)) rfl hown (mvT hZ (hw _ (List.mem_of_getElem? (i := 5) rfl))) (mvT hZ (hw _ (List.mem_of_getElem? (i := 6) rfl))) (mvT hZ (hw _ (List.mem_of_getElem? (i := 7) rfl))) (by decide) (backOf (W := 3) (rmFr l Z a0 hw [] b416 h416 n0 (Nat.le_trans Z0 K427.1) A416 F428 F429 g_b416) hZ (hw _ (List.mem_of_getElem? (i := 7) rfl)) (hw _ (List.mem_of_getElem? (i := 4) rfl)) (by decide) (by decide)) (g := (mkF m 188 #[.val (.long p0), .second, .val (.long p1), .second, .val (.int q4), .val (.int p3), .val (.ref b293), .val (.ref b365), .unset, .unset, .unset, .unset, .unset] [(.ref b416), (.ref b416), (.int (2 : Int32)), (.ref b365)])) rfl (by rw [hml]; rfl) (Steps.refl _) (a := b416) (argsL := []) (rest := [(.ref b416), (.int (2 : Int32)), (.ref b365)]) (lenOf pd_3 rfl) rfl (by show 2 * 0 + _ ≤ _; exact Nat.le_of_eq rfl) (hb hby at_188) (fun _ _ => ⟨rfl, e416, (by decide : 7 + 1 ≤ _), (by decide : 16412 + 8192 ≤ _)⟩)
                      dsimp only [Pt.U, Pt.locs, Pt.cells, Pt.slots] at X430 l430 y430 z430 st430 hQ430
                      rw [l430, y430, z430] at X430
                      replace X430 := own_std X430 (cc := 8) (ss := 24604) rfl rfl
                      obtain ⟨rfl, N430q, K430q, P430_0, P430_1⟩ := hQ430
                      have N430 := Fr.app N415 N430q
                      have Av431 : Arv Z T430.heap b293 k293 .int (5 : Int32) ([(.int q0), (.int q1), (.int q2), (.int q3), (.int q4)] : List Value) (.int (0 : Int32)) := (Av421.keep K430q (ninS ne417 nin0))
                      have Ex432 : Exa Z T430.heap b369 "com/example/redoubt/redoubt/storage/PageCache$Frame" := (Ex422.keep K430q)
                      have F433 : Fld Z T430.heap b369 "com/example/redoubt/redoubt/storage/PageCache$Frame" "page" "I" (.int (0 : Int32)) := (F423.keep K430q (ninS ne418 nin0))
                      have Ex434 : Exa Z T430.heap b389 "com/example/redoubt/redoubt/storage/PageCache$Frame" := (Ex424.keep K430q)
                      have F435 : Fld Z T430.heap b389 "com/example/redoubt/redoubt/storage/PageCache$Frame" "page" "I" (.int (0 : Int32)) := (F425.keep K430q (ninS ne419 nin0))
                      have Av436 : Arv Z T430.heap b365 k365 (.object "com/example/redoubt/redoubt/storage/PageCache$Frame") (5 : Int32) ([(.ref b369), (.ref b389), .null, .null, .null] : List Value) .null := (Av426.keep K430q (ninS ne420 nin0))
                      have Ex437 : Exa Z T430.heap b416 "com/example/redoubt/redoubt/storage/PageCache$Frame" := (A416.keep K430q)
                      have K438 : Keep h0 T430.heap [] := K427.trans K430q (allS (Or.inr sz_b416) all0)
                      obtain ⟨cl439, Ar439, q439, Sz439, Nn439, H439, G439⟩ := id Av436
                      have hin439 : ¬ ((2 : Int32) < 0 ∨ cl439.slots.size ≤ ((2 : Int32)).toNatClampNeg) := (inb_of Sz439 ⟨by decide, by decide⟩)
                      obtain ⟨T440, h440, X440, e440, W440, st440⟩ := stR X430 hx hZ rfl Ar439 (j := (2 : Int32)) hin439 rfl (Sto.ofV Ar439 q439 O365 (Ins.self P430_0)) (g := (mkF m 191 #[.val (.long p0), .second, .val (.long p1), .second, .val (.int q4), .val (.int p3), .val (.ref b293), .val (.ref b365), .unset, .unset, .unset, .unset, .unset] [(.ref b416), (.int (2 : Int32)), (.ref b365)])) rfl rfl (hb hby at_191)
                      have Av441 : Arv Z h440 b293 k293 .int (5 : Int32) ([(.int q0), (.int q1), (.int q2), (.int q3), (.int q4)] : List Value) (.int (0 : Int32)) := (Av431.other W440 ne366)
                      have Ex442 : Exa Z h440 b369 "com/example/redoubt/redoubt/storage/PageCache$Frame" := (Ex432.wr W440)
                      have F443 : Fld Z h440 b369 "com/example/redoubt/redoubt/storage/PageCache$Frame" "page" "I" (.int (0 : Int32)) := (F433.other W440 (Or.inl (Ne.symm ne371)))
                      have Ex444 : Exa Z h440 b389 "com/example/redoubt/redoubt/storage/PageCache$Frame" := (Ex434.wr W440)
                      have F445 : Fld Z h440 b389 "com/example/redoubt/redoubt/storage/PageCache$Frame" "page" "I" (.int (0 : Int32)) := (F435.other W440 (Or.inl (Ne.symm ne392)))
                      have Ex446 : Exa Z h440 b416 "com/example/redoubt/redoubt/storage/PageCache$Frame" := (P430_0.wr W440)
                      have F447 : Fld Z h440 b416 "com/example/redoubt/redoubt/storage/PageCache$Frame" "page" "I" (.int (0 : Int32)) := (P430_1.other W440 (Or.inl (Ne.symm ne420)))
                      have K448 : Keep h0 h440 [] := K438.wr W440 (Or.inr sz_b365)
                      have N449 := Fr.snoc X440 N430 g_b365
                      have Av440 : Arv Z h440 b365 k365 (.object "com/example/redoubt/redoubt/storage/PageCache$Frame") (5 : Int32) ([(.ref b369), (.ref b389), (.ref b416), .null, .null] : List Value) .null := Arv.set Ar439 q439 Sz439 Nn439 H439 G439 rfl W440 2 rfl (Nat.le_of_ble_eq_true rfl)
                      obtain ⟨T450, h450, X450, e450, E450, A450, D450, -, st450⟩ := newO X440 hx hZ hown (hw _ (List.mem_of_getElem? (i := 1) rfl)) (hw _ (List.mem_of_getElem? (i := 3) rfl)) (hw _ (List.mem_of_getElem? (i := 4) rfl)) e440 (g := (mkF m 195 #[.val (.long p0), .second, .val (.long p1), .second, .val (.int q4), .val (.int p3), .val (.ref b293), .val (.ref b365), .unset, .unset, .unset, .unset, .unset] [(.int (3 : Int32)), (.ref b365)])) rfl (hb hby at_195) (by decide) (by decide)
                      obtain ⟨b450, gq450⟩ : ∃ z, z = h440.size := ⟨_, rfl⟩
                      rw [← gq450] at A450 D450 st450
                      have ne451 : b293 ≠ b450 := Nat.ne_of_lt (Nat.lt_of_lt_of_le Av441.lt (Nat.le_of_eq gq450.symm))
                      have ne452 : b369 ≠ b450 := Nat.ne_of_lt (Nat.lt_of_lt_of_le Ex442.lt (Nat.le_of_eq gq450.symm))
                      have ne453 : b389 ≠ b450 := Nat.ne_of_lt (Nat.lt_of_lt_of_le Ex444.lt (Nat.le_of_eq gq450.symm))
                      have ne454 : b416 ≠ b450 := Nat.ne_of_lt (Nat.lt_of_lt_of_le Ex446.lt (Nat.le_of_eq gq450.symm))
                      have ne455 : b365 ≠ b450 := Nat.ne_of_lt (Nat.lt_of_lt_of_le Av440.lt (Nat.le_of_eq gq450.symm))
                      have g_b450 : n0 ≤ b450 := Nat.le_trans (Nat.le_trans Z0 K448.1) (Nat.le_of_eq gq450.symm)
                      have sz_b450 : h0.size ≤ b450 := Nat.le_trans K448.1 (Nat.le_of_eq gq450.symm)
                      have Av456 : Arv Z h450 b293 k293 .int (5 : Int32) ([(.int q0), (.int q1), (.int q2), (.int q3), (.int q4)] : List Value) (.int (0 : Int32)) := (Av441.ext E450)
                      have Ex457 : Exa Z h450 b369 "com/example/redoubt/redoubt/storage/PageCache$Frame" := (Ex442.ext E450)
                      have F458 : Fld Z h450 b369 "com/example/redoubt/redoubt/storage/PageCache$Frame" "page" "I" (.int (0 : Int32)) := (F443.ext E450)
                      have Ex459 : Exa Z h450 b389 "com/example/redoubt/redoubt/storage/PageCache$Frame" := (Ex444.ext E450)
                      have F460 : Fld Z h450 b389 "com/example/redoubt/redoubt/storage/PageCache$Frame" "page" "I" (.int (0 : Int32)) := (F445.ext E450)
                      have Ex461 : Exa Z h450 b416 "com/example/redoubt/redoubt/storage/PageCache$Frame" := (Ex446.ext E450)
                      have F462 : Fld Z h450 b416 "com/example/redoubt/redoubt/storage/PageCache$Frame" "page" "I" (.int (0 : Int32)) := (F447.ext E450)
                      have Av463 : Arv Z h450 b365 k365 (.object "com/example/redoubt/redoubt/storage/PageCache$Frame") (5 : Int32) ([(.ref b369), (.ref b389), (.ref b416), .null, .null] : List Value) .null := (Av440.ext E450)
                      have K464 : Keep h0 h450 [] := K448.ext E450
                      have F465 : Fld Z h450 b450 "com/example/redoubt/redoubt/storage/PageCache$Frame" "data" "[B" .null := D450 (Or.inr (hw _ (List.mem_of_getElem? (i := 13) rfl))) (ty := (.array .byte)) (by decide)
                      have F466 : Fld Z h450 b450 "com/example/redoubt/redoubt/storage/PageCache$Frame" "page" "I" (.int (0 : Int32)) := D450 (Or.inl (hw _ (List.mem_of_getElem? (i := 16) rfl))) (ty := .int) (by decide)
                      obtain ⟨_, _, ⟨T467, L467, k467, n467⟩, -, X467, ⟨Lc467, hQ467, l467, y467, z467⟩, st467⟩ := X450.specialBack hx (y := (⟨"com/example/redoubt/redoubt/storage/PageCache$Frame", "<init>", "()V"⟩ : MethodName)) rfl hown (mvT hZ (hw _ (List.mem_of_getElem? (i := 5) rfl))) (mvT hZ (hw _ (List.mem_of_getElem? (i := 6) rfl))) (mvT hZ (hw _ (List.mem_of_getElem? (i := 7) rfl))) (by decide) (backOf (W := 3) (rmFr l Z a0 hw [] b450 h450 n0 (Nat.le_trans Z0 K464.1) A450 F465 F466 g_b450) hZ (hw _ (List.mem_of_getElem? (i := 7) rfl)) (hw _ (List.mem_of_getElem? (i := 4) rfl)) (by decide) (by decide)) (g := (mkF m 199 #[.val (.long p0), .second, .val (.long p1), .second, .val (.int q4), .val (.int p3), .val (.ref b293), .val (.ref b365), .unset, .unset, .unset, .unset, .unset] [(.ref b450), (.ref b450), (.int (3 : Int32)), (.ref b365)])) rfl (by rw [hml]; rfl) (Steps.refl _) (a := b450) (argsL := []) (rest := [(.ref b450), (.int (3 : Int32)), (.ref b365)]) (lenOf pd_3 rfl) rfl (by show 2 * 0 + _ ≤ _; exact Nat.le_of_eq rfl) (hb hby at_199) (fun _ _ => ⟨rfl, e450, (by decide : 9 + 1 ≤ _), (by decide : 24610 + 8192 ≤ _)⟩)
                      dsimp only [Pt.U, Pt.locs, Pt.cells, Pt.slots] at X467 l467 y467 z467 st467 hQ467
                      rw [l467, y467, z467] at X467
                      replace X467 := own_std X467 (cc := 10) (ss := 32802) rfl rfl
                      obtain ⟨rfl, N467q, K467q, P467_0, P467_1⟩ := hQ467
                      have N467 := Fr.app N449 N467q
                      have Av468 : Arv Z T467.heap b293 k293 .int (5 : Int32) ([(.int q0), (.int q1), (.int q2), (.int q3), (.int q4)] : List Value) (.int (0 : Int32)) := (Av456.keep K467q (ninS ne451 nin0))
                      have Ex469 : Exa Z T467.heap b369 "com/example/redoubt/redoubt/storage/PageCache$Frame" := (Ex457.keep K467q)
                      have F470 : Fld Z T467.heap b369 "com/example/redoubt/redoubt/storage/PageCache$Frame" "page" "I" (.int (0 : Int32)) := (F458.keep K467q (ninS ne452 nin0))
                      have Ex471 : Exa Z T467.heap b389 "com/example/redoubt/redoubt/storage/PageCache$Frame" := (Ex459.keep K467q)
                      have F472 : Fld Z T467.heap b389 "com/example/redoubt/redoubt/storage/PageCache$Frame" "page" "I" (.int (0 : Int32)) := (F460.keep K467q (ninS ne453 nin0))
                      have Ex473 : Exa Z T467.heap b416 "com/example/redoubt/redoubt/storage/PageCache$Frame" := (Ex461.keep K467q)
                      have F474 : Fld Z T467.heap b416 "com/example/redoubt/redoubt/storage/PageCache$Frame" "page" "I" (.int (0 : Int32)) := (F462.keep K467q (ninS ne454 nin0))
                      have Av475 : Arv Z T467.heap b365 k365 (.object "com/example/redoubt/redoubt/storage/PageCache$Frame") (5 : Int32) ([(.ref b369), (.ref b389), (.ref b416), .null, .null] : List Value) .null := (Av463.keep K467q (ninS ne455 nin0))
                      have Ex476 : Exa Z T467.heap b450 "com/example/redoubt/redoubt/storage/PageCache$Frame" := (A450.keep K467q)
                      have K477 : Keep h0 T467.heap [] := K464.trans K467q (allS (Or.inr sz_b450) all0)
                      obtain ⟨cl478, Ar478, q478, Sz478, Nn478, H478, G478⟩ := id Av475
                      have hin478 : ¬ ((3 : Int32) < 0 ∨ cl478.slots.size ≤ ((3 : Int32)).toNatClampNeg) := (inb_of Sz478 ⟨by decide, by decide⟩)
                      obtain ⟨T479, h479, X479, e479, W479, st479⟩ := stR X467 hx hZ rfl Ar478 (j := (3 : Int32)) hin478 rfl (Sto.ofV Ar478 q478 O365 (Ins.self P467_0)) (g := (mkF m 202 #[.val (.long p0), .second, .val (.long p1), .second, .val (.int q4), .val (.int p3), .val (.ref b293), .val (.ref b365), .unset, .unset, .unset, .unset, .unset] [(.ref b450), (.int (3 : Int32)), (.ref b365)])) rfl rfl (hb hby at_202)
                      have Av480 : Arv Z h479 b293 k293 .int (5 : Int32) ([(.int q0), (.int q1), (.int q2), (.int q3), (.int q4)] : List Value) (.int (0 : Int32)) := (Av468.other W479 ne366)
                      have Ex481 : Exa Z h479 b369 "com/example/redoubt/redoubt/storage/PageCache$Frame" := (Ex469.wr W479)
                      have F482 : Fld Z h479 b369 "com/example/redoubt/redoubt/storage/PageCache$Frame" "page" "I" (.int (0 : Int32)) := (F470.other W479 (Or.inl (Ne.symm ne371)))
                      have Ex483 : Exa Z h479 b389 "com/example/redoubt/redoubt/storage/PageCache$Frame" := (Ex471.wr W479)
                      have F484 : Fld Z h479 b389 "com/example/redoubt/redoubt/storage/PageCache$Frame" "page" "I" (.int (0 : Int32)) := (F472.other W479 (Or.inl (Ne.symm ne392)))
                      have Ex485 : Exa Z h479 b416 "com/example/redoubt/redoubt/storage/PageCache$Frame" := (Ex473.wr W479)
                      have F486 : Fld Z h479 b416 "com/example/redoubt/redoubt/storage/PageCache$Frame" "page" "I" (.int (0 : Int32)) := (F474.other W479 (Or.inl (Ne.symm ne420)))
                      have Ex487 : Exa Z h479 b450 "com/example/redoubt/redoubt/storage/PageCache$Frame" := (P467_0.wr W479)
                      have F488 : Fld Z h479 b450 "com/example/redoubt/redoubt/storage/PageCache$Frame" "page" "I" (.int (0 : Int32)) := (P467_1.other W479 (Or.inl (Ne.symm ne455)))
                      have K489 : Keep h0 h479 [] := K477.wr W479 (Or.inr sz_b365)
                      have N490 := Fr.snoc X479 N467 g_b365
                      have Av479 : Arv Z h479 b365 k365 (.object "com/example/redoubt/redoubt/storage/PageCache$Frame") (5 : Int32) ([(.ref b369), (.ref b389), (.ref b416), (.ref b450), .null] : List Value) .null := Arv.set Ar478 q478 Sz478 Nn478 H478 G478 rfl W479 3 rfl (Nat.le_of_ble_eq_true rfl)
                      obtain ⟨T491, h491, X491, e491, E491, A491, D491, -, st491⟩ := newO X479 hx hZ hown (hw _ (List.mem_of_getElem? (i := 1) rfl)) (hw _ (List.mem_of_getElem? (i := 3) rfl)) (hw _ (List.mem_of_getElem? (i := 4) rfl)) e479 (g := (mkF m 206 #[.val (.long p0), .second, .val (.long p1), .second, .val (.int q4), .val (.int p3), .val (.ref b293), .val (.ref b365), .unset, .unset, .unset, .unset, .unset] [(.int (4 : Int32)), (.ref b365)])) rfl (hb hby at_206) (by decide) (by decide)
                      obtain ⟨b491, gq491⟩ : ∃ z, z = h479.size := ⟨_, rfl⟩
                      rw [← gq491] at A491 D491 st491
                      have ne492 : b293 ≠ b491 := Nat.ne_of_lt (Nat.lt_of_lt_of_le Av480.lt (Nat.le_of_eq gq491.symm))
                      have ne493 : b369 ≠ b491 := Nat.ne_of_lt (Nat.lt_of_lt_of_le Ex481.lt (Nat.le_of_eq gq491.symm))
                      have ne494 : b389 ≠ b491 := Nat.ne_of_lt (Nat.lt_of_lt_of_le Ex483.lt (Nat.le_of_eq gq491.symm))
                      have ne495 : b416 ≠ b491 := Nat.ne_of_lt (Nat.lt_of_lt_of_le Ex485.lt (Nat.le_of_eq gq491.symm))
                      have ne496 : b450 ≠ b491 := Nat.ne_of_lt (Nat.lt_of_lt_of_le Ex487.lt (Nat.le_of_eq gq491.symm))
                      have ne497 : b365 ≠ b491 := Nat.ne_of_lt (Nat.lt_of_lt_of_le Av479.lt (Nat.le_of_eq gq491.symm))
                      have g_b491 : n0 ≤ b491 := Nat.le_trans (Nat.le_trans Z0 K489.1) (Nat.le_of_eq gq491.symm)
                      have sz_b491 : h0.size ≤ b491 := Nat.le_trans K489.1 (Nat.le_of_eq gq491.symm)
                      have Av498 : Arv Z h491 b293 k293 .int (5 : Int32) ([(.int q0), (.int q1), (.int q2), (.int q3), (.int q4)] : List Value) (.int (0 : Int32)) := (Av480.ext E491)
                      have Ex499 : Exa Z h491 b369 "com/example/redoubt/redoubt/storage/PageCache$Frame" := (Ex481.ext E491)
                      have F500 : Fld Z h491 b369 "com/example/redoubt/redoubt/storage/PageCache$Frame" "page" "I" (.int (0 : Int32)) := (F482.ext E491)
                      have Ex501 : Exa Z h491 b389 "com/example/redoubt/redoubt/storage/PageCache$Frame" := (Ex483.ext E491)
                      have F502 : Fld Z h491 b389 "com/example/redoubt/redoubt/storage/PageCache$Frame" "page" "I" (.int (0 : Int32)) := (F484.ext E491)
                      have Ex503 : Exa Z h491 b416 "com/example/redoubt/redoubt/storage/PageCache$Frame" := (Ex485.ext E491)
                      have F504 : Fld Z h491 b416 "com/example/redoubt/redoubt/storage/PageCache$Frame" "page" "I" (.int (0 : Int32)) := (F486.ext E491)
                      have Ex505 : Exa Z h491 b450 "com/example/redoubt/redoubt/storage/PageCache$Frame" := (Ex487.ext E491)
                      have F506 : Fld Z h491 b450 "com/example/redoubt/redoubt/storage/PageCache$Frame" "page" "I" (.int (0 : Int32)) := (F488.ext E491)
                      have Av507 : Arv Z h491 b365 k365 (.object "com/example/redoubt/redoubt/storage/PageCache$Frame") (5 : Int32) ([(.ref b369), (.ref b389), (.ref b416), (.ref b450), .null] : List Value) .null := (Av479.ext E491)
                      have K508 : Keep h0 h491 [] := K489.ext E491
                      have F509 : Fld Z h491 b491 "com/example/redoubt/redoubt/storage/PageCache$Frame" "data" "[B" .null := D491 (Or.inr (hw _ (List.mem_of_getElem? (i := 13) rfl))) (ty := (.array .byte)) (by decide)
                      have F510 : Fld Z h491 b491 "com/example/redoubt/redoubt/storage/PageCache$Frame" "page" "I" (.int (0 : Int32)) := D491 (Or.inl (hw _ (List.mem_of_getElem? (i := 16) rfl))) (ty := .int) (by decide)
                      obtain ⟨_, _, ⟨T511, L511, k511, n511⟩, -, X511, ⟨Lc511, hQ511, l511, y511, z511⟩, st511⟩ := X491.specialBack hx (y := (⟨"com/example/redoubt/redoubt/storage/PageCache$Frame", "<init>", "()V"⟩ : MethodName)) rfl hown (mvT hZ (hw _ (List.mem_of_getElem? (i := 5) rfl))) (mvT hZ (hw _ (List.mem_of_getElem? (i := 6) rfl))) (mvT hZ (hw _ (List.mem_of_getElem? (i := 7) rfl))) (by decide) (backOf (W := 3) (rmFr l Z a0 hw [] b491 h491 n0 (Nat.le_trans Z0 K508.1) A491 F509 F510 g_b491) hZ (hw _ (List.mem_of_getElem? (i := 7) rfl)) (hw _ (List.mem_of_getElem? (i := 4) rfl)) (by decide) (by decide)) (g := (mkF m 210 #[.val (.long p0), .second, .val (.long p1), .second, .val (.int q4), .val (.int p3), .val (.ref b293), .val (.ref b365), .unset, .unset, .unset, .unset, .unset] [(.ref b491), (.ref b491), (.int (4 : Int32)), (.ref b365)])) rfl (by rw [hml]; rfl) (Steps.refl _) (a := b491) (argsL := []) (rest := [(.ref b491), (.int (4 : Int32)), (.ref b365)]) (lenOf pd_3 rfl) rfl (by show 2 * 0 + _ ≤ _; exact Nat.le_of_eq rfl) (hb hby at_210) (fun _ _ => ⟨rfl, e491, (by decide : 11 + 1 ≤ _), (by decide : 32808 + 8192 ≤ _)⟩)
                      dsimp only [Pt.U, Pt.locs, Pt.cells, Pt.slots] at X511 l511 y511 z511 st511 hQ511
                      rw [l511, y511, z511] at X511
                      replace X511 := own_std X511 (cc := 12) (ss := 41000) rfl rfl
                      obtain ⟨rfl, N511q, K511q, P511_0, P511_1⟩ := hQ511
                      have N511 := Fr.app N490 N511q
                      have Av512 : Arv Z T511.heap b293 k293 .int (5 : Int32) ([(.int q0), (.int q1), (.int q2), (.int q3), (.int q4)] : List Value) (.int (0 : Int32)) := (Av498.keep K511q (ninS ne492 nin0))
                      have Ex513 : Exa Z T511.heap b369 "com/example/redoubt/redoubt/storage/PageCache$Frame" := (Ex499.keep K511q)
                      have F514 : Fld Z T511.heap b369 "com/example/redoubt/redoubt/storage/PageCache$Frame" "page" "I" (.int (0 : Int32)) := (F500.keep K511q (ninS ne493 nin0))
                      have Ex515 : Exa Z T511.heap b389 "com/example/redoubt/redoubt/storage/PageCache$Frame" := (Ex501.keep K511q)
                      have F516 : Fld Z T511.heap b389 "com/example/redoubt/redoubt/storage/PageCache$Frame" "page" "I" (.int (0 : Int32)) := (F502.keep K511q (ninS ne494 nin0))
                      have Ex517 : Exa Z T511.heap b416 "com/example/redoubt/redoubt/storage/PageCache$Frame" := (Ex503.keep K511q)
                      have F518 : Fld Z T511.heap b416 "com/example/redoubt/redoubt/storage/PageCache$Frame" "page" "I" (.int (0 : Int32)) := (F504.keep K511q (ninS ne495 nin0))
                      have Ex519 : Exa Z T511.heap b450 "com/example/redoubt/redoubt/storage/PageCache$Frame" := (Ex505.keep K511q)
                      have F520 : Fld Z T511.heap b450 "com/example/redoubt/redoubt/storage/PageCache$Frame" "page" "I" (.int (0 : Int32)) := (F506.keep K511q (ninS ne496 nin0))
                      have Av521 : Arv Z T511.heap b365 k365 (.object "com/example/redoubt/redoubt/storage/PageCache$Frame") (5 : Int32) ([(.ref b369), (.ref b389), (.ref b416), (.ref b450), .null] : List Value) .null := (Av507.keep K511q (ninS ne497 nin0))
                      have Ex522 : Exa Z T511.heap b491 "com/example/redoubt/redoubt/storage/PageCache$Frame" := (A491.keep K511q)
                      have K523 : Keep h0 T511.heap [] := K508.trans K511q (allS (Or.inr sz_b491) all0)
                      obtain ⟨cl524, Ar524, q524, Sz524, Nn524, H524, G524⟩ := id Av521
                      have hin524 : ¬ ((4 : Int32) < 0 ∨ cl524.slots.size ≤ ((4 : Int32)).toNatClampNeg) := (inb_of Sz524 ⟨by decide, by decide⟩)
                      obtain ⟨T525, h525, X525, e525, W525, st525⟩ := stR X511 hx hZ rfl Ar524 (j := (4 : Int32)) hin524 rfl (Sto.ofV Ar524 q524 O365 (Ins.self P511_0)) (g := (mkF m 213 #[.val (.long p0), .second, .val (.long p1), .second, .val (.int q4), .val (.int p3), .val (.ref b293), .val (.ref b365), .unset, .unset, .unset, .unset, .unset] [(.ref b491), (.int (4 : Int32)), (.ref b365)])) rfl rfl (hb hby at_213)
                      have Av526 : Arv Z h525 b293 k293 .int (5 : Int32) ([(.int q0), (.int q1), (.int q2), (.int q3), (.int q4)] : List Value) (.int (0 : Int32)) := (Av512.other W525 ne366)
                      have Ex527 : Exa Z h525 b369 "com/example/redoubt/redoubt/storage/PageCache$Frame" := (Ex513.wr W525)
                      have F528 : Fld Z h525 b369 "com/example/redoubt/redoubt/storage/PageCache$Frame" "page" "I" (.int (0 : Int32)) := (F514.other W525 (Or.inl (Ne.symm ne371)))
                      have Ex529 : Exa Z h525 b389 "com/example/redoubt/redoubt/storage/PageCache$Frame" := (Ex515.wr W525)
                      have F530 : Fld Z h525 b389 "com/example/redoubt/redoubt/storage/PageCache$Frame" "page" "I" (.int (0 : Int32)) := (F516.other W525 (Or.inl (Ne.symm ne392)))
                      have Ex531 : Exa Z h525 b416 "com/example/redoubt/redoubt/storage/PageCache$Frame" := (Ex517.wr W525)
                      have F532 : Fld Z h525 b416 "com/example/redoubt/redoubt/storage/PageCache$Frame" "page" "I" (.int (0 : Int32)) := (F518.other W525 (Or.inl (Ne.symm ne420)))
                      have Ex533 : Exa Z h525 b450 "com/example/redoubt/redoubt/storage/PageCache$Frame" := (Ex519.wr W525)
                      have F534 : Fld Z h525 b450 "com/example/redoubt/redoubt/storage/PageCache$Frame" "page" "I" (.int (0 : Int32)) := (F520.other W525 (Or.inl (Ne.symm ne455)))
                      have Ex535 : Exa Z h525 b491 "com/example/redoubt/redoubt/storage/PageCache$Frame" := (P511_0.wr W525)
                      have F536 : Fld Z h525 b491 "com/example/redoubt/redoubt/storage/PageCache$Frame" "page" "I" (.int (0 : Int32)) := (P511_1.other W525 (Or.inl (Ne.symm ne497)))
                      have K537 : Keep h0 h525 [] := K523.wr W525 (Or.inr sz_b365)
                      have N538 := Fr.snoc X525 N511 g_b365
                      have Av525 : Arv Z h525 b365 k365 (.object "com/example/redoubt/redoubt/storage/PageCache$Frame") (5 : Int32) ([(.ref b369), (.ref b389), (.ref b416), (.ref b450), (.ref b491)] : List Value) .null := Arv.set Ar524 q524 Sz524 Nn524 H524 G524 rfl W525 4 rfl (Nat.le_of_ble_eq_true rfl)
                      obtain ⟨cl539, Ar539, q539, Sz539, Nn539, H539, G539⟩ := id Av525
                      have hin539 : ¬ ((0 : Int32) < 0 ∨ cl539.slots.size ≤ ((0 : Int32)).toNatClampNeg) := (inb_of Sz539 ⟨by decide, by decide⟩)
                      have hat539 : cl539.slots[((0 : Int32)).toNatClampNeg]? = some (.ref b369) := H539.at hin539 rfl
                      obtain ⟨cl540, Ar540, q540, Sz540, Nn540, H540, G540⟩ := id Av526
                      have hin540 : ¬ ((0 : Int32) < 0 ∨ cl540.slots.size ≤ ((0 : Int32)).toNatClampNeg) := (inb_of Sz540 ⟨by decide, by decide⟩)
                      have hat540 : cl540.slots[((0 : Int32)).toNatClampNeg]? = some (.int q0) := H540.at hin540 rfl
                      obtain ⟨T541, h541, X541, e541, W541, st541⟩ := putF X525 hx hZ hown (host := "") (Or.inl (hw _ (List.mem_of_getElem? (i := 15) rfl))) Via.refl e525 F528 Ex527 (Or.inl (hw _ (List.mem_of_getElem? (i := 16) rfl))) (hw _ (List.mem_of_getElem? (i := 3) rfl)) (ty := .int) (by decide) rfl rfl (g := (mkF m 222 #[.val (.long p0), .second, .val (.long p1), .second, .val (.int q4), .val (.int p3), .val (.ref b293), .val (.ref b365), .unset, .unset, .unset, .unset, .unset] [(.int q0), (.ref b369)])) rfl rfl (hb hby at_222)
                      have Av542 : Arv Z h541 b293 k293 .int (5 : Int32) ([(.int q0), (.int q1), (.int q2), (.int q3), (.int q4)] : List Value) (.int (0 : Int32)) := (Av526.other W541 ne370)
                      have Ex543 : Exa Z h541 b369 "com/example/redoubt/redoubt/storage/PageCache$Frame" := (Ex527.wr W541)
                      have Ex544 : Exa Z h541 b389 "com/example/redoubt/redoubt/storage/PageCache$Frame" := (Ex529.wr W541)
                      have F545 : Fld Z h541 b389 "com/example/redoubt/redoubt/storage/PageCache$Frame" "page" "I" (.int (0 : Int32)) := (F530.other W541 (Or.inl (Ne.symm ne391)))
                      have Ex546 : Exa Z h541 b416 "com/example/redoubt/redoubt/storage/PageCache$Frame" := (Ex531.wr W541)
                      have F547 : Fld Z h541 b416 "com/example/redoubt/redoubt/storage/PageCache$Frame" "page" "I" (.int (0 : Int32)) := (F532.other W541 (Or.inl (Ne.symm ne418)))
                      have Ex548 : Exa Z h541 b450 "com/example/redoubt/redoubt/storage/PageCache$Frame" := (Ex533.wr W541)
                      have F549 : Fld Z h541 b450 "com/example/redoubt/redoubt/storage/PageCache$Frame" "page" "I" (.int (0 : Int32)) := (F534.other W541 (Or.inl (Ne.symm ne452)))
                      have Ex550 : Exa Z h541 b491 "com/example/redoubt/redoubt/storage/PageCache$Frame" := (Ex535.wr W541)
                      have F551 : Fld Z h541 b491 "com/example/redoubt/redoubt/storage/PageCache$Frame" "page" "I" (.int (0 : Int32)) := (F536.other W541 (Or.inl (Ne.symm ne493)))
                      have Av552 : Arv Z h541 b365 k365 (.object "com/example/redoubt/redoubt/storage/PageCache$Frame") (5 : Int32) ([(.ref b369), (.ref b389), (.ref b416), (.ref b450), (.ref b491)] : List Value) .null := (Av525.other W541 ne371)
                      have K553 : Keep h0 h541 [] := K537.wr W541 (Or.inr sz_b369)
                      have N554 := Fr.snoc X541 N538 g_b369
                      have F555 : Fld Z h541 b369 "com/example/redoubt/redoubt/storage/PageCache$Frame" "page" "I" (.int q0) := F528.same W541
                      obtain ⟨cl556, Ar556, q556, Sz556, Nn556, H556, G556⟩ := id Av552
                      have hin556 : ¬ ((1 : Int32) < 0 ∨ cl556.slots.size ≤ ((1 : Int32)).toNatClampNeg) := (inb_of Sz556 ⟨by decide, by decide⟩)
                      have hat556 : cl556.slots[((1 : Int32)).toNatClampNeg]? = some (.ref b389) := H556.at hin556 rfl
                      obtain ⟨cl557, Ar557, q557, Sz557, Nn557, H557, G557⟩ := id Av542
                      have hin557 : ¬ ((1 : Int32) < 0 ∨ cl557.slots.size ≤ ((1 : Int32)).toNatClampNeg) := (inb_of Sz557 ⟨by decide, by decide⟩)
                      have hat557 : cl557.slots[((1 : Int32)).toNatClampNeg]? = some (.int q1) := H557.at hin557 rfl
                      obtain ⟨T558, h558, X558, e558, W558, st558⟩ := putF X541 hx hZ hown (host := "") (Or.inl (hw _ (List.mem_of_getElem? (i := 15) rfl))) Via.refl e541 F545 Ex544 (Or.inl (hw _ (List.mem_of_getElem? (i := 16) rfl))) (hw _ (List.mem_of_getElem? (i := 3) rfl)) (ty := .int) (by decide) rfl rfl (g := (mkF m 233 #[.val (.long p0), .second, .val (.long p1), .second, .val (.int q4), .val (.int p3), .val (.ref b293), .val (.ref b365), .unset, .unset, .unset, .unset, .unset] [(.int q1), (.ref b389)])) rfl rfl (hb hby at_233)
                      have Av559 : Arv Z h558 b293 k293 .int (5 : Int32) ([(.int q0), (.int q1), (.int q2), (.int q3), (.int q4)] : List Value) (.int (0 : Int32)) := (Av542.other W558 ne390)
                      have Ex560 : Exa Z h558 b369 "com/example/redoubt/redoubt/storage/PageCache$Frame" := (Ex543.wr W558)
                      have Ex561 : Exa Z h558 b389 "com/example/redoubt/redoubt/storage/PageCache$Frame" := (Ex544.wr W558)
                      have Ex562 : Exa Z h558 b416 "com/example/redoubt/redoubt/storage/PageCache$Frame" := (Ex546.wr W558)
                      have F563 : Fld Z h558 b416 "com/example/redoubt/redoubt/storage/PageCache$Frame" "page" "I" (.int (0 : Int32)) := (F547.other W558 (Or.inl (Ne.symm ne419)))
                      have Ex564 : Exa Z h558 b450 "com/example/redoubt/redoubt/storage/PageCache$Frame" := (Ex548.wr W558)
                      have F565 : Fld Z h558 b450 "com/example/redoubt/redoubt/storage/PageCache$Frame" "page" "I" (.int (0 : Int32)) := (F549.other W558 (Or.inl (Ne.symm ne453)))
                      have Ex566 : Exa Z h558 b491 "com/example/redoubt/redoubt/storage/PageCache$Frame" := (Ex550.wr W558)
                      have F567 : Fld Z h558 b491 "com/example/redoubt/redoubt/storage/PageCache$Frame" "page" "I" (.int (0 : Int32)) := (F551.other W558 (Or.inl (Ne.symm ne494)))
                      have Av568 : Arv Z h558 b365 k365 (.object "com/example/redoubt/redoubt/storage/PageCache$Frame") (5 : Int32) ([(.ref b369), (.ref b389), (.ref b416), (.ref b450), (.ref b491)] : List Value) .null := (Av552.other W558 ne392)
                      have F569 : Fld Z h558 b369 "com/example/redoubt/redoubt/storage/PageCache$Frame" "page" "I" (.int q0) := (F555.other W558 (Or.inl ne391))
                      have K570 : Keep h0 h558 [] := K553.wr W558 (Or.inr sz_b389)
                      have N571 := Fr.snoc X558 N554 g_b389
                      have F572 : Fld Z h558 b389 "com/example/redoubt/redoubt/storage/PageCache$Frame" "page" "I" (.int q1) := F545.same W558
                      obtain ⟨cl573, Ar573, q573, Sz573, Nn573, H573, G573⟩ := id Av568
                      have hin573 : ¬ ((2 : Int32) < 0 ∨ cl573.slots.size ≤ ((2 : Int32)).toNatClampNeg) := (inb_of Sz573 ⟨by decide, by decide⟩)
                      have hat573 : cl573.slots[((2 : Int32)).toNatClampNeg]? = some (.ref b416) := H573.at hin573 rfl
                      obtain ⟨cl574, Ar574, q574, Sz574, Nn574, H574, G574⟩ := id Av559
                      have hin574 : ¬ ((2 : Int32) < 0 ∨ cl574.slots.size ≤ ((2 : Int32)).toNatClampNeg) := (inb_of Sz574 ⟨by decide, by decide⟩)
                      have hat574 : cl574.slots[((2 : Int32)).toNatClampNeg]? = some (.int q2) := H574.at hin574 rfl
                      obtain ⟨T575, h575, X575, e575, W575, st575⟩ := putF X558 hx hZ hown (host := "") (Or.inl (hw _ (List.mem_of_getElem? (i := 15) rfl))) Via.refl e558 F563 Ex562 (Or.inl (hw _ (List.mem_of_getElem? (i := 16) rfl))) (hw _ (List.mem_of_getElem? (i := 3) rfl)) (ty := .int) (by decide) rfl rfl (g := (mkF m 244 #[.val (.long p0), .second, .val (.long p1), .second, .val (.int q4), .val (.int p3), .val (.ref b293), .val (.ref b365), .unset, .unset, .unset, .unset, .unset] [(.int q2), (.ref b416)])) rfl rfl (hb hby at_244)
                      have Av576 : Arv Z h575 b293 k293 .int (5 : Int32) ([(.int q0), (.int q1), (.int q2), (.int q3), (.int q4)] : List Value) (.int (0 : Int32)) := (Av559.other W575 ne417)
                      have Ex577 : Exa Z h575 b369 "com/example/redoubt/redoubt/storage/PageCache$Frame" := (Ex560.wr W575)
                      have Ex578 : Exa Z h575 b389 "com/example/redoubt/redoubt/storage/PageCache$Frame" := (Ex561.wr W575)
                      have Ex579 : Exa Z h575 b416 "com/example/redoubt/redoubt/storage/PageCache$Frame" := (Ex562.wr W575)
                      have Ex580 : Exa Z h575 b450 "com/example/redoubt/redoubt/storage/PageCache$Frame" := (Ex564.wr W575)
                      have F581 : Fld Z h575 b450 "com/example/redoubt/redoubt/storage/PageCache$Frame" "page" "I" (.int (0 : Int32)) := (F565.other W575 (Or.inl (Ne.symm ne454)))
                      have Ex582 : Exa Z h575 b491 "com/example/redoubt/redoubt/storage/PageCache$Frame" := (Ex566.wr W575)
                      have F583 : Fld Z h575 b491 "com/example/redoubt/redoubt/storage/PageCache$Frame" "page" "I" (.int (0 : Int32)) := (F567.other W575 (Or.inl (Ne.symm ne495)))
                      have Av584 : Arv Z h575 b365 k365 (.object "com/example/redoubt/redoubt/storage/PageCache$Frame") (5 : Int32) ([(.ref b369), (.ref b389), (.ref b416), (.ref b450), (.ref b491)] : List Value) .null := (Av568.other W575 ne420)
                      have F585 : Fld Z h575 b369 "com/example/redoubt/redoubt/storage/PageCache$Frame" "page" "I" (.int q0) := (F569.other W575 (Or.inl ne418))
                      have F586 : Fld Z h575 b389 "com/example/redoubt/redoubt/storage/PageCache$Frame" "page" "I" (.int q1) := (F572.other W575 (Or.inl ne419))
                      have K587 : Keep h0 h575 [] := K570.wr W575 (Or.inr sz_b416)
                      have N588 := Fr.snoc X575 N571 g_b416
                      have F589 : Fld Z h575 b416 "com/example/redoubt/redoubt/storage/PageCache$Frame" "page" "I" (.int q2) := F563.same W575
                      obtain ⟨cl590, Ar590, q590, Sz590, Nn590, H590, G590⟩ := id Av584
                      have hin590 : ¬ ((3 : Int32) < 0 ∨ cl590.slots.size ≤ ((3 : Int32)).toNatClampNeg) := (inb_of Sz590 ⟨by decide, by decide⟩)
                      have hat590 : cl590.slots[((3 : Int32)).toNatClampNeg]? = some (.ref b450) := H590.at hin590 rfl
                      obtain ⟨cl591, Ar591, q591, Sz591, Nn591, H591, G591⟩ := id Av576
                      have hin591 : ¬ ((3 : Int32) < 0 ∨ cl591.slots.size ≤ ((3 : Int32)).toNatClampNeg) := (inb_of Sz591 ⟨by decide, by decide⟩)
                      have hat591 : cl591.slots[((3 : Int32)).toNatClampNeg]? = some (.int q3) := H591.at hin591 rfl
                      obtain ⟨T592, h592, X592, e592, W592, st592⟩ := putF X575 hx hZ hown (host := "") (Or.inl (hw _ (List.mem_of_getElem? (i := 15) rfl))) Via.refl e575 F581 Ex580 (Or.inl (hw _ (List.mem_of_getElem? (i := 16) rfl))) (hw _ (List.mem_of_getElem? (i := 3) rfl)) (ty := .int) (by decide) rfl rfl (g := (mkF m 255 #[.val (.long p0), .second, .val (.long p1), .second, .val (.int q4), .val (.int p3), .val (.ref b293), .val (.ref b365), .unset, .unset, .unset, .unset, .unset] [(.int q3), (.ref b450)])) rfl rfl (hb hby at_255)
                      have Av593 : Arv Z h592 b293 k293 .int (5 : Int32) ([(.int q0), (.int q1), (.int q2), (.int q3), (.int q4)] : List Value) (.int (0 : Int32)) := (Av576.other W592 ne451)
                      have Ex594 : Exa Z h592 b369 "com/example/redoubt/redoubt/storage/PageCache$Frame" := (Ex577.wr W592)
                      have Ex595 : Exa Z h592 b389 "com/example/redoubt/redoubt/storage/PageCache$Frame" := (Ex578.wr W592)
                      have Ex596 : Exa Z h592 b416 "com/example/redoubt/redoubt/storage/PageCache$Frame" := (Ex579.wr W592)
                      have Ex597 : Exa Z h592 b450 "com/example/redoubt/redoubt/storage/PageCache$Frame" := (Ex580.wr W592)
                      have Ex598 : Exa Z h592 b491 "com/example/redoubt/redoubt/storage/PageCache$Frame" := (Ex582.wr W592)
                      have F599 : Fld Z h592 b491 "com/example/redoubt/redoubt/storage/PageCache$Frame" "page" "I" (.int (0 : Int32)) := (F583.other W592 (Or.inl (Ne.symm ne496)))
                      have Av600 : Arv Z h592 b365 k365 (.object "com/example/redoubt/redoubt/storage/PageCache$Frame") (5 : Int32) ([(.ref b369), (.ref b389), (.ref b416), (.ref b450), (.ref b491)] : List Value) .null := (Av584.other W592 ne455)
                      have F601 : Fld Z h592 b369 "com/example/redoubt/redoubt/storage/PageCache$Frame" "page" "I" (.int q0) := (F585.other W592 (Or.inl ne452))
                      have F602 : Fld Z h592 b389 "com/example/redoubt/redoubt/storage/PageCache$Frame" "page" "I" (.int q1) := (F586.other W592 (Or.inl ne453))
                      have F603 : Fld Z h592 b416 "com/example/redoubt/redoubt/storage/PageCache$Frame" "page" "I" (.int q2) := (F589.other W592 (Or.inl ne454))
                      have K604 : Keep h0 h592 [] := K587.wr W592 (Or.inr sz_b450)
                      have N605 := Fr.snoc X592 N588 g_b450
                      have F606 : Fld Z h592 b450 "com/example/redoubt/redoubt/storage/PageCache$Frame" "page" "I" (.int q3) := F581.same W592
                      obtain ⟨cl607, Ar607, q607, Sz607, Nn607, H607, G607⟩ := id Av600
                      have hin607 : ¬ ((4 : Int32) < 0 ∨ cl607.slots.size ≤ ((4 : Int32)).toNatClampNeg) := (inb_of Sz607 ⟨by decide, by decide⟩)
                      have hat607 : cl607.slots[((4 : Int32)).toNatClampNeg]? = some (.ref b491) := H607.at hin607 rfl
                      obtain ⟨cl608, Ar608, q608, Sz608, Nn608, H608, G608⟩ := id Av593
                      have hin608 : ¬ ((4 : Int32) < 0 ∨ cl608.slots.size ≤ ((4 : Int32)).toNatClampNeg) := (inb_of Sz608 ⟨by decide, by decide⟩)
                      have hat608 : cl608.slots[((4 : Int32)).toNatClampNeg]? = some (.int q4) := H608.at hin608 rfl
                      obtain ⟨T609, h609, X609, e609, W609, st609⟩ := putF X592 hx hZ hown (host := "") (Or.inl (hw _ (List.mem_of_getElem? (i := 15) rfl))) Via.refl e592 F599 Ex598 (Or.inl (hw _ (List.mem_of_getElem? (i := 16) rfl))) (hw _ (List.mem_of_getElem? (i := 3) rfl)) (ty := .int) (by decide) rfl rfl (g := (mkF m 266 #[.val (.long p0), .second, .val (.long p1), .second, .val (.int q4), .val (.int p3), .val (.ref b293), .val (.ref b365), .unset, .unset, .unset, .unset, .unset] [(.int q4), (.ref b491)])) rfl rfl (hb hby at_266)
                      have Av610 : Arv Z h609 b293 k293 .int (5 : Int32) ([(.int q0), (.int q1), (.int q2), (.int q3), (.int q4)] : List Value) (.int (0 : Int32)) := (Av593.other W609 ne492)
                      have Ex611 : Exa Z h609 b369 "com/example/redoubt/redoubt/storage/PageCache$Frame" := (Ex594.wr W609)
                      have Ex612 : Exa Z h609 b389 "com/example/redoubt/redoubt/storage/PageCache$Frame" := (Ex595.wr W609)
                      have Ex613 : Exa Z h609 b416 "com/example/redoubt/redoubt/storage/PageCache$Frame" := (Ex596.wr W609)
                      have Ex614 : Exa Z h609 b450 "com/example/redoubt/redoubt/storage/PageCache$Frame" := (Ex597.wr W609)
                      have Ex615 : Exa Z h609 b491 "com/example/redoubt/redoubt/storage/PageCache$Frame" := (Ex598.wr W609)
                      have Av616 : Arv Z h609 b365 k365 (.object "com/example/redoubt/redoubt/storage/PageCache$Frame") (5 : Int32) ([(.ref b369), (.ref b389), (.ref b416), (.ref b450), (.ref b491)] : List Value) .null := (Av600.other W609 ne497)
                      have F617 : Fld Z h609 b369 "com/example/redoubt/redoubt/storage/PageCache$Frame" "page" "I" (.int q0) := (F601.other W609 (Or.inl ne493))
                      have F618 : Fld Z h609 b389 "com/example/redoubt/redoubt/storage/PageCache$Frame" "page" "I" (.int q1) := (F602.other W609 (Or.inl ne494))
                      have F619 : Fld Z h609 b416 "com/example/redoubt/redoubt/storage/PageCache$Frame" "page" "I" (.int q2) := (F603.other W609 (Or.inl ne495))
                      have F620 : Fld Z h609 b450 "com/example/redoubt/redoubt/storage/PageCache$Frame" "page" "I" (.int q3) := (F606.other W609 (Or.inl ne496))
                      have K621 : Keep h0 h609 [] := K604.wr W609 (Or.inr sz_b491)
                      have N622 := Fr.snoc X609 N605 g_b491
                      have F623 : Fld Z h609 b491 "com/example/redoubt/redoubt/storage/PageCache$Frame" "page" "I" (.int q4) := F599.same W609
                      obtain ⟨T624, h624, X624, e624, E624, A624, D624, -, st624⟩ := newO X609 hx hZ hown (hw _ (List.mem_of_getElem? (i := 17) rfl)) (hw _ (List.mem_of_getElem? (i := 18) rfl)) (hw _ (List.mem_of_getElem? (i := 19) rfl)) e609 (g := (mkF m 269 #[.val (.long p0), .second, .val (.long p1), .second, .val (.int q4), .val (.int p3), .val (.ref b293), .val (.ref b365), .unset, .unset, .unset, .unset, .unset] [])) rfl (hb hby at_269) (by decide) (by decide)
                      obtain ⟨b624, gq624⟩ : ∃ z, z = h609.size := ⟨_, rfl⟩
                      rw [← gq624] at A624 D624 st624
                      have ne625 : b293 ≠ b624 := Nat.ne_of_lt (Nat.lt_of_lt_of_le Av610.lt (Nat.le_of_eq gq624.symm))
                      have ne626 : b369 ≠ b624 := Nat.ne_of_lt (Nat.lt_of_lt_of_le Ex611.lt (Nat.le_of_eq gq624.symm))
                      have ne627 : b389 ≠ b624 := Nat.ne_of_lt (Nat.lt_of_lt_of_le Ex612.lt (Nat.le_of_eq gq624.symm))
                      have ne628 : b416 ≠ b624 := Nat.ne_of_lt (Nat.lt_of_lt_of_le Ex613.lt (Nat.le_of_eq gq624.symm))
                      have ne629 : b450 ≠ b624 := Nat.ne_of_lt (Nat.lt_of_lt_of_le Ex614.lt (Nat.le_of_eq gq624.symm))
                      have ne630 : b491 ≠ b624 := Nat.ne_of_lt (Nat.lt_of_lt_of_le Ex615.lt (Nat.le_of_eq gq624.symm))
                      have ne631 : b365 ≠ b624 := Nat.ne_of_lt (Nat.lt_of_lt_of_le Av616.lt (Nat.le_of_eq gq624.symm))
                      have g_b624 : n0 ≤ b624 := Nat.le_trans (Nat.le_trans Z0 K621.1) (Nat.le_of_eq gq624.symm)
                      have sz_b624 : h0.size ≤ b624 := Nat.le_trans K621.1 (Nat.le_of_eq gq624.symm)
                      have Av632 : Arv Z h624 b293 k293 .int (5 : Int32) ([(.int q0), (.int q1), (.int q2), (.int q3), (.int q4)] : List Value) (.int (0 : Int32)) := (Av610.ext E624)
                      have Ex633 : Exa Z h624 b369 "com/example/redoubt/redoubt/storage/PageCache$Frame" := (Ex611.ext E624)
                      have Ex634 : Exa Z h624 b389 "com/example/redoubt/redoubt/storage/PageCache$Frame" := (Ex612.ext E624)
                      have Ex635 : Exa Z h624 b416 "com/example/redoubt/redoubt/storage/PageCache$Frame" := (Ex613.ext E624)
                      have Ex636 : Exa Z h624 b450 "com/example/redoubt/redoubt/storage/PageCache$Frame" := (Ex614.ext E624)
                      have Ex637 : Exa Z h624 b491 "com/example/redoubt/redoubt/storage/PageCache$Frame" := (Ex615.ext E624)
                      have Av638 : Arv Z h624 b365 k365 (.object "com/example/redoubt/redoubt/storage/PageCache$Frame") (5 : Int32) ([(.ref b369), (.ref b389), (.ref b416), (.ref b450), (.ref b491)] : List Value) .null := (Av616.ext E624)
                      have F639 : Fld Z h624 b369 "com/example/redoubt/redoubt/storage/PageCache$Frame" "page" "I" (.int q0) := (F617.ext E624)
                      have F640 : Fld Z h624 b389 "com/example/redoubt/redoubt/storage/PageCache$Frame" "page" "I" (.int q1) := (F618.ext E624)
                      have F641 : Fld Z h624 b416 "com/example/redoubt/redoubt/storage/PageCache$Frame" "page" "I" (.int q2) := (F619.ext E624)
                      have F642 : Fld Z h624 b450 "com/example/redoubt/redoubt/storage/PageCache$Frame" "page" "I" (.int q3) := (F620.ext E624)
                      have F643 : Fld Z h624 b491 "com/example/redoubt/redoubt/storage/PageCache$Frame" "page" "I" (.int q4) := (F623.ext E624)
                      have K644 : Keep h0 h624 [] := K621.ext E624
                      have F645 : Fld Z h624 b624 "com/example/redoubt/redoubt/storage/FrameTable" "slots" "[Lcom/example/redoubt/redoubt/storage/PageCache$Frame;" .null := D624 (Or.inl (hw _ (List.mem_of_getElem? (i := 26) rfl))) (ty := (.array (.object "com/example/redoubt/redoubt/storage/PageCache$Frame"))) (by decide)
                      have F646 : Fld Z h624 b624 "com/example/redoubt/redoubt/storage/FrameTable" "shift" "I" (.int (0 : Int32)) := D624 (Or.inl (hw _ (List.mem_of_getElem? (i := 28) rfl))) (ty := .int) (by decide)
                      have F647 : Fld Z h624 b624 "com/example/redoubt/redoubt/storage/FrameTable" "size" "I" (.int (0 : Int32)) := D624 (Or.inl (hw _ (List.mem_of_getElem? (i := 35) rfl))) (ty := .int) (by decide)
                      obtain ⟨_, _, ⟨T648, L648, k648, n648⟩, -, X648, ⟨Lc648, hQ648, l648, y648, z648⟩, st648⟩ := X624.specialBack hx (y := (⟨"com/example/redoubt/redoubt/storage/FrameTable", "<init>", "()V"⟩ : MethodName)) rfl hown (mvT hZ (hw _ (List.mem_of_getElem? (i := 20) rfl))) (mvT hZ (hw _ (List.mem_of_getElem? (i := 21) rfl))) (mvT hZ (hw _ (List.mem_of_getElem? (i := 22) rfl))) (by decide) (backOf (W := 1) (rmTab l Z a0 hw [] b624 h624 n0 (Nat.le_trans Z0 K644.1) A624 F645 F646 F647 g_b624) hZ (hw _ (List.mem_of_getElem? (i := 22) rfl)) (hw _ (List.mem_of_getElem? (i := 19) rfl)) (by decide) (by decide)) (g := (mkF m 273 #[.val (.long p0), .second, .val (.long p1), .second, .val (.int q4), .val (.int p3), .val (.ref b293), .val (.ref b365), .unset, .unset, .unset, .unset, .unset] [(.ref b624), (.ref b624)])) rfl (by rw [hml]; rfl) (Steps.refl _) (a := b624) (argsL := []) (rest := [(.ref b624)]) (lenOf pd_3 rfl) rfl (by show 2 * 0 + _ ≤ _; exact Nat.le_of_eq rfl) (hb hby at_273) (fun _ _ => ⟨rfl, e624, (by decide : 13 + 1 ≤ _), (by decide : 41003 + 16 ≤ _)⟩)
                      dsimp only [Pt.U, Pt.locs, Pt.cells, Pt.slots] at X648 l648 y648 z648 st648 hQ648
                      rw [l648, y648, z648] at X648
                      replace X648 := own_std X648 (cc := 14) (ss := 41019) rfl rfl
                      obtain ⟨a_648, k_648, rfl, N648q, K648q, sz648_a, P648_0, P648_1, P648_2, P648_3, P648_4, pu648_0⟩ := hQ648
                      have N648 := Fr.app N622 N648q
                      have ne649 : b293 ≠ a_648 := Nat.ne_of_lt (Nat.lt_of_lt_of_le Av632.lt sz648_a)
                      have ne650 : b369 ≠ a_648 := Nat.ne_of_lt (Nat.lt_of_lt_of_le Ex633.lt sz648_a)
                      have ne651 : b389 ≠ a_648 := Nat.ne_of_lt (Nat.lt_of_lt_of_le Ex634.lt sz648_a)
                      have ne652 : b416 ≠ a_648 := Nat.ne_of_lt (Nat.lt_of_lt_of_le Ex635.lt sz648_a)
                      have ne653 : b450 ≠ a_648 := Nat.ne_of_lt (Nat.lt_of_lt_of_le Ex636.lt sz648_a)
                      have ne654 : b491 ≠ a_648 := Nat.ne_of_lt (Nat.lt_of_lt_of_le Ex637.lt sz648_a)
                      have ne655 : b365 ≠ a_648 := Nat.ne_of_lt (Nat.lt_of_lt_of_le Av638.lt sz648_a)
                      have ne656 : b624 ≠ a_648 := Nat.ne_of_lt (Nat.lt_of_lt_of_le A624.lt sz648_a)
                      have g_a_648 : n0 ≤ a_648 := Nat.le_trans (Nat.le_trans Z0 K644.1) sz648_a
                      have sz_a_648 : h0.size ≤ a_648 := Nat.le_trans K644.1 sz648_a
                      have Av657 : Arv Z T648.heap b293 k293 .int (5 : Int32) ([(.int q0), (.int q1), (.int q2), (.int q3), (.int q4)] : List Value) (.int (0 : Int32)) := (Av632.keep K648q (ninS ne625 nin0))
                      have Ex658 : Exa Z T648.heap b369 "com/example/redoubt/redoubt/storage/PageCache$Frame" := (Ex633.keep K648q)
                      have Ex659 : Exa Z T648.heap b389 "com/example/redoubt/redoubt/storage/PageCache$Frame" := (Ex634.keep K648q)
                      have Ex660 : Exa Z T648.heap b416 "com/example/redoubt/redoubt/storage/PageCache$Frame" := (Ex635.keep K648q)
                      have Ex661 : Exa Z T648.heap b450 "com/example/redoubt/redoubt/storage/PageCache$Frame" := (Ex636.keep K648q)
                      have Ex662 : Exa Z T648.heap b491 "com/example/redoubt/redoubt/storage/PageCache$Frame" := (Ex637.keep K648q)
                      have Av663 : Arv Z T648.heap b365 k365 (.object "com/example/redoubt/redoubt/storage/PageCache$Frame") (5 : Int32) ([(.ref b369), (.ref b389), (.ref b416), (.ref b450), (.ref b491)] : List Value) .null := (Av638.keep K648q (ninS ne631 nin0))
                      have F664 : Fld Z T648.heap b369 "com/example/redoubt/redoubt/storage/PageCache$Frame" "page" "I" (.int q0) := (F639.keep K648q (ninS ne626 nin0))
                      have F665 : Fld Z T648.heap b389 "com/example/redoubt/redoubt/storage/PageCache$Frame" "page" "I" (.int q1) := (F640.keep K648q (ninS ne627 nin0))
                      have F666 : Fld Z T648.heap b416 "com/example/redoubt/redoubt/storage/PageCache$Frame" "page" "I" (.int q2) := (F641.keep K648q (ninS ne628 nin0))
                      have F667 : Fld Z T648.heap b450 "com/example/redoubt/redoubt/storage/PageCache$Frame" "page" "I" (.int q3) := (F642.keep K648q (ninS ne629 nin0))
                      have F668 : Fld Z T648.heap b491 "com/example/redoubt/redoubt/storage/PageCache$Frame" "page" "I" (.int q4) := (F643.keep K648q (ninS ne630 nin0))
                      have Ex669 : Exa Z T648.heap b624 "com/example/redoubt/redoubt/storage/FrameTable" := (A624.keep K648q)
                      have K670 : Keep h0 T648.heap [] := K644.trans K648q (allS (Or.inr sz_b624) all0)
                      obtain ⟨pgs, hp0, hp1, hp2, hp3, hp4⟩ : ∃ pgs : Addr → Int32, pgs b369 = q0 ∧ pgs b389 = q1 ∧ pgs b416 = q2 ∧ pgs b450 = q3 ∧ pgs b491 = q4 := ⟨fun x => if x = b369 then q0 else if x = b389 then q1 else if x = b416 then q2 else if x = b450 then q3 else q4, (if_pos rfl), ((if_neg (Ne.symm ne391)).trans (if_pos rfl)), ((if_neg (Ne.symm ne418)).trans ((if_neg (Ne.symm ne419)).trans (if_pos rfl))), ((if_neg (Ne.symm ne452)).trans ((if_neg (Ne.symm ne453)).trans ((if_neg (Ne.symm ne454)).trans (if_pos rfl)))), ((if_neg (Ne.symm ne493)).trans ((if_neg (Ne.symm ne494)).trans ((if_neg (Ne.symm ne495)).trans ((if_neg (Ne.symm ne496)).trans rfl))))⟩
                      have eq672 : q0 = (pgs b369) := hp0.symm
                      have F671 : Fld Z T648.heap b369 "com/example/redoubt/redoubt/storage/PageCache$Frame" "page" "I" (.int (pgs b369)) := by rw [← eq672]; exact F664
                      have eq674 : q1 = (pgs b389) := hp1.symm
                      have F673 : Fld Z T648.heap b389 "com/example/redoubt/redoubt/storage/PageCache$Frame" "page" "I" (.int (pgs b389)) := by rw [← eq674]; exact F665
                      have eq676 : q2 = (pgs b416) := hp2.symm
                      have F675 : Fld Z T648.heap b416 "com/example/redoubt/redoubt/storage/PageCache$Frame" "page" "I" (.int (pgs b416)) := by rw [← eq676]; exact F666
                      have eq678 : q3 = (pgs b450) := hp3.symm
                      have F677 : Fld Z T648.heap b450 "com/example/redoubt/redoubt/storage/PageCache$Frame" "page" "I" (.int (pgs b450)) := by rw [← eq678]; exact F667
                      have eq680 : q4 = (pgs b491) := hp4.symm
                      have F679 : Fld Z T648.heap b491 "com/example/redoubt/redoubt/storage/PageCache$Frame" "page" "I" (.int (pgs b491)) := by rw [← eq680]; exact F668
                      have G681 : own_GoodP Z T648.heap pgs ([.null, .null, .null, .null, .null, .null, .null, .null, .null, .null, .null, .null, .null, .null, .null, .null] : List Value) := own_ng
                      have hS0 : ∀ g, own_R ([.null, .null, .null, .null, .null, .null, .null, .null, .null, .null, .null, .null, .null, .null, .null, .null] : List Value) g ↔ False := own_R0
                      have hT0 : own_TI (own_hmf pgs) ([.null, .null, .null, .null, .null, .null, .null, .null, .null, .null, .null, .null, .null, .null, .null, .null] : List Value) := own_T0 _
                      obtain ⟨cl682, Ar682, q682, Sz682, Nn682, H682, G682⟩ := id Av663
                      have hin682 : ¬ ((0 : Int32) < 0 ∨ cl682.slots.size ≤ ((0 : Int32)).toNatClampNeg) := (inb_of Sz682 ⟨by decide, by decide⟩)
                      have hat682 : cl682.slots[((0 : Int32)).toNatClampNeg]? = some (.ref b369) := H682.at hin682 rfl
                      have hp684 : own_TI (own_hmf pgs) ([.null, .null, .null, .null, .null, .null, .null, .null, .null, .null, .null, .null, .null, .null, .null, .null] : List Value) := hT0
                      have hp685 : Ovr Z k_648 "com/example/redoubt/redoubt/storage/PageCache$Frame" := pu648_0
                      have hp686 : own_cnt ([.null, .null, .null, .null, .null, .null, .null, .null, .null, .null, .null, .null, .null, .null, .null, .null] : List Value) < 16 := by decide
                      have hp687 : ¬ own_R ([.null, .null, .null, .null, .null, .null, .null, .null, .null, .null, .null, .null, .null, .null, .null, .null] : List Value) b369 := fun h => False.elim ((hS0 b369).mp h)
                      have hp688 : ¬ ((16 : Int32) < ((2 : Int32) * ((0 : Int32) + (1 : Int32)))) := by decide
                      obtain ⟨cq683, kq683, q683a, q683b, q683c⟩ := isOf hZ rfl P648_0
                      obtain ⟨_, _, ⟨T683, L683, k683, n683⟩, -, X683, ⟨Lc683, hQ683, l683, y683, z683⟩, st683⟩ := X648.virtualBack hx (y := (⟨"com/example/redoubt/redoubt/storage/FrameTable", "add", "(Lcom/example/redoubt/redoubt/storage/PageCache$Frame;)V"⟩ : MethodName)) (z := (⟨"com/example/redoubt/redoubt/storage/FrameTable", "add", "(Lcom/example/redoubt/redoubt/storage/PageCache$Frame;)V"⟩ : MethodName)) hown (mvT hZ (hw _ (List.mem_of_getElem? (i := 29) rfl))) (mvT hZ (hw _ (List.mem_of_getElem? (i := 30) rfl))) (notFace_of_selects (args := #[]) (mvT hZ (hw _ (List.mem_of_getElem? (i := 32) rfl)))) (mvT hZ (hw _ (List.mem_of_getElem? (i := 32) rfl))) (mvT hZ (hw _ (List.mem_of_getElem? (i := 31) rfl))) (by decide) (backOf (W := 0) (rmAdd l Z a0 hw [] b624 b369 a_648 k_648 ([.null, .null, .null, .null, .null, .null, .null, .null, .null, .null, .null, .null, .null, .null, .null, .null] : List Value) (0 : Int32) pgs T648.heap n0 (Nat.le_trans Z0 K670.1) P648_0 P648_1 P648_2 P648_3 P648_4 G681 Ex658 F671 hp684 hp685 hp686 hp687 hp688 g_b624 g_a_648) hZ (hw _ (List.mem_of_getElem? (i := 33) rfl)) (hw _ (List.mem_of_getElem? (i := 19) rfl)) (by decide) (by decide)) q683a q683c (g := (mkF m 284 #[.val (.long p0), .second, .val (.long p1), .second, .val (.int q4), .val (.int p3), .val (.ref b293), .val (.ref b365), .val (.ref b624), .unset, .unset, .unset, .unset] [(.ref b369), (.ref b624)])) rfl (by rw [hml]; rfl) (Steps.refl _) (argsL := [(.ref b369)]) (rest := []) (lenOf pd_1 rfl) rfl (by show 2 * 0 + _ ≤ _; exact Nat.le_of_eq rfl) (hb hby at_284) (fun _ _ => ⟨rfl, rfl, (by decide : 14 + 0 ≤ _), (by decide : 41019 + 0 ≤ _)⟩)
                      dsimp only [Pt.U, Pt.locs, Pt.cells, Pt.slots] at X683 l683 y683 z683 st683 hQ683
                      rw [l683, y683, z683] at X683
                      replace X683 := own_std X683 (cc := 14) (ss := 41019) rfl rfl
                      obtain ⟨vs2_683, rfl, N683q, K683q, P683_0, P683_1, P683_2, P683_3, P683_4, P683_5, pu683_0, pu683_1, pu683_2⟩ := hQ683
                      have N683 := Fr.app N648 N683q
                      have Av689 : Arv Z T683.heap b293 k293 .int (5 : Int32) ([(.int q0), (.int q1), (.int q2), (.int q3), (.int q4)] : List Value) (.int (0 : Int32)) := (Av657.keep K683q (ninS ne625 (ninS ne649 nin0)))
                      have Ex690 : Exa Z T683.heap b369 "com/example/redoubt/redoubt/storage/PageCache$Frame" := (Ex658.keep K683q)
                      have Ex691 : Exa Z T683.heap b389 "com/example/redoubt/redoubt/storage/PageCache$Frame" := (Ex659.keep K683q)
                      have Ex692 : Exa Z T683.heap b416 "com/example/redoubt/redoubt/storage/PageCache$Frame" := (Ex660.keep K683q)
                      have Ex693 : Exa Z T683.heap b450 "com/example/redoubt/redoubt/storage/PageCache$Frame" := (Ex661.keep K683q)
                      have Ex694 : Exa Z T683.heap b491 "com/example/redoubt/redoubt/storage/PageCache$Frame" := (Ex662.keep K683q)
                      have Av695 : Arv Z T683.heap b365 k365 (.object "com/example/redoubt/redoubt/storage/PageCache$Frame") (5 : Int32) ([(.ref b369), (.ref b389), (.ref b416), (.ref b450), (.ref b491)] : List Value) .null := (Av663.keep K683q (ninS ne631 (ninS ne655 nin0)))
                      have F696 : Fld Z T683.heap b369 "com/example/redoubt/redoubt/storage/PageCache$Frame" "page" "I" (.int (pgs b369)) := (F671.keep K683q (ninS ne626 (ninS ne650 nin0)))
                      have F697 : Fld Z T683.heap b389 "com/example/redoubt/redoubt/storage/PageCache$Frame" "page" "I" (.int (pgs b389)) := (F673.keep K683q (ninS ne627 (ninS ne651 nin0)))
                      have F698 : Fld Z T683.heap b416 "com/example/redoubt/redoubt/storage/PageCache$Frame" "page" "I" (.int (pgs b416)) := (F675.keep K683q (ninS ne628 (ninS ne652 nin0)))
                      have F699 : Fld Z T683.heap b450 "com/example/redoubt/redoubt/storage/PageCache$Frame" "page" "I" (.int (pgs b450)) := (F677.keep K683q (ninS ne629 (ninS ne653 nin0)))
                      have F700 : Fld Z T683.heap b491 "com/example/redoubt/redoubt/storage/PageCache$Frame" "page" "I" (.int (pgs b491)) := (F679.keep K683q (ninS ne630 (ninS ne654 nin0)))
                      have Ex701 : Exa Z T683.heap b624 "com/example/redoubt/redoubt/storage/FrameTable" := (P648_0.keep K683q)
                      have Xf702 : own_GoodP Z T683.heap pgs ([.null, .null, .null, .null, .null, .null, .null, .null, .null, .null, .null, .null, .null, .null, .null, .null] : List Value) := (own_goodp_keep G681 K683q (fun f hf => (ninS (ne_exa hf P648_0 (by decide)) (ninS (own_ne_arr hf (hw _ (List.mem_of_getElem? (i := 3) rfl)) P648_4) nin0))))
                      have K703 : Keep h0 T683.heap [] := K670.trans K683q (allS (Or.inr sz_b624) (allS (Or.inr sz_a_648) all0))
                      have eq705 : ((0 : Int32) + (1 : Int32)) = (1 : Int32) := by decide
                      have F704 : Fld Z T683.heap b624 "com/example/redoubt/redoubt/storage/FrameTable" "size" "I" (.int (1 : Int32)) := by rw [← eq705]; exact P683_3
                      have cn0 : own_cnt vs2_683 = 1 := by rw [pu683_1]; rfl
                      have hS1 : ∀ g, own_R vs2_683 g ↔ (g = b369 ∨ False) := fun g => (pu683_2 g).trans (or_congr Iff.rfl (hS0 g))
                      obtain ⟨cl706, Ar706, q706, Sz706, Nn706, H706, G706⟩ := id Av695
                      have hin706 : ¬ ((1 : Int32) < 0 ∨ cl706.slots.size ≤ ((1 : Int32)).toNatClampNeg) := (inb_of Sz706 ⟨by decide, by decide⟩)
                      have hat706 : cl706.slots[((1 : Int32)).toNatClampNeg]? = some (.ref b389) := H706.at hin706 rfl
                      have hp708 : own_TI (own_hmf pgs) vs2_683 := pu683_0
                      have hp709 : Ovr Z k_648 "com/example/redoubt/redoubt/storage/PageCache$Frame" := pu648_0
                      have hp710 : own_cnt vs2_683 < 16 := by rw [cn0]; decide
                      have hp711 : ¬ own_R vs2_683 b389 := fun h => (fun h => h.elim (Ne.symm ne391) False.elim) ((hS1 b389).mp h)
                      have hp712 : ¬ ((16 : Int32) < ((2 : Int32) * ((1 : Int32) + (1 : Int32)))) := by decide
                      obtain ⟨cq707, kq707, q707a, q707b, q707c⟩ := isOf hZ rfl P683_0
                      obtain ⟨_, _, ⟨T707, L707, k707, n707⟩, -, X707, ⟨Lc707, hQ707, l707, y707, z707⟩, st707⟩ := X683.virtualBack hx (y := (⟨"com/example/redoubt/redoubt/storage/FrameTable", "add", "(Lcom/example/redoubt/redoubt/storage/PageCache$Frame;)V"⟩ : MethodName)) (z := (⟨"com/example/redoubt/redoubt/storage/FrameTable", "add", "(Lcom/example/redoubt/redoubt/storage/PageCache$Frame;)V"⟩ : MethodName)) hown (mvT hZ (hw _ (List.mem_of_getElem? (i := 29) rfl))) (mvT hZ (hw _ (List.mem_of_getElem? (i := 30) rfl))) (notFace_of_selects (args := #[]) (mvT hZ (hw _ (List.mem_of_getElem? (i := 32) rfl)))) (mvT hZ (hw _ (List.mem_of_getElem? (i := 32) rfl))) (mvT hZ (hw _ (List.mem_of_getElem? (i := 31) rfl))) (by decide) (backOf (W := 0) (rmAdd l Z a0 hw [] b624 b389 a_648 k_648 vs2_683 (1 : Int32) pgs T683.heap n0 (Nat.le_trans Z0 K703.1) P683_0 P683_1 P683_2 F704 P683_4 P683_5 Ex691 F697 hp708 hp709 hp710 hp711 hp712 g_b624 g_a_648) hZ (hw _ (List.mem_of_getElem? (i := 33) rfl)) (hw _ (List.mem_of_getElem? (i := 19) rfl)) (by decide) (by decide)) q707a q707c (g := (mkF m 293 #[.val (.long p0), .second, .val (.long p1), .second, .val (.int q4), .val (.int p3), .val (.ref b293), .val (.ref b365), .val (.ref b624), .unset, .unset, .unset, .unset] [(.ref b389), (.ref b624)])) rfl (by rw [hml]; rfl) (Steps.refl _) (argsL := [(.ref b389)]) (rest := []) (lenOf pd_1 rfl) rfl (by show 2 * 0 + _ ≤ _; exact Nat.le_of_eq rfl) (hb hby at_293) (fun _ _ => ⟨rfl, rfl, (by decide : 14 + 0 ≤ _), (by decide : 41019 + 0 ≤ _)⟩)
                      dsimp only [Pt.U, Pt.locs, Pt.cells, Pt.slots] at X707 l707 y707 z707 st707 hQ707
                      rw [l707, y707, z707] at X707
                      replace X707 := own_std X707 (cc := 14) (ss := 41019) rfl rfl
                      obtain ⟨vs2_707, rfl, N707q, K707q, P707_0, P707_1, P707_2, P707_3, P707_4, P707_5, pu707_0, pu707_1, pu707_2⟩ := hQ707
                      have N707 := Fr.app N683 N707q
                      have Av713 : Arv Z T707.heap b293 k293 .int (5 : Int32) ([(.int q0), (.int q1), (.int q2), (.int q3), (.int q4)] : List Value) (.int (0 : Int32)) := (Av689.keep K707q (ninS ne625 (ninS ne649 nin0)))
                      have Ex714 : Exa Z T707.heap b369 "com/example/redoubt/redoubt/storage/PageCache$Frame" := (Ex690.keep K707q)
                      have Ex715 : Exa Z T707.heap b389 "com/example/redoubt/redoubt/storage/PageCache$Frame" := (Ex691.keep K707q)
                      have Ex716 : Exa Z T707.heap b416 "com/example/redoubt/redoubt/storage/PageCache$Frame" := (Ex692.keep K707q)
                      have Ex717 : Exa Z T707.heap b450 "com/example/redoubt/redoubt/storage/PageCache$Frame" := (Ex693.keep K707q)
                      have Ex718 : Exa Z T707.heap b491 "com/example/redoubt/redoubt/storage/PageCache$Frame" := (Ex694.keep K707q)
                      have Av719 : Arv Z T707.heap b365 k365 (.object "com/example/redoubt/redoubt/storage/PageCache$Frame") (5 : Int32) ([(.ref b369), (.ref b389), (.ref b416), (.ref b450), (.ref b491)] : List Value) .null := (Av695.keep K707q (ninS ne631 (ninS ne655 nin0)))
                      have F720 : Fld Z T707.heap b369 "com/example/redoubt/redoubt/storage/PageCache$Frame" "page" "I" (.int (pgs b369)) := (F696.keep K707q (ninS ne626 (ninS ne650 nin0)))
                      have F721 : Fld Z T707.heap b389 "com/example/redoubt/redoubt/storage/PageCache$Frame" "page" "I" (.int (pgs b389)) := (F697.keep K707q (ninS ne627 (ninS ne651 nin0)))
                      have F722 : Fld Z T707.heap b416 "com/example/redoubt/redoubt/storage/PageCache$Frame" "page" "I" (.int (pgs b416)) := (F698.keep K707q (ninS ne628 (ninS ne652 nin0)))
                      have F723 : Fld Z T707.heap b450 "com/example/redoubt/redoubt/storage/PageCache$Frame" "page" "I" (.int (pgs b450)) := (F699.keep K707q (ninS ne629 (ninS ne653 nin0)))
                      have F724 : Fld Z T707.heap b491 "com/example/redoubt/redoubt/storage/PageCache$Frame" "page" "I" (.int (pgs b491)) := (F700.keep K707q (ninS ne630 (ninS ne654 nin0)))
                      have Ex725 : Exa Z T707.heap b624 "com/example/redoubt/redoubt/storage/FrameTable" := (P683_0.keep K707q)
                      have Xf726 : own_GoodP Z T707.heap pgs vs2_683 := (own_goodp_keep P683_5 K707q (fun f hf => (ninS (ne_exa hf P683_0 (by decide)) (ninS (own_ne_arr hf (hw _ (List.mem_of_getElem? (i := 3) rfl)) P683_4) nin0))))
                      have K727 : Keep h0 T707.heap [] := K703.trans K707q (allS (Or.inr sz_b624) (allS (Or.inr sz_a_648) all0))
                      have eq729 : ((1 : Int32) + (1 : Int32)) = (2 : Int32) := by decide
                      have F728 : Fld Z T707.heap b624 "com/example/redoubt/redoubt/storage/FrameTable" "size" "I" (.int (2 : Int32)) := by rw [← eq729]; exact P707_3
                      have cn1 : own_cnt vs2_707 = 2 := by rw [pu707_1, cn0]
                      have hS2 : ∀ g, own_R vs2_707 g ↔ (g = b389 ∨ g = b369 ∨ False) := fun g => (pu707_2 g).trans (or_congr Iff.rfl (hS1 g))
                      obtain ⟨cl730, Ar730, q730, Sz730, Nn730, H730, G730⟩ := id Av719
                      have hin730 : ¬ ((2 : Int32) < 0 ∨ cl730.slots.size ≤ ((2 : Int32)).toNatClampNeg) := (inb_of Sz730 ⟨by decide, by decide⟩)
                      have hat730 : cl730.slots[((2 : Int32)).toNatClampNeg]? = some (.ref b416) := H730.at hin730 rfl
                      have hp732 : own_TI (own_hmf pgs) vs2_707 := pu707_0
                      have hp733 : Ovr Z k_648 "com/example/redoubt/redoubt/storage/PageCache$Frame" := pu648_0
                      have hp734 : own_cnt vs2_707 < 16 := by rw [cn1]; decide
                      have hp735 : ¬ own_R vs2_707 b416 := fun h => (fun h => h.elim (Ne.symm ne419) (fun h => h.elim (Ne.symm ne418) False.elim)) ((hS2 b416).mp h)
                      have hp736 : ¬ ((16 : Int32) < ((2 : Int32) * ((2 : Int32) + (1 : Int32)))) := by decide
                      obtain ⟨cq731, kq731, q731a, q731b, q731c⟩ := isOf hZ rfl P707_0
                      obtain ⟨_, _, ⟨T731, L731, k731, n731⟩, -, X731, ⟨Lc731, hQ731, l731, y731, z731⟩, st731⟩ := X707.virtualBack hx (y := (⟨"com/example/redoubt/redoubt/storage/FrameTable", "add", "(Lcom/example/redoubt/redoubt/storage/PageCache$Frame;)V"⟩ : MethodName)) (z := (⟨"com/example/redoubt/redoubt/storage/FrameTable", "add", "(Lcom/example/redoubt/redoubt/storage/PageCache$Frame;)V"⟩ : MethodName)) hown (mvT hZ (hw _ (List.mem_of_getElem? (i := 29) rfl))) (mvT hZ (hw _ (List.mem_of_getElem? (i := 30) rfl))) (notFace_of_selects (args := #[]) (mvT hZ (hw _ (List.mem_of_getElem? (i := 32) rfl)))) (mvT hZ (hw _ (List.mem_of_getElem? (i := 32) rfl))) (mvT hZ (hw _ (List.mem_of_getElem? (i := 31) rfl))) (by decide) (backOf (W := 0) (rmAdd l Z a0 hw [] b624 b416 a_648 k_648 vs2_707 (2 : Int32) pgs T707.heap n0 (Nat.le_trans Z0 K727.1) P707_0 P707_1 P707_2 F728 P707_4 P707_5 Ex716 F722 hp732 hp733 hp734 hp735 hp736 g_b624 g_a_648) hZ (hw _ (List.mem_of_getElem? (i := 33) rfl)) (hw _ (List.mem_of_getElem? (i := 19) rfl)) (by decide) (by decide)) q731a q731c (g := (mkF m 302 #[.val (.long p0), .second, .val (.long p1), .second, .val (.int q4), .val (.int p3), .val (.ref b293), .val (.ref b365), .val (.ref b624), .unset, .unset, .unset, .unset] [(.ref b416), (.ref b624)])) rfl (by rw [hml]; rfl) (Steps.refl _) (argsL := [(.ref b416)]) (rest := []) (lenOf pd_1 rfl) rfl (by show 2 * 0 + _ ≤ _; exact Nat.le_of_eq rfl) (hb hby at_302) (fun _ _ => ⟨rfl, rfl, (by decide : 14 + 0 ≤ _), (by decide : 41019 + 0 ≤ _)⟩)
                      dsimp only [Pt.U, Pt.locs, Pt.cells, Pt.slots] at X731 l731 y731 z731 st731 hQ731
                      rw [l731, y731, z731] at X731
                      replace X731 := own_std X731 (cc := 14) (ss := 41019) rfl rfl
                      obtain ⟨vs2_731, rfl, N731q, K731q, P731_0, P731_1, P731_2, P731_3, P731_4, P731_5, pu731_0, pu731_1, pu731_2⟩ := hQ731
                      have N731 := Fr.app N707 N731q
                      have Av737 : Arv Z T731.heap b293 k293 .int (5 : Int32) ([(.int q0), (.int q1), (.int q2), (.int q3), (.int q4)] : List Value) (.int (0 : Int32)) := (Av713.keep K731q (ninS ne625 (ninS ne649 nin0)))
                      have Ex738 : Exa Z T731.heap b369 "com/example/redoubt/redoubt/storage/PageCache$Frame" := (Ex714.keep K731q)
                      have Ex739 : Exa Z T731.heap b389 "com/example/redoubt/redoubt/storage/PageCache$Frame" := (Ex715.keep K731q)
                      have Ex740 : Exa Z T731.heap b416 "com/example/redoubt/redoubt/storage/PageCache$Frame" := (Ex716.keep K731q)
                      have Ex741 : Exa Z T731.heap b450 "com/example/redoubt/redoubt/storage/PageCache$Frame" := (Ex717.keep K731q)
                      have Ex742 : Exa Z T731.heap b491 "com/example/redoubt/redoubt/storage/PageCache$Frame" := (Ex718.keep K731q)
                      have Av743 : Arv Z T731.heap b365 k365 (.object "com/example/redoubt/redoubt/storage/PageCache$Frame") (5 : Int32) ([(.ref b369), (.ref b389), (.ref b416), (.ref b450), (.ref b491)] : List Value) .null := (Av719.keep K731q (ninS ne631 (ninS ne655 nin0)))
                      have F744 : Fld Z T731.heap b369 "com/example/redoubt/redoubt/storage/PageCache$Frame" "page" "I" (.int (pgs b369)) := (F720.keep K731q (ninS ne626 (ninS ne650 nin0)))
                      have F745 : Fld Z T731.heap b389 "com/example/redoubt/redoubt/storage/PageCache$Frame" "page" "I" (.int (pgs b389)) := (F721.keep K731q (ninS ne627 (ninS ne651 nin0)))
                      have F746 : Fld Z T731.heap b416 "com/example/redoubt/redoubt/storage/PageCache$Frame" "page" "I" (.int (pgs b416)) := (F722.keep K731q (ninS ne628 (ninS ne652 nin0)))
                      have F747 : Fld Z T731.heap b450 "com/example/redoubt/redoubt/storage/PageCache$Frame" "page" "I" (.int (pgs b450)) := (F723.keep K731q (ninS ne629 (ninS ne653 nin0)))
                      have F748 : Fld Z T731.heap b491 "com/example/redoubt/redoubt/storage/PageCache$Frame" "page" "I" (.int (pgs b491)) := (F724.keep K731q (ninS ne630 (ninS ne654 nin0)))
                      have Ex749 : Exa Z T731.heap b624 "com/example/redoubt/redoubt/storage/FrameTable" := (P707_0.keep K731q)
                      have Xf750 : own_GoodP Z T731.heap pgs vs2_707 := (own_goodp_keep P707_5 K731q (fun f hf => (ninS (ne_exa hf P707_0 (by decide)) (ninS (own_ne_arr hf (hw _ (List.mem_of_getElem? (i := 3) rfl)) P707_4) nin0))))
                      have K751 : Keep h0 T731.heap [] := K727.trans K731q (allS (Or.inr sz_b624) (allS (Or.inr sz_a_648) all0))
                      have eq753 : ((2 : Int32) + (1 : Int32)) = (3 : Int32) := by decide
                      have F752 : Fld Z T731.heap b624 "com/example/redoubt/redoubt/storage/FrameTable" "size" "I" (.int (3 : Int32)) := by rw [← eq753]; exact P731_3
                      have cn2 : own_cnt vs2_731 = 3 := by rw [pu731_1, cn1]
                      have hS3 : ∀ g, own_R vs2_731 g ↔ (g = b416 ∨ g = b389 ∨ g = b369 ∨ False) := fun g => (pu731_2 g).trans (or_congr Iff.rfl (hS2 g))
                      obtain ⟨cl754, Ar754, q754, Sz754, Nn754, H754, G754⟩ := id Av743
                      have hin754 : ¬ ((3 : Int32) < 0 ∨ cl754.slots.size ≤ ((3 : Int32)).toNatClampNeg) := (inb_of Sz754 ⟨by decide, by decide⟩)
                      have hat754 : cl754.slots[((3 : Int32)).toNatClampNeg]? = some (.ref b450) := H754.at hin754 rfl
                      have hp756 : own_TI (own_hmf pgs) vs2_731 := pu731_0
                      have hp757 : Ovr Z k_648 "com/example/redoubt/redoubt/storage/PageCache$Frame" := pu648_0
                      have hp758 : own_cnt vs2_731 < 16 := by rw [cn2]; decide
                      have hp759 : ¬ own_R vs2_731 b450 := fun h => (fun h => h.elim (Ne.symm ne454) (fun h => h.elim (Ne.symm ne453) (fun h => h.elim (Ne.symm ne452) False.elim))) ((hS3 b450).mp h)
                      have hp760 : ¬ ((16 : Int32) < ((2 : Int32) * ((3 : Int32) + (1 : Int32)))) := by decide
                      obtain ⟨cq755, kq755, q755a, q755b, q755c⟩ := isOf hZ rfl P731_0
                      obtain ⟨_, _, ⟨T755, L755, k755, n755⟩, -, X755, ⟨Lc755, hQ755, l755, y755, z755⟩, st755⟩ := X731.virtualBack hx (y := (⟨"com/example/redoubt/redoubt/storage/FrameTable", "add", "(Lcom/example/redoubt/redoubt/storage/PageCache$Frame;)V"⟩ : MethodName)) (z := (⟨"com/example/redoubt/redoubt/storage/FrameTable", "add", "(Lcom/example/redoubt/redoubt/storage/PageCache$Frame;)V"⟩ : MethodName)) hown (mvT hZ (hw _ (List.mem_of_getElem? (i := 29) rfl))) (mvT hZ (hw _ (List.mem_of_getElem? (i := 30) rfl))) (notFace_of_selects (args := #[]) (mvT hZ (hw _ (List.mem_of_getElem? (i := 32) rfl)))) (mvT hZ (hw _ (List.mem_of_getElem? (i := 32) rfl))) (mvT hZ (hw _ (List.mem_of_getElem? (i := 31) rfl))) (by decide) (backOf (W := 0) (rmAdd l Z a0 hw [] b624 b450 a_648 k_648 vs2_731 (3 : Int32) pgs T731.heap n0 (Nat.le_trans Z0 K751.1) P731_0 P731_1 P731_2 F752 P731_4 P731_5 Ex741 F747 hp756 hp757 hp758 hp759 hp760 g_b624 g_a_648) hZ (hw _ (List.mem_of_getElem? (i := 33) rfl)) (hw _ (List.mem_of_getElem? (i := 19) rfl)) (by decide) (by decide)) q755a q755c (g := (mkF m 311 #[.val (.long p0), .second, .val (.long p1), .second, .val (.int q4), .val (.int p3), .val (.ref b293), .val (.ref b365), .val (.ref b624), .unset, .unset, .unset, .unset] [(.ref b450), (.ref b624)])) rfl (by rw [hml]; rfl) (Steps.refl _) (argsL := [(.ref b450)]) (rest := []) (lenOf pd_1 rfl) rfl (by show 2 * 0 + _ ≤ _; exact Nat.le_of_eq rfl) (hb hby at_311) (fun _ _ => ⟨rfl, rfl, (by decide : 14 + 0 ≤ _), (by decide : 41019 + 0 ≤ _)⟩)
                      dsimp only [Pt.U, Pt.locs, Pt.cells, Pt.slots] at X755 l755 y755 z755 st755 hQ755
                      rw [l755, y755, z755] at X755
                      replace X755 := own_std X755 (cc := 14) (ss := 41019) rfl rfl
                      obtain ⟨vs2_755, rfl, N755q, K755q, P755_0, P755_1, P755_2, P755_3, P755_4, P755_5, pu755_0, pu755_1, pu755_2⟩ := hQ755
                      have N755 := Fr.app N731 N755q
                      have Av761 : Arv Z T755.heap b293 k293 .int (5 : Int32) ([(.int q0), (.int q1), (.int q2), (.int q3), (.int q4)] : List Value) (.int (0 : Int32)) := (Av737.keep K755q (ninS ne625 (ninS ne649 nin0)))
                      have Ex762 : Exa Z T755.heap b369 "com/example/redoubt/redoubt/storage/PageCache$Frame" := (Ex738.keep K755q)
                      have Ex763 : Exa Z T755.heap b389 "com/example/redoubt/redoubt/storage/PageCache$Frame" := (Ex739.keep K755q)
                      have Ex764 : Exa Z T755.heap b416 "com/example/redoubt/redoubt/storage/PageCache$Frame" := (Ex740.keep K755q)
                      have Ex765 : Exa Z T755.heap b450 "com/example/redoubt/redoubt/storage/PageCache$Frame" := (Ex741.keep K755q)
                      have Ex766 : Exa Z T755.heap b491 "com/example/redoubt/redoubt/storage/PageCache$Frame" := (Ex742.keep K755q)
                      have Av767 : Arv Z T755.heap b365 k365 (.object "com/example/redoubt/redoubt/storage/PageCache$Frame") (5 : Int32) ([(.ref b369), (.ref b389), (.ref b416), (.ref b450), (.ref b491)] : List Value) .null := (Av743.keep K755q (ninS ne631 (ninS ne655 nin0)))
                      have F768 : Fld Z T755.heap b369 "com/example/redoubt/redoubt/storage/PageCache$Frame" "page" "I" (.int (pgs b369)) := (F744.keep K755q (ninS ne626 (ninS ne650 nin0)))
                      have F769 : Fld Z T755.heap b389 "com/example/redoubt/redoubt/storage/PageCache$Frame" "page" "I" (.int (pgs b389)) := (F745.keep K755q (ninS ne627 (ninS ne651 nin0)))
                      have F770 : Fld Z T755.heap b416 "com/example/redoubt/redoubt/storage/PageCache$Frame" "page" "I" (.int (pgs b416)) := (F746.keep K755q (ninS ne628 (ninS ne652 nin0)))
                      have F771 : Fld Z T755.heap b450 "com/example/redoubt/redoubt/storage/PageCache$Frame" "page" "I" (.int (pgs b450)) := (F747.keep K755q (ninS ne629 (ninS ne653 nin0)))
                      have F772 : Fld Z T755.heap b491 "com/example/redoubt/redoubt/storage/PageCache$Frame" "page" "I" (.int (pgs b491)) := (F748.keep K755q (ninS ne630 (ninS ne654 nin0)))
                      have Ex773 : Exa Z T755.heap b624 "com/example/redoubt/redoubt/storage/FrameTable" := (P731_0.keep K755q)
                      have Xf774 : own_GoodP Z T755.heap pgs vs2_731 := (own_goodp_keep P731_5 K755q (fun f hf => (ninS (ne_exa hf P731_0 (by decide)) (ninS (own_ne_arr hf (hw _ (List.mem_of_getElem? (i := 3) rfl)) P731_4) nin0))))
                      have K775 : Keep h0 T755.heap [] := K751.trans K755q (allS (Or.inr sz_b624) (allS (Or.inr sz_a_648) all0))
                      have eq777 : ((3 : Int32) + (1 : Int32)) = (4 : Int32) := by decide
                      have F776 : Fld Z T755.heap b624 "com/example/redoubt/redoubt/storage/FrameTable" "size" "I" (.int (4 : Int32)) := by rw [← eq777]; exact P755_3
                      have cn3 : own_cnt vs2_755 = 4 := by rw [pu755_1, cn2]
                      have hS4 : ∀ g, own_R vs2_755 g ↔ (g = b450 ∨ g = b416 ∨ g = b389 ∨ g = b369 ∨ False) := fun g => (pu755_2 g).trans (or_congr Iff.rfl (hS3 g))
                      obtain ⟨cl778, Ar778, q778, Sz778, Nn778, H778, G778⟩ := id Av767
                      have hin778 : ¬ ((4 : Int32) < 0 ∨ cl778.slots.size ≤ ((4 : Int32)).toNatClampNeg) := (inb_of Sz778 ⟨by decide, by decide⟩)
                      have hat778 : cl778.slots[((4 : Int32)).toNatClampNeg]? = some (.ref b491) := H778.at hin778 rfl
                      have hp780 : own_TI (own_hmf pgs) vs2_755 := pu755_0
                      have hp781 : Ovr Z k_648 "com/example/redoubt/redoubt/storage/PageCache$Frame" := pu648_0
                      have hp782 : own_cnt vs2_755 < 16 := by rw [cn3]; decide
                      have hp783 : ¬ own_R vs2_755 b491 := fun h => (fun h => h.elim (Ne.symm ne496) (fun h => h.elim (Ne.symm ne495) (fun h => h.elim (Ne.symm ne494) (fun h => h.elim (Ne.symm ne493) False.elim)))) ((hS4 b491).mp h)
                      have hp784 : ¬ ((16 : Int32) < ((2 : Int32) * ((4 : Int32) + (1 : Int32)))) := by decide
                      obtain ⟨cq779, kq779, q779a, q779b, q779c⟩ := isOf hZ rfl P755_0
                      obtain ⟨_, _, ⟨T779, L779, k779, n779⟩, -, X779, ⟨Lc779, hQ779, l779, y779, z779⟩, st779⟩ := X755.virtualBack hx (y := (⟨"com/example/redoubt/redoubt/storage/FrameTable", "add", "(Lcom/example/redoubt/redoubt/storage/PageCache$Frame;)V"⟩ : MethodName)) (z := (⟨"com/example/redoubt/redoubt/storage/FrameTable", "add", "(Lcom/example/redoubt/redoubt/storage/PageCache$Frame;)V"⟩ : MethodName)) hown (mvT hZ (hw _ (List.mem_of_getElem? (i := 29) rfl))) (mvT hZ (hw _ (List.mem_of_getElem? (i := 30) rfl))) (notFace_of_selects (args := #[]) (mvT hZ (hw _ (List.mem_of_getElem? (i := 32) rfl)))) (mvT hZ (hw _ (List.mem_of_getElem? (i := 32) rfl))) (mvT hZ (hw _ (List.mem_of_getElem? (i := 31) rfl))) (by decide) (backOf (W := 0) (rmAdd l Z a0 hw [] b624 b491 a_648 k_648 vs2_755 (4 : Int32) pgs T755.heap n0 (Nat.le_trans Z0 K775.1) P755_0 P755_1 P755_2 F776 P755_4 P755_5 Ex766 F772 hp780 hp781 hp782 hp783 hp784 g_b624 g_a_648) hZ (hw _ (List.mem_of_getElem? (i := 33) rfl)) (hw _ (List.mem_of_getElem? (i := 19) rfl)) (by decide) (by decide)) q779a q779c (g := (mkF m 320 #[.val (.long p0), .second, .val (.long p1), .second, .val (.int q4), .val (.int p3), .val (.ref b293), .val (.ref b365), .val (.ref b624), .unset, .unset, .unset, .unset] [(.ref b491), (.ref b624)])) rfl (by rw [hml]; rfl) (Steps.refl _) (argsL := [(.ref b491)]) (rest := []) (lenOf pd_1 rfl) rfl (by show 2 * 0 + _ ≤ _; exact Nat.le_of_eq rfl) (hb hby at_320) (fun _ _ => ⟨rfl, rfl, (by decide : 14 + 0 ≤ _), (by decide : 41019 + 0 ≤ _)⟩)
                      dsimp only [Pt.U, Pt.locs, Pt.cells, Pt.slots] at X779 l779 y779 z779 st779 hQ779
                      rw [l779, y779, z779] at X779
                      replace X779 := own_std X779 (cc := 14) (ss := 41019) rfl rfl
                      obtain ⟨vs2_779, rfl, N779q, K779q, P779_0, P779_1, P779_2, P779_3, P779_4, P779_5, pu779_0, pu779_1, pu779_2⟩ := hQ779
                      have N779 := Fr.app N755 N779q
                      have Av785 : Arv Z T779.heap b293 k293 .int (5 : Int32) ([(.int q0), (.int q1), (.int q2), (.int q3), (.int q4)] : List Value) (.int (0 : Int32)) := (Av761.keep K779q (ninS ne625 (ninS ne649 nin0)))
                      have Ex786 : Exa Z T779.heap b369 "com/example/redoubt/redoubt/storage/PageCache$Frame" := (Ex762.keep K779q)
                      have Ex787 : Exa Z T779.heap b389 "com/example/redoubt/redoubt/storage/PageCache$Frame" := (Ex763.keep K779q)
                      have Ex788 : Exa Z T779.heap b416 "com/example/redoubt/redoubt/storage/PageCache$Frame" := (Ex764.keep K779q)
                      have Ex789 : Exa Z T779.heap b450 "com/example/redoubt/redoubt/storage/PageCache$Frame" := (Ex765.keep K779q)
                      have Ex790 : Exa Z T779.heap b491 "com/example/redoubt/redoubt/storage/PageCache$Frame" := (Ex766.keep K779q)
                      have Av791 : Arv Z T779.heap b365 k365 (.object "com/example/redoubt/redoubt/storage/PageCache$Frame") (5 : Int32) ([(.ref b369), (.ref b389), (.ref b416), (.ref b450), (.ref b491)] : List Value) .null := (Av767.keep K779q (ninS ne631 (ninS ne655 nin0)))
                      have F792 : Fld Z T779.heap b369 "com/example/redoubt/redoubt/storage/PageCache$Frame" "page" "I" (.int (pgs b369)) := (F768.keep K779q (ninS ne626 (ninS ne650 nin0)))
                      have F793 : Fld Z T779.heap b389 "com/example/redoubt/redoubt/storage/PageCache$Frame" "page" "I" (.int (pgs b389)) := (F769.keep K779q (ninS ne627 (ninS ne651 nin0)))
                      have F794 : Fld Z T779.heap b416 "com/example/redoubt/redoubt/storage/PageCache$Frame" "page" "I" (.int (pgs b416)) := (F770.keep K779q (ninS ne628 (ninS ne652 nin0)))
                      have F795 : Fld Z T779.heap b450 "com/example/redoubt/redoubt/storage/PageCache$Frame" "page" "I" (.int (pgs b450)) := (F771.keep K779q (ninS ne629 (ninS ne653 nin0)))
                      have F796 : Fld Z T779.heap b491 "com/example/redoubt/redoubt/storage/PageCache$Frame" "page" "I" (.int (pgs b491)) := (F772.keep K779q (ninS ne630 (ninS ne654 nin0)))
                      have Ex797 : Exa Z T779.heap b624 "com/example/redoubt/redoubt/storage/FrameTable" := (P755_0.keep K779q)
                      have Xf798 : own_GoodP Z T779.heap pgs vs2_755 := (own_goodp_keep P755_5 K779q (fun f hf => (ninS (ne_exa hf P755_0 (by decide)) (ninS (own_ne_arr hf (hw _ (List.mem_of_getElem? (i := 3) rfl)) P755_4) nin0))))
                      have K799 : Keep h0 T779.heap [] := K775.trans K779q (allS (Or.inr sz_b624) (allS (Or.inr sz_a_648) all0))
                      have eq801 : ((4 : Int32) + (1 : Int32)) = (5 : Int32) := by decide
                      have F800 : Fld Z T779.heap b624 "com/example/redoubt/redoubt/storage/FrameTable" "size" "I" (.int (5 : Int32)) := by rw [← eq801]; exact P779_3
                      have cn4 : own_cnt vs2_779 = 5 := by rw [pu779_1, cn3]
                      have hS5 : ∀ g, own_R vs2_779 g ↔ (g = b491 ∨ g = b450 ∨ g = b416 ∨ g = b389 ∨ g = b369 ∨ False) := fun g => (pu779_2 g).trans (or_congr Iff.rfl (hS4 g))
                      have hz5 : ∃ q, q < 16 ∧ vs2_779.getD q .null = .null := by
                        obtain ⟨j, h1, h2⟩ := own_free vs2_779 (by rw [pu779_0.1, cn4]; decide)
                        exact ⟨j, by rw [pu779_0.1] at h1; exact h1, h2⟩
                      have hF5 : ∀ g, own_R vs2_779 g ↔ ∃ i, own_r5 i ∧ g = own_sel b369 b389 b416 b450 b491 i := by
                        intro g
                        rw [hS5]
                        constructor
                        · rintro (e | e | e | e | e | e)
                          · exact ⟨4, ⟨by decide, by decide⟩, e⟩
                          · exact ⟨3, ⟨by decide, by decide⟩, e⟩
                          · exact ⟨2, ⟨by decide, by decide⟩, e⟩
                          · exact ⟨1, ⟨by decide, by decide⟩, e⟩
                          · exact ⟨0, ⟨by decide, by decide⟩, e⟩
                          · exact e.elim
                        · rintro ⟨i, hi, e⟩
                          rcases own_five hi with rfl | rfl | rfl | rfl | rfl
                          · exact Or.inr (Or.inr (Or.inr (Or.inr (Or.inl e))))
                          · exact Or.inr (Or.inr (Or.inr (Or.inl e)))
                          · exact Or.inr (Or.inr (Or.inl e))
                          · exact Or.inr (Or.inl e)
                          · exact Or.inl e
                      have inj : ∀ i j, own_r5 i → own_r5 j → own_sel b369 b389 b416 b450 b491 i = own_sel b369 b389 b416 b450 b491 j → i = j := own_selI ne391 ne418 ne452 ne493 ne419 ne453 ne494 ne454 ne495 ne496
                      have pinj : ∀ i j, own_r5 i → own_r5 j → pgs (own_sel b369 b389 b416 b450 b491 i) = pgs (own_sel b369 b389 b416 b450 b491 j) → i = j := by
                        have e : ∀ i, pgs (own_sel b369 b389 b416 b450 b491 i) = own_sel q0 q1 q2 q3 q4 i := fun i => by
                          unfold own_sel; repeat' split
                          all_goals assumption
                        intro i j hi hj h
                        rw [e, e] at h
                        exact own_selI hd0 hd1 hd2 hd3 hd4 hd5 hd6 hd7 hd8 hd9 i j hi hj h
                      have pre802 : ∀ t, Steps p.tables e below (T779.setTop (mkF m 334 #[.val (.long p0), .second, .val (.long p1), .second, .val (.int q4), .val (.int p3), .val (.ref b293), .val (.ref b365), .val (.ref b624), .val (.int ((((p3.toUInt32 >>> ((1 : Int32) &&& 31).toUInt32).toInt32) &&& (65535 : Int32)) % (5 : Int32))), .unset, .unset, .unset] [])) t → Steps p.tables e below (s₁.setTop (entryFrame m #[(.long p0), (.long p1), (.int p2), (.int p3)] maxLocals)) t := fun t kk => pre363 t (by
                          show Steps p.tables e below (T322.setTop (mkF m 148 #[.val (.long p0), .second, .val (.long p1), .second, .val (.int q4), .val (.int p3), .val (.ref b293), .unset, .unset, .unset, .unset, .unset, .unset] [(.int q4), (.int q3)])) _
                          refine XS.icmpYes X322.here hx rfl (pc0 := 148) (pc' := 153) rfl (hb hby at_148) rfl (feq hd9).2 (by decide) (by decide) ?_
                          show Steps p.tables e below (T322.setTop (mkF m 153 #[.val (.long p0), .second, .val (.long p1), .second, .val (.int q4), .val (.int p3), .val (.ref b293), .unset, .unset, .unset, .unset, .unset, .unset] [])) _
                          refine XS.iconst X322.here hx rfl (hb hby at_153) ?_
                          show Steps p.tables e below (T322.setTop (mkF m 154 #[.val (.long p0), .second, .val (.long p1), .second, .val (.int q4), .val (.int p3), .val (.ref b293), .unset, .unset, .unset, .unset, .unset, .unset] [(.int (5 : Int32))])) _
                          refine st365 _ ?_
                          show Steps p.tables e below (T365.setTop (mkF m 157 #[.val (.long p0), .second, .val (.long p1), .second, .val (.int q4), .val (.int p3), .val (.ref b293), .unset, .unset, .unset, .unset, .unset, .unset] [(.ref b365)])) _
                          refine XS.astore X365.here hx rfl (hb hby at_157) rfl rfl (l' := #[.val (.long p0), .second, .val (.long p1), .second, .val (.int q4), .val (.int p3), .val (.ref b293), .val (.ref b365), .unset, .unset, .unset, .unset, .unset]) rfl ?_
                          show Steps p.tables e below (T365.setTop (mkF m 159 #[.val (.long p0), .second, .val (.long p1), .second, .val (.int q4), .val (.int p3), .val (.ref b293), .val (.ref b365), .unset, .unset, .unset, .unset, .unset] [])) _
                          refine XS.aload X365.here hx rfl (hb hby at_159) rfl rfl ?_
                          show Steps p.tables e below (T365.setTop (mkF m 161 #[.val (.long p0), .second, .val (.long p1), .second, .val (.int q4), .val (.int p3), .val (.ref b293), .val (.ref b365), .unset, .unset, .unset, .unset, .unset] [(.ref b365)])) _
                          refine XS.iconst X365.here hx rfl (hb hby at_161) ?_
                          show Steps p.tables e below (T365.setTop (mkF m 162 #[.val (.long p0), .second, .val (.long p1), .second, .val (.int q4), .val (.int p3), .val (.ref b293), .val (.ref b365), .unset, .unset, .unset, .unset, .unset] [(.int (0 : Int32)), (.ref b365)])) _
                          refine st369 _ ?_
                          show Steps p.tables e below (T369.setTop (mkF m 165 #[.val (.long p0), .second, .val (.long p1), .second, .val (.int q4), .val (.int p3), .val (.ref b293), .val (.ref b365), .unset, .unset, .unset, .unset, .unset] [(.ref b369), (.int (0 : Int32)), (.ref b365)])) _
                          refine XS.dup X369.here hx rfl (hb hby at_165) rfl rfl ?_
                          show Steps p.tables e below (T369.setTop (mkF m 166 #[.val (.long p0), .second, .val (.long p1), .second, .val (.int q4), .val (.int p3), .val (.ref b293), .val (.ref b365), .unset, .unset, .unset, .unset, .unset] [(.ref b369), (.ref b369), (.int (0 : Int32)), (.ref b365)])) _
                          refine st377.trans ?_
                          show Steps p.tables e below (T377.setTop (mkF m 169 #[.val (.long p0), .second, .val (.long p1), .second, .val (.int q4), .val (.int p3), .val (.ref b293), .val (.ref b365), .unset, .unset, .unset, .unset, .unset] [(.ref b369), (.int (0 : Int32)), (.ref b365)])) _
                          refine st383 _ ?_
                          show Steps p.tables e below (T383.setTop (mkF m 170 #[.val (.long p0), .second, .val (.long p1), .second, .val (.int q4), .val (.int p3), .val (.ref b293), .val (.ref b365), .unset, .unset, .unset, .unset, .unset] [])) _
                          refine XS.aload X383.here hx rfl (hb hby at_170) rfl rfl ?_
                          show Steps p.tables e below (T383.setTop (mkF m 172 #[.val (.long p0), .second, .val (.long p1), .second, .val (.int q4), .val (.int p3), .val (.ref b293), .val (.ref b365), .unset, .unset, .unset, .unset, .unset] [(.ref b365)])) _
                          refine XS.iconst X383.here hx rfl (hb hby at_172) ?_
                          show Steps p.tables e below (T383.setTop (mkF m 173 #[.val (.long p0), .second, .val (.long p1), .second, .val (.int q4), .val (.int p3), .val (.ref b293), .val (.ref b365), .unset, .unset, .unset, .unset, .unset] [(.int (1 : Int32)), (.ref b365)])) _
                          refine st389 _ ?_
                          show Steps p.tables e below (T389.setTop (mkF m 176 #[.val (.long p0), .second, .val (.long p1), .second, .val (.int q4), .val (.int p3), .val (.ref b293), .val (.ref b365), .unset, .unset, .unset, .unset, .unset] [(.ref b389), (.int (1 : Int32)), (.ref b365)])) _
                          refine XS.dup X389.here hx rfl (hb hby at_176) rfl rfl ?_
                          show Steps p.tables e below (T389.setTop (mkF m 177 #[.val (.long p0), .second, .val (.long p1), .second, .val (.int q4), .val (.int p3), .val (.ref b293), .val (.ref b365), .unset, .unset, .unset, .unset, .unset] [(.ref b389), (.ref b389), (.int (1 : Int32)), (.ref b365)])) _
                          refine st400.trans ?_
                          show Steps p.tables e below (T400.setTop (mkF m 180 #[.val (.long p0), .second, .val (.long p1), .second, .val (.int q4), .val (.int p3), .val (.ref b293), .val (.ref b365), .unset, .unset, .unset, .unset, .unset] [(.ref b389), (.int (1 : Int32)), (.ref b365)])) _
                          refine st408 _ ?_
                          show Steps p.tables e below (T408.setTop (mkF m 181 #[.val (.long p0), .second, .val (.long p1), .second, .val (.int q4), .val (.int p3), .val (.ref b293), .val (.ref b365), .unset, .unset, .unset, .unset, .unset] [])) _
                          refine XS.aload X408.here hx rfl (hb hby at_181) rfl rfl ?_
                          show Steps p.tables e below (T408.setTop (mkF m 183 #[.val (.long p0), .second, .val (.long p1), .second, .val (.int q4), .val (.int p3), .val (.ref b293), .val (.ref b365), .unset, .unset, .unset, .unset, .unset] [(.ref b365)])) _
                          refine XS.iconst X408.here hx rfl (hb hby at_183) ?_
                          show Steps p.tables e below (T408.setTop (mkF m 184 #[.val (.long p0), .second, .val (.long p1), .second, .val (.int q4), .val (.int p3), .val (.ref b293), .val (.ref b365), .unset, .unset, .unset, .unset, .unset] [(.int (2 : Int32)), (.ref b365)])) _
                          refine st416 _ ?_
                          show Steps p.tables e below (T416.setTop (mkF m 187 #[.val (.long p0), .second, .val (.long p1), .second, .val (.int q4), .val (.int p3), .val (.ref b293), .val (.ref b365), .unset, .unset, .unset, .unset, .unset] [(.ref b416), (.int (2 : Int32)), (.ref b365)])) _
                          refine XS.dup X416.here hx rfl (hb hby at_187) rfl rfl ?_
                          show Steps p.tables e below (T416.setTop (mkF m 188 #[.val (.long p0), .second, .val (.long p1), .second, .val (.int q4), .val (.int p3), .val (.ref b293), .val (.ref b365), .unset, .unset, .unset, .unset, .unset] [(.ref b416), (.ref b416), (.int (2 : Int32)), (.ref b365)])) _
                          refine st430.trans ?_
                          show Steps p.tables e below (T430.setTop (mkF m 191 #[.val (.long p0), .second, .val (.long p1), .second, .val (.int q4), .val (.int p3), .val (.ref b293), .val (.ref b365), .unset, .unset, .unset, .unset, .unset] [(.ref b416), (.int (2 : Int32)), (.ref b365)])) _
                          refine st440 _ ?_
                          show Steps p.tables e below (T440.setTop (mkF m 192 #[.val (.long p0), .second, .val (.long p1), .second, .val (.int q4), .val (.int p3), .val (.ref b293), .val (.ref b365), .unset, .unset, .unset, .unset, .unset] [])) _
                          refine XS.aload X440.here hx rfl (hb hby at_192) rfl rfl ?_
                          show Steps p.tables e below (T440.setTop (mkF m 194 #[.val (.long p0), .second, .val (.long p1), .second, .val (.int q4), .val (.int p3), .val (.ref b293), .val (.ref b365), .unset, .unset, .unset, .unset, .unset] [(.ref b365)])) _
                          refine XS.iconst X440.here hx rfl (hb hby at_194) ?_
                          show Steps p.tables e below (T440.setTop (mkF m 195 #[.val (.long p0), .second, .val (.long p1), .second, .val (.int q4), .val (.int p3), .val (.ref b293), .val (.ref b365), .unset, .unset, .unset, .unset, .unset] [(.int (3 : Int32)), (.ref b365)])) _
                          refine st450 _ ?_
                          show Steps p.tables e below (T450.setTop (mkF m 198 #[.val (.long p0), .second, .val (.long p1), .second, .val (.int q4), .val (.int p3), .val (.ref b293), .val (.ref b365), .unset, .unset, .unset, .unset, .unset] [(.ref b450), (.int (3 : Int32)), (.ref b365)])) _
                          refine XS.dup X450.here hx rfl (hb hby at_198) rfl rfl ?_
                          show Steps p.tables e below (T450.setTop (mkF m 199 #[.val (.long p0), .second, .val (.long p1), .second, .val (.int q4), .val (.int p3), .val (.ref b293), .val (.ref b365), .unset, .unset, .unset, .unset, .unset] [(.ref b450), (.ref b450), (.int (3 : Int32)), (.ref b365)])) _
                          refine st467.trans ?_
                          show Steps p.tables e below (T467.setTop (mkF m 202 #[.val (.long p0), .second, .val (.long p1), .second, .val (.int q4), .val (.int p3), .val (.ref b293), .val (.ref b365), .unset, .unset, .unset, .unset, .unset] [(.ref b450), (.int (3 : Int32)), (.ref b365)])) _
                          refine st479 _ ?_
                          show Steps p.tables e below (T479.setTop (mkF m 203 #[.val (.long p0), .second, .val (.long p1), .second, .val (.int q4), .val (.int p3), .val (.ref b293), .val (.ref b365), .unset, .unset, .unset, .unset, .unset] [])) _
                          refine XS.aload X479.here hx rfl (hb hby at_203) rfl rfl ?_
                          show Steps p.tables e below (T479.setTop (mkF m 205 #[.val (.long p0), .second, .val (.long p1), .second, .val (.int q4), .val (.int p3), .val (.ref b293), .val (.ref b365), .unset, .unset, .unset, .unset, .unset] [(.ref b365)])) _
                          refine XS.iconst X479.here hx rfl (hb hby at_205) ?_
                          show Steps p.tables e below (T479.setTop (mkF m 206 #[.val (.long p0), .second, .val (.long p1), .second, .val (.int q4), .val (.int p3), .val (.ref b293), .val (.ref b365), .unset, .unset, .unset, .unset, .unset] [(.int (4 : Int32)), (.ref b365)])) _
                          refine st491 _ ?_
                          show Steps p.tables e below (T491.setTop (mkF m 209 #[.val (.long p0), .second, .val (.long p1), .second, .val (.int q4), .val (.int p3), .val (.ref b293), .val (.ref b365), .unset, .unset, .unset, .unset, .unset] [(.ref b491), (.int (4 : Int32)), (.ref b365)])) _
                          refine XS.dup X491.here hx rfl (hb hby at_209) rfl rfl ?_
                          show Steps p.tables e below (T491.setTop (mkF m 210 #[.val (.long p0), .second, .val (.long p1), .second, .val (.int q4), .val (.int p3), .val (.ref b293), .val (.ref b365), .unset, .unset, .unset, .unset, .unset] [(.ref b491), (.ref b491), (.int (4 : Int32)), (.ref b365)])) _
                          refine st511.trans ?_
                          show Steps p.tables e below (T511.setTop (mkF m 213 #[.val (.long p0), .second, .val (.long p1), .second, .val (.int q4), .val (.int p3), .val (.ref b293), .val (.ref b365), .unset, .unset, .unset, .unset, .unset] [(.ref b491), (.int (4 : Int32)), (.ref b365)])) _
                          refine st525 _ ?_
                          show Steps p.tables e below (T525.setTop (mkF m 214 #[.val (.long p0), .second, .val (.long p1), .second, .val (.int q4), .val (.int p3), .val (.ref b293), .val (.ref b365), .unset, .unset, .unset, .unset, .unset] [])) _
                          refine XS.aload X525.here hx rfl (hb hby at_214) rfl rfl ?_
                          show Steps p.tables e below (T525.setTop (mkF m 216 #[.val (.long p0), .second, .val (.long p1), .second, .val (.int q4), .val (.int p3), .val (.ref b293), .val (.ref b365), .unset, .unset, .unset, .unset, .unset] [(.ref b365)])) _
                          refine XS.iconst X525.here hx rfl (hb hby at_216) ?_
                          show Steps p.tables e below (T525.setTop (mkF m 217 #[.val (.long p0), .second, .val (.long p1), .second, .val (.int q4), .val (.int p3), .val (.ref b293), .val (.ref b365), .unset, .unset, .unset, .unset, .unset] [(.int (0 : Int32)), (.ref b365)])) _
                          refine X525.aaload hx (j := (0 : Int32)) (v := (.ref b369)) (by rw [e525]; exact Ar539.1) (State.isArrayOf_alike hZ.alike Ar539.2.1) rfl Ar539.2.2 hin539 hat539 (g := (mkF m 217 #[.val (.long p0), .second, .val (.long p1), .second, .val (.int q4), .val (.int p3), .val (.ref b293), .val (.ref b365), .unset, .unset, .unset, .unset, .unset] [(.int (0 : Int32)), (.ref b365)])) rfl rfl (hb hby at_217) _ ?_
                          show Steps p.tables e below (T525.setTop (mkF m 218 #[.val (.long p0), .second, .val (.long p1), .second, .val (.int q4), .val (.int p3), .val (.ref b293), .val (.ref b365), .unset, .unset, .unset, .unset, .unset] [(.ref b369)])) _
                          refine XS.aload X525.here hx rfl (hb hby at_218) rfl rfl ?_
                          show Steps p.tables e below (T525.setTop (mkF m 220 #[.val (.long p0), .second, .val (.long p1), .second, .val (.int q4), .val (.int p3), .val (.ref b293), .val (.ref b365), .unset, .unset, .unset, .unset, .unset] [(.ref b293), (.ref b369)])) _
                          refine XS.iconst X525.here hx rfl (hb hby at_220) ?_
                          show Steps p.tables e below (T525.setTop (mkF m 221 #[.val (.long p0), .second, .val (.long p1), .second, .val (.int q4), .val (.int p3), .val (.ref b293), .val (.ref b365), .unset, .unset, .unset, .unset, .unset] [(.int (0 : Int32)), (.ref b293), (.ref b369)])) _
                          refine X525.iaload hx (j := (0 : Int32)) (v := (.int q0)) (by rw [e525]; exact Ar540.1) (State.isArrayOf_alike hZ.alike Ar540.2.1) Ar540.2.2 hin540 hat540 (g := (mkF m 221 #[.val (.long p0), .second, .val (.long p1), .second, .val (.int q4), .val (.int p3), .val (.ref b293), .val (.ref b365), .unset, .unset, .unset, .unset, .unset] [(.int (0 : Int32)), (.ref b293), (.ref b369)])) rfl rfl (hb hby at_221) _ ?_
                          show Steps p.tables e below (T525.setTop (mkF m 222 #[.val (.long p0), .second, .val (.long p1), .second, .val (.int q4), .val (.int p3), .val (.ref b293), .val (.ref b365), .unset, .unset, .unset, .unset, .unset] [(.int q0), (.ref b369)])) _
                          refine st541 _ ?_
                          show Steps p.tables e below (T541.setTop (mkF m 225 #[.val (.long p0), .second, .val (.long p1), .second, .val (.int q4), .val (.int p3), .val (.ref b293), .val (.ref b365), .unset, .unset, .unset, .unset, .unset] [])) _
                          refine XS.aload X541.here hx rfl (hb hby at_225) rfl rfl ?_
                          show Steps p.tables e below (T541.setTop (mkF m 227 #[.val (.long p0), .second, .val (.long p1), .second, .val (.int q4), .val (.int p3), .val (.ref b293), .val (.ref b365), .unset, .unset, .unset, .unset, .unset] [(.ref b365)])) _
                          refine XS.iconst X541.here hx rfl (hb hby at_227) ?_
                          show Steps p.tables e below (T541.setTop (mkF m 228 #[.val (.long p0), .second, .val (.long p1), .second, .val (.int q4), .val (.int p3), .val (.ref b293), .val (.ref b365), .unset, .unset, .unset, .unset, .unset] [(.int (1 : Int32)), (.ref b365)])) _
                          refine X541.aaload hx (j := (1 : Int32)) (v := (.ref b389)) (by rw [e541]; exact Ar556.1) (State.isArrayOf_alike hZ.alike Ar556.2.1) rfl Ar556.2.2 hin556 hat556 (g := (mkF m 228 #[.val (.long p0), .second, .val (.long p1), .second, .val (.int q4), .val (.int p3), .val (.ref b293), .val (.ref b365), .unset, .unset, .unset, .unset, .unset] [(.int (1 : Int32)), (.ref b365)])) rfl rfl (hb hby at_228) _ ?_
                          show Steps p.tables e below (T541.setTop (mkF m 229 #[.val (.long p0), .second, .val (.long p1), .second, .val (.int q4), .val (.int p3), .val (.ref b293), .val (.ref b365), .unset, .unset, .unset, .unset, .unset] [(.ref b389)])) _
                          refine XS.aload X541.here hx rfl (hb hby at_229) rfl rfl ?_
                          show Steps p.tables e below (T541.setTop (mkF m 231 #[.val (.long p0), .second, .val (.long p1), .second, .val (.int q4), .val (.int p3), .val (.ref b293), .val (.ref b365), .unset, .unset, .unset, .unset, .unset] [(.ref b293), (.ref b389)])) _
                          refine XS.iconst X541.here hx rfl (hb hby at_231) ?_
                          show Steps p.tables e below (T541.setTop (mkF m 232 #[.val (.long p0), .second, .val (.long p1), .second, .val (.int q4), .val (.int p3), .val (.ref b293), .val (.ref b365), .unset, .unset, .unset, .unset, .unset] [(.int (1 : Int32)), (.ref b293), (.ref b389)])) _
                          refine X541.iaload hx (j := (1 : Int32)) (v := (.int q1)) (by rw [e541]; exact Ar557.1) (State.isArrayOf_alike hZ.alike Ar557.2.1) Ar557.2.2 hin557 hat557 (g := (mkF m 232 #[.val (.long p0), .second, .val (.long p1), .second, .val (.int q4), .val (.int p3), .val (.ref b293), .val (.ref b365), .unset, .unset, .unset, .unset, .unset] [(.int (1 : Int32)), (.ref b293), (.ref b389)])) rfl rfl (hb hby at_232) _ ?_
                          show Steps p.tables e below (T541.setTop (mkF m 233 #[.val (.long p0), .second, .val (.long p1), .second, .val (.int q4), .val (.int p3), .val (.ref b293), .val (.ref b365), .unset, .unset, .unset, .unset, .unset] [(.int q1), (.ref b389)])) _
                          refine st558 _ ?_
                          show Steps p.tables e below (T558.setTop (mkF m 236 #[.val (.long p0), .second, .val (.long p1), .second, .val (.int q4), .val (.int p3), .val (.ref b293), .val (.ref b365), .unset, .unset, .unset, .unset, .unset] [])) _
                          refine XS.aload X558.here hx rfl (hb hby at_236) rfl rfl ?_
                          show Steps p.tables e below (T558.setTop (mkF m 238 #[.val (.long p0), .second, .val (.long p1), .second, .val (.int q4), .val (.int p3), .val (.ref b293), .val (.ref b365), .unset, .unset, .unset, .unset, .unset] [(.ref b365)])) _
                          refine XS.iconst X558.here hx rfl (hb hby at_238) ?_
                          show Steps p.tables e below (T558.setTop (mkF m 239 #[.val (.long p0), .second, .val (.long p1), .second, .val (.int q4), .val (.int p3), .val (.ref b293), .val (.ref b365), .unset, .unset, .unset, .unset, .unset] [(.int (2 : Int32)), (.ref b365)])) _
                          refine X558.aaload hx (j := (2 : Int32)) (v := (.ref b416)) (by rw [e558]; exact Ar573.1) (State.isArrayOf_alike hZ.alike Ar573.2.1) rfl Ar573.2.2 hin573 hat573 (g := (mkF m 239 #[.val (.long p0), .second, .val (.long p1), .second, .val (.int q4), .val (.int p3), .val (.ref b293), .val (.ref b365), .unset, .unset, .unset, .unset, .unset] [(.int (2 : Int32)), (.ref b365)])) rfl rfl (hb hby at_239) _ ?_
                          show Steps p.tables e below (T558.setTop (mkF m 240 #[.val (.long p0), .second, .val (.long p1), .second, .val (.int q4), .val (.int p3), .val (.ref b293), .val (.ref b365), .unset, .unset, .unset, .unset, .unset] [(.ref b416)])) _
                          refine XS.aload X558.here hx rfl (hb hby at_240) rfl rfl ?_
                          show Steps p.tables e below (T558.setTop (mkF m 242 #[.val (.long p0), .second, .val (.long p1), .second, .val (.int q4), .val (.int p3), .val (.ref b293), .val (.ref b365), .unset, .unset, .unset, .unset, .unset] [(.ref b293), (.ref b416)])) _
                          refine XS.iconst X558.here hx rfl (hb hby at_242) ?_
                          show Steps p.tables e below (T558.setTop (mkF m 243 #[.val (.long p0), .second, .val (.long p1), .second, .val (.int q4), .val (.int p3), .val (.ref b293), .val (.ref b365), .unset, .unset, .unset, .unset, .unset] [(.int (2 : Int32)), (.ref b293), (.ref b416)])) _
                          refine X558.iaload hx (j := (2 : Int32)) (v := (.int q2)) (by rw [e558]; exact Ar574.1) (State.isArrayOf_alike hZ.alike Ar574.2.1) Ar574.2.2 hin574 hat574 (g := (mkF m 243 #[.val (.long p0), .second, .val (.long p1), .second, .val (.int q4), .val (.int p3), .val (.ref b293), .val (.ref b365), .unset, .unset, .unset, .unset, .unset] [(.int (2 : Int32)), (.ref b293), (.ref b416)])) rfl rfl (hb hby at_243) _ ?_
                          show Steps p.tables e below (T558.setTop (mkF m 244 #[.val (.long p0), .second, .val (.long p1), .second, .val (.int q4), .val (.int p3), .val (.ref b293), .val (.ref b365), .unset, .unset, .unset, .unset, .unset] [(.int q2), (.ref b416)])) _
                          refine st575 _ ?_
                          show Steps p.tables e below (T575.setTop (mkF m 247 #[.val (.long p0), .second, .val (.long p1), .second, .val (.int q4), .val (.int p3), .val (.ref b293), .val (.ref b365), .unset, .unset, .unset, .unset, .unset] [])) _
                          refine XS.aload X575.here hx rfl (hb hby at_247) rfl rfl ?_
                          show Steps p.tables e below (T575.setTop (mkF m 249 #[.val (.long p0), .second, .val (.long p1), .second, .val (.int q4), .val (.int p3), .val (.ref b293), .val (.ref b365), .unset, .unset, .unset, .unset, .unset] [(.ref b365)])) _
                          refine XS.iconst X575.here hx rfl (hb hby at_249) ?_
                          show Steps p.tables e below (T575.setTop (mkF m 250 #[.val (.long p0), .second, .val (.long p1), .second, .val (.int q4), .val (.int p3), .val (.ref b293), .val (.ref b365), .unset, .unset, .unset, .unset, .unset] [(.int (3 : Int32)), (.ref b365)])) _
                          refine X575.aaload hx (j := (3 : Int32)) (v := (.ref b450)) (by rw [e575]; exact Ar590.1) (State.isArrayOf_alike hZ.alike Ar590.2.1) rfl Ar590.2.2 hin590 hat590 (g := (mkF m 250 #[.val (.long p0), .second, .val (.long p1), .second, .val (.int q4), .val (.int p3), .val (.ref b293), .val (.ref b365), .unset, .unset, .unset, .unset, .unset] [(.int (3 : Int32)), (.ref b365)])) rfl rfl (hb hby at_250) _ ?_
                          show Steps p.tables e below (T575.setTop (mkF m 251 #[.val (.long p0), .second, .val (.long p1), .second, .val (.int q4), .val (.int p3), .val (.ref b293), .val (.ref b365), .unset, .unset, .unset, .unset, .unset] [(.ref b450)])) _
                          refine XS.aload X575.here hx rfl (hb hby at_251) rfl rfl ?_
                          show Steps p.tables e below (T575.setTop (mkF m 253 #[.val (.long p0), .second, .val (.long p1), .second, .val (.int q4), .val (.int p3), .val (.ref b293), .val (.ref b365), .unset, .unset, .unset, .unset, .unset] [(.ref b293), (.ref b450)])) _
                          refine XS.iconst X575.here hx rfl (hb hby at_253) ?_
                          show Steps p.tables e below (T575.setTop (mkF m 254 #[.val (.long p0), .second, .val (.long p1), .second, .val (.int q4), .val (.int p3), .val (.ref b293), .val (.ref b365), .unset, .unset, .unset, .unset, .unset] [(.int (3 : Int32)), (.ref b293), (.ref b450)])) _
                          refine X575.iaload hx (j := (3 : Int32)) (v := (.int q3)) (by rw [e575]; exact Ar591.1) (State.isArrayOf_alike hZ.alike Ar591.2.1) Ar591.2.2 hin591 hat591 (g := (mkF m 254 #[.val (.long p0), .second, .val (.long p1), .second, .val (.int q4), .val (.int p3), .val (.ref b293), .val (.ref b365), .unset, .unset, .unset, .unset, .unset] [(.int (3 : Int32)), (.ref b293), (.ref b450)])) rfl rfl (hb hby at_254) _ ?_
                          show Steps p.tables e below (T575.setTop (mkF m 255 #[.val (.long p0), .second, .val (.long p1), .second, .val (.int q4), .val (.int p3), .val (.ref b293), .val (.ref b365), .unset, .unset, .unset, .unset, .unset] [(.int q3), (.ref b450)])) _
                          refine st592 _ ?_
                          show Steps p.tables e below (T592.setTop (mkF m 258 #[.val (.long p0), .second, .val (.long p1), .second, .val (.int q4), .val (.int p3), .val (.ref b293), .val (.ref b365), .unset, .unset, .unset, .unset, .unset] [])) _
                          refine XS.aload X592.here hx rfl (hb hby at_258) rfl rfl ?_
                          show Steps p.tables e below (T592.setTop (mkF m 260 #[.val (.long p0), .second, .val (.long p1), .second, .val (.int q4), .val (.int p3), .val (.ref b293), .val (.ref b365), .unset, .unset, .unset, .unset, .unset] [(.ref b365)])) _
                          refine XS.iconst X592.here hx rfl (hb hby at_260) ?_
                          show Steps p.tables e below (T592.setTop (mkF m 261 #[.val (.long p0), .second, .val (.long p1), .second, .val (.int q4), .val (.int p3), .val (.ref b293), .val (.ref b365), .unset, .unset, .unset, .unset, .unset] [(.int (4 : Int32)), (.ref b365)])) _
                          refine X592.aaload hx (j := (4 : Int32)) (v := (.ref b491)) (by rw [e592]; exact Ar607.1) (State.isArrayOf_alike hZ.alike Ar607.2.1) rfl Ar607.2.2 hin607 hat607 (g := (mkF m 261 #[.val (.long p0), .second, .val (.long p1), .second, .val (.int q4), .val (.int p3), .val (.ref b293), .val (.ref b365), .unset, .unset, .unset, .unset, .unset] [(.int (4 : Int32)), (.ref b365)])) rfl rfl (hb hby at_261) _ ?_
                          show Steps p.tables e below (T592.setTop (mkF m 262 #[.val (.long p0), .second, .val (.long p1), .second, .val (.int q4), .val (.int p3), .val (.ref b293), .val (.ref b365), .unset, .unset, .unset, .unset, .unset] [(.ref b491)])) _
                          refine XS.aload X592.here hx rfl (hb hby at_262) rfl rfl ?_
                          show Steps p.tables e below (T592.setTop (mkF m 264 #[.val (.long p0), .second, .val (.long p1), .second, .val (.int q4), .val (.int p3), .val (.ref b293), .val (.ref b365), .unset, .unset, .unset, .unset, .unset] [(.ref b293), (.ref b491)])) _
                          refine XS.iconst X592.here hx rfl (hb hby at_264) ?_
                          show Steps p.tables e below (T592.setTop (mkF m 265 #[.val (.long p0), .second, .val (.long p1), .second, .val (.int q4), .val (.int p3), .val (.ref b293), .val (.ref b365), .unset, .unset, .unset, .unset, .unset] [(.int (4 : Int32)), (.ref b293), (.ref b491)])) _
                          refine X592.iaload hx (j := (4 : Int32)) (v := (.int q4)) (by rw [e592]; exact Ar608.1) (State.isArrayOf_alike hZ.alike Ar608.2.1) Ar608.2.2 hin608 hat608 (g := (mkF m 265 #[.val (.long p0), .second, .val (.long p1), .second, .val (.int q4), .val (.int p3), .val (.ref b293), .val (.ref b365), .unset, .unset, .unset, .unset, .unset] [(.int (4 : Int32)), (.ref b293), (.ref b491)])) rfl rfl (hb hby at_265) _ ?_
                          show Steps p.tables e below (T592.setTop (mkF m 266 #[.val (.long p0), .second, .val (.long p1), .second, .val (.int q4), .val (.int p3), .val (.ref b293), .val (.ref b365), .unset, .unset, .unset, .unset, .unset] [(.int q4), (.ref b491)])) _
                          refine st609 _ ?_
                          show Steps p.tables e below (T609.setTop (mkF m 269 #[.val (.long p0), .second, .val (.long p1), .second, .val (.int q4), .val (.int p3), .val (.ref b293), .val (.ref b365), .unset, .unset, .unset, .unset, .unset] [])) _
                          refine st624 _ ?_
                          show Steps p.tables e below (T624.setTop (mkF m 272 #[.val (.long p0), .second, .val (.long p1), .second, .val (.int q4), .val (.int p3), .val (.ref b293), .val (.ref b365), .unset, .unset, .unset, .unset, .unset] [(.ref b624)])) _
                          refine XS.dup X624.here hx rfl (hb hby at_272) rfl rfl ?_
                          show Steps p.tables e below (T624.setTop (mkF m 273 #[.val (.long p0), .second, .val (.long p1), .second, .val (.int q4), .val (.int p3), .val (.ref b293), .val (.ref b365), .unset, .unset, .unset, .unset, .unset] [(.ref b624), (.ref b624)])) _
                          refine st648.trans ?_
                          show Steps p.tables e below (T648.setTop (mkF m 276 #[.val (.long p0), .second, .val (.long p1), .second, .val (.int q4), .val (.int p3), .val (.ref b293), .val (.ref b365), .unset, .unset, .unset, .unset, .unset] [(.ref b624)])) _
                          refine XS.astore X648.here hx rfl (hb hby at_276) rfl rfl (l' := #[.val (.long p0), .second, .val (.long p1), .second, .val (.int q4), .val (.int p3), .val (.ref b293), .val (.ref b365), .val (.ref b624), .unset, .unset, .unset, .unset]) rfl ?_
                          show Steps p.tables e below (T648.setTop (mkF m 278 #[.val (.long p0), .second, .val (.long p1), .second, .val (.int q4), .val (.int p3), .val (.ref b293), .val (.ref b365), .val (.ref b624), .unset, .unset, .unset, .unset] [])) _
                          refine XS.aload X648.here hx rfl (hb hby at_278) rfl rfl ?_
                          show Steps p.tables e below (T648.setTop (mkF m 280 #[.val (.long p0), .second, .val (.long p1), .second, .val (.int q4), .val (.int p3), .val (.ref b293), .val (.ref b365), .val (.ref b624), .unset, .unset, .unset, .unset] [(.ref b624)])) _
                          refine XS.aload X648.here hx rfl (hb hby at_280) rfl rfl ?_
                          show Steps p.tables e below (T648.setTop (mkF m 282 #[.val (.long p0), .second, .val (.long p1), .second, .val (.int q4), .val (.int p3), .val (.ref b293), .val (.ref b365), .val (.ref b624), .unset, .unset, .unset, .unset] [(.ref b365), (.ref b624)])) _
                          refine XS.iconst X648.here hx rfl (hb hby at_282) ?_
                          show Steps p.tables e below (T648.setTop (mkF m 283 #[.val (.long p0), .second, .val (.long p1), .second, .val (.int q4), .val (.int p3), .val (.ref b293), .val (.ref b365), .val (.ref b624), .unset, .unset, .unset, .unset] [(.int (0 : Int32)), (.ref b365), (.ref b624)])) _
                          refine X648.aaload hx (j := (0 : Int32)) (v := (.ref b369)) Ar682.1 (State.isArrayOf_alike hZ.alike Ar682.2.1) rfl Ar682.2.2 hin682 hat682 (g := (mkF m 283 #[.val (.long p0), .second, .val (.long p1), .second, .val (.int q4), .val (.int p3), .val (.ref b293), .val (.ref b365), .val (.ref b624), .unset, .unset, .unset, .unset] [(.int (0 : Int32)), (.ref b365), (.ref b624)])) rfl rfl (hb hby at_283) _ ?_
                          show Steps p.tables e below (T648.setTop (mkF m 284 #[.val (.long p0), .second, .val (.long p1), .second, .val (.int q4), .val (.int p3), .val (.ref b293), .val (.ref b365), .val (.ref b624), .unset, .unset, .unset, .unset] [(.ref b369), (.ref b624)])) _
                          refine st683.trans ?_
                          show Steps p.tables e below (T683.setTop (mkF m 287 #[.val (.long p0), .second, .val (.long p1), .second, .val (.int q4), .val (.int p3), .val (.ref b293), .val (.ref b365), .val (.ref b624), .unset, .unset, .unset, .unset] [])) _
                          refine XS.aload X683.here hx rfl (hb hby at_287) rfl rfl ?_
                          show Steps p.tables e below (T683.setTop (mkF m 289 #[.val (.long p0), .second, .val (.long p1), .second, .val (.int q4), .val (.int p3), .val (.ref b293), .val (.ref b365), .val (.ref b624), .unset, .unset, .unset, .unset] [(.ref b624)])) _
                          refine XS.aload X683.here hx rfl (hb hby at_289) rfl rfl ?_
                          show Steps p.tables e below (T683.setTop (mkF m 291 #[.val (.long p0), .second, .val (.long p1), .second, .val (.int q4), .val (.int p3), .val (.ref b293), .val (.ref b365), .val (.ref b624), .unset, .unset, .unset, .unset] [(.ref b365), (.ref b624)])) _
                          refine XS.iconst X683.here hx rfl (hb hby at_291) ?_
                          show Steps p.tables e below (T683.setTop (mkF m 292 #[.val (.long p0), .second, .val (.long p1), .second, .val (.int q4), .val (.int p3), .val (.ref b293), .val (.ref b365), .val (.ref b624), .unset, .unset, .unset, .unset] [(.int (1 : Int32)), (.ref b365), (.ref b624)])) _
                          refine X683.aaload hx (j := (1 : Int32)) (v := (.ref b389)) Ar706.1 (State.isArrayOf_alike hZ.alike Ar706.2.1) rfl Ar706.2.2 hin706 hat706 (g := (mkF m 292 #[.val (.long p0), .second, .val (.long p1), .second, .val (.int q4), .val (.int p3), .val (.ref b293), .val (.ref b365), .val (.ref b624), .unset, .unset, .unset, .unset] [(.int (1 : Int32)), (.ref b365), (.ref b624)])) rfl rfl (hb hby at_292) _ ?_
                          show Steps p.tables e below (T683.setTop (mkF m 293 #[.val (.long p0), .second, .val (.long p1), .second, .val (.int q4), .val (.int p3), .val (.ref b293), .val (.ref b365), .val (.ref b624), .unset, .unset, .unset, .unset] [(.ref b389), (.ref b624)])) _
                          refine st707.trans ?_
                          show Steps p.tables e below (T707.setTop (mkF m 296 #[.val (.long p0), .second, .val (.long p1), .second, .val (.int q4), .val (.int p3), .val (.ref b293), .val (.ref b365), .val (.ref b624), .unset, .unset, .unset, .unset] [])) _
                          refine XS.aload X707.here hx rfl (hb hby at_296) rfl rfl ?_
                          show Steps p.tables e below (T707.setTop (mkF m 298 #[.val (.long p0), .second, .val (.long p1), .second, .val (.int q4), .val (.int p3), .val (.ref b293), .val (.ref b365), .val (.ref b624), .unset, .unset, .unset, .unset] [(.ref b624)])) _
                          refine XS.aload X707.here hx rfl (hb hby at_298) rfl rfl ?_
                          show Steps p.tables e below (T707.setTop (mkF m 300 #[.val (.long p0), .second, .val (.long p1), .second, .val (.int q4), .val (.int p3), .val (.ref b293), .val (.ref b365), .val (.ref b624), .unset, .unset, .unset, .unset] [(.ref b365), (.ref b624)])) _
                          refine XS.iconst X707.here hx rfl (hb hby at_300) ?_
                          show Steps p.tables e below (T707.setTop (mkF m 301 #[.val (.long p0), .second, .val (.long p1), .second, .val (.int q4), .val (.int p3), .val (.ref b293), .val (.ref b365), .val (.ref b624), .unset, .unset, .unset, .unset] [(.int (2 : Int32)), (.ref b365), (.ref b624)])) _
                          refine X707.aaload hx (j := (2 : Int32)) (v := (.ref b416)) Ar730.1 (State.isArrayOf_alike hZ.alike Ar730.2.1) rfl Ar730.2.2 hin730 hat730 (g := (mkF m 301 #[.val (.long p0), .second, .val (.long p1), .second, .val (.int q4), .val (.int p3), .val (.ref b293), .val (.ref b365), .val (.ref b624), .unset, .unset, .unset, .unset] [(.int (2 : Int32)), (.ref b365), (.ref b624)])) rfl rfl (hb hby at_301) _ ?_
                          show Steps p.tables e below (T707.setTop (mkF m 302 #[.val (.long p0), .second, .val (.long p1), .second, .val (.int q4), .val (.int p3), .val (.ref b293), .val (.ref b365), .val (.ref b624), .unset, .unset, .unset, .unset] [(.ref b416), (.ref b624)])) _
                          refine st731.trans ?_
                          show Steps p.tables e below (T731.setTop (mkF m 305 #[.val (.long p0), .second, .val (.long p1), .second, .val (.int q4), .val (.int p3), .val (.ref b293), .val (.ref b365), .val (.ref b624), .unset, .unset, .unset, .unset] [])) _
                          refine XS.aload X731.here hx rfl (hb hby at_305) rfl rfl ?_
                          show Steps p.tables e below (T731.setTop (mkF m 307 #[.val (.long p0), .second, .val (.long p1), .second, .val (.int q4), .val (.int p3), .val (.ref b293), .val (.ref b365), .val (.ref b624), .unset, .unset, .unset, .unset] [(.ref b624)])) _
                          refine XS.aload X731.here hx rfl (hb hby at_307) rfl rfl ?_
                          show Steps p.tables e below (T731.setTop (mkF m 309 #[.val (.long p0), .second, .val (.long p1), .second, .val (.int q4), .val (.int p3), .val (.ref b293), .val (.ref b365), .val (.ref b624), .unset, .unset, .unset, .unset] [(.ref b365), (.ref b624)])) _
                          refine XS.iconst X731.here hx rfl (hb hby at_309) ?_
                          show Steps p.tables e below (T731.setTop (mkF m 310 #[.val (.long p0), .second, .val (.long p1), .second, .val (.int q4), .val (.int p3), .val (.ref b293), .val (.ref b365), .val (.ref b624), .unset, .unset, .unset, .unset] [(.int (3 : Int32)), (.ref b365), (.ref b624)])) _
                          refine X731.aaload hx (j := (3 : Int32)) (v := (.ref b450)) Ar754.1 (State.isArrayOf_alike hZ.alike Ar754.2.1) rfl Ar754.2.2 hin754 hat754 (g := (mkF m 310 #[.val (.long p0), .second, .val (.long p1), .second, .val (.int q4), .val (.int p3), .val (.ref b293), .val (.ref b365), .val (.ref b624), .unset, .unset, .unset, .unset] [(.int (3 : Int32)), (.ref b365), (.ref b624)])) rfl rfl (hb hby at_310) _ ?_
                          show Steps p.tables e below (T731.setTop (mkF m 311 #[.val (.long p0), .second, .val (.long p1), .second, .val (.int q4), .val (.int p3), .val (.ref b293), .val (.ref b365), .val (.ref b624), .unset, .unset, .unset, .unset] [(.ref b450), (.ref b624)])) _
                          refine st755.trans ?_
                          show Steps p.tables e below (T755.setTop (mkF m 314 #[.val (.long p0), .second, .val (.long p1), .second, .val (.int q4), .val (.int p3), .val (.ref b293), .val (.ref b365), .val (.ref b624), .unset, .unset, .unset, .unset] [])) _
                          refine XS.aload X755.here hx rfl (hb hby at_314) rfl rfl ?_
                          show Steps p.tables e below (T755.setTop (mkF m 316 #[.val (.long p0), .second, .val (.long p1), .second, .val (.int q4), .val (.int p3), .val (.ref b293), .val (.ref b365), .val (.ref b624), .unset, .unset, .unset, .unset] [(.ref b624)])) _
                          refine XS.aload X755.here hx rfl (hb hby at_316) rfl rfl ?_
                          show Steps p.tables e below (T755.setTop (mkF m 318 #[.val (.long p0), .second, .val (.long p1), .second, .val (.int q4), .val (.int p3), .val (.ref b293), .val (.ref b365), .val (.ref b624), .unset, .unset, .unset, .unset] [(.ref b365), (.ref b624)])) _
                          refine XS.iconst X755.here hx rfl (hb hby at_318) ?_
                          show Steps p.tables e below (T755.setTop (mkF m 319 #[.val (.long p0), .second, .val (.long p1), .second, .val (.int q4), .val (.int p3), .val (.ref b293), .val (.ref b365), .val (.ref b624), .unset, .unset, .unset, .unset] [(.int (4 : Int32)), (.ref b365), (.ref b624)])) _
                          refine X755.aaload hx (j := (4 : Int32)) (v := (.ref b491)) Ar778.1 (State.isArrayOf_alike hZ.alike Ar778.2.1) rfl Ar778.2.2 hin778 hat778 (g := (mkF m 319 #[.val (.long p0), .second, .val (.long p1), .second, .val (.int q4), .val (.int p3), .val (.ref b293), .val (.ref b365), .val (.ref b624), .unset, .unset, .unset, .unset] [(.int (4 : Int32)), (.ref b365), (.ref b624)])) rfl rfl (hb hby at_319) _ ?_
                          show Steps p.tables e below (T755.setTop (mkF m 320 #[.val (.long p0), .second, .val (.long p1), .second, .val (.int q4), .val (.int p3), .val (.ref b293), .val (.ref b365), .val (.ref b624), .unset, .unset, .unset, .unset] [(.ref b491), (.ref b624)])) _
                          refine st779.trans ?_
                          show Steps p.tables e below (T779.setTop (mkF m 323 #[.val (.long p0), .second, .val (.long p1), .second, .val (.int q4), .val (.int p3), .val (.ref b293), .val (.ref b365), .val (.ref b624), .unset, .unset, .unset, .unset] [])) _
                          refine XS.iload X779.here hx rfl (hb hby at_323) rfl ?_
                          show Steps p.tables e below (T779.setTop (mkF m 325 #[.val (.long p0), .second, .val (.long p1), .second, .val (.int q4), .val (.int p3), .val (.ref b293), .val (.ref b365), .val (.ref b624), .unset, .unset, .unset, .unset] [(.int p3)])) _
                          refine XS.iconst X779.here hx rfl (hb hby at_325) ?_
                          show Steps p.tables e below (T779.setTop (mkF m 326 #[.val (.long p0), .second, .val (.long p1), .second, .val (.int q4), .val (.int p3), .val (.ref b293), .val (.ref b365), .val (.ref b624), .unset, .unset, .unset, .unset] [(.int (1 : Int32)), (.int p3)])) _
                          refine XS.iushr X779.here hx rfl (hb hby at_326) rfl ?_
                          show Steps p.tables e below (T779.setTop (mkF m 327 #[.val (.long p0), .second, .val (.long p1), .second, .val (.int q4), .val (.int p3), .val (.ref b293), .val (.ref b365), .val (.ref b624), .unset, .unset, .unset, .unset] [(.int ((p3.toUInt32 >>> ((1 : Int32) &&& 31).toUInt32).toInt32))])) _
                          refine X779.ldcInt hx hown (mvT hZ (hw _ (List.mem_of_getElem? (i := 46) rfl))) (g := (mkF m 327 #[.val (.long p0), .second, .val (.long p1), .second, .val (.int q4), .val (.int p3), .val (.ref b293), .val (.ref b365), .val (.ref b624), .unset, .unset, .unset, .unset] [(.int ((p3.toUInt32 >>> ((1 : Int32) &&& 31).toUInt32).toInt32))])) rfl (hb hby at_327) _ ?_
                          show Steps p.tables e below (T779.setTop (mkF m 329 #[.val (.long p0), .second, .val (.long p1), .second, .val (.int q4), .val (.int p3), .val (.ref b293), .val (.ref b365), .val (.ref b624), .unset, .unset, .unset, .unset] [(.int (65535 : Int32)), (.int ((p3.toUInt32 >>> ((1 : Int32) &&& 31).toUInt32).toInt32))])) _
                          refine XS.iand X779.here hx rfl (hb hby at_329) rfl ?_
                          show Steps p.tables e below (T779.setTop (mkF m 330 #[.val (.long p0), .second, .val (.long p1), .second, .val (.int q4), .val (.int p3), .val (.ref b293), .val (.ref b365), .val (.ref b624), .unset, .unset, .unset, .unset] [(.int (((p3.toUInt32 >>> ((1 : Int32) &&& 31).toUInt32).toInt32) &&& (65535 : Int32)))])) _
                          refine XS.iconst X779.here hx rfl (hb hby at_330) ?_
                          show Steps p.tables e below (T779.setTop (mkF m 331 #[.val (.long p0), .second, .val (.long p1), .second, .val (.int q4), .val (.int p3), .val (.ref b293), .val (.ref b365), .val (.ref b624), .unset, .unset, .unset, .unset] [(.int (5 : Int32)), (.int (((p3.toUInt32 >>> ((1 : Int32) &&& 31).toUInt32).toInt32) &&& (65535 : Int32)))])) _
                          refine iremM X779 hx rfl (hb hby at_331) rfl (by decide) ?_
                          show Steps p.tables e below (T779.setTop (mkF m 332 #[.val (.long p0), .second, .val (.long p1), .second, .val (.int q4), .val (.int p3), .val (.ref b293), .val (.ref b365), .val (.ref b624), .unset, .unset, .unset, .unset] [(.int ((((p3.toUInt32 >>> ((1 : Int32) &&& 31).toUInt32).toInt32) &&& (65535 : Int32)) % (5 : Int32)))])) _
                          refine XS.istore X779.here hx rfl (hb hby at_332) rfl (l' := #[.val (.long p0), .second, .val (.long p1), .second, .val (.int q4), .val (.int p3), .val (.ref b293), .val (.ref b365), .val (.ref b624), .val (.int ((((p3.toUInt32 >>> ((1 : Int32) &&& 31).toUInt32).toInt32) &&& (65535 : Int32)) % (5 : Int32))), .unset, .unset, .unset]) rfl ?_
                          exact kk)
                      obtain ⟨iv, hv_iv⟩ : ∃ z : Int32, z = ((((p3.toUInt32 >>> ((1 : Int32) &&& 31).toUInt32).toInt32) &&& (65535 : Int32)) % (5 : Int32)) := ⟨_, rfl⟩
                      have pre803 : ∀ t, Steps p.tables e below (T779.setTop (mkF m 334 #[.val (.long p0), .second, .val (.long p1), .second, .val (.int q4), .val (.int p3), .val (.ref b293), .val (.ref b365), .val (.ref b624), .val (.int iv), .unset, .unset, .unset] [])) t → Steps p.tables e below (s₁.setTop (entryFrame m #[(.long p0), (.long p1), (.int p2), (.int p3)] maxLocals)) t := by subst hv_iv; exact pre802
                      have hiv : own_r5 iv := by rw [hv_iv]; exact own_iv _
                      have pre804 : ∀ t, Steps p.tables e below (T779.setTop (mkF m 338 #[.val (.long p0), .second, .val (.long p1), .second, .val (.int q4), .val (.int p3), .val (.ref b293), .val (.ref b365), .val (.ref b624), .val (.int iv), .unset, .unset, .unset] [(.int (p3 &&& (1 : Int32)))])) t → Steps p.tables e below (s₁.setTop (entryFrame m #[(.long p0), (.long p1), (.int p2), (.int p3)] maxLocals)) t := fun t kk => pre803 t (by
                          show Steps p.tables e below (T779.setTop (mkF m 334 #[.val (.long p0), .second, .val (.long p1), .second, .val (.int q4), .val (.int p3), .val (.ref b293), .val (.ref b365), .val (.ref b624), .val (.int iv), .unset, .unset, .unset] [])) _
                          refine XS.iload X779.here hx rfl (hb hby at_334) rfl ?_
                          show Steps p.tables e below (T779.setTop (mkF m 336 #[.val (.long p0), .second, .val (.long p1), .second, .val (.int q4), .val (.int p3), .val (.ref b293), .val (.ref b365), .val (.ref b624), .val (.int iv), .unset, .unset, .unset] [(.int p3)])) _
                          refine XS.iconst X779.here hx rfl (hb hby at_336) ?_
                          show Steps p.tables e below (T779.setTop (mkF m 337 #[.val (.long p0), .second, .val (.long p1), .second, .val (.int q4), .val (.int p3), .val (.ref b293), .val (.ref b365), .val (.ref b624), .val (.int iv), .unset, .unset, .unset] [(.int (1 : Int32)), (.int p3)])) _
                          refine XS.iand X779.here hx rfl (hb hby at_337) rfl ?_
                          exact kk)
                      obtain ⟨tw, hv_tw, pre808j⟩ : ∃ (tw : Int32), tw = (if (p3 &&& (1 : Int32)) = (0 : Int32) then (0 : Int32) else (1 : Int32)) ∧ ∀ t, Steps p.tables e below (T779.setTop (mkF m 348 #[.val (.long p0), .second, .val (.long p1), .second, .val (.int q4), .val (.int p3), .val (.ref b293), .val (.ref b365), .val (.ref b624), .val (.int iv), .val (.int tw), .unset, .unset] [])) t → Steps p.tables e below (s₁.setTop (entryFrame m #[(.long p0), (.long p1), (.int p2), (.int p3)] maxLocals)) t := by
                        by_cases hc805 : (p3 &&& (1 : Int32)) = (0 : Int32)
                        · have pre806 : ∀ t, Steps p.tables e below (T779.setTop (mkF m 348 #[.val (.long p0), .second, .val (.long p1), .second, .val (.int q4), .val (.int p3), .val (.ref b293), .val (.ref b365), .val (.ref b624), .val (.int iv), .val (.int (0 : Int32)), .unset, .unset] [])) t → Steps p.tables e below (s₁.setTop (entryFrame m #[(.long p0), (.long p1), (.int p2), (.int p3)] maxLocals)) t := fun t kk => pre804 t (by
                              show Steps p.tables e below (T779.setTop (mkF m 338 #[.val (.long p0), .second, .val (.long p1), .second, .val (.int q4), .val (.int p3), .val (.ref b293), .val (.ref b365), .val (.ref b624), .val (.int iv), .unset, .unset, .unset] [(.int (p3 &&& (1 : Int32)))])) _
                              refine XS.ifYes X779.here hx rfl (pc0 := 338) (pc' := 345) rfl (hb hby at_338) rfl ((if0 _ _).trans (teq hc805).1) (by decide) (by decide) ?_
                              show Steps p.tables e below (T779.setTop (mkF m 345 #[.val (.long p0), .second, .val (.long p1), .second, .val (.int q4), .val (.int p3), .val (.ref b293), .val (.ref b365), .val (.ref b624), .val (.int iv), .unset, .unset, .unset] [])) _
                              refine XS.iconst X779.here hx rfl (hb hby at_345) ?_
                              show Steps p.tables e below (T779.setTop (mkF m 346 #[.val (.long p0), .second, .val (.long p1), .second, .val (.int q4), .val (.int p3), .val (.ref b293), .val (.ref b365), .val (.ref b624), .val (.int iv), .unset, .unset, .unset] [(.int (0 : Int32))])) _
                              refine XS.istore X779.here hx rfl (hb hby at_346) rfl (l' := #[.val (.long p0), .second, .val (.long p1), .second, .val (.int q4), .val (.int p3), .val (.ref b293), .val (.ref b365), .val (.ref b624), .val (.int iv), .val (.int (0 : Int32)), .unset, .unset]) rfl ?_
                              exact kk)
                          exact ⟨(0 : Int32), (by rw [if_pos hc805]), pre806⟩
                        · have pre807 : ∀ t, Steps p.tables e below (T779.setTop (mkF m 348 #[.val (.long p0), .second, .val (.long p1), .second, .val (.int q4), .val (.int p3), .val (.ref b293), .val (.ref b365), .val (.ref b624), .val (.int iv), .val (.int (1 : Int32)), .unset, .unset] [])) t → Steps p.tables e below (s₁.setTop (entryFrame m #[(.long p0), (.long p1), (.int p2), (.int p3)] maxLocals)) t := fun t kk => pre804 t (by
                              show Steps p.tables e below (T779.setTop (mkF m 338 #[.val (.long p0), .second, .val (.long p1), .second, .val (.int q4), .val (.int p3), .val (.ref b293), .val (.ref b365), .val (.ref b624), .val (.int iv), .unset, .unset, .unset] [(.int (p3 &&& (1 : Int32)))])) _
                              refine XS.ifNo X779.here hx rfl (hb hby at_338) rfl ((if0 _ _).trans (feq hc805).1) ?_
                              show Steps p.tables e below (T779.setTop (mkF m 341 #[.val (.long p0), .second, .val (.long p1), .second, .val (.int q4), .val (.int p3), .val (.ref b293), .val (.ref b365), .val (.ref b624), .val (.int iv), .unset, .unset, .unset] [])) _
                              refine XS.iconst X779.here hx rfl (hb hby at_341) ?_
                              show Steps p.tables e below (T779.setTop (mkF m 342 #[.val (.long p0), .second, .val (.long p1), .second, .val (.int q4), .val (.int p3), .val (.ref b293), .val (.ref b365), .val (.ref b624), .val (.int iv), .unset, .unset, .unset] [(.int (1 : Int32))])) _
                              refine XS.goto X779.here hx rfl (pc0 := 342) (pc' := 346) rfl (hb hby at_342) (by decide) (by decide) ?_
                              show Steps p.tables e below (T779.setTop (mkF m 346 #[.val (.long p0), .second, .val (.long p1), .second, .val (.int q4), .val (.int p3), .val (.ref b293), .val (.ref b365), .val (.ref b624), .val (.int iv), .unset, .unset, .unset] [(.int (1 : Int32))])) _
                              refine XS.istore X779.here hx rfl (hb hby at_346) rfl (l' := #[.val (.long p0), .second, .val (.long p1), .second, .val (.int q4), .val (.int p3), .val (.ref b293), .val (.ref b365), .val (.ref b624), .val (.int iv), .val (.int (1 : Int32)), .unset, .unset]) rfl ?_
                              exact kk)
                          exact ⟨(1 : Int32), (by rw [if_neg hc805]), pre807⟩
                      have pre809 : ∀ t, Steps p.tables e below (T779.setTop (mkF m 368 #[.val (.long p0), .second, .val (.long p1), .second, .val (.int q4), .val (.int p3), .val (.ref b293), .val (.ref b365), .val (.ref b624), .val (.int iv), .val (.int tw), .val (.int (((iv + (1 : Int32)) + ((((p3.toUInt32 >>> ((17 : Int32) &&& 31).toUInt32).toInt32) &&& (16383 : Int32)) % (4 : Int32))) % (5 : Int32))), .unset] [])) t → Steps p.tables e below (s₁.setTop (entryFrame m #[(.long p0), (.long p1), (.int p2), (.int p3)] maxLocals)) t := fun t kk => pre808j t (by
                          show Steps p.tables e below (T779.setTop (mkF m 348 #[.val (.long p0), .second, .val (.long p1), .second, .val (.int q4), .val (.int p3), .val (.ref b293), .val (.ref b365), .val (.ref b624), .val (.int iv), .val (.int tw), .unset, .unset] [])) _
                          refine XS.iload X779.here hx rfl (hb hby at_348) rfl ?_
                          show Steps p.tables e below (T779.setTop (mkF m 350 #[.val (.long p0), .second, .val (.long p1), .second, .val (.int q4), .val (.int p3), .val (.ref b293), .val (.ref b365), .val (.ref b624), .val (.int iv), .val (.int tw), .unset, .unset] [(.int iv)])) _
                          refine XS.iconst X779.here hx rfl (hb hby at_350) ?_
                          show Steps p.tables e below (T779.setTop (mkF m 351 #[.val (.long p0), .second, .val (.long p1), .second, .val (.int q4), .val (.int p3), .val (.ref b293), .val (.ref b365), .val (.ref b624), .val (.int iv), .val (.int tw), .unset, .unset] [(.int (1 : Int32)), (.int iv)])) _
                          refine XS.iadd X779.here hx rfl (hb hby at_351) rfl ?_
                          show Steps p.tables e below (T779.setTop (mkF m 352 #[.val (.long p0), .second, .val (.long p1), .second, .val (.int q4), .val (.int p3), .val (.ref b293), .val (.ref b365), .val (.ref b624), .val (.int iv), .val (.int tw), .unset, .unset] [(.int (iv + (1 : Int32)))])) _
                          refine XS.iload X779.here hx rfl (hb hby at_352) rfl ?_
                          show Steps p.tables e below (T779.setTop (mkF m 354 #[.val (.long p0), .second, .val (.long p1), .second, .val (.int q4), .val (.int p3), .val (.ref b293), .val (.ref b365), .val (.ref b624), .val (.int iv), .val (.int tw), .unset, .unset] [(.int p3), (.int (iv + (1 : Int32)))])) _
                          refine XS.bipush X779.here hx rfl (hb hby at_354) ?_
                          show Steps p.tables e below (T779.setTop (mkF m 356 #[.val (.long p0), .second, .val (.long p1), .second, .val (.int q4), .val (.int p3), .val (.ref b293), .val (.ref b365), .val (.ref b624), .val (.int iv), .val (.int tw), .unset, .unset] [(.int (17 : Int32)), (.int p3), (.int (iv + (1 : Int32)))])) _
                          refine XS.iushr X779.here hx rfl (hb hby at_356) rfl ?_
                          show Steps p.tables e below (T779.setTop (mkF m 357 #[.val (.long p0), .second, .val (.long p1), .second, .val (.int q4), .val (.int p3), .val (.ref b293), .val (.ref b365), .val (.ref b624), .val (.int iv), .val (.int tw), .unset, .unset] [(.int ((p3.toUInt32 >>> ((17 : Int32) &&& 31).toUInt32).toInt32)), (.int (iv + (1 : Int32)))])) _
                          refine XS.sipush X779.here hx rfl (hb hby at_357) ?_
                          show Steps p.tables e below (T779.setTop (mkF m 360 #[.val (.long p0), .second, .val (.long p1), .second, .val (.int q4), .val (.int p3), .val (.ref b293), .val (.ref b365), .val (.ref b624), .val (.int iv), .val (.int tw), .unset, .unset] [(.int (16383 : Int32)), (.int ((p3.toUInt32 >>> ((17 : Int32) &&& 31).toUInt32).toInt32)), (.int (iv + (1 : Int32)))])) _
                          refine XS.iand X779.here hx rfl (hb hby at_360) rfl ?_
                          show Steps p.tables e below (T779.setTop (mkF m 361 #[.val (.long p0), .second, .val (.long p1), .second, .val (.int q4), .val (.int p3), .val (.ref b293), .val (.ref b365), .val (.ref b624), .val (.int iv), .val (.int tw), .unset, .unset] [(.int (((p3.toUInt32 >>> ((17 : Int32) &&& 31).toUInt32).toInt32) &&& (16383 : Int32))), (.int (iv + (1 : Int32)))])) _
                          refine XS.iconst X779.here hx rfl (hb hby at_361) ?_
                          show Steps p.tables e below (T779.setTop (mkF m 362 #[.val (.long p0), .second, .val (.long p1), .second, .val (.int q4), .val (.int p3), .val (.ref b293), .val (.ref b365), .val (.ref b624), .val (.int iv), .val (.int tw), .unset, .unset] [(.int (4 : Int32)), (.int (((p3.toUInt32 >>> ((17 : Int32) &&& 31).toUInt32).toInt32) &&& (16383 : Int32))), (.int (iv + (1 : Int32)))])) _
                          refine iremM X779 hx rfl (hb hby at_362) rfl (by decide) ?_
                          show Steps p.tables e below (T779.setTop (mkF m 363 #[.val (.long p0), .second, .val (.long p1), .second, .val (.int q4), .val (.int p3), .val (.ref b293), .val (.ref b365), .val (.ref b624), .val (.int iv), .val (.int tw), .unset, .unset] [(.int ((((p3.toUInt32 >>> ((17 : Int32) &&& 31).toUInt32).toInt32) &&& (16383 : Int32)) % (4 : Int32))), (.int (iv + (1 : Int32)))])) _
                          refine XS.iadd X779.here hx rfl (hb hby at_363) rfl ?_
                          show Steps p.tables e below (T779.setTop (mkF m 364 #[.val (.long p0), .second, .val (.long p1), .second, .val (.int q4), .val (.int p3), .val (.ref b293), .val (.ref b365), .val (.ref b624), .val (.int iv), .val (.int tw), .unset, .unset] [(.int ((iv + (1 : Int32)) + ((((p3.toUInt32 >>> ((17 : Int32) &&& 31).toUInt32).toInt32) &&& (16383 : Int32)) % (4 : Int32))))])) _
                          refine XS.iconst X779.here hx rfl (hb hby at_364) ?_
                          show Steps p.tables e below (T779.setTop (mkF m 365 #[.val (.long p0), .second, .val (.long p1), .second, .val (.int q4), .val (.int p3), .val (.ref b293), .val (.ref b365), .val (.ref b624), .val (.int iv), .val (.int tw), .unset, .unset] [(.int (5 : Int32)), (.int ((iv + (1 : Int32)) + ((((p3.toUInt32 >>> ((17 : Int32) &&& 31).toUInt32).toInt32) &&& (16383 : Int32)) % (4 : Int32))))])) _
                          refine iremM X779 hx rfl (hb hby at_365) rfl (by decide) ?_
                          show Steps p.tables e below (T779.setTop (mkF m 366 #[.val (.long p0), .second, .val (.long p1), .second, .val (.int q4), .val (.int p3), .val (.ref b293), .val (.ref b365), .val (.ref b624), .val (.int iv), .val (.int tw), .unset, .unset] [(.int (((iv + (1 : Int32)) + ((((p3.toUInt32 >>> ((17 : Int32) &&& 31).toUInt32).toInt32) &&& (16383 : Int32)) % (4 : Int32))) % (5 : Int32)))])) _
                          refine XS.istore X779.here hx rfl (hb hby at_366) rfl (l' := #[.val (.long p0), .second, .val (.long p1), .second, .val (.int q4), .val (.int p3), .val (.ref b293), .val (.ref b365), .val (.ref b624), .val (.int iv), .val (.int tw), .val (.int (((iv + (1 : Int32)) + ((((p3.toUInt32 >>> ((17 : Int32) &&& 31).toUInt32).toInt32) &&& (16383 : Int32)) % (4 : Int32))) % (5 : Int32))), .unset]) rfl ?_
                          exact kk)
                      obtain ⟨jv, hv_jv⟩ : ∃ z : Int32, z = (((iv + (1 : Int32)) + ((((p3.toUInt32 >>> ((17 : Int32) &&& 31).toUInt32).toInt32) &&& (16383 : Int32)) % (4 : Int32))) % (5 : Int32)) := ⟨_, rfl⟩
                      have pre810 : ∀ t, Steps p.tables e below (T779.setTop (mkF m 368 #[.val (.long p0), .second, .val (.long p1), .second, .val (.int q4), .val (.int p3), .val (.ref b293), .val (.ref b365), .val (.ref b624), .val (.int iv), .val (.int tw), .val (.int jv), .unset] [])) t → Steps p.tables e below (s₁.setTop (entryFrame m #[(.long p0), (.long p1), (.int p2), (.int p3)] maxLocals)) t := by subst hv_jv; exact pre809
                      have hjv : own_r5 jv ∧ jv ≠ iv := by rw [hv_jv]; exact own_jv iv _ hiv
                      obtain ⟨fi, hfi⟩ : ∃ z, z = own_sel b369 b389 b416 b450 b491 iv := ⟨_, rfl⟩
                      have Ex811 : Exa Z T779.heap fi "com/example/redoubt/redoubt/storage/PageCache$Frame" := by rw [hfi]; exact own_selP (P := fun x => Exa Z T779.heap x "com/example/redoubt/redoubt/storage/PageCache$Frame") Ex786 Ex787 Ex788 Ex789 Ex790 _
                      have F812 : Fld Z T779.heap fi "com/example/redoubt/redoubt/storage/PageCache$Frame" "page" "I" (.int (pgs fi)) := by rw [hfi]; exact own_selP (P := fun x => Fld Z T779.heap x "com/example/redoubt/redoubt/storage/PageCache$Frame" "page" "I" (.int (pgs x))) F792 F793 F794 F795 F796 _
                      obtain ⟨cl813, Ar813, q813, Sz813, Nn813, H813, G813⟩ := id Av791
                      have hin813 : ¬ (iv < 0 ∨ cl813.slots.size ≤ (iv).toNatClampNeg) := (inb_of Sz813 hiv)
                      have hat813 : cl813.slots[(iv).toNatClampNeg]? = some (.ref fi) := H813.at hin813 (by rw [hfi]; exact own_selE b369 b389 b416 b450 b491 hiv)
                      have hp815 : own_TI (own_hmf pgs) vs2_779 := pu779_0
                      have hp816 : Ovr Z k_648 "com/example/redoubt/redoubt/storage/PageCache$Frame" := pu648_0
                      have hp817 : own_R vs2_779 fi := (hF5 fi).mpr ⟨iv, hiv, hfi⟩
                      have hp818 : ∃ q, q < 16 ∧ vs2_779.getD q .null = .null := hz5
                      obtain ⟨cq814, kq814, q814a, q814b, q814c⟩ := isOf hZ rfl P779_0
                      obtain ⟨_, _, ⟨T814, L814, k814, n814⟩, -, X814, ⟨Lc814, hQ814, l814, y814, z814⟩, st814⟩ := X779.virtualBack hx (y := (⟨"com/example/redoubt/redoubt/storage/FrameTable", "remove", "(Lcom/example/redoubt/redoubt/storage/PageCache$Frame;)V"⟩ : MethodName)) (z := (⟨"com/example/redoubt/redoubt/storage/FrameTable", "remove", "(Lcom/example/redoubt/redoubt/storage/PageCache$Frame;)V"⟩ : MethodName)) hown (mvT hZ (hw _ (List.mem_of_getElem? (i := 47) rfl))) (mvT hZ (hw _ (List.mem_of_getElem? (i := 48) rfl))) (notFace_of_selects (args := #[]) (mvT hZ (hw _ (List.mem_of_getElem? (i := 50) rfl)))) (mvT hZ (hw _ (List.mem_of_getElem? (i := 50) rfl))) (mvT hZ (hw _ (List.mem_of_getElem? (i := 49) rfl))) (by decide) (backOf (W := 0) (rmRemove l Z a0 hw [] b624 fi a_648 k_648 vs2_779 (5 : Int32) pgs T779.heap n0 (Nat.le_trans Z0 K799.1) P779_0 P779_1 P779_2 F800 P779_4 P779_5 Ex811 F812 hp815 hp816 hp817 hp818 g_b624 g_a_648) hZ (hw _ (List.mem_of_getElem? (i := 51) rfl)) (hw _ (List.mem_of_getElem? (i := 19) rfl)) (by decide) (by decide)) q814a q814c (g := (mkF m 375 #[.val (.long p0), .second, .val (.long p1), .second, .val (.int q4), .val (.int p3), .val (.ref b293), .val (.ref b365), .val (.ref b624), .val (.int iv), .val (.int tw), .val (.int jv), .unset] [(.ref fi), (.ref b624)])) rfl (by rw [hml]; rfl) (Steps.refl _) (argsL := [(.ref fi)]) (rest := []) (lenOf pd_1 rfl) rfl (by show 2 * 0 + _ ≤ _; exact Nat.le_of_eq rfl) (hb hby at_375) (fun _ _ => ⟨rfl, rfl, (by decide : 14 + 0 ≤ _), (by decide : 41019 + 0 ≤ _)⟩)
                      dsimp only [Pt.U, Pt.locs, Pt.cells, Pt.slots] at X814 l814 y814 z814 st814 hQ814
                      rw [l814, y814, z814] at X814
                      replace X814 := own_std X814 (cc := 14) (ss := 41019) rfl rfl
                      obtain ⟨vs2_814, rfl, N814q, K814q, P814_0, P814_1, P814_2, P814_3, P814_4, P814_5, pu814_0, pu814_1, pu814_2⟩ := hQ814
                      have N814 := Fr.app N779 N814q
                      have Av819 : Arv Z T814.heap b293 k293 .int (5 : Int32) ([(.int q0), (.int q1), (.int q2), (.int q3), (.int q4)] : List Value) (.int (0 : Int32)) := (Av785.keep K814q (ninS ne625 (ninS ne649 nin0)))
                      have Ex820 : Exa Z T814.heap b369 "com/example/redoubt/redoubt/storage/PageCache$Frame" := (Ex786.keep K814q)
                      have Ex821 : Exa Z T814.heap b389 "com/example/redoubt/redoubt/storage/PageCache$Frame" := (Ex787.keep K814q)
                      have Ex822 : Exa Z T814.heap b416 "com/example/redoubt/redoubt/storage/PageCache$Frame" := (Ex788.keep K814q)
                      have Ex823 : Exa Z T814.heap b450 "com/example/redoubt/redoubt/storage/PageCache$Frame" := (Ex789.keep K814q)
                      have Ex824 : Exa Z T814.heap b491 "com/example/redoubt/redoubt/storage/PageCache$Frame" := (Ex790.keep K814q)
                      have Av825 : Arv Z T814.heap b365 k365 (.object "com/example/redoubt/redoubt/storage/PageCache$Frame") (5 : Int32) ([(.ref b369), (.ref b389), (.ref b416), (.ref b450), (.ref b491)] : List Value) .null := (Av791.keep K814q (ninS ne631 (ninS ne655 nin0)))
                      have F826 : Fld Z T814.heap b369 "com/example/redoubt/redoubt/storage/PageCache$Frame" "page" "I" (.int (pgs b369)) := (F792.keep K814q (ninS ne626 (ninS ne650 nin0)))
                      have F827 : Fld Z T814.heap b389 "com/example/redoubt/redoubt/storage/PageCache$Frame" "page" "I" (.int (pgs b389)) := (F793.keep K814q (ninS ne627 (ninS ne651 nin0)))
                      have F828 : Fld Z T814.heap b416 "com/example/redoubt/redoubt/storage/PageCache$Frame" "page" "I" (.int (pgs b416)) := (F794.keep K814q (ninS ne628 (ninS ne652 nin0)))
                      have F829 : Fld Z T814.heap b450 "com/example/redoubt/redoubt/storage/PageCache$Frame" "page" "I" (.int (pgs b450)) := (F795.keep K814q (ninS ne629 (ninS ne653 nin0)))
                      have F830 : Fld Z T814.heap b491 "com/example/redoubt/redoubt/storage/PageCache$Frame" "page" "I" (.int (pgs b491)) := (F796.keep K814q (ninS ne630 (ninS ne654 nin0)))
                      have Ex831 : Exa Z T814.heap b624 "com/example/redoubt/redoubt/storage/FrameTable" := (P779_0.keep K814q)
                      have Xf832 : own_GoodP Z T814.heap pgs vs2_779 := (own_goodp_keep P779_5 K814q (fun f hf => (ninS (ne_exa hf P779_0 (by decide)) (ninS (own_ne_arr hf (hw _ (List.mem_of_getElem? (i := 3) rfl)) P779_4) nin0))))
                      have Ex833 : Exa Z T814.heap fi "com/example/redoubt/redoubt/storage/PageCache$Frame" := (Ex811.keep K814q)
                      have ne834 : fi ≠ a_648 := own_ne_arr Ex811 (hw _ (List.mem_of_getElem? (i := 3) rfl)) P779_4
                      have ne835 : fi ≠ b624 := ne_exa Ex811 P779_0 (by decide)
                      have F836 : Fld Z T814.heap fi "com/example/redoubt/redoubt/storage/PageCache$Frame" "page" "I" (.int (pgs fi)) := (F812.keep K814q (ninS ne835 (ninS ne834 nin0)))
                      have K837 : Keep h0 T814.heap [] := K799.trans K814q (allS (Or.inr sz_b624) (allS (Or.inr sz_a_648) all0))
                      have eq839 : ((5 : Int32) - (1 : Int32)) = (4 : Int32) := by decide
                      have F838 : Fld Z T814.heap b624 "com/example/redoubt/redoubt/storage/FrameTable" "size" "I" (.int (4 : Int32)) := by rw [← eq839]; exact P814_3
                      obtain ⟨T872, lc872, h872, vs2_872, c2_872, X872, e872, N872, K872, P872_0, P872_1, P872_2, P872_3, P872_4, P872_5, P872_6, P872_7, pu872_0, pu872_1, pu872_2, pu872_3, pre872⟩ : ∃ (T872 : State) (lc872 : List Loc) (h872 : Heap) (vs2_872 : List Value) (c2_872 : Int32), Stand p l e room_1 s m #[(.long p0), (.long p1), (.int p2), (.int p3)] below meth c T872 lc872 14 41019 ∧ T872.heap = h872 ∧ Fr n0 lc872 ∧ Keep h0 h872 [] ∧ Exa Z h872 b624 "com/example/redoubt/redoubt/storage/FrameTable" ∧ Fld Z h872 b624 "com/example/redoubt/redoubt/storage/FrameTable" "slots" "[Lcom/example/redoubt/redoubt/storage/PageCache$Frame;" (.ref a_648) ∧ Fld Z h872 b624 "com/example/redoubt/redoubt/storage/FrameTable" "shift" "I" (.int (28 : Int32)) ∧ Fld Z h872 b624 "com/example/redoubt/redoubt/storage/FrameTable" "size" "I" (.int c2_872) ∧ own_GoodP Z h872 pgs vs2_872 ∧ Arv Z h872 a_648 k_648 (.object "com/example/redoubt/redoubt/storage/PageCache$Frame") (16 : Int32) vs2_872 .null ∧ Arv Z h872 b365 k365 (.object "com/example/redoubt/redoubt/storage/PageCache$Frame") (5 : Int32) ([(.ref b369), (.ref b389), (.ref b416), (.ref b450), (.ref b491)] : List Value) .null ∧ Arv Z h872 b293 k293 .int (5 : Int32) ([(.int q0), (.int q1), (.int q2), (.int q3), (.int q4)] : List Value) (.int (0 : Int32)) ∧ (own_TI (own_hmf pgs) vs2_872) ∧ (∀ g, own_R vs2_872 g ↔ ((∃ i, own_r5 i ∧ g = own_sel b369 b389 b416 b450 b491 i) ∧ g ≠ own_sel b369 b389 b416 b450 b491 iv ∧ ¬ (¬ tw = (0 : Int32) ∧ g = own_sel b369 b389 b416 b450 b491 jv))) ∧ (∃ q, q < 16 ∧ vs2_872.getD q .null = .null) ∧ (c2_872 = (if tw = (0 : Int32) then (4 : Int32) else (3 : Int32))) ∧ ∀ t, Steps p.tables e below (T872.setTop (mkF m 393 #[.val (.long p0), .second, .val (.long p1), .second, .val (.int q4), .val (.int p3), .val (.ref b293), .val (.ref b365), .val (.ref b624), .val (.int iv), .val (.int tw), .val (.int jv), .unset] [])) t → Steps p.tables e below (s₁.setTop (entryFrame m #[(.long p0), (.long p1), (.int p2), (.int p3)] maxLocals)) t := by
                        have pre840 : ∀ t, Steps p.tables e below (T814.setTop (mkF m 380 #[.val (.long p0), .second, .val (.long p1), .second, .val (.int q4), .val (.int p3), .val (.ref b293), .val (.ref b365), .val (.ref b624), .val (.int iv), .val (.int tw), .val (.int jv), .unset] [(.int tw)])) t → Steps p.tables e below (s₁.setTop (entryFrame m #[(.long p0), (.long p1), (.int p2), (.int p3)] maxLocals)) t := fun t kk => pre810 t (by
                            show Steps p.tables e below (T779.setTop (mkF m 368 #[.val (.long p0), .second, .val (.long p1), .second, .val (.int q4), .val (.int p3), .val (.ref b293), .val (.ref b365), .val (.ref b624), .val (.int iv), .val (.int tw), .val (.int jv), .unset] [])) _
                            refine XS.aload X779.here hx rfl (hb hby at_368) rfl rfl ?_
                            show Steps p.tables e below (T779.setTop (mkF m 370 #[.val (.long p0), .second, .val (.long p1), .second, .val (.int q4), .val (.int p3), .val (.ref b293), .val (.ref b365), .val (.ref b624), .val (.int iv), .val (.int tw), .val (.int jv), .unset] [(.ref b624)])) _
                            refine XS.aload X779.here hx rfl (hb hby at_370) rfl rfl ?_
                            show Steps p.tables e below (T779.setTop (mkF m 372 #[.val (.long p0), .second, .val (.long p1), .second, .val (.int q4), .val (.int p3), .val (.ref b293), .val (.ref b365), .val (.ref b624), .val (.int iv), .val (.int tw), .val (.int jv), .unset] [(.ref b365), (.ref b624)])) _
                            refine XS.iload X779.here hx rfl (hb hby at_372) rfl ?_
                            show Steps p.tables e below (T779.setTop (mkF m 374 #[.val (.long p0), .second, .val (.long p1), .second, .val (.int q4), .val (.int p3), .val (.ref b293), .val (.ref b365), .val (.ref b624), .val (.int iv), .val (.int tw), .val (.int jv), .unset] [(.int iv), (.ref b365), (.ref b624)])) _
                            refine X779.aaload hx (j := iv) (v := (.ref fi)) Ar813.1 (State.isArrayOf_alike hZ.alike Ar813.2.1) rfl Ar813.2.2 hin813 hat813 (g := (mkF m 374 #[.val (.long p0), .second, .val (.long p1), .second, .val (.int q4), .val (.int p3), .val (.ref b293), .val (.ref b365), .val (.ref b624), .val (.int iv), .val (.int tw), .val (.int jv), .unset] [(.int iv), (.ref b365), (.ref b624)])) rfl rfl (hb hby at_374) _ ?_
                            show Steps p.tables e below (T779.setTop (mkF m 375 #[.val (.long p0), .second, .val (.long p1), .second, .val (.int q4), .val (.int p3), .val (.ref b293), .val (.ref b365), .val (.ref b624), .val (.int iv), .val (.int tw), .val (.int jv), .unset] [(.ref fi), (.ref b624)])) _
                            refine st814.trans ?_
                            show Steps p.tables e below (T814.setTop (mkF m 378 #[.val (.long p0), .second, .val (.long p1), .second, .val (.int q4), .val (.int p3), .val (.ref b293), .val (.ref b365), .val (.ref b624), .val (.int iv), .val (.int tw), .val (.int jv), .unset] [])) _
                            refine XS.iload X814.here hx rfl (hb hby at_378) rfl ?_
                            exact kk)
                        by_cases htw : tw = (0 : Int32)
                        · have hRo : ∀ g, own_R vs2_814 g ↔ ((∃ i, own_r5 i ∧ g = own_sel b369 b389 b416 b450 b491 i) ∧ g ≠ own_sel b369 b389 b416 b450 b491 iv ∧ ¬ (¬ tw = (0 : Int32) ∧ g = own_sel b369 b389 b416 b450 b491 jv)) := by
                            intro g
                            rw [pu814_1, hF5, hfi]
                            exact ⟨fun ⟨a, b⟩ => ⟨b, a, fun q => q.1 htw⟩, fun ⟨a, b, _⟩ => ⟨b, a⟩⟩
                          have pre873 : ∀ t, Steps p.tables e below (T814.setTop (mkF m 393 #[.val (.long p0), .second, .val (.long p1), .second, .val (.int q4), .val (.int p3), .val (.ref b293), .val (.ref b365), .val (.ref b624), .val (.int iv), .val (.int tw), .val (.int jv), .unset] [])) t → Steps p.tables e below (s₁.setTop (entryFrame m #[(.long p0), (.long p1), (.int p2), (.int p3)] maxLocals)) t := fun t kk => pre840 t (by
                              show Steps p.tables e below (T814.setTop (mkF m 380 #[.val (.long p0), .second, .val (.long p1), .second, .val (.int q4), .val (.int p3), .val (.ref b293), .val (.ref b365), .val (.ref b624), .val (.int iv), .val (.int tw), .val (.int jv), .unset] [(.int tw)])) _
                              refine XS.ifYes X814.here hx rfl (pc0 := 380) (pc' := 393) rfl (hb hby at_380) rfl ((if0 _ _).trans (teq htw).1) (by decide) (by decide) ?_
                              exact kk)
                          exact ⟨T814, _, _, vs2_814, (4 : Int32), X814, rfl, N814, K837, P814_0, P814_1, P814_2, F838, P814_5, P814_4, Av825, Av819, pu814_0, hRo, pu814_2, (if_pos htw).symm, pre873⟩
                        · obtain ⟨fj, hfj⟩ : ∃ z, z = own_sel b369 b389 b416 b450 b491 jv := ⟨_, rfl⟩
                          have Ex841 : Exa Z T814.heap fj "com/example/redoubt/redoubt/storage/PageCache$Frame" := by rw [hfj]; exact own_selP (P := fun x => Exa Z T814.heap x "com/example/redoubt/redoubt/storage/PageCache$Frame") Ex820 Ex821 Ex822 Ex823 Ex824 _
                          have F842 : Fld Z T814.heap fj "com/example/redoubt/redoubt/storage/PageCache$Frame" "page" "I" (.int (pgs fj)) := by rw [hfj]; exact own_selP (P := fun x => Fld Z T814.heap x "com/example/redoubt/redoubt/storage/PageCache$Frame" "page" "I" (.int (pgs x))) F826 F827 F828 F829 F830 _
                          have hij : fj ≠ fi := fun q => hjv.2 (inj jv iv hjv.1 hiv (by rw [← hfj, ← hfi]; exact q))
                          obtain ⟨cl843, Ar843, q843, Sz843, Nn843, H843, G843⟩ := id Av825
                          have hin843 : ¬ (jv < 0 ∨ cl843.slots.size ≤ (jv).toNatClampNeg) := (inb_of Sz843 hjv.1)
                          have hat843 : cl843.slots[(jv).toNatClampNeg]? = some (.ref fj) := H843.at hin843 (by rw [hfj]; exact own_selE b369 b389 b416 b450 b491 hjv.1)
                          have hp845 : own_TI (own_hmf pgs) vs2_814 := pu814_0
                          have hp846 : Ovr Z k_648 "com/example/redoubt/redoubt/storage/PageCache$Frame" := pu648_0
                          have hp847 : own_R vs2_814 fj := (pu814_1 fj).mpr ⟨hij, (hF5 fj).mpr ⟨jv, hjv.1, hfj⟩⟩
                          have hp848 : ∃ q, q < 16 ∧ vs2_814.getD q .null = .null := pu814_2
                          obtain ⟨cq844, kq844, q844a, q844b, q844c⟩ := isOf hZ rfl P814_0
                          obtain ⟨_, _, ⟨T844, L844, k844, n844⟩, -, X844, ⟨Lc844, hQ844, l844, y844, z844⟩, st844⟩ := X814.virtualBack hx (y := (⟨"com/example/redoubt/redoubt/storage/FrameTable", "remove", "(Lcom/example/redoubt/redoubt/storage/PageCache$Frame;)V"⟩ : MethodName)) (z := (⟨"com/example/redoubt/redoubt/storage/FrameTable", "remove", "(Lcom/example/redoubt/redoubt/storage/PageCache$Frame;)V"⟩ : MethodName)) hown (mvT hZ (hw _ (List.mem_of_getElem? (i := 47) rfl))) (mvT hZ (hw _ (List.mem_of_getElem? (i := 48) rfl))) (notFace_of_selects (args := #[]) (mvT hZ (hw _ (List.mem_of_getElem? (i := 50) rfl)))) (mvT hZ (hw _ (List.mem_of_getElem? (i := 50) rfl))) (mvT hZ (hw _ (List.mem_of_getElem? (i := 49) rfl))) (by decide) (backOf (W := 0) (rmRemove l Z a0 hw [] b624 fj a_648 k_648 vs2_814 (4 : Int32) pgs T814.heap n0 (Nat.le_trans Z0 K837.1) P814_0 P814_1 P814_2 F838 P814_4 P814_5 Ex841 F842 hp845 hp846 hp847 hp848 g_b624 g_a_648) hZ (hw _ (List.mem_of_getElem? (i := 51) rfl)) (hw _ (List.mem_of_getElem? (i := 19) rfl)) (by decide) (by decide)) q844a q844c (g := (mkF m 390 #[.val (.long p0), .second, .val (.long p1), .second, .val (.int q4), .val (.int p3), .val (.ref b293), .val (.ref b365), .val (.ref b624), .val (.int iv), .val (.int tw), .val (.int jv), .unset] [(.ref fj), (.ref b624)])) rfl (by rw [hml]; rfl) (Steps.refl _) (argsL := [(.ref fj)]) (rest := []) (lenOf pd_1 rfl) rfl (by show 2 * 0 + _ ≤ _; exact Nat.le_of_eq rfl) (hb hby at_390) (fun _ _ => ⟨rfl, rfl, (by decide : 14 + 0 ≤ _), (by decide : 41019 + 0 ≤ _)⟩)
                          dsimp only [Pt.U, Pt.locs, Pt.cells, Pt.slots] at X844 l844 y844 z844 st844 hQ844
                          rw [l844, y844, z844] at X844
                          replace X844 := own_std X844 (cc := 14) (ss := 41019) rfl rfl
                          obtain ⟨vs2_844, rfl, N844q, K844q, P844_0, P844_1, P844_2, P844_3, P844_4, P844_5, pu844_0, pu844_1, pu844_2⟩ := hQ844
                          have N844 := Fr.app N814 N844q
                          have Av849 : Arv Z T844.heap b293 k293 .int (5 : Int32) ([(.int q0), (.int q1), (.int q2), (.int q3), (.int q4)] : List Value) (.int (0 : Int32)) := (Av819.keep K844q (ninS ne625 (ninS ne649 nin0)))
                          have Ex850 : Exa Z T844.heap b369 "com/example/redoubt/redoubt/storage/PageCache$Frame" := (Ex820.keep K844q)
                          have Ex851 : Exa Z T844.heap b389 "com/example/redoubt/redoubt/storage/PageCache$Frame" := (Ex821.keep K844q)
                          have Ex852 : Exa Z T844.heap b416 "com/example/redoubt/redoubt/storage/PageCache$Frame" := (Ex822.keep K844q)
                          have Ex853 : Exa Z T844.heap b450 "com/example/redoubt/redoubt/storage/PageCache$Frame" := (Ex823.keep K844q)
                          have Ex854 : Exa Z T844.heap b491 "com/example/redoubt/redoubt/storage/PageCache$Frame" := (Ex824.keep K844q)
                          have Av855 : Arv Z T844.heap b365 k365 (.object "com/example/redoubt/redoubt/storage/PageCache$Frame") (5 : Int32) ([(.ref b369), (.ref b389), (.ref b416), (.ref b450), (.ref b491)] : List Value) .null := (Av825.keep K844q (ninS ne631 (ninS ne655 nin0)))
                          have F856 : Fld Z T844.heap b369 "com/example/redoubt/redoubt/storage/PageCache$Frame" "page" "I" (.int (pgs b369)) := (F826.keep K844q (ninS ne626 (ninS ne650 nin0)))
                          have F857 : Fld Z T844.heap b389 "com/example/redoubt/redoubt/storage/PageCache$Frame" "page" "I" (.int (pgs b389)) := (F827.keep K844q (ninS ne627 (ninS ne651 nin0)))
                          have F858 : Fld Z T844.heap b416 "com/example/redoubt/redoubt/storage/PageCache$Frame" "page" "I" (.int (pgs b416)) := (F828.keep K844q (ninS ne628 (ninS ne652 nin0)))
                          have F859 : Fld Z T844.heap b450 "com/example/redoubt/redoubt/storage/PageCache$Frame" "page" "I" (.int (pgs b450)) := (F829.keep K844q (ninS ne629 (ninS ne653 nin0)))
                          have F860 : Fld Z T844.heap b491 "com/example/redoubt/redoubt/storage/PageCache$Frame" "page" "I" (.int (pgs b491)) := (F830.keep K844q (ninS ne630 (ninS ne654 nin0)))
                          have Ex861 : Exa Z T844.heap b624 "com/example/redoubt/redoubt/storage/FrameTable" := (P814_0.keep K844q)
                          have Xf862 : own_GoodP Z T844.heap pgs vs2_814 := (own_goodp_keep P814_5 K844q (fun f hf => (ninS (ne_exa hf P814_0 (by decide)) (ninS (own_ne_arr hf (hw _ (List.mem_of_getElem? (i := 3) rfl)) P814_4) nin0))))
                          have Ex863 : Exa Z T844.heap fi "com/example/redoubt/redoubt/storage/PageCache$Frame" := (Ex833.keep K844q)
                          have F864 : Fld Z T844.heap fi "com/example/redoubt/redoubt/storage/PageCache$Frame" "page" "I" (.int (pgs fi)) := (F836.keep K844q (ninS ne835 (ninS ne834 nin0)))
                          have Ex865 : Exa Z T844.heap fj "com/example/redoubt/redoubt/storage/PageCache$Frame" := (Ex841.keep K844q)
                          have ne866 : fj ≠ a_648 := own_ne_arr Ex841 (hw _ (List.mem_of_getElem? (i := 3) rfl)) P814_4
                          have ne867 : fj ≠ b624 := ne_exa Ex841 P814_0 (by decide)
                          have F868 : Fld Z T844.heap fj "com/example/redoubt/redoubt/storage/PageCache$Frame" "page" "I" (.int (pgs fj)) := (F842.keep K844q (ninS ne867 (ninS ne866 nin0)))
                          have K869 : Keep h0 T844.heap [] := K837.trans K844q (allS (Or.inr sz_b624) (allS (Or.inr sz_a_648) all0))
                          have eq871 : ((4 : Int32) - (1 : Int32)) = (3 : Int32) := by decide
                          have F870 : Fld Z T844.heap b624 "com/example/redoubt/redoubt/storage/FrameTable" "size" "I" (.int (3 : Int32)) := by rw [← eq871]; exact P844_3
                          have hRt : ∀ g, own_R vs2_844 g ↔ ((∃ i, own_r5 i ∧ g = own_sel b369 b389 b416 b450 b491 i) ∧ g ≠ own_sel b369 b389 b416 b450 b491 iv ∧ ¬ (¬ tw = (0 : Int32) ∧ g = own_sel b369 b389 b416 b450 b491 jv)) := by
                            intro g
                            rw [pu844_1, pu814_1, hF5, hfi, hfj]
                            exact ⟨fun ⟨a, b, c⟩ => ⟨c, b, fun q => a q.2⟩, fun ⟨a, b, c⟩ => ⟨fun q => c ⟨htw, q⟩, b, a⟩⟩
                          have pre874 : ∀ t, Steps p.tables e below (T844.setTop (mkF m 393 #[.val (.long p0), .second, .val (.long p1), .second, .val (.int q4), .val (.int p3), .val (.ref b293), .val (.ref b365), .val (.ref b624), .val (.int iv), .val (.int tw), .val (.int jv), .unset] [])) t → Steps p.tables e below (s₁.setTop (entryFrame m #[(.long p0), (.long p1), (.int p2), (.int p3)] maxLocals)) t := fun t kk => pre840 t (by
                              show Steps p.tables e below (T814.setTop (mkF m 380 #[.val (.long p0), .second, .val (.long p1), .second, .val (.int q4), .val (.int p3), .val (.ref b293), .val (.ref b365), .val (.ref b624), .val (.int iv), .val (.int tw), .val (.int jv), .unset] [(.int tw)])) _
                              refine XS.ifNo X814.here hx rfl (hb hby at_380) rfl ((if0 _ _).trans (feq htw).1) ?_
                              show Steps p.tables e below (T814.setTop (mkF m 383 #[.val (.long p0), .second, .val (.long p1), .second, .val (.int q4), .val (.int p3), .val (.ref b293), .val (.ref b365), .val (.ref b624), .val (.int iv), .val (.int tw), .val (.int jv), .unset] [])) _
                              refine XS.aload X814.here hx rfl (hb hby at_383) rfl rfl ?_
                              show Steps p.tables e below (T814.setTop (mkF m 385 #[.val (.long p0), .second, .val (.long p1), .second, .val (.int q4), .val (.int p3), .val (.ref b293), .val (.ref b365), .val (.ref b624), .val (.int iv), .val (.int tw), .val (.int jv), .unset] [(.ref b624)])) _
                              refine XS.aload X814.here hx rfl (hb hby at_385) rfl rfl ?_
                              show Steps p.tables e below (T814.setTop (mkF m 387 #[.val (.long p0), .second, .val (.long p1), .second, .val (.int q4), .val (.int p3), .val (.ref b293), .val (.ref b365), .val (.ref b624), .val (.int iv), .val (.int tw), .val (.int jv), .unset] [(.ref b365), (.ref b624)])) _
                              refine XS.iload X814.here hx rfl (hb hby at_387) rfl ?_
                              show Steps p.tables e below (T814.setTop (mkF m 389 #[.val (.long p0), .second, .val (.long p1), .second, .val (.int q4), .val (.int p3), .val (.ref b293), .val (.ref b365), .val (.ref b624), .val (.int iv), .val (.int tw), .val (.int jv), .unset] [(.int jv), (.ref b365), (.ref b624)])) _
                              refine X814.aaload hx (j := jv) (v := (.ref fj)) Ar843.1 (State.isArrayOf_alike hZ.alike Ar843.2.1) rfl Ar843.2.2 hin843 hat843 (g := (mkF m 389 #[.val (.long p0), .second, .val (.long p1), .second, .val (.int q4), .val (.int p3), .val (.ref b293), .val (.ref b365), .val (.ref b624), .val (.int iv), .val (.int tw), .val (.int jv), .unset] [(.int jv), (.ref b365), (.ref b624)])) rfl rfl (hb hby at_389) _ ?_
                              show Steps p.tables e below (T814.setTop (mkF m 390 #[.val (.long p0), .second, .val (.long p1), .second, .val (.int q4), .val (.int p3), .val (.ref b293), .val (.ref b365), .val (.ref b624), .val (.int iv), .val (.int tw), .val (.int jv), .unset] [(.ref fj), (.ref b624)])) _
                              refine st844.trans ?_
                              exact kk)
                          exact ⟨T844, _, _, vs2_844, (3 : Int32), X844, rfl, N844, K869, P844_0, P844_1, P844_2, F870, P844_5, P844_4, Av855, Av849, pu844_0, hRt, pu844_2, (if_neg htw).symm, pre874⟩
                      obtain ⟨cq875, kq875, q875a, q875b, q875c⟩ := isOf hZ e872 P872_0
                      obtain ⟨_, _, ⟨T875, L875, k875, n875⟩, -, X875, ⟨Lc875, hQ875, l875, y875, z875⟩, st875⟩ := X872.virtualBack hx (y := (⟨"com/example/redoubt/redoubt/storage/FrameTable", "size", "()I"⟩ : MethodName)) (z := (⟨"com/example/redoubt/redoubt/storage/FrameTable", "size", "()I"⟩ : MethodName)) hown (mvT hZ (hw _ (List.mem_of_getElem? (i := 52) rfl))) (mvT hZ (hw _ (List.mem_of_getElem? (i := 53) rfl))) (notFace_of_selects (args := #[]) (mvT hZ (hw _ (List.mem_of_getElem? (i := 55) rfl)))) (mvT hZ (hw _ (List.mem_of_getElem? (i := 55) rfl))) (mvT hZ (hw _ (List.mem_of_getElem? (i := 54) rfl))) (by decide) (backOf (W := 0) (rmSize l Z a0 hw [] b624 c2_872 h872 n0 (Nat.le_trans Z0 K872.1) P872_3) hZ (hw _ (List.mem_of_getElem? (i := 56) rfl)) (hw _ (List.mem_of_getElem? (i := 19) rfl)) (by decide) (by decide)) q875a q875c (g := (mkF m 395 #[.val (.long p0), .second, .val (.long p1), .second, .val (.int q4), .val (.int p3), .val (.ref b293), .val (.ref b365), .val (.ref b624), .val (.int iv), .val (.int tw), .val (.int jv), .unset] [(.ref b624)])) rfl (by rw [hml]; rfl) (Steps.refl _) (argsL := []) (rest := []) (lenOf pd_4 rfl) rfl (by show 2 * 0 + _ ≤ _; exact Nat.le_of_eq rfl) (hb hby at_395) (fun _ _ => ⟨rfl, e872, (by decide : 14 + 0 ≤ _), (by decide : 41019 + 0 ≤ _)⟩)
                      dsimp only [Pt.U, Pt.locs, Pt.cells, Pt.slots] at X875 l875 y875 z875 st875 hQ875
                      rw [l875, y875, z875] at X875
                      replace X875 := own_std X875 (cc := 14) (ss := 41019) rfl rfl
                      obtain ⟨rfl, N875q, e875⟩ := hQ875
                      have N875 := Fr.app N872 N875q
                      have pre876 : ∀ t, Steps p.tables e below (T875.setTop (mkF m 400 #[.val (.long p0), .second, .val (.long p1), .second, .val (.int q4), .val (.int p3), .val (.ref b293), .val (.ref b365), .val (.ref b624), .val (.int iv), .val (.int tw), .val (.int jv), .unset] [(.int tw), (.int c2_872)])) t → Steps p.tables e below (s₁.setTop (entryFrame m #[(.long p0), (.long p1), (.int p2), (.int p3)] maxLocals)) t := fun t kk => pre872 t (by
                          show Steps p.tables e below (T872.setTop (mkF m 393 #[.val (.long p0), .second, .val (.long p1), .second, .val (.int q4), .val (.int p3), .val (.ref b293), .val (.ref b365), .val (.ref b624), .val (.int iv), .val (.int tw), .val (.int jv), .unset] [])) _
                          refine XS.aload X872.here hx rfl (hb hby at_393) rfl rfl ?_
                          show Steps p.tables e below (T872.setTop (mkF m 395 #[.val (.long p0), .second, .val (.long p1), .second, .val (.int q4), .val (.int p3), .val (.ref b293), .val (.ref b365), .val (.ref b624), .val (.int iv), .val (.int tw), .val (.int jv), .unset] [(.ref b624)])) _
                          refine st875.trans ?_
                          show Steps p.tables e below (T875.setTop (mkF m 398 #[.val (.long p0), .second, .val (.long p1), .second, .val (.int q4), .val (.int p3), .val (.ref b293), .val (.ref b365), .val (.ref b624), .val (.int iv), .val (.int tw), .val (.int jv), .unset] [(.int c2_872)])) _
                          refine XS.iload X875.here hx rfl (hb hby at_398) rfl ?_
                          exact kk)
                      obtain ⟨ex, hv_ex, pre880j⟩ : ∃ (ex : Int32), ex = (if tw = (0 : Int32) then (4 : Int32) else (3 : Int32)) ∧ ∀ t, Steps p.tables e below (T875.setTop (mkF m 408 #[.val (.long p0), .second, .val (.long p1), .second, .val (.int q4), .val (.int p3), .val (.ref b293), .val (.ref b365), .val (.ref b624), .val (.int iv), .val (.int tw), .val (.int jv), .unset] [(.int ex), (.int c2_872)])) t → Steps p.tables e below (s₁.setTop (entryFrame m #[(.long p0), (.long p1), (.int p2), (.int p3)] maxLocals)) t := by
                        by_cases hc877 : tw = (0 : Int32)
                        · have pre878 : ∀ t, Steps p.tables e below (T875.setTop (mkF m 408 #[.val (.long p0), .second, .val (.long p1), .second, .val (.int q4), .val (.int p3), .val (.ref b293), .val (.ref b365), .val (.ref b624), .val (.int iv), .val (.int tw), .val (.int jv), .unset] [(.int (4 : Int32)), (.int c2_872)])) t → Steps p.tables e below (s₁.setTop (entryFrame m #[(.long p0), (.long p1), (.int p2), (.int p3)] maxLocals)) t := fun t kk => pre876 t (by
                              show Steps p.tables e below (T875.setTop (mkF m 400 #[.val (.long p0), .second, .val (.long p1), .second, .val (.int q4), .val (.int p3), .val (.ref b293), .val (.ref b365), .val (.ref b624), .val (.int iv), .val (.int tw), .val (.int jv), .unset] [(.int tw), (.int c2_872)])) _
                              refine XS.ifYes X875.here hx rfl (pc0 := 400) (pc' := 407) rfl (hb hby at_400) rfl ((if0 _ _).trans (teq hc877).1) (by decide) (by decide) ?_
                              show Steps p.tables e below (T875.setTop (mkF m 407 #[.val (.long p0), .second, .val (.long p1), .second, .val (.int q4), .val (.int p3), .val (.ref b293), .val (.ref b365), .val (.ref b624), .val (.int iv), .val (.int tw), .val (.int jv), .unset] [(.int c2_872)])) _
                              refine XS.iconst X875.here hx rfl (hb hby at_407) ?_
                              exact kk)
                          exact ⟨(4 : Int32), (by rw [if_pos hc877]), pre878⟩
                        · have pre879 : ∀ t, Steps p.tables e below (T875.setTop (mkF m 408 #[.val (.long p0), .second, .val (.long p1), .second, .val (.int q4), .val (.int p3), .val (.ref b293), .val (.ref b365), .val (.ref b624), .val (.int iv), .val (.int tw), .val (.int jv), .unset] [(.int (3 : Int32)), (.int c2_872)])) t → Steps p.tables e below (s₁.setTop (entryFrame m #[(.long p0), (.long p1), (.int p2), (.int p3)] maxLocals)) t := fun t kk => pre876 t (by
                              show Steps p.tables e below (T875.setTop (mkF m 400 #[.val (.long p0), .second, .val (.long p1), .second, .val (.int q4), .val (.int p3), .val (.ref b293), .val (.ref b365), .val (.ref b624), .val (.int iv), .val (.int tw), .val (.int jv), .unset] [(.int tw), (.int c2_872)])) _
                              refine XS.ifNo X875.here hx rfl (hb hby at_400) rfl ((if0 _ _).trans (feq hc877).1) ?_
                              show Steps p.tables e below (T875.setTop (mkF m 403 #[.val (.long p0), .second, .val (.long p1), .second, .val (.int q4), .val (.int p3), .val (.ref b293), .val (.ref b365), .val (.ref b624), .val (.int iv), .val (.int tw), .val (.int jv), .unset] [(.int c2_872)])) _
                              refine XS.iconst X875.here hx rfl (hb hby at_403) ?_
                              show Steps p.tables e below (T875.setTop (mkF m 404 #[.val (.long p0), .second, .val (.long p1), .second, .val (.int q4), .val (.int p3), .val (.ref b293), .val (.ref b365), .val (.ref b624), .val (.int iv), .val (.int tw), .val (.int jv), .unset] [(.int (3 : Int32)), (.int c2_872)])) _
                              refine XS.goto X875.here hx rfl (pc0 := 404) (pc' := 408) rfl (hb hby at_404) (by decide) (by decide) ?_
                              exact kk)
                          exact ⟨(3 : Int32), (by rw [if_neg hc877]), pre879⟩
                      have hb881 : c2_872 = ex := by rw [pu872_3, hv_ex]
                      obtain ⟨j0, hj, hj0⟩ := pu872_2
                      obtain ⟨cl882, Ar882, q882, Sz882, Nn882, H882, G882⟩ := id P872_6
                      have hin882 : ¬ ((0 : Int32) < 0 ∨ cl882.slots.size ≤ ((0 : Int32)).toNatClampNeg) := (inb_of Sz882 ⟨by decide, by decide⟩)
                      have hat882 : cl882.slots[((0 : Int32)).toNatClampNeg]? = some (.ref b369) := H882.at hin882 rfl
                      obtain ⟨cl883, Ar883, q883, Sz883, Nn883, H883, G883⟩ := id P872_7
                      have hin883 : ¬ ((0 : Int32) < 0 ∨ cl883.slots.size ≤ ((0 : Int32)).toNatClampNeg) := (inb_of Sz883 ⟨by decide, by decide⟩)
                      have hat883 : cl883.slots[((0 : Int32)).toNatClampNeg]? = some (.int q0) := H883.at hin883 rfl
                      have pre884 : ∀ t, Steps p.tables e below (T875.setTop (mkF m 432 #[.val (.long p0), .second, .val (.long p1), .second, .val (.int q4), .val (.int p3), .val (.ref b293), .val (.ref b365), .val (.ref b624), .val (.int iv), .val (.int tw), .val (.int jv), .val (.int (1 : Int32))] [(.int iv), (.int q0), (.ref b369), (.ref b624), (.int (1 : Int32))])) t → Steps p.tables e below (s₁.setTop (entryFrame m #[(.long p0), (.long p1), (.int p2), (.int p3)] maxLocals)) t := fun t kk => pre880j t (by
                          show Steps p.tables e below (T875.setTop (mkF m 408 #[.val (.long p0), .second, .val (.long p1), .second, .val (.int q4), .val (.int p3), .val (.ref b293), .val (.ref b365), .val (.ref b624), .val (.int iv), .val (.int tw), .val (.int jv), .unset] [(.int ex), (.int c2_872)])) _
                          refine XS.icmpNo X875.here hx rfl (hb hby at_408) rfl (teq hb881).2 ?_
                          show Steps p.tables e below (T875.setTop (mkF m 411 #[.val (.long p0), .second, .val (.long p1), .second, .val (.int q4), .val (.int p3), .val (.ref b293), .val (.ref b365), .val (.ref b624), .val (.int iv), .val (.int tw), .val (.int jv), .unset] [])) _
                          refine XS.iconst X875.here hx rfl (hb hby at_411) ?_
                          show Steps p.tables e below (T875.setTop (mkF m 412 #[.val (.long p0), .second, .val (.long p1), .second, .val (.int q4), .val (.int p3), .val (.ref b293), .val (.ref b365), .val (.ref b624), .val (.int iv), .val (.int tw), .val (.int jv), .unset] [(.int (1 : Int32))])) _
                          refine XS.goto X875.here hx rfl (pc0 := 412) (pc' := 416) rfl (hb hby at_412) (by decide) (by decide) ?_
                          show Steps p.tables e below (T875.setTop (mkF m 416 #[.val (.long p0), .second, .val (.long p1), .second, .val (.int q4), .val (.int p3), .val (.ref b293), .val (.ref b365), .val (.ref b624), .val (.int iv), .val (.int tw), .val (.int jv), .unset] [(.int (1 : Int32))])) _
                          refine XS.istore X875.here hx rfl (hb hby at_416) rfl (l' := #[.val (.long p0), .second, .val (.long p1), .second, .val (.int q4), .val (.int p3), .val (.ref b293), .val (.ref b365), .val (.ref b624), .val (.int iv), .val (.int tw), .val (.int jv), .val (.int (1 : Int32))]) rfl ?_
                          show Steps p.tables e below (T875.setTop (mkF m 418 #[.val (.long p0), .second, .val (.long p1), .second, .val (.int q4), .val (.int p3), .val (.ref b293), .val (.ref b365), .val (.ref b624), .val (.int iv), .val (.int tw), .val (.int jv), .val (.int (1 : Int32))] [])) _
                          refine XS.iload X875.here hx rfl (hb hby at_418) rfl ?_
                          show Steps p.tables e below (T875.setTop (mkF m 420 #[.val (.long p0), .second, .val (.long p1), .second, .val (.int q4), .val (.int p3), .val (.ref b293), .val (.ref b365), .val (.ref b624), .val (.int iv), .val (.int tw), .val (.int jv), .val (.int (1 : Int32))] [(.int (1 : Int32))])) _
                          refine XS.aload X875.here hx rfl (hb hby at_420) rfl rfl ?_
                          show Steps p.tables e below (T875.setTop (mkF m 422 #[.val (.long p0), .second, .val (.long p1), .second, .val (.int q4), .val (.int p3), .val (.ref b293), .val (.ref b365), .val (.ref b624), .val (.int iv), .val (.int tw), .val (.int jv), .val (.int (1 : Int32))] [(.ref b624), (.int (1 : Int32))])) _
                          refine XS.aload X875.here hx rfl (hb hby at_422) rfl rfl ?_
                          show Steps p.tables e below (T875.setTop (mkF m 424 #[.val (.long p0), .second, .val (.long p1), .second, .val (.int q4), .val (.int p3), .val (.ref b293), .val (.ref b365), .val (.ref b624), .val (.int iv), .val (.int tw), .val (.int jv), .val (.int (1 : Int32))] [(.ref b365), (.ref b624), (.int (1 : Int32))])) _
                          refine XS.iconst X875.here hx rfl (hb hby at_424) ?_
                          show Steps p.tables e below (T875.setTop (mkF m 425 #[.val (.long p0), .second, .val (.long p1), .second, .val (.int q4), .val (.int p3), .val (.ref b293), .val (.ref b365), .val (.ref b624), .val (.int iv), .val (.int tw), .val (.int jv), .val (.int (1 : Int32))] [(.int (0 : Int32)), (.ref b365), (.ref b624), (.int (1 : Int32))])) _
                          refine X875.aaload hx (j := (0 : Int32)) (v := (.ref b369)) (by rw [e875]; exact Ar882.1) (State.isArrayOf_alike hZ.alike Ar882.2.1) rfl Ar882.2.2 hin882 hat882 (g := (mkF m 425 #[.val (.long p0), .second, .val (.long p1), .second, .val (.int q4), .val (.int p3), .val (.ref b293), .val (.ref b365), .val (.ref b624), .val (.int iv), .val (.int tw), .val (.int jv), .val (.int (1 : Int32))] [(.int (0 : Int32)), (.ref b365), (.ref b624), (.int (1 : Int32))])) rfl rfl (hb hby at_425) _ ?_
                          show Steps p.tables e below (T875.setTop (mkF m 426 #[.val (.long p0), .second, .val (.long p1), .second, .val (.int q4), .val (.int p3), .val (.ref b293), .val (.ref b365), .val (.ref b624), .val (.int iv), .val (.int tw), .val (.int jv), .val (.int (1 : Int32))] [(.ref b369), (.ref b624), (.int (1 : Int32))])) _
                          refine XS.aload X875.here hx rfl (hb hby at_426) rfl rfl ?_
                          show Steps p.tables e below (T875.setTop (mkF m 428 #[.val (.long p0), .second, .val (.long p1), .second, .val (.int q4), .val (.int p3), .val (.ref b293), .val (.ref b365), .val (.ref b624), .val (.int iv), .val (.int tw), .val (.int jv), .val (.int (1 : Int32))] [(.ref b293), (.ref b369), (.ref b624), (.int (1 : Int32))])) _
                          refine XS.iconst X875.here hx rfl (hb hby at_428) ?_
                          show Steps p.tables e below (T875.setTop (mkF m 429 #[.val (.long p0), .second, .val (.long p1), .second, .val (.int q4), .val (.int p3), .val (.ref b293), .val (.ref b365), .val (.ref b624), .val (.int iv), .val (.int tw), .val (.int jv), .val (.int (1 : Int32))] [(.int (0 : Int32)), (.ref b293), (.ref b369), (.ref b624), (.int (1 : Int32))])) _
                          refine X875.iaload hx (j := (0 : Int32)) (v := (.int q0)) (by rw [e875]; exact Ar883.1) (State.isArrayOf_alike hZ.alike Ar883.2.1) Ar883.2.2 hin883 hat883 (g := (mkF m 429 #[.val (.long p0), .second, .val (.long p1), .second, .val (.int q4), .val (.int p3), .val (.ref b293), .val (.ref b365), .val (.ref b624), .val (.int iv), .val (.int tw), .val (.int jv), .val (.int (1 : Int32))] [(.int (0 : Int32)), (.ref b293), (.ref b369), (.ref b624), (.int (1 : Int32))])) rfl rfl (hb hby at_429) _ ?_
                          show Steps p.tables e below (T875.setTop (mkF m 430 #[.val (.long p0), .second, .val (.long p1), .second, .val (.int q4), .val (.int p3), .val (.ref b293), .val (.ref b365), .val (.ref b624), .val (.int iv), .val (.int tw), .val (.int jv), .val (.int (1 : Int32))] [(.int q0), (.ref b369), (.ref b624), (.int (1 : Int32))])) _
                          refine XS.iload X875.here hx rfl (hb hby at_430) rfl ?_
                          exact kk)
                      obtain ⟨gn0, hv_gn0, pre894j⟩ : ∃ (gn0 : Int32), gn0 = (if iv = (0 : Int32) then (1 : Int32) else (if tw = (0 : Int32) then (0 : Int32) else (if jv = (0 : Int32) then (1 : Int32) else (0 : Int32)))) ∧ ∀ t, Steps p.tables e below (T875.setTop (mkF m 450 #[.val (.long p0), .second, .val (.long p1), .second, .val (.int q4), .val (.int p3), .val (.ref b293), .val (.ref b365), .val (.ref b624), .val (.int iv), .val (.int tw), .val (.int jv), .val (.int (1 : Int32))] [(.int gn0), (.int q0), (.ref b369), (.ref b624), (.int (1 : Int32))])) t → Steps p.tables e below (s₁.setTop (entryFrame m #[(.long p0), (.long p1), (.int p2), (.int p3)] maxLocals)) t := by
                        by_cases hc885 : iv = (0 : Int32)
                        · have pre886 : ∀ t, Steps p.tables e below (T875.setTop (mkF m 450 #[.val (.long p0), .second, .val (.long p1), .second, .val (.int q4), .val (.int p3), .val (.ref b293), .val (.ref b365), .val (.ref b624), .val (.int iv), .val (.int tw), .val (.int jv), .val (.int (1 : Int32))] [(.int (1 : Int32)), (.int q0), (.ref b369), (.ref b624), (.int (1 : Int32))])) t → Steps p.tables e below (s₁.setTop (entryFrame m #[(.long p0), (.long p1), (.int p2), (.int p3)] maxLocals)) t := fun t kk => pre884 t (by
                              show Steps p.tables e below (T875.setTop (mkF m 432 #[.val (.long p0), .second, .val (.long p1), .second, .val (.int q4), .val (.int p3), .val (.ref b293), .val (.ref b365), .val (.ref b624), .val (.int iv), .val (.int tw), .val (.int jv), .val (.int (1 : Int32))] [(.int iv), (.int q0), (.ref b369), (.ref b624), (.int (1 : Int32))])) _
                              refine XS.ifYes X875.here hx rfl (pc0 := 432) (pc' := 445) rfl (hb hby at_432) rfl ((if0 _ _).trans (teq hc885).1) (by decide) (by decide) ?_
                              show Steps p.tables e below (T875.setTop (mkF m 445 #[.val (.long p0), .second, .val (.long p1), .second, .val (.int q4), .val (.int p3), .val (.ref b293), .val (.ref b365), .val (.ref b624), .val (.int iv), .val (.int tw), .val (.int jv), .val (.int (1 : Int32))] [(.int q0), (.ref b369), (.ref b624), (.int (1 : Int32))])) _
                              refine XS.iconst X875.here hx rfl (hb hby at_445) ?_
                              show Steps p.tables e below (T875.setTop (mkF m 446 #[.val (.long p0), .second, .val (.long p1), .second, .val (.int q4), .val (.int p3), .val (.ref b293), .val (.ref b365), .val (.ref b624), .val (.int iv), .val (.int tw), .val (.int jv), .val (.int (1 : Int32))] [(.int (1 : Int32)), (.int q0), (.ref b369), (.ref b624), (.int (1 : Int32))])) _
                              refine XS.goto X875.here hx rfl (pc0 := 446) (pc' := 450) rfl (hb hby at_446) (by decide) (by decide) ?_
                              exact kk)
                          exact ⟨(1 : Int32), (by rw [if_pos hc885]), pre886⟩
                        · have pre887 : ∀ t, Steps p.tables e below (T875.setTop (mkF m 437 #[.val (.long p0), .second, .val (.long p1), .second, .val (.int q4), .val (.int p3), .val (.ref b293), .val (.ref b365), .val (.ref b624), .val (.int iv), .val (.int tw), .val (.int jv), .val (.int (1 : Int32))] [(.int tw), (.int q0), (.ref b369), (.ref b624), (.int (1 : Int32))])) t → Steps p.tables e below (s₁.setTop (entryFrame m #[(.long p0), (.long p1), (.int p2), (.int p3)] maxLocals)) t := fun t kk => pre884 t (by
                              show Steps p.tables e below (T875.setTop (mkF m 432 #[.val (.long p0), .second, .val (.long p1), .second, .val (.int q4), .val (.int p3), .val (.ref b293), .val (.ref b365), .val (.ref b624), .val (.int iv), .val (.int tw), .val (.int jv), .val (.int (1 : Int32))] [(.int iv), (.int q0), (.ref b369), (.ref b624), (.int (1 : Int32))])) _
                              refine XS.ifNo X875.here hx rfl (hb hby at_432) rfl ((if0 _ _).trans (feq hc885).1) ?_
                              show Steps p.tables e below (T875.setTop (mkF m 435 #[.val (.long p0), .second, .val (.long p1), .second, .val (.int q4), .val (.int p3), .val (.ref b293), .val (.ref b365), .val (.ref b624), .val (.int iv), .val (.int tw), .val (.int jv), .val (.int (1 : Int32))] [(.int q0), (.ref b369), (.ref b624), (.int (1 : Int32))])) _
                              refine XS.iload X875.here hx rfl (hb hby at_435) rfl ?_
                              exact kk)
                          by_cases hc888 : tw = (0 : Int32)
                          · have pre889 : ∀ t, Steps p.tables e below (T875.setTop (mkF m 450 #[.val (.long p0), .second, .val (.long p1), .second, .val (.int q4), .val (.int p3), .val (.ref b293), .val (.ref b365), .val (.ref b624), .val (.int iv), .val (.int tw), .val (.int jv), .val (.int (1 : Int32))] [(.int (0 : Int32)), (.int q0), (.ref b369), (.ref b624), (.int (1 : Int32))])) t → Steps p.tables e below (s₁.setTop (entryFrame m #[(.long p0), (.long p1), (.int p2), (.int p3)] maxLocals)) t := fun t kk => pre887 t (by
                                show Steps p.tables e below (T875.setTop (mkF m 437 #[.val (.long p0), .second, .val (.long p1), .second, .val (.int q4), .val (.int p3), .val (.ref b293), .val (.ref b365), .val (.ref b624), .val (.int iv), .val (.int tw), .val (.int jv), .val (.int (1 : Int32))] [(.int tw), (.int q0), (.ref b369), (.ref b624), (.int (1 : Int32))])) _
                                refine XS.ifYes X875.here hx rfl (pc0 := 437) (pc' := 449) rfl (hb hby at_437) rfl ((if0 _ _).trans (teq hc888).1) (by decide) (by decide) ?_
                                show Steps p.tables e below (T875.setTop (mkF m 449 #[.val (.long p0), .second, .val (.long p1), .second, .val (.int q4), .val (.int p3), .val (.ref b293), .val (.ref b365), .val (.ref b624), .val (.int iv), .val (.int tw), .val (.int jv), .val (.int (1 : Int32))] [(.int q0), (.ref b369), (.ref b624), (.int (1 : Int32))])) _
                                refine XS.iconst X875.here hx rfl (hb hby at_449) ?_
                                exact kk)
                            exact ⟨(0 : Int32), (by rw [if_neg hc885, if_pos hc888]), pre889⟩
                          · have pre890 : ∀ t, Steps p.tables e below (T875.setTop (mkF m 442 #[.val (.long p0), .second, .val (.long p1), .second, .val (.int q4), .val (.int p3), .val (.ref b293), .val (.ref b365), .val (.ref b624), .val (.int iv), .val (.int tw), .val (.int jv), .val (.int (1 : Int32))] [(.int jv), (.int q0), (.ref b369), (.ref b624), (.int (1 : Int32))])) t → Steps p.tables e below (s₁.setTop (entryFrame m #[(.long p0), (.long p1), (.int p2), (.int p3)] maxLocals)) t := fun t kk => pre887 t (by
                                show Steps p.tables e below (T875.setTop (mkF m 437 #[.val (.long p0), .second, .val (.long p1), .second, .val (.int q4), .val (.int p3), .val (.ref b293), .val (.ref b365), .val (.ref b624), .val (.int iv), .val (.int tw), .val (.int jv), .val (.int (1 : Int32))] [(.int tw), (.int q0), (.ref b369), (.ref b624), (.int (1 : Int32))])) _
                                refine XS.ifNo X875.here hx rfl (hb hby at_437) rfl ((if0 _ _).trans (feq hc888).1) ?_
                                show Steps p.tables e below (T875.setTop (mkF m 440 #[.val (.long p0), .second, .val (.long p1), .second, .val (.int q4), .val (.int p3), .val (.ref b293), .val (.ref b365), .val (.ref b624), .val (.int iv), .val (.int tw), .val (.int jv), .val (.int (1 : Int32))] [(.int q0), (.ref b369), (.ref b624), (.int (1 : Int32))])) _
                                refine XS.iload X875.here hx rfl (hb hby at_440) rfl ?_
                                exact kk)
                            by_cases hc891 : jv = (0 : Int32)
                            · have pre892 : ∀ t, Steps p.tables e below (T875.setTop (mkF m 450 #[.val (.long p0), .second, .val (.long p1), .second, .val (.int q4), .val (.int p3), .val (.ref b293), .val (.ref b365), .val (.ref b624), .val (.int iv), .val (.int tw), .val (.int jv), .val (.int (1 : Int32))] [(.int (1 : Int32)), (.int q0), (.ref b369), (.ref b624), (.int (1 : Int32))])) t → Steps p.tables e below (s₁.setTop (entryFrame m #[(.long p0), (.long p1), (.int p2), (.int p3)] maxLocals)) t := fun t kk => pre890 t (by
                                  show Steps p.tables e below (T875.setTop (mkF m 442 #[.val (.long p0), .second, .val (.long p1), .second, .val (.int q4), .val (.int p3), .val (.ref b293), .val (.ref b365), .val (.ref b624), .val (.int iv), .val (.int tw), .val (.int jv), .val (.int (1 : Int32))] [(.int jv), (.int q0), (.ref b369), (.ref b624), (.int (1 : Int32))])) _
                                  refine XS.ifNo X875.here hx rfl (hb hby at_442) rfl ((if0 _ _).trans (teq hc891).2) ?_
                                  show Steps p.tables e below (T875.setTop (mkF m 445 #[.val (.long p0), .second, .val (.long p1), .second, .val (.int q4), .val (.int p3), .val (.ref b293), .val (.ref b365), .val (.ref b624), .val (.int iv), .val (.int tw), .val (.int jv), .val (.int (1 : Int32))] [(.int q0), (.ref b369), (.ref b624), (.int (1 : Int32))])) _
                                  refine XS.iconst X875.here hx rfl (hb hby at_445) ?_
                                  show Steps p.tables e below (T875.setTop (mkF m 446 #[.val (.long p0), .second, .val (.long p1), .second, .val (.int q4), .val (.int p3), .val (.ref b293), .val (.ref b365), .val (.ref b624), .val (.int iv), .val (.int tw), .val (.int jv), .val (.int (1 : Int32))] [(.int (1 : Int32)), (.int q0), (.ref b369), (.ref b624), (.int (1 : Int32))])) _
                                  refine XS.goto X875.here hx rfl (pc0 := 446) (pc' := 450) rfl (hb hby at_446) (by decide) (by decide) ?_
                                  exact kk)
                              exact ⟨(1 : Int32), (by rw [if_neg hc885, if_neg hc888, if_pos hc891]), pre892⟩
                            · have pre893 : ∀ t, Steps p.tables e below (T875.setTop (mkF m 450 #[.val (.long p0), .second, .val (.long p1), .second, .val (.int q4), .val (.int p3), .val (.ref b293), .val (.ref b365), .val (.ref b624), .val (.int iv), .val (.int tw), .val (.int jv), .val (.int (1 : Int32))] [(.int (0 : Int32)), (.int q0), (.ref b369), (.ref b624), (.int (1 : Int32))])) t → Steps p.tables e below (s₁.setTop (entryFrame m #[(.long p0), (.long p1), (.int p2), (.int p3)] maxLocals)) t := fun t kk => pre890 t (by
                                  show Steps p.tables e below (T875.setTop (mkF m 442 #[.val (.long p0), .second, .val (.long p1), .second, .val (.int q4), .val (.int p3), .val (.ref b293), .val (.ref b365), .val (.ref b624), .val (.int iv), .val (.int tw), .val (.int jv), .val (.int (1 : Int32))] [(.int jv), (.int q0), (.ref b369), (.ref b624), (.int (1 : Int32))])) _
                                  refine XS.ifYes X875.here hx rfl (pc0 := 442) (pc' := 449) rfl (hb hby at_442) rfl ((if0 _ _).trans (feq hc891).2) (by decide) (by decide) ?_
                                  show Steps p.tables e below (T875.setTop (mkF m 449 #[.val (.long p0), .second, .val (.long p1), .second, .val (.int q4), .val (.int p3), .val (.ref b293), .val (.ref b365), .val (.ref b624), .val (.int iv), .val (.int tw), .val (.int jv), .val (.int (1 : Int32))] [(.int q0), (.ref b369), (.ref b624), (.int (1 : Int32))])) _
                                  refine XS.iconst X875.here hx rfl (hb hby at_449) ?_
                                  exact kk)
                              exact ⟨(0 : Int32), (by rw [if_neg hc885, if_neg hc888, if_neg hc891]), pre893⟩
                      have hk0 := own_chk (F := own_sel b369 b389 b416 b450 b491) (m := (0 : Int32)) hiv hjv.1 ⟨by decide, by decide⟩ hv_gn0 inj pinj pu872_1
                      have hp896 : own_TI (own_hmf pgs) vs2_872 := pu872_0
                      have hp897 : j0 < 16 := hj
                      have hp898 : vs2_872.getD j0 .null = .null := hj0
                      have hp899 : ¬ gn0 = (0 : Int32) → ∀ g, own_R vs2_872 g → pgs g ≠ q0 := fun h g hg e => (hk0.1 h g hg) (e.trans hp0.symm)
                      have hp900 : gn0 = (0 : Int32) → own_R vs2_872 b369 ∧ pgs b369 = q0 ∧ ∀ g, own_R vs2_872 g → pgs g = q0 → g = b369 := fun h => ⟨(hk0.2 h).1, hp0, fun g hg e => (hk0.2 h).2 g hg (e.trans hp0.symm)⟩
                      obtain ⟨_, _, ⟨T895, L895, k895, n895⟩, -, X895, ⟨Lc895, hQ895, l895, y895, z895⟩, st895⟩ := Jvm.LawKit.callS X875 hx (y := (⟨"com/example/redoubt/redoubt/storage/FrameTableRemovePinLaw", "check", "(Lcom/example/redoubt/redoubt/storage/FrameTable;Lcom/example/redoubt/redoubt/storage/PageCache$Frame;IZ)Z"⟩ : MethodName)) hown (mvT hZ (hw _ (List.mem_of_getElem? (i := 57) rfl))) (mvT hZ (hw _ (List.mem_of_getElem? (i := 58) rfl))) (mvT hZ (hw _ (List.mem_of_getElem? (i := 59) rfl))) (mvT hZ (hw _ (List.mem_of_getElem? (i := 60) rfl))) (by decide) (backOf (W := 1) (rmCheck l Z a0 hw [] b624 b369 q0 gn0 a_648 k_648 vs2_872 j0 pgs h872 n0 (Nat.le_trans Z0 K872.1) P872_0 P872_1 P872_2 P872_5 P872_4 hp896 hp897 hp898 hp899 hp900) hZ (hw _ (List.mem_of_getElem? (i := 60) rfl)) (hw _ (List.mem_of_getElem? (i := 59) rfl)) (by decide) (by decide)) (g := (mkF m 450 #[.val (.long p0), .second, .val (.long p1), .second, .val (.int q4), .val (.int p3), .val (.ref b293), .val (.ref b365), .val (.ref b624), .val (.int iv), .val (.int tw), .val (.int jv), .val (.int (1 : Int32))] [(.int gn0), (.int q0), (.ref b369), (.ref b624), (.int (1 : Int32))])) rfl (by rw [hml]; rfl) (argsL := [(.ref b624), (.ref b369), (.int q0), (.int gn0)]) (rest := [(.int (1 : Int32))]) (lenOf pd_5 rfl) rfl (by show 2 * 0 + _ ≤ _; exact Nat.le_of_eq rfl) (hb hby at_450) (fun _ _ => ⟨rfl, e875, (by decide : 14 + 0 ≤ _), (by decide : 41019 + 0 ≤ _)⟩)
                      dsimp only [Pt.U, Pt.locs, Pt.cells, Pt.slots] at X895 l895 y895 z895 st895 hQ895
                      rw [l895, y895, z895] at X895
                      replace X895 := own_std X895 (cc := 14) (ss := 41019) rfl rfl
                      obtain ⟨rfl, N895q, e895⟩ := hQ895
                      have N895 := Fr.app N875 N895q
                      have pre901 : ∀ t, Steps p.tables e below (T895.setTop (mkF m 456 #[.val (.long p0), .second, .val (.long p1), .second, .val (.int q4), .val (.int p3), .val (.ref b293), .val (.ref b365), .val (.ref b624), .val (.int iv), .val (.int tw), .val (.int jv), .val (.int ((1 : Int32) &&& (1 : Int32)))] [])) t → Steps p.tables e below (s₁.setTop (entryFrame m #[(.long p0), (.long p1), (.int p2), (.int p3)] maxLocals)) t := fun t kk => pre894j t (by
                          show Steps p.tables e below (T875.setTop (mkF m 450 #[.val (.long p0), .second, .val (.long p1), .second, .val (.int q4), .val (.int p3), .val (.ref b293), .val (.ref b365), .val (.ref b624), .val (.int iv), .val (.int tw), .val (.int jv), .val (.int (1 : Int32))] [(.int gn0), (.int q0), (.ref b369), (.ref b624), (.int (1 : Int32))])) _
                          refine st895 _ ?_
                          show Steps p.tables e below (T895.setTop (mkF m 453 #[.val (.long p0), .second, .val (.long p1), .second, .val (.int q4), .val (.int p3), .val (.ref b293), .val (.ref b365), .val (.ref b624), .val (.int iv), .val (.int tw), .val (.int jv), .val (.int (1 : Int32))] [(.int (1 : Int32)), (.int (1 : Int32))])) _
                          refine XS.iand X895.here hx rfl (hb hby at_453) rfl ?_
                          show Steps p.tables e below (T895.setTop (mkF m 454 #[.val (.long p0), .second, .val (.long p1), .second, .val (.int q4), .val (.int p3), .val (.ref b293), .val (.ref b365), .val (.ref b624), .val (.int iv), .val (.int tw), .val (.int jv), .val (.int (1 : Int32))] [(.int ((1 : Int32) &&& (1 : Int32)))])) _
                          refine XS.istore X895.here hx rfl (hb hby at_454) rfl (l' := #[.val (.long p0), .second, .val (.long p1), .second, .val (.int q4), .val (.int p3), .val (.ref b293), .val (.ref b365), .val (.ref b624), .val (.int iv), .val (.int tw), .val (.int jv), .val (.int ((1 : Int32) &&& (1 : Int32)))]) rfl ?_
                          exact kk)
                      have eq902 : ((1 : Int32) &&& (1 : Int32)) = (1 : Int32) := by decide
                      have pre903 : ∀ t, Steps p.tables e below (T895.setTop (mkF m 456 #[.val (.long p0), .second, .val (.long p1), .second, .val (.int q4), .val (.int p3), .val (.ref b293), .val (.ref b365), .val (.ref b624), .val (.int iv), .val (.int tw), .val (.int jv), .val (.int (1 : Int32))] [])) t → Steps p.tables e below (s₁.setTop (entryFrame m #[(.long p0), (.long p1), (.int p2), (.int p3)] maxLocals)) t := fun t kk => pre901 t (own_cast (fun zz : Int32 => T895.setTop (mkF m 456 #[.val (.long p0), .second, .val (.long p1), .second, .val (.int q4), .val (.int p3), .val (.ref b293), .val (.ref b365), .val (.ref b624), .val (.int iv), .val (.int tw), .val (.int jv), .val (.int zz)] [])) eq902 kk)
                      obtain ⟨cl904, Ar904, q904, Sz904, Nn904, H904, G904⟩ := id P872_6
                      have hin904 : ¬ ((1 : Int32) < 0 ∨ cl904.slots.size ≤ ((1 : Int32)).toNatClampNeg) := (inb_of Sz904 ⟨by decide, by decide⟩)
                      have hat904 : cl904.slots[((1 : Int32)).toNatClampNeg]? = some (.ref b389) := H904.at hin904 rfl
                      obtain ⟨cl905, Ar905, q905, Sz905, Nn905, H905, G905⟩ := id P872_7
                      have hin905 : ¬ ((1 : Int32) < 0 ∨ cl905.slots.size ≤ ((1 : Int32)).toNatClampNeg) := (inb_of Sz905 ⟨by decide, by decide⟩)
                      have hat905 : cl905.slots[((1 : Int32)).toNatClampNeg]? = some (.int q1) := H905.at hin905 rfl
                      have pre906 : ∀ t, Steps p.tables e below (T895.setTop (mkF m 471 #[.val (.long p0), .second, .val (.long p1), .second, .val (.int q4), .val (.int p3), .val (.ref b293), .val (.ref b365), .val (.ref b624), .val (.int iv), .val (.int tw), .val (.int jv), .val (.int (1 : Int32))] [(.int (1 : Int32)), (.int iv), (.int q1), (.ref b389), (.ref b624), (.int (1 : Int32))])) t → Steps p.tables e below (s₁.setTop (entryFrame m #[(.long p0), (.long p1), (.int p2), (.int p3)] maxLocals)) t := fun t kk => pre903 t (by
                          show Steps p.tables e below (T895.setTop (mkF m 456 #[.val (.long p0), .second, .val (.long p1), .second, .val (.int q4), .val (.int p3), .val (.ref b293), .val (.ref b365), .val (.ref b624), .val (.int iv), .val (.int tw), .val (.int jv), .val (.int (1 : Int32))] [])) _
                          refine XS.iload X895.here hx rfl (hb hby at_456) rfl ?_
                          show Steps p.tables e below (T895.setTop (mkF m 458 #[.val (.long p0), .second, .val (.long p1), .second, .val (.int q4), .val (.int p3), .val (.ref b293), .val (.ref b365), .val (.ref b624), .val (.int iv), .val (.int tw), .val (.int jv), .val (.int (1 : Int32))] [(.int (1 : Int32))])) _
                          refine XS.aload X895.here hx rfl (hb hby at_458) rfl rfl ?_
                          show Steps p.tables e below (T895.setTop (mkF m 460 #[.val (.long p0), .second, .val (.long p1), .second, .val (.int q4), .val (.int p3), .val (.ref b293), .val (.ref b365), .val (.ref b624), .val (.int iv), .val (.int tw), .val (.int jv), .val (.int (1 : Int32))] [(.ref b624), (.int (1 : Int32))])) _
                          refine XS.aload X895.here hx rfl (hb hby at_460) rfl rfl ?_
                          show Steps p.tables e below (T895.setTop (mkF m 462 #[.val (.long p0), .second, .val (.long p1), .second, .val (.int q4), .val (.int p3), .val (.ref b293), .val (.ref b365), .val (.ref b624), .val (.int iv), .val (.int tw), .val (.int jv), .val (.int (1 : Int32))] [(.ref b365), (.ref b624), (.int (1 : Int32))])) _
                          refine XS.iconst X895.here hx rfl (hb hby at_462) ?_
                          show Steps p.tables e below (T895.setTop (mkF m 463 #[.val (.long p0), .second, .val (.long p1), .second, .val (.int q4), .val (.int p3), .val (.ref b293), .val (.ref b365), .val (.ref b624), .val (.int iv), .val (.int tw), .val (.int jv), .val (.int (1 : Int32))] [(.int (1 : Int32)), (.ref b365), (.ref b624), (.int (1 : Int32))])) _
                          refine X895.aaload hx (j := (1 : Int32)) (v := (.ref b389)) (by rw [e895]; exact Ar904.1) (State.isArrayOf_alike hZ.alike Ar904.2.1) rfl Ar904.2.2 hin904 hat904 (g := (mkF m 463 #[.val (.long p0), .second, .val (.long p1), .second, .val (.int q4), .val (.int p3), .val (.ref b293), .val (.ref b365), .val (.ref b624), .val (.int iv), .val (.int tw), .val (.int jv), .val (.int (1 : Int32))] [(.int (1 : Int32)), (.ref b365), (.ref b624), (.int (1 : Int32))])) rfl rfl (hb hby at_463) _ ?_
                          show Steps p.tables e below (T895.setTop (mkF m 464 #[.val (.long p0), .second, .val (.long p1), .second, .val (.int q4), .val (.int p3), .val (.ref b293), .val (.ref b365), .val (.ref b624), .val (.int iv), .val (.int tw), .val (.int jv), .val (.int (1 : Int32))] [(.ref b389), (.ref b624), (.int (1 : Int32))])) _
                          refine XS.aload X895.here hx rfl (hb hby at_464) rfl rfl ?_
                          show Steps p.tables e below (T895.setTop (mkF m 466 #[.val (.long p0), .second, .val (.long p1), .second, .val (.int q4), .val (.int p3), .val (.ref b293), .val (.ref b365), .val (.ref b624), .val (.int iv), .val (.int tw), .val (.int jv), .val (.int (1 : Int32))] [(.ref b293), (.ref b389), (.ref b624), (.int (1 : Int32))])) _
                          refine XS.iconst X895.here hx rfl (hb hby at_466) ?_
                          show Steps p.tables e below (T895.setTop (mkF m 467 #[.val (.long p0), .second, .val (.long p1), .second, .val (.int q4), .val (.int p3), .val (.ref b293), .val (.ref b365), .val (.ref b624), .val (.int iv), .val (.int tw), .val (.int jv), .val (.int (1 : Int32))] [(.int (1 : Int32)), (.ref b293), (.ref b389), (.ref b624), (.int (1 : Int32))])) _
                          refine X895.iaload hx (j := (1 : Int32)) (v := (.int q1)) (by rw [e895]; exact Ar905.1) (State.isArrayOf_alike hZ.alike Ar905.2.1) Ar905.2.2 hin905 hat905 (g := (mkF m 467 #[.val (.long p0), .second, .val (.long p1), .second, .val (.int q4), .val (.int p3), .val (.ref b293), .val (.ref b365), .val (.ref b624), .val (.int iv), .val (.int tw), .val (.int jv), .val (.int (1 : Int32))] [(.int (1 : Int32)), (.ref b293), (.ref b389), (.ref b624), (.int (1 : Int32))])) rfl rfl (hb hby at_467) _ ?_
                          show Steps p.tables e below (T895.setTop (mkF m 468 #[.val (.long p0), .second, .val (.long p1), .second, .val (.int q4), .val (.int p3), .val (.ref b293), .val (.ref b365), .val (.ref b624), .val (.int iv), .val (.int tw), .val (.int jv), .val (.int (1 : Int32))] [(.int q1), (.ref b389), (.ref b624), (.int (1 : Int32))])) _
                          refine XS.iload X895.here hx rfl (hb hby at_468) rfl ?_
                          show Steps p.tables e below (T895.setTop (mkF m 470 #[.val (.long p0), .second, .val (.long p1), .second, .val (.int q4), .val (.int p3), .val (.ref b293), .val (.ref b365), .val (.ref b624), .val (.int iv), .val (.int tw), .val (.int jv), .val (.int (1 : Int32))] [(.int iv), (.int q1), (.ref b389), (.ref b624), (.int (1 : Int32))])) _
                          refine XS.iconst X895.here hx rfl (hb hby at_470) ?_
                          exact kk)
                      obtain ⟨gn1, hv_gn1, pre916j⟩ : ∃ (gn1 : Int32), gn1 = (if iv = (1 : Int32) then (1 : Int32) else (if tw = (0 : Int32) then (0 : Int32) else (if jv = (1 : Int32) then (1 : Int32) else (0 : Int32)))) ∧ ∀ t, Steps p.tables e below (T895.setTop (mkF m 490 #[.val (.long p0), .second, .val (.long p1), .second, .val (.int q4), .val (.int p3), .val (.ref b293), .val (.ref b365), .val (.ref b624), .val (.int iv), .val (.int tw), .val (.int jv), .val (.int (1 : Int32))] [(.int gn1), (.int q1), (.ref b389), (.ref b624), (.int (1 : Int32))])) t → Steps p.tables e below (s₁.setTop (entryFrame m #[(.long p0), (.long p1), (.int p2), (.int p3)] maxLocals)) t := by
                        by_cases hc907 : iv = (1 : Int32)
                        · have pre908 : ∀ t, Steps p.tables e below (T895.setTop (mkF m 490 #[.val (.long p0), .second, .val (.long p1), .second, .val (.int q4), .val (.int p3), .val (.ref b293), .val (.ref b365), .val (.ref b624), .val (.int iv), .val (.int tw), .val (.int jv), .val (.int (1 : Int32))] [(.int (1 : Int32)), (.int q1), (.ref b389), (.ref b624), (.int (1 : Int32))])) t → Steps p.tables e below (s₁.setTop (entryFrame m #[(.long p0), (.long p1), (.int p2), (.int p3)] maxLocals)) t := fun t kk => pre906 t (by
                              show Steps p.tables e below (T895.setTop (mkF m 471 #[.val (.long p0), .second, .val (.long p1), .second, .val (.int q4), .val (.int p3), .val (.ref b293), .val (.ref b365), .val (.ref b624), .val (.int iv), .val (.int tw), .val (.int jv), .val (.int (1 : Int32))] [(.int (1 : Int32)), (.int iv), (.int q1), (.ref b389), (.ref b624), (.int (1 : Int32))])) _
                              refine XS.icmpYes X895.here hx rfl (pc0 := 471) (pc' := 485) rfl (hb hby at_471) rfl (teq hc907).1 (by decide) (by decide) ?_
                              show Steps p.tables e below (T895.setTop (mkF m 485 #[.val (.long p0), .second, .val (.long p1), .second, .val (.int q4), .val (.int p3), .val (.ref b293), .val (.ref b365), .val (.ref b624), .val (.int iv), .val (.int tw), .val (.int jv), .val (.int (1 : Int32))] [(.int q1), (.ref b389), (.ref b624), (.int (1 : Int32))])) _
                              refine XS.iconst X895.here hx rfl (hb hby at_485) ?_
                              show Steps p.tables e below (T895.setTop (mkF m 486 #[.val (.long p0), .second, .val (.long p1), .second, .val (.int q4), .val (.int p3), .val (.ref b293), .val (.ref b365), .val (.ref b624), .val (.int iv), .val (.int tw), .val (.int jv), .val (.int (1 : Int32))] [(.int (1 : Int32)), (.int q1), (.ref b389), (.ref b624), (.int (1 : Int32))])) _
                              refine XS.goto X895.here hx rfl (pc0 := 486) (pc' := 490) rfl (hb hby at_486) (by decide) (by decide) ?_
                              exact kk)
                          exact ⟨(1 : Int32), (by rw [if_pos hc907]), pre908⟩
                        · have pre909 : ∀ t, Steps p.tables e below (T895.setTop (mkF m 476 #[.val (.long p0), .second, .val (.long p1), .second, .val (.int q4), .val (.int p3), .val (.ref b293), .val (.ref b365), .val (.ref b624), .val (.int iv), .val (.int tw), .val (.int jv), .val (.int (1 : Int32))] [(.int tw), (.int q1), (.ref b389), (.ref b624), (.int (1 : Int32))])) t → Steps p.tables e below (s₁.setTop (entryFrame m #[(.long p0), (.long p1), (.int p2), (.int p3)] maxLocals)) t := fun t kk => pre906 t (by
                              show Steps p.tables e below (T895.setTop (mkF m 471 #[.val (.long p0), .second, .val (.long p1), .second, .val (.int q4), .val (.int p3), .val (.ref b293), .val (.ref b365), .val (.ref b624), .val (.int iv), .val (.int tw), .val (.int jv), .val (.int (1 : Int32))] [(.int (1 : Int32)), (.int iv), (.int q1), (.ref b389), (.ref b624), (.int (1 : Int32))])) _
                              refine XS.icmpNo X895.here hx rfl (hb hby at_471) rfl (feq hc907).1 ?_
                              show Steps p.tables e below (T895.setTop (mkF m 474 #[.val (.long p0), .second, .val (.long p1), .second, .val (.int q4), .val (.int p3), .val (.ref b293), .val (.ref b365), .val (.ref b624), .val (.int iv), .val (.int tw), .val (.int jv), .val (.int (1 : Int32))] [(.int q1), (.ref b389), (.ref b624), (.int (1 : Int32))])) _
                              refine XS.iload X895.here hx rfl (hb hby at_474) rfl ?_
                              exact kk)
                          by_cases hc910 : tw = (0 : Int32)
                          · have pre911 : ∀ t, Steps p.tables e below (T895.setTop (mkF m 490 #[.val (.long p0), .second, .val (.long p1), .second, .val (.int q4), .val (.int p3), .val (.ref b293), .val (.ref b365), .val (.ref b624), .val (.int iv), .val (.int tw), .val (.int jv), .val (.int (1 : Int32))] [(.int (0 : Int32)), (.int q1), (.ref b389), (.ref b624), (.int (1 : Int32))])) t → Steps p.tables e below (s₁.setTop (entryFrame m #[(.long p0), (.long p1), (.int p2), (.int p3)] maxLocals)) t := fun t kk => pre909 t (by
                                show Steps p.tables e below (T895.setTop (mkF m 476 #[.val (.long p0), .second, .val (.long p1), .second, .val (.int q4), .val (.int p3), .val (.ref b293), .val (.ref b365), .val (.ref b624), .val (.int iv), .val (.int tw), .val (.int jv), .val (.int (1 : Int32))] [(.int tw), (.int q1), (.ref b389), (.ref b624), (.int (1 : Int32))])) _
                                refine XS.ifYes X895.here hx rfl (pc0 := 476) (pc' := 489) rfl (hb hby at_476) rfl ((if0 _ _).trans (teq hc910).1) (by decide) (by decide) ?_
                                show Steps p.tables e below (T895.setTop (mkF m 489 #[.val (.long p0), .second, .val (.long p1), .second, .val (.int q4), .val (.int p3), .val (.ref b293), .val (.ref b365), .val (.ref b624), .val (.int iv), .val (.int tw), .val (.int jv), .val (.int (1 : Int32))] [(.int q1), (.ref b389), (.ref b624), (.int (1 : Int32))])) _
                                refine XS.iconst X895.here hx rfl (hb hby at_489) ?_
                                exact kk)
                            exact ⟨(0 : Int32), (by rw [if_neg hc907, if_pos hc910]), pre911⟩
                          · have pre912 : ∀ t, Steps p.tables e below (T895.setTop (mkF m 482 #[.val (.long p0), .second, .val (.long p1), .second, .val (.int q4), .val (.int p3), .val (.ref b293), .val (.ref b365), .val (.ref b624), .val (.int iv), .val (.int tw), .val (.int jv), .val (.int (1 : Int32))] [(.int (1 : Int32)), (.int jv), (.int q1), (.ref b389), (.ref b624), (.int (1 : Int32))])) t → Steps p.tables e below (s₁.setTop (entryFrame m #[(.long p0), (.long p1), (.int p2), (.int p3)] maxLocals)) t := fun t kk => pre909 t (by
                                show Steps p.tables e below (T895.setTop (mkF m 476 #[.val (.long p0), .second, .val (.long p1), .second, .val (.int q4), .val (.int p3), .val (.ref b293), .val (.ref b365), .val (.ref b624), .val (.int iv), .val (.int tw), .val (.int jv), .val (.int (1 : Int32))] [(.int tw), (.int q1), (.ref b389), (.ref b624), (.int (1 : Int32))])) _
                                refine XS.ifNo X895.here hx rfl (hb hby at_476) rfl ((if0 _ _).trans (feq hc910).1) ?_
                                show Steps p.tables e below (T895.setTop (mkF m 479 #[.val (.long p0), .second, .val (.long p1), .second, .val (.int q4), .val (.int p3), .val (.ref b293), .val (.ref b365), .val (.ref b624), .val (.int iv), .val (.int tw), .val (.int jv), .val (.int (1 : Int32))] [(.int q1), (.ref b389), (.ref b624), (.int (1 : Int32))])) _
                                refine XS.iload X895.here hx rfl (hb hby at_479) rfl ?_
                                show Steps p.tables e below (T895.setTop (mkF m 481 #[.val (.long p0), .second, .val (.long p1), .second, .val (.int q4), .val (.int p3), .val (.ref b293), .val (.ref b365), .val (.ref b624), .val (.int iv), .val (.int tw), .val (.int jv), .val (.int (1 : Int32))] [(.int jv), (.int q1), (.ref b389), (.ref b624), (.int (1 : Int32))])) _
                                refine XS.iconst X895.here hx rfl (hb hby at_481) ?_
                                exact kk)
                            by_cases hc913 : jv = (1 : Int32)
                            · have pre914 : ∀ t, Steps p.tables e below (T895.setTop (mkF m 490 #[.val (.long p0), .second, .val (.long p1), .second, .val (.int q4), .val (.int p3), .val (.ref b293), .val (.ref b365), .val (.ref b624), .val (.int iv), .val (.int tw), .val (.int jv), .val (.int (1 : Int32))] [(.int (1 : Int32)), (.int q1), (.ref b389), (.ref b624), (.int (1 : Int32))])) t → Steps p.tables e below (s₁.setTop (entryFrame m #[(.long p0), (.long p1), (.int p2), (.int p3)] maxLocals)) t := fun t kk => pre912 t (by
                                  show Steps p.tables e below (T895.setTop (mkF m 482 #[.val (.long p0), .second, .val (.long p1), .second, .val (.int q4), .val (.int p3), .val (.ref b293), .val (.ref b365), .val (.ref b624), .val (.int iv), .val (.int tw), .val (.int jv), .val (.int (1 : Int32))] [(.int (1 : Int32)), (.int jv), (.int q1), (.ref b389), (.ref b624), (.int (1 : Int32))])) _
                                  refine XS.icmpNo X895.here hx rfl (hb hby at_482) rfl (teq hc913).2 ?_
                                  show Steps p.tables e below (T895.setTop (mkF m 485 #[.val (.long p0), .second, .val (.long p1), .second, .val (.int q4), .val (.int p3), .val (.ref b293), .val (.ref b365), .val (.ref b624), .val (.int iv), .val (.int tw), .val (.int jv), .val (.int (1 : Int32))] [(.int q1), (.ref b389), (.ref b624), (.int (1 : Int32))])) _
                                  refine XS.iconst X895.here hx rfl (hb hby at_485) ?_
                                  show Steps p.tables e below (T895.setTop (mkF m 486 #[.val (.long p0), .second, .val (.long p1), .second, .val (.int q4), .val (.int p3), .val (.ref b293), .val (.ref b365), .val (.ref b624), .val (.int iv), .val (.int tw), .val (.int jv), .val (.int (1 : Int32))] [(.int (1 : Int32)), (.int q1), (.ref b389), (.ref b624), (.int (1 : Int32))])) _
                                  refine XS.goto X895.here hx rfl (pc0 := 486) (pc' := 490) rfl (hb hby at_486) (by decide) (by decide) ?_
                                  exact kk)
                              exact ⟨(1 : Int32), (by rw [if_neg hc907, if_neg hc910, if_pos hc913]), pre914⟩
                            · have pre915 : ∀ t, Steps p.tables e below (T895.setTop (mkF m 490 #[.val (.long p0), .second, .val (.long p1), .second, .val (.int q4), .val (.int p3), .val (.ref b293), .val (.ref b365), .val (.ref b624), .val (.int iv), .val (.int tw), .val (.int jv), .val (.int (1 : Int32))] [(.int (0 : Int32)), (.int q1), (.ref b389), (.ref b624), (.int (1 : Int32))])) t → Steps p.tables e below (s₁.setTop (entryFrame m #[(.long p0), (.long p1), (.int p2), (.int p3)] maxLocals)) t := fun t kk => pre912 t (by
                                  show Steps p.tables e below (T895.setTop (mkF m 482 #[.val (.long p0), .second, .val (.long p1), .second, .val (.int q4), .val (.int p3), .val (.ref b293), .val (.ref b365), .val (.ref b624), .val (.int iv), .val (.int tw), .val (.int jv), .val (.int (1 : Int32))] [(.int (1 : Int32)), (.int jv), (.int q1), (.ref b389), (.ref b624), (.int (1 : Int32))])) _
                                  refine XS.icmpYes X895.here hx rfl (pc0 := 482) (pc' := 489) rfl (hb hby at_482) rfl (feq hc913).2 (by decide) (by decide) ?_
                                  show Steps p.tables e below (T895.setTop (mkF m 489 #[.val (.long p0), .second, .val (.long p1), .second, .val (.int q4), .val (.int p3), .val (.ref b293), .val (.ref b365), .val (.ref b624), .val (.int iv), .val (.int tw), .val (.int jv), .val (.int (1 : Int32))] [(.int q1), (.ref b389), (.ref b624), (.int (1 : Int32))])) _
                                  refine XS.iconst X895.here hx rfl (hb hby at_489) ?_
                                  exact kk)
                              exact ⟨(0 : Int32), (by rw [if_neg hc907, if_neg hc910, if_neg hc913]), pre915⟩
                      have hk1 := own_chk (F := own_sel b369 b389 b416 b450 b491) (m := (1 : Int32)) hiv hjv.1 ⟨by decide, by decide⟩ hv_gn1 inj pinj pu872_1
                      have hp918 : own_TI (own_hmf pgs) vs2_872 := pu872_0
                      have hp919 : j0 < 16 := hj
                      have hp920 : vs2_872.getD j0 .null = .null := hj0
                      have hp921 : ¬ gn1 = (0 : Int32) → ∀ g, own_R vs2_872 g → pgs g ≠ q1 := fun h g hg e => (hk1.1 h g hg) (e.trans hp1.symm)
                      have hp922 : gn1 = (0 : Int32) → own_R vs2_872 b389 ∧ pgs b389 = q1 ∧ ∀ g, own_R vs2_872 g → pgs g = q1 → g = b389 := fun h => ⟨(hk1.2 h).1, hp1, fun g hg e => (hk1.2 h).2 g hg (e.trans hp1.symm)⟩
                      obtain ⟨_, _, ⟨T917, L917, k917, n917⟩, -, X917, ⟨Lc917, hQ917, l917, y917, z917⟩, st917⟩ := Jvm.LawKit.callS X895 hx (y := (⟨"com/example/redoubt/redoubt/storage/FrameTableRemovePinLaw", "check", "(Lcom/example/redoubt/redoubt/storage/FrameTable;Lcom/example/redoubt/redoubt/storage/PageCache$Frame;IZ)Z"⟩ : MethodName)) hown (mvT hZ (hw _ (List.mem_of_getElem? (i := 57) rfl))) (mvT hZ (hw _ (List.mem_of_getElem? (i := 58) rfl))) (mvT hZ (hw _ (List.mem_of_getElem? (i := 59) rfl))) (mvT hZ (hw _ (List.mem_of_getElem? (i := 60) rfl))) (by decide) (backOf (W := 1) (rmCheck l Z a0 hw [] b624 b389 q1 gn1 a_648 k_648 vs2_872 j0 pgs h872 n0 (Nat.le_trans Z0 K872.1) P872_0 P872_1 P872_2 P872_5 P872_4 hp918 hp919 hp920 hp921 hp922) hZ (hw _ (List.mem_of_getElem? (i := 60) rfl)) (hw _ (List.mem_of_getElem? (i := 59) rfl)) (by decide) (by decide)) (g := (mkF m 490 #[.val (.long p0), .second, .val (.long p1), .second, .val (.int q4), .val (.int p3), .val (.ref b293), .val (.ref b365), .val (.ref b624), .val (.int iv), .val (.int tw), .val (.int jv), .val (.int (1 : Int32))] [(.int gn1), (.int q1), (.ref b389), (.ref b624), (.int (1 : Int32))])) rfl (by rw [hml]; rfl) (argsL := [(.ref b624), (.ref b389), (.int q1), (.int gn1)]) (rest := [(.int (1 : Int32))]) (lenOf pd_5 rfl) rfl (by show 2 * 0 + _ ≤ _; exact Nat.le_of_eq rfl) (hb hby at_490) (fun _ _ => ⟨rfl, e895, (by decide : 14 + 0 ≤ _), (by decide : 41019 + 0 ≤ _)⟩)
                      dsimp only [Pt.U, Pt.locs, Pt.cells, Pt.slots] at X917 l917 y917 z917 st917 hQ917
                      rw [l917, y917, z917] at X917
                      replace X917 := own_std X917 (cc := 14) (ss := 41019) rfl rfl
                      obtain ⟨rfl, N917q, e917⟩ := hQ917
                      have N917 := Fr.app N895 N917q
                      have pre923 : ∀ t, Steps p.tables e below (T917.setTop (mkF m 496 #[.val (.long p0), .second, .val (.long p1), .second, .val (.int q4), .val (.int p3), .val (.ref b293), .val (.ref b365), .val (.ref b624), .val (.int iv), .val (.int tw), .val (.int jv), .val (.int ((1 : Int32) &&& (1 : Int32)))] [])) t → Steps p.tables e below (s₁.setTop (entryFrame m #[(.long p0), (.long p1), (.int p2), (.int p3)] maxLocals)) t := fun t kk => pre916j t (by
                          show Steps p.tables e below (T895.setTop (mkF m 490 #[.val (.long p0), .second, .val (.long p1), .second, .val (.int q4), .val (.int p3), .val (.ref b293), .val (.ref b365), .val (.ref b624), .val (.int iv), .val (.int tw), .val (.int jv), .val (.int (1 : Int32))] [(.int gn1), (.int q1), (.ref b389), (.ref b624), (.int (1 : Int32))])) _
                          refine st917 _ ?_
                          show Steps p.tables e below (T917.setTop (mkF m 493 #[.val (.long p0), .second, .val (.long p1), .second, .val (.int q4), .val (.int p3), .val (.ref b293), .val (.ref b365), .val (.ref b624), .val (.int iv), .val (.int tw), .val (.int jv), .val (.int (1 : Int32))] [(.int (1 : Int32)), (.int (1 : Int32))])) _
                          refine XS.iand X917.here hx rfl (hb hby at_493) rfl ?_
                          show Steps p.tables e below (T917.setTop (mkF m 494 #[.val (.long p0), .second, .val (.long p1), .second, .val (.int q4), .val (.int p3), .val (.ref b293), .val (.ref b365), .val (.ref b624), .val (.int iv), .val (.int tw), .val (.int jv), .val (.int (1 : Int32))] [(.int ((1 : Int32) &&& (1 : Int32)))])) _
                          refine XS.istore X917.here hx rfl (hb hby at_494) rfl (l' := #[.val (.long p0), .second, .val (.long p1), .second, .val (.int q4), .val (.int p3), .val (.ref b293), .val (.ref b365), .val (.ref b624), .val (.int iv), .val (.int tw), .val (.int jv), .val (.int ((1 : Int32) &&& (1 : Int32)))]) rfl ?_
                          exact kk)
                      have eq924 : ((1 : Int32) &&& (1 : Int32)) = (1 : Int32) := by decide
                      have pre925 : ∀ t, Steps p.tables e below (T917.setTop (mkF m 496 #[.val (.long p0), .second, .val (.long p1), .second, .val (.int q4), .val (.int p3), .val (.ref b293), .val (.ref b365), .val (.ref b624), .val (.int iv), .val (.int tw), .val (.int jv), .val (.int (1 : Int32))] [])) t → Steps p.tables e below (s₁.setTop (entryFrame m #[(.long p0), (.long p1), (.int p2), (.int p3)] maxLocals)) t := fun t kk => pre923 t (own_cast (fun zz : Int32 => T917.setTop (mkF m 496 #[.val (.long p0), .second, .val (.long p1), .second, .val (.int q4), .val (.int p3), .val (.ref b293), .val (.ref b365), .val (.ref b624), .val (.int iv), .val (.int tw), .val (.int jv), .val (.int zz)] [])) eq924 kk)
                      obtain ⟨cl926, Ar926, q926, Sz926, Nn926, H926, G926⟩ := id P872_6
                      have hin926 : ¬ ((2 : Int32) < 0 ∨ cl926.slots.size ≤ ((2 : Int32)).toNatClampNeg) := (inb_of Sz926 ⟨by decide, by decide⟩)
                      have hat926 : cl926.slots[((2 : Int32)).toNatClampNeg]? = some (.ref b416) := H926.at hin926 rfl
                      obtain ⟨cl927, Ar927, q927, Sz927, Nn927, H927, G927⟩ := id P872_7
                      have hin927 : ¬ ((2 : Int32) < 0 ∨ cl927.slots.size ≤ ((2 : Int32)).toNatClampNeg) := (inb_of Sz927 ⟨by decide, by decide⟩)
                      have hat927 : cl927.slots[((2 : Int32)).toNatClampNeg]? = some (.int q2) := H927.at hin927 rfl
                      have pre928 : ∀ t, Steps p.tables e below (T917.setTop (mkF m 511 #[.val (.long p0), .second, .val (.long p1), .second, .val (.int q4), .val (.int p3), .val (.ref b293), .val (.ref b365), .val (.ref b624), .val (.int iv), .val (.int tw), .val (.int jv), .val (.int (1 : Int32))] [(.int (2 : Int32)), (.int iv), (.int q2), (.ref b416), (.ref b624), (.int (1 : Int32))])) t → Steps p.tables e below (s₁.setTop (entryFrame m #[(.long p0), (.long p1), (.int p2), (.int p3)] maxLocals)) t := fun t kk => pre925 t (by
                          show Steps p.tables e below (T917.setTop (mkF m 496 #[.val (.long p0), .second, .val (.long p1), .second, .val (.int q4), .val (.int p3), .val (.ref b293), .val (.ref b365), .val (.ref b624), .val (.int iv), .val (.int tw), .val (.int jv), .val (.int (1 : Int32))] [])) _
                          refine XS.iload X917.here hx rfl (hb hby at_496) rfl ?_
                          show Steps p.tables e below (T917.setTop (mkF m 498 #[.val (.long p0), .second, .val (.long p1), .second, .val (.int q4), .val (.int p3), .val (.ref b293), .val (.ref b365), .val (.ref b624), .val (.int iv), .val (.int tw), .val (.int jv), .val (.int (1 : Int32))] [(.int (1 : Int32))])) _
                          refine XS.aload X917.here hx rfl (hb hby at_498) rfl rfl ?_
                          show Steps p.tables e below (T917.setTop (mkF m 500 #[.val (.long p0), .second, .val (.long p1), .second, .val (.int q4), .val (.int p3), .val (.ref b293), .val (.ref b365), .val (.ref b624), .val (.int iv), .val (.int tw), .val (.int jv), .val (.int (1 : Int32))] [(.ref b624), (.int (1 : Int32))])) _
                          refine XS.aload X917.here hx rfl (hb hby at_500) rfl rfl ?_
                          show Steps p.tables e below (T917.setTop (mkF m 502 #[.val (.long p0), .second, .val (.long p1), .second, .val (.int q4), .val (.int p3), .val (.ref b293), .val (.ref b365), .val (.ref b624), .val (.int iv), .val (.int tw), .val (.int jv), .val (.int (1 : Int32))] [(.ref b365), (.ref b624), (.int (1 : Int32))])) _
                          refine XS.iconst X917.here hx rfl (hb hby at_502) ?_
                          show Steps p.tables e below (T917.setTop (mkF m 503 #[.val (.long p0), .second, .val (.long p1), .second, .val (.int q4), .val (.int p3), .val (.ref b293), .val (.ref b365), .val (.ref b624), .val (.int iv), .val (.int tw), .val (.int jv), .val (.int (1 : Int32))] [(.int (2 : Int32)), (.ref b365), (.ref b624), (.int (1 : Int32))])) _
                          refine X917.aaload hx (j := (2 : Int32)) (v := (.ref b416)) (by rw [e917]; exact Ar926.1) (State.isArrayOf_alike hZ.alike Ar926.2.1) rfl Ar926.2.2 hin926 hat926 (g := (mkF m 503 #[.val (.long p0), .second, .val (.long p1), .second, .val (.int q4), .val (.int p3), .val (.ref b293), .val (.ref b365), .val (.ref b624), .val (.int iv), .val (.int tw), .val (.int jv), .val (.int (1 : Int32))] [(.int (2 : Int32)), (.ref b365), (.ref b624), (.int (1 : Int32))])) rfl rfl (hb hby at_503) _ ?_
                          show Steps p.tables e below (T917.setTop (mkF m 504 #[.val (.long p0), .second, .val (.long p1), .second, .val (.int q4), .val (.int p3), .val (.ref b293), .val (.ref b365), .val (.ref b624), .val (.int iv), .val (.int tw), .val (.int jv), .val (.int (1 : Int32))] [(.ref b416), (.ref b624), (.int (1 : Int32))])) _
                          refine XS.aload X917.here hx rfl (hb hby at_504) rfl rfl ?_
                          show Steps p.tables e below (T917.setTop (mkF m 506 #[.val (.long p0), .second, .val (.long p1), .second, .val (.int q4), .val (.int p3), .val (.ref b293), .val (.ref b365), .val (.ref b624), .val (.int iv), .val (.int tw), .val (.int jv), .val (.int (1 : Int32))] [(.ref b293), (.ref b416), (.ref b624), (.int (1 : Int32))])) _
                          refine XS.iconst X917.here hx rfl (hb hby at_506) ?_
                          show Steps p.tables e below (T917.setTop (mkF m 507 #[.val (.long p0), .second, .val (.long p1), .second, .val (.int q4), .val (.int p3), .val (.ref b293), .val (.ref b365), .val (.ref b624), .val (.int iv), .val (.int tw), .val (.int jv), .val (.int (1 : Int32))] [(.int (2 : Int32)), (.ref b293), (.ref b416), (.ref b624), (.int (1 : Int32))])) _
                          refine X917.iaload hx (j := (2 : Int32)) (v := (.int q2)) (by rw [e917]; exact Ar927.1) (State.isArrayOf_alike hZ.alike Ar927.2.1) Ar927.2.2 hin927 hat927 (g := (mkF m 507 #[.val (.long p0), .second, .val (.long p1), .second, .val (.int q4), .val (.int p3), .val (.ref b293), .val (.ref b365), .val (.ref b624), .val (.int iv), .val (.int tw), .val (.int jv), .val (.int (1 : Int32))] [(.int (2 : Int32)), (.ref b293), (.ref b416), (.ref b624), (.int (1 : Int32))])) rfl rfl (hb hby at_507) _ ?_
                          show Steps p.tables e below (T917.setTop (mkF m 508 #[.val (.long p0), .second, .val (.long p1), .second, .val (.int q4), .val (.int p3), .val (.ref b293), .val (.ref b365), .val (.ref b624), .val (.int iv), .val (.int tw), .val (.int jv), .val (.int (1 : Int32))] [(.int q2), (.ref b416), (.ref b624), (.int (1 : Int32))])) _
                          refine XS.iload X917.here hx rfl (hb hby at_508) rfl ?_
                          show Steps p.tables e below (T917.setTop (mkF m 510 #[.val (.long p0), .second, .val (.long p1), .second, .val (.int q4), .val (.int p3), .val (.ref b293), .val (.ref b365), .val (.ref b624), .val (.int iv), .val (.int tw), .val (.int jv), .val (.int (1 : Int32))] [(.int iv), (.int q2), (.ref b416), (.ref b624), (.int (1 : Int32))])) _
                          refine XS.iconst X917.here hx rfl (hb hby at_510) ?_
                          exact kk)
                      obtain ⟨gn2, hv_gn2, pre938j⟩ : ∃ (gn2 : Int32), gn2 = (if iv = (2 : Int32) then (1 : Int32) else (if tw = (0 : Int32) then (0 : Int32) else (if jv = (2 : Int32) then (1 : Int32) else (0 : Int32)))) ∧ ∀ t, Steps p.tables e below (T917.setTop (mkF m 530 #[.val (.long p0), .second, .val (.long p1), .second, .val (.int q4), .val (.int p3), .val (.ref b293), .val (.ref b365), .val (.ref b624), .val (.int iv), .val (.int tw), .val (.int jv), .val (.int (1 : Int32))] [(.int gn2), (.int q2), (.ref b416), (.ref b624), (.int (1 : Int32))])) t → Steps p.tables e below (s₁.setTop (entryFrame m #[(.long p0), (.long p1), (.int p2), (.int p3)] maxLocals)) t := by
                        by_cases hc929 : iv = (2 : Int32)
                        · have pre930 : ∀ t, Steps p.tables e below (T917.setTop (mkF m 530 #[.val (.long p0), .second, .val (.long p1), .second, .val (.int q4), .val (.int p3), .val (.ref b293), .val (.ref b365), .val (.ref b624), .val (.int iv), .val (.int tw), .val (.int jv), .val (.int (1 : Int32))] [(.int (1 : Int32)), (.int q2), (.ref b416), (.ref b624), (.int (1 : Int32))])) t → Steps p.tables e below (s₁.setTop (entryFrame m #[(.long p0), (.long p1), (.int p2), (.int p3)] maxLocals)) t := fun t kk => pre928 t (by
                              show Steps p.tables e below (T917.setTop (mkF m 511 #[.val (.long p0), .second, .val (.long p1), .second, .val (.int q4), .val (.int p3), .val (.ref b293), .val (.ref b365), .val (.ref b624), .val (.int iv), .val (.int tw), .val (.int jv), .val (.int (1 : Int32))] [(.int (2 : Int32)), (.int iv), (.int q2), (.ref b416), (.ref b624), (.int (1 : Int32))])) _
                              refine XS.icmpYes X917.here hx rfl (pc0 := 511) (pc' := 525) rfl (hb hby at_511) rfl (teq hc929).1 (by decide) (by decide) ?_
                              show Steps p.tables e below (T917.setTop (mkF m 525 #[.val (.long p0), .second, .val (.long p1), .second, .val (.int q4), .val (.int p3), .val (.ref b293), .val (.ref b365), .val (.ref b624), .val (.int iv), .val (.int tw), .val (.int jv), .val (.int (1 : Int32))] [(.int q2), (.ref b416), (.ref b624), (.int (1 : Int32))])) _
                              refine XS.iconst X917.here hx rfl (hb hby at_525) ?_
                              show Steps p.tables e below (T917.setTop (mkF m 526 #[.val (.long p0), .second, .val (.long p1), .second, .val (.int q4), .val (.int p3), .val (.ref b293), .val (.ref b365), .val (.ref b624), .val (.int iv), .val (.int tw), .val (.int jv), .val (.int (1 : Int32))] [(.int (1 : Int32)), (.int q2), (.ref b416), (.ref b624), (.int (1 : Int32))])) _
                              refine XS.goto X917.here hx rfl (pc0 := 526) (pc' := 530) rfl (hb hby at_526) (by decide) (by decide) ?_
                              exact kk)
                          exact ⟨(1 : Int32), (by rw [if_pos hc929]), pre930⟩
                        · have pre931 : ∀ t, Steps p.tables e below (T917.setTop (mkF m 516 #[.val (.long p0), .second, .val (.long p1), .second, .val (.int q4), .val (.int p3), .val (.ref b293), .val (.ref b365), .val (.ref b624), .val (.int iv), .val (.int tw), .val (.int jv), .val (.int (1 : Int32))] [(.int tw), (.int q2), (.ref b416), (.ref b624), (.int (1 : Int32))])) t → Steps p.tables e below (s₁.setTop (entryFrame m #[(.long p0), (.long p1), (.int p2), (.int p3)] maxLocals)) t := fun t kk => pre928 t (by
                              show Steps p.tables e below (T917.setTop (mkF m 511 #[.val (.long p0), .second, .val (.long p1), .second, .val (.int q4), .val (.int p3), .val (.ref b293), .val (.ref b365), .val (.ref b624), .val (.int iv), .val (.int tw), .val (.int jv), .val (.int (1 : Int32))] [(.int (2 : Int32)), (.int iv), (.int q2), (.ref b416), (.ref b624), (.int (1 : Int32))])) _
                              refine XS.icmpNo X917.here hx rfl (hb hby at_511) rfl (feq hc929).1 ?_
                              show Steps p.tables e below (T917.setTop (mkF m 514 #[.val (.long p0), .second, .val (.long p1), .second, .val (.int q4), .val (.int p3), .val (.ref b293), .val (.ref b365), .val (.ref b624), .val (.int iv), .val (.int tw), .val (.int jv), .val (.int (1 : Int32))] [(.int q2), (.ref b416), (.ref b624), (.int (1 : Int32))])) _
                              refine XS.iload X917.here hx rfl (hb hby at_514) rfl ?_
                              exact kk)
                          by_cases hc932 : tw = (0 : Int32)
                          · have pre933 : ∀ t, Steps p.tables e below (T917.setTop (mkF m 530 #[.val (.long p0), .second, .val (.long p1), .second, .val (.int q4), .val (.int p3), .val (.ref b293), .val (.ref b365), .val (.ref b624), .val (.int iv), .val (.int tw), .val (.int jv), .val (.int (1 : Int32))] [(.int (0 : Int32)), (.int q2), (.ref b416), (.ref b624), (.int (1 : Int32))])) t → Steps p.tables e below (s₁.setTop (entryFrame m #[(.long p0), (.long p1), (.int p2), (.int p3)] maxLocals)) t := fun t kk => pre931 t (by
                                show Steps p.tables e below (T917.setTop (mkF m 516 #[.val (.long p0), .second, .val (.long p1), .second, .val (.int q4), .val (.int p3), .val (.ref b293), .val (.ref b365), .val (.ref b624), .val (.int iv), .val (.int tw), .val (.int jv), .val (.int (1 : Int32))] [(.int tw), (.int q2), (.ref b416), (.ref b624), (.int (1 : Int32))])) _
                                refine XS.ifYes X917.here hx rfl (pc0 := 516) (pc' := 529) rfl (hb hby at_516) rfl ((if0 _ _).trans (teq hc932).1) (by decide) (by decide) ?_
                                show Steps p.tables e below (T917.setTop (mkF m 529 #[.val (.long p0), .second, .val (.long p1), .second, .val (.int q4), .val (.int p3), .val (.ref b293), .val (.ref b365), .val (.ref b624), .val (.int iv), .val (.int tw), .val (.int jv), .val (.int (1 : Int32))] [(.int q2), (.ref b416), (.ref b624), (.int (1 : Int32))])) _
                                refine XS.iconst X917.here hx rfl (hb hby at_529) ?_
                                exact kk)
                            exact ⟨(0 : Int32), (by rw [if_neg hc929, if_pos hc932]), pre933⟩
                          · have pre934 : ∀ t, Steps p.tables e below (T917.setTop (mkF m 522 #[.val (.long p0), .second, .val (.long p1), .second, .val (.int q4), .val (.int p3), .val (.ref b293), .val (.ref b365), .val (.ref b624), .val (.int iv), .val (.int tw), .val (.int jv), .val (.int (1 : Int32))] [(.int (2 : Int32)), (.int jv), (.int q2), (.ref b416), (.ref b624), (.int (1 : Int32))])) t → Steps p.tables e below (s₁.setTop (entryFrame m #[(.long p0), (.long p1), (.int p2), (.int p3)] maxLocals)) t := fun t kk => pre931 t (by
                                show Steps p.tables e below (T917.setTop (mkF m 516 #[.val (.long p0), .second, .val (.long p1), .second, .val (.int q4), .val (.int p3), .val (.ref b293), .val (.ref b365), .val (.ref b624), .val (.int iv), .val (.int tw), .val (.int jv), .val (.int (1 : Int32))] [(.int tw), (.int q2), (.ref b416), (.ref b624), (.int (1 : Int32))])) _
                                refine XS.ifNo X917.here hx rfl (hb hby at_516) rfl ((if0 _ _).trans (feq hc932).1) ?_
                                show Steps p.tables e below (T917.setTop (mkF m 519 #[.val (.long p0), .second, .val (.long p1), .second, .val (.int q4), .val (.int p3), .val (.ref b293), .val (.ref b365), .val (.ref b624), .val (.int iv), .val (.int tw), .val (.int jv), .val (.int (1 : Int32))] [(.int q2), (.ref b416), (.ref b624), (.int (1 : Int32))])) _
                                refine XS.iload X917.here hx rfl (hb hby at_519) rfl ?_
                                show Steps p.tables e below (T917.setTop (mkF m 521 #[.val (.long p0), .second, .val (.long p1), .second, .val (.int q4), .val (.int p3), .val (.ref b293), .val (.ref b365), .val (.ref b624), .val (.int iv), .val (.int tw), .val (.int jv), .val (.int (1 : Int32))] [(.int jv), (.int q2), (.ref b416), (.ref b624), (.int (1 : Int32))])) _
                                refine XS.iconst X917.here hx rfl (hb hby at_521) ?_
                                exact kk)
                            by_cases hc935 : jv = (2 : Int32)
                            · have pre936 : ∀ t, Steps p.tables e below (T917.setTop (mkF m 530 #[.val (.long p0), .second, .val (.long p1), .second, .val (.int q4), .val (.int p3), .val (.ref b293), .val (.ref b365), .val (.ref b624), .val (.int iv), .val (.int tw), .val (.int jv), .val (.int (1 : Int32))] [(.int (1 : Int32)), (.int q2), (.ref b416), (.ref b624), (.int (1 : Int32))])) t → Steps p.tables e below (s₁.setTop (entryFrame m #[(.long p0), (.long p1), (.int p2), (.int p3)] maxLocals)) t := fun t kk => pre934 t (by
                                  show Steps p.tables e below (T917.setTop (mkF m 522 #[.val (.long p0), .second, .val (.long p1), .second, .val (.int q4), .val (.int p3), .val (.ref b293), .val (.ref b365), .val (.ref b624), .val (.int iv), .val (.int tw), .val (.int jv), .val (.int (1 : Int32))] [(.int (2 : Int32)), (.int jv), (.int q2), (.ref b416), (.ref b624), (.int (1 : Int32))])) _
                                  refine XS.icmpNo X917.here hx rfl (hb hby at_522) rfl (teq hc935).2 ?_
                                  show Steps p.tables e below (T917.setTop (mkF m 525 #[.val (.long p0), .second, .val (.long p1), .second, .val (.int q4), .val (.int p3), .val (.ref b293), .val (.ref b365), .val (.ref b624), .val (.int iv), .val (.int tw), .val (.int jv), .val (.int (1 : Int32))] [(.int q2), (.ref b416), (.ref b624), (.int (1 : Int32))])) _
                                  refine XS.iconst X917.here hx rfl (hb hby at_525) ?_
                                  show Steps p.tables e below (T917.setTop (mkF m 526 #[.val (.long p0), .second, .val (.long p1), .second, .val (.int q4), .val (.int p3), .val (.ref b293), .val (.ref b365), .val (.ref b624), .val (.int iv), .val (.int tw), .val (.int jv), .val (.int (1 : Int32))] [(.int (1 : Int32)), (.int q2), (.ref b416), (.ref b624), (.int (1 : Int32))])) _
                                  refine XS.goto X917.here hx rfl (pc0 := 526) (pc' := 530) rfl (hb hby at_526) (by decide) (by decide) ?_
                                  exact kk)
                              exact ⟨(1 : Int32), (by rw [if_neg hc929, if_neg hc932, if_pos hc935]), pre936⟩
                            · have pre937 : ∀ t, Steps p.tables e below (T917.setTop (mkF m 530 #[.val (.long p0), .second, .val (.long p1), .second, .val (.int q4), .val (.int p3), .val (.ref b293), .val (.ref b365), .val (.ref b624), .val (.int iv), .val (.int tw), .val (.int jv), .val (.int (1 : Int32))] [(.int (0 : Int32)), (.int q2), (.ref b416), (.ref b624), (.int (1 : Int32))])) t → Steps p.tables e below (s₁.setTop (entryFrame m #[(.long p0), (.long p1), (.int p2), (.int p3)] maxLocals)) t := fun t kk => pre934 t (by
                                  show Steps p.tables e below (T917.setTop (mkF m 522 #[.val (.long p0), .second, .val (.long p1), .second, .val (.int q4), .val (.int p3), .val (.ref b293), .val (.ref b365), .val (.ref b624), .val (.int iv), .val (.int tw), .val (.int jv), .val (.int (1 : Int32))] [(.int (2 : Int32)), (.int jv), (.int q2), (.ref b416), (.ref b624), (.int (1 : Int32))])) _
                                  refine XS.icmpYes X917.here hx rfl (pc0 := 522) (pc' := 529) rfl (hb hby at_522) rfl (feq hc935).2 (by decide) (by decide) ?_
                                  show Steps p.tables e below (T917.setTop (mkF m 529 #[.val (.long p0), .second, .val (.long p1), .second, .val (.int q4), .val (.int p3), .val (.ref b293), .val (.ref b365), .val (.ref b624), .val (.int iv), .val (.int tw), .val (.int jv), .val (.int (1 : Int32))] [(.int q2), (.ref b416), (.ref b624), (.int (1 : Int32))])) _
                                  refine XS.iconst X917.here hx rfl (hb hby at_529) ?_
                                  exact kk)
                              exact ⟨(0 : Int32), (by rw [if_neg hc929, if_neg hc932, if_neg hc935]), pre937⟩
                      have hk2 := own_chk (F := own_sel b369 b389 b416 b450 b491) (m := (2 : Int32)) hiv hjv.1 ⟨by decide, by decide⟩ hv_gn2 inj pinj pu872_1
                      have hp940 : own_TI (own_hmf pgs) vs2_872 := pu872_0
                      have hp941 : j0 < 16 := hj
                      have hp942 : vs2_872.getD j0 .null = .null := hj0
                      have hp943 : ¬ gn2 = (0 : Int32) → ∀ g, own_R vs2_872 g → pgs g ≠ q2 := fun h g hg e => (hk2.1 h g hg) (e.trans hp2.symm)
                      have hp944 : gn2 = (0 : Int32) → own_R vs2_872 b416 ∧ pgs b416 = q2 ∧ ∀ g, own_R vs2_872 g → pgs g = q2 → g = b416 := fun h => ⟨(hk2.2 h).1, hp2, fun g hg e => (hk2.2 h).2 g hg (e.trans hp2.symm)⟩
                      obtain ⟨_, _, ⟨T939, L939, k939, n939⟩, -, X939, ⟨Lc939, hQ939, l939, y939, z939⟩, st939⟩ := Jvm.LawKit.callS X917 hx (y := (⟨"com/example/redoubt/redoubt/storage/FrameTableRemovePinLaw", "check", "(Lcom/example/redoubt/redoubt/storage/FrameTable;Lcom/example/redoubt/redoubt/storage/PageCache$Frame;IZ)Z"⟩ : MethodName)) hown (mvT hZ (hw _ (List.mem_of_getElem? (i := 57) rfl))) (mvT hZ (hw _ (List.mem_of_getElem? (i := 58) rfl))) (mvT hZ (hw _ (List.mem_of_getElem? (i := 59) rfl))) (mvT hZ (hw _ (List.mem_of_getElem? (i := 60) rfl))) (by decide) (backOf (W := 1) (rmCheck l Z a0 hw [] b624 b416 q2 gn2 a_648 k_648 vs2_872 j0 pgs h872 n0 (Nat.le_trans Z0 K872.1) P872_0 P872_1 P872_2 P872_5 P872_4 hp940 hp941 hp942 hp943 hp944) hZ (hw _ (List.mem_of_getElem? (i := 60) rfl)) (hw _ (List.mem_of_getElem? (i := 59) rfl)) (by decide) (by decide)) (g := (mkF m 530 #[.val (.long p0), .second, .val (.long p1), .second, .val (.int q4), .val (.int p3), .val (.ref b293), .val (.ref b365), .val (.ref b624), .val (.int iv), .val (.int tw), .val (.int jv), .val (.int (1 : Int32))] [(.int gn2), (.int q2), (.ref b416), (.ref b624), (.int (1 : Int32))])) rfl (by rw [hml]; rfl) (argsL := [(.ref b624), (.ref b416), (.int q2), (.int gn2)]) (rest := [(.int (1 : Int32))]) (lenOf pd_5 rfl) rfl (by show 2 * 0 + _ ≤ _; exact Nat.le_of_eq rfl) (hb hby at_530) (fun _ _ => ⟨rfl, e917, (by decide : 14 + 0 ≤ _), (by decide : 41019 + 0 ≤ _)⟩)
                      dsimp only [Pt.U, Pt.locs, Pt.cells, Pt.slots] at X939 l939 y939 z939 st939 hQ939
                      rw [l939, y939, z939] at X939
                      replace X939 := own_std X939 (cc := 14) (ss := 41019) rfl rfl
                      obtain ⟨rfl, N939q, e939⟩ := hQ939
                      have N939 := Fr.app N917 N939q
                      have pre945 : ∀ t, Steps p.tables e below (T939.setTop (mkF m 536 #[.val (.long p0), .second, .val (.long p1), .second, .val (.int q4), .val (.int p3), .val (.ref b293), .val (.ref b365), .val (.ref b624), .val (.int iv), .val (.int tw), .val (.int jv), .val (.int ((1 : Int32) &&& (1 : Int32)))] [])) t → Steps p.tables e below (s₁.setTop (entryFrame m #[(.long p0), (.long p1), (.int p2), (.int p3)] maxLocals)) t := fun t kk => pre938j t (by
                          show Steps p.tables e below (T917.setTop (mkF m 530 #[.val (.long p0), .second, .val (.long p1), .second, .val (.int q4), .val (.int p3), .val (.ref b293), .val (.ref b365), .val (.ref b624), .val (.int iv), .val (.int tw), .val (.int jv), .val (.int (1 : Int32))] [(.int gn2), (.int q2), (.ref b416), (.ref b624), (.int (1 : Int32))])) _
                          refine st939 _ ?_
                          show Steps p.tables e below (T939.setTop (mkF m 533 #[.val (.long p0), .second, .val (.long p1), .second, .val (.int q4), .val (.int p3), .val (.ref b293), .val (.ref b365), .val (.ref b624), .val (.int iv), .val (.int tw), .val (.int jv), .val (.int (1 : Int32))] [(.int (1 : Int32)), (.int (1 : Int32))])) _
                          refine XS.iand X939.here hx rfl (hb hby at_533) rfl ?_
                          show Steps p.tables e below (T939.setTop (mkF m 534 #[.val (.long p0), .second, .val (.long p1), .second, .val (.int q4), .val (.int p3), .val (.ref b293), .val (.ref b365), .val (.ref b624), .val (.int iv), .val (.int tw), .val (.int jv), .val (.int (1 : Int32))] [(.int ((1 : Int32) &&& (1 : Int32)))])) _
                          refine XS.istore X939.here hx rfl (hb hby at_534) rfl (l' := #[.val (.long p0), .second, .val (.long p1), .second, .val (.int q4), .val (.int p3), .val (.ref b293), .val (.ref b365), .val (.ref b624), .val (.int iv), .val (.int tw), .val (.int jv), .val (.int ((1 : Int32) &&& (1 : Int32)))]) rfl ?_
                          exact kk)
                      have eq946 : ((1 : Int32) &&& (1 : Int32)) = (1 : Int32) := by decide
                      have pre947 : ∀ t, Steps p.tables e below (T939.setTop (mkF m 536 #[.val (.long p0), .second, .val (.long p1), .second, .val (.int q4), .val (.int p3), .val (.ref b293), .val (.ref b365), .val (.ref b624), .val (.int iv), .val (.int tw), .val (.int jv), .val (.int (1 : Int32))] [])) t → Steps p.tables e below (s₁.setTop (entryFrame m #[(.long p0), (.long p1), (.int p2), (.int p3)] maxLocals)) t := fun t kk => pre945 t (own_cast (fun zz : Int32 => T939.setTop (mkF m 536 #[.val (.long p0), .second, .val (.long p1), .second, .val (.int q4), .val (.int p3), .val (.ref b293), .val (.ref b365), .val (.ref b624), .val (.int iv), .val (.int tw), .val (.int jv), .val (.int zz)] [])) eq946 kk)
                      obtain ⟨cl948, Ar948, q948, Sz948, Nn948, H948, G948⟩ := id P872_6
                      have hin948 : ¬ ((3 : Int32) < 0 ∨ cl948.slots.size ≤ ((3 : Int32)).toNatClampNeg) := (inb_of Sz948 ⟨by decide, by decide⟩)
                      have hat948 : cl948.slots[((3 : Int32)).toNatClampNeg]? = some (.ref b450) := H948.at hin948 rfl
                      obtain ⟨cl949, Ar949, q949, Sz949, Nn949, H949, G949⟩ := id P872_7
                      have hin949 : ¬ ((3 : Int32) < 0 ∨ cl949.slots.size ≤ ((3 : Int32)).toNatClampNeg) := (inb_of Sz949 ⟨by decide, by decide⟩)
                      have hat949 : cl949.slots[((3 : Int32)).toNatClampNeg]? = some (.int q3) := H949.at hin949 rfl
                      have pre950 : ∀ t, Steps p.tables e below (T939.setTop (mkF m 551 #[.val (.long p0), .second, .val (.long p1), .second, .val (.int q4), .val (.int p3), .val (.ref b293), .val (.ref b365), .val (.ref b624), .val (.int iv), .val (.int tw), .val (.int jv), .val (.int (1 : Int32))] [(.int (3 : Int32)), (.int iv), (.int q3), (.ref b450), (.ref b624), (.int (1 : Int32))])) t → Steps p.tables e below (s₁.setTop (entryFrame m #[(.long p0), (.long p1), (.int p2), (.int p3)] maxLocals)) t := fun t kk => pre947 t (by
                          show Steps p.tables e below (T939.setTop (mkF m 536 #[.val (.long p0), .second, .val (.long p1), .second, .val (.int q4), .val (.int p3), .val (.ref b293), .val (.ref b365), .val (.ref b624), .val (.int iv), .val (.int tw), .val (.int jv), .val (.int (1 : Int32))] [])) _
                          refine XS.iload X939.here hx rfl (hb hby at_536) rfl ?_
                          show Steps p.tables e below (T939.setTop (mkF m 538 #[.val (.long p0), .second, .val (.long p1), .second, .val (.int q4), .val (.int p3), .val (.ref b293), .val (.ref b365), .val (.ref b624), .val (.int iv), .val (.int tw), .val (.int jv), .val (.int (1 : Int32))] [(.int (1 : Int32))])) _
                          refine XS.aload X939.here hx rfl (hb hby at_538) rfl rfl ?_
                          show Steps p.tables e below (T939.setTop (mkF m 540 #[.val (.long p0), .second, .val (.long p1), .second, .val (.int q4), .val (.int p3), .val (.ref b293), .val (.ref b365), .val (.ref b624), .val (.int iv), .val (.int tw), .val (.int jv), .val (.int (1 : Int32))] [(.ref b624), (.int (1 : Int32))])) _
                          refine XS.aload X939.here hx rfl (hb hby at_540) rfl rfl ?_
                          show Steps p.tables e below (T939.setTop (mkF m 542 #[.val (.long p0), .second, .val (.long p1), .second, .val (.int q4), .val (.int p3), .val (.ref b293), .val (.ref b365), .val (.ref b624), .val (.int iv), .val (.int tw), .val (.int jv), .val (.int (1 : Int32))] [(.ref b365), (.ref b624), (.int (1 : Int32))])) _
                          refine XS.iconst X939.here hx rfl (hb hby at_542) ?_
                          show Steps p.tables e below (T939.setTop (mkF m 543 #[.val (.long p0), .second, .val (.long p1), .second, .val (.int q4), .val (.int p3), .val (.ref b293), .val (.ref b365), .val (.ref b624), .val (.int iv), .val (.int tw), .val (.int jv), .val (.int (1 : Int32))] [(.int (3 : Int32)), (.ref b365), (.ref b624), (.int (1 : Int32))])) _
                          refine X939.aaload hx (j := (3 : Int32)) (v := (.ref b450)) (by rw [e939]; exact Ar948.1) (State.isArrayOf_alike hZ.alike Ar948.2.1) rfl Ar948.2.2 hin948 hat948 (g := (mkF m 543 #[.val (.long p0), .second, .val (.long p1), .second, .val (.int q4), .val (.int p3), .val (.ref b293), .val (.ref b365), .val (.ref b624), .val (.int iv), .val (.int tw), .val (.int jv), .val (.int (1 : Int32))] [(.int (3 : Int32)), (.ref b365), (.ref b624), (.int (1 : Int32))])) rfl rfl (hb hby at_543) _ ?_
                          show Steps p.tables e below (T939.setTop (mkF m 544 #[.val (.long p0), .second, .val (.long p1), .second, .val (.int q4), .val (.int p3), .val (.ref b293), .val (.ref b365), .val (.ref b624), .val (.int iv), .val (.int tw), .val (.int jv), .val (.int (1 : Int32))] [(.ref b450), (.ref b624), (.int (1 : Int32))])) _
                          refine XS.aload X939.here hx rfl (hb hby at_544) rfl rfl ?_
                          show Steps p.tables e below (T939.setTop (mkF m 546 #[.val (.long p0), .second, .val (.long p1), .second, .val (.int q4), .val (.int p3), .val (.ref b293), .val (.ref b365), .val (.ref b624), .val (.int iv), .val (.int tw), .val (.int jv), .val (.int (1 : Int32))] [(.ref b293), (.ref b450), (.ref b624), (.int (1 : Int32))])) _
                          refine XS.iconst X939.here hx rfl (hb hby at_546) ?_
                          show Steps p.tables e below (T939.setTop (mkF m 547 #[.val (.long p0), .second, .val (.long p1), .second, .val (.int q4), .val (.int p3), .val (.ref b293), .val (.ref b365), .val (.ref b624), .val (.int iv), .val (.int tw), .val (.int jv), .val (.int (1 : Int32))] [(.int (3 : Int32)), (.ref b293), (.ref b450), (.ref b624), (.int (1 : Int32))])) _
                          refine X939.iaload hx (j := (3 : Int32)) (v := (.int q3)) (by rw [e939]; exact Ar949.1) (State.isArrayOf_alike hZ.alike Ar949.2.1) Ar949.2.2 hin949 hat949 (g := (mkF m 547 #[.val (.long p0), .second, .val (.long p1), .second, .val (.int q4), .val (.int p3), .val (.ref b293), .val (.ref b365), .val (.ref b624), .val (.int iv), .val (.int tw), .val (.int jv), .val (.int (1 : Int32))] [(.int (3 : Int32)), (.ref b293), (.ref b450), (.ref b624), (.int (1 : Int32))])) rfl rfl (hb hby at_547) _ ?_
                          show Steps p.tables e below (T939.setTop (mkF m 548 #[.val (.long p0), .second, .val (.long p1), .second, .val (.int q4), .val (.int p3), .val (.ref b293), .val (.ref b365), .val (.ref b624), .val (.int iv), .val (.int tw), .val (.int jv), .val (.int (1 : Int32))] [(.int q3), (.ref b450), (.ref b624), (.int (1 : Int32))])) _
                          refine XS.iload X939.here hx rfl (hb hby at_548) rfl ?_
                          show Steps p.tables e below (T939.setTop (mkF m 550 #[.val (.long p0), .second, .val (.long p1), .second, .val (.int q4), .val (.int p3), .val (.ref b293), .val (.ref b365), .val (.ref b624), .val (.int iv), .val (.int tw), .val (.int jv), .val (.int (1 : Int32))] [(.int iv), (.int q3), (.ref b450), (.ref b624), (.int (1 : Int32))])) _
                          refine XS.iconst X939.here hx rfl (hb hby at_550) ?_
                          exact kk)
                      obtain ⟨gn3, hv_gn3, pre960j⟩ : ∃ (gn3 : Int32), gn3 = (if iv = (3 : Int32) then (1 : Int32) else (if tw = (0 : Int32) then (0 : Int32) else (if jv = (3 : Int32) then (1 : Int32) else (0 : Int32)))) ∧ ∀ t, Steps p.tables e below (T939.setTop (mkF m 570 #[.val (.long p0), .second, .val (.long p1), .second, .val (.int q4), .val (.int p3), .val (.ref b293), .val (.ref b365), .val (.ref b624), .val (.int iv), .val (.int tw), .val (.int jv), .val (.int (1 : Int32))] [(.int gn3), (.int q3), (.ref b450), (.ref b624), (.int (1 : Int32))])) t → Steps p.tables e below (s₁.setTop (entryFrame m #[(.long p0), (.long p1), (.int p2), (.int p3)] maxLocals)) t := by
                        by_cases hc951 : iv = (3 : Int32)
                        · have pre952 : ∀ t, Steps p.tables e below (T939.setTop (mkF m 570 #[.val (.long p0), .second, .val (.long p1), .second, .val (.int q4), .val (.int p3), .val (.ref b293), .val (.ref b365), .val (.ref b624), .val (.int iv), .val (.int tw), .val (.int jv), .val (.int (1 : Int32))] [(.int (1 : Int32)), (.int q3), (.ref b450), (.ref b624), (.int (1 : Int32))])) t → Steps p.tables e below (s₁.setTop (entryFrame m #[(.long p0), (.long p1), (.int p2), (.int p3)] maxLocals)) t := fun t kk => pre950 t (by
                              show Steps p.tables e below (T939.setTop (mkF m 551 #[.val (.long p0), .second, .val (.long p1), .second, .val (.int q4), .val (.int p3), .val (.ref b293), .val (.ref b365), .val (.ref b624), .val (.int iv), .val (.int tw), .val (.int jv), .val (.int (1 : Int32))] [(.int (3 : Int32)), (.int iv), (.int q3), (.ref b450), (.ref b624), (.int (1 : Int32))])) _
                              refine XS.icmpYes X939.here hx rfl (pc0 := 551) (pc' := 565) rfl (hb hby at_551) rfl (teq hc951).1 (by decide) (by decide) ?_
                              show Steps p.tables e below (T939.setTop (mkF m 565 #[.val (.long p0), .second, .val (.long p1), .second, .val (.int q4), .val (.int p3), .val (.ref b293), .val (.ref b365), .val (.ref b624), .val (.int iv), .val (.int tw), .val (.int jv), .val (.int (1 : Int32))] [(.int q3), (.ref b450), (.ref b624), (.int (1 : Int32))])) _
                              refine XS.iconst X939.here hx rfl (hb hby at_565) ?_
                              show Steps p.tables e below (T939.setTop (mkF m 566 #[.val (.long p0), .second, .val (.long p1), .second, .val (.int q4), .val (.int p3), .val (.ref b293), .val (.ref b365), .val (.ref b624), .val (.int iv), .val (.int tw), .val (.int jv), .val (.int (1 : Int32))] [(.int (1 : Int32)), (.int q3), (.ref b450), (.ref b624), (.int (1 : Int32))])) _
                              refine XS.goto X939.here hx rfl (pc0 := 566) (pc' := 570) rfl (hb hby at_566) (by decide) (by decide) ?_
                              exact kk)
                          exact ⟨(1 : Int32), (by rw [if_pos hc951]), pre952⟩
                        · have pre953 : ∀ t, Steps p.tables e below (T939.setTop (mkF m 556 #[.val (.long p0), .second, .val (.long p1), .second, .val (.int q4), .val (.int p3), .val (.ref b293), .val (.ref b365), .val (.ref b624), .val (.int iv), .val (.int tw), .val (.int jv), .val (.int (1 : Int32))] [(.int tw), (.int q3), (.ref b450), (.ref b624), (.int (1 : Int32))])) t → Steps p.tables e below (s₁.setTop (entryFrame m #[(.long p0), (.long p1), (.int p2), (.int p3)] maxLocals)) t := fun t kk => pre950 t (by
                              show Steps p.tables e below (T939.setTop (mkF m 551 #[.val (.long p0), .second, .val (.long p1), .second, .val (.int q4), .val (.int p3), .val (.ref b293), .val (.ref b365), .val (.ref b624), .val (.int iv), .val (.int tw), .val (.int jv), .val (.int (1 : Int32))] [(.int (3 : Int32)), (.int iv), (.int q3), (.ref b450), (.ref b624), (.int (1 : Int32))])) _
                              refine XS.icmpNo X939.here hx rfl (hb hby at_551) rfl (feq hc951).1 ?_
                              show Steps p.tables e below (T939.setTop (mkF m 554 #[.val (.long p0), .second, .val (.long p1), .second, .val (.int q4), .val (.int p3), .val (.ref b293), .val (.ref b365), .val (.ref b624), .val (.int iv), .val (.int tw), .val (.int jv), .val (.int (1 : Int32))] [(.int q3), (.ref b450), (.ref b624), (.int (1 : Int32))])) _
                              refine XS.iload X939.here hx rfl (hb hby at_554) rfl ?_
                              exact kk)
                          by_cases hc954 : tw = (0 : Int32)
                          · have pre955 : ∀ t, Steps p.tables e below (T939.setTop (mkF m 570 #[.val (.long p0), .second, .val (.long p1), .second, .val (.int q4), .val (.int p3), .val (.ref b293), .val (.ref b365), .val (.ref b624), .val (.int iv), .val (.int tw), .val (.int jv), .val (.int (1 : Int32))] [(.int (0 : Int32)), (.int q3), (.ref b450), (.ref b624), (.int (1 : Int32))])) t → Steps p.tables e below (s₁.setTop (entryFrame m #[(.long p0), (.long p1), (.int p2), (.int p3)] maxLocals)) t := fun t kk => pre953 t (by
                                show Steps p.tables e below (T939.setTop (mkF m 556 #[.val (.long p0), .second, .val (.long p1), .second, .val (.int q4), .val (.int p3), .val (.ref b293), .val (.ref b365), .val (.ref b624), .val (.int iv), .val (.int tw), .val (.int jv), .val (.int (1 : Int32))] [(.int tw), (.int q3), (.ref b450), (.ref b624), (.int (1 : Int32))])) _
                                refine XS.ifYes X939.here hx rfl (pc0 := 556) (pc' := 569) rfl (hb hby at_556) rfl ((if0 _ _).trans (teq hc954).1) (by decide) (by decide) ?_
                                show Steps p.tables e below (T939.setTop (mkF m 569 #[.val (.long p0), .second, .val (.long p1), .second, .val (.int q4), .val (.int p3), .val (.ref b293), .val (.ref b365), .val (.ref b624), .val (.int iv), .val (.int tw), .val (.int jv), .val (.int (1 : Int32))] [(.int q3), (.ref b450), (.ref b624), (.int (1 : Int32))])) _
                                refine XS.iconst X939.here hx rfl (hb hby at_569) ?_
                                exact kk)
                            exact ⟨(0 : Int32), (by rw [if_neg hc951, if_pos hc954]), pre955⟩
                          · have pre956 : ∀ t, Steps p.tables e below (T939.setTop (mkF m 562 #[.val (.long p0), .second, .val (.long p1), .second, .val (.int q4), .val (.int p3), .val (.ref b293), .val (.ref b365), .val (.ref b624), .val (.int iv), .val (.int tw), .val (.int jv), .val (.int (1 : Int32))] [(.int (3 : Int32)), (.int jv), (.int q3), (.ref b450), (.ref b624), (.int (1 : Int32))])) t → Steps p.tables e below (s₁.setTop (entryFrame m #[(.long p0), (.long p1), (.int p2), (.int p3)] maxLocals)) t := fun t kk => pre953 t (by
                                show Steps p.tables e below (T939.setTop (mkF m 556 #[.val (.long p0), .second, .val (.long p1), .second, .val (.int q4), .val (.int p3), .val (.ref b293), .val (.ref b365), .val (.ref b624), .val (.int iv), .val (.int tw), .val (.int jv), .val (.int (1 : Int32))] [(.int tw), (.int q3), (.ref b450), (.ref b624), (.int (1 : Int32))])) _
                                refine XS.ifNo X939.here hx rfl (hb hby at_556) rfl ((if0 _ _).trans (feq hc954).1) ?_
                                show Steps p.tables e below (T939.setTop (mkF m 559 #[.val (.long p0), .second, .val (.long p1), .second, .val (.int q4), .val (.int p3), .val (.ref b293), .val (.ref b365), .val (.ref b624), .val (.int iv), .val (.int tw), .val (.int jv), .val (.int (1 : Int32))] [(.int q3), (.ref b450), (.ref b624), (.int (1 : Int32))])) _
                                refine XS.iload X939.here hx rfl (hb hby at_559) rfl ?_
                                show Steps p.tables e below (T939.setTop (mkF m 561 #[.val (.long p0), .second, .val (.long p1), .second, .val (.int q4), .val (.int p3), .val (.ref b293), .val (.ref b365), .val (.ref b624), .val (.int iv), .val (.int tw), .val (.int jv), .val (.int (1 : Int32))] [(.int jv), (.int q3), (.ref b450), (.ref b624), (.int (1 : Int32))])) _
                                refine XS.iconst X939.here hx rfl (hb hby at_561) ?_
                                exact kk)
                            by_cases hc957 : jv = (3 : Int32)
                            · have pre958 : ∀ t, Steps p.tables e below (T939.setTop (mkF m 570 #[.val (.long p0), .second, .val (.long p1), .second, .val (.int q4), .val (.int p3), .val (.ref b293), .val (.ref b365), .val (.ref b624), .val (.int iv), .val (.int tw), .val (.int jv), .val (.int (1 : Int32))] [(.int (1 : Int32)), (.int q3), (.ref b450), (.ref b624), (.int (1 : Int32))])) t → Steps p.tables e below (s₁.setTop (entryFrame m #[(.long p0), (.long p1), (.int p2), (.int p3)] maxLocals)) t := fun t kk => pre956 t (by
                                  show Steps p.tables e below (T939.setTop (mkF m 562 #[.val (.long p0), .second, .val (.long p1), .second, .val (.int q4), .val (.int p3), .val (.ref b293), .val (.ref b365), .val (.ref b624), .val (.int iv), .val (.int tw), .val (.int jv), .val (.int (1 : Int32))] [(.int (3 : Int32)), (.int jv), (.int q3), (.ref b450), (.ref b624), (.int (1 : Int32))])) _
                                  refine XS.icmpNo X939.here hx rfl (hb hby at_562) rfl (teq hc957).2 ?_
                                  show Steps p.tables e below (T939.setTop (mkF m 565 #[.val (.long p0), .second, .val (.long p1), .second, .val (.int q4), .val (.int p3), .val (.ref b293), .val (.ref b365), .val (.ref b624), .val (.int iv), .val (.int tw), .val (.int jv), .val (.int (1 : Int32))] [(.int q3), (.ref b450), (.ref b624), (.int (1 : Int32))])) _
                                  refine XS.iconst X939.here hx rfl (hb hby at_565) ?_
                                  show Steps p.tables e below (T939.setTop (mkF m 566 #[.val (.long p0), .second, .val (.long p1), .second, .val (.int q4), .val (.int p3), .val (.ref b293), .val (.ref b365), .val (.ref b624), .val (.int iv), .val (.int tw), .val (.int jv), .val (.int (1 : Int32))] [(.int (1 : Int32)), (.int q3), (.ref b450), (.ref b624), (.int (1 : Int32))])) _
                                  refine XS.goto X939.here hx rfl (pc0 := 566) (pc' := 570) rfl (hb hby at_566) (by decide) (by decide) ?_
                                  exact kk)
                              exact ⟨(1 : Int32), (by rw [if_neg hc951, if_neg hc954, if_pos hc957]), pre958⟩
                            · have pre959 : ∀ t, Steps p.tables e below (T939.setTop (mkF m 570 #[.val (.long p0), .second, .val (.long p1), .second, .val (.int q4), .val (.int p3), .val (.ref b293), .val (.ref b365), .val (.ref b624), .val (.int iv), .val (.int tw), .val (.int jv), .val (.int (1 : Int32))] [(.int (0 : Int32)), (.int q3), (.ref b450), (.ref b624), (.int (1 : Int32))])) t → Steps p.tables e below (s₁.setTop (entryFrame m #[(.long p0), (.long p1), (.int p2), (.int p3)] maxLocals)) t := fun t kk => pre956 t (by
                                  show Steps p.tables e below (T939.setTop (mkF m 562 #[.val (.long p0), .second, .val (.long p1), .second, .val (.int q4), .val (.int p3), .val (.ref b293), .val (.ref b365), .val (.ref b624), .val (.int iv), .val (.int tw), .val (.int jv), .val (.int (1 : Int32))] [(.int (3 : Int32)), (.int jv), (.int q3), (.ref b450), (.ref b624), (.int (1 : Int32))])) _
                                  refine XS.icmpYes X939.here hx rfl (pc0 := 562) (pc' := 569) rfl (hb hby at_562) rfl (feq hc957).2 (by decide) (by decide) ?_
                                  show Steps p.tables e below (T939.setTop (mkF m 569 #[.val (.long p0), .second, .val (.long p1), .second, .val (.int q4), .val (.int p3), .val (.ref b293), .val (.ref b365), .val (.ref b624), .val (.int iv), .val (.int tw), .val (.int jv), .val (.int (1 : Int32))] [(.int q3), (.ref b450), (.ref b624), (.int (1 : Int32))])) _
                                  refine XS.iconst X939.here hx rfl (hb hby at_569) ?_
                                  exact kk)
                              exact ⟨(0 : Int32), (by rw [if_neg hc951, if_neg hc954, if_neg hc957]), pre959⟩
                      have hk3 := own_chk (F := own_sel b369 b389 b416 b450 b491) (m := (3 : Int32)) hiv hjv.1 ⟨by decide, by decide⟩ hv_gn3 inj pinj pu872_1
                      have hp962 : own_TI (own_hmf pgs) vs2_872 := pu872_0
                      have hp963 : j0 < 16 := hj
                      have hp964 : vs2_872.getD j0 .null = .null := hj0
                      have hp965 : ¬ gn3 = (0 : Int32) → ∀ g, own_R vs2_872 g → pgs g ≠ q3 := fun h g hg e => (hk3.1 h g hg) (e.trans hp3.symm)
                      have hp966 : gn3 = (0 : Int32) → own_R vs2_872 b450 ∧ pgs b450 = q3 ∧ ∀ g, own_R vs2_872 g → pgs g = q3 → g = b450 := fun h => ⟨(hk3.2 h).1, hp3, fun g hg e => (hk3.2 h).2 g hg (e.trans hp3.symm)⟩
                      obtain ⟨_, _, ⟨T961, L961, k961, n961⟩, -, X961, ⟨Lc961, hQ961, l961, y961, z961⟩, st961⟩ := Jvm.LawKit.callS X939 hx (y := (⟨"com/example/redoubt/redoubt/storage/FrameTableRemovePinLaw", "check", "(Lcom/example/redoubt/redoubt/storage/FrameTable;Lcom/example/redoubt/redoubt/storage/PageCache$Frame;IZ)Z"⟩ : MethodName)) hown (mvT hZ (hw _ (List.mem_of_getElem? (i := 57) rfl))) (mvT hZ (hw _ (List.mem_of_getElem? (i := 58) rfl))) (mvT hZ (hw _ (List.mem_of_getElem? (i := 59) rfl))) (mvT hZ (hw _ (List.mem_of_getElem? (i := 60) rfl))) (by decide) (backOf (W := 1) (rmCheck l Z a0 hw [] b624 b450 q3 gn3 a_648 k_648 vs2_872 j0 pgs h872 n0 (Nat.le_trans Z0 K872.1) P872_0 P872_1 P872_2 P872_5 P872_4 hp962 hp963 hp964 hp965 hp966) hZ (hw _ (List.mem_of_getElem? (i := 60) rfl)) (hw _ (List.mem_of_getElem? (i := 59) rfl)) (by decide) (by decide)) (g := (mkF m 570 #[.val (.long p0), .second, .val (.long p1), .second, .val (.int q4), .val (.int p3), .val (.ref b293), .val (.ref b365), .val (.ref b624), .val (.int iv), .val (.int tw), .val (.int jv), .val (.int (1 : Int32))] [(.int gn3), (.int q3), (.ref b450), (.ref b624), (.int (1 : Int32))])) rfl (by rw [hml]; rfl) (argsL := [(.ref b624), (.ref b450), (.int q3), (.int gn3)]) (rest := [(.int (1 : Int32))]) (lenOf pd_5 rfl) rfl (by show 2 * 0 + _ ≤ _; exact Nat.le_of_eq rfl) (hb hby at_570) (fun _ _ => ⟨rfl, e939, (by decide : 14 + 0 ≤ _), (by decide : 41019 + 0 ≤ _)⟩)
                      dsimp only [Pt.U, Pt.locs, Pt.cells, Pt.slots] at X961 l961 y961 z961 st961 hQ961
                      rw [l961, y961, z961] at X961
                      replace X961 := own_std X961 (cc := 14) (ss := 41019) rfl rfl
                      obtain ⟨rfl, N961q, e961⟩ := hQ961
                      have N961 := Fr.app N939 N961q
                      have pre967 : ∀ t, Steps p.tables e below (T961.setTop (mkF m 576 #[.val (.long p0), .second, .val (.long p1), .second, .val (.int q4), .val (.int p3), .val (.ref b293), .val (.ref b365), .val (.ref b624), .val (.int iv), .val (.int tw), .val (.int jv), .val (.int ((1 : Int32) &&& (1 : Int32)))] [])) t → Steps p.tables e below (s₁.setTop (entryFrame m #[(.long p0), (.long p1), (.int p2), (.int p3)] maxLocals)) t := fun t kk => pre960j t (by
                          show Steps p.tables e below (T939.setTop (mkF m 570 #[.val (.long p0), .second, .val (.long p1), .second, .val (.int q4), .val (.int p3), .val (.ref b293), .val (.ref b365), .val (.ref b624), .val (.int iv), .val (.int tw), .val (.int jv), .val (.int (1 : Int32))] [(.int gn3), (.int q3), (.ref b450), (.ref b624), (.int (1 : Int32))])) _
                          refine st961 _ ?_
                          show Steps p.tables e below (T961.setTop (mkF m 573 #[.val (.long p0), .second, .val (.long p1), .second, .val (.int q4), .val (.int p3), .val (.ref b293), .val (.ref b365), .val (.ref b624), .val (.int iv), .val (.int tw), .val (.int jv), .val (.int (1 : Int32))] [(.int (1 : Int32)), (.int (1 : Int32))])) _
                          refine XS.iand X961.here hx rfl (hb hby at_573) rfl ?_
                          show Steps p.tables e below (T961.setTop (mkF m 574 #[.val (.long p0), .second, .val (.long p1), .second, .val (.int q4), .val (.int p3), .val (.ref b293), .val (.ref b365), .val (.ref b624), .val (.int iv), .val (.int tw), .val (.int jv), .val (.int (1 : Int32))] [(.int ((1 : Int32) &&& (1 : Int32)))])) _
                          refine XS.istore X961.here hx rfl (hb hby at_574) rfl (l' := #[.val (.long p0), .second, .val (.long p1), .second, .val (.int q4), .val (.int p3), .val (.ref b293), .val (.ref b365), .val (.ref b624), .val (.int iv), .val (.int tw), .val (.int jv), .val (.int ((1 : Int32) &&& (1 : Int32)))]) rfl ?_
                          exact kk)
                      have eq968 : ((1 : Int32) &&& (1 : Int32)) = (1 : Int32) := by decide
                      have pre969 : ∀ t, Steps p.tables e below (T961.setTop (mkF m 576 #[.val (.long p0), .second, .val (.long p1), .second, .val (.int q4), .val (.int p3), .val (.ref b293), .val (.ref b365), .val (.ref b624), .val (.int iv), .val (.int tw), .val (.int jv), .val (.int (1 : Int32))] [])) t → Steps p.tables e below (s₁.setTop (entryFrame m #[(.long p0), (.long p1), (.int p2), (.int p3)] maxLocals)) t := fun t kk => pre967 t (own_cast (fun zz : Int32 => T961.setTop (mkF m 576 #[.val (.long p0), .second, .val (.long p1), .second, .val (.int q4), .val (.int p3), .val (.ref b293), .val (.ref b365), .val (.ref b624), .val (.int iv), .val (.int tw), .val (.int jv), .val (.int zz)] [])) eq968 kk)
                      obtain ⟨cl970, Ar970, q970, Sz970, Nn970, H970, G970⟩ := id P872_6
                      have hin970 : ¬ ((4 : Int32) < 0 ∨ cl970.slots.size ≤ ((4 : Int32)).toNatClampNeg) := (inb_of Sz970 ⟨by decide, by decide⟩)
                      have hat970 : cl970.slots[((4 : Int32)).toNatClampNeg]? = some (.ref b491) := H970.at hin970 rfl
                      obtain ⟨cl971, Ar971, q971, Sz971, Nn971, H971, G971⟩ := id P872_7
                      have hin971 : ¬ ((4 : Int32) < 0 ∨ cl971.slots.size ≤ ((4 : Int32)).toNatClampNeg) := (inb_of Sz971 ⟨by decide, by decide⟩)
                      have hat971 : cl971.slots[((4 : Int32)).toNatClampNeg]? = some (.int q4) := H971.at hin971 rfl
                      have pre972 : ∀ t, Steps p.tables e below (T961.setTop (mkF m 591 #[.val (.long p0), .second, .val (.long p1), .second, .val (.int q4), .val (.int p3), .val (.ref b293), .val (.ref b365), .val (.ref b624), .val (.int iv), .val (.int tw), .val (.int jv), .val (.int (1 : Int32))] [(.int (4 : Int32)), (.int iv), (.int q4), (.ref b491), (.ref b624), (.int (1 : Int32))])) t → Steps p.tables e below (s₁.setTop (entryFrame m #[(.long p0), (.long p1), (.int p2), (.int p3)] maxLocals)) t := fun t kk => pre969 t (by
                          show Steps p.tables e below (T961.setTop (mkF m 576 #[.val (.long p0), .second, .val (.long p1), .second, .val (.int q4), .val (.int p3), .val (.ref b293), .val (.ref b365), .val (.ref b624), .val (.int iv), .val (.int tw), .val (.int jv), .val (.int (1 : Int32))] [])) _
                          refine XS.iload X961.here hx rfl (hb hby at_576) rfl ?_
                          show Steps p.tables e below (T961.setTop (mkF m 578 #[.val (.long p0), .second, .val (.long p1), .second, .val (.int q4), .val (.int p3), .val (.ref b293), .val (.ref b365), .val (.ref b624), .val (.int iv), .val (.int tw), .val (.int jv), .val (.int (1 : Int32))] [(.int (1 : Int32))])) _
                          refine XS.aload X961.here hx rfl (hb hby at_578) rfl rfl ?_
                          show Steps p.tables e below (T961.setTop (mkF m 580 #[.val (.long p0), .second, .val (.long p1), .second, .val (.int q4), .val (.int p3), .val (.ref b293), .val (.ref b365), .val (.ref b624), .val (.int iv), .val (.int tw), .val (.int jv), .val (.int (1 : Int32))] [(.ref b624), (.int (1 : Int32))])) _
                          refine XS.aload X961.here hx rfl (hb hby at_580) rfl rfl ?_
                          show Steps p.tables e below (T961.setTop (mkF m 582 #[.val (.long p0), .second, .val (.long p1), .second, .val (.int q4), .val (.int p3), .val (.ref b293), .val (.ref b365), .val (.ref b624), .val (.int iv), .val (.int tw), .val (.int jv), .val (.int (1 : Int32))] [(.ref b365), (.ref b624), (.int (1 : Int32))])) _
                          refine XS.iconst X961.here hx rfl (hb hby at_582) ?_
                          show Steps p.tables e below (T961.setTop (mkF m 583 #[.val (.long p0), .second, .val (.long p1), .second, .val (.int q4), .val (.int p3), .val (.ref b293), .val (.ref b365), .val (.ref b624), .val (.int iv), .val (.int tw), .val (.int jv), .val (.int (1 : Int32))] [(.int (4 : Int32)), (.ref b365), (.ref b624), (.int (1 : Int32))])) _
                          refine X961.aaload hx (j := (4 : Int32)) (v := (.ref b491)) (by rw [e961]; exact Ar970.1) (State.isArrayOf_alike hZ.alike Ar970.2.1) rfl Ar970.2.2 hin970 hat970 (g := (mkF m 583 #[.val (.long p0), .second, .val (.long p1), .second, .val (.int q4), .val (.int p3), .val (.ref b293), .val (.ref b365), .val (.ref b624), .val (.int iv), .val (.int tw), .val (.int jv), .val (.int (1 : Int32))] [(.int (4 : Int32)), (.ref b365), (.ref b624), (.int (1 : Int32))])) rfl rfl (hb hby at_583) _ ?_
                          show Steps p.tables e below (T961.setTop (mkF m 584 #[.val (.long p0), .second, .val (.long p1), .second, .val (.int q4), .val (.int p3), .val (.ref b293), .val (.ref b365), .val (.ref b624), .val (.int iv), .val (.int tw), .val (.int jv), .val (.int (1 : Int32))] [(.ref b491), (.ref b624), (.int (1 : Int32))])) _
                          refine XS.aload X961.here hx rfl (hb hby at_584) rfl rfl ?_
                          show Steps p.tables e below (T961.setTop (mkF m 586 #[.val (.long p0), .second, .val (.long p1), .second, .val (.int q4), .val (.int p3), .val (.ref b293), .val (.ref b365), .val (.ref b624), .val (.int iv), .val (.int tw), .val (.int jv), .val (.int (1 : Int32))] [(.ref b293), (.ref b491), (.ref b624), (.int (1 : Int32))])) _
                          refine XS.iconst X961.here hx rfl (hb hby at_586) ?_
                          show Steps p.tables e below (T961.setTop (mkF m 587 #[.val (.long p0), .second, .val (.long p1), .second, .val (.int q4), .val (.int p3), .val (.ref b293), .val (.ref b365), .val (.ref b624), .val (.int iv), .val (.int tw), .val (.int jv), .val (.int (1 : Int32))] [(.int (4 : Int32)), (.ref b293), (.ref b491), (.ref b624), (.int (1 : Int32))])) _
                          refine X961.iaload hx (j := (4 : Int32)) (v := (.int q4)) (by rw [e961]; exact Ar971.1) (State.isArrayOf_alike hZ.alike Ar971.2.1) Ar971.2.2 hin971 hat971 (g := (mkF m 587 #[.val (.long p0), .second, .val (.long p1), .second, .val (.int q4), .val (.int p3), .val (.ref b293), .val (.ref b365), .val (.ref b624), .val (.int iv), .val (.int tw), .val (.int jv), .val (.int (1 : Int32))] [(.int (4 : Int32)), (.ref b293), (.ref b491), (.ref b624), (.int (1 : Int32))])) rfl rfl (hb hby at_587) _ ?_
                          show Steps p.tables e below (T961.setTop (mkF m 588 #[.val (.long p0), .second, .val (.long p1), .second, .val (.int q4), .val (.int p3), .val (.ref b293), .val (.ref b365), .val (.ref b624), .val (.int iv), .val (.int tw), .val (.int jv), .val (.int (1 : Int32))] [(.int q4), (.ref b491), (.ref b624), (.int (1 : Int32))])) _
                          refine XS.iload X961.here hx rfl (hb hby at_588) rfl ?_
                          show Steps p.tables e below (T961.setTop (mkF m 590 #[.val (.long p0), .second, .val (.long p1), .second, .val (.int q4), .val (.int p3), .val (.ref b293), .val (.ref b365), .val (.ref b624), .val (.int iv), .val (.int tw), .val (.int jv), .val (.int (1 : Int32))] [(.int iv), (.int q4), (.ref b491), (.ref b624), (.int (1 : Int32))])) _
                          refine XS.iconst X961.here hx rfl (hb hby at_590) ?_
                          exact kk)
                      obtain ⟨gn4, hv_gn4, pre982j⟩ : ∃ (gn4 : Int32), gn4 = (if iv = (4 : Int32) then (1 : Int32) else (if tw = (0 : Int32) then (0 : Int32) else (if jv = (4 : Int32) then (1 : Int32) else (0 : Int32)))) ∧ ∀ t, Steps p.tables e below (T961.setTop (mkF m 610 #[.val (.long p0), .second, .val (.long p1), .second, .val (.int q4), .val (.int p3), .val (.ref b293), .val (.ref b365), .val (.ref b624), .val (.int iv), .val (.int tw), .val (.int jv), .val (.int (1 : Int32))] [(.int gn4), (.int q4), (.ref b491), (.ref b624), (.int (1 : Int32))])) t → Steps p.tables e below (s₁.setTop (entryFrame m #[(.long p0), (.long p1), (.int p2), (.int p3)] maxLocals)) t := by
                        by_cases hc973 : iv = (4 : Int32)
                        · have pre974 : ∀ t, Steps p.tables e below (T961.setTop (mkF m 610 #[.val (.long p0), .second, .val (.long p1), .second, .val (.int q4), .val (.int p3), .val (.ref b293), .val (.ref b365), .val (.ref b624), .val (.int iv), .val (.int tw), .val (.int jv), .val (.int (1 : Int32))] [(.int (1 : Int32)), (.int q4), (.ref b491), (.ref b624), (.int (1 : Int32))])) t → Steps p.tables e below (s₁.setTop (entryFrame m #[(.long p0), (.long p1), (.int p2), (.int p3)] maxLocals)) t := fun t kk => pre972 t (by
                              show Steps p.tables e below (T961.setTop (mkF m 591 #[.val (.long p0), .second, .val (.long p1), .second, .val (.int q4), .val (.int p3), .val (.ref b293), .val (.ref b365), .val (.ref b624), .val (.int iv), .val (.int tw), .val (.int jv), .val (.int (1 : Int32))] [(.int (4 : Int32)), (.int iv), (.int q4), (.ref b491), (.ref b624), (.int (1 : Int32))])) _
                              refine XS.icmpYes X961.here hx rfl (pc0 := 591) (pc' := 605) rfl (hb hby at_591) rfl (teq hc973).1 (by decide) (by decide) ?_
                              show Steps p.tables e below (T961.setTop (mkF m 605 #[.val (.long p0), .second, .val (.long p1), .second, .val (.int q4), .val (.int p3), .val (.ref b293), .val (.ref b365), .val (.ref b624), .val (.int iv), .val (.int tw), .val (.int jv), .val (.int (1 : Int32))] [(.int q4), (.ref b491), (.ref b624), (.int (1 : Int32))])) _
                              refine XS.iconst X961.here hx rfl (hb hby at_605) ?_
                              show Steps p.tables e below (T961.setTop (mkF m 606 #[.val (.long p0), .second, .val (.long p1), .second, .val (.int q4), .val (.int p3), .val (.ref b293), .val (.ref b365), .val (.ref b624), .val (.int iv), .val (.int tw), .val (.int jv), .val (.int (1 : Int32))] [(.int (1 : Int32)), (.int q4), (.ref b491), (.ref b624), (.int (1 : Int32))])) _
                              refine XS.goto X961.here hx rfl (pc0 := 606) (pc' := 610) rfl (hb hby at_606) (by decide) (by decide) ?_
                              exact kk)
                          exact ⟨(1 : Int32), (by rw [if_pos hc973]), pre974⟩
                        · have pre975 : ∀ t, Steps p.tables e below (T961.setTop (mkF m 596 #[.val (.long p0), .second, .val (.long p1), .second, .val (.int q4), .val (.int p3), .val (.ref b293), .val (.ref b365), .val (.ref b624), .val (.int iv), .val (.int tw), .val (.int jv), .val (.int (1 : Int32))] [(.int tw), (.int q4), (.ref b491), (.ref b624), (.int (1 : Int32))])) t → Steps p.tables e below (s₁.setTop (entryFrame m #[(.long p0), (.long p1), (.int p2), (.int p3)] maxLocals)) t := fun t kk => pre972 t (by
                              show Steps p.tables e below (T961.setTop (mkF m 591 #[.val (.long p0), .second, .val (.long p1), .second, .val (.int q4), .val (.int p3), .val (.ref b293), .val (.ref b365), .val (.ref b624), .val (.int iv), .val (.int tw), .val (.int jv), .val (.int (1 : Int32))] [(.int (4 : Int32)), (.int iv), (.int q4), (.ref b491), (.ref b624), (.int (1 : Int32))])) _
                              refine XS.icmpNo X961.here hx rfl (hb hby at_591) rfl (feq hc973).1 ?_
                              show Steps p.tables e below (T961.setTop (mkF m 594 #[.val (.long p0), .second, .val (.long p1), .second, .val (.int q4), .val (.int p3), .val (.ref b293), .val (.ref b365), .val (.ref b624), .val (.int iv), .val (.int tw), .val (.int jv), .val (.int (1 : Int32))] [(.int q4), (.ref b491), (.ref b624), (.int (1 : Int32))])) _
                              refine XS.iload X961.here hx rfl (hb hby at_594) rfl ?_
                              exact kk)
                          by_cases hc976 : tw = (0 : Int32)
                          · have pre977 : ∀ t, Steps p.tables e below (T961.setTop (mkF m 610 #[.val (.long p0), .second, .val (.long p1), .second, .val (.int q4), .val (.int p3), .val (.ref b293), .val (.ref b365), .val (.ref b624), .val (.int iv), .val (.int tw), .val (.int jv), .val (.int (1 : Int32))] [(.int (0 : Int32)), (.int q4), (.ref b491), (.ref b624), (.int (1 : Int32))])) t → Steps p.tables e below (s₁.setTop (entryFrame m #[(.long p0), (.long p1), (.int p2), (.int p3)] maxLocals)) t := fun t kk => pre975 t (by
                                show Steps p.tables e below (T961.setTop (mkF m 596 #[.val (.long p0), .second, .val (.long p1), .second, .val (.int q4), .val (.int p3), .val (.ref b293), .val (.ref b365), .val (.ref b624), .val (.int iv), .val (.int tw), .val (.int jv), .val (.int (1 : Int32))] [(.int tw), (.int q4), (.ref b491), (.ref b624), (.int (1 : Int32))])) _
                                refine XS.ifYes X961.here hx rfl (pc0 := 596) (pc' := 609) rfl (hb hby at_596) rfl ((if0 _ _).trans (teq hc976).1) (by decide) (by decide) ?_
                                show Steps p.tables e below (T961.setTop (mkF m 609 #[.val (.long p0), .second, .val (.long p1), .second, .val (.int q4), .val (.int p3), .val (.ref b293), .val (.ref b365), .val (.ref b624), .val (.int iv), .val (.int tw), .val (.int jv), .val (.int (1 : Int32))] [(.int q4), (.ref b491), (.ref b624), (.int (1 : Int32))])) _
                                refine XS.iconst X961.here hx rfl (hb hby at_609) ?_
                                exact kk)
                            exact ⟨(0 : Int32), (by rw [if_neg hc973, if_pos hc976]), pre977⟩
                          · have pre978 : ∀ t, Steps p.tables e below (T961.setTop (mkF m 602 #[.val (.long p0), .second, .val (.long p1), .second, .val (.int q4), .val (.int p3), .val (.ref b293), .val (.ref b365), .val (.ref b624), .val (.int iv), .val (.int tw), .val (.int jv), .val (.int (1 : Int32))] [(.int (4 : Int32)), (.int jv), (.int q4), (.ref b491), (.ref b624), (.int (1 : Int32))])) t → Steps p.tables e below (s₁.setTop (entryFrame m #[(.long p0), (.long p1), (.int p2), (.int p3)] maxLocals)) t := fun t kk => pre975 t (by
                                show Steps p.tables e below (T961.setTop (mkF m 596 #[.val (.long p0), .second, .val (.long p1), .second, .val (.int q4), .val (.int p3), .val (.ref b293), .val (.ref b365), .val (.ref b624), .val (.int iv), .val (.int tw), .val (.int jv), .val (.int (1 : Int32))] [(.int tw), (.int q4), (.ref b491), (.ref b624), (.int (1 : Int32))])) _
                                refine XS.ifNo X961.here hx rfl (hb hby at_596) rfl ((if0 _ _).trans (feq hc976).1) ?_
                                show Steps p.tables e below (T961.setTop (mkF m 599 #[.val (.long p0), .second, .val (.long p1), .second, .val (.int q4), .val (.int p3), .val (.ref b293), .val (.ref b365), .val (.ref b624), .val (.int iv), .val (.int tw), .val (.int jv), .val (.int (1 : Int32))] [(.int q4), (.ref b491), (.ref b624), (.int (1 : Int32))])) _
                                refine XS.iload X961.here hx rfl (hb hby at_599) rfl ?_
                                show Steps p.tables e below (T961.setTop (mkF m 601 #[.val (.long p0), .second, .val (.long p1), .second, .val (.int q4), .val (.int p3), .val (.ref b293), .val (.ref b365), .val (.ref b624), .val (.int iv), .val (.int tw), .val (.int jv), .val (.int (1 : Int32))] [(.int jv), (.int q4), (.ref b491), (.ref b624), (.int (1 : Int32))])) _
                                refine XS.iconst X961.here hx rfl (hb hby at_601) ?_
                                exact kk)
                            by_cases hc979 : jv = (4 : Int32)
                            · have pre980 : ∀ t, Steps p.tables e below (T961.setTop (mkF m 610 #[.val (.long p0), .second, .val (.long p1), .second, .val (.int q4), .val (.int p3), .val (.ref b293), .val (.ref b365), .val (.ref b624), .val (.int iv), .val (.int tw), .val (.int jv), .val (.int (1 : Int32))] [(.int (1 : Int32)), (.int q4), (.ref b491), (.ref b624), (.int (1 : Int32))])) t → Steps p.tables e below (s₁.setTop (entryFrame m #[(.long p0), (.long p1), (.int p2), (.int p3)] maxLocals)) t := fun t kk => pre978 t (by
                                  show Steps p.tables e below (T961.setTop (mkF m 602 #[.val (.long p0), .second, .val (.long p1), .second, .val (.int q4), .val (.int p3), .val (.ref b293), .val (.ref b365), .val (.ref b624), .val (.int iv), .val (.int tw), .val (.int jv), .val (.int (1 : Int32))] [(.int (4 : Int32)), (.int jv), (.int q4), (.ref b491), (.ref b624), (.int (1 : Int32))])) _
                                  refine XS.icmpNo X961.here hx rfl (hb hby at_602) rfl (teq hc979).2 ?_
                                  show Steps p.tables e below (T961.setTop (mkF m 605 #[.val (.long p0), .second, .val (.long p1), .second, .val (.int q4), .val (.int p3), .val (.ref b293), .val (.ref b365), .val (.ref b624), .val (.int iv), .val (.int tw), .val (.int jv), .val (.int (1 : Int32))] [(.int q4), (.ref b491), (.ref b624), (.int (1 : Int32))])) _
                                  refine XS.iconst X961.here hx rfl (hb hby at_605) ?_
                                  show Steps p.tables e below (T961.setTop (mkF m 606 #[.val (.long p0), .second, .val (.long p1), .second, .val (.int q4), .val (.int p3), .val (.ref b293), .val (.ref b365), .val (.ref b624), .val (.int iv), .val (.int tw), .val (.int jv), .val (.int (1 : Int32))] [(.int (1 : Int32)), (.int q4), (.ref b491), (.ref b624), (.int (1 : Int32))])) _
                                  refine XS.goto X961.here hx rfl (pc0 := 606) (pc' := 610) rfl (hb hby at_606) (by decide) (by decide) ?_
                                  exact kk)
                              exact ⟨(1 : Int32), (by rw [if_neg hc973, if_neg hc976, if_pos hc979]), pre980⟩
                            · have pre981 : ∀ t, Steps p.tables e below (T961.setTop (mkF m 610 #[.val (.long p0), .second, .val (.long p1), .second, .val (.int q4), .val (.int p3), .val (.ref b293), .val (.ref b365), .val (.ref b624), .val (.int iv), .val (.int tw), .val (.int jv), .val (.int (1 : Int32))] [(.int (0 : Int32)), (.int q4), (.ref b491), (.ref b624), (.int (1 : Int32))])) t → Steps p.tables e below (s₁.setTop (entryFrame m #[(.long p0), (.long p1), (.int p2), (.int p3)] maxLocals)) t := fun t kk => pre978 t (by
                                  show Steps p.tables e below (T961.setTop (mkF m 602 #[.val (.long p0), .second, .val (.long p1), .second, .val (.int q4), .val (.int p3), .val (.ref b293), .val (.ref b365), .val (.ref b624), .val (.int iv), .val (.int tw), .val (.int jv), .val (.int (1 : Int32))] [(.int (4 : Int32)), (.int jv), (.int q4), (.ref b491), (.ref b624), (.int (1 : Int32))])) _
                                  refine XS.icmpYes X961.here hx rfl (pc0 := 602) (pc' := 609) rfl (hb hby at_602) rfl (feq hc979).2 (by decide) (by decide) ?_
                                  show Steps p.tables e below (T961.setTop (mkF m 609 #[.val (.long p0), .second, .val (.long p1), .second, .val (.int q4), .val (.int p3), .val (.ref b293), .val (.ref b365), .val (.ref b624), .val (.int iv), .val (.int tw), .val (.int jv), .val (.int (1 : Int32))] [(.int q4), (.ref b491), (.ref b624), (.int (1 : Int32))])) _
                                  refine XS.iconst X961.here hx rfl (hb hby at_609) ?_
                                  exact kk)
                              exact ⟨(0 : Int32), (by rw [if_neg hc973, if_neg hc976, if_neg hc979]), pre981⟩
                      have hk4 := own_chk (F := own_sel b369 b389 b416 b450 b491) (m := (4 : Int32)) hiv hjv.1 ⟨by decide, by decide⟩ hv_gn4 inj pinj pu872_1
                      have hp984 : own_TI (own_hmf pgs) vs2_872 := pu872_0
                      have hp985 : j0 < 16 := hj
                      have hp986 : vs2_872.getD j0 .null = .null := hj0
                      have hp987 : ¬ gn4 = (0 : Int32) → ∀ g, own_R vs2_872 g → pgs g ≠ q4 := fun h g hg e => (hk4.1 h g hg) (e.trans hp4.symm)
                      have hp988 : gn4 = (0 : Int32) → own_R vs2_872 b491 ∧ pgs b491 = q4 ∧ ∀ g, own_R vs2_872 g → pgs g = q4 → g = b491 := fun h => ⟨(hk4.2 h).1, hp4, fun g hg e => (hk4.2 h).2 g hg (e.trans hp4.symm)⟩
                      obtain ⟨_, _, ⟨T983, L983, k983, n983⟩, -, X983, ⟨Lc983, hQ983, l983, y983, z983⟩, st983⟩ := Jvm.LawKit.callS X961 hx (y := (⟨"com/example/redoubt/redoubt/storage/FrameTableRemovePinLaw", "check", "(Lcom/example/redoubt/redoubt/storage/FrameTable;Lcom/example/redoubt/redoubt/storage/PageCache$Frame;IZ)Z"⟩ : MethodName)) hown (mvT hZ (hw _ (List.mem_of_getElem? (i := 57) rfl))) (mvT hZ (hw _ (List.mem_of_getElem? (i := 58) rfl))) (mvT hZ (hw _ (List.mem_of_getElem? (i := 59) rfl))) (mvT hZ (hw _ (List.mem_of_getElem? (i := 60) rfl))) (by decide) (backOf (W := 1) (rmCheck l Z a0 hw [] b624 b491 q4 gn4 a_648 k_648 vs2_872 j0 pgs h872 n0 (Nat.le_trans Z0 K872.1) P872_0 P872_1 P872_2 P872_5 P872_4 hp984 hp985 hp986 hp987 hp988) hZ (hw _ (List.mem_of_getElem? (i := 60) rfl)) (hw _ (List.mem_of_getElem? (i := 59) rfl)) (by decide) (by decide)) (g := (mkF m 610 #[.val (.long p0), .second, .val (.long p1), .second, .val (.int q4), .val (.int p3), .val (.ref b293), .val (.ref b365), .val (.ref b624), .val (.int iv), .val (.int tw), .val (.int jv), .val (.int (1 : Int32))] [(.int gn4), (.int q4), (.ref b491), (.ref b624), (.int (1 : Int32))])) rfl (by rw [hml]; rfl) (argsL := [(.ref b624), (.ref b491), (.int q4), (.int gn4)]) (rest := [(.int (1 : Int32))]) (lenOf pd_5 rfl) rfl (by show 2 * 0 + _ ≤ _; exact Nat.le_of_eq rfl) (hb hby at_610) (fun _ _ => ⟨rfl, e961, (by decide : 14 + 0 ≤ _), (by decide : 41019 + 0 ≤ _)⟩)
                      dsimp only [Pt.U, Pt.locs, Pt.cells, Pt.slots] at X983 l983 y983 z983 st983 hQ983
                      rw [l983, y983, z983] at X983
                      replace X983 := own_std X983 (cc := 14) (ss := 41019) rfl rfl
                      obtain ⟨rfl, N983q, e983⟩ := hQ983
                      have N983 := Fr.app N961 N983q
                      have pre989 : ∀ t, Steps p.tables e below (T983.setTop (mkF m 616 #[.val (.long p0), .second, .val (.long p1), .second, .val (.int q4), .val (.int p3), .val (.ref b293), .val (.ref b365), .val (.ref b624), .val (.int iv), .val (.int tw), .val (.int jv), .val (.int ((1 : Int32) &&& (1 : Int32)))] [])) t → Steps p.tables e below (s₁.setTop (entryFrame m #[(.long p0), (.long p1), (.int p2), (.int p3)] maxLocals)) t := fun t kk => pre982j t (by
                          show Steps p.tables e below (T961.setTop (mkF m 610 #[.val (.long p0), .second, .val (.long p1), .second, .val (.int q4), .val (.int p3), .val (.ref b293), .val (.ref b365), .val (.ref b624), .val (.int iv), .val (.int tw), .val (.int jv), .val (.int (1 : Int32))] [(.int gn4), (.int q4), (.ref b491), (.ref b624), (.int (1 : Int32))])) _
                          refine st983 _ ?_
                          show Steps p.tables e below (T983.setTop (mkF m 613 #[.val (.long p0), .second, .val (.long p1), .second, .val (.int q4), .val (.int p3), .val (.ref b293), .val (.ref b365), .val (.ref b624), .val (.int iv), .val (.int tw), .val (.int jv), .val (.int (1 : Int32))] [(.int (1 : Int32)), (.int (1 : Int32))])) _
                          refine XS.iand X983.here hx rfl (hb hby at_613) rfl ?_
                          show Steps p.tables e below (T983.setTop (mkF m 614 #[.val (.long p0), .second, .val (.long p1), .second, .val (.int q4), .val (.int p3), .val (.ref b293), .val (.ref b365), .val (.ref b624), .val (.int iv), .val (.int tw), .val (.int jv), .val (.int (1 : Int32))] [(.int ((1 : Int32) &&& (1 : Int32)))])) _
                          refine XS.istore X983.here hx rfl (hb hby at_614) rfl (l' := #[.val (.long p0), .second, .val (.long p1), .second, .val (.int q4), .val (.int p3), .val (.ref b293), .val (.ref b365), .val (.ref b624), .val (.int iv), .val (.int tw), .val (.int jv), .val (.int ((1 : Int32) &&& (1 : Int32)))]) rfl ?_
                          exact kk)
                      have eq990 : ((1 : Int32) &&& (1 : Int32)) = (1 : Int32) := by decide
                      have pre991 : ∀ t, Steps p.tables e below (T983.setTop (mkF m 616 #[.val (.long p0), .second, .val (.long p1), .second, .val (.int q4), .val (.int p3), .val (.ref b293), .val (.ref b365), .val (.ref b624), .val (.int iv), .val (.int tw), .val (.int jv), .val (.int (1 : Int32))] [])) t → Steps p.tables e below (s₁.setTop (entryFrame m #[(.long p0), (.long p1), (.int p2), (.int p3)] maxLocals)) t := fun t kk => pre989 t (own_cast (fun zz : Int32 => T983.setTop (mkF m 616 #[.val (.long p0), .second, .val (.long p1), .second, .val (.int q4), .val (.int p3), .val (.ref b293), .val (.ref b365), .val (.ref b624), .val (.int iv), .val (.int tw), .val (.int jv), .val (.int zz)] [])) eq990 kk)
                      have pre992 : ∀ t, Steps p.tables e below (T983.setTop (mkF m 618 #[.val (.long p0), .second, .val (.long p1), .second, .val (.int q4), .val (.int p3), .val (.ref b293), .val (.ref b365), .val (.ref b624), .val (.int iv), .val (.int tw), .val (.int jv), .val (.int (1 : Int32))] [(.int (1 : Int32))])) t → Steps p.tables e below (s₁.setTop (entryFrame m #[(.long p0), (.long p1), (.int p2), (.int p3)] maxLocals)) t := fun t kk => pre991 t (by
                          show Steps p.tables e below (T983.setTop (mkF m 616 #[.val (.long p0), .second, .val (.long p1), .second, .val (.int q4), .val (.int p3), .val (.ref b293), .val (.ref b365), .val (.ref b624), .val (.int iv), .val (.int tw), .val (.int jv), .val (.int (1 : Int32))] [])) _
                          refine XS.iload X983.here hx rfl (hb hby at_616) rfl ?_
                          exact kk)
                      obtain ⟨fs, hr, hrun, hended, hW, hsame⟩ := X983.leave (v := some (.int (1 : Int32))) (fun h => by rw [Bd.returns] at h; cases h)
                      refine ⟨_, _, pre992 _ ?_, hrun, hended, _, _, rfl, ?_, ⟨_, rfl⟩, hW, hsame.mono (by decide) (by decide)⟩
                      · show Steps p.tables e below (T983.setTop (mkF m 618 #[.val (.long p0), .second, .val (.long p1), .second, .val (.int q4), .val (.int p3), .val (.ref b293), .val (.ref b365), .val (.ref b624), .val (.int iv), .val (.int tw), .val (.int jv), .val (.int (1 : Int32))] [(.int (1 : Int32))])) _
                        exact retN X983 hx (t := .boolean) Bd.returns (by simp) (hb hby at_618) hr
                      · show Q0 Z p0 p1 p2 p3 h0 n0 _ T983.heap _
                        rw [e983]
                        exact ⟨rfl, N983, K872⟩
set_option maxRecDepth 65536 in
set_option maxHeartbeats 40000000 in
theorem comes_1 {Post : Tables → Env → Array Value → State → Outcome → State → Prop} (hpost : ∀ tb e args s v u, (limb_1_1.after args s (.returned v) u = true ∧ limb_1_2.after args s (.returned v) u = true ∧ True) → FrameEnd s (.returned v) u (Jvm.fieldLocs frame_1_writes args s ++ Jvm.arrayLocs frame_1_arrays args s ++ Jvm.staticLocs frame_1_statics s) 40 82112 → Post tb e args s (.returned v) u) :
    ArmFor flags0 classFile x code maxLocals ret World_1 tables_1 room_1 Calls_1 rest_1 Pre_1 Post := by
  intro l hfl _ _ p e ha hc hk s m args below hf hA hF happ hP
  obtain ⟨hcalls, hrest, hpre⟩ := hP
  obtain ⟨-, -, -, hnamed, -, -, -, hat⟩ := (Spec.applies_iff hf).mp happ
  obtain ⟨hg, hn⟩ := and_e (Cond.before_iff.mp (show (Jvm.Cond.and given_1 narrow_1).before args s = true from hpre))
  obtain ⟨gg993, gg994⟩ := and_e hg
  obtain ⟨gg995, gg996⟩ := and_e gg994
  obtain ⟨gg997, gg998⟩ := and_e gg996
  obtain ⟨gg999, gg1000⟩ := and_e gg998
  obtain ⟨w0, w1, w2, w3, rfl⟩ : ∃ w0 w1 w2 w3 : Value, args = #[w0, w1, w2, w3] := by
    have hs : args.size = 4 := by simpa [Cond.value, given_1] using gg993
    obtain ⟨L⟩ := args
    match L, hs with
    | [w0, w1, w2, w3], _ => exact ⟨w0, w1, w2, w3, rfl⟩
  have hw := fun d (hd : d ∈ tables_1) => atoms_spec (ws := Jvm.Cond.code x code maxLocals ret :: tables_1) hat d (List.mem_cons_of_mem _ hd)
  have hfit : Fit s := fun {y c} hc i hi => by
    obtain ⟨ha, rfl⟩ := Array.getElem?_eq_some_iff.mp hc
    have q := List.all_eq_true.mp ((Array.all_eq_true_iff_forall_mem.mp hF) _ (Array.getElem_mem ha)) i (List.mem_range.mpr hi)
    simpa [Array.getElem?_eq_getElem hi] using q
  obtain ⟨i0, ei0⟩ := isL_v gg995
  obtain rfl : w0 = (.long i0) := Option.some.inj ei0
  obtain ⟨i1, ei1⟩ := isL_v gg997
  obtain rfl : w1 = (.long i1) := Option.some.inj ei1
  obtain ⟨i2, ei2⟩ := is_v gg999
  obtain rfl : w2 = (.int i2) := Option.some.inj ei2
  obtain ⟨i3, ei3⟩ := is_v gg1000
  obtain rfl : w3 = (.int i3) := Option.some.inj ei3
  obtain ⟨n, o, h1, h2, h3, _, L, rfl, ⟨rfl, N, -⟩, hq⟩ := rm0 l s _ hw tables_1 i0 i1 i2 i3  s.heap s.heap.size (Nat.le_refl _)  p e ha hc hk s m _ below hf ((Spec.applies_iff_loose hf).mp happ).1 ⟨rfl, State.Warmed39.refl s, rfl⟩ trivial
  refine ⟨n, _, h1, h2, h3, hpost _ _ _ _ _ _ ⟨Cond.after_iff.mpr rfl, Cond.after_iff.mpr (eq_i res_at (Term.int_eval (1)) rfl), trivial⟩ ⟨hq.1, hq.2.1, (hq.2.2.sift fun y hy => Or.inr (N y hy)).mono (by decide) (by decide)⟩⟩
theorem main_1_1 : Claimed_1_1 := comes_1 fun _ _ _ _ _ _ h hF => ⟨h.1, hF⟩
theorem main_1_2 : Claimed_1_2 := comes_1 fun _ _ _ _ _ _ h hF => ⟨h.2.1, hF⟩
end Jvm.Pilot.@@N@@
namespace Jvm.Pilot.@@N@@
open Jvm Jvm.ClassFile Sem Op Lib Jvm.Free Jvm.Stand Jvm.Pilot.@@N@@.Jvm.D
/-! MADE BY PROGRAM (witnessworld.py) out of the Statement's table words and the real class files: 11 classes; the members and pool entries that the words name. The judged class is class 1, her method 1. -/
namespace start1
open Jvm.ClassFile
def u (s : String) : CpInfo := .utf8 (stringToUtf16 s)
/-- a pool by its gaps: so many unusable entries, then the entry; so many at the end -/
def gap : Nat → List CpInfo → List CpInfo
  | 0, r => r
  | n + 1, r => .unusable :: gap n r
def poolList (es : List (Nat × CpInfo)) (last : Nat) : List CpInfo := es.foldr (fun e r => gap e.1 (e.2 :: r)) (gap last [])
def pool (es : List (Nat × CpInfo)) (last : Nat) : Array CpInfo := ⟨poolList es last⟩
def fileOf (pool : Array CpInfo) (this : Nat) (attrs : Array Attribute := #[]) (ms : Array MethodInfo := #[]) (fl : Nat := 33) (sup : Nat := 0) (ifs : Array Nat := #[]) (fds : Array FieldInfo := #[]) : ClassFile where
  minorVersion := 0
  majorVersion := 65
  constantPool := pool
  accessFlags := fl
  thisClass := this
  superClass := sup
  interfaces := ifs
  fields := fds
  methods := ms
  attributes := attrs
def plain (name : String) (sup : Option ClassId) : Class where
  name := name
  kind := .ordinary
  loader := none
  accessFlags := 33
  super := sup
  interfaces := #[]
  cf := none
  fields := #[]
  methods := #[]
  instanceTypes := #[]
  staticTypes := #[]
  resolved := #[]
  callSites := []
  init := .initialized
  statics := none
  mirror := none

def pool0 : Array CpInfo := pool [(5, u "<init>"), (0, u "()V"), (1, .class_ 10), (1, u "java/lang/Object")] 113

def k0c0 : Code := { maxStack := 0, maxLocals := 1, code := object_method_1_code, exceptionTable := #[], attributes := #[] }
def k0m0 : Method := { name := "<init>", desc := "()V", sig := { parameters := [], returnType := none }, accessFlags := 1, code := some k0c0 }
/-- java/lang/Object -/
def k0 : Class := { plain "java/lang/Object" none with
  accessFlags := 33
  interfaces := #[]
  cf := some (fileOf pool0 8 #[] #[{ accessFlags := 1, nameIndex := 5, descriptorIndex := 6, attributes := #[] }] 33 0 #[] #[])
  fields := #[]
  methods := #[k0m0]
  instanceTypes := #[]
  staticTypes := #[]
  resolved := Array.replicate 124 none
  statics := none }

def pool1 : Array CpInfo := pool [(2, .class_ 4), (0, .nameAndType 5 6), (0, u "java/lang/Object"), (0, u "<init>"), (0, u "()V"), (0, .class_ 8), (0, u "com/example/redoubt/redoubt/storage/PageCache$Frame"), (0, .methodref 7 3), (0, .fieldref 7 11), (0, .nameAndType 12 13), (0, u "page"), (0, u "I"), (0, .class_ 15), (0, u "com/example/redoubt/redoubt/storage/FrameTable"), (0, .methodref 14 3), (0, .methodref 14 18), (0, .nameAndType 19 20), (0, u "add"), (0, u "(Lcom/example/redoubt/redoubt/storage/PageCache$Frame;)V"), (0, .integer 65535), (0, .methodref 14 23), (0, .nameAndType 24 20), (0, u "remove"), (0, .methodref 14 26), (0, .nameAndType 27 28), (0, u "size"), (0, u "()I"), (0, .methodref 30 31), (0, .class_ 32), (0, .nameAndType 33 34), (0, u "com/example/redoubt/redoubt/storage/FrameTableRemovePinLaw"), (0, u "check"), (0, u "(Lcom/example/redoubt/redoubt/storage/FrameTable;Lcom/example/redoubt/redoubt/storage/PageCache$Frame;IZ)Z"), (0, .methodref 14 36), (0, .nameAndType 37 38), (0, u "get"), (0, u "(I)Lcom/example/redoubt/redoubt/storage/PageCache$Frame;"), (2, u "law"), (0, u "(JJII)Z")] 11

def k1m0 : Method := { name := "<init>", desc := "()V", sig := { parameters := [], returnType := none }, accessFlags := 1, code := none }
def k1c1 : Code := { maxStack := 6, maxLocals := 13, code := code, exceptionTable := #[], attributes := #[] }
def k1m1 : Method := { name := "law", desc := "(JJII)Z", sig := { parameters := [.long, .long, .int, .int], returnType := some .boolean }, accessFlags := 9, code := some k1c1 }
def k1c2 : Code := { maxStack := 2, maxLocals := 5, code := method_3_code, exceptionTable := #[], attributes := #[] }
def k1m2 : Method := { name := "check", desc := "(Lcom/example/redoubt/redoubt/storage/FrameTable;Lcom/example/redoubt/redoubt/storage/PageCache$Frame;IZ)Z", sig := { parameters := [(.object "com/example/redoubt/redoubt/storage/FrameTable"), (.object "com/example/redoubt/redoubt/storage/PageCache$Frame"), .int, .boolean], returnType := some .boolean }, accessFlags := 10, code := some k1c2 }
/-- com/example/redoubt/redoubt/storage/FrameTableRemovePinLaw -/
def k1 : Class := { plain "com/example/redoubt/redoubt/storage/FrameTableRemovePinLaw" (some 0) with
  accessFlags := 49
  interfaces := #[]
  cf := some (fileOf pool1 30 #[] #[{ accessFlags := 1, nameIndex := 5, descriptorIndex := 6, attributes := #[] }, { accessFlags := 9, nameIndex := 41, descriptorIndex := 42, attributes := #[] }, { accessFlags := 10, nameIndex := 33, descriptorIndex := 34, attributes := #[] }] 49 2 #[] #[])
  fields := #[]
  methods := #[k1m0, k1m1, k1m2]
  instanceTypes := #[]
  staticTypes := #[]
  resolved := Array.replicate 54 none
  statics := none }

def pool2 : Array CpInfo := pool [(1, .methodref 2 3), (0, .class_ 4), (0, .nameAndType 5 6), (0, u "java/lang/Object"), (0, u "<init>"), (0, u "()V"), (2, .fieldref 10 11), (0, .class_ 12), (0, .nameAndType 13 14), (0, u "com/example/redoubt/redoubt/storage/PageCache$Frame"), (0, u "data"), (0, u "[B"), (0, u "page"), (0, u "I"), (0, u "dirty"), (0, u "Z"), (0, u "lsn"), (0, u "J"), (0, u "older"), (0, u "Lcom/example/redoubt/redoubt/storage/PageCache$Frame;"), (0, u "newer"), (5, .class_ 30), (0, u "com/example/redoubt/redoubt/storage/PageCache")] 2

def k2c0 : Code := { maxStack := 2, maxLocals := 1, code := prog_57_method_1_code, exceptionTable := #[], attributes := #[] }
def k2m0 : Method := { name := "<init>", desc := "()V", sig := { parameters := [], returnType := none }, accessFlags := 0, code := some k2c0 }
/-- com/example/redoubt/redoubt/storage/PageCache$Frame -/
def k2 : Class := { plain "com/example/redoubt/redoubt/storage/PageCache$Frame" (some 0) with
  accessFlags := 48
  interfaces := #[]
  cf := some (fileOf pool2 10 #[.nestHost 29] #[{ accessFlags := 0, nameIndex := 5, descriptorIndex := 6, attributes := #[] }] 48 2 #[] #[{ accessFlags := 16, nameIndex := 13, descriptorIndex := 14, attributes := #[] }, { accessFlags := 0, nameIndex := 15, descriptorIndex := 16, attributes := #[] }, { accessFlags := 0, nameIndex := 17, descriptorIndex := 18, attributes := #[] }, { accessFlags := 0, nameIndex := 19, descriptorIndex := 20, attributes := #[] }, { accessFlags := 0, nameIndex := 21, descriptorIndex := 22, attributes := #[] }, { accessFlags := 0, nameIndex := 23, descriptorIndex := 22, attributes := #[] }])
  fields := #[{ name := "data", type := (.array .byte), accessFlags := 16, slot := 0, constantValue := 0 }, { name := "page", type := .int, accessFlags := 0, slot := 1, constantValue := 0 }, { name := "dirty", type := .boolean, accessFlags := 0, slot := 2, constantValue := 0 }, { name := "lsn", type := .long, accessFlags := 0, slot := 3, constantValue := 0 }, { name := "older", type := (.object "com/example/redoubt/redoubt/storage/PageCache$Frame"), accessFlags := 0, slot := 4, constantValue := 0 }, { name := "newer", type := (.object "com/example/redoubt/redoubt/storage/PageCache$Frame"), accessFlags := 0, slot := 5, constantValue := 0 }]
  methods := #[k2m0]
  instanceTypes := #[(.array .byte), .int, .boolean, .long, (.object "com/example/redoubt/redoubt/storage/PageCache$Frame"), (.object "com/example/redoubt/redoubt/storage/PageCache$Frame")]
  staticTypes := #[]
  resolved := Array.replicate 33 none
  statics := none }

def pool3 : Array CpInfo := pool [(1, .methodref 2 3), (0, .class_ 4), (0, .nameAndType 5 6), (0, u "java/lang/Object"), (0, u "<init>"), (0, u "()V"), (0, .class_ 8), (0, u "com/example/redoubt/redoubt/storage/FrameTable"), (0, .class_ 10), (0, u "com/example/redoubt/redoubt/storage/PageCache$Frame"), (0, .fieldref 7 12), (0, .nameAndType 13 14), (0, u "slots"), (0, u "[Lcom/example/redoubt/redoubt/storage/PageCache$Frame;"), (2, .fieldref 7 18), (0, .nameAndType 19 20), (0, u "shift"), (0, u "I"), (0, .methodref 7 22), (0, .nameAndType 23 24), (0, u "home"), (0, u "(I)I"), (0, .fieldref 9 26), (0, .nameAndType 27 20), (0, u "page"), (0, .fieldref 7 29), (0, .nameAndType 30 20), (0, u "size"), (3, .methodref 7 35), (0, .nameAndType 36 37), (0, u "place"), (0, u "(Lcom/example/redoubt/redoubt/storage/PageCache$Frame;)V"), (0, .integer 2654435769), (0, u "SPREAD"), (1, u "FIRST_SIZE_BITS"), (3, u "get"), (0, u "(I)Lcom/example/redoubt/redoubt/storage/PageCache$Frame;"), (1, u "add"), (0, u "remove"), (0, u "()I")] 8

def k3c0 : Code := { maxStack := 2, maxLocals := 1, code := prog_47_method_1_code, exceptionTable := #[], attributes := #[] }
def k3m0 : Method := { name := "<init>", desc := "()V", sig := { parameters := [], returnType := none }, accessFlags := 0, code := some k3c0 }
def k3c1 : Code := { maxStack := 2, maxLocals := 5, code := prog_47_method_2_code, exceptionTable := #[], attributes := #[] }
def k3m1 : Method := { name := "get", desc := "(I)Lcom/example/redoubt/redoubt/storage/PageCache$Frame;", sig := { parameters := [.int], returnType := some (.object "com/example/redoubt/redoubt/storage/PageCache$Frame") }, accessFlags := 0, code := some k3c1 }
def k3c2 : Code := { maxStack := 3, maxLocals := 2, code := prog_47_method_3_code, exceptionTable := #[], attributes := #[] }
def k3m2 : Method := { name := "add", desc := "(Lcom/example/redoubt/redoubt/storage/PageCache$Frame;)V", sig := { parameters := [(.object "com/example/redoubt/redoubt/storage/PageCache$Frame")], returnType := none }, accessFlags := 0, code := some k3c2 }
def k3c3 : Code := { maxStack := 4, maxLocals := 6, code := prog_47_method_4_code, exceptionTable := #[], attributes := #[] }
def k3m3 : Method := { name := "remove", desc := "(Lcom/example/redoubt/redoubt/storage/PageCache$Frame;)V", sig := { parameters := [(.object "com/example/redoubt/redoubt/storage/PageCache$Frame")], returnType := none }, accessFlags := 0, code := some k3c3 }
def k3c4 : Code := { maxStack := 1, maxLocals := 1, code := prog_47_method_5_code, exceptionTable := #[], attributes := #[] }
def k3m4 : Method := { name := "size", desc := "()I", sig := { parameters := [], returnType := some .int }, accessFlags := 0, code := some k3c4 }
def k3c5 : Code := { maxStack := 2, maxLocals := 2, code := prog_47_method_7_code, exceptionTable := #[], attributes := #[] }
def k3m5 : Method := { name := "home", desc := "(I)I", sig := { parameters := [.int], returnType := some .int }, accessFlags := 2, code := some k3c5 }
def k3c6 : Code := { maxStack := 3, maxLocals := 4, code := prog_47_method_8_code, exceptionTable := #[], attributes := #[] }
def k3m6 : Method := { name := "place", desc := "(Lcom/example/redoubt/redoubt/storage/PageCache$Frame;)V", sig := { parameters := [(.object "com/example/redoubt/redoubt/storage/PageCache$Frame")], returnType := none }, accessFlags := 2, code := some k3c6 }
/-- com/example/redoubt/redoubt/storage/FrameTable -/
def k3 : Class := { plain "com/example/redoubt/redoubt/storage/FrameTable" (some 0) with
  accessFlags := 48
  interfaces := #[]
  cf := some (fileOf pool3 7 #[] #[{ accessFlags := 0, nameIndex := 5, descriptorIndex := 6, attributes := #[] }, { accessFlags := 0, nameIndex := 45, descriptorIndex := 46, attributes := #[] }, { accessFlags := 0, nameIndex := 48, descriptorIndex := 37, attributes := #[] }, { accessFlags := 0, nameIndex := 49, descriptorIndex := 37, attributes := #[] }, { accessFlags := 0, nameIndex := 30, descriptorIndex := 50, attributes := #[] }, { accessFlags := 2, nameIndex := 23, descriptorIndex := 24, attributes := #[] }, { accessFlags := 2, nameIndex := 36, descriptorIndex := 37, attributes := #[] }] 48 2 #[] #[{ accessFlags := 26, nameIndex := 39, descriptorIndex := 20, attributes := #[] }, { accessFlags := 26, nameIndex := 41, descriptorIndex := 20, attributes := #[] }, { accessFlags := 2, nameIndex := 13, descriptorIndex := 14, attributes := #[] }, { accessFlags := 2, nameIndex := 19, descriptorIndex := 20, attributes := #[] }, { accessFlags := 2, nameIndex := 30, descriptorIndex := 20, attributes := #[] }])
  fields := #[{ name := "SPREAD", type := .int, accessFlags := 26, slot := 0, constantValue := 0 }, { name := "FIRST_SIZE_BITS", type := .int, accessFlags := 26, slot := 1, constantValue := 0 }, { name := "slots", type := (.array (.object "com/example/redoubt/redoubt/storage/PageCache$Frame")), accessFlags := 2, slot := 0, constantValue := 0 }, { name := "shift", type := .int, accessFlags := 2, slot := 1, constantValue := 0 }, { name := "size", type := .int, accessFlags := 2, slot := 2, constantValue := 0 }]
  methods := #[k3m0, k3m1, k3m2, k3m3, k3m4, k3m5, k3m6]
  instanceTypes := #[(.array (.object "com/example/redoubt/redoubt/storage/PageCache$Frame")), .int, .int]
  staticTypes := #[.int, .int]
  resolved := Array.replicate 59 none
  statics := none }

def pool4 : Array CpInfo := pool [(1, u "java/lang/Cloneable"), (0, .class_ 1), (0, u "java/lang/Object"), (0, .class_ 3)] 3

/-- java/lang/Cloneable -/
def k4 : Class := { plain "java/lang/Cloneable" (some 0) with
  accessFlags := 1537
  interfaces := #[]
  cf := some (fileOf pool4 2 #[] #[] 1537 4 #[] #[])
  fields := #[]
  methods := #[]
  instanceTypes := #[]
  staticTypes := #[]
  resolved := Array.replicate 8 none
  statics := none }

def pool5 : Array CpInfo := pool [(1, u "java/io/Serializable"), (0, .class_ 1), (0, u "java/lang/Object"), (0, .class_ 3)] 3

/-- java/io/Serializable -/
def k5 : Class := { plain "java/io/Serializable" (some 0) with
  accessFlags := 1537
  interfaces := #[]
  cf := some (fileOf pool5 2 #[] #[] 1537 4 #[] #[])
  fields := #[]
  methods := #[]
  instanceTypes := #[]
  staticTypes := #[]
  resolved := Array.replicate 8 none
  statics := none }

/-- the primitive byte -/
def k6 : Class := { plain "byte" none with kind := .primitive 'B', accessFlags := 0x411 }
/-- [B -/
def k7 : Class := { plain "[B" (some 0) with kind := .array 6 .byte, interfaces := #[4, 5], accessFlags := 1041 }

/-- the primitive int -/
def k8 : Class := { plain "int" none with kind := .primitive 'I', accessFlags := 0x411 }
/-- [I -/
def k9 : Class := { plain "[I" (some 0) with kind := .array 8 .int, interfaces := #[4, 5], accessFlags := 1041 }

/-- [Lcom/example/redoubt/redoubt/storage/PageCache$Frame; -/
def k10 : Class := { plain "[Lcom/example/redoubt/redoubt/storage/PageCache$Frame;" (some 0) with kind := .array 2 (.object "com/example/redoubt/redoubt/storage/PageCache$Frame"), interfaces := #[4, 5], accessFlags := 1041 }

def heap : Heap := #[]
def classes : Array Class := #[k0, k1, k2, k3, k4, k5, k6, k7, k8, k9, k10]
def interned : List (Array UInt16 × Addr) := []
def slotsUsed : Nat := 0
def theMethod : MethodId := ⟨1, 1⟩
def args0 : Array Value := #[.long 5, .long 7, .int 9, .int 3]
def aboutOver (below : List Frame) : State where
  vm := { classes := classes, interned := interned.toArray }
  heap := heap
  slotsUsed := slotsUsed
  threads := #[{ frames := .invoking theMethod args0 :: below }]
def below0 : List Frame := [.native { method := ⟨0, 0⟩, args := #[] }]
def about1 : State := aboutOver below0
def p0 : Program := .bare "" "" ""
def e0 : Env := launch0.env 0 0 0
theorem w_frames : about1.frames = Frame.invoking theMethod args0 :: below0 := rfl
set_option maxRecDepth 65536 in
theorem w_args : argsFit about1.vm theMethod args0 = true := by decide +kernel
set_option maxRecDepth 65536 in
theorem w_heap : heapFits about1 = true := by decide +kernel
set_option maxRecDepth 65536 in
theorem w_runnable : about1.curStatus? = some .runnable := by decide +kernel
set_option maxRecDepth 65536 in
theorem w_alone : about1.alone = true := by decide +kernel
set_option maxRecDepth 65536 in
theorem w_named : about1.methodNamed? x = some theMethod := by decide +kernel
set_option maxRecDepth 65536 in
theorem w_hears : about1.hears theMethod below0 = true := by decide +kernel
set_option maxRecDepth 65536 in
theorem w_ripe : about1.ripe theMethod args0 below0 = true := by decide +kernel
theorem w_running : about1.status = .running := rfl
set_option maxRecDepth 65536 in
theorem w_room : about1.hasRoom e0.platform room_1 = true :=
  launch0.hasRoom_least _ room_1 (by decide +kernel) (by decide +kernel) (by decide +kernel) (by decide +kernel) (by decide +kernel) (by decide +kernel)
theorem allAtoms_all (ts : List Jvm.Cond) (a : Array Jvm.Value) (st : Jvm.State) : (allAtoms ts).before a st = ts.all (fun c => c.before a st) := by
  induction ts with
  | nil => rfl
  | cons c t ih =>
    show (Jvm.Cond.and c (allAtoms t)).before a st = _
    rw [Jvm.Cond.before_and, ih, List.all_cons]
def words1 : List Jvm.Cond := Jvm.Cond.code x code maxLocals ret :: tables_1
/-- a 'code' word, met by the world's own term for the bytes: nothing is compared byte by byte -/
theorem code_word {y : MethodName} {bytes : ByteArray} {mx : Nat} {rt : Option FieldType} {a : Array Value} {s : State} {m : MethodId} {meth : Method} {c : Code} (h1 : s.methodNamed? y = some m) (h2 : s.vm.method? m = some meth) (h3 : meth.code = some c) (h4 : c.code = bytes)
    (h5 : (c.maxLocals == mx && c.exceptionTable.isEmpty && decide (c.maxStack ≤ mostOperands) && decide (meth.sig.returnType = rt) && !meth.locks && decide (parseMethodDescriptor y.desc = some meth.sig)) = true) : (Jvm.Cond.code y bytes mx rt).before a s = true := by
  simp only [Bool.and_eq_true, beq_iff_eq, Bool.not_eq_true', decide_eq_true_eq] at h5
  obtain ⟨⟨⟨⟨⟨g1, g2⟩, g3⟩, g4⟩, g5⟩, g6⟩ := h5
  simp [Cond.before, Cond.holds, Cond.value, h1, h2, h3, h4, g1, g2, g3, g4, g5, g6]
def isCode : Jvm.Cond → Bool
  | .code _ _ _ _ => true
  | _ => false
theorem all_split {L : List Jvm.Cond} {P : Jvm.Cond → Bool} (h1 : L.all (fun c => isCode c || P c) = true) (h2 : ∀ c ∈ L.filter isCode, P c = true) : L.all P = true := by
  refine List.all_eq_true.mpr fun c hc => ?_
  have h := List.all_eq_true.mp h1 c hc
  rcases Bool.eq_false_or_eq_true (isCode c) with hi | hi
  · exact h2 c (List.mem_filter.mpr ⟨hc, hi⟩)
  · simpa [hi] using h
set_option maxRecDepth 65536 in
theorem w_c0 : (Jvm.Cond.code x code maxLocals ret).before args0 about1 = true := code_word (m := ⟨1, 1⟩) (meth := k1m1) (c := k1c1) (by decide +kernel) rfl rfl rfl (by decide +kernel)
set_option maxRecDepth 65536 in
theorem w_c1 : (Jvm.Cond.code ({ cls := "com/example/redoubt/redoubt/storage/PageCache$Frame", name := "<init>", desc := "()V" } : Jvm.MethodName) prog_57_method_1_code (1 : Nat) (Option.none : Option Jvm.ClassFile.FieldType)).before args0 about1 = true := code_word (m := ⟨2, 0⟩) (meth := k2m0) (c := k2c0) (by decide +kernel) rfl rfl rfl (by decide +kernel)
set_option maxRecDepth 65536 in
theorem w_c2 : (Jvm.Cond.code ({ cls := "java/lang/Object", name := "<init>", desc := "()V" } : Jvm.MethodName) object_method_1_code (1 : Nat) (Option.none : Option Jvm.ClassFile.FieldType)).before args0 about1 = true := code_word (m := ⟨0, 0⟩) (meth := k0m0) (c := k0c0) (by decide +kernel) rfl rfl rfl (by decide +kernel)
set_option maxRecDepth 65536 in
theorem w_c3 : (Jvm.Cond.code ({ cls := "com/example/redoubt/redoubt/storage/FrameTable", name := "<init>", desc := "()V" } : Jvm.MethodName) prog_47_method_1_code (1 : Nat) (Option.none : Option Jvm.ClassFile.FieldType)).before args0 about1 = true := code_word (m := ⟨3, 0⟩) (meth := k3m0) (c := k3c0) (by decide +kernel) rfl rfl rfl (by decide +kernel)
set_option maxRecDepth 65536 in
theorem w_c4 : (Jvm.Cond.code ({ cls := "com/example/redoubt/redoubt/storage/FrameTable", name := "add", desc := "(Lcom/example/redoubt/redoubt/storage/PageCache$Frame;)V" } : Jvm.MethodName) prog_47_method_3_code (2 : Nat) (Option.none : Option Jvm.ClassFile.FieldType)).before args0 about1 = true := code_word (m := ⟨3, 2⟩) (meth := k3m2) (c := k3c2) (by decide +kernel) rfl rfl rfl (by decide +kernel)
set_option maxRecDepth 65536 in
theorem w_c5 : (Jvm.Cond.code ({ cls := "com/example/redoubt/redoubt/storage/FrameTable", name := "place", desc := "(Lcom/example/redoubt/redoubt/storage/PageCache$Frame;)V" } : Jvm.MethodName) prog_47_method_8_code (4 : Nat) (Option.none : Option Jvm.ClassFile.FieldType)).before args0 about1 = true := code_word (m := ⟨3, 6⟩) (meth := k3m6) (c := k3c6) (by decide +kernel) rfl rfl rfl (by decide +kernel)
set_option maxRecDepth 65536 in
theorem w_c6 : (Jvm.Cond.code ({ cls := "com/example/redoubt/redoubt/storage/FrameTable", name := "home", desc := "(I)I" } : Jvm.MethodName) prog_47_method_7_code (2 : Nat) (Option.some Jvm.ClassFile.FieldType.int)).before args0 about1 = true := code_word (m := ⟨3, 5⟩) (meth := k3m5) (c := k3c5) (by decide +kernel) rfl rfl rfl (by decide +kernel)
set_option maxRecDepth 65536 in
theorem w_c7 : (Jvm.Cond.code ({ cls := "com/example/redoubt/redoubt/storage/FrameTable", name := "remove", desc := "(Lcom/example/redoubt/redoubt/storage/PageCache$Frame;)V" } : Jvm.MethodName) prog_47_method_4_code (6 : Nat) (Option.none : Option Jvm.ClassFile.FieldType)).before args0 about1 = true := code_word (m := ⟨3, 3⟩) (meth := k3m3) (c := k3c3) (by decide +kernel) rfl rfl rfl (by decide +kernel)
set_option maxRecDepth 65536 in
theorem w_c8 : (Jvm.Cond.code ({ cls := "com/example/redoubt/redoubt/storage/FrameTable", name := "size", desc := "()I" } : Jvm.MethodName) prog_47_method_5_code (1 : Nat) (Option.some Jvm.ClassFile.FieldType.int)).before args0 about1 = true := code_word (m := ⟨3, 4⟩) (meth := k3m4) (c := k3c4) (by decide +kernel) rfl rfl rfl (by decide +kernel)
set_option maxRecDepth 65536 in
theorem w_c9 : (Jvm.Cond.code ({ cls := "com/example/redoubt/redoubt/storage/FrameTableRemovePinLaw", name := "check", desc := "(Lcom/example/redoubt/redoubt/storage/FrameTable;Lcom/example/redoubt/redoubt/storage/PageCache$Frame;IZ)Z" } : Jvm.MethodName) method_3_code (5 : Nat) (Option.some Jvm.ClassFile.FieldType.boolean)).before args0 about1 = true := code_word (m := ⟨1, 2⟩) (meth := k1m2) (c := k1c2) (by decide +kernel) rfl rfl rfl (by decide +kernel)
set_option maxRecDepth 65536 in
theorem w_c10 : (Jvm.Cond.code ({ cls := "com/example/redoubt/redoubt/storage/FrameTable", name := "get", desc := "(I)Lcom/example/redoubt/redoubt/storage/PageCache$Frame;" } : Jvm.MethodName) prog_47_method_2_code (5 : Nat) (Option.some (Jvm.ClassFile.FieldType.object "com/example/redoubt/redoubt/storage/PageCache$Frame"))).before args0 about1 = true := code_word (m := ⟨3, 1⟩) (meth := k3m1) (c := k3c1) (by decide +kernel) rfl rfl rfl (by decide +kernel)
def codes1 : List Jvm.Cond := [Jvm.Cond.code x code maxLocals ret, Jvm.Cond.code ({ cls := "com/example/redoubt/redoubt/storage/PageCache$Frame", name := "<init>", desc := "()V" } : Jvm.MethodName) prog_57_method_1_code (1 : Nat) (Option.none : Option Jvm.ClassFile.FieldType), Jvm.Cond.code ({ cls := "java/lang/Object", name := "<init>", desc := "()V" } : Jvm.MethodName) object_method_1_code (1 : Nat) (Option.none : Option Jvm.ClassFile.FieldType), Jvm.Cond.code ({ cls := "com/example/redoubt/redoubt/storage/FrameTable", name := "<init>", desc := "()V" } : Jvm.MethodName) prog_47_method_1_code (1 : Nat) (Option.none : Option Jvm.ClassFile.FieldType), Jvm.Cond.code ({ cls := "com/example/redoubt/redoubt/storage/FrameTable", name := "add", desc := "(Lcom/example/redoubt/redoubt/storage/PageCache$Frame;)V" } : Jvm.MethodName) prog_47_method_3_code (2 : Nat) (Option.none : Option Jvm.ClassFile.FieldType), Jvm.Cond.code ({ cls := "com/example/redoubt/redoubt/storage/FrameTable", name := "place", desc := "(Lcom/example/redoubt/redoubt/storage/PageCache$Frame;)V" } : Jvm.MethodName) prog_47_method_8_code (4 : Nat) (Option.none : Option Jvm.ClassFile.FieldType), Jvm.Cond.code ({ cls := "com/example/redoubt/redoubt/storage/FrameTable", name := "home", desc := "(I)I" } : Jvm.MethodName) prog_47_method_7_code (2 : Nat) (Option.some Jvm.ClassFile.FieldType.int), Jvm.Cond.code ({ cls := "com/example/redoubt/redoubt/storage/FrameTable", name := "remove", desc := "(Lcom/example/redoubt/redoubt/storage/PageCache$Frame;)V" } : Jvm.MethodName) prog_47_method_4_code (6 : Nat) (Option.none : Option Jvm.ClassFile.FieldType), Jvm.Cond.code ({ cls := "com/example/redoubt/redoubt/storage/FrameTable", name := "size", desc := "()I" } : Jvm.MethodName) prog_47_method_5_code (1 : Nat) (Option.some Jvm.ClassFile.FieldType.int), Jvm.Cond.code ({ cls := "com/example/redoubt/redoubt/storage/FrameTableRemovePinLaw", name := "check", desc := "(Lcom/example/redoubt/redoubt/storage/FrameTable;Lcom/example/redoubt/redoubt/storage/PageCache$Frame;IZ)Z" } : Jvm.MethodName) method_3_code (5 : Nat) (Option.some Jvm.ClassFile.FieldType.boolean), Jvm.Cond.code ({ cls := "com/example/redoubt/redoubt/storage/FrameTable", name := "get", desc := "(I)Lcom/example/redoubt/redoubt/storage/PageCache$Frame;" } : Jvm.MethodName) prog_47_method_2_code (5 : Nat) (Option.some (Jvm.ClassFile.FieldType.object "com/example/redoubt/redoubt/storage/PageCache$Frame"))]
set_option maxRecDepth 65536 in
theorem codes_eq : words1.filter isCode = codes1 := rfl
theorem w_codes : ∀ c ∈ words1.filter isCode, c.before args0 about1 = true := by
  rw [codes_eq]
  intro c hc
  simp only [codes1, List.mem_cons, List.not_mem_nil, or_false] at hc
  rcases hc with rfl | rfl | rfl | rfl | rfl | rfl | rfl | rfl | rfl | rfl | rfl
  · exact w_c0
  · exact w_c1
  · exact w_c2
  · exact w_c3
  · exact w_c4
  · exact w_c5
  · exact w_c6
  · exact w_c7
  · exact w_c8
  · exact w_c9
  · exact w_c10
set_option maxRecDepth 65536 in
theorem w_t1 : (words1.take 24).all (fun c => isCode c || c.before args0 about1) = true := by decide +kernel
set_option maxRecDepth 65536 in
theorem w_t2 : ((words1.drop 24).take 24).all (fun c => isCode c || c.before args0 about1) = true := by decide +kernel
set_option maxRecDepth 65536 in
theorem w_t3 : ((words1.drop 24).drop 24).all (fun c => isCode c || c.before args0 about1) = true := by decide +kernel
theorem w_tables : (allAtoms (Jvm.Cond.code x code maxLocals ret :: tables_1)).before args0 about1 = true := by
  rw [allAtoms_all]
  show words1.all (fun c => c.before args0 about1) = true
  refine all_split ?_ w_codes
  rw [← List.take_append_drop 24 words1, List.all_append, w_t1, ← List.take_append_drop 24 (words1.drop 24), List.all_append, w_t2, w_t3]
  rfl
set_option maxRecDepth 65536 in
theorem w_case : (Jvm.Cond.and given_1 narrow_1).before args0 about1 = true := by decide +kernel
theorem w_applies : (headSpec (Jvm.Cond.code x code maxLocals ret :: tables_1) room_1).applies x e0.platform about1 = true :=
  (Spec.applies_iff w_frames).mpr ⟨w_running, w_runnable, w_alone, w_named, w_hears, w_ripe, w_room, w_tables⟩
theorem atStart : AtStart classFile x code maxLocals ret World_1 tables_1 room_1 Calls_1 rest_1 Pre_1 launch0 p0 e0 about1 theMethod args0 below0 :=
  ⟨lists_1, trivial, launch0.admits_env _ _ _, launch0.least_env, fairChoices_fair.cas, fairChoices_fair.clock, w_frames, w_args, w_heap, w_applies, trivial, trivial, w_case⟩
end start1
theorem witness_1 : WitnessClaimed_1 := ⟨start1.p0, start1.e0, start1.about1, start1.theMethod, start1.args0, start1.below0, start1.atStart⟩
end Jvm.Pilot.@@N@@
