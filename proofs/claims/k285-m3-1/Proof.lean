import JvmDerived
import JvmDerived.Pilot.@@N@@Statement
import JvmDerived.Pilot.@@N@@Code
set_option linter.unusedVariables false
set_option linter.unusedSimpArgs false
namespace Jvm.Pilot.@@N@@
open Jvm Jvm.ClassFile Sem Op Lib Jvm.Free Jvm.Stand Jvm.LawKit Jvm.RoadKit Bundle Jvm.Pilot.@@N@@.Jvm.D
theorem own_ne_arr {Z : State} {h : Heap} {a b : Addr} {C : String} {a0 : Array Value} {kk : Nat} {k : ClassId} {ty : FieldType} {n : Int32} {vs : List Value} {d : Value} (F : Exa Z h a C) (wi : (Cond.instantiable C kk).before a0 Z = true) (V : Arv Z h b k ty n vs d) : a ≠ b := by
  obtain ⟨c, A, -⟩ := V
  exact ne_arr F wi A
theorem own_cast {tb : Tables} {e : Env} {below : List Frame} {t : State} {A : Type} (f : A → State) {a b : A} (h : a = b) (k : Steps tb e below (f b) t) : Steps tb e below (f a) t := h ▸ k
theorem d2_0 : decode prog_6_method_1_code 0 = .ok (.aload_n 0, 1) := by decide +kernel
theorem d2_1 : decode prog_6_method_1_code 1 = .ok (.invokespecial 1, 3) := by decide +kernel
theorem d2_4 : decode prog_6_method_1_code 4 = .ok (.aload_n 0, 1) := by decide +kernel
theorem d2_5 : decode prog_6_method_1_code 5 = .ok (.ldc2_w 9, 3) := by decide +kernel
theorem d2_8 : decode prog_6_method_1_code 8 = .ok (.putfield 11, 3) := by decide +kernel
theorem d2_11 : decode prog_6_method_1_code 11 = .ok (.aload_n 0, 1) := by decide +kernel
theorem d2_12 : decode prog_6_method_1_code 12 = .ok (.lload_n 1, 1) := by decide +kernel
theorem d2_13 : decode prog_6_method_1_code 13 = .ok (.putfield 15, 3) := by decide +kernel
theorem d2_16 : decode prog_6_method_1_code 16 = .ok (.return_, 1) := by decide +kernel
theorem ef_rmInit (m : MethodId) (x0 : Addr) (x1 : Int64) : entryFrame m #[(.ref x0), (.long x1)] 3 = mkF m 0 #[.val (.ref x0), .val (.long x1), .second] [] := by first | (simp [entryFrame, mkF, argsToLocals, Value.category]; done) | rfl
def QInit (Z : State) (b : Addr) (q : Int64) (h0 : Heap) (n0 : Nat) (v : Option Value) (h : Heap) (L : List Loc) : Prop := v = none ∧ Fr n0 L ∧ Keep h0 h [b] ∧ Exa Z h b "com/example/samewire/samewire/CoarseClock$Tick" ∧ Fld Z h b "com/example/samewire/samewire/CoarseClock$Tick" "lasted" "J" (.long (-1 : Int64)) ∧ Fld Z h b "com/example/samewire/samewire/CoarseClock$Tick" "at" "J" (.long q)
theorem pn_0 : plainName "com/example/samewire/samewire/CoarseClock$Tick" = true := by first | (simp [plainName, overriddenIn]; done) | decide +kernel
set_option maxRecDepth 65536 in
set_option maxHeartbeats 40000000 in
theorem rmInit (l : Launch) (Z : State) (a0 : Array Value) (hw : ∀ d ∈ tables_1, d.before a0 Z = true) (ws : List Jvm.Cond) (b : Addr) (q : Int64) (h0 : Heap) (n0 : Nat) (Z0 : n0 ≤ h0.size) (E_b : Exa Z h0 b "com/example/samewire/samewire/CoarseClock$Tick") (F_lasted_b : Fld Z h0 b "com/example/samewire/samewire/CoarseClock$Tick" "lasted" "J" (.long (0 : Int64))) (F_at_b : Fld Z h0 b "com/example/samewire/samewire/CoarseClock$Tick" "at" "J" (.long (0 : Int64))) (g_b : n0 ≤ b) :
    MetFree l (⟨"com/example/samewire/samewire/CoarseClock$Tick", "<init>", "(J)V"⟩ : MethodName) (head1 (Jvm.Cond.code (⟨"com/example/samewire/samewire/CoarseClock$Tick", "<init>", "(J)V"⟩ : MethodName) prog_6_method_1_code 3 none :: ws) ({ frames := 1, cells := 0, slots := 0, locals := 12 } : Room)) (fun a U => a = #[(.ref b), (.long q)] ∧ Z.Warmed39 U.vm ∧ U.heap = h0) (fun _ _ _ _ _ => True) (fun _ U o U' => ∃ v L, o = .returned v ∧ QInit Z b q h0 n0 v U'.heap L ∧ FrameEnd U o U' L ({ frames := 1, cells := 0, slots := 0, locals := 12 } : Room).cells ({ frames := 1, cells := 0, slots := 0, locals := 12 } : Room).slots) := by
  refine MetFree.of_bodySF (plainFor_of_name pn_0) hisR ?_
  intro p e s m args below meth c s₁ Bd hml0 hP hK
  obtain ⟨rfl, hZ, hh⟩ := hP
  have hx := Bd.exec
  have hby := Bd.bytes
  have hml : c.maxLocals = 3 := hml0
  have hown : s.vm.findClass "com/example/samewire/samewire/CoarseClock$Tick" = some m.cls := findClass_of_methodNamed Bd.named
  have hnm := (name_of_methodNamed Bd.named Bd.method).1
  have X0 : Stand p l e ({ frames := 1, cells := 0, slots := 0, locals := 12 } : Room) s m #[(.ref b), (.long q)] below meth c s₁ [] 0 0 := Stand.of_body Bd
  have e0 : s₁.heap = h0 := by rw [← hh, Bd.state]; rfl
  have N0 := Fr.nil n0
  have pre0 : ∀ t, Steps p.tables e below (s₁.setTop (mkF m 0 #[.val (.ref b), .val (.long q), .second] [])) t → Steps p.tables e below (s₁.setTop (entryFrame m #[(.ref b), (.long q)] 3)) t := fun t kk => castTop (ef_rmInit m b q) kk
  obtain ⟨T1, X1, e1, st1⟩ := initO X0 hx hZ hown (hw _ (List.mem_of_getElem? (i := 9) rfl)) (hw _ (List.mem_of_getElem? (i := 10) rfl)) (hw _ (List.mem_of_getElem? (i := 11) rfl)) e0 (g := (mkF m 1 #[.val (.ref b), .val (.long q), .second] [(.ref b)])) rfl (by rw [hml]; rfl) rfl (hb hby d2_1) (by decide) (W := 0) (by show 2 * 0 + _ ≤ _; exact Nat.le_of_eq rfl) (by decide)
  obtain ⟨T2, h2, X2, e2, W2, st2⟩ := putF X1 hx hZ hown (host := "") (Or.inl (hw _ (List.mem_of_getElem? (i := 13) rfl))) Via.refl e1 F_lasted_b E_b (Or.inl (hw _ (List.mem_of_getElem? (i := 14) rfl))) (hw _ (List.mem_of_getElem? (i := 5) rfl)) (ty := .long) (by decide) rfl rfl (g := (mkF m 8 #[.val (.ref b), .val (.long q), .second] [(.long (-1 : Int64)), (.ref b)])) rfl rfl (hb hby d2_8)
  have Ex3 : Exa Z h2 b "com/example/samewire/samewire/CoarseClock$Tick" := (E_b.wr W2)
  have F4 : Fld Z h2 b "com/example/samewire/samewire/CoarseClock$Tick" "at" "J" (.long (0 : Int64)) := (F_at_b.other W2 (Or.inr (slot_ne (Or.inr (hw _ (List.mem_of_getElem? (i := 16) rfl))) (Or.inl (hw _ (List.mem_of_getElem? (i := 14) rfl))) (by decide) (t := .long) (t' := .long) (by decide) (by decide))))
  have K5 : Keep h0 h2 [b] := (Keep.refl h0 _).wr W2 (Or.inl (List.mem_of_getElem? (i := 0) rfl))
  have N6 := Fr.snoc X2 N0 g_b
  have F7 : Fld Z h2 b "com/example/samewire/samewire/CoarseClock$Tick" "lasted" "J" (.long (-1 : Int64)) := F_lasted_b.same W2
  obtain ⟨T8, h8, X8, e8, W8, st8⟩ := putF X2 hx hZ hown (host := "") (Or.inl (hw _ (List.mem_of_getElem? (i := 15) rfl))) Via.refl e2 F4 Ex3 (Or.inr ⟨(hw _ (List.mem_of_getElem? (i := 16) rfl)), rfl, hnm⟩) (hw _ (List.mem_of_getElem? (i := 5) rfl)) (ty := .long) (by decide) rfl rfl (g := (mkF m 13 #[.val (.ref b), .val (.long q), .second] [(.long q), (.ref b)])) rfl rfl (hb hby d2_13)
  have Ex9 : Exa Z h8 b "com/example/samewire/samewire/CoarseClock$Tick" := (Ex3.wr W8)
  have F10 : Fld Z h8 b "com/example/samewire/samewire/CoarseClock$Tick" "lasted" "J" (.long (-1 : Int64)) := (F7.other W8 (Or.inr (slot_ne (Or.inl (hw _ (List.mem_of_getElem? (i := 14) rfl))) (Or.inr (hw _ (List.mem_of_getElem? (i := 16) rfl))) (by decide) (t := .long) (t' := .long) (by decide) (by decide))))
  have K11 : Keep h0 h8 [b] := K5.wr W8 (Or.inl (List.mem_of_getElem? (i := 0) rfl))
  have N12 := Fr.snoc X8 N6 g_b
  have F13 : Fld Z h8 b "com/example/samewire/samewire/CoarseClock$Tick" "at" "J" (.long q) := F4.same W8
  have pre14 : ∀ t, Steps p.tables e below (T8.setTop (mkF m 16 #[.val (.ref b), .val (.long q), .second] [])) t → Steps p.tables e below (s₁.setTop (entryFrame m #[(.ref b), (.long q)] 3)) t := fun t kk => pre0 t (by
      show Steps p.tables e below (s₁.setTop (mkF m 0 #[.val (.ref b), .val (.long q), .second] [])) _
      refine XS.aloadN X0.here hx rfl (hb hby d2_0) rfl rfl ?_
      show Steps p.tables e below (s₁.setTop (mkF m 1 #[.val (.ref b), .val (.long q), .second] [(.ref b)])) _
      refine st1 _ ?_
      show Steps p.tables e below (T1.setTop (mkF m 4 #[.val (.ref b), .val (.long q), .second] [])) _
      refine XS.aloadN X1.here hx rfl (hb hby d2_4) rfl rfl ?_
      show Steps p.tables e below (T1.setTop (mkF m 5 #[.val (.ref b), .val (.long q), .second] [(.ref b)])) _
      refine X1.ldc2Long hx hown (mvT hZ (hw _ (List.mem_of_getElem? (i := 12) rfl))) (g := (mkF m 5 #[.val (.ref b), .val (.long q), .second] [(.ref b)])) rfl (hb hby d2_5) _ ?_
      show Steps p.tables e below (T1.setTop (mkF m 8 #[.val (.ref b), .val (.long q), .second] [(.long (-1 : Int64)), (.ref b)])) _
      refine st2 _ ?_
      show Steps p.tables e below (T2.setTop (mkF m 11 #[.val (.ref b), .val (.long q), .second] [])) _
      refine XS.aloadN X2.here hx rfl (hb hby d2_11) rfl rfl ?_
      show Steps p.tables e below (T2.setTop (mkF m 12 #[.val (.ref b), .val (.long q), .second] [(.ref b)])) _
      refine XS.lloadN X2.here hx rfl (hb hby d2_12) rfl ?_
      show Steps p.tables e below (T2.setTop (mkF m 13 #[.val (.ref b), .val (.long q), .second] [(.long q), (.ref b)])) _
      refine st8 _ ?_
      exact kk)
  obtain ⟨fs, hr, hrun, hended, hW, hsame⟩ := X8.leave (v := none) (fun _ => rfl)
  refine ⟨_, _, pre14 _ ?_, hrun, hended, _, _, rfl, ?_, ⟨_, rfl⟩, hW, hsame.mono (by decide) (by decide)⟩
  · show Steps p.tables e below (T8.setTop (mkF m 16 #[.val (.ref b), .val (.long q), .second] [])) _
    exact X8.returnOut hx Bd.returns (hb hby d2_16) hr
  · show QInit Z b q h0 n0 _ T8.heap _
    rw [e8]
    exact ⟨rfl, N12, K11, Ex9, F10, F13⟩
theorem d1_0 : decode prog_6_method_2_code 0 = .ok (.new 7, 3) := by decide +kernel
theorem d1_3 : decode prog_6_method_2_code 3 = .ok (.dup, 1) := by decide +kernel
theorem d1_4 : decode prog_6_method_2_code 4 = .ok (.lload_n 0, 1) := by decide +kernel
theorem d1_5 : decode prog_6_method_2_code 5 = .ok (.invokespecial 18, 3) := by decide +kernel
theorem pd_0 : parseMethodDescriptor "(J)V" = some ⟨[.long], none⟩ := by decide +kernel
theorem d1_8 : decode prog_6_method_2_code 8 = .ok (.astore_n 2, 1) := by decide +kernel
theorem d1_9 : decode prog_6_method_2_code 9 = .ok (.aload_n 2, 1) := by decide +kernel
theorem d1_10 : decode prog_6_method_2_code 10 = .ok (.lconst 0, 1) := by decide +kernel
theorem d1_11 : decode prog_6_method_2_code 11 = .ok (.putfield 11, 3) := by decide +kernel
theorem d1_14 : decode prog_6_method_2_code 14 = .ok (.aload_n 2, 1) := by decide +kernel
theorem d1_15 : decode prog_6_method_2_code 15 = .ok (.areturn, 1) := by decide +kernel
theorem ef_rmExact (m : MethodId) (x0 : Int64) : entryFrame m #[(.long x0)] 3 = mkF m 0 #[.val (.long x0), .second, .unset] [] := by first | (simp [entryFrame, mkF, argsToLocals, Value.category]; done) | rfl
def QExact (Z : State) (q : Int64) (h0 : Heap) (n0 : Nat) (v : Option Value) (h : Heap) (L : List Loc) : Prop := ∃ (nb : Addr), v = some (.ref nb) ∧ Fr n0 L ∧ Keep h0 h [] ∧ h0.size ≤ nb ∧ Exa Z h nb "com/example/samewire/samewire/CoarseClock$Tick" ∧ Fld Z h nb "com/example/samewire/samewire/CoarseClock$Tick" "lasted" "J" (.long (0 : Int64)) ∧ Fld Z h nb "com/example/samewire/samewire/CoarseClock$Tick" "at" "J" (.long q)
set_option maxRecDepth 65536 in
set_option maxHeartbeats 40000000 in
theorem rmExact (l : Launch) (Z : State) (a0 : Array Value) (hw : ∀ d ∈ tables_1, d.before a0 Z = true) (ws : List Jvm.Cond) (q : Int64) (h0 : Heap) (n0 : Nat) (Z0 : n0 ≤ h0.size)  :
    MetFree l (⟨"com/example/samewire/samewire/CoarseClock$Tick", "exact", "(J)Lcom/example/samewire/samewire/CoarseClock$Tick;"⟩ : MethodName) (head1 (Jvm.Cond.code (⟨"com/example/samewire/samewire/CoarseClock$Tick", "exact", "(J)Lcom/example/samewire/samewire/CoarseClock$Tick;"⟩ : MethodName) prog_6_method_2_code 3 (some (.object "com/example/samewire/samewire/CoarseClock$Tick")) :: ws) ({ frames := 2, cells := 1, slots := 2, locals := 27 } : Room)) (fun a U => a = #[(.long q)] ∧ Z.Warmed39 U.vm ∧ U.heap = h0) (fun _ _ _ _ _ => True) (fun _ U o U' => ∃ v L, o = .returned v ∧ QExact Z q h0 n0 v U'.heap L ∧ FrameEnd U o U' L ({ frames := 2, cells := 1, slots := 2, locals := 27 } : Room).cells ({ frames := 2, cells := 1, slots := 2, locals := 27 } : Room).slots) := by
  refine MetFree.of_bodySF (plainFor_of_name pn_0) hisR ?_
  intro p e s m args below meth c s₁ Bd hml0 hP hK
  obtain ⟨rfl, hZ, hh⟩ := hP
  have hx := Bd.exec
  have hby := Bd.bytes
  have hml : c.maxLocals = 3 := hml0
  have hown : s.vm.findClass "com/example/samewire/samewire/CoarseClock$Tick" = some m.cls := findClass_of_methodNamed Bd.named
  have hnm := (name_of_methodNamed Bd.named Bd.method).1
  have X0 : Stand p l e ({ frames := 2, cells := 1, slots := 2, locals := 27 } : Room) s m #[(.long q)] below meth c s₁ [] 0 0 := Stand.of_body Bd
  have e0 : s₁.heap = h0 := by rw [← hh, Bd.state]; rfl
  have N0 := Fr.nil n0
  have pre0 : ∀ t, Steps p.tables e below (s₁.setTop (mkF m 0 #[.val (.long q), .second, .unset] [])) t → Steps p.tables e below (s₁.setTop (entryFrame m #[(.long q)] 3)) t := fun t kk => castTop (ef_rmExact m q) kk
  obtain ⟨T15, h15, X15, e15, E15, A15, D15, -, st15⟩ := newO X0 hx hZ hown (hw _ (List.mem_of_getElem? (i := 4) rfl)) (hw _ (List.mem_of_getElem? (i := 5) rfl)) (hw _ (List.mem_of_getElem? (i := 2) rfl)) e0 (g := (mkF m 0 #[.val (.long q), .second, .unset] [])) rfl (hb hby d1_0) (by decide) (by decide)
  obtain ⟨b15, gq15⟩ : ∃ z, z = h0.size := ⟨_, rfl⟩
  rw [← gq15] at A15 D15 st15
  have g_b15 : n0 ≤ b15 := Nat.le_trans Z0 (Nat.le_of_eq gq15.symm)
  have sz_b15 : h0.size ≤ b15 := Nat.le_trans (Nat.le_refl _) (Nat.le_of_eq gq15.symm)
  have K16 : Keep h0 h15 [] := (Keep.refl h0 _).ext E15
  have F17 : Fld Z h15 b15 "com/example/samewire/samewire/CoarseClock$Tick" "lasted" "J" (.long (0 : Int64)) := D15 (Or.inl (hw _ (List.mem_of_getElem? (i := 14) rfl))) (ty := .long) (by decide)
  have F18 : Fld Z h15 b15 "com/example/samewire/samewire/CoarseClock$Tick" "at" "J" (.long (0 : Int64)) := D15 (Or.inr (hw _ (List.mem_of_getElem? (i := 16) rfl))) (ty := .long) (by decide)
  obtain ⟨_, _, ⟨T19, L19, k19, n19⟩, -, X19, ⟨Lc19, hQ19, l19, y19, z19⟩, st19⟩ := X15.specialBack hx (y := (⟨"com/example/samewire/samewire/CoarseClock$Tick", "<init>", "(J)V"⟩ : MethodName)) rfl hown (mvT hZ (hw _ (List.mem_of_getElem? (i := 6) rfl))) (mvT hZ (hw _ (List.mem_of_getElem? (i := 7) rfl))) (mvT hZ (hw _ (List.mem_of_getElem? (i := 8) rfl))) (by decide) (backOf (W := 1) (rmInit l Z a0 hw [] b15 q h15 n0 (Nat.le_trans Z0 K16.1) A15 F17 F18 g_b15) hZ (hw _ (List.mem_of_getElem? (i := 8) rfl)) (hw _ (List.mem_of_getElem? (i := 2) rfl)) (by decide) (by decide)) (g := (mkF m 5 #[.val (.long q), .second, .unset] [(.long q), (.ref b15), (.ref b15)])) rfl (by rw [hml]; rfl) (Steps.refl _) (a := b15) (argsL := [(.long q)]) (rest := [(.ref b15)]) (lenOf pd_0 rfl) rfl (by show 2 * 0 + _ ≤ _; exact Nat.le_of_eq rfl) (hb hby d1_5) (fun _ _ => ⟨rfl, e15, (by decide : 1 + 0 ≤ _), (by decide : 2 + 0 ≤ _)⟩)
  dsimp only [Pt.U, Pt.locs, Pt.cells, Pt.slots] at X19 l19 y19 z19 st19 hQ19
  subst l19 y19 z19
  obtain ⟨rfl, N19q, K19q, P19_0, P19_1, P19_2⟩ := hQ19
  have N19 := Fr.app N0 N19q
  have Ex20 : Exa Z T19.heap b15 "com/example/samewire/samewire/CoarseClock$Tick" := (A15.keep K19q)
  have K21 : Keep h0 T19.heap [] := K16.trans K19q (allS (Or.inr sz_b15) all0)
  obtain ⟨T22, h22, X22, e22, W22, st22⟩ := putF X19 hx hZ hown (host := "") (Or.inl (hw _ (List.mem_of_getElem? (i := 13) rfl))) Via.refl rfl P19_1 P19_0 (Or.inl (hw _ (List.mem_of_getElem? (i := 14) rfl))) (hw _ (List.mem_of_getElem? (i := 5) rfl)) (ty := .long) (by decide) rfl rfl (g := (mkF m 11 #[.val (.long q), .second, .val (.ref b15)] [(.long (0 : Int64)), (.ref b15)])) rfl rfl (hb hby d1_11)
  have Ex23 : Exa Z h22 b15 "com/example/samewire/samewire/CoarseClock$Tick" := (P19_0.wr W22)
  have F24 : Fld Z h22 b15 "com/example/samewire/samewire/CoarseClock$Tick" "at" "J" (.long q) := (P19_2.other W22 (Or.inr (slot_ne (Or.inr (hw _ (List.mem_of_getElem? (i := 16) rfl))) (Or.inl (hw _ (List.mem_of_getElem? (i := 14) rfl))) (by decide) (t := .long) (t' := .long) (by decide) (by decide))))
  have K25 : Keep h0 h22 [] := K21.wr W22 (Or.inr sz_b15)
  have N26 := Fr.snoc X22 N19 g_b15
  have F27 : Fld Z h22 b15 "com/example/samewire/samewire/CoarseClock$Tick" "lasted" "J" (.long (0 : Int64)) := P19_1.same W22
  have pre28 : ∀ t, Steps p.tables e below (T22.setTop (mkF m 15 #[.val (.long q), .second, .val (.ref b15)] [(.ref b15)])) t → Steps p.tables e below (s₁.setTop (entryFrame m #[(.long q)] 3)) t := fun t kk => pre0 t (by
      show Steps p.tables e below (s₁.setTop (mkF m 0 #[.val (.long q), .second, .unset] [])) _
      refine st15 _ ?_
      show Steps p.tables e below (T15.setTop (mkF m 3 #[.val (.long q), .second, .unset] [(.ref b15)])) _
      refine XS.dup X15.here hx rfl (hb hby d1_3) rfl rfl ?_
      show Steps p.tables e below (T15.setTop (mkF m 4 #[.val (.long q), .second, .unset] [(.ref b15), (.ref b15)])) _
      refine XS.lloadN X15.here hx rfl (hb hby d1_4) rfl ?_
      show Steps p.tables e below (T15.setTop (mkF m 5 #[.val (.long q), .second, .unset] [(.long q), (.ref b15), (.ref b15)])) _
      refine st19.trans ?_
      show Steps p.tables e below (T19.setTop (mkF m 8 #[.val (.long q), .second, .unset] [(.ref b15)])) _
      refine XS.astoreN X19.here hx rfl (hb hby d1_8) rfl rfl (l' := #[.val (.long q), .second, .val (.ref b15)]) rfl ?_
      show Steps p.tables e below (T19.setTop (mkF m 9 #[.val (.long q), .second, .val (.ref b15)] [])) _
      refine XS.aloadN X19.here hx rfl (hb hby d1_9) rfl rfl ?_
      show Steps p.tables e below (T19.setTop (mkF m 10 #[.val (.long q), .second, .val (.ref b15)] [(.ref b15)])) _
      refine XS.lconst X19.here hx rfl (hb hby d1_10) ?_
      show Steps p.tables e below (T19.setTop (mkF m 11 #[.val (.long q), .second, .val (.ref b15)] [(.long (0 : Int64)), (.ref b15)])) _
      refine st22 _ ?_
      show Steps p.tables e below (T22.setTop (mkF m 14 #[.val (.long q), .second, .val (.ref b15)] [])) _
      refine XS.aloadN X22.here hx rfl (hb hby d1_14) rfl rfl ?_
      exact kk)
  obtain ⟨fs, hr, hrun, hended, hW, hsame⟩ := X22.leave (v := some (.ref b15)) (fun h => by rw [Bd.returns] at h; cases h)
  refine ⟨_, _, pre28 _ ?_, hrun, hended, _, _, rfl, ?_, ⟨_, rfl⟩, hW, hsame.mono (by decide) (by decide)⟩
  · show Steps p.tables e below (T22.setTop (mkF m 15 #[.val (.long q), .second, .val (.ref b15)] [(.ref b15)])) _
    exact retOut X22 hx Bd.returns rfl (Or.inr (Or.inr (Or.inr (Or.inr ⟨rfl, rfl, rfl⟩)))) (hb hby d1_15) hr
  · show QExact Z q h0 n0 _ T22.heap _
    rw [e22]
    exact ⟨b15, rfl, N26, K25, sz_b15, Ex23, F27, F24⟩
theorem d4_0 : decode prog_6_method_3_code 0 = .ok (.aload_n 0, 1) := by decide +kernel
theorem d4_1 : decode prog_6_method_3_code 1 = .ok (.getfield 11, 3) := by decide +kernel
theorem d4_4 : decode prog_6_method_3_code 4 = .ok (.lstore_n 1, 1) := by decide +kernel
theorem d4_5 : decode prog_6_method_3_code 5 = .ok (.lload_n 1, 1) := by decide +kernel
theorem d4_6 : decode prog_6_method_3_code 6 = .ok (.ldc2_w 9, 3) := by decide +kernel
theorem d4_9 : decode prog_6_method_3_code 9 = .ok (.lcmp, 1) := by decide +kernel
theorem d4_10 : decode prog_6_method_3_code 10 = .ok (.ifCond .eq 12, 3) := by decide +kernel
theorem d4_13 : decode prog_6_method_3_code 13 = .ok (.aload_n 0, 1) := by decide +kernel
theorem d4_14 : decode prog_6_method_3_code 14 = .ok (.getfield 15, 3) := by decide +kernel
theorem d4_17 : decode prog_6_method_3_code 17 = .ok (.lload_n 1, 1) := by decide +kernel
theorem d4_18 : decode prog_6_method_3_code 18 = .ok (.ladd, 1) := by decide +kernel
theorem d4_19 : decode prog_6_method_3_code 19 = .ok (.goto 6, 3) := by decide +kernel
theorem d4_25 : decode prog_6_method_3_code 25 = .ok (.lreturn, 1) := by decide +kernel
theorem ef_rmLatest (m : MethodId) (x0 : Addr) : entryFrame m #[(.ref x0)] 3 = mkF m 0 #[.val (.ref x0), .unset, .unset] [] := by first | (simp [entryFrame, mkF, argsToLocals, Value.category]; done) | rfl
def QLatest (Z : State) (b : Addr) (q : Int64) (h0 : Heap) (n0 : Nat) (v : Option Value) (h : Heap) (L : List Loc) : Prop := v = some (.long (q + (0 : Int64))) ∧ Fr n0 L ∧ h = h0
set_option maxRecDepth 65536 in
set_option maxHeartbeats 40000000 in
theorem rmLatest (l : Launch) (Z : State) (a0 : Array Value) (hw : ∀ d ∈ tables_1, d.before a0 Z = true) (ws : List Jvm.Cond) (b : Addr) (q : Int64) (h0 : Heap) (n0 : Nat) (Z0 : n0 ≤ h0.size) (F_lasted_b : Fld Z h0 b "com/example/samewire/samewire/CoarseClock$Tick" "lasted" "J" (.long (0 : Int64))) (F_at_b : Fld Z h0 b "com/example/samewire/samewire/CoarseClock$Tick" "at" "J" (.long q)) :
    MetFree l (⟨"com/example/samewire/samewire/CoarseClock$Tick", "latest", "()J"⟩ : MethodName) (head1 (Jvm.Cond.code (⟨"com/example/samewire/samewire/CoarseClock$Tick", "latest", "()J"⟩ : MethodName) prog_6_method_3_code 3 (some .long) :: ws) ({ frames := 0, cells := 0, slots := 0, locals := 0 } : Room)) (fun a U => a = #[(.ref b)] ∧ Z.Warmed39 U.vm ∧ U.heap = h0) (fun _ _ _ _ _ => True) (fun _ U o U' => ∃ v L, o = .returned v ∧ QLatest Z b q h0 n0 v U'.heap L ∧ FrameEnd U o U' L ({ frames := 0, cells := 0, slots := 0, locals := 0 } : Room).cells ({ frames := 0, cells := 0, slots := 0, locals := 0 } : Room).slots) := by
  refine MetFree.of_bodySF (plainFor_of_name pn_0) hisR ?_
  intro p e s m args below meth c s₁ Bd hml0 hP hK
  obtain ⟨rfl, hZ, hh⟩ := hP
  have hx := Bd.exec
  have hby := Bd.bytes
  have hml : c.maxLocals = 3 := hml0
  have hown : s.vm.findClass "com/example/samewire/samewire/CoarseClock$Tick" = some m.cls := findClass_of_methodNamed Bd.named
  have hnm := (name_of_methodNamed Bd.named Bd.method).1
  have X0 : Stand p l e ({ frames := 0, cells := 0, slots := 0, locals := 0 } : Room) s m #[(.ref b)] below meth c s₁ [] 0 0 := Stand.of_body Bd
  have e0 : s₁.heap = h0 := by rw [← hh, Bd.state]; rfl
  have N0 := Fr.nil n0
  have pre0 : ∀ t, Steps p.tables e below (s₁.setTop (mkF m 0 #[.val (.ref b), .unset, .unset] [])) t → Steps p.tables e below (s₁.setTop (entryFrame m #[(.ref b)] 3)) t := fun t kk => castTop (ef_rmLatest m b) kk
  obtain ⟨T29, X29, e29, st29⟩ := getF X0 hx hZ hown (host := "") (Or.inl (hw _ (List.mem_of_getElem? (i := 13) rfl))) Via.refl e0 F_lasted_b (g := (mkF m 1 #[.val (.ref b), .unset, .unset] [(.ref b)])) rfl rfl (hb hby d4_1)
  obtain ⟨T30, X30, e30, st30⟩ := getF X29 hx hZ hown (host := "") (Or.inl (hw _ (List.mem_of_getElem? (i := 15) rfl))) Via.refl e29 F_at_b (g := (mkF m 14 #[.val (.ref b), .val (.long (0 : Int64)), .second] [(.ref b)])) rfl rfl (hb hby d4_14)
  have pre31 : ∀ t, Steps p.tables e below (T30.setTop (mkF m 25 #[.val (.ref b), .val (.long (0 : Int64)), .second] [(.long (q + (0 : Int64)))])) t → Steps p.tables e below (s₁.setTop (entryFrame m #[(.ref b)] 3)) t := fun t kk => pre0 t (by
      show Steps p.tables e below (s₁.setTop (mkF m 0 #[.val (.ref b), .unset, .unset] [])) _
      refine XS.aloadN X0.here hx rfl (hb hby d4_0) rfl rfl ?_
      show Steps p.tables e below (s₁.setTop (mkF m 1 #[.val (.ref b), .unset, .unset] [(.ref b)])) _
      refine st29 _ ?_
      show Steps p.tables e below (T29.setTop (mkF m 4 #[.val (.ref b), .unset, .unset] [(.long (0 : Int64))])) _
      refine XS.lstoreN X29.here hx rfl (hb hby d4_4) rfl (l' := #[.val (.ref b), .val (.long (0 : Int64)), .second]) rfl ?_
      show Steps p.tables e below (T29.setTop (mkF m 5 #[.val (.ref b), .val (.long (0 : Int64)), .second] [])) _
      refine XS.lloadN X29.here hx rfl (hb hby d4_5) rfl ?_
      show Steps p.tables e below (T29.setTop (mkF m 6 #[.val (.ref b), .val (.long (0 : Int64)), .second] [(.long (0 : Int64))])) _
      refine X29.ldc2Long hx hown (mvT hZ (hw _ (List.mem_of_getElem? (i := 12) rfl))) (g := (mkF m 6 #[.val (.ref b), .val (.long (0 : Int64)), .second] [(.long (0 : Int64))])) rfl (hb hby d4_6) _ ?_
      show Steps p.tables e below (T29.setTop (mkF m 9 #[.val (.ref b), .val (.long (0 : Int64)), .second] [(.long (-1 : Int64)), (.long (0 : Int64))])) _
      refine XS.lcmp X29.here hx rfl (hb hby d4_9) rfl ?_
      show Steps p.tables e below (T29.setTop (mkF m 10 #[.val (.ref b), .val (.long (0 : Int64)), .second] [(.int (lcmpW (0 : Int64) (-1 : Int64)))])) _
      refine XS.ifNo X29.here hx rfl (hb hby d4_10) rfl (Jvm.Free.XT.ll_eq_f (by decide : ¬ ((0 : Int64) = (-1 : Int64)))) ?_
      show Steps p.tables e below (T29.setTop (mkF m 13 #[.val (.ref b), .val (.long (0 : Int64)), .second] [])) _
      refine XS.aloadN X29.here hx rfl (hb hby d4_13) rfl rfl ?_
      show Steps p.tables e below (T29.setTop (mkF m 14 #[.val (.ref b), .val (.long (0 : Int64)), .second] [(.ref b)])) _
      refine st30 _ ?_
      show Steps p.tables e below (T30.setTop (mkF m 17 #[.val (.ref b), .val (.long (0 : Int64)), .second] [(.long q)])) _
      refine XS.lloadN X30.here hx rfl (hb hby d4_17) rfl ?_
      show Steps p.tables e below (T30.setTop (mkF m 18 #[.val (.ref b), .val (.long (0 : Int64)), .second] [(.long (0 : Int64)), (.long q)])) _
      refine XS.ladd X30.here hx rfl (hb hby d4_18) rfl ?_
      show Steps p.tables e below (T30.setTop (mkF m 19 #[.val (.ref b), .val (.long (0 : Int64)), .second] [(.long (q + (0 : Int64)))])) _
      refine XS.goto X30.here hx rfl (pc0 := 19) (pc' := 25) rfl (hb hby d4_19) (by decide) (by decide) ?_
      exact kk)
  obtain ⟨fs, hr, hrun, hended, hW, hsame⟩ := X30.leave (v := some (.long (q + (0 : Int64)))) (fun h => by rw [Bd.returns] at h; cases h)
  refine ⟨_, _, pre31 _ ?_, hrun, hended, _, _, rfl, ?_, ⟨_, rfl⟩, hW, hsame.mono (by decide) (by decide)⟩
  · show Steps p.tables e below (T30.setTop (mkF m 25 #[.val (.ref b), .val (.long (0 : Int64)), .second] [(.long (q + (0 : Int64)))])) _
    exact retOut X30 hx Bd.returns rfl (Or.inr (Or.inl ⟨rfl, rfl, _, rfl⟩)) (hb hby d4_25) hr
  · show QLatest Z b q h0 n0 _ T30.heap _
    rw [e30]
    exact ⟨rfl, N0, rfl⟩
theorem pd_1 : parseMethodDescriptor "(J)Lcom/example/samewire/samewire/CoarseClock$Tick;" = some ⟨[.long], some (.object "com/example/samewire/samewire/CoarseClock$Tick")⟩ := by decide +kernel
theorem pd_2 : parseMethodDescriptor "()J" = some ⟨[], some .long⟩ := by decide +kernel
theorem ef_rm0 (m : MethodId) (x0 : Int64) (x1 : Int64) : entryFrame m #[(.long x0), (.long x1)] maxLocals = mkF m 0 #[.val (.long x0), .second, .val (.long x1), .second, .unset, .unset, .unset, .unset, .unset, .unset, .unset, .unset] [] := by first | (simp [entryFrame, mkF, argsToLocals, Value.category, maxLocals]; done) | rfl
def Q0 (Z : State) (p0 : Int64) (p1 : Int64) (h0 : Heap) (n0 : Nat) (v : Option Value) (h : Heap) (L : List Loc) : Prop := v = some (.int (1 : Int32)) ∧ Fr n0 L ∧ Keep h0 h []
theorem pn_1 : plainName "com/example/samewire/samewire/TickExactPinLaw" = true := by first | (simp [plainName, overriddenIn]; done) | decide +kernel
set_option maxRecDepth 65536 in
set_option maxHeartbeats 40000000 in
theorem rm0 (l : Launch) (Z : State) (a0 : Array Value) (hw : ∀ d ∈ tables_1, d.before a0 Z = true) (ws : List Jvm.Cond) (p0 : Int64) (p1 : Int64) (h0 : Heap) (n0 : Nat) (Z0 : n0 ≤ h0.size)  :
    MetFree l x (head1 (Jvm.Cond.code x code maxLocals ret :: ws) room_1) (fun a U => a = #[(.long p0), (.long p1)] ∧ Z.Warmed39 U.vm ∧ U.heap = h0) (fun _ _ _ _ _ => True) (fun _ U o U' => ∃ v L, o = .returned v ∧ Q0 Z p0 p1 h0 n0 v U'.heap L ∧ FrameEnd U o U' L room_1.cells room_1.slots) := by
  refine MetFree.of_bodySF (plainFor_of_name pn_1) hisR ?_
  intro p e s m args below meth c s₁ Bd hml0 hP hK
  obtain ⟨rfl, hZ, hh⟩ := hP
  have hx := Bd.exec
  have hby := Bd.bytes
  have hml : c.maxLocals = 12 := hml0
  have hown : s.vm.findClass "com/example/samewire/samewire/TickExactPinLaw" = some m.cls := findClass_of_methodNamed Bd.named
  have hnm := (name_of_methodNamed Bd.named Bd.method).1
  have X0 : Stand p l e room_1 s m #[(.long p0), (.long p1)] below meth c s₁ [] 0 0 := Stand.of_body Bd
  have e0 : s₁.heap = h0 := by rw [← hh, Bd.state]; rfl
  have N0 := Fr.nil n0
  have pre0 : ∀ t, Steps p.tables e below (s₁.setTop (mkF m 0 #[.val (.long p0), .second, .val (.long p1), .second, .unset, .unset, .unset, .unset, .unset, .unset, .unset, .unset] [])) t → Steps p.tables e below (s₁.setTop (entryFrame m #[(.long p0), (.long p1)] maxLocals)) t := fun t kk => castTop (ef_rm0 m p0 p1) kk
  obtain ⟨_, _, ⟨T32, L32, k32, n32⟩, -, X32, ⟨Lc32, hQ32, l32, y32, z32⟩, st32⟩ := Jvm.LawKit.callS X0 hx (y := (⟨"com/example/samewire/samewire/CoarseClock$Tick", "exact", "(J)Lcom/example/samewire/samewire/CoarseClock$Tick;"⟩ : MethodName)) hown (mvT hZ (hw _ (List.mem_of_getElem? (i := 0) rfl))) (mvT hZ (hw _ (List.mem_of_getElem? (i := 1) rfl))) (mvT hZ (hw _ (List.mem_of_getElem? (i := 2) rfl))) (mvT hZ (hw _ (List.mem_of_getElem? (i := 3) rfl))) (by decide) (backOf (W := 0) (rmExact l Z a0 hw [] p0 h0 n0 Z0) hZ (hw _ (List.mem_of_getElem? (i := 3) rfl)) (hw _ (List.mem_of_getElem? (i := 2) rfl)) (by decide) (by decide)) (g := (mkF m 1 #[.val (.long p0), .second, .val (.long p1), .second, .unset, .unset, .unset, .unset, .unset, .unset, .unset, .unset] [(.long p0)])) rfl (by rw [hml]; rfl) (argsL := [(.long p0)]) (rest := []) (lenOf pd_1 rfl) rfl (by show 2 * 0 + _ ≤ _; exact Nat.le_of_eq rfl) (hb hby at_1) (fun _ _ => ⟨rfl, e0, (by decide : 0 + 1 ≤ _), (by decide : 0 + 2 ≤ _)⟩)
  dsimp only [Pt.U, Pt.locs, Pt.cells, Pt.slots] at X32 l32 y32 z32 st32 hQ32
  subst l32 y32 z32
  obtain ⟨nb_32, rfl, N32q, K32q, sz32_nb, P32_0, P32_1, P32_2⟩ := hQ32
  have N32 := Fr.app N0 N32q
  have g_nb_32 : n0 ≤ nb_32 := Nat.le_trans Z0 sz32_nb
  have sz_nb_32 : h0.size ≤ nb_32 := Nat.le_trans (Nat.le_refl _) sz32_nb
  have K33 : Keep h0 T32.heap [] := (Keep.refl h0 _).trans K32q all0
  obtain ⟨_, _, ⟨T34, L34, k34, n34⟩, -, X34, ⟨Lc34, hQ34, l34, y34, z34⟩, st34⟩ := Jvm.LawKit.callS X32 hx (y := (⟨"com/example/samewire/samewire/CoarseClock$Tick", "exact", "(J)Lcom/example/samewire/samewire/CoarseClock$Tick;"⟩ : MethodName)) hown (mvT hZ (hw _ (List.mem_of_getElem? (i := 0) rfl))) (mvT hZ (hw _ (List.mem_of_getElem? (i := 1) rfl))) (mvT hZ (hw _ (List.mem_of_getElem? (i := 2) rfl))) (mvT hZ (hw _ (List.mem_of_getElem? (i := 3) rfl))) (by decide) (backOf (W := 0) (rmExact l Z a0 hw [] p1 T32.heap n0 (Nat.le_trans Z0 K33.1)) hZ (hw _ (List.mem_of_getElem? (i := 3) rfl)) (hw _ (List.mem_of_getElem? (i := 2) rfl)) (by decide) (by decide)) (g := (mkF m 7 #[.val (.long p0), .second, .val (.long p1), .second, .val (.ref nb_32), .unset, .unset, .unset, .unset, .unset, .unset, .unset] [(.long p1)])) rfl (by rw [hml]; rfl) (argsL := [(.long p1)]) (rest := []) (lenOf pd_1 rfl) rfl (by show 2 * 0 + _ ≤ _; exact Nat.le_of_eq rfl) (hb hby at_7) (fun _ _ => ⟨rfl, rfl, (by decide : 1 + 1 ≤ _), (by decide : 2 + 2 ≤ _)⟩)
  dsimp only [Pt.U, Pt.locs, Pt.cells, Pt.slots] at X34 l34 y34 z34 st34 hQ34
  subst l34 y34 z34
  obtain ⟨nb_34, rfl, N34q, K34q, sz34_nb, P34_0, P34_1, P34_2⟩ := hQ34
  have N34 := Fr.app N32 N34q
  have ne35 : nb_32 ≠ nb_34 := Nat.ne_of_lt (Nat.lt_of_lt_of_le P32_0.lt sz34_nb)
  have g_nb_34 : n0 ≤ nb_34 := Nat.le_trans (Nat.le_trans Z0 K33.1) sz34_nb
  have sz_nb_34 : h0.size ≤ nb_34 := Nat.le_trans K33.1 sz34_nb
  have Ex36 : Exa Z T34.heap nb_32 "com/example/samewire/samewire/CoarseClock$Tick" := (P32_0.keep K34q)
  have F37 : Fld Z T34.heap nb_32 "com/example/samewire/samewire/CoarseClock$Tick" "lasted" "J" (.long (0 : Int64)) := (P32_1.keep K34q nin0)
  have F38 : Fld Z T34.heap nb_32 "com/example/samewire/samewire/CoarseClock$Tick" "at" "J" (.long p0) := (P32_2.keep K34q nin0)
  have K39 : Keep h0 T34.heap [] := K33.trans K34q all0
  obtain ⟨cq40, kq40, q40a, q40b, q40c⟩ := isOf hZ rfl Ex36
  obtain ⟨_, _, ⟨T40, L40, k40, n40⟩, -, X40, ⟨Lc40, hQ40, l40, y40, z40⟩, st40⟩ := X34.virtualBack hx (y := (⟨"com/example/samewire/samewire/CoarseClock$Tick", "latest", "()J"⟩ : MethodName)) (z := (⟨"com/example/samewire/samewire/CoarseClock$Tick", "latest", "()J"⟩ : MethodName)) hown (mvT hZ (hw _ (List.mem_of_getElem? (i := 17) rfl))) (mvT hZ (hw _ (List.mem_of_getElem? (i := 18) rfl))) (notFace_of_selects (args := #[]) (mvT hZ (hw _ (List.mem_of_getElem? (i := 20) rfl)))) (mvT hZ (hw _ (List.mem_of_getElem? (i := 20) rfl))) (mvT hZ (hw _ (List.mem_of_getElem? (i := 19) rfl))) (by decide) (backOf (W := 0) (rmLatest l Z a0 hw [] nb_32 p0 T34.heap n0 (Nat.le_trans Z0 K39.1) F37 F38) hZ (hw _ (List.mem_of_getElem? (i := 21) rfl)) (hw _ (List.mem_of_getElem? (i := 2) rfl)) (by decide) (by decide)) q40a q40c (g := (mkF m 14 #[.val (.long p0), .second, .val (.long p1), .second, .val (.ref nb_32), .val (.ref nb_34), .unset, .unset, .unset, .unset, .unset, .unset] [(.ref nb_32)])) rfl (by rw [hml]; rfl) (Steps.refl _) (argsL := []) (rest := []) (lenOf pd_2 rfl) rfl (by show 2 * 0 + _ ≤ _; exact Nat.le_of_eq rfl) (hb hby at_14) (fun _ _ => ⟨rfl, rfl, (by decide : 2 + 0 ≤ _), (by decide : 4 + 0 ≤ _)⟩)
  dsimp only [Pt.U, Pt.locs, Pt.cells, Pt.slots] at X40 l40 y40 z40 st40 hQ40
  subst l40 y40 z40
  obtain ⟨rfl, N40q, e40⟩ := hQ40
  have N40 := Fr.app N34 N40q
  obtain ⟨cq41, kq41, q41a, q41b, q41c⟩ := isOf hZ e40 P34_0
  obtain ⟨_, _, ⟨T41, L41, k41, n41⟩, -, X41, ⟨Lc41, hQ41, l41, y41, z41⟩, st41⟩ := X40.virtualBack hx (y := (⟨"com/example/samewire/samewire/CoarseClock$Tick", "latest", "()J"⟩ : MethodName)) (z := (⟨"com/example/samewire/samewire/CoarseClock$Tick", "latest", "()J"⟩ : MethodName)) hown (mvT hZ (hw _ (List.mem_of_getElem? (i := 17) rfl))) (mvT hZ (hw _ (List.mem_of_getElem? (i := 18) rfl))) (notFace_of_selects (args := #[]) (mvT hZ (hw _ (List.mem_of_getElem? (i := 20) rfl)))) (mvT hZ (hw _ (List.mem_of_getElem? (i := 20) rfl))) (mvT hZ (hw _ (List.mem_of_getElem? (i := 19) rfl))) (by decide) (backOf (W := 0) (rmLatest l Z a0 hw [] nb_34 p1 T34.heap n0 (Nat.le_trans Z0 K39.1) P34_1 P34_2) hZ (hw _ (List.mem_of_getElem? (i := 21) rfl)) (hw _ (List.mem_of_getElem? (i := 2) rfl)) (by decide) (by decide)) q41a q41c (g := (mkF m 21 #[.val (.long p0), .second, .val (.long p1), .second, .val (.ref nb_32), .val (.ref nb_34), .val (.long (p0 + (0 : Int64))), .second, .unset, .unset, .unset, .unset] [(.ref nb_34)])) rfl (by rw [hml]; rfl) (Steps.refl _) (argsL := []) (rest := []) (lenOf pd_2 rfl) rfl (by show 2 * 0 + _ ≤ _; exact Nat.le_of_eq rfl) (hb hby at_21) (fun _ _ => ⟨rfl, e40, (by decide : 2 + 0 ≤ _), (by decide : 4 + 0 ≤ _)⟩)
  dsimp only [Pt.U, Pt.locs, Pt.cells, Pt.slots] at X41 l41 y41 z41 st41 hQ41
  subst l41 y41 z41
  obtain ⟨rfl, N41q, e41⟩ := hQ41
  have N41 := Fr.app N40 N41q
  obtain ⟨cq42, kq42, q42a, q42b, q42c⟩ := isOf hZ e41 Ex36
  obtain ⟨_, _, ⟨T42, L42, k42, n42⟩, -, X42, ⟨Lc42, hQ42, l42, y42, z42⟩, st42⟩ := X41.virtualBack hx (y := (⟨"com/example/samewire/samewire/CoarseClock$Tick", "latest", "()J"⟩ : MethodName)) (z := (⟨"com/example/samewire/samewire/CoarseClock$Tick", "latest", "()J"⟩ : MethodName)) hown (mvT hZ (hw _ (List.mem_of_getElem? (i := 17) rfl))) (mvT hZ (hw _ (List.mem_of_getElem? (i := 18) rfl))) (notFace_of_selects (args := #[]) (mvT hZ (hw _ (List.mem_of_getElem? (i := 20) rfl)))) (mvT hZ (hw _ (List.mem_of_getElem? (i := 20) rfl))) (mvT hZ (hw _ (List.mem_of_getElem? (i := 19) rfl))) (by decide) (backOf (W := 0) (rmLatest l Z a0 hw [] nb_32 p0 T34.heap n0 (Nat.le_trans Z0 K39.1) F37 F38) hZ (hw _ (List.mem_of_getElem? (i := 21) rfl)) (hw _ (List.mem_of_getElem? (i := 2) rfl)) (by decide) (by decide)) q42a q42c (g := (mkF m 28 #[.val (.long p0), .second, .val (.long p1), .second, .val (.ref nb_32), .val (.ref nb_34), .val (.long (p0 + (0 : Int64))), .second, .val (.long (p1 + (0 : Int64))), .second, .unset, .unset] [(.ref nb_32)])) rfl (by rw [hml]; rfl) (Steps.refl _) (argsL := []) (rest := []) (lenOf pd_2 rfl) rfl (by show 2 * 0 + _ ≤ _; exact Nat.le_of_eq rfl) (hb hby at_28) (fun _ _ => ⟨rfl, e41, (by decide : 2 + 0 ≤ _), (by decide : 4 + 0 ≤ _)⟩)
  dsimp only [Pt.U, Pt.locs, Pt.cells, Pt.slots] at X42 l42 y42 z42 st42 hQ42
  subst l42 y42 z42
  obtain ⟨rfl, N42q, e42⟩ := hQ42
  have N42 := Fr.app N41 N42q
  have hb43 : (p0 + (0 : Int64)) = p0 := Int64.add_zero _
  have hb44 : (p1 + (0 : Int64)) = p1 := Int64.add_zero _
  have pre45 : ∀ t, Steps p.tables e below (T42.setTop (mkF m 66 #[.val (.long p0), .second, .val (.long p1), .second, .val (.ref nb_32), .val (.ref nb_34), .val (.long (p0 + (0 : Int64))), .second, .val (.long (p1 + (0 : Int64))), .second, .val (.long (p0 + (0 : Int64))), .second] [(.int (1 : Int32))])) t → Steps p.tables e below (s₁.setTop (entryFrame m #[(.long p0), (.long p1)] maxLocals)) t := fun t kk => pre0 t (by
      show Steps p.tables e below (s₁.setTop (mkF m 0 #[.val (.long p0), .second, .val (.long p1), .second, .unset, .unset, .unset, .unset, .unset, .unset, .unset, .unset] [])) _
      refine XS.lloadN X0.here hx rfl (hb hby at_0) rfl ?_
      show Steps p.tables e below (s₁.setTop (mkF m 1 #[.val (.long p0), .second, .val (.long p1), .second, .unset, .unset, .unset, .unset, .unset, .unset, .unset, .unset] [(.long p0)])) _
      refine st32 _ ?_
      show Steps p.tables e below (T32.setTop (mkF m 4 #[.val (.long p0), .second, .val (.long p1), .second, .unset, .unset, .unset, .unset, .unset, .unset, .unset, .unset] [(.ref nb_32)])) _
      refine XS.astore X32.here hx rfl (hb hby at_4) rfl rfl (l' := #[.val (.long p0), .second, .val (.long p1), .second, .val (.ref nb_32), .unset, .unset, .unset, .unset, .unset, .unset, .unset]) rfl ?_
      show Steps p.tables e below (T32.setTop (mkF m 6 #[.val (.long p0), .second, .val (.long p1), .second, .val (.ref nb_32), .unset, .unset, .unset, .unset, .unset, .unset, .unset] [])) _
      refine XS.lloadN X32.here hx rfl (hb hby at_6) rfl ?_
      show Steps p.tables e below (T32.setTop (mkF m 7 #[.val (.long p0), .second, .val (.long p1), .second, .val (.ref nb_32), .unset, .unset, .unset, .unset, .unset, .unset, .unset] [(.long p1)])) _
      refine st34 _ ?_
      show Steps p.tables e below (T34.setTop (mkF m 10 #[.val (.long p0), .second, .val (.long p1), .second, .val (.ref nb_32), .unset, .unset, .unset, .unset, .unset, .unset, .unset] [(.ref nb_34)])) _
      refine XS.astore X34.here hx rfl (hb hby at_10) rfl rfl (l' := #[.val (.long p0), .second, .val (.long p1), .second, .val (.ref nb_32), .val (.ref nb_34), .unset, .unset, .unset, .unset, .unset, .unset]) rfl ?_
      show Steps p.tables e below (T34.setTop (mkF m 12 #[.val (.long p0), .second, .val (.long p1), .second, .val (.ref nb_32), .val (.ref nb_34), .unset, .unset, .unset, .unset, .unset, .unset] [])) _
      refine XS.aload X34.here hx rfl (hb hby at_12) rfl rfl ?_
      show Steps p.tables e below (T34.setTop (mkF m 14 #[.val (.long p0), .second, .val (.long p1), .second, .val (.ref nb_32), .val (.ref nb_34), .unset, .unset, .unset, .unset, .unset, .unset] [(.ref nb_32)])) _
      refine st40.trans ?_
      show Steps p.tables e below (T40.setTop (mkF m 17 #[.val (.long p0), .second, .val (.long p1), .second, .val (.ref nb_32), .val (.ref nb_34), .unset, .unset, .unset, .unset, .unset, .unset] [(.long (p0 + (0 : Int64)))])) _
      refine XS.lstore X40.here hx rfl (hb hby at_17) rfl (l' := #[.val (.long p0), .second, .val (.long p1), .second, .val (.ref nb_32), .val (.ref nb_34), .val (.long (p0 + (0 : Int64))), .second, .unset, .unset, .unset, .unset]) rfl ?_
      show Steps p.tables e below (T40.setTop (mkF m 19 #[.val (.long p0), .second, .val (.long p1), .second, .val (.ref nb_32), .val (.ref nb_34), .val (.long (p0 + (0 : Int64))), .second, .unset, .unset, .unset, .unset] [])) _
      refine XS.aload X40.here hx rfl (hb hby at_19) rfl rfl ?_
      show Steps p.tables e below (T40.setTop (mkF m 21 #[.val (.long p0), .second, .val (.long p1), .second, .val (.ref nb_32), .val (.ref nb_34), .val (.long (p0 + (0 : Int64))), .second, .unset, .unset, .unset, .unset] [(.ref nb_34)])) _
      refine st41.trans ?_
      show Steps p.tables e below (T41.setTop (mkF m 24 #[.val (.long p0), .second, .val (.long p1), .second, .val (.ref nb_32), .val (.ref nb_34), .val (.long (p0 + (0 : Int64))), .second, .unset, .unset, .unset, .unset] [(.long (p1 + (0 : Int64)))])) _
      refine XS.lstore X41.here hx rfl (hb hby at_24) rfl (l' := #[.val (.long p0), .second, .val (.long p1), .second, .val (.ref nb_32), .val (.ref nb_34), .val (.long (p0 + (0 : Int64))), .second, .val (.long (p1 + (0 : Int64))), .second, .unset, .unset]) rfl ?_
      show Steps p.tables e below (T41.setTop (mkF m 26 #[.val (.long p0), .second, .val (.long p1), .second, .val (.ref nb_32), .val (.ref nb_34), .val (.long (p0 + (0 : Int64))), .second, .val (.long (p1 + (0 : Int64))), .second, .unset, .unset] [])) _
      refine XS.aload X41.here hx rfl (hb hby at_26) rfl rfl ?_
      show Steps p.tables e below (T41.setTop (mkF m 28 #[.val (.long p0), .second, .val (.long p1), .second, .val (.ref nb_32), .val (.ref nb_34), .val (.long (p0 + (0 : Int64))), .second, .val (.long (p1 + (0 : Int64))), .second, .unset, .unset] [(.ref nb_32)])) _
      refine st42.trans ?_
      show Steps p.tables e below (T42.setTop (mkF m 31 #[.val (.long p0), .second, .val (.long p1), .second, .val (.ref nb_32), .val (.ref nb_34), .val (.long (p0 + (0 : Int64))), .second, .val (.long (p1 + (0 : Int64))), .second, .unset, .unset] [(.long (p0 + (0 : Int64)))])) _
      refine XS.lstore X42.here hx rfl (hb hby at_31) rfl (l' := #[.val (.long p0), .second, .val (.long p1), .second, .val (.ref nb_32), .val (.ref nb_34), .val (.long (p0 + (0 : Int64))), .second, .val (.long (p1 + (0 : Int64))), .second, .val (.long (p0 + (0 : Int64))), .second]) rfl ?_
      show Steps p.tables e below (T42.setTop (mkF m 33 #[.val (.long p0), .second, .val (.long p1), .second, .val (.ref nb_32), .val (.ref nb_34), .val (.long (p0 + (0 : Int64))), .second, .val (.long (p1 + (0 : Int64))), .second, .val (.long (p0 + (0 : Int64))), .second] [])) _
      refine XS.lload X42.here hx rfl (hb hby at_33) rfl ?_
      show Steps p.tables e below (T42.setTop (mkF m 35 #[.val (.long p0), .second, .val (.long p1), .second, .val (.ref nb_32), .val (.ref nb_34), .val (.long (p0 + (0 : Int64))), .second, .val (.long (p1 + (0 : Int64))), .second, .val (.long (p0 + (0 : Int64))), .second] [(.long (p0 + (0 : Int64)))])) _
      refine XS.lloadN X42.here hx rfl (hb hby at_35) rfl ?_
      show Steps p.tables e below (T42.setTop (mkF m 36 #[.val (.long p0), .second, .val (.long p1), .second, .val (.ref nb_32), .val (.ref nb_34), .val (.long (p0 + (0 : Int64))), .second, .val (.long (p1 + (0 : Int64))), .second, .val (.long (p0 + (0 : Int64))), .second] [(.long p0), (.long (p0 + (0 : Int64)))])) _
      refine XS.lcmp X42.here hx rfl (hb hby at_36) rfl ?_
      show Steps p.tables e below (T42.setTop (mkF m 37 #[.val (.long p0), .second, .val (.long p1), .second, .val (.ref nb_32), .val (.ref nb_34), .val (.long (p0 + (0 : Int64))), .second, .val (.long (p1 + (0 : Int64))), .second, .val (.long (p0 + (0 : Int64))), .second] [(.int (lcmpW (p0 + (0 : Int64)) p0))])) _
      refine XS.ifNo X42.here hx rfl (hb hby at_37) rfl (Jvm.Free.XT.ll_ne_f hb43) ?_
      show Steps p.tables e below (T42.setTop (mkF m 40 #[.val (.long p0), .second, .val (.long p1), .second, .val (.ref nb_32), .val (.ref nb_34), .val (.long (p0 + (0 : Int64))), .second, .val (.long (p1 + (0 : Int64))), .second, .val (.long (p0 + (0 : Int64))), .second] [])) _
      refine XS.lload X42.here hx rfl (hb hby at_40) rfl ?_
      show Steps p.tables e below (T42.setTop (mkF m 42 #[.val (.long p0), .second, .val (.long p1), .second, .val (.ref nb_32), .val (.ref nb_34), .val (.long (p0 + (0 : Int64))), .second, .val (.long (p1 + (0 : Int64))), .second, .val (.long (p0 + (0 : Int64))), .second] [(.long (p1 + (0 : Int64)))])) _
      refine XS.lloadN X42.here hx rfl (hb hby at_42) rfl ?_
      show Steps p.tables e below (T42.setTop (mkF m 43 #[.val (.long p0), .second, .val (.long p1), .second, .val (.ref nb_32), .val (.ref nb_34), .val (.long (p0 + (0 : Int64))), .second, .val (.long (p1 + (0 : Int64))), .second, .val (.long (p0 + (0 : Int64))), .second] [(.long p1), (.long (p1 + (0 : Int64)))])) _
      refine XS.lcmp X42.here hx rfl (hb hby at_43) rfl ?_
      show Steps p.tables e below (T42.setTop (mkF m 44 #[.val (.long p0), .second, .val (.long p1), .second, .val (.ref nb_32), .val (.ref nb_34), .val (.long (p0 + (0 : Int64))), .second, .val (.long (p1 + (0 : Int64))), .second, .val (.long (p0 + (0 : Int64))), .second] [(.int (lcmpW (p1 + (0 : Int64)) p1))])) _
      refine XS.ifNo X42.here hx rfl (hb hby at_44) rfl (Jvm.Free.XT.ll_ne_f hb44) ?_
      show Steps p.tables e below (T42.setTop (mkF m 47 #[.val (.long p0), .second, .val (.long p1), .second, .val (.ref nb_32), .val (.ref nb_34), .val (.long (p0 + (0 : Int64))), .second, .val (.long (p1 + (0 : Int64))), .second, .val (.long (p0 + (0 : Int64))), .second] [])) _
      refine XS.lload X42.here hx rfl (hb hby at_47) rfl ?_
      show Steps p.tables e below (T42.setTop (mkF m 49 #[.val (.long p0), .second, .val (.long p1), .second, .val (.ref nb_32), .val (.ref nb_34), .val (.long (p0 + (0 : Int64))), .second, .val (.long (p1 + (0 : Int64))), .second, .val (.long (p0 + (0 : Int64))), .second] [(.long (p0 + (0 : Int64)))])) _
      refine XS.lloadN X42.here hx rfl (hb hby at_49) rfl ?_
      show Steps p.tables e below (T42.setTop (mkF m 50 #[.val (.long p0), .second, .val (.long p1), .second, .val (.ref nb_32), .val (.ref nb_34), .val (.long (p0 + (0 : Int64))), .second, .val (.long (p1 + (0 : Int64))), .second, .val (.long (p0 + (0 : Int64))), .second] [(.long p0), (.long (p0 + (0 : Int64)))])) _
      refine XS.lcmp X42.here hx rfl (hb hby at_50) rfl ?_
      show Steps p.tables e below (T42.setTop (mkF m 51 #[.val (.long p0), .second, .val (.long p1), .second, .val (.ref nb_32), .val (.ref nb_34), .val (.long (p0 + (0 : Int64))), .second, .val (.long (p1 + (0 : Int64))), .second, .val (.long (p0 + (0 : Int64))), .second] [(.int (lcmpW (p0 + (0 : Int64)) p0))])) _
      refine XS.ifNo X42.here hx rfl (hb hby at_51) rfl (Jvm.Free.XT.ll_ne_f hb43) ?_
      show Steps p.tables e below (T42.setTop (mkF m 54 #[.val (.long p0), .second, .val (.long p1), .second, .val (.ref nb_32), .val (.ref nb_34), .val (.long (p0 + (0 : Int64))), .second, .val (.long (p1 + (0 : Int64))), .second, .val (.long (p0 + (0 : Int64))), .second] [])) _
      refine XS.aload X42.here hx rfl (hb hby at_54) rfl rfl ?_
      show Steps p.tables e below (T42.setTop (mkF m 56 #[.val (.long p0), .second, .val (.long p1), .second, .val (.ref nb_32), .val (.ref nb_34), .val (.long (p0 + (0 : Int64))), .second, .val (.long (p1 + (0 : Int64))), .second, .val (.long (p0 + (0 : Int64))), .second] [(.ref nb_32)])) _
      refine XS.aload X42.here hx rfl (hb hby at_56) rfl rfl ?_
      show Steps p.tables e below (T42.setTop (mkF m 58 #[.val (.long p0), .second, .val (.long p1), .second, .val (.ref nb_32), .val (.ref nb_34), .val (.long (p0 + (0 : Int64))), .second, .val (.long (p1 + (0 : Int64))), .second, .val (.long (p0 + (0 : Int64))), .second] [(.ref nb_34), (.ref nb_32)])) _
      refine Jvm.RoadKit.acmp (g := (mkF m 58 #[.val (.long p0), .second, .val (.long p1), .second, .val (.ref nb_32), .val (.ref nb_34), .val (.long (p0 + (0 : Int64))), .second, .val (.long (p1 + (0 : Int64))), .second, .val (.long (p0 + (0 : Int64))), .second] [(.ref nb_34), (.ref nb_32)])) X42 hx rfl rfl rfl (pc0 := 58) (pc' := 61) (same := false) rfl (hb hby at_58) rfl (decide_eq_false fun q => ne35 (Value.ref.inj q)) (by decide) (by decide) ?_
      show Steps p.tables e below (T42.setTop (mkF m 61 #[.val (.long p0), .second, .val (.long p1), .second, .val (.ref nb_32), .val (.ref nb_34), .val (.long (p0 + (0 : Int64))), .second, .val (.long (p1 + (0 : Int64))), .second, .val (.long (p0 + (0 : Int64))), .second] [])) _
      refine XS.iconst X42.here hx rfl (hb hby at_61) ?_
      show Steps p.tables e below (T42.setTop (mkF m 62 #[.val (.long p0), .second, .val (.long p1), .second, .val (.ref nb_32), .val (.ref nb_34), .val (.long (p0 + (0 : Int64))), .second, .val (.long (p1 + (0 : Int64))), .second, .val (.long (p0 + (0 : Int64))), .second] [(.int (1 : Int32))])) _
      refine XS.goto X42.here hx rfl (pc0 := 62) (pc' := 66) rfl (hb hby at_62) (by decide) (by decide) ?_
      exact kk)
  obtain ⟨fs, hr, hrun, hended, hW, hsame⟩ := X42.leave (v := some (.int (1 : Int32))) (fun h => by rw [Bd.returns] at h; cases h)
  refine ⟨_, _, pre45 _ ?_, hrun, hended, _, _, rfl, ?_, ⟨_, rfl⟩, hW, hsame.mono (by decide) (by decide)⟩
  · show Steps p.tables e below (T42.setTop (mkF m 66 #[.val (.long p0), .second, .val (.long p1), .second, .val (.ref nb_32), .val (.ref nb_34), .val (.long (p0 + (0 : Int64))), .second, .val (.long (p1 + (0 : Int64))), .second, .val (.long (p0 + (0 : Int64))), .second] [(.int (1 : Int32))])) _
    exact retN X42 hx (t := .boolean) Bd.returns (by simp) (hb hby at_66) hr
  · show Q0 Z p0 p1 h0 n0 _ T42.heap _
    rw [e42]
    exact ⟨rfl, N42, K39⟩
set_option maxRecDepth 65536 in
set_option maxHeartbeats 40000000 in
theorem comes_1 {Post : Tables → Env → Array Value → State → Outcome → State → Prop} (hpost : ∀ tb e args s v u, (limb_1_1.after args s (.returned v) u = true ∧ limb_1_2.after args s (.returned v) u = true ∧ True) → FrameEnd s (.returned v) u (Jvm.fieldLocs frame_1_writes args s ++ Jvm.arrayLocs frame_1_arrays args s ++ Jvm.staticLocs frame_1_statics s) 16 128 → Post tb e args s (.returned v) u) :
    ArmFor flags0 classFile x code maxLocals ret World_1 tables_1 room_1 Calls_1 rest_1 Pre_1 Post := by
  intro l hfl _ _ p e ha hc hk s m args below hf hA hF happ hP
  obtain ⟨hcalls, hrest, hpre⟩ := hP
  obtain ⟨-, -, -, hnamed, -, -, -, hat⟩ := (Spec.applies_iff hf).mp happ
  obtain ⟨hg, hn⟩ := and_e (Cond.before_iff.mp (show (Jvm.Cond.and given_1 narrow_1).before args s = true from hpre))
  obtain ⟨gg46, gg47⟩ := and_e hg
  obtain ⟨gg48, gg49⟩ := and_e gg47
  obtain ⟨w0, w1, rfl⟩ : ∃ w0 w1 : Value, args = #[w0, w1] := by
    have hs : args.size = 2 := by simpa [Cond.value, given_1] using gg46
    obtain ⟨L⟩ := args
    match L, hs with
    | [w0, w1], _ => exact ⟨w0, w1, rfl⟩
  have hw := fun d (hd : d ∈ tables_1) => atoms_spec (ws := Jvm.Cond.code x code maxLocals ret :: tables_1) hat d (List.mem_cons_of_mem _ hd)
  have hfit : Fit s := fun {y c} hc i hi => by
    obtain ⟨ha, rfl⟩ := Array.getElem?_eq_some_iff.mp hc
    have q := List.all_eq_true.mp ((Array.all_eq_true_iff_forall_mem.mp hF) _ (Array.getElem_mem ha)) i (List.mem_range.mpr hi)
    simpa [Array.getElem?_eq_getElem hi] using q
  obtain ⟨i0, ei0⟩ := isL_v gg48
  obtain rfl : w0 = (.long i0) := Option.some.inj ei0
  obtain ⟨i1, ei1⟩ := isL_v gg49
  obtain rfl : w1 = (.long i1) := Option.some.inj ei1
  obtain ⟨n, o, h1, h2, h3, _, L, rfl, ⟨rfl, N, -⟩, hq⟩ := rm0 l s _ hw tables_1 i0 i1  s.heap s.heap.size (Nat.le_refl _)  p e ha hc hk s m _ below hf ((Spec.applies_iff_loose hf).mp happ).1 ⟨rfl, State.Warmed39.refl s, rfl⟩ trivial
  refine ⟨n, _, h1, h2, h3, hpost _ _ _ _ _ _ ⟨Cond.after_iff.mpr rfl, Cond.after_iff.mpr (eq_i res_at (Term.int_eval (1)) rfl), trivial⟩ ⟨hq.1, hq.2.1, (hq.2.2.sift fun y hy => Or.inr (N y hy)).mono (by decide) (by decide)⟩⟩
theorem main_1_1 : Claimed_1_1 := comes_1 fun _ _ _ _ _ _ h hF => ⟨h.1, hF⟩
theorem main_1_2 : Claimed_1_2 := comes_1 fun _ _ _ _ _ _ h hF => ⟨h.2.1, hF⟩
end Jvm.Pilot.@@N@@
namespace Jvm.Pilot.@@N@@
open Jvm Jvm.ClassFile Sem Op Lib Jvm.Free Jvm.Stand Jvm.Pilot.@@N@@.Jvm.D
/-! MADE BY PROGRAM (witnessworld.py) out of the Statement's table words and the real class files: 9 classes; the members and pool entries that the words name. The judged class is class 1, her method 1. -/
namespace start1
open Jvm.ClassFile
def u (s : String) : CpInfo := .utf8 (stringToUtf16 s)
/-- a pool by its gaps: so many unusable entries, then the entry; so many at the end -/
def gap : Nat → List CpInfo → List CpInfo
  | 0, r => r
  | n + 1, r => .unusable :: gap n r
def poolList (es : List (Nat × CpInfo)) (last : Nat) : List CpInfo := es.foldr (fun e r => gap e.1 (e.2 :: r)) (gap last [])
def pool (es : List (Nat × CpInfo)) (last : Nat) : Array CpInfo := ⟨poolList es last⟩
def fileOf (pool : Array CpInfo) (this : Nat) (attrs : Array Attribute := #[]) (ms : Array MethodInfo := #[]) (fl : Nat := 33) (sup : Nat := 0) (ifs : Array Nat := #[]) (fds : Array FieldInfo := #[]) : ClassFile where
  minorVersion := 0
  majorVersion := 65
  constantPool := pool
  accessFlags := fl
  thisClass := this
  superClass := sup
  interfaces := ifs
  fields := fds
  methods := ms
  attributes := attrs
def plain (name : String) (sup : Option ClassId) : Class where
  name := name
  kind := .ordinary
  loader := none
  accessFlags := 33
  super := sup
  interfaces := #[]
  cf := none
  fields := #[]
  methods := #[]
  instanceTypes := #[]
  staticTypes := #[]
  resolved := #[]
  callSites := []
  init := .initialized
  statics := none
  mirror := none

def pool0 : Array CpInfo := pool [(5, u "<init>"), (0, u "()V"), (1, .class_ 10), (1, u "java/lang/Object")] 113

def k0c0 : Code := { maxStack := 0, maxLocals := 1, code := object_method_1_code, exceptionTable := #[], attributes := #[] }
def k0m0 : Method := { name := "<init>", desc := "()V", sig := { parameters := [], returnType := none }, accessFlags := 1, code := some k0c0 }
/-- java/lang/Object -/
def k0 : Class := { plain "java/lang/Object" none with
  accessFlags := 33
  interfaces := #[]
  cf := some (fileOf pool0 8 #[] #[{ accessFlags := 1, nameIndex := 5, descriptorIndex := 6, attributes := #[] }] 33 0 #[] #[])
  fields := #[]
  methods := #[k0m0]
  instanceTypes := #[]
  staticTypes := #[]
  resolved := Array.replicate 124 none
  statics := none }

def pool1 : Array CpInfo := pool [(2, .class_ 4), (1, u "java/lang/Object"), (0, u "<init>"), (0, u "()V"), (0, .methodref 8 9), (0, .class_ 10), (0, .nameAndType 11 12), (0, u "com/example/samewire/samewire/CoarseClock$Tick"), (0, u "exact"), (0, u "(J)Lcom/example/samewire/samewire/CoarseClock$Tick;"), (0, .methodref 8 14), (0, .nameAndType 15 16), (0, u "latest"), (0, u "()J"), (0, .class_ 18), (0, u "com/example/samewire/samewire/TickExactPinLaw"), (2, u "law"), (0, u "(JJ)Z")] 7

def k1m0 : Method := { name := "<init>", desc := "()V", sig := { parameters := [], returnType := none }, accessFlags := 1, code := none }
def k1c1 : Code := { maxStack := 4, maxLocals := 12, code := code, exceptionTable := #[], attributes := #[] }
def k1m1 : Method := { name := "law", desc := "(JJ)Z", sig := { parameters := [.long, .long], returnType := some .boolean }, accessFlags := 9, code := some k1c1 }
/-- com/example/samewire/samewire/TickExactPinLaw -/
def k1 : Class := { plain "com/example/samewire/samewire/TickExactPinLaw" (some 0) with
  accessFlags := 49
  interfaces := #[]
  cf := some (fileOf pool1 17 #[] #[{ accessFlags := 1, nameIndex := 5, descriptorIndex := 6, attributes := #[] }, { accessFlags := 9, nameIndex := 21, descriptorIndex := 22, attributes := #[] }] 49 2 #[] #[])
  fields := #[]
  methods := #[k1m0, k1m1]
  instanceTypes := #[]
  staticTypes := #[]
  resolved := Array.replicate 30 none
  statics := none }

def pool2 : Array CpInfo := pool [(1, .methodref 2 3), (0, .class_ 4), (0, .nameAndType 5 6), (0, u "java/lang/Object"), (0, u "<init>"), (0, u "()V"), (0, .class_ 8), (0, u "com/example/samewire/samewire/CoarseClock$Tick"), (0, .long 18446744073709551615), (1, .fieldref 7 12), (0, .nameAndType 13 14), (0, u "lasted"), (0, u "J"), (0, .fieldref 7 16), (0, .nameAndType 17 14), (0, u "at"), (0, .methodref 7 19), (0, .nameAndType 5 20), (0, u "(J)V"), (5, u "()J"), (0, u "UNENDED"), (3, u "exact"), (0, u "(J)Lcom/example/samewire/samewire/CoarseClock$Tick;"), (0, u "latest"), (5, .class_ 40), (0, u "com/example/samewire/samewire/CoarseClock")] 2

def k2c0 : Code := { maxStack := 3, maxLocals := 3, code := prog_6_method_1_code, exceptionTable := #[], attributes := #[] }
def k2m0 : Method := { name := "<init>", desc := "(J)V", sig := { parameters := [.long], returnType := none }, accessFlags := 2, code := some k2c0 }
def k2c1 : Code := { maxStack := 4, maxLocals := 3, code := prog_6_method_2_code, exceptionTable := #[], attributes := #[] }
def k2m1 : Method := { name := "exact", desc := "(J)Lcom/example/samewire/samewire/CoarseClock$Tick;", sig := { parameters := [.long], returnType := some (.object "com/example/samewire/samewire/CoarseClock$Tick") }, accessFlags := 8, code := some k2c1 }
def k2c2 : Code := { maxStack := 4, maxLocals := 3, code := prog_6_method_3_code, exceptionTable := #[], attributes := #[] }
def k2m2 : Method := { name := "latest", desc := "()J", sig := { parameters := [], returnType := some .long }, accessFlags := 0, code := some k2c2 }
/-- com/example/samewire/samewire/CoarseClock$Tick -/
def k2 : Class := { plain "com/example/samewire/samewire/CoarseClock$Tick" (some 0) with
  accessFlags := 48
  interfaces := #[]
  cf := some (fileOf pool2 7 #[.nestHost 39] #[{ accessFlags := 2, nameIndex := 5, descriptorIndex := 20, attributes := #[] }, { accessFlags := 8, nameIndex := 31, descriptorIndex := 32, attributes := #[] }, { accessFlags := 0, nameIndex := 33, descriptorIndex := 26, attributes := #[] }] 48 2 #[] #[{ accessFlags := 26, nameIndex := 27, descriptorIndex := 14, attributes := #[] }, { accessFlags := 18, nameIndex := 17, descriptorIndex := 14, attributes := #[] }, { accessFlags := 66, nameIndex := 13, descriptorIndex := 14, attributes := #[] }])
  fields := #[{ name := "UNENDED", type := .long, accessFlags := 26, slot := 0, constantValue := 0 }, { name := "at", type := .long, accessFlags := 18, slot := 0, constantValue := 0 }, { name := "lasted", type := .long, accessFlags := 66, slot := 1, constantValue := 0 }]
  methods := #[k2m0, k2m1, k2m2]
  instanceTypes := #[.long, .long]
  staticTypes := #[.long]
  resolved := Array.replicate 43 none
  statics := none }

def pool3 : Array CpInfo := pool [(1, u "java/lang/Cloneable"), (0, .class_ 1), (0, u "java/lang/Object"), (0, .class_ 3)] 3

/-- java/lang/Cloneable -/
def k3 : Class := { plain "java/lang/Cloneable" (some 0) with
  accessFlags := 1537
  interfaces := #[]
  cf := some (fileOf pool3 2 #[] #[] 1537 4 #[] #[])
  fields := #[]
  methods := #[]
  instanceTypes := #[]
  staticTypes := #[]
  resolved := Array.replicate 8 none
  statics := none }

def pool4 : Array CpInfo := pool [(1, u "java/io/Serializable"), (0, .class_ 1), (0, u "java/lang/Object"), (0, .class_ 3)] 3

/-- java/io/Serializable -/
def k4 : Class := { plain "java/io/Serializable" (some 0) with
  accessFlags := 1537
  interfaces := #[]
  cf := some (fileOf pool4 2 #[] #[] 1537 4 #[] #[])
  fields := #[]
  methods := #[]
  instanceTypes := #[]
  staticTypes := #[]
  resolved := Array.replicate 8 none
  statics := none }

/-- the primitive byte -/
def k5 : Class := { plain "byte" none with kind := .primitive 'B', accessFlags := 0x411 }
/-- [B -/
def k6 : Class := { plain "[B" (some 0) with kind := .array 5 .byte, interfaces := #[3, 4], accessFlags := 1041 }

/-- the primitive int -/
def k7 : Class := { plain "int" none with kind := .primitive 'I', accessFlags := 0x411 }
/-- [I -/
def k8 : Class := { plain "[I" (some 0) with kind := .array 7 .int, interfaces := #[3, 4], accessFlags := 1041 }

def heap : Heap := #[]
def classes : Array Class := #[k0, k1, k2, k3, k4, k5, k6, k7, k8]
def interned : List (Array UInt16 × Addr) := []
def slotsUsed : Nat := 0
def theMethod : MethodId := ⟨1, 1⟩
def args0 : Array Value := #[.long 5, .long 7]
def aboutOver (below : List Frame) : State where
  vm := { classes := classes, interned := interned.toArray }
  heap := heap
  slotsUsed := slotsUsed
  threads := #[{ frames := .invoking theMethod args0 :: below }]
def below0 : List Frame := [.native { method := ⟨0, 0⟩, args := #[] }]
def about1 : State := aboutOver below0
def p0 : Program := .bare "" "" ""
def e0 : Env := launch0.env 0 0 0
theorem w_frames : about1.frames = Frame.invoking theMethod args0 :: below0 := rfl
set_option maxRecDepth 65536 in
theorem w_args : argsFit about1.vm theMethod args0 = true := by decide +kernel
set_option maxRecDepth 65536 in
theorem w_heap : heapFits about1 = true := by decide +kernel
set_option maxRecDepth 65536 in
theorem w_runnable : about1.curStatus? = some .runnable := by decide +kernel
set_option maxRecDepth 65536 in
theorem w_alone : about1.alone = true := by decide +kernel
set_option maxRecDepth 65536 in
theorem w_named : about1.methodNamed? x = some theMethod := by decide +kernel
set_option maxRecDepth 65536 in
theorem w_hears : about1.hears theMethod below0 = true := by decide +kernel
set_option maxRecDepth 65536 in
theorem w_ripe : about1.ripe theMethod args0 below0 = true := by decide +kernel
theorem w_running : about1.status = .running := rfl
set_option maxRecDepth 65536 in
theorem w_room : about1.hasRoom e0.platform room_1 = true :=
  launch0.hasRoom_least _ room_1 (by decide +kernel) (by decide +kernel) (by decide +kernel) (by decide +kernel) (by decide +kernel) (by decide +kernel)
theorem allAtoms_all (ts : List Jvm.Cond) (a : Array Jvm.Value) (st : Jvm.State) : (allAtoms ts).before a st = ts.all (fun c => c.before a st) := by
  induction ts with
  | nil => rfl
  | cons c t ih =>
    show (Jvm.Cond.and c (allAtoms t)).before a st = _
    rw [Jvm.Cond.before_and, ih, List.all_cons]
def words1 : List Jvm.Cond := Jvm.Cond.code x code maxLocals ret :: tables_1
/-- a 'code' word, met by the world's own term for the bytes: nothing is compared byte by byte -/
theorem code_word {y : MethodName} {bytes : ByteArray} {mx : Nat} {rt : Option FieldType} {a : Array Value} {s : State} {m : MethodId} {meth : Method} {c : Code} (h1 : s.methodNamed? y = some m) (h2 : s.vm.method? m = some meth) (h3 : meth.code = some c) (h4 : c.code = bytes)
    (h5 : (c.maxLocals == mx && c.exceptionTable.isEmpty && decide (c.maxStack ≤ mostOperands) && decide (meth.sig.returnType = rt) && !meth.locks && decide (parseMethodDescriptor y.desc = some meth.sig)) = true) : (Jvm.Cond.code y bytes mx rt).before a s = true := by
  simp only [Bool.and_eq_true, beq_iff_eq, Bool.not_eq_true', decide_eq_true_eq] at h5
  obtain ⟨⟨⟨⟨⟨g1, g2⟩, g3⟩, g4⟩, g5⟩, g6⟩ := h5
  simp [Cond.before, Cond.holds, Cond.value, h1, h2, h3, h4, g1, g2, g3, g4, g5, g6]
def isCode : Jvm.Cond → Bool
  | .code _ _ _ _ => true
  | _ => false
theorem all_split {L : List Jvm.Cond} {P : Jvm.Cond → Bool} (h1 : L.all (fun c => isCode c || P c) = true) (h2 : ∀ c ∈ L.filter isCode, P c = true) : L.all P = true := by
  refine List.all_eq_true.mpr fun c hc => ?_
  have h := List.all_eq_true.mp h1 c hc
  rcases Bool.eq_false_or_eq_true (isCode c) with hi | hi
  · exact h2 c (List.mem_filter.mpr ⟨hc, hi⟩)
  · simpa [hi] using h
set_option maxRecDepth 65536 in
theorem w_c0 : (Jvm.Cond.code x code maxLocals ret).before args0 about1 = true := code_word (m := ⟨1, 1⟩) (meth := k1m1) (c := k1c1) (by decide +kernel) rfl rfl rfl (by decide +kernel)
set_option maxRecDepth 65536 in
theorem w_c1 : (Jvm.Cond.code ({ cls := "com/example/samewire/samewire/CoarseClock$Tick", name := "exact", desc := "(J)Lcom/example/samewire/samewire/CoarseClock$Tick;" } : Jvm.MethodName) prog_6_method_2_code (3 : Nat) (Option.some (Jvm.ClassFile.FieldType.object "com/example/samewire/samewire/CoarseClock$Tick"))).before args0 about1 = true := code_word (m := ⟨2, 1⟩) (meth := k2m1) (c := k2c1) (by decide +kernel) rfl rfl rfl (by decide +kernel)
set_option maxRecDepth 65536 in
theorem w_c2 : (Jvm.Cond.code ({ cls := "com/example/samewire/samewire/CoarseClock$Tick", name := "<init>", desc := "(J)V" } : Jvm.MethodName) prog_6_method_1_code (3 : Nat) (Option.none : Option Jvm.ClassFile.FieldType)).before args0 about1 = true := code_word (m := ⟨2, 0⟩) (meth := k2m0) (c := k2c0) (by decide +kernel) rfl rfl rfl (by decide +kernel)
set_option maxRecDepth 65536 in
theorem w_c3 : (Jvm.Cond.code ({ cls := "java/lang/Object", name := "<init>", desc := "()V" } : Jvm.MethodName) object_method_1_code (1 : Nat) (Option.none : Option Jvm.ClassFile.FieldType)).before args0 about1 = true := code_word (m := ⟨0, 0⟩) (meth := k0m0) (c := k0c0) (by decide +kernel) rfl rfl rfl (by decide +kernel)
set_option maxRecDepth 65536 in
theorem w_c4 : (Jvm.Cond.code ({ cls := "com/example/samewire/samewire/CoarseClock$Tick", name := "latest", desc := "()J" } : Jvm.MethodName) prog_6_method_3_code (3 : Nat) (Option.some Jvm.ClassFile.FieldType.long)).before args0 about1 = true := code_word (m := ⟨2, 2⟩) (meth := k2m2) (c := k2c2) (by decide +kernel) rfl rfl rfl (by decide +kernel)
def codes1 : List Jvm.Cond := [Jvm.Cond.code x code maxLocals ret, Jvm.Cond.code ({ cls := "com/example/samewire/samewire/CoarseClock$Tick", name := "exact", desc := "(J)Lcom/example/samewire/samewire/CoarseClock$Tick;" } : Jvm.MethodName) prog_6_method_2_code (3 : Nat) (Option.some (Jvm.ClassFile.FieldType.object "com/example/samewire/samewire/CoarseClock$Tick")), Jvm.Cond.code ({ cls := "com/example/samewire/samewire/CoarseClock$Tick", name := "<init>", desc := "(J)V" } : Jvm.MethodName) prog_6_method_1_code (3 : Nat) (Option.none : Option Jvm.ClassFile.FieldType), Jvm.Cond.code ({ cls := "java/lang/Object", name := "<init>", desc := "()V" } : Jvm.MethodName) object_method_1_code (1 : Nat) (Option.none : Option Jvm.ClassFile.FieldType), Jvm.Cond.code ({ cls := "com/example/samewire/samewire/CoarseClock$Tick", name := "latest", desc := "()J" } : Jvm.MethodName) prog_6_method_3_code (3 : Nat) (Option.some Jvm.ClassFile.FieldType.long)]
set_option maxRecDepth 65536 in
theorem codes_eq : words1.filter isCode = codes1 := rfl
theorem w_codes : ∀ c ∈ words1.filter isCode, c.before args0 about1 = true := by
  rw [codes_eq]
  intro c hc
  simp only [codes1, List.mem_cons, List.not_mem_nil, or_false] at hc
  rcases hc with rfl | rfl | rfl | rfl | rfl
  · exact w_c0
  · exact w_c1
  · exact w_c2
  · exact w_c3
  · exact w_c4
set_option maxRecDepth 65536 in
theorem w_t1 : words1.all (fun c => isCode c || c.before args0 about1) = true := by decide +kernel
theorem w_tables : (allAtoms (Jvm.Cond.code x code maxLocals ret :: tables_1)).before args0 about1 = true := by
  rw [allAtoms_all]
  show words1.all (fun c => c.before args0 about1) = true
  refine all_split ?_ w_codes
  rw [w_t1]
set_option maxRecDepth 65536 in
theorem w_case : (Jvm.Cond.and given_1 narrow_1).before args0 about1 = true := by decide +kernel
theorem w_applies : (headSpec (Jvm.Cond.code x code maxLocals ret :: tables_1) room_1).applies x e0.platform about1 = true :=
  (Spec.applies_iff w_frames).mpr ⟨w_running, w_runnable, w_alone, w_named, w_hears, w_ripe, w_room, w_tables⟩
theorem atStart : AtStart classFile x code maxLocals ret World_1 tables_1 room_1 Calls_1 rest_1 Pre_1 launch0 p0 e0 about1 theMethod args0 below0 :=
  ⟨lists_1, trivial, launch0.admits_env _ _ _, launch0.least_env, fairChoices_fair.cas, fairChoices_fair.clock, w_frames, w_args, w_heap, w_applies, trivial, trivial, w_case⟩
end start1
theorem witness_1 : WitnessClaimed_1 := ⟨start1.p0, start1.e0, start1.about1, start1.theMethod, start1.args0, start1.below0, start1.atStart⟩
end Jvm.Pilot.@@N@@
