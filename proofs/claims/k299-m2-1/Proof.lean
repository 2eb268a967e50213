import JvmDerived
import JvmDerived.Pilot.@@N@@Statement
import JvmDerived.Pilot.@@N@@Code
set_option linter.unusedVariables false
set_option linter.unusedSimpArgs false
namespace Jvm.Pilot.@@N@@
open Jvm Jvm.ClassFile Sem Op Lib Jvm.Free Jvm.Stand Jvm.LawKit Jvm.RoadKit Bundle Jvm.Pilot.@@N@@.Jvm.D
theorem own_ne_arr {Z : State} {h : Heap} {a b : Addr} {C : String} {a0 : Array Value} {kk : Nat} {k : ClassId} {ty : FieldType} {n : Int32} {vs : List Value} {d : Value} (F : Exa Z h a C) (wi : (Cond.instantiable C kk).before a0 Z = true) (V : Arv Z h b k ty n vs d) : a ≠ b := by
  obtain ⟨c, A, -⟩ := V
  exact ne_arr F wi A
theorem own_cast {tb : Tables} {e : Env} {below : List Frame} {t : State} {A : Type} (f : A → State) {a b : A} (h : a = b) (k : Steps tb e below (f b) t) : Steps tb e below (f a) t := h ▸ k
theorem d1_0 : decode prog_75_method_4_code 0 = .ok (.aload_n 0, 1) := by decide +kernel
theorem d1_1 : decode prog_75_method_4_code 1 = .ok (.getstatic 7, 3) := by decide +kernel
theorem d1_4 : decode prog_75_method_4_code 4 = .ok (.if_acmp .eq 10, 3) := by decide +kernel
theorem d1_14 : decode prog_75_method_4_code 14 = .ok (.iconst 1, 1) := by decide +kernel
theorem d1_15 : decode prog_75_method_4_code 15 = .ok (.goto 4, 3) := by decide +kernel
theorem d1_7 : decode prog_75_method_4_code 7 = .ok (.aload_n 1, 1) := by decide +kernel
theorem d1_8 : decode prog_75_method_4_code 8 = .ok (.getstatic 7, 3) := by decide +kernel
theorem d1_11 : decode prog_75_method_4_code 11 = .ok (.if_acmp .ne 7, 3) := by decide +kernel
theorem d1_18 : decode prog_75_method_4_code 18 = .ok (.iconst 0, 1) := by decide +kernel
def own_cf (b : Addr) (b2 : Addr) (wE : Addr) : Int32 := (if b = wE then (1 : Int32) else (if b2 = wE then (1 : Int32) else (0 : Int32)))
theorem d1_19 : decode prog_75_method_4_code 19 = .ok (.ireturn, 1) := by decide +kernel
theorem ef_rmCf (m : MethodId) (x0 : Addr) (x1 : Addr) : entryFrame m #[(.ref x0), (.ref x1)] 2 = mkF m 0 #[.val (.ref x0), .val (.ref x1)] [] := by first | (simp [entryFrame, mkF, argsToLocals, Value.category]; done) | rfl
def QCf (Z : State) (b : Addr) (b2 : Addr) (wE : Addr) (h0 : Heap) (n0 : Nat) (v : Option Value) (h : Heap) (L : List Loc) : Prop := v = some (.int (own_cf b b2 wE)) ∧ Fr n0 L ∧ h = h0
theorem pn_0 : plainName "com/example/redoubt/redoubt/txn/LockTable$Mode" = true := by first | (simp [plainName, overriddenIn]; done) | decide +kernel
set_option maxRecDepth 65536 in
set_option maxHeartbeats 40000000 in
theorem rmCf (l : Launch) (Z : State) (a0 : Array Value) (hw : ∀ d ∈ tables_1, d.before a0 Z = true) (ws : List Jvm.Cond) (b : Addr) (b2 : Addr) (wE : Addr) (h0 : Heap) (n0 : Nat) (Z0 : n0 ≤ h0.size) (S_EXCLUSIVE : Sta Z h0 "com/example/redoubt/redoubt/txn/LockTable$Mode" "EXCLUSIVE" "Lcom/example/redoubt/redoubt/txn/LockTable$Mode;" (.ref wE)) :
    MetFree l (⟨"com/example/redoubt/redoubt/txn/LockTable$Mode", "conflictsWith", "(Lcom/example/redoubt/redoubt/txn/LockTable$Mode;)Z"⟩ : MethodName) (head1 (Jvm.Cond.code (⟨"com/example/redoubt/redoubt/txn/LockTable$Mode", "conflictsWith", "(Lcom/example/redoubt/redoubt/txn/LockTable$Mode;)Z"⟩ : MethodName) prog_75_method_4_code 2 (some .boolean) :: ws) ({ frames := 0, cells := 0, slots := 0, locals := 0 } : Room)) (fun aA uU => aA = #[(.ref b), (.ref b2)] ∧ Z.Warmed39 uU.vm ∧ uU.heap = h0) (fun _ _ _ _ _ => True) (fun _ uU oO uU' => ∃ vV lL, oO = .returned vV ∧ QCf Z b b2 wE h0 n0 vV uU'.heap lL ∧ FrameEnd uU oO uU' lL ({ frames := 0, cells := 0, slots := 0, locals := 0 } : Room).cells ({ frames := 0, cells := 0, slots := 0, locals := 0 } : Room).slots) := by
  refine MetFree.of_bodySF (plainFor_of_name pn_0) hisR ?_
  intro p e s m args below meth c s₁ Bd hml0 hP hK
  obtain ⟨rfl, hZ, hh⟩ := hP
  have hx := Bd.exec
  have hby := Bd.bytes
  have hml : c.maxLocals = 2 := hml0
  have hown : s.vm.findClass "com/example/redoubt/redoubt/txn/LockTable$Mode" = some m.cls := findClass_of_methodNamed Bd.named
  have hnm := (name_of_methodNamed Bd.named Bd.method).1
  have X0 : Stand p l e ({ frames := 0, cells := 0, slots := 0, locals := 0 } : Room) s m #[(.ref b), (.ref b2)] below meth c s₁ [] 0 0 := Stand.of_body Bd
  have e0 : s₁.heap = h0 := by rw [← hh, Bd.state]; rfl
  have N0 := Fr.nil n0
  have pre0 : ∀ t, Steps p.tables e below (s₁.setTop (mkF m 0 #[.val (.ref b), .val (.ref b2)] [])) t → Steps p.tables e below (s₁.setTop (entryFrame m #[(.ref b), (.ref b2)] 2)) t := fun t kk => castTop (ef_rmCf m b b2) kk
  obtain ⟨T1, X1, e1, st1⟩ := getS2 X0 hx hZ hown (host := "") (Or.inl (hw _ (List.mem_of_getElem? (i := 10) rfl))) Via.refl e0 S_EXCLUSIVE (g := (mkF m 1 #[.val (.ref b), .val (.ref b2)] [(.ref b)])) rfl (hb hby d1_1)
  have pre2 : ∀ t, Steps p.tables e below (T1.setTop (mkF m 4 #[.val (.ref b), .val (.ref b2)] [(.ref wE), (.ref b)])) t → Steps p.tables e below (s₁.setTop (entryFrame m #[(.ref b), (.ref b2)] 2)) t := fun t kk => pre0 t (by
      show Steps p.tables e below (s₁.setTop (mkF m 0 #[.val (.ref b), .val (.ref b2)] [])) _
      refine XS.aloadN X0.here hx rfl (hb hby d1_0) rfl rfl ?_
      show Steps p.tables e below (s₁.setTop (mkF m 1 #[.val (.ref b), .val (.ref b2)] [(.ref b)])) _
      refine st1 _ ?_
      exact kk)
  by_cases hc3 : b = wE
  · have pre7 : ∀ t, Steps p.tables e below (T1.setTop (mkF m 19 #[.val (.ref b), .val (.ref b2)] [(.int (1 : Int32))])) t → Steps p.tables e below (s₁.setTop (entryFrame m #[(.ref b), (.ref b2)] 2)) t := fun t kk => pre2 t (by
        show Steps p.tables e below (T1.setTop (mkF m 4 #[.val (.ref b), .val (.ref b2)] [(.ref wE), (.ref b)])) _
        refine Jvm.RoadKit.acmp (g := (mkF m 4 #[.val (.ref b), .val (.ref b2)] [(.ref wE), (.ref b)])) X1 hx rfl rfl rfl (pc0 := 4) (pc' := 14) (same := true) rfl (hb hby d1_4) rfl (decide_eq_true (congrArg Value.ref hc3)) (by decide) (by decide) ?_
        show Steps p.tables e below (T1.setTop (mkF m 14 #[.val (.ref b), .val (.ref b2)] [])) _
        refine XS.iconst X1.here hx rfl (hb hby d1_14) ?_
        show Steps p.tables e below (T1.setTop (mkF m 15 #[.val (.ref b), .val (.ref b2)] [(.int (1 : Int32))])) _
        refine XS.goto X1.here hx rfl (pc0 := 15) (pc' := 19) rfl (hb hby d1_15) (by decide) (by decide) ?_
        exact kk)
    obtain ⟨fs, hr, hrun, hended, hW, hsame⟩ := X1.leave (v := some (.int (1 : Int32))) (fun h => by rw [Bd.returns] at h; cases h)
    refine ⟨_, _, pre7 _ ?_, hrun, hended, _, _, rfl, ?_, ⟨_, rfl⟩, hW, hsame.mono (by decide) (by decide)⟩
    · show Steps p.tables e below (T1.setTop (mkF m 19 #[.val (.ref b), .val (.ref b2)] [(.int (1 : Int32))])) _
      exact retN X1 hx (t := .boolean) Bd.returns (by simp) (hb hby d1_19) hr
    · show QCf Z b b2 wE h0 n0 _ T1.heap _
      rw [e1]
      exact ⟨(by unfold own_cf; rw [if_pos hc3]), N0, rfl⟩
  · obtain ⟨T4, X4, e4, st4⟩ := getS2 X1 hx hZ hown (host := "") (Or.inl (hw _ (List.mem_of_getElem? (i := 10) rfl))) Via.refl e1 S_EXCLUSIVE (g := (mkF m 8 #[.val (.ref b), .val (.ref b2)] [(.ref b2)])) rfl (hb hby d1_8)
    have pre5 : ∀ t, Steps p.tables e below (T4.setTop (mkF m 11 #[.val (.ref b), .val (.ref b2)] [(.ref wE), (.ref b2)])) t → Steps p.tables e below (s₁.setTop (entryFrame m #[(.ref b), (.ref b2)] 2)) t := fun t kk => pre2 t (by
        show Steps p.tables e below (T1.setTop (mkF m 4 #[.val (.ref b), .val (.ref b2)] [(.ref wE), (.ref b)])) _
        refine Jvm.RoadKit.acmp (g := (mkF m 4 #[.val (.ref b), .val (.ref b2)] [(.ref wE), (.ref b)])) X1 hx rfl rfl rfl (pc0 := 4) (pc' := 7) (same := false) rfl (hb hby d1_4) rfl (decide_eq_false fun q => hc3 (Value.ref.inj q)) (by decide) (by decide) ?_
        show Steps p.tables e below (T1.setTop (mkF m 7 #[.val (.ref b), .val (.ref b2)] [])) _
        refine XS.aloadN X1.here hx rfl (hb hby d1_7) rfl rfl ?_
        show Steps p.tables e below (T1.setTop (mkF m 8 #[.val (.ref b), .val (.ref b2)] [(.ref b2)])) _
        refine st4 _ ?_
        exact kk)
    by_cases hc6 : b2 = wE
    · have pre8 : ∀ t, Steps p.tables e below (T4.setTop (mkF m 19 #[.val (.ref b), .val (.ref b2)] [(.int (1 : Int32))])) t → Steps p.tables e below (s₁.setTop (entryFrame m #[(.ref b), (.ref b2)] 2)) t := fun t kk => pre5 t (by
          show Steps p.tables e below (T4.setTop (mkF m 11 #[.val (.ref b), .val (.ref b2)] [(.ref wE), (.ref b2)])) _
          refine Jvm.RoadKit.acmp (g := (mkF m 11 #[.val (.ref b), .val (.ref b2)] [(.ref wE), (.ref b2)])) X4 hx rfl rfl rfl (pc0 := 11) (pc' := 14) (same := true) rfl (hb hby d1_11) rfl (decide_eq_true (congrArg Value.ref hc6)) (by decide) (by decide) ?_
          show Steps p.tables e below (T4.setTop (mkF m 14 #[.val (.ref b), .val (.ref b2)] [])) _
          refine XS.iconst X4.here hx rfl (hb hby d1_14) ?_
          show Steps p.tables e below (T4.setTop (mkF m 15 #[.val (.ref b), .val (.ref b2)] [(.int (1 : Int32))])) _
          refine XS.goto X4.here hx rfl (pc0 := 15) (pc' := 19) rfl (hb hby d1_15) (by decide) (by decide) ?_
          exact kk)
      obtain ⟨fs, hr, hrun, hended, hW, hsame⟩ := X4.leave (v := some (.int (1 : Int32))) (fun h => by rw [Bd.returns] at h; cases h)
      refine ⟨_, _, pre8 _ ?_, hrun, hended, _, _, rfl, ?_, ⟨_, rfl⟩, hW, hsame.mono (by decide) (by decide)⟩
      · show Steps p.tables e below (T4.setTop (mkF m 19 #[.val (.ref b), .val (.ref b2)] [(.int (1 : Int32))])) _
        exact retN X4 hx (t := .boolean) Bd.returns (by simp) (hb hby d1_19) hr
      · show QCf Z b b2 wE h0 n0 _ T4.heap _
        rw [e4]
        exact ⟨(by unfold own_cf; rw [if_neg hc3, if_pos hc6]), N0, rfl⟩
    · have pre9 : ∀ t, Steps p.tables e below (T4.setTop (mkF m 19 #[.val (.ref b), .val (.ref b2)] [(.int (0 : Int32))])) t → Steps p.tables e below (s₁.setTop (entryFrame m #[(.ref b), (.ref b2)] 2)) t := fun t kk => pre5 t (by
          show Steps p.tables e below (T4.setTop (mkF m 11 #[.val (.ref b), .val (.ref b2)] [(.ref wE), (.ref b2)])) _
          refine Jvm.RoadKit.acmp (g := (mkF m 11 #[.val (.ref b), .val (.ref b2)] [(.ref wE), (.ref b2)])) X4 hx rfl rfl rfl (pc0 := 11) (pc' := 18) (same := false) rfl (hb hby d1_11) rfl (decide_eq_false fun q => hc6 (Value.ref.inj q)) (by decide) (by decide) ?_
          show Steps p.tables e below (T4.setTop (mkF m 18 #[.val (.ref b), .val (.ref b2)] [])) _
          refine XS.iconst X4.here hx rfl (hb hby d1_18) ?_
          exact kk)
      obtain ⟨fs, hr, hrun, hended, hW, hsame⟩ := X4.leave (v := some (.int (0 : Int32))) (fun h => by rw [Bd.returns] at h; cases h)
      refine ⟨_, _, pre9 _ ?_, hrun, hended, _, _, rfl, ?_, ⟨_, rfl⟩, hW, hsame.mono (by decide) (by decide)⟩
      · show Steps p.tables e below (T4.setTop (mkF m 19 #[.val (.ref b), .val (.ref b2)] [(.int (0 : Int32))])) _
        exact retN X4 hx (t := .boolean) Bd.returns (by simp) (hb hby d1_19) hr
      · show QCf Z b b2 wE h0 n0 _ T4.heap _
        rw [e4]
        exact ⟨(by unfold own_cf; rw [if_neg hc3, if_neg hc6]), N0, rfl⟩
theorem pd_0 : parseMethodDescriptor "(Lcom/example/redoubt/redoubt/txn/LockTable$Mode;)Z" = some ⟨[(.object "com/example/redoubt/redoubt/txn/LockTable$Mode")], some .boolean⟩ := by decide +kernel
theorem ef_rm0 (m : MethodId) (x0 : Int32) (x1 : Int32) : entryFrame m #[(.int x0), (.int x1)] maxLocals = mkF m 0 #[.val (.int x0), .val (.int x1), .unset, .unset, .unset, .unset, .unset, .unset, .unset] [] := by first | (simp [entryFrame, mkF, argsToLocals, Value.category, maxLocals]; done) | rfl
def Q0 (Z : State) (p0 : Int32) (p1 : Int32) (wS : Addr) (wE : Addr) (h0 : Heap) (n0 : Nat) (v : Option Value) (h : Heap) (L : List Loc) : Prop := v = some (.int (1 : Int32)) ∧ Fr n0 L ∧ Keep h0 h []
theorem pn_1 : plainName "com/example/redoubt/redoubt/txn/ModeConflictsWithPinLaw" = true := by first | (simp [plainName, overriddenIn]; done) | decide +kernel
set_option maxRecDepth 65536 in
set_option maxHeartbeats 40000000 in
theorem rm0 (l : Launch) (Z : State) (a0 : Array Value) (hw : ∀ d ∈ tables_1, d.before a0 Z = true) (ws : List Jvm.Cond) (p0 : Int32) (p1 : Int32) (wS : Addr) (wE : Addr) (h0 : Heap) (n0 : Nat) (Z0 : n0 ≤ h0.size) (S_SHARED : Sta Z h0 "com/example/redoubt/redoubt/txn/LockTable$Mode" "SHARED" "Lcom/example/redoubt/redoubt/txn/LockTable$Mode;" (.ref wS)) (S_EXCLUSIVE : Sta Z h0 "com/example/redoubt/redoubt/txn/LockTable$Mode" "EXCLUSIVE" "Lcom/example/redoubt/redoubt/txn/LockTable$Mode;" (.ref wE)) (E_wS : Exa Z h0 wS "com/example/redoubt/redoubt/txn/LockTable$Mode") (E_wE : Exa Z h0 wE "com/example/redoubt/redoubt/txn/LockTable$Mode") (hne : ¬ (wS = wE)) :
    MetFree l x (head1 (Jvm.Cond.code x code maxLocals ret :: ws) room_1) (fun aA uU => aA = #[(.int p0), (.int p1)] ∧ Z.Warmed39 uU.vm ∧ uU.heap = h0) (fun _ _ _ _ _ => True) (fun _ uU oO uU' => ∃ vV lL, oO = .returned vV ∧ Q0 Z p0 p1 wS wE h0 n0 vV uU'.heap lL ∧ FrameEnd uU oO uU' lL room_1.cells room_1.slots) := by
  refine MetFree.of_bodySF (plainFor_of_name pn_1) hisR ?_
  intro p e s m args below meth c s₁ Bd hml0 hP hK
  obtain ⟨rfl, hZ, hh⟩ := hP
  have hx := Bd.exec
  have hby := Bd.bytes
  have hml : c.maxLocals = 9 := hml0
  have hown : s.vm.findClass "com/example/redoubt/redoubt/txn/ModeConflictsWithPinLaw" = some m.cls := findClass_of_methodNamed Bd.named
  have hnm := (name_of_methodNamed Bd.named Bd.method).1
  have X0 : Stand p l e room_1 s m #[(.int p0), (.int p1)] below meth c s₁ [] 0 0 := Stand.of_body Bd
  have e0 : s₁.heap = h0 := by rw [← hh, Bd.state]; rfl
  have N0 := Fr.nil n0
  have pre0 : ∀ t, Steps p.tables e below (s₁.setTop (mkF m 0 #[.val (.int p0), .val (.int p1), .unset, .unset, .unset, .unset, .unset, .unset, .unset] [])) t → Steps p.tables e below (s₁.setTop (entryFrame m #[(.int p0), (.int p1)] maxLocals)) t := fun t kk => castTop (ef_rm0 m p0 p1) kk
  have pre10 : ∀ t, Steps p.tables e below (s₁.setTop (mkF m 3 #[.val (.int p0), .val (.int p1), .unset, .unset, .unset, .unset, .unset, .unset, .unset] [(.int (p0 &&& (1 : Int32)))])) t → Steps p.tables e below (s₁.setTop (entryFrame m #[(.int p0), (.int p1)] maxLocals)) t := fun t kk => pre0 t (by
      show Steps p.tables e below (s₁.setTop (mkF m 0 #[.val (.int p0), .val (.int p1), .unset, .unset, .unset, .unset, .unset, .unset, .unset] [])) _
      refine XS.iloadN X0.here hx rfl (hb hby at_0) rfl ?_
      show Steps p.tables e below (s₁.setTop (mkF m 1 #[.val (.int p0), .val (.int p1), .unset, .unset, .unset, .unset, .unset, .unset, .unset] [(.int p0)])) _
      refine XS.iconst X0.here hx rfl (hb hby at_1) ?_
      show Steps p.tables e below (s₁.setTop (mkF m 2 #[.val (.int p0), .val (.int p1), .unset, .unset, .unset, .unset, .unset, .unset, .unset] [(.int (1 : Int32)), (.int p0)])) _
      refine XS.iand X0.here hx rfl (hb hby at_2) rfl ?_
      exact kk)
  by_cases hc11 : (p0 &&& (1 : Int32)) = (0 : Int32)
  · have pre12 : ∀ t, Steps p.tables e below (s₁.setTop (mkF m 15 #[.val (.int p0), .val (.int p1), .val (.int (0 : Int32)), .unset, .unset, .unset, .unset, .unset, .unset] [(.int (p1 &&& (1 : Int32)))])) t → Steps p.tables e below (s₁.setTop (entryFrame m #[(.int p0), (.int p1)] maxLocals)) t := fun t kk => pre10 t (by
        show Steps p.tables e below (s₁.setTop (mkF m 3 #[.val (.int p0), .val (.int p1), .unset, .unset, .unset, .unset, .unset, .unset, .unset] [(.int (p0 &&& (1 : Int32)))])) _
        refine XS.ifYes X0.here hx rfl (pc0 := 3) (pc' := 10) rfl (hb hby at_3) rfl ((if0 _ _).trans (teq hc11).1) (by decide) (by decide) ?_
        show Steps p.tables e below (s₁.setTop (mkF m 10 #[.val (.int p0), .val (.int p1), .unset, .unset, .unset, .unset, .unset, .unset, .unset] [])) _
        refine XS.iconst X0.here hx rfl (hb hby at_10) ?_
        show Steps p.tables e below (s₁.setTop (mkF m 11 #[.val (.int p0), .val (.int p1), .unset, .unset, .unset, .unset, .unset, .unset, .unset] [(.int (0 : Int32))])) _
        refine XS.istoreN X0.here hx rfl (hb hby at_11) rfl (l' := #[.val (.int p0), .val (.int p1), .val (.int (0 : Int32)), .unset, .unset, .unset, .unset, .unset, .unset]) rfl ?_
        show Steps p.tables e below (s₁.setTop (mkF m 12 #[.val (.int p0), .val (.int p1), .val (.int (0 : Int32)), .unset, .unset, .unset, .unset, .unset, .unset] [])) _
        refine XS.iloadN X0.here hx rfl (hb hby at_12) rfl ?_
        show Steps p.tables e below (s₁.setTop (mkF m 13 #[.val (.int p0), .val (.int p1), .val (.int (0 : Int32)), .unset, .unset, .unset, .unset, .unset, .unset] [(.int p1)])) _
        refine XS.iconst X0.here hx rfl (hb hby at_13) ?_
        show Steps p.tables e below (s₁.setTop (mkF m 14 #[.val (.int p0), .val (.int p1), .val (.int (0 : Int32)), .unset, .unset, .unset, .unset, .unset, .unset] [(.int (1 : Int32)), (.int p1)])) _
        refine XS.iand X0.here hx rfl (hb hby at_14) rfl ?_
        exact kk)
    by_cases hc13 : (p1 &&& (1 : Int32)) = (0 : Int32)
    · obtain ⟨T14, X14, e14, st14⟩ := getS2 X0 hx hZ hown (host := "") (Or.inl (hw _ (List.mem_of_getElem? (i := 0) rfl))) Via.refl e0 S_SHARED (g := (mkF m 34 #[.val (.int p0), .val (.int p1), .val (.int (0 : Int32)), .val (.int (0 : Int32)), .unset, .unset, .unset, .unset, .unset] [])) rfl (hb hby at_34)
      obtain ⟨T15, X15, e15, st15⟩ := getS2 X14 hx hZ hown (host := "") (Or.inl (hw _ (List.mem_of_getElem? (i := 0) rfl))) Via.refl e14 S_SHARED (g := (mkF m 49 #[.val (.int p0), .val (.int p1), .val (.int (0 : Int32)), .val (.int (0 : Int32)), .val (.ref wS), .unset, .unset, .unset, .unset] [])) rfl (hb hby at_49)
      obtain ⟨cq16, kq16, q16a, q16b, q16c⟩ := isOf hZ e15 E_wS
      obtain ⟨_, _, ⟨T16, L16, k16, n16⟩, -, X16, ⟨Lc16, hQ16, l16, y16, z16⟩, st16⟩ := X15.virtualBack hx (y := (⟨"com/example/redoubt/redoubt/txn/LockTable$Mode", "conflictsWith", "(Lcom/example/redoubt/redoubt/txn/LockTable$Mode;)Z"⟩ : MethodName)) (z := (⟨"com/example/redoubt/redoubt/txn/LockTable$Mode", "conflictsWith", "(Lcom/example/redoubt/redoubt/txn/LockTable$Mode;)Z"⟩ : MethodName)) hown (mvT hZ (hw _ (List.mem_of_getElem? (i := 5) rfl))) (mvT hZ (hw _ (List.mem_of_getElem? (i := 6) rfl))) (notFace_of_selects (args := #[]) (mvT hZ (hw _ (List.mem_of_getElem? (i := 8) rfl)))) (mvT hZ (hw _ (List.mem_of_getElem? (i := 8) rfl))) (mvT hZ (hw _ (List.mem_of_getElem? (i := 7) rfl))) (by decide) (backOf (W := 0) (rmCf l Z a0 hw [] wS wS wE h0 n0 Z0 S_EXCLUSIVE) hZ (hw _ (List.mem_of_getElem? (i := 9) rfl)) (hw _ (List.mem_of_getElem? (i := 1) rfl)) (by decide) (by decide)) q16a q16c (g := (mkF m 81 #[.val (.int p0), .val (.int p1), .val (.int (0 : Int32)), .val (.int (0 : Int32)), .val (.ref wS), .val (.ref wS), .val (.int (0 : Int32)), .unset, .unset] [(.ref wS), (.ref wS)])) rfl (by rw [hml]; rfl) (Steps.refl _) (argsL := [(.ref wS)]) (rest := []) (lenOf pd_0 rfl) rfl (by show 2 * 0 + _ ≤ _; exact Nat.le_of_eq rfl) (hb hby at_81) (fun _ _ => ⟨rfl, e15, (by decide : 0 + 0 ≤ _), (by decide : 0 + 0 ≤ _)⟩)
      dsimp only [Pt.U, Pt.locs, Pt.cells, Pt.slots] at X16 l16 y16 z16 st16 hQ16
      subst l16 y16 z16
      obtain ⟨rfl, N16q, e16⟩ := hQ16
      have N16 := Fr.app N0 N16q
      obtain ⟨cq17, kq17, q17a, q17b, q17c⟩ := isOf hZ e16 E_wS
      obtain ⟨_, _, ⟨T17, L17, k17, n17⟩, -, X17, ⟨Lc17, hQ17, l17, y17, z17⟩, st17⟩ := X16.virtualBack hx (y := (⟨"com/example/redoubt/redoubt/txn/LockTable$Mode", "conflictsWith", "(Lcom/example/redoubt/redoubt/txn/LockTable$Mode;)Z"⟩ : MethodName)) (z := (⟨"com/example/redoubt/redoubt/txn/LockTable$Mode", "conflictsWith", "(Lcom/example/redoubt/redoubt/txn/LockTable$Mode;)Z"⟩ : MethodName)) hown (mvT hZ (hw _ (List.mem_of_getElem? (i := 5) rfl))) (mvT hZ (hw _ (List.mem_of_getElem? (i := 6) rfl))) (notFace_of_selects (args := #[]) (mvT hZ (hw _ (List.mem_of_getElem? (i := 8) rfl)))) (mvT hZ (hw _ (List.mem_of_getElem? (i := 8) rfl))) (mvT hZ (hw _ (List.mem_of_getElem? (i := 7) rfl))) (by decide) (backOf (W := 0) (rmCf l Z a0 hw [] wS wS wE h0 n0 Z0 S_EXCLUSIVE) hZ (hw _ (List.mem_of_getElem? (i := 9) rfl)) (hw _ (List.mem_of_getElem? (i := 1) rfl)) (by decide) (by decide)) q17a q17c (g := (mkF m 90 #[.val (.int p0), .val (.int p1), .val (.int (0 : Int32)), .val (.int (0 : Int32)), .val (.ref wS), .val (.ref wS), .val (.int (0 : Int32)), .val (.int (own_cf wS wS wE)), .unset] [(.ref wS), (.ref wS)])) rfl (by rw [hml]; rfl) (Steps.refl _) (argsL := [(.ref wS)]) (rest := []) (lenOf pd_0 rfl) rfl (by show 2 * 0 + _ ≤ _; exact Nat.le_of_eq rfl) (hb hby at_90) (fun _ _ => ⟨rfl, e16, (by decide : 0 + 0 ≤ _), (by decide : 0 + 0 ≤ _)⟩)
      dsimp only [Pt.U, Pt.locs, Pt.cells, Pt.slots] at X17 l17 y17 z17 st17 hQ17
      subst l17 y17 z17
      obtain ⟨rfl, N17q, e17⟩ := hQ17
      have N17 := Fr.app N16 N17q
      have hb18 : (own_cf wS wS wE) = (0 : Int32) := by unfold own_cf; simp [hne]
      have pre19 : ∀ t, Steps p.tables e below (T17.setTop (mkF m 114 #[.val (.int p0), .val (.int p1), .val (.int (0 : Int32)), .val (.int (0 : Int32)), .val (.ref wS), .val (.ref wS), .val (.int (0 : Int32)), .val (.int (own_cf wS wS wE)), .val (.int (own_cf wS wS wE))] [(.int (1 : Int32))])) t → Steps p.tables e below (s₁.setTop (entryFrame m #[(.int p0), (.int p1)] maxLocals)) t := fun t kk => pre12 t (by
          show Steps p.tables e below (s₁.setTop (mkF m 15 #[.val (.int p0), .val (.int p1), .val (.int (0 : Int32)), .unset, .unset, .unset, .unset, .unset, .unset] [(.int (p1 &&& (1 : Int32)))])) _
          refine XS.ifYes X0.here hx rfl (pc0 := 15) (pc' := 22) rfl (hb hby at_15) rfl ((if0 _ _).trans (teq hc13).1) (by decide) (by decide) ?_
          show Steps p.tables e below (s₁.setTop (mkF m 22 #[.val (.int p0), .val (.int p1), .val (.int (0 : Int32)), .unset, .unset, .unset, .unset, .unset, .unset] [])) _
          refine XS.iconst X0.here hx rfl (hb hby at_22) ?_
          show Steps p.tables e below (s₁.setTop (mkF m 23 #[.val (.int p0), .val (.int p1), .val (.int (0 : Int32)), .unset, .unset, .unset, .unset, .unset, .unset] [(.int (0 : Int32))])) _
          refine XS.istoreN X0.here hx rfl (hb hby at_23) rfl (l' := #[.val (.int p0), .val (.int p1), .val (.int (0 : Int32)), .val (.int (0 : Int32)), .unset, .unset, .unset, .unset, .unset]) rfl ?_
          show Steps p.tables e below (s₁.setTop (mkF m 24 #[.val (.int p0), .val (.int p1), .val (.int (0 : Int32)), .val (.int (0 : Int32)), .unset, .unset, .unset, .unset, .unset] [])) _
          refine XS.iloadN X0.here hx rfl (hb hby at_24) rfl ?_
          show Steps p.tables e below (s₁.setTop (mkF m 25 #[.val (.int p0), .val (.int p1), .val (.int (0 : Int32)), .val (.int (0 : Int32)), .unset, .unset, .unset, .unset, .unset] [(.int (0 : Int32))])) _
          refine XS.ifYes X0.here hx rfl (pc0 := 25) (pc' := 34) rfl (hb hby at_25) rfl ((if0 _ _).trans (teq (by decide : (0 : Int32) = (0 : Int32))).1) (by decide) (by decide) ?_
          show Steps p.tables e below (s₁.setTop (mkF m 34 #[.val (.int p0), .val (.int p1), .val (.int (0 : Int32)), .val (.int (0 : Int32)), .unset, .unset, .unset, .unset, .unset] [])) _
          refine st14 _ ?_
          show Steps p.tables e below (T14.setTop (mkF m 37 #[.val (.int p0), .val (.int p1), .val (.int (0 : Int32)), .val (.int (0 : Int32)), .unset, .unset, .unset, .unset, .unset] [(.ref wS)])) _
          refine XS.astore X14.here hx rfl (hb hby at_37) rfl rfl (l' := #[.val (.int p0), .val (.int p1), .val (.int (0 : Int32)), .val (.int (0 : Int32)), .val (.ref wS), .unset, .unset, .unset, .unset]) rfl ?_
          show Steps p.tables e below (T14.setTop (mkF m 39 #[.val (.int p0), .val (.int p1), .val (.int (0 : Int32)), .val (.int (0 : Int32)), .val (.ref wS), .unset, .unset, .unset, .unset] [])) _
          refine XS.iloadN X14.here hx rfl (hb hby at_39) rfl ?_
          show Steps p.tables e below (T14.setTop (mkF m 40 #[.val (.int p0), .val (.int p1), .val (.int (0 : Int32)), .val (.int (0 : Int32)), .val (.ref wS), .unset, .unset, .unset, .unset] [(.int (0 : Int32))])) _
          refine XS.ifYes X14.here hx rfl (pc0 := 40) (pc' := 49) rfl (hb hby at_40) rfl ((if0 _ _).trans (teq (by decide : (0 : Int32) = (0 : Int32))).1) (by decide) (by decide) ?_
          show Steps p.tables e below (T14.setTop (mkF m 49 #[.val (.int p0), .val (.int p1), .val (.int (0 : Int32)), .val (.int (0 : Int32)), .val (.ref wS), .unset, .unset, .unset, .unset] [])) _
          refine st15 _ ?_
          show Steps p.tables e below (T15.setTop (mkF m 52 #[.val (.int p0), .val (.int p1), .val (.int (0 : Int32)), .val (.int (0 : Int32)), .val (.ref wS), .unset, .unset, .unset, .unset] [(.ref wS)])) _
          refine XS.astore X15.here hx rfl (hb hby at_52) rfl rfl (l' := #[.val (.int p0), .val (.int p1), .val (.int (0 : Int32)), .val (.int (0 : Int32)), .val (.ref wS), .val (.ref wS), .unset, .unset, .unset]) rfl ?_
          show Steps p.tables e below (T15.setTop (mkF m 54 #[.val (.int p0), .val (.int p1), .val (.int (0 : Int32)), .val (.int (0 : Int32)), .val (.ref wS), .val (.ref wS), .unset, .unset, .unset] [])) _
          refine XS.iloadN X15.here hx rfl (hb hby at_54) rfl ?_
          show Steps p.tables e below (T15.setTop (mkF m 55 #[.val (.int p0), .val (.int p1), .val (.int (0 : Int32)), .val (.int (0 : Int32)), .val (.ref wS), .val (.ref wS), .unset, .unset, .unset] [(.int (0 : Int32))])) _
          refine XS.ifYes X15.here hx rfl (pc0 := 55) (pc' := 64) rfl (hb hby at_55) rfl ((if0 _ _).trans (teq (by decide : (0 : Int32) = (0 : Int32))).1) (by decide) (by decide) ?_
          show Steps p.tables e below (T15.setTop (mkF m 64 #[.val (.int p0), .val (.int p1), .val (.int (0 : Int32)), .val (.int (0 : Int32)), .val (.ref wS), .val (.ref wS), .unset, .unset, .unset] [])) _
          refine XS.iloadN X15.here hx rfl (hb hby at_64) rfl ?_
          show Steps p.tables e below (T15.setTop (mkF m 65 #[.val (.int p0), .val (.int p1), .val (.int (0 : Int32)), .val (.int (0 : Int32)), .val (.ref wS), .val (.ref wS), .unset, .unset, .unset] [(.int (0 : Int32))])) _
          refine XS.ifYes X15.here hx rfl (pc0 := 65) (pc' := 74) rfl (hb hby at_65) rfl ((if0 _ _).trans (teq (by decide : (0 : Int32) = (0 : Int32))).1) (by decide) (by decide) ?_
          show Steps p.tables e below (T15.setTop (mkF m 74 #[.val (.int p0), .val (.int p1), .val (.int (0 : Int32)), .val (.int (0 : Int32)), .val (.ref wS), .val (.ref wS), .unset, .unset, .unset] [])) _
          refine XS.iconst X15.here hx rfl (hb hby at_74) ?_
          show Steps p.tables e below (T15.setTop (mkF m 75 #[.val (.int p0), .val (.int p1), .val (.int (0 : Int32)), .val (.int (0 : Int32)), .val (.ref wS), .val (.ref wS), .unset, .unset, .unset] [(.int (0 : Int32))])) _
          refine XS.istore X15.here hx rfl (hb hby at_75) rfl (l' := #[.val (.int p0), .val (.int p1), .val (.int (0 : Int32)), .val (.int (0 : Int32)), .val (.ref wS), .val (.ref wS), .val (.int (0 : Int32)), .unset, .unset]) rfl ?_
          show Steps p.tables e below (T15.setTop (mkF m 77 #[.val (.int p0), .val (.int p1), .val (.int (0 : Int32)), .val (.int (0 : Int32)), .val (.ref wS), .val (.ref wS), .val (.int (0 : Int32)), .unset, .unset] [])) _
          refine XS.aload X15.here hx rfl (hb hby at_77) rfl rfl ?_
          show Steps p.tables e below (T15.setTop (mkF m 79 #[.val (.int p0), .val (.int p1), .val (.int (0 : Int32)), .val (.int (0 : Int32)), .val (.ref wS), .val (.ref wS), .val (.int (0 : Int32)), .unset, .unset] [(.ref wS)])) _
          refine XS.aload X15.here hx rfl (hb hby at_79) rfl rfl ?_
          show Steps p.tables e below (T15.setTop (mkF m 81 #[.val (.int p0), .val (.int p1), .val (.int (0 : Int32)), .val (.int (0 : Int32)), .val (.ref wS), .val (.ref wS), .val (.int (0 : Int32)), .unset, .unset] [(.ref wS), (.ref wS)])) _
          refine st16.trans ?_
          show Steps p.tables e below (T16.setTop (mkF m 84 #[.val (.int p0), .val (.int p1), .val (.int (0 : Int32)), .val (.int (0 : Int32)), .val (.ref wS), .val (.ref wS), .val (.int (0 : Int32)), .unset, .unset] [(.int (own_cf wS wS wE))])) _
          refine XS.istore X16.here hx rfl (hb hby at_84) rfl (l' := #[.val (.int p0), .val (.int p1), .val (.int (0 : Int32)), .val (.int (0 : Int32)), .val (.ref wS), .val (.ref wS), .val (.int (0 : Int32)), .val (.int (own_cf wS wS wE)), .unset]) rfl ?_
          show Steps p.tables e below (T16.setTop (mkF m 86 #[.val (.int p0), .val (.int p1), .val (.int (0 : Int32)), .val (.int (0 : Int32)), .val (.ref wS), .val (.ref wS), .val (.int (0 : Int32)), .val (.int (own_cf wS wS wE)), .unset] [])) _
          refine XS.aload X16.here hx rfl (hb hby at_86) rfl rfl ?_
          show Steps p.tables e below (T16.setTop (mkF m 88 #[.val (.int p0), .val (.int p1), .val (.int (0 : Int32)), .val (.int (0 : Int32)), .val (.ref wS), .val (.ref wS), .val (.int (0 : Int32)), .val (.int (own_cf wS wS wE)), .unset] [(.ref wS)])) _
          refine XS.aload X16.here hx rfl (hb hby at_88) rfl rfl ?_
          show Steps p.tables e below (T16.setTop (mkF m 90 #[.val (.int p0), .val (.int p1), .val (.int (0 : Int32)), .val (.int (0 : Int32)), .val (.ref wS), .val (.ref wS), .val (.int (0 : Int32)), .val (.int (own_cf wS wS wE)), .unset] [(.ref wS), (.ref wS)])) _
          refine st17.trans ?_
          show Steps p.tables e below (T17.setTop (mkF m 93 #[.val (.int p0), .val (.int p1), .val (.int (0 : Int32)), .val (.int (0 : Int32)), .val (.ref wS), .val (.ref wS), .val (.int (0 : Int32)), .val (.int (own_cf wS wS wE)), .unset] [(.int (own_cf wS wS wE))])) _
          refine XS.istore X17.here hx rfl (hb hby at_93) rfl (l' := #[.val (.int p0), .val (.int p1), .val (.int (0 : Int32)), .val (.int (0 : Int32)), .val (.ref wS), .val (.ref wS), .val (.int (0 : Int32)), .val (.int (own_cf wS wS wE)), .val (.int (own_cf wS wS wE))]) rfl ?_
          show Steps p.tables e below (T17.setTop (mkF m 95 #[.val (.int p0), .val (.int p1), .val (.int (0 : Int32)), .val (.int (0 : Int32)), .val (.ref wS), .val (.ref wS), .val (.int (0 : Int32)), .val (.int (own_cf wS wS wE)), .val (.int (own_cf wS wS wE))] [])) _
          refine XS.iload X17.here hx rfl (hb hby at_95) rfl ?_
          show Steps p.tables e below (T17.setTop (mkF m 97 #[.val (.int p0), .val (.int p1), .val (.int (0 : Int32)), .val (.int (0 : Int32)), .val (.ref wS), .val (.ref wS), .val (.int (0 : Int32)), .val (.int (own_cf wS wS wE)), .val (.int (own_cf wS wS wE))] [(.int (own_cf wS wS wE))])) _
          refine XS.iload X17.here hx rfl (hb hby at_97) rfl ?_
          show Steps p.tables e below (T17.setTop (mkF m 99 #[.val (.int p0), .val (.int p1), .val (.int (0 : Int32)), .val (.int (0 : Int32)), .val (.ref wS), .val (.ref wS), .val (.int (0 : Int32)), .val (.int (own_cf wS wS wE)), .val (.int (own_cf wS wS wE))] [(.int (0 : Int32)), (.int (own_cf wS wS wE))])) _
          refine XS.icmpNo X17.here hx rfl (hb hby at_99) rfl (teq hb18).2 ?_
          show Steps p.tables e below (T17.setTop (mkF m 102 #[.val (.int p0), .val (.int p1), .val (.int (0 : Int32)), .val (.int (0 : Int32)), .val (.ref wS), .val (.ref wS), .val (.int (0 : Int32)), .val (.int (own_cf wS wS wE)), .val (.int (own_cf wS wS wE))] [])) _
          refine XS.iload X17.here hx rfl (hb hby at_102) rfl ?_
          show Steps p.tables e below (T17.setTop (mkF m 104 #[.val (.int p0), .val (.int p1), .val (.int (0 : Int32)), .val (.int (0 : Int32)), .val (.ref wS), .val (.ref wS), .val (.int (0 : Int32)), .val (.int (own_cf wS wS wE)), .val (.int (own_cf wS wS wE))] [(.int (own_cf wS wS wE))])) _
          refine XS.iload X17.here hx rfl (hb hby at_104) rfl ?_
          show Steps p.tables e below (T17.setTop (mkF m 106 #[.val (.int p0), .val (.int p1), .val (.int (0 : Int32)), .val (.int (0 : Int32)), .val (.ref wS), .val (.ref wS), .val (.int (0 : Int32)), .val (.int (own_cf wS wS wE)), .val (.int (own_cf wS wS wE))] [(.int (0 : Int32)), (.int (own_cf wS wS wE))])) _
          refine XS.icmpNo X17.here hx rfl (hb hby at_106) rfl (teq hb18).2 ?_
          show Steps p.tables e below (T17.setTop (mkF m 109 #[.val (.int p0), .val (.int p1), .val (.int (0 : Int32)), .val (.int (0 : Int32)), .val (.ref wS), .val (.ref wS), .val (.int (0 : Int32)), .val (.int (own_cf wS wS wE)), .val (.int (own_cf wS wS wE))] [])) _
          refine XS.iconst X17.here hx rfl (hb hby at_109) ?_
          show Steps p.tables e below (T17.setTop (mkF m 110 #[.val (.int p0), .val (.int p1), .val (.int (0 : Int32)), .val (.int (0 : Int32)), .val (.ref wS), .val (.ref wS), .val (.int (0 : Int32)), .val (.int (own_cf wS wS wE)), .val (.int (own_cf wS wS wE))] [(.int (1 : Int32))])) _
          refine XS.goto X17.here hx rfl (pc0 := 110) (pc' := 114) rfl (hb hby at_110) (by decide) (by decide) ?_
          exact kk)
      obtain ⟨fs, hr, hrun, hended, hW, hsame⟩ := X17.leave (v := some (.int (1 : Int32))) (fun h => by rw [Bd.returns] at h; cases h)
      refine ⟨_, _, pre19 _ ?_, hrun, hended, _, _, rfl, ?_, ⟨_, rfl⟩, hW, hsame.mono (by decide) (by decide)⟩
      · show Steps p.tables e below (T17.setTop (mkF m 114 #[.val (.int p0), .val (.int p1), .val (.int (0 : Int32)), .val (.int (0 : Int32)), .val (.ref wS), .val (.ref wS), .val (.int (0 : Int32)), .val (.int (own_cf wS wS wE)), .val (.int (own_cf wS wS wE))] [(.int (1 : Int32))])) _
        exact retN X17 hx (t := .boolean) Bd.returns (by simp) (hb hby at_114) hr
      · show Q0 Z p0 p1 wS wE h0 n0 _ T17.heap _
        rw [e17]
        exact ⟨rfl, N17, Keep.refl _ _⟩
    · obtain ⟨T20, X20, e20, st20⟩ := getS2 X0 hx hZ hown (host := "") (Or.inl (hw _ (List.mem_of_getElem? (i := 0) rfl))) Via.refl e0 S_SHARED (g := (mkF m 34 #[.val (.int p0), .val (.int p1), .val (.int (0 : Int32)), .val (.int (1 : Int32)), .unset, .unset, .unset, .unset, .unset] [])) rfl (hb hby at_34)
      obtain ⟨T21, X21, e21, st21⟩ := getS2 X20 hx hZ hown (host := "") (Or.inl (hw _ (List.mem_of_getElem? (i := 3) rfl))) Via.refl e20 S_EXCLUSIVE (g := (mkF m 43 #[.val (.int p0), .val (.int p1), .val (.int (0 : Int32)), .val (.int (1 : Int32)), .val (.ref wS), .unset, .unset, .unset, .unset] [])) rfl (hb hby at_43)
      obtain ⟨cq22, kq22, q22a, q22b, q22c⟩ := isOf hZ e21 E_wS
      obtain ⟨_, _, ⟨T22, L22, k22, n22⟩, -, X22, ⟨Lc22, hQ22, l22, y22, z22⟩, st22⟩ := X21.virtualBack hx (y := (⟨"com/example/redoubt/redoubt/txn/LockTable$Mode", "conflictsWith", "(Lcom/example/redoubt/redoubt/txn/LockTable$Mode;)Z"⟩ : MethodName)) (z := (⟨"com/example/redoubt/redoubt/txn/LockTable$Mode", "conflictsWith", "(Lcom/example/redoubt/redoubt/txn/LockTable$Mode;)Z"⟩ : MethodName)) hown (mvT hZ (hw _ (List.mem_of_getElem? (i := 5) rfl))) (mvT hZ (hw _ (List.mem_of_getElem? (i := 6) rfl))) (notFace_of_selects (args := #[]) (mvT hZ (hw _ (List.mem_of_getElem? (i := 8) rfl)))) (mvT hZ (hw _ (List.mem_of_getElem? (i := 8) rfl))) (mvT hZ (hw _ (List.mem_of_getElem? (i := 7) rfl))) (by decide) (backOf (W := 0) (rmCf l Z a0 hw [] wS wE wE h0 n0 Z0 S_EXCLUSIVE) hZ (hw _ (List.mem_of_getElem? (i := 9) rfl)) (hw _ (List.mem_of_getElem? (i := 1) rfl)) (by decide) (by decide)) q22a q22c (g := (mkF m 81 #[.val (.int p0), .val (.int p1), .val (.int (0 : Int32)), .val (.int (1 : Int32)), .val (.ref wS), .val (.ref wE), .val (.int (1 : Int32)), .unset, .unset] [(.ref wE), (.ref wS)])) rfl (by rw [hml]; rfl) (Steps.refl _) (argsL := [(.ref wE)]) (rest := []) (lenOf pd_0 rfl) rfl (by show 2 * 0 + _ ≤ _; exact Nat.le_of_eq rfl) (hb hby at_81) (fun _ _ => ⟨rfl, e21, (by decide : 0 + 0 ≤ _), (by decide : 0 + 0 ≤ _)⟩)
      dsimp only [Pt.U, Pt.locs, Pt.cells, Pt.slots] at X22 l22 y22 z22 st22 hQ22
      subst l22 y22 z22
      obtain ⟨rfl, N22q, e22⟩ := hQ22
      have N22 := Fr.app N0 N22q
      obtain ⟨cq23, kq23, q23a, q23b, q23c⟩ := isOf hZ e22 E_wE
      obtain ⟨_, _, ⟨T23, L23, k23, n23⟩, -, X23, ⟨Lc23, hQ23, l23, y23, z23⟩, st23⟩ := X22.virtualBack hx (y := (⟨"com/example/redoubt/redoubt/txn/LockTable$Mode", "conflictsWith", "(Lcom/example/redoubt/redoubt/txn/LockTable$Mode;)Z"⟩ : MethodName)) (z := (⟨"com/example/redoubt/redoubt/txn/LockTable$Mode", "conflictsWith", "(Lcom/example/redoubt/redoubt/txn/LockTable$Mode;)Z"⟩ : MethodName)) hown (mvT hZ (hw _ (List.mem_of_getElem? (i := 5) rfl))) (mvT hZ (hw _ (List.mem_of_getElem? (i := 6) rfl))) (notFace_of_selects (args := #[]) (mvT hZ (hw _ (List.mem_of_getElem? (i := 8) rfl)))) (mvT hZ (hw _ (List.mem_of_getElem? (i := 8) rfl))) (mvT hZ (hw _ (List.mem_of_getElem? (i := 7) rfl))) (by decide) (backOf (W := 0) (rmCf l Z a0 hw [] wE wS wE h0 n0 Z0 S_EXCLUSIVE) hZ (hw _ (List.mem_of_getElem? (i := 9) rfl)) (hw _ (List.mem_of_getElem? (i := 1) rfl)) (by decide) (by decide)) q23a q23c (g := (mkF m 90 #[.val (.int p0), .val (.int p1), .val (.int (0 : Int32)), .val (.int (1 : Int32)), .val (.ref wS), .val (.ref wE), .val (.int (1 : Int32)), .val (.int (own_cf wS wE wE)), .unset] [(.ref wS), (.ref wE)])) rfl (by rw [hml]; rfl) (Steps.refl _) (argsL := [(.ref wS)]) (rest := []) (lenOf pd_0 rfl) rfl (by show 2 * 0 + _ ≤ _; exact Nat.le_of_eq rfl) (hb hby at_90) (fun _ _ => ⟨rfl, e22, (by decide : 0 + 0 ≤ _), (by decide : 0 + 0 ≤ _)⟩)
      dsimp only [Pt.U, Pt.locs, Pt.cells, Pt.slots] at X23 l23 y23 z23 st23 hQ23
      subst l23 y23 z23
      obtain ⟨rfl, N23q, e23⟩ := hQ23
      have N23 := Fr.app N22 N23q
      have hb24 : (own_cf wS wE wE) = (1 : Int32) := by unfold own_cf; simp [hne]
      have hb25 : (own_cf wE wS wE) = (1 : Int32) := by unfold own_cf; simp [hne]
      have pre26 : ∀ t, Steps p.tables e below (T23.setTop (mkF m 114 #[.val (.int p0), .val (.int p1), .val (.int (0 : Int32)), .val (.int (1 : Int32)), .val (.ref wS), .val (.ref wE), .val (.int (1 : Int32)), .val (.int (own_cf wS wE wE)), .val (.int (own_cf wE wS wE))] [(.int (1 : Int32))])) t → Steps p.tables e below (s₁.setTop (entryFrame m #[(.int p0), (.int p1)] maxLocals)) t := fun t kk => pre12 t (by
          show Steps p.tables e below (s₁.setTop (mkF m 15 #[.val (.int p0), .val (.int p1), .val (.int (0 : Int32)), .unset, .unset, .unset, .unset, .unset, .unset] [(.int (p1 &&& (1 : Int32)))])) _
          refine XS.ifNo X0.here hx rfl (hb hby at_15) rfl ((if0 _ _).trans (feq hc13).1) ?_
          show Steps p.tables e below (s₁.setTop (mkF m 18 #[.val (.int p0), .val (.int p1), .val (.int (0 : Int32)), .unset, .unset, .unset, .unset, .unset, .unset] [])) _
          refine XS.iconst X0.here hx rfl (hb hby at_18) ?_
          show Steps p.tables e below (s₁.setTop (mkF m 19 #[.val (.int p0), .val (.int p1), .val (.int (0 : Int32)), .unset, .unset, .unset, .unset, .unset, .unset] [(.int (1 : Int32))])) _
          refine XS.goto X0.here hx rfl (pc0 := 19) (pc' := 23) rfl (hb hby at_19) (by decide) (by decide) ?_
          show Steps p.tables e below (s₁.setTop (mkF m 23 #[.val (.int p0), .val (.int p1), .val (.int (0 : Int32)), .unset, .unset, .unset, .unset, .unset, .unset] [(.int (1 : Int32))])) _
          refine XS.istoreN X0.here hx rfl (hb hby at_23) rfl (l' := #[.val (.int p0), .val (.int p1), .val (.int (0 : Int32)), .val (.int (1 : Int32)), .unset, .unset, .unset, .unset, .unset]) rfl ?_
          show Steps p.tables e below (s₁.setTop (mkF m 24 #[.val (.int p0), .val (.int p1), .val (.int (0 : Int32)), .val (.int (1 : Int32)), .unset, .unset, .unset, .unset, .unset] [])) _
          refine XS.iloadN X0.here hx rfl (hb hby at_24) rfl ?_
          show Steps p.tables e below (s₁.setTop (mkF m 25 #[.val (.int p0), .val (.int p1), .val (.int (0 : Int32)), .val (.int (1 : Int32)), .unset, .unset, .unset, .unset, .unset] [(.int (0 : Int32))])) _
          refine XS.ifYes X0.here hx rfl (pc0 := 25) (pc' := 34) rfl (hb hby at_25) rfl ((if0 _ _).trans (teq (by decide : (0 : Int32) = (0 : Int32))).1) (by decide) (by decide) ?_
          show Steps p.tables e below (s₁.setTop (mkF m 34 #[.val (.int p0), .val (.int p1), .val (.int (0 : Int32)), .val (.int (1 : Int32)), .unset, .unset, .unset, .unset, .unset] [])) _
          refine st20 _ ?_
          show Steps p.tables e below (T20.setTop (mkF m 37 #[.val (.int p0), .val (.int p1), .val (.int (0 : Int32)), .val (.int (1 : Int32)), .unset, .unset, .unset, .unset, .unset] [(.ref wS)])) _
          refine XS.astore X20.here hx rfl (hb hby at_37) rfl rfl (l' := #[.val (.int p0), .val (.int p1), .val (.int (0 : Int32)), .val (.int (1 : Int32)), .val (.ref wS), .unset, .unset, .unset, .unset]) rfl ?_
          show Steps p.tables e below (T20.setTop (mkF m 39 #[.val (.int p0), .val (.int p1), .val (.int (0 : Int32)), .val (.int (1 : Int32)), .val (.ref wS), .unset, .unset, .unset, .unset] [])) _
          refine XS.iloadN X20.here hx rfl (hb hby at_39) rfl ?_
          show Steps p.tables e below (T20.setTop (mkF m 40 #[.val (.int p0), .val (.int p1), .val (.int (0 : Int32)), .val (.int (1 : Int32)), .val (.ref wS), .unset, .unset, .unset, .unset] [(.int (1 : Int32))])) _
          refine XS.ifNo X20.here hx rfl (hb hby at_40) rfl ((if0 _ _).trans (feq (by decide : ¬ ((1 : Int32) = (0 : Int32)))).1) ?_
          show Steps p.tables e below (T20.setTop (mkF m 43 #[.val (.int p0), .val (.int p1), .val (.int (0 : Int32)), .val (.int (1 : Int32)), .val (.ref wS), .unset, .unset, .unset, .unset] [])) _
          refine st21 _ ?_
          show Steps p.tables e below (T21.setTop (mkF m 46 #[.val (.int p0), .val (.int p1), .val (.int (0 : Int32)), .val (.int (1 : Int32)), .val (.ref wS), .unset, .unset, .unset, .unset] [(.ref wE)])) _
          refine XS.goto X21.here hx rfl (pc0 := 46) (pc' := 52) rfl (hb hby at_46) (by decide) (by decide) ?_
          show Steps p.tables e below (T21.setTop (mkF m 52 #[.val (.int p0), .val (.int p1), .val (.int (0 : Int32)), .val (.int (1 : Int32)), .val (.ref wS), .unset, .unset, .unset, .unset] [(.ref wE)])) _
          refine XS.astore X21.here hx rfl (hb hby at_52) rfl rfl (l' := #[.val (.int p0), .val (.int p1), .val (.int (0 : Int32)), .val (.int (1 : Int32)), .val (.ref wS), .val (.ref wE), .unset, .unset, .unset]) rfl ?_
          show Steps p.tables e below (T21.setTop (mkF m 54 #[.val (.int p0), .val (.int p1), .val (.int (0 : Int32)), .val (.int (1 : Int32)), .val (.ref wS), .val (.ref wE), .unset, .unset, .unset] [])) _
          refine XS.iloadN X21.here hx rfl (hb hby at_54) rfl ?_
          show Steps p.tables e below (T21.setTop (mkF m 55 #[.val (.int p0), .val (.int p1), .val (.int (0 : Int32)), .val (.int (1 : Int32)), .val (.ref wS), .val (.ref wE), .unset, .unset, .unset] [(.int (0 : Int32))])) _
          refine XS.ifYes X21.here hx rfl (pc0 := 55) (pc' := 64) rfl (hb hby at_55) rfl ((if0 _ _).trans (teq (by decide : (0 : Int32) = (0 : Int32))).1) (by decide) (by decide) ?_
          show Steps p.tables e below (T21.setTop (mkF m 64 #[.val (.int p0), .val (.int p1), .val (.int (0 : Int32)), .val (.int (1 : Int32)), .val (.ref wS), .val (.ref wE), .unset, .unset, .unset] [])) _
          refine XS.iloadN X21.here hx rfl (hb hby at_64) rfl ?_
          show Steps p.tables e below (T21.setTop (mkF m 65 #[.val (.int p0), .val (.int p1), .val (.int (0 : Int32)), .val (.int (1 : Int32)), .val (.ref wS), .val (.ref wE), .unset, .unset, .unset] [(.int (1 : Int32))])) _
          refine XS.ifNo X21.here hx rfl (hb hby at_65) rfl ((if0 _ _).trans (feq (by decide : ¬ ((1 : Int32) = (0 : Int32)))).1) ?_
          show Steps p.tables e below (T21.setTop (mkF m 68 #[.val (.int p0), .val (.int p1), .val (.int (0 : Int32)), .val (.int (1 : Int32)), .val (.ref wS), .val (.ref wE), .unset, .unset, .unset] [])) _
          refine XS.iconst X21.here hx rfl (hb hby at_68) ?_
          show Steps p.tables e below (T21.setTop (mkF m 69 #[.val (.int p0), .val (.int p1), .val (.int (0 : Int32)), .val (.int (1 : Int32)), .val (.ref wS), .val (.ref wE), .unset, .unset, .unset] [(.int (1 : Int32))])) _
          refine XS.istore X21.here hx rfl (hb hby at_69) rfl (l' := #[.val (.int p0), .val (.int p1), .val (.int (0 : Int32)), .val (.int (1 : Int32)), .val (.ref wS), .val (.ref wE), .val (.int (1 : Int32)), .unset, .unset]) rfl ?_
          show Steps p.tables e below (T21.setTop (mkF m 71 #[.val (.int p0), .val (.int p1), .val (.int (0 : Int32)), .val (.int (1 : Int32)), .val (.ref wS), .val (.ref wE), .val (.int (1 : Int32)), .unset, .unset] [])) _
          refine XS.goto X21.here hx rfl (pc0 := 71) (pc' := 77) rfl (hb hby at_71) (by decide) (by decide) ?_
          show Steps p.tables e below (T21.setTop (mkF m 77 #[.val (.int p0), .val (.int p1), .val (.int (0 : Int32)), .val (.int (1 : Int32)), .val (.ref wS), .val (.ref wE), .val (.int (1 : Int32)), .unset, .unset] [])) _
          refine XS.aload X21.here hx rfl (hb hby at_77) rfl rfl ?_
          show Steps p.tables e below (T21.setTop (mkF m 79 #[.val (.int p0), .val (.int p1), .val (.int (0 : Int32)), .val (.int (1 : Int32)), .val (.ref wS), .val (.ref wE), .val (.int (1 : Int32)), .unset, .unset] [(.ref wS)])) _
          refine XS.aload X21.here hx rfl (hb hby at_79) rfl rfl ?_
          show Steps p.tables e below (T21.setTop (mkF m 81 #[.val (.int p0), .val (.int p1), .val (.int (0 : Int32)), .val (.int (1 : Int32)), .val (.ref wS), .val (.ref wE), .val (.int (1 : Int32)), .unset, .unset] [(.ref wE), (.ref wS)])) _
          refine st22.trans ?_
          show Steps p.tables e below (T22.setTop (mkF m 84 #[.val (.int p0), .val (.int p1), .val (.int (0 : Int32)), .val (.int (1 : Int32)), .val (.ref wS), .val (.ref wE), .val (.int (1 : Int32)), .unset, .unset] [(.int (own_cf wS wE wE))])) _
          refine XS.istore X22.here hx rfl (hb hby at_84) rfl (l' := #[.val (.int p0), .val (.int p1), .val (.int (0 : Int32)), .val (.int (1 : Int32)), .val (.ref wS), .val (.ref wE), .val (.int (1 : Int32)), .val (.int (own_cf wS wE wE)), .unset]) rfl ?_
          show Steps p.tables e below (T22.setTop (mkF m 86 #[.val (.int p0), .val (.int p1), .val (.int (0 : Int32)), .val (.int (1 : Int32)), .val (.ref wS), .val (.ref wE), .val (.int (1 : Int32)), .val (.int (own_cf wS wE wE)), .unset] [])) _
          refine XS.aload X22.here hx rfl (hb hby at_86) rfl rfl ?_
          show Steps p.tables e below (T22.setTop (mkF m 88 #[.val (.int p0), .val (.int p1), .val (.int (0 : Int32)), .val (.int (1 : Int32)), .val (.ref wS), .val (.ref wE), .val (.int (1 : Int32)), .val (.int (own_cf wS wE wE)), .unset] [(.ref wE)])) _
          refine XS.aload X22.here hx rfl (hb hby at_88) rfl rfl ?_
          show Steps p.tables e below (T22.setTop (mkF m 90 #[.val (.int p0), .val (.int p1), .val (.int (0 : Int32)), .val (.int (1 : Int32)), .val (.ref wS), .val (.ref wE), .val (.int (1 : Int32)), .val (.int (own_cf wS wE wE)), .unset] [(.ref wS), (.ref wE)])) _
          refine st23.trans ?_
          show Steps p.tables e below (T23.setTop (mkF m 93 #[.val (.int p0), .val (.int p1), .val (.int (0 : Int32)), .val (.int (1 : Int32)), .val (.ref wS), .val (.ref wE), .val (.int (1 : Int32)), .val (.int (own_cf wS wE wE)), .unset] [(.int (own_cf wE wS wE))])) _
          refine XS.istore X23.here hx rfl (hb hby at_93) rfl (l' := #[.val (.int p0), .val (.int p1), .val (.int (0 : Int32)), .val (.int (1 : Int32)), .val (.ref wS), .val (.ref wE), .val (.int (1 : Int32)), .val (.int (own_cf wS wE wE)), .val (.int (own_cf wE wS wE))]) rfl ?_
          show Steps p.tables e below (T23.setTop (mkF m 95 #[.val (.int p0), .val (.int p1), .val (.int (0 : Int32)), .val (.int (1 : Int32)), .val (.ref wS), .val (.ref wE), .val (.int (1 : Int32)), .val (.int (own_cf wS wE wE)), .val (.int (own_cf wE wS wE))] [])) _
          refine XS.iload X23.here hx rfl (hb hby at_95) rfl ?_
          show Steps p.tables e below (T23.setTop (mkF m 97 #[.val (.int p0), .val (.int p1), .val (.int (0 : Int32)), .val (.int (1 : Int32)), .val (.ref wS), .val (.ref wE), .val (.int (1 : Int32)), .val (.int (own_cf wS wE wE)), .val (.int (own_cf wE wS wE))] [(.int (own_cf wS wE wE))])) _
          refine XS.iload X23.here hx rfl (hb hby at_97) rfl ?_
          show Steps p.tables e below (T23.setTop (mkF m 99 #[.val (.int p0), .val (.int p1), .val (.int (0 : Int32)), .val (.int (1 : Int32)), .val (.ref wS), .val (.ref wE), .val (.int (1 : Int32)), .val (.int (own_cf wS wE wE)), .val (.int (own_cf wE wS wE))] [(.int (1 : Int32)), (.int (own_cf wS wE wE))])) _
          refine XS.icmpNo X23.here hx rfl (hb hby at_99) rfl (teq hb24).2 ?_
          show Steps p.tables e below (T23.setTop (mkF m 102 #[.val (.int p0), .val (.int p1), .val (.int (0 : Int32)), .val (.int (1 : Int32)), .val (.ref wS), .val (.ref wE), .val (.int (1 : Int32)), .val (.int (own_cf wS wE wE)), .val (.int (own_cf wE wS wE))] [])) _
          refine XS.iload X23.here hx rfl (hb hby at_102) rfl ?_
          show Steps p.tables e below (T23.setTop (mkF m 104 #[.val (.int p0), .val (.int p1), .val (.int (0 : Int32)), .val (.int (1 : Int32)), .val (.ref wS), .val (.ref wE), .val (.int (1 : Int32)), .val (.int (own_cf wS wE wE)), .val (.int (own_cf wE wS wE))] [(.int (own_cf wE wS wE))])) _
          refine XS.iload X23.here hx rfl (hb hby at_104) rfl ?_
          show Steps p.tables e below (T23.setTop (mkF m 106 #[.val (.int p0), .val (.int p1), .val (.int (0 : Int32)), .val (.int (1 : Int32)), .val (.ref wS), .val (.ref wE), .val (.int (1 : Int32)), .val (.int (own_cf wS wE wE)), .val (.int (own_cf wE wS wE))] [(.int (1 : Int32)), (.int (own_cf wE wS wE))])) _
          refine XS.icmpNo X23.here hx rfl (hb hby at_106) rfl (teq hb25).2 ?_
          show Steps p.tables e below (T23.setTop (mkF m 109 #[.val (.int p0), .val (.int p1), .val (.int (0 : Int32)), .val (.int (1 : Int32)), .val (.ref wS), .val (.ref wE), .val (.int (1 : Int32)), .val (.int (own_cf wS wE wE)), .val (.int (own_cf wE wS wE))] [])) _
          refine XS.iconst X23.here hx rfl (hb hby at_109) ?_
          show Steps p.tables e below (T23.setTop (mkF m 110 #[.val (.int p0), .val (.int p1), .val (.int (0 : Int32)), .val (.int (1 : Int32)), .val (.ref wS), .val (.ref wE), .val (.int (1 : Int32)), .val (.int (own_cf wS wE wE)), .val (.int (own_cf wE wS wE))] [(.int (1 : Int32))])) _
          refine XS.goto X23.here hx rfl (pc0 := 110) (pc' := 114) rfl (hb hby at_110) (by decide) (by decide) ?_
          exact kk)
      obtain ⟨fs, hr, hrun, hended, hW, hsame⟩ := X23.leave (v := some (.int (1 : Int32))) (fun h => by rw [Bd.returns] at h; cases h)
      refine ⟨_, _, pre26 _ ?_, hrun, hended, _, _, rfl, ?_, ⟨_, rfl⟩, hW, hsame.mono (by decide) (by decide)⟩
      · show Steps p.tables e below (T23.setTop (mkF m 114 #[.val (.int p0), .val (.int p1), .val (.int (0 : Int32)), .val (.int (1 : Int32)), .val (.ref wS), .val (.ref wE), .val (.int (1 : Int32)), .val (.int (own_cf wS wE wE)), .val (.int (own_cf wE wS wE))] [(.int (1 : Int32))])) _
        exact retN X23 hx (t := .boolean) Bd.returns (by simp) (hb hby at_114) hr
      · show Q0 Z p0 p1 wS wE h0 n0 _ T23.heap _
        rw [e23]
        exact ⟨rfl, N23, Keep.refl _ _⟩
  · have pre27 : ∀ t, Steps p.tables e below (s₁.setTop (mkF m 15 #[.val (.int p0), .val (.int p1), .val (.int (1 : Int32)), .unset, .unset, .unset, .unset, .unset, .unset] [(.int (p1 &&& (1 : Int32)))])) t → Steps p.tables e below (s₁.setTop (entryFrame m #[(.int p0), (.int p1)] maxLocals)) t := fun t kk => pre10 t (by
        show Steps p.tables e below (s₁.setTop (mkF m 3 #[.val (.int p0), .val (.int p1), .unset, .unset, .unset, .unset, .unset, .unset, .unset] [(.int (p0 &&& (1 : Int32)))])) _
        refine XS.ifNo X0.here hx rfl (hb hby at_3) rfl ((if0 _ _).trans (feq hc11).1) ?_
        show Steps p.tables e below (s₁.setTop (mkF m 6 #[.val (.int p0), .val (.int p1), .unset, .unset, .unset, .unset, .unset, .unset, .unset] [])) _
        refine XS.iconst X0.here hx rfl (hb hby at_6) ?_
        show Steps p.tables e below (s₁.setTop (mkF m 7 #[.val (.int p0), .val (.int p1), .unset, .unset, .unset, .unset, .unset, .unset, .unset] [(.int (1 : Int32))])) _
        refine XS.goto X0.here hx rfl (pc0 := 7) (pc' := 11) rfl (hb hby at_7) (by decide) (by decide) ?_
        show Steps p.tables e below (s₁.setTop (mkF m 11 #[.val (.int p0), .val (.int p1), .unset, .unset, .unset, .unset, .unset, .unset, .unset] [(.int (1 : Int32))])) _
        refine XS.istoreN X0.here hx rfl (hb hby at_11) rfl (l' := #[.val (.int p0), .val (.int p1), .val (.int (1 : Int32)), .unset, .unset, .unset, .unset, .unset, .unset]) rfl ?_
        show Steps p.tables e below (s₁.setTop (mkF m 12 #[.val (.int p0), .val (.int p1), .val (.int (1 : Int32)), .unset, .unset, .unset, .unset, .unset, .unset] [])) _
        refine XS.iloadN X0.here hx rfl (hb hby at_12) rfl ?_
        show Steps p.tables e below (s₁.setTop (mkF m 13 #[.val (.int p0), .val (.int p1), .val (.int (1 : Int32)), .unset, .unset, .unset, .unset, .unset, .unset] [(.int p1)])) _
        refine XS.iconst X0.here hx rfl (hb hby at_13) ?_
        show Steps p.tables e below (s₁.setTop (mkF m 14 #[.val (.int p0), .val (.int p1), .val (.int (1 : Int32)), .unset, .unset, .unset, .unset, .unset, .unset] [(.int (1 : Int32)), (.int p1)])) _
        refine XS.iand X0.here hx rfl (hb hby at_14) rfl ?_
        exact kk)
    by_cases hc28 : (p1 &&& (1 : Int32)) = (0 : Int32)
    · obtain ⟨T29, X29, e29, st29⟩ := getS2 X0 hx hZ hown (host := "") (Or.inl (hw _ (List.mem_of_getElem? (i := 3) rfl))) Via.refl e0 S_EXCLUSIVE (g := (mkF m 28 #[.val (.int p0), .val (.int p1), .val (.int (1 : Int32)), .val (.int (0 : Int32)), .unset, .unset, .unset, .unset, .unset] [])) rfl (hb hby at_28)
      obtain ⟨T30, X30, e30, st30⟩ := getS2 X29 hx hZ hown (host := "") (Or.inl (hw _ (List.mem_of_getElem? (i := 0) rfl))) Via.refl e29 S_SHARED (g := (mkF m 49 #[.val (.int p0), .val (.int p1), .val (.int (1 : Int32)), .val (.int (0 : Int32)), .val (.ref wE), .unset, .unset, .unset, .unset] [])) rfl (hb hby at_49)
      obtain ⟨cq31, kq31, q31a, q31b, q31c⟩ := isOf hZ e30 E_wE
      obtain ⟨_, _, ⟨T31, L31, k31, n31⟩, -, X31, ⟨Lc31, hQ31, l31, y31, z31⟩, st31⟩ := X30.virtualBack hx (y := (⟨"com/example/redoubt/redoubt/txn/LockTable$Mode", "conflictsWith", "(Lcom/example/redoubt/redoubt/txn/LockTable$Mode;)Z"⟩ : MethodName)) (z := (⟨"com/example/redoubt/redoubt/txn/LockTable$Mode", "conflictsWith", "(Lcom/example/redoubt/redoubt/txn/LockTable$Mode;)Z"⟩ : MethodName)) hown (mvT hZ (hw _ (List.mem_of_getElem? (i := 5) rfl))) (mvT hZ (hw _ (List.mem_of_getElem? (i := 6) rfl))) (notFace_of_selects (args := #[]) (mvT hZ (hw _ (List.mem_of_getElem? (i := 8) rfl)))) (mvT hZ (hw _ (List.mem_of_getElem? (i := 8) rfl))) (mvT hZ (hw _ (List.mem_of_getElem? (i := 7) rfl))) (by decide) (backOf (W := 0) (rmCf l Z a0 hw [] wE wS wE h0 n0 Z0 S_EXCLUSIVE) hZ (hw _ (List.mem_of_getElem? (i := 9) rfl)) (hw _ (List.mem_of_getElem? (i := 1) rfl)) (by decide) (by decide)) q31a q31c (g := (mkF m 81 #[.val (.int p0), .val (.int p1), .val (.int (1 : Int32)), .val (.int (0 : Int32)), .val (.ref wE), .val (.ref wS), .val (.int (1 : Int32)), .unset, .unset] [(.ref wS), (.ref wE)])) rfl (by rw [hml]; rfl) (Steps.refl _) (argsL := [(.ref wS)]) (rest := []) (lenOf pd_0 rfl) rfl (by show 2 * 0 + _ ≤ _; exact Nat.le_of_eq rfl) (hb hby at_81) (fun _ _ => ⟨rfl, e30, (by decide : 0 + 0 ≤ _), (by decide : 0 + 0 ≤ _)⟩)
      dsimp only [Pt.U, Pt.locs, Pt.cells, Pt.slots] at X31 l31 y31 z31 st31 hQ31
      subst l31 y31 z31
      obtain ⟨rfl, N31q, e31⟩ := hQ31
      have N31 := Fr.app N0 N31q
      obtain ⟨cq32, kq32, q32a, q32b, q32c⟩ := isOf hZ e31 E_wS
      obtain ⟨_, _, ⟨T32, L32, k32, n32⟩, -, X32, ⟨Lc32, hQ32, l32, y32, z32⟩, st32⟩ := X31.virtualBack hx (y := (⟨"com/example/redoubt/redoubt/txn/LockTable$Mode", "conflictsWith", "(Lcom/example/redoubt/redoubt/txn/LockTable$Mode;)Z"⟩ : MethodName)) (z := (⟨"com/example/redoubt/redoubt/txn/LockTable$Mode", "conflictsWith", "(Lcom/example/redoubt/redoubt/txn/LockTable$Mode;)Z"⟩ : MethodName)) hown (mvT hZ (hw _ (List.mem_of_getElem? (i := 5) rfl))) (mvT hZ (hw _ (List.mem_of_getElem? (i := 6) rfl))) (notFace_of_selects (args := #[]) (mvT hZ (hw _ (List.mem_of_getElem? (i := 8) rfl)))) (mvT hZ (hw _ (List.mem_of_getElem? (i := 8) rfl))) (mvT hZ (hw _ (List.mem_of_getElem? (i := 7) rfl))) (by decide) (backOf (W := 0) (rmCf l Z a0 hw [] wS wE wE h0 n0 Z0 S_EXCLUSIVE) hZ (hw _ (List.mem_of_getElem? (i := 9) rfl)) (hw _ (List.mem_of_getElem? (i := 1) rfl)) (by decide) (by decide)) q32a q32c (g := (mkF m 90 #[.val (.int p0), .val (.int p1), .val (.int (1 : Int32)), .val (.int (0 : Int32)), .val (.ref wE), .val (.ref wS), .val (.int (1 : Int32)), .val (.int (own_cf wE wS wE)), .unset] [(.ref wE), (.ref wS)])) rfl (by rw [hml]; rfl) (Steps.refl _) (argsL := [(.ref wE)]) (rest := []) (lenOf pd_0 rfl) rfl (by show 2 * 0 + _ ≤ _; exact Nat.le_of_eq rfl) (hb hby at_90) (fun _ _ => ⟨rfl, e31, (by decide : 0 + 0 ≤ _), (by decide : 0 + 0 ≤ _)⟩)
      dsimp only [Pt.U, Pt.locs, Pt.cells, Pt.slots] at X32 l32 y32 z32 st32 hQ32
      subst l32 y32 z32
      obtain ⟨rfl, N32q, e32⟩ := hQ32
      have N32 := Fr.app N31 N32q
      have hb33 : (own_cf wE wS wE) = (1 : Int32) := by unfold own_cf; simp [hne]
      have hb34 : (own_cf wS wE wE) = (1 : Int32) := by unfold own_cf; simp [hne]
      have pre35 : ∀ t, Steps p.tables e below (T32.setTop (mkF m 114 #[.val (.int p0), .val (.int p1), .val (.int (1 : Int32)), .val (.int (0 : Int32)), .val (.ref wE), .val (.ref wS), .val (.int (1 : Int32)), .val (.int (own_cf wE wS wE)), .val (.int (own_cf wS wE wE))] [(.int (1 : Int32))])) t → Steps p.tables e below (s₁.setTop (entryFrame m #[(.int p0), (.int p1)] maxLocals)) t := fun t kk => pre27 t (by
          show Steps p.tables e below (s₁.setTop (mkF m 15 #[.val (.int p0), .val (.int p1), .val (.int (1 : Int32)), .unset, .unset, .unset, .unset, .unset, .unset] [(.int (p1 &&& (1 : Int32)))])) _
          refine XS.ifYes X0.here hx rfl (pc0 := 15) (pc' := 22) rfl (hb hby at_15) rfl ((if0 _ _).trans (teq hc28).1) (by decide) (by decide) ?_
          show Steps p.tables e below (s₁.setTop (mkF m 22 #[.val (.int p0), .val (.int p1), .val (.int (1 : Int32)), .unset, .unset, .unset, .unset, .unset, .unset] [])) _
          refine XS.iconst X0.here hx rfl (hb hby at_22) ?_
          show Steps p.tables e below (s₁.setTop (mkF m 23 #[.val (.int p0), .val (.int p1), .val (.int (1 : Int32)), .unset, .unset, .unset, .unset, .unset, .unset] [(.int (0 : Int32))])) _
          refine XS.istoreN X0.here hx rfl (hb hby at_23) rfl (l' := #[.val (.int p0), .val (.int p1), .val (.int (1 : Int32)), .val (.int (0 : Int32)), .unset, .unset, .unset, .unset, .unset]) rfl ?_
          show Steps p.tables e below (s₁.setTop (mkF m 24 #[.val (.int p0), .val (.int p1), .val (.int (1 : Int32)), .val (.int (0 : Int32)), .unset, .unset, .unset, .unset, .unset] [])) _
          refine XS.iloadN X0.here hx rfl (hb hby at_24) rfl ?_
          show Steps p.tables e below (s₁.setTop (mkF m 25 #[.val (.int p0), .val (.int p1), .val (.int (1 : Int32)), .val (.int (0 : Int32)), .unset, .unset, .unset, .unset, .unset] [(.int (1 : Int32))])) _
          refine XS.ifNo X0.here hx rfl (hb hby at_25) rfl ((if0 _ _).trans (feq (by decide : ¬ ((1 : Int32) = (0 : Int32)))).1) ?_
          show Steps p.tables e below (s₁.setTop (mkF m 28 #[.val (.int p0), .val (.int p1), .val (.int (1 : Int32)), .val (.int (0 : Int32)), .unset, .unset, .unset, .unset, .unset] [])) _
          refine st29 _ ?_
          show Steps p.tables e below (T29.setTop (mkF m 31 #[.val (.int p0), .val (.int p1), .val (.int (1 : Int32)), .val (.int (0 : Int32)), .unset, .unset, .unset, .unset, .unset] [(.ref wE)])) _
          refine XS.goto X29.here hx rfl (pc0 := 31) (pc' := 37) rfl (hb hby at_31) (by decide) (by decide) ?_
          show Steps p.tables e below (T29.setTop (mkF m 37 #[.val (.int p0), .val (.int p1), .val (.int (1 : Int32)), .val (.int (0 : Int32)), .unset, .unset, .unset, .unset, .unset] [(.ref wE)])) _
          refine XS.astore X29.here hx rfl (hb hby at_37) rfl rfl (l' := #[.val (.int p0), .val (.int p1), .val (.int (1 : Int32)), .val (.int (0 : Int32)), .val (.ref wE), .unset, .unset, .unset, .unset]) rfl ?_
          show Steps p.tables e below (T29.setTop (mkF m 39 #[.val (.int p0), .val (.int p1), .val (.int (1 : Int32)), .val (.int (0 : Int32)), .val (.ref wE), .unset, .unset, .unset, .unset] [])) _
          refine XS.iloadN X29.here hx rfl (hb hby at_39) rfl ?_
          show Steps p.tables e below (T29.setTop (mkF m 40 #[.val (.int p0), .val (.int p1), .val (.int (1 : Int32)), .val (.int (0 : Int32)), .val (.ref wE), .unset, .unset, .unset, .unset] [(.int (0 : Int32))])) _
          refine XS.ifYes X29.here hx rfl (pc0 := 40) (pc' := 49) rfl (hb hby at_40) rfl ((if0 _ _).trans (teq (by decide : (0 : Int32) = (0 : Int32))).1) (by decide) (by decide) ?_
          show Steps p.tables e below (T29.setTop (mkF m 49 #[.val (.int p0), .val (.int p1), .val (.int (1 : Int32)), .val (.int (0 : Int32)), .val (.ref wE), .unset, .unset, .unset, .unset] [])) _
          refine st30 _ ?_
          show Steps p.tables e below (T30.setTop (mkF m 52 #[.val (.int p0), .val (.int p1), .val (.int (1 : Int32)), .val (.int (0 : Int32)), .val (.ref wE), .unset, .unset, .unset, .unset] [(.ref wS)])) _
          refine XS.astore X30.here hx rfl (hb hby at_52) rfl rfl (l' := #[.val (.int p0), .val (.int p1), .val (.int (1 : Int32)), .val (.int (0 : Int32)), .val (.ref wE), .val (.ref wS), .unset, .unset, .unset]) rfl ?_
          show Steps p.tables e below (T30.setTop (mkF m 54 #[.val (.int p0), .val (.int p1), .val (.int (1 : Int32)), .val (.int (0 : Int32)), .val (.ref wE), .val (.ref wS), .unset, .unset, .unset] [])) _
          refine XS.iloadN X30.here hx rfl (hb hby at_54) rfl ?_
          show Steps p.tables e below (T30.setTop (mkF m 55 #[.val (.int p0), .val (.int p1), .val (.int (1 : Int32)), .val (.int (0 : Int32)), .val (.ref wE), .val (.ref wS), .unset, .unset, .unset] [(.int (1 : Int32))])) _
          refine XS.ifNo X30.here hx rfl (hb hby at_55) rfl ((if0 _ _).trans (feq (by decide : ¬ ((1 : Int32) = (0 : Int32)))).1) ?_
          show Steps p.tables e below (T30.setTop (mkF m 58 #[.val (.int p0), .val (.int p1), .val (.int (1 : Int32)), .val (.int (0 : Int32)), .val (.ref wE), .val (.ref wS), .unset, .unset, .unset] [])) _
          refine XS.iconst X30.here hx rfl (hb hby at_58) ?_
          show Steps p.tables e below (T30.setTop (mkF m 59 #[.val (.int p0), .val (.int p1), .val (.int (1 : Int32)), .val (.int (0 : Int32)), .val (.ref wE), .val (.ref wS), .unset, .unset, .unset] [(.int (1 : Int32))])) _
          refine XS.istore X30.here hx rfl (hb hby at_59) rfl (l' := #[.val (.int p0), .val (.int p1), .val (.int (1 : Int32)), .val (.int (0 : Int32)), .val (.ref wE), .val (.ref wS), .val (.int (1 : Int32)), .unset, .unset]) rfl ?_
          show Steps p.tables e below (T30.setTop (mkF m 61 #[.val (.int p0), .val (.int p1), .val (.int (1 : Int32)), .val (.int (0 : Int32)), .val (.ref wE), .val (.ref wS), .val (.int (1 : Int32)), .unset, .unset] [])) _
          refine XS.goto X30.here hx rfl (pc0 := 61) (pc' := 77) rfl (hb hby at_61) (by decide) (by decide) ?_
          show Steps p.tables e below (T30.setTop (mkF m 77 #[.val (.int p0), .val (.int p1), .val (.int (1 : Int32)), .val (.int (0 : Int32)), .val (.ref wE), .val (.ref wS), .val (.int (1 : Int32)), .unset, .unset] [])) _
          refine XS.aload X30.here hx rfl (hb hby at_77) rfl rfl ?_
          show Steps p.tables e below (T30.setTop (mkF m 79 #[.val (.int p0), .val (.int p1), .val (.int (1 : Int32)), .val (.int (0 : Int32)), .val (.ref wE), .val (.ref wS), .val (.int (1 : Int32)), .unset, .unset] [(.ref wE)])) _
          refine XS.aload X30.here hx rfl (hb hby at_79) rfl rfl ?_
          show Steps p.tables e below (T30.setTop (mkF m 81 #[.val (.int p0), .val (.int p1), .val (.int (1 : Int32)), .val (.int (0 : Int32)), .val (.ref wE), .val (.ref wS), .val (.int (1 : Int32)), .unset, .unset] [(.ref wS), (.ref wE)])) _
          refine st31.trans ?_
          show Steps p.tables e below (T31.setTop (mkF m 84 #[.val (.int p0), .val (.int p1), .val (.int (1 : Int32)), .val (.int (0 : Int32)), .val (.ref wE), .val (.ref wS), .val (.int (1 : Int32)), .unset, .unset] [(.int (own_cf wE wS wE))])) _
          refine XS.istore X31.here hx rfl (hb hby at_84) rfl (l' := #[.val (.int p0), .val (.int p1), .val (.int (1 : Int32)), .val (.int (0 : Int32)), .val (.ref wE), .val (.ref wS), .val (.int (1 : Int32)), .val (.int (own_cf wE wS wE)), .unset]) rfl ?_
          show Steps p.tables e below (T31.setTop (mkF m 86 #[.val (.int p0), .val (.int p1), .val (.int (1 : Int32)), .val (.int (0 : Int32)), .val (.ref wE), .val (.ref wS), .val (.int (1 : Int32)), .val (.int (own_cf wE wS wE)), .unset] [])) _
          refine XS.aload X31.here hx rfl (hb hby at_86) rfl rfl ?_
          show Steps p.tables e below (T31.setTop (mkF m 88 #[.val (.int p0), .val (.int p1), .val (.int (1 : Int32)), .val (.int (0 : Int32)), .val (.ref wE), .val (.ref wS), .val (.int (1 : Int32)), .val (.int (own_cf wE wS wE)), .unset] [(.ref wS)])) _
          refine XS.aload X31.here hx rfl (hb hby at_88) rfl rfl ?_
          show Steps p.tables e below (T31.setTop (mkF m 90 #[.val (.int p0), .val (.int p1), .val (.int (1 : Int32)), .val (.int (0 : Int32)), .val (.ref wE), .val (.ref wS), .val (.int (1 : Int32)), .val (.int (own_cf wE wS wE)), .unset] [(.ref wE), (.ref wS)])) _
          refine st32.trans ?_
          show Steps p.tables e below (T32.setTop (mkF m 93 #[.val (.int p0), .val (.int p1), .val (.int (1 : Int32)), .val (.int (0 : Int32)), .val (.ref wE), .val (.ref wS), .val (.int (1 : Int32)), .val (.int (own_cf wE wS wE)), .unset] [(.int (own_cf wS wE wE))])) _
          refine XS.istore X32.here hx rfl (hb hby at_93) rfl (l' := #[.val (.int p0), .val (.int p1), .val (.int (1 : Int32)), .val (.int (0 : Int32)), .val (.ref wE), .val (.ref wS), .val (.int (1 : Int32)), .val (.int (own_cf wE wS wE)), .val (.int (own_cf wS wE wE))]) rfl ?_
          show Steps p.tables e below (T32.setTop (mkF m 95 #[.val (.int p0), .val (.int p1), .val (.int (1 : Int32)), .val (.int (0 : Int32)), .val (.ref wE), .val (.ref wS), .val (.int (1 : Int32)), .val (.int (own_cf wE wS wE)), .val (.int (own_cf wS wE wE))] [])) _
          refine XS.iload X32.here hx rfl (hb hby at_95) rfl ?_
          show Steps p.tables e below (T32.setTop (mkF m 97 #[.val (.int p0), .val (.int p1), .val (.int (1 : Int32)), .val (.int (0 : Int32)), .val (.ref wE), .val (.ref wS), .val (.int (1 : Int32)), .val (.int (own_cf wE wS wE)), .val (.int (own_cf wS wE wE))] [(.int (own_cf wE wS wE))])) _
          refine XS.iload X32.here hx rfl (hb hby at_97) rfl ?_
          show Steps p.tables e below (T32.setTop (mkF m 99 #[.val (.int p0), .val (.int p1), .val (.int (1 : Int32)), .val (.int (0 : Int32)), .val (.ref wE), .val (.ref wS), .val (.int (1 : Int32)), .val (.int (own_cf wE wS wE)), .val (.int (own_cf wS wE wE))] [(.int (1 : Int32)), (.int (own_cf wE wS wE))])) _
          refine XS.icmpNo X32.here hx rfl (hb hby at_99) rfl (teq hb33).2 ?_
          show Steps p.tables e below (T32.setTop (mkF m 102 #[.val (.int p0), .val (.int p1), .val (.int (1 : Int32)), .val (.int (0 : Int32)), .val (.ref wE), .val (.ref wS), .val (.int (1 : Int32)), .val (.int (own_cf wE wS wE)), .val (.int (own_cf wS wE wE))] [])) _
          refine XS.iload X32.here hx rfl (hb hby at_102) rfl ?_
          show Steps p.tables e below (T32.setTop (mkF m 104 #[.val (.int p0), .val (.int p1), .val (.int (1 : Int32)), .val (.int (0 : Int32)), .val (.ref wE), .val (.ref wS), .val (.int (1 : Int32)), .val (.int (own_cf wE wS wE)), .val (.int (own_cf wS wE wE))] [(.int (own_cf wS wE wE))])) _
          refine XS.iload X32.here hx rfl (hb hby at_104) rfl ?_
          show Steps p.tables e below (T32.setTop (mkF m 106 #[.val (.int p0), .val (.int p1), .val (.int (1 : Int32)), .val (.int (0 : Int32)), .val (.ref wE), .val (.ref wS), .val (.int (1 : Int32)), .val (.int (own_cf wE wS wE)), .val (.int (own_cf wS wE wE))] [(.int (1 : Int32)), (.int (own_cf wS wE wE))])) _
          refine XS.icmpNo X32.here hx rfl (hb hby at_106) rfl (teq hb34).2 ?_
          show Steps p.tables e below (T32.setTop (mkF m 109 #[.val (.int p0), .val (.int p1), .val (.int (1 : Int32)), .val (.int (0 : Int32)), .val (.ref wE), .val (.ref wS), .val (.int (1 : Int32)), .val (.int (own_cf wE wS wE)), .val (.int (own_cf wS wE wE))] [])) _
          refine XS.iconst X32.here hx rfl (hb hby at_109) ?_
          show Steps p.tables e below (T32.setTop (mkF m 110 #[.val (.int p0), .val (.int p1), .val (.int (1 : Int32)), .val (.int (0 : Int32)), .val (.ref wE), .val (.ref wS), .val (.int (1 : Int32)), .val (.int (own_cf wE wS wE)), .val (.int (own_cf wS wE wE))] [(.int (1 : Int32))])) _
          refine XS.goto X32.here hx rfl (pc0 := 110) (pc' := 114) rfl (hb hby at_110) (by decide) (by decide) ?_
          exact kk)
      obtain ⟨fs, hr, hrun, hended, hW, hsame⟩ := X32.leave (v := some (.int (1 : Int32))) (fun h => by rw [Bd.returns] at h; cases h)
      refine ⟨_, _, pre35 _ ?_, hrun, hended, _, _, rfl, ?_, ⟨_, rfl⟩, hW, hsame.mono (by decide) (by decide)⟩
      · show Steps p.tables e below (T32.setTop (mkF m 114 #[.val (.int p0), .val (.int p1), .val (.int (1 : Int32)), .val (.int (0 : Int32)), .val (.ref wE), .val (.ref wS), .val (.int (1 : Int32)), .val (.int (own_cf wE wS wE)), .val (.int (own_cf wS wE wE))] [(.int (1 : Int32))])) _
        exact retN X32 hx (t := .boolean) Bd.returns (by simp) (hb hby at_114) hr
      · show Q0 Z p0 p1 wS wE h0 n0 _ T32.heap _
        rw [e32]
        exact ⟨rfl, N32, Keep.refl _ _⟩
    · obtain ⟨T36, X36, e36, st36⟩ := getS2 X0 hx hZ hown (host := "") (Or.inl (hw _ (List.mem_of_getElem? (i := 3) rfl))) Via.refl e0 S_EXCLUSIVE (g := (mkF m 28 #[.val (.int p0), .val (.int p1), .val (.int (1 : Int32)), .val (.int (1 : Int32)), .unset, .unset, .unset, .unset, .unset] [])) rfl (hb hby at_28)
      obtain ⟨T37, X37, e37, st37⟩ := getS2 X36 hx hZ hown (host := "") (Or.inl (hw _ (List.mem_of_getElem? (i := 3) rfl))) Via.refl e36 S_EXCLUSIVE (g := (mkF m 43 #[.val (.int p0), .val (.int p1), .val (.int (1 : Int32)), .val (.int (1 : Int32)), .val (.ref wE), .unset, .unset, .unset, .unset] [])) rfl (hb hby at_43)
      obtain ⟨cq38, kq38, q38a, q38b, q38c⟩ := isOf hZ e37 E_wE
      obtain ⟨_, _, ⟨T38, L38, k38, n38⟩, -, X38, ⟨Lc38, hQ38, l38, y38, z38⟩, st38⟩ := X37.virtualBack hx (y := (⟨"com/example/redoubt/redoubt/txn/LockTable$Mode", "conflictsWith", "(Lcom/example/redoubt/redoubt/txn/LockTable$Mode;)Z"⟩ : MethodName)) (z := (⟨"com/example/redoubt/redoubt/txn/LockTable$Mode", "conflictsWith", "(Lcom/example/redoubt/redoubt/txn/LockTable$Mode;)Z"⟩ : MethodName)) hown (mvT hZ (hw _ (List.mem_of_getElem? (i := 5) rfl))) (mvT hZ (hw _ (List.mem_of_getElem? (i := 6) rfl))) (notFace_of_selects (args := #[]) (mvT hZ (hw _ (List.mem_of_getElem? (i := 8) rfl)))) (mvT hZ (hw _ (List.mem_of_getElem? (i := 8) rfl))) (mvT hZ (hw _ (List.mem_of_getElem? (i := 7) rfl))) (by decide) (backOf (W := 0) (rmCf l Z a0 hw [] wE wE wE h0 n0 Z0 S_EXCLUSIVE) hZ (hw _ (List.mem_of_getElem? (i := 9) rfl)) (hw _ (List.mem_of_getElem? (i := 1) rfl)) (by decide) (by decide)) q38a q38c (g := (mkF m 81 #[.val (.int p0), .val (.int p1), .val (.int (1 : Int32)), .val (.int (1 : Int32)), .val (.ref wE), .val (.ref wE), .val (.int (1 : Int32)), .unset, .unset] [(.ref wE), (.ref wE)])) rfl (by rw [hml]; rfl) (Steps.refl _) (argsL := [(.ref wE)]) (rest := []) (lenOf pd_0 rfl) rfl (by show 2 * 0 + _ ≤ _; exact Nat.le_of_eq rfl) (hb hby at_81) (fun _ _ => ⟨rfl, e37, (by decide : 0 + 0 ≤ _), (by decide : 0 + 0 ≤ _)⟩)
      dsimp only [Pt.U, Pt.locs, Pt.cells, Pt.slots] at X38 l38 y38 z38 st38 hQ38
      subst l38 y38 z38
      obtain ⟨rfl, N38q, e38⟩ := hQ38
      have N38 := Fr.app N0 N38q
      obtain ⟨cq39, kq39, q39a, q39b, q39c⟩ := isOf hZ e38 E_wE
      obtain ⟨_, _, ⟨T39, L39, k39, n39⟩, -, X39, ⟨Lc39, hQ39, l39, y39, z39⟩, st39⟩ := X38.virtualBack hx (y := (⟨"com/example/redoubt/redoubt/txn/LockTable$Mode", "conflictsWith", "(Lcom/example/redoubt/redoubt/txn/LockTable$Mode;)Z"⟩ : MethodName)) (z := (⟨"com/example/redoubt/redoubt/txn/LockTable$Mode", "conflictsWith", "(Lcom/example/redoubt/redoubt/txn/LockTable$Mode;)Z"⟩ : MethodName)) hown (mvT hZ (hw _ (List.mem_of_getElem? (i := 5) rfl))) (mvT hZ (hw _ (List.mem_of_getElem? (i := 6) rfl))) (notFace_of_selects (args := #[]) (mvT hZ (hw _ (List.mem_of_getElem? (i := 8) rfl)))) (mvT hZ (hw _ (List.mem_of_getElem? (i := 8) rfl))) (mvT hZ (hw _ (List.mem_of_getElem? (i := 7) rfl))) (by decide) (backOf (W := 0) (rmCf l Z a0 hw [] wE wE wE h0 n0 Z0 S_EXCLUSIVE) hZ (hw _ (List.mem_of_getElem? (i := 9) rfl)) (hw _ (List.mem_of_getElem? (i := 1) rfl)) (by decide) (by decide)) q39a q39c (g := (mkF m 90 #[.val (.int p0), .val (.int p1), .val (.int (1 : Int32)), .val (.int (1 : Int32)), .val (.ref wE), .val (.ref wE), .val (.int (1 : Int32)), .val (.int (own_cf wE wE wE)), .unset] [(.ref wE), (.ref wE)])) rfl (by rw [hml]; rfl) (Steps.refl _) (argsL := [(.ref wE)]) (rest := []) (lenOf pd_0 rfl) rfl (by show 2 * 0 + _ ≤ _; exact Nat.le_of_eq rfl) (hb hby at_90) (fun _ _ => ⟨rfl, e38, (by decide : 0 + 0 ≤ _), (by decide : 0 + 0 ≤ _)⟩)
      dsimp only [Pt.U, Pt.locs, Pt.cells, Pt.slots] at X39 l39 y39 z39 st39 hQ39
      subst l39 y39 z39
      obtain ⟨rfl, N39q, e39⟩ := hQ39
      have N39 := Fr.app N38 N39q
      have hb40 : (own_cf wE wE wE) = (1 : Int32) := by unfold own_cf; simp [hne]
      have pre41 : ∀ t, Steps p.tables e below (T39.setTop (mkF m 114 #[.val (.int p0), .val (.int p1), .val (.int (1 : Int32)), .val (.int (1 : Int32)), .val (.ref wE), .val (.ref wE), .val (.int (1 : Int32)), .val (.int (own_cf wE wE wE)), .val (.int (own_cf wE wE wE))] [(.int (1 : Int32))])) t → Steps p.tables e below (s₁.setTop (entryFrame m #[(.int p0), (.int p1)] maxLocals)) t := fun t kk => pre27 t (by
          show Steps p.tables e below (s₁.setTop (mkF m 15 #[.val (.int p0), .val (.int p1), .val (.int (1 : Int32)), .unset, .unset, .unset, .unset, .unset, .unset] [(.int (p1 &&& (1 : Int32)))])) _
          refine XS.ifNo X0.here hx rfl (hb hby at_15) rfl ((if0 _ _).trans (feq hc28).1) ?_
          show Steps p.tables e below (s₁.setTop (mkF m 18 #[.val (.int p0), .val (.int p1), .val (.int (1 : Int32)), .unset, .unset, .unset, .unset, .unset, .unset] [])) _
          refine XS.iconst X0.here hx rfl (hb hby at_18) ?_
          show Steps p.tables e below (s₁.setTop (mkF m 19 #[.val (.int p0), .val (.int p1), .val (.int (1 : Int32)), .unset, .unset, .unset, .unset, .unset, .unset] [(.int (1 : Int32))])) _
          refine XS.goto X0.here hx rfl (pc0 := 19) (pc' := 23) rfl (hb hby at_19) (by decide) (by decide) ?_
          show Steps p.tables e below (s₁.setTop (mkF m 23 #[.val (.int p0), .val (.int p1), .val (.int (1 : Int32)), .unset, .unset, .unset, .unset, .unset, .unset] [(.int (1 : Int32))])) _
          refine XS.istoreN X0.here hx rfl (hb hby at_23) rfl (l' := #[.val (.int p0), .val (.int p1), .val (.int (1 : Int32)), .val (.int (1 : Int32)), .unset, .unset, .unset, .unset, .unset]) rfl ?_
          show Steps p.tables e below (s₁.setTop (mkF m 24 #[.val (.int p0), .val (.int p1), .val (.int (1 : Int32)), .val (.int (1 : Int32)), .unset, .unset, .unset, .unset, .unset] [])) _
          refine XS.iloadN X0.here hx rfl (hb hby at_24) rfl ?_
          show Steps p.tables e below (s₁.setTop (mkF m 25 #[.val (.int p0), .val (.int p1), .val (.int (1 : Int32)), .val (.int (1 : Int32)), .unset, .unset, .unset, .unset, .unset] [(.int (1 : Int32))])) _
          refine XS.ifNo X0.here hx rfl (hb hby at_25) rfl ((if0 _ _).trans (feq (by decide : ¬ ((1 : Int32) = (0 : Int32)))).1) ?_
          show Steps p.tables e below (s₁.setTop (mkF m 28 #[.val (.int p0), .val (.int p1), .val (.int (1 : Int32)), .val (.int (1 : Int32)), .unset, .unset, .unset, .unset, .unset] [])) _
          refine st36 _ ?_
          show Steps p.tables e below (T36.setTop (mkF m 31 #[.val (.int p0), .val (.int p1), .val (.int (1 : Int32)), .val (.int (1 : Int32)), .unset, .unset, .unset, .unset, .unset] [(.ref wE)])) _
          refine XS.goto X36.here hx rfl (pc0 := 31) (pc' := 37) rfl (hb hby at_31) (by decide) (by decide) ?_
          show Steps p.tables e below (T36.setTop (mkF m 37 #[.val (.int p0), .val (.int p1), .val (.int (1 : Int32)), .val (.int (1 : Int32)), .unset, .unset, .unset, .unset, .unset] [(.ref wE)])) _
          refine XS.astore X36.here hx rfl (hb hby at_37) rfl rfl (l' := #[.val (.int p0), .val (.int p1), .val (.int (1 : Int32)), .val (.int (1 : Int32)), .val (.ref wE), .unset, .unset, .unset, .unset]) rfl ?_
          show Steps p.tables e below (T36.setTop (mkF m 39 #[.val (.int p0), .val (.int p1), .val (.int (1 : Int32)), .val (.int (1 : Int32)), .val (.ref wE), .unset, .unset, .unset, .unset] [])) _
          refine XS.iloadN X36.here hx rfl (hb hby at_39) rfl ?_
          show Steps p.tables e below (T36.setTop (mkF m 40 #[.val (.int p0), .val (.int p1), .val (.int (1 : Int32)), .val (.int (1 : Int32)), .val (.ref wE), .unset, .unset, .unset, .unset] [(.int (1 : Int32))])) _
          refine XS.ifNo X36.here hx rfl (hb hby at_40) rfl ((if0 _ _).trans (feq (by decide : ¬ ((1 : Int32) = (0 : Int32)))).1) ?_
          show Steps p.tables e below (T36.setTop (mkF m 43 #[.val (.int p0), .val (.int p1), .val (.int (1 : Int32)), .val (.int (1 : Int32)), .val (.ref wE), .unset, .unset, .unset, .unset] [])) _
          refine st37 _ ?_
          show Steps p.tables e below (T37.setTop (mkF m 46 #[.val (.int p0), .val (.int p1), .val (.int (1 : Int32)), .val (.int (1 : Int32)), .val (.ref wE), .unset, .unset, .unset, .unset] [(.ref wE)])) _
          refine XS.goto X37.here hx rfl (pc0 := 46) (pc' := 52) rfl (hb hby at_46) (by decide) (by decide) ?_
          show Steps p.tables e below (T37.setTop (mkF m 52 #[.val (.int p0), .val (.int p1), .val (.int (1 : Int32)), .val (.int (1 : Int32)), .val (.ref wE), .unset, .unset, .unset, .unset] [(.ref wE)])) _
          refine XS.astore X37.here hx rfl (hb hby at_52) rfl rfl (l' := #[.val (.int p0), .val (.int p1), .val (.int (1 : Int32)), .val (.int (1 : Int32)), .val (.ref wE), .val (.ref wE), .unset, .unset, .unset]) rfl ?_
          show Steps p.tables e below (T37.setTop (mkF m 54 #[.val (.int p0), .val (.int p1), .val (.int (1 : Int32)), .val (.int (1 : Int32)), .val (.ref wE), .val (.ref wE), .unset, .unset, .unset] [])) _
          refine XS.iloadN X37.here hx rfl (hb hby at_54) rfl ?_
          show Steps p.tables e below (T37.setTop (mkF m 55 #[.val (.int p0), .val (.int p1), .val (.int (1 : Int32)), .val (.int (1 : Int32)), .val (.ref wE), .val (.ref wE), .unset, .unset, .unset] [(.int (1 : Int32))])) _
          refine XS.ifNo X37.here hx rfl (hb hby at_55) rfl ((if0 _ _).trans (feq (by decide : ¬ ((1 : Int32) = (0 : Int32)))).1) ?_
          show Steps p.tables e below (T37.setTop (mkF m 58 #[.val (.int p0), .val (.int p1), .val (.int (1 : Int32)), .val (.int (1 : Int32)), .val (.ref wE), .val (.ref wE), .unset, .unset, .unset] [])) _
          refine XS.iconst X37.here hx rfl (hb hby at_58) ?_
          show Steps p.tables e below (T37.setTop (mkF m 59 #[.val (.int p0), .val (.int p1), .val (.int (1 : Int32)), .val (.int (1 : Int32)), .val (.ref wE), .val (.ref wE), .unset, .unset, .unset] [(.int (1 : Int32))])) _
          refine XS.istore X37.here hx rfl (hb hby at_59) rfl (l' := #[.val (.int p0), .val (.int p1), .val (.int (1 : Int32)), .val (.int (1 : Int32)), .val (.ref wE), .val (.ref wE), .val (.int (1 : Int32)), .unset, .unset]) rfl ?_
          show Steps p.tables e below (T37.setTop (mkF m 61 #[.val (.int p0), .val (.int p1), .val (.int (1 : Int32)), .val (.int (1 : Int32)), .val (.ref wE), .val (.ref wE), .val (.int (1 : Int32)), .unset, .unset] [])) _
          refine XS.goto X37.here hx rfl (pc0 := 61) (pc' := 77) rfl (hb hby at_61) (by decide) (by decide) ?_
          show Steps p.tables e below (T37.setTop (mkF m 77 #[.val (.int p0), .val (.int p1), .val (.int (1 : Int32)), .val (.int (1 : Int32)), .val (.ref wE), .val (.ref wE), .val (.int (1 : Int32)), .unset, .unset] [])) _
          refine XS.aload X37.here hx rfl (hb hby at_77) rfl rfl ?_
          show Steps p.tables e below (T37.setTop (mkF m 79 #[.val (.int p0), .val (.int p1), .val (.int (1 : Int32)), .val (.int (1 : Int32)), .val (.ref wE), .val (.ref wE), .val (.int (1 : Int32)), .unset, .unset] [(.ref wE)])) _
          refine XS.aload X37.here hx rfl (hb hby at_79) rfl rfl ?_
          show Steps p.tables e below (T37.setTop (mkF m 81 #[.val (.int p0), .val (.int p1), .val (.int (1 : Int32)), .val (.int (1 : Int32)), .val (.ref wE), .val (.ref wE), .val (.int (1 : Int32)), .unset, .unset] [(.ref wE), (.ref wE)])) _
          refine st38.trans ?_
          show Steps p.tables e below (T38.setTop (mkF m 84 #[.val (.int p0), .val (.int p1), .val (.int (1 : Int32)), .val (.int (1 : Int32)), .val (.ref wE), .val (.ref wE), .val (.int (1 : Int32)), .unset, .unset] [(.int (own_cf wE wE wE))])) _
          refine XS.istore X38.here hx rfl (hb hby at_84) rfl (l' := #[.val (.int p0), .val (.int p1), .val (.int (1 : Int32)), .val (.int (1 : Int32)), .val (.ref wE), .val (.ref wE), .val (.int (1 : Int32)), .val (.int (own_cf wE wE wE)), .unset]) rfl ?_
          show Steps p.tables e below (T38.setTop (mkF m 86 #[.val (.int p0), .val (.int p1), .val (.int (1 : Int32)), .val (.int (1 : Int32)), .val (.ref wE), .val (.ref wE), .val (.int (1 : Int32)), .val (.int (own_cf wE wE wE)), .unset] [])) _
          refine XS.aload X38.here hx rfl (hb hby at_86) rfl rfl ?_
          show Steps p.tables e below (T38.setTop (mkF m 88 #[.val (.int p0), .val (.int p1), .val (.int (1 : Int32)), .val (.int (1 : Int32)), .val (.ref wE), .val (.ref wE), .val (.int (1 : Int32)), .val (.int (own_cf wE wE wE)), .unset] [(.ref wE)])) _
          refine XS.aload X38.here hx rfl (hb hby at_88) rfl rfl ?_
          show Steps p.tables e below (T38.setTop (mkF m 90 #[.val (.int p0), .val (.int p1), .val (.int (1 : Int32)), .val (.int (1 : Int32)), .val (.ref wE), .val (.ref wE), .val (.int (1 : Int32)), .val (.int (own_cf wE wE wE)), .unset] [(.ref wE), (.ref wE)])) _
          refine st39.trans ?_
          show Steps p.tables e below (T39.setTop (mkF m 93 #[.val (.int p0), .val (.int p1), .val (.int (1 : Int32)), .val (.int (1 : Int32)), .val (.ref wE), .val (.ref wE), .val (.int (1 : Int32)), .val (.int (own_cf wE wE wE)), .unset] [(.int (own_cf wE wE wE))])) _
          refine XS.istore X39.here hx rfl (hb hby at_93) rfl (l' := #[.val (.int p0), .val (.int p1), .val (.int (1 : Int32)), .val (.int (1 : Int32)), .val (.ref wE), .val (.ref wE), .val (.int (1 : Int32)), .val (.int (own_cf wE wE wE)), .val (.int (own_cf wE wE wE))]) rfl ?_
          show Steps p.tables e below (T39.setTop (mkF m 95 #[.val (.int p0), .val (.int p1), .val (.int (1 : Int32)), .val (.int (1 : Int32)), .val (.ref wE), .val (.ref wE), .val (.int (1 : Int32)), .val (.int (own_cf wE wE wE)), .val (.int (own_cf wE wE wE))] [])) _
          refine XS.iload X39.here hx rfl (hb hby at_95) rfl ?_
          show Steps p.tables e below (T39.setTop (mkF m 97 #[.val (.int p0), .val (.int p1), .val (.int (1 : Int32)), .val (.int (1 : Int32)), .val (.ref wE), .val (.ref wE), .val (.int (1 : Int32)), .val (.int (own_cf wE wE wE)), .val (.int (own_cf wE wE wE))] [(.int (own_cf wE wE wE))])) _
          refine XS.iload X39.here hx rfl (hb hby at_97) rfl ?_
          show Steps p.tables e below (T39.setTop (mkF m 99 #[.val (.int p0), .val (.int p1), .val (.int (1 : Int32)), .val (.int (1 : Int32)), .val (.ref wE), .val (.ref wE), .val (.int (1 : Int32)), .val (.int (own_cf wE wE wE)), .val (.int (own_cf wE wE wE))] [(.int (1 : Int32)), (.int (own_cf wE wE wE))])) _
          refine XS.icmpNo X39.here hx rfl (hb hby at_99) rfl (teq hb40).2 ?_
          show Steps p.tables e below (T39.setTop (mkF m 102 #[.val (.int p0), .val (.int p1), .val (.int (1 : Int32)), .val (.int (1 : Int32)), .val (.ref wE), .val (.ref wE), .val (.int (1 : Int32)), .val (.int (own_cf wE wE wE)), .val (.int (own_cf wE wE wE))] [])) _
          refine XS.iload X39.here hx rfl (hb hby at_102) rfl ?_
          show Steps p.tables e below (T39.setTop (mkF m 104 #[.val (.int p0), .val (.int p1), .val (.int (1 : Int32)), .val (.int (1 : Int32)), .val (.ref wE), .val (.ref wE), .val (.int (1 : Int32)), .val (.int (own_cf wE wE wE)), .val (.int (own_cf wE wE wE))] [(.int (own_cf wE wE wE))])) _
          refine XS.iload X39.here hx rfl (hb hby at_104) rfl ?_
          show Steps p.tables e below (T39.setTop (mkF m 106 #[.val (.int p0), .val (.int p1), .val (.int (1 : Int32)), .val (.int (1 : Int32)), .val (.ref wE), .val (.ref wE), .val (.int (1 : Int32)), .val (.int (own_cf wE wE wE)), .val (.int (own_cf wE wE wE))] [(.int (1 : Int32)), (.int (own_cf wE wE wE))])) _
          refine XS.icmpNo X39.here hx rfl (hb hby at_106) rfl (teq hb40).2 ?_
          show Steps p.tables e below (T39.setTop (mkF m 109 #[.val (.int p0), .val (.int p1), .val (.int (1 : Int32)), .val (.int (1 : Int32)), .val (.ref wE), .val (.ref wE), .val (.int (1 : Int32)), .val (.int (own_cf wE wE wE)), .val (.int (own_cf wE wE wE))] [])) _
          refine XS.iconst X39.here hx rfl (hb hby at_109) ?_
          show Steps p.tables e below (T39.setTop (mkF m 110 #[.val (.int p0), .val (.int p1), .val (.int (1 : Int32)), .val (.int (1 : Int32)), .val (.ref wE), .val (.ref wE), .val (.int (1 : Int32)), .val (.int (own_cf wE wE wE)), .val (.int (own_cf wE wE wE))] [(.int (1 : Int32))])) _
          refine XS.goto X39.here hx rfl (pc0 := 110) (pc' := 114) rfl (hb hby at_110) (by decide) (by decide) ?_
          exact kk)
      obtain ⟨fs, hr, hrun, hended, hW, hsame⟩ := X39.leave (v := some (.int (1 : Int32))) (fun h => by rw [Bd.returns] at h; cases h)
      refine ⟨_, _, pre41 _ ?_, hrun, hended, _, _, rfl, ?_, ⟨_, rfl⟩, hW, hsame.mono (by decide) (by decide)⟩
      · show Steps p.tables e below (T39.setTop (mkF m 114 #[.val (.int p0), .val (.int p1), .val (.int (1 : Int32)), .val (.int (1 : Int32)), .val (.ref wE), .val (.ref wE), .val (.int (1 : Int32)), .val (.int (own_cf wE wE wE)), .val (.int (own_cf wE wE wE))] [(.int (1 : Int32))])) _
        exact retN X39 hx (t := .boolean) Bd.returns (by simp) (hb hby at_114) hr
      · show Q0 Z p0 p1 wS wE h0 n0 _ T39.heap _
        rw [e39]
        exact ⟨rfl, N39, Keep.refl _ _⟩
theorem own_fv {args : Array Value} {s : State} {t : Term} {x : Addr} {C n d : String} {k : Int32} (ht : t.eval args s none [] s = some (.ref x)) (h : (Cond.eq (.field t C n d) (.int k)).value args s none s [] = some true) : s.fieldOf? x C n d = some (.int k) := by
  have e := fld_at (C := C) (n := n) (dd := d) ht
  simp only [Cond.value, e, Term.int_eval] at h
  cases hv : s.fieldOf? x C n d with
  | none => simp [hv] at h
  | some v => cases v <;> simp [hv] at h; rw [h]
set_option maxRecDepth 65536 in
set_option maxHeartbeats 40000000 in
theorem comes_1 {Post : Tables → Env → Array Value → State → Outcome → State → Prop} (hpost : ∀ tb e args s v u, (limb_1_1.after args s (.returned v) u = true ∧ limb_1_2.after args s (.returned v) u = true ∧ True) → FrameEnd s (.returned v) u (Jvm.fieldLocs frame_1_writes args s ++ Jvm.arrayLocs frame_1_arrays args s ++ Jvm.staticLocs frame_1_statics s) 0 0 → Post tb e args s (.returned v) u) :
    ArmFor flags0 classFile x code maxLocals ret World_1 tables_1 room_1 Calls_1 rest_1 Pre_1 Post := by
  intro l hfl _ _ p e ha hc hk s m args below hf hA hF happ hP
  obtain ⟨hcalls, hrest, hpre⟩ := hP
  obtain ⟨-, -, -, hnamed, -, -, -, hat⟩ := (Spec.applies_iff hf).mp happ
  obtain ⟨hg, hn⟩ := and_e (Cond.before_iff.mp (show (Jvm.Cond.and given_1 narrow_1).before args s = true from hpre))
  obtain ⟨gg42, gg43⟩ := and_e hg
  obtain ⟨gg44, gg45⟩ := and_e gg43
  obtain ⟨w0, w1, rfl⟩ : ∃ w0 w1 : Value, args = #[w0, w1] := by
    have hs : args.size = 2 := by simpa [Cond.value, given_1] using gg42
    obtain ⟨L⟩ := args
    match L, hs with
    | [w0, w1], _ => exact ⟨w0, w1, rfl⟩
  have hw := fun d (hd : d ∈ tables_1) => atoms_spec (ws := Jvm.Cond.code x code maxLocals ret :: tables_1) hat d (List.mem_cons_of_mem _ hd)
  have hfit : Fit s := fun {y c} hc i hi => by
    obtain ⟨ha, rfl⟩ := Array.getElem?_eq_some_iff.mp hc
    have q := List.all_eq_true.mp ((Array.all_eq_true_iff_forall_mem.mp hF) _ (Array.getElem_mem ha)) i (List.mem_range.mpr hi)
    simpa [Array.getElem?_eq_getElem hi] using q
  obtain ⟨i0, ei0⟩ := is_v gg44
  obtain rfl : w0 = (.int i0) := Option.some.inj ei0
  obtain ⟨i1, ei1⟩ := is_v gg45
  obtain rfl : w1 = (.int i1) := Option.some.inj ei1
  obtain ⟨n1, hn1⟩ := and_e hn
  obtain ⟨n2, hn2⟩ := and_e hn1
  obtain ⟨n3, n4⟩ := and_e hn2
  obtain ⟨wS, eS⟩ := exa_v n1
  obtain ⟨wE, eE⟩ := exa_v n2
  have SS : Sta s s.heap "com/example/redoubt/redoubt/txn/LockTable$Mode" "SHARED" "Lcom/example/redoubt/redoubt/txn/LockTable$Mode;" (.ref wS) := Sta.start eS (Or.inr ⟨(hw _ (List.mem_of_getElem? (i := 1) rfl)), (hw _ (List.mem_of_getElem? (i := 2) rfl))⟩)
  have SE : Sta s s.heap "com/example/redoubt/redoubt/txn/LockTable$Mode" "EXCLUSIVE" "Lcom/example/redoubt/redoubt/txn/LockTable$Mode;" (.ref wE) := Sta.start eE (Or.inr ⟨(hw _ (List.mem_of_getElem? (i := 1) rfl)), (hw _ (List.mem_of_getElem? (i := 4) rfl))⟩)
  have XS1 : Exa s s.heap wS "com/example/redoubt/redoubt/txn/LockTable$Mode" := Exa.start eS n1
  have XE1 : Exa s s.heap wE "com/example/redoubt/redoubt/txn/LockTable$Mode" := Exa.start eE n2
  have FS : Fld s s.heap wS "java/lang/Enum" "ordinal" "I" (.int 0) := Fld.start (own_fv eS n3)
  have FE : Fld s s.heap wE "java/lang/Enum" "ordinal" "I" (.int 1) := Fld.start (own_fv eE n4)
  have hne : ¬ (wS = wE) := Fld.ne FS FE (by decide)
  obtain ⟨n, o, h1, h2, h3, _, L, rfl, ⟨rfl, N, -⟩, hq⟩ := rm0 l s _ hw tables_1 i0 i1 wS wE s.heap s.heap.size (Nat.le_refl _) SS SE XS1 XE1 hne p e ha hc hk s m _ below hf ((Spec.applies_iff_loose hf).mp happ).1 ⟨rfl, State.Warmed39.refl s, rfl⟩ trivial
  refine ⟨n, _, h1, h2, h3, hpost _ _ _ _ _ _ ⟨Cond.after_iff.mpr rfl, Cond.after_iff.mpr (eq_i res_at (Term.int_eval (1)) rfl), trivial⟩ ⟨hq.1, hq.2.1, (hq.2.2.sift fun y hy => Or.inr (N y hy)).mono (by decide) (by decide)⟩⟩
theorem main_1_1 : Claimed_1_1 := comes_1 fun _ _ _ _ _ _ h hF => ⟨h.1, hF⟩
theorem main_1_2 : Claimed_1_2 := comes_1 fun _ _ _ _ _ _ h hF => ⟨h.2.1, hF⟩
end Jvm.Pilot.@@N@@
namespace Jvm.Pilot.@@N@@
open Jvm Jvm.ClassFile Sem Op Lib Jvm.Free Jvm.Stand Jvm.Pilot.@@N@@.Jvm.D
/-! MADE BY PROGRAM (witnessworld.py) out of the Statement's table words and the real class files: 12 classes; the members and pool entries that the words name. The judged class is class 1, her method 1. -/
namespace start1
open Jvm.ClassFile
def u (s : String) : CpInfo := .utf8 (stringToUtf16 s)
/-- a pool by its gaps: so many unusable entries, then the entry; so many at the end -/
def gap : Nat → List CpInfo → List CpInfo
  | 0, r => r
  | n + 1, r => .unusable :: gap n r
def poolList (es : List (Nat × CpInfo)) (last : Nat) : List CpInfo := es.foldr (fun e r => gap e.1 (e.2 :: r)) (gap last [])
def pool (es : List (Nat × CpInfo)) (last : Nat) : Array CpInfo := ⟨poolList es last⟩
def fileOf (pool : Array CpInfo) (this : Nat) (attrs : Array Attribute := #[]) (ms : Array MethodInfo := #[]) (fl : Nat := 33) (sup : Nat := 0) (ifs : Array Nat := #[]) (fds : Array FieldInfo := #[]) : ClassFile where
  minorVersion := 0
  majorVersion := 65
  constantPool := pool
  accessFlags := fl
  thisClass := this
  superClass := sup
  interfaces := ifs
  fields := fds
  methods := ms
  attributes := attrs
def plain (name : String) (sup : Option ClassId) : Class where
  name := name
  kind := .ordinary
  loader := none
  accessFlags := 33
  super := sup
  interfaces := #[]
  cf := none
  fields := #[]
  methods := #[]
  instanceTypes := #[]
  staticTypes := #[]
  resolved := #[]
  callSites := []
  init := .initialized
  statics := none
  mirror := none

def pool0 : Array CpInfo := pool [(5, u "<init>"), (0, u "()V"), (1, .class_ 10), (1, u "java/lang/Object")] 113

def k0m0 : Method := { name := "<init>", desc := "()V", sig := { parameters := [], returnType := none }, accessFlags := 1, code := none }
/-- java/lang/Object -/
def k0 : Class := { plain "java/lang/Object" none with
  accessFlags := 33
  interfaces := #[]
  cf := some (fileOf pool0 8 #[] #[{ accessFlags := 1, nameIndex := 5, descriptorIndex := 6, attributes := #[] }] 33 0 #[] #[])
  fields := #[]
  methods := #[k0m0]
  instanceTypes := #[]
  staticTypes := #[]
  resolved := Array.replicate 124 none
  statics := none }

def pool1 : Array CpInfo := pool [(2, .class_ 4), (1, u "java/lang/Object"), (0, u "<init>"), (0, u "()V"), (0, .fieldref 8 9), (0, .class_ 10), (0, .nameAndType 11 12), (0, u "com/example/redoubt/redoubt/txn/LockTable$Mode"), (0, u "EXCLUSIVE"), (0, u "Lcom/example/redoubt/redoubt/txn/LockTable$Mode;"), (0, .fieldref 8 14), (0, .nameAndType 15 12), (0, u "SHARED"), (0, .methodref 8 17), (0, .nameAndType 18 19), (0, u "conflictsWith"), (0, u "(Lcom/example/redoubt/redoubt/txn/LockTable$Mode;)Z"), (0, .class_ 21), (0, u "com/example/redoubt/redoubt/txn/ModeConflictsWithPinLaw"), (2, u "law"), (0, u "(II)Z")] 7

def k1m0 : Method := { name := "<init>", desc := "()V", sig := { parameters := [], returnType := none }, accessFlags := 2, code := none }
def k1c1 : Code := { maxStack := 2, maxLocals := 9, code := code, exceptionTable := #[], attributes := #[] }
def k1m1 : Method := { name := "law", desc := "(II)Z", sig := { parameters := [.int, .int], returnType := some .boolean }, accessFlags := 9, code := some k1c1 }
/-- com/example/redoubt/redoubt/txn/ModeConflictsWithPinLaw -/
def k1 : Class := { plain "com/example/redoubt/redoubt/txn/ModeConflictsWithPinLaw" (some 0) with
  accessFlags := 49
  interfaces := #[]
  cf := some (fileOf pool1 20 #[] #[{ accessFlags := 2, nameIndex := 5, descriptorIndex := 6, attributes := #[] }, { accessFlags := 9, nameIndex := 24, descriptorIndex := 25, attributes := #[] }] 49 2 #[] #[])
  fields := #[]
  methods := #[k1m0, k1m1]
  instanceTypes := #[]
  staticTypes := #[]
  resolved := Array.replicate 33 none
  statics := none }

def pool2 : Array CpInfo := pool [(1, .class_ 2), (0, u "java/lang/constant/Constable"), (0, .class_ 4), (0, u "java/lang/Object")] 6

/-- java/lang/constant/Constable -/
def k2 : Class := { plain "java/lang/constant/Constable" (some 0) with
  accessFlags := 1537
  interfaces := #[]
  cf := some (fileOf pool2 1 #[] #[] 1537 3 #[] #[])
  fields := #[]
  methods := #[]
  instanceTypes := #[]
  staticTypes := #[]
  resolved := Array.replicate 11 none
  statics := none }

def pool3 : Array CpInfo := pool [(1, .class_ 2), (0, u "java/lang/Comparable"), (0, .class_ 4), (0, u "java/lang/Object")] 7

/-- java/lang/Comparable -/
def k3 : Class := { plain "java/lang/Comparable" (some 0) with
  accessFlags := 1537
  interfaces := #[]
  cf := some (fileOf pool3 1 #[] #[] 1537 3 #[] #[])
  fields := #[]
  methods := #[]
  instanceTypes := #[]
  staticTypes := #[]
  resolved := Array.replicate 12 none
  statics := none }

def pool4 : Array CpInfo := pool [(1, .class_ 2), (0, u "java/io/Serializable"), (0, .class_ 4), (0, u "java/lang/Object")] 2

/-- java/io/Serializable -/
def k4 : Class := { plain "java/io/Serializable" (some 0) with
  accessFlags := 1537
  interfaces := #[]
  cf := some (fileOf pool4 1 #[] #[] 1537 3 #[] #[])
  fields := #[]
  methods := #[]
  instanceTypes := #[]
  staticTypes := #[]
  resolved := Array.replicate 7 none
  statics := none }

def pool5 : Array CpInfo := pool [(2, .class_ 4), (1, u "java/lang/Enum"), (0, u "name"), (0, u "Ljava/lang/String;"), (2, u "ordinal"), (0, u "I"), (1, .class_ 14), (1, u "java/lang/Object"), (4, u "hash"), (86, .class_ 108), (1, u "java/lang/Enum$EnumDesc"), (2, .class_ 112), (0, u "java/lang/constant/Constable"), (0, .class_ 114), (0, u "java/lang/Comparable"), (0, .class_ 116), (0, u "java/io/Serializable")] 87

/-- java/lang/Enum -/
def k5 : Class := { plain "java/lang/Enum" (some 0) with
  accessFlags := 1057
  interfaces := #[2, 3, 4]
  cf := some (fileOf pool5 2 #[.nestMembers #[106]] #[] 1057 12 #[111, 113, 115] #[{ accessFlags := 18, nameIndex := 5, descriptorIndex := 6, attributes := #[] }, { accessFlags := 18, nameIndex := 9, descriptorIndex := 10, attributes := #[] }, { accessFlags := 2, nameIndex := 19, descriptorIndex := 10, attributes := #[] }])
  fields := #[{ name := "name", type := (.object "java/lang/String"), accessFlags := 18, slot := 0, constantValue := 0 }, { name := "ordinal", type := .int, accessFlags := 18, slot := 1, constantValue := 0 }, { name := "hash", type := .int, accessFlags := 2, slot := 2, constantValue := 0 }]
  methods := #[]
  instanceTypes := #[(.object "java/lang/String"), .int, .int]
  staticTypes := #[]
  resolved := Array.replicate 204 none
  statics := none }

def pool6 : Array CpInfo := pool [(1, .class_ 2), (0, u "com/example/redoubt/redoubt/txn/LockTable$Mode"), (2, u "SHARED"), (0, u "Lcom/example/redoubt/redoubt/txn/LockTable$Mode;"), (0, .fieldref 1 8), (0, .nameAndType 9 6), (0, u "EXCLUSIVE"), (2, u "$VALUES"), (0, u "[Lcom/example/redoubt/redoubt/txn/LockTable$Mode;"), (6, .class_ 22), (1, u "java/lang/Enum"), (20, u "conflictsWith"), (0, u "(Lcom/example/redoubt/redoubt/txn/LockTable$Mode;)Z"), (6, .class_ 52), (0, u "com/example/redoubt/redoubt/txn/LockTable")] 2

def k6c0 : Code := { maxStack := 2, maxLocals := 2, code := prog_75_method_4_code, exceptionTable := #[], attributes := #[] }
def k6m0 : Method := { name := "conflictsWith", desc := "(Lcom/example/redoubt/redoubt/txn/LockTable$Mode;)Z", sig := { parameters := [(.object "com/example/redoubt/redoubt/txn/LockTable$Mode")], returnType := some .boolean }, accessFlags := 0, code := some k6c0 }
/-- com/example/redoubt/redoubt/txn/LockTable$Mode -/
def k6 : Class := { plain "com/example/redoubt/redoubt/txn/LockTable$Mode" (some 5) with
  accessFlags := 16432
  interfaces := #[]
  cf := some (fileOf pool6 1 #[.nestHost 51] #[{ accessFlags := 0, nameIndex := 43, descriptorIndex := 44, attributes := #[] }] 16432 20 #[] #[{ accessFlags := 16409, nameIndex := 5, descriptorIndex := 6, attributes := #[] }, { accessFlags := 16409, nameIndex := 9, descriptorIndex := 6, attributes := #[] }, { accessFlags := 4122, nameIndex := 12, descriptorIndex := 13, attributes := #[] }])
  fields := #[{ name := "SHARED", type := (.object "com/example/redoubt/redoubt/txn/LockTable$Mode"), accessFlags := 16409, slot := 0, constantValue := 0 }, { name := "EXCLUSIVE", type := (.object "com/example/redoubt/redoubt/txn/LockTable$Mode"), accessFlags := 16409, slot := 1, constantValue := 0 }, { name := "$VALUES", type := (.array (.object "com/example/redoubt/redoubt/txn/LockTable$Mode")), accessFlags := 4122, slot := 2, constantValue := 0 }]
  methods := #[k6m0]
  instanceTypes := #[(.object "java/lang/String"), .int, .int]
  staticTypes := #[(.object "com/example/redoubt/redoubt/txn/LockTable$Mode"), (.object "com/example/redoubt/redoubt/txn/LockTable$Mode"), (.array (.object "com/example/redoubt/redoubt/txn/LockTable$Mode"))]
  resolved := Array.replicate 55 none
  statics := some 0 }

def pool7 : Array CpInfo := pool [(1, u "java/lang/Cloneable"), (0, .class_ 1), (0, u "java/lang/Object"), (0, .class_ 3)] 3

/-- java/lang/Cloneable -/
def k7 : Class := { plain "java/lang/Cloneable" (some 0) with
  accessFlags := 1537
  interfaces := #[]
  cf := some (fileOf pool7 2 #[] #[] 1537 4 #[] #[])
  fields := #[]
  methods := #[]
  instanceTypes := #[]
  staticTypes := #[]
  resolved := Array.replicate 8 none
  statics := none }

/-- the primitive byte -/
def k8 : Class := { plain "byte" none with kind := .primitive 'B', accessFlags := 0x411 }
/-- [B -/
def k9 : Class := { plain "[B" (some 0) with kind := .array 8 .byte, interfaces := #[7, 4], accessFlags := 1041 }

/-- the primitive int -/
def k10 : Class := { plain "int" none with kind := .primitive 'I', accessFlags := 0x411 }
/-- [I -/
def k11 : Class := { plain "[I" (some 0) with kind := .array 10 .int, interfaces := #[7, 4], accessFlags := 1041 }

def heap : Heap := #[{ cls := 6, slots := #[.ref 1, .ref 2, .null], vm := .statics 6 },
  { cls := 6, slots := #[.null, .int 0, .int 0], vm := .none },
  { cls := 6, slots := #[.null, .int 1, .int 0], vm := .none }]
def classes : Array Class := #[k0, k1, k2, k3, k4, k5, k6, k7, k8, k9, k10, k11]
def interned : List (Array UInt16 × Addr) := []
def slotsUsed : Nat := 9
def theMethod : MethodId := ⟨1, 1⟩
def args0 : Array Value := #[.int 5, .int 6]
def aboutOver (below : List Frame) : State where
  vm := { classes := classes, interned := interned.toArray }
  heap := heap
  slotsUsed := slotsUsed
  threads := #[{ frames := .invoking theMethod args0 :: below }]
def below0 : List Frame := [.native { method := ⟨0, 0⟩, args := #[] }]
def about1 : State := aboutOver below0
def p0 : Program := .bare "" "" ""
def e0 : Env := launch0.env 0 0 0
theorem w_frames : about1.frames = Frame.invoking theMethod args0 :: below0 := rfl
set_option maxRecDepth 65536 in
theorem w_args : argsFit about1.vm theMethod args0 = true := by decide +kernel
set_option maxRecDepth 65536 in
theorem w_heap : heapFits about1 = true := by decide +kernel
set_option maxRecDepth 65536 in
theorem w_runnable : about1.curStatus? = some .runnable := by decide +kernel
set_option maxRecDepth 65536 in
theorem w_alone : about1.alone = true := by decide +kernel
set_option maxRecDepth 65536 in
theorem w_named : about1.methodNamed? x = some theMethod := by decide +kernel
set_option maxRecDepth 65536 in
theorem w_hears : about1.hears theMethod below0 = true := by decide +kernel
set_option maxRecDepth 65536 in
theorem w_ripe : about1.ripe theMethod args0 below0 = true := by decide +kernel
theorem w_running : about1.status = .running := rfl
set_option maxRecDepth 65536 in
theorem w_room : about1.hasRoom e0.platform room_1 = true :=
  launch0.hasRoom_least _ room_1 (by decide +kernel) (by decide +kernel) (by decide +kernel) (by decide +kernel) (by decide +kernel) (by decide +kernel)
theorem allAtoms_all (ts : List Jvm.Cond) (a : Array Jvm.Value) (st : Jvm.State) : (allAtoms ts).before a st = ts.all (fun c => c.before a st) := by
  induction ts with
  | nil => rfl
  | cons c t ih =>
    show (Jvm.Cond.and c (allAtoms t)).before a st = _
    rw [Jvm.Cond.before_and, ih, List.all_cons]
def words1 : List Jvm.Cond := Jvm.Cond.code x code maxLocals ret :: tables_1
/-- a 'code' word, met by the world's own term for the bytes: nothing is compared byte by byte -/
theorem code_word {y : MethodName} {bytes : ByteArray} {mx : Nat} {rt : Option FieldType} {a : Array Value} {s : State} {m : MethodId} {meth : Method} {c : Code} (h1 : s.methodNamed? y = some m) (h2 : s.vm.method? m = some meth) (h3 : meth.code = some c) (h4 : c.code = bytes)
    (h5 : (c.maxLocals == mx && c.exceptionTable.isEmpty && decide (c.maxStack ≤ mostOperands) && decide (meth.sig.returnType = rt) && !meth.locks && decide (parseMethodDescriptor y.desc = some meth.sig)) = true) : (Jvm.Cond.code y bytes mx rt).before a s = true := by
  simp only [Bool.and_eq_true, beq_iff_eq, Bool.not_eq_true', decide_eq_true_eq] at h5
  obtain ⟨⟨⟨⟨⟨g1, g2⟩, g3⟩, g4⟩, g5⟩, g6⟩ := h5
  simp [Cond.before, Cond.holds, Cond.value, h1, h2, h3, h4, g1, g2, g3, g4, g5, g6]
def isCode : Jvm.Cond → Bool
  | .code _ _ _ _ => true
  | _ => false
theorem all_split {L : List Jvm.Cond} {P : Jvm.Cond → Bool} (h1 : L.all (fun c => isCode c || P c) = true) (h2 : ∀ c ∈ L.filter isCode, P c = true) : L.all P = true := by
  refine List.all_eq_true.mpr fun c hc => ?_
  have h := List.all_eq_true.mp h1 c hc
  rcases Bool.eq_false_or_eq_true (isCode c) with hi | hi
  · exact h2 c (List.mem_filter.mpr ⟨hc, hi⟩)
  · simpa [hi] using h
set_option maxRecDepth 65536 in
theorem w_c0 : (Jvm.Cond.code x code maxLocals ret).before args0 about1 = true := code_word (m := ⟨1, 1⟩) (meth := k1m1) (c := k1c1) (by decide +kernel) rfl rfl rfl (by decide +kernel)
set_option maxRecDepth 65536 in
theorem w_c1 : (Jvm.Cond.code ({ cls := "com/example/redoubt/redoubt/txn/LockTable$Mode", name := "conflictsWith", desc := "(Lcom/example/redoubt/redoubt/txn/LockTable$Mode;)Z" } : Jvm.MethodName) prog_75_method_4_code (2 : Nat) (Option.some Jvm.ClassFile.FieldType.boolean)).before args0 about1 = true := code_word (m := ⟨6, 0⟩) (meth := k6m0) (c := k6c0) (by decide +kernel) rfl rfl rfl (by decide +kernel)
def codes1 : List Jvm.Cond := [Jvm.Cond.code x code maxLocals ret, Jvm.Cond.code ({ cls := "com/example/redoubt/redoubt/txn/LockTable$Mode", name := "conflictsWith", desc := "(Lcom/example/redoubt/redoubt/txn/LockTable$Mode;)Z" } : Jvm.MethodName) prog_75_method_4_code (2 : Nat) (Option.some Jvm.ClassFile.FieldType.boolean)]
set_option maxRecDepth 65536 in
theorem codes_eq : words1.filter isCode = codes1 := rfl
theorem w_codes : ∀ c ∈ words1.filter isCode, c.before args0 about1 = true := by
  rw [codes_eq]
  intro c hc
  simp only [codes1, List.mem_cons, List.not_mem_nil, or_false] at hc
  rcases hc with rfl | rfl
  · exact w_c0
  · exact w_c1
set_option maxRecDepth 65536 in
theorem w_t1 : words1.all (fun c => isCode c || c.before args0 about1) = true := by decide +kernel
theorem w_tables : (allAtoms (Jvm.Cond.code x code maxLocals ret :: tables_1)).before args0 about1 = true := by
  rw [allAtoms_all]
  show words1.all (fun c => c.before args0 about1) = true
  refine all_split ?_ w_codes
  rw [w_t1]
set_option maxRecDepth 65536 in
theorem w_case : (Jvm.Cond.and given_1 narrow_1).before args0 about1 = true := by decide +kernel
theorem w_applies : (headSpec (Jvm.Cond.code x code maxLocals ret :: tables_1) room_1).applies x e0.platform about1 = true :=
  (Spec.applies_iff w_frames).mpr ⟨w_running, w_runnable, w_alone, w_named, w_hears, w_ripe, w_room, w_tables⟩
theorem atStart : AtStart classFile x code maxLocals ret World_1 tables_1 room_1 Calls_1 rest_1 Pre_1 launch0 p0 e0 about1 theMethod args0 below0 :=
  ⟨lists_1, trivial, launch0.admits_env _ _ _, launch0.least_env, fairChoices_fair.cas, fairChoices_fair.clock, w_frames, w_args, w_heap, w_applies, trivial, trivial, w_case⟩
end start1
theorem witness_1 : WitnessClaimed_1 := ⟨start1.p0, start1.e0, start1.about1, start1.theMethod, start1.args0, start1.below0, start1.atStart⟩
end Jvm.Pilot.@@N@@
