import JvmDerived
import JvmDerived.Pilot.@@N@@Statement
import JvmDerived.Pilot.@@N@@Code
set_option linter.unusedVariables false
set_option linter.unusedSimpArgs false
@@BLOCK:NumsL.lean.txt@@
namespace Jvm.Pilot.@@N@@
open Jvm Jvm.ClassFile Sem Op Lib Jvm.Free Jvm.Stand Jvm.LawKit Jvm.RoadKit Bundle Jvm.Pilot.@@N@@.Jvm.D
theorem own_ne_arr {Z : State} {h : Heap} {a b : Addr} {C : String} {a0 : Array Value} {kk : Nat} {k : ClassId} {ty : FieldType} {n : Int32} {vs : List Value} {d : Value} (F : Exa Z h a C) (wi : (Cond.instantiable C kk).before a0 Z = true) (V : Arv Z h b k ty n vs d) : a ≠ b := by
  obtain ⟨c, A, -⟩ := V
  exact ne_arr F wi A
theorem own_cast {tb : Tables} {e : Env} {below : List Frame} {t : State} {A : Type} (f : A → State) {a b : A} (h : a = b) (k : Steps tb e below (f b) t) : Steps tb e below (f a) t := h ▸ k
theorem d1_0 : decode jdk_29_method_65_code 0 = .ok (.iload_n 0, 1) := by decide +kernel
theorem d1_1 : decode jdk_29_method_65_code 1 = .ok (.iload_n 1, 1) := by decide +kernel
theorem d1_2 : decode jdk_29_method_65_code 2 = .ok (.if_icmp .lt 7, 3) := by decide +kernel
theorem d1_9 : decode jdk_29_method_65_code 9 = .ok (.iload_n 1, 1) := by decide +kernel
theorem d1_5 : decode jdk_29_method_65_code 5 = .ok (.iload_n 0, 1) := by decide +kernel
theorem d1_6 : decode jdk_29_method_65_code 6 = .ok (.goto 4, 3) := by decide +kernel
def own_max (u1 : Int32) (u2 : Int32) : Int32 := (if u1 < u2 then u2 else u1)
theorem d1_10 : decode jdk_29_method_65_code 10 = .ok (.ireturn, 1) := by decide +kernel
theorem ef_rmMax (m : MethodId) (x0 : Int32) (x1 : Int32) : entryFrame m #[(.int x0), (.int x1)] 2 = mkF m 0 #[.val (.int x0), .val (.int x1)] [] := by first | (simp [entryFrame, mkF, argsToLocals, Value.category]; done) | rfl
def QMax (Z : State) (u1 : Int32) (u2 : Int32) (h0 : Heap) (n0 : Nat) (v : Option Value) (h : Heap) (L : List Loc) : Prop := v = some (.int (own_max u1 u2)) ∧ Fr n0 L ∧ h = h0
set_option maxRecDepth 65536 in
set_option maxHeartbeats 40000000 in
theorem rmMax (l : Launch) (Z : State) (a0 : Array Value) (hw : ∀ d ∈ tables_1, d.before a0 Z = true) (ws : List Jvm.Cond) (u1 : Int32) (u2 : Int32) (h0 : Heap) (n0 : Nat) (Z0 : n0 ≤ h0.size)  :
    MetFree l (⟨"java/lang/Math", "max", "(II)I"⟩ : MethodName) (head1 (Jvm.Cond.code (⟨"java/lang/Math", "max", "(II)I"⟩ : MethodName) jdk_29_method_65_code 2 (some .int) :: ws) ({ frames := 0, cells := 0, slots := 0, locals := 0 } : Room)) (fun aA uU => aA = #[(.int u1), (.int u2)] ∧ Z.Warmed39 uU.vm ∧ uU.heap = h0) (fun _ _ _ _ _ => True) (fun _ uU oO uU' => ∃ vV lL, oO = .returned vV ∧ QMax Z u1 u2 h0 n0 vV uU'.heap lL ∧ FrameEnd uU oO uU' lL ({ frames := 0, cells := 0, slots := 0, locals := 0 } : Room).cells ({ frames := 0, cells := 0, slots := 0, locals := 0 } : Room).slots) := by
  refine MetFree.of_bodySF (Jvm.Free.JP.mathPlain rfl (by decide +kernel)) hisR ?_
  intro p e s m args below meth c s₁ Bd hml0 hP hK
  obtain ⟨rfl, hZ, hh⟩ := hP
  have hx := Bd.exec
  have hby := Bd.bytes
  have hml : c.maxLocals = 2 := hml0
  have hown : s.vm.findClass "java/lang/Math" = some m.cls := findClass_of_methodNamed Bd.named
  have hnm := (name_of_methodNamed Bd.named Bd.method).1
  have X0 : Stand p l e ({ frames := 0, cells := 0, slots := 0, locals := 0 } : Room) s m #[(.int u1), (.int u2)] below meth c s₁ [] 0 0 := Stand.of_body Bd
  have e0 : s₁.heap = h0 := by rw [← hh, Bd.state]; rfl
  have N0 := Fr.nil n0
  have pre0 : ∀ t, Steps p.tables e below (s₁.setTop (mkF m 0 #[.val (.int u1), .val (.int u2)] [])) t → Steps p.tables e below (s₁.setTop (entryFrame m #[(.int u1), (.int u2)] 2)) t := fun t kk => castTop (ef_rmMax m u1 u2) kk
  have pre1 : ∀ t, Steps p.tables e below (s₁.setTop (mkF m 2 #[.val (.int u1), .val (.int u2)] [(.int u2), (.int u1)])) t → Steps p.tables e below (s₁.setTop (entryFrame m #[(.int u1), (.int u2)] 2)) t := fun t kk => pre0 t (by
      show Steps p.tables e below (s₁.setTop (mkF m 0 #[.val (.int u1), .val (.int u2)] [])) _
      refine XS.iloadN X0.here hx rfl (hb hby d1_0) rfl ?_
      show Steps p.tables e below (s₁.setTop (mkF m 1 #[.val (.int u1), .val (.int u2)] [(.int u1)])) _
      refine XS.iloadN X0.here hx rfl (hb hby d1_1) rfl ?_
      exact kk)
  by_cases hc2 : u1 < u2
  · have pre3 : ∀ t, Steps p.tables e below (s₁.setTop (mkF m 10 #[.val (.int u1), .val (.int u2)] [(.int u2)])) t → Steps p.tables e below (s₁.setTop (entryFrame m #[(.int u1), (.int u2)] 2)) t := fun t kk => pre1 t (by
        show Steps p.tables e below (s₁.setTop (mkF m 2 #[.val (.int u1), .val (.int u2)] [(.int u2), (.int u1)])) _
        refine XS.icmpYes X0.here hx rfl (pc0 := 2) (pc' := 9) rfl (hb hby d1_2) rfl (tlt hc2).1 (by decide) (by decide) ?_
        show Steps p.tables e below (s₁.setTop (mkF m 9 #[.val (.int u1), .val (.int u2)] [])) _
        refine XS.iloadN X0.here hx rfl (hb hby d1_9) rfl ?_
        exact kk)
    obtain ⟨fs, hr, hrun, hended, hW, hsame⟩ := X0.leave (v := some (.int u2)) (fun h => by rw [Bd.returns] at h; cases h)
    refine ⟨_, _, pre3 _ ?_, hrun, hended, _, _, rfl, ?_, ⟨_, rfl⟩, hW, hsame.mono (by decide) (by decide)⟩
    · show Steps p.tables e below (s₁.setTop (mkF m 10 #[.val (.int u1), .val (.int u2)] [(.int u2)])) _
      exact retOut X0 hx Bd.returns rfl (Or.inl ⟨rfl, Or.inl rfl, _, rfl⟩) (hb hby d1_10) hr
    · show QMax Z u1 u2 h0 n0 _ s₁.heap _
      rw [e0]
      exact ⟨(by unfold own_max; rw [if_pos hc2]), N0, rfl⟩
  · have pre4 : ∀ t, Steps p.tables e below (s₁.setTop (mkF m 10 #[.val (.int u1), .val (.int u2)] [(.int u1)])) t → Steps p.tables e below (s₁.setTop (entryFrame m #[(.int u1), (.int u2)] 2)) t := fun t kk => pre1 t (by
        show Steps p.tables e below (s₁.setTop (mkF m 2 #[.val (.int u1), .val (.int u2)] [(.int u2), (.int u1)])) _
        refine XS.icmpNo X0.here hx rfl (hb hby d1_2) rfl (flt hc2).1 ?_
        show Steps p.tables e below (s₁.setTop (mkF m 5 #[.val (.int u1), .val (.int u2)] [])) _
        refine XS.iloadN X0.here hx rfl (hb hby d1_5) rfl ?_
        show Steps p.tables e below (s₁.setTop (mkF m 6 #[.val (.int u1), .val (.int u2)] [(.int u1)])) _
        refine XS.goto X0.here hx rfl (pc0 := 6) (pc' := 10) rfl (hb hby d1_6) (by decide) (by decide) ?_
        exact kk)
    obtain ⟨fs, hr, hrun, hended, hW, hsame⟩ := X0.leave (v := some (.int u1)) (fun h => by rw [Bd.returns] at h; cases h)
    refine ⟨_, _, pre4 _ ?_, hrun, hended, _, _, rfl, ?_, ⟨_, rfl⟩, hW, hsame.mono (by decide) (by decide)⟩
    · show Steps p.tables e below (s₁.setTop (mkF m 10 #[.val (.int u1), .val (.int u2)] [(.int u1)])) _
      exact retOut X0 hx Bd.returns rfl (Or.inl ⟨rfl, Or.inl rfl, _, rfl⟩) (hb hby d1_10) hr
    · show QMax Z u1 u2 h0 n0 _ s₁.heap _
      rw [e0]
      exact ⟨(by unfold own_max; rw [if_neg hc2]), N0, rfl⟩
theorem d7_0 : decode method_5_code 0 = .ok (.iload_n 1, 1) := by decide +kernel
theorem d7_1 : decode method_5_code 1 = .ok (.i2l, 1) := by decide +kernel
theorem d7_2 : decode method_5_code 2 = .ok (.iload_n 0, 1) := by decide +kernel
theorem d7_3 : decode method_5_code 3 = .ok (.i2l, 1) := by decide +kernel
theorem d7_4 : decode method_5_code 4 = .ok (.lsub, 1) := by decide +kernel
theorem d7_5 : decode method_5_code 5 = .ok (.iload_n 2, 1) := by decide +kernel
theorem d7_6 : decode method_5_code 6 = .ok (.i2l, 1) := by decide +kernel
theorem d7_7 : decode method_5_code 7 = .ok (.lcmp, 1) := by decide +kernel
theorem d7_8 : decode method_5_code 8 = .ok (.ifCond .le 7, 3) := by decide +kernel
theorem d7_11 : decode method_5_code 11 = .ok (.iconst 1, 1) := by decide +kernel
theorem d7_12 : decode method_5_code 12 = .ok (.goto 4, 3) := by decide +kernel
theorem d7_15 : decode method_5_code 15 = .ok (.iconst 0, 1) := by decide +kernel
def own_far (u1 : Int32) (u2 : Int32) (u3 : Int32) : Int32 := (if (u3.toInt64) < ((u2.toInt64) - (u1.toInt64)) then (1 : Int32) else (0 : Int32))
theorem d7_16 : decode method_5_code 16 = .ok (.ireturn, 1) := by decide +kernel
theorem ef_rmfar (m : MethodId) (x0 : Int32) (x1 : Int32) (x2 : Int32) : entryFrame m #[(.int x0), (.int x1), (.int x2)] 3 = mkF m 0 #[.val (.int x0), .val (.int x1), .val (.int x2)] [] := by first | (simp [entryFrame, mkF, argsToLocals, Value.category]; done) | rfl
def Qfar (Z : State) (u1 : Int32) (u2 : Int32) (u3 : Int32) (h0 : Heap) (n0 : Nat) (v : Option Value) (h : Heap) (L : List Loc) : Prop := v = some (.int (own_far u1 u2 u3)) ∧ Fr n0 L ∧ h = h0
theorem pn_0 : plainName "com/example/iken/iken/rank/WindowMoveToPinLaw" = true := by first | (simp [plainName, overriddenIn]; done) | decide +kernel
set_option maxRecDepth 65536 in
set_option maxHeartbeats 40000000 in
theorem rmfar (l : Launch) (Z : State) (a0 : Array Value) (hw : ∀ d ∈ tables_1, d.before a0 Z = true) (ws : List Jvm.Cond) (u1 : Int32) (u2 : Int32) (u3 : Int32) (h0 : Heap) (n0 : Nat) (Z0 : n0 ≤ h0.size)  :
    MetFree l (⟨"com/example/iken/iken/rank/WindowMoveToPinLaw", "far", "(III)I"⟩ : MethodName) (head1 (Jvm.Cond.code (⟨"com/example/iken/iken/rank/WindowMoveToPinLaw", "far", "(III)I"⟩ : MethodName) method_5_code 3 (some .int) :: ws) ({ frames := 0, cells := 0, slots := 0, locals := 0 } : Room)) (fun aA uU => aA = #[(.int u1), (.int u2), (.int u3)] ∧ Z.Warmed39 uU.vm ∧ uU.heap = h0) (fun _ _ _ _ _ => True) (fun _ uU oO uU' => ∃ vV lL, oO = .returned vV ∧ Qfar Z u1 u2 u3 h0 n0 vV uU'.heap lL ∧ FrameEnd uU oO uU' lL ({ frames := 0, cells := 0, slots := 0, locals := 0 } : Room).cells ({ frames := 0, cells := 0, slots := 0, locals := 0 } : Room).slots) := by
  refine MetFree.of_bodySF (plainFor_of_name pn_0) hisR ?_
  intro p e s m args below meth c s₁ Bd hml0 hP hK
  obtain ⟨rfl, hZ, hh⟩ := hP
  have hx := Bd.exec
  have hby := Bd.bytes
  have hml : c.maxLocals = 3 := hml0
  have hown : s.vm.findClass "com/example/iken/iken/rank/WindowMoveToPinLaw" = some m.cls := findClass_of_methodNamed Bd.named
  have hnm := (name_of_methodNamed Bd.named Bd.method).1
  have X0 : Stand p l e ({ frames := 0, cells := 0, slots := 0, locals := 0 } : Room) s m #[(.int u1), (.int u2), (.int u3)] below meth c s₁ [] 0 0 := Stand.of_body Bd
  have e0 : s₁.heap = h0 := by rw [← hh, Bd.state]; rfl
  have N0 := Fr.nil n0
  have pre0 : ∀ t, Steps p.tables e below (s₁.setTop (mkF m 0 #[.val (.int u1), .val (.int u2), .val (.int u3)] [])) t → Steps p.tables e below (s₁.setTop (entryFrame m #[(.int u1), (.int u2), (.int u3)] 3)) t := fun t kk => castTop (ef_rmfar m u1 u2 u3) kk
  have pre5 : ∀ t, Steps p.tables e below (s₁.setTop (mkF m 8 #[.val (.int u1), .val (.int u2), .val (.int u3)] [(.int (lcmpW ((u2.toInt64) - (u1.toInt64)) (u3.toInt64)))])) t → Steps p.tables e below (s₁.setTop (entryFrame m #[(.int u1), (.int u2), (.int u3)] 3)) t := fun t kk => pre0 t (by
      show Steps p.tables e below (s₁.setTop (mkF m 0 #[.val (.int u1), .val (.int u2), .val (.int u3)] [])) _
      refine XS.iloadN X0.here hx rfl (hb hby d7_0) rfl ?_
      show Steps p.tables e below (s₁.setTop (mkF m 1 #[.val (.int u1), .val (.int u2), .val (.int u3)] [(.int u2)])) _
      refine XS.i2l X0.here hx rfl (hb hby d7_1) rfl ?_
      show Steps p.tables e below (s₁.setTop (mkF m 2 #[.val (.int u1), .val (.int u2), .val (.int u3)] [(.long (u2.toInt64))])) _
      refine XS.iloadN X0.here hx rfl (hb hby d7_2) rfl ?_
      show Steps p.tables e below (s₁.setTop (mkF m 3 #[.val (.int u1), .val (.int u2), .val (.int u3)] [(.int u1), (.long (u2.toInt64))])) _
      refine XS.i2l X0.here hx rfl (hb hby d7_3) rfl ?_
      show Steps p.tables e below (s₁.setTop (mkF m 4 #[.val (.int u1), .val (.int u2), .val (.int u3)] [(.long (u1.toInt64)), (.long (u2.toInt64))])) _
      refine XS.lsub X0.here hx rfl (hb hby d7_4) rfl ?_
      show Steps p.tables e below (s₁.setTop (mkF m 5 #[.val (.int u1), .val (.int u2), .val (.int u3)] [(.long ((u2.toInt64) - (u1.toInt64)))])) _
      refine XS.iloadN X0.here hx rfl (hb hby d7_5) rfl ?_
      show Steps p.tables e below (s₁.setTop (mkF m 6 #[.val (.int u1), .val (.int u2), .val (.int u3)] [(.int u3), (.long ((u2.toInt64) - (u1.toInt64)))])) _
      refine XS.i2l X0.here hx rfl (hb hby d7_6) rfl ?_
      show Steps p.tables e below (s₁.setTop (mkF m 7 #[.val (.int u1), .val (.int u2), .val (.int u3)] [(.long (u3.toInt64)), (.long ((u2.toInt64) - (u1.toInt64)))])) _
      refine XS.lcmp X0.here hx rfl (hb hby d7_7) rfl ?_
      exact kk)
  by_cases hc6 : (u3.toInt64) < ((u2.toInt64) - (u1.toInt64))
  · have pre7 : ∀ t, Steps p.tables e below (s₁.setTop (mkF m 16 #[.val (.int u1), .val (.int u2), .val (.int u3)] [(.int (1 : Int32))])) t → Steps p.tables e below (s₁.setTop (entryFrame m #[(.int u1), (.int u2), (.int u3)] 3)) t := fun t kk => pre5 t (by
        show Steps p.tables e below (s₁.setTop (mkF m 8 #[.val (.int u1), .val (.int u2), .val (.int u3)] [(.int (lcmpW ((u2.toInt64) - (u1.toInt64)) (u3.toInt64)))])) _
        refine XS.ifNo X0.here hx rfl (hb hby d7_8) rfl (Jvm.Free.XT.ll_le_f hc6) ?_
        show Steps p.tables e below (s₁.setTop (mkF m 11 #[.val (.int u1), .val (.int u2), .val (.int u3)] [])) _
        refine XS.iconst X0.here hx rfl (hb hby d7_11) ?_
        show Steps p.tables e below (s₁.setTop (mkF m 12 #[.val (.int u1), .val (.int u2), .val (.int u3)] [(.int (1 : Int32))])) _
        refine XS.goto X0.here hx rfl (pc0 := 12) (pc' := 16) rfl (hb hby d7_12) (by decide) (by decide) ?_
        exact kk)
    obtain ⟨fs, hr, hrun, hended, hW, hsame⟩ := X0.leave (v := some (.int (1 : Int32))) (fun h => by rw [Bd.returns] at h; cases h)
    refine ⟨_, _, pre7 _ ?_, hrun, hended, _, _, rfl, ?_, ⟨_, rfl⟩, hW, hsame.mono (by decide) (by decide)⟩
    · show Steps p.tables e below (s₁.setTop (mkF m 16 #[.val (.int u1), .val (.int u2), .val (.int u3)] [(.int (1 : Int32))])) _
      exact retOut X0 hx Bd.returns rfl (Or.inl ⟨rfl, Or.inl rfl, _, rfl⟩) (hb hby d7_16) hr
    · show Qfar Z u1 u2 u3 h0 n0 _ s₁.heap _
      rw [e0]
      exact ⟨(by unfold own_far; rw [if_pos hc6]), N0, rfl⟩
  · have pre8 : ∀ t, Steps p.tables e below (s₁.setTop (mkF m 16 #[.val (.int u1), .val (.int u2), .val (.int u3)] [(.int (0 : Int32))])) t → Steps p.tables e below (s₁.setTop (entryFrame m #[(.int u1), (.int u2), (.int u3)] 3)) t := fun t kk => pre5 t (by
        show Steps p.tables e below (s₁.setTop (mkF m 8 #[.val (.int u1), .val (.int u2), .val (.int u3)] [(.int (lcmpW ((u2.toInt64) - (u1.toInt64)) (u3.toInt64)))])) _
        refine XS.ifYes X0.here hx rfl (pc0 := 8) (pc' := 15) rfl (hb hby d7_8) rfl (Jvm.Free.XT.ll_le_t hc6) (by decide) (by decide) ?_
        show Steps p.tables e below (s₁.setTop (mkF m 15 #[.val (.int u1), .val (.int u2), .val (.int u3)] [])) _
        refine XS.iconst X0.here hx rfl (hb hby d7_15) ?_
        exact kk)
    obtain ⟨fs, hr, hrun, hended, hW, hsame⟩ := X0.leave (v := some (.int (0 : Int32))) (fun h => by rw [Bd.returns] at h; cases h)
    refine ⟨_, _, pre8 _ ?_, hrun, hended, _, _, rfl, ?_, ⟨_, rfl⟩, hW, hsame.mono (by decide) (by decide)⟩
    · show Steps p.tables e below (s₁.setTop (mkF m 16 #[.val (.int u1), .val (.int u2), .val (.int u3)] [(.int (0 : Int32))])) _
      exact retOut X0 hx Bd.returns rfl (Or.inl ⟨rfl, Or.inl rfl, _, rfl⟩) (hb hby d7_16) hr
    · show Qfar Z u1 u2 u3 h0 n0 _ s₁.heap _
      rw [e0]
      exact ⟨(by unfold own_far; rw [if_neg hc6]), N0, rfl⟩
theorem d10_0 : decode method_6_code 0 = .ok (.iload_n 0, 1) := by decide +kernel
theorem d10_1 : decode method_6_code 1 = .ok (.i2l, 1) := by decide +kernel
theorem d10_2 : decode method_6_code 2 = .ok (.iload_n 1, 1) := by decide +kernel
theorem d10_3 : decode method_6_code 3 = .ok (.i2l, 1) := by decide +kernel
theorem d10_4 : decode method_6_code 4 = .ok (.lsub, 1) := by decide +kernel
theorem d10_5 : decode method_6_code 5 = .ok (.iload_n 2, 1) := by decide +kernel
theorem d10_6 : decode method_6_code 6 = .ok (.i2l, 1) := by decide +kernel
theorem d10_7 : decode method_6_code 7 = .ok (.lcmp, 1) := by decide +kernel
theorem d10_8 : decode method_6_code 8 = .ok (.ifCond .gt 7, 3) := by decide +kernel
theorem d10_15 : decode method_6_code 15 = .ok (.iconst 0, 1) := by decide +kernel
theorem d10_11 : decode method_6_code 11 = .ok (.iconst 1, 1) := by decide +kernel
theorem d10_12 : decode method_6_code 12 = .ok (.goto 4, 3) := by decide +kernel
def own_near (u1 : Int32) (u2 : Int32) (u3 : Int32) : Int32 := (if (u3.toInt64) < ((u1.toInt64) - (u2.toInt64)) then (0 : Int32) else (1 : Int32))
theorem d10_16 : decode method_6_code 16 = .ok (.ireturn, 1) := by decide +kernel
theorem ef_rmnear (m : MethodId) (x0 : Int32) (x1 : Int32) (x2 : Int32) : entryFrame m #[(.int x0), (.int x1), (.int x2)] 3 = mkF m 0 #[.val (.int x0), .val (.int x1), .val (.int x2)] [] := by first | (simp [entryFrame, mkF, argsToLocals, Value.category]; done) | rfl
def Qnear (Z : State) (u1 : Int32) (u2 : Int32) (u3 : Int32) (h0 : Heap) (n0 : Nat) (v : Option Value) (h : Heap) (L : List Loc) : Prop := v = some (.int (own_near u1 u2 u3)) ∧ Fr n0 L ∧ h = h0
set_option maxRecDepth 65536 in
set_option maxHeartbeats 40000000 in
theorem rmnear (l : Launch) (Z : State) (a0 : Array Value) (hw : ∀ d ∈ tables_1, d.before a0 Z = true) (ws : List Jvm.Cond) (u1 : Int32) (u2 : Int32) (u3 : Int32) (h0 : Heap) (n0 : Nat) (Z0 : n0 ≤ h0.size)  :
    MetFree l (⟨"com/example/iken/iken/rank/WindowMoveToPinLaw", "near", "(III)I"⟩ : MethodName) (head1 (Jvm.Cond.code (⟨"com/example/iken/iken/rank/WindowMoveToPinLaw", "near", "(III)I"⟩ : MethodName) method_6_code 3 (some .int) :: ws) ({ frames := 0, cells := 0, slots := 0, locals := 0 } : Room)) (fun aA uU => aA = #[(.int u1), (.int u2), (.int u3)] ∧ Z.Warmed39 uU.vm ∧ uU.heap = h0) (fun _ _ _ _ _ => True) (fun _ uU oO uU' => ∃ vV lL, oO = .returned vV ∧ Qnear Z u1 u2 u3 h0 n0 vV uU'.heap lL ∧ FrameEnd uU oO uU' lL ({ frames := 0, cells := 0, slots := 0, locals := 0 } : Room).cells ({ frames := 0, cells := 0, slots := 0, locals := 0 } : Room).slots) := by
  refine MetFree.of_bodySF (plainFor_of_name pn_0) hisR ?_
  intro p e s m args below meth c s₁ Bd hml0 hP hK
  obtain ⟨rfl, hZ, hh⟩ := hP
  have hx := Bd.exec
  have hby := Bd.bytes
  have hml : c.maxLocals = 3 := hml0
  have hown : s.vm.findClass "com/example/iken/iken/rank/WindowMoveToPinLaw" = some m.cls := findClass_of_methodNamed Bd.named
  have hnm := (name_of_methodNamed Bd.named Bd.method).1
  have X0 : Stand p l e ({ frames := 0, cells := 0, slots := 0, locals := 0 } : Room) s m #[(.int u1), (.int u2), (.int u3)] below meth c s₁ [] 0 0 := Stand.of_body Bd
  have e0 : s₁.heap = h0 := by rw [← hh, Bd.state]; rfl
  have N0 := Fr.nil n0
  have pre0 : ∀ t, Steps p.tables e below (s₁.setTop (mkF m 0 #[.val (.int u1), .val (.int u2), .val (.int u3)] [])) t → Steps p.tables e below (s₁.setTop (entryFrame m #[(.int u1), (.int u2), (.int u3)] 3)) t := fun t kk => castTop (ef_rmnear m u1 u2 u3) kk
  have pre9 : ∀ t, Steps p.tables e below (s₁.setTop (mkF m 8 #[.val (.int u1), .val (.int u2), .val (.int u3)] [(.int (lcmpW ((u1.toInt64) - (u2.toInt64)) (u3.toInt64)))])) t → Steps p.tables e below (s₁.setTop (entryFrame m #[(.int u1), (.int u2), (.int u3)] 3)) t := fun t kk => pre0 t (by
      show Steps p.tables e below (s₁.setTop (mkF m 0 #[.val (.int u1), .val (.int u2), .val (.int u3)] [])) _
      refine XS.iloadN X0.here hx rfl (hb hby d10_0) rfl ?_
      show Steps p.tables e below (s₁.setTop (mkF m 1 #[.val (.int u1), .val (.int u2), .val (.int u3)] [(.int u1)])) _
      refine XS.i2l X0.here hx rfl (hb hby d10_1) rfl ?_
      show Steps p.tables e below (s₁.setTop (mkF m 2 #[.val (.int u1), .val (.int u2), .val (.int u3)] [(.long (u1.toInt64))])) _
      refine XS.iloadN X0.here hx rfl (hb hby d10_2) rfl ?_
      show Steps p.tables e below (s₁.setTop (mkF m 3 #[.val (.int u1), .val (.int u2), .val (.int u3)] [(.int u2), (.long (u1.toInt64))])) _
      refine XS.i2l X0.here hx rfl (hb hby d10_3) rfl ?_
      show Steps p.tables e below (s₁.setTop (mkF m 4 #[.val (.int u1), .val (.int u2), .val (.int u3)] [(.long (u2.toInt64)), (.long (u1.toInt64))])) _
      refine XS.lsub X0.here hx rfl (hb hby d10_4) rfl ?_
      show Steps p.tables e below (s₁.setTop (mkF m 5 #[.val (.int u1), .val (.int u2), .val (.int u3)] [(.long ((u1.toInt64) - (u2.toInt64)))])) _
      refine XS.iloadN X0.here hx rfl (hb hby d10_5) rfl ?_
      show Steps p.tables e below (s₁.setTop (mkF m 6 #[.val (.int u1), .val (.int u2), .val (.int u3)] [(.int u3), (.long ((u1.toInt64) - (u2.toInt64)))])) _
      refine XS.i2l X0.here hx rfl (hb hby d10_6) rfl ?_
      show Steps p.tables e below (s₁.setTop (mkF m 7 #[.val (.int u1), .val (.int u2), .val (.int u3)] [(.long (u3.toInt64)), (.long ((u1.toInt64) - (u2.toInt64)))])) _
      refine XS.lcmp X0.here hx rfl (hb hby d10_7) rfl ?_
      exact kk)
  by_cases hc10 : (u3.toInt64) < ((u1.toInt64) - (u2.toInt64))
  · have pre11 : ∀ t, Steps p.tables e below (s₁.setTop (mkF m 16 #[.val (.int u1), .val (.int u2), .val (.int u3)] [(.int (0 : Int32))])) t → Steps p.tables e below (s₁.setTop (entryFrame m #[(.int u1), (.int u2), (.int u3)] 3)) t := fun t kk => pre9 t (by
        show Steps p.tables e below (s₁.setTop (mkF m 8 #[.val (.int u1), .val (.int u2), .val (.int u3)] [(.int (lcmpW ((u1.toInt64) - (u2.toInt64)) (u3.toInt64)))])) _
        refine XS.ifYes X0.here hx rfl (pc0 := 8) (pc' := 15) rfl (hb hby d10_8) rfl (Jvm.Free.XT.ll_gt_t hc10) (by decide) (by decide) ?_
        show Steps p.tables e below (s₁.setTop (mkF m 15 #[.val (.int u1), .val (.int u2), .val (.int u3)] [])) _
        refine XS.iconst X0.here hx rfl (hb hby d10_15) ?_
        exact kk)
    obtain ⟨fs, hr, hrun, hended, hW, hsame⟩ := X0.leave (v := some (.int (0 : Int32))) (fun h => by rw [Bd.returns] at h; cases h)
    refine ⟨_, _, pre11 _ ?_, hrun, hended, _, _, rfl, ?_, ⟨_, rfl⟩, hW, hsame.mono (by decide) (by decide)⟩
    · show Steps p.tables e below (s₁.setTop (mkF m 16 #[.val (.int u1), .val (.int u2), .val (.int u3)] [(.int (0 : Int32))])) _
      exact retOut X0 hx Bd.returns rfl (Or.inl ⟨rfl, Or.inl rfl, _, rfl⟩) (hb hby d10_16) hr
    · show Qnear Z u1 u2 u3 h0 n0 _ s₁.heap _
      rw [e0]
      exact ⟨(by unfold own_near; rw [if_pos hc10]), N0, rfl⟩
  · have pre12 : ∀ t, Steps p.tables e below (s₁.setTop (mkF m 16 #[.val (.int u1), .val (.int u2), .val (.int u3)] [(.int (1 : Int32))])) t → Steps p.tables e below (s₁.setTop (entryFrame m #[(.int u1), (.int u2), (.int u3)] 3)) t := fun t kk => pre9 t (by
        show Steps p.tables e below (s₁.setTop (mkF m 8 #[.val (.int u1), .val (.int u2), .val (.int u3)] [(.int (lcmpW ((u1.toInt64) - (u2.toInt64)) (u3.toInt64)))])) _
        refine XS.ifNo X0.here hx rfl (hb hby d10_8) rfl (Jvm.Free.XT.ll_gt_f hc10) ?_
        show Steps p.tables e below (s₁.setTop (mkF m 11 #[.val (.int u1), .val (.int u2), .val (.int u3)] [])) _
        refine XS.iconst X0.here hx rfl (hb hby d10_11) ?_
        show Steps p.tables e below (s₁.setTop (mkF m 12 #[.val (.int u1), .val (.int u2), .val (.int u3)] [(.int (1 : Int32))])) _
        refine XS.goto X0.here hx rfl (pc0 := 12) (pc' := 16) rfl (hb hby d10_12) (by decide) (by decide) ?_
        exact kk)
    obtain ⟨fs, hr, hrun, hended, hW, hsame⟩ := X0.leave (v := some (.int (1 : Int32))) (fun h => by rw [Bd.returns] at h; cases h)
    refine ⟨_, _, pre12 _ ?_, hrun, hended, _, _, rfl, ?_, ⟨_, rfl⟩, hW, hsame.mono (by decide) (by decide)⟩
    · show Steps p.tables e below (s₁.setTop (mkF m 16 #[.val (.int u1), .val (.int u2), .val (.int u3)] [(.int (1 : Int32))])) _
      exact retOut X0 hx Bd.returns rfl (Or.inl ⟨rfl, Or.inl rfl, _, rfl⟩) (hb hby d10_16) hr
    · show Qnear Z u1 u2 u3 h0 n0 _ s₁.heap _
      rw [e0]
      exact ⟨(by unfold own_near; rw [if_neg hc10]), N0, rfl⟩
theorem d6_0 : decode method_3_code 0 = .ok (.iload_n 0, 1) := by decide +kernel
theorem d6_1 : decode method_3_code 1 = .ok (.iload_n 3, 1) := by decide +kernel
theorem d6_2 : decode method_3_code 2 = .ok (.iload 4, 2) := by decide +kernel
theorem d6_4 : decode method_3_code 4 = .ok (.invokestatic 41, 3) := by decide +kernel
theorem pd_0 : parseMethodDescriptor "(III)I" = some ⟨[.int, .int, .int], some .int⟩ := by decide +kernel
theorem d6_7 : decode method_3_code 7 = .ok (.iload_n 1, 1) := by decide +kernel
theorem d6_8 : decode method_3_code 8 = .ok (.iload_n 3, 1) := by decide +kernel
theorem d6_9 : decode method_3_code 9 = .ok (.iload 4, 2) := by decide +kernel
theorem d6_11 : decode method_3_code 11 = .ok (.invokestatic 41, 3) := by decide +kernel
theorem d6_14 : decode method_3_code 14 = .ok (.iadd, 1) := by decide +kernel
theorem d6_15 : decode method_3_code 15 = .ok (.iload_n 2, 1) := by decide +kernel
theorem d6_16 : decode method_3_code 16 = .ok (.iload_n 3, 1) := by decide +kernel
theorem d6_17 : decode method_3_code 17 = .ok (.iload 4, 2) := by decide +kernel
theorem d6_19 : decode method_3_code 19 = .ok (.invokestatic 41, 3) := by decide +kernel
theorem d6_22 : decode method_3_code 22 = .ok (.iadd, 1) := by decide +kernel
def own_before (u1 : Int32) (u2 : Int32) (u3 : Int32) (u4 : Int32) (u5 : Int32) : Int32 := (((own_far u1 u4 u5) + (own_far u2 u4 u5)) + (own_far u3 u4 u5))
theorem d6_23 : decode method_3_code 23 = .ok (.ireturn, 1) := by decide +kernel
theorem ef_rmbefore (m : MethodId) (x0 : Int32) (x1 : Int32) (x2 : Int32) (x3 : Int32) (x4 : Int32) : entryFrame m #[(.int x0), (.int x1), (.int x2), (.int x3), (.int x4)] 5 = mkF m 0 #[.val (.int x0), .val (.int x1), .val (.int x2), .val (.int x3), .val (.int x4)] [] := by first | (simp [entryFrame, mkF, argsToLocals, Value.category]; done) | rfl
def Qbefore (Z : State) (u1 : Int32) (u2 : Int32) (u3 : Int32) (u4 : Int32) (u5 : Int32) (h0 : Heap) (n0 : Nat) (v : Option Value) (h : Heap) (L : List Loc) : Prop := v = some (.int (own_before u1 u2 u3 u4 u5)) ∧ Fr n0 L ∧ h = h0
set_option maxRecDepth 65536 in
set_option maxHeartbeats 40000000 in
theorem rmbefore (l : Launch) (Z : State) (a0 : Array Value) (hw : ∀ d ∈ tables_1, d.before a0 Z = true) (ws : List Jvm.Cond) (u1 : Int32) (u2 : Int32) (u3 : Int32) (u4 : Int32) (u5 : Int32) (h0 : Heap) (n0 : Nat) (Z0 : n0 ≤ h0.size)  :
    MetFree l (⟨"com/example/iken/iken/rank/WindowMoveToPinLaw", "before", "(IIIII)I"⟩ : MethodName) (head1 (Jvm.Cond.code (⟨"com/example/iken/iken/rank/WindowMoveToPinLaw", "before", "(IIIII)I"⟩ : MethodName) method_3_code 5 (some .int) :: ws) ({ frames := 1, cells := 0, slots := 0, locals := 15 } : Room)) (fun aA uU => aA = #[(.int u1), (.int u2), (.int u3), (.int u4), (.int u5)] ∧ Z.Warmed39 uU.vm ∧ uU.heap = h0) (fun _ _ _ _ _ => True) (fun _ uU oO uU' => ∃ vV lL, oO = .returned vV ∧ Qbefore Z u1 u2 u3 u4 u5 h0 n0 vV uU'.heap lL ∧ FrameEnd uU oO uU' lL ({ frames := 1, cells := 0, slots := 0, locals := 15 } : Room).cells ({ frames := 1, cells := 0, slots := 0, locals := 15 } : Room).slots) := by
  refine MetFree.of_bodySF (plainFor_of_name pn_0) hisR ?_
  intro p e s m args below meth c s₁ Bd hml0 hP hK
  obtain ⟨rfl, hZ, hh⟩ := hP
  have hx := Bd.exec
  have hby := Bd.bytes
  have hml : c.maxLocals = 5 := hml0
  have hown : s.vm.findClass "com/example/iken/iken/rank/WindowMoveToPinLaw" = some m.cls := findClass_of_methodNamed Bd.named
  have hnm := (name_of_methodNamed Bd.named Bd.method).1
  have X0 : Stand p l e ({ frames := 1, cells := 0, slots := 0, locals := 15 } : Room) s m #[(.int u1), (.int u2), (.int u3), (.int u4), (.int u5)] below meth c s₁ [] 0 0 := Stand.of_body Bd
  have e0 : s₁.heap = h0 := by rw [← hh, Bd.state]; rfl
  have N0 := Fr.nil n0
  have pre0 : ∀ t, Steps p.tables e below (s₁.setTop (mkF m 0 #[.val (.int u1), .val (.int u2), .val (.int u3), .val (.int u4), .val (.int u5)] [])) t → Steps p.tables e below (s₁.setTop (entryFrame m #[(.int u1), (.int u2), (.int u3), (.int u4), (.int u5)] 5)) t := fun t kk => castTop (ef_rmbefore m u1 u2 u3 u4 u5) kk
  obtain ⟨_, _, ⟨T13, L13, k13, n13⟩, -, X13, ⟨Lc13, hQ13, l13, y13, z13⟩, st13⟩ := Jvm.LawKit.callS X0 hx (y := (⟨"com/example/iken/iken/rank/WindowMoveToPinLaw", "far", "(III)I"⟩ : MethodName)) hown (mvT hZ (hw _ (List.mem_of_getElem? (i := 39) rfl))) (mvT hZ (hw _ (List.mem_of_getElem? (i := 40) rfl))) (mvT hZ (hw _ (List.mem_of_getElem? (i := 37) rfl))) (mvT hZ (hw _ (List.mem_of_getElem? (i := 41) rfl))) (by decide) (backOf (W := 0) (rmfar l Z a0 hw [] u1 u4 u5 h0 n0 Z0) hZ (hw _ (List.mem_of_getElem? (i := 41) rfl)) (hw _ (List.mem_of_getElem? (i := 37) rfl)) (by decide) (by decide)) (g := (mkF m 4 #[.val (.int u1), .val (.int u2), .val (.int u3), .val (.int u4), .val (.int u5)] [(.int u5), (.int u4), (.int u1)])) rfl (by rw [hml]; rfl) (argsL := [(.int u1), (.int u4), (.int u5)]) (rest := []) (lenOf pd_0 rfl) rfl (by show 2 * 0 + _ ≤ _; exact Nat.le_of_eq rfl) (hb hby d6_4) (fun _ _ => ⟨rfl, e0, (by decide : 0 + 0 ≤ _), (by decide : 0 + 0 ≤ _)⟩)
  dsimp only [Pt.U, Pt.locs, Pt.cells, Pt.slots] at X13 l13 y13 z13 st13 hQ13
  subst l13 y13 z13
  obtain ⟨rfl, N13q, e13⟩ := hQ13
  have N13 := Fr.app N0 N13q
  obtain ⟨_, _, ⟨T14, L14, k14, n14⟩, -, X14, ⟨Lc14, hQ14, l14, y14, z14⟩, st14⟩ := Jvm.LawKit.callS X13 hx (y := (⟨"com/example/iken/iken/rank/WindowMoveToPinLaw", "far", "(III)I"⟩ : MethodName)) hown (mvT hZ (hw _ (List.mem_of_getElem? (i := 39) rfl))) (mvT hZ (hw _ (List.mem_of_getElem? (i := 40) rfl))) (mvT hZ (hw _ (List.mem_of_getElem? (i := 37) rfl))) (mvT hZ (hw _ (List.mem_of_getElem? (i := 41) rfl))) (by decide) (backOf (W := 1) (rmfar l Z a0 hw [] u2 u4 u5 h0 n0 Z0) hZ (hw _ (List.mem_of_getElem? (i := 41) rfl)) (hw _ (List.mem_of_getElem? (i := 37) rfl)) (by decide) (by decide)) (g := (mkF m 11 #[.val (.int u1), .val (.int u2), .val (.int u3), .val (.int u4), .val (.int u5)] [(.int u5), (.int u4), (.int u2), (.int (own_far u1 u4 u5))])) rfl (by rw [hml]; rfl) (argsL := [(.int u2), (.int u4), (.int u5)]) (rest := [(.int (own_far u1 u4 u5))]) (lenOf pd_0 rfl) rfl (by show 2 * 0 + _ ≤ _; exact Nat.le_of_eq rfl) (hb hby d6_11) (fun _ _ => ⟨rfl, e13, (by decide : 0 + 0 ≤ _), (by decide : 0 + 0 ≤ _)⟩)
  dsimp only [Pt.U, Pt.locs, Pt.cells, Pt.slots] at X14 l14 y14 z14 st14 hQ14
  subst l14 y14 z14
  obtain ⟨rfl, N14q, e14⟩ := hQ14
  have N14 := Fr.app N13 N14q
  obtain ⟨_, _, ⟨T15, L15, k15, n15⟩, -, X15, ⟨Lc15, hQ15, l15, y15, z15⟩, st15⟩ := Jvm.LawKit.callS X14 hx (y := (⟨"com/example/iken/iken/rank/WindowMoveToPinLaw", "far", "(III)I"⟩ : MethodName)) hown (mvT hZ (hw _ (List.mem_of_getElem? (i := 39) rfl))) (mvT hZ (hw _ (List.mem_of_getElem? (i := 40) rfl))) (mvT hZ (hw _ (List.mem_of_getElem? (i := 37) rfl))) (mvT hZ (hw _ (List.mem_of_getElem? (i := 41) rfl))) (by decide) (backOf (W := 1) (rmfar l Z a0 hw [] u3 u4 u5 h0 n0 Z0) hZ (hw _ (List.mem_of_getElem? (i := 41) rfl)) (hw _ (List.mem_of_getElem? (i := 37) rfl)) (by decide) (by decide)) (g := (mkF m 19 #[.val (.int u1), .val (.int u2), .val (.int u3), .val (.int u4), .val (.int u5)] [(.int u5), (.int u4), (.int u3), (.int ((own_far u1 u4 u5) + (own_far u2 u4 u5)))])) rfl (by rw [hml]; rfl) (argsL := [(.int u3), (.int u4), (.int u5)]) (rest := [(.int ((own_far u1 u4 u5) + (own_far u2 u4 u5)))]) (lenOf pd_0 rfl) rfl (by show 2 * 0 + _ ≤ _; exact Nat.le_of_eq rfl) (hb hby d6_19) (fun _ _ => ⟨rfl, e14, (by decide : 0 + 0 ≤ _), (by decide : 0 + 0 ≤ _)⟩)
  dsimp only [Pt.U, Pt.locs, Pt.cells, Pt.slots] at X15 l15 y15 z15 st15 hQ15
  subst l15 y15 z15
  obtain ⟨rfl, N15q, e15⟩ := hQ15
  have N15 := Fr.app N14 N15q
  have pre16 : ∀ t, Steps p.tables e below (T15.setTop (mkF m 23 #[.val (.int u1), .val (.int u2), .val (.int u3), .val (.int u4), .val (.int u5)] [(.int (((own_far u1 u4 u5) + (own_far u2 u4 u5)) + (own_far u3 u4 u5)))])) t → Steps p.tables e below (s₁.setTop (entryFrame m #[(.int u1), (.int u2), (.int u3), (.int u4), (.int u5)] 5)) t := fun t kk => pre0 t (by
      show Steps p.tables e below (s₁.setTop (mkF m 0 #[.val (.int u1), .val (.int u2), .val (.int u3), .val (.int u4), .val (.int u5)] [])) _
      refine XS.iloadN X0.here hx rfl (hb hby d6_0) rfl ?_
      show Steps p.tables e below (s₁.setTop (mkF m 1 #[.val (.int u1), .val (.int u2), .val (.int u3), .val (.int u4), .val (.int u5)] [(.int u1)])) _
      refine XS.iloadN X0.here hx rfl (hb hby d6_1) rfl ?_
      show Steps p.tables e below (s₁.setTop (mkF m 2 #[.val (.int u1), .val (.int u2), .val (.int u3), .val (.int u4), .val (.int u5)] [(.int u4), (.int u1)])) _
      refine XS.iload X0.here hx rfl (hb hby d6_2) rfl ?_
      show Steps p.tables e below (s₁.setTop (mkF m 4 #[.val (.int u1), .val (.int u2), .val (.int u3), .val (.int u4), .val (.int u5)] [(.int u5), (.int u4), (.int u1)])) _
      refine st13 _ ?_
      show Steps p.tables e below (T13.setTop (mkF m 7 #[.val (.int u1), .val (.int u2), .val (.int u3), .val (.int u4), .val (.int u5)] [(.int (own_far u1 u4 u5))])) _
      refine XS.iloadN X13.here hx rfl (hb hby d6_7) rfl ?_
      show Steps p.tables e below (T13.setTop (mkF m 8 #[.val (.int u1), .val (.int u2), .val (.int u3), .val (.int u4), .val (.int u5)] [(.int u2), (.int (own_far u1 u4 u5))])) _
      refine XS.iloadN X13.here hx rfl (hb hby d6_8) rfl ?_
      show Steps p.tables e below (T13.setTop (mkF m 9 #[.val (.int u1), .val (.int u2), .val (.int u3), .val (.int u4), .val (.int u5)] [(.int u4), (.int u2), (.int (own_far u1 u4 u5))])) _
      refine XS.iload X13.here hx rfl (hb hby d6_9) rfl ?_
      show Steps p.tables e below (T13.setTop (mkF m 11 #[.val (.int u1), .val (.int u2), .val (.int u3), .val (.int u4), .val (.int u5)] [(.int u5), (.int u4), (.int u2), (.int (own_far u1 u4 u5))])) _
      refine st14 _ ?_
      show Steps p.tables e below (T14.setTop (mkF m 14 #[.val (.int u1), .val (.int u2), .val (.int u3), .val (.int u4), .val (.int u5)] [(.int (own_far u2 u4 u5)), (.int (own_far u1 u4 u5))])) _
      refine XS.iadd X14.here hx rfl (hb hby d6_14) rfl ?_
      show Steps p.tables e below (T14.setTop (mkF m 15 #[.val (.int u1), .val (.int u2), .val (.int u3), .val (.int u4), .val (.int u5)] [(.int ((own_far u1 u4 u5) + (own_far u2 u4 u5)))])) _
      refine XS.iloadN X14.here hx rfl (hb hby d6_15) rfl ?_
      show Steps p.tables e below (T14.setTop (mkF m 16 #[.val (.int u1), .val (.int u2), .val (.int u3), .val (.int u4), .val (.int u5)] [(.int u3), (.int ((own_far u1 u4 u5) + (own_far u2 u4 u5)))])) _
      refine XS.iloadN X14.here hx rfl (hb hby d6_16) rfl ?_
      show Steps p.tables e below (T14.setTop (mkF m 17 #[.val (.int u1), .val (.int u2), .val (.int u3), .val (.int u4), .val (.int u5)] [(.int u4), (.int u3), (.int ((own_far u1 u4 u5) + (own_far u2 u4 u5)))])) _
      refine XS.iload X14.here hx rfl (hb hby d6_17) rfl ?_
      show Steps p.tables e below (T14.setTop (mkF m 19 #[.val (.int u1), .val (.int u2), .val (.int u3), .val (.int u4), .val (.int u5)] [(.int u5), (.int u4), (.int u3), (.int ((own_far u1 u4 u5) + (own_far u2 u4 u5)))])) _
      refine st15 _ ?_
      show Steps p.tables e below (T15.setTop (mkF m 22 #[.val (.int u1), .val (.int u2), .val (.int u3), .val (.int u4), .val (.int u5)] [(.int (own_far u3 u4 u5)), (.int ((own_far u1 u4 u5) + (own_far u2 u4 u5)))])) _
      refine XS.iadd X15.here hx rfl (hb hby d6_22) rfl ?_
      exact kk)
  obtain ⟨fs, hr, hrun, hended, hW, hsame⟩ := X15.leave (v := some (.int (((own_far u1 u4 u5) + (own_far u2 u4 u5)) + (own_far u3 u4 u5)))) (fun h => by rw [Bd.returns] at h; cases h)
  refine ⟨_, _, pre16 _ ?_, hrun, hended, _, _, rfl, ?_, ⟨_, rfl⟩, hW, hsame.mono (by decide) (by decide)⟩
  · show Steps p.tables e below (T15.setTop (mkF m 23 #[.val (.int u1), .val (.int u2), .val (.int u3), .val (.int u4), .val (.int u5)] [(.int (((own_far u1 u4 u5) + (own_far u2 u4 u5)) + (own_far u3 u4 u5)))])) _
    exact retOut X15 hx Bd.returns rfl (Or.inl ⟨rfl, Or.inl rfl, _, rfl⟩) (hb hby d6_23) hr
  · show Qbefore Z u1 u2 u3 u4 u5 h0 n0 _ T15.heap _
    rw [e15]
    exact ⟨rfl, N15, rfl⟩
theorem d9_0 : decode method_4_code 0 = .ok (.iload_n 0, 1) := by decide +kernel
theorem d9_1 : decode method_4_code 1 = .ok (.iload_n 3, 1) := by decide +kernel
theorem d9_2 : decode method_4_code 2 = .ok (.iload 4, 2) := by decide +kernel
theorem d9_4 : decode method_4_code 4 = .ok (.invokestatic 45, 3) := by decide +kernel
theorem d9_7 : decode method_4_code 7 = .ok (.iload_n 1, 1) := by decide +kernel
theorem d9_8 : decode method_4_code 8 = .ok (.iload_n 3, 1) := by decide +kernel
theorem d9_9 : decode method_4_code 9 = .ok (.iload 4, 2) := by decide +kernel
theorem d9_11 : decode method_4_code 11 = .ok (.invokestatic 45, 3) := by decide +kernel
theorem d9_14 : decode method_4_code 14 = .ok (.iadd, 1) := by decide +kernel
theorem d9_15 : decode method_4_code 15 = .ok (.iload_n 2, 1) := by decide +kernel
theorem d9_16 : decode method_4_code 16 = .ok (.iload_n 3, 1) := by decide +kernel
theorem d9_17 : decode method_4_code 17 = .ok (.iload 4, 2) := by decide +kernel
theorem d9_19 : decode method_4_code 19 = .ok (.invokestatic 45, 3) := by decide +kernel
theorem d9_22 : decode method_4_code 22 = .ok (.iadd, 1) := by decide +kernel
def own_within (u1 : Int32) (u2 : Int32) (u3 : Int32) (u4 : Int32) (u5 : Int32) : Int32 := (((own_near u1 u4 u5) + (own_near u2 u4 u5)) + (own_near u3 u4 u5))
theorem d9_23 : decode method_4_code 23 = .ok (.ireturn, 1) := by decide +kernel
theorem ef_rmwithin (m : MethodId) (x0 : Int32) (x1 : Int32) (x2 : Int32) (x3 : Int32) (x4 : Int32) : entryFrame m #[(.int x0), (.int x1), (.int x2), (.int x3), (.int x4)] 5 = mkF m 0 #[.val (.int x0), .val (.int x1), .val (.int x2), .val (.int x3), .val (.int x4)] [] := by first | (simp [entryFrame, mkF, argsToLocals, Value.category]; done) | rfl
def Qwithin (Z : State) (u1 : Int32) (u2 : Int32) (u3 : Int32) (u4 : Int32) (u5 : Int32) (h0 : Heap) (n0 : Nat) (v : Option Value) (h : Heap) (L : List Loc) : Prop := v = some (.int (own_within u1 u2 u3 u4 u5)) ∧ Fr n0 L ∧ h = h0
set_option maxRecDepth 65536 in
set_option maxHeartbeats 40000000 in
theorem rmwithin (l : Launch) (Z : State) (a0 : Array Value) (hw : ∀ d ∈ tables_1, d.before a0 Z = true) (ws : List Jvm.Cond) (u1 : Int32) (u2 : Int32) (u3 : Int32) (u4 : Int32) (u5 : Int32) (h0 : Heap) (n0 : Nat) (Z0 : n0 ≤ h0.size)  :
    MetFree l (⟨"com/example/iken/iken/rank/WindowMoveToPinLaw", "within", "(IIIII)I"⟩ : MethodName) (head1 (Jvm.Cond.code (⟨"com/example/iken/iken/rank/WindowMoveToPinLaw", "within", "(IIIII)I"⟩ : MethodName) method_4_code 5 (some .int) :: ws) ({ frames := 1, cells := 0, slots := 0, locals := 15 } : Room)) (fun aA uU => aA = #[(.int u1), (.int u2), (.int u3), (.int u4), (.int u5)] ∧ Z.Warmed39 uU.vm ∧ uU.heap = h0) (fun _ _ _ _ _ => True) (fun _ uU oO uU' => ∃ vV lL, oO = .returned vV ∧ Qwithin Z u1 u2 u3 u4 u5 h0 n0 vV uU'.heap lL ∧ FrameEnd uU oO uU' lL ({ frames := 1, cells := 0, slots := 0, locals := 15 } : Room).cells ({ frames := 1, cells := 0, slots := 0, locals := 15 } : Room).slots) := by
  refine MetFree.of_bodySF (plainFor_of_name pn_0) hisR ?_
  intro p e s m args below meth c s₁ Bd hml0 hP hK
  obtain ⟨rfl, hZ, hh⟩ := hP
  have hx := Bd.exec
  have hby := Bd.bytes
  have hml : c.maxLocals = 5 := hml0
  have hown : s.vm.findClass "com/example/iken/iken/rank/WindowMoveToPinLaw" = some m.cls := findClass_of_methodNamed Bd.named
  have hnm := (name_of_methodNamed Bd.named Bd.method).1
  have X0 : Stand p l e ({ frames := 1, cells := 0, slots := 0, locals := 15 } : Room) s m #[(.int u1), (.int u2), (.int u3), (.int u4), (.int u5)] below meth c s₁ [] 0 0 := Stand.of_body Bd
  have e0 : s₁.heap = h0 := by rw [← hh, Bd.state]; rfl
  have N0 := Fr.nil n0
  have pre0 : ∀ t, Steps p.tables e below (s₁.setTop (mkF m 0 #[.val (.int u1), .val (.int u2), .val (.int u3), .val (.int u4), .val (.int u5)] [])) t → Steps p.tables e below (s₁.setTop (entryFrame m #[(.int u1), (.int u2), (.int u3), (.int u4), (.int u5)] 5)) t := fun t kk => castTop (ef_rmwithin m u1 u2 u3 u4 u5) kk
  obtain ⟨_, _, ⟨T17, L17, k17, n17⟩, -, X17, ⟨Lc17, hQ17, l17, y17, z17⟩, st17⟩ := Jvm.LawKit.callS X0 hx (y := (⟨"com/example/iken/iken/rank/WindowMoveToPinLaw", "near", "(III)I"⟩ : MethodName)) hown (mvT hZ (hw _ (List.mem_of_getElem? (i := 50) rfl))) (mvT hZ (hw _ (List.mem_of_getElem? (i := 51) rfl))) (mvT hZ (hw _ (List.mem_of_getElem? (i := 37) rfl))) (mvT hZ (hw _ (List.mem_of_getElem? (i := 52) rfl))) (by decide) (backOf (W := 0) (rmnear l Z a0 hw [] u1 u4 u5 h0 n0 Z0) hZ (hw _ (List.mem_of_getElem? (i := 52) rfl)) (hw _ (List.mem_of_getElem? (i := 37) rfl)) (by decide) (by decide)) (g := (mkF m 4 #[.val (.int u1), .val (.int u2), .val (.int u3), .val (.int u4), .val (.int u5)] [(.int u5), (.int u4), (.int u1)])) rfl (by rw [hml]; rfl) (argsL := [(.int u1), (.int u4), (.int u5)]) (rest := []) (lenOf pd_0 rfl) rfl (by show 2 * 0 + _ ≤ _; exact Nat.le_of_eq rfl) (hb hby d9_4) (fun _ _ => ⟨rfl, e0, (by decide : 0 + 0 ≤ _), (by decide : 0 + 0 ≤ _)⟩)
  dsimp only [Pt.U, Pt.locs, Pt.cells, Pt.slots] at X17 l17 y17 z17 st17 hQ17
  subst l17 y17 z17
  obtain ⟨rfl, N17q, e17⟩ := hQ17
  have N17 := Fr.app N0 N17q
  obtain ⟨_, _, ⟨T18, L18, k18, n18⟩, -, X18, ⟨Lc18, hQ18, l18, y18, z18⟩, st18⟩ := Jvm.LawKit.callS X17 hx (y := (⟨"com/example/iken/iken/rank/WindowMoveToPinLaw", "near", "(III)I"⟩ : MethodName)) hown (mvT hZ (hw _ (List.mem_of_getElem? (i := 50) rfl))) (mvT hZ (hw _ (List.mem_of_getElem? (i := 51) rfl))) (mvT hZ (hw _ (List.mem_of_getElem? (i := 37) rfl))) (mvT hZ (hw _ (List.mem_of_getElem? (i := 52) rfl))) (by decide) (backOf (W := 1) (rmnear l Z a0 hw [] u2 u4 u5 h0 n0 Z0) hZ (hw _ (List.mem_of_getElem? (i := 52) rfl)) (hw _ (List.mem_of_getElem? (i := 37) rfl)) (by decide) (by decide)) (g := (mkF m 11 #[.val (.int u1), .val (.int u2), .val (.int u3), .val (.int u4), .val (.int u5)] [(.int u5), (.int u4), (.int u2), (.int (own_near u1 u4 u5))])) rfl (by rw [hml]; rfl) (argsL := [(.int u2), (.int u4), (.int u5)]) (rest := [(.int (own_near u1 u4 u5))]) (lenOf pd_0 rfl) rfl (by show 2 * 0 + _ ≤ _; exact Nat.le_of_eq rfl) (hb hby d9_11) (fun _ _ => ⟨rfl, e17, (by decide : 0 + 0 ≤ _), (by decide : 0 + 0 ≤ _)⟩)
  dsimp only [Pt.U, Pt.locs, Pt.cells, Pt.slots] at X18 l18 y18 z18 st18 hQ18
  subst l18 y18 z18
  obtain ⟨rfl, N18q, e18⟩ := hQ18
  have N18 := Fr.app N17 N18q
  obtain ⟨_, _, ⟨T19, L19, k19, n19⟩, -, X19, ⟨Lc19, hQ19, l19, y19, z19⟩, st19⟩ := Jvm.LawKit.callS X18 hx (y := (⟨"com/example/iken/iken/rank/WindowMoveToPinLaw", "near", "(III)I"⟩ : MethodName)) hown (mvT hZ (hw _ (List.mem_of_getElem? (i := 50) rfl))) (mvT hZ (hw _ (List.mem_of_getElem? (i := 51) rfl))) (mvT hZ (hw _ (List.mem_of_getElem? (i := 37) rfl))) (mvT hZ (hw _ (List.mem_of_getElem? (i := 52) rfl))) (by decide) (backOf (W := 1) (rmnear l Z a0 hw [] u3 u4 u5 h0 n0 Z0) hZ (hw _ (List.mem_of_getElem? (i := 52) rfl)) (hw _ (List.mem_of_getElem? (i := 37) rfl)) (by decide) (by decide)) (g := (mkF m 19 #[.val (.int u1), .val (.int u2), .val (.int u3), .val (.int u4), .val (.int u5)] [(.int u5), (.int u4), (.int u3), (.int ((own_near u1 u4 u5) + (own_near u2 u4 u5)))])) rfl (by rw [hml]; rfl) (argsL := [(.int u3), (.int u4), (.int u5)]) (rest := [(.int ((own_near u1 u4 u5) + (own_near u2 u4 u5)))]) (lenOf pd_0 rfl) rfl (by show 2 * 0 + _ ≤ _; exact Nat.le_of_eq rfl) (hb hby d9_19) (fun _ _ => ⟨rfl, e18, (by decide : 0 + 0 ≤ _), (by decide : 0 + 0 ≤ _)⟩)
  dsimp only [Pt.U, Pt.locs, Pt.cells, Pt.slots] at X19 l19 y19 z19 st19 hQ19
  subst l19 y19 z19
  obtain ⟨rfl, N19q, e19⟩ := hQ19
  have N19 := Fr.app N18 N19q
  have pre20 : ∀ t, Steps p.tables e below (T19.setTop (mkF m 23 #[.val (.int u1), .val (.int u2), .val (.int u3), .val (.int u4), .val (.int u5)] [(.int (((own_near u1 u4 u5) + (own_near u2 u4 u5)) + (own_near u3 u4 u5)))])) t → Steps p.tables e below (s₁.setTop (entryFrame m #[(.int u1), (.int u2), (.int u3), (.int u4), (.int u5)] 5)) t := fun t kk => pre0 t (by
      show Steps p.tables e below (s₁.setTop (mkF m 0 #[.val (.int u1), .val (.int u2), .val (.int u3), .val (.int u4), .val (.int u5)] [])) _
      refine XS.iloadN X0.here hx rfl (hb hby d9_0) rfl ?_
      show Steps p.tables e below (s₁.setTop (mkF m 1 #[.val (.int u1), .val (.int u2), .val (.int u3), .val (.int u4), .val (.int u5)] [(.int u1)])) _
      refine XS.iloadN X0.here hx rfl (hb hby d9_1) rfl ?_
      show Steps p.tables e below (s₁.setTop (mkF m 2 #[.val (.int u1), .val (.int u2), .val (.int u3), .val (.int u4), .val (.int u5)] [(.int u4), (.int u1)])) _
      refine XS.iload X0.here hx rfl (hb hby d9_2) rfl ?_
      show Steps p.tables e below (s₁.setTop (mkF m 4 #[.val (.int u1), .val (.int u2), .val (.int u3), .val (.int u4), .val (.int u5)] [(.int u5), (.int u4), (.int u1)])) _
      refine st17 _ ?_
      show Steps p.tables e below (T17.setTop (mkF m 7 #[.val (.int u1), .val (.int u2), .val (.int u3), .val (.int u4), .val (.int u5)] [(.int (own_near u1 u4 u5))])) _
      refine XS.iloadN X17.here hx rfl (hb hby d9_7) rfl ?_
      show Steps p.tables e below (T17.setTop (mkF m 8 #[.val (.int u1), .val (.int u2), .val (.int u3), .val (.int u4), .val (.int u5)] [(.int u2), (.int (own_near u1 u4 u5))])) _
      refine XS.iloadN X17.here hx rfl (hb hby d9_8) rfl ?_
      show Steps p.tables e below (T17.setTop (mkF m 9 #[.val (.int u1), .val (.int u2), .val (.int u3), .val (.int u4), .val (.int u5)] [(.int u4), (.int u2), (.int (own_near u1 u4 u5))])) _
      refine XS.iload X17.here hx rfl (hb hby d9_9) rfl ?_
      show Steps p.tables e below (T17.setTop (mkF m 11 #[.val (.int u1), .val (.int u2), .val (.int u3), .val (.int u4), .val (.int u5)] [(.int u5), (.int u4), (.int u2), (.int (own_near u1 u4 u5))])) _
      refine st18 _ ?_
      show Steps p.tables e below (T18.setTop (mkF m 14 #[.val (.int u1), .val (.int u2), .val (.int u3), .val (.int u4), .val (.int u5)] [(.int (own_near u2 u4 u5)), (.int (own_near u1 u4 u5))])) _
      refine XS.iadd X18.here hx rfl (hb hby d9_14) rfl ?_
      show Steps p.tables e below (T18.setTop (mkF m 15 #[.val (.int u1), .val (.int u2), .val (.int u3), .val (.int u4), .val (.int u5)] [(.int ((own_near u1 u4 u5) + (own_near u2 u4 u5)))])) _
      refine XS.iloadN X18.here hx rfl (hb hby d9_15) rfl ?_
      show Steps p.tables e below (T18.setTop (mkF m 16 #[.val (.int u1), .val (.int u2), .val (.int u3), .val (.int u4), .val (.int u5)] [(.int u3), (.int ((own_near u1 u4 u5) + (own_near u2 u4 u5)))])) _
      refine XS.iloadN X18.here hx rfl (hb hby d9_16) rfl ?_
      show Steps p.tables e below (T18.setTop (mkF m 17 #[.val (.int u1), .val (.int u2), .val (.int u3), .val (.int u4), .val (.int u5)] [(.int u4), (.int u3), (.int ((own_near u1 u4 u5) + (own_near u2 u4 u5)))])) _
      refine XS.iload X18.here hx rfl (hb hby d9_17) rfl ?_
      show Steps p.tables e below (T18.setTop (mkF m 19 #[.val (.int u1), .val (.int u2), .val (.int u3), .val (.int u4), .val (.int u5)] [(.int u5), (.int u4), (.int u3), (.int ((own_near u1 u4 u5) + (own_near u2 u4 u5)))])) _
      refine st19 _ ?_
      show Steps p.tables e below (T19.setTop (mkF m 22 #[.val (.int u1), .val (.int u2), .val (.int u3), .val (.int u4), .val (.int u5)] [(.int (own_near u3 u4 u5)), (.int ((own_near u1 u4 u5) + (own_near u2 u4 u5)))])) _
      refine XS.iadd X19.here hx rfl (hb hby d9_22) rfl ?_
      exact kk)
  obtain ⟨fs, hr, hrun, hended, hW, hsame⟩ := X19.leave (v := some (.int (((own_near u1 u4 u5) + (own_near u2 u4 u5)) + (own_near u3 u4 u5)))) (fun h => by rw [Bd.returns] at h; cases h)
  refine ⟨_, _, pre20 _ ?_, hrun, hended, _, _, rfl, ?_, ⟨_, rfl⟩, hW, hsame.mono (by decide) (by decide)⟩
  · show Steps p.tables e below (T19.setTop (mkF m 23 #[.val (.int u1), .val (.int u2), .val (.int u3), .val (.int u4), .val (.int u5)] [(.int (((own_near u1 u4 u5) + (own_near u2 u4 u5)) + (own_near u3 u4 u5)))])) _
    exact retOut X19 hx Bd.returns rfl (Or.inl ⟨rfl, Or.inl rfl, _, rfl⟩) (hb hby d9_23) hr
  · show Qwithin Z u1 u2 u3 u4 u5 h0 n0 _ T19.heap _
    rw [e19]
    exact ⟨rfl, N19, rfl⟩
theorem d2_0 : decode prog_34_method_1_code 0 = .ok (.aload_n 0, 1) := by decide +kernel
theorem d2_1 : decode prog_34_method_1_code 1 = .ok (.invokespecial 1, 3) := by decide +kernel
theorem d2_4 : decode prog_34_method_1_code 4 = .ok (.aload_n 0, 1) := by decide +kernel
theorem d2_5 : decode prog_34_method_1_code 5 = .ok (.aload_n 1, 1) := by decide +kernel
theorem d2_6 : decode prog_34_method_1_code 6 = .ok (.putfield 7, 3) := by decide +kernel
theorem d2_9 : decode prog_34_method_1_code 9 = .ok (.aload_n 0, 1) := by decide +kernel
theorem d2_10 : decode prog_34_method_1_code 10 = .ok (.iload_n 2, 1) := by decide +kernel
theorem d2_11 : decode prog_34_method_1_code 11 = .ok (.putfield 13, 3) := by decide +kernel
theorem d2_14 : decode prog_34_method_1_code 14 = .ok (.return_, 1) := by decide +kernel
theorem ef_rmInit (m : MethodId) (x0 : Addr) (x1 : Addr) (x2 : Int32) : entryFrame m #[(.ref x0), (.ref x1), (.int x2)] 3 = mkF m 0 #[.val (.ref x0), .val (.ref x1), .val (.int x2)] [] := by first | (simp [entryFrame, mkF, argsToLocals, Value.category]; done) | rfl
def QInit (Z : State) (b : Addr) (a : Addr) (rc : Int32) (h0 : Heap) (n0 : Nat) (v : Option Value) (h : Heap) (L : List Loc) : Prop := v = none ∧ Fr n0 L ∧ Keep h0 h [b] ∧ Exa Z h b "com/example/iken/iken/rank/Window" ∧ Fld Z h b "com/example/iken/iken/rank/Window" "opinions" "[I" (.ref a) ∧ Fld Z h b "com/example/iken/iken/rank/Window" "reach" "I" (.int rc) ∧ Fld Z h b "com/example/iken/iken/rank/Window" "first" "I" (.int (0 : Int32)) ∧ Fld Z h b "com/example/iken/iken/rank/Window" "end" "I" (.int (0 : Int32))
theorem pn_1 : plainName "com/example/iken/iken/rank/Window" = true := by first | (simp [plainName, overriddenIn]; done) | decide +kernel
set_option maxRecDepth 65536 in
set_option maxHeartbeats 40000000 in
theorem rmInit (l : Launch) (Z : State) (a0 : Array Value) (hw : ∀ d ∈ tables_1, d.before a0 Z = true) (ws : List Jvm.Cond) (b : Addr) (a : Addr) (rc : Int32) (h0 : Heap) (n0 : Nat) (Z0 : n0 ≤ h0.size) (E_b : Exa Z h0 b "com/example/iken/iken/rank/Window") (F_opinions_b : Fld Z h0 b "com/example/iken/iken/rank/Window" "opinions" "[I" .null) (F_reach_b : Fld Z h0 b "com/example/iken/iken/rank/Window" "reach" "I" (.int (0 : Int32))) (F_first_b : Fld Z h0 b "com/example/iken/iken/rank/Window" "first" "I" (.int (0 : Int32))) (F_end_b : Fld Z h0 b "com/example/iken/iken/rank/Window" "end" "I" (.int (0 : Int32))) (g_b : n0 ≤ b) :
    MetFree l (⟨"com/example/iken/iken/rank/Window", "<init>", "([II)V"⟩ : MethodName) (head1 (Jvm.Cond.code (⟨"com/example/iken/iken/rank/Window", "<init>", "([II)V"⟩ : MethodName) prog_34_method_1_code 3 none :: ws) ({ frames := 1, cells := 0, slots := 0, locals := 12 } : Room)) (fun aA uU => aA = #[(.ref b), (.ref a), (.int rc)] ∧ Z.Warmed39 uU.vm ∧ uU.heap = h0) (fun _ _ _ _ _ => True) (fun _ uU oO uU' => ∃ vV lL, oO = .returned vV ∧ QInit Z b a rc h0 n0 vV uU'.heap lL ∧ FrameEnd uU oO uU' lL ({ frames := 1, cells := 0, slots := 0, locals := 12 } : Room).cells ({ frames := 1, cells := 0, slots := 0, locals := 12 } : Room).slots) := by
  refine MetFree.of_bodySF (plainFor_of_name pn_1) hisR ?_
  intro p e s m args below meth c s₁ Bd hml0 hP hK
  obtain ⟨rfl, hZ, hh⟩ := hP
  have hx := Bd.exec
  have hby := Bd.bytes
  have hml : c.maxLocals = 3 := hml0
  have hown : s.vm.findClass "com/example/iken/iken/rank/Window" = some m.cls := findClass_of_methodNamed Bd.named
  have hnm := (name_of_methodNamed Bd.named Bd.method).1
  have X0 : Stand p l e ({ frames := 1, cells := 0, slots := 0, locals := 12 } : Room) s m #[(.ref b), (.ref a), (.int rc)] below meth c s₁ [] 0 0 := Stand.of_body Bd
  have e0 : s₁.heap = h0 := by rw [← hh, Bd.state]; rfl
  have N0 := Fr.nil n0
  have pre0 : ∀ t, Steps p.tables e below (s₁.setTop (mkF m 0 #[.val (.ref b), .val (.ref a), .val (.int rc)] [])) t → Steps p.tables e below (s₁.setTop (entryFrame m #[(.ref b), (.ref a), (.int rc)] 3)) t := fun t kk => castTop (ef_rmInit m b a rc) kk
  obtain ⟨T21, X21, e21, st21⟩ := initO X0 hx hZ hown (hw _ (List.mem_of_getElem? (i := 14) rfl)) (hw _ (List.mem_of_getElem? (i := 15) rfl)) (hw _ (List.mem_of_getElem? (i := 16) rfl)) e0 (g := (mkF m 1 #[.val (.ref b), .val (.ref a), .val (.int rc)] [(.ref b)])) rfl (by rw [hml]; rfl) rfl (hb hby d2_1) (by decide) (W := 0) (by show 2 * 0 + _ ≤ _; exact Nat.le_of_eq rfl) (by decide)
  obtain ⟨T22, h22, X22, e22, W22, st22⟩ := putF X21 hx hZ hown (host := "") (Or.inl (hw _ (List.mem_of_getElem? (i := 17) rfl))) Via.refl e21 F_opinions_b E_b (Or.inr ⟨(hw _ (List.mem_of_getElem? (i := 18) rfl)), rfl, hnm⟩) (hw _ (List.mem_of_getElem? (i := 9) rfl)) (ty := (.array .int)) (by decide) rfl rfl (g := (mkF m 6 #[.val (.ref b), .val (.ref a), .val (.int rc)] [(.ref a), (.ref b)])) rfl rfl (hb hby d2_6)
  have Ex23 : Exa Z h22 b "com/example/iken/iken/rank/Window" := (E_b.wr W22)
  have F24 : Fld Z h22 b "com/example/iken/iken/rank/Window" "reach" "I" (.int (0 : Int32)) := (F_reach_b.other W22 (Or.inr (slot_ne (Or.inr (hw _ (List.mem_of_getElem? (i := 20) rfl))) (Or.inr (hw _ (List.mem_of_getElem? (i := 18) rfl))) (by decide) (t := .int) (t' := (.array .int)) (by decide) (by decide))))
  have F25 : Fld Z h22 b "com/example/iken/iken/rank/Window" "first" "I" (.int (0 : Int32)) := (F_first_b.other W22 (Or.inr (slot_ne (Or.inl (hw _ (List.mem_of_getElem? (i := 27) rfl))) (Or.inr (hw _ (List.mem_of_getElem? (i := 18) rfl))) (by decide) (t := .int) (t' := (.array .int)) (by decide) (by decide))))
  have F26 : Fld Z h22 b "com/example/iken/iken/rank/Window" "end" "I" (.int (0 : Int32)) := (F_end_b.other W22 (Or.inr (slot_ne (Or.inl (hw _ (List.mem_of_getElem? (i := 29) rfl))) (Or.inr (hw _ (List.mem_of_getElem? (i := 18) rfl))) (by decide) (t := .int) (t' := (.array .int)) (by decide) (by decide))))
  have K27 : Keep h0 h22 [b] := (Keep.refl h0 _).wr W22 (Or.inl (List.mem_of_getElem? (i := 0) rfl))
  have N28 := Fr.snoc X22 N0 g_b
  have F29 : Fld Z h22 b "com/example/iken/iken/rank/Window" "opinions" "[I" (.ref a) := F_opinions_b.same W22
  obtain ⟨T30, h30, X30, e30, W30, st30⟩ := putF X22 hx hZ hown (host := "") (Or.inl (hw _ (List.mem_of_getElem? (i := 19) rfl))) Via.refl e22 F24 Ex23 (Or.inr ⟨(hw _ (List.mem_of_getElem? (i := 20) rfl)), rfl, hnm⟩) (hw _ (List.mem_of_getElem? (i := 9) rfl)) (ty := .int) (by decide) rfl rfl (g := (mkF m 11 #[.val (.ref b), .val (.ref a), .val (.int rc)] [(.int rc), (.ref b)])) rfl rfl (hb hby d2_11)
  have Ex31 : Exa Z h30 b "com/example/iken/iken/rank/Window" := (Ex23.wr W30)
  have F32 : Fld Z h30 b "com/example/iken/iken/rank/Window" "first" "I" (.int (0 : Int32)) := (F25.other W30 (Or.inr (slot_ne (Or.inl (hw _ (List.mem_of_getElem? (i := 27) rfl))) (Or.inr (hw _ (List.mem_of_getElem? (i := 20) rfl))) (by decide) (t := .int) (t' := .int) (by decide) (by decide))))
  have F33 : Fld Z h30 b "com/example/iken/iken/rank/Window" "end" "I" (.int (0 : Int32)) := (F26.other W30 (Or.inr (slot_ne (Or.inl (hw _ (List.mem_of_getElem? (i := 29) rfl))) (Or.inr (hw _ (List.mem_of_getElem? (i := 20) rfl))) (by decide) (t := .int) (t' := .int) (by decide) (by decide))))
  have F34 : Fld Z h30 b "com/example/iken/iken/rank/Window" "opinions" "[I" (.ref a) := (F29.other W30 (Or.inr (slot_ne (Or.inr (hw _ (List.mem_of_getElem? (i := 18) rfl))) (Or.inr (hw _ (List.mem_of_getElem? (i := 20) rfl))) (by decide) (t := (.array .int)) (t' := .int) (by decide) (by decide))))
  have K35 : Keep h0 h30 [b] := K27.wr W30 (Or.inl (List.mem_of_getElem? (i := 0) rfl))
  have N36 := Fr.snoc X30 N28 g_b
  have F37 : Fld Z h30 b "com/example/iken/iken/rank/Window" "reach" "I" (.int rc) := F24.same W30
  have pre38 : ∀ t, Steps p.tables e below (T30.setTop (mkF m 14 #[.val (.ref b), .val (.ref a), .val (.int rc)] [])) t → Steps p.tables e below (s₁.setTop (entryFrame m #[(.ref b), (.ref a), (.int rc)] 3)) t := fun t kk => pre0 t (by
      show Steps p.tables e below (s₁.setTop (mkF m 0 #[.val (.ref b), .val (.ref a), .val (.int rc)] [])) _
      refine XS.aloadN X0.here hx rfl (hb hby d2_0) rfl rfl ?_
      show Steps p.tables e below (s₁.setTop (mkF m 1 #[.val (.ref b), .val (.ref a), .val (.int rc)] [(.ref b)])) _
      refine st21 _ ?_
      show Steps p.tables e below (T21.setTop (mkF m 4 #[.val (.ref b), .val (.ref a), .val (.int rc)] [])) _
      refine XS.aloadN X21.here hx rfl (hb hby d2_4) rfl rfl ?_
      show Steps p.tables e below (T21.setTop (mkF m 5 #[.val (.ref b), .val (.ref a), .val (.int rc)] [(.ref b)])) _
      refine XS.aloadN X21.here hx rfl (hb hby d2_5) rfl rfl ?_
      show Steps p.tables e below (T21.setTop (mkF m 6 #[.val (.ref b), .val (.ref a), .val (.int rc)] [(.ref a), (.ref b)])) _
      refine st22 _ ?_
      show Steps p.tables e below (T22.setTop (mkF m 9 #[.val (.ref b), .val (.ref a), .val (.int rc)] [])) _
      refine XS.aloadN X22.here hx rfl (hb hby d2_9) rfl rfl ?_
      show Steps p.tables e below (T22.setTop (mkF m 10 #[.val (.ref b), .val (.ref a), .val (.int rc)] [(.ref b)])) _
      refine XS.iloadN X22.here hx rfl (hb hby d2_10) rfl ?_
      show Steps p.tables e below (T22.setTop (mkF m 11 #[.val (.ref b), .val (.ref a), .val (.int rc)] [(.int rc), (.ref b)])) _
      refine st30 _ ?_
      exact kk)
  obtain ⟨fs, hr, hrun, hended, hW, hsame⟩ := X30.leave (v := none) (fun _ => rfl)
  refine ⟨_, _, pre38 _ ?_, hrun, hended, _, _, rfl, ?_, ⟨_, rfl⟩, hW, hsame.mono (by decide) (by decide)⟩
  · show Steps p.tables e below (T30.setTop (mkF m 14 #[.val (.ref b), .val (.ref a), .val (.int rc)] [])) _
    exact X30.returnOut hx Bd.returns (hb hby d2_14) hr
  · show QInit Z b a rc h0 n0 _ T30.heap _
    rw [e30]
    exact ⟨rfl, N36, K35, Ex31, F34, F37, F32, F33⟩
theorem d5_0 : decode prog_34_method_4_code 0 = .ok (.aload_n 0, 1) := by decide +kernel
theorem d5_1 : decode prog_34_method_4_code 1 = .ok (.getfield 26, 3) := by decide +kernel
theorem d5_4 : decode prog_34_method_4_code 4 = .ok (.ireturn, 1) := by decide +kernel
theorem ef_rm_first (m : MethodId) (x0 : Addr) : entryFrame m #[(.ref x0)] 1 = mkF m 0 #[.val (.ref x0)] [] := by first | (simp [entryFrame, mkF, argsToLocals, Value.category]; done) | rfl
def Q_first (Z : State) (b : Addr) (x1 : Int32) (h0 : Heap) (n0 : Nat) (v : Option Value) (h : Heap) (L : List Loc) : Prop := v = some (.int x1) ∧ Fr n0 L ∧ h = h0
set_option maxRecDepth 65536 in
set_option maxHeartbeats 40000000 in
theorem rm_first (l : Launch) (Z : State) (a0 : Array Value) (hw : ∀ d ∈ tables_1, d.before a0 Z = true) (ws : List Jvm.Cond) (b : Addr) (x1 : Int32) (h0 : Heap) (n0 : Nat) (Z0 : n0 ≤ h0.size) (F_first_b : Fld Z h0 b "com/example/iken/iken/rank/Window" "first" "I" (.int x1)) :
    MetFree l (⟨"com/example/iken/iken/rank/Window", "first", "()I"⟩ : MethodName) (head1 (Jvm.Cond.code (⟨"com/example/iken/iken/rank/Window", "first", "()I"⟩ : MethodName) prog_34_method_4_code 1 (some .int) :: ws) ({ frames := 0, cells := 0, slots := 0, locals := 0 } : Room)) (fun aA uU => aA = #[(.ref b)] ∧ Z.Warmed39 uU.vm ∧ uU.heap = h0) (fun _ _ _ _ _ => True) (fun _ uU oO uU' => ∃ vV lL, oO = .returned vV ∧ Q_first Z b x1 h0 n0 vV uU'.heap lL ∧ FrameEnd uU oO uU' lL ({ frames := 0, cells := 0, slots := 0, locals := 0 } : Room).cells ({ frames := 0, cells := 0, slots := 0, locals := 0 } : Room).slots) := by
  refine MetFree.of_bodySF (plainFor_of_name pn_1) hisR ?_
  intro p e s m args below meth c s₁ Bd hml0 hP hK
  obtain ⟨rfl, hZ, hh⟩ := hP
  have hx := Bd.exec
  have hby := Bd.bytes
  have hml : c.maxLocals = 1 := hml0
  have hown : s.vm.findClass "com/example/iken/iken/rank/Window" = some m.cls := findClass_of_methodNamed Bd.named
  have hnm := (name_of_methodNamed Bd.named Bd.method).1
  have X0 : Stand p l e ({ frames := 0, cells := 0, slots := 0, locals := 0 } : Room) s m #[(.ref b)] below meth c s₁ [] 0 0 := Stand.of_body Bd
  have e0 : s₁.heap = h0 := by rw [← hh, Bd.state]; rfl
  have N0 := Fr.nil n0
  have pre0 : ∀ t, Steps p.tables e below (s₁.setTop (mkF m 0 #[.val (.ref b)] [])) t → Steps p.tables e below (s₁.setTop (entryFrame m #[(.ref b)] 1)) t := fun t kk => castTop (ef_rm_first m b) kk
  obtain ⟨T39, X39, e39, st39⟩ := getF X0 hx hZ hown (host := "") (Or.inl (hw _ (List.mem_of_getElem? (i := 26) rfl))) Via.refl e0 F_first_b (g := (mkF m 1 #[.val (.ref b)] [(.ref b)])) rfl rfl (hb hby d5_1)
  have pre40 : ∀ t, Steps p.tables e below (T39.setTop (mkF m 4 #[.val (.ref b)] [(.int x1)])) t → Steps p.tables e below (s₁.setTop (entryFrame m #[(.ref b)] 1)) t := fun t kk => pre0 t (by
      show Steps p.tables e below (s₁.setTop (mkF m 0 #[.val (.ref b)] [])) _
      refine XS.aloadN X0.here hx rfl (hb hby d5_0) rfl rfl ?_
      show Steps p.tables e below (s₁.setTop (mkF m 1 #[.val (.ref b)] [(.ref b)])) _
      refine st39 _ ?_
      exact kk)
  obtain ⟨fs, hr, hrun, hended, hW, hsame⟩ := X39.leave (v := some (.int x1)) (fun h => by rw [Bd.returns] at h; cases h)
  refine ⟨_, _, pre40 _ ?_, hrun, hended, _, _, rfl, ?_, ⟨_, rfl⟩, hW, hsame.mono (by decide) (by decide)⟩
  · show Steps p.tables e below (T39.setTop (mkF m 4 #[.val (.ref b)] [(.int x1)])) _
    exact retOut X39 hx Bd.returns rfl (Or.inl ⟨rfl, Or.inl rfl, _, rfl⟩) (hb hby d5_4) hr
  · show Q_first Z b x1 h0 n0 _ T39.heap _
    rw [e39]
    exact ⟨rfl, N0, rfl⟩
theorem d8_0 : decode prog_34_method_5_code 0 = .ok (.aload_n 0, 1) := by decide +kernel
theorem d8_1 : decode prog_34_method_5_code 1 = .ok (.getfield 29, 3) := by decide +kernel
theorem d8_4 : decode prog_34_method_5_code 4 = .ok (.ireturn, 1) := by decide +kernel
theorem ef_rm_end (m : MethodId) (x0 : Addr) : entryFrame m #[(.ref x0)] 1 = mkF m 0 #[.val (.ref x0)] [] := by first | (simp [entryFrame, mkF, argsToLocals, Value.category]; done) | rfl
def Q_end (Z : State) (b : Addr) (x1 : Int32) (h0 : Heap) (n0 : Nat) (v : Option Value) (h : Heap) (L : List Loc) : Prop := v = some (.int x1) ∧ Fr n0 L ∧ h = h0
set_option maxRecDepth 65536 in
set_option maxHeartbeats 40000000 in
theorem rm_end (l : Launch) (Z : State) (a0 : Array Value) (hw : ∀ d ∈ tables_1, d.before a0 Z = true) (ws : List Jvm.Cond) (b : Addr) (x1 : Int32) (h0 : Heap) (n0 : Nat) (Z0 : n0 ≤ h0.size) (F_end_b : Fld Z h0 b "com/example/iken/iken/rank/Window" "end" "I" (.int x1)) :
    MetFree l (⟨"com/example/iken/iken/rank/Window", "end", "()I"⟩ : MethodName) (head1 (Jvm.Cond.code (⟨"com/example/iken/iken/rank/Window", "end", "()I"⟩ : MethodName) prog_34_method_5_code 1 (some .int) :: ws) ({ frames := 0, cells := 0, slots := 0, locals := 0 } : Room)) (fun aA uU => aA = #[(.ref b)] ∧ Z.Warmed39 uU.vm ∧ uU.heap = h0) (fun _ _ _ _ _ => True) (fun _ uU oO uU' => ∃ vV lL, oO = .returned vV ∧ Q_end Z b x1 h0 n0 vV uU'.heap lL ∧ FrameEnd uU oO uU' lL ({ frames := 0, cells := 0, slots := 0, locals := 0 } : Room).cells ({ frames := 0, cells := 0, slots := 0, locals := 0 } : Room).slots) := by
  refine MetFree.of_bodySF (plainFor_of_name pn_1) hisR ?_
  intro p e s m args below meth c s₁ Bd hml0 hP hK
  obtain ⟨rfl, hZ, hh⟩ := hP
  have hx := Bd.exec
  have hby := Bd.bytes
  have hml : c.maxLocals = 1 := hml0
  have hown : s.vm.findClass "com/example/iken/iken/rank/Window" = some m.cls := findClass_of_methodNamed Bd.named
  have hnm := (name_of_methodNamed Bd.named Bd.method).1
  have X0 : Stand p l e ({ frames := 0, cells := 0, slots := 0, locals := 0 } : Room) s m #[(.ref b)] below meth c s₁ [] 0 0 := Stand.of_body Bd
  have e0 : s₁.heap = h0 := by rw [← hh, Bd.state]; rfl
  have N0 := Fr.nil n0
  have pre0 : ∀ t, Steps p.tables e below (s₁.setTop (mkF m 0 #[.val (.ref b)] [])) t → Steps p.tables e below (s₁.setTop (entryFrame m #[(.ref b)] 1)) t := fun t kk => castTop (ef_rm_end m b) kk
  obtain ⟨T41, X41, e41, st41⟩ := getF X0 hx hZ hown (host := "") (Or.inl (hw _ (List.mem_of_getElem? (i := 28) rfl))) Via.refl e0 F_end_b (g := (mkF m 1 #[.val (.ref b)] [(.ref b)])) rfl rfl (hb hby d8_1)
  have pre42 : ∀ t, Steps p.tables e below (T41.setTop (mkF m 4 #[.val (.ref b)] [(.int x1)])) t → Steps p.tables e below (s₁.setTop (entryFrame m #[(.ref b)] 1)) t := fun t kk => pre0 t (by
      show Steps p.tables e below (s₁.setTop (mkF m 0 #[.val (.ref b)] [])) _
      refine XS.aloadN X0.here hx rfl (hb hby d8_0) rfl rfl ?_
      show Steps p.tables e below (s₁.setTop (mkF m 1 #[.val (.ref b)] [(.ref b)])) _
      refine st41 _ ?_
      exact kk)
  obtain ⟨fs, hr, hrun, hended, hW, hsame⟩ := X41.leave (v := some (.int x1)) (fun h => by rw [Bd.returns] at h; cases h)
  refine ⟨_, _, pre42 _ ?_, hrun, hended, _, _, rfl, ?_, ⟨_, rfl⟩, hW, hsame.mono (by decide) (by decide)⟩
  · show Steps p.tables e below (T41.setTop (mkF m 4 #[.val (.ref b)] [(.int x1)])) _
    exact retOut X41 hx Bd.returns rfl (Or.inl ⟨rfl, Or.inl rfl, _, rfl⟩) (hb hby d8_4) hr
  · show Q_end Z b x1 h0 n0 _ T41.heap _
    rw [e41]
    exact ⟨rfl, N0, rfl⟩
def own_at (o0 o1 o2 : Int32) (j : Nat) : Int32 := match j with | 0 => o0 | 1 => o1 | _ => o2
def own_go (q : Nat → Bool) : Nat → Nat → Nat
  | 0, i => i
  | k + 1, i => if q i then own_go q k (i + 1) else i
def own_q1 (ps rc o0 o1 o2 : Int32) (j : Nat) : Bool := decide (rc < ps - own_at o0 o1 o2 j)
def own_q2 (ps rc o0 o1 o2 : Int32) (j : Nat) : Bool := decide (¬ rc < own_at o0 o1 o2 j - ps)
theorem own_lt3 {i : Nat} (h : (Int32.ofNat i) < (3 : Int32)) (hi : i ≤ 3) : i < 3 := by
  rcases Nat.lt_or_eq_of_le hi with h1 | h1
  · exact h1
  · subst h1; exact absurd h (by decide)
theorem own_ge3 {i : Nat} (h : ¬ (Int32.ofNat i) < (3 : Int32)) (hi : i ≤ 3) : i = 3 := by
  match i, hi with
  | 0, _ => exact absurd (by decide) h
  | 1, _ => exact absurd (by decide) h
  | 2, _ => exact absurd (by decide) h
  | 3, _ => rfl
theorem own_end {q : Nat → Bool} {i : Nat} (h : ¬ (Int32.ofNat i) < (3 : Int32)) (hi : i ≤ 3) : own_go q (3 - i) i = i := by
  rw [own_ge3 h hi]; rfl
theorem own_stop {q : Nat → Bool} {i : Nat} (h : i < 3) (hq : q i = false) : own_go q (3 - i) i = i := by
  obtain ⟨k, hk⟩ : ∃ k, 3 - i = k + 1 := ⟨2 - i, by omega⟩
  rw [hk]
  show (if q i then own_go q k (i + 1) else i) = i
  rw [hq]; rfl
theorem own_step {q : Nat → Bool} {i : Nat} (h : i < 3) (hq : q i = true) : own_go q (3 - i) i = own_go q (3 - (i + 1)) (i + 1) := by
  obtain ⟨k, hk⟩ : ∃ k, 3 - i = k + 1 := ⟨2 - i, by omega⟩
  have hk2 : 3 - (i + 1) = k := by omega
  rw [hk, hk2]
  show (if q i then own_go q k (i + 1) else i) = _
  rw [hq]; rfl
theorem own_le (q : Nat → Bool) : ∀ k i, own_go q k i ≤ i + k
  | 0, i => Nat.le_refl i
  | k + 1, i => by
    show (if q i then own_go q k (i + 1) else i) ≤ _
    split
    · have := own_le q k (i + 1); omega
    · omega
theorem own_in {i : Nat} (h : i < 3) : ¬ (Int32.ofNat i) < 0 ∧ (Int32.ofNat i) < (3 : Int32) := by
  match i, h with
  | 0, _ => decide
  | 1, _ => decide
  | 2, _ => decide
theorem own_el {i : Nat} (o0 o1 o2 : Int32) (h : i < 3) : ([(.int o0), (.int o1), (.int o2)] : List Value).getD (Int32.ofNat i).toNatClampNeg (.int (0 : Int32)) = (.int (own_at o0 o1 o2 i)) := by
  match i, h with
  | 0, _ => rfl
  | 1, _ => rfl
  | 2, _ => rfl
theorem own_succ {i : Nat} (h : i < 3) : (Int32.ofNat i) + (1 : Int32) = Int32.ofNat (i + 1) := by
  match i, h with
  | 0, _ => decide
  | 1, _ => decide
  | 2, _ => decide
theorem d4_0 : decode prog_34_method_3_code 0 = .ok (.aload_n 0, 1) := by decide +kernel
theorem d4_1 : decode prog_34_method_3_code 1 = .ok (.getfield 26, 3) := by decide +kernel
theorem d4_4 : decode prog_34_method_3_code 4 = .ok (.aload_n 0, 1) := by decide +kernel
theorem d4_5 : decode prog_34_method_3_code 5 = .ok (.getfield 7, 3) := by decide +kernel
theorem d4_8 : decode prog_34_method_3_code 8 = .ok (.arraylength, 1) := by decide +kernel
theorem d4_9 : decode prog_34_method_3_code 9 = .ok (.if_icmp .ge 34, 3) := by decide +kernel
theorem d4_12 : decode prog_34_method_3_code 12 = .ok (.iload_n 1, 1) := by decide +kernel
theorem d4_13 : decode prog_34_method_3_code 13 = .ok (.aload_n 0, 1) := by decide +kernel
theorem d4_14 : decode prog_34_method_3_code 14 = .ok (.getfield 7, 3) := by decide +kernel
theorem d4_17 : decode prog_34_method_3_code 17 = .ok (.aload_n 0, 1) := by decide +kernel
theorem d4_18 : decode prog_34_method_3_code 18 = .ok (.getfield 26, 3) := by decide +kernel
theorem d4_21 : decode prog_34_method_3_code 21 = .ok (.iaload, 1) := by decide +kernel
theorem d4_22 : decode prog_34_method_3_code 22 = .ok (.isub, 1) := by decide +kernel
theorem d4_23 : decode prog_34_method_3_code 23 = .ok (.aload_n 0, 1) := by decide +kernel
theorem d4_24 : decode prog_34_method_3_code 24 = .ok (.getfield 13, 3) := by decide +kernel
theorem d4_27 : decode prog_34_method_3_code 27 = .ok (.if_icmp .le 16, 3) := by decide +kernel
theorem d4_30 : decode prog_34_method_3_code 30 = .ok (.aload_n 0, 1) := by decide +kernel
theorem d4_31 : decode prog_34_method_3_code 31 = .ok (.dup, 1) := by decide +kernel
theorem d4_32 : decode prog_34_method_3_code 32 = .ok (.getfield 26, 3) := by decide +kernel
theorem d4_35 : decode prog_34_method_3_code 35 = .ok (.iconst 1, 1) := by decide +kernel
theorem d4_36 : decode prog_34_method_3_code 36 = .ok (.iadd, 1) := by decide +kernel
theorem d4_37 : decode prog_34_method_3_code 37 = .ok (.putfield 26, 3) := by decide +kernel
theorem d4_40 : decode prog_34_method_3_code 40 = .ok (.goto (-40), 3) := by decide +kernel
set_option maxRecDepth 65536 in
set_option maxHeartbeats 40000000 in
theorem loopF {p : Program} {l : Launch} {e : Env} {R : Room} {s : State} {m : MethodId} {args : Array Value} {below : List Frame} {meth : Method} {c : Code} {cells slots : Nat} {Z : State} {a0 : Array Value} {n0 : Nat}
    (hx : p.tables.exec = Jvm.exec) (hZ : Z.Warmed39 s.vm) (hw : ∀ d ∈ tables_1, d.before a0 Z = true) (hby : c.code = prog_34_method_3_code) (hml : c.maxLocals = 2) (hown : s.vm.findClass "com/example/iken/iken/rank/Window" = some m.cls) :
    ∀ (k : Nat) (T0 : State) (locs : List Loc) (h0 : Heap) (b : Addr) (ps : Int32) (i : Nat) (a : Addr) (kc : ClassId) (o0 : Int32) (o1 : Int32) (o2 : Int32) (rc : Int32) (ot : Int32) (X0 : Stand p l e R s m args below meth c T0 locs cells slots) (e0 : T0.heap = h0) (N0 : Fr n0 locs) (Z0 : n0 ≤ h0.size) (E_b : Exa Z h0 b "com/example/iken/iken/rank/Window") (F_first_b : Fld Z h0 b "com/example/iken/iken/rank/Window" "first" "I" (.int (Int32.ofNat i))) (F_opinions_b : Fld Z h0 b "com/example/iken/iken/rank/Window" "opinions" "[I" (.ref a)) (F_reach_b : Fld Z h0 b "com/example/iken/iken/rank/Window" "reach" "I" (.int rc)) (F_end_b : Fld Z h0 b "com/example/iken/iken/rank/Window" "end" "I" (.int ot)) (V_a : Arv Z h0 a kc .int (3 : Int32) ([(.int o0), (.int o1), (.int o2)]) (.int (0 : Int32))) (hi : i ≤ 3) (hab : a ≠ b) (g_b : n0 ≤ b) (hk : 3 - i = k),
      ∃ (T' : State) (locs' : List Loc) (h' : Heap), Stand p l e R s m args below meth c T' locs' cells slots ∧ Fr n0 locs' ∧ T'.heap = h' ∧ Keep h0 h' [b] ∧ Fld Z h' b "com/example/iken/iken/rank/Window" "first" "I" (.int (Int32.ofNat (own_go (own_q1 ps rc o0 o1 o2) (3 - i) i))) ∧ Fld Z h' b "com/example/iken/iken/rank/Window" "opinions" "[I" (.ref a) ∧ Fld Z h' b "com/example/iken/iken/rank/Window" "reach" "I" (.int rc) ∧ Fld Z h' b "com/example/iken/iken/rank/Window" "end" "I" (.int ot) ∧ ∀ t, Steps p.tables e below (T'.setTop (mkF m 43 #[.val (.ref b), .val (.int ps)] [])) t → Steps p.tables e below (T0.setTop (mkF m 0 #[.val (.ref b), .val (.int ps)] [])) t := by
  intro k
  induction k using Nat.strongRecOn with
  | ind k ih =>
  intro T0 locs h0 b ps i a kc o0 o1 o2 rc ot X0 e0 N0 Z0 E_b F_first_b F_opinions_b F_reach_b F_end_b V_a hi hab g_b hk
  subst hk
  have pre0 : ∀ t, Steps p.tables e below (T0.setTop (mkF m 0 #[.val (.ref b), .val (.int ps)] [])) t → Steps p.tables e below (T0.setTop (mkF m 0 #[.val (.ref b), .val (.int ps)] [])) t := fun t kk => kk
  obtain ⟨T43, X43, e43, st43⟩ := getF X0 hx hZ hown (host := "") (Or.inl (hw _ (List.mem_of_getElem? (i := 26) rfl))) Via.refl e0 F_first_b (g := (mkF m 1 #[.val (.ref b), .val (.int ps)] [(.ref b)])) rfl rfl (hb hby d4_1)
  obtain ⟨T44, X44, e44, st44⟩ := getF X43 hx hZ hown (host := "") (Or.inl (hw _ (List.mem_of_getElem? (i := 17) rfl))) Via.refl e43 F_opinions_b (g := (mkF m 5 #[.val (.ref b), .val (.int ps)] [(.ref b), (.int (Int32.ofNat i))])) rfl rfl (hb hby d4_5)
  obtain ⟨cl45, Ar45, -, Sz45, Nn45, -, -⟩ := id V_a
  have pre46 : ∀ t, Steps p.tables e below (T44.setTop (mkF m 9 #[.val (.ref b), .val (.int ps)] [(.int (3 : Int32)), (.int (Int32.ofNat i))])) t → Steps p.tables e below (T0.setTop (mkF m 0 #[.val (.ref b), .val (.int ps)] [])) t := fun t kk => pre0 t (by
      show Steps p.tables e below (T0.setTop (mkF m 0 #[.val (.ref b), .val (.int ps)] [])) _
      refine XS.aloadN X0.here hx rfl (hb hby d4_0) rfl rfl ?_
      show Steps p.tables e below (T0.setTop (mkF m 1 #[.val (.ref b), .val (.int ps)] [(.ref b)])) _
      refine st43 _ ?_
      show Steps p.tables e below (T43.setTop (mkF m 4 #[.val (.ref b), .val (.int ps)] [(.int (Int32.ofNat i))])) _
      refine XS.aloadN X43.here hx rfl (hb hby d4_4) rfl rfl ?_
      show Steps p.tables e below (T43.setTop (mkF m 5 #[.val (.ref b), .val (.int ps)] [(.ref b), (.int (Int32.ofNat i))])) _
      refine st44 _ ?_
      show Steps p.tables e below (T44.setTop (mkF m 8 #[.val (.ref b), .val (.int ps)] [(.ref a), (.int (Int32.ofNat i))])) _
      refine X44.arraylength hx (by rw [e44]; exact Ar45.1) (State.isArrayOf_alike hZ.alike Ar45.2.1) (g := (mkF m 8 #[.val (.ref b), .val (.int ps)] [(.ref a), (.int (Int32.ofNat i))])) rfl rfl (hb hby d4_8) _ ?_
      rw [len_of Sz45 Nn45]
      exact kk)
  by_cases hl0 : (Int32.ofNat i) < (3 : Int32)
  · have hlt : i < 3 := own_lt3 hl0 hi
    obtain ⟨T48, X48, e48, st48⟩ := getF X44 hx hZ hown (host := "") (Or.inl (hw _ (List.mem_of_getElem? (i := 17) rfl))) Via.refl e44 F_opinions_b (g := (mkF m 14 #[.val (.ref b), .val (.int ps)] [(.ref b), (.int ps)])) rfl rfl (hb hby d4_14)
    obtain ⟨T49, X49, e49, st49⟩ := getF X48 hx hZ hown (host := "") (Or.inl (hw _ (List.mem_of_getElem? (i := 26) rfl))) Via.refl e48 F_first_b (g := (mkF m 18 #[.val (.ref b), .val (.int ps)] [(.ref b), (.ref a), (.int ps)])) rfl rfl (hb hby d4_18)
    obtain ⟨cl50, Ar50, q50, Sz50, Nn50, H50, G50⟩ := id V_a
    have hin50 : ¬ ((Int32.ofNat i) < 0 ∨ cl50.slots.size ≤ ((Int32.ofNat i)).toNatClampNeg) := (inb_of Sz50 (own_in hlt))
    have hat50 : cl50.slots[((Int32.ofNat i)).toNatClampNeg]? = some (.int (own_at o0 o1 o2 i)) := H50.at hin50 (own_el o0 o1 o2 hlt)
    obtain ⟨T51, X51, e51, st51⟩ := getF X49 hx hZ hown (host := "") (Or.inl (hw _ (List.mem_of_getElem? (i := 19) rfl))) Via.refl e49 F_reach_b (g := (mkF m 24 #[.val (.ref b), .val (.int ps)] [(.ref b), (.int (ps - (own_at o0 o1 o2 i)))])) rfl rfl (hb hby d4_24)
    have pre52 : ∀ t, Steps p.tables e below (T51.setTop (mkF m 27 #[.val (.ref b), .val (.int ps)] [(.int rc), (.int (ps - (own_at o0 o1 o2 i)))])) t → Steps p.tables e below (T0.setTop (mkF m 0 #[.val (.ref b), .val (.int ps)] [])) t := fun t kk => pre46 t (by
        show Steps p.tables e below (T44.setTop (mkF m 9 #[.val (.ref b), .val (.int ps)] [(.int (3 : Int32)), (.int (Int32.ofNat i))])) _
        refine XS.icmpNo X44.here hx rfl (hb hby d4_9) rfl (tlt hl0).2.1 ?_
        show Steps p.tables e below (T44.setTop (mkF m 12 #[.val (.ref b), .val (.int ps)] [])) _
        refine XS.iloadN X44.here hx rfl (hb hby d4_12) rfl ?_
        show Steps p.tables e below (T44.setTop (mkF m 13 #[.val (.ref b), .val (.int ps)] [(.int ps)])) _
        refine XS.aloadN X44.here hx rfl (hb hby d4_13) rfl rfl ?_
        show Steps p.tables e below (T44.setTop (mkF m 14 #[.val (.ref b), .val (.int ps)] [(.ref b), (.int ps)])) _
        refine st48 _ ?_
        show Steps p.tables e below (T48.setTop (mkF m 17 #[.val (.ref b), .val (.int ps)] [(.ref a), (.int ps)])) _
        refine XS.aloadN X48.here hx rfl (hb hby d4_17) rfl rfl ?_
        show Steps p.tables e below (T48.setTop (mkF m 18 #[.val (.ref b), .val (.int ps)] [(.ref b), (.ref a), (.int ps)])) _
        refine st49 _ ?_
        show Steps p.tables e below (T49.setTop (mkF m 21 #[.val (.ref b), .val (.int ps)] [(.int (Int32.ofNat i)), (.ref a), (.int ps)])) _
        refine X49.iaload hx (j := (Int32.ofNat i)) (v := (.int (own_at o0 o1 o2 i))) (by rw [e49]; exact Ar50.1) (State.isArrayOf_alike hZ.alike Ar50.2.1) Ar50.2.2 hin50 hat50 (g := (mkF m 21 #[.val (.ref b), .val (.int ps)] [(.int (Int32.ofNat i)), (.ref a), (.int ps)])) rfl rfl (hb hby d4_21) _ ?_
        show Steps p.tables e below (T49.setTop (mkF m 22 #[.val (.ref b), .val (.int ps)] [(.int (own_at o0 o1 o2 i)), (.int ps)])) _
        refine XS.isub X49.here hx rfl (hb hby d4_22) rfl ?_
        show Steps p.tables e below (T49.setTop (mkF m 23 #[.val (.ref b), .val (.int ps)] [(.int (ps - (own_at o0 o1 o2 i)))])) _
        refine XS.aloadN X49.here hx rfl (hb hby d4_23) rfl rfl ?_
        show Steps p.tables e below (T49.setTop (mkF m 24 #[.val (.ref b), .val (.int ps)] [(.ref b), (.int (ps - (own_at o0 o1 o2 i)))])) _
        refine st51 _ ?_
        exact kk)
    by_cases hq : rc < (ps - (own_at o0 o1 o2 i))
    · obtain ⟨T54, X54, e54, st54⟩ := getF X51 hx hZ hown (host := "") (Or.inl (hw _ (List.mem_of_getElem? (i := 26) rfl))) Via.refl e51 F_first_b (g := (mkF m 32 #[.val (.ref b), .val (.int ps)] [(.ref b), (.ref b)])) rfl rfl (hb hby d4_32)
      obtain ⟨T55, h55, X55, e55, W55, st55⟩ := putF X54 hx hZ hown (host := "") (Or.inl (hw _ (List.mem_of_getElem? (i := 26) rfl))) Via.refl e54 F_first_b E_b (Or.inl (hw _ (List.mem_of_getElem? (i := 27) rfl))) (hw _ (List.mem_of_getElem? (i := 9) rfl)) (ty := .int) (by decide) rfl rfl (g := (mkF m 37 #[.val (.ref b), .val (.int ps)] [(.int ((Int32.ofNat i) + (1 : Int32))), (.ref b)])) rfl rfl (hb hby d4_37)
      have Ex56 : Exa Z h55 b "com/example/iken/iken/rank/Window" := (E_b.wr W55)
      have F57 : Fld Z h55 b "com/example/iken/iken/rank/Window" "opinions" "[I" (.ref a) := (F_opinions_b.other W55 (Or.inr (slot_ne (Or.inr (hw _ (List.mem_of_getElem? (i := 18) rfl))) (Or.inl (hw _ (List.mem_of_getElem? (i := 27) rfl))) (by decide) (t := (.array .int)) (t' := .int) (by decide) (by decide))))
      have F58 : Fld Z h55 b "com/example/iken/iken/rank/Window" "reach" "I" (.int rc) := (F_reach_b.other W55 (Or.inr (slot_ne (Or.inr (hw _ (List.mem_of_getElem? (i := 20) rfl))) (Or.inl (hw _ (List.mem_of_getElem? (i := 27) rfl))) (by decide) (t := .int) (t' := .int) (by decide) (by decide))))
      have F59 : Fld Z h55 b "com/example/iken/iken/rank/Window" "end" "I" (.int ot) := (F_end_b.other W55 (Or.inr (slot_ne (Or.inl (hw _ (List.mem_of_getElem? (i := 29) rfl))) (Or.inl (hw _ (List.mem_of_getElem? (i := 27) rfl))) (by decide) (t := .int) (t' := .int) (by decide) (by decide))))
      have Av60 : Arv Z h55 a kc .int (3 : Int32) ([(.int o0), (.int o1), (.int o2)]) (.int (0 : Int32)) := (V_a.other W55 hab)
      have K61 : Keep h0 h55 [b] := (Keep.refl h0 _).wr W55 (Or.inl (List.mem_of_getElem? (i := 0) rfl))
      have N62 := Fr.snoc X55 N0 g_b
      have F63 : Fld Z h55 b "com/example/iken/iken/rank/Window" "first" "I" (.int ((Int32.ofNat i) + (1 : Int32))) := F_first_b.same W55
      have eq65 : ((Int32.ofNat i) + (1 : Int32)) = (Int32.ofNat (i + 1)) := own_succ hlt
      have F64 : Fld Z h55 b "com/example/iken/iken/rank/Window" "first" "I" (.int (Int32.ofNat (i + 1))) := by rw [← eq65]; exact F63
      have pre66 : ∀ t, Steps p.tables e below (T55.setTop (mkF m 0 #[.val (.ref b), .val (.int ps)] [])) t → Steps p.tables e below (T0.setTop (mkF m 0 #[.val (.ref b), .val (.int ps)] [])) t := fun t kk => pre52 t (by
          show Steps p.tables e below (T51.setTop (mkF m 27 #[.val (.ref b), .val (.int ps)] [(.int rc), (.int (ps - (own_at o0 o1 o2 i)))])) _
          refine XS.icmpNo X51.here hx rfl (hb hby d4_27) rfl (tlt hq).2.2.2 ?_
          show Steps p.tables e below (T51.setTop (mkF m 30 #[.val (.ref b), .val (.int ps)] [])) _
          refine XS.aloadN X51.here hx rfl (hb hby d4_30) rfl rfl ?_
          show Steps p.tables e below (T51.setTop (mkF m 31 #[.val (.ref b), .val (.int ps)] [(.ref b)])) _
          refine XS.dup X51.here hx rfl (hb hby d4_31) rfl rfl ?_
          show Steps p.tables e below (T51.setTop (mkF m 32 #[.val (.ref b), .val (.int ps)] [(.ref b), (.ref b)])) _
          refine st54 _ ?_
          show Steps p.tables e below (T54.setTop (mkF m 35 #[.val (.ref b), .val (.int ps)] [(.int (Int32.ofNat i)), (.ref b)])) _
          refine XS.iconst X54.here hx rfl (hb hby d4_35) ?_
          show Steps p.tables e below (T54.setTop (mkF m 36 #[.val (.ref b), .val (.int ps)] [(.int (1 : Int32)), (.int (Int32.ofNat i)), (.ref b)])) _
          refine XS.iadd X54.here hx rfl (hb hby d4_36) rfl ?_
          show Steps p.tables e below (T54.setTop (mkF m 37 #[.val (.ref b), .val (.int ps)] [(.int ((Int32.ofNat i) + (1 : Int32))), (.ref b)])) _
          refine st55 _ ?_
          show Steps p.tables e below (T55.setTop (mkF m 40 #[.val (.ref b), .val (.int ps)] [])) _
          refine XS.goto X55.here hx rfl (pc0 := 40) (pc' := 0) rfl (hb hby d4_40) (by decide) (by decide) ?_
          exact kk)
      have hp67 : (i + 1) ≤ 3 := hlt
      have hp68 : a ≠ b := hab
      obtain ⟨T69, lc69, h69, X69, N69, e69, K69, P69_0, P69_1, P69_2, P69_3, pre69⟩ := ih _ (by omega) T55 _ h55 b ps (i + 1) a kc o0 o1 o2 rc ot X55 e55 N62 (Nat.le_trans Z0 K61.1) Ex56 F64 F57 F58 F59 Av60 hp67 hp68 g_b rfl
      exact ⟨T69, _, _, X69, N69, e69, (K61.trans K69 (allS (Or.inl (List.mem_of_getElem? (i := 0) rfl)) all0)), (by rw [own_step hlt (decide_eq_true hq)]; exact P69_0), P69_1, P69_2, P69_3, fun t kk => pre66 t (pre69 t kk)⟩
    · have pre53 : ∀ t, Steps p.tables e below (T51.setTop (mkF m 43 #[.val (.ref b), .val (.int ps)] [])) t → Steps p.tables e below (T0.setTop (mkF m 0 #[.val (.ref b), .val (.int ps)] [])) t := fun t kk => pre52 t (by
          show Steps p.tables e below (T51.setTop (mkF m 27 #[.val (.ref b), .val (.int ps)] [(.int rc), (.int (ps - (own_at o0 o1 o2 i)))])) _
          refine XS.icmpYes X51.here hx rfl (pc0 := 27) (pc' := 43) rfl (hb hby d4_27) rfl (flt hq).2.2.2 (by decide) (by decide) ?_
          exact kk)
      exact ⟨T51, _, _, X51, N0, e51, Keep.refl _ _, (by rw [own_stop hlt (decide_eq_false hq)]; exact F_first_b), F_opinions_b, F_reach_b, F_end_b, pre53⟩
  · have pre47 : ∀ t, Steps p.tables e below (T44.setTop (mkF m 43 #[.val (.ref b), .val (.int ps)] [])) t → Steps p.tables e below (T0.setTop (mkF m 0 #[.val (.ref b), .val (.int ps)] [])) t := fun t kk => pre46 t (by
        show Steps p.tables e below (T44.setTop (mkF m 9 #[.val (.ref b), .val (.int ps)] [(.int (3 : Int32)), (.int (Int32.ofNat i))])) _
        refine XS.icmpYes X44.here hx rfl (pc0 := 9) (pc' := 43) rfl (hb hby d4_9) rfl (flt hl0).2.1 (by decide) (by decide) ?_
        exact kk)
    exact ⟨T44, _, _, X44, N0, e44, Keep.refl _ _, (by rw [own_end hl0 hi]; exact F_first_b), F_opinions_b, F_reach_b, F_end_b, pre47⟩
theorem d4_43 : decode prog_34_method_3_code 43 = .ok (.aload_n 0, 1) := by decide +kernel
theorem d4_44 : decode prog_34_method_3_code 44 = .ok (.getfield 29, 3) := by decide +kernel
theorem d4_47 : decode prog_34_method_3_code 47 = .ok (.aload_n 0, 1) := by decide +kernel
theorem d4_48 : decode prog_34_method_3_code 48 = .ok (.getfield 7, 3) := by decide +kernel
theorem d4_51 : decode prog_34_method_3_code 51 = .ok (.arraylength, 1) := by decide +kernel
theorem d4_52 : decode prog_34_method_3_code 52 = .ok (.if_icmp .ge 34, 3) := by decide +kernel
theorem d4_55 : decode prog_34_method_3_code 55 = .ok (.aload_n 0, 1) := by decide +kernel
theorem d4_56 : decode prog_34_method_3_code 56 = .ok (.getfield 7, 3) := by decide +kernel
theorem d4_59 : decode prog_34_method_3_code 59 = .ok (.aload_n 0, 1) := by decide +kernel
theorem d4_60 : decode prog_34_method_3_code 60 = .ok (.getfield 29, 3) := by decide +kernel
theorem d4_63 : decode prog_34_method_3_code 63 = .ok (.iaload, 1) := by decide +kernel
theorem d4_64 : decode prog_34_method_3_code 64 = .ok (.iload_n 1, 1) := by decide +kernel
theorem d4_65 : decode prog_34_method_3_code 65 = .ok (.isub, 1) := by decide +kernel
theorem d4_66 : decode prog_34_method_3_code 66 = .ok (.aload_n 0, 1) := by decide +kernel
theorem d4_67 : decode prog_34_method_3_code 67 = .ok (.getfield 13, 3) := by decide +kernel
theorem d4_70 : decode prog_34_method_3_code 70 = .ok (.if_icmp .gt 16, 3) := by decide +kernel
theorem d4_73 : decode prog_34_method_3_code 73 = .ok (.aload_n 0, 1) := by decide +kernel
theorem d4_74 : decode prog_34_method_3_code 74 = .ok (.dup, 1) := by decide +kernel
theorem d4_75 : decode prog_34_method_3_code 75 = .ok (.getfield 29, 3) := by decide +kernel
theorem d4_78 : decode prog_34_method_3_code 78 = .ok (.iconst 1, 1) := by decide +kernel
theorem d4_79 : decode prog_34_method_3_code 79 = .ok (.iadd, 1) := by decide +kernel
theorem d4_80 : decode prog_34_method_3_code 80 = .ok (.putfield 29, 3) := by decide +kernel
theorem d4_83 : decode prog_34_method_3_code 83 = .ok (.goto (-40), 3) := by decide +kernel
set_option maxRecDepth 65536 in
set_option maxHeartbeats 40000000 in
theorem loopE {p : Program} {l : Launch} {e : Env} {R : Room} {s : State} {m : MethodId} {args : Array Value} {below : List Frame} {meth : Method} {c : Code} {cells slots : Nat} {Z : State} {a0 : Array Value} {n0 : Nat}
    (hx : p.tables.exec = Jvm.exec) (hZ : Z.Warmed39 s.vm) (hw : ∀ d ∈ tables_1, d.before a0 Z = true) (hby : c.code = prog_34_method_3_code) (hml : c.maxLocals = 2) (hown : s.vm.findClass "com/example/iken/iken/rank/Window" = some m.cls) :
    ∀ (k : Nat) (T0 : State) (locs : List Loc) (h0 : Heap) (b : Addr) (ps : Int32) (i : Nat) (a : Addr) (kc : ClassId) (o0 : Int32) (o1 : Int32) (o2 : Int32) (rc : Int32) (ot : Int32) (X0 : Stand p l e R s m args below meth c T0 locs cells slots) (e0 : T0.heap = h0) (N0 : Fr n0 locs) (Z0 : n0 ≤ h0.size) (E_b : Exa Z h0 b "com/example/iken/iken/rank/Window") (F_end_b : Fld Z h0 b "com/example/iken/iken/rank/Window" "end" "I" (.int (Int32.ofNat i))) (F_opinions_b : Fld Z h0 b "com/example/iken/iken/rank/Window" "opinions" "[I" (.ref a)) (F_reach_b : Fld Z h0 b "com/example/iken/iken/rank/Window" "reach" "I" (.int rc)) (F_first_b : Fld Z h0 b "com/example/iken/iken/rank/Window" "first" "I" (.int ot)) (V_a : Arv Z h0 a kc .int (3 : Int32) ([(.int o0), (.int o1), (.int o2)]) (.int (0 : Int32))) (hi : i ≤ 3) (hab : a ≠ b) (g_b : n0 ≤ b) (hk : 3 - i = k),
      ∃ (T' : State) (locs' : List Loc) (h' : Heap), Stand p l e R s m args below meth c T' locs' cells slots ∧ Fr n0 locs' ∧ T'.heap = h' ∧ Keep h0 h' [b] ∧ Fld Z h' b "com/example/iken/iken/rank/Window" "end" "I" (.int (Int32.ofNat (own_go (own_q2 ps rc o0 o1 o2) (3 - i) i))) ∧ Fld Z h' b "com/example/iken/iken/rank/Window" "opinions" "[I" (.ref a) ∧ Fld Z h' b "com/example/iken/iken/rank/Window" "reach" "I" (.int rc) ∧ Fld Z h' b "com/example/iken/iken/rank/Window" "first" "I" (.int ot) ∧ ∀ t, Steps p.tables e below (T'.setTop (mkF m 86 #[.val (.ref b), .val (.int ps)] [])) t → Steps p.tables e below (T0.setTop (mkF m 43 #[.val (.ref b), .val (.int ps)] [])) t := by
  intro k
  induction k using Nat.strongRecOn with
  | ind k ih =>
  intro T0 locs h0 b ps i a kc o0 o1 o2 rc ot X0 e0 N0 Z0 E_b F_end_b F_opinions_b F_reach_b F_first_b V_a hi hab g_b hk
  subst hk
  have pre0 : ∀ t, Steps p.tables e below (T0.setTop (mkF m 43 #[.val (.ref b), .val (.int ps)] [])) t → Steps p.tables e below (T0.setTop (mkF m 43 #[.val (.ref b), .val (.int ps)] [])) t := fun t kk => kk
  obtain ⟨T70, X70, e70, st70⟩ := getF X0 hx hZ hown (host := "") (Or.inl (hw _ (List.mem_of_getElem? (i := 28) rfl))) Via.refl e0 F_end_b (g := (mkF m 44 #[.val (.ref b), .val (.int ps)] [(.ref b)])) rfl rfl (hb hby d4_44)
  obtain ⟨T71, X71, e71, st71⟩ := getF X70 hx hZ hown (host := "") (Or.inl (hw _ (List.mem_of_getElem? (i := 17) rfl))) Via.refl e70 F_opinions_b (g := (mkF m 48 #[.val (.ref b), .val (.int ps)] [(.ref b), (.int (Int32.ofNat i))])) rfl rfl (hb hby d4_48)
  obtain ⟨cl72, Ar72, -, Sz72, Nn72, -, -⟩ := id V_a
  have pre73 : ∀ t, Steps p.tables e below (T71.setTop (mkF m 52 #[.val (.ref b), .val (.int ps)] [(.int (3 : Int32)), (.int (Int32.ofNat i))])) t → Steps p.tables e below (T0.setTop (mkF m 43 #[.val (.ref b), .val (.int ps)] [])) t := fun t kk => pre0 t (by
      show Steps p.tables e below (T0.setTop (mkF m 43 #[.val (.ref b), .val (.int ps)] [])) _
      refine XS.aloadN X0.here hx rfl (hb hby d4_43) rfl rfl ?_
      show Steps p.tables e below (T0.setTop (mkF m 44 #[.val (.ref b), .val (.int ps)] [(.ref b)])) _
      refine st70 _ ?_
      show Steps p.tables e below (T70.setTop (mkF m 47 #[.val (.ref b), .val (.int ps)] [(.int (Int32.ofNat i))])) _
      refine XS.aloadN X70.here hx rfl (hb hby d4_47) rfl rfl ?_
      show Steps p.tables e below (T70.setTop (mkF m 48 #[.val (.ref b), .val (.int ps)] [(.ref b), (.int (Int32.ofNat i))])) _
      refine st71 _ ?_
      show Steps p.tables e below (T71.setTop (mkF m 51 #[.val (.ref b), .val (.int ps)] [(.ref a), (.int (Int32.ofNat i))])) _
      refine X71.arraylength hx (by rw [e71]; exact Ar72.1) (State.isArrayOf_alike hZ.alike Ar72.2.1) (g := (mkF m 51 #[.val (.ref b), .val (.int ps)] [(.ref a), (.int (Int32.ofNat i))])) rfl rfl (hb hby d4_51) _ ?_
      rw [len_of Sz72 Nn72]
      exact kk)
  by_cases hl0 : (Int32.ofNat i) < (3 : Int32)
  · have hlt : i < 3 := own_lt3 hl0 hi
    obtain ⟨T75, X75, e75, st75⟩ := getF X71 hx hZ hown (host := "") (Or.inl (hw _ (List.mem_of_getElem? (i := 17) rfl))) Via.refl e71 F_opinions_b (g := (mkF m 56 #[.val (.ref b), .val (.int ps)] [(.ref b)])) rfl rfl (hb hby d4_56)
    obtain ⟨T76, X76, e76, st76⟩ := getF X75 hx hZ hown (host := "") (Or.inl (hw _ (List.mem_of_getElem? (i := 28) rfl))) Via.refl e75 F_end_b (g := (mkF m 60 #[.val (.ref b), .val (.int ps)] [(.ref b), (.ref a)])) rfl rfl (hb hby d4_60)
    obtain ⟨cl77, Ar77, q77, Sz77, Nn77, H77, G77⟩ := id V_a
    have hin77 : ¬ ((Int32.ofNat i) < 0 ∨ cl77.slots.size ≤ ((Int32.ofNat i)).toNatClampNeg) := (inb_of Sz77 (own_in hlt))
    have hat77 : cl77.slots[((Int32.ofNat i)).toNatClampNeg]? = some (.int (own_at o0 o1 o2 i)) := H77.at hin77 (own_el o0 o1 o2 hlt)
    obtain ⟨T78, X78, e78, st78⟩ := getF X76 hx hZ hown (host := "") (Or.inl (hw _ (List.mem_of_getElem? (i := 19) rfl))) Via.refl e76 F_reach_b (g := (mkF m 67 #[.val (.ref b), .val (.int ps)] [(.ref b), (.int ((own_at o0 o1 o2 i) - ps))])) rfl rfl (hb hby d4_67)
    have pre79 : ∀ t, Steps p.tables e below (T78.setTop (mkF m 70 #[.val (.ref b), .val (.int ps)] [(.int rc), (.int ((own_at o0 o1 o2 i) - ps))])) t → Steps p.tables e below (T0.setTop (mkF m 43 #[.val (.ref b), .val (.int ps)] [])) t := fun t kk => pre73 t (by
        show Steps p.tables e below (T71.setTop (mkF m 52 #[.val (.ref b), .val (.int ps)] [(.int (3 : Int32)), (.int (Int32.ofNat i))])) _
        refine XS.icmpNo X71.here hx rfl (hb hby d4_52) rfl (tlt hl0).2.1 ?_
        show Steps p.tables e below (T71.setTop (mkF m 55 #[.val (.ref b), .val (.int ps)] [])) _
        refine XS.aloadN X71.here hx rfl (hb hby d4_55) rfl rfl ?_
        show Steps p.tables e below (T71.setTop (mkF m 56 #[.val (.ref b), .val (.int ps)] [(.ref b)])) _
        refine st75 _ ?_
        show Steps p.tables e below (T75.setTop (mkF m 59 #[.val (.ref b), .val (.int ps)] [(.ref a)])) _
        refine XS.aloadN X75.here hx rfl (hb hby d4_59) rfl rfl ?_
        show Steps p.tables e below (T75.setTop (mkF m 60 #[.val (.ref b), .val (.int ps)] [(.ref b), (.ref a)])) _
        refine st76 _ ?_
        show Steps p.tables e below (T76.setTop (mkF m 63 #[.val (.ref b), .val (.int ps)] [(.int (Int32.ofNat i)), (.ref a)])) _
        refine X76.iaload hx (j := (Int32.ofNat i)) (v := (.int (own_at o0 o1 o2 i))) (by rw [e76]; exact Ar77.1) (State.isArrayOf_alike hZ.alike Ar77.2.1) Ar77.2.2 hin77 hat77 (g := (mkF m 63 #[.val (.ref b), .val (.int ps)] [(.int (Int32.ofNat i)), (.ref a)])) rfl rfl (hb hby d4_63) _ ?_
        show Steps p.tables e below (T76.setTop (mkF m 64 #[.val (.ref b), .val (.int ps)] [(.int (own_at o0 o1 o2 i))])) _
        refine XS.iloadN X76.here hx rfl (hb hby d4_64) rfl ?_
        show Steps p.tables e below (T76.setTop (mkF m 65 #[.val (.ref b), .val (.int ps)] [(.int ps), (.int (own_at o0 o1 o2 i))])) _
        refine XS.isub X76.here hx rfl (hb hby d4_65) rfl ?_
        show Steps p.tables e below (T76.setTop (mkF m 66 #[.val (.ref b), .val (.int ps)] [(.int ((own_at o0 o1 o2 i) - ps))])) _
        refine XS.aloadN X76.here hx rfl (hb hby d4_66) rfl rfl ?_
        show Steps p.tables e below (T76.setTop (mkF m 67 #[.val (.ref b), .val (.int ps)] [(.ref b), (.int ((own_at o0 o1 o2 i) - ps))])) _
        refine st78 _ ?_
        exact kk)
    by_cases hq : rc < ((own_at o0 o1 o2 i) - ps)
    · have pre80 : ∀ t, Steps p.tables e below (T78.setTop (mkF m 86 #[.val (.ref b), .val (.int ps)] [])) t → Steps p.tables e below (T0.setTop (mkF m 43 #[.val (.ref b), .val (.int ps)] [])) t := fun t kk => pre79 t (by
          show Steps p.tables e below (T78.setTop (mkF m 70 #[.val (.ref b), .val (.int ps)] [(.int rc), (.int ((own_at o0 o1 o2 i) - ps))])) _
          refine XS.icmpYes X78.here hx rfl (pc0 := 70) (pc' := 86) rfl (hb hby d4_70) rfl (tlt hq).2.2.1 (by decide) (by decide) ?_
          exact kk)
      exact ⟨T78, _, _, X78, N0, e78, Keep.refl _ _, (by rw [own_stop hlt (decide_eq_false (fun z => z hq))]; exact F_end_b), F_opinions_b, F_reach_b, F_first_b, pre80⟩
    · obtain ⟨T81, X81, e81, st81⟩ := getF X78 hx hZ hown (host := "") (Or.inl (hw _ (List.mem_of_getElem? (i := 28) rfl))) Via.refl e78 F_end_b (g := (mkF m 75 #[.val (.ref b), .val (.int ps)] [(.ref b), (.ref b)])) rfl rfl (hb hby d4_75)
      obtain ⟨T82, h82, X82, e82, W82, st82⟩ := putF X81 hx hZ hown (host := "") (Or.inl (hw _ (List.mem_of_getElem? (i := 28) rfl))) Via.refl e81 F_end_b E_b (Or.inl (hw _ (List.mem_of_getElem? (i := 29) rfl))) (hw _ (List.mem_of_getElem? (i := 9) rfl)) (ty := .int) (by decide) rfl rfl (g := (mkF m 80 #[.val (.ref b), .val (.int ps)] [(.int ((Int32.ofNat i) + (1 : Int32))), (.ref b)])) rfl rfl (hb hby d4_80)
      have Ex83 : Exa Z h82 b "com/example/iken/iken/rank/Window" := (E_b.wr W82)
      have F84 : Fld Z h82 b "com/example/iken/iken/rank/Window" "opinions" "[I" (.ref a) := (F_opinions_b.other W82 (Or.inr (slot_ne (Or.inr (hw _ (List.mem_of_getElem? (i := 18) rfl))) (Or.inl (hw _ (List.mem_of_getElem? (i := 29) rfl))) (by decide) (t := (.array .int)) (t' := .int) (by decide) (by decide))))
      have F85 : Fld Z h82 b "com/example/iken/iken/rank/Window" "reach" "I" (.int rc) := (F_reach_b.other W82 (Or.inr (slot_ne (Or.inr (hw _ (List.mem_of_getElem? (i := 20) rfl))) (Or.inl (hw _ (List.mem_of_getElem? (i := 29) rfl))) (by decide) (t := .int) (t' := .int) (by decide) (by decide))))
      have F86 : Fld Z h82 b "com/example/iken/iken/rank/Window" "first" "I" (.int ot) := (F_first_b.other W82 (Or.inr (slot_ne (Or.inl (hw _ (List.mem_of_getElem? (i := 27) rfl))) (Or.inl (hw _ (List.mem_of_getElem? (i := 29) rfl))) (by decide) (t := .int) (t' := .int) (by decide) (by decide))))
      have Av87 : Arv Z h82 a kc .int (3 : Int32) ([(.int o0), (.int o1), (.int o2)]) (.int (0 : Int32)) := (V_a.other W82 hab)
      have K88 : Keep h0 h82 [b] := (Keep.refl h0 _).wr W82 (Or.inl (List.mem_of_getElem? (i := 0) rfl))
      have N89 := Fr.snoc X82 N0 g_b
      have F90 : Fld Z h82 b "com/example/iken/iken/rank/Window" "end" "I" (.int ((Int32.ofNat i) + (1 : Int32))) := F_end_b.same W82
      have eq92 : ((Int32.ofNat i) + (1 : Int32)) = (Int32.ofNat (i + 1)) := own_succ hlt
      have F91 : Fld Z h82 b "com/example/iken/iken/rank/Window" "end" "I" (.int (Int32.ofNat (i + 1))) := by rw [← eq92]; exact F90
      have pre93 : ∀ t, Steps p.tables e below (T82.setTop (mkF m 43 #[.val (.ref b), .val (.int ps)] [])) t → Steps p.tables e below (T0.setTop (mkF m 43 #[.val (.ref b), .val (.int ps)] [])) t := fun t kk => pre79 t (by
          show Steps p.tables e below (T78.setTop (mkF m 70 #[.val (.ref b), .val (.int ps)] [(.int rc), (.int ((own_at o0 o1 o2 i) - ps))])) _
          refine XS.icmpNo X78.here hx rfl (hb hby d4_70) rfl (flt hq).2.2.1 ?_
          show Steps p.tables e below (T78.setTop (mkF m 73 #[.val (.ref b), .val (.int ps)] [])) _
          refine XS.aloadN X78.here hx rfl (hb hby d4_73) rfl rfl ?_
          show Steps p.tables e below (T78.setTop (mkF m 74 #[.val (.ref b), .val (.int ps)] [(.ref b)])) _
          refine XS.dup X78.here hx rfl (hb hby d4_74) rfl rfl ?_
          show Steps p.tables e below (T78.setTop (mkF m 75 #[.val (.ref b), .val (.int ps)] [(.ref b), (.ref b)])) _
          refine st81 _ ?_
          show Steps p.tables e below (T81.setTop (mkF m 78 #[.val (.ref b), .val (.int ps)] [(.int (Int32.ofNat i)), (.ref b)])) _
          refine XS.iconst X81.here hx rfl (hb hby d4_78) ?_
          show Steps p.tables e below (T81.setTop (mkF m 79 #[.val (.ref b), .val (.int ps)] [(.int (1 : Int32)), (.int (Int32.ofNat i)), (.ref b)])) _
          refine XS.iadd X81.here hx rfl (hb hby d4_79) rfl ?_
          show Steps p.tables e below (T81.setTop (mkF m 80 #[.val (.ref b), .val (.int ps)] [(.int ((Int32.ofNat i) + (1 : Int32))), (.ref b)])) _
          refine st82 _ ?_
          show Steps p.tables e below (T82.setTop (mkF m 83 #[.val (.ref b), .val (.int ps)] [])) _
          refine XS.goto X82.here hx rfl (pc0 := 83) (pc' := 43) rfl (hb hby d4_83) (by decide) (by decide) ?_
          exact kk)
      have hp94 : (i + 1) ≤ 3 := hlt
      have hp95 : a ≠ b := hab
      obtain ⟨T96, lc96, h96, X96, N96, e96, K96, P96_0, P96_1, P96_2, P96_3, pre96⟩ := ih _ (by omega) T82 _ h82 b ps (i + 1) a kc o0 o1 o2 rc ot X82 e82 N89 (Nat.le_trans Z0 K88.1) Ex83 F91 F84 F85 F86 Av87 hp94 hp95 g_b rfl
      exact ⟨T96, _, _, X96, N96, e96, (K88.trans K96 (allS (Or.inl (List.mem_of_getElem? (i := 0) rfl)) all0)), (by rw [own_step hlt (decide_eq_true hq)]; exact P96_0), P96_1, P96_2, P96_3, fun t kk => pre93 t (pre96 t kk)⟩
  · have pre74 : ∀ t, Steps p.tables e below (T71.setTop (mkF m 86 #[.val (.ref b), .val (.int ps)] [])) t → Steps p.tables e below (T0.setTop (mkF m 43 #[.val (.ref b), .val (.int ps)] [])) t := fun t kk => pre73 t (by
        show Steps p.tables e below (T71.setTop (mkF m 52 #[.val (.ref b), .val (.int ps)] [(.int (3 : Int32)), (.int (Int32.ofNat i))])) _
        refine XS.icmpYes X71.here hx rfl (pc0 := 52) (pc' := 86) rfl (hb hby d4_52) rfl (flt hl0).2.1 (by decide) (by decide) ?_
        exact kk)
    exact ⟨T71, _, _, X71, N0, e71, Keep.refl _ _, (by rw [own_end hl0 hi]; exact F_end_b), F_opinions_b, F_reach_b, F_first_b, pre74⟩
theorem d4_86 : decode prog_34_method_3_code 86 = .ok (.return_, 1) := by decide +kernel
theorem ef_rmMove (m : MethodId) (x0 : Addr) (x1 : Int32) : entryFrame m #[(.ref x0), (.int x1)] 2 = mkF m 0 #[.val (.ref x0), .val (.int x1)] [] := by first | (simp [entryFrame, mkF, argsToLocals, Value.category]; done) | rfl
def QMove (Z : State) (b : Addr) (ps : Int32) (i : Nat) (j : Nat) (a : Addr) (kc : ClassId) (o0 : Int32) (o1 : Int32) (o2 : Int32) (rc : Int32) (h0 : Heap) (n0 : Nat) (v : Option Value) (h : Heap) (L : List Loc) : Prop := v = none ∧ Fr n0 L ∧ Keep h0 h [b] ∧ Exa Z h b "com/example/iken/iken/rank/Window" ∧ Fld Z h b "com/example/iken/iken/rank/Window" "first" "I" (.int (Int32.ofNat (own_go (own_q1 ps rc o0 o1 o2) (3 - i) i))) ∧ Fld Z h b "com/example/iken/iken/rank/Window" "end" "I" (.int (Int32.ofNat (own_go (own_q2 ps rc o0 o1 o2) (3 - j) j))) ∧ Fld Z h b "com/example/iken/iken/rank/Window" "opinions" "[I" (.ref a) ∧ Fld Z h b "com/example/iken/iken/rank/Window" "reach" "I" (.int rc)
set_option maxRecDepth 65536 in
set_option maxHeartbeats 40000000 in
theorem rmMove (l : Launch) (Z : State) (a0 : Array Value) (hw : ∀ d ∈ tables_1, d.before a0 Z = true) (ws : List Jvm.Cond) (b : Addr) (ps : Int32) (i : Nat) (j : Nat) (a : Addr) (kc : ClassId) (o0 : Int32) (o1 : Int32) (o2 : Int32) (rc : Int32) (h0 : Heap) (n0 : Nat) (Z0 : n0 ≤ h0.size) (E_b : Exa Z h0 b "com/example/iken/iken/rank/Window") (F_first_b : Fld Z h0 b "com/example/iken/iken/rank/Window" "first" "I" (.int (Int32.ofNat i))) (F_end_b : Fld Z h0 b "com/example/iken/iken/rank/Window" "end" "I" (.int (Int32.ofNat j))) (F_opinions_b : Fld Z h0 b "com/example/iken/iken/rank/Window" "opinions" "[I" (.ref a)) (F_reach_b : Fld Z h0 b "com/example/iken/iken/rank/Window" "reach" "I" (.int rc)) (V_a : Arv Z h0 a kc .int (3 : Int32) ([(.int o0), (.int o1), (.int o2)]) (.int (0 : Int32))) (hi : i ≤ 3) (hj : j ≤ 3) (hab : a ≠ b) (g_b : n0 ≤ b) :
    MetFree l (⟨"com/example/iken/iken/rank/Window", "moveTo", "(I)V"⟩ : MethodName) (head1 (Jvm.Cond.code (⟨"com/example/iken/iken/rank/Window", "moveTo", "(I)V"⟩ : MethodName) prog_34_method_3_code 2 none :: ws) ({ frames := 0, cells := 0, slots := 0, locals := 0 } : Room)) (fun aA uU => aA = #[(.ref b), (.int ps)] ∧ Z.Warmed39 uU.vm ∧ uU.heap = h0) (fun _ _ _ _ _ => True) (fun _ uU oO uU' => ∃ vV lL, oO = .returned vV ∧ QMove Z b ps i j a kc o0 o1 o2 rc h0 n0 vV uU'.heap lL ∧ FrameEnd uU oO uU' lL ({ frames := 0, cells := 0, slots := 0, locals := 0 } : Room).cells ({ frames := 0, cells := 0, slots := 0, locals := 0 } : Room).slots) := by
  refine MetFree.of_bodySF (plainFor_of_name pn_1) hisR ?_
  intro p e s m args below meth c s₁ Bd hml0 hP hK
  obtain ⟨rfl, hZ, hh⟩ := hP
  have hx := Bd.exec
  have hby := Bd.bytes
  have hml : c.maxLocals = 2 := hml0
  have hown : s.vm.findClass "com/example/iken/iken/rank/Window" = some m.cls := findClass_of_methodNamed Bd.named
  have hnm := (name_of_methodNamed Bd.named Bd.method).1
  have X0 : Stand p l e ({ frames := 0, cells := 0, slots := 0, locals := 0 } : Room) s m #[(.ref b), (.int ps)] below meth c s₁ [] 0 0 := Stand.of_body Bd
  have e0 : s₁.heap = h0 := by rw [← hh, Bd.state]; rfl
  have N0 := Fr.nil n0
  have pre0 : ∀ t, Steps p.tables e below (s₁.setTop (mkF m 0 #[.val (.ref b), .val (.int ps)] [])) t → Steps p.tables e below (s₁.setTop (entryFrame m #[(.ref b), (.int ps)] 2)) t := fun t kk => castTop (ef_rmMove m b ps) kk
  have hp97 : i ≤ 3 := hi
  have hp98 : a ≠ b := hab
  obtain ⟨T99, lc99, h99, X99, N99, e99, K99, P99_0, P99_1, P99_2, P99_3, pre99⟩ := loopF hx hZ hw hby hml hown (n0 := n0) _ s₁ _ h0 b ps i a kc o0 o1 o2 rc (Int32.ofNat j) X0 e0 N0 Z0 E_b F_first_b F_opinions_b F_reach_b F_end_b V_a hp97 hp98 g_b rfl
  have Ex101 : Exa Z h99 b "com/example/iken/iken/rank/Window" := (E_b.keep K99)
  have Av102 : Arv Z h99 a kc .int (3 : Int32) ([(.int o0), (.int o1), (.int o2)]) (.int (0 : Int32)) := (V_a.keep K99 (ninS hab nin0))
  have K103 : Keep h0 h99 [b] := (Keep.refl h0 _).trans K99 (allS (Or.inl (List.mem_of_getElem? (i := 0) rfl)) all0)
  have pre100 : ∀ t, Steps p.tables e below (T99.setTop (mkF m 43 #[.val (.ref b), .val (.int ps)] [])) t → Steps p.tables e below (s₁.setTop (entryFrame m #[(.ref b), (.int ps)] 2)) t := fun t kk => pre0 t (pre99 t kk)
  have hp104 : j ≤ 3 := hj
  have hp105 : a ≠ b := hab
  obtain ⟨T106, lc106, h106, X106, N106, e106, K106, P106_0, P106_1, P106_2, P106_3, pre106⟩ := loopE hx hZ hw hby hml hown (n0 := n0) _ T99 _ h99 b ps j a kc o0 o1 o2 rc (Int32.ofNat (own_go (own_q1 ps rc o0 o1 o2) (3 - i) i)) X99 e99 N99 (Nat.le_trans Z0 K103.1) Ex101 P99_3 P99_1 P99_2 P99_0 Av102 hp104 hp105 g_b rfl
  have Ex108 : Exa Z h106 b "com/example/iken/iken/rank/Window" := (Ex101.keep K106)
  have Av109 : Arv Z h106 a kc .int (3 : Int32) ([(.int o0), (.int o1), (.int o2)]) (.int (0 : Int32)) := (Av102.keep K106 (ninS hab nin0))
  have K110 : Keep h0 h106 [b] := K103.trans K106 (allS (Or.inl (List.mem_of_getElem? (i := 0) rfl)) all0)
  have pre107 : ∀ t, Steps p.tables e below (T106.setTop (mkF m 86 #[.val (.ref b), .val (.int ps)] [])) t → Steps p.tables e below (s₁.setTop (entryFrame m #[(.ref b), (.int ps)] 2)) t := fun t kk => pre100 t (pre106 t kk)
  obtain ⟨fs, hr, hrun, hended, hW, hsame⟩ := X106.leave (v := none) (fun _ => rfl)
  refine ⟨_, _, pre107 _ ?_, hrun, hended, _, _, rfl, ?_, ⟨_, rfl⟩, hW, hsame.mono (by decide) (by decide)⟩
  · show Steps p.tables e below (T106.setTop (mkF m 86 #[.val (.ref b), .val (.int ps)] [])) _
    exact X106.returnOut hx Bd.returns (hb hby d4_86) hr
  · show QMove Z b ps i j a kc o0 o1 o2 rc h0 n0 _ T106.heap _
    rw [e106]
    exact ⟨rfl, N106, K110, Ex108, P106_3, P106_0, P106_1, P106_2⟩
theorem own_c1 (ps rc o : Int32) (h1 : 0 ≤ ps.toInt) (h2 : 0 ≤ o.toInt) : rc < ps - o ↔ rc.toInt < ps.toInt - o.toInt := by
  have a := ps.toInt_lt
  have b := o.toInt_lt
  rw [Int32.lt_iff_toInt_lt, Jvm.Free.XT.sub32 ⟨by omega, by omega⟩]
theorem own_cf (u1 u2 u3 : Int32) : own_far u1 u2 u3 = if u3.toInt < u2.toInt - u1.toInt then 1 else 0 := by
  have a := u2.toInt_lt
  have b := u1.toInt_lt
  have a' := u2.le_toInt
  have b' := u1.le_toInt
  unfold own_far
  have e : (u3.toInt64 < u2.toInt64 - u1.toInt64) = (u3.toInt < u2.toInt - u1.toInt) := by
    rw [Int64.lt_iff_toInt_lt, Jvm.Free.XT.sub64 ⟨by rw [Int32.toInt_toInt64, Int32.toInt_toInt64]; omega, by rw [Int32.toInt_toInt64, Int32.toInt_toInt64]; omega⟩, Int32.toInt_toInt64, Int32.toInt_toInt64, Int32.toInt_toInt64]
  simp only [e]
theorem own_cn (u1 u2 u3 : Int32) : own_near u1 u2 u3 = if u3.toInt < u1.toInt - u2.toInt then 0 else 1 := by
  have a := u2.toInt_lt
  have b := u1.toInt_lt
  have a' := u2.le_toInt
  have b' := u1.le_toInt
  unfold own_near
  have e : (u3.toInt64 < u1.toInt64 - u2.toInt64) = (u3.toInt < u1.toInt - u2.toInt) := by
    rw [Int64.lt_iff_toInt_lt, Jvm.Free.XT.sub64 ⟨by rw [Int32.toInt_toInt64, Int32.toInt_toInt64]; omega, by rw [Int32.toInt_toInt64, Int32.toInt_toInt64]; omega⟩, Int32.toInt_toInt64, Int32.toInt_toInt64, Int32.toInt_toInt64]
  simp only [e]
theorem own_go3 (q : Nat → Bool) : own_go q (3 - 0) 0 = if q 0 then (if q 1 then (if q 2 then 3 else 2) else 1) else 0 := rfl
theorem own_cnt (q : Nat → Bool) (h1 : q 1 = true → q 0 = true) (h2 : q 2 = true → q 1 = true) (f : Nat) (hf : f = own_go q (3 - 0) 0) (q' : Nat → Bool) (hm : ∀ j, q j = true → q' j = true) (h1' : q' 1 = true → q' 0 = true) (h2' : q' 2 = true → q' 1 = true) :
    own_go q' (3 - f) f = own_go q' (3 - 0) 0 := by
  subst hf
  rw [own_go3 q]
  have m0 := hm 0
  have m1 := hm 1
  have m2 := hm 2
  cases a0 : q 0 <;> cases a1 : q 1 <;> cases a2 : q 2 <;> simp [a0, a1, a2] at h1 h2 m0 m1 m2 ⊢ <;> simp [own_go, *]
theorem own_sum (q : Nat → Bool) (h1 : q 1 = true → q 0 = true) (h2 : q 2 = true → q 1 = true) : (Int32.ofNat (own_go q (3 - 0) 0)) = (if q 0 then (1 : Int32) else 0) + (if q 1 then (1 : Int32) else 0) + (if q 2 then (1 : Int32) else 0) := by
  rw [own_go3]
  cases a0 : q 0 <;> cases a1 : q 1 <;> cases a2 : q 2 <;> simp [a0, a1, a2] at h1 h2 ⊢ <;> decide
theorem own_plain (p0 p1 p2 p3 p4 p5 o0 o1 o2 rc ps pt : Int32) (f1 g1 : Nat) (h0 : o0 = (p0 &&& (1073741823 : Int32))) (h1 : o1 = (o0 + (p1 &&& (536870911 : Int32)))) (h2 : o2 = (o1 + (p2 &&& (536870911 : Int32)))) (h3 : rc = (p3 &&& (2147483647 : Int32))) (h4 : ps = (p4 &&& (2147483647 : Int32))) (h5 : pt = (own_max ps (p5 &&& (2147483647 : Int32))))
    (hf : f1 = own_go (own_q1 ps rc o0 o1 o2) (3 - 0) 0) (hg : g1 = own_go (own_q2 ps rc o0 o1 o2) (3 - 0) 0) :
    (Int32.ofNat f1) = (own_before o0 o1 o2 ps rc) ∧ (Int32.ofNat g1) = (own_within o0 o1 o2 ps rc) ∧ (Int32.ofNat (own_go (own_q1 pt rc o0 o1 o2) (3 - f1) f1)) = (own_before o0 o1 o2 pt rc) ∧ (Int32.ofNat (own_go (own_q2 pt rc o0 o1 o2) (3 - g1) g1)) = (own_within o0 o1 o2 pt rc) := by
  have e0 : (p0 &&& (1073741823 : Int32)).toInt = p0.toInt % 2 ^ 30 := Jvm.Kit.i32_mask p0 1073741823 (k := 30) (by decide) (by decide)
  have e1 : (p1 &&& (536870911 : Int32)).toInt = p1.toInt % 2 ^ 29 := Jvm.Kit.i32_mask p1 536870911 (k := 29) (by decide) (by decide)
  have e2 : (p2 &&& (536870911 : Int32)).toInt = p2.toInt % 2 ^ 29 := Jvm.Kit.i32_mask p2 536870911 (k := 29) (by decide) (by decide)
  have e4 : (p4 &&& (2147483647 : Int32)).toInt = p4.toInt % 2 ^ 31 := Jvm.Kit.i32_mask p4 2147483647 (k := 31) (by decide) (by decide)
  have e5 : (p5 &&& (2147483647 : Int32)).toInt = p5.toInt % 2 ^ 31 := Jvm.Kit.i32_mask p5 2147483647 (k := 31) (by decide) (by decide)
  have i0 : o0.toInt = p0.toInt % 2 ^ 30 := by rw [h0, e0]
  have i1 : o1.toInt = o0.toInt + p1.toInt % 2 ^ 29 := by rw [h1, Jvm.Free.XT.add32 ⟨by rw [e1]; omega, by rw [e1]; omega⟩, e1]
  have i2 : o2.toInt = o1.toInt + p2.toInt % 2 ^ 29 := by rw [h2, Jvm.Free.XT.add32 ⟨by rw [e2]; omega, by rw [e2]; omega⟩, e2]
  have i4 : ps.toInt = p4.toInt % 2 ^ 31 := by rw [h4, e4]
  have i5 : ps.toInt ≤ pt.toInt := by
    rw [h5]; unfold own_max
    split
    · rename_i h; rw [Int32.lt_iff_toInt_lt] at h; omega
    · omega
  have b0 : 0 ≤ o0.toInt := by omega
  have b1 : 0 ≤ o1.toInt := by omega
  have b2 : 0 ≤ o2.toInt := by omega
  have c0 : 0 ≤ ps.toInt := by omega
  have c1 : 0 ≤ pt.toInt := by omega
  have k1 : ∀ (x : Int32), 0 ≤ x.toInt → ∀ j o, own_at o0 o1 o2 j = o → (own_q1 x rc o0 o1 o2 j = true ↔ rc.toInt < x.toInt - o.toInt) := by
    intro x hx j o ho
    have hb : 0 ≤ o.toInt := by
      rw [← ho]; unfold own_at; split <;> assumption
    unfold own_q1
    rw [decide_eq_true_iff, ho, own_c1 x rc o hx hb]
  have k2 : ∀ (x : Int32), 0 ≤ x.toInt → ∀ j o, own_at o0 o1 o2 j = o → (own_q2 x rc o0 o1 o2 j = true ↔ ¬ rc.toInt < o.toInt - x.toInt) := by
    intro x hx j o ho
    have hb : 0 ≤ o.toInt := by
      rw [← ho]; unfold own_at; split <;> assumption
    unfold own_q2
    rw [decide_eq_true_iff, ho, own_c1 o rc x hb hx]
  have s1 : ∀ (x : Int32), 0 ≤ x.toInt → (Int32.ofNat (own_go (own_q1 x rc o0 o1 o2) (3 - 0) 0)) = own_before o0 o1 o2 x rc := by
    intro x hx
    have q0 := k1 x hx 0 o0 rfl
    have q1 := k1 x hx 1 o1 rfl
    have q2 := k1 x hx 2 o2 rfl
    rw [own_sum _ (fun h => by rw [q0]; rw [q1] at h; omega) (fun h => by rw [q1]; rw [q2] at h; omega)]
    unfold own_before
    rw [own_cf, own_cf, own_cf]
    simp only [q0, q1, q2]
  have s2 : ∀ (x : Int32), 0 ≤ x.toInt → (Int32.ofNat (own_go (own_q2 x rc o0 o1 o2) (3 - 0) 0)) = own_within o0 o1 o2 x rc := by
    intro x hx
    have q0 := k2 x hx 0 o0 rfl
    have q1 := k2 x hx 1 o1 rfl
    have q2 := k2 x hx 2 o2 rfl
    rw [own_sum _ (fun h => by rw [q0]; rw [q1] at h; omega) (fun h => by rw [q1]; rw [q2] at h; omega)]
    unfold own_within
    rw [own_cn, own_cn, own_cn]
    simp only [q0, q1, q2, ite_not]
  have m1 : ∀ (x : Int32), 0 ≤ x.toInt → (own_q1 x rc o0 o1 o2 1 = true → own_q1 x rc o0 o1 o2 0 = true) ∧ (own_q1 x rc o0 o1 o2 2 = true → own_q1 x rc o0 o1 o2 1 = true) := by
    intro x hx
    have q0 := k1 x hx 0 o0 rfl
    have q1 := k1 x hx 1 o1 rfl
    have q2 := k1 x hx 2 o2 rfl
    exact ⟨fun h => by rw [q0]; rw [q1] at h; omega, fun h => by rw [q1]; rw [q2] at h; omega⟩
  have m2 : ∀ (x : Int32), 0 ≤ x.toInt → (own_q2 x rc o0 o1 o2 1 = true → own_q2 x rc o0 o1 o2 0 = true) ∧ (own_q2 x rc o0 o1 o2 2 = true → own_q2 x rc o0 o1 o2 1 = true) := by
    intro x hx
    have q0 := k2 x hx 0 o0 rfl
    have q1 := k2 x hx 1 o1 rfl
    have q2 := k2 x hx 2 o2 rfl
    exact ⟨fun h => by rw [q0]; rw [q1] at h; omega, fun h => by rw [q1]; rw [q2] at h; omega⟩
  refine ⟨by rw [hf]; exact s1 ps c0, by rw [hg]; exact s2 ps c0, ?_, ?_⟩
  · rw [own_cnt _ (m1 ps c0).1 (m1 ps c0).2 f1 hf _ (fun j h => ?_) (m1 pt c1).1 (m1 pt c1).2]
    · exact s1 pt c1
    · rw [k1 pt c1 j _ rfl]; rw [k1 ps c0 j _ rfl] at h; omega
  · rw [own_cnt _ (m2 ps c0).1 (m2 ps c0).2 g1 hg _ (fun j h => ?_) (m2 pt c1).1 (m2 pt c1).2]
    · exact s2 pt c1
    · rw [k2 pt c1 j _ rfl]; rw [k2 ps c0 j _ rfl] at h; omega

theorem pd_1 : parseMethodDescriptor "(II)I" = some ⟨[.int, .int], some .int⟩ := by decide +kernel
theorem pd_2 : parseMethodDescriptor "([II)V" = some ⟨[(.array .int), .int], none⟩ := by decide +kernel
theorem pd_3 : parseMethodDescriptor "(I)V" = some ⟨[.int], none⟩ := by decide +kernel
theorem pd_4 : parseMethodDescriptor "()I" = some ⟨[], some .int⟩ := by decide +kernel
theorem pd_5 : parseMethodDescriptor "(IIIII)I" = some ⟨[.int, .int, .int, .int, .int], some .int⟩ := by decide +kernel
theorem ef_rm0 (m : MethodId) (x0 : Int32) (x1 : Int32) (x2 : Int32) (x3 : Int32) (x4 : Int32) (x5 : Int32) : entryFrame m #[(.int x0), (.int x1), (.int x2), (.int x3), (.int x4), (.int x5)] maxLocals = mkF m 0 #[.val (.int x0), .val (.int x1), .val (.int x2), .val (.int x3), .val (.int x4), .val (.int x5), .unset, .unset, .unset, .unset, .unset, .unset, .unset, .unset, .unset, .unset] [] := by first | (simp [entryFrame, mkF, argsToLocals, Value.category, maxLocals]; done) | rfl
def Q0 (Z : State) (p0 : Int32) (p1 : Int32) (p2 : Int32) (p3 : Int32) (p4 : Int32) (p5 : Int32) (h0 : Heap) (n0 : Nat) (v : Option Value) (h : Heap) (L : List Loc) : Prop := v = some (.int (1 : Int32)) ∧ Fr n0 L ∧ Keep h0 h []
set_option maxRecDepth 65536 in
set_option maxHeartbeats 40000000 in
theorem rm0 (l : Launch) (Z : State) (a0 : Array Value) (hw : ∀ d ∈ tables_1, d.before a0 Z = true) (ws : List Jvm.Cond) (p0 : Int32) (p1 : Int32) (p2 : Int32) (p3 : Int32) (p4 : Int32) (p5 : Int32) (h0 : Heap) (n0 : Nat) (Z0 : n0 ≤ h0.size)  :
    MetFree l x (head1 (Jvm.Cond.code x code maxLocals ret :: ws) room_1) (fun aA uU => aA = #[(.int p0), (.int p1), (.int p2), (.int p3), (.int p4), (.int p5)] ∧ Z.Warmed39 uU.vm ∧ uU.heap = h0) (fun _ _ _ _ _ => True) (fun _ uU oO uU' => ∃ vV lL, oO = .returned vV ∧ Q0 Z p0 p1 p2 p3 p4 p5 h0 n0 vV uU'.heap lL ∧ FrameEnd uU oO uU' lL room_1.cells room_1.slots) := by
  refine MetFree.of_bodySF (plainFor_of_name pn_0) hisR ?_
  intro p e s m args below meth c s₁ Bd hml0 hP hK
  obtain ⟨rfl, hZ, hh⟩ := hP
  have hx := Bd.exec
  have hby := Bd.bytes
  have hml : c.maxLocals = 16 := hml0
  have hown : s.vm.findClass "com/example/iken/iken/rank/WindowMoveToPinLaw" = some m.cls := findClass_of_methodNamed Bd.named
  have hnm := (name_of_methodNamed Bd.named Bd.method).1
  have X0 : Stand p l e room_1 s m #[(.int p0), (.int p1), (.int p2), (.int p3), (.int p4), (.int p5)] below meth c s₁ [] 0 0 := Stand.of_body Bd
  have e0 : s₁.heap = h0 := by rw [← hh, Bd.state]; rfl
  have N0 := Fr.nil n0
  have pre0 : ∀ t, Steps p.tables e below (s₁.setTop (mkF m 0 #[.val (.int p0), .val (.int p1), .val (.int p2), .val (.int p3), .val (.int p4), .val (.int p5), .unset, .unset, .unset, .unset, .unset, .unset, .unset, .unset, .unset, .unset] [])) t → Steps p.tables e below (s₁.setTop (entryFrame m #[(.int p0), (.int p1), (.int p2), (.int p3), (.int p4), (.int p5)] maxLocals)) t := fun t kk => castTop (ef_rm0 m p0 p1 p2 p3 p4 p5) kk
  have pre111 : ∀ t, Steps p.tables e below (s₁.setTop (mkF m 6 #[.val (.int p0), .val (.int p1), .val (.int p2), .val (.int p3), .val (.int p4), .val (.int p5), .val (.int (p0 &&& (1073741823 : Int32))), .unset, .unset, .unset, .unset, .unset, .unset, .unset, .unset, .unset] [])) t → Steps p.tables e below (s₁.setTop (entryFrame m #[(.int p0), (.int p1), (.int p2), (.int p3), (.int p4), (.int p5)] maxLocals)) t := fun t kk => pre0 t (by
      show Steps p.tables e below (s₁.setTop (mkF m 0 #[.val (.int p0), .val (.int p1), .val (.int p2), .val (.int p3), .val (.int p4), .val (.int p5), .unset, .unset, .unset, .unset, .unset, .unset, .unset, .unset, .unset, .unset] [])) _
      refine XS.iloadN X0.here hx rfl (hb hby at_0) rfl ?_
      show Steps p.tables e below (s₁.setTop (mkF m 1 #[.val (.int p0), .val (.int p1), .val (.int p2), .val (.int p3), .val (.int p4), .val (.int p5), .unset, .unset, .unset, .unset, .unset, .unset, .unset, .unset, .unset, .unset] [(.int p0)])) _
      refine X0.ldcInt hx hown (mvT hZ (hw _ (List.mem_of_getElem? (i := 0) rfl))) (g := (mkF m 1 #[.val (.int p0), .val (.int p1), .val (.int p2), .val (.int p3), .val (.int p4), .val (.int p5), .unset, .unset, .unset, .unset, .unset, .unset, .unset, .unset, .unset, .unset] [(.int p0)])) rfl (hb hby at_1) _ ?_
      show Steps p.tables e below (s₁.setTop (mkF m 3 #[.val (.int p0), .val (.int p1), .val (.int p2), .val (.int p3), .val (.int p4), .val (.int p5), .unset, .unset, .unset, .unset, .unset, .unset, .unset, .unset, .unset, .unset] [(.int (1073741823 : Int32)), (.int p0)])) _
      refine XS.iand X0.here hx rfl (hb hby at_3) rfl ?_
      show Steps p.tables e below (s₁.setTop (mkF m 4 #[.val (.int p0), .val (.int p1), .val (.int p2), .val (.int p3), .val (.int p4), .val (.int p5), .unset, .unset, .unset, .unset, .unset, .unset, .unset, .unset, .unset, .unset] [(.int (p0 &&& (1073741823 : Int32)))])) _
      refine XS.istore X0.here hx rfl (hb hby at_4) rfl (l' := #[.val (.int p0), .val (.int p1), .val (.int p2), .val (.int p3), .val (.int p4), .val (.int p5), .val (.int (p0 &&& (1073741823 : Int32))), .unset, .unset, .unset, .unset, .unset, .unset, .unset, .unset, .unset]) rfl ?_
      exact kk)
  obtain ⟨o0, hv_o0⟩ : ∃ z : Int32, z = (p0 &&& (1073741823 : Int32)) := ⟨_, rfl⟩
  have pre112 : ∀ t, Steps p.tables e below (s₁.setTop (mkF m 6 #[.val (.int p0), .val (.int p1), .val (.int p2), .val (.int p3), .val (.int p4), .val (.int p5), .val (.int o0), .unset, .unset, .unset, .unset, .unset, .unset, .unset, .unset, .unset] [])) t → Steps p.tables e below (s₁.setTop (entryFrame m #[(.int p0), (.int p1), (.int p2), (.int p3), (.int p4), (.int p5)] maxLocals)) t := by subst hv_o0; exact pre111
  have pre113 : ∀ t, Steps p.tables e below (s₁.setTop (mkF m 15 #[.val (.int p0), .val (.int p1), .val (.int p2), .val (.int p3), .val (.int p4), .val (.int p5), .val (.int o0), .val (.int (o0 + (p1 &&& (536870911 : Int32)))), .unset, .unset, .unset, .unset, .unset, .unset, .unset, .unset] [])) t → Steps p.tables e below (s₁.setTop (entryFrame m #[(.int p0), (.int p1), (.int p2), (.int p3), (.int p4), (.int p5)] maxLocals)) t := fun t kk => pre112 t (by
      show Steps p.tables e below (s₁.setTop (mkF m 6 #[.val (.int p0), .val (.int p1), .val (.int p2), .val (.int p3), .val (.int p4), .val (.int p5), .val (.int o0), .unset, .unset, .unset, .unset, .unset, .unset, .unset, .unset, .unset] [])) _
      refine XS.iload X0.here hx rfl (hb hby at_6) rfl ?_
      show Steps p.tables e below (s₁.setTop (mkF m 8 #[.val (.int p0), .val (.int p1), .val (.int p2), .val (.int p3), .val (.int p4), .val (.int p5), .val (.int o0), .unset, .unset, .unset, .unset, .unset, .unset, .unset, .unset, .unset] [(.int o0)])) _
      refine XS.iloadN X0.here hx rfl (hb hby at_8) rfl ?_
      show Steps p.tables e below (s₁.setTop (mkF m 9 #[.val (.int p0), .val (.int p1), .val (.int p2), .val (.int p3), .val (.int p4), .val (.int p5), .val (.int o0), .unset, .unset, .unset, .unset, .unset, .unset, .unset, .unset, .unset] [(.int p1), (.int o0)])) _
      refine X0.ldcInt hx hown (mvT hZ (hw _ (List.mem_of_getElem? (i := 1) rfl))) (g := (mkF m 9 #[.val (.int p0), .val (.int p1), .val (.int p2), .val (.int p3), .val (.int p4), .val (.int p5), .val (.int o0), .unset, .unset, .unset, .unset, .unset, .unset, .unset, .unset, .unset] [(.int p1), (.int o0)])) rfl (hb hby at_9) _ ?_
      show Steps p.tables e below (s₁.setTop (mkF m 11 #[.val (.int p0), .val (.int p1), .val (.int p2), .val (.int p3), .val (.int p4), .val (.int p5), .val (.int o0), .unset, .unset, .unset, .unset, .unset, .unset, .unset, .unset, .unset] [(.int (536870911 : Int32)), (.int p1), (.int o0)])) _
      refine XS.iand X0.here hx rfl (hb hby at_11) rfl ?_
      show Steps p.tables e below (s₁.setTop (mkF m 12 #[.val (.int p0), .val (.int p1), .val (.int p2), .val (.int p3), .val (.int p4), .val (.int p5), .val (.int o0), .unset, .unset, .unset, .unset, .unset, .unset, .unset, .unset, .unset] [(.int (p1 &&& (536870911 : Int32))), (.int o0)])) _
      refine XS.iadd X0.here hx rfl (hb hby at_12) rfl ?_
      show Steps p.tables e below (s₁.setTop (mkF m 13 #[.val (.int p0), .val (.int p1), .val (.int p2), .val (.int p3), .val (.int p4), .val (.int p5), .val (.int o0), .unset, .unset, .unset, .unset, .unset, .unset, .unset, .unset, .unset] [(.int (o0 + (p1 &&& (536870911 : Int32))))])) _
      refine XS.istore X0.here hx rfl (hb hby at_13) rfl (l' := #[.val (.int p0), .val (.int p1), .val (.int p2), .val (.int p3), .val (.int p4), .val (.int p5), .val (.int o0), .val (.int (o0 + (p1 &&& (536870911 : Int32)))), .unset, .unset, .unset, .unset, .unset, .unset, .unset, .unset]) rfl ?_
      exact kk)
  obtain ⟨o1, hv_o1⟩ : ∃ z : Int32, z = (o0 + (p1 &&& (536870911 : Int32))) := ⟨_, rfl⟩
  have pre114 : ∀ t, Steps p.tables e below (s₁.setTop (mkF m 15 #[.val (.int p0), .val (.int p1), .val (.int p2), .val (.int p3), .val (.int p4), .val (.int p5), .val (.int o0), .val (.int o1), .unset, .unset, .unset, .unset, .unset, .unset, .unset, .unset] [])) t → Steps p.tables e below (s₁.setTop (entryFrame m #[(.int p0), (.int p1), (.int p2), (.int p3), (.int p4), (.int p5)] maxLocals)) t := by subst hv_o1; exact pre113
  have pre115 : ∀ t, Steps p.tables e below (s₁.setTop (mkF m 24 #[.val (.int p0), .val (.int p1), .val (.int p2), .val (.int p3), .val (.int p4), .val (.int p5), .val (.int o0), .val (.int o1), .val (.int (o1 + (p2 &&& (536870911 : Int32)))), .unset, .unset, .unset, .unset, .unset, .unset, .unset] [])) t → Steps p.tables e below (s₁.setTop (entryFrame m #[(.int p0), (.int p1), (.int p2), (.int p3), (.int p4), (.int p5)] maxLocals)) t := fun t kk => pre114 t (by
      show Steps p.tables e below (s₁.setTop (mkF m 15 #[.val (.int p0), .val (.int p1), .val (.int p2), .val (.int p3), .val (.int p4), .val (.int p5), .val (.int o0), .val (.int o1), .unset, .unset, .unset, .unset, .unset, .unset, .unset, .unset] [])) _
      refine XS.iload X0.here hx rfl (hb hby at_15) rfl ?_
      show Steps p.tables e below (s₁.setTop (mkF m 17 #[.val (.int p0), .val (.int p1), .val (.int p2), .val (.int p3), .val (.int p4), .val (.int p5), .val (.int o0), .val (.int o1), .unset, .unset, .unset, .unset, .unset, .unset, .unset, .unset] [(.int o1)])) _
      refine XS.iloadN X0.here hx rfl (hb hby at_17) rfl ?_
      show Steps p.tables e below (s₁.setTop (mkF m 18 #[.val (.int p0), .val (.int p1), .val (.int p2), .val (.int p3), .val (.int p4), .val (.int p5), .val (.int o0), .val (.int o1), .unset, .unset, .unset, .unset, .unset, .unset, .unset, .unset] [(.int p2), (.int o1)])) _
      refine X0.ldcInt hx hown (mvT hZ (hw _ (List.mem_of_getElem? (i := 1) rfl))) (g := (mkF m 18 #[.val (.int p0), .val (.int p1), .val (.int p2), .val (.int p3), .val (.int p4), .val (.int p5), .val (.int o0), .val (.int o1), .unset, .unset, .unset, .unset, .unset, .unset, .unset, .unset] [(.int p2), (.int o1)])) rfl (hb hby at_18) _ ?_
      show Steps p.tables e below (s₁.setTop (mkF m 20 #[.val (.int p0), .val (.int p1), .val (.int p2), .val (.int p3), .val (.int p4), .val (.int p5), .val (.int o0), .val (.int o1), .unset, .unset, .unset, .unset, .unset, .unset, .unset, .unset] [(.int (536870911 : Int32)), (.int p2), (.int o1)])) _
      refine XS.iand X0.here hx rfl (hb hby at_20) rfl ?_
      show Steps p.tables e below (s₁.setTop (mkF m 21 #[.val (.int p0), .val (.int p1), .val (.int p2), .val (.int p3), .val (.int p4), .val (.int p5), .val (.int o0), .val (.int o1), .unset, .unset, .unset, .unset, .unset, .unset, .unset, .unset] [(.int (p2 &&& (536870911 : Int32))), (.int o1)])) _
      refine XS.iadd X0.here hx rfl (hb hby at_21) rfl ?_
      show Steps p.tables e below (s₁.setTop (mkF m 22 #[.val (.int p0), .val (.int p1), .val (.int p2), .val (.int p3), .val (.int p4), .val (.int p5), .val (.int o0), .val (.int o1), .unset, .unset, .unset, .unset, .unset, .unset, .unset, .unset] [(.int (o1 + (p2 &&& (536870911 : Int32))))])) _
      refine XS.istore X0.here hx rfl (hb hby at_22) rfl (l' := #[.val (.int p0), .val (.int p1), .val (.int p2), .val (.int p3), .val (.int p4), .val (.int p5), .val (.int o0), .val (.int o1), .val (.int (o1 + (p2 &&& (536870911 : Int32)))), .unset, .unset, .unset, .unset, .unset, .unset, .unset]) rfl ?_
      exact kk)
  obtain ⟨o2, hv_o2⟩ : ∃ z : Int32, z = (o1 + (p2 &&& (536870911 : Int32))) := ⟨_, rfl⟩
  have pre116 : ∀ t, Steps p.tables e below (s₁.setTop (mkF m 24 #[.val (.int p0), .val (.int p1), .val (.int p2), .val (.int p3), .val (.int p4), .val (.int p5), .val (.int o0), .val (.int o1), .val (.int o2), .unset, .unset, .unset, .unset, .unset, .unset, .unset] [])) t → Steps p.tables e below (s₁.setTop (entryFrame m #[(.int p0), (.int p1), (.int p2), (.int p3), (.int p4), (.int p5)] maxLocals)) t := by subst hv_o2; exact pre115
  have pre117 : ∀ t, Steps p.tables e below (s₁.setTop (mkF m 30 #[.val (.int p0), .val (.int p1), .val (.int p2), .val (.int p3), .val (.int p4), .val (.int p5), .val (.int o0), .val (.int o1), .val (.int o2), .val (.int (p3 &&& (2147483647 : Int32))), .unset, .unset, .unset, .unset, .unset, .unset] [])) t → Steps p.tables e below (s₁.setTop (entryFrame m #[(.int p0), (.int p1), (.int p2), (.int p3), (.int p4), (.int p5)] maxLocals)) t := fun t kk => pre116 t (by
      show Steps p.tables e below (s₁.setTop (mkF m 24 #[.val (.int p0), .val (.int p1), .val (.int p2), .val (.int p3), .val (.int p4), .val (.int p5), .val (.int o0), .val (.int o1), .val (.int o2), .unset, .unset, .unset, .unset, .unset, .unset, .unset] [])) _
      refine XS.iloadN X0.here hx rfl (hb hby at_24) rfl ?_
      show Steps p.tables e below (s₁.setTop (mkF m 25 #[.val (.int p0), .val (.int p1), .val (.int p2), .val (.int p3), .val (.int p4), .val (.int p5), .val (.int o0), .val (.int o1), .val (.int o2), .unset, .unset, .unset, .unset, .unset, .unset, .unset] [(.int p3)])) _
      refine X0.ldcInt hx hown (mvT hZ (hw _ (List.mem_of_getElem? (i := 2) rfl))) (g := (mkF m 25 #[.val (.int p0), .val (.int p1), .val (.int p2), .val (.int p3), .val (.int p4), .val (.int p5), .val (.int o0), .val (.int o1), .val (.int o2), .unset, .unset, .unset, .unset, .unset, .unset, .unset] [(.int p3)])) rfl (hb hby at_25) _ ?_
      show Steps p.tables e below (s₁.setTop (mkF m 27 #[.val (.int p0), .val (.int p1), .val (.int p2), .val (.int p3), .val (.int p4), .val (.int p5), .val (.int o0), .val (.int o1), .val (.int o2), .unset, .unset, .unset, .unset, .unset, .unset, .unset] [(.int (2147483647 : Int32)), (.int p3)])) _
      refine XS.iand X0.here hx rfl (hb hby at_27) rfl ?_
      show Steps p.tables e below (s₁.setTop (mkF m 28 #[.val (.int p0), .val (.int p1), .val (.int p2), .val (.int p3), .val (.int p4), .val (.int p5), .val (.int o0), .val (.int o1), .val (.int o2), .unset, .unset, .unset, .unset, .unset, .unset, .unset] [(.int (p3 &&& (2147483647 : Int32)))])) _
      refine XS.istore X0.here hx rfl (hb hby at_28) rfl (l' := #[.val (.int p0), .val (.int p1), .val (.int p2), .val (.int p3), .val (.int p4), .val (.int p5), .val (.int o0), .val (.int o1), .val (.int o2), .val (.int (p3 &&& (2147483647 : Int32))), .unset, .unset, .unset, .unset, .unset, .unset]) rfl ?_
      exact kk)
  obtain ⟨rc, hv_rc⟩ : ∃ z : Int32, z = (p3 &&& (2147483647 : Int32)) := ⟨_, rfl⟩
  have pre118 : ∀ t, Steps p.tables e below (s₁.setTop (mkF m 30 #[.val (.int p0), .val (.int p1), .val (.int p2), .val (.int p3), .val (.int p4), .val (.int p5), .val (.int o0), .val (.int o1), .val (.int o2), .val (.int rc), .unset, .unset, .unset, .unset, .unset, .unset] [])) t → Steps p.tables e below (s₁.setTop (entryFrame m #[(.int p0), (.int p1), (.int p2), (.int p3), (.int p4), (.int p5)] maxLocals)) t := by subst hv_rc; exact pre117
  have pre119 : ∀ t, Steps p.tables e below (s₁.setTop (mkF m 37 #[.val (.int p0), .val (.int p1), .val (.int p2), .val (.int p3), .val (.int p4), .val (.int p5), .val (.int o0), .val (.int o1), .val (.int o2), .val (.int rc), .val (.int (p4 &&& (2147483647 : Int32))), .unset, .unset, .unset, .unset, .unset] [])) t → Steps p.tables e below (s₁.setTop (entryFrame m #[(.int p0), (.int p1), (.int p2), (.int p3), (.int p4), (.int p5)] maxLocals)) t := fun t kk => pre118 t (by
      show Steps p.tables e below (s₁.setTop (mkF m 30 #[.val (.int p0), .val (.int p1), .val (.int p2), .val (.int p3), .val (.int p4), .val (.int p5), .val (.int o0), .val (.int o1), .val (.int o2), .val (.int rc), .unset, .unset, .unset, .unset, .unset, .unset] [])) _
      refine XS.iload X0.here hx rfl (hb hby at_30) rfl ?_
      show Steps p.tables e below (s₁.setTop (mkF m 32 #[.val (.int p0), .val (.int p1), .val (.int p2), .val (.int p3), .val (.int p4), .val (.int p5), .val (.int o0), .val (.int o1), .val (.int o2), .val (.int rc), .unset, .unset, .unset, .unset, .unset, .unset] [(.int p4)])) _
      refine X0.ldcInt hx hown (mvT hZ (hw _ (List.mem_of_getElem? (i := 2) rfl))) (g := (mkF m 32 #[.val (.int p0), .val (.int p1), .val (.int p2), .val (.int p3), .val (.int p4), .val (.int p5), .val (.int o0), .val (.int o1), .val (.int o2), .val (.int rc), .unset, .unset, .unset, .unset, .unset, .unset] [(.int p4)])) rfl (hb hby at_32) _ ?_
      show Steps p.tables e below (s₁.setTop (mkF m 34 #[.val (.int p0), .val (.int p1), .val (.int p2), .val (.int p3), .val (.int p4), .val (.int p5), .val (.int o0), .val (.int o1), .val (.int o2), .val (.int rc), .unset, .unset, .unset, .unset, .unset, .unset] [(.int (2147483647 : Int32)), (.int p4)])) _
      refine XS.iand X0.here hx rfl (hb hby at_34) rfl ?_
      show Steps p.tables e below (s₁.setTop (mkF m 35 #[.val (.int p0), .val (.int p1), .val (.int p2), .val (.int p3), .val (.int p4), .val (.int p5), .val (.int o0), .val (.int o1), .val (.int o2), .val (.int rc), .unset, .unset, .unset, .unset, .unset, .unset] [(.int (p4 &&& (2147483647 : Int32)))])) _
      refine XS.istore X0.here hx rfl (hb hby at_35) rfl (l' := #[.val (.int p0), .val (.int p1), .val (.int p2), .val (.int p3), .val (.int p4), .val (.int p5), .val (.int o0), .val (.int o1), .val (.int o2), .val (.int rc), .val (.int (p4 &&& (2147483647 : Int32))), .unset, .unset, .unset, .unset, .unset]) rfl ?_
      exact kk)
  obtain ⟨ps, hv_ps⟩ : ∃ z : Int32, z = (p4 &&& (2147483647 : Int32)) := ⟨_, rfl⟩
  have pre120 : ∀ t, Steps p.tables e below (s₁.setTop (mkF m 37 #[.val (.int p0), .val (.int p1), .val (.int p2), .val (.int p3), .val (.int p4), .val (.int p5), .val (.int o0), .val (.int o1), .val (.int o2), .val (.int rc), .val (.int ps), .unset, .unset, .unset, .unset, .unset] [])) t → Steps p.tables e below (s₁.setTop (entryFrame m #[(.int p0), (.int p1), (.int p2), (.int p3), (.int p4), (.int p5)] maxLocals)) t := by subst hv_ps; exact pre119
  obtain ⟨_, _, ⟨T121, L121, k121, n121⟩, -, X121, ⟨Lc121, hQ121, l121, y121, z121⟩, st121⟩ := Jvm.LawKit.callS X0 hx (y := (⟨"java/lang/Math", "max", "(II)I"⟩ : MethodName)) hown (mvT hZ (hw _ (List.mem_of_getElem? (i := 3) rfl))) (mvT hZ (hw _ (List.mem_of_getElem? (i := 4) rfl))) (mvT hZ (hw _ (List.mem_of_getElem? (i := 5) rfl))) (mvT hZ (hw _ (List.mem_of_getElem? (i := 6) rfl))) (by decide) (backOf (W := 0) (rmMax l Z a0 hw [] ps (p5 &&& (2147483647 : Int32)) h0 n0 Z0) hZ (hw _ (List.mem_of_getElem? (i := 6) rfl)) (hw _ (List.mem_of_getElem? (i := 5) rfl)) (by decide) (by decide)) (g := (mkF m 44 #[.val (.int p0), .val (.int p1), .val (.int p2), .val (.int p3), .val (.int p4), .val (.int p5), .val (.int o0), .val (.int o1), .val (.int o2), .val (.int rc), .val (.int ps), .unset, .unset, .unset, .unset, .unset] [(.int (p5 &&& (2147483647 : Int32))), (.int ps)])) rfl (by rw [hml]; rfl) (argsL := [(.int ps), (.int (p5 &&& (2147483647 : Int32)))]) (rest := []) (lenOf pd_1 rfl) rfl (by show 2 * 0 + _ ≤ _; exact Nat.le_of_eq rfl) (hb hby at_44) (fun _ _ => ⟨rfl, e0, (by decide : 0 + 0 ≤ _), (by decide : 0 + 0 ≤ _)⟩)
  dsimp only [Pt.U, Pt.locs, Pt.cells, Pt.slots] at X121 l121 y121 z121 st121 hQ121
  subst l121 y121 z121
  obtain ⟨rfl, N121q, e121⟩ := hQ121
  have N121 := Fr.app N0 N121q
  have pre122 : ∀ t, Steps p.tables e below (T121.setTop (mkF m 49 #[.val (.int p0), .val (.int p1), .val (.int p2), .val (.int p3), .val (.int p4), .val (.int p5), .val (.int o0), .val (.int o1), .val (.int o2), .val (.int rc), .val (.int ps), .val (.int (own_max ps (p5 &&& (2147483647 : Int32)))), .unset, .unset, .unset, .unset] [])) t → Steps p.tables e below (s₁.setTop (entryFrame m #[(.int p0), (.int p1), (.int p2), (.int p3), (.int p4), (.int p5)] maxLocals)) t := fun t kk => pre120 t (by
      show Steps p.tables e below (s₁.setTop (mkF m 37 #[.val (.int p0), .val (.int p1), .val (.int p2), .val (.int p3), .val (.int p4), .val (.int p5), .val (.int o0), .val (.int o1), .val (.int o2), .val (.int rc), .val (.int ps), .unset, .unset, .unset, .unset, .unset] [])) _
      refine XS.iload X0.here hx rfl (hb hby at_37) rfl ?_
      show Steps p.tables e below (s₁.setTop (mkF m 39 #[.val (.int p0), .val (.int p1), .val (.int p2), .val (.int p3), .val (.int p4), .val (.int p5), .val (.int o0), .val (.int o1), .val (.int o2), .val (.int rc), .val (.int ps), .unset, .unset, .unset, .unset, .unset] [(.int ps)])) _
      refine XS.iload X0.here hx rfl (hb hby at_39) rfl ?_
      show Steps p.tables e below (s₁.setTop (mkF m 41 #[.val (.int p0), .val (.int p1), .val (.int p2), .val (.int p3), .val (.int p4), .val (.int p5), .val (.int o0), .val (.int o1), .val (.int o2), .val (.int rc), .val (.int ps), .unset, .unset, .unset, .unset, .unset] [(.int p5), (.int ps)])) _
      refine X0.ldcInt hx hown (mvT hZ (hw _ (List.mem_of_getElem? (i := 2) rfl))) (g := (mkF m 41 #[.val (.int p0), .val (.int p1), .val (.int p2), .val (.int p3), .val (.int p4), .val (.int p5), .val (.int o0), .val (.int o1), .val (.int o2), .val (.int rc), .val (.int ps), .unset, .unset, .unset, .unset, .unset] [(.int p5), (.int ps)])) rfl (hb hby at_41) _ ?_
      show Steps p.tables e below (s₁.setTop (mkF m 43 #[.val (.int p0), .val (.int p1), .val (.int p2), .val (.int p3), .val (.int p4), .val (.int p5), .val (.int o0), .val (.int o1), .val (.int o2), .val (.int rc), .val (.int ps), .unset, .unset, .unset, .unset, .unset] [(.int (2147483647 : Int32)), (.int p5), (.int ps)])) _
      refine XS.iand X0.here hx rfl (hb hby at_43) rfl ?_
      show Steps p.tables e below (s₁.setTop (mkF m 44 #[.val (.int p0), .val (.int p1), .val (.int p2), .val (.int p3), .val (.int p4), .val (.int p5), .val (.int o0), .val (.int o1), .val (.int o2), .val (.int rc), .val (.int ps), .unset, .unset, .unset, .unset, .unset] [(.int (p5 &&& (2147483647 : Int32))), (.int ps)])) _
      refine st121 _ ?_
      show Steps p.tables e below (T121.setTop (mkF m 47 #[.val (.int p0), .val (.int p1), .val (.int p2), .val (.int p3), .val (.int p4), .val (.int p5), .val (.int o0), .val (.int o1), .val (.int o2), .val (.int rc), .val (.int ps), .unset, .unset, .unset, .unset, .unset] [(.int (own_max ps (p5 &&& (2147483647 : Int32))))])) _
      refine XS.istore X121.here hx rfl (hb hby at_47) rfl (l' := #[.val (.int p0), .val (.int p1), .val (.int p2), .val (.int p3), .val (.int p4), .val (.int p5), .val (.int o0), .val (.int o1), .val (.int o2), .val (.int rc), .val (.int ps), .val (.int (own_max ps (p5 &&& (2147483647 : Int32)))), .unset, .unset, .unset, .unset]) rfl ?_
      exact kk)
  obtain ⟨pt, hv_pt⟩ : ∃ z : Int32, z = (own_max ps (p5 &&& (2147483647 : Int32))) := ⟨_, rfl⟩
  have pre123 : ∀ t, Steps p.tables e below (T121.setTop (mkF m 49 #[.val (.int p0), .val (.int p1), .val (.int p2), .val (.int p3), .val (.int p4), .val (.int p5), .val (.int o0), .val (.int o1), .val (.int o2), .val (.int rc), .val (.int ps), .val (.int pt), .unset, .unset, .unset, .unset] [])) t → Steps p.tables e below (s₁.setTop (entryFrame m #[(.int p0), (.int p1), (.int p2), (.int p3), (.int p4), (.int p5)] maxLocals)) t := by subst hv_pt; exact pre122
  obtain ⟨T124, h124, k124, X124, e124, E124, A124, st124⟩ := newP X121 hx hZ (hw _ (List.mem_of_getElem? (i := 7) rfl)) e121 (g := (mkF m 50 #[.val (.int p0), .val (.int p1), .val (.int p2), .val (.int p3), .val (.int p4), .val (.int p5), .val (.int o0), .val (.int o1), .val (.int o2), .val (.int rc), .val (.int ps), .val (.int pt), .unset, .unset, .unset, .unset] [(.int (3 : Int32))])) rfl (hb hby at_50) rfl (by decide) (cap := 3) (by decide) (by decide) (by decide) (by decide)
  obtain ⟨b124, gq124⟩ : ∃ z, z = h0.size := ⟨_, rfl⟩
  rw [← gq124] at A124 st124
  have g_b124 : n0 ≤ b124 := Nat.le_trans Z0 (Nat.le_of_eq gq124.symm)
  have sz_b124 : h0.size ≤ b124 := Nat.le_trans (Nat.le_refl _) (Nat.le_of_eq gq124.symm)
  have K125 : Keep h0 h124 [] := (Keep.refl h0 _).ext E124
  have Av124 : Arv Z h124 b124 k124 .int (3 : Int32) ([(.int (0 : Int32)), (.int (0 : Int32)), (.int (0 : Int32))]) (.int (0 : Int32)) := (Arv.new A124 (by decide)).pad (pad_rep [] (.int (0 : Int32)) 3)
  obtain ⟨cl126, Ar126, q126, Sz126, Nn126, H126, G126⟩ := id Av124
  have hin126 : ¬ ((0 : Int32) < 0 ∨ cl126.slots.size ≤ ((0 : Int32)).toNatClampNeg) := (inb_of Sz126 ⟨by decide, by decide⟩)
  obtain ⟨T127, h127, X127, e127, W127, st127⟩ := stI X124 hx hZ e124 Ar126 (j := (0 : Int32)) hin126 (g := (mkF m 56 #[.val (.int p0), .val (.int p1), .val (.int p2), .val (.int p3), .val (.int p4), .val (.int p5), .val (.int o0), .val (.int o1), .val (.int o2), .val (.int rc), .val (.int ps), .val (.int pt), .unset, .unset, .unset, .unset] [(.int o0), (.int (0 : Int32)), (.ref b124), (.ref b124)])) rfl rfl (hb hby at_56)
  have K128 : Keep h0 h127 [] := K125.wr W127 (Or.inr sz_b124)
  have N129 := Fr.snoc X127 N121 g_b124
  have Av127 : Arv Z h127 b124 k124 .int (3 : Int32) ([(.int o0), (.int (0 : Int32)), (.int (0 : Int32))]) (.int (0 : Int32)) := Arv.set Ar126 q126 Sz126 Nn126 H126 G126 rfl W127 0 rfl (Nat.le_of_ble_eq_true rfl)
  obtain ⟨cl130, Ar130, q130, Sz130, Nn130, H130, G130⟩ := id Av127
  have hin130 : ¬ ((1 : Int32) < 0 ∨ cl130.slots.size ≤ ((1 : Int32)).toNatClampNeg) := (inb_of Sz130 ⟨by decide, by decide⟩)
  obtain ⟨T131, h131, X131, e131, W131, st131⟩ := stI X127 hx hZ e127 Ar130 (j := (1 : Int32)) hin130 (g := (mkF m 61 #[.val (.int p0), .val (.int p1), .val (.int p2), .val (.int p3), .val (.int p4), .val (.int p5), .val (.int o0), .val (.int o1), .val (.int o2), .val (.int rc), .val (.int ps), .val (.int pt), .unset, .unset, .unset, .unset] [(.int o1), (.int (1 : Int32)), (.ref b124), (.ref b124)])) rfl rfl (hb hby at_61)
  have K132 : Keep h0 h131 [] := K128.wr W131 (Or.inr sz_b124)
  have N133 := Fr.snoc X131 N129 g_b124
  have Av131 : Arv Z h131 b124 k124 .int (3 : Int32) ([(.int o0), (.int o1), (.int (0 : Int32))]) (.int (0 : Int32)) := Arv.set Ar130 q130 Sz130 Nn130 H130 G130 rfl W131 1 rfl (Nat.le_of_ble_eq_true rfl)
  obtain ⟨cl134, Ar134, q134, Sz134, Nn134, H134, G134⟩ := id Av131
  have hin134 : ¬ ((2 : Int32) < 0 ∨ cl134.slots.size ≤ ((2 : Int32)).toNatClampNeg) := (inb_of Sz134 ⟨by decide, by decide⟩)
  obtain ⟨T135, h135, X135, e135, W135, st135⟩ := stI X131 hx hZ e131 Ar134 (j := (2 : Int32)) hin134 (g := (mkF m 66 #[.val (.int p0), .val (.int p1), .val (.int p2), .val (.int p3), .val (.int p4), .val (.int p5), .val (.int o0), .val (.int o1), .val (.int o2), .val (.int rc), .val (.int ps), .val (.int pt), .unset, .unset, .unset, .unset] [(.int o2), (.int (2 : Int32)), (.ref b124), (.ref b124)])) rfl rfl (hb hby at_66)
  have K136 : Keep h0 h135 [] := K132.wr W135 (Or.inr sz_b124)
  have N137 := Fr.snoc X135 N133 g_b124
  have Av135 : Arv Z h135 b124 k124 .int (3 : Int32) ([(.int o0), (.int o1), (.int o2)]) (.int (0 : Int32)) := Arv.set Ar134 q134 Sz134 Nn134 H134 G134 rfl W135 2 rfl (Nat.le_of_ble_eq_true rfl)
  obtain ⟨T138, h138, X138, e138, E138, A138, D138, -, st138⟩ := newO X135 hx hZ hown (hw _ (List.mem_of_getElem? (i := 8) rfl)) (hw _ (List.mem_of_getElem? (i := 9) rfl)) (hw _ (List.mem_of_getElem? (i := 10) rfl)) e135 (g := (mkF m 69 #[.val (.int p0), .val (.int p1), .val (.int p2), .val (.int p3), .val (.int p4), .val (.int p5), .val (.int o0), .val (.int o1), .val (.int o2), .val (.int rc), .val (.int ps), .val (.int pt), .val (.ref b124), .unset, .unset, .unset] [])) rfl (hb hby at_69) (by decide) (by decide)
  obtain ⟨b138, gq138⟩ : ∃ z, z = h135.size := ⟨_, rfl⟩
  rw [← gq138] at A138 D138 st138
  have ne139 : b124 ≠ b138 := Nat.ne_of_lt (Nat.lt_of_lt_of_le Av135.lt (Nat.le_of_eq gq138.symm))
  have g_b138 : n0 ≤ b138 := Nat.le_trans (Nat.le_trans Z0 K136.1) (Nat.le_of_eq gq138.symm)
  have sz_b138 : h0.size ≤ b138 := Nat.le_trans K136.1 (Nat.le_of_eq gq138.symm)
  have Av140 : Arv Z h138 b124 k124 .int (3 : Int32) ([(.int o0), (.int o1), (.int o2)]) (.int (0 : Int32)) := (Av135.ext E138)
  have K141 : Keep h0 h138 [] := K136.ext E138
  have F142 : Fld Z h138 b138 "com/example/iken/iken/rank/Window" "opinions" "[I" .null := D138 (Or.inr (hw _ (List.mem_of_getElem? (i := 18) rfl))) (ty := (.array .int)) (by decide)
  have F143 : Fld Z h138 b138 "com/example/iken/iken/rank/Window" "reach" "I" (.int (0 : Int32)) := D138 (Or.inr (hw _ (List.mem_of_getElem? (i := 20) rfl))) (ty := .int) (by decide)
  have F144 : Fld Z h138 b138 "com/example/iken/iken/rank/Window" "first" "I" (.int (0 : Int32)) := D138 (Or.inl (hw _ (List.mem_of_getElem? (i := 27) rfl))) (ty := .int) (by decide)
  have F145 : Fld Z h138 b138 "com/example/iken/iken/rank/Window" "end" "I" (.int (0 : Int32)) := D138 (Or.inl (hw _ (List.mem_of_getElem? (i := 29) rfl))) (ty := .int) (by decide)
  obtain ⟨_, _, ⟨T146, L146, k146, n146⟩, -, X146, ⟨Lc146, hQ146, l146, y146, z146⟩, st146⟩ := X138.specialBack hx (y := (⟨"com/example/iken/iken/rank/Window", "<init>", "([II)V"⟩ : MethodName)) rfl hown (mvT hZ (hw _ (List.mem_of_getElem? (i := 11) rfl))) (mvT hZ (hw _ (List.mem_of_getElem? (i := 12) rfl))) (mvT hZ (hw _ (List.mem_of_getElem? (i := 13) rfl))) (by decide) (backOf (W := 1) (rmInit l Z a0 hw [] b138 b124 rc h138 n0 (Nat.le_trans Z0 K141.1) A138 F142 F143 F144 F145 g_b138) hZ (hw _ (List.mem_of_getElem? (i := 13) rfl)) (hw _ (List.mem_of_getElem? (i := 10) rfl)) (by decide) (by decide)) (g := (mkF m 77 #[.val (.int p0), .val (.int p1), .val (.int p2), .val (.int p3), .val (.int p4), .val (.int p5), .val (.int o0), .val (.int o1), .val (.int o2), .val (.int rc), .val (.int ps), .val (.int pt), .val (.ref b124), .unset, .unset, .unset] [(.int rc), (.ref b124), (.ref b138), (.ref b138)])) rfl (by rw [hml]; rfl) (Steps.refl _) (a := b138) (argsL := [(.ref b124), (.int rc)]) (rest := [(.ref b138)]) (lenOf pd_2 rfl) rfl (by show 2 * 0 + _ ≤ _; exact Nat.le_of_eq rfl) (hb hby at_77) (fun _ _ => ⟨rfl, e138, (by decide : 2 + 0 ≤ _), (by decide : 7 + 0 ≤ _)⟩)
  dsimp only [Pt.U, Pt.locs, Pt.cells, Pt.slots] at X146 l146 y146 z146 st146 hQ146
  subst l146 y146 z146
  obtain ⟨rfl, N146q, K146q, P146_0, P146_1, P146_2, P146_3, P146_4⟩ := hQ146
  have N146 := Fr.app N137 N146q
  have Av147 : Arv Z T146.heap b124 k124 .int (3 : Int32) ([(.int o0), (.int o1), (.int o2)]) (.int (0 : Int32)) := (Av140.keep K146q (ninS ne139 nin0))
  have Ex148 : Exa Z T146.heap b138 "com/example/iken/iken/rank/Window" := (A138.keep K146q)
  have K149 : Keep h0 T146.heap [] := K141.trans K146q (allS (Or.inr sz_b138) all0)
  have eq151 : (0 : Int32) = (Int32.ofNat 0) := rfl
  have F150 : Fld Z T146.heap b138 "com/example/iken/iken/rank/Window" "first" "I" (.int (Int32.ofNat 0)) := by rw [← eq151]; exact P146_3
  have eq153 : (0 : Int32) = (Int32.ofNat 0) := rfl
  have F152 : Fld Z T146.heap b138 "com/example/iken/iken/rank/Window" "end" "I" (.int (Int32.ofNat 0)) := by rw [← eq153]; exact P146_4
  have hp155 : 0 ≤ 3 := Nat.zero_le _
  have hp156 : 0 ≤ 3 := Nat.zero_le _
  have hp157 : b124 ≠ b138 := ne139
  obtain ⟨cq154, kq154, q154a, q154b, q154c⟩ := isOf hZ rfl P146_0
  obtain ⟨_, _, ⟨T154, L154, k154, n154⟩, -, X154, ⟨Lc154, hQ154, l154, y154, z154⟩, st154⟩ := X146.virtualBack hx (y := (⟨"com/example/iken/iken/rank/Window", "moveTo", "(I)V"⟩ : MethodName)) (z := (⟨"com/example/iken/iken/rank/Window", "moveTo", "(I)V"⟩ : MethodName)) hown (mvT hZ (hw _ (List.mem_of_getElem? (i := 21) rfl))) (mvT hZ (hw _ (List.mem_of_getElem? (i := 22) rfl))) (notFace_of_selects (args := #[]) (mvT hZ (hw _ (List.mem_of_getElem? (i := 24) rfl)))) (mvT hZ (hw _ (List.mem_of_getElem? (i := 24) rfl))) (mvT hZ (hw _ (List.mem_of_getElem? (i := 23) rfl))) (by decide) (backOf (W := 0) (rmMove l Z a0 hw [] b138 ps 0 0 b124 k124 o0 o1 o2 rc T146.heap n0 (Nat.le_trans Z0 K149.1) P146_0 F150 F152 P146_1 P146_2 Av147 hp155 hp156 hp157 g_b138) hZ (hw _ (List.mem_of_getElem? (i := 25) rfl)) (hw _ (List.mem_of_getElem? (i := 10) rfl)) (by decide) (by decide)) q154a q154c (g := (mkF m 86 #[.val (.int p0), .val (.int p1), .val (.int p2), .val (.int p3), .val (.int p4), .val (.int p5), .val (.int o0), .val (.int o1), .val (.int o2), .val (.int rc), .val (.int ps), .val (.int pt), .val (.ref b124), .val (.ref b138), .unset, .unset] [(.int ps), (.ref b138)])) rfl (by rw [hml]; rfl) (Steps.refl _) (argsL := [(.int ps)]) (rest := []) (lenOf pd_3 rfl) rfl (by show 2 * 0 + _ ≤ _; exact Nat.le_of_eq rfl) (hb hby at_86) (fun _ _ => ⟨rfl, rfl, (by decide : 2 + 0 ≤ _), (by decide : 7 + 0 ≤ _)⟩)
  dsimp only [Pt.U, Pt.locs, Pt.cells, Pt.slots] at X154 l154 y154 z154 st154 hQ154
  subst l154 y154 z154
  obtain ⟨rfl, N154q, K154q, P154_0, P154_1, P154_2, P154_3, P154_4⟩ := hQ154
  have N154 := Fr.app N146 N154q
  have Av158 : Arv Z T154.heap b124 k124 .int (3 : Int32) ([(.int o0), (.int o1), (.int o2)]) (.int (0 : Int32)) := (Av147.keep K154q (ninS ne139 nin0))
  have Ex159 : Exa Z T154.heap b138 "com/example/iken/iken/rank/Window" := (P146_0.keep K154q)
  have K160 : Keep h0 T154.heap [] := K149.trans K154q (allS (Or.inr sz_b138) all0)
  obtain ⟨f1, hf1⟩ : ∃ z, z = own_go (own_q1 ps rc o0 o1 o2) (3 - 0) 0 := ⟨_, rfl⟩
  obtain ⟨g1, hg1⟩ : ∃ z, z = own_go (own_q2 ps rc o0 o1 o2) (3 - 0) 0 := ⟨_, rfl⟩
  have eq162 : (Int32.ofNat (own_go (own_q1 ps rc o0 o1 o2) (3 - 0) 0)) = (Int32.ofNat f1) := by rw [hf1]
  have F161 : Fld Z T154.heap b138 "com/example/iken/iken/rank/Window" "first" "I" (.int (Int32.ofNat f1)) := by rw [← eq162]; exact P154_1
  have eq164 : (Int32.ofNat (own_go (own_q2 ps rc o0 o1 o2) (3 - 0) 0)) = (Int32.ofNat g1) := by rw [hg1]
  have F163 : Fld Z T154.heap b138 "com/example/iken/iken/rank/Window" "end" "I" (.int (Int32.ofNat g1)) := by rw [← eq164]; exact P154_2
  obtain ⟨hA, hB, hC, hD⟩ := own_plain p0 p1 p2 p3 p4 p5 o0 o1 o2 rc ps pt f1 g1 hv_o0 hv_o1 hv_o2 hv_rc hv_ps hv_pt hf1 hg1
  obtain ⟨cq165, kq165, q165a, q165b, q165c⟩ := isOf hZ rfl P154_0
  obtain ⟨_, _, ⟨T165, L165, k165, n165⟩, -, X165, ⟨Lc165, hQ165, l165, y165, z165⟩, st165⟩ := X154.virtualBack hx (y := (⟨"com/example/iken/iken/rank/Window", "first", "()I"⟩ : MethodName)) (z := (⟨"com/example/iken/iken/rank/Window", "first", "()I"⟩ : MethodName)) hown (mvT hZ (hw _ (List.mem_of_getElem? (i := 30) rfl))) (mvT hZ (hw _ (List.mem_of_getElem? (i := 31) rfl))) (notFace_of_selects (args := #[]) (mvT hZ (hw _ (List.mem_of_getElem? (i := 33) rfl)))) (mvT hZ (hw _ (List.mem_of_getElem? (i := 33) rfl))) (mvT hZ (hw _ (List.mem_of_getElem? (i := 32) rfl))) (by decide) (backOf (W := 0) (rm_first l Z a0 hw [] b138 (Int32.ofNat f1) T154.heap n0 (Nat.le_trans Z0 K160.1) F161) hZ (hw _ (List.mem_of_getElem? (i := 34) rfl)) (hw _ (List.mem_of_getElem? (i := 10) rfl)) (by decide) (by decide)) q165a q165c (g := (mkF m 91 #[.val (.int p0), .val (.int p1), .val (.int p2), .val (.int p3), .val (.int p4), .val (.int p5), .val (.int o0), .val (.int o1), .val (.int o2), .val (.int rc), .val (.int ps), .val (.int pt), .val (.ref b124), .val (.ref b138), .unset, .unset] [(.ref b138)])) rfl (by rw [hml]; rfl) (Steps.refl _) (argsL := []) (rest := []) (lenOf pd_4 rfl) rfl (by show 2 * 0 + _ ≤ _; exact Nat.le_of_eq rfl) (hb hby at_91) (fun _ _ => ⟨rfl, rfl, (by decide : 2 + 0 ≤ _), (by decide : 7 + 0 ≤ _)⟩)
  dsimp only [Pt.U, Pt.locs, Pt.cells, Pt.slots] at X165 l165 y165 z165 st165 hQ165
  subst l165 y165 z165
  obtain ⟨rfl, N165q, e165⟩ := hQ165
  have N165 := Fr.app N154 N165q
  obtain ⟨_, _, ⟨T166, L166, k166, n166⟩, -, X166, ⟨Lc166, hQ166, l166, y166, z166⟩, st166⟩ := Jvm.LawKit.callS X165 hx (y := (⟨"com/example/iken/iken/rank/WindowMoveToPinLaw", "before", "(IIIII)I"⟩ : MethodName)) hown (mvT hZ (hw _ (List.mem_of_getElem? (i := 35) rfl))) (mvT hZ (hw _ (List.mem_of_getElem? (i := 36) rfl))) (mvT hZ (hw _ (List.mem_of_getElem? (i := 37) rfl))) (mvT hZ (hw _ (List.mem_of_getElem? (i := 38) rfl))) (by decide) (backOf (W := 1) (rmbefore l Z a0 hw [] o0 o1 o2 ps rc T154.heap n0 (Nat.le_trans Z0 K160.1)) hZ (hw _ (List.mem_of_getElem? (i := 38) rfl)) (hw _ (List.mem_of_getElem? (i := 37) rfl)) (by decide) (by decide)) (g := (mkF m 104 #[.val (.int p0), .val (.int p1), .val (.int p2), .val (.int p3), .val (.int p4), .val (.int p5), .val (.int o0), .val (.int o1), .val (.int o2), .val (.int rc), .val (.int ps), .val (.int pt), .val (.ref b124), .val (.ref b138), .unset, .unset] [(.int rc), (.int ps), (.int o2), (.int o1), (.int o0), (.int (Int32.ofNat f1))])) rfl (by rw [hml]; rfl) (argsL := [(.int o0), (.int o1), (.int o2), (.int ps), (.int rc)]) (rest := [(.int (Int32.ofNat f1))]) (lenOf pd_5 rfl) rfl (by show 2 * 0 + _ ≤ _; exact Nat.le_of_eq rfl) (hb hby at_104) (fun _ _ => ⟨rfl, e165, (by decide : 2 + 0 ≤ _), (by decide : 7 + 0 ≤ _)⟩)
  dsimp only [Pt.U, Pt.locs, Pt.cells, Pt.slots] at X166 l166 y166 z166 st166 hQ166
  subst l166 y166 z166
  obtain ⟨rfl, N166q, e166⟩ := hQ166
  have N166 := Fr.app N165 N166q
  have hb167 : (Int32.ofNat f1) = (own_before o0 o1 o2 ps rc) := hA
  obtain ⟨cq168, kq168, q168a, q168b, q168c⟩ := isOf hZ e166 P154_0
  obtain ⟨_, _, ⟨T168, L168, k168, n168⟩, -, X168, ⟨Lc168, hQ168, l168, y168, z168⟩, st168⟩ := X166.virtualBack hx (y := (⟨"com/example/iken/iken/rank/Window", "end", "()I"⟩ : MethodName)) (z := (⟨"com/example/iken/iken/rank/Window", "end", "()I"⟩ : MethodName)) hown (mvT hZ (hw _ (List.mem_of_getElem? (i := 42) rfl))) (mvT hZ (hw _ (List.mem_of_getElem? (i := 43) rfl))) (notFace_of_selects (args := #[]) (mvT hZ (hw _ (List.mem_of_getElem? (i := 45) rfl)))) (mvT hZ (hw _ (List.mem_of_getElem? (i := 45) rfl))) (mvT hZ (hw _ (List.mem_of_getElem? (i := 44) rfl))) (by decide) (backOf (W := 0) (rm_end l Z a0 hw [] b138 (Int32.ofNat g1) T154.heap n0 (Nat.le_trans Z0 K160.1) F163) hZ (hw _ (List.mem_of_getElem? (i := 46) rfl)) (hw _ (List.mem_of_getElem? (i := 10) rfl)) (by decide) (by decide)) q168a q168c (g := (mkF m 112 #[.val (.int p0), .val (.int p1), .val (.int p2), .val (.int p3), .val (.int p4), .val (.int p5), .val (.int o0), .val (.int o1), .val (.int o2), .val (.int rc), .val (.int ps), .val (.int pt), .val (.ref b124), .val (.ref b138), .unset, .unset] [(.ref b138)])) rfl (by rw [hml]; rfl) (Steps.refl _) (argsL := []) (rest := []) (lenOf pd_4 rfl) rfl (by show 2 * 0 + _ ≤ _; exact Nat.le_of_eq rfl) (hb hby at_112) (fun _ _ => ⟨rfl, e166, (by decide : 2 + 0 ≤ _), (by decide : 7 + 0 ≤ _)⟩)
  dsimp only [Pt.U, Pt.locs, Pt.cells, Pt.slots] at X168 l168 y168 z168 st168 hQ168
  subst l168 y168 z168
  obtain ⟨rfl, N168q, e168⟩ := hQ168
  have N168 := Fr.app N166 N168q
  obtain ⟨_, _, ⟨T169, L169, k169, n169⟩, -, X169, ⟨Lc169, hQ169, l169, y169, z169⟩, st169⟩ := Jvm.LawKit.callS X168 hx (y := (⟨"com/example/iken/iken/rank/WindowMoveToPinLaw", "within", "(IIIII)I"⟩ : MethodName)) hown (mvT hZ (hw _ (List.mem_of_getElem? (i := 47) rfl))) (mvT hZ (hw _ (List.mem_of_getElem? (i := 48) rfl))) (mvT hZ (hw _ (List.mem_of_getElem? (i := 37) rfl))) (mvT hZ (hw _ (List.mem_of_getElem? (i := 49) rfl))) (by decide) (backOf (W := 1) (rmwithin l Z a0 hw [] o0 o1 o2 ps rc T154.heap n0 (Nat.le_trans Z0 K160.1)) hZ (hw _ (List.mem_of_getElem? (i := 49) rfl)) (hw _ (List.mem_of_getElem? (i := 37) rfl)) (by decide) (by decide)) (g := (mkF m 125 #[.val (.int p0), .val (.int p1), .val (.int p2), .val (.int p3), .val (.int p4), .val (.int p5), .val (.int o0), .val (.int o1), .val (.int o2), .val (.int rc), .val (.int ps), .val (.int pt), .val (.ref b124), .val (.ref b138), .unset, .unset] [(.int rc), (.int ps), (.int o2), (.int o1), (.int o0), (.int (Int32.ofNat g1))])) rfl (by rw [hml]; rfl) (argsL := [(.int o0), (.int o1), (.int o2), (.int ps), (.int rc)]) (rest := [(.int (Int32.ofNat g1))]) (lenOf pd_5 rfl) rfl (by show 2 * 0 + _ ≤ _; exact Nat.le_of_eq rfl) (hb hby at_125) (fun _ _ => ⟨rfl, e168, (by decide : 2 + 0 ≤ _), (by decide : 7 + 0 ≤ _)⟩)
  dsimp only [Pt.U, Pt.locs, Pt.cells, Pt.slots] at X169 l169 y169 z169 st169 hQ169
  subst l169 y169 z169
  obtain ⟨rfl, N169q, e169⟩ := hQ169
  have N169 := Fr.app N168 N169q
  have hb170 : (Int32.ofNat g1) = (own_within o0 o1 o2 ps rc) := hB
  have hp172 : f1 ≤ 3 := by rw [hf1]; exact own_le _ 3 0
  have hp173 : g1 ≤ 3 := by rw [hg1]; exact own_le _ 3 0
  have hp174 : b124 ≠ b138 := ne139
  obtain ⟨cq171, kq171, q171a, q171b, q171c⟩ := isOf hZ e169 P154_0
  obtain ⟨_, _, ⟨T171, L171, k171, n171⟩, -, X171, ⟨Lc171, hQ171, l171, y171, z171⟩, st171⟩ := X169.virtualBack hx (y := (⟨"com/example/iken/iken/rank/Window", "moveTo", "(I)V"⟩ : MethodName)) (z := (⟨"com/example/iken/iken/rank/Window", "moveTo", "(I)V"⟩ : MethodName)) hown (mvT hZ (hw _ (List.mem_of_getElem? (i := 21) rfl))) (mvT hZ (hw _ (List.mem_of_getElem? (i := 22) rfl))) (notFace_of_selects (args := #[]) (mvT hZ (hw _ (List.mem_of_getElem? (i := 24) rfl)))) (mvT hZ (hw _ (List.mem_of_getElem? (i := 24) rfl))) (mvT hZ (hw _ (List.mem_of_getElem? (i := 23) rfl))) (by decide) (backOf (W := 0) (rmMove l Z a0 hw [] b138 pt f1 g1 b124 k124 o0 o1 o2 rc T154.heap n0 (Nat.le_trans Z0 K160.1) P154_0 F161 F163 P154_3 P154_4 Av158 hp172 hp173 hp174 g_b138) hZ (hw _ (List.mem_of_getElem? (i := 25) rfl)) (hw _ (List.mem_of_getElem? (i := 10) rfl)) (by decide) (by decide)) q171a q171c (g := (mkF m 142 #[.val (.int p0), .val (.int p1), .val (.int p2), .val (.int p3), .val (.int p4), .val (.int p5), .val (.int o0), .val (.int o1), .val (.int o2), .val (.int rc), .val (.int ps), .val (.int pt), .val (.ref b124), .val (.ref b138), .val (.int (1 : Int32)), .unset] [(.int pt), (.ref b138)])) rfl (by rw [hml]; rfl) (Steps.refl _) (argsL := [(.int pt)]) (rest := []) (lenOf pd_3 rfl) rfl (by show 2 * 0 + _ ≤ _; exact Nat.le_of_eq rfl) (hb hby at_142) (fun _ _ => ⟨rfl, e169, (by decide : 2 + 0 ≤ _), (by decide : 7 + 0 ≤ _)⟩)
  dsimp only [Pt.U, Pt.locs, Pt.cells, Pt.slots] at X171 l171 y171 z171 st171 hQ171
  subst l171 y171 z171
  obtain ⟨rfl, N171q, K171q, P171_0, P171_1, P171_2, P171_3, P171_4⟩ := hQ171
  have N171 := Fr.app N169 N171q
  have Av175 : Arv Z T171.heap b124 k124 .int (3 : Int32) ([(.int o0), (.int o1), (.int o2)]) (.int (0 : Int32)) := (Av158.keep K171q (ninS ne139 nin0))
  have Ex176 : Exa Z T171.heap b138 "com/example/iken/iken/rank/Window" := (P154_0.keep K171q)
  have K177 : Keep h0 T171.heap [] := K160.trans K171q (allS (Or.inr sz_b138) all0)
  obtain ⟨cq178, kq178, q178a, q178b, q178c⟩ := isOf hZ rfl P171_0
  obtain ⟨_, _, ⟨T178, L178, k178, n178⟩, -, X178, ⟨Lc178, hQ178, l178, y178, z178⟩, st178⟩ := X171.virtualBack hx (y := (⟨"com/example/iken/iken/rank/Window", "first", "()I"⟩ : MethodName)) (z := (⟨"com/example/iken/iken/rank/Window", "first", "()I"⟩ : MethodName)) hown (mvT hZ (hw _ (List.mem_of_getElem? (i := 30) rfl))) (mvT hZ (hw _ (List.mem_of_getElem? (i := 31) rfl))) (notFace_of_selects (args := #[]) (mvT hZ (hw _ (List.mem_of_getElem? (i := 33) rfl)))) (mvT hZ (hw _ (List.mem_of_getElem? (i := 33) rfl))) (mvT hZ (hw _ (List.mem_of_getElem? (i := 32) rfl))) (by decide) (backOf (W := 0) (rm_first l Z a0 hw [] b138 (Int32.ofNat (own_go (own_q1 pt rc o0 o1 o2) (3 - f1) f1)) T171.heap n0 (Nat.le_trans Z0 K177.1) P171_1) hZ (hw _ (List.mem_of_getElem? (i := 34) rfl)) (hw _ (List.mem_of_getElem? (i := 10) rfl)) (by decide) (by decide)) q178a q178c (g := (mkF m 147 #[.val (.int p0), .val (.int p1), .val (.int p2), .val (.int p3), .val (.int p4), .val (.int p5), .val (.int o0), .val (.int o1), .val (.int o2), .val (.int rc), .val (.int ps), .val (.int pt), .val (.ref b124), .val (.ref b138), .val (.int (1 : Int32)), .unset] [(.ref b138)])) rfl (by rw [hml]; rfl) (Steps.refl _) (argsL := []) (rest := []) (lenOf pd_4 rfl) rfl (by show 2 * 0 + _ ≤ _; exact Nat.le_of_eq rfl) (hb hby at_147) (fun _ _ => ⟨rfl, rfl, (by decide : 2 + 0 ≤ _), (by decide : 7 + 0 ≤ _)⟩)
  dsimp only [Pt.U, Pt.locs, Pt.cells, Pt.slots] at X178 l178 y178 z178 st178 hQ178
  subst l178 y178 z178
  obtain ⟨rfl, N178q, e178⟩ := hQ178
  have N178 := Fr.app N171 N178q
  obtain ⟨_, _, ⟨T179, L179, k179, n179⟩, -, X179, ⟨Lc179, hQ179, l179, y179, z179⟩, st179⟩ := Jvm.LawKit.callS X178 hx (y := (⟨"com/example/iken/iken/rank/WindowMoveToPinLaw", "before", "(IIIII)I"⟩ : MethodName)) hown (mvT hZ (hw _ (List.mem_of_getElem? (i := 35) rfl))) (mvT hZ (hw _ (List.mem_of_getElem? (i := 36) rfl))) (mvT hZ (hw _ (List.mem_of_getElem? (i := 37) rfl))) (mvT hZ (hw _ (List.mem_of_getElem? (i := 38) rfl))) (by decide) (backOf (W := 1) (rmbefore l Z a0 hw [] o0 o1 o2 pt rc T171.heap n0 (Nat.le_trans Z0 K177.1)) hZ (hw _ (List.mem_of_getElem? (i := 38) rfl)) (hw _ (List.mem_of_getElem? (i := 37) rfl)) (by decide) (by decide)) (g := (mkF m 160 #[.val (.int p0), .val (.int p1), .val (.int p2), .val (.int p3), .val (.int p4), .val (.int p5), .val (.int o0), .val (.int o1), .val (.int o2), .val (.int rc), .val (.int ps), .val (.int pt), .val (.ref b124), .val (.ref b138), .val (.int (1 : Int32)), .unset] [(.int rc), (.int pt), (.int o2), (.int o1), (.int o0), (.int (Int32.ofNat (own_go (own_q1 pt rc o0 o1 o2) (3 - f1) f1)))])) rfl (by rw [hml]; rfl) (argsL := [(.int o0), (.int o1), (.int o2), (.int pt), (.int rc)]) (rest := [(.int (Int32.ofNat (own_go (own_q1 pt rc o0 o1 o2) (3 - f1) f1)))]) (lenOf pd_5 rfl) rfl (by show 2 * 0 + _ ≤ _; exact Nat.le_of_eq rfl) (hb hby at_160) (fun _ _ => ⟨rfl, e178, (by decide : 2 + 0 ≤ _), (by decide : 7 + 0 ≤ _)⟩)
  dsimp only [Pt.U, Pt.locs, Pt.cells, Pt.slots] at X179 l179 y179 z179 st179 hQ179
  subst l179 y179 z179
  obtain ⟨rfl, N179q, e179⟩ := hQ179
  have N179 := Fr.app N178 N179q
  have hb180 : (Int32.ofNat (own_go (own_q1 pt rc o0 o1 o2) (3 - f1) f1)) = (own_before o0 o1 o2 pt rc) := hC
  obtain ⟨cq181, kq181, q181a, q181b, q181c⟩ := isOf hZ e179 P171_0
  obtain ⟨_, _, ⟨T181, L181, k181, n181⟩, -, X181, ⟨Lc181, hQ181, l181, y181, z181⟩, st181⟩ := X179.virtualBack hx (y := (⟨"com/example/iken/iken/rank/Window", "end", "()I"⟩ : MethodName)) (z := (⟨"com/example/iken/iken/rank/Window", "end", "()I"⟩ : MethodName)) hown (mvT hZ (hw _ (List.mem_of_getElem? (i := 42) rfl))) (mvT hZ (hw _ (List.mem_of_getElem? (i := 43) rfl))) (notFace_of_selects (args := #[]) (mvT hZ (hw _ (List.mem_of_getElem? (i := 45) rfl)))) (mvT hZ (hw _ (List.mem_of_getElem? (i := 45) rfl))) (mvT hZ (hw _ (List.mem_of_getElem? (i := 44) rfl))) (by decide) (backOf (W := 0) (rm_end l Z a0 hw [] b138 (Int32.ofNat (own_go (own_q2 pt rc o0 o1 o2) (3 - g1) g1)) T171.heap n0 (Nat.le_trans Z0 K177.1) P171_2) hZ (hw _ (List.mem_of_getElem? (i := 46) rfl)) (hw _ (List.mem_of_getElem? (i := 10) rfl)) (by decide) (by decide)) q181a q181c (g := (mkF m 168 #[.val (.int p0), .val (.int p1), .val (.int p2), .val (.int p3), .val (.int p4), .val (.int p5), .val (.int o0), .val (.int o1), .val (.int o2), .val (.int rc), .val (.int ps), .val (.int pt), .val (.ref b124), .val (.ref b138), .val (.int (1 : Int32)), .unset] [(.ref b138)])) rfl (by rw [hml]; rfl) (Steps.refl _) (argsL := []) (rest := []) (lenOf pd_4 rfl) rfl (by show 2 * 0 + _ ≤ _; exact Nat.le_of_eq rfl) (hb hby at_168) (fun _ _ => ⟨rfl, e179, (by decide : 2 + 0 ≤ _), (by decide : 7 + 0 ≤ _)⟩)
  dsimp only [Pt.U, Pt.locs, Pt.cells, Pt.slots] at X181 l181 y181 z181 st181 hQ181
  subst l181 y181 z181
  obtain ⟨rfl, N181q, e181⟩ := hQ181
  have N181 := Fr.app N179 N181q
  obtain ⟨_, _, ⟨T182, L182, k182, n182⟩, -, X182, ⟨Lc182, hQ182, l182, y182, z182⟩, st182⟩ := Jvm.LawKit.callS X181 hx (y := (⟨"com/example/iken/iken/rank/WindowMoveToPinLaw", "within", "(IIIII)I"⟩ : MethodName)) hown (mvT hZ (hw _ (List.mem_of_getElem? (i := 47) rfl))) (mvT hZ (hw _ (List.mem_of_getElem? (i := 48) rfl))) (mvT hZ (hw _ (List.mem_of_getElem? (i := 37) rfl))) (mvT hZ (hw _ (List.mem_of_getElem? (i := 49) rfl))) (by decide) (backOf (W := 1) (rmwithin l Z a0 hw [] o0 o1 o2 pt rc T171.heap n0 (Nat.le_trans Z0 K177.1)) hZ (hw _ (List.mem_of_getElem? (i := 49) rfl)) (hw _ (List.mem_of_getElem? (i := 37) rfl)) (by decide) (by decide)) (g := (mkF m 181 #[.val (.int p0), .val (.int p1), .val (.int p2), .val (.int p3), .val (.int p4), .val (.int p5), .val (.int o0), .val (.int o1), .val (.int o2), .val (.int rc), .val (.int ps), .val (.int pt), .val (.ref b124), .val (.ref b138), .val (.int (1 : Int32)), .unset] [(.int rc), (.int pt), (.int o2), (.int o1), (.int o0), (.int (Int32.ofNat (own_go (own_q2 pt rc o0 o1 o2) (3 - g1) g1)))])) rfl (by rw [hml]; rfl) (argsL := [(.int o0), (.int o1), (.int o2), (.int pt), (.int rc)]) (rest := [(.int (Int32.ofNat (own_go (own_q2 pt rc o0 o1 o2) (3 - g1) g1)))]) (lenOf pd_5 rfl) rfl (by show 2 * 0 + _ ≤ _; exact Nat.le_of_eq rfl) (hb hby at_181) (fun _ _ => ⟨rfl, e181, (by decide : 2 + 0 ≤ _), (by decide : 7 + 0 ≤ _)⟩)
  dsimp only [Pt.U, Pt.locs, Pt.cells, Pt.slots] at X182 l182 y182 z182 st182 hQ182
  subst l182 y182 z182
  obtain ⟨rfl, N182q, e182⟩ := hQ182
  have N182 := Fr.app N181 N182q
  have hb183 : (Int32.ofNat (own_go (own_q2 pt rc o0 o1 o2) (3 - g1) g1)) = (own_within o0 o1 o2 pt rc) := hD
  have pre184 : ∀ t, Steps p.tables e below (T182.setTop (mkF m 209 #[.val (.int p0), .val (.int p1), .val (.int p2), .val (.int p3), .val (.int p4), .val (.int p5), .val (.int o0), .val (.int o1), .val (.int o2), .val (.int rc), .val (.int ps), .val (.int pt), .val (.ref b124), .val (.ref b138), .val (.int (1 : Int32)), .val (.int (1 : Int32))] [(.int (1 : Int32))])) t → Steps p.tables e below (s₁.setTop (entryFrame m #[(.int p0), (.int p1), (.int p2), (.int p3), (.int p4), (.int p5)] maxLocals)) t := fun t kk => pre123 t (by
      show Steps p.tables e below (T121.setTop (mkF m 49 #[.val (.int p0), .val (.int p1), .val (.int p2), .val (.int p3), .val (.int p4), .val (.int p5), .val (.int o0), .val (.int o1), .val (.int o2), .val (.int rc), .val (.int ps), .val (.int pt), .unset, .unset, .unset, .unset] [])) _
      refine XS.iconst X121.here hx rfl (hb hby at_49) ?_
      show Steps p.tables e below (T121.setTop (mkF m 50 #[.val (.int p0), .val (.int p1), .val (.int p2), .val (.int p3), .val (.int p4), .val (.int p5), .val (.int o0), .val (.int o1), .val (.int o2), .val (.int rc), .val (.int ps), .val (.int pt), .unset, .unset, .unset, .unset] [(.int (3 : Int32))])) _
      refine st124 _ ?_
      show Steps p.tables e below (T124.setTop (mkF m 52 #[.val (.int p0), .val (.int p1), .val (.int p2), .val (.int p3), .val (.int p4), .val (.int p5), .val (.int o0), .val (.int o1), .val (.int o2), .val (.int rc), .val (.int ps), .val (.int pt), .unset, .unset, .unset, .unset] [(.ref b124)])) _
      refine XS.dup X124.here hx rfl (hb hby at_52) rfl rfl ?_
      show Steps p.tables e below (T124.setTop (mkF m 53 #[.val (.int p0), .val (.int p1), .val (.int p2), .val (.int p3), .val (.int p4), .val (.int p5), .val (.int o0), .val (.int o1), .val (.int o2), .val (.int rc), .val (.int ps), .val (.int pt), .unset, .unset, .unset, .unset] [(.ref b124), (.ref b124)])) _
      refine XS.iconst X124.here hx rfl (hb hby at_53) ?_
      show Steps p.tables e below (T124.setTop (mkF m 54 #[.val (.int p0), .val (.int p1), .val (.int p2), .val (.int p3), .val (.int p4), .val (.int p5), .val (.int o0), .val (.int o1), .val (.int o2), .val (.int rc), .val (.int ps), .val (.int pt), .unset, .unset, .unset, .unset] [(.int (0 : Int32)), (.ref b124), (.ref b124)])) _
      refine XS.iload X124.here hx rfl (hb hby at_54) rfl ?_
      show Steps p.tables e below (T124.setTop (mkF m 56 #[.val (.int p0), .val (.int p1), .val (.int p2), .val (.int p3), .val (.int p4), .val (.int p5), .val (.int o0), .val (.int o1), .val (.int o2), .val (.int rc), .val (.int ps), .val (.int pt), .unset, .unset, .unset, .unset] [(.int o0), (.int (0 : Int32)), (.ref b124), (.ref b124)])) _
      refine st127 _ ?_
      show Steps p.tables e below (T127.setTop (mkF m 57 #[.val (.int p0), .val (.int p1), .val (.int p2), .val (.int p3), .val (.int p4), .val (.int p5), .val (.int o0), .val (.int o1), .val (.int o2), .val (.int rc), .val (.int ps), .val (.int pt), .unset, .unset, .unset, .unset] [(.ref b124)])) _
      refine XS.dup X127.here hx rfl (hb hby at_57) rfl rfl ?_
      show Steps p.tables e below (T127.setTop (mkF m 58 #[.val (.int p0), .val (.int p1), .val (.int p2), .val (.int p3), .val (.int p4), .val (.int p5), .val (.int o0), .val (.int o1), .val (.int o2), .val (.int rc), .val (.int ps), .val (.int pt), .unset, .unset, .unset, .unset] [(.ref b124), (.ref b124)])) _
      refine XS.iconst X127.here hx rfl (hb hby at_58) ?_
      show Steps p.tables e below (T127.setTop (mkF m 59 #[.val (.int p0), .val (.int p1), .val (.int p2), .val (.int p3), .val (.int p4), .val (.int p5), .val (.int o0), .val (.int o1), .val (.int o2), .val (.int rc), .val (.int ps), .val (.int pt), .unset, .unset, .unset, .unset] [(.int (1 : Int32)), (.ref b124), (.ref b124)])) _
      refine XS.iload X127.here hx rfl (hb hby at_59) rfl ?_
      show Steps p.tables e below (T127.setTop (mkF m 61 #[.val (.int p0), .val (.int p1), .val (.int p2), .val (.int p3), .val (.int p4), .val (.int p5), .val (.int o0), .val (.int o1), .val (.int o2), .val (.int rc), .val (.int ps), .val (.int pt), .unset, .unset, .unset, .unset] [(.int o1), (.int (1 : Int32)), (.ref b124), (.ref b124)])) _
      refine st131 _ ?_
      show Steps p.tables e below (T131.setTop (mkF m 62 #[.val (.int p0), .val (.int p1), .val (.int p2), .val (.int p3), .val (.int p4), .val (.int p5), .val (.int o0), .val (.int o1), .val (.int o2), .val (.int rc), .val (.int ps), .val (.int pt), .unset, .unset, .unset, .unset] [(.ref b124)])) _
      refine XS.dup X131.here hx rfl (hb hby at_62) rfl rfl ?_
      show Steps p.tables e below (T131.setTop (mkF m 63 #[.val (.int p0), .val (.int p1), .val (.int p2), .val (.int p3), .val (.int p4), .val (.int p5), .val (.int o0), .val (.int o1), .val (.int o2), .val (.int rc), .val (.int ps), .val (.int pt), .unset, .unset, .unset, .unset] [(.ref b124), (.ref b124)])) _
      refine XS.iconst X131.here hx rfl (hb hby at_63) ?_
      show Steps p.tables e below (T131.setTop (mkF m 64 #[.val (.int p0), .val (.int p1), .val (.int p2), .val (.int p3), .val (.int p4), .val (.int p5), .val (.int o0), .val (.int o1), .val (.int o2), .val (.int rc), .val (.int ps), .val (.int pt), .unset, .unset, .unset, .unset] [(.int (2 : Int32)), (.ref b124), (.ref b124)])) _
      refine XS.iload X131.here hx rfl (hb hby at_64) rfl ?_
      show Steps p.tables e below (T131.setTop (mkF m 66 #[.val (.int p0), .val (.int p1), .val (.int p2), .val (.int p3), .val (.int p4), .val (.int p5), .val (.int o0), .val (.int o1), .val (.int o2), .val (.int rc), .val (.int ps), .val (.int pt), .unset, .unset, .unset, .unset] [(.int o2), (.int (2 : Int32)), (.ref b124), (.ref b124)])) _
      refine st135 _ ?_
      show Steps p.tables e below (T135.setTop (mkF m 67 #[.val (.int p0), .val (.int p1), .val (.int p2), .val (.int p3), .val (.int p4), .val (.int p5), .val (.int o0), .val (.int o1), .val (.int o2), .val (.int rc), .val (.int ps), .val (.int pt), .unset, .unset, .unset, .unset] [(.ref b124)])) _
      refine XS.astore X135.here hx rfl (hb hby at_67) rfl rfl (l' := #[.val (.int p0), .val (.int p1), .val (.int p2), .val (.int p3), .val (.int p4), .val (.int p5), .val (.int o0), .val (.int o1), .val (.int o2), .val (.int rc), .val (.int ps), .val (.int pt), .val (.ref b124), .unset, .unset, .unset]) rfl ?_
      show Steps p.tables e below (T135.setTop (mkF m 69 #[.val (.int p0), .val (.int p1), .val (.int p2), .val (.int p3), .val (.int p4), .val (.int p5), .val (.int o0), .val (.int o1), .val (.int o2), .val (.int rc), .val (.int ps), .val (.int pt), .val (.ref b124), .unset, .unset, .unset] [])) _
      refine st138 _ ?_
      show Steps p.tables e below (T138.setTop (mkF m 72 #[.val (.int p0), .val (.int p1), .val (.int p2), .val (.int p3), .val (.int p4), .val (.int p5), .val (.int o0), .val (.int o1), .val (.int o2), .val (.int rc), .val (.int ps), .val (.int pt), .val (.ref b124), .unset, .unset, .unset] [(.ref b138)])) _
      refine XS.dup X138.here hx rfl (hb hby at_72) rfl rfl ?_
      show Steps p.tables e below (T138.setTop (mkF m 73 #[.val (.int p0), .val (.int p1), .val (.int p2), .val (.int p3), .val (.int p4), .val (.int p5), .val (.int o0), .val (.int o1), .val (.int o2), .val (.int rc), .val (.int ps), .val (.int pt), .val (.ref b124), .unset, .unset, .unset] [(.ref b138), (.ref b138)])) _
      refine XS.aload X138.here hx rfl (hb hby at_73) rfl rfl ?_
      show Steps p.tables e below (T138.setTop (mkF m 75 #[.val (.int p0), .val (.int p1), .val (.int p2), .val (.int p3), .val (.int p4), .val (.int p5), .val (.int o0), .val (.int o1), .val (.int o2), .val (.int rc), .val (.int ps), .val (.int pt), .val (.ref b124), .unset, .unset, .unset] [(.ref b124), (.ref b138), (.ref b138)])) _
      refine XS.iload X138.here hx rfl (hb hby at_75) rfl ?_
      show Steps p.tables e below (T138.setTop (mkF m 77 #[.val (.int p0), .val (.int p1), .val (.int p2), .val (.int p3), .val (.int p4), .val (.int p5), .val (.int o0), .val (.int o1), .val (.int o2), .val (.int rc), .val (.int ps), .val (.int pt), .val (.ref b124), .unset, .unset, .unset] [(.int rc), (.ref b124), (.ref b138), (.ref b138)])) _
      refine st146.trans ?_
      show Steps p.tables e below (T146.setTop (mkF m 80 #[.val (.int p0), .val (.int p1), .val (.int p2), .val (.int p3), .val (.int p4), .val (.int p5), .val (.int o0), .val (.int o1), .val (.int o2), .val (.int rc), .val (.int ps), .val (.int pt), .val (.ref b124), .unset, .unset, .unset] [(.ref b138)])) _
      refine XS.astore X146.here hx rfl (hb hby at_80) rfl rfl (l' := #[.val (.int p0), .val (.int p1), .val (.int p2), .val (.int p3), .val (.int p4), .val (.int p5), .val (.int o0), .val (.int o1), .val (.int o2), .val (.int rc), .val (.int ps), .val (.int pt), .val (.ref b124), .val (.ref b138), .unset, .unset]) rfl ?_
      show Steps p.tables e below (T146.setTop (mkF m 82 #[.val (.int p0), .val (.int p1), .val (.int p2), .val (.int p3), .val (.int p4), .val (.int p5), .val (.int o0), .val (.int o1), .val (.int o2), .val (.int rc), .val (.int ps), .val (.int pt), .val (.ref b124), .val (.ref b138), .unset, .unset] [])) _
      refine XS.aload X146.here hx rfl (hb hby at_82) rfl rfl ?_
      show Steps p.tables e below (T146.setTop (mkF m 84 #[.val (.int p0), .val (.int p1), .val (.int p2), .val (.int p3), .val (.int p4), .val (.int p5), .val (.int o0), .val (.int o1), .val (.int o2), .val (.int rc), .val (.int ps), .val (.int pt), .val (.ref b124), .val (.ref b138), .unset, .unset] [(.ref b138)])) _
      refine XS.iload X146.here hx rfl (hb hby at_84) rfl ?_
      show Steps p.tables e below (T146.setTop (mkF m 86 #[.val (.int p0), .val (.int p1), .val (.int p2), .val (.int p3), .val (.int p4), .val (.int p5), .val (.int o0), .val (.int o1), .val (.int o2), .val (.int rc), .val (.int ps), .val (.int pt), .val (.ref b124), .val (.ref b138), .unset, .unset] [(.int ps), (.ref b138)])) _
      refine st154.trans ?_
      show Steps p.tables e below (T154.setTop (mkF m 89 #[.val (.int p0), .val (.int p1), .val (.int p2), .val (.int p3), .val (.int p4), .val (.int p5), .val (.int o0), .val (.int o1), .val (.int o2), .val (.int rc), .val (.int ps), .val (.int pt), .val (.ref b124), .val (.ref b138), .unset, .unset] [])) _
      refine XS.aload X154.here hx rfl (hb hby at_89) rfl rfl ?_
      show Steps p.tables e below (T154.setTop (mkF m 91 #[.val (.int p0), .val (.int p1), .val (.int p2), .val (.int p3), .val (.int p4), .val (.int p5), .val (.int o0), .val (.int o1), .val (.int o2), .val (.int rc), .val (.int ps), .val (.int pt), .val (.ref b124), .val (.ref b138), .unset, .unset] [(.ref b138)])) _
      refine st165.trans ?_
      show Steps p.tables e below (T165.setTop (mkF m 94 #[.val (.int p0), .val (.int p1), .val (.int p2), .val (.int p3), .val (.int p4), .val (.int p5), .val (.int o0), .val (.int o1), .val (.int o2), .val (.int rc), .val (.int ps), .val (.int pt), .val (.ref b124), .val (.ref b138), .unset, .unset] [(.int (Int32.ofNat f1))])) _
      refine XS.iload X165.here hx rfl (hb hby at_94) rfl ?_
      show Steps p.tables e below (T165.setTop (mkF m 96 #[.val (.int p0), .val (.int p1), .val (.int p2), .val (.int p3), .val (.int p4), .val (.int p5), .val (.int o0), .val (.int o1), .val (.int o2), .val (.int rc), .val (.int ps), .val (.int pt), .val (.ref b124), .val (.ref b138), .unset, .unset] [(.int o0), (.int (Int32.ofNat f1))])) _
      refine XS.iload X165.here hx rfl (hb hby at_96) rfl ?_
      show Steps p.tables e below (T165.setTop (mkF m 98 #[.val (.int p0), .val (.int p1), .val (.int p2), .val (.int p3), .val (.int p4), .val (.int p5), .val (.int o0), .val (.int o1), .val (.int o2), .val (.int rc), .val (.int ps), .val (.int pt), .val (.ref b124), .val (.ref b138), .unset, .unset] [(.int o1), (.int o0), (.int (Int32.ofNat f1))])) _
      refine XS.iload X165.here hx rfl (hb hby at_98) rfl ?_
      show Steps p.tables e below (T165.setTop (mkF m 100 #[.val (.int p0), .val (.int p1), .val (.int p2), .val (.int p3), .val (.int p4), .val (.int p5), .val (.int o0), .val (.int o1), .val (.int o2), .val (.int rc), .val (.int ps), .val (.int pt), .val (.ref b124), .val (.ref b138), .unset, .unset] [(.int o2), (.int o1), (.int o0), (.int (Int32.ofNat f1))])) _
      refine XS.iload X165.here hx rfl (hb hby at_100) rfl ?_
      show Steps p.tables e below (T165.setTop (mkF m 102 #[.val (.int p0), .val (.int p1), .val (.int p2), .val (.int p3), .val (.int p4), .val (.int p5), .val (.int o0), .val (.int o1), .val (.int o2), .val (.int rc), .val (.int ps), .val (.int pt), .val (.ref b124), .val (.ref b138), .unset, .unset] [(.int ps), (.int o2), (.int o1), (.int o0), (.int (Int32.ofNat f1))])) _
      refine XS.iload X165.here hx rfl (hb hby at_102) rfl ?_
      show Steps p.tables e below (T165.setTop (mkF m 104 #[.val (.int p0), .val (.int p1), .val (.int p2), .val (.int p3), .val (.int p4), .val (.int p5), .val (.int o0), .val (.int o1), .val (.int o2), .val (.int rc), .val (.int ps), .val (.int pt), .val (.ref b124), .val (.ref b138), .unset, .unset] [(.int rc), (.int ps), (.int o2), (.int o1), (.int o0), (.int (Int32.ofNat f1))])) _
      refine st166 _ ?_
      show Steps p.tables e below (T166.setTop (mkF m 107 #[.val (.int p0), .val (.int p1), .val (.int p2), .val (.int p3), .val (.int p4), .val (.int p5), .val (.int o0), .val (.int o1), .val (.int o2), .val (.int rc), .val (.int ps), .val (.int pt), .val (.ref b124), .val (.ref b138), .unset, .unset] [(.int (own_before o0 o1 o2 ps rc)), (.int (Int32.ofNat f1))])) _
      refine XS.icmpNo X166.here hx rfl (hb hby at_107) rfl (teq hb167).2 ?_
      show Steps p.tables e below (T166.setTop (mkF m 110 #[.val (.int p0), .val (.int p1), .val (.int p2), .val (.int p3), .val (.int p4), .val (.int p5), .val (.int o0), .val (.int o1), .val (.int o2), .val (.int rc), .val (.int ps), .val (.int pt), .val (.ref b124), .val (.ref b138), .unset, .unset] [])) _
      refine XS.aload X166.here hx rfl (hb hby at_110) rfl rfl ?_
      show Steps p.tables e below (T166.setTop (mkF m 112 #[.val (.int p0), .val (.int p1), .val (.int p2), .val (.int p3), .val (.int p4), .val (.int p5), .val (.int o0), .val (.int o1), .val (.int o2), .val (.int rc), .val (.int ps), .val (.int pt), .val (.ref b124), .val (.ref b138), .unset, .unset] [(.ref b138)])) _
      refine st168.trans ?_
      show Steps p.tables e below (T168.setTop (mkF m 115 #[.val (.int p0), .val (.int p1), .val (.int p2), .val (.int p3), .val (.int p4), .val (.int p5), .val (.int o0), .val (.int o1), .val (.int o2), .val (.int rc), .val (.int ps), .val (.int pt), .val (.ref b124), .val (.ref b138), .unset, .unset] [(.int (Int32.ofNat g1))])) _
      refine XS.iload X168.here hx rfl (hb hby at_115) rfl ?_
      show Steps p.tables e below (T168.setTop (mkF m 117 #[.val (.int p0), .val (.int p1), .val (.int p2), .val (.int p3), .val (.int p4), .val (.int p5), .val (.int o0), .val (.int o1), .val (.int o2), .val (.int rc), .val (.int ps), .val (.int pt), .val (.ref b124), .val (.ref b138), .unset, .unset] [(.int o0), (.int (Int32.ofNat g1))])) _
      refine XS.iload X168.here hx rfl (hb hby at_117) rfl ?_
      show Steps p.tables e below (T168.setTop (mkF m 119 #[.val (.int p0), .val (.int p1), .val (.int p2), .val (.int p3), .val (.int p4), .val (.int p5), .val (.int o0), .val (.int o1), .val (.int o2), .val (.int rc), .val (.int ps), .val (.int pt), .val (.ref b124), .val (.ref b138), .unset, .unset] [(.int o1), (.int o0), (.int (Int32.ofNat g1))])) _
      refine XS.iload X168.here hx rfl (hb hby at_119) rfl ?_
      show Steps p.tables e below (T168.setTop (mkF m 121 #[.val (.int p0), .val (.int p1), .val (.int p2), .val (.int p3), .val (.int p4), .val (.int p5), .val (.int o0), .val (.int o1), .val (.int o2), .val (.int rc), .val (.int ps), .val (.int pt), .val (.ref b124), .val (.ref b138), .unset, .unset] [(.int o2), (.int o1), (.int o0), (.int (Int32.ofNat g1))])) _
      refine XS.iload X168.here hx rfl (hb hby at_121) rfl ?_
      show Steps p.tables e below (T168.setTop (mkF m 123 #[.val (.int p0), .val (.int p1), .val (.int p2), .val (.int p3), .val (.int p4), .val (.int p5), .val (.int o0), .val (.int o1), .val (.int o2), .val (.int rc), .val (.int ps), .val (.int pt), .val (.ref b124), .val (.ref b138), .unset, .unset] [(.int ps), (.int o2), (.int o1), (.int o0), (.int (Int32.ofNat g1))])) _
      refine XS.iload X168.here hx rfl (hb hby at_123) rfl ?_
      show Steps p.tables e below (T168.setTop (mkF m 125 #[.val (.int p0), .val (.int p1), .val (.int p2), .val (.int p3), .val (.int p4), .val (.int p5), .val (.int o0), .val (.int o1), .val (.int o2), .val (.int rc), .val (.int ps), .val (.int pt), .val (.ref b124), .val (.ref b138), .unset, .unset] [(.int rc), (.int ps), (.int o2), (.int o1), (.int o0), (.int (Int32.ofNat g1))])) _
      refine st169 _ ?_
      show Steps p.tables e below (T169.setTop (mkF m 128 #[.val (.int p0), .val (.int p1), .val (.int p2), .val (.int p3), .val (.int p4), .val (.int p5), .val (.int o0), .val (.int o1), .val (.int o2), .val (.int rc), .val (.int ps), .val (.int pt), .val (.ref b124), .val (.ref b138), .unset, .unset] [(.int (own_within o0 o1 o2 ps rc)), (.int (Int32.ofNat g1))])) _
      refine XS.icmpNo X169.here hx rfl (hb hby at_128) rfl (teq hb170).2 ?_
      show Steps p.tables e below (T169.setTop (mkF m 131 #[.val (.int p0), .val (.int p1), .val (.int p2), .val (.int p3), .val (.int p4), .val (.int p5), .val (.int o0), .val (.int o1), .val (.int o2), .val (.int rc), .val (.int ps), .val (.int pt), .val (.ref b124), .val (.ref b138), .unset, .unset] [])) _
      refine XS.iconst X169.here hx rfl (hb hby at_131) ?_
      show Steps p.tables e below (T169.setTop (mkF m 132 #[.val (.int p0), .val (.int p1), .val (.int p2), .val (.int p3), .val (.int p4), .val (.int p5), .val (.int o0), .val (.int o1), .val (.int o2), .val (.int rc), .val (.int ps), .val (.int pt), .val (.ref b124), .val (.ref b138), .unset, .unset] [(.int (1 : Int32))])) _
      refine XS.goto X169.here hx rfl (pc0 := 132) (pc' := 136) rfl (hb hby at_132) (by decide) (by decide) ?_
      show Steps p.tables e below (T169.setTop (mkF m 136 #[.val (.int p0), .val (.int p1), .val (.int p2), .val (.int p3), .val (.int p4), .val (.int p5), .val (.int o0), .val (.int o1), .val (.int o2), .val (.int rc), .val (.int ps), .val (.int pt), .val (.ref b124), .val (.ref b138), .unset, .unset] [(.int (1 : Int32))])) _
      refine XS.istore X169.here hx rfl (hb hby at_136) rfl (l' := #[.val (.int p0), .val (.int p1), .val (.int p2), .val (.int p3), .val (.int p4), .val (.int p5), .val (.int o0), .val (.int o1), .val (.int o2), .val (.int rc), .val (.int ps), .val (.int pt), .val (.ref b124), .val (.ref b138), .val (.int (1 : Int32)), .unset]) rfl ?_
      show Steps p.tables e below (T169.setTop (mkF m 138 #[.val (.int p0), .val (.int p1), .val (.int p2), .val (.int p3), .val (.int p4), .val (.int p5), .val (.int o0), .val (.int o1), .val (.int o2), .val (.int rc), .val (.int ps), .val (.int pt), .val (.ref b124), .val (.ref b138), .val (.int (1 : Int32)), .unset] [])) _
      refine XS.aload X169.here hx rfl (hb hby at_138) rfl rfl ?_
      show Steps p.tables e below (T169.setTop (mkF m 140 #[.val (.int p0), .val (.int p1), .val (.int p2), .val (.int p3), .val (.int p4), .val (.int p5), .val (.int o0), .val (.int o1), .val (.int o2), .val (.int rc), .val (.int ps), .val (.int pt), .val (.ref b124), .val (.ref b138), .val (.int (1 : Int32)), .unset] [(.ref b138)])) _
      refine XS.iload X169.here hx rfl (hb hby at_140) rfl ?_
      show Steps p.tables e below (T169.setTop (mkF m 142 #[.val (.int p0), .val (.int p1), .val (.int p2), .val (.int p3), .val (.int p4), .val (.int p5), .val (.int o0), .val (.int o1), .val (.int o2), .val (.int rc), .val (.int ps), .val (.int pt), .val (.ref b124), .val (.ref b138), .val (.int (1 : Int32)), .unset] [(.int pt), (.ref b138)])) _
      refine st171.trans ?_
      show Steps p.tables e below (T171.setTop (mkF m 145 #[.val (.int p0), .val (.int p1), .val (.int p2), .val (.int p3), .val (.int p4), .val (.int p5), .val (.int o0), .val (.int o1), .val (.int o2), .val (.int rc), .val (.int ps), .val (.int pt), .val (.ref b124), .val (.ref b138), .val (.int (1 : Int32)), .unset] [])) _
      refine XS.aload X171.here hx rfl (hb hby at_145) rfl rfl ?_
      show Steps p.tables e below (T171.setTop (mkF m 147 #[.val (.int p0), .val (.int p1), .val (.int p2), .val (.int p3), .val (.int p4), .val (.int p5), .val (.int o0), .val (.int o1), .val (.int o2), .val (.int rc), .val (.int ps), .val (.int pt), .val (.ref b124), .val (.ref b138), .val (.int (1 : Int32)), .unset] [(.ref b138)])) _
      refine st178.trans ?_
      show Steps p.tables e below (T178.setTop (mkF m 150 #[.val (.int p0), .val (.int p1), .val (.int p2), .val (.int p3), .val (.int p4), .val (.int p5), .val (.int o0), .val (.int o1), .val (.int o2), .val (.int rc), .val (.int ps), .val (.int pt), .val (.ref b124), .val (.ref b138), .val (.int (1 : Int32)), .unset] [(.int (Int32.ofNat (own_go (own_q1 pt rc o0 o1 o2) (3 - f1) f1)))])) _
      refine XS.iload X178.here hx rfl (hb hby at_150) rfl ?_
      show Steps p.tables e below (T178.setTop (mkF m 152 #[.val (.int p0), .val (.int p1), .val (.int p2), .val (.int p3), .val (.int p4), .val (.int p5), .val (.int o0), .val (.int o1), .val (.int o2), .val (.int rc), .val (.int ps), .val (.int pt), .val (.ref b124), .val (.ref b138), .val (.int (1 : Int32)), .unset] [(.int o0), (.int (Int32.ofNat (own_go (own_q1 pt rc o0 o1 o2) (3 - f1) f1)))])) _
      refine XS.iload X178.here hx rfl (hb hby at_152) rfl ?_
      show Steps p.tables e below (T178.setTop (mkF m 154 #[.val (.int p0), .val (.int p1), .val (.int p2), .val (.int p3), .val (.int p4), .val (.int p5), .val (.int o0), .val (.int o1), .val (.int o2), .val (.int rc), .val (.int ps), .val (.int pt), .val (.ref b124), .val (.ref b138), .val (.int (1 : Int32)), .unset] [(.int o1), (.int o0), (.int (Int32.ofNat (own_go (own_q1 pt rc o0 o1 o2) (3 - f1) f1)))])) _
      refine XS.iload X178.here hx rfl (hb hby at_154) rfl ?_
      show Steps p.tables e below (T178.setTop (mkF m 156 #[.val (.int p0), .val (.int p1), .val (.int p2), .val (.int p3), .val (.int p4), .val (.int p5), .val (.int o0), .val (.int o1), .val (.int o2), .val (.int rc), .val (.int ps), .val (.int pt), .val (.ref b124), .val (.ref b138), .val (.int (1 : Int32)), .unset] [(.int o2), (.int o1), (.int o0), (.int (Int32.ofNat (own_go (own_q1 pt rc o0 o1 o2) (3 - f1) f1)))])) _
      refine XS.iload X178.here hx rfl (hb hby at_156) rfl ?_
      show Steps p.tables e below (T178.setTop (mkF m 158 #[.val (.int p0), .val (.int p1), .val (.int p2), .val (.int p3), .val (.int p4), .val (.int p5), .val (.int o0), .val (.int o1), .val (.int o2), .val (.int rc), .val (.int ps), .val (.int pt), .val (.ref b124), .val (.ref b138), .val (.int (1 : Int32)), .unset] [(.int pt), (.int o2), (.int o1), (.int o0), (.int (Int32.ofNat (own_go (own_q1 pt rc o0 o1 o2) (3 - f1) f1)))])) _
      refine XS.iload X178.here hx rfl (hb hby at_158) rfl ?_
      show Steps p.tables e below (T178.setTop (mkF m 160 #[.val (.int p0), .val (.int p1), .val (.int p2), .val (.int p3), .val (.int p4), .val (.int p5), .val (.int o0), .val (.int o1), .val (.int o2), .val (.int rc), .val (.int ps), .val (.int pt), .val (.ref b124), .val (.ref b138), .val (.int (1 : Int32)), .unset] [(.int rc), (.int pt), (.int o2), (.int o1), (.int o0), (.int (Int32.ofNat (own_go (own_q1 pt rc o0 o1 o2) (3 - f1) f1)))])) _
      refine st179 _ ?_
      show Steps p.tables e below (T179.setTop (mkF m 163 #[.val (.int p0), .val (.int p1), .val (.int p2), .val (.int p3), .val (.int p4), .val (.int p5), .val (.int o0), .val (.int o1), .val (.int o2), .val (.int rc), .val (.int ps), .val (.int pt), .val (.ref b124), .val (.ref b138), .val (.int (1 : Int32)), .unset] [(.int (own_before o0 o1 o2 pt rc)), (.int (Int32.ofNat (own_go (own_q1 pt rc o0 o1 o2) (3 - f1) f1)))])) _
      refine XS.icmpNo X179.here hx rfl (hb hby at_163) rfl (teq hb180).2 ?_
      show Steps p.tables e below (T179.setTop (mkF m 166 #[.val (.int p0), .val (.int p1), .val (.int p2), .val (.int p3), .val (.int p4), .val (.int p5), .val (.int o0), .val (.int o1), .val (.int o2), .val (.int rc), .val (.int ps), .val (.int pt), .val (.ref b124), .val (.ref b138), .val (.int (1 : Int32)), .unset] [])) _
      refine XS.aload X179.here hx rfl (hb hby at_166) rfl rfl ?_
      show Steps p.tables e below (T179.setTop (mkF m 168 #[.val (.int p0), .val (.int p1), .val (.int p2), .val (.int p3), .val (.int p4), .val (.int p5), .val (.int o0), .val (.int o1), .val (.int o2), .val (.int rc), .val (.int ps), .val (.int pt), .val (.ref b124), .val (.ref b138), .val (.int (1 : Int32)), .unset] [(.ref b138)])) _
      refine st181.trans ?_
      show Steps p.tables e below (T181.setTop (mkF m 171 #[.val (.int p0), .val (.int p1), .val (.int p2), .val (.int p3), .val (.int p4), .val (.int p5), .val (.int o0), .val (.int o1), .val (.int o2), .val (.int rc), .val (.int ps), .val (.int pt), .val (.ref b124), .val (.ref b138), .val (.int (1 : Int32)), .unset] [(.int (Int32.ofNat (own_go (own_q2 pt rc o0 o1 o2) (3 - g1) g1)))])) _
      refine XS.iload X181.here hx rfl (hb hby at_171) rfl ?_
      show Steps p.tables e below (T181.setTop (mkF m 173 #[.val (.int p0), .val (.int p1), .val (.int p2), .val (.int p3), .val (.int p4), .val (.int p5), .val (.int o0), .val (.int o1), .val (.int o2), .val (.int rc), .val (.int ps), .val (.int pt), .val (.ref b124), .val (.ref b138), .val (.int (1 : Int32)), .unset] [(.int o0), (.int (Int32.ofNat (own_go (own_q2 pt rc o0 o1 o2) (3 - g1) g1)))])) _
      refine XS.iload X181.here hx rfl (hb hby at_173) rfl ?_
      show Steps p.tables e below (T181.setTop (mkF m 175 #[.val (.int p0), .val (.int p1), .val (.int p2), .val (.int p3), .val (.int p4), .val (.int p5), .val (.int o0), .val (.int o1), .val (.int o2), .val (.int rc), .val (.int ps), .val (.int pt), .val (.ref b124), .val (.ref b138), .val (.int (1 : Int32)), .unset] [(.int o1), (.int o0), (.int (Int32.ofNat (own_go (own_q2 pt rc o0 o1 o2) (3 - g1) g1)))])) _
      refine XS.iload X181.here hx rfl (hb hby at_175) rfl ?_
      show Steps p.tables e below (T181.setTop (mkF m 177 #[.val (.int p0), .val (.int p1), .val (.int p2), .val (.int p3), .val (.int p4), .val (.int p5), .val (.int o0), .val (.int o1), .val (.int o2), .val (.int rc), .val (.int ps), .val (.int pt), .val (.ref b124), .val (.ref b138), .val (.int (1 : Int32)), .unset] [(.int o2), (.int o1), (.int o0), (.int (Int32.ofNat (own_go (own_q2 pt rc o0 o1 o2) (3 - g1) g1)))])) _
      refine XS.iload X181.here hx rfl (hb hby at_177) rfl ?_
      show Steps p.tables e below (T181.setTop (mkF m 179 #[.val (.int p0), .val (.int p1), .val (.int p2), .val (.int p3), .val (.int p4), .val (.int p5), .val (.int o0), .val (.int o1), .val (.int o2), .val (.int rc), .val (.int ps), .val (.int pt), .val (.ref b124), .val (.ref b138), .val (.int (1 : Int32)), .unset] [(.int pt), (.int o2), (.int o1), (.int o0), (.int (Int32.ofNat (own_go (own_q2 pt rc o0 o1 o2) (3 - g1) g1)))])) _
      refine XS.iload X181.here hx rfl (hb hby at_179) rfl ?_
      show Steps p.tables e below (T181.setTop (mkF m 181 #[.val (.int p0), .val (.int p1), .val (.int p2), .val (.int p3), .val (.int p4), .val (.int p5), .val (.int o0), .val (.int o1), .val (.int o2), .val (.int rc), .val (.int ps), .val (.int pt), .val (.ref b124), .val (.ref b138), .val (.int (1 : Int32)), .unset] [(.int rc), (.int pt), (.int o2), (.int o1), (.int o0), (.int (Int32.ofNat (own_go (own_q2 pt rc o0 o1 o2) (3 - g1) g1)))])) _
      refine st182 _ ?_
      show Steps p.tables e below (T182.setTop (mkF m 184 #[.val (.int p0), .val (.int p1), .val (.int p2), .val (.int p3), .val (.int p4), .val (.int p5), .val (.int o0), .val (.int o1), .val (.int o2), .val (.int rc), .val (.int ps), .val (.int pt), .val (.ref b124), .val (.ref b138), .val (.int (1 : Int32)), .unset] [(.int (own_within o0 o1 o2 pt rc)), (.int (Int32.ofNat (own_go (own_q2 pt rc o0 o1 o2) (3 - g1) g1)))])) _
      refine XS.icmpNo X182.here hx rfl (hb hby at_184) rfl (teq hb183).2 ?_
      show Steps p.tables e below (T182.setTop (mkF m 187 #[.val (.int p0), .val (.int p1), .val (.int p2), .val (.int p3), .val (.int p4), .val (.int p5), .val (.int o0), .val (.int o1), .val (.int o2), .val (.int rc), .val (.int ps), .val (.int pt), .val (.ref b124), .val (.ref b138), .val (.int (1 : Int32)), .unset] [])) _
      refine XS.iconst X182.here hx rfl (hb hby at_187) ?_
      show Steps p.tables e below (T182.setTop (mkF m 188 #[.val (.int p0), .val (.int p1), .val (.int p2), .val (.int p3), .val (.int p4), .val (.int p5), .val (.int o0), .val (.int o1), .val (.int o2), .val (.int rc), .val (.int ps), .val (.int pt), .val (.ref b124), .val (.ref b138), .val (.int (1 : Int32)), .unset] [(.int (1 : Int32))])) _
      refine XS.goto X182.here hx rfl (pc0 := 188) (pc' := 192) rfl (hb hby at_188) (by decide) (by decide) ?_
      show Steps p.tables e below (T182.setTop (mkF m 192 #[.val (.int p0), .val (.int p1), .val (.int p2), .val (.int p3), .val (.int p4), .val (.int p5), .val (.int o0), .val (.int o1), .val (.int o2), .val (.int rc), .val (.int ps), .val (.int pt), .val (.ref b124), .val (.ref b138), .val (.int (1 : Int32)), .unset] [(.int (1 : Int32))])) _
      refine XS.istore X182.here hx rfl (hb hby at_192) rfl (l' := #[.val (.int p0), .val (.int p1), .val (.int p2), .val (.int p3), .val (.int p4), .val (.int p5), .val (.int o0), .val (.int o1), .val (.int o2), .val (.int rc), .val (.int ps), .val (.int pt), .val (.ref b124), .val (.ref b138), .val (.int (1 : Int32)), .val (.int (1 : Int32))]) rfl ?_
      show Steps p.tables e below (T182.setTop (mkF m 194 #[.val (.int p0), .val (.int p1), .val (.int p2), .val (.int p3), .val (.int p4), .val (.int p5), .val (.int o0), .val (.int o1), .val (.int o2), .val (.int rc), .val (.int ps), .val (.int pt), .val (.ref b124), .val (.ref b138), .val (.int (1 : Int32)), .val (.int (1 : Int32))] [])) _
      refine XS.iload X182.here hx rfl (hb hby at_194) rfl ?_
      show Steps p.tables e below (T182.setTop (mkF m 196 #[.val (.int p0), .val (.int p1), .val (.int p2), .val (.int p3), .val (.int p4), .val (.int p5), .val (.int o0), .val (.int o1), .val (.int o2), .val (.int rc), .val (.int ps), .val (.int pt), .val (.ref b124), .val (.ref b138), .val (.int (1 : Int32)), .val (.int (1 : Int32))] [(.int (1 : Int32))])) _
      refine XS.ifNo X182.here hx rfl (hb hby at_196) rfl ((if0 _ _).trans (feq (by decide : ¬ ((1 : Int32) = (0 : Int32)))).1) ?_
      show Steps p.tables e below (T182.setTop (mkF m 199 #[.val (.int p0), .val (.int p1), .val (.int p2), .val (.int p3), .val (.int p4), .val (.int p5), .val (.int o0), .val (.int o1), .val (.int o2), .val (.int rc), .val (.int ps), .val (.int pt), .val (.ref b124), .val (.ref b138), .val (.int (1 : Int32)), .val (.int (1 : Int32))] [])) _
      refine XS.iload X182.here hx rfl (hb hby at_199) rfl ?_
      show Steps p.tables e below (T182.setTop (mkF m 201 #[.val (.int p0), .val (.int p1), .val (.int p2), .val (.int p3), .val (.int p4), .val (.int p5), .val (.int o0), .val (.int o1), .val (.int o2), .val (.int rc), .val (.int ps), .val (.int pt), .val (.ref b124), .val (.ref b138), .val (.int (1 : Int32)), .val (.int (1 : Int32))] [(.int (1 : Int32))])) _
      refine XS.ifNo X182.here hx rfl (hb hby at_201) rfl ((if0 _ _).trans (feq (by decide : ¬ ((1 : Int32) = (0 : Int32)))).1) ?_
      show Steps p.tables e below (T182.setTop (mkF m 204 #[.val (.int p0), .val (.int p1), .val (.int p2), .val (.int p3), .val (.int p4), .val (.int p5), .val (.int o0), .val (.int o1), .val (.int o2), .val (.int rc), .val (.int ps), .val (.int pt), .val (.ref b124), .val (.ref b138), .val (.int (1 : Int32)), .val (.int (1 : Int32))] [])) _
      refine XS.iconst X182.here hx rfl (hb hby at_204) ?_
      show Steps p.tables e below (T182.setTop (mkF m 205 #[.val (.int p0), .val (.int p1), .val (.int p2), .val (.int p3), .val (.int p4), .val (.int p5), .val (.int o0), .val (.int o1), .val (.int o2), .val (.int rc), .val (.int ps), .val (.int pt), .val (.ref b124), .val (.ref b138), .val (.int (1 : Int32)), .val (.int (1 : Int32))] [(.int (1 : Int32))])) _
      refine XS.goto X182.here hx rfl (pc0 := 205) (pc' := 209) rfl (hb hby at_205) (by decide) (by decide) ?_
      exact kk)
  obtain ⟨fs, hr, hrun, hended, hW, hsame⟩ := X182.leave (v := some (.int (1 : Int32))) (fun h => by rw [Bd.returns] at h; cases h)
  refine ⟨_, _, pre184 _ ?_, hrun, hended, _, _, rfl, ?_, ⟨_, rfl⟩, hW, hsame.mono (by decide) (by decide)⟩
  · show Steps p.tables e below (T182.setTop (mkF m 209 #[.val (.int p0), .val (.int p1), .val (.int p2), .val (.int p3), .val (.int p4), .val (.int p5), .val (.int o0), .val (.int o1), .val (.int o2), .val (.int rc), .val (.int ps), .val (.int pt), .val (.ref b124), .val (.ref b138), .val (.int (1 : Int32)), .val (.int (1 : Int32))] [(.int (1 : Int32))])) _
    exact retN X182 hx (t := .boolean) Bd.returns (by simp) (hb hby at_209) hr
  · show Q0 Z p0 p1 p2 p3 p4 p5 h0 n0 _ T182.heap _
    rw [e182]
    exact ⟨rfl, N182, K177⟩
set_option maxRecDepth 65536 in
set_option maxHeartbeats 40000000 in
theorem comes_1 {Post : Tables → Env → Array Value → State → Outcome → State → Prop} (hpost : ∀ tb e args s v u, (limb_1_1.after args s (.returned v) u = true ∧ limb_1_2.after args s (.returned v) u = true ∧ True) → FrameEnd s (.returned v) u (Jvm.fieldLocs frame_1_writes args s ++ Jvm.arrayLocs frame_1_arrays args s ++ Jvm.staticLocs frame_1_statics s) 16 128 → Post tb e args s (.returned v) u) :
    ArmFor flags0 classFile x code maxLocals ret World_1 tables_1 room_1 Calls_1 rest_1 Pre_1 Post := by
  intro l hfl _ _ p e ha hc hk s m args below hf hA hF happ hP
  obtain ⟨hcalls, hrest, hpre⟩ := hP
  obtain ⟨-, -, -, hnamed, -, -, -, hat⟩ := (Spec.applies_iff hf).mp happ
  obtain ⟨hg, hn⟩ := and_e (Cond.before_iff.mp (show (Jvm.Cond.and given_1 narrow_1).before args s = true from hpre))
  obtain ⟨gg185, gg186⟩ := and_e hg
  obtain ⟨gg187, gg188⟩ := and_e gg186
  obtain ⟨gg189, gg190⟩ := and_e gg188
  obtain ⟨gg191, gg192⟩ := and_e gg190
  obtain ⟨gg193, gg194⟩ := and_e gg192
  obtain ⟨gg195, gg196⟩ := and_e gg194
  obtain ⟨w0, w1, w2, w3, w4, w5, rfl⟩ : ∃ w0 w1 w2 w3 w4 w5 : Value, args = #[w0, w1, w2, w3, w4, w5] := by
    have hs : args.size = 6 := by simpa [Cond.value, given_1] using gg185
    obtain ⟨L⟩ := args
    match L, hs with
    | [w0, w1, w2, w3, w4, w5], _ => exact ⟨w0, w1, w2, w3, w4, w5, rfl⟩
  have hw := fun d (hd : d ∈ tables_1) => atoms_spec (ws := Jvm.Cond.code x code maxLocals ret :: tables_1) hat d (List.mem_cons_of_mem _ hd)
  have hfit : Fit s := fun {y c} hc i hi => by
    obtain ⟨ha, rfl⟩ := Array.getElem?_eq_some_iff.mp hc
    have q := List.all_eq_true.mp ((Array.all_eq_true_iff_forall_mem.mp hF) _ (Array.getElem_mem ha)) i (List.mem_range.mpr hi)
    simpa [Array.getElem?_eq_getElem hi] using q
  obtain ⟨i0, ei0⟩ := is_v gg187
  obtain rfl : w0 = (.int i0) := Option.some.inj ei0
  obtain ⟨i1, ei1⟩ := is_v gg189
  obtain rfl : w1 = (.int i1) := Option.some.inj ei1
  obtain ⟨i2, ei2⟩ := is_v gg191
  obtain rfl : w2 = (.int i2) := Option.some.inj ei2
  obtain ⟨i3, ei3⟩ := is_v gg193
  obtain rfl : w3 = (.int i3) := Option.some.inj ei3
  obtain ⟨i4, ei4⟩ := is_v gg195
  obtain rfl : w4 = (.int i4) := Option.some.inj ei4
  obtain ⟨i5, ei5⟩ := is_v gg196
  obtain rfl : w5 = (.int i5) := Option.some.inj ei5
  obtain ⟨n, o, h1, h2, h3, _, L, rfl, ⟨rfl, N, -⟩, hq⟩ := rm0 l s _ hw tables_1 i0 i1 i2 i3 i4 i5  s.heap s.heap.size (Nat.le_refl _)  p e ha hc hk s m _ below hf ((Spec.applies_iff_loose hf).mp happ).1 ⟨rfl, State.Warmed39.refl s, rfl⟩ trivial
  refine ⟨n, _, h1, h2, h3, hpost _ _ _ _ _ _ ⟨Cond.after_iff.mpr rfl, Cond.after_iff.mpr (eq_i res_at (Term.int_eval (1)) rfl), trivial⟩ ⟨hq.1, hq.2.1, (hq.2.2.sift fun y hy => Or.inr (N y hy)).mono (by decide) (by decide)⟩⟩
theorem main_1_1 : Claimed_1_1 := comes_1 fun _ _ _ _ _ _ h hF => ⟨h.1, hF⟩
theorem main_1_2 : Claimed_1_2 := comes_1 fun _ _ _ _ _ _ h hF => ⟨h.2.1, hF⟩
end Jvm.Pilot.@@N@@
namespace Jvm.Pilot.@@N@@
open Jvm Jvm.ClassFile Sem Op Lib Jvm.Free Jvm.Stand Jvm.Pilot.@@N@@.Jvm.D
/-! MADE BY PROGRAM (witnessworld.py) out of the Statement's table words and the real class files: 10 classes; the members and pool entries that the words name. The judged class is class 1, her method 1. -/
namespace start1
open Jvm.ClassFile
def u (s : String) : CpInfo := .utf8 (stringToUtf16 s)
/-- a pool by its gaps: so many unusable entries, then the entry; so many at the end -/
def gap : Nat → List CpInfo → List CpInfo
  | 0, r => r
  | n + 1, r => .unusable :: gap n r
def poolList (es : List (Nat × CpInfo)) (last : Nat) : List CpInfo := es.foldr (fun e r => gap e.1 (e.2 :: r)) (gap last [])
def pool (es : List (Nat × CpInfo)) (last : Nat) : Array CpInfo := ⟨poolList es last⟩
def fileOf (pool : Array CpInfo) (this : Nat) (attrs : Array Attribute := #[]) (ms : Array MethodInfo := #[]) (fl : Nat := 33) (sup : Nat := 0) (ifs : Array Nat := #[]) (fds : Array FieldInfo := #[]) : ClassFile where
  minorVersion := 0
  majorVersion := 65
  constantPool := pool
  accessFlags := fl
  thisClass := this
  superClass := sup
  interfaces := ifs
  fields := fds
  methods := ms
  attributes := attrs
def plain (name : String) (sup : Option ClassId) : Class where
  name := name
  kind := .ordinary
  loader := none
  accessFlags := 33
  super := sup
  interfaces := #[]
  cf := none
  fields := #[]
  methods := #[]
  instanceTypes := #[]
  staticTypes := #[]
  resolved := #[]
  callSites := []
  init := .initialized
  statics := none
  mirror := none

def pool0 : Array CpInfo := pool [(5, u "<init>"), (0, u "()V"), (1, .class_ 10), (1, u "java/lang/Object")] 113

def k0c0 : Code := { maxStack := 0, maxLocals := 1, code := object_method_1_code, exceptionTable := #[], attributes := #[] }
def k0m0 : Method := { name := "<init>", desc := "()V", sig := { parameters := [], returnType := none }, accessFlags := 1, code := some k0c0 }
/-- java/lang/Object -/
def k0 : Class := { plain "java/lang/Object" none with
  accessFlags := 33
  interfaces := #[]
  cf := some (fileOf pool0 8 #[] #[{ accessFlags := 1, nameIndex := 5, descriptorIndex := 6, attributes := #[] }] 33 0 #[] #[])
  fields := #[]
  methods := #[k0m0]
  instanceTypes := #[]
  staticTypes := #[]
  resolved := Array.replicate 124 none
  statics := none }

def pool1 : Array CpInfo := pool [(2, .class_ 4), (1, u "java/lang/Object"), (0, u "<init>"), (0, u "()V"), (0, .integer 1073741823), (0, .integer 536870911), (0, .integer 2147483647), (0, .methodref 11 12), (0, .class_ 13), (0, .nameAndType 14 15), (0, u "java/lang/Math"), (0, u "max"), (0, u "(II)I"), (0, .class_ 17), (0, u "com/example/iken/iken/rank/Window"), (0, .methodref 16 19), (0, .nameAndType 5 20), (0, u "([II)V"), (0, .methodref 16 22), (0, .nameAndType 23 24), (0, u "moveTo"), (0, u "(I)V"), (0, .methodref 16 26), (0, .nameAndType 27 28), (0, u "first"), (0, u "()I"), (0, .methodref 30 31), (0, .class_ 32), (0, .nameAndType 33 34), (0, u "com/example/iken/iken/rank/WindowMoveToPinLaw"), (0, u "before"), (0, u "(IIIII)I"), (0, .methodref 16 36), (0, .nameAndType 37 28), (0, u "end"), (0, .methodref 30 39), (0, .nameAndType 40 34), (0, u "within"), (0, .methodref 30 42), (0, .nameAndType 43 44), (0, u "far"), (0, u "(III)I"), (0, .methodref 30 46), (0, .nameAndType 47 44), (0, u "near"), (2, u "law"), (0, u "(IIIIII)Z")] 5

def k1m0 : Method := { name := "<init>", desc := "()V", sig := { parameters := [], returnType := none }, accessFlags := 1, code := none }
def k1c1 : Code := { maxStack := 6, maxLocals := 16, code := code, exceptionTable := #[], attributes := #[] }
def k1m1 : Method := { name := "law", desc := "(IIIIII)Z", sig := { parameters := [.int, .int, .int, .int, .int, .int], returnType := some .boolean }, accessFlags := 9, code := some k1c1 }
def k1c2 : Code := { maxStack := 4, maxLocals := 5, code := method_3_code, exceptionTable := #[], attributes := #[] }
def k1m2 : Method := { name := "before", desc := "(IIIII)I", sig := { parameters := [.int, .int, .int, .int, .int], returnType := some .int }, accessFlags := 10, code := some k1c2 }
def k1c3 : Code := { maxStack := 4, maxLocals := 5, code := method_4_code, exceptionTable := #[], attributes := #[] }
def k1m3 : Method := { name := "within", desc := "(IIIII)I", sig := { parameters := [.int, .int, .int, .int, .int], returnType := some .int }, accessFlags := 10, code := some k1c3 }
def k1c4 : Code := { maxStack := 4, maxLocals := 3, code := method_5_code, exceptionTable := #[], attributes := #[] }
def k1m4 : Method := { name := "far", desc := "(III)I", sig := { parameters := [.int, .int, .int], returnType := some .int }, accessFlags := 10, code := some k1c4 }
def k1c5 : Code := { maxStack := 4, maxLocals := 3, code := method_6_code, exceptionTable := #[], attributes := #[] }
def k1m5 : Method := { name := "near", desc := "(III)I", sig := { parameters := [.int, .int, .int], returnType := some .int }, accessFlags := 10, code := some k1c5 }
/-- com/example/iken/iken/rank/WindowMoveToPinLaw -/
def k1 : Class := { plain "com/example/iken/iken/rank/WindowMoveToPinLaw" (some 0) with
  accessFlags := 49
  interfaces := #[]
  cf := some (fileOf pool1 30 #[] #[{ accessFlags := 1, nameIndex := 5, descriptorIndex := 6, attributes := #[] }, { accessFlags := 9, nameIndex := 50, descriptorIndex := 51, attributes := #[] }, { accessFlags := 10, nameIndex := 33, descriptorIndex := 34, attributes := #[] }, { accessFlags := 10, nameIndex := 40, descriptorIndex := 34, attributes := #[] }, { accessFlags := 10, nameIndex := 43, descriptorIndex := 44, attributes := #[] }, { accessFlags := 10, nameIndex := 47, descriptorIndex := 44, attributes := #[] }] 49 2 #[] #[])
  fields := #[]
  methods := #[k1m0, k1m1, k1m2, k1m3, k1m4, k1m5]
  instanceTypes := #[]
  staticTypes := #[]
  resolved := Array.replicate 57 none
  statics := none }

def pool2 : Array CpInfo := pool [(1, .class_ 2), (0, u "java/lang/Math"), (1, .class_ 6), (1, u "java/lang/Object"), (0, u "<init>"), (0, u "()V"), (89, .class_ 100), (1, u "java/lang/Math$RandomNumberGeneratorHolder"), (71, u "negativeZeroFloatBits"), (0, u "J"), (2, u "negativeZeroDoubleBits"), (21, u "max"), (46, u "$assertionsDisabled"), (0, u "Z"), (88, u "(II)I"), (2, u "twoToTheDoubleScaleDown"), (0, u "D"), (4, u "twoToTheDoubleScaleUp"), (9, u "E"), (3, u "PI"), (2, u "TAU"), (2, u "DEGREES_TO_RADIANS"), (0, u "RADIANS_TO_DEGREES")] 94

def k2m0 : Method := { name := "<init>", desc := "()V", sig := { parameters := [], returnType := none }, accessFlags := 2, code := none }
def k2c1 : Code := { maxStack := 2, maxLocals := 2, code := jdk_29_method_65_code, exceptionTable := #[], attributes := #[] }
def k2m1 : Method := { name := "max", desc := "(II)I", sig := { parameters := [.int, .int], returnType := some .int }, accessFlags := 9, code := some k2c1 }
/-- java/lang/Math -/
def k2 : Class := { plain "java/lang/Math" (some 0) with
  accessFlags := 49
  interfaces := #[]
  cf := some (fileOf pool2 1 #[.nestMembers #[98]] #[{ accessFlags := 2, nameIndex := 7, descriptorIndex := 8, attributes := #[] }, { accessFlags := 9, nameIndex := 198, descriptorIndex := 335, attributes := #[] }] 49 4 #[] #[{ accessFlags := 25, nameIndex := 354, descriptorIndex := 339, attributes := #[] }, { accessFlags := 25, nameIndex := 358, descriptorIndex := 339, attributes := #[] }, { accessFlags := 25, nameIndex := 361, descriptorIndex := 339, attributes := #[] }, { accessFlags := 26, nameIndex := 364, descriptorIndex := 339, attributes := #[] }, { accessFlags := 26, nameIndex := 365, descriptorIndex := 339, attributes := #[] }, { accessFlags := 26, nameIndex := 172, descriptorIndex := 173, attributes := #[] }, { accessFlags := 26, nameIndex := 176, descriptorIndex := 173, attributes := #[] }, { accessFlags := 8, nameIndex := 344, descriptorIndex := 339, attributes := #[] }, { accessFlags := 8, nameIndex := 338, descriptorIndex := 339, attributes := #[] }, { accessFlags := 4120, nameIndex := 245, descriptorIndex := 246, attributes := #[] }])
  fields := #[{ name := "E", type := .double, accessFlags := 25, slot := 0, constantValue := 0 }, { name := "PI", type := .double, accessFlags := 25, slot := 1, constantValue := 0 }, { name := "TAU", type := .double, accessFlags := 25, slot := 2, constantValue := 0 }, { name := "DEGREES_TO_RADIANS", type := .double, accessFlags := 26, slot := 3, constantValue := 0 }, { name := "RADIANS_TO_DEGREES", type := .double, accessFlags := 26, slot := 4, constantValue := 0 }, { name := "negativeZeroFloatBits", type := .long, accessFlags := 26, slot := 5, constantValue := 0 }, { name := "negativeZeroDoubleBits", type := .long, accessFlags := 26, slot := 6, constantValue := 0 }, { name := "twoToTheDoubleScaleUp", type := .double, accessFlags := 8, slot := 7, constantValue := 0 }, { name := "twoToTheDoubleScaleDown", type := .double, accessFlags := 8, slot := 8, constantValue := 0 }, { name := "$assertionsDisabled", type := .boolean, accessFlags := 4120, slot := 9, constantValue := 0 }]
  methods := #[k2m0, k2m1]
  instanceTypes := #[]
  staticTypes := #[.double, .double, .double, .double, .double, .long, .long, .double, .double, .boolean]
  resolved := Array.replicate 460 none
  statics := none }

def pool3 : Array CpInfo := pool [(1, .methodref 2 3), (0, .class_ 4), (0, .nameAndType 5 6), (0, u "java/lang/Object"), (0, u "<init>"), (0, u "()V"), (0, .fieldref 8 9), (0, .class_ 10), (0, .nameAndType 11 12), (0, u "com/example/iken/iken/rank/Window"), (0, u "opinions"), (0, u "[I"), (0, .fieldref 8 14), (0, .nameAndType 15 16), (0, u "reach"), (0, u "I"), (9, .fieldref 8 27), (0, .nameAndType 28 16), (0, u "first"), (0, .fieldref 8 30), (0, .nameAndType 31 16), (0, u "end"), (0, u "([II)V"), (5, u "moveTo"), (0, u "(I)V"), (0, u "()I")] 17

def k3c0 : Code := { maxStack := 2, maxLocals := 3, code := prog_34_method_1_code, exceptionTable := #[], attributes := #[] }
def k3m0 : Method := { name := "<init>", desc := "([II)V", sig := { parameters := [(.array .int), .int], returnType := none }, accessFlags := 0, code := some k3c0 }
def k3c1 : Code := { maxStack := 3, maxLocals := 2, code := prog_34_method_3_code, exceptionTable := #[], attributes := #[] }
def k3m1 : Method := { name := "moveTo", desc := "(I)V", sig := { parameters := [.int], returnType := none }, accessFlags := 0, code := some k3c1 }
def k3c2 : Code := { maxStack := 1, maxLocals := 1, code := prog_34_method_4_code, exceptionTable := #[], attributes := #[] }
def k3m2 : Method := { name := "first", desc := "()I", sig := { parameters := [], returnType := some .int }, accessFlags := 0, code := some k3c2 }
def k3c3 : Code := { maxStack := 1, maxLocals := 1, code := prog_34_method_5_code, exceptionTable := #[], attributes := #[] }
def k3m3 : Method := { name := "end", desc := "()I", sig := { parameters := [], returnType := some .int }, accessFlags := 0, code := some k3c3 }
/-- com/example/iken/iken/rank/Window -/
def k3 : Class := { plain "com/example/iken/iken/rank/Window" (some 0) with
  accessFlags := 48
  interfaces := #[]
  cf := some (fileOf pool3 8 #[] #[{ accessFlags := 0, nameIndex := 5, descriptorIndex := 32, attributes := #[] }, { accessFlags := 0, nameIndex := 38, descriptorIndex := 39, attributes := #[] }, { accessFlags := 0, nameIndex := 28, descriptorIndex := 40, attributes := #[] }, { accessFlags := 0, nameIndex := 31, descriptorIndex := 40, attributes := #[] }] 48 2 #[] #[{ accessFlags := 18, nameIndex := 11, descriptorIndex := 12, attributes := #[] }, { accessFlags := 18, nameIndex := 15, descriptorIndex := 16, attributes := #[] }, { accessFlags := 2, nameIndex := 28, descriptorIndex := 16, attributes := #[] }, { accessFlags := 2, nameIndex := 31, descriptorIndex := 16, attributes := #[] }])
  fields := #[{ name := "opinions", type := (.array .int), accessFlags := 18, slot := 0, constantValue := 0 }, { name := "reach", type := .int, accessFlags := 18, slot := 1, constantValue := 0 }, { name := "first", type := .int, accessFlags := 2, slot := 2, constantValue := 0 }, { name := "end", type := .int, accessFlags := 2, slot := 3, constantValue := 0 }]
  methods := #[k3m0, k3m1, k3m2, k3m3]
  instanceTypes := #[(.array .int), .int, .int, .int]
  staticTypes := #[]
  resolved := Array.replicate 58 none
  statics := none }

def pool4 : Array CpInfo := pool [(1, u "java/lang/Cloneable"), (0, .class_ 1), (0, u "java/lang/Object"), (0, .class_ 3)] 3

/-- java/lang/Cloneable -/
def k4 : Class := { plain "java/lang/Cloneable" (some 0) with
  accessFlags := 1537
  interfaces := #[]
  cf := some (fileOf pool4 2 #[] #[] 1537 4 #[] #[])
  fields := #[]
  methods := #[]
  instanceTypes := #[]
  staticTypes := #[]
  resolved := Array.replicate 8 none
  statics := none }

def pool5 : Array CpInfo := pool [(1, u "java/io/Serializable"), (0, .class_ 1), (0, u "java/lang/Object"), (0, .class_ 3)] 3

/-- java/io/Serializable -/
def k5 : Class := { plain "java/io/Serializable" (some 0) with
  accessFlags := 1537
  interfaces := #[]
  cf := some (fileOf pool5 2 #[] #[] 1537 4 #[] #[])
  fields := #[]
  methods := #[]
  instanceTypes := #[]
  staticTypes := #[]
  resolved := Array.replicate 8 none
  statics := none }

/-- the primitive byte -/
def k6 : Class := { plain "byte" none with kind := .primitive 'B', accessFlags := 0x411 }
/-- [B -/
def k7 : Class := { plain "[B" (some 0) with kind := .array 6 .byte, interfaces := #[4, 5], accessFlags := 1041 }

/-- the primitive int -/
def k8 : Class := { plain "int" none with kind := .primitive 'I', accessFlags := 0x411 }
/-- [I -/
def k9 : Class := { plain "[I" (some 0) with kind := .array 8 .int, interfaces := #[4, 5], accessFlags := 1041 }

def heap : Heap := #[]
def classes : Array Class := #[k0, k1, k2, k3, k4, k5, k6, k7, k8, k9]
def interned : List (Array UInt16 × Addr) := []
def slotsUsed : Nat := 0
def theMethod : MethodId := ⟨1, 1⟩
def args0 : Array Value := #[.int 5, .int 6, .int 7, .int 8, .int 9, .int 10]
def aboutOver (below : List Frame) : State where
  vm := { classes := classes, interned := interned.toArray }
  heap := heap
  slotsUsed := slotsUsed
  threads := #[{ frames := .invoking theMethod args0 :: below }]
def below0 : List Frame := [.native { method := ⟨0, 0⟩, args := #[] }]
def about1 : State := aboutOver below0
def p0 : Program := .bare "" "" ""
def e0 : Env := launch0.env 0 0 0
theorem w_frames : about1.frames = Frame.invoking theMethod args0 :: below0 := rfl
set_option maxRecDepth 65536 in
theorem w_args : argsFit about1.vm theMethod args0 = true := by decide +kernel
set_option maxRecDepth 65536 in
theorem w_heap : heapFits about1 = true := by decide +kernel
set_option maxRecDepth 65536 in
theorem w_runnable : about1.curStatus? = some .runnable := by decide +kernel
set_option maxRecDepth 65536 in
theorem w_alone : about1.alone = true := by decide +kernel
set_option maxRecDepth 65536 in
theorem w_named : about1.methodNamed? x = some theMethod := by decide +kernel
set_option maxRecDepth 65536 in
theorem w_hears : about1.hears theMethod below0 = true := by decide +kernel
set_option maxRecDepth 65536 in
theorem w_ripe : about1.ripe theMethod args0 below0 = true := by decide +kernel
theorem w_running : about1.status = .running := rfl
set_option maxRecDepth 65536 in
theorem w_room : about1.hasRoom e0.platform room_1 = true :=
  launch0.hasRoom_least _ room_1 (by decide +kernel) (by decide +kernel) (by decide +kernel) (by decide +kernel) (by decide +kernel) (by decide +kernel)
theorem allAtoms_all (ts : List Jvm.Cond) (a : Array Jvm.Value) (st : Jvm.State) : (allAtoms ts).before a st = ts.all (fun c => c.before a st) := by
  induction ts with
  | nil => rfl
  | cons c t ih =>
    show (Jvm.Cond.and c (allAtoms t)).before a st = _
    rw [Jvm.Cond.before_and, ih, List.all_cons]
def words1 : List Jvm.Cond := Jvm.Cond.code x code maxLocals ret :: tables_1
/-- a 'code' word, met by the world's own term for the bytes: nothing is compared byte by byte -/
theorem code_word {y : MethodName} {bytes : ByteArray} {mx : Nat} {rt : Option FieldType} {a : Array Value} {s : State} {m : MethodId} {meth : Method} {c : Code} (h1 : s.methodNamed? y = some m) (h2 : s.vm.method? m = some meth) (h3 : meth.code = some c) (h4 : c.code = bytes)
    (h5 : (c.maxLocals == mx && c.exceptionTable.isEmpty && decide (c.maxStack ≤ mostOperands) && decide (meth.sig.returnType = rt) && !meth.locks && decide (parseMethodDescriptor y.desc = some meth.sig)) = true) : (Jvm.Cond.code y bytes mx rt).before a s = true := by
  simp only [Bool.and_eq_true, beq_iff_eq, Bool.not_eq_true', decide_eq_true_eq] at h5
  obtain ⟨⟨⟨⟨⟨g1, g2⟩, g3⟩, g4⟩, g5⟩, g6⟩ := h5
  simp [Cond.before, Cond.holds, Cond.value, h1, h2, h3, h4, g1, g2, g3, g4, g5, g6]
def isCode : Jvm.Cond → Bool
  | .code _ _ _ _ => true
  | _ => false
theorem all_split {L : List Jvm.Cond} {P : Jvm.Cond → Bool} (h1 : L.all (fun c => isCode c || P c) = true) (h2 : ∀ c ∈ L.filter isCode, P c = true) : L.all P = true := by
  refine List.all_eq_true.mpr fun c hc => ?_
  have h := List.all_eq_true.mp h1 c hc
  rcases Bool.eq_false_or_eq_true (isCode c) with hi | hi
  · exact h2 c (List.mem_filter.mpr ⟨hc, hi⟩)
  · simpa [hi] using h
set_option maxRecDepth 65536 in
theorem w_c0 : (Jvm.Cond.code x code maxLocals ret).before args0 about1 = true := code_word (m := ⟨1, 1⟩) (meth := k1m1) (c := k1c1) (by decide +kernel) rfl rfl rfl (by decide +kernel)
set_option maxRecDepth 65536 in
theorem w_c1 : (Jvm.Cond.code ({ cls := "java/lang/Math", name := "max", desc := "(II)I" } : Jvm.MethodName) jdk_29_method_65_code (2 : Nat) (Option.some Jvm.ClassFile.FieldType.int)).before args0 about1 = true := code_word (m := ⟨2, 1⟩) (meth := k2m1) (c := k2c1) (by decide +kernel) rfl rfl rfl (by decide +kernel)
set_option maxRecDepth 65536 in
theorem w_c2 : (Jvm.Cond.code ({ cls := "com/example/iken/iken/rank/Window", name := "<init>", desc := "([II)V" } : Jvm.MethodName) prog_34_method_1_code (3 : Nat) (Option.none : Option Jvm.ClassFile.FieldType)).before args0 about1 = true := code_word (m := ⟨3, 0⟩) (meth := k3m0) (c := k3c0) (by decide +kernel) rfl rfl rfl (by decide +kernel)
set_option maxRecDepth 65536 in
theorem w_c3 : (Jvm.Cond.code ({ cls := "java/lang/Object", name := "<init>", desc := "()V" } : Jvm.MethodName) object_method_1_code (1 : Nat) (Option.none : Option Jvm.ClassFile.FieldType)).before args0 about1 = true := code_word (m := ⟨0, 0⟩) (meth := k0m0) (c := k0c0) (by decide +kernel) rfl rfl rfl (by decide +kernel)
set_option maxRecDepth 65536 in
theorem w_c4 : (Jvm.Cond.code ({ cls := "com/example/iken/iken/rank/Window", name := "moveTo", desc := "(I)V" } : Jvm.MethodName) prog_34_method_3_code (2 : Nat) (Option.none : Option Jvm.ClassFile.FieldType)).before args0 about1 = true := code_word (m := ⟨3, 1⟩) (meth := k3m1) (c := k3c1) (by decide +kernel) rfl rfl rfl (by decide +kernel)
set_option maxRecDepth 65536 in
theorem w_c5 : (Jvm.Cond.code ({ cls := "com/example/iken/iken/rank/Window", name := "first", desc := "()I" } : Jvm.MethodName) prog_34_method_4_code (1 : Nat) (Option.some Jvm.ClassFile.FieldType.int)).before args0 about1 = true := code_word (m := ⟨3, 2⟩) (meth := k3m2) (c := k3c2) (by decide +kernel) rfl rfl rfl (by decide +kernel)
set_option maxRecDepth 65536 in
theorem w_c6 : (Jvm.Cond.code ({ cls := "com/example/iken/iken/rank/WindowMoveToPinLaw", name := "before", desc := "(IIIII)I" } : Jvm.MethodName) method_3_code (5 : Nat) (Option.some Jvm.ClassFile.FieldType.int)).before args0 about1 = true := code_word (m := ⟨1, 2⟩) (meth := k1m2) (c := k1c2) (by decide +kernel) rfl rfl rfl (by decide +kernel)
set_option maxRecDepth 65536 in
theorem w_c7 : (Jvm.Cond.code ({ cls := "com/example/iken/iken/rank/WindowMoveToPinLaw", name := "far", desc := "(III)I" } : Jvm.MethodName) method_5_code (3 : Nat) (Option.some Jvm.ClassFile.FieldType.int)).before args0 about1 = true := code_word (m := ⟨1, 4⟩) (meth := k1m4) (c := k1c4) (by decide +kernel) rfl rfl rfl (by decide +kernel)
set_option maxRecDepth 65536 in
theorem w_c8 : (Jvm.Cond.code ({ cls := "com/example/iken/iken/rank/Window", name := "end", desc := "()I" } : Jvm.MethodName) prog_34_method_5_code (1 : Nat) (Option.some Jvm.ClassFile.FieldType.int)).before args0 about1 = true := code_word (m := ⟨3, 3⟩) (meth := k3m3) (c := k3c3) (by decide +kernel) rfl rfl rfl (by decide +kernel)
set_option maxRecDepth 65536 in
theorem w_c9 : (Jvm.Cond.code ({ cls := "com/example/iken/iken/rank/WindowMoveToPinLaw", name := "within", desc := "(IIIII)I" } : Jvm.MethodName) method_4_code (5 : Nat) (Option.some Jvm.ClassFile.FieldType.int)).before args0 about1 = true := code_word (m := ⟨1, 3⟩) (meth := k1m3) (c := k1c3) (by decide +kernel) rfl rfl rfl (by decide +kernel)
set_option maxRecDepth 65536 in
theorem w_c10 : (Jvm.Cond.code ({ cls := "com/example/iken/iken/rank/WindowMoveToPinLaw", name := "near", desc := "(III)I" } : Jvm.MethodName) method_6_code (3 : Nat) (Option.some Jvm.ClassFile.FieldType.int)).before args0 about1 = true := code_word (m := ⟨1, 5⟩) (meth := k1m5) (c := k1c5) (by decide +kernel) rfl rfl rfl (by decide +kernel)
def codes1 : List Jvm.Cond := [Jvm.Cond.code x code maxLocals ret, Jvm.Cond.code ({ cls := "java/lang/Math", name := "max", desc := "(II)I" } : Jvm.MethodName) jdk_29_method_65_code (2 : Nat) (Option.some Jvm.ClassFile.FieldType.int), Jvm.Cond.code ({ cls := "com/example/iken/iken/rank/Window", name := "<init>", desc := "([II)V" } : Jvm.MethodName) prog_34_method_1_code (3 : Nat) (Option.none : Option Jvm.ClassFile.FieldType), Jvm.Cond.code ({ cls := "java/lang/Object", name := "<init>", desc := "()V" } : Jvm.MethodName) object_method_1_code (1 : Nat) (Option.none : Option Jvm.ClassFile.FieldType), Jvm.Cond.code ({ cls := "com/example/iken/iken/rank/Window", name := "moveTo", desc := "(I)V" } : Jvm.MethodName) prog_34_method_3_code (2 : Nat) (Option.none : Option Jvm.ClassFile.FieldType), Jvm.Cond.code ({ cls := "com/example/iken/iken/rank/Window", name := "first", desc := "()I" } : Jvm.MethodName) prog_34_method_4_code (1 : Nat) (Option.some Jvm.ClassFile.FieldType.int), Jvm.Cond.code ({ cls := "com/example/iken/iken/rank/WindowMoveToPinLaw", name := "before", desc := "(IIIII)I" } : Jvm.MethodName) method_3_code (5 : Nat) (Option.some Jvm.ClassFile.FieldType.int), Jvm.Cond.code ({ cls := "com/example/iken/iken/rank/WindowMoveToPinLaw", name := "far", desc := "(III)I" } : Jvm.MethodName) method_5_code (3 : Nat) (Option.some Jvm.ClassFile.FieldType.int), Jvm.Cond.code ({ cls := "com/example/iken/iken/rank/Window", name := "end", desc := "()I" } : Jvm.MethodName) prog_34_method_5_code (1 : Nat) (Option.some Jvm.ClassFile.FieldType.int), Jvm.Cond.code ({ cls := "com/example/iken/iken/rank/WindowMoveToPinLaw", name := "within", desc := "(IIIII)I" } : Jvm.MethodName) method_4_code (5 : Nat) (Option.some Jvm.ClassFile.FieldType.int), Jvm.Cond.code ({ cls := "com/example/iken/iken/rank/WindowMoveToPinLaw", name := "near", desc := "(III)I" } : Jvm.MethodName) method_6_code (3 : Nat) (Option.some Jvm.ClassFile.FieldType.int)]
set_option maxRecDepth 65536 in
theorem codes_eq : words1.filter isCode = codes1 := rfl
theorem w_codes : ∀ c ∈ words1.filter isCode, c.before args0 about1 = true := by
  rw [codes_eq]
  intro c hc
  simp only [codes1, List.mem_cons, List.not_mem_nil, or_false] at hc
  rcases hc with rfl | rfl | rfl | rfl | rfl | rfl | rfl | rfl | rfl | rfl | rfl
  · exact w_c0
  · exact w_c1
  · exact w_c2
  · exact w_c3
  · exact w_c4
  · exact w_c5
  · exact w_c6
  · exact w_c7
  · exact w_c8
  · exact w_c9
  · exact w_c10
set_option maxRecDepth 65536 in
theorem w_t1 : (words1.take 24).all (fun c => isCode c || c.before args0 about1) = true := by decide +kernel
set_option maxRecDepth 65536 in
theorem w_t2 : ((words1.drop 24).take 24).all (fun c => isCode c || c.before args0 about1) = true := by decide +kernel
set_option maxRecDepth 65536 in
theorem w_t3 : ((words1.drop 24).drop 24).all (fun c => isCode c || c.before args0 about1) = true := by decide +kernel
theorem w_tables : (allAtoms (Jvm.Cond.code x code maxLocals ret :: tables_1)).before args0 about1 = true := by
  rw [allAtoms_all]
  show words1.all (fun c => c.before args0 about1) = true
  refine all_split ?_ w_codes
  rw [← List.take_append_drop 24 words1, List.all_append, w_t1, ← List.take_append_drop 24 (words1.drop 24), List.all_append, w_t2, w_t3]
  rfl
set_option maxRecDepth 65536 in
theorem w_case : (Jvm.Cond.and given_1 narrow_1).before args0 about1 = true := by decide +kernel
theorem w_applies : (headSpec (Jvm.Cond.code x code maxLocals ret :: tables_1) room_1).applies x e0.platform about1 = true :=
  (Spec.applies_iff w_frames).mpr ⟨w_running, w_runnable, w_alone, w_named, w_hears, w_ripe, w_room, w_tables⟩
theorem atStart : AtStart classFile x code maxLocals ret World_1 tables_1 room_1 Calls_1 rest_1 Pre_1 launch0 p0 e0 about1 theMethod args0 below0 :=
  ⟨lists_1, trivial, launch0.admits_env _ _ _, launch0.least_env, fairChoices_fair.cas, fairChoices_fair.clock, w_frames, w_args, w_heap, w_applies, trivial, trivial, w_case⟩
end start1
theorem witness_1 : WitnessClaimed_1 := ⟨start1.p0, start1.e0, start1.about1, start1.theMethod, start1.args0, start1.below0, start1.atStart⟩
end Jvm.Pilot.@@N@@
