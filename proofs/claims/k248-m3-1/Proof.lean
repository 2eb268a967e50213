import JvmDerived
import JvmDerived.Pilot.@@N@@Statement
import JvmDerived.Pilot.@@N@@Code
set_option linter.unusedVariables false
set_option linter.unusedSimpArgs false
namespace Jvm.Pilot.@@N@@
open Jvm Jvm.ClassFile Sem Op Lib Jvm.Free Jvm.Stand Jvm.LawKit Jvm.RoadKit Bundle Jvm.Pilot.@@N@@.Jvm.D
theorem own_ne_arr {Z : State} {h : Heap} {a b : Addr} {C : String} {a0 : Array Value} {kk : Nat} {k : ClassId} {ty : FieldType} {n : Int32} {vs : List Value} {d : Value} (F : Exa Z h a C) (wi : (Cond.instantiable C kk).before a0 Z = true) (V : Arv Z h b k ty n vs d) : a ≠ b := by
  obtain ⟨c, A, -⟩ := V
  exact ne_arr F wi A
theorem own_cast {tb : Tables} {e : Env} {below : List Frame} {t : State} {A : Type} (f : A → State) {a b : A} (h : a = b) (k : Steps tb e below (f b) t) : Steps tb e below (f a) t := h ▸ k
theorem d1_0 : decode prog_152_method_18_code 0 = .ok (.lload_n 0, 1) := by decide +kernel
theorem d1_1 : decode prog_152_method_18_code 1 = .ok (.ldc2_w 158, 3) := by decide +kernel
theorem d1_4 : decode prog_152_method_18_code 4 = .ok (.lload_n 2, 1) := by decide +kernel
theorem d1_5 : decode prog_152_method_18_code 5 = .ok (.lsub, 1) := by decide +kernel
theorem d1_6 : decode prog_152_method_18_code 6 = .ok (.lcmp, 1) := by decide +kernel
theorem d1_7 : decode prog_152_method_18_code 7 = .ok (.ifCond .le 9, 3) := by decide +kernel
theorem d1_10 : decode prog_152_method_18_code 10 = .ok (.ldc2_w 158, 3) := by decide +kernel
theorem d1_13 : decode prog_152_method_18_code 13 = .ok (.goto 6, 3) := by decide +kernel
theorem d1_16 : decode prog_152_method_18_code 16 = .ok (.lload_n 0, 1) := by decide +kernel
theorem d1_17 : decode prog_152_method_18_code 17 = .ok (.lload_n 2, 1) := by decide +kernel
theorem d1_18 : decode prog_152_method_18_code 18 = .ok (.ladd, 1) := by decide +kernel
def own_sat (u1 : Int64) (u2 : Int64) : Int64 := (if ((9223372036854775807 : Int64) - u2) < u1 then (9223372036854775807 : Int64) else (u1 + u2))
theorem d1_19 : decode prog_152_method_18_code 19 = .ok (.lreturn, 1) := by decide +kernel
theorem ef_rmSat (m : MethodId) (x0 : Int64) (x1 : Int64) : entryFrame m #[(.long x0), (.long x1)] 4 = mkF m 0 #[.val (.long x0), .second, .val (.long x1), .second] [] := by first | (simp [entryFrame, mkF, argsToLocals, Value.category]; done) | rfl
def QSat (Z : State) (u1 : Int64) (u2 : Int64) (h0 : Heap) (n0 : Nat) (v : Option Value) (h : Heap) (L : List Loc) : Prop := v = some (.long (own_sat u1 u2)) ∧ Fr n0 L ∧ h = h0
theorem pn_0 : plainName "com/example/even_keel/evenkeel/workflow/JobGraph" = true := by first | (simp [plainName, overriddenIn]; done) | decide +kernel
set_option maxRecDepth 65536 in
set_option maxHeartbeats 40000000 in
theorem rmSat (l : Launch) (Z : State) (a0 : Array Value) (hw : ∀ d ∈ tables_1, d.before a0 Z = true) (ws : List Jvm.Cond) (u1 : Int64) (u2 : Int64) (h0 : Heap) (n0 : Nat) (Z0 : n0 ≤ h0.size)  :
    MetFree l (⟨"com/example/even_keel/evenkeel/workflow/JobGraph", "saturatedSum", "(JJ)J"⟩ : MethodName) (head1 (Jvm.Cond.code (⟨"com/example/even_keel/evenkeel/workflow/JobGraph", "saturatedSum", "(JJ)J"⟩ : MethodName) prog_152_method_18_code 4 (some .long) :: ws) ({ frames := 0, cells := 0, slots := 0, locals := 0 } : Room)) (fun a U => a = #[(.long u1), (.long u2)] ∧ Z.Warmed39 U.vm ∧ U.heap = h0) (fun _ _ _ _ _ => True) (fun _ U o U' => ∃ v L, o = .returned v ∧ QSat Z u1 u2 h0 n0 v U'.heap L ∧ FrameEnd U o U' L ({ frames := 0, cells := 0, slots := 0, locals := 0 } : Room).cells ({ frames := 0, cells := 0, slots := 0, locals := 0 } : Room).slots) := by
  refine MetFree.of_bodySF (plainFor_of_name pn_0) hisR ?_
  intro p e s m args below meth c s₁ Bd hml0 hP hK
  obtain ⟨rfl, hZ, hh⟩ := hP
  have hx := Bd.exec
  have hby := Bd.bytes
  have hml : c.maxLocals = 4 := hml0
  have hown : s.vm.findClass "com/example/even_keel/evenkeel/workflow/JobGraph" = some m.cls := findClass_of_methodNamed Bd.named
  have hnm := (name_of_methodNamed Bd.named Bd.method).1
  have X0 : Stand p l e ({ frames := 0, cells := 0, slots := 0, locals := 0 } : Room) s m #[(.long u1), (.long u2)] below meth c s₁ [] 0 0 := Stand.of_body Bd
  have e0 : s₁.heap = h0 := by rw [← hh, Bd.state]; rfl
  have N0 := Fr.nil n0
  have pre0 : ∀ t, Steps p.tables e below (s₁.setTop (mkF m 0 #[.val (.long u1), .second, .val (.long u2), .second] [])) t → Steps p.tables e below (s₁.setTop (entryFrame m #[(.long u1), (.long u2)] 4)) t := fun t kk => castTop (ef_rmSat m u1 u2) kk
  have pre1 : ∀ t, Steps p.tables e below (s₁.setTop (mkF m 7 #[.val (.long u1), .second, .val (.long u2), .second] [(.int (lcmpW u1 ((9223372036854775807 : Int64) - u2)))])) t → Steps p.tables e below (s₁.setTop (entryFrame m #[(.long u1), (.long u2)] 4)) t := fun t kk => pre0 t (by
      show Steps p.tables e below (s₁.setTop (mkF m 0 #[.val (.long u1), .second, .val (.long u2), .second] [])) _
      refine XS.lloadN X0.here hx rfl (hb hby d1_0) rfl ?_
      show Steps p.tables e below (s₁.setTop (mkF m 1 #[.val (.long u1), .second, .val (.long u2), .second] [(.long u1)])) _
      refine X0.ldc2Long hx hown (mvT hZ (hw _ (List.mem_of_getElem? (i := 5) rfl))) (g := (mkF m 1 #[.val (.long u1), .second, .val (.long u2), .second] [(.long u1)])) rfl (hb hby d1_1) _ ?_
      show Steps p.tables e below (s₁.setTop (mkF m 4 #[.val (.long u1), .second, .val (.long u2), .second] [(.long (9223372036854775807 : Int64)), (.long u1)])) _
      refine XS.lloadN X0.here hx rfl (hb hby d1_4) rfl ?_
      show Steps p.tables e below (s₁.setTop (mkF m 5 #[.val (.long u1), .second, .val (.long u2), .second] [(.long u2), (.long (9223372036854775807 : Int64)), (.long u1)])) _
      refine XS.lsub X0.here hx rfl (hb hby d1_5) rfl ?_
      show Steps p.tables e below (s₁.setTop (mkF m 6 #[.val (.long u1), .second, .val (.long u2), .second] [(.long ((9223372036854775807 : Int64) - u2)), (.long u1)])) _
      refine XS.lcmp X0.here hx rfl (hb hby d1_6) rfl ?_
      exact kk)
  by_cases hc2 : ((9223372036854775807 : Int64) - u2) < u1
  · have pre3 : ∀ t, Steps p.tables e below (s₁.setTop (mkF m 19 #[.val (.long u1), .second, .val (.long u2), .second] [(.long (9223372036854775807 : Int64))])) t → Steps p.tables e below (s₁.setTop (entryFrame m #[(.long u1), (.long u2)] 4)) t := fun t kk => pre1 t (by
        show Steps p.tables e below (s₁.setTop (mkF m 7 #[.val (.long u1), .second, .val (.long u2), .second] [(.int (lcmpW u1 ((9223372036854775807 : Int64) - u2)))])) _
        refine XS.ifNo X0.here hx rfl (hb hby d1_7) rfl (Jvm.Free.XT.ll_le_f hc2) ?_
        show Steps p.tables e below (s₁.setTop (mkF m 10 #[.val (.long u1), .second, .val (.long u2), .second] [])) _
        refine X0.ldc2Long hx hown (mvT hZ (hw _ (List.mem_of_getElem? (i := 5) rfl))) (g := (mkF m 10 #[.val (.long u1), .second, .val (.long u2), .second] [])) rfl (hb hby d1_10) _ ?_
        show Steps p.tables e below (s₁.setTop (mkF m 13 #[.val (.long u1), .second, .val (.long u2), .second] [(.long (9223372036854775807 : Int64))])) _
        refine XS.goto X0.here hx rfl (pc0 := 13) (pc' := 19) rfl (hb hby d1_13) (by decide) (by decide) ?_
        exact kk)
    obtain ⟨fs, hr, hrun, hended, hW, hsame⟩ := X0.leave (v := some (.long (9223372036854775807 : Int64))) (fun h => by rw [Bd.returns] at h; cases h)
    refine ⟨_, _, pre3 _ ?_, hrun, hended, _, _, rfl, ?_, ⟨_, rfl⟩, hW, hsame.mono (by decide) (by decide)⟩
    · show Steps p.tables e below (s₁.setTop (mkF m 19 #[.val (.long u1), .second, .val (.long u2), .second] [(.long (9223372036854775807 : Int64))])) _
      exact retOut X0 hx Bd.returns rfl (Or.inr (Or.inl ⟨rfl, rfl, _, rfl⟩)) (hb hby d1_19) hr
    · show QSat Z u1 u2 h0 n0 _ s₁.heap _
      rw [e0]
      exact ⟨(by unfold own_sat; rw [if_pos hc2]), N0, rfl⟩
  · have pre4 : ∀ t, Steps p.tables e below (s₁.setTop (mkF m 19 #[.val (.long u1), .second, .val (.long u2), .second] [(.long (u1 + u2))])) t → Steps p.tables e below (s₁.setTop (entryFrame m #[(.long u1), (.long u2)] 4)) t := fun t kk => pre1 t (by
        show Steps p.tables e below (s₁.setTop (mkF m 7 #[.val (.long u1), .second, .val (.long u2), .second] [(.int (lcmpW u1 ((9223372036854775807 : Int64) - u2)))])) _
        refine XS.ifYes X0.here hx rfl (pc0 := 7) (pc' := 16) rfl (hb hby d1_7) rfl (Jvm.Free.XT.ll_le_t hc2) (by decide) (by decide) ?_
        show Steps p.tables e below (s₁.setTop (mkF m 16 #[.val (.long u1), .second, .val (.long u2), .second] [])) _
        refine XS.lloadN X0.here hx rfl (hb hby d1_16) rfl ?_
        show Steps p.tables e below (s₁.setTop (mkF m 17 #[.val (.long u1), .second, .val (.long u2), .second] [(.long u1)])) _
        refine XS.lloadN X0.here hx rfl (hb hby d1_17) rfl ?_
        show Steps p.tables e below (s₁.setTop (mkF m 18 #[.val (.long u1), .second, .val (.long u2), .second] [(.long u2), (.long u1)])) _
        refine XS.ladd X0.here hx rfl (hb hby d1_18) rfl ?_
        exact kk)
    obtain ⟨fs, hr, hrun, hended, hW, hsame⟩ := X0.leave (v := some (.long (u1 + u2))) (fun h => by rw [Bd.returns] at h; cases h)
    refine ⟨_, _, pre4 _ ?_, hrun, hended, _, _, rfl, ?_, ⟨_, rfl⟩, hW, hsame.mono (by decide) (by decide)⟩
    · show Steps p.tables e below (s₁.setTop (mkF m 19 #[.val (.long u1), .second, .val (.long u2), .second] [(.long (u1 + u2))])) _
      exact retOut X0 hx Bd.returns rfl (Or.inr (Or.inl ⟨rfl, rfl, _, rfl⟩)) (hb hby d1_19) hr
    · show QSat Z u1 u2 h0 n0 _ s₁.heap _
      rw [e0]
      exact ⟨(by unfold own_sat; rw [if_neg hc2]), N0, rfl⟩
theorem own_law (a b : Int64) (ha : ¬ a < 0) (hb : ¬ b < 0) : own_sat a b = (if a + b < 0 then 9223372036854775807 else a + b) := by
  have hm : (9223372036854775807 : Int64).toInt = 9223372036854775807 := by decide
  have ha1 := Int64.toInt_lt a
  have hb1 := Int64.toInt_lt b
  rw [Jvm.Free.XT.negI64] at ha hb
  have hs : ((9223372036854775807 : Int64) - b).toInt = 9223372036854775807 - b.toInt := by
    rw [Jvm.Free.XT.sub64 ⟨by omega, by omega⟩, hm]
  unfold own_sat
  by_cases h : a.toInt + b.toInt < 9223372036854775808
  · have h1 : (a + b).toInt = a.toInt + b.toInt := Jvm.Free.XT.add64 ⟨by omega, by omega⟩
    rw [if_neg (by rw [Int64.lt_iff_toInt_lt, hs]; omega), if_neg (by rw [Jvm.Free.XT.negI64, h1]; omega)]
  · have h1 : (a + b).toInt = a.toInt + b.toInt - 18446744073709551616 := by
      rw [Int64.toInt_add, Int.bmod_def]
      have e1 : (a.toInt + b.toInt) % ((2 ^ 64 : Nat) : Int) = a.toInt + b.toInt := Int.emod_eq_of_lt (by omega) (by omega)
      rw [e1, if_neg (by omega)]
      omega
    rw [if_pos (by rw [Int64.lt_iff_toInt_lt, hs]; omega), if_pos (by rw [Jvm.Free.XT.negI64, h1]; omega)]
theorem own_nn (x : Int64) : ¬ (x &&& 9223372036854775807) < 0 := by
  rw [Jvm.Free.XT.and_neg64]
  intro h
  exact absurd h.2 (by decide)
theorem pd_0 : parseMethodDescriptor "(JJ)J" = some ⟨[.long, .long], some .long⟩ := by decide +kernel
theorem ef_rm0 (m : MethodId) (x0 : Int64) (x1 : Int64) : entryFrame m #[(.long x0), (.long x1)] maxLocals = mkF m 0 #[.val (.long x0), .second, .val (.long x1), .second, .unset, .unset, .unset, .unset, .unset, .unset, .unset, .unset, .unset, .unset] [] := by first | (simp [entryFrame, mkF, argsToLocals, Value.category, maxLocals]; done) | rfl
def Q0 (Z : State) (p0 : Int64) (p1 : Int64) (h0 : Heap) (n0 : Nat) (v : Option Value) (h : Heap) (L : List Loc) : Prop := v = some (.int (1 : Int32)) ∧ Fr n0 L ∧ Keep h0 h []
theorem pn_1 : plainName "com/example/even_keel/evenkeel/workflow/JobGraphSaturatedSumPinLaw" = true := by first | (simp [plainName, overriddenIn]; done) | decide +kernel
set_option maxRecDepth 65536 in
set_option maxHeartbeats 40000000 in
theorem rm0 (l : Launch) (Z : State) (a0 : Array Value) (hw : ∀ d ∈ tables_1, d.before a0 Z = true) (ws : List Jvm.Cond) (p0 : Int64) (p1 : Int64) (h0 : Heap) (n0 : Nat) (Z0 : n0 ≤ h0.size)  :
    MetFree l x (head1 (Jvm.Cond.code x code maxLocals ret :: ws) room_1) (fun a U => a = #[(.long p0), (.long p1)] ∧ Z.Warmed39 U.vm ∧ U.heap = h0) (fun _ _ _ _ _ => True) (fun _ U o U' => ∃ v L, o = .returned v ∧ Q0 Z p0 p1 h0 n0 v U'.heap L ∧ FrameEnd U o U' L room_1.cells room_1.slots) := by
  refine MetFree.of_bodySF (plainFor_of_name pn_1) hisR ?_
  intro p e s m args below meth c s₁ Bd hml0 hP hK
  obtain ⟨rfl, hZ, hh⟩ := hP
  have hx := Bd.exec
  have hby := Bd.bytes
  have hml : c.maxLocals = 14 := hml0
  have hown : s.vm.findClass "com/example/even_keel/evenkeel/workflow/JobGraphSaturatedSumPinLaw" = some m.cls := findClass_of_methodNamed Bd.named
  have hnm := (name_of_methodNamed Bd.named Bd.method).1
  have X0 : Stand p l e room_1 s m #[(.long p0), (.long p1)] below meth c s₁ [] 0 0 := Stand.of_body Bd
  have e0 : s₁.heap = h0 := by rw [← hh, Bd.state]; rfl
  have N0 := Fr.nil n0
  have pre0 : ∀ t, Steps p.tables e below (s₁.setTop (mkF m 0 #[.val (.long p0), .second, .val (.long p1), .second, .unset, .unset, .unset, .unset, .unset, .unset, .unset, .unset, .unset, .unset] [])) t → Steps p.tables e below (s₁.setTop (entryFrame m #[(.long p0), (.long p1)] maxLocals)) t := fun t kk => castTop (ef_rm0 m p0 p1) kk
  have pre5 : ∀ t, Steps p.tables e below (s₁.setTop (mkF m 25 #[.val (.long p0), .second, .val (.long p1), .second, .val (.long (p0 &&& (9223372036854775807 : Int64))), .second, .val (.long (p1 &&& (9223372036854775807 : Int64))), .second, .val (.long ((p0 &&& (9223372036854775807 : Int64)) + (p1 &&& (9223372036854775807 : Int64)))), .second, .unset, .unset, .unset, .unset] [(.int (lcmpW ((p0 &&& (9223372036854775807 : Int64)) + (p1 &&& (9223372036854775807 : Int64))) (0 : Int64)))])) t → Steps p.tables e below (s₁.setTop (entryFrame m #[(.long p0), (.long p1)] maxLocals)) t := fun t kk => pre0 t (by
      show Steps p.tables e below (s₁.setTop (mkF m 0 #[.val (.long p0), .second, .val (.long p1), .second, .unset, .unset, .unset, .unset, .unset, .unset, .unset, .unset, .unset, .unset] [])) _
      refine XS.lloadN X0.here hx rfl (hb hby at_0) rfl ?_
      show Steps p.tables e below (s₁.setTop (mkF m 1 #[.val (.long p0), .second, .val (.long p1), .second, .unset, .unset, .unset, .unset, .unset, .unset, .unset, .unset, .unset, .unset] [(.long p0)])) _
      refine X0.ldc2Long hx hown (mvT hZ (hw _ (List.mem_of_getElem? (i := 0) rfl))) (g := (mkF m 1 #[.val (.long p0), .second, .val (.long p1), .second, .unset, .unset, .unset, .unset, .unset, .unset, .unset, .unset, .unset, .unset] [(.long p0)])) rfl (hb hby at_1) _ ?_
      show Steps p.tables e below (s₁.setTop (mkF m 4 #[.val (.long p0), .second, .val (.long p1), .second, .unset, .unset, .unset, .unset, .unset, .unset, .unset, .unset, .unset, .unset] [(.long (9223372036854775807 : Int64)), (.long p0)])) _
      refine XS.land X0.here hx rfl (hb hby at_4) rfl ?_
      show Steps p.tables e below (s₁.setTop (mkF m 5 #[.val (.long p0), .second, .val (.long p1), .second, .unset, .unset, .unset, .unset, .unset, .unset, .unset, .unset, .unset, .unset] [(.long (p0 &&& (9223372036854775807 : Int64)))])) _
      refine XS.lstore X0.here hx rfl (hb hby at_5) rfl (l' := #[.val (.long p0), .second, .val (.long p1), .second, .val (.long (p0 &&& (9223372036854775807 : Int64))), .second, .unset, .unset, .unset, .unset, .unset, .unset, .unset, .unset]) rfl ?_
      show Steps p.tables e below (s₁.setTop (mkF m 7 #[.val (.long p0), .second, .val (.long p1), .second, .val (.long (p0 &&& (9223372036854775807 : Int64))), .second, .unset, .unset, .unset, .unset, .unset, .unset, .unset, .unset] [])) _
      refine XS.lloadN X0.here hx rfl (hb hby at_7) rfl ?_
      show Steps p.tables e below (s₁.setTop (mkF m 8 #[.val (.long p0), .second, .val (.long p1), .second, .val (.long (p0 &&& (9223372036854775807 : Int64))), .second, .unset, .unset, .unset, .unset, .unset, .unset, .unset, .unset] [(.long p1)])) _
      refine X0.ldc2Long hx hown (mvT hZ (hw _ (List.mem_of_getElem? (i := 0) rfl))) (g := (mkF m 8 #[.val (.long p0), .second, .val (.long p1), .second, .val (.long (p0 &&& (9223372036854775807 : Int64))), .second, .unset, .unset, .unset, .unset, .unset, .unset, .unset, .unset] [(.long p1)])) rfl (hb hby at_8) _ ?_
      show Steps p.tables e below (s₁.setTop (mkF m 11 #[.val (.long p0), .second, .val (.long p1), .second, .val (.long (p0 &&& (9223372036854775807 : Int64))), .second, .unset, .unset, .unset, .unset, .unset, .unset, .unset, .unset] [(.long (9223372036854775807 : Int64)), (.long p1)])) _
      refine XS.land X0.here hx rfl (hb hby at_11) rfl ?_
      show Steps p.tables e below (s₁.setTop (mkF m 12 #[.val (.long p0), .second, .val (.long p1), .second, .val (.long (p0 &&& (9223372036854775807 : Int64))), .second, .unset, .unset, .unset, .unset, .unset, .unset, .unset, .unset] [(.long (p1 &&& (9223372036854775807 : Int64)))])) _
      refine XS.lstore X0.here hx rfl (hb hby at_12) rfl (l' := #[.val (.long p0), .second, .val (.long p1), .second, .val (.long (p0 &&& (9223372036854775807 : Int64))), .second, .val (.long (p1 &&& (9223372036854775807 : Int64))), .second, .unset, .unset, .unset, .unset, .unset, .unset]) rfl ?_
      show Steps p.tables e below (s₁.setTop (mkF m 14 #[.val (.long p0), .second, .val (.long p1), .second, .val (.long (p0 &&& (9223372036854775807 : Int64))), .second, .val (.long (p1 &&& (9223372036854775807 : Int64))), .second, .unset, .unset, .unset, .unset, .unset, .unset] [])) _
      refine XS.lload X0.here hx rfl (hb hby at_14) rfl ?_
      show Steps p.tables e below (s₁.setTop (mkF m 16 #[.val (.long p0), .second, .val (.long p1), .second, .val (.long (p0 &&& (9223372036854775807 : Int64))), .second, .val (.long (p1 &&& (9223372036854775807 : Int64))), .second, .unset, .unset, .unset, .unset, .unset, .unset] [(.long (p0 &&& (9223372036854775807 : Int64)))])) _
      refine XS.lload X0.here hx rfl (hb hby at_16) rfl ?_
      show Steps p.tables e below (s₁.setTop (mkF m 18 #[.val (.long p0), .second, .val (.long p1), .second, .val (.long (p0 &&& (9223372036854775807 : Int64))), .second, .val (.long (p1 &&& (9223372036854775807 : Int64))), .second, .unset, .unset, .unset, .unset, .unset, .unset] [(.long (p1 &&& (9223372036854775807 : Int64))), (.long (p0 &&& (9223372036854775807 : Int64)))])) _
      refine XS.ladd X0.here hx rfl (hb hby at_18) rfl ?_
      show Steps p.tables e below (s₁.setTop (mkF m 19 #[.val (.long p0), .second, .val (.long p1), .second, .val (.long (p0 &&& (9223372036854775807 : Int64))), .second, .val (.long (p1 &&& (9223372036854775807 : Int64))), .second, .unset, .unset, .unset, .unset, .unset, .unset] [(.long ((p0 &&& (9223372036854775807 : Int64)) + (p1 &&& (9223372036854775807 : Int64))))])) _
      refine XS.lstore X0.here hx rfl (hb hby at_19) rfl (l' := #[.val (.long p0), .second, .val (.long p1), .second, .val (.long (p0 &&& (9223372036854775807 : Int64))), .second, .val (.long (p1 &&& (9223372036854775807 : Int64))), .second, .val (.long ((p0 &&& (9223372036854775807 : Int64)) + (p1 &&& (9223372036854775807 : Int64)))), .second, .unset, .unset, .unset, .unset]) rfl ?_
      show Steps p.tables e below (s₁.setTop (mkF m 21 #[.val (.long p0), .second, .val (.long p1), .second, .val (.long (p0 &&& (9223372036854775807 : Int64))), .second, .val (.long (p1 &&& (9223372036854775807 : Int64))), .second, .val (.long ((p0 &&& (9223372036854775807 : Int64)) + (p1 &&& (9223372036854775807 : Int64)))), .second, .unset, .unset, .unset, .unset] [])) _
      refine XS.lload X0.here hx rfl (hb hby at_21) rfl ?_
      show Steps p.tables e below (s₁.setTop (mkF m 23 #[.val (.long p0), .second, .val (.long p1), .second, .val (.long (p0 &&& (9223372036854775807 : Int64))), .second, .val (.long (p1 &&& (9223372036854775807 : Int64))), .second, .val (.long ((p0 &&& (9223372036854775807 : Int64)) + (p1 &&& (9223372036854775807 : Int64)))), .second, .unset, .unset, .unset, .unset] [(.long ((p0 &&& (9223372036854775807 : Int64)) + (p1 &&& (9223372036854775807 : Int64))))])) _
      refine XS.lconst X0.here hx rfl (hb hby at_23) ?_
      show Steps p.tables e below (s₁.setTop (mkF m 24 #[.val (.long p0), .second, .val (.long p1), .second, .val (.long (p0 &&& (9223372036854775807 : Int64))), .second, .val (.long (p1 &&& (9223372036854775807 : Int64))), .second, .val (.long ((p0 &&& (9223372036854775807 : Int64)) + (p1 &&& (9223372036854775807 : Int64)))), .second, .unset, .unset, .unset, .unset] [(.long (0 : Int64)), (.long ((p0 &&& (9223372036854775807 : Int64)) + (p1 &&& (9223372036854775807 : Int64))))])) _
      refine XS.lcmp X0.here hx rfl (hb hby at_24) rfl ?_
      exact kk)
  obtain ⟨v9, hv_v9, pre10j⟩ : ∃ (v9 : Int64), v9 = (if ((p0 &&& (9223372036854775807 : Int64)) + (p1 &&& (9223372036854775807 : Int64))) < (0 : Int64) then (9223372036854775807 : Int64) else ((p0 &&& (9223372036854775807 : Int64)) + (p1 &&& (9223372036854775807 : Int64)))) ∧ ∀ t, Steps p.tables e below (s₁.setTop (mkF m 36 #[.val (.long p0), .second, .val (.long p1), .second, .val (.long (p0 &&& (9223372036854775807 : Int64))), .second, .val (.long (p1 &&& (9223372036854775807 : Int64))), .second, .val (.long ((p0 &&& (9223372036854775807 : Int64)) + (p1 &&& (9223372036854775807 : Int64)))), .second, .unset, .unset, .unset, .unset] [(.long v9)])) t → Steps p.tables e below (s₁.setTop (entryFrame m #[(.long p0), (.long p1)] maxLocals)) t := by
    by_cases hc6 : ((p0 &&& (9223372036854775807 : Int64)) + (p1 &&& (9223372036854775807 : Int64))) < (0 : Int64)
    · have pre7 : ∀ t, Steps p.tables e below (s₁.setTop (mkF m 36 #[.val (.long p0), .second, .val (.long p1), .second, .val (.long (p0 &&& (9223372036854775807 : Int64))), .second, .val (.long (p1 &&& (9223372036854775807 : Int64))), .second, .val (.long ((p0 &&& (9223372036854775807 : Int64)) + (p1 &&& (9223372036854775807 : Int64)))), .second, .unset, .unset, .unset, .unset] [(.long (9223372036854775807 : Int64))])) t → Steps p.tables e below (s₁.setTop (entryFrame m #[(.long p0), (.long p1)] maxLocals)) t := fun t kk => pre5 t (by
          show Steps p.tables e below (s₁.setTop (mkF m 25 #[.val (.long p0), .second, .val (.long p1), .second, .val (.long (p0 &&& (9223372036854775807 : Int64))), .second, .val (.long (p1 &&& (9223372036854775807 : Int64))), .second, .val (.long ((p0 &&& (9223372036854775807 : Int64)) + (p1 &&& (9223372036854775807 : Int64)))), .second, .unset, .unset, .unset, .unset] [(.int (lcmpW ((p0 &&& (9223372036854775807 : Int64)) + (p1 &&& (9223372036854775807 : Int64))) (0 : Int64)))])) _
          refine XS.ifNo X0.here hx rfl (hb hby at_25) rfl (Jvm.Free.XT.ll_ge_f hc6) ?_
          show Steps p.tables e below (s₁.setTop (mkF m 28 #[.val (.long p0), .second, .val (.long p1), .second, .val (.long (p0 &&& (9223372036854775807 : Int64))), .second, .val (.long (p1 &&& (9223372036854775807 : Int64))), .second, .val (.long ((p0 &&& (9223372036854775807 : Int64)) + (p1 &&& (9223372036854775807 : Int64)))), .second, .unset, .unset, .unset, .unset] [])) _
          refine X0.ldc2Long hx hown (mvT hZ (hw _ (List.mem_of_getElem? (i := 0) rfl))) (g := (mkF m 28 #[.val (.long p0), .second, .val (.long p1), .second, .val (.long (p0 &&& (9223372036854775807 : Int64))), .second, .val (.long (p1 &&& (9223372036854775807 : Int64))), .second, .val (.long ((p0 &&& (9223372036854775807 : Int64)) + (p1 &&& (9223372036854775807 : Int64)))), .second, .unset, .unset, .unset, .unset] [])) rfl (hb hby at_28) _ ?_
          show Steps p.tables e below (s₁.setTop (mkF m 31 #[.val (.long p0), .second, .val (.long p1), .second, .val (.long (p0 &&& (9223372036854775807 : Int64))), .second, .val (.long (p1 &&& (9223372036854775807 : Int64))), .second, .val (.long ((p0 &&& (9223372036854775807 : Int64)) + (p1 &&& (9223372036854775807 : Int64)))), .second, .unset, .unset, .unset, .unset] [(.long (9223372036854775807 : Int64))])) _
          refine XS.goto X0.here hx rfl (pc0 := 31) (pc' := 36) rfl (hb hby at_31) (by decide) (by decide) ?_
          exact kk)
      exact ⟨(9223372036854775807 : Int64), (by rw [if_pos hc6]), pre7⟩
    · have pre8 : ∀ t, Steps p.tables e below (s₁.setTop (mkF m 36 #[.val (.long p0), .second, .val (.long p1), .second, .val (.long (p0 &&& (9223372036854775807 : Int64))), .second, .val (.long (p1 &&& (9223372036854775807 : Int64))), .second, .val (.long ((p0 &&& (9223372036854775807 : Int64)) + (p1 &&& (9223372036854775807 : Int64)))), .second, .unset, .unset, .unset, .unset] [(.long ((p0 &&& (9223372036854775807 : Int64)) + (p1 &&& (9223372036854775807 : Int64))))])) t → Steps p.tables e below (s₁.setTop (entryFrame m #[(.long p0), (.long p1)] maxLocals)) t := fun t kk => pre5 t (by
          show Steps p.tables e below (s₁.setTop (mkF m 25 #[.val (.long p0), .second, .val (.long p1), .second, .val (.long (p0 &&& (9223372036854775807 : Int64))), .second, .val (.long (p1 &&& (9223372036854775807 : Int64))), .second, .val (.long ((p0 &&& (9223372036854775807 : Int64)) + (p1 &&& (9223372036854775807 : Int64)))), .second, .unset, .unset, .unset, .unset] [(.int (lcmpW ((p0 &&& (9223372036854775807 : Int64)) + (p1 &&& (9223372036854775807 : Int64))) (0 : Int64)))])) _
          refine XS.ifYes X0.here hx rfl (pc0 := 25) (pc' := 34) rfl (hb hby at_25) rfl (Jvm.Free.XT.ll_ge_t hc6) (by decide) (by decide) ?_
          show Steps p.tables e below (s₁.setTop (mkF m 34 #[.val (.long p0), .second, .val (.long p1), .second, .val (.long (p0 &&& (9223372036854775807 : Int64))), .second, .val (.long (p1 &&& (9223372036854775807 : Int64))), .second, .val (.long ((p0 &&& (9223372036854775807 : Int64)) + (p1 &&& (9223372036854775807 : Int64)))), .second, .unset, .unset, .unset, .unset] [])) _
          refine XS.lload X0.here hx rfl (hb hby at_34) rfl ?_
          exact kk)
      exact ⟨((p0 &&& (9223372036854775807 : Int64)) + (p1 &&& (9223372036854775807 : Int64))), (by rw [if_neg hc6]), pre8⟩
  obtain ⟨_, _, ⟨T11, L11, k11, n11⟩, -, X11, ⟨Lc11, hQ11, l11, y11, z11⟩, st11⟩ := Jvm.LawKit.callS X0 hx (y := (⟨"com/example/even_keel/evenkeel/workflow/JobGraph", "saturatedSum", "(JJ)J"⟩ : MethodName)) hown (mvT hZ (hw _ (List.mem_of_getElem? (i := 1) rfl))) (mvT hZ (hw _ (List.mem_of_getElem? (i := 2) rfl))) (mvT hZ (hw _ (List.mem_of_getElem? (i := 3) rfl))) (mvT hZ (hw _ (List.mem_of_getElem? (i := 4) rfl))) (by decide) (backOf (W := 0) (rmSat l Z a0 hw [] (p0 &&& (9223372036854775807 : Int64)) (p1 &&& (9223372036854775807 : Int64)) h0 n0 Z0) hZ (hw _ (List.mem_of_getElem? (i := 4) rfl)) (hw _ (List.mem_of_getElem? (i := 3) rfl)) (by decide) (by decide)) (g := (mkF m 42 #[.val (.long p0), .second, .val (.long p1), .second, .val (.long (p0 &&& (9223372036854775807 : Int64))), .second, .val (.long (p1 &&& (9223372036854775807 : Int64))), .second, .val (.long ((p0 &&& (9223372036854775807 : Int64)) + (p1 &&& (9223372036854775807 : Int64)))), .second, .val (.long v9), .second, .unset, .unset] [(.long (p1 &&& (9223372036854775807 : Int64))), (.long (p0 &&& (9223372036854775807 : Int64)))])) rfl (by rw [hml]; rfl) (argsL := [(.long (p0 &&& (9223372036854775807 : Int64))), (.long (p1 &&& (9223372036854775807 : Int64)))]) (rest := []) (lenOf pd_0 rfl) rfl (by show 2 * 0 + _ ≤ _; exact Nat.le_of_eq rfl) (hb hby at_42) (fun _ _ => ⟨rfl, e0, (by decide : 0 + 0 ≤ _), (by decide : 0 + 0 ≤ _)⟩)
  dsimp only [Pt.U, Pt.locs, Pt.cells, Pt.slots] at X11 l11 y11 z11 st11 hQ11
  subst l11 y11 z11
  obtain ⟨rfl, N11q, e11⟩ := hQ11
  have N11 := Fr.app N0 N11q
  have hb12 : (own_sat (p0 &&& (9223372036854775807 : Int64)) (p1 &&& (9223372036854775807 : Int64))) = v9 := by rw [hv_v9]; exact own_law _ _ (own_nn _) (own_nn _)
  have pre13 : ∀ t, Steps p.tables e below (T11.setTop (mkF m 60 #[.val (.long p0), .second, .val (.long p1), .second, .val (.long (p0 &&& (9223372036854775807 : Int64))), .second, .val (.long (p1 &&& (9223372036854775807 : Int64))), .second, .val (.long ((p0 &&& (9223372036854775807 : Int64)) + (p1 &&& (9223372036854775807 : Int64)))), .second, .val (.long v9), .second, .val (.long (own_sat (p0 &&& (9223372036854775807 : Int64)) (p1 &&& (9223372036854775807 : Int64)))), .second] [(.int (1 : Int32))])) t → Steps p.tables e below (s₁.setTop (entryFrame m #[(.long p0), (.long p1)] maxLocals)) t := fun t kk => pre10j t (by
      show Steps p.tables e below (s₁.setTop (mkF m 36 #[.val (.long p0), .second, .val (.long p1), .second, .val (.long (p0 &&& (9223372036854775807 : Int64))), .second, .val (.long (p1 &&& (9223372036854775807 : Int64))), .second, .val (.long ((p0 &&& (9223372036854775807 : Int64)) + (p1 &&& (9223372036854775807 : Int64)))), .second, .unset, .unset, .unset, .unset] [(.long v9)])) _
      refine XS.lstore X0.here hx rfl (hb hby at_36) rfl (l' := #[.val (.long p0), .second, .val (.long p1), .second, .val (.long (p0 &&& (9223372036854775807 : Int64))), .second, .val (.long (p1 &&& (9223372036854775807 : Int64))), .second, .val (.long ((p0 &&& (9223372036854775807 : Int64)) + (p1 &&& (9223372036854775807 : Int64)))), .second, .val (.long v9), .second, .unset, .unset]) rfl ?_
      show Steps p.tables e below (s₁.setTop (mkF m 38 #[.val (.long p0), .second, .val (.long p1), .second, .val (.long (p0 &&& (9223372036854775807 : Int64))), .second, .val (.long (p1 &&& (9223372036854775807 : Int64))), .second, .val (.long ((p0 &&& (9223372036854775807 : Int64)) + (p1 &&& (9223372036854775807 : Int64)))), .second, .val (.long v9), .second, .unset, .unset] [])) _
      refine XS.lload X0.here hx rfl (hb hby at_38) rfl ?_
      show Steps p.tables e below (s₁.setTop (mkF m 40 #[.val (.long p0), .second, .val (.long p1), .second, .val (.long (p0 &&& (9223372036854775807 : Int64))), .second, .val (.long (p1 &&& (9223372036854775807 : Int64))), .second, .val (.long ((p0 &&& (9223372036854775807 : Int64)) + (p1 &&& (9223372036854775807 : Int64)))), .second, .val (.long v9), .second, .unset, .unset] [(.long (p0 &&& (9223372036854775807 : Int64)))])) _
      refine XS.lload X0.here hx rfl (hb hby at_40) rfl ?_
      show Steps p.tables e below (s₁.setTop (mkF m 42 #[.val (.long p0), .second, .val (.long p1), .second, .val (.long (p0 &&& (9223372036854775807 : Int64))), .second, .val (.long (p1 &&& (9223372036854775807 : Int64))), .second, .val (.long ((p0 &&& (9223372036854775807 : Int64)) + (p1 &&& (9223372036854775807 : Int64)))), .second, .val (.long v9), .second, .unset, .unset] [(.long (p1 &&& (9223372036854775807 : Int64))), (.long (p0 &&& (9223372036854775807 : Int64)))])) _
      refine st11 _ ?_
      show Steps p.tables e below (T11.setTop (mkF m 45 #[.val (.long p0), .second, .val (.long p1), .second, .val (.long (p0 &&& (9223372036854775807 : Int64))), .second, .val (.long (p1 &&& (9223372036854775807 : Int64))), .second, .val (.long ((p0 &&& (9223372036854775807 : Int64)) + (p1 &&& (9223372036854775807 : Int64)))), .second, .val (.long v9), .second, .unset, .unset] [(.long (own_sat (p0 &&& (9223372036854775807 : Int64)) (p1 &&& (9223372036854775807 : Int64))))])) _
      refine XS.lstore X11.here hx rfl (hb hby at_45) rfl (l' := #[.val (.long p0), .second, .val (.long p1), .second, .val (.long (p0 &&& (9223372036854775807 : Int64))), .second, .val (.long (p1 &&& (9223372036854775807 : Int64))), .second, .val (.long ((p0 &&& (9223372036854775807 : Int64)) + (p1 &&& (9223372036854775807 : Int64)))), .second, .val (.long v9), .second, .val (.long (own_sat (p0 &&& (9223372036854775807 : Int64)) (p1 &&& (9223372036854775807 : Int64)))), .second]) rfl ?_
      show Steps p.tables e below (T11.setTop (mkF m 47 #[.val (.long p0), .second, .val (.long p1), .second, .val (.long (p0 &&& (9223372036854775807 : Int64))), .second, .val (.long (p1 &&& (9223372036854775807 : Int64))), .second, .val (.long ((p0 &&& (9223372036854775807 : Int64)) + (p1 &&& (9223372036854775807 : Int64)))), .second, .val (.long v9), .second, .val (.long (own_sat (p0 &&& (9223372036854775807 : Int64)) (p1 &&& (9223372036854775807 : Int64)))), .second] [])) _
      refine XS.lload X11.here hx rfl (hb hby at_47) rfl ?_
      show Steps p.tables e below (T11.setTop (mkF m 49 #[.val (.long p0), .second, .val (.long p1), .second, .val (.long (p0 &&& (9223372036854775807 : Int64))), .second, .val (.long (p1 &&& (9223372036854775807 : Int64))), .second, .val (.long ((p0 &&& (9223372036854775807 : Int64)) + (p1 &&& (9223372036854775807 : Int64)))), .second, .val (.long v9), .second, .val (.long (own_sat (p0 &&& (9223372036854775807 : Int64)) (p1 &&& (9223372036854775807 : Int64)))), .second] [(.long (own_sat (p0 &&& (9223372036854775807 : Int64)) (p1 &&& (9223372036854775807 : Int64))))])) _
      refine XS.lload X11.here hx rfl (hb hby at_49) rfl ?_
      show Steps p.tables e below (T11.setTop (mkF m 51 #[.val (.long p0), .second, .val (.long p1), .second, .val (.long (p0 &&& (9223372036854775807 : Int64))), .second, .val (.long (p1 &&& (9223372036854775807 : Int64))), .second, .val (.long ((p0 &&& (9223372036854775807 : Int64)) + (p1 &&& (9223372036854775807 : Int64)))), .second, .val (.long v9), .second, .val (.long (own_sat (p0 &&& (9223372036854775807 : Int64)) (p1 &&& (9223372036854775807 : Int64)))), .second] [(.long v9), (.long (own_sat (p0 &&& (9223372036854775807 : Int64)) (p1 &&& (9223372036854775807 : Int64))))])) _
      refine XS.lcmp X11.here hx rfl (hb hby at_51) rfl ?_
      show Steps p.tables e below (T11.setTop (mkF m 52 #[.val (.long p0), .second, .val (.long p1), .second, .val (.long (p0 &&& (9223372036854775807 : Int64))), .second, .val (.long (p1 &&& (9223372036854775807 : Int64))), .second, .val (.long ((p0 &&& (9223372036854775807 : Int64)) + (p1 &&& (9223372036854775807 : Int64)))), .second, .val (.long v9), .second, .val (.long (own_sat (p0 &&& (9223372036854775807 : Int64)) (p1 &&& (9223372036854775807 : Int64)))), .second] [(.int (lcmpW (own_sat (p0 &&& (9223372036854775807 : Int64)) (p1 &&& (9223372036854775807 : Int64))) v9))])) _
      refine XS.ifNo X11.here hx rfl (hb hby at_52) rfl (Jvm.Free.XT.ll_ne_f hb12) ?_
      show Steps p.tables e below (T11.setTop (mkF m 55 #[.val (.long p0), .second, .val (.long p1), .second, .val (.long (p0 &&& (9223372036854775807 : Int64))), .second, .val (.long (p1 &&& (9223372036854775807 : Int64))), .second, .val (.long ((p0 &&& (9223372036854775807 : Int64)) + (p1 &&& (9223372036854775807 : Int64)))), .second, .val (.long v9), .second, .val (.long (own_sat (p0 &&& (9223372036854775807 : Int64)) (p1 &&& (9223372036854775807 : Int64)))), .second] [])) _
      refine XS.iconst X11.here hx rfl (hb hby at_55) ?_
      show Steps p.tables e below (T11.setTop (mkF m 56 #[.val (.long p0), .second, .val (.long p1), .second, .val (.long (p0 &&& (9223372036854775807 : Int64))), .second, .val (.long (p1 &&& (9223372036854775807 : Int64))), .second, .val (.long ((p0 &&& (9223372036854775807 : Int64)) + (p1 &&& (9223372036854775807 : Int64)))), .second, .val (.long v9), .second, .val (.long (own_sat (p0 &&& (9223372036854775807 : Int64)) (p1 &&& (9223372036854775807 : Int64)))), .second] [(.int (1 : Int32))])) _
      refine XS.goto X11.here hx rfl (pc0 := 56) (pc' := 60) rfl (hb hby at_56) (by decide) (by decide) ?_
      exact kk)
  obtain ⟨fs, hr, hrun, hended, hW, hsame⟩ := X11.leave (v := some (.int (1 : Int32))) (fun h => by rw [Bd.returns] at h; cases h)
  refine ⟨_, _, pre13 _ ?_, hrun, hended, _, _, rfl, ?_, ⟨_, rfl⟩, hW, hsame.mono (by decide) (by decide)⟩
  · show Steps p.tables e below (T11.setTop (mkF m 60 #[.val (.long p0), .second, .val (.long p1), .second, .val (.long (p0 &&& (9223372036854775807 : Int64))), .second, .val (.long (p1 &&& (9223372036854775807 : Int64))), .second, .val (.long ((p0 &&& (9223372036854775807 : Int64)) + (p1 &&& (9223372036854775807 : Int64)))), .second, .val (.long v9), .second, .val (.long (own_sat (p0 &&& (9223372036854775807 : Int64)) (p1 &&& (9223372036854775807 : Int64)))), .second] [(.int (1 : Int32))])) _
    exact retN X11 hx (t := .boolean) Bd.returns (by simp) (hb hby at_60) hr
  · show Q0 Z p0 p1 h0 n0 _ T11.heap _
    rw [e11]
    exact ⟨rfl, N11, Keep.refl _ _⟩
set_option maxRecDepth 65536 in
set_option maxHeartbeats 40000000 in
theorem comes_1 {Post : Tables → Env → Array Value → State → Outcome → State → Prop} (hpost : ∀ tb e args s v u, (limb_1_1.after args s (.returned v) u = true ∧ limb_1_2.after args s (.returned v) u = true ∧ True) → FrameEnd s (.returned v) u (Jvm.fieldLocs frame_1_writes args s ++ Jvm.arrayLocs frame_1_arrays args s ++ Jvm.staticLocs frame_1_statics s) 0 0 → Post tb e args s (.returned v) u) :
    ArmFor flags0 classFile x code maxLocals ret World_1 tables_1 room_1 Calls_1 rest_1 Pre_1 Post := by
  intro l hfl _ _ p e ha hc hk s m args below hf hA hF happ hP
  obtain ⟨hcalls, hrest, hpre⟩ := hP
  obtain ⟨-, -, -, hnamed, -, -, -, hat⟩ := (Spec.applies_iff hf).mp happ
  obtain ⟨hg, hn⟩ := and_e (Cond.before_iff.mp (show (Jvm.Cond.and given_1 narrow_1).before args s = true from hpre))
  obtain ⟨gg14, gg15⟩ := and_e hg
  obtain ⟨gg16, gg17⟩ := and_e gg15
  obtain ⟨w0, w1, rfl⟩ : ∃ w0 w1 : Value, args = #[w0, w1] := by
    have hs : args.size = 2 := by simpa [Cond.value, given_1] using gg14
    obtain ⟨L⟩ := args
    match L, hs with
    | [w0, w1], _ => exact ⟨w0, w1, rfl⟩
  have hw := fun d (hd : d ∈ tables_1) => atoms_spec (ws := Jvm.Cond.code x code maxLocals ret :: tables_1) hat d (List.mem_cons_of_mem _ hd)
  have hfit : Fit s := fun {y c} hc i hi => by
    obtain ⟨ha, rfl⟩ := Array.getElem?_eq_some_iff.mp hc
    have q := List.all_eq_true.mp ((Array.all_eq_true_iff_forall_mem.mp hF) _ (Array.getElem_mem ha)) i (List.mem_range.mpr hi)
    simpa [Array.getElem?_eq_getElem hi] using q
  obtain ⟨i0, ei0⟩ := isL_v gg16
  obtain rfl : w0 = (.long i0) := Option.some.inj ei0
  obtain ⟨i1, ei1⟩ := isL_v gg17
  obtain rfl : w1 = (.long i1) := Option.some.inj ei1
  obtain ⟨n, o, h1, h2, h3, _, L, rfl, ⟨rfl, N, -⟩, hq⟩ := rm0 l s _ hw tables_1 i0 i1  s.heap s.heap.size (Nat.le_refl _)  p e ha hc hk s m _ below hf ((Spec.applies_iff_loose hf).mp happ).1 ⟨rfl, State.Warmed39.refl s, rfl⟩ trivial
  refine ⟨n, _, h1, h2, h3, hpost _ _ _ _ _ _ ⟨Cond.after_iff.mpr rfl, Cond.after_iff.mpr (eq_i res_at (Term.int_eval (1)) rfl), trivial⟩ ⟨hq.1, hq.2.1, (hq.2.2.sift fun y hy => Or.inr (N y hy)).mono (by decide) (by decide)⟩⟩
theorem main_1_1 : Claimed_1_1 := comes_1 fun _ _ _ _ _ _ h hF => ⟨h.1, hF⟩
theorem main_1_2 : Claimed_1_2 := comes_1 fun _ _ _ _ _ _ h hF => ⟨h.2.1, hF⟩
end Jvm.Pilot.@@N@@
namespace Jvm.Pilot.@@N@@
open Jvm Jvm.ClassFile Sem Op Lib Jvm.Free Jvm.Stand Jvm.Pilot.@@N@@.Jvm.D
/-! MADE BY PROGRAM (witnessworld.py) out of the Statement's table words and the real class files: 9 classes; the members and pool entries that the words name. The judged class is class 1, her method 1. -/
namespace start1
open Jvm.ClassFile
def u (s : String) : CpInfo := .utf8 (stringToUtf16 s)
/-- a pool by its gaps: so many unusable entries, then the entry; so many at the end -/
def gap : Nat → List CpInfo → List CpInfo
  | 0, r => r
  | n + 1, r => .unusable :: gap n r
def poolList (es : List (Nat × CpInfo)) (last : Nat) : List CpInfo := es.foldr (fun e r => gap e.1 (e.2 :: r)) (gap last [])
def pool (es : List (Nat × CpInfo)) (last : Nat) : Array CpInfo := ⟨poolList es last⟩
def fileOf (pool : Array CpInfo) (this : Nat) (attrs : Array Attribute := #[]) (ms : Array MethodInfo := #[]) (fl : Nat := 33) (sup : Nat := 0) (ifs : Array Nat := #[]) (fds : Array FieldInfo := #[]) : ClassFile where
  minorVersion := 0
  majorVersion := 65
  constantPool := pool
  accessFlags := fl
  thisClass := this
  superClass := sup
  interfaces := ifs
  fields := fds
  methods := ms
  attributes := attrs
def plain (name : String) (sup : Option ClassId) : Class where
  name := name
  kind := .ordinary
  loader := none
  accessFlags := 33
  super := sup
  interfaces := #[]
  cf := none
  fields := #[]
  methods := #[]
  instanceTypes := #[]
  staticTypes := #[]
  resolved := #[]
  callSites := []
  init := .initialized
  statics := none
  mirror := none

def pool0 : Array CpInfo := pool [(5, u "<init>"), (0, u "()V"), (1, .class_ 10), (1, u "java/lang/Object")] 113

def k0m0 : Method := { name := "<init>", desc := "()V", sig := { parameters := [], returnType := none }, accessFlags := 1, code := none }
/-- java/lang/Object -/
def k0 : Class := { plain "java/lang/Object" none with
  accessFlags := 33
  interfaces := #[]
  cf := some (fileOf pool0 8 #[] #[{ accessFlags := 1, nameIndex := 5, descriptorIndex := 6, attributes := #[] }] 33 0 #[] #[])
  fields := #[]
  methods := #[k0m0]
  instanceTypes := #[]
  staticTypes := #[]
  resolved := Array.replicate 124 none
  statics := none }

def pool1 : Array CpInfo := pool [(2, .class_ 4), (1, u "java/lang/Object"), (0, u "<init>"), (0, u "()V"), (2, .long 9223372036854775807), (1, .methodref 12 13), (0, .class_ 14), (0, .nameAndType 15 16), (0, u "com/example/even_keel/evenkeel/workflow/JobGraph"), (0, u "saturatedSum"), (0, u "(JJ)J"), (0, .class_ 18), (0, u "com/example/even_keel/evenkeel/workflow/JobGraphSaturatedSumPinLaw"), (2, u "law"), (0, u "(JJ)Z")] 3

def k1m0 : Method := { name := "<init>", desc := "()V", sig := { parameters := [], returnType := none }, accessFlags := 1, code := none }
def k1c1 : Code := { maxStack := 4, maxLocals := 14, code := code, exceptionTable := #[], attributes := #[] }
def k1m1 : Method := { name := "law", desc := "(JJ)Z", sig := { parameters := [.long, .long], returnType := some .boolean }, accessFlags := 9, code := some k1c1 }
/-- com/example/even_keel/evenkeel/workflow/JobGraphSaturatedSumPinLaw -/
def k1 : Class := { plain "com/example/even_keel/evenkeel/workflow/JobGraphSaturatedSumPinLaw" (some 0) with
  accessFlags := 49
  interfaces := #[]
  cf := some (fileOf pool1 17 #[] #[{ accessFlags := 1, nameIndex := 5, descriptorIndex := 6, attributes := #[] }, { accessFlags := 9, nameIndex := 21, descriptorIndex := 22, attributes := #[] }] 49 2 #[] #[])
  fields := #[]
  methods := #[k1m0, k1m1]
  instanceTypes := #[]
  staticTypes := #[]
  resolved := Array.replicate 26 none
  statics := none }

def pool2 : Array CpInfo := pool [(2, .class_ 4), (1, u "java/lang/Object"), (3, .class_ 10), (1, u "com/example/even_keel/evenkeel/workflow/JobGraph"), (0, u "workflow"), (0, u "Lcom/example/even_keel/evenkeel/workflow/Workflow;"), (2, u "tasks"), (0, u "Ljava/util/List;"), (2, u "runtimes"), (0, u "[J"), (2, u "dag"), (0, u "Lcom/example/even_keel/evenkeel/workflow/Dag;"), (11, u "numbersInLevel"), (0, u "[I"), (43, u "levels"), (71, u "saturatedSum"), (0, u "(JJ)J"), (3, .long 9223372036854775807)] 95

def k2c0 : Code := { maxStack := 6, maxLocals := 4, code := prog_152_method_18_code, exceptionTable := #[], attributes := #[] }
def k2m0 : Method := { name := "saturatedSum", desc := "(JJ)J", sig := { parameters := [.long, .long], returnType := some .long }, accessFlags := 9, code := some k2c0 }
/-- com/example/even_keel/evenkeel/workflow/JobGraph -/
def k2 : Class := { plain "com/example/even_keel/evenkeel/workflow/JobGraph" (some 0) with
  accessFlags := 33
  interfaces := #[]
  cf := some (fileOf pool2 8 #[] #[{ accessFlags := 9, nameIndex := 153, descriptorIndex := 154, attributes := #[] }] 33 2 #[] #[{ accessFlags := 18, nameIndex := 11, descriptorIndex := 12, attributes := #[] }, { accessFlags := 18, nameIndex := 15, descriptorIndex := 16, attributes := #[] }, { accessFlags := 18, nameIndex := 19, descriptorIndex := 20, attributes := #[] }, { accessFlags := 18, nameIndex := 23, descriptorIndex := 24, attributes := #[] }, { accessFlags := 18, nameIndex := 81, descriptorIndex := 16, attributes := #[] }, { accessFlags := 18, nameIndex := 36, descriptorIndex := 37, attributes := #[] }])
  fields := #[{ name := "workflow", type := (.object "com/example/even_keel/evenkeel/workflow/Workflow"), accessFlags := 18, slot := 0, constantValue := 0 }, { name := "tasks", type := (.object "java/util/List"), accessFlags := 18, slot := 1, constantValue := 0 }, { name := "runtimes", type := (.array .long), accessFlags := 18, slot := 2, constantValue := 0 }, { name := "dag", type := (.object "com/example/even_keel/evenkeel/workflow/Dag"), accessFlags := 18, slot := 3, constantValue := 0 }, { name := "levels", type := (.object "java/util/List"), accessFlags := 18, slot := 4, constantValue := 0 }, { name := "numbersInLevel", type := (.array .int), accessFlags := 18, slot := 5, constantValue := 0 }]
  methods := #[k2m0]
  instanceTypes := #[(.object "com/example/even_keel/evenkeel/workflow/Workflow"), (.object "java/util/List"), (.array .long), (.object "com/example/even_keel/evenkeel/workflow/Dag"), (.object "java/util/List"), (.array .int)]
  staticTypes := #[]
  resolved := Array.replicate 254 none
  statics := none }

def pool3 : Array CpInfo := pool [(1, u "java/lang/Cloneable"), (0, .class_ 1), (0, u "java/lang/Object"), (0, .class_ 3)] 3

/-- java/lang/Cloneable -/
def k3 : Class := { plain "java/lang/Cloneable" (some 0) with
  accessFlags := 1537
  interfaces := #[]
  cf := some (fileOf pool3 2 #[] #[] 1537 4 #[] #[])
  fields := #[]
  methods := #[]
  instanceTypes := #[]
  staticTypes := #[]
  resolved := Array.replicate 8 none
  statics := none }

def pool4 : Array CpInfo := pool [(1, u "java/io/Serializable"), (0, .class_ 1), (0, u "java/lang/Object"), (0, .class_ 3)] 3

/-- java/io/Serializable -/
def k4 : Class := { plain "java/io/Serializable" (some 0) with
  accessFlags := 1537
  interfaces := #[]
  cf := some (fileOf pool4 2 #[] #[] 1537 4 #[] #[])
  fields := #[]
  methods := #[]
  instanceTypes := #[]
  staticTypes := #[]
  resolved := Array.replicate 8 none
  statics := none }

/-- the primitive byte -/
def k5 : Class := { plain "byte" none with kind := .primitive 'B', accessFlags := 0x411 }
/-- [B -/
def k6 : Class := { plain "[B" (some 0) with kind := .array 5 .byte, interfaces := #[3, 4], accessFlags := 1041 }

/-- the primitive int -/
def k7 : Class := { plain "int" none with kind := .primitive 'I', accessFlags := 0x411 }
/-- [I -/
def k8 : Class := { plain "[I" (some 0) with kind := .array 7 .int, interfaces := #[3, 4], accessFlags := 1041 }

def heap : Heap := #[]
def classes : Array Class := #[k0, k1, k2, k3, k4, k5, k6, k7, k8]
def interned : List (Array UInt16 × Addr) := []
def slotsUsed : Nat := 0
def theMethod : MethodId := ⟨1, 1⟩
def args0 : Array Value := #[.long 5, .long 7]
def aboutOver (below : List Frame) : State where
  vm := { classes := classes, interned := interned.toArray }
  heap := heap
  slotsUsed := slotsUsed
  threads := #[{ frames := .invoking theMethod args0 :: below }]
def below0 : List Frame := [.native { method := ⟨0, 0⟩, args := #[] }]
def about1 : State := aboutOver below0
def p0 : Program := .bare "" "" ""
def e0 : Env := launch0.env 0 0 0
theorem w_frames : about1.frames = Frame.invoking theMethod args0 :: below0 := rfl
set_option maxRecDepth 65536 in
theorem w_args : argsFit about1.vm theMethod args0 = true := by decide +kernel
set_option maxRecDepth 65536 in
theorem w_heap : heapFits about1 = true := by decide +kernel
set_option maxRecDepth 65536 in
theorem w_runnable : about1.curStatus? = some .runnable := by decide +kernel
set_option maxRecDepth 65536 in
theorem w_alone : about1.alone = true := by decide +kernel
set_option maxRecDepth 65536 in
theorem w_named : about1.methodNamed? x = some theMethod := by decide +kernel
set_option maxRecDepth 65536 in
theorem w_hears : about1.hears theMethod below0 = true := by decide +kernel
set_option maxRecDepth 65536 in
theorem w_ripe : about1.ripe theMethod args0 below0 = true := by decide +kernel
theorem w_running : about1.status = .running := rfl
set_option maxRecDepth 65536 in
theorem w_room : about1.hasRoom e0.platform room_1 = true :=
  launch0.hasRoom_least _ room_1 (by decide +kernel) (by decide +kernel) (by decide +kernel) (by decide +kernel) (by decide +kernel) (by decide +kernel)
theorem allAtoms_all (ts : List Jvm.Cond) (a : Array Jvm.Value) (st : Jvm.State) : (allAtoms ts).before a st = ts.all (fun c => c.before a st) := by
  induction ts with
  | nil => rfl
  | cons c t ih =>
    show (Jvm.Cond.and c (allAtoms t)).before a st = _
    rw [Jvm.Cond.before_and, ih, List.all_cons]
def words1 : List Jvm.Cond := Jvm.Cond.code x code maxLocals ret :: tables_1
/-- a 'code' word, met by the world's own term for the bytes: nothing is compared byte by byte -/
theorem code_word {y : MethodName} {bytes : ByteArray} {mx : Nat} {rt : Option FieldType} {a : Array Value} {s : State} {m : MethodId} {meth : Method} {c : Code} (h1 : s.methodNamed? y = some m) (h2 : s.vm.method? m = some meth) (h3 : meth.code = some c) (h4 : c.code = bytes)
    (h5 : (c.maxLocals == mx && c.exceptionTable.isEmpty && decide (c.maxStack ≤ mostOperands) && decide (meth.sig.returnType = rt) && !meth.locks && decide (parseMethodDescriptor y.desc = some meth.sig)) = true) : (Jvm.Cond.code y bytes mx rt).before a s = true := by
  simp only [Bool.and_eq_true, beq_iff_eq, Bool.not_eq_true', decide_eq_true_eq] at h5
  obtain ⟨⟨⟨⟨⟨g1, g2⟩, g3⟩, g4⟩, g5⟩, g6⟩ := h5
  simp [Cond.before, Cond.holds, Cond.value, h1, h2, h3, h4, g1, g2, g3, g4, g5, g6]
def isCode : Jvm.Cond → Bool
  | .code _ _ _ _ => true
  | _ => false
theorem all_split {L : List Jvm.Cond} {P : Jvm.Cond → Bool} (h1 : L.all (fun c => isCode c || P c) = true) (h2 : ∀ c ∈ L.filter isCode, P c = true) : L.all P = true := by
  refine List.all_eq_true.mpr fun c hc => ?_
  have h := List.all_eq_true.mp h1 c hc
  rcases Bool.eq_false_or_eq_true (isCode c) with hi | hi
  · exact h2 c (List.mem_filter.mpr ⟨hc, hi⟩)
  · simpa [hi] using h
set_option maxRecDepth 65536 in
theorem w_c0 : (Jvm.Cond.code x code maxLocals ret).before args0 about1 = true := code_word (m := ⟨1, 1⟩) (meth := k1m1) (c := k1c1) (by decide +kernel) rfl rfl rfl (by decide +kernel)
set_option maxRecDepth 65536 in
theorem w_c1 : (Jvm.Cond.code ({ cls := "com/example/even_keel/evenkeel/workflow/JobGraph", name := "saturatedSum", desc := "(JJ)J" } : Jvm.MethodName) prog_152_method_18_code (4 : Nat) (Option.some Jvm.ClassFile.FieldType.long)).before args0 about1 = true := code_word (m := ⟨2, 0⟩) (meth := k2m0) (c := k2c0) (by decide +kernel) rfl rfl rfl (by decide +kernel)
def codes1 : List Jvm.Cond := [Jvm.Cond.code x code maxLocals ret, Jvm.Cond.code ({ cls := "com/example/even_keel/evenkeel/workflow/JobGraph", name := "saturatedSum", desc := "(JJ)J" } : Jvm.MethodName) prog_152_method_18_code (4 : Nat) (Option.some Jvm.ClassFile.FieldType.long)]
set_option maxRecDepth 65536 in
theorem codes_eq : words1.filter isCode = codes1 := rfl
theorem w_codes : ∀ c ∈ words1.filter isCode, c.before args0 about1 = true := by
  rw [codes_eq]
  intro c hc
  simp only [codes1, List.mem_cons, List.not_mem_nil, or_false] at hc
  rcases hc with rfl | rfl
  · exact w_c0
  · exact w_c1
set_option maxRecDepth 65536 in
theorem w_t1 : words1.all (fun c => isCode c || c.before args0 about1) = true := by decide +kernel
theorem w_tables : (allAtoms (Jvm.Cond.code x code maxLocals ret :: tables_1)).before args0 about1 = true := by
  rw [allAtoms_all]
  show words1.all (fun c => c.before args0 about1) = true
  refine all_split ?_ w_codes
  rw [w_t1]
set_option maxRecDepth 65536 in
theorem w_case : (Jvm.Cond.and given_1 narrow_1).before args0 about1 = true := by decide +kernel
theorem w_applies : (headSpec (Jvm.Cond.code x code maxLocals ret :: tables_1) room_1).applies x e0.platform about1 = true :=
  (Spec.applies_iff w_frames).mpr ⟨w_running, w_runnable, w_alone, w_named, w_hears, w_ripe, w_room, w_tables⟩
theorem atStart : AtStart classFile x code maxLocals ret World_1 tables_1 room_1 Calls_1 rest_1 Pre_1 launch0 p0 e0 about1 theMethod args0 below0 :=
  ⟨lists_1, trivial, launch0.admits_env _ _ _, launch0.least_env, fairChoices_fair.cas, fairChoices_fair.clock, w_frames, w_args, w_heap, w_applies, trivial, trivial, w_case⟩
end start1
theorem witness_1 : WitnessClaimed_1 := ⟨start1.p0, start1.e0, start1.about1, start1.theMethod, start1.args0, start1.below0, start1.atStart⟩
end Jvm.Pilot.@@N@@
