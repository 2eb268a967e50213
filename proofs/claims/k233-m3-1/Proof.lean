import JvmDerived
import JvmDerived.Pilot.@@N@@Statement
import JvmDerived.Pilot.@@N@@Code
set_option linter.unusedVariables false
set_option linter.unusedSimpArgs false
namespace Jvm.Pilot.@@N@@
open Jvm Jvm.ClassFile Sem Op Lib Jvm.Free Jvm.Stand Jvm.LawKit Jvm.RoadKit Bundle Jvm.Pilot.@@N@@.Jvm.D
theorem own_ne_arr {Z : State} {h : Heap} {a b : Addr} {C : String} {a0 : Array Value} {kk : Nat} {k : ClassId} {ty : FieldType} {n : Int32} {vs : List Value} {d : Value} (F : Exa Z h a C) (wi : (Cond.instantiable C kk).before a0 Z = true) (V : Arv Z h b k ty n vs d) : a ≠ b := by
  obtain ⟨c, A, -⟩ := V
  exact ne_arr F wi A
theorem own_cast {tb : Tables} {e : Env} {below : List Frame} {t : State} {A : Type} (f : A → State) {a b : A} (h : a = b) (k : Steps tb e below (f b) t) : Steps tb e below (f a) t := h ▸ k
def own_tab (j : Int32) : Int32 := if j < 9 then 0 else if j < 10 then 1 else if j < 11 then 1 else if j < 12 then 0 else if j < 13 then 1 else if j < 14 then 1 else if j < 32 then 0 else if j < 33 then 1 else if j < 45 then 0 else if j < 46 then 8 else if j < 47 then 8 else if j < 48 then 0 else if j < 58 then 12 else if j < 59 then 8 else if j < 65 then 0 else if j < 91 then 10 else if j < 95 then 0 else if j < 96 then 8 else if j < 97 then 0 else if j < 123 then 10 else 0
theorem own_inb {cl : Cell} {j : Int32} (hs : cl.slots.size = 128) (h : ¬ j < 0 ∧ j < 128) : ¬ (j < 0 ∨ cl.slots.size ≤ j.toNatClampNeg) :=
  inb_of (z := 128) (by rw [hs]; rfl) h
theorem d1_0 : decode prog_6_method_5_code 0 = .ok (.iload_n 0, 1) := by decide +kernel
theorem d1_1 : decode prog_6_method_5_code 1 = .ok (.sipush 128, 3) := by decide +kernel
theorem d1_4 : decode prog_6_method_5_code 4 = .ok (.if_icmp .ge 18, 3) := by decide +kernel
theorem d1_7 : decode prog_6_method_5_code 7 = .ok (.getstatic 9, 3) := by decide +kernel
theorem d1_10 : decode prog_6_method_5_code 10 = .ok (.iload_n 0, 1) := by decide +kernel
theorem d1_11 : decode prog_6_method_5_code 11 = .ok (.baload, 1) := by decide +kernel
theorem d1_12 : decode prog_6_method_5_code 12 = .ok (.bipush 8, 2) := by decide +kernel
theorem d1_14 : decode prog_6_method_5_code 14 = .ok (.iand, 1) := by decide +kernel
theorem d1_15 : decode prog_6_method_5_code 15 = .ok (.ifCond .eq 7, 3) := by decide +kernel
theorem d1_22 : decode prog_6_method_5_code 22 = .ok (.iconst 0, 1) := by decide +kernel
theorem d1_18 : decode prog_6_method_5_code 18 = .ok (.iconst 1, 1) := by decide +kernel
theorem d1_19 : decode prog_6_method_5_code 19 = .ok (.goto 4, 3) := by decide +kernel
def own_is (u : Int32) : Int32 := (if u < (128 : Int32) then (if ((own_tab u) &&& (8 : Int32)) = (0 : Int32) then (0 : Int32) else (1 : Int32)) else (0 : Int32))
theorem d1_23 : decode prog_6_method_5_code 23 = .ok (.ireturn, 1) := by decide +kernel
theorem ef_rmIs (m : MethodId) (x0 : Int32) : entryFrame m #[(.int x0)] 1 = mkF m 0 #[.val (.int x0)] [] := by first | (simp [entryFrame, mkF, argsToLocals, Value.category]; done) | rfl
def QIs (Z : State) (u : Int32) (wC : Addr) (cl : Cell) (h0 : Heap) (n0 : Nat) (v : Option Value) (h : Heap) (L : List Loc) : Prop := v = some (.int (own_is u)) ∧ Fr n0 L ∧ h = h0
theorem pn_0 : plainName "com/example/tagloom/tagloom/Chars" = true := by first | (simp [plainName, overriddenIn]; done) | decide +kernel
set_option maxRecDepth 65536 in
set_option maxHeartbeats 40000000 in
theorem rmIs (l : Launch) (Z : State) (a0 : Array Value) (hw : ∀ d ∈ tables_1, d.before a0 Z = true) (ws : List Jvm.Cond) (u : Int32) (wC : Addr) (cl : Cell) (h0 : Heap) (n0 : Nat) (Z0 : n0 ≤ h0.size) (S_CLASSES : Sta Z h0 "com/example/tagloom/tagloom/Chars" "CLASSES" "[B" (.ref wC)) (hAr : Arr Z h0 wC cl .byte) (hsz : cl.slots.size = 128) (hel : ∀ j : Int32, ¬ j < 0 → j < 128 → cl.slots[j.toNatClampNeg]? = some (.int (own_tab j))) (hu : ¬ (u < (0 : Int32))) :
    MetFree l (⟨"com/example/tagloom/tagloom/Chars", "isNameChar", "(C)Z"⟩ : MethodName) (head1 (Jvm.Cond.code (⟨"com/example/tagloom/tagloom/Chars", "isNameChar", "(C)Z"⟩ : MethodName) prog_6_method_5_code 1 (some .boolean) :: ws) ({ frames := 0, cells := 0, slots := 0, locals := 0 } : Room)) (fun aA uU => aA = #[(.int u)] ∧ Z.Warmed39 uU.vm ∧ uU.heap = h0) (fun _ _ _ _ _ => True) (fun _ uU oO uU' => ∃ vV lL, oO = .returned vV ∧ QIs Z u wC cl h0 n0 vV uU'.heap lL ∧ FrameEnd uU oO uU' lL ({ frames := 0, cells := 0, slots := 0, locals := 0 } : Room).cells ({ frames := 0, cells := 0, slots := 0, locals := 0 } : Room).slots) := by
  refine MetFree.of_bodySF (plainFor_of_name pn_0) hisR ?_
  intro p e s m args below meth c s₁ Bd hml0 hP hK
  obtain ⟨rfl, hZ, hh⟩ := hP
  have hx := Bd.exec
  have hby := Bd.bytes
  have hml : c.maxLocals = 1 := hml0
  have hown : s.vm.findClass "com/example/tagloom/tagloom/Chars" = some m.cls := findClass_of_methodNamed Bd.named
  have hnm := (name_of_methodNamed Bd.named Bd.method).1
  have X0 : Stand p l e ({ frames := 0, cells := 0, slots := 0, locals := 0 } : Room) s m #[(.int u)] below meth c s₁ [] 0 0 := Stand.of_body Bd
  have e0 : s₁.heap = h0 := by rw [← hh, Bd.state]; rfl
  have N0 := Fr.nil n0
  have pre0 : ∀ t, Steps p.tables e below (s₁.setTop (mkF m 0 #[.val (.int u)] [])) t → Steps p.tables e below (s₁.setTop (entryFrame m #[(.int u)] 1)) t := fun t kk => castTop (ef_rmIs m u) kk
  have pre1 : ∀ t, Steps p.tables e below (s₁.setTop (mkF m 4 #[.val (.int u)] [(.int (128 : Int32)), (.int u)])) t → Steps p.tables e below (s₁.setTop (entryFrame m #[(.int u)] 1)) t := fun t kk => pre0 t (by
      show Steps p.tables e below (s₁.setTop (mkF m 0 #[.val (.int u)] [])) _
      refine XS.iloadN X0.here hx rfl (hb hby d1_0) rfl ?_
      show Steps p.tables e below (s₁.setTop (mkF m 1 #[.val (.int u)] [(.int u)])) _
      refine XS.sipush X0.here hx rfl (hb hby d1_1) ?_
      exact kk)
  by_cases hlt : u < (128 : Int32)
  · obtain ⟨T2, X2, e2, st2⟩ := getS2 X0 hx hZ hown (host := "") (Or.inl (hw _ (List.mem_of_getElem? (i := 4) rfl))) Via.refl e0 S_CLASSES (g := (mkF m 7 #[.val (.int u)] [])) rfl (hb hby d1_7)
    have pre3 : ∀ t, Steps p.tables e below (T2.setTop (mkF m 15 #[.val (.int u)] [(.int ((own_tab u) &&& (8 : Int32)))])) t → Steps p.tables e below (s₁.setTop (entryFrame m #[(.int u)] 1)) t := fun t kk => pre1 t (by
        show Steps p.tables e below (s₁.setTop (mkF m 4 #[.val (.int u)] [(.int (128 : Int32)), (.int u)])) _
        refine XS.icmpNo X0.here hx rfl (hb hby d1_4) rfl (tlt hlt).2.1 ?_
        show Steps p.tables e below (s₁.setTop (mkF m 7 #[.val (.int u)] [])) _
        refine st2 _ ?_
        show Steps p.tables e below (T2.setTop (mkF m 10 #[.val (.int u)] [(.ref wC)])) _
        refine XS.iloadN X2.here hx rfl (hb hby d1_10) rfl ?_
        show Steps p.tables e below (T2.setTop (mkF m 11 #[.val (.int u)] [(.int u), (.ref wC)])) _
        refine X2.baloadBytes hx (j := u) (v := (.int (own_tab u))) (by rw [e2]; exact hAr.1) (State.isArrayOf_alike hZ.alike hAr.2.1) hAr.2.2 (own_inb hsz ⟨hu, hlt⟩) (hel u hu hlt) (g := (mkF m 11 #[.val (.int u)] [(.int u), (.ref wC)])) rfl rfl (hb hby d1_11) _ ?_
        show Steps p.tables e below (T2.setTop (mkF m 12 #[.val (.int u)] [(.int (own_tab u))])) _
        refine XS.bipush X2.here hx rfl (hb hby d1_12) ?_
        show Steps p.tables e below (T2.setTop (mkF m 14 #[.val (.int u)] [(.int (8 : Int32)), (.int (own_tab u))])) _
        refine XS.iand X2.here hx rfl (hb hby d1_14) rfl ?_
        exact kk)
    by_cases hc4 : ((own_tab u) &&& (8 : Int32)) = (0 : Int32)
    · have pre5 : ∀ t, Steps p.tables e below (T2.setTop (mkF m 23 #[.val (.int u)] [(.int (0 : Int32))])) t → Steps p.tables e below (s₁.setTop (entryFrame m #[(.int u)] 1)) t := fun t kk => pre3 t (by
          show Steps p.tables e below (T2.setTop (mkF m 15 #[.val (.int u)] [(.int ((own_tab u) &&& (8 : Int32)))])) _
          refine XS.ifYes X2.here hx rfl (pc0 := 15) (pc' := 22) rfl (hb hby d1_15) rfl ((if0 _ _).trans (teq hc4).1) (by decide) (by decide) ?_
          show Steps p.tables e below (T2.setTop (mkF m 22 #[.val (.int u)] [])) _
          refine XS.iconst X2.here hx rfl (hb hby d1_22) ?_
          exact kk)
      obtain ⟨fs, hr, hrun, hended, hW, hsame⟩ := X2.leave (v := some (.int (0 : Int32))) (fun h => by rw [Bd.returns] at h; cases h)
      refine ⟨_, _, pre5 _ ?_, hrun, hended, _, _, rfl, ?_, ⟨_, rfl⟩, hW, hsame.mono (by decide) (by decide)⟩
      · show Steps p.tables e below (T2.setTop (mkF m 23 #[.val (.int u)] [(.int (0 : Int32))])) _
        exact retN X2 hx (t := .boolean) Bd.returns (by simp) (hb hby d1_23) hr
      · show QIs Z u wC cl h0 n0 _ T2.heap _
        rw [e2]
        exact ⟨(by unfold own_is; rw [if_pos hlt, if_pos hc4]), N0, rfl⟩
    · have pre6 : ∀ t, Steps p.tables e below (T2.setTop (mkF m 23 #[.val (.int u)] [(.int (1 : Int32))])) t → Steps p.tables e below (s₁.setTop (entryFrame m #[(.int u)] 1)) t := fun t kk => pre3 t (by
          show Steps p.tables e below (T2.setTop (mkF m 15 #[.val (.int u)] [(.int ((own_tab u) &&& (8 : Int32)))])) _
          refine XS.ifNo X2.here hx rfl (hb hby d1_15) rfl ((if0 _ _).trans (feq hc4).1) ?_
          show Steps p.tables e below (T2.setTop (mkF m 18 #[.val (.int u)] [])) _
          refine XS.iconst X2.here hx rfl (hb hby d1_18) ?_
          show Steps p.tables e below (T2.setTop (mkF m 19 #[.val (.int u)] [(.int (1 : Int32))])) _
          refine XS.goto X2.here hx rfl (pc0 := 19) (pc' := 23) rfl (hb hby d1_19) (by decide) (by decide) ?_
          exact kk)
      obtain ⟨fs, hr, hrun, hended, hW, hsame⟩ := X2.leave (v := some (.int (1 : Int32))) (fun h => by rw [Bd.returns] at h; cases h)
      refine ⟨_, _, pre6 _ ?_, hrun, hended, _, _, rfl, ?_, ⟨_, rfl⟩, hW, hsame.mono (by decide) (by decide)⟩
      · show Steps p.tables e below (T2.setTop (mkF m 23 #[.val (.int u)] [(.int (1 : Int32))])) _
        exact retN X2 hx (t := .boolean) Bd.returns (by simp) (hb hby d1_23) hr
      · show QIs Z u wC cl h0 n0 _ T2.heap _
        rw [e2]
        exact ⟨(by unfold own_is; rw [if_pos hlt, if_neg hc4]), N0, rfl⟩
  · have pre7 : ∀ t, Steps p.tables e below (s₁.setTop (mkF m 23 #[.val (.int u)] [(.int (0 : Int32))])) t → Steps p.tables e below (s₁.setTop (entryFrame m #[(.int u)] 1)) t := fun t kk => pre1 t (by
        show Steps p.tables e below (s₁.setTop (mkF m 4 #[.val (.int u)] [(.int (128 : Int32)), (.int u)])) _
        refine XS.icmpYes X0.here hx rfl (pc0 := 4) (pc' := 22) rfl (hb hby d1_4) rfl (flt hlt).2.1 (by decide) (by decide) ?_
        show Steps p.tables e below (s₁.setTop (mkF m 22 #[.val (.int u)] [])) _
        refine XS.iconst X0.here hx rfl (hb hby d1_22) ?_
        exact kk)
    obtain ⟨fs, hr, hrun, hended, hW, hsame⟩ := X0.leave (v := some (.int (0 : Int32))) (fun h => by rw [Bd.returns] at h; cases h)
    refine ⟨_, _, pre7 _ ?_, hrun, hended, _, _, rfl, ?_, ⟨_, rfl⟩, hW, hsame.mono (by decide) (by decide)⟩
    · show Steps p.tables e below (s₁.setTop (mkF m 23 #[.val (.int u)] [(.int (0 : Int32))])) _
      exact retN X0 hx (t := .boolean) Bd.returns (by simp) (hb hby d1_23) hr
    · show QIs Z u wC cl h0 n0 _ s₁.heap _
      rw [e0]
      exact ⟨(by unfold own_is; rw [if_neg hlt]), N0, rfl⟩
theorem d2_0 : decode method_2_code 0 = .ok (.iload_n 0, 1) := by decide +kernel
theorem d2_1 : decode method_2_code 1 = .ok (.bipush 97, 2) := by decide +kernel
theorem d2_3 : decode method_2_code 3 = .ok (.if_icmp .lt 11, 3) := by decide +kernel
theorem d2_14 : decode method_2_code 14 = .ok (.iload_n 0, 1) := by decide +kernel
theorem d2_15 : decode method_2_code 15 = .ok (.bipush 65, 2) := by decide +kernel
theorem d2_17 : decode method_2_code 17 = .ok (.if_icmp .lt 11, 3) := by decide +kernel
theorem d2_28 : decode method_2_code 28 = .ok (.iload_n 0, 1) := by decide +kernel
theorem d2_29 : decode method_2_code 29 = .ok (.bipush 48, 2) := by decide +kernel
theorem d2_31 : decode method_2_code 31 = .ok (.if_icmp .lt 11, 3) := by decide +kernel
theorem d2_42 : decode method_2_code 42 = .ok (.iload_n 0, 1) := by decide +kernel
theorem d2_43 : decode method_2_code 43 = .ok (.bipush 45, 2) := by decide +kernel
theorem d2_45 : decode method_2_code 45 = .ok (.if_icmp .eq 21, 3) := by decide +kernel
theorem d2_66 : decode method_2_code 66 = .ok (.iconst 1, 1) := by decide +kernel
theorem d2_48 : decode method_2_code 48 = .ok (.iload_n 0, 1) := by decide +kernel
theorem d2_49 : decode method_2_code 49 = .ok (.bipush 95, 2) := by decide +kernel
theorem d2_51 : decode method_2_code 51 = .ok (.if_icmp .eq 15, 3) := by decide +kernel
theorem d2_54 : decode method_2_code 54 = .ok (.iload_n 0, 1) := by decide +kernel
theorem d2_55 : decode method_2_code 55 = .ok (.bipush 46, 2) := by decide +kernel
theorem d2_57 : decode method_2_code 57 = .ok (.if_icmp .eq 9, 3) := by decide +kernel
theorem d2_60 : decode method_2_code 60 = .ok (.iload_n 0, 1) := by decide +kernel
theorem d2_61 : decode method_2_code 61 = .ok (.bipush 58, 2) := by decide +kernel
theorem d2_63 : decode method_2_code 63 = .ok (.if_icmp .ne 5, 3) := by decide +kernel
theorem d2_68 : decode method_2_code 68 = .ok (.iconst 0, 1) := by decide +kernel
theorem d2_34 : decode method_2_code 34 = .ok (.iload_n 0, 1) := by decide +kernel
theorem d2_35 : decode method_2_code 35 = .ok (.bipush 57, 2) := by decide +kernel
theorem d2_37 : decode method_2_code 37 = .ok (.if_icmp .gt 5, 3) := by decide +kernel
theorem d2_40 : decode method_2_code 40 = .ok (.iconst 1, 1) := by decide +kernel
theorem d2_20 : decode method_2_code 20 = .ok (.iload_n 0, 1) := by decide +kernel
theorem d2_21 : decode method_2_code 21 = .ok (.bipush 90, 2) := by decide +kernel
theorem d2_23 : decode method_2_code 23 = .ok (.if_icmp .gt 5, 3) := by decide +kernel
theorem d2_26 : decode method_2_code 26 = .ok (.iconst 1, 1) := by decide +kernel
theorem d2_6 : decode method_2_code 6 = .ok (.iload_n 0, 1) := by decide +kernel
theorem d2_7 : decode method_2_code 7 = .ok (.bipush 122, 2) := by decide +kernel
theorem d2_9 : decode method_2_code 9 = .ok (.if_icmp .gt 5, 3) := by decide +kernel
theorem d2_12 : decode method_2_code 12 = .ok (.iconst 1, 1) := by decide +kernel
def own_exp (u : Int32) : Int32 := (if u < (97 : Int32) then (if u < (65 : Int32) then (if u < (48 : Int32) then (if u = (45 : Int32) then (1 : Int32) else (if u = (95 : Int32) then (1 : Int32) else (if u = (46 : Int32) then (1 : Int32) else (if u = (58 : Int32) then (1 : Int32) else (0 : Int32))))) else (if (57 : Int32) < u then (if u = (45 : Int32) then (1 : Int32) else (if u = (95 : Int32) then (1 : Int32) else (if u = (46 : Int32) then (1 : Int32) else (if u = (58 : Int32) then (1 : Int32) else (0 : Int32))))) else (1 : Int32))) else (if (90 : Int32) < u then (if u < (48 : Int32) then (if u = (45 : Int32) then (1 : Int32) else (if u = (95 : Int32) then (1 : Int32) else (if u = (46 : Int32) then (1 : Int32) else (if u = (58 : Int32) then (1 : Int32) else (0 : Int32))))) else (if (57 : Int32) < u then (if u = (45 : Int32) then (1 : Int32) else (if u = (95 : Int32) then (1 : Int32) else (if u = (46 : Int32) then (1 : Int32) else (if u = (58 : Int32) then (1 : Int32) else (0 : Int32))))) else (1 : Int32))) else (1 : Int32))) else (if (122 : Int32) < u then (if u < (65 : Int32) then (if u < (48 : Int32) then (if u = (45 : Int32) then (1 : Int32) else (if u = (95 : Int32) then (1 : Int32) else (if u = (46 : Int32) then (1 : Int32) else (if u = (58 : Int32) then (1 : Int32) else (0 : Int32))))) else (if (57 : Int32) < u then (if u = (45 : Int32) then (1 : Int32) else (if u = (95 : Int32) then (1 : Int32) else (if u = (46 : Int32) then (1 : Int32) else (if u = (58 : Int32) then (1 : Int32) else (0 : Int32))))) else (1 : Int32))) else (if (90 : Int32) < u then (if u < (48 : Int32) then (if u = (45 : Int32) then (1 : Int32) else (if u = (95 : Int32) then (1 : Int32) else (if u = (46 : Int32) then (1 : Int32) else (if u = (58 : Int32) then (1 : Int32) else (0 : Int32))))) else (if (57 : Int32) < u then (if u = (45 : Int32) then (1 : Int32) else (if u = (95 : Int32) then (1 : Int32) else (if u = (46 : Int32) then (1 : Int32) else (if u = (58 : Int32) then (1 : Int32) else (0 : Int32))))) else (1 : Int32))) else (1 : Int32))) else (1 : Int32)))
theorem d2_67 : decode method_2_code 67 = .ok (.ireturn, 1) := by decide +kernel
theorem d2_69 : decode method_2_code 69 = .ok (.ireturn, 1) := by decide +kernel
theorem d2_41 : decode method_2_code 41 = .ok (.ireturn, 1) := by decide +kernel
theorem d2_27 : decode method_2_code 27 = .ok (.ireturn, 1) := by decide +kernel
theorem d2_13 : decode method_2_code 13 = .ok (.ireturn, 1) := by decide +kernel
theorem ef_rmExp (m : MethodId) (x0 : Int32) : entryFrame m #[(.int x0)] 1 = mkF m 0 #[.val (.int x0)] [] := by first | (simp [entryFrame, mkF, argsToLocals, Value.category]; done) | rfl
def QExp (Z : State) (u : Int32) (h0 : Heap) (n0 : Nat) (v : Option Value) (h : Heap) (L : List Loc) : Prop := v = some (.int (own_exp u)) ∧ Fr n0 L ∧ h = h0
theorem pn_1 : plainName "com/example/tagloom/tagloom/CharsIsNameCharPinLaw" = true := by first | (simp [plainName, overriddenIn]; done) | decide +kernel
set_option maxRecDepth 65536 in
set_option maxHeartbeats 40000000 in
theorem rmExp (l : Launch) (Z : State) (a0 : Array Value) (hw : ∀ d ∈ tables_1, d.before a0 Z = true) (ws : List Jvm.Cond) (u : Int32) (h0 : Heap) (n0 : Nat) (Z0 : n0 ≤ h0.size)  :
    MetFree l (⟨"com/example/tagloom/tagloom/CharsIsNameCharPinLaw", "expected", "(C)Z"⟩ : MethodName) (head1 (Jvm.Cond.code (⟨"com/example/tagloom/tagloom/CharsIsNameCharPinLaw", "expected", "(C)Z"⟩ : MethodName) method_2_code 1 (some .boolean) :: ws) ({ frames := 0, cells := 0, slots := 0, locals := 0 } : Room)) (fun aA uU => aA = #[(.int u)] ∧ Z.Warmed39 uU.vm ∧ uU.heap = h0) (fun _ _ _ _ _ => True) (fun _ uU oO uU' => ∃ vV lL, oO = .returned vV ∧ QExp Z u h0 n0 vV uU'.heap lL ∧ FrameEnd uU oO uU' lL ({ frames := 0, cells := 0, slots := 0, locals := 0 } : Room).cells ({ frames := 0, cells := 0, slots := 0, locals := 0 } : Room).slots) := by
  refine MetFree.of_bodySF (plainFor_of_name pn_1) hisR ?_
  intro p e s m args below meth c s₁ Bd hml0 hP hK
  obtain ⟨rfl, hZ, hh⟩ := hP
  have hx := Bd.exec
  have hby := Bd.bytes
  have hml : c.maxLocals = 1 := hml0
  have hown : s.vm.findClass "com/example/tagloom/tagloom/CharsIsNameCharPinLaw" = some m.cls := findClass_of_methodNamed Bd.named
  have hnm := (name_of_methodNamed Bd.named Bd.method).1
  have X0 : Stand p l e ({ frames := 0, cells := 0, slots := 0, locals := 0 } : Room) s m #[(.int u)] below meth c s₁ [] 0 0 := Stand.of_body Bd
  have e0 : s₁.heap = h0 := by rw [← hh, Bd.state]; rfl
  have N0 := Fr.nil n0
  have pre0 : ∀ t, Steps p.tables e below (s₁.setTop (mkF m 0 #[.val (.int u)] [])) t → Steps p.tables e below (s₁.setTop (entryFrame m #[(.int u)] 1)) t := fun t kk => castTop (ef_rmExp m u) kk
  have pre8 : ∀ t, Steps p.tables e below (s₁.setTop (mkF m 3 #[.val (.int u)] [(.int (97 : Int32)), (.int u)])) t → Steps p.tables e below (s₁.setTop (entryFrame m #[(.int u)] 1)) t := fun t kk => pre0 t (by
      show Steps p.tables e below (s₁.setTop (mkF m 0 #[.val (.int u)] [])) _
      refine XS.iloadN X0.here hx rfl (hb hby d2_0) rfl ?_
      show Steps p.tables e below (s₁.setTop (mkF m 1 #[.val (.int u)] [(.int u)])) _
      refine XS.bipush X0.here hx rfl (hb hby d2_1) ?_
      exact kk)
  by_cases hc9 : u < (97 : Int32)
  · have pre10 : ∀ t, Steps p.tables e below (s₁.setTop (mkF m 17 #[.val (.int u)] [(.int (65 : Int32)), (.int u)])) t → Steps p.tables e below (s₁.setTop (entryFrame m #[(.int u)] 1)) t := fun t kk => pre8 t (by
        show Steps p.tables e below (s₁.setTop (mkF m 3 #[.val (.int u)] [(.int (97 : Int32)), (.int u)])) _
        refine XS.icmpYes X0.here hx rfl (pc0 := 3) (pc' := 14) rfl (hb hby d2_3) rfl (tlt hc9).1 (by decide) (by decide) ?_
        show Steps p.tables e below (s₁.setTop (mkF m 14 #[.val (.int u)] [])) _
        refine XS.iloadN X0.here hx rfl (hb hby d2_14) rfl ?_
        show Steps p.tables e below (s₁.setTop (mkF m 15 #[.val (.int u)] [(.int u)])) _
        refine XS.bipush X0.here hx rfl (hb hby d2_15) ?_
        exact kk)
    by_cases hc11 : u < (65 : Int32)
    · have pre12 : ∀ t, Steps p.tables e below (s₁.setTop (mkF m 31 #[.val (.int u)] [(.int (48 : Int32)), (.int u)])) t → Steps p.tables e below (s₁.setTop (entryFrame m #[(.int u)] 1)) t := fun t kk => pre10 t (by
          show Steps p.tables e below (s₁.setTop (mkF m 17 #[.val (.int u)] [(.int (65 : Int32)), (.int u)])) _
          refine XS.icmpYes X0.here hx rfl (pc0 := 17) (pc' := 28) rfl (hb hby d2_17) rfl (tlt hc11).1 (by decide) (by decide) ?_
          show Steps p.tables e below (s₁.setTop (mkF m 28 #[.val (.int u)] [])) _
          refine XS.iloadN X0.here hx rfl (hb hby d2_28) rfl ?_
          show Steps p.tables e below (s₁.setTop (mkF m 29 #[.val (.int u)] [(.int u)])) _
          refine XS.bipush X0.here hx rfl (hb hby d2_29) ?_
          exact kk)
      by_cases hc13 : u < (48 : Int32)
      · have pre14 : ∀ t, Steps p.tables e below (s₁.setTop (mkF m 45 #[.val (.int u)] [(.int (45 : Int32)), (.int u)])) t → Steps p.tables e below (s₁.setTop (entryFrame m #[(.int u)] 1)) t := fun t kk => pre12 t (by
            show Steps p.tables e below (s₁.setTop (mkF m 31 #[.val (.int u)] [(.int (48 : Int32)), (.int u)])) _
            refine XS.icmpYes X0.here hx rfl (pc0 := 31) (pc' := 42) rfl (hb hby d2_31) rfl (tlt hc13).1 (by decide) (by decide) ?_
            show Steps p.tables e below (s₁.setTop (mkF m 42 #[.val (.int u)] [])) _
            refine XS.iloadN X0.here hx rfl (hb hby d2_42) rfl ?_
            show Steps p.tables e below (s₁.setTop (mkF m 43 #[.val (.int u)] [(.int u)])) _
            refine XS.bipush X0.here hx rfl (hb hby d2_43) ?_
            exact kk)
        by_cases hc15 : u = (45 : Int32)
        · have pre100 : ∀ t, Steps p.tables e below (s₁.setTop (mkF m 67 #[.val (.int u)] [(.int (1 : Int32))])) t → Steps p.tables e below (s₁.setTop (entryFrame m #[(.int u)] 1)) t := fun t kk => pre14 t (by
              show Steps p.tables e below (s₁.setTop (mkF m 45 #[.val (.int u)] [(.int (45 : Int32)), (.int u)])) _
              refine XS.icmpYes X0.here hx rfl (pc0 := 45) (pc' := 66) rfl (hb hby d2_45) rfl (teq hc15).1 (by decide) (by decide) ?_
              show Steps p.tables e below (s₁.setTop (mkF m 66 #[.val (.int u)] [])) _
              refine XS.iconst X0.here hx rfl (hb hby d2_66) ?_
              exact kk)
          obtain ⟨fs, hr, hrun, hended, hW, hsame⟩ := X0.leave (v := some (.int (1 : Int32))) (fun h => by rw [Bd.returns] at h; cases h)
          refine ⟨_, _, pre100 _ ?_, hrun, hended, _, _, rfl, ?_, ⟨_, rfl⟩, hW, hsame.mono (by decide) (by decide)⟩
          · show Steps p.tables e below (s₁.setTop (mkF m 67 #[.val (.int u)] [(.int (1 : Int32))])) _
            exact retN X0 hx (t := .boolean) Bd.returns (by simp) (hb hby d2_67) hr
          · show QExp Z u h0 n0 _ s₁.heap _
            rw [e0]
            exact ⟨(by unfold own_exp; rw [if_pos hc9, if_pos hc11, if_pos hc13, if_pos hc15]), N0, rfl⟩
        · have pre16 : ∀ t, Steps p.tables e below (s₁.setTop (mkF m 51 #[.val (.int u)] [(.int (95 : Int32)), (.int u)])) t → Steps p.tables e below (s₁.setTop (entryFrame m #[(.int u)] 1)) t := fun t kk => pre14 t (by
              show Steps p.tables e below (s₁.setTop (mkF m 45 #[.val (.int u)] [(.int (45 : Int32)), (.int u)])) _
              refine XS.icmpNo X0.here hx rfl (hb hby d2_45) rfl (feq hc15).1 ?_
              show Steps p.tables e below (s₁.setTop (mkF m 48 #[.val (.int u)] [])) _
              refine XS.iloadN X0.here hx rfl (hb hby d2_48) rfl ?_
              show Steps p.tables e below (s₁.setTop (mkF m 49 #[.val (.int u)] [(.int u)])) _
              refine XS.bipush X0.here hx rfl (hb hby d2_49) ?_
              exact kk)
          by_cases hc17 : u = (95 : Int32)
          · have pre101 : ∀ t, Steps p.tables e below (s₁.setTop (mkF m 67 #[.val (.int u)] [(.int (1 : Int32))])) t → Steps p.tables e below (s₁.setTop (entryFrame m #[(.int u)] 1)) t := fun t kk => pre16 t (by
                show Steps p.tables e below (s₁.setTop (mkF m 51 #[.val (.int u)] [(.int (95 : Int32)), (.int u)])) _
                refine XS.icmpYes X0.here hx rfl (pc0 := 51) (pc' := 66) rfl (hb hby d2_51) rfl (teq hc17).1 (by decide) (by decide) ?_
                show Steps p.tables e below (s₁.setTop (mkF m 66 #[.val (.int u)] [])) _
                refine XS.iconst X0.here hx rfl (hb hby d2_66) ?_
                exact kk)
            obtain ⟨fs, hr, hrun, hended, hW, hsame⟩ := X0.leave (v := some (.int (1 : Int32))) (fun h => by rw [Bd.returns] at h; cases h)
            refine ⟨_, _, pre101 _ ?_, hrun, hended, _, _, rfl, ?_, ⟨_, rfl⟩, hW, hsame.mono (by decide) (by decide)⟩
            · show Steps p.tables e below (s₁.setTop (mkF m 67 #[.val (.int u)] [(.int (1 : Int32))])) _
              exact retN X0 hx (t := .boolean) Bd.returns (by simp) (hb hby d2_67) hr
            · show QExp Z u h0 n0 _ s₁.heap _
              rw [e0]
              exact ⟨(by unfold own_exp; rw [if_pos hc9, if_pos hc11, if_pos hc13, if_neg hc15, if_pos hc17]), N0, rfl⟩
          · have pre18 : ∀ t, Steps p.tables e below (s₁.setTop (mkF m 57 #[.val (.int u)] [(.int (46 : Int32)), (.int u)])) t → Steps p.tables e below (s₁.setTop (entryFrame m #[(.int u)] 1)) t := fun t kk => pre16 t (by
                show Steps p.tables e below (s₁.setTop (mkF m 51 #[.val (.int u)] [(.int (95 : Int32)), (.int u)])) _
                refine XS.icmpNo X0.here hx rfl (hb hby d2_51) rfl (feq hc17).1 ?_
                show Steps p.tables e below (s₁.setTop (mkF m 54 #[.val (.int u)] [])) _
                refine XS.iloadN X0.here hx rfl (hb hby d2_54) rfl ?_
                show Steps p.tables e below (s₁.setTop (mkF m 55 #[.val (.int u)] [(.int u)])) _
                refine XS.bipush X0.here hx rfl (hb hby d2_55) ?_
                exact kk)
            by_cases hc19 : u = (46 : Int32)
            · have pre102 : ∀ t, Steps p.tables e below (s₁.setTop (mkF m 67 #[.val (.int u)] [(.int (1 : Int32))])) t → Steps p.tables e below (s₁.setTop (entryFrame m #[(.int u)] 1)) t := fun t kk => pre18 t (by
                  show Steps p.tables e below (s₁.setTop (mkF m 57 #[.val (.int u)] [(.int (46 : Int32)), (.int u)])) _
                  refine XS.icmpYes X0.here hx rfl (pc0 := 57) (pc' := 66) rfl (hb hby d2_57) rfl (teq hc19).1 (by decide) (by decide) ?_
                  show Steps p.tables e below (s₁.setTop (mkF m 66 #[.val (.int u)] [])) _
                  refine XS.iconst X0.here hx rfl (hb hby d2_66) ?_
                  exact kk)
              obtain ⟨fs, hr, hrun, hended, hW, hsame⟩ := X0.leave (v := some (.int (1 : Int32))) (fun h => by rw [Bd.returns] at h; cases h)
              refine ⟨_, _, pre102 _ ?_, hrun, hended, _, _, rfl, ?_, ⟨_, rfl⟩, hW, hsame.mono (by decide) (by decide)⟩
              · show Steps p.tables e below (s₁.setTop (mkF m 67 #[.val (.int u)] [(.int (1 : Int32))])) _
                exact retN X0 hx (t := .boolean) Bd.returns (by simp) (hb hby d2_67) hr
              · show QExp Z u h0 n0 _ s₁.heap _
                rw [e0]
                exact ⟨(by unfold own_exp; rw [if_pos hc9, if_pos hc11, if_pos hc13, if_neg hc15, if_neg hc17, if_pos hc19]), N0, rfl⟩
            · have pre20 : ∀ t, Steps p.tables e below (s₁.setTop (mkF m 63 #[.val (.int u)] [(.int (58 : Int32)), (.int u)])) t → Steps p.tables e below (s₁.setTop (entryFrame m #[(.int u)] 1)) t := fun t kk => pre18 t (by
                  show Steps p.tables e below (s₁.setTop (mkF m 57 #[.val (.int u)] [(.int (46 : Int32)), (.int u)])) _
                  refine XS.icmpNo X0.here hx rfl (hb hby d2_57) rfl (feq hc19).1 ?_
                  show Steps p.tables e below (s₁.setTop (mkF m 60 #[.val (.int u)] [])) _
                  refine XS.iloadN X0.here hx rfl (hb hby d2_60) rfl ?_
                  show Steps p.tables e below (s₁.setTop (mkF m 61 #[.val (.int u)] [(.int u)])) _
                  refine XS.bipush X0.here hx rfl (hb hby d2_61) ?_
                  exact kk)
              by_cases hc21 : u = (58 : Int32)
              · have pre103 : ∀ t, Steps p.tables e below (s₁.setTop (mkF m 67 #[.val (.int u)] [(.int (1 : Int32))])) t → Steps p.tables e below (s₁.setTop (entryFrame m #[(.int u)] 1)) t := fun t kk => pre20 t (by
                    show Steps p.tables e below (s₁.setTop (mkF m 63 #[.val (.int u)] [(.int (58 : Int32)), (.int u)])) _
                    refine XS.icmpNo X0.here hx rfl (hb hby d2_63) rfl (teq hc21).2 ?_
                    show Steps p.tables e below (s₁.setTop (mkF m 66 #[.val (.int u)] [])) _
                    refine XS.iconst X0.here hx rfl (hb hby d2_66) ?_
                    exact kk)
                obtain ⟨fs, hr, hrun, hended, hW, hsame⟩ := X0.leave (v := some (.int (1 : Int32))) (fun h => by rw [Bd.returns] at h; cases h)
                refine ⟨_, _, pre103 _ ?_, hrun, hended, _, _, rfl, ?_, ⟨_, rfl⟩, hW, hsame.mono (by decide) (by decide)⟩
                · show Steps p.tables e below (s₁.setTop (mkF m 67 #[.val (.int u)] [(.int (1 : Int32))])) _
                  exact retN X0 hx (t := .boolean) Bd.returns (by simp) (hb hby d2_67) hr
                · show QExp Z u h0 n0 _ s₁.heap _
                  rw [e0]
                  exact ⟨(by unfold own_exp; rw [if_pos hc9, if_pos hc11, if_pos hc13, if_neg hc15, if_neg hc17, if_neg hc19, if_pos hc21]), N0, rfl⟩
              · have pre104 : ∀ t, Steps p.tables e below (s₁.setTop (mkF m 69 #[.val (.int u)] [(.int (0 : Int32))])) t → Steps p.tables e below (s₁.setTop (entryFrame m #[(.int u)] 1)) t := fun t kk => pre20 t (by
                    show Steps p.tables e below (s₁.setTop (mkF m 63 #[.val (.int u)] [(.int (58 : Int32)), (.int u)])) _
                    refine XS.icmpYes X0.here hx rfl (pc0 := 63) (pc' := 68) rfl (hb hby d2_63) rfl (feq hc21).2 (by decide) (by decide) ?_
                    show Steps p.tables e below (s₁.setTop (mkF m 68 #[.val (.int u)] [])) _
                    refine XS.iconst X0.here hx rfl (hb hby d2_68) ?_
                    exact kk)
                obtain ⟨fs, hr, hrun, hended, hW, hsame⟩ := X0.leave (v := some (.int (0 : Int32))) (fun h => by rw [Bd.returns] at h; cases h)
                refine ⟨_, _, pre104 _ ?_, hrun, hended, _, _, rfl, ?_, ⟨_, rfl⟩, hW, hsame.mono (by decide) (by decide)⟩
                · show Steps p.tables e below (s₁.setTop (mkF m 69 #[.val (.int u)] [(.int (0 : Int32))])) _
                  exact retN X0 hx (t := .boolean) Bd.returns (by simp) (hb hby d2_69) hr
                · show QExp Z u h0 n0 _ s₁.heap _
                  rw [e0]
                  exact ⟨(by unfold own_exp; rw [if_pos hc9, if_pos hc11, if_pos hc13, if_neg hc15, if_neg hc17, if_neg hc19, if_neg hc21]), N0, rfl⟩
      · have pre22 : ∀ t, Steps p.tables e below (s₁.setTop (mkF m 37 #[.val (.int u)] [(.int (57 : Int32)), (.int u)])) t → Steps p.tables e below (s₁.setTop (entryFrame m #[(.int u)] 1)) t := fun t kk => pre12 t (by
            show Steps p.tables e below (s₁.setTop (mkF m 31 #[.val (.int u)] [(.int (48 : Int32)), (.int u)])) _
            refine XS.icmpNo X0.here hx rfl (hb hby d2_31) rfl (flt hc13).1 ?_
            show Steps p.tables e below (s₁.setTop (mkF m 34 #[.val (.int u)] [])) _
            refine XS.iloadN X0.here hx rfl (hb hby d2_34) rfl ?_
            show Steps p.tables e below (s₁.setTop (mkF m 35 #[.val (.int u)] [(.int u)])) _
            refine XS.bipush X0.here hx rfl (hb hby d2_35) ?_
            exact kk)
        by_cases hc23 : (57 : Int32) < u
        · have pre24 : ∀ t, Steps p.tables e below (s₁.setTop (mkF m 45 #[.val (.int u)] [(.int (45 : Int32)), (.int u)])) t → Steps p.tables e below (s₁.setTop (entryFrame m #[(.int u)] 1)) t := fun t kk => pre22 t (by
              show Steps p.tables e below (s₁.setTop (mkF m 37 #[.val (.int u)] [(.int (57 : Int32)), (.int u)])) _
              refine XS.icmpYes X0.here hx rfl (pc0 := 37) (pc' := 42) rfl (hb hby d2_37) rfl (tlt hc23).2.2.1 (by decide) (by decide) ?_
              show Steps p.tables e below (s₁.setTop (mkF m 42 #[.val (.int u)] [])) _
              refine XS.iloadN X0.here hx rfl (hb hby d2_42) rfl ?_
              show Steps p.tables e below (s₁.setTop (mkF m 43 #[.val (.int u)] [(.int u)])) _
              refine XS.bipush X0.here hx rfl (hb hby d2_43) ?_
              exact kk)
          by_cases hc25 : u = (45 : Int32)
          · have pre105 : ∀ t, Steps p.tables e below (s₁.setTop (mkF m 67 #[.val (.int u)] [(.int (1 : Int32))])) t → Steps p.tables e below (s₁.setTop (entryFrame m #[(.int u)] 1)) t := fun t kk => pre24 t (by
                show Steps p.tables e below (s₁.setTop (mkF m 45 #[.val (.int u)] [(.int (45 : Int32)), (.int u)])) _
                refine XS.icmpYes X0.here hx rfl (pc0 := 45) (pc' := 66) rfl (hb hby d2_45) rfl (teq hc25).1 (by decide) (by decide) ?_
                show Steps p.tables e below (s₁.setTop (mkF m 66 #[.val (.int u)] [])) _
                refine XS.iconst X0.here hx rfl (hb hby d2_66) ?_
                exact kk)
            obtain ⟨fs, hr, hrun, hended, hW, hsame⟩ := X0.leave (v := some (.int (1 : Int32))) (fun h => by rw [Bd.returns] at h; cases h)
            refine ⟨_, _, pre105 _ ?_, hrun, hended, _, _, rfl, ?_, ⟨_, rfl⟩, hW, hsame.mono (by decide) (by decide)⟩
            · show Steps p.tables e below (s₁.setTop (mkF m 67 #[.val (.int u)] [(.int (1 : Int32))])) _
              exact retN X0 hx (t := .boolean) Bd.returns (by simp) (hb hby d2_67) hr
            · show QExp Z u h0 n0 _ s₁.heap _
              rw [e0]
              exact ⟨(by unfold own_exp; rw [if_pos hc9, if_pos hc11, if_neg hc13, if_pos hc23, if_pos hc25]), N0, rfl⟩
          · have pre26 : ∀ t, Steps p.tables e below (s₁.setTop (mkF m 51 #[.val (.int u)] [(.int (95 : Int32)), (.int u)])) t → Steps p.tables e below (s₁.setTop (entryFrame m #[(.int u)] 1)) t := fun t kk => pre24 t (by
                show Steps p.tables e below (s₁.setTop (mkF m 45 #[.val (.int u)] [(.int (45 : Int32)), (.int u)])) _
                refine XS.icmpNo X0.here hx rfl (hb hby d2_45) rfl (feq hc25).1 ?_
                show Steps p.tables e below (s₁.setTop (mkF m 48 #[.val (.int u)] [])) _
                refine XS.iloadN X0.here hx rfl (hb hby d2_48) rfl ?_
                show Steps p.tables e below (s₁.setTop (mkF m 49 #[.val (.int u)] [(.int u)])) _
                refine XS.bipush X0.here hx rfl (hb hby d2_49) ?_
                exact kk)
            by_cases hc27 : u = (95 : Int32)
            · have pre106 : ∀ t, Steps p.tables e below (s₁.setTop (mkF m 67 #[.val (.int u)] [(.int (1 : Int32))])) t → Steps p.tables e below (s₁.setTop (entryFrame m #[(.int u)] 1)) t := fun t kk => pre26 t (by
                  show Steps p.tables e below (s₁.setTop (mkF m 51 #[.val (.int u)] [(.int (95 : Int32)), (.int u)])) _
                  refine XS.icmpYes X0.here hx rfl (pc0 := 51) (pc' := 66) rfl (hb hby d2_51) rfl (teq hc27).1 (by decide) (by decide) ?_
                  show Steps p.tables e below (s₁.setTop (mkF m 66 #[.val (.int u)] [])) _
                  refine XS.iconst X0.here hx rfl (hb hby d2_66) ?_
                  exact kk)
              obtain ⟨fs, hr, hrun, hended, hW, hsame⟩ := X0.leave (v := some (.int (1 : Int32))) (fun h => by rw [Bd.returns] at h; cases h)
              refine ⟨_, _, pre106 _ ?_, hrun, hended, _, _, rfl, ?_, ⟨_, rfl⟩, hW, hsame.mono (by decide) (by decide)⟩
              · show Steps p.tables e below (s₁.setTop (mkF m 67 #[.val (.int u)] [(.int (1 : Int32))])) _
                exact retN X0 hx (t := .boolean) Bd.returns (by simp) (hb hby d2_67) hr
              · show QExp Z u h0 n0 _ s₁.heap _
                rw [e0]
                exact ⟨(by unfold own_exp; rw [if_pos hc9, if_pos hc11, if_neg hc13, if_pos hc23, if_neg hc25, if_pos hc27]), N0, rfl⟩
            · have pre28 : ∀ t, Steps p.tables e below (s₁.setTop (mkF m 57 #[.val (.int u)] [(.int (46 : Int32)), (.int u)])) t → Steps p.tables e below (s₁.setTop (entryFrame m #[(.int u)] 1)) t := fun t kk => pre26 t (by
                  show Steps p.tables e below (s₁.setTop (mkF m 51 #[.val (.int u)] [(.int (95 : Int32)), (.int u)])) _
                  refine XS.icmpNo X0.here hx rfl (hb hby d2_51) rfl (feq hc27).1 ?_
                  show Steps p.tables e below (s₁.setTop (mkF m 54 #[.val (.int u)] [])) _
                  refine XS.iloadN X0.here hx rfl (hb hby d2_54) rfl ?_
                  show Steps p.tables e below (s₁.setTop (mkF m 55 #[.val (.int u)] [(.int u)])) _
                  refine XS.bipush X0.here hx rfl (hb hby d2_55) ?_
                  exact kk)
              by_cases hc29 : u = (46 : Int32)
              · have pre107 : ∀ t, Steps p.tables e below (s₁.setTop (mkF m 67 #[.val (.int u)] [(.int (1 : Int32))])) t → Steps p.tables e below (s₁.setTop (entryFrame m #[(.int u)] 1)) t := fun t kk => pre28 t (by
                    show Steps p.tables e below (s₁.setTop (mkF m 57 #[.val (.int u)] [(.int (46 : Int32)), (.int u)])) _
                    refine XS.icmpYes X0.here hx rfl (pc0 := 57) (pc' := 66) rfl (hb hby d2_57) rfl (teq hc29).1 (by decide) (by decide) ?_
                    show Steps p.tables e below (s₁.setTop (mkF m 66 #[.val (.int u)] [])) _
                    refine XS.iconst X0.here hx rfl (hb hby d2_66) ?_
                    exact kk)
                obtain ⟨fs, hr, hrun, hended, hW, hsame⟩ := X0.leave (v := some (.int (1 : Int32))) (fun h => by rw [Bd.returns] at h; cases h)
                refine ⟨_, _, pre107 _ ?_, hrun, hended, _, _, rfl, ?_, ⟨_, rfl⟩, hW, hsame.mono (by decide) (by decide)⟩
                · show Steps p.tables e below (s₁.setTop (mkF m 67 #[.val (.int u)] [(.int (1 : Int32))])) _
                  exact retN X0 hx (t := .boolean) Bd.returns (by simp) (hb hby d2_67) hr
                · show QExp Z u h0 n0 _ s₁.heap _
                  rw [e0]
                  exact ⟨(by unfold own_exp; rw [if_pos hc9, if_pos hc11, if_neg hc13, if_pos hc23, if_neg hc25, if_neg hc27, if_pos hc29]), N0, rfl⟩
              · have pre30 : ∀ t, Steps p.tables e below (s₁.setTop (mkF m 63 #[.val (.int u)] [(.int (58 : Int32)), (.int u)])) t → Steps p.tables e below (s₁.setTop (entryFrame m #[(.int u)] 1)) t := fun t kk => pre28 t (by
                    show Steps p.tables e below (s₁.setTop (mkF m 57 #[.val (.int u)] [(.int (46 : Int32)), (.int u)])) _
                    refine XS.icmpNo X0.here hx rfl (hb hby d2_57) rfl (feq hc29).1 ?_
                    show Steps p.tables e below (s₁.setTop (mkF m 60 #[.val (.int u)] [])) _
                    refine XS.iloadN X0.here hx rfl (hb hby d2_60) rfl ?_
                    show Steps p.tables e below (s₁.setTop (mkF m 61 #[.val (.int u)] [(.int u)])) _
                    refine XS.bipush X0.here hx rfl (hb hby d2_61) ?_
                    exact kk)
                by_cases hc31 : u = (58 : Int32)
                · have pre108 : ∀ t, Steps p.tables e below (s₁.setTop (mkF m 67 #[.val (.int u)] [(.int (1 : Int32))])) t → Steps p.tables e below (s₁.setTop (entryFrame m #[(.int u)] 1)) t := fun t kk => pre30 t (by
                      show Steps p.tables e below (s₁.setTop (mkF m 63 #[.val (.int u)] [(.int (58 : Int32)), (.int u)])) _
                      refine XS.icmpNo X0.here hx rfl (hb hby d2_63) rfl (teq hc31).2 ?_
                      show Steps p.tables e below (s₁.setTop (mkF m 66 #[.val (.int u)] [])) _
                      refine XS.iconst X0.here hx rfl (hb hby d2_66) ?_
                      exact kk)
                  obtain ⟨fs, hr, hrun, hended, hW, hsame⟩ := X0.leave (v := some (.int (1 : Int32))) (fun h => by rw [Bd.returns] at h; cases h)
                  refine ⟨_, _, pre108 _ ?_, hrun, hended, _, _, rfl, ?_, ⟨_, rfl⟩, hW, hsame.mono (by decide) (by decide)⟩
                  · show Steps p.tables e below (s₁.setTop (mkF m 67 #[.val (.int u)] [(.int (1 : Int32))])) _
                    exact retN X0 hx (t := .boolean) Bd.returns (by simp) (hb hby d2_67) hr
                  · show QExp Z u h0 n0 _ s₁.heap _
                    rw [e0]
                    exact ⟨(by unfold own_exp; rw [if_pos hc9, if_pos hc11, if_neg hc13, if_pos hc23, if_neg hc25, if_neg hc27, if_neg hc29, if_pos hc31]), N0, rfl⟩
                · have pre109 : ∀ t, Steps p.tables e below (s₁.setTop (mkF m 69 #[.val (.int u)] [(.int (0 : Int32))])) t → Steps p.tables e below (s₁.setTop (entryFrame m #[(.int u)] 1)) t := fun t kk => pre30 t (by
                      show Steps p.tables e below (s₁.setTop (mkF m 63 #[.val (.int u)] [(.int (58 : Int32)), (.int u)])) _
                      refine XS.icmpYes X0.here hx rfl (pc0 := 63) (pc' := 68) rfl (hb hby d2_63) rfl (feq hc31).2 (by decide) (by decide) ?_
                      show Steps p.tables e below (s₁.setTop (mkF m 68 #[.val (.int u)] [])) _
                      refine XS.iconst X0.here hx rfl (hb hby d2_68) ?_
                      exact kk)
                  obtain ⟨fs, hr, hrun, hended, hW, hsame⟩ := X0.leave (v := some (.int (0 : Int32))) (fun h => by rw [Bd.returns] at h; cases h)
                  refine ⟨_, _, pre109 _ ?_, hrun, hended, _, _, rfl, ?_, ⟨_, rfl⟩, hW, hsame.mono (by decide) (by decide)⟩
                  · show Steps p.tables e below (s₁.setTop (mkF m 69 #[.val (.int u)] [(.int (0 : Int32))])) _
                    exact retN X0 hx (t := .boolean) Bd.returns (by simp) (hb hby d2_69) hr
                  · show QExp Z u h0 n0 _ s₁.heap _
                    rw [e0]
                    exact ⟨(by unfold own_exp; rw [if_pos hc9, if_pos hc11, if_neg hc13, if_pos hc23, if_neg hc25, if_neg hc27, if_neg hc29, if_neg hc31]), N0, rfl⟩
        · have pre110 : ∀ t, Steps p.tables e below (s₁.setTop (mkF m 41 #[.val (.int u)] [(.int (1 : Int32))])) t → Steps p.tables e below (s₁.setTop (entryFrame m #[(.int u)] 1)) t := fun t kk => pre22 t (by
              show Steps p.tables e below (s₁.setTop (mkF m 37 #[.val (.int u)] [(.int (57 : Int32)), (.int u)])) _
              refine XS.icmpNo X0.here hx rfl (hb hby d2_37) rfl (flt hc23).2.2.1 ?_
              show Steps p.tables e below (s₁.setTop (mkF m 40 #[.val (.int u)] [])) _
              refine XS.iconst X0.here hx rfl (hb hby d2_40) ?_
              exact kk)
          obtain ⟨fs, hr, hrun, hended, hW, hsame⟩ := X0.leave (v := some (.int (1 : Int32))) (fun h => by rw [Bd.returns] at h; cases h)
          refine ⟨_, _, pre110 _ ?_, hrun, hended, _, _, rfl, ?_, ⟨_, rfl⟩, hW, hsame.mono (by decide) (by decide)⟩
          · show Steps p.tables e below (s₁.setTop (mkF m 41 #[.val (.int u)] [(.int (1 : Int32))])) _
            exact retN X0 hx (t := .boolean) Bd.returns (by simp) (hb hby d2_41) hr
          · show QExp Z u h0 n0 _ s₁.heap _
            rw [e0]
            exact ⟨(by unfold own_exp; rw [if_pos hc9, if_pos hc11, if_neg hc13, if_neg hc23]), N0, rfl⟩
    · have pre32 : ∀ t, Steps p.tables e below (s₁.setTop (mkF m 23 #[.val (.int u)] [(.int (90 : Int32)), (.int u)])) t → Steps p.tables e below (s₁.setTop (entryFrame m #[(.int u)] 1)) t := fun t kk => pre10 t (by
          show Steps p.tables e below (s₁.setTop (mkF m 17 #[.val (.int u)] [(.int (65 : Int32)), (.int u)])) _
          refine XS.icmpNo X0.here hx rfl (hb hby d2_17) rfl (flt hc11).1 ?_
          show Steps p.tables e below (s₁.setTop (mkF m 20 #[.val (.int u)] [])) _
          refine XS.iloadN X0.here hx rfl (hb hby d2_20) rfl ?_
          show Steps p.tables e below (s₁.setTop (mkF m 21 #[.val (.int u)] [(.int u)])) _
          refine XS.bipush X0.here hx rfl (hb hby d2_21) ?_
          exact kk)
      by_cases hc33 : (90 : Int32) < u
      · have pre34 : ∀ t, Steps p.tables e below (s₁.setTop (mkF m 31 #[.val (.int u)] [(.int (48 : Int32)), (.int u)])) t → Steps p.tables e below (s₁.setTop (entryFrame m #[(.int u)] 1)) t := fun t kk => pre32 t (by
            show Steps p.tables e below (s₁.setTop (mkF m 23 #[.val (.int u)] [(.int (90 : Int32)), (.int u)])) _
            refine XS.icmpYes X0.here hx rfl (pc0 := 23) (pc' := 28) rfl (hb hby d2_23) rfl (tlt hc33).2.2.1 (by decide) (by decide) ?_
            show Steps p.tables e below (s₁.setTop (mkF m 28 #[.val (.int u)] [])) _
            refine XS.iloadN X0.here hx rfl (hb hby d2_28) rfl ?_
            show Steps p.tables e below (s₁.setTop (mkF m 29 #[.val (.int u)] [(.int u)])) _
            refine XS.bipush X0.here hx rfl (hb hby d2_29) ?_
            exact kk)
        by_cases hc35 : u < (48 : Int32)
        · have pre36 : ∀ t, Steps p.tables e below (s₁.setTop (mkF m 45 #[.val (.int u)] [(.int (45 : Int32)), (.int u)])) t → Steps p.tables e below (s₁.setTop (entryFrame m #[(.int u)] 1)) t := fun t kk => pre34 t (by
              show Steps p.tables e below (s₁.setTop (mkF m 31 #[.val (.int u)] [(.int (48 : Int32)), (.int u)])) _
              refine XS.icmpYes X0.here hx rfl (pc0 := 31) (pc' := 42) rfl (hb hby d2_31) rfl (tlt hc35).1 (by decide) (by decide) ?_
              show Steps p.tables e below (s₁.setTop (mkF m 42 #[.val (.int u)] [])) _
              refine XS.iloadN X0.here hx rfl (hb hby d2_42) rfl ?_
              show Steps p.tables e below (s₁.setTop (mkF m 43 #[.val (.int u)] [(.int u)])) _
              refine XS.bipush X0.here hx rfl (hb hby d2_43) ?_
              exact kk)
          by_cases hc37 : u = (45 : Int32)
          · have pre111 : ∀ t, Steps p.tables e below (s₁.setTop (mkF m 67 #[.val (.int u)] [(.int (1 : Int32))])) t → Steps p.tables e below (s₁.setTop (entryFrame m #[(.int u)] 1)) t := fun t kk => pre36 t (by
                show Steps p.tables e below (s₁.setTop (mkF m 45 #[.val (.int u)] [(.int (45 : Int32)), (.int u)])) _
                refine XS.icmpYes X0.here hx rfl (pc0 := 45) (pc' := 66) rfl (hb hby d2_45) rfl (teq hc37).1 (by decide) (by decide) ?_
                show Steps p.tables e below (s₁.setTop (mkF m 66 #[.val (.int u)] [])) _
                refine XS.iconst X0.here hx rfl (hb hby d2_66) ?_
                exact kk)
            obtain ⟨fs, hr, hrun, hended, hW, hsame⟩ := X0.leave (v := some (.int (1 : Int32))) (fun h => by rw [Bd.returns] at h; cases h)
            refine ⟨_, _, pre111 _ ?_, hrun, hended, _, _, rfl, ?_, ⟨_, rfl⟩, hW, hsame.mono (by decide) (by decide)⟩
            · show Steps p.tables e below (s₁.setTop (mkF m 67 #[.val (.int u)] [(.int (1 : Int32))])) _
              exact retN X0 hx (t := .boolean) Bd.returns (by simp) (hb hby d2_67) hr
            · show QExp Z u h0 n0 _ s₁.heap _
              rw [e0]
              exact ⟨(by unfold own_exp; rw [if_pos hc9, if_neg hc11, if_pos hc33, if_pos hc35, if_pos hc37]), N0, rfl⟩
          · have pre38 : ∀ t, Steps p.tables e below (s₁.setTop (mkF m 51 #[.val (.int u)] [(.int (95 : Int32)), (.int u)])) t → Steps p.tables e below (s₁.setTop (entryFrame m #[(.int u)] 1)) t := fun t kk => pre36 t (by
                show Steps p.tables e below (s₁.setTop (mkF m 45 #[.val (.int u)] [(.int (45 : Int32)), (.int u)])) _
                refine XS.icmpNo X0.here hx rfl (hb hby d2_45) rfl (feq hc37).1 ?_
                show Steps p.tables e below (s₁.setTop (mkF m 48 #[.val (.int u)] [])) _
                refine XS.iloadN X0.here hx rfl (hb hby d2_48) rfl ?_
                show Steps p.tables e below (s₁.setTop (mkF m 49 #[.val (.int u)] [(.int u)])) _
                refine XS.bipush X0.here hx rfl (hb hby d2_49) ?_
                exact kk)
            by_cases hc39 : u = (95 : Int32)
            · have pre112 : ∀ t, Steps p.tables e below (s₁.setTop (mkF m 67 #[.val (.int u)] [(.int (1 : Int32))])) t → Steps p.tables e below (s₁.setTop (entryFrame m #[(.int u)] 1)) t := fun t kk => pre38 t (by
                  show Steps p.tables e below (s₁.setTop (mkF m 51 #[.val (.int u)] [(.int (95 : Int32)), (.int u)])) _
                  refine XS.icmpYes X0.here hx rfl (pc0 := 51) (pc' := 66) rfl (hb hby d2_51) rfl (teq hc39).1 (by decide) (by decide) ?_
                  show Steps p.tables e below (s₁.setTop (mkF m 66 #[.val (.int u)] [])) _
                  refine XS.iconst X0.here hx rfl (hb hby d2_66) ?_
                  exact kk)
              obtain ⟨fs, hr, hrun, hended, hW, hsame⟩ := X0.leave (v := some (.int (1 : Int32))) (fun h => by rw [Bd.returns] at h; cases h)
              refine ⟨_, _, pre112 _ ?_, hrun, hended, _, _, rfl, ?_, ⟨_, rfl⟩, hW, hsame.mono (by decide) (by decide)⟩
              · show Steps p.tables e below (s₁.setTop (mkF m 67 #[.val (.int u)] [(.int (1 : Int32))])) _
                exact retN X0 hx (t := .boolean) Bd.returns (by simp) (hb hby d2_67) hr
              · show QExp Z u h0 n0 _ s₁.heap _
                rw [e0]
                exact ⟨(by unfold own_exp; rw [if_pos hc9, if_neg hc11, if_pos hc33, if_pos hc35, if_neg hc37, if_pos hc39]), N0, rfl⟩
            · have pre40 : ∀ t, Steps p.tables e below (s₁.setTop (mkF m 57 #[.val (.int u)] [(.int (46 : Int32)), (.int u)])) t → Steps p.tables e below (s₁.setTop (entryFrame m #[(.int u)] 1)) t := fun t kk => pre38 t (by
                  show Steps p.tables e below (s₁.setTop (mkF m 51 #[.val (.int u)] [(.int (95 : Int32)), (.int u)])) _
                  refine XS.icmpNo X0.here hx rfl (hb hby d2_51) rfl (feq hc39).1 ?_
                  show Steps p.tables e below (s₁.setTop (mkF m 54 #[.val (.int u)] [])) _
                  refine XS.iloadN X0.here hx rfl (hb hby d2_54) rfl ?_
                  show Steps p.tables e below (s₁.setTop (mkF m 55 #[.val (.int u)] [(.int u)])) _
                  refine XS.bipush X0.here hx rfl (hb hby d2_55) ?_
                  exact kk)
              by_cases hc41 : u = (46 : Int32)
              · have pre113 : ∀ t, Steps p.tables e below (s₁.setTop (mkF m 67 #[.val (.int u)] [(.int (1 : Int32))])) t → Steps p.tables e below (s₁.setTop (entryFrame m #[(.int u)] 1)) t := fun t kk => pre40 t (by
                    show Steps p.tables e below (s₁.setTop (mkF m 57 #[.val (.int u)] [(.int (46 : Int32)), (.int u)])) _
                    refine XS.icmpYes X0.here hx rfl (pc0 := 57) (pc' := 66) rfl (hb hby d2_57) rfl (teq hc41).1 (by decide) (by decide) ?_
                    show Steps p.tables e below (s₁.setTop (mkF m 66 #[.val (.int u)] [])) _
                    refine XS.iconst X0.here hx rfl (hb hby d2_66) ?_
                    exact kk)
                obtain ⟨fs, hr, hrun, hended, hW, hsame⟩ := X0.leave (v := some (.int (1 : Int32))) (fun h => by rw [Bd.returns] at h; cases h)
                refine ⟨_, _, pre113 _ ?_, hrun, hended, _, _, rfl, ?_, ⟨_, rfl⟩, hW, hsame.mono (by decide) (by decide)⟩
                · show Steps p.tables e below (s₁.setTop (mkF m 67 #[.val (.int u)] [(.int (1 : Int32))])) _
                  exact retN X0 hx (t := .boolean) Bd.returns (by simp) (hb hby d2_67) hr
                · show QExp Z u h0 n0 _ s₁.heap _
                  rw [e0]
                  exact ⟨(by unfold own_exp; rw [if_pos hc9, if_neg hc11, if_pos hc33, if_pos hc35, if_neg hc37, if_neg hc39, if_pos hc41]), N0, rfl⟩
              · have pre42 : ∀ t, Steps p.tables e below (s₁.setTop (mkF m 63 #[.val (.int u)] [(.int (58 : Int32)), (.int u)])) t → Steps p.tables e below (s₁.setTop (entryFrame m #[(.int u)] 1)) t := fun t kk => pre40 t (by
                    show Steps p.tables e below (s₁.setTop (mkF m 57 #[.val (.int u)] [(.int (46 : Int32)), (.int u)])) _
                    refine XS.icmpNo X0.here hx rfl (hb hby d2_57) rfl (feq hc41).1 ?_
                    show Steps p.tables e below (s₁.setTop (mkF m 60 #[.val (.int u)] [])) _
                    refine XS.iloadN X0.here hx rfl (hb hby d2_60) rfl ?_
                    show Steps p.tables e below (s₁.setTop (mkF m 61 #[.val (.int u)] [(.int u)])) _
                    refine XS.bipush X0.here hx rfl (hb hby d2_61) ?_
                    exact kk)
                by_cases hc43 : u = (58 : Int32)
                · have pre114 : ∀ t, Steps p.tables e below (s₁.setTop (mkF m 67 #[.val (.int u)] [(.int (1 : Int32))])) t → Steps p.tables e below (s₁.setTop (entryFrame m #[(.int u)] 1)) t := fun t kk => pre42 t (by
                      show Steps p.tables e below (s₁.setTop (mkF m 63 #[.val (.int u)] [(.int (58 : Int32)), (.int u)])) _
                      refine XS.icmpNo X0.here hx rfl (hb hby d2_63) rfl (teq hc43).2 ?_
                      show Steps p.tables e below (s₁.setTop (mkF m 66 #[.val (.int u)] [])) _
                      refine XS.iconst X0.here hx rfl (hb hby d2_66) ?_
                      exact kk)
                  obtain ⟨fs, hr, hrun, hended, hW, hsame⟩ := X0.leave (v := some (.int (1 : Int32))) (fun h => by rw [Bd.returns] at h; cases h)
                  refine ⟨_, _, pre114 _ ?_, hrun, hended, _, _, rfl, ?_, ⟨_, rfl⟩, hW, hsame.mono (by decide) (by decide)⟩
                  · show Steps p.tables e below (s₁.setTop (mkF m 67 #[.val (.int u)] [(.int (1 : Int32))])) _
                    exact retN X0 hx (t := .boolean) Bd.returns (by simp) (hb hby d2_67) hr
                  · show QExp Z u h0 n0 _ s₁.heap _
                    rw [e0]
                    exact ⟨(by unfold own_exp; rw [if_pos hc9, if_neg hc11, if_pos hc33, if_pos hc35, if_neg hc37, if_neg hc39, if_neg hc41, if_pos hc43]), N0, rfl⟩
                · have pre115 : ∀ t, Steps p.tables e below (s₁.setTop (mkF m 69 #[.val (.int u)] [(.int (0 : Int32))])) t → Steps p.tables e below (s₁.setTop (entryFrame m #[(.int u)] 1)) t := fun t kk => pre42 t (by
                      show Steps p.tables e below (s₁.setTop (mkF m 63 #[.val (.int u)] [(.int (58 : Int32)), (.int u)])) _
                      refine XS.icmpYes X0.here hx rfl (pc0 := 63) (pc' := 68) rfl (hb hby d2_63) rfl (feq hc43).2 (by decide) (by decide) ?_
                      show Steps p.tables e below (s₁.setTop (mkF m 68 #[.val (.int u)] [])) _
                      refine XS.iconst X0.here hx rfl (hb hby d2_68) ?_
                      exact kk)
                  obtain ⟨fs, hr, hrun, hended, hW, hsame⟩ := X0.leave (v := some (.int (0 : Int32))) (fun h => by rw [Bd.returns] at h; cases h)
                  refine ⟨_, _, pre115 _ ?_, hrun, hended, _, _, rfl, ?_, ⟨_, rfl⟩, hW, hsame.mono (by decide) (by decide)⟩
                  · show Steps p.tables e below (s₁.setTop (mkF m 69 #[.val (.int u)] [(.int (0 : Int32))])) _
                    exact retN X0 hx (t := .boolean) Bd.returns (by simp) (hb hby d2_69) hr
                  · show QExp Z u h0 n0 _ s₁.heap _
                    rw [e0]
                    exact ⟨(by unfold own_exp; rw [if_pos hc9, if_neg hc11, if_pos hc33, if_pos hc35, if_neg hc37, if_neg hc39, if_neg hc41, if_neg hc43]), N0, rfl⟩
        · have pre44 : ∀ t, Steps p.tables e below (s₁.setTop (mkF m 37 #[.val (.int u)] [(.int (57 : Int32)), (.int u)])) t → Steps p.tables e below (s₁.setTop (entryFrame m #[(.int u)] 1)) t := fun t kk => pre34 t (by
              show Steps p.tables e below (s₁.setTop (mkF m 31 #[.val (.int u)] [(.int (48 : Int32)), (.int u)])) _
              refine XS.icmpNo X0.here hx rfl (hb hby d2_31) rfl (flt hc35).1 ?_
              show Steps p.tables e below (s₁.setTop (mkF m 34 #[.val (.int u)] [])) _
              refine XS.iloadN X0.here hx rfl (hb hby d2_34) rfl ?_
              show Steps p.tables e below (s₁.setTop (mkF m 35 #[.val (.int u)] [(.int u)])) _
              refine XS.bipush X0.here hx rfl (hb hby d2_35) ?_
              exact kk)
          by_cases hc45 : (57 : Int32) < u
          · have pre46 : ∀ t, Steps p.tables e below (s₁.setTop (mkF m 45 #[.val (.int u)] [(.int (45 : Int32)), (.int u)])) t → Steps p.tables e below (s₁.setTop (entryFrame m #[(.int u)] 1)) t := fun t kk => pre44 t (by
                show Steps p.tables e below (s₁.setTop (mkF m 37 #[.val (.int u)] [(.int (57 : Int32)), (.int u)])) _
                refine XS.icmpYes X0.here hx rfl (pc0 := 37) (pc' := 42) rfl (hb hby d2_37) rfl (tlt hc45).2.2.1 (by decide) (by decide) ?_
                show Steps p.tables e below (s₁.setTop (mkF m 42 #[.val (.int u)] [])) _
                refine XS.iloadN X0.here hx rfl (hb hby d2_42) rfl ?_
                show Steps p.tables e below (s₁.setTop (mkF m 43 #[.val (.int u)] [(.int u)])) _
                refine XS.bipush X0.here hx rfl (hb hby d2_43) ?_
                exact kk)
            by_cases hc47 : u = (45 : Int32)
            · have pre116 : ∀ t, Steps p.tables e below (s₁.setTop (mkF m 67 #[.val (.int u)] [(.int (1 : Int32))])) t → Steps p.tables e below (s₁.setTop (entryFrame m #[(.int u)] 1)) t := fun t kk => pre46 t (by
                  show Steps p.tables e below (s₁.setTop (mkF m 45 #[.val (.int u)] [(.int (45 : Int32)), (.int u)])) _
                  refine XS.icmpYes X0.here hx rfl (pc0 := 45) (pc' := 66) rfl (hb hby d2_45) rfl (teq hc47).1 (by decide) (by decide) ?_
                  show Steps p.tables e below (s₁.setTop (mkF m 66 #[.val (.int u)] [])) _
                  refine XS.iconst X0.here hx rfl (hb hby d2_66) ?_
                  exact kk)
              obtain ⟨fs, hr, hrun, hended, hW, hsame⟩ := X0.leave (v := some (.int (1 : Int32))) (fun h => by rw [Bd.returns] at h; cases h)
              refine ⟨_, _, pre116 _ ?_, hrun, hended, _, _, rfl, ?_, ⟨_, rfl⟩, hW, hsame.mono (by decide) (by decide)⟩
              · show Steps p.tables e below (s₁.setTop (mkF m 67 #[.val (.int u)] [(.int (1 : Int32))])) _
                exact retN X0 hx (t := .boolean) Bd.returns (by simp) (hb hby d2_67) hr
              · show QExp Z u h0 n0 _ s₁.heap _
                rw [e0]
                exact ⟨(by unfold own_exp; rw [if_pos hc9, if_neg hc11, if_pos hc33, if_neg hc35, if_pos hc45, if_pos hc47]), N0, rfl⟩
            · have pre48 : ∀ t, Steps p.tables e below (s₁.setTop (mkF m 51 #[.val (.int u)] [(.int (95 : Int32)), (.int u)])) t → Steps p.tables e below (s₁.setTop (entryFrame m #[(.int u)] 1)) t := fun t kk => pre46 t (by
                  show Steps p.tables e below (s₁.setTop (mkF m 45 #[.val (.int u)] [(.int (45 : Int32)), (.int u)])) _
                  refine XS.icmpNo X0.here hx rfl (hb hby d2_45) rfl (feq hc47).1 ?_
                  show Steps p.tables e below (s₁.setTop (mkF m 48 #[.val (.int u)] [])) _
                  refine XS.iloadN X0.here hx rfl (hb hby d2_48) rfl ?_
                  show Steps p.tables e below (s₁.setTop (mkF m 49 #[.val (.int u)] [(.int u)])) _
                  refine XS.bipush X0.here hx rfl (hb hby d2_49) ?_
                  exact kk)
              by_cases hc49 : u = (95 : Int32)
              · have pre117 : ∀ t, Steps p.tables e below (s₁.setTop (mkF m 67 #[.val (.int u)] [(.int (1 : Int32))])) t → Steps p.tables e below (s₁.setTop (entryFrame m #[(.int u)] 1)) t := fun t kk => pre48 t (by
                    show Steps p.tables e below (s₁.setTop (mkF m 51 #[.val (.int u)] [(.int (95 : Int32)), (.int u)])) _
                    refine XS.icmpYes X0.here hx rfl (pc0 := 51) (pc' := 66) rfl (hb hby d2_51) rfl (teq hc49).1 (by decide) (by decide) ?_
                    show Steps p.tables e below (s₁.setTop (mkF m 66 #[.val (.int u)] [])) _
                    refine XS.iconst X0.here hx rfl (hb hby d2_66) ?_
                    exact kk)
                obtain ⟨fs, hr, hrun, hended, hW, hsame⟩ := X0.leave (v := some (.int (1 : Int32))) (fun h => by rw [Bd.returns] at h; cases h)
                refine ⟨_, _, pre117 _ ?_, hrun, hended, _, _, rfl, ?_, ⟨_, rfl⟩, hW, hsame.mono (by decide) (by decide)⟩
                · show Steps p.tables e below (s₁.setTop (mkF m 67 #[.val (.int u)] [(.int (1 : Int32))])) _
                  exact retN X0 hx (t := .boolean) Bd.returns (by simp) (hb hby d2_67) hr
                · show QExp Z u h0 n0 _ s₁.heap _
                  rw [e0]
                  exact ⟨(by unfold own_exp; rw [if_pos hc9, if_neg hc11, if_pos hc33, if_neg hc35, if_pos hc45, if_neg hc47, if_pos hc49]), N0, rfl⟩
              · have pre50 : ∀ t, Steps p.tables e below (s₁.setTop (mkF m 57 #[.val (.int u)] [(.int (46 : Int32)), (.int u)])) t → Steps p.tables e below (s₁.setTop (entryFrame m #[(.int u)] 1)) t := fun t kk => pre48 t (by
                    show Steps p.tables e below (s₁.setTop (mkF m 51 #[.val (.int u)] [(.int (95 : Int32)), (.int u)])) _
                    refine XS.icmpNo X0.here hx rfl (hb hby d2_51) rfl (feq hc49).1 ?_
                    show Steps p.tables e below (s₁.setTop (mkF m 54 #[.val (.int u)] [])) _
                    refine XS.iloadN X0.here hx rfl (hb hby d2_54) rfl ?_
                    show Steps p.tables e below (s₁.setTop (mkF m 55 #[.val (.int u)] [(.int u)])) _
                    refine XS.bipush X0.here hx rfl (hb hby d2_55) ?_
                    exact kk)
                by_cases hc51 : u = (46 : Int32)
                · have pre118 : ∀ t, Steps p.tables e below (s₁.setTop (mkF m 67 #[.val (.int u)] [(.int (1 : Int32))])) t → Steps p.tables e below (s₁.setTop (entryFrame m #[(.int u)] 1)) t := fun t kk => pre50 t (by
                      show Steps p.tables e below (s₁.setTop (mkF m 57 #[.val (.int u)] [(.int (46 : Int32)), (.int u)])) _
                      refine XS.icmpYes X0.here hx rfl (pc0 := 57) (pc' := 66) rfl (hb hby d2_57) rfl (teq hc51).1 (by decide) (by decide) ?_
                      show Steps p.tables e below (s₁.setTop (mkF m 66 #[.val (.int u)] [])) _
                      refine XS.iconst X0.here hx rfl (hb hby d2_66) ?_
                      exact kk)
                  obtain ⟨fs, hr, hrun, hended, hW, hsame⟩ := X0.leave (v := some (.int (1 : Int32))) (fun h => by rw [Bd.returns] at h; cases h)
                  refine ⟨_, _, pre118 _ ?_, hrun, hended, _, _, rfl, ?_, ⟨_, rfl⟩, hW, hsame.mono (by decide) (by decide)⟩
                  · show Steps p.tables e below (s₁.setTop (mkF m 67 #[.val (.int u)] [(.int (1 : Int32))])) _
                    exact retN X0 hx (t := .boolean) Bd.returns (by simp) (hb hby d2_67) hr
                  · show QExp Z u h0 n0 _ s₁.heap _
                    rw [e0]
                    exact ⟨(by unfold own_exp; rw [if_pos hc9, if_neg hc11, if_pos hc33, if_neg hc35, if_pos hc45, if_neg hc47, if_neg hc49, if_pos hc51]), N0, rfl⟩
                · have pre52 : ∀ t, Steps p.tables e below (s₁.setTop (mkF m 63 #[.val (.int u)] [(.int (58 : Int32)), (.int u)])) t → Steps p.tables e below (s₁.setTop (entryFrame m #[(.int u)] 1)) t := fun t kk => pre50 t (by
                      show Steps p.tables e below (s₁.setTop (mkF m 57 #[.val (.int u)] [(.int (46 : Int32)), (.int u)])) _
                      refine XS.icmpNo X0.here hx rfl (hb hby d2_57) rfl (feq hc51).1 ?_
                      show Steps p.tables e below (s₁.setTop (mkF m 60 #[.val (.int u)] [])) _
                      refine XS.iloadN X0.here hx rfl (hb hby d2_60) rfl ?_
                      show Steps p.tables e below (s₁.setTop (mkF m 61 #[.val (.int u)] [(.int u)])) _
                      refine XS.bipush X0.here hx rfl (hb hby d2_61) ?_
                      exact kk)
                  by_cases hc53 : u = (58 : Int32)
                  · have pre119 : ∀ t, Steps p.tables e below (s₁.setTop (mkF m 67 #[.val (.int u)] [(.int (1 : Int32))])) t → Steps p.tables e below (s₁.setTop (entryFrame m #[(.int u)] 1)) t := fun t kk => pre52 t (by
                        show Steps p.tables e below (s₁.setTop (mkF m 63 #[.val (.int u)] [(.int (58 : Int32)), (.int u)])) _
                        refine XS.icmpNo X0.here hx rfl (hb hby d2_63) rfl (teq hc53).2 ?_
                        show Steps p.tables e below (s₁.setTop (mkF m 66 #[.val (.int u)] [])) _
                        refine XS.iconst X0.here hx rfl (hb hby d2_66) ?_
                        exact kk)
                    obtain ⟨fs, hr, hrun, hended, hW, hsame⟩ := X0.leave (v := some (.int (1 : Int32))) (fun h => by rw [Bd.returns] at h; cases h)
                    refine ⟨_, _, pre119 _ ?_, hrun, hended, _, _, rfl, ?_, ⟨_, rfl⟩, hW, hsame.mono (by decide) (by decide)⟩
                    · show Steps p.tables e below (s₁.setTop (mkF m 67 #[.val (.int u)] [(.int (1 : Int32))])) _
                      exact retN X0 hx (t := .boolean) Bd.returns (by simp) (hb hby d2_67) hr
                    · show QExp Z u h0 n0 _ s₁.heap _
                      rw [e0]
                      exact ⟨(by unfold own_exp; rw [if_pos hc9, if_neg hc11, if_pos hc33, if_neg hc35, if_pos hc45, if_neg hc47, if_neg hc49, if_neg hc51, if_pos hc53]), N0, rfl⟩
                  · have pre120 : ∀ t, Steps p.tables e below (s₁.setTop (mkF m 69 #[.val (.int u)] [(.int (0 : Int32))])) t → Steps p.tables e below (s₁.setTop (entryFrame m #[(.int u)] 1)) t := fun t kk => pre52 t (by
                        show Steps p.tables e below (s₁.setTop (mkF m 63 #[.val (.int u)] [(.int (58 : Int32)), (.int u)])) _
                        refine XS.icmpYes X0.here hx rfl (pc0 := 63) (pc' := 68) rfl (hb hby d2_63) rfl (feq hc53).2 (by decide) (by decide) ?_
                        show Steps p.tables e below (s₁.setTop (mkF m 68 #[.val (.int u)] [])) _
                        refine XS.iconst X0.here hx rfl (hb hby d2_68) ?_
                        exact kk)
                    obtain ⟨fs, hr, hrun, hended, hW, hsame⟩ := X0.leave (v := some (.int (0 : Int32))) (fun h => by rw [Bd.returns] at h; cases h)
                    refine ⟨_, _, pre120 _ ?_, hrun, hended, _, _, rfl, ?_, ⟨_, rfl⟩, hW, hsame.mono (by decide) (by decide)⟩
                    · show Steps p.tables e below (s₁.setTop (mkF m 69 #[.val (.int u)] [(.int (0 : Int32))])) _
                      exact retN X0 hx (t := .boolean) Bd.returns (by simp) (hb hby d2_69) hr
                    · show QExp Z u h0 n0 _ s₁.heap _
                      rw [e0]
                      exact ⟨(by unfold own_exp; rw [if_pos hc9, if_neg hc11, if_pos hc33, if_neg hc35, if_pos hc45, if_neg hc47, if_neg hc49, if_neg hc51, if_neg hc53]), N0, rfl⟩
          · have pre121 : ∀ t, Steps p.tables e below (s₁.setTop (mkF m 41 #[.val (.int u)] [(.int (1 : Int32))])) t → Steps p.tables e below (s₁.setTop (entryFrame m #[(.int u)] 1)) t := fun t kk => pre44 t (by
                show Steps p.tables e below (s₁.setTop (mkF m 37 #[.val (.int u)] [(.int (57 : Int32)), (.int u)])) _
                refine XS.icmpNo X0.here hx rfl (hb hby d2_37) rfl (flt hc45).2.2.1 ?_
                show Steps p.tables e below (s₁.setTop (mkF m 40 #[.val (.int u)] [])) _
                refine XS.iconst X0.here hx rfl (hb hby d2_40) ?_
                exact kk)
            obtain ⟨fs, hr, hrun, hended, hW, hsame⟩ := X0.leave (v := some (.int (1 : Int32))) (fun h => by rw [Bd.returns] at h; cases h)
            refine ⟨_, _, pre121 _ ?_, hrun, hended, _, _, rfl, ?_, ⟨_, rfl⟩, hW, hsame.mono (by decide) (by decide)⟩
            · show Steps p.tables e below (s₁.setTop (mkF m 41 #[.val (.int u)] [(.int (1 : Int32))])) _
              exact retN X0 hx (t := .boolean) Bd.returns (by simp) (hb hby d2_41) hr
            · show QExp Z u h0 n0 _ s₁.heap _
              rw [e0]
              exact ⟨(by unfold own_exp; rw [if_pos hc9, if_neg hc11, if_pos hc33, if_neg hc35, if_neg hc45]), N0, rfl⟩
      · have pre122 : ∀ t, Steps p.tables e below (s₁.setTop (mkF m 27 #[.val (.int u)] [(.int (1 : Int32))])) t → Steps p.tables e below (s₁.setTop (entryFrame m #[(.int u)] 1)) t := fun t kk => pre32 t (by
            show Steps p.tables e below (s₁.setTop (mkF m 23 #[.val (.int u)] [(.int (90 : Int32)), (.int u)])) _
            refine XS.icmpNo X0.here hx rfl (hb hby d2_23) rfl (flt hc33).2.2.1 ?_
            show Steps p.tables e below (s₁.setTop (mkF m 26 #[.val (.int u)] [])) _
            refine XS.iconst X0.here hx rfl (hb hby d2_26) ?_
            exact kk)
        obtain ⟨fs, hr, hrun, hended, hW, hsame⟩ := X0.leave (v := some (.int (1 : Int32))) (fun h => by rw [Bd.returns] at h; cases h)
        refine ⟨_, _, pre122 _ ?_, hrun, hended, _, _, rfl, ?_, ⟨_, rfl⟩, hW, hsame.mono (by decide) (by decide)⟩
        · show Steps p.tables e below (s₁.setTop (mkF m 27 #[.val (.int u)] [(.int (1 : Int32))])) _
          exact retN X0 hx (t := .boolean) Bd.returns (by simp) (hb hby d2_27) hr
        · show QExp Z u h0 n0 _ s₁.heap _
          rw [e0]
          exact ⟨(by unfold own_exp; rw [if_pos hc9, if_neg hc11, if_neg hc33]), N0, rfl⟩
  · have pre54 : ∀ t, Steps p.tables e below (s₁.setTop (mkF m 9 #[.val (.int u)] [(.int (122 : Int32)), (.int u)])) t → Steps p.tables e below (s₁.setTop (entryFrame m #[(.int u)] 1)) t := fun t kk => pre8 t (by
        show Steps p.tables e below (s₁.setTop (mkF m 3 #[.val (.int u)] [(.int (97 : Int32)), (.int u)])) _
        refine XS.icmpNo X0.here hx rfl (hb hby d2_3) rfl (flt hc9).1 ?_
        show Steps p.tables e below (s₁.setTop (mkF m 6 #[.val (.int u)] [])) _
        refine XS.iloadN X0.here hx rfl (hb hby d2_6) rfl ?_
        show Steps p.tables e below (s₁.setTop (mkF m 7 #[.val (.int u)] [(.int u)])) _
        refine XS.bipush X0.here hx rfl (hb hby d2_7) ?_
        exact kk)
    by_cases hc55 : (122 : Int32) < u
    · have pre56 : ∀ t, Steps p.tables e below (s₁.setTop (mkF m 17 #[.val (.int u)] [(.int (65 : Int32)), (.int u)])) t → Steps p.tables e below (s₁.setTop (entryFrame m #[(.int u)] 1)) t := fun t kk => pre54 t (by
          show Steps p.tables e below (s₁.setTop (mkF m 9 #[.val (.int u)] [(.int (122 : Int32)), (.int u)])) _
          refine XS.icmpYes X0.here hx rfl (pc0 := 9) (pc' := 14) rfl (hb hby d2_9) rfl (tlt hc55).2.2.1 (by decide) (by decide) ?_
          show Steps p.tables e below (s₁.setTop (mkF m 14 #[.val (.int u)] [])) _
          refine XS.iloadN X0.here hx rfl (hb hby d2_14) rfl ?_
          show Steps p.tables e below (s₁.setTop (mkF m 15 #[.val (.int u)] [(.int u)])) _
          refine XS.bipush X0.here hx rfl (hb hby d2_15) ?_
          exact kk)
      by_cases hc57 : u < (65 : Int32)
      · have pre58 : ∀ t, Steps p.tables e below (s₁.setTop (mkF m 31 #[.val (.int u)] [(.int (48 : Int32)), (.int u)])) t → Steps p.tables e below (s₁.setTop (entryFrame m #[(.int u)] 1)) t := fun t kk => pre56 t (by
            show Steps p.tables e below (s₁.setTop (mkF m 17 #[.val (.int u)] [(.int (65 : Int32)), (.int u)])) _
            refine XS.icmpYes X0.here hx rfl (pc0 := 17) (pc' := 28) rfl (hb hby d2_17) rfl (tlt hc57).1 (by decide) (by decide) ?_
            show Steps p.tables e below (s₁.setTop (mkF m 28 #[.val (.int u)] [])) _
            refine XS.iloadN X0.here hx rfl (hb hby d2_28) rfl ?_
            show Steps p.tables e below (s₁.setTop (mkF m 29 #[.val (.int u)] [(.int u)])) _
            refine XS.bipush X0.here hx rfl (hb hby d2_29) ?_
            exact kk)
        by_cases hc59 : u < (48 : Int32)
        · have pre60 : ∀ t, Steps p.tables e below (s₁.setTop (mkF m 45 #[.val (.int u)] [(.int (45 : Int32)), (.int u)])) t → Steps p.tables e below (s₁.setTop (entryFrame m #[(.int u)] 1)) t := fun t kk => pre58 t (by
              show Steps p.tables e below (s₁.setTop (mkF m 31 #[.val (.int u)] [(.int (48 : Int32)), (.int u)])) _
              refine XS.icmpYes X0.here hx rfl (pc0 := 31) (pc' := 42) rfl (hb hby d2_31) rfl (tlt hc59).1 (by decide) (by decide) ?_
              show Steps p.tables e below (s₁.setTop (mkF m 42 #[.val (.int u)] [])) _
              refine XS.iloadN X0.here hx rfl (hb hby d2_42) rfl ?_
              show Steps p.tables e below (s₁.setTop (mkF m 43 #[.val (.int u)] [(.int u)])) _
              refine XS.bipush X0.here hx rfl (hb hby d2_43) ?_
              exact kk)
          by_cases hc61 : u = (45 : Int32)
          · have pre123 : ∀ t, Steps p.tables e below (s₁.setTop (mkF m 67 #[.val (.int u)] [(.int (1 : Int32))])) t → Steps p.tables e below (s₁.setTop (entryFrame m #[(.int u)] 1)) t := fun t kk => pre60 t (by
                show Steps p.tables e below (s₁.setTop (mkF m 45 #[.val (.int u)] [(.int (45 : Int32)), (.int u)])) _
                refine XS.icmpYes X0.here hx rfl (pc0 := 45) (pc' := 66) rfl (hb hby d2_45) rfl (teq hc61).1 (by decide) (by decide) ?_
                show Steps p.tables e below (s₁.setTop (mkF m 66 #[.val (.int u)] [])) _
                refine XS.iconst X0.here hx rfl (hb hby d2_66) ?_
                exact kk)
            obtain ⟨fs, hr, hrun, hended, hW, hsame⟩ := X0.leave (v := some (.int (1 : Int32))) (fun h => by rw [Bd.returns] at h; cases h)
            refine ⟨_, _, pre123 _ ?_, hrun, hended, _, _, rfl, ?_, ⟨_, rfl⟩, hW, hsame.mono (by decide) (by decide)⟩
            · show Steps p.tables e below (s₁.setTop (mkF m 67 #[.val (.int u)] [(.int (1 : Int32))])) _
              exact retN X0 hx (t := .boolean) Bd.returns (by simp) (hb hby d2_67) hr
            · show QExp Z u h0 n0 _ s₁.heap _
              rw [e0]
              exact ⟨(by unfold own_exp; rw [if_neg hc9, if_pos hc55, if_pos hc57, if_pos hc59, if_pos hc61]), N0, rfl⟩
          · have pre62 : ∀ t, Steps p.tables e below (s₁.setTop (mkF m 51 #[.val (.int u)] [(.int (95 : Int32)), (.int u)])) t → Steps p.tables e below (s₁.setTop (entryFrame m #[(.int u)] 1)) t := fun t kk => pre60 t (by
                show Steps p.tables e below (s₁.setTop (mkF m 45 #[.val (.int u)] [(.int (45 : Int32)), (.int u)])) _
                refine XS.icmpNo X0.here hx rfl (hb hby d2_45) rfl (feq hc61).1 ?_
                show Steps p.tables e below (s₁.setTop (mkF m 48 #[.val (.int u)] [])) _
                refine XS.iloadN X0.here hx rfl (hb hby d2_48) rfl ?_
                show Steps p.tables e below (s₁.setTop (mkF m 49 #[.val (.int u)] [(.int u)])) _
                refine XS.bipush X0.here hx rfl (hb hby d2_49) ?_
                exact kk)
            by_cases hc63 : u = (95 : Int32)
            · have pre124 : ∀ t, Steps p.tables e below (s₁.setTop (mkF m 67 #[.val (.int u)] [(.int (1 : Int32))])) t → Steps p.tables e below (s₁.setTop (entryFrame m #[(.int u)] 1)) t := fun t kk => pre62 t (by
                  show Steps p.tables e below (s₁.setTop (mkF m 51 #[.val (.int u)] [(.int (95 : Int32)), (.int u)])) _
                  refine XS.icmpYes X0.here hx rfl (pc0 := 51) (pc' := 66) rfl (hb hby d2_51) rfl (teq hc63).1 (by decide) (by decide) ?_
                  show Steps p.tables e below (s₁.setTop (mkF m 66 #[.val (.int u)] [])) _
                  refine XS.iconst X0.here hx rfl (hb hby d2_66) ?_
                  exact kk)
              obtain ⟨fs, hr, hrun, hended, hW, hsame⟩ := X0.leave (v := some (.int (1 : Int32))) (fun h => by rw [Bd.returns] at h; cases h)
              refine ⟨_, _, pre124 _ ?_, hrun, hended, _, _, rfl, ?_, ⟨_, rfl⟩, hW, hsame.mono (by decide) (by decide)⟩
              · show Steps p.tables e below (s₁.setTop (mkF m 67 #[.val (.int u)] [(.int (1 : Int32))])) _
                exact retN X0 hx (t := .boolean) Bd.returns (by simp) (hb hby d2_67) hr
              · show QExp Z u h0 n0 _ s₁.heap _
                rw [e0]
                exact ⟨(by unfold own_exp; rw [if_neg hc9, if_pos hc55, if_pos hc57, if_pos hc59, if_neg hc61, if_pos hc63]), N0, rfl⟩
            · have pre64 : ∀ t, Steps p.tables e below (s₁.setTop (mkF m 57 #[.val (.int u)] [(.int (46 : Int32)), (.int u)])) t → Steps p.tables e below (s₁.setTop (entryFrame m #[(.int u)] 1)) t := fun t kk => pre62 t (by
                  show Steps p.tables e below (s₁.setTop (mkF m 51 #[.val (.int u)] [(.int (95 : Int32)), (.int u)])) _
                  refine XS.icmpNo X0.here hx rfl (hb hby d2_51) rfl (feq hc63).1 ?_
                  show Steps p.tables e below (s₁.setTop (mkF m 54 #[.val (.int u)] [])) _
                  refine XS.iloadN X0.here hx rfl (hb hby d2_54) rfl ?_
                  show Steps p.tables e below (s₁.setTop (mkF m 55 #[.val (.int u)] [(.int u)])) _
                  refine XS.bipush X0.here hx rfl (hb hby d2_55) ?_
                  exact kk)
              by_cases hc65 : u = (46 : Int32)
              · have pre125 : ∀ t, Steps p.tables e below (s₁.setTop (mkF m 67 #[.val (.int u)] [(.int (1 : Int32))])) t → Steps p.tables e below (s₁.setTop (entryFrame m #[(.int u)] 1)) t := fun t kk => pre64 t (by
                    show Steps p.tables e below (s₁.setTop (mkF m 57 #[.val (.int u)] [(.int (46 : Int32)), (.int u)])) _
                    refine XS.icmpYes X0.here hx rfl (pc0 := 57) (pc' := 66) rfl (hb hby d2_57) rfl (teq hc65).1 (by decide) (by decide) ?_
                    show Steps p.tables e below (s₁.setTop (mkF m 66 #[.val (.int u)] [])) _
                    refine XS.iconst X0.here hx rfl (hb hby d2_66) ?_
                    exact kk)
                obtain ⟨fs, hr, hrun, hended, hW, hsame⟩ := X0.leave (v := some (.int (1 : Int32))) (fun h => by rw [Bd.returns] at h; cases h)
                refine ⟨_, _, pre125 _ ?_, hrun, hended, _, _, rfl, ?_, ⟨_, rfl⟩, hW, hsame.mono (by decide) (by decide)⟩
                · show Steps p.tables e below (s₁.setTop (mkF m 67 #[.val (.int u)] [(.int (1 : Int32))])) _
                  exact retN X0 hx (t := .boolean) Bd.returns (by simp) (hb hby d2_67) hr
                · show QExp Z u h0 n0 _ s₁.heap _
                  rw [e0]
                  exact ⟨(by unfold own_exp; rw [if_neg hc9, if_pos hc55, if_pos hc57, if_pos hc59, if_neg hc61, if_neg hc63, if_pos hc65]), N0, rfl⟩
              · have pre66 : ∀ t, Steps p.tables e below (s₁.setTop (mkF m 63 #[.val (.int u)] [(.int (58 : Int32)), (.int u)])) t → Steps p.tables e below (s₁.setTop (entryFrame m #[(.int u)] 1)) t := fun t kk => pre64 t (by
                    show Steps p.tables e below (s₁.setTop (mkF m 57 #[.val (.int u)] [(.int (46 : Int32)), (.int u)])) _
                    refine XS.icmpNo X0.here hx rfl (hb hby d2_57) rfl (feq hc65).1 ?_
                    show Steps p.tables e below (s₁.setTop (mkF m 60 #[.val (.int u)] [])) _
                    refine XS.iloadN X0.here hx rfl (hb hby d2_60) rfl ?_
                    show Steps p.tables e below (s₁.setTop (mkF m 61 #[.val (.int u)] [(.int u)])) _
                    refine XS.bipush X0.here hx rfl (hb hby d2_61) ?_
                    exact kk)
                by_cases hc67 : u = (58 : Int32)
                · have pre126 : ∀ t, Steps p.tables e below (s₁.setTop (mkF m 67 #[.val (.int u)] [(.int (1 : Int32))])) t → Steps p.tables e below (s₁.setTop (entryFrame m #[(.int u)] 1)) t := fun t kk => pre66 t (by
                      show Steps p.tables e below (s₁.setTop (mkF m 63 #[.val (.int u)] [(.int (58 : Int32)), (.int u)])) _
                      refine XS.icmpNo X0.here hx rfl (hb hby d2_63) rfl (teq hc67).2 ?_
                      show Steps p.tables e below (s₁.setTop (mkF m 66 #[.val (.int u)] [])) _
                      refine XS.iconst X0.here hx rfl (hb hby d2_66) ?_
                      exact kk)
                  obtain ⟨fs, hr, hrun, hended, hW, hsame⟩ := X0.leave (v := some (.int (1 : Int32))) (fun h => by rw [Bd.returns] at h; cases h)
                  refine ⟨_, _, pre126 _ ?_, hrun, hended, _, _, rfl, ?_, ⟨_, rfl⟩, hW, hsame.mono (by decide) (by decide)⟩
                  · show Steps p.tables e below (s₁.setTop (mkF m 67 #[.val (.int u)] [(.int (1 : Int32))])) _
                    exact retN X0 hx (t := .boolean) Bd.returns (by simp) (hb hby d2_67) hr
                  · show QExp Z u h0 n0 _ s₁.heap _
                    rw [e0]
                    exact ⟨(by unfold own_exp; rw [if_neg hc9, if_pos hc55, if_pos hc57, if_pos hc59, if_neg hc61, if_neg hc63, if_neg hc65, if_pos hc67]), N0, rfl⟩
                · have pre127 : ∀ t, Steps p.tables e below (s₁.setTop (mkF m 69 #[.val (.int u)] [(.int (0 : Int32))])) t → Steps p.tables e below (s₁.setTop (entryFrame m #[(.int u)] 1)) t := fun t kk => pre66 t (by
                      show Steps p.tables e below (s₁.setTop (mkF m 63 #[.val (.int u)] [(.int (58 : Int32)), (.int u)])) _
                      refine XS.icmpYes X0.here hx rfl (pc0 := 63) (pc' := 68) rfl (hb hby d2_63) rfl (feq hc67).2 (by decide) (by decide) ?_
                      show Steps p.tables e below (s₁.setTop (mkF m 68 #[.val (.int u)] [])) _
                      refine XS.iconst X0.here hx rfl (hb hby d2_68) ?_
                      exact kk)
                  obtain ⟨fs, hr, hrun, hended, hW, hsame⟩ := X0.leave (v := some (.int (0 : Int32))) (fun h => by rw [Bd.returns] at h; cases h)
                  refine ⟨_, _, pre127 _ ?_, hrun, hended, _, _, rfl, ?_, ⟨_, rfl⟩, hW, hsame.mono (by decide) (by decide)⟩
                  · show Steps p.tables e below (s₁.setTop (mkF m 69 #[.val (.int u)] [(.int (0 : Int32))])) _
                    exact retN X0 hx (t := .boolean) Bd.returns (by simp) (hb hby d2_69) hr
                  · show QExp Z u h0 n0 _ s₁.heap _
                    rw [e0]
                    exact ⟨(by unfold own_exp; rw [if_neg hc9, if_pos hc55, if_pos hc57, if_pos hc59, if_neg hc61, if_neg hc63, if_neg hc65, if_neg hc67]), N0, rfl⟩
        · have pre68 : ∀ t, Steps p.tables e below (s₁.setTop (mkF m 37 #[.val (.int u)] [(.int (57 : Int32)), (.int u)])) t → Steps p.tables e below (s₁.setTop (entryFrame m #[(.int u)] 1)) t := fun t kk => pre58 t (by
              show Steps p.tables e below (s₁.setTop (mkF m 31 #[.val (.int u)] [(.int (48 : Int32)), (.int u)])) _
              refine XS.icmpNo X0.here hx rfl (hb hby d2_31) rfl (flt hc59).1 ?_
              show Steps p.tables e below (s₁.setTop (mkF m 34 #[.val (.int u)] [])) _
              refine XS.iloadN X0.here hx rfl (hb hby d2_34) rfl ?_
              show Steps p.tables e below (s₁.setTop (mkF m 35 #[.val (.int u)] [(.int u)])) _
              refine XS.bipush X0.here hx rfl (hb hby d2_35) ?_
              exact kk)
          by_cases hc69 : (57 : Int32) < u
          · have pre70 : ∀ t, Steps p.tables e below (s₁.setTop (mkF m 45 #[.val (.int u)] [(.int (45 : Int32)), (.int u)])) t → Steps p.tables e below (s₁.setTop (entryFrame m #[(.int u)] 1)) t := fun t kk => pre68 t (by
                show Steps p.tables e below (s₁.setTop (mkF m 37 #[.val (.int u)] [(.int (57 : Int32)), (.int u)])) _
                refine XS.icmpYes X0.here hx rfl (pc0 := 37) (pc' := 42) rfl (hb hby d2_37) rfl (tlt hc69).2.2.1 (by decide) (by decide) ?_
                show Steps p.tables e below (s₁.setTop (mkF m 42 #[.val (.int u)] [])) _
                refine XS.iloadN X0.here hx rfl (hb hby d2_42) rfl ?_
                show Steps p.tables e below (s₁.setTop (mkF m 43 #[.val (.int u)] [(.int u)])) _
                refine XS.bipush X0.here hx rfl (hb hby d2_43) ?_
                exact kk)
            by_cases hc71 : u = (45 : Int32)
            · have pre128 : ∀ t, Steps p.tables e below (s₁.setTop (mkF m 67 #[.val (.int u)] [(.int (1 : Int32))])) t → Steps p.tables e below (s₁.setTop (entryFrame m #[(.int u)] 1)) t := fun t kk => pre70 t (by
                  show Steps p.tables e below (s₁.setTop (mkF m 45 #[.val (.int u)] [(.int (45 : Int32)), (.int u)])) _
                  refine XS.icmpYes X0.here hx rfl (pc0 := 45) (pc' := 66) rfl (hb hby d2_45) rfl (teq hc71).1 (by decide) (by decide) ?_
                  show Steps p.tables e below (s₁.setTop (mkF m 66 #[.val (.int u)] [])) _
                  refine XS.iconst X0.here hx rfl (hb hby d2_66) ?_
                  exact kk)
              obtain ⟨fs, hr, hrun, hended, hW, hsame⟩ := X0.leave (v := some (.int (1 : Int32))) (fun h => by rw [Bd.returns] at h; cases h)
              refine ⟨_, _, pre128 _ ?_, hrun, hended, _, _, rfl, ?_, ⟨_, rfl⟩, hW, hsame.mono (by decide) (by decide)⟩
              · show Steps p.tables e below (s₁.setTop (mkF m 67 #[.val (.int u)] [(.int (1 : Int32))])) _
                exact retN X0 hx (t := .boolean) Bd.returns (by simp) (hb hby d2_67) hr
              · show QExp Z u h0 n0 _ s₁.heap _
                rw [e0]
                exact ⟨(by unfold own_exp; rw [if_neg hc9, if_pos hc55, if_pos hc57, if_neg hc59, if_pos hc69, if_pos hc71]), N0, rfl⟩
            · have pre72 : ∀ t, Steps p.tables e below (s₁.setTop (mkF m 51 #[.val (.int u)] [(.int (95 : Int32)), (.int u)])) t → Steps p.tables e below (s₁.setTop (entryFrame m #[(.int u)] 1)) t := fun t kk => pre70 t (by
                  show Steps p.tables e below (s₁.setTop (mkF m 45 #[.val (.int u)] [(.int (45 : Int32)), (.int u)])) _
                  refine XS.icmpNo X0.here hx rfl (hb hby d2_45) rfl (feq hc71).1 ?_
                  show Steps p.tables e below (s₁.setTop (mkF m 48 #[.val (.int u)] [])) _
                  refine XS.iloadN X0.here hx rfl (hb hby d2_48) rfl ?_
                  show Steps p.tables e below (s₁.setTop (mkF m 49 #[.val (.int u)] [(.int u)])) _
                  refine XS.bipush X0.here hx rfl (hb hby d2_49) ?_
                  exact kk)
              by_cases hc73 : u = (95 : Int32)
              · have pre129 : ∀ t, Steps p.tables e below (s₁.setTop (mkF m 67 #[.val (.int u)] [(.int (1 : Int32))])) t → Steps p.tables e below (s₁.setTop (entryFrame m #[(.int u)] 1)) t := fun t kk => pre72 t (by
                    show Steps p.tables e below (s₁.setTop (mkF m 51 #[.val (.int u)] [(.int (95 : Int32)), (.int u)])) _
                    refine XS.icmpYes X0.here hx rfl (pc0 := 51) (pc' := 66) rfl (hb hby d2_51) rfl (teq hc73).1 (by decide) (by decide) ?_
                    show Steps p.tables e below (s₁.setTop (mkF m 66 #[.val (.int u)] [])) _
                    refine XS.iconst X0.here hx rfl (hb hby d2_66) ?_
                    exact kk)
                obtain ⟨fs, hr, hrun, hended, hW, hsame⟩ := X0.leave (v := some (.int (1 : Int32))) (fun h => by rw [Bd.returns] at h; cases h)
                refine ⟨_, _, pre129 _ ?_, hrun, hended, _, _, rfl, ?_, ⟨_, rfl⟩, hW, hsame.mono (by decide) (by decide)⟩
                · show Steps p.tables e below (s₁.setTop (mkF m 67 #[.val (.int u)] [(.int (1 : Int32))])) _
                  exact retN X0 hx (t := .boolean) Bd.returns (by simp) (hb hby d2_67) hr
                · show QExp Z u h0 n0 _ s₁.heap _
                  rw [e0]
                  exact ⟨(by unfold own_exp; rw [if_neg hc9, if_pos hc55, if_pos hc57, if_neg hc59, if_pos hc69, if_neg hc71, if_pos hc73]), N0, rfl⟩
              · have pre74 : ∀ t, Steps p.tables e below (s₁.setTop (mkF m 57 #[.val (.int u)] [(.int (46 : Int32)), (.int u)])) t → Steps p.tables e below (s₁.setTop (entryFrame m #[(.int u)] 1)) t := fun t kk => pre72 t (by
                    show Steps p.tables e below (s₁.setTop (mkF m 51 #[.val (.int u)] [(.int (95 : Int32)), (.int u)])) _
                    refine XS.icmpNo X0.here hx rfl (hb hby d2_51) rfl (feq hc73).1 ?_
                    show Steps p.tables e below (s₁.setTop (mkF m 54 #[.val (.int u)] [])) _
                    refine XS.iloadN X0.here hx rfl (hb hby d2_54) rfl ?_
                    show Steps p.tables e below (s₁.setTop (mkF m 55 #[.val (.int u)] [(.int u)])) _
                    refine XS.bipush X0.here hx rfl (hb hby d2_55) ?_
                    exact kk)
                by_cases hc75 : u = (46 : Int32)
                · have pre130 : ∀ t, Steps p.tables e below (s₁.setTop (mkF m 67 #[.val (.int u)] [(.int (1 : Int32))])) t → Steps p.tables e below (s₁.setTop (entryFrame m #[(.int u)] 1)) t := fun t kk => pre74 t (by
                      show Steps p.tables e below (s₁.setTop (mkF m 57 #[.val (.int u)] [(.int (46 : Int32)), (.int u)])) _
                      refine XS.icmpYes X0.here hx rfl (pc0 := 57) (pc' := 66) rfl (hb hby d2_57) rfl (teq hc75).1 (by decide) (by decide) ?_
                      show Steps p.tables e below (s₁.setTop (mkF m 66 #[.val (.int u)] [])) _
                      refine XS.iconst X0.here hx rfl (hb hby d2_66) ?_
                      exact kk)
                  obtain ⟨fs, hr, hrun, hended, hW, hsame⟩ := X0.leave (v := some (.int (1 : Int32))) (fun h => by rw [Bd.returns] at h; cases h)
                  refine ⟨_, _, pre130 _ ?_, hrun, hended, _, _, rfl, ?_, ⟨_, rfl⟩, hW, hsame.mono (by decide) (by decide)⟩
                  · show Steps p.tables e below (s₁.setTop (mkF m 67 #[.val (.int u)] [(.int (1 : Int32))])) _
                    exact retN X0 hx (t := .boolean) Bd.returns (by simp) (hb hby d2_67) hr
                  · show QExp Z u h0 n0 _ s₁.heap _
                    rw [e0]
                    exact ⟨(by unfold own_exp; rw [if_neg hc9, if_pos hc55, if_pos hc57, if_neg hc59, if_pos hc69, if_neg hc71, if_neg hc73, if_pos hc75]), N0, rfl⟩
                · have pre76 : ∀ t, Steps p.tables e below (s₁.setTop (mkF m 63 #[.val (.int u)] [(.int (58 : Int32)), (.int u)])) t → Steps p.tables e below (s₁.setTop (entryFrame m #[(.int u)] 1)) t := fun t kk => pre74 t (by
                      show Steps p.tables e below (s₁.setTop (mkF m 57 #[.val (.int u)] [(.int (46 : Int32)), (.int u)])) _
                      refine XS.icmpNo X0.here hx rfl (hb hby d2_57) rfl (feq hc75).1 ?_
                      show Steps p.tables e below (s₁.setTop (mkF m 60 #[.val (.int u)] [])) _
                      refine XS.iloadN X0.here hx rfl (hb hby d2_60) rfl ?_
                      show Steps p.tables e below (s₁.setTop (mkF m 61 #[.val (.int u)] [(.int u)])) _
                      refine XS.bipush X0.here hx rfl (hb hby d2_61) ?_
                      exact kk)
                  by_cases hc77 : u = (58 : Int32)
                  · have pre131 : ∀ t, Steps p.tables e below (s₁.setTop (mkF m 67 #[.val (.int u)] [(.int (1 : Int32))])) t → Steps p.tables e below (s₁.setTop (entryFrame m #[(.int u)] 1)) t := fun t kk => pre76 t (by
                        show Steps p.tables e below (s₁.setTop (mkF m 63 #[.val (.int u)] [(.int (58 : Int32)), (.int u)])) _
                        refine XS.icmpNo X0.here hx rfl (hb hby d2_63) rfl (teq hc77).2 ?_
                        show Steps p.tables e below (s₁.setTop (mkF m 66 #[.val (.int u)] [])) _
                        refine XS.iconst X0.here hx rfl (hb hby d2_66) ?_
                        exact kk)
                    obtain ⟨fs, hr, hrun, hended, hW, hsame⟩ := X0.leave (v := some (.int (1 : Int32))) (fun h => by rw [Bd.returns] at h; cases h)
                    refine ⟨_, _, pre131 _ ?_, hrun, hended, _, _, rfl, ?_, ⟨_, rfl⟩, hW, hsame.mono (by decide) (by decide)⟩
                    · show Steps p.tables e below (s₁.setTop (mkF m 67 #[.val (.int u)] [(.int (1 : Int32))])) _
                      exact retN X0 hx (t := .boolean) Bd.returns (by simp) (hb hby d2_67) hr
                    · show QExp Z u h0 n0 _ s₁.heap _
                      rw [e0]
                      exact ⟨(by unfold own_exp; rw [if_neg hc9, if_pos hc55, if_pos hc57, if_neg hc59, if_pos hc69, if_neg hc71, if_neg hc73, if_neg hc75, if_pos hc77]), N0, rfl⟩
                  · have pre132 : ∀ t, Steps p.tables e below (s₁.setTop (mkF m 69 #[.val (.int u)] [(.int (0 : Int32))])) t → Steps p.tables e below (s₁.setTop (entryFrame m #[(.int u)] 1)) t := fun t kk => pre76 t (by
                        show Steps p.tables e below (s₁.setTop (mkF m 63 #[.val (.int u)] [(.int (58 : Int32)), (.int u)])) _
                        refine XS.icmpYes X0.here hx rfl (pc0 := 63) (pc' := 68) rfl (hb hby d2_63) rfl (feq hc77).2 (by decide) (by decide) ?_
                        show Steps p.tables e below (s₁.setTop (mkF m 68 #[.val (.int u)] [])) _
                        refine XS.iconst X0.here hx rfl (hb hby d2_68) ?_
                        exact kk)
                    obtain ⟨fs, hr, hrun, hended, hW, hsame⟩ := X0.leave (v := some (.int (0 : Int32))) (fun h => by rw [Bd.returns] at h; cases h)
                    refine ⟨_, _, pre132 _ ?_, hrun, hended, _, _, rfl, ?_, ⟨_, rfl⟩, hW, hsame.mono (by decide) (by decide)⟩
                    · show Steps p.tables e below (s₁.setTop (mkF m 69 #[.val (.int u)] [(.int (0 : Int32))])) _
                      exact retN X0 hx (t := .boolean) Bd.returns (by simp) (hb hby d2_69) hr
                    · show QExp Z u h0 n0 _ s₁.heap _
                      rw [e0]
                      exact ⟨(by unfold own_exp; rw [if_neg hc9, if_pos hc55, if_pos hc57, if_neg hc59, if_pos hc69, if_neg hc71, if_neg hc73, if_neg hc75, if_neg hc77]), N0, rfl⟩
          · have pre133 : ∀ t, Steps p.tables e below (s₁.setTop (mkF m 41 #[.val (.int u)] [(.int (1 : Int32))])) t → Steps p.tables e below (s₁.setTop (entryFrame m #[(.int u)] 1)) t := fun t kk => pre68 t (by
                show Steps p.tables e below (s₁.setTop (mkF m 37 #[.val (.int u)] [(.int (57 : Int32)), (.int u)])) _
                refine XS.icmpNo X0.here hx rfl (hb hby d2_37) rfl (flt hc69).2.2.1 ?_
                show Steps p.tables e below (s₁.setTop (mkF m 40 #[.val (.int u)] [])) _
                refine XS.iconst X0.here hx rfl (hb hby d2_40) ?_
                exact kk)
            obtain ⟨fs, hr, hrun, hended, hW, hsame⟩ := X0.leave (v := some (.int (1 : Int32))) (fun h => by rw [Bd.returns] at h; cases h)
            refine ⟨_, _, pre133 _ ?_, hrun, hended, _, _, rfl, ?_, ⟨_, rfl⟩, hW, hsame.mono (by decide) (by decide)⟩
            · show Steps p.tables e below (s₁.setTop (mkF m 41 #[.val (.int u)] [(.int (1 : Int32))])) _
              exact retN X0 hx (t := .boolean) Bd.returns (by simp) (hb hby d2_41) hr
            · show QExp Z u h0 n0 _ s₁.heap _
              rw [e0]
              exact ⟨(by unfold own_exp; rw [if_neg hc9, if_pos hc55, if_pos hc57, if_neg hc59, if_neg hc69]), N0, rfl⟩
      · have pre78 : ∀ t, Steps p.tables e below (s₁.setTop (mkF m 23 #[.val (.int u)] [(.int (90 : Int32)), (.int u)])) t → Steps p.tables e below (s₁.setTop (entryFrame m #[(.int u)] 1)) t := fun t kk => pre56 t (by
            show Steps p.tables e below (s₁.setTop (mkF m 17 #[.val (.int u)] [(.int (65 : Int32)), (.int u)])) _
            refine XS.icmpNo X0.here hx rfl (hb hby d2_17) rfl (flt hc57).1 ?_
            show Steps p.tables e below (s₁.setTop (mkF m 20 #[.val (.int u)] [])) _
            refine XS.iloadN X0.here hx rfl (hb hby d2_20) rfl ?_
            show Steps p.tables e below (s₁.setTop (mkF m 21 #[.val (.int u)] [(.int u)])) _
            refine XS.bipush X0.here hx rfl (hb hby d2_21) ?_
            exact kk)
        by_cases hc79 : (90 : Int32) < u
        · have pre80 : ∀ t, Steps p.tables e below (s₁.setTop (mkF m 31 #[.val (.int u)] [(.int (48 : Int32)), (.int u)])) t → Steps p.tables e below (s₁.setTop (entryFrame m #[(.int u)] 1)) t := fun t kk => pre78 t (by
              show Steps p.tables e below (s₁.setTop (mkF m 23 #[.val (.int u)] [(.int (90 : Int32)), (.int u)])) _
              refine XS.icmpYes X0.here hx rfl (pc0 := 23) (pc' := 28) rfl (hb hby d2_23) rfl (tlt hc79).2.2.1 (by decide) (by decide) ?_
              show Steps p.tables e below (s₁.setTop (mkF m 28 #[.val (.int u)] [])) _
              refine XS.iloadN X0.here hx rfl (hb hby d2_28) rfl ?_
              show Steps p.tables e below (s₁.setTop (mkF m 29 #[.val (.int u)] [(.int u)])) _
              refine XS.bipush X0.here hx rfl (hb hby d2_29) ?_
              exact kk)
          by_cases hc81 : u < (48 : Int32)
          · have pre82 : ∀ t, Steps p.tables e below (s₁.setTop (mkF m 45 #[.val (.int u)] [(.int (45 : Int32)), (.int u)])) t → Steps p.tables e below (s₁.setTop (entryFrame m #[(.int u)] 1)) t := fun t kk => pre80 t (by
                show Steps p.tables e below (s₁.setTop (mkF m 31 #[.val (.int u)] [(.int (48 : Int32)), (.int u)])) _
                refine XS.icmpYes X0.here hx rfl (pc0 := 31) (pc' := 42) rfl (hb hby d2_31) rfl (tlt hc81).1 (by decide) (by decide) ?_
                show Steps p.tables e below (s₁.setTop (mkF m 42 #[.val (.int u)] [])) _
                refine XS.iloadN X0.here hx rfl (hb hby d2_42) rfl ?_
                show Steps p.tables e below (s₁.setTop (mkF m 43 #[.val (.int u)] [(.int u)])) _
                refine XS.bipush X0.here hx rfl (hb hby d2_43) ?_
                exact kk)
            by_cases hc83 : u = (45 : Int32)
            · have pre134 : ∀ t, Steps p.tables e below (s₁.setTop (mkF m 67 #[.val (.int u)] [(.int (1 : Int32))])) t → Steps p.tables e below (s₁.setTop (entryFrame m #[(.int u)] 1)) t := fun t kk => pre82 t (by
                  show Steps p.tables e below (s₁.setTop (mkF m 45 #[.val (.int u)] [(.int (45 : Int32)), (.int u)])) _
                  refine XS.icmpYes X0.here hx rfl (pc0 := 45) (pc' := 66) rfl (hb hby d2_45) rfl (teq hc83).1 (by decide) (by decide) ?_
                  show Steps p.tables e below (s₁.setTop (mkF m 66 #[.val (.int u)] [])) _
                  refine XS.iconst X0.here hx rfl (hb hby d2_66) ?_
                  exact kk)
              obtain ⟨fs, hr, hrun, hended, hW, hsame⟩ := X0.leave (v := some (.int (1 : Int32))) (fun h => by rw [Bd.returns] at h; cases h)
              refine ⟨_, _, pre134 _ ?_, hrun, hended, _, _, rfl, ?_, ⟨_, rfl⟩, hW, hsame.mono (by decide) (by decide)⟩
              · show Steps p.tables e below (s₁.setTop (mkF m 67 #[.val (.int u)] [(.int (1 : Int32))])) _
                exact retN X0 hx (t := .boolean) Bd.returns (by simp) (hb hby d2_67) hr
              · show QExp Z u h0 n0 _ s₁.heap _
                rw [e0]
                exact ⟨(by unfold own_exp; rw [if_neg hc9, if_pos hc55, if_neg hc57, if_pos hc79, if_pos hc81, if_pos hc83]), N0, rfl⟩
            · have pre84 : ∀ t, Steps p.tables e below (s₁.setTop (mkF m 51 #[.val (.int u)] [(.int (95 : Int32)), (.int u)])) t → Steps p.tables e below (s₁.setTop (entryFrame m #[(.int u)] 1)) t := fun t kk => pre82 t (by
                  show Steps p.tables e below (s₁.setTop (mkF m 45 #[.val (.int u)] [(.int (45 : Int32)), (.int u)])) _
                  refine XS.icmpNo X0.here hx rfl (hb hby d2_45) rfl (feq hc83).1 ?_
                  show Steps p.tables e below (s₁.setTop (mkF m 48 #[.val (.int u)] [])) _
                  refine XS.iloadN X0.here hx rfl (hb hby d2_48) rfl ?_
                  show Steps p.tables e below (s₁.setTop (mkF m 49 #[.val (.int u)] [(.int u)])) _
                  refine XS.bipush X0.here hx rfl (hb hby d2_49) ?_
                  exact kk)
              by_cases hc85 : u = (95 : Int32)
              · have pre135 : ∀ t, Steps p.tables e below (s₁.setTop (mkF m 67 #[.val (.int u)] [(.int (1 : Int32))])) t → Steps p.tables e below (s₁.setTop (entryFrame m #[(.int u)] 1)) t := fun t kk => pre84 t (by
                    show Steps p.tables e below (s₁.setTop (mkF m 51 #[.val (.int u)] [(.int (95 : Int32)), (.int u)])) _
                    refine XS.icmpYes X0.here hx rfl (pc0 := 51) (pc' := 66) rfl (hb hby d2_51) rfl (teq hc85).1 (by decide) (by decide) ?_
                    show Steps p.tables e below (s₁.setTop (mkF m 66 #[.val (.int u)] [])) _
                    refine XS.iconst X0.here hx rfl (hb hby d2_66) ?_
                    exact kk)
                obtain ⟨fs, hr, hrun, hended, hW, hsame⟩ := X0.leave (v := some (.int (1 : Int32))) (fun h => by rw [Bd.returns] at h; cases h)
                refine ⟨_, _, pre135 _ ?_, hrun, hended, _, _, rfl, ?_, ⟨_, rfl⟩, hW, hsame.mono (by decide) (by decide)⟩
                · show Steps p.tables e below (s₁.setTop (mkF m 67 #[.val (.int u)] [(.int (1 : Int32))])) _
                  exact retN X0 hx (t := .boolean) Bd.returns (by simp) (hb hby d2_67) hr
                · show QExp Z u h0 n0 _ s₁.heap _
                  rw [e0]
                  exact ⟨(by unfold own_exp; rw [if_neg hc9, if_pos hc55, if_neg hc57, if_pos hc79, if_pos hc81, if_neg hc83, if_pos hc85]), N0, rfl⟩
              · have pre86 : ∀ t, Steps p.tables e below (s₁.setTop (mkF m 57 #[.val (.int u)] [(.int (46 : Int32)), (.int u)])) t → Steps p.tables e below (s₁.setTop (entryFrame m #[(.int u)] 1)) t := fun t kk => pre84 t (by
                    show Steps p.tables e below (s₁.setTop (mkF m 51 #[.val (.int u)] [(.int (95 : Int32)), (.int u)])) _
                    refine XS.icmpNo X0.here hx rfl (hb hby d2_51) rfl (feq hc85).1 ?_
                    show Steps p.tables e below (s₁.setTop (mkF m 54 #[.val (.int u)] [])) _
                    refine XS.iloadN X0.here hx rfl (hb hby d2_54) rfl ?_
                    show Steps p.tables e below (s₁.setTop (mkF m 55 #[.val (.int u)] [(.int u)])) _
                    refine XS.bipush X0.here hx rfl (hb hby d2_55) ?_
                    exact kk)
                by_cases hc87 : u = (46 : Int32)
                · have pre136 : ∀ t, Steps p.tables e below (s₁.setTop (mkF m 67 #[.val (.int u)] [(.int (1 : Int32))])) t → Steps p.tables e below (s₁.setTop (entryFrame m #[(.int u)] 1)) t := fun t kk => pre86 t (by
                      show Steps p.tables e below (s₁.setTop (mkF m 57 #[.val (.int u)] [(.int (46 : Int32)), (.int u)])) _
                      refine XS.icmpYes X0.here hx rfl (pc0 := 57) (pc' := 66) rfl (hb hby d2_57) rfl (teq hc87).1 (by decide) (by decide) ?_
                      show Steps p.tables e below (s₁.setTop (mkF m 66 #[.val (.int u)] [])) _
                      refine XS.iconst X0.here hx rfl (hb hby d2_66) ?_
                      exact kk)
                  obtain ⟨fs, hr, hrun, hended, hW, hsame⟩ := X0.leave (v := some (.int (1 : Int32))) (fun h => by rw [Bd.returns] at h; cases h)
                  refine ⟨_, _, pre136 _ ?_, hrun, hended, _, _, rfl, ?_, ⟨_, rfl⟩, hW, hsame.mono (by decide) (by decide)⟩
                  · show Steps p.tables e below (s₁.setTop (mkF m 67 #[.val (.int u)] [(.int (1 : Int32))])) _
                    exact retN X0 hx (t := .boolean) Bd.returns (by simp) (hb hby d2_67) hr
                  · show QExp Z u h0 n0 _ s₁.heap _
                    rw [e0]
                    exact ⟨(by unfold own_exp; rw [if_neg hc9, if_pos hc55, if_neg hc57, if_pos hc79, if_pos hc81, if_neg hc83, if_neg hc85, if_pos hc87]), N0, rfl⟩
                · have pre88 : ∀ t, Steps p.tables e below (s₁.setTop (mkF m 63 #[.val (.int u)] [(.int (58 : Int32)), (.int u)])) t → Steps p.tables e below (s₁.setTop (entryFrame m #[(.int u)] 1)) t := fun t kk => pre86 t (by
                      show Steps p.tables e below (s₁.setTop (mkF m 57 #[.val (.int u)] [(.int (46 : Int32)), (.int u)])) _
                      refine XS.icmpNo X0.here hx rfl (hb hby d2_57) rfl (feq hc87).1 ?_
                      show Steps p.tables e below (s₁.setTop (mkF m 60 #[.val (.int u)] [])) _
                      refine XS.iloadN X0.here hx rfl (hb hby d2_60) rfl ?_
                      show Steps p.tables e below (s₁.setTop (mkF m 61 #[.val (.int u)] [(.int u)])) _
                      refine XS.bipush X0.here hx rfl (hb hby d2_61) ?_
                      exact kk)
                  by_cases hc89 : u = (58 : Int32)
                  · have pre137 : ∀ t, Steps p.tables e below (s₁.setTop (mkF m 67 #[.val (.int u)] [(.int (1 : Int32))])) t → Steps p.tables e below (s₁.setTop (entryFrame m #[(.int u)] 1)) t := fun t kk => pre88 t (by
                        show Steps p.tables e below (s₁.setTop (mkF m 63 #[.val (.int u)] [(.int (58 : Int32)), (.int u)])) _
                        refine XS.icmpNo X0.here hx rfl (hb hby d2_63) rfl (teq hc89).2 ?_
                        show Steps p.tables e below (s₁.setTop (mkF m 66 #[.val (.int u)] [])) _
                        refine XS.iconst X0.here hx rfl (hb hby d2_66) ?_
                        exact kk)
                    obtain ⟨fs, hr, hrun, hended, hW, hsame⟩ := X0.leave (v := some (.int (1 : Int32))) (fun h => by rw [Bd.returns] at h; cases h)
                    refine ⟨_, _, pre137 _ ?_, hrun, hended, _, _, rfl, ?_, ⟨_, rfl⟩, hW, hsame.mono (by decide) (by decide)⟩
                    · show Steps p.tables e below (s₁.setTop (mkF m 67 #[.val (.int u)] [(.int (1 : Int32))])) _
                      exact retN X0 hx (t := .boolean) Bd.returns (by simp) (hb hby d2_67) hr
                    · show QExp Z u h0 n0 _ s₁.heap _
                      rw [e0]
                      exact ⟨(by unfold own_exp; rw [if_neg hc9, if_pos hc55, if_neg hc57, if_pos hc79, if_pos hc81, if_neg hc83, if_neg hc85, if_neg hc87, if_pos hc89]), N0, rfl⟩
                  · have pre138 : ∀ t, Steps p.tables e below (s₁.setTop (mkF m 69 #[.val (.int u)] [(.int (0 : Int32))])) t → Steps p.tables e below (s₁.setTop (entryFrame m #[(.int u)] 1)) t := fun t kk => pre88 t (by
                        show Steps p.tables e below (s₁.setTop (mkF m 63 #[.val (.int u)] [(.int (58 : Int32)), (.int u)])) _
                        refine XS.icmpYes X0.here hx rfl (pc0 := 63) (pc' := 68) rfl (hb hby d2_63) rfl (feq hc89).2 (by decide) (by decide) ?_
                        show Steps p.tables e below (s₁.setTop (mkF m 68 #[.val (.int u)] [])) _
                        refine XS.iconst X0.here hx rfl (hb hby d2_68) ?_
                        exact kk)
                    obtain ⟨fs, hr, hrun, hended, hW, hsame⟩ := X0.leave (v := some (.int (0 : Int32))) (fun h => by rw [Bd.returns] at h; cases h)
                    refine ⟨_, _, pre138 _ ?_, hrun, hended, _, _, rfl, ?_, ⟨_, rfl⟩, hW, hsame.mono (by decide) (by decide)⟩
                    · show Steps p.tables e below (s₁.setTop (mkF m 69 #[.val (.int u)] [(.int (0 : Int32))])) _
                      exact retN X0 hx (t := .boolean) Bd.returns (by simp) (hb hby d2_69) hr
                    · show QExp Z u h0 n0 _ s₁.heap _
                      rw [e0]
                      exact ⟨(by unfold own_exp; rw [if_neg hc9, if_pos hc55, if_neg hc57, if_pos hc79, if_pos hc81, if_neg hc83, if_neg hc85, if_neg hc87, if_neg hc89]), N0, rfl⟩
          · have pre90 : ∀ t, Steps p.tables e below (s₁.setTop (mkF m 37 #[.val (.int u)] [(.int (57 : Int32)), (.int u)])) t → Steps p.tables e below (s₁.setTop (entryFrame m #[(.int u)] 1)) t := fun t kk => pre80 t (by
                show Steps p.tables e below (s₁.setTop (mkF m 31 #[.val (.int u)] [(.int (48 : Int32)), (.int u)])) _
                refine XS.icmpNo X0.here hx rfl (hb hby d2_31) rfl (flt hc81).1 ?_
                show Steps p.tables e below (s₁.setTop (mkF m 34 #[.val (.int u)] [])) _
                refine XS.iloadN X0.here hx rfl (hb hby d2_34) rfl ?_
                show Steps p.tables e below (s₁.setTop (mkF m 35 #[.val (.int u)] [(.int u)])) _
                refine XS.bipush X0.here hx rfl (hb hby d2_35) ?_
                exact kk)
            by_cases hc91 : (57 : Int32) < u
            · have pre92 : ∀ t, Steps p.tables e below (s₁.setTop (mkF m 45 #[.val (.int u)] [(.int (45 : Int32)), (.int u)])) t → Steps p.tables e below (s₁.setTop (entryFrame m #[(.int u)] 1)) t := fun t kk => pre90 t (by
                  show Steps p.tables e below (s₁.setTop (mkF m 37 #[.val (.int u)] [(.int (57 : Int32)), (.int u)])) _
                  refine XS.icmpYes X0.here hx rfl (pc0 := 37) (pc' := 42) rfl (hb hby d2_37) rfl (tlt hc91).2.2.1 (by decide) (by decide) ?_
                  show Steps p.tables e below (s₁.setTop (mkF m 42 #[.val (.int u)] [])) _
                  refine XS.iloadN X0.here hx rfl (hb hby d2_42) rfl ?_
                  show Steps p.tables e below (s₁.setTop (mkF m 43 #[.val (.int u)] [(.int u)])) _
                  refine XS.bipush X0.here hx rfl (hb hby d2_43) ?_
                  exact kk)
              by_cases hc93 : u = (45 : Int32)
              · have pre139 : ∀ t, Steps p.tables e below (s₁.setTop (mkF m 67 #[.val (.int u)] [(.int (1 : Int32))])) t → Steps p.tables e below (s₁.setTop (entryFrame m #[(.int u)] 1)) t := fun t kk => pre92 t (by
                    show Steps p.tables e below (s₁.setTop (mkF m 45 #[.val (.int u)] [(.int (45 : Int32)), (.int u)])) _
                    refine XS.icmpYes X0.here hx rfl (pc0 := 45) (pc' := 66) rfl (hb hby d2_45) rfl (teq hc93).1 (by decide) (by decide) ?_
                    show Steps p.tables e below (s₁.setTop (mkF m 66 #[.val (.int u)] [])) _
                    refine XS.iconst X0.here hx rfl (hb hby d2_66) ?_
                    exact kk)
                obtain ⟨fs, hr, hrun, hended, hW, hsame⟩ := X0.leave (v := some (.int (1 : Int32))) (fun h => by rw [Bd.returns] at h; cases h)
                refine ⟨_, _, pre139 _ ?_, hrun, hended, _, _, rfl, ?_, ⟨_, rfl⟩, hW, hsame.mono (by decide) (by decide)⟩
                · show Steps p.tables e below (s₁.setTop (mkF m 67 #[.val (.int u)] [(.int (1 : Int32))])) _
                  exact retN X0 hx (t := .boolean) Bd.returns (by simp) (hb hby d2_67) hr
                · show QExp Z u h0 n0 _ s₁.heap _
                  rw [e0]
                  exact ⟨(by unfold own_exp; rw [if_neg hc9, if_pos hc55, if_neg hc57, if_pos hc79, if_neg hc81, if_pos hc91, if_pos hc93]), N0, rfl⟩
              · have pre94 : ∀ t, Steps p.tables e below (s₁.setTop (mkF m 51 #[.val (.int u)] [(.int (95 : Int32)), (.int u)])) t → Steps p.tables e below (s₁.setTop (entryFrame m #[(.int u)] 1)) t := fun t kk => pre92 t (by
                    show Steps p.tables e below (s₁.setTop (mkF m 45 #[.val (.int u)] [(.int (45 : Int32)), (.int u)])) _
                    refine XS.icmpNo X0.here hx rfl (hb hby d2_45) rfl (feq hc93).1 ?_
                    show Steps p.tables e below (s₁.setTop (mkF m 48 #[.val (.int u)] [])) _
                    refine XS.iloadN X0.here hx rfl (hb hby d2_48) rfl ?_
                    show Steps p.tables e below (s₁.setTop (mkF m 49 #[.val (.int u)] [(.int u)])) _
                    refine XS.bipush X0.here hx rfl (hb hby d2_49) ?_
                    exact kk)
                by_cases hc95 : u = (95 : Int32)
                · have pre140 : ∀ t, Steps p.tables e below (s₁.setTop (mkF m 67 #[.val (.int u)] [(.int (1 : Int32))])) t → Steps p.tables e below (s₁.setTop (entryFrame m #[(.int u)] 1)) t := fun t kk => pre94 t (by
                      show Steps p.tables e below (s₁.setTop (mkF m 51 #[.val (.int u)] [(.int (95 : Int32)), (.int u)])) _
                      refine XS.icmpYes X0.here hx rfl (pc0 := 51) (pc' := 66) rfl (hb hby d2_51) rfl (teq hc95).1 (by decide) (by decide) ?_
                      show Steps p.tables e below (s₁.setTop (mkF m 66 #[.val (.int u)] [])) _
                      refine XS.iconst X0.here hx rfl (hb hby d2_66) ?_
                      exact kk)
                  obtain ⟨fs, hr, hrun, hended, hW, hsame⟩ := X0.leave (v := some (.int (1 : Int32))) (fun h => by rw [Bd.returns] at h; cases h)
                  refine ⟨_, _, pre140 _ ?_, hrun, hended, _, _, rfl, ?_, ⟨_, rfl⟩, hW, hsame.mono (by decide) (by decide)⟩
                  · show Steps p.tables e below (s₁.setTop (mkF m 67 #[.val (.int u)] [(.int (1 : Int32))])) _
                    exact retN X0 hx (t := .boolean) Bd.returns (by simp) (hb hby d2_67) hr
                  · show QExp Z u h0 n0 _ s₁.heap _
                    rw [e0]
                    exact ⟨(by unfold own_exp; rw [if_neg hc9, if_pos hc55, if_neg hc57, if_pos hc79, if_neg hc81, if_pos hc91, if_neg hc93, if_pos hc95]), N0, rfl⟩
                · have pre96 : ∀ t, Steps p.tables e below (s₁.setTop (mkF m 57 #[.val (.int u)] [(.int (46 : Int32)), (.int u)])) t → Steps p.tables e below (s₁.setTop (entryFrame m #[(.int u)] 1)) t := fun t kk => pre94 t (by
                      show Steps p.tables e below (s₁.setTop (mkF m 51 #[.val (.int u)] [(.int (95 : Int32)), (.int u)])) _
                      refine XS.icmpNo X0.here hx rfl (hb hby d2_51) rfl (feq hc95).1 ?_
                      show Steps p.tables e below (s₁.setTop (mkF m 54 #[.val (.int u)] [])) _
                      refine XS.iloadN X0.here hx rfl (hb hby d2_54) rfl ?_
                      show Steps p.tables e below (s₁.setTop (mkF m 55 #[.val (.int u)] [(.int u)])) _
                      refine XS.bipush X0.here hx rfl (hb hby d2_55) ?_
                      exact kk)
                  by_cases hc97 : u = (46 : Int32)
                  · have pre141 : ∀ t, Steps p.tables e below (s₁.setTop (mkF m 67 #[.val (.int u)] [(.int (1 : Int32))])) t → Steps p.tables e below (s₁.setTop (entryFrame m #[(.int u)] 1)) t := fun t kk => pre96 t (by
                        show Steps p.tables e below (s₁.setTop (mkF m 57 #[.val (.int u)] [(.int (46 : Int32)), (.int u)])) _
                        refine XS.icmpYes X0.here hx rfl (pc0 := 57) (pc' := 66) rfl (hb hby d2_57) rfl (teq hc97).1 (by decide) (by decide) ?_
                        show Steps p.tables e below (s₁.setTop (mkF m 66 #[.val (.int u)] [])) _
                        refine XS.iconst X0.here hx rfl (hb hby d2_66) ?_
                        exact kk)
                    obtain ⟨fs, hr, hrun, hended, hW, hsame⟩ := X0.leave (v := some (.int (1 : Int32))) (fun h => by rw [Bd.returns] at h; cases h)
                    refine ⟨_, _, pre141 _ ?_, hrun, hended, _, _, rfl, ?_, ⟨_, rfl⟩, hW, hsame.mono (by decide) (by decide)⟩
                    · show Steps p.tables e below (s₁.setTop (mkF m 67 #[.val (.int u)] [(.int (1 : Int32))])) _
                      exact retN X0 hx (t := .boolean) Bd.returns (by simp) (hb hby d2_67) hr
                    · show QExp Z u h0 n0 _ s₁.heap _
                      rw [e0]
                      exact ⟨(by unfold own_exp; rw [if_neg hc9, if_pos hc55, if_neg hc57, if_pos hc79, if_neg hc81, if_pos hc91, if_neg hc93, if_neg hc95, if_pos hc97]), N0, rfl⟩
                  · have pre98 : ∀ t, Steps p.tables e below (s₁.setTop (mkF m 63 #[.val (.int u)] [(.int (58 : Int32)), (.int u)])) t → Steps p.tables e below (s₁.setTop (entryFrame m #[(.int u)] 1)) t := fun t kk => pre96 t (by
                        show Steps p.tables e below (s₁.setTop (mkF m 57 #[.val (.int u)] [(.int (46 : Int32)), (.int u)])) _
                        refine XS.icmpNo X0.here hx rfl (hb hby d2_57) rfl (feq hc97).1 ?_
                        show Steps p.tables e below (s₁.setTop (mkF m 60 #[.val (.int u)] [])) _
                        refine XS.iloadN X0.here hx rfl (hb hby d2_60) rfl ?_
                        show Steps p.tables e below (s₁.setTop (mkF m 61 #[.val (.int u)] [(.int u)])) _
                        refine XS.bipush X0.here hx rfl (hb hby d2_61) ?_
                        exact kk)
                    by_cases hc99 : u = (58 : Int32)
                    · have pre142 : ∀ t, Steps p.tables e below (s₁.setTop (mkF m 67 #[.val (.int u)] [(.int (1 : Int32))])) t → Steps p.tables e below (s₁.setTop (entryFrame m #[(.int u)] 1)) t := fun t kk => pre98 t (by
                          show Steps p.tables e below (s₁.setTop (mkF m 63 #[.val (.int u)] [(.int (58 : Int32)), (.int u)])) _
                          refine XS.icmpNo X0.here hx rfl (hb hby d2_63) rfl (teq hc99).2 ?_
                          show Steps p.tables e below (s₁.setTop (mkF m 66 #[.val (.int u)] [])) _
                          refine XS.iconst X0.here hx rfl (hb hby d2_66) ?_
                          exact kk)
                      obtain ⟨fs, hr, hrun, hended, hW, hsame⟩ := X0.leave (v := some (.int (1 : Int32))) (fun h => by rw [Bd.returns] at h; cases h)
                      refine ⟨_, _, pre142 _ ?_, hrun, hended, _, _, rfl, ?_, ⟨_, rfl⟩, hW, hsame.mono (by decide) (by decide)⟩
                      · show Steps p.tables e below (s₁.setTop (mkF m 67 #[.val (.int u)] [(.int (1 : Int32))])) _
                        exact retN X0 hx (t := .boolean) Bd.returns (by simp) (hb hby d2_67) hr
                      · show QExp Z u h0 n0 _ s₁.heap _
                        rw [e0]
                        exact ⟨(by unfold own_exp; rw [if_neg hc9, if_pos hc55, if_neg hc57, if_pos hc79, if_neg hc81, if_pos hc91, if_neg hc93, if_neg hc95, if_neg hc97, if_pos hc99]), N0, rfl⟩
                    · have pre143 : ∀ t, Steps p.tables e below (s₁.setTop (mkF m 69 #[.val (.int u)] [(.int (0 : Int32))])) t → Steps p.tables e below (s₁.setTop (entryFrame m #[(.int u)] 1)) t := fun t kk => pre98 t (by
                          show Steps p.tables e below (s₁.setTop (mkF m 63 #[.val (.int u)] [(.int (58 : Int32)), (.int u)])) _
                          refine XS.icmpYes X0.here hx rfl (pc0 := 63) (pc' := 68) rfl (hb hby d2_63) rfl (feq hc99).2 (by decide) (by decide) ?_
                          show Steps p.tables e below (s₁.setTop (mkF m 68 #[.val (.int u)] [])) _
                          refine XS.iconst X0.here hx rfl (hb hby d2_68) ?_
                          exact kk)
                      obtain ⟨fs, hr, hrun, hended, hW, hsame⟩ := X0.leave (v := some (.int (0 : Int32))) (fun h => by rw [Bd.returns] at h; cases h)
                      refine ⟨_, _, pre143 _ ?_, hrun, hended, _, _, rfl, ?_, ⟨_, rfl⟩, hW, hsame.mono (by decide) (by decide)⟩
                      · show Steps p.tables e below (s₁.setTop (mkF m 69 #[.val (.int u)] [(.int (0 : Int32))])) _
                        exact retN X0 hx (t := .boolean) Bd.returns (by simp) (hb hby d2_69) hr
                      · show QExp Z u h0 n0 _ s₁.heap _
                        rw [e0]
                        exact ⟨(by unfold own_exp; rw [if_neg hc9, if_pos hc55, if_neg hc57, if_pos hc79, if_neg hc81, if_pos hc91, if_neg hc93, if_neg hc95, if_neg hc97, if_neg hc99]), N0, rfl⟩
            · have pre144 : ∀ t, Steps p.tables e below (s₁.setTop (mkF m 41 #[.val (.int u)] [(.int (1 : Int32))])) t → Steps p.tables e below (s₁.setTop (entryFrame m #[(.int u)] 1)) t := fun t kk => pre90 t (by
                  show Steps p.tables e below (s₁.setTop (mkF m 37 #[.val (.int u)] [(.int (57 : Int32)), (.int u)])) _
                  refine XS.icmpNo X0.here hx rfl (hb hby d2_37) rfl (flt hc91).2.2.1 ?_
                  show Steps p.tables e below (s₁.setTop (mkF m 40 #[.val (.int u)] [])) _
                  refine XS.iconst X0.here hx rfl (hb hby d2_40) ?_
                  exact kk)
              obtain ⟨fs, hr, hrun, hended, hW, hsame⟩ := X0.leave (v := some (.int (1 : Int32))) (fun h => by rw [Bd.returns] at h; cases h)
              refine ⟨_, _, pre144 _ ?_, hrun, hended, _, _, rfl, ?_, ⟨_, rfl⟩, hW, hsame.mono (by decide) (by decide)⟩
              · show Steps p.tables e below (s₁.setTop (mkF m 41 #[.val (.int u)] [(.int (1 : Int32))])) _
                exact retN X0 hx (t := .boolean) Bd.returns (by simp) (hb hby d2_41) hr
              · show QExp Z u h0 n0 _ s₁.heap _
                rw [e0]
                exact ⟨(by unfold own_exp; rw [if_neg hc9, if_pos hc55, if_neg hc57, if_pos hc79, if_neg hc81, if_neg hc91]), N0, rfl⟩
        · have pre145 : ∀ t, Steps p.tables e below (s₁.setTop (mkF m 27 #[.val (.int u)] [(.int (1 : Int32))])) t → Steps p.tables e below (s₁.setTop (entryFrame m #[(.int u)] 1)) t := fun t kk => pre78 t (by
              show Steps p.tables e below (s₁.setTop (mkF m 23 #[.val (.int u)] [(.int (90 : Int32)), (.int u)])) _
              refine XS.icmpNo X0.here hx rfl (hb hby d2_23) rfl (flt hc79).2.2.1 ?_
              show Steps p.tables e below (s₁.setTop (mkF m 26 #[.val (.int u)] [])) _
              refine XS.iconst X0.here hx rfl (hb hby d2_26) ?_
              exact kk)
          obtain ⟨fs, hr, hrun, hended, hW, hsame⟩ := X0.leave (v := some (.int (1 : Int32))) (fun h => by rw [Bd.returns] at h; cases h)
          refine ⟨_, _, pre145 _ ?_, hrun, hended, _, _, rfl, ?_, ⟨_, rfl⟩, hW, hsame.mono (by decide) (by decide)⟩
          · show Steps p.tables e below (s₁.setTop (mkF m 27 #[.val (.int u)] [(.int (1 : Int32))])) _
            exact retN X0 hx (t := .boolean) Bd.returns (by simp) (hb hby d2_27) hr
          · show QExp Z u h0 n0 _ s₁.heap _
            rw [e0]
            exact ⟨(by unfold own_exp; rw [if_neg hc9, if_pos hc55, if_neg hc57, if_neg hc79]), N0, rfl⟩
    · have pre146 : ∀ t, Steps p.tables e below (s₁.setTop (mkF m 13 #[.val (.int u)] [(.int (1 : Int32))])) t → Steps p.tables e below (s₁.setTop (entryFrame m #[(.int u)] 1)) t := fun t kk => pre54 t (by
          show Steps p.tables e below (s₁.setTop (mkF m 9 #[.val (.int u)] [(.int (122 : Int32)), (.int u)])) _
          refine XS.icmpNo X0.here hx rfl (hb hby d2_9) rfl (flt hc55).2.2.1 ?_
          show Steps p.tables e below (s₁.setTop (mkF m 12 #[.val (.int u)] [])) _
          refine XS.iconst X0.here hx rfl (hb hby d2_12) ?_
          exact kk)
      obtain ⟨fs, hr, hrun, hended, hW, hsame⟩ := X0.leave (v := some (.int (1 : Int32))) (fun h => by rw [Bd.returns] at h; cases h)
      refine ⟨_, _, pre146 _ ?_, hrun, hended, _, _, rfl, ?_, ⟨_, rfl⟩, hW, hsame.mono (by decide) (by decide)⟩
      · show Steps p.tables e below (s₁.setTop (mkF m 13 #[.val (.int u)] [(.int (1 : Int32))])) _
        exact retN X0 hx (t := .boolean) Bd.returns (by simp) (hb hby d2_13) hr
      · show QExp Z u h0 n0 _ s₁.heap _
        rw [e0]
        exact ⟨(by unfold own_exp; rw [if_neg hc9, if_neg hc55]), N0, rfl⟩
theorem own_small : ∀ n : Nat, n < 128 → own_is (Int32.ofNat n) = own_exp (Int32.ofNat n) := by decide +kernel
theorem own_same (u : Int32) (h : ¬ u < 0) : own_is u = own_exp u := by
  rw [Int32.lt_iff_toInt_lt] at h
  have a0 : (0 : Int32).toInt = 0 := by decide
  by_cases h1 : u < 128
  · have e : u = Int32.ofNat u.toInt.toNat := by
      rw [← Int32.toInt_inj, Int32.toInt_ofNat_of_lt (by have := u.toInt_lt; omega)]; omega
    rw [e]
    refine own_small _ ?_
    rw [Int32.lt_iff_toInt_lt] at h1
    have a1 : (128 : Int32).toInt = 128 := by decide
    omega
  · have a1 : (128 : Int32).toInt = 128 := by decide
    have hb : ∀ k : Int32, k.toInt < 128 → ¬ u < k ∧ k < u ∧ ¬ u = k := by
      intro k hk
      rw [Int32.lt_iff_toInt_lt] at h1
      refine ⟨by rw [Int32.lt_iff_toInt_lt]; omega, by rw [Int32.lt_iff_toInt_lt]; omega, fun e => by subst e; omega⟩
    unfold own_is own_exp
    rw [if_neg h1]
    simp [(hb 97 (by decide)).1, (hb 122 (by decide)).2.1, (hb 65 (by decide)).1, (hb 90 (by decide)).2.1, (hb 48 (by decide)).1, (hb 57 (by decide)).2.1, (hb 45 (by decide)).2.2, (hb 95 (by decide)).2.2, (hb 46 (by decide)).2.2, (hb 58 (by decide)).2.2]
theorem own_nn (x : Int32) : ¬ x.toUInt32.toUInt16.toUInt32.toInt32 < (0 : Int32) := by
  intro h
  have := fits_nar_char x
  simp only [nar, fits, Bool.and_eq_true, decide_eq_true_eq] at this
  have h0 := Int32.le_iff_toInt_le.mp (of_decide_eq_true this.1)
  have h1 : x.toUInt32.toUInt16.toUInt32.toInt32.toInt < (0 : Int32).toInt := Int32.lt_iff_toInt_lt.mp h
  exact absurd h1 (Int.not_lt.mpr h0)
theorem pd_0 : parseMethodDescriptor "(C)Z" = some ⟨[.char], some .boolean⟩ := by decide +kernel
theorem ef_rm0 (m : MethodId) (x0 : Int32) (x1 : Int32) : entryFrame m #[(.int x0), (.int x1)] maxLocals = mkF m 0 #[.val (.int x0), .val (.int x1), .unset, .unset] [] := by first | (simp [entryFrame, mkF, argsToLocals, Value.category, maxLocals]; done) | rfl
def Q0 (Z : State) (p0 : Int32) (p1 : Int32) (wC : Addr) (cl : Cell) (h0 : Heap) (n0 : Nat) (v : Option Value) (h : Heap) (L : List Loc) : Prop := v = some (.int (1 : Int32)) ∧ Fr n0 L ∧ Keep h0 h []
set_option maxRecDepth 65536 in
set_option maxHeartbeats 40000000 in
theorem rm0 (l : Launch) (Z : State) (a0 : Array Value) (hw : ∀ d ∈ tables_1, d.before a0 Z = true) (ws : List Jvm.Cond) (p0 : Int32) (p1 : Int32) (wC : Addr) (cl : Cell) (h0 : Heap) (n0 : Nat) (Z0 : n0 ≤ h0.size) (S_CLASSES : Sta Z h0 "com/example/tagloom/tagloom/Chars" "CLASSES" "[B" (.ref wC)) (hAr : Arr Z h0 wC cl .byte) (hsz : cl.slots.size = 128) (hel : ∀ j : Int32, ¬ j < 0 → j < 128 → cl.slots[j.toNatClampNeg]? = some (.int (own_tab j))) :
    MetFree l x (head1 (Jvm.Cond.code x code maxLocals ret :: ws) room_1) (fun aA uU => aA = #[(.int p0), (.int p1)] ∧ Z.Warmed39 uU.vm ∧ uU.heap = h0) (fun _ _ _ _ _ => True) (fun _ uU oO uU' => ∃ vV lL, oO = .returned vV ∧ Q0 Z p0 p1 wC cl h0 n0 vV uU'.heap lL ∧ FrameEnd uU oO uU' lL room_1.cells room_1.slots) := by
  refine MetFree.of_bodySF (plainFor_of_name pn_1) hisR ?_
  intro p e s m args below meth c s₁ Bd hml0 hP hK
  obtain ⟨rfl, hZ, hh⟩ := hP
  have hx := Bd.exec
  have hby := Bd.bytes
  have hml : c.maxLocals = 4 := hml0
  have hown : s.vm.findClass "com/example/tagloom/tagloom/CharsIsNameCharPinLaw" = some m.cls := findClass_of_methodNamed Bd.named
  have hnm := (name_of_methodNamed Bd.named Bd.method).1
  have X0 : Stand p l e room_1 s m #[(.int p0), (.int p1)] below meth c s₁ [] 0 0 := Stand.of_body Bd
  have e0 : s₁.heap = h0 := by rw [← hh, Bd.state]; rfl
  have N0 := Fr.nil n0
  have pre0 : ∀ t, Steps p.tables e below (s₁.setTop (mkF m 0 #[.val (.int p0), .val (.int p1), .unset, .unset] [])) t → Steps p.tables e below (s₁.setTop (entryFrame m #[(.int p0), (.int p1)] maxLocals)) t := fun t kk => castTop (ef_rm0 m p0 p1) kk
  have pre147 : ∀ t, Steps p.tables e below (s₁.setTop (mkF m 3 #[.val (.int p0), .val (.int p1), .unset, .unset] [(.int (p1 &&& (1 : Int32)))])) t → Steps p.tables e below (s₁.setTop (entryFrame m #[(.int p0), (.int p1)] maxLocals)) t := fun t kk => pre0 t (by
      show Steps p.tables e below (s₁.setTop (mkF m 0 #[.val (.int p0), .val (.int p1), .unset, .unset] [])) _
      refine XS.iloadN X0.here hx rfl (hb hby at_0) rfl ?_
      show Steps p.tables e below (s₁.setTop (mkF m 1 #[.val (.int p0), .val (.int p1), .unset, .unset] [(.int p1)])) _
      refine XS.iconst X0.here hx rfl (hb hby at_1) ?_
      show Steps p.tables e below (s₁.setTop (mkF m 2 #[.val (.int p0), .val (.int p1), .unset, .unset] [(.int (1 : Int32)), (.int p1)])) _
      refine XS.iand X0.here hx rfl (hb hby at_2) rfl ?_
      exact kk)
  by_cases hc148 : (p1 &&& (1 : Int32)) = (0 : Int32)
  · have hp150 : Arr Z h0 wC cl .byte := hAr
    have hp151 : cl.slots.size = 128 := hsz
    have hp152 : ∀ j : Int32, ¬ j < 0 → j < 128 → cl.slots[j.toNatClampNeg]? = some (.int (own_tab j)) := hel
    have hp153 : ¬ (((p0 &&& (65535 : Int32)).toUInt32.toUInt16.toUInt32.toInt32) < (0 : Int32)) := own_nn _
    obtain ⟨_, _, ⟨T149, L149, k149, n149⟩, -, X149, ⟨Lc149, hQ149, l149, y149, z149⟩, st149⟩ := Jvm.LawKit.callS X0 hx (y := (⟨"com/example/tagloom/tagloom/Chars", "isNameChar", "(C)Z"⟩ : MethodName)) hown (mvT hZ (hw _ (List.mem_of_getElem? (i := 0) rfl))) (mvT hZ (hw _ (List.mem_of_getElem? (i := 1) rfl))) (mvT hZ (hw _ (List.mem_of_getElem? (i := 2) rfl))) (mvT hZ (hw _ (List.mem_of_getElem? (i := 3) rfl))) (by decide) (backOf (W := 0) (rmIs l Z a0 hw [] ((p0 &&& (65535 : Int32)).toUInt32.toUInt16.toUInt32.toInt32) wC cl h0 n0 Z0 S_CLASSES hp150 hp151 hp152 hp153) hZ (hw _ (List.mem_of_getElem? (i := 3) rfl)) (hw _ (List.mem_of_getElem? (i := 2) rfl)) (by decide) (by decide)) (g := (mkF m 31 #[.val (.int p0), .val (.int p1), .val (.int (0 : Int32)), .val (.int ((p0 &&& (65535 : Int32)).toUInt32.toUInt16.toUInt32.toInt32))] [(.int ((p0 &&& (65535 : Int32)).toUInt32.toUInt16.toUInt32.toInt32))])) rfl (by rw [hml]; rfl) (argsL := [(.int ((p0 &&& (65535 : Int32)).toUInt32.toUInt16.toUInt32.toInt32))]) (rest := []) (lenOf pd_0 rfl) rfl (by show 2 * 0 + _ ≤ _; exact Nat.le_of_eq rfl) (hb hby at_31) (fun _ _ => ⟨rfl, e0, (by decide : 0 + 0 ≤ _), (by decide : 0 + 0 ≤ _)⟩)
    dsimp only [Pt.U, Pt.locs, Pt.cells, Pt.slots] at X149 l149 y149 z149 st149 hQ149
    subst l149 y149 z149
    obtain ⟨rfl, N149q, e149⟩ := hQ149
    have N149 := Fr.app N0 N149q
    obtain ⟨_, _, ⟨T154, L154, k154, n154⟩, -, X154, ⟨Lc154, hQ154, l154, y154, z154⟩, st154⟩ := Jvm.LawKit.callS X149 hx (y := (⟨"com/example/tagloom/tagloom/CharsIsNameCharPinLaw", "expected", "(C)Z"⟩ : MethodName)) hown (mvT hZ (hw _ (List.mem_of_getElem? (i := 6) rfl))) (mvT hZ (hw _ (List.mem_of_getElem? (i := 7) rfl))) (mvT hZ (hw _ (List.mem_of_getElem? (i := 8) rfl))) (mvT hZ (hw _ (List.mem_of_getElem? (i := 9) rfl))) (by decide) (backOf (W := 1) (rmExp l Z a0 hw [] ((p0 &&& (65535 : Int32)).toUInt32.toUInt16.toUInt32.toInt32) h0 n0 Z0) hZ (hw _ (List.mem_of_getElem? (i := 9) rfl)) (hw _ (List.mem_of_getElem? (i := 8) rfl)) (by decide) (by decide)) (g := (mkF m 35 #[.val (.int p0), .val (.int p1), .val (.int (0 : Int32)), .val (.int ((p0 &&& (65535 : Int32)).toUInt32.toUInt16.toUInt32.toInt32))] [(.int ((p0 &&& (65535 : Int32)).toUInt32.toUInt16.toUInt32.toInt32)), (.int (own_is ((p0 &&& (65535 : Int32)).toUInt32.toUInt16.toUInt32.toInt32)))])) rfl (by rw [hml]; rfl) (argsL := [(.int ((p0 &&& (65535 : Int32)).toUInt32.toUInt16.toUInt32.toInt32))]) (rest := [(.int (own_is ((p0 &&& (65535 : Int32)).toUInt32.toUInt16.toUInt32.toInt32)))]) (lenOf pd_0 rfl) rfl (by show 2 * 0 + _ ≤ _; exact Nat.le_of_eq rfl) (hb hby at_35) (fun _ _ => ⟨rfl, e149, (by decide : 0 + 0 ≤ _), (by decide : 0 + 0 ≤ _)⟩)
    dsimp only [Pt.U, Pt.locs, Pt.cells, Pt.slots] at X154 l154 y154 z154 st154 hQ154
    subst l154 y154 z154
    obtain ⟨rfl, N154q, e154⟩ := hQ154
    have N154 := Fr.app N149 N154q
    have hb155 : (own_is ((p0 &&& (65535 : Int32)).toUInt32.toUInt16.toUInt32.toInt32)) = (own_exp ((p0 &&& (65535 : Int32)).toUInt32.toUInt16.toUInt32.toInt32)) := own_same _ (own_nn _)
    have pre156 : ∀ t, Steps p.tables e below (T154.setTop (mkF m 46 #[.val (.int p0), .val (.int p1), .val (.int (0 : Int32)), .val (.int ((p0 &&& (65535 : Int32)).toUInt32.toUInt16.toUInt32.toInt32))] [(.int (1 : Int32))])) t → Steps p.tables e below (s₁.setTop (entryFrame m #[(.int p0), (.int p1)] maxLocals)) t := fun t kk => pre147 t (by
        show Steps p.tables e below (s₁.setTop (mkF m 3 #[.val (.int p0), .val (.int p1), .unset, .unset] [(.int (p1 &&& (1 : Int32)))])) _
        refine XS.ifYes X0.here hx rfl (pc0 := 3) (pc' := 10) rfl (hb hby at_3) rfl ((if0 _ _).trans (teq hc148).1) (by decide) (by decide) ?_
        show Steps p.tables e below (s₁.setTop (mkF m 10 #[.val (.int p0), .val (.int p1), .unset, .unset] [])) _
        refine XS.iconst X0.here hx rfl (hb hby at_10) ?_
        show Steps p.tables e below (s₁.setTop (mkF m 11 #[.val (.int p0), .val (.int p1), .unset, .unset] [(.int (0 : Int32))])) _
        refine XS.istoreN X0.here hx rfl (hb hby at_11) rfl (l' := #[.val (.int p0), .val (.int p1), .val (.int (0 : Int32)), .unset]) rfl ?_
        show Steps p.tables e below (s₁.setTop (mkF m 12 #[.val (.int p0), .val (.int p1), .val (.int (0 : Int32)), .unset] [])) _
        refine XS.iloadN X0.here hx rfl (hb hby at_12) rfl ?_
        show Steps p.tables e below (s₁.setTop (mkF m 13 #[.val (.int p0), .val (.int p1), .val (.int (0 : Int32)), .unset] [(.int (0 : Int32))])) _
        refine XS.ifYes X0.here hx rfl (pc0 := 13) (pc' := 24) rfl (hb hby at_13) rfl ((if0 _ _).trans (teq (by decide : (0 : Int32) = (0 : Int32))).1) (by decide) (by decide) ?_
        show Steps p.tables e below (s₁.setTop (mkF m 24 #[.val (.int p0), .val (.int p1), .val (.int (0 : Int32)), .unset] [])) _
        refine XS.iloadN X0.here hx rfl (hb hby at_24) rfl ?_
        show Steps p.tables e below (s₁.setTop (mkF m 25 #[.val (.int p0), .val (.int p1), .val (.int (0 : Int32)), .unset] [(.int p0)])) _
        refine X0.ldcInt hx hown (mvT hZ (hw _ (List.mem_of_getElem? (i := 10) rfl))) (g := (mkF m 25 #[.val (.int p0), .val (.int p1), .val (.int (0 : Int32)), .unset] [(.int p0)])) rfl (hb hby at_25) _ ?_
        show Steps p.tables e below (s₁.setTop (mkF m 27 #[.val (.int p0), .val (.int p1), .val (.int (0 : Int32)), .unset] [(.int (65535 : Int32)), (.int p0)])) _
        refine XS.iand X0.here hx rfl (hb hby at_27) rfl ?_
        show Steps p.tables e below (s₁.setTop (mkF m 28 #[.val (.int p0), .val (.int p1), .val (.int (0 : Int32)), .unset] [(.int (p0 &&& (65535 : Int32)))])) _
        refine XS.i2c X0.here hx rfl (hb hby at_28) rfl ?_
        show Steps p.tables e below (s₁.setTop (mkF m 29 #[.val (.int p0), .val (.int p1), .val (.int (0 : Int32)), .unset] [(.int ((p0 &&& (65535 : Int32)).toUInt32.toUInt16.toUInt32.toInt32))])) _
        refine XS.istoreN X0.here hx rfl (hb hby at_29) rfl (l' := #[.val (.int p0), .val (.int p1), .val (.int (0 : Int32)), .val (.int ((p0 &&& (65535 : Int32)).toUInt32.toUInt16.toUInt32.toInt32))]) rfl ?_
        show Steps p.tables e below (s₁.setTop (mkF m 30 #[.val (.int p0), .val (.int p1), .val (.int (0 : Int32)), .val (.int ((p0 &&& (65535 : Int32)).toUInt32.toUInt16.toUInt32.toInt32))] [])) _
        refine XS.iloadN X0.here hx rfl (hb hby at_30) rfl ?_
        show Steps p.tables e below (s₁.setTop (mkF m 31 #[.val (.int p0), .val (.int p1), .val (.int (0 : Int32)), .val (.int ((p0 &&& (65535 : Int32)).toUInt32.toUInt16.toUInt32.toInt32))] [(.int ((p0 &&& (65535 : Int32)).toUInt32.toUInt16.toUInt32.toInt32))])) _
        refine st149 _ ?_
        show Steps p.tables e below (T149.setTop (mkF m 34 #[.val (.int p0), .val (.int p1), .val (.int (0 : Int32)), .val (.int ((p0 &&& (65535 : Int32)).toUInt32.toUInt16.toUInt32.toInt32))] [(.int (own_is ((p0 &&& (65535 : Int32)).toUInt32.toUInt16.toUInt32.toInt32)))])) _
        refine XS.iloadN X149.here hx rfl (hb hby at_34) rfl ?_
        show Steps p.tables e below (T149.setTop (mkF m 35 #[.val (.int p0), .val (.int p1), .val (.int (0 : Int32)), .val (.int ((p0 &&& (65535 : Int32)).toUInt32.toUInt16.toUInt32.toInt32))] [(.int ((p0 &&& (65535 : Int32)).toUInt32.toUInt16.toUInt32.toInt32)), (.int (own_is ((p0 &&& (65535 : Int32)).toUInt32.toUInt16.toUInt32.toInt32)))])) _
        refine st154 _ ?_
        show Steps p.tables e below (T154.setTop (mkF m 38 #[.val (.int p0), .val (.int p1), .val (.int (0 : Int32)), .val (.int ((p0 &&& (65535 : Int32)).toUInt32.toUInt16.toUInt32.toInt32))] [(.int (own_exp ((p0 &&& (65535 : Int32)).toUInt32.toUInt16.toUInt32.toInt32))), (.int (own_is ((p0 &&& (65535 : Int32)).toUInt32.toUInt16.toUInt32.toInt32)))])) _
        refine XS.icmpNo X154.here hx rfl (hb hby at_38) rfl (teq hb155).2 ?_
        show Steps p.tables e below (T154.setTop (mkF m 41 #[.val (.int p0), .val (.int p1), .val (.int (0 : Int32)), .val (.int ((p0 &&& (65535 : Int32)).toUInt32.toUInt16.toUInt32.toInt32))] [])) _
        refine XS.iconst X154.here hx rfl (hb hby at_41) ?_
        show Steps p.tables e below (T154.setTop (mkF m 42 #[.val (.int p0), .val (.int p1), .val (.int (0 : Int32)), .val (.int ((p0 &&& (65535 : Int32)).toUInt32.toUInt16.toUInt32.toInt32))] [(.int (1 : Int32))])) _
        refine XS.goto X154.here hx rfl (pc0 := 42) (pc' := 46) rfl (hb hby at_42) (by decide) (by decide) ?_
        exact kk)
    obtain ⟨fs, hr, hrun, hended, hW, hsame⟩ := X154.leave (v := some (.int (1 : Int32))) (fun h => by rw [Bd.returns] at h; cases h)
    refine ⟨_, _, pre156 _ ?_, hrun, hended, _, _, rfl, ?_, ⟨_, rfl⟩, hW, hsame.mono (by decide) (by decide)⟩
    · show Steps p.tables e below (T154.setTop (mkF m 46 #[.val (.int p0), .val (.int p1), .val (.int (0 : Int32)), .val (.int ((p0 &&& (65535 : Int32)).toUInt32.toUInt16.toUInt32.toInt32))] [(.int (1 : Int32))])) _
      exact retN X154 hx (t := .boolean) Bd.returns (by simp) (hb hby at_46) hr
    · show Q0 Z p0 p1 wC cl h0 n0 _ T154.heap _
      rw [e154]
      exact ⟨rfl, N154, Keep.refl _ _⟩
  · have hp158 : Arr Z h0 wC cl .byte := hAr
    have hp159 : cl.slots.size = 128 := hsz
    have hp160 : ∀ j : Int32, ¬ j < 0 → j < 128 → cl.slots[j.toNatClampNeg]? = some (.int (own_tab j)) := hel
    have hp161 : ¬ (((p0 &&& (127 : Int32)).toUInt32.toUInt16.toUInt32.toInt32) < (0 : Int32)) := own_nn _
    obtain ⟨_, _, ⟨T157, L157, k157, n157⟩, -, X157, ⟨Lc157, hQ157, l157, y157, z157⟩, st157⟩ := Jvm.LawKit.callS X0 hx (y := (⟨"com/example/tagloom/tagloom/Chars", "isNameChar", "(C)Z"⟩ : MethodName)) hown (mvT hZ (hw _ (List.mem_of_getElem? (i := 0) rfl))) (mvT hZ (hw _ (List.mem_of_getElem? (i := 1) rfl))) (mvT hZ (hw _ (List.mem_of_getElem? (i := 2) rfl))) (mvT hZ (hw _ (List.mem_of_getElem? (i := 3) rfl))) (by decide) (backOf (W := 0) (rmIs l Z a0 hw [] ((p0 &&& (127 : Int32)).toUInt32.toUInt16.toUInt32.toInt32) wC cl h0 n0 Z0 S_CLASSES hp158 hp159 hp160 hp161) hZ (hw _ (List.mem_of_getElem? (i := 3) rfl)) (hw _ (List.mem_of_getElem? (i := 2) rfl)) (by decide) (by decide)) (g := (mkF m 31 #[.val (.int p0), .val (.int p1), .val (.int (1 : Int32)), .val (.int ((p0 &&& (127 : Int32)).toUInt32.toUInt16.toUInt32.toInt32))] [(.int ((p0 &&& (127 : Int32)).toUInt32.toUInt16.toUInt32.toInt32))])) rfl (by rw [hml]; rfl) (argsL := [(.int ((p0 &&& (127 : Int32)).toUInt32.toUInt16.toUInt32.toInt32))]) (rest := []) (lenOf pd_0 rfl) rfl (by show 2 * 0 + _ ≤ _; exact Nat.le_of_eq rfl) (hb hby at_31) (fun _ _ => ⟨rfl, e0, (by decide : 0 + 0 ≤ _), (by decide : 0 + 0 ≤ _)⟩)
    dsimp only [Pt.U, Pt.locs, Pt.cells, Pt.slots] at X157 l157 y157 z157 st157 hQ157
    subst l157 y157 z157
    obtain ⟨rfl, N157q, e157⟩ := hQ157
    have N157 := Fr.app N0 N157q
    obtain ⟨_, _, ⟨T162, L162, k162, n162⟩, -, X162, ⟨Lc162, hQ162, l162, y162, z162⟩, st162⟩ := Jvm.LawKit.callS X157 hx (y := (⟨"com/example/tagloom/tagloom/CharsIsNameCharPinLaw", "expected", "(C)Z"⟩ : MethodName)) hown (mvT hZ (hw _ (List.mem_of_getElem? (i := 6) rfl))) (mvT hZ (hw _ (List.mem_of_getElem? (i := 7) rfl))) (mvT hZ (hw _ (List.mem_of_getElem? (i := 8) rfl))) (mvT hZ (hw _ (List.mem_of_getElem? (i := 9) rfl))) (by decide) (backOf (W := 1) (rmExp l Z a0 hw [] ((p0 &&& (127 : Int32)).toUInt32.toUInt16.toUInt32.toInt32) h0 n0 Z0) hZ (hw _ (List.mem_of_getElem? (i := 9) rfl)) (hw _ (List.mem_of_getElem? (i := 8) rfl)) (by decide) (by decide)) (g := (mkF m 35 #[.val (.int p0), .val (.int p1), .val (.int (1 : Int32)), .val (.int ((p0 &&& (127 : Int32)).toUInt32.toUInt16.toUInt32.toInt32))] [(.int ((p0 &&& (127 : Int32)).toUInt32.toUInt16.toUInt32.toInt32)), (.int (own_is ((p0 &&& (127 : Int32)).toUInt32.toUInt16.toUInt32.toInt32)))])) rfl (by rw [hml]; rfl) (argsL := [(.int ((p0 &&& (127 : Int32)).toUInt32.toUInt16.toUInt32.toInt32))]) (rest := [(.int (own_is ((p0 &&& (127 : Int32)).toUInt32.toUInt16.toUInt32.toInt32)))]) (lenOf pd_0 rfl) rfl (by show 2 * 0 + _ ≤ _; exact Nat.le_of_eq rfl) (hb hby at_35) (fun _ _ => ⟨rfl, e157, (by decide : 0 + 0 ≤ _), (by decide : 0 + 0 ≤ _)⟩)
    dsimp only [Pt.U, Pt.locs, Pt.cells, Pt.slots] at X162 l162 y162 z162 st162 hQ162
    subst l162 y162 z162
    obtain ⟨rfl, N162q, e162⟩ := hQ162
    have N162 := Fr.app N157 N162q
    have hb163 : (own_is ((p0 &&& (127 : Int32)).toUInt32.toUInt16.toUInt32.toInt32)) = (own_exp ((p0 &&& (127 : Int32)).toUInt32.toUInt16.toUInt32.toInt32)) := own_same _ (own_nn _)
    have pre164 : ∀ t, Steps p.tables e below (T162.setTop (mkF m 46 #[.val (.int p0), .val (.int p1), .val (.int (1 : Int32)), .val (.int ((p0 &&& (127 : Int32)).toUInt32.toUInt16.toUInt32.toInt32))] [(.int (1 : Int32))])) t → Steps p.tables e below (s₁.setTop (entryFrame m #[(.int p0), (.int p1)] maxLocals)) t := fun t kk => pre147 t (by
        show Steps p.tables e below (s₁.setTop (mkF m 3 #[.val (.int p0), .val (.int p1), .unset, .unset] [(.int (p1 &&& (1 : Int32)))])) _
        refine XS.ifNo X0.here hx rfl (hb hby at_3) rfl ((if0 _ _).trans (feq hc148).1) ?_
        show Steps p.tables e below (s₁.setTop (mkF m 6 #[.val (.int p0), .val (.int p1), .unset, .unset] [])) _
        refine XS.iconst X0.here hx rfl (hb hby at_6) ?_
        show Steps p.tables e below (s₁.setTop (mkF m 7 #[.val (.int p0), .val (.int p1), .unset, .unset] [(.int (1 : Int32))])) _
        refine XS.goto X0.here hx rfl (pc0 := 7) (pc' := 11) rfl (hb hby at_7) (by decide) (by decide) ?_
        show Steps p.tables e below (s₁.setTop (mkF m 11 #[.val (.int p0), .val (.int p1), .unset, .unset] [(.int (1 : Int32))])) _
        refine XS.istoreN X0.here hx rfl (hb hby at_11) rfl (l' := #[.val (.int p0), .val (.int p1), .val (.int (1 : Int32)), .unset]) rfl ?_
        show Steps p.tables e below (s₁.setTop (mkF m 12 #[.val (.int p0), .val (.int p1), .val (.int (1 : Int32)), .unset] [])) _
        refine XS.iloadN X0.here hx rfl (hb hby at_12) rfl ?_
        show Steps p.tables e below (s₁.setTop (mkF m 13 #[.val (.int p0), .val (.int p1), .val (.int (1 : Int32)), .unset] [(.int (1 : Int32))])) _
        refine XS.ifNo X0.here hx rfl (hb hby at_13) rfl ((if0 _ _).trans (feq (by decide : ¬ ((1 : Int32) = (0 : Int32)))).1) ?_
        show Steps p.tables e below (s₁.setTop (mkF m 16 #[.val (.int p0), .val (.int p1), .val (.int (1 : Int32)), .unset] [])) _
        refine XS.iloadN X0.here hx rfl (hb hby at_16) rfl ?_
        show Steps p.tables e below (s₁.setTop (mkF m 17 #[.val (.int p0), .val (.int p1), .val (.int (1 : Int32)), .unset] [(.int p0)])) _
        refine XS.bipush X0.here hx rfl (hb hby at_17) ?_
        show Steps p.tables e below (s₁.setTop (mkF m 19 #[.val (.int p0), .val (.int p1), .val (.int (1 : Int32)), .unset] [(.int (127 : Int32)), (.int p0)])) _
        refine XS.iand X0.here hx rfl (hb hby at_19) rfl ?_
        show Steps p.tables e below (s₁.setTop (mkF m 20 #[.val (.int p0), .val (.int p1), .val (.int (1 : Int32)), .unset] [(.int (p0 &&& (127 : Int32)))])) _
        refine XS.i2c X0.here hx rfl (hb hby at_20) rfl ?_
        show Steps p.tables e below (s₁.setTop (mkF m 21 #[.val (.int p0), .val (.int p1), .val (.int (1 : Int32)), .unset] [(.int ((p0 &&& (127 : Int32)).toUInt32.toUInt16.toUInt32.toInt32))])) _
        refine XS.goto X0.here hx rfl (pc0 := 21) (pc' := 29) rfl (hb hby at_21) (by decide) (by decide) ?_
        show Steps p.tables e below (s₁.setTop (mkF m 29 #[.val (.int p0), .val (.int p1), .val (.int (1 : Int32)), .unset] [(.int ((p0 &&& (127 : Int32)).toUInt32.toUInt16.toUInt32.toInt32))])) _
        refine XS.istoreN X0.here hx rfl (hb hby at_29) rfl (l' := #[.val (.int p0), .val (.int p1), .val (.int (1 : Int32)), .val (.int ((p0 &&& (127 : Int32)).toUInt32.toUInt16.toUInt32.toInt32))]) rfl ?_
        show Steps p.tables e below (s₁.setTop (mkF m 30 #[.val (.int p0), .val (.int p1), .val (.int (1 : Int32)), .val (.int ((p0 &&& (127 : Int32)).toUInt32.toUInt16.toUInt32.toInt32))] [])) _
        refine XS.iloadN X0.here hx rfl (hb hby at_30) rfl ?_
        show Steps p.tables e below (s₁.setTop (mkF m 31 #[.val (.int p0), .val (.int p1), .val (.int (1 : Int32)), .val (.int ((p0 &&& (127 : Int32)).toUInt32.toUInt16.toUInt32.toInt32))] [(.int ((p0 &&& (127 : Int32)).toUInt32.toUInt16.toUInt32.toInt32))])) _
        refine st157 _ ?_
        show Steps p.tables e below (T157.setTop (mkF m 34 #[.val (.int p0), .val (.int p1), .val (.int (1 : Int32)), .val (.int ((p0 &&& (127 : Int32)).toUInt32.toUInt16.toUInt32.toInt32))] [(.int (own_is ((p0 &&& (127 : Int32)).toUInt32.toUInt16.toUInt32.toInt32)))])) _
        refine XS.iloadN X157.here hx rfl (hb hby at_34) rfl ?_
        show Steps p.tables e below (T157.setTop (mkF m 35 #[.val (.int p0), .val (.int p1), .val (.int (1 : Int32)), .val (.int ((p0 &&& (127 : Int32)).toUInt32.toUInt16.toUInt32.toInt32))] [(.int ((p0 &&& (127 : Int32)).toUInt32.toUInt16.toUInt32.toInt32)), (.int (own_is ((p0 &&& (127 : Int32)).toUInt32.toUInt16.toUInt32.toInt32)))])) _
        refine st162 _ ?_
        show Steps p.tables e below (T162.setTop (mkF m 38 #[.val (.int p0), .val (.int p1), .val (.int (1 : Int32)), .val (.int ((p0 &&& (127 : Int32)).toUInt32.toUInt16.toUInt32.toInt32))] [(.int (own_exp ((p0 &&& (127 : Int32)).toUInt32.toUInt16.toUInt32.toInt32))), (.int (own_is ((p0 &&& (127 : Int32)).toUInt32.toUInt16.toUInt32.toInt32)))])) _
        refine XS.icmpNo X162.here hx rfl (hb hby at_38) rfl (teq hb163).2 ?_
        show Steps p.tables e below (T162.setTop (mkF m 41 #[.val (.int p0), .val (.int p1), .val (.int (1 : Int32)), .val (.int ((p0 &&& (127 : Int32)).toUInt32.toUInt16.toUInt32.toInt32))] [])) _
        refine XS.iconst X162.here hx rfl (hb hby at_41) ?_
        show Steps p.tables e below (T162.setTop (mkF m 42 #[.val (.int p0), .val (.int p1), .val (.int (1 : Int32)), .val (.int ((p0 &&& (127 : Int32)).toUInt32.toUInt16.toUInt32.toInt32))] [(.int (1 : Int32))])) _
        refine XS.goto X162.here hx rfl (pc0 := 42) (pc' := 46) rfl (hb hby at_42) (by decide) (by decide) ?_
        exact kk)
    obtain ⟨fs, hr, hrun, hended, hW, hsame⟩ := X162.leave (v := some (.int (1 : Int32))) (fun h => by rw [Bd.returns] at h; cases h)
    refine ⟨_, _, pre164 _ ?_, hrun, hended, _, _, rfl, ?_, ⟨_, rfl⟩, hW, hsame.mono (by decide) (by decide)⟩
    · show Steps p.tables e below (T162.setTop (mkF m 46 #[.val (.int p0), .val (.int p1), .val (.int (1 : Int32)), .val (.int ((p0 &&& (127 : Int32)).toUInt32.toUInt16.toUInt32.toInt32))] [(.int (1 : Int32))])) _
      exact retN X162 hx (t := .boolean) Bd.returns (by simp) (hb hby at_46) hr
    · show Q0 Z p0 p1 wC cl h0 n0 _ T162.heap _
      rw [e162]
      exact ⟨rfl, N162, Keep.refl _ _⟩
def own_st (f : Nat → Option Bool) (acc : Option Bool) (i : Nat) : Option Bool := match acc with
  | some true => f i
  | x => x
theorem own_fold {f : Nat → Option Bool} : ∀ (L : List Nat) (acc : Option Bool), L.foldl (own_st f) acc = some true → acc = some true ∧ ∀ i ∈ L, f i = some true
  | [], acc, h => ⟨h, fun _ q => nomatch q⟩
  | i :: L, acc, h => by
    obtain ⟨h1, h2⟩ := own_fold L (own_st f acc i) h
    cases acc with
    | none => exact nomatch h1
    | some b =>
      cases b with
      | false => exact nomatch h1
      | true => exact ⟨rfl, fun j hj => by
          rcases List.mem_cons.mp hj with rfl | hj
          · exact h1
          · exact h2 j hj⟩
theorem own_all {args : Array Value} {s : State} {t : Term} {c : Jvm.Cond} {a : Addr} {cl : Cell} (h : (Cond.all t c).value args s none s [] = some true) (ht : t.eval args s none [] s = some (.ref a)) (ha : s.arrayAt? a = some cl) : ∀ i, i < cl.slots.size → c.value args s none s [i] = some true := by
  intro i hi
  have h' : (List.range cl.slots.size).foldl (own_st fun i => c.value args s none s [i]) (some true) = some true := by
    simp only [Cond.value, ht, ha] at h
    exact h
  exact (own_fold _ _ h').2 i (List.mem_range.mpr hi)
theorem own_ev {args : Array Value} {s : State} {t : Term} {k : Int32} (h : (Cond.eq t (.int k)).value args s none s [] = some true) : t.eval args s none [] s = some (.int k) := by
  cases hv : t.eval args s none [] s with
  | none => simp [Cond.value, hv] at h
  | some v => cases v <;> simp [Cond.value, hv, Term.eval] at h; rw [h]
theorem own_len {args : Array Value} {s : State} {t : Term} {a : Addr} {cl : Cell} {n : Int32} (ht : t.eval args s none [] s = some (.ref a)) (ha : s.arrayAt? a = some cl) (h : (Cond.eq (.length t) (.int n)).value args s none s [] = some true) : cl.slots.size = n.toNatClampNeg := by
  have e := own_ev h
  simp [Term.eval, ht, ha] at e
  obtain ⟨h1, h2⟩ := e
  have e1 : (Nat.toInt32 cl.slots.size).toNatClampNeg = cl.slots.size := by simp only [Int32.toNatClampNeg, len_toInt h1]; rfl
  rw [← e1, h2]

theorem own_eqj {j k : Int32} {n : Int32} (h1 : ¬ j < k) (h2 : j < n) (e : n.toInt = k.toInt + 1) : j = k := by
  rw [Int32.lt_iff_toInt_lt] at h1 h2
  rw [← Int32.toInt_inj]; omega
section
variable {args : Array Value} {s : State} {t : Term} {a : Addr} {cl : Cell} {j lo hi v : Int32}
theorem own_or {A B : Jvm.Cond} {idx : List Nat} (h : (Cond.or A B).value args s none s idx = some true) (ha : A.value args s none s idx = some false) : B.value args s none s idx = some true := by
  simpa only [Cond.value, ha] using h
theorem own_evi {idx : List Nat} {k : Int32} {t : Term} (h : (Cond.eq t (.int k)).value args s none s idx = some true) : t.eval args s none idx s = some (.int k) := by
  cases hv : t.eval args s none idx s with
  | none => simp [Cond.value, hv] at h
  | some v => cases v <;> simp [Cond.value, hv, Term.eval] at h; rw [h]
theorem own_one (e : j = lo) (h0 : ¬ j < 0) (ec : t.eval args s none [] s = some (.ref a)) (ha : s.arrayAt? a = some cl) (h : (Cond.eq (.elem t (.int lo)) (.int v)).value args s none s [] = some true) : cl.slots[j.toNatClampNeg]? = some (.int v) := by
  subst e
  have e1 := own_ev h
  rw [elem_f ec (Term.int_eval j) ha h0] at e1
  exact e1
theorem own_le0 {idx : List Nat} {x y : Term} {p q : Int32} (hx : x.eval args s none idx s = some (.int p)) (hy : y.eval args s none idx s = some (.int q)) (h : q < p) : (Cond.le x y).value args s none s idx = some false := by
  rw [Cond.le_ints hx hy]; rw [Int32.lt_iff_toInt_lt] at h; simp [Int32.le_iff_toInt_le]; omega
theorem own_lt0 {idx : List Nat} {x y : Term} {p q : Int32} (hx : x.eval args s none idx s = some (.int p)) (hy : y.eval args s none idx s = some (.int q)) (h : ¬ p < q) : (Cond.lt x y).value args s none s idx = some false := by
  rw [Cond.lt_ints hx hy]; simp [h]
theorem own_r0 (h0 : ¬ j < 0) (h1 : j < hi) (ej : (Term.elem t (.index 0)).eval args s none [j.toNatClampNeg] s = cl.slots[j.toNatClampNeg]?) (h : (Cond.or (.le (.int hi) (.index 0)) (.eq (.elem t (.index 0)) (.int v))).value args s none s [j.toNatClampNeg] = some true) : cl.slots[j.toNatClampNeg]? = some (.int v) := by
  have := own_or h (own_le0 (Term.int_eval hi) (idx_at h0) h1)
  rw [← ej]; exact own_evi this
theorem own_rg (h0 : ¬ j < 0) (h1 : ¬ j < lo) (h2 : j < hi) (ej : (Term.elem t (.index 0)).eval args s none [j.toNatClampNeg] s = cl.slots[j.toNatClampNeg]?) (h : (Cond.or (.lt (.index 0) (.int lo)) (.or (.le (.int hi) (.index 0)) (.eq (.elem t (.index 0)) (.int v)))).value args s none s [j.toNatClampNeg] = some true) : cl.slots[j.toNatClampNeg]? = some (.int v) :=
  own_r0 h0 h2 ej (own_or h (own_lt0 (idx_at h0) (Term.int_eval lo) h1))
theorem own_rl (h0 : ¬ j < 0) (h1 : ¬ j < lo) (ej : (Term.elem t (.index 0)).eval args s none [j.toNatClampNeg] s = cl.slots[j.toNatClampNeg]?) (h : (Cond.or (.lt (.index 0) (.int lo)) (.eq (.elem t (.index 0)) (.int v))).value args s none s [j.toNatClampNeg] = some true) : cl.slots[j.toNatClampNeg]? = some (.int v) := by
  have := own_or h (own_lt0 (idx_at h0) (Term.int_eval lo) h1)
  rw [← ej]; exact own_evi this
end

set_option maxRecDepth 65536 in
set_option maxHeartbeats 40000000 in
theorem comes_1 {Post : Tables → Env → Array Value → State → Outcome → State → Prop} (hpost : ∀ tb e args s v u, (limb_1_1.after args s (.returned v) u = true ∧ limb_1_2.after args s (.returned v) u = true ∧ True) → FrameEnd s (.returned v) u (Jvm.fieldLocs frame_1_writes args s ++ Jvm.arrayLocs frame_1_arrays args s ++ Jvm.staticLocs frame_1_statics s) 0 0 → Post tb e args s (.returned v) u) :
    ArmFor flags0 classFile x code maxLocals ret World_1 tables_1 room_1 Calls_1 rest_1 Pre_1 Post := by
  intro l hfl _ _ p e ha hc hk s m args below hf hA hF happ hP
  obtain ⟨hcalls, hrest, hpre⟩ := hP
  obtain ⟨-, -, -, hnamed, -, -, -, hat⟩ := (Spec.applies_iff hf).mp happ
  obtain ⟨hg, hn⟩ := and_e (Cond.before_iff.mp (show (Jvm.Cond.and given_1 narrow_1).before args s = true from hpre))
  obtain ⟨gg165, gg166⟩ := and_e hg
  obtain ⟨gg167, gg168⟩ := and_e gg166
  obtain ⟨w0, w1, rfl⟩ : ∃ w0 w1 : Value, args = #[w0, w1] := by
    have hs : args.size = 2 := by simpa [Cond.value, given_1] using gg165
    obtain ⟨L⟩ := args
    match L, hs with
    | [w0, w1], _ => exact ⟨w0, w1, rfl⟩
  have hw := fun d (hd : d ∈ tables_1) => atoms_spec (ws := Jvm.Cond.code x code maxLocals ret :: tables_1) hat d (List.mem_cons_of_mem _ hd)
  have hfit : Fit s := fun {y c} hc i hi => by
    obtain ⟨ha, rfl⟩ := Array.getElem?_eq_some_iff.mp hc
    have q := List.all_eq_true.mp ((Array.all_eq_true_iff_forall_mem.mp hF) _ (Array.getElem_mem ha)) i (List.mem_range.mpr hi)
    simpa [Array.getElem?_eq_getElem hi] using q
  obtain ⟨i0, ei0⟩ := is_v gg167
  obtain rfl : w0 = (.int i0) := Option.some.inj ei0
  obtain ⟨i1, ei1⟩ := is_v gg168
  obtain rfl : w1 = (.int i1) := Option.some.inj ei1
  obtain ⟨m0, k0⟩ := and_e hn
  obtain ⟨m1, k1⟩ := and_e k0
  obtain ⟨t0, k2⟩ := and_e k1
  obtain ⟨t1, k3⟩ := and_e k2
  obtain ⟨t2, k4⟩ := and_e k3
  obtain ⟨t3, k5⟩ := and_e k4
  obtain ⟨t4, k6⟩ := and_e k5
  obtain ⟨t5, k7⟩ := and_e k6
  obtain ⟨t6, k8⟩ := and_e k7
  obtain ⟨t7, k9⟩ := and_e k8
  obtain ⟨t8, k10⟩ := and_e k9
  obtain ⟨t9, k11⟩ := and_e k10
  obtain ⟨t10, k12⟩ := and_e k11
  obtain ⟨t11, k13⟩ := and_e k12
  obtain ⟨t12, k14⟩ := and_e k13
  obtain ⟨t13, k15⟩ := and_e k14
  obtain ⟨t14, k16⟩ := and_e k15
  obtain ⟨t15, k17⟩ := and_e k16
  obtain ⟨t16, k18⟩ := and_e k17
  obtain ⟨t17, k19⟩ := and_e k18
  obtain ⟨t18, k20⟩ := and_e k19
  obtain ⟨t19, k21⟩ := and_e k20
  obtain ⟨wC, ec⟩ := arr_v m0
  have hS : Sta s s.heap "com/example/tagloom/tagloom/Chars" "CLASSES" "[B" (.ref wC) := Sta.start ec (Or.inr ⟨hw _ (List.mem_of_getElem? (i := 2) rfl), hw _ (List.mem_of_getElem? (i := 5) rfl)⟩)
  obtain ⟨cl, hAr⟩ := Arr.start ec m0
  have haa : s.arrayAt? wC = some cl := Arr.fin (State.Warmed39.refl s).alike hAr
  have hsz : cl.slots.size = 128 := own_len ec haa m1
  have hel : ∀ j : Int32, ¬ j < 0 → j < 128 → cl.slots[j.toNatClampNeg]? = some (.int (own_tab j)) := by
    intro j h0 h128
    have hin : j.toNatClampNeg < cl.slots.size := Nat.lt_of_not_le fun q => (own_inb hsz ⟨h0, h128⟩) (Or.inr q)
    have ej := elem_f (args := #[.int i0, .int i1]) (idx := [j.toNatClampNeg]) (show Term.eval _ s none [j.toNatClampNeg] s (.static "com/example/tagloom/tagloom/Chars" "CLASSES" "[B") = some (.ref wC) from ec) (idx_at h0) haa h0
    unfold own_tab
    by_cases h1 : j < 9
    · rw [if_pos h1]; exact own_r0 h0 h1 ej (own_all t0 ec haa _ hin)
    rw [if_neg h1]
    by_cases h2 : j < 10
    · rw [if_pos h2]; exact own_one (own_eqj h1 h2 (by decide)) h0 ec haa t1
    rw [if_neg h2]
    by_cases h3 : j < 11
    · rw [if_pos h3]; exact own_one (own_eqj h2 h3 (by decide)) h0 ec haa t2
    rw [if_neg h3]
    by_cases h4 : j < 12
    · rw [if_pos h4]; exact own_one (own_eqj h3 h4 (by decide)) h0 ec haa t3
    rw [if_neg h4]
    by_cases h5 : j < 13
    · rw [if_pos h5]; exact own_one (own_eqj h4 h5 (by decide)) h0 ec haa t4
    rw [if_neg h5]
    by_cases h6 : j < 14
    · rw [if_pos h6]; exact own_one (own_eqj h5 h6 (by decide)) h0 ec haa t5
    rw [if_neg h6]
    by_cases h7 : j < 32
    · rw [if_pos h7]; exact own_rg h0 h6 h7 ej (own_all t6 ec haa _ hin)
    rw [if_neg h7]
    by_cases h8 : j < 33
    · rw [if_pos h8]; exact own_one (own_eqj h7 h8 (by decide)) h0 ec haa t7
    rw [if_neg h8]
    by_cases h9 : j < 45
    · rw [if_pos h9]; exact own_rg h0 h8 h9 ej (own_all t8 ec haa _ hin)
    rw [if_neg h9]
    by_cases h10 : j < 46
    · rw [if_pos h10]; exact own_one (own_eqj h9 h10 (by decide)) h0 ec haa t9
    rw [if_neg h10]
    by_cases h11 : j < 47
    · rw [if_pos h11]; exact own_one (own_eqj h10 h11 (by decide)) h0 ec haa t10
    rw [if_neg h11]
    by_cases h12 : j < 48
    · rw [if_pos h12]; exact own_one (own_eqj h11 h12 (by decide)) h0 ec haa t11
    rw [if_neg h12]
    by_cases h13 : j < 58
    · rw [if_pos h13]; exact own_rg h0 h12 h13 ej (own_all t12 ec haa _ hin)
    rw [if_neg h13]
    by_cases h14 : j < 59
    · rw [if_pos h14]; exact own_one (own_eqj h13 h14 (by decide)) h0 ec haa t13
    rw [if_neg h14]
    by_cases h15 : j < 65
    · rw [if_pos h15]; exact own_rg h0 h14 h15 ej (own_all t14 ec haa _ hin)
    rw [if_neg h15]
    by_cases h16 : j < 91
    · rw [if_pos h16]; exact own_rg h0 h15 h16 ej (own_all t15 ec haa _ hin)
    rw [if_neg h16]
    by_cases h17 : j < 95
    · rw [if_pos h17]; exact own_rg h0 h16 h17 ej (own_all t16 ec haa _ hin)
    rw [if_neg h17]
    by_cases h18 : j < 96
    · rw [if_pos h18]; exact own_one (own_eqj h17 h18 (by decide)) h0 ec haa t17
    rw [if_neg h18]
    by_cases h19 : j < 97
    · rw [if_pos h19]; exact own_one (own_eqj h18 h19 (by decide)) h0 ec haa t18
    rw [if_neg h19]
    by_cases h20 : j < 123
    · rw [if_pos h20]; exact own_rg h0 h19 h20 ej (own_all t19 ec haa _ hin)
    rw [if_neg h20]
    exact own_rl h0 h20 ej (own_all k21 ec haa _ hin)
  obtain ⟨n, o, h1, h2, h3, _, L, rfl, ⟨rfl, N, -⟩, hq⟩ := rm0 l s _ hw tables_1 i0 i1 wC cl s.heap s.heap.size (Nat.le_refl _) hS hAr hsz hel p e ha hc hk s m _ below hf ((Spec.applies_iff_loose hf).mp happ).1 ⟨rfl, State.Warmed39.refl s, rfl⟩ trivial
  refine ⟨n, _, h1, h2, h3, hpost _ _ _ _ _ _ ⟨Cond.after_iff.mpr rfl, Cond.after_iff.mpr (eq_i res_at (Term.int_eval (1)) rfl), trivial⟩ ⟨hq.1, hq.2.1, (hq.2.2.sift fun y hy => Or.inr (N y hy)).mono (by decide) (by decide)⟩⟩
theorem main_1_1 : Claimed_1_1 := comes_1 fun _ _ _ _ _ _ h hF => ⟨h.1, hF⟩
theorem main_1_2 : Claimed_1_2 := comes_1 fun _ _ _ _ _ _ h hF => ⟨h.2.1, hF⟩
end Jvm.Pilot.@@N@@
namespace Jvm.Pilot.@@N@@
open Jvm Jvm.ClassFile Sem Op Lib Jvm.Free Jvm.Stand Jvm.Pilot.@@N@@.Jvm.D
/-! MADE BY PROGRAM (witnessworld.py) out of the Statement's table words and the real class files: 9 classes; the members and pool entries that the words name. The judged class is class 1, her method 2. -/
namespace start1
open Jvm.ClassFile
def u (s : String) : CpInfo := .utf8 (stringToUtf16 s)
/-- a pool by its gaps: so many unusable entries, then the entry; so many at the end -/
def gap : Nat → List CpInfo → List CpInfo
  | 0, r => r
  | n + 1, r => .unusable :: gap n r
def poolList (es : List (Nat × CpInfo)) (last : Nat) : List CpInfo := es.foldr (fun e r => gap e.1 (e.2 :: r)) (gap last [])
def pool (es : List (Nat × CpInfo)) (last : Nat) : Array CpInfo := ⟨poolList es last⟩
def fileOf (pool : Array CpInfo) (this : Nat) (attrs : Array Attribute := #[]) (ms : Array MethodInfo := #[]) (fl : Nat := 33) (sup : Nat := 0) (ifs : Array Nat := #[]) (fds : Array FieldInfo := #[]) : ClassFile where
  minorVersion := 0
  majorVersion := 65
  constantPool := pool
  accessFlags := fl
  thisClass := this
  superClass := sup
  interfaces := ifs
  fields := fds
  methods := ms
  attributes := attrs
def plain (name : String) (sup : Option ClassId) : Class where
  name := name
  kind := .ordinary
  loader := none
  accessFlags := 33
  super := sup
  interfaces := #[]
  cf := none
  fields := #[]
  methods := #[]
  instanceTypes := #[]
  staticTypes := #[]
  resolved := #[]
  callSites := []
  init := .initialized
  statics := none
  mirror := none

def pool0 : Array CpInfo := pool [(5, u "<init>"), (0, u "()V"), (1, .class_ 10), (1, u "java/lang/Object")] 113

def k0m0 : Method := { name := "<init>", desc := "()V", sig := { parameters := [], returnType := none }, accessFlags := 1, code := none }
/-- java/lang/Object -/
def k0 : Class := { plain "java/lang/Object" none with
  accessFlags := 33
  interfaces := #[]
  cf := some (fileOf pool0 8 #[] #[{ accessFlags := 1, nameIndex := 5, descriptorIndex := 6, attributes := #[] }] 33 0 #[] #[])
  fields := #[]
  methods := #[k0m0]
  instanceTypes := #[]
  staticTypes := #[]
  resolved := Array.replicate 124 none
  statics := none }

def pool1 : Array CpInfo := pool [(2, .class_ 4), (1, u "java/lang/Object"), (0, u "<init>"), (0, u "()V"), (0, .integer 65535), (0, .methodref 9 10), (0, .class_ 11), (0, .nameAndType 12 13), (0, u "com/example/tagloom/tagloom/Chars"), (0, u "isNameChar"), (0, u "(C)Z"), (0, .methodref 15 16), (0, .class_ 17), (0, .nameAndType 18 13), (0, u "com/example/tagloom/tagloom/CharsIsNameCharPinLaw"), (0, u "expected"), (3, u "law"), (0, u "(II)Z")] 2

def k1m0 : Method := { name := "<init>", desc := "()V", sig := { parameters := [], returnType := none }, accessFlags := 2, code := none }
def k1c1 : Code := { maxStack := 2, maxLocals := 1, code := method_2_code, exceptionTable := #[], attributes := #[] }
def k1m1 : Method := { name := "expected", desc := "(C)Z", sig := { parameters := [.char], returnType := some .boolean }, accessFlags := 10, code := some k1c1 }
def k1c2 : Code := { maxStack := 2, maxLocals := 4, code := code, exceptionTable := #[], attributes := #[] }
def k1m2 : Method := { name := "law", desc := "(II)Z", sig := { parameters := [.int, .int], returnType := some .boolean }, accessFlags := 9, code := some k1c2 }
/-- com/example/tagloom/tagloom/CharsIsNameCharPinLaw -/
def k1 : Class := { plain "com/example/tagloom/tagloom/CharsIsNameCharPinLaw" (some 0) with
  accessFlags := 49
  interfaces := #[]
  cf := some (fileOf pool1 15 #[] #[{ accessFlags := 2, nameIndex := 5, descriptorIndex := 6, attributes := #[] }, { accessFlags := 10, nameIndex := 18, descriptorIndex := 13, attributes := #[] }, { accessFlags := 9, nameIndex := 22, descriptorIndex := 23, attributes := #[] }] 49 2 #[] #[])
  fields := #[]
  methods := #[k1m0, k1m1, k1m2]
  instanceTypes := #[]
  staticTypes := #[]
  resolved := Array.replicate 26 none
  statics := none }

def pool2 : Array CpInfo := pool [(2, .class_ 4), (1, u "java/lang/Object"), (0, u "<init>"), (0, u "()V"), (0, .class_ 8), (0, u "com/example/tagloom/tagloom/Chars"), (0, .fieldref 7 10), (0, .nameAndType 11 12), (0, u "CLASSES"), (0, u "[B"), (3, u "(C)Z"), (10, u "SPACE"), (0, u "I"), (2, u "LETTER"), (1, u "DIGIT"), (1, u "NAME"), (1, u "ASCII"), (6, u "isNameChar")] 10

def k2m0 : Method := { name := "<init>", desc := "()V", sig := { parameters := [], returnType := none }, accessFlags := 2, code := none }
def k2c1 : Code := { maxStack := 2, maxLocals := 1, code := prog_6_method_5_code, exceptionTable := #[], attributes := #[] }
def k2m1 : Method := { name := "isNameChar", desc := "(C)Z", sig := { parameters := [.char], returnType := some .boolean }, accessFlags := 8, code := some k2c1 }
/-- com/example/tagloom/tagloom/Chars -/
def k2 : Class := { plain "com/example/tagloom/tagloom/Chars" (some 0) with
  accessFlags := 48
  interfaces := #[]
  cf := some (fileOf pool2 7 #[] #[{ accessFlags := 2, nameIndex := 5, descriptorIndex := 6, attributes := #[] }, { accessFlags := 8, nameIndex := 44, descriptorIndex := 16, attributes := #[] }] 48 2 #[] #[{ accessFlags := 26, nameIndex := 27, descriptorIndex := 28, attributes := #[] }, { accessFlags := 26, nameIndex := 31, descriptorIndex := 28, attributes := #[] }, { accessFlags := 26, nameIndex := 33, descriptorIndex := 28, attributes := #[] }, { accessFlags := 26, nameIndex := 35, descriptorIndex := 28, attributes := #[] }, { accessFlags := 26, nameIndex := 37, descriptorIndex := 28, attributes := #[] }, { accessFlags := 26, nameIndex := 11, descriptorIndex := 12, attributes := #[] }])
  fields := #[{ name := "SPACE", type := .int, accessFlags := 26, slot := 0, constantValue := 0 }, { name := "LETTER", type := .int, accessFlags := 26, slot := 1, constantValue := 0 }, { name := "DIGIT", type := .int, accessFlags := 26, slot := 2, constantValue := 0 }, { name := "NAME", type := .int, accessFlags := 26, slot := 3, constantValue := 0 }, { name := "ASCII", type := .int, accessFlags := 26, slot := 4, constantValue := 0 }, { name := "CLASSES", type := (.array .byte), accessFlags := 26, slot := 5, constantValue := 0 }]
  methods := #[k2m0, k2m1]
  instanceTypes := #[]
  staticTypes := #[.int, .int, .int, .int, .int, (.array .byte)]
  resolved := Array.replicate 55 none
  statics := some 0 }

def pool3 : Array CpInfo := pool [(1, u "java/lang/Cloneable"), (0, .class_ 1), (0, u "java/lang/Object"), (0, .class_ 3)] 3

/-- java/lang/Cloneable -/
def k3 : Class := { plain "java/lang/Cloneable" (some 0) with
  accessFlags := 1537
  interfaces := #[]
  cf := some (fileOf pool3 2 #[] #[] 1537 4 #[] #[])
  fields := #[]
  methods := #[]
  instanceTypes := #[]
  staticTypes := #[]
  resolved := Array.replicate 8 none
  statics := none }

def pool4 : Array CpInfo := pool [(1, u "java/io/Serializable"), (0, .class_ 1), (0, u "java/lang/Object"), (0, .class_ 3)] 3

/-- java/io/Serializable -/
def k4 : Class := { plain "java/io/Serializable" (some 0) with
  accessFlags := 1537
  interfaces := #[]
  cf := some (fileOf pool4 2 #[] #[] 1537 4 #[] #[])
  fields := #[]
  methods := #[]
  instanceTypes := #[]
  staticTypes := #[]
  resolved := Array.replicate 8 none
  statics := none }

/-- the primitive byte -/
def k5 : Class := { plain "byte" none with kind := .primitive 'B', accessFlags := 0x411 }
/-- [B -/
def k6 : Class := { plain "[B" (some 0) with kind := .array 5 .byte, interfaces := #[3, 4], accessFlags := 1041 }

/-- the primitive int -/
def k7 : Class := { plain "int" none with kind := .primitive 'I', accessFlags := 0x411 }
/-- [I -/
def k8 : Class := { plain "[I" (some 0) with kind := .array 7 .int, interfaces := #[3, 4], accessFlags := 1041 }

def heap : Heap := #[{ cls := 2, slots := #[.int 0, .int 0, .int 0, .int 0, .int 0, .ref 1], vm := .statics 2 },
  { cls := 6, slots := #[.int 0, .int 0, .int 0, .int 0, .int 0, .int 0, .int 0, .int 0, .int 0, .int 1, .int 1, .int 0, .int 1, .int 1, .int 0, .int 0, .int 0, .int 0, .int 0, .int 0, .int 0, .int 0, .int 0, .int 0, .int 0, .int 0, .int 0, .int 0, .int 0, .int 0, .int 0, .int 0, .int 1, .int 0, .int 0, .int 0, .int 0, .int 0, .int 0, .int 0, .int 0, .int 0, .int 0, .int 0, .int 0, .int 8, .int 8, .int 0, .int 12, .int 12, .int 12, .int 12, .int 12, .int 12, .int 12, .int 12, .int 12, .int 12, .int 8, .int 0, .int 0, .int 0, .int 0, .int 0, .int 0, .int 10, .int 10, .int 10, .int 10, .int 10, .int 10, .int 10, .int 10, .int 10, .int 10, .int 10, .int 10, .int 10, .int 10, .int 10, .int 10, .int 10, .int 10, .int 10, .int 10, .int 10, .int 10, .int 10, .int 10, .int 10, .int 10, .int 0, .int 0, .int 0, .int 0, .int 8, .int 0, .int 10, .int 10, .int 10, .int 10, .int 10, .int 10, .int 10, .int 10, .int 10, .int 10, .int 10, .int 10, .int 10, .int 10, .int 10, .int 10, .int 10, .int 10, .int 10, .int 10, .int 10, .int 10, .int 10, .int 10, .int 10, .int 10, .int 0, .int 0, .int 0, .int 0, .int 0], vm := .none }]
def classes : Array Class := #[k0, k1, k2, k3, k4, k5, k6, k7, k8]
def interned : List (Array UInt16 × Addr) := []
def slotsUsed : Nat := 134
def theMethod : MethodId := ⟨1, 2⟩
def args0 : Array Value := #[.int 5, .int 6]
def aboutOver (below : List Frame) : State where
  vm := { classes := classes, interned := interned.toArray }
  heap := heap
  slotsUsed := slotsUsed
  threads := #[{ frames := .invoking theMethod args0 :: below }]
def below0 : List Frame := [.native { method := ⟨0, 0⟩, args := #[] }]
def about1 : State := aboutOver below0
def p0 : Program := .bare "" "" ""
def e0 : Env := launch0.env 0 0 0
theorem w_frames : about1.frames = Frame.invoking theMethod args0 :: below0 := rfl
set_option maxRecDepth 65536 in
theorem w_args : argsFit about1.vm theMethod args0 = true := by decide +kernel
set_option maxRecDepth 65536 in
theorem w_heap : heapFits about1 = true := by decide +kernel
set_option maxRecDepth 65536 in
theorem w_runnable : about1.curStatus? = some .runnable := by decide +kernel
set_option maxRecDepth 65536 in
theorem w_alone : about1.alone = true := by decide +kernel
set_option maxRecDepth 65536 in
theorem w_named : about1.methodNamed? x = some theMethod := by decide +kernel
set_option maxRecDepth 65536 in
theorem w_hears : about1.hears theMethod below0 = true := by decide +kernel
set_option maxRecDepth 65536 in
theorem w_ripe : about1.ripe theMethod args0 below0 = true := by decide +kernel
theorem w_running : about1.status = .running := rfl
set_option maxRecDepth 65536 in
theorem w_room : about1.hasRoom e0.platform room_1 = true :=
  launch0.hasRoom_least _ room_1 (by decide +kernel) (by decide +kernel) (by decide +kernel) (by decide +kernel) (by decide +kernel) (by decide +kernel)
theorem allAtoms_all (ts : List Jvm.Cond) (a : Array Jvm.Value) (st : Jvm.State) : (allAtoms ts).before a st = ts.all (fun c => c.before a st) := by
  induction ts with
  | nil => rfl
  | cons c t ih =>
    show (Jvm.Cond.and c (allAtoms t)).before a st = _
    rw [Jvm.Cond.before_and, ih, List.all_cons]
def words1 : List Jvm.Cond := Jvm.Cond.code x code maxLocals ret :: tables_1
/-- a 'code' word, met by the world's own term for the bytes: nothing is compared byte by byte -/
theorem code_word {y : MethodName} {bytes : ByteArray} {mx : Nat} {rt : Option FieldType} {a : Array Value} {s : State} {m : MethodId} {meth : Method} {c : Code} (h1 : s.methodNamed? y = some m) (h2 : s.vm.method? m = some meth) (h3 : meth.code = some c) (h4 : c.code = bytes)
    (h5 : (c.maxLocals == mx && c.exceptionTable.isEmpty && decide (c.maxStack ≤ mostOperands) && decide (meth.sig.returnType = rt) && !meth.locks && decide (parseMethodDescriptor y.desc = some meth.sig)) = true) : (Jvm.Cond.code y bytes mx rt).before a s = true := by
  simp only [Bool.and_eq_true, beq_iff_eq, Bool.not_eq_true', decide_eq_true_eq] at h5
  obtain ⟨⟨⟨⟨⟨g1, g2⟩, g3⟩, g4⟩, g5⟩, g6⟩ := h5
  simp [Cond.before, Cond.holds, Cond.value, h1, h2, h3, h4, g1, g2, g3, g4, g5, g6]
def isCode : Jvm.Cond → Bool
  | .code _ _ _ _ => true
  | _ => false
theorem all_split {L : List Jvm.Cond} {P : Jvm.Cond → Bool} (h1 : L.all (fun c => isCode c || P c) = true) (h2 : ∀ c ∈ L.filter isCode, P c = true) : L.all P = true := by
  refine List.all_eq_true.mpr fun c hc => ?_
  have h := List.all_eq_true.mp h1 c hc
  rcases Bool.eq_false_or_eq_true (isCode c) with hi | hi
  · exact h2 c (List.mem_filter.mpr ⟨hc, hi⟩)
  · simpa [hi] using h
set_option maxRecDepth 65536 in
theorem w_c0 : (Jvm.Cond.code x code maxLocals ret).before args0 about1 = true := code_word (m := ⟨1, 2⟩) (meth := k1m2) (c := k1c2) (by decide +kernel) rfl rfl rfl (by decide +kernel)
set_option maxRecDepth 65536 in
theorem w_c1 : (Jvm.Cond.code ({ cls := "com/example/tagloom/tagloom/Chars", name := "isNameChar", desc := "(C)Z" } : Jvm.MethodName) prog_6_method_5_code (1 : Nat) (Option.some Jvm.ClassFile.FieldType.boolean)).before args0 about1 = true := code_word (m := ⟨2, 1⟩) (meth := k2m1) (c := k2c1) (by decide +kernel) rfl rfl rfl (by decide +kernel)
set_option maxRecDepth 65536 in
theorem w_c2 : (Jvm.Cond.code ({ cls := "com/example/tagloom/tagloom/CharsIsNameCharPinLaw", name := "expected", desc := "(C)Z" } : Jvm.MethodName) method_2_code (1 : Nat) (Option.some Jvm.ClassFile.FieldType.boolean)).before args0 about1 = true := code_word (m := ⟨1, 1⟩) (meth := k1m1) (c := k1c1) (by decide +kernel) rfl rfl rfl (by decide +kernel)
def codes1 : List Jvm.Cond := [Jvm.Cond.code x code maxLocals ret, Jvm.Cond.code ({ cls := "com/example/tagloom/tagloom/Chars", name := "isNameChar", desc := "(C)Z" } : Jvm.MethodName) prog_6_method_5_code (1 : Nat) (Option.some Jvm.ClassFile.FieldType.boolean), Jvm.Cond.code ({ cls := "com/example/tagloom/tagloom/CharsIsNameCharPinLaw", name := "expected", desc := "(C)Z" } : Jvm.MethodName) method_2_code (1 : Nat) (Option.some Jvm.ClassFile.FieldType.boolean)]
set_option maxRecDepth 65536 in
theorem codes_eq : words1.filter isCode = codes1 := rfl
theorem w_codes : ∀ c ∈ words1.filter isCode, c.before args0 about1 = true := by
  rw [codes_eq]
  intro c hc
  simp only [codes1, List.mem_cons, List.not_mem_nil, or_false] at hc
  rcases hc with rfl | rfl | rfl
  · exact w_c0
  · exact w_c1
  · exact w_c2
set_option maxRecDepth 65536 in
theorem w_t1 : words1.all (fun c => isCode c || c.before args0 about1) = true := by decide +kernel
theorem w_tables : (allAtoms (Jvm.Cond.code x code maxLocals ret :: tables_1)).before args0 about1 = true := by
  rw [allAtoms_all]
  show words1.all (fun c => c.before args0 about1) = true
  refine all_split ?_ w_codes
  rw [w_t1]
set_option maxRecDepth 65536 in
theorem w_case : (Jvm.Cond.and given_1 narrow_1).before args0 about1 = true := by decide +kernel
theorem w_applies : (headSpec (Jvm.Cond.code x code maxLocals ret :: tables_1) room_1).applies x e0.platform about1 = true :=
  (Spec.applies_iff w_frames).mpr ⟨w_running, w_runnable, w_alone, w_named, w_hears, w_ripe, w_room, w_tables⟩
theorem atStart : AtStart classFile x code maxLocals ret World_1 tables_1 room_1 Calls_1 rest_1 Pre_1 launch0 p0 e0 about1 theMethod args0 below0 :=
  ⟨lists_1, trivial, launch0.admits_env _ _ _, launch0.least_env, fairChoices_fair.cas, fairChoices_fair.clock, w_frames, w_args, w_heap, w_applies, trivial, trivial, w_case⟩
end start1
theorem witness_1 : WitnessClaimed_1 := ⟨start1.p0, start1.e0, start1.about1, start1.theMethod, start1.args0, start1.below0, start1.atStart⟩
end Jvm.Pilot.@@N@@
